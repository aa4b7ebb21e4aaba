import JvmDerived
import JvmDerived.Pilot.@@N@@Statement
import JvmDerived.Pilot.@@N@@Code
set_option linter.unusedVariables false
set_option linter.unusedSimpArgs false
namespace Jvm.RoadKit
open Sem ClassFile Op Lib Jvm.Stand Jvm.Free Jvm.LawKit
section New
variable {p : Program} {l : Launch} {e : Env} {R : Room} {s : State} {m : MethodId} {args : Array Value} {below : List Frame} {meth : Method} {c : Code} {T : State} {locs : List Loc} {cells slots : Nat}
theorem retI (X : Stand p l e R s m args below meth c T locs cells slots) (hx : p.tables.exec = Jvm.exec) {pc : Nat} {Ls : Array Slot} {z : Int32} {rest : List Value} (hret : meth.sig.returnType = some .int) (hd : decode c.code pc = .ok (.ireturn, 1)) {fs : List Frame}
    (hl : ∀ (f : JFrame) (acts : List Action), f.method = m → f.locked = none → f.entered = [] → (doReturn e (T.setTop f) acts (some (.int z))).1 = T.setFrames fs) : Steps p.tables e below (T.setTop (mkF m pc Ls (.int z :: rest))) (T.setFrames fs) := by
  have hm' : T.vm.method? m = some meth := X.method'
  have hn : narrow .int (.int z) = .int z := rfl
  show Steps p.tables e below (T.setTop { method := m, pc := pc, locals := Ls, stack := _ :: rest, locked := none }) _
  jvm_step X.here [X.here.top, hx, hd, hm', hret, hn]
  first | (intro acts; rw [hl _ acts rfl rfl rfl]) | rw [hl _ _ rfl rfl rfl]
  exact Steps.refl _
end New
end Jvm.RoadKit
/- laws to paste: Road.lenW, pair_says, lo8_mask, shr0 (cut by pick.py; bodies as the Statement names them) -/
namespace Jvm.Pilot.@@N@@
namespace StrChars
open Jvm Sem ClassFile Op Lib Jvm.Stand Jvm.Free.XT Jvm.Free.ALB Jvm.Free.JM Jvm.Free
open Jvm.Lib.Cold (StaticIs)
/-- the byte that i2b leaves of a char -/
def lo8 (x : Int32) : Int32 := x.toInt8.toInt32
def U16 : String := "java/lang/StringUTF16"
namespace Cmp5
def yN : MethodName := ⟨"java/lang/StringUTF16", "compress", "([CI[BII)I"⟩
abbrev yB : ByteArray := jdk_52_method_21_code
end Cmp5
namespace Cmp3
def yN : MethodName := ⟨"java/lang/StringUTF16", "compress", "([CII)[B"⟩
abbrev yB : ByteArray := jdk_52_method_16_code
end Cmp3
namespace CodL
def yN : MethodName := ⟨"java/lang/StringUTF16", "coderFromArrayLen", "([BI)B"⟩
abbrev yB : ByteArray := jdk_52_method_15_code
end CodL
namespace New4
def yN : MethodName := ⟨"java/lang/String", "<init>", "([CIILjava/lang/Void;)V"⟩
abbrev yB : ByteArray := jdk_42_method_149_code
end New4
namespace New1
def yN : MethodName := ⟨"java/lang/String", "<init>", "([C)V"⟩
abbrev yB : ByteArray := jdk_42_method_3_code
end New1
/-- the byte, read back as charAt reads it, is the char -/
theorem lo8_mask {x : Int32} (h0 : ¬ x < 0) (h1 : ¬ 255 < x) : lo8 x &&& 255 = x := by
  have t : ∀ k : Fin 256, lo8 (Int32.ofNat k.val) &&& 255 = Int32.ofNat k.val := by decide +kernel
  rw [Int32.lt_iff_toInt_lt] at h0 h1
  have e0 : (0 : Int32).toInt = 0 := rfl
  have e1 : (255 : Int32).toInt = 255 := rfl
  obtain ⟨k, hk⟩ : ∃ k : Nat, x.toInt = k := ⟨x.toInt.toNat, by omega⟩
  have hx : x = Int32.ofNat k := Int32.toInt_inj.mp (by rw [hk, Int32.toInt_ofNat_small (by omega)])
  rw [hx]
  exact t ⟨k, by omega⟩
end StrChars
namespace StrChars.Road
open Jvm Sem ClassFile Op Lib Jvm.Stand Jvm.Free Jvm.Free.XT
open Jvm.Lib.Cold (StaticIs)
abbrev ST : String := "java/lang/String"
/-- every table word that New1's law asks, flat -/
abbrev words : List Jvm.Cond := [.code New1.yN New1.yB 2 none, .initialized ST, .methodLink ST 27 New4.yN, .instanceMethod New4.yN,
  .code New4.yN New4.yB 6 none, .fieldLink ST 38 ST "COMPACT_STRINGS" "Z", .laysFinal ST ST "value" "[B", .fieldLink ST 9 ST "value" "[B", .laysFinal ST ST "coder" "B", .fieldLink ST 15 ST "coder" "B",
  .methodLink ST 1 Lib.objectInit, .instanceMethod Lib.objectInit, .code Lib.objectInit ⟨#[0xb1]⟩ 1 none, .methodLink ST 177 Cmp3.yN, .static Cmp3.yN, .methodLink ST 47 CodL.yN, .static CodL.yN,
  .code Cmp3.yN Cmp3.yB 6 (some (.array .byte)), .initialized U16, .arrayClass .byte, .methodLink U16 115 Cmp5.yN, .static Cmp5.yN, .code Cmp5.yN Cmp5.yB 7 (some .int), .code CodL.yN CodL.yB 2 (some .byte)]
end StrChars.Road
namespace StrChars
open Jvm Sem ClassFile Op Lib Jvm.Stand Jvm.Free.XT Jvm.Free.ALB Jvm.Free.JM Jvm.Free
open Jvm.Lib.Cold (StaticIs)
def hi8 (x : Int32) : Int32 := lo8 (x >>> ((8 : Int32) &&& 31))
/-- what StringUTF16.getChar makes of two bytes -/
def pairCh (u v : Int32) : Int32 := (((u &&& 255) <<< ((0 : Int32) &&& 31)) ||| ((v &&& 255) <<< ((8 : Int32) &&& 31))).toUInt32.toUInt16.toUInt32.toInt32
theorem shr0 (c : Int32) : c >>> ((0 : Int32) &&& 31) = c := by
  have e : ((0 : Int32) &&& 31) = 0 := by decide
  rw [e]
  apply Int32.toBitVec_inj.mp
  rw [Int32.toBitVec_shiftRight]
  have e1 : ((0 : Int32).toBitVec.smod 32) = 0#32 := by decide
  rw [e1, BitVec.sshiftRight_eq']
  exact BitVec.sshiftRight_zero
theorem lo8_and (x : Int32) : (lo8 x &&& 255).toBitVec.toNat = x.toBitVec.toNat % 256 := by
  have h : (lo8 x).toBitVec = (x.toBitVec.signExtend 8).signExtend 32 := by rw [lo8, Int8.toBitVec_toInt32, Int32.toBitVec_toInt8]
  rw [Int32.toBitVec_and, BitVec.toNat_and, h]
  have e : ((x.toBitVec.signExtend 8).signExtend 32).toNat % 256 = x.toBitVec.toNat % 256 := by
    rw [BitVec.toNat_signExtend]
    have hlt := x.toBitVec.isLt
    simp only [BitVec.toNat_setWidth, BitVec.toNat_signExtend]
    split <;> split <;> omega
  rw [← e]
  exact Nat.and_two_pow_sub_one_eq_mod _ 8
theorem pair_says {c : Int32} (h0 : ¬ c < 0) (h1 : ¬ 65535 < c) : pairCh (lo8 c) (hi8 c) = c := by
  rw [Int32.lt_iff_toInt_lt] at h0 h1
  have e0 : (0 : Int32).toInt = 0 := rfl
  have e1 : (65535 : Int32).toInt = 65535 := rfl
  have hc : c.toInt = c.toBitVec.toNat := by
    have := c.toBitVec.isLt
    have e : c.toInt = c.toBitVec.toInt := rfl
    rw [e] at h0 h1
    rw [e]
    rw [BitVec.toInt_eq_toNat_cond] at h0 h1 ⊢
    split at h0 <;> split <;> omega
  have hn : c.toBitVec.toNat < 65536 := by omega
  have a1 := lo8_and c
  have a2 : (hi8 c &&& 255).toBitVec.toNat = c.toBitVec.toNat / 256 := by
    rw [hi8, lo8_and]
    have e : ((8 : Int32) &&& 31) = 8 := by decide
    rw [e, Int32.toBitVec_shiftRight]
    have e2 : ((8 : Int32).toBitVec.smod 32) = 8#32 := by decide
    rw [e2, BitVec.sshiftRight_eq', BitVec.toNat_sshiftRight_of_msb_false (by rw [BitVec.msb_eq_false_iff_two_mul_lt]; omega)]
    show c.toBitVec.toNat >>> 8 % 256 = _
    rw [Nat.shiftRight_eq_div_pow]
    omega
  unfold pairCh
  apply Int32.toBitVec_inj.mp
  apply BitVec.eq_of_toNat_eq
  have f0 : ((0 : Int32) &&& 31) = 0 := by decide
  have f8 : ((8 : Int32) &&& 31) = 8 := by decide
  rw [f0, f8]
  have g : (((lo8 c &&& 255) <<< (0 : Int32)) ||| ((hi8 c &&& 255) <<< (8 : Int32))).toBitVec.toNat = c.toBitVec.toNat := by
    rw [Int32.toBitVec_or, Int32.toBitVec_shiftLeft, Int32.toBitVec_shiftLeft]
    have s0 : ((0 : Int32).toBitVec.smod 32) = 0#32 := by decide
    have s8 : ((8 : Int32).toBitVec.smod 32) = 8#32 := by decide
    rw [s0, s8, BitVec.toNat_or]
    simp only [BitVec.shiftLeft_eq', BitVec.toNat_shiftLeft, a1, a2]
    show (c.toBitVec.toNat % 256) <<< 0 % 2 ^ 32 ||| (c.toBitVec.toNat / 256) <<< 8 % 2 ^ 32 = _
    rw [Nat.shiftLeft_zero, Nat.mod_eq_of_lt (show c.toBitVec.toNat % 256 < 2 ^ 32 by omega), Nat.mod_eq_of_lt (show (c.toBitVec.toNat / 256) <<< 8 < 2 ^ 32 by rw [Nat.shiftLeft_eq]; omega), Nat.or_comm, ← Nat.shiftLeft_add_eq_or_of_lt (by omega), Nat.shiftLeft_eq]
    omega
  show BitVec.toNat (((((lo8 c &&& 255) <<< (0 : Int32)) ||| ((hi8 c &&& 255) <<< (8 : Int32))).toBitVec.setWidth 16).setWidth 32) = _
  rw [BitVec.toNat_setWidth, BitVec.toNat_setWidth, g]
  omega
end StrChars
namespace StrChars
open Jvm Sem ClassFile Op Lib Jvm.Stand Jvm.Free.XT Jvm.Free.ALB Jvm.Free.JM Jvm.Free
open Jvm.Lib.Cold (StaticIs)
theorem shr1 {n : Nat} (h : 2 * n < 2 ^ 31) : Int32.ofNat (2 * n) >>> ((1 : Int32) &&& 31) = Int32.ofNat n := by
  have e : ((1 : Int32) &&& 31) = 1 := by decide
  rw [e]
  apply Int32.toBitVec_inj.mp
  rw [Int32.toBitVec_shiftRight]
  have e1 : ((1 : Int32).toBitVec.smod 32) = 1#32 := by decide
  have hm : (BitVec.ofNat 32 (2 * n)).toNat = 2 * n := by rw [BitVec.toNat_ofNat, Nat.mod_eq_of_lt (by omega)]
  rw [e1, BitVec.sshiftRight_eq']
  apply BitVec.eq_of_toNat_eq
  show ((BitVec.ofNat 32 (2 * n)).sshiftRight 1).toNat = (BitVec.ofNat 32 n).toNat
  rw [BitVec.toNat_sshiftRight_of_msb_false (by rw [BitVec.msb_eq_false_iff_two_mul_lt, hm]; omega), hm, BitVec.toNat_ofNat, Nat.shiftRight_eq_div_pow]
  omega
/-- the array's cell V codes the n chars f 0 .. f (n - 1) by the coder cd, as the JDK does: coder 1 just where some char is above 255 -/
def Cod (cd : Int32) (n : Nat) (f : Nat → Int32) (V : Cell) : Prop := (cd = 0 ∧ V.slots.size = n ∧ ∀ j, j < n → V.slots[j]? = some (.int (lo8 (f j))) ∧ ¬ 255 < f j) ∨ (cd = 1 ∧ V.slots.size = 2 * n ∧ (∀ j, j < n → V.slots[2 * j]? = some (.int (lo8 (f j))) ∧ V.slots[2 * j + 1]? = some (.int (hi8 (f j)))) ∧ ∃ j, j < n ∧ 255 < f j)
theorem Cod.cd {cd : Int32} {n : Nat} {f : Nat → Int32} {V : Cell} (h : Cod cd n f V) : cd = 0 ∨ cd = 1 := h.imp (fun q => q.1) fun q => q.1
theorem Cod.len {cd : Int32} {n : Nat} {f : Nat → Int32} {V : Cell} (h : Cod cd n f V) (hs : V.slots.size < 2 ^ 31) : Int32.ofNat V.slots.size >>> (cd &&& 31) = Int32.ofNat n := by
  rcases h with ⟨rfl, h, -⟩ | ⟨rfl, h, -⟩
  · rw [shr0, h]
  · rw [h, shr1 (by omega)]
/-- **x is a String of the n chars f 0 .. f (n - 1)**, Latin-1 or UTF-16; its array at t has the cell V -/
def Txt (x t : Addr) (V : Cell) (cd : Int32) (n : Nat) (f : Nat → Int32) (U : State) : Prop := Exact "java/lang/String" x U ∧ Has x "java/lang/String" "value" "[B" (.ref t) U ∧ Has x "java/lang/String" "coder" "B" (.int cd) U ∧ XT.Arr .byte t V U ∧ Cod cd n f V ∧ ∀ j, j < n → ¬ f j < 0 ∧ ¬ 65535 < f j
theorem Txt.mv {x t : Addr} {V : Cell} {cd : Int32} {n : Nat} {f : Nat → Int32} {U U' : State} (h : Txt x t V cd n f U) (hal : U.vm.Alike U'.vm) (hh : U'.heap = U.heap) : Txt x t V cd n f U' := ⟨h.1.mv hal hh, h.2.1.mv hal hh, h.2.2.1.mv hal hh, h.2.2.2.1.mv hal hh, h.2.2.2.2⟩
namespace Cdr
def yN : MethodName := ⟨"java/lang/String", "coder", "()B"⟩
abbrev yB : ByteArray := jdk_42_method_152_code
theorem d0 : decode yB 0 = .ok (.getstatic 38, 3) := by decide +kernel
theorem d3 : decode yB 3 = .ok (.ifCond (.eq) 10, 3) := by decide +kernel
theorem d6 : decode yB 6 = .ok (.aload_n 0, 1) := by decide +kernel
theorem d7 : decode yB 7 = .ok (.getfield 15, 3) := by decide +kernel
theorem d10 : decode yB 10 = .ok (.goto 4, 3) := by decide +kernel
theorem d14 : decode yB 14 = .ok (.ireturn, 1) := by decide +kernel
def site : List Cond := [.fieldLink "java/lang/String" 38 "java/lang/String" "COMPACT_STRINGS" "Z", .fieldLink "java/lang/String" 15 "java/lang/String" "coder" "B"]
def tab : Cond := tabOf yN yB 1 (some .byte) site
def P (x : Addr) (cd z : Int32) (args : Array Value) (s : State) : Prop := args = #[.ref x] ∧ Has x "java/lang/String" "coder" "B" (.int cd) s ∧ (cd = 0 ∨ cd = 1) ∧ StaticIs s "java/lang/String" "COMPACT_STRINGS" "Z" (.int z) ∧ ¬ z = 0
def E (cd : Int32) (r : Option Value) (s u : State) : Prop := XT.PureE (some (.int cd)) r s u
theorem law (l : Launch) (x : Addr) (cd z : Int32) : Law l yN 1 0 0 0 yB 1 (some .byte) site (P x cd z) (E cd) [] 0 0 := by
  refine Law.of_walk (plainFor_of_name (by decide +kernel)) (by decide +kernel) (by decide +kernel) (by decide) (fun _ _ h => by rw [h.1]; rfl) (fun _ U U' hal hh h => ⟨h.1, h.2.1.mv hal hh, h.2.2.1, h.2.2.2.1.there hal hh, h.2.2.2.2⟩) (fun r U U' V V' h1 hal h2 h => XT.PureE.mv r U U' V V' h1 hal h2 h) ?_
  intro p e s m args below meth c s₁ X0 hexec hbytes hml hret hlk hnm hown hh0 W hP
  obtain ⟨rfl, hx, hc, s1, hz⟩ := hP
  have c1 : Steps p.tables e below (s₁.setTop (entryFrame m #[.ref x] 1)) (s₁.setTop (mkF m 0 #[.val (.ref x)] [])) := entry rfl
  obtain ⟨T2, X2, q2, st2⟩ := X0.sget hexec hown (wk W (.fieldLink "java/lang/String" 38 "java/lang/String" "COMPACT_STRINGS" "Z")) s1 (fun _ _ h => by rw [hh0]; exact h) (g := (mkF m 0 #[.val (.ref x)] [])) rfl (hb hbytes d0)
  have hh2 := q2.trans hh0
  have c3 : Steps p.tables e below (s₁.setTop (entryFrame m #[.ref x] 1)) (T2.setTop (mkF m 7 #[.val (.ref x)] [.ref x])) := (c1.trans (st2 _ (Steps.refl _))).trans (by
    refine XS.ifNo X2.here hexec rfl (hb hbytes d3) rfl (i0_eq_f hz) ?_
    refine XS.aloadN X2.here hexec rfl (hb hbytes d6) rfl rfl ?_
    exact Steps.refl _)
  obtain ⟨T4, X4, q4, st4⟩ := X2.hget hexec hown (wk W (.fieldLink "java/lang/String" 15 "java/lang/String" "coder" "B")) (hx.mv X2.warmed.alike hh2) (g := (mkF m 7 #[.val (.ref x)] [.ref x])) rfl (rest := []) rfl (hb hbytes d7)
  have c5 : Steps p.tables e below (s₁.setTop (entryFrame m #[.ref x] 1)) (T4.setTop (mkF m 14 #[.val (.ref x)] [.int cd])) := (c3.trans (st4 _ (Steps.refl _))).trans (by
    refine XS.goto X4.here hexec rfl (pc0 := 10) rfl (hb hbytes d10) (by decide) rfl ?_
    exact Steps.refl _)
  exact ⟨T4, some (.int cd), _, _, _, X4, rfl, rfl, rfl, (fun h => by cases h), ⟨rfl, q4.trans hh2⟩, fun fs hl => c5.trans (X4.ireturnOut hexec hret (by rcases hc with rfl | rfl <;> rfl) (Or.inr (Or.inr (Or.inl rfl))) (hb hbytes d14) hl)⟩
end Cdr
namespace Len
def yN : MethodName := ⟨"java/lang/String", "length", "()I"⟩
abbrev yB : ByteArray := jdk_42_method_54_code
theorem d0 : decode yB 0 = .ok (.aload_n 0, 1) := by decide +kernel
theorem d1 : decode yB 1 = .ok (.getfield 9, 3) := by decide +kernel
theorem d4 : decode yB 4 = .ok (.arraylength, 1) := by decide +kernel
theorem d5 : decode yB 5 = .ok (.aload_n 0, 1) := by decide +kernel
theorem d6 : decode yB 6 = .ok (.invokevirtual 335, 3) := by decide +kernel
theorem d9 : decode yB 9 = .ok (.ishr, 1) := by decide +kernel
theorem d10 : decode yB 10 = .ok (.ireturn, 1) := by decide +kernel
def site : List Cond := [.fieldLink "java/lang/String" 9 "java/lang/String" "value" "[B", Cdr.tab] ++ virtW "java/lang/String" 335 "java/lang/String" Cdr.yN Cdr.yN
def tab : Cond := tabOf yN yB 1 (some .int) site
def P (x t : Addr) (V : Cell) (cd : Int32) (n : Nat) (f : Nat → Int32) (z : Int32) (args : Array Value) (s : State) : Prop := args = #[.ref x] ∧ Txt x t V cd n f s ∧ StaticIs s "java/lang/String" "COMPACT_STRINGS" "Z" (.int z) ∧ ¬ z = 0
def E (n : Nat) (r : Option Value) (s u : State) : Prop := XT.PureE (some (.int (Int32.ofNat n))) r s u
/-- length() of a String of n chars, in either coding -/
theorem law (l : Launch) (x t : Addr) (V : Cell) (cd : Int32) (n : Nat) (f : Nat → Int32) (z : Int32) : Law l yN 1 0 1 13 yB 1 (some .int) site (P x t V cd n f z) (E n) [] 0 0 := by
  refine Law.of_walk (plainFor_of_name (by decide +kernel)) (by decide +kernel) (by decide +kernel) (by decide) (fun _ _ h => by rw [h.1]; rfl) (fun _ U U' hal hh h => ⟨h.1, h.2.1.mv hal hh, h.2.2.1.there hal hh, h.2.2.2⟩) (fun r U U' V V' h1 hal h2 h => XT.PureE.mv r U U' V V' h1 hal h2 h) ?_
  intro p e s m args below meth c s₁ X0 hexec hbytes hml hret hlk hnm hown hh0 W hP
  obtain ⟨rfl, hx, s1, hz⟩ := hP
  have v31 := hx.2.2.2.1.2.2.2
  have c1 : Steps p.tables e below (s₁.setTop (entryFrame m #[.ref x] 1)) (s₁.setTop (mkF m 1 #[.val (.ref x)] [.ref x])) := Steps.trans (entry rfl) (by
    show Steps p.tables e below (s₁.setTop (mkF m 0 #[.val (.ref x)] [])) _
    refine XS.aloadN X0.here hexec rfl (hb hbytes d0) rfl rfl ?_
    exact Steps.refl _)
  obtain ⟨T2, X2, q2, st2⟩ := X0.hget hexec hown (wk W (.fieldLink "java/lang/String" 9 "java/lang/String" "value" "[B")) (hx.mv X0.warmed.alike hh0).2.1 (g := (mkF m 1 #[.val (.ref x)] [.ref x])) rfl (rest := []) rfl (hb hbytes d1)
  have hh2 := q2.trans hh0
  have hx2 := hx.mv X2.warmed.alike hh2
  have c3 : Steps p.tables e below (s₁.setTop (entryFrame m #[.ref x] 1)) (T2.setTop (mkF m 6 #[.val (.ref x)] [.ref x, .int (Int32.ofNat V.slots.size)])) := (c1.trans (st2 _ (Steps.refl _))).trans (by
    refine X2.alen hexec hx2.2.2.2.1 rfl rfl (hb hbytes d4) ?_
    refine XS.aloadN X2.here hexec rfl (hb hbytes d5) rfl rfl ?_
    exact Steps.refl _)
  obtain ⟨v4, T4, X4, E4, g4⟩ := X2.callV hexec (Cdr.law l x cd z) hown (wks W (virtW "java/lang/String" 335 "java/lang/String" Cdr.yN Cdr.yN)) rfl (by decide) (wk W Cdr.tab) (W := 1) (Nat.le_of_ble_eq_true rfl) (Nat.le_of_ble_eq_true rfl) (Nat.le_refl _) (Nat.le_refl _) (hx2.1.fc X2.warmed.alike) hx2.1.is (g := (mkF m 6 #[.val (.ref x)] [.ref x, .int (Int32.ofNat V.slots.size)])) rfl (by rw [hml]; rfl) c3 (argsL := []) (rest := [.int (Int32.ofNat V.slots.size)]) rfl rfl (by show 2 * 0 + (1 + 0) ≤ _; decide) (hb hbytes d6) (⟨rfl, hx2.2.2.1, hx.2.2.2.2.1.cd, s1.there X2.warmed.alike hh2, hz⟩)
  obtain ⟨rfl, q4⟩ := E4
  have c5 : Steps p.tables e below (s₁.setTop (entryFrame m #[.ref x] 1)) (T4.setTop (mkF m 10 #[.val (.ref x)] [.int (Int32.ofNat V.slots.size >>> (cd &&& 31))])) := Steps.trans g4 (by
    refine ishr X4.here hexec rfl (hb hbytes d9) rfl ?_
    exact Steps.refl _)
  rw [hx.2.2.2.2.1.len v31] at c5
  exact ⟨T4, some (.int (Int32.ofNat n)), _, _, _, X4, rfl, rfl, rfl, (fun h => by cases h), ⟨rfl, q4.trans hh2⟩, fun fs hl => c5.trans (X4.ireturnOut hexec hret rfl (Or.inl rfl) (hb hbytes d10) hl)⟩
theorem pays {l : Launch} {R : Room} {p : Program} {e : Env} {below : List Frame} {s : State} {sargs : Array Value} {len W : Nat} (x t : Addr) (V : Cell) (cd : Int32) (n : Nat) (f : Nat → Int32) (z : Int32) (htab : tab.before sargs s = true) (hfr : 2 ≤ R.frames) (hlo : W + 25 ≤ R.locals) :
    Back l R p e below s sargs yN len W (fun A₁ a₁ => A₁.cells + 0 ≤ R.cells ∧ A₁.slots + 0 ≤ R.slots ∧ P x t V cd n f z a₁ A₁.U) (fun A₁ _ v₁ B₁ => E n v₁ A₁.U B₁.U ∧ B₁.locs = A₁.locs ++ [] ∧ B₁.cells = A₁.cells + 0 ∧ B₁.slots = A₁.slots + 0) :=
  (law l x t V cd n f z).pays htab hfr (by omega)
end Len
end StrChars
namespace StrChars.Road
open Jvm Sem ClassFile Op Lib Jvm.Stand Jvm.Free Jvm.Free.XT
open Jvm.Lib.Cold (StaticIs)
theorem consq {a : Array Value} {s : State} {c : Jvm.Cond} {L : List Jvm.Cond} (h0 : c.before a s = true) (h : ∀ w ∈ L, w.before a s = true) : ∀ w ∈ c :: L, w.before a s = true := fun w hw => (List.mem_cons.mp hw).elim (fun e => e ▸ h0) (h w)
/-- the words of String.length(), either coding -/
abbrev wordsLen : List Jvm.Cond := [.code Len.yN Len.yB 1 (some .int), .initialized ST, .fieldLink ST 9 ST "value" "[B", .fieldLink ST 38 ST "COMPACT_STRINGS" "Z", .fieldLink ST 15 ST "coder" "B", .code Cdr.yN Cdr.yB 1 (some .byte), .methodLink ST 335 Cdr.yN, .declares Cdr.yN, .selects ST Cdr.yN Cdr.yN, .instanceMethod Cdr.yN]
theorem tabLen_of {a : Array Value} {s : State} (h : ∀ w ∈ wordsLen, w.before a s = true) : Len.tab.before a s = true := by
  have hc : Cdr.tab.before a s = true := unparts (wk h (.code Cdr.yN Cdr.yB 1 (some .byte))) (wks h (.initialized Cdr.yN.cls :: Cdr.site))
  have q := consq hc h
  exact unparts (wk q (.code Len.yN Len.yB 1 (some .int))) (wks q (.initialized Len.yN.cls :: Len.site))
theorem movedLen {Z s : State} {a0 args : Array Value} (hZ : Z.Warmed39 s.vm) (hw : ∀ d ∈ wordsLen, d.before a0 Z = true) : ∀ d ∈ wordsLen, d.before args s = true := fun d hd => by
  have q := hw d hd
  have t : ∀ d ∈ wordsLen, d = .arrayClass .byte ∨ (d.onTables && d.keepsFace) = true := by decide +kernel
  rcases t d hd with rfl | t
  · exact RoadKit.mvA hZ q
  · exact RoadKit.mv hZ q t
/-- the bytes of the chars cs, low before high -/
def wideBytes : List Int32 → List Value
  | [] => []
  | c :: cs => .int (lo8 c) :: .int (hi8 c) :: wideBytes cs
theorem wide_lo (d : Value) : ∀ (cs : List Int32) (j : Nat), j < cs.length → (wideBytes cs).getD (2 * j) d = .int (lo8 (cs.getD j 0))
  | [], j, h => absurd h (Nat.not_lt_zero j)
  | c :: cs, 0, _ => rfl
  | c :: cs, j + 1, h => by
    have q := wide_lo d cs j (by simpa using h)
    rw [show 2 * (j + 1) = 2 * j + 1 + 1 from by omega]
    simpa [wideBytes] using q
theorem wide_hi (d : Value) : ∀ (cs : List Int32) (j : Nat), j < cs.length → (wideBytes cs).getD (2 * j + 1) d = .int (hi8 (cs.getD j 0))
  | [], j, h => absurd h (Nat.not_lt_zero j)
  | c :: cs, 0, _ => rfl
  | c :: cs, j + 1, h => by
    have q := wide_hi d cs j (by simpa using h)
    rw [show 2 * (j + 1) + 1 = 2 * j + 1 + 1 + 1 from by omega]
    simpa [wideBytes] using q
theorem low_at (d : Value) (cs : List Int32) (j : Nat) (h : j < cs.length) : (cs.map fun c => Value.int (lo8 c)).getD j d = .int (lo8 (cs.getD j 0)) := by
  simp [List.getD_eq_getElem?_getD, h]
/-- an array of N2 bytes vs codes the chars cs by the coder cd -/
def CodA (cs : List Int32) (cd N2 : Int32) (vs : List Value) : Prop := (cd = 0 ∧ N2 = Int32.ofNat cs.length ∧ vs = (cs.map fun c => Value.int (lo8 c)) ∧ ∀ c ∈ cs, ¬ 255 < c) ∨ (cd = 1 ∧ N2 = Int32.ofNat (2 * cs.length) ∧ vs = wideBytes cs ∧ ∃ c ∈ cs, 255 < c)
theorem CodA.cod {cs : List Int32} {cd N2 : Int32} {vs : List Value} {V : Cell} (h : CodA cs cd N2 vs) (hn : 2 * cs.length < 2 ^ 31) (hs : V.slots.size = N2.toNatClampNeg) (hv : RoadKit.Has V vs (.int 0)) : Cod cd cs.length (fun j => cs.getD j 0) V := by
  rcases h with ⟨rfl, rfl, rfl, h⟩ | ⟨rfl, rfl, rfl, c, hc, hw⟩
  · rw [n32 (by omega)] at hs
    exact Or.inl ⟨rfl, hs, fun j hj => ⟨by rw [hv j (by omega), low_at _ _ _ hj], by
      have e : cs.getD j 0 = cs[j] := by simp [List.getD_eq_getElem?_getD, hj]
      show ¬ 255 < cs.getD j 0
      rw [e]; exact h _ (List.getElem_mem _)⟩⟩
  · rw [n32 (by omega)] at hs
    obtain ⟨j, hj, rfl⟩ := List.getElem_of_mem hc
    exact Or.inr ⟨rfl, hs, fun j hj => ⟨by rw [hv _ (by omega), wide_lo _ _ _ hj], by rw [hv _ (by omega), wide_hi _ _ _ hj]⟩, j, hj, by
      have e : cs.getD j 0 = cs[j] := by simp [List.getD_eq_getElem?_getD, hj]
      show 255 < cs.getD j 0
      rw [e]; exact hw⟩
/-- an object of exactly java/lang/String, its two fields found: as the laws ask it -/
theorem strObj {Z U : State} {a0 : Array Value} {kI : Nat} (wi : (Jvm.Cond.instantiable ST kI).before a0 Z = true) (al : Z.vm.Alike U.vm) {x : Addr} {v0 c0 : Value} (E : RoadKit.Exa Z U.heap x ST) (V : RoadKit.Fld Z U.heap x ST "value" "[B" v0) (C : RoadKit.Fld Z U.heap x ST "coder" "B" c0) :
    ∃ (D : Cell) (fV fC : Field), Blank ST x D U ∧ Found ST "value" "[B" fV U ∧ Found ST "coder" "B" fC U ∧ D.slots[fV.slot]? = some v0 ∧ D.slots[fC.slot]? = some c0 ∧ RoadKit.slotOf Z ST "value" "[B" = fV.slot ∧ RoadKit.slotOf Z ST "coder" "B" = fC.slot := by
  obtain ⟨D, cfV, kV, iV, fV, hD, gV, stV, knV, obV, asV, slV⟩ := V
  obtain ⟨D', cfC, kC, iC, fC, hD', gC, stC, -, -, asC, slC⟩ := C
  cases hD.symm.trans hD'
  obtain ⟨D2, kD, e1, e2, e3, e4, e5⟩ := E
  cases hD.symm.trans e1
  obtain ⟨c2, k2, i1, i2, i3, -⟩ := Cond.instantiable_spec wi
  cases e2.symm.trans i1
  cases e3.symm.trans i2
  obtain ⟨kU, u1, u2⟩ := al.2.2 _ _ e3
  exact ⟨D, fV, fC, ⟨hD, ⟨knV, fun q hq => by rw [hq] at obV; cases obV⟩, by rw [al.findClass]; exact e2, kU, u1, by rw [u2]; exact i3, by rw [u2]; exact e5 i3⟩, ⟨SBG.found_only al ⟨cfV, kV, iV, gV⟩, stV⟩, ⟨SBG.found_only al ⟨cfC, kC, iC, gC⟩, stC⟩, slV, slC, by simp [RoadKit.slotOf, gV], by simp [RoadKit.slotOf, gC]⟩
theorem sta_is {Z U : State} (al : Z.vm.Alike U.vm) {C n d : String} {v : Value} (S : RoadKit.Sta Z U.heap C n d v) : StaticIs U C n d v := by
  obtain ⟨cfS, iS, kS, fS, st, cS, t1, t2, t3, t4, t5, t6, t7⟩ := S
  exact StaticIs.there (s := { Z with heap := U.heap }) ⟨cfS, iS, kS, fS, st, cS, t1, t2, t3, t4, t5, (fun q => by rw [q] at t6; cases t6), t7⟩ al rfl
/-- **length() OF SUCH A STRING** -/
theorem lenW {p : Program} {l : Launch} {e : Env} {R : Room} {s : State} {args : Array Value} {below : List Frame} {len W : Nat} {Z : State} {a0 : Array Value} {h : Heap} (hZ : Z.Warmed39 s.vm) (hw : ∀ d ∈ wordsLen, d.before a0 Z = true) {kI : Nat} (wi : (Jvm.Cond.instantiable ST kI).before a0 Z = true)
    {x t : Addr} {kb : ClassId} {cs : List Int32} {cd N2 z : Int32} {vs : List Value} (E : RoadKit.Exa Z h x ST) (V : RoadKit.Fld Z h x ST "value" "[B" (.ref t)) (C : RoadKit.Fld Z h x ST "coder" "B" (.int cd)) (K : RoadKit.Arv Z h t kb .byte N2 vs (.int 0)) (hc : CodA cs cd N2 vs) (hb : ∀ c ∈ cs, ¬ c < 0 ∧ ¬ (65535 : Int32) < c)
    (S : RoadKit.Sta Z h ST "COMPACT_STRINGS" "Z" (.int z)) (hz : ¬ z = 0) (l2 : cs.length ≤ 4000) (hfr : 2 ≤ R.frames) (hlo : W + 25 ≤ R.locals) :
    Back l R p e below s args (⟨"java/lang/String", "length", "()I"⟩ : MethodName) len W (fun P a => a = #[.ref x] ∧ P.U.heap = h ∧ P.cells + 0 ≤ R.cells ∧ P.slots + 0 ≤ R.slots)
      (fun P _ v B => ∃ L, (v = some (.int (Int32.ofNat cs.length)) ∧ L = [] ∧ B.U.heap = h) ∧ B.locs = P.locs ++ L ∧ B.cells = P.cells + 0 ∧ B.slots = P.slots + 0) := by
  obtain ⟨A, K1, K2, K3, K4, K5, K6⟩ := K
  have hcod := hc.cod (by omega) K3 K5
  intro m meth c P g ig mk a X hg hsize hdg hW hn hp'
  obtain ⟨rfl, rfl, r1, r2⟩ := hp'
  have al : Z.vm.Alike P.U.vm := hZ.alike.trans X.warmed.alike
  obtain ⟨D, fV, fC, hB, F1, F2, g1, g2, -, -⟩ := strObj wi al E V C
  have hx : Txt x t A cd cs.length (fun j => cs.getD j 0) P.U := ⟨⟨_, hB.2.2.1, D, hB.1, rfl, by cases q : D.vm <;> first | rfl | exact absurd q (hB.2.1.2 _)⟩, Has.of hB F1 g1, Has.of hB F2 g2, ⟨K1.1, State.isArrayOf_alike al K1.2.1, K1.2.2, by rcases hcod with ⟨-, q, -⟩ | ⟨-, q, -⟩ <;> omega⟩, hcod, fun j hj => by
    have e : cs.getD j 0 = cs[j] := by simp [List.getD_eq_getElem?_getD, hj]
    show ¬ cs.getD j 0 < 0 ∧ ¬ 65535 < cs.getD j 0
    rw [e]; exact hb _ (List.getElem_mem _)⟩
  obtain ⟨v, B, X', ⟨⟨hv, hh⟩, hl, hk, hs⟩, st⟩ := Len.pays x t A cd cs.length (fun j => cs.getD j 0) z (tabLen_of (movedLen hZ hw)) hfr hlo m meth c P g ig mk _ X hg hsize hdg hW hn ⟨r1, r2, rfl, hx, sta_is al S, hz⟩
  exact ⟨v, B, X', ⟨[], ⟨hv, rfl, hh⟩, hl, hk, hs⟩, st⟩
end StrChars.Road
end Jvm.Pilot.@@N@@
namespace Jvm.Pilot.@@N@@
open Jvm Jvm.ClassFile Sem Op Lib Jvm.Free Jvm.Stand Jvm.LawKit Jvm.RoadKit Bundle Jvm.Pilot.@@N@@.Jvm.D
abbrev mn_0 : MethodName := ⟨"com/example/webhook_guard/webhookguard/http/HeaderField", "equalsIgnoringAsciiCase", "(Ljava/lang/String;Ljava/lang/String;)Z"⟩
abbrev mn_1 : MethodName := ⟨"com/example/webhook_guard/webhookguard/http/HeaderField", "lowerAscii", "(C)C"⟩
abbrev mn_2 : MethodName := ⟨"com/example/webhook_guard/webhookguard/http/HeaderFieldEqualsIgnoringAsciiCasePinLaw", "derive", "(CIII)C"⟩
abbrev mn_3 : MethodName := ⟨"com/example/webhook_guard/webhookguard/http/HeaderFieldEqualsIgnoringAsciiCasePinLaw", "draw", "(II)C"⟩
abbrev mn_4 : MethodName := ⟨"com/example/webhook_guard/webhookguard/http/HeaderFieldEqualsIgnoringAsciiCasePinLaw", "mk", "(ICCC)Ljava/lang/String;"⟩
abbrev mn_5 : MethodName := ⟨"com/example/webhook_guard/webhookguard/http/HeaderFieldEqualsIgnoringAsciiCasePinLaw", "same", "(CC)Z"⟩
abbrev mn_7 : MethodName := ⟨"java/lang/String", "<init>", "([C)V"⟩
abbrev mn_8 : MethodName := ⟨"java/lang/String", "<init>", "([CIILjava/lang/Void;)V"⟩
abbrev mn_9 : MethodName := ⟨"java/lang/String", "charAt", "(I)C"⟩
abbrev mn_10 : MethodName := ⟨"java/lang/String", "checkIndex", "(II)V"⟩
abbrev mn_12 : MethodName := ⟨"java/lang/String", "isLatin1", "()Z"⟩
abbrev mn_13 : MethodName := ⟨"java/lang/String", "length", "()I"⟩
abbrev mn_14 : MethodName := ⟨"java/lang/StringLatin1", "charAt", "([BI)C"⟩
abbrev mn_15 : MethodName := ⟨"java/lang/StringUTF16", "charAt", "([BI)C"⟩
abbrev mn_16 : MethodName := ⟨"java/lang/StringUTF16", "checkIndex", "(I[B)V"⟩
abbrev mn_17 : MethodName := ⟨"java/lang/StringUTF16", "coderFromArrayLen", "([BI)B"⟩
abbrev mn_18 : MethodName := ⟨"java/lang/StringUTF16", "compress", "([CII)[B"⟩
abbrev mn_19 : MethodName := ⟨"java/lang/StringUTF16", "compress", "([CI[BII)I"⟩
abbrev mn_20 : MethodName := ⟨"java/lang/StringUTF16", "getChar", "([BI)C"⟩
abbrev mn_21 : MethodName := ⟨"java/lang/StringUTF16", "length", "([B)I"⟩
abbrev mn_22 : MethodName := ⟨"java/lang/StringUTF16", "newBytesFor", "(I)[B"⟩
abbrev mn_23 : MethodName := ⟨"java/lang/StringUTF16", "newBytesLength", "(I)I"⟩
abbrev mn_24 : MethodName := ⟨"java/lang/StringUTF16", "putChar", "([BII)V"⟩
abbrev mn_25 : MethodName := ⟨"java/lang/StringUTF16", "toBytes", "([CII)[B"⟩
abbrev mn_26 : MethodName := ⟨"jdk/internal/util/Preconditions", "checkIndex", "(IILjava/util/function/BiFunction;)I"⟩
abbrev Go (p : Program) (e : Env) (below : List Frame) (T : State) (g : JFrame) (u : State) : Prop := Steps p.tables e below (T.setTop g) u
abbrev vi (x : Int32) : Slot := .val (.int x)
abbrev vj (x : Int64) : Slot := .val (.long x)
abbrev vr (x : Addr) : Slot := .val (.ref x)
abbrev wi (x : Int32) : Value := .int x
abbrev wj (x : Int64) : Value := .long x
abbrev wr (x : Addr) : Value := .ref x
theorem tw {a0 : Array Value} {Z : State} (hw : ∀ d ∈ tables_1, d.before a0 Z = true) (i : Nat) {d : Cond} (h : tables_1[i]? = some d) : d.before a0 Z = true := hw d (List.mem_of_getElem? h)
theorem own_le {Z : State} {n0 : Nat} {h : Heap} (X : Old Z n0 h) : n0 ≤ h.size := X.1 ▸ X.2.1
theorem own_nm0 {a : Addr} : a ∉ ([] : List Addr) := List.not_mem_nil
theorem own_nmc {a x : Addr} {L : List Addr} (h : a ≠ x) (k : a ∉ L) : a ∉ x :: L := fun q => (List.mem_cons.mp q).elim h k
theorem own_arrK {Z : State} {h h' : Heap} {a : Addr} {c : Cell} {ty : FieldType} {ws : List Addr} (A : Arr Z h a c ty) (K : Keep h h' ws) (q : a ∉ ws) : Arr Z h' a c ty := ⟨K.2.1 _ _ A.1 q, A.2⟩
theorem own_since (s : State) : s.Since s.vm s.heap.size := ⟨State.Warmed39.refl s, by first | exact State.Booked.refl s | (intro j p h1 h2; exact absurd (Array.getElem?_eq_some_iff.mp h2).1 (Nat.not_lt.mpr h1))⟩
theorem own_str {a0 : Array Value} {Z : State} (hw : ∀ d ∈ tables_1, d.before a0 Z = true) : ∀ a ∈ Bundle.stringAtoms, a.before a0 Z = true := fun d hd => hw d ((by decide +kernel : ∀ d ∈ Bundle.stringAtoms, d ∈ tables_1) d hd)

abbrev ST : String := "java/lang/String"
theorem own_al {s : State} {vm : Vm} {n : Nat} (h : s.Since vm n) : s.vm.Alike vm := h.1.alike
theorem own_chr {Z s T : State} {EL : List (String × Nat)} {h0 H : Heap} (hh : s.heap = h0) (e : T.heap = H) (R : CHr Z EL s.vm h0 T.vm H) : CHr Z EL s.vm s.heap T.vm T.heap := by rw [hh, e]; exact R
theorem own_EL {a0 : Array Value} {Z : State} (hw : ∀ d ∈ tables_1, d.before a0 Z = true) : EW Z a0 consts_1 := EW.cons (hw _ (List.mem_of_getElem? (i := 40) rfl)) (by decide) EW.nil
theorem own_safeNull {Z : State} {EL : List (String × Nat)} {vm : Vm} {h : Heap} {x : Addr} (hal : Z.vm.Alike vm) (E : Exa Z h x ST) (F : Fld Z h x ST "value" "[B" .null) : Safe Z EL vm h x := fun B => by
  obtain ⟨cell, k, e1, e2, e3, -, -⟩ := E
  have nm : ∀ {n : String} {c : ClassId}, vm.findClass n = some c → c = cell.cls → n = ST := fun {n c} f e => by
    subst e
    rw [hal.findClass] at f
    obtain ⟨k1, q1, q2⟩ := Vm.findClass_spec f
    obtain ⟨k2, q3, q4⟩ := Vm.findClass_spec e2
    cases q1.symm.trans q3
    exact q2.symm.trans q4
  obtain ⟨p, -, u, a, -, q, -, G, rfl | rfl⟩ := B
  · obtain ⟨cell', cf, kf, i, f, h1, h2, -, -, -, -, h7⟩ := F
    cases (show h[q.sa]? = some q.sC from G.ha).symm.trans h1
    obtain ⟨cS, ⟨⟨-, -, -, ⟨c1, k1, i1, f1, -⟩, -, -, -, v1, -⟩, -⟩, -⟩ := G
    obtain ⟨k3, e4⟩ := ff_back (U := Wst Z vm h) hal f1
    have e5 := h2.symm.trans e4
    simp only [Option.some.injEq, Prod.mk.injEq] at e5
    rw [← e5.2.2.2, h7] at v1
    cases v1
  · cases (show h[q.sd]? = some q.SA from G.hd).symm.trans e1
    obtain ⟨cS, -, -, f, -⟩ := G
    exact absurd (nm f rfl) (by decide)
def ChB (x : Int32) : Prop := ¬ x < 0 ∧ ¬ (65535 : Int32) < x
theorem own_chI {x : Int32} : ChB x ↔ 0 ≤ x.toInt ∧ x.toInt < 65536 := by
  have e0 : (0 : Int32).toInt = 0 := rfl
  have e1 : (65535 : Int32).toInt = 65535 := rfl
  unfold ChB; rw [Int32.lt_iff_toInt_lt, Int32.lt_iff_toInt_lt, e0, e1]; omega
theorem own_narI (x : Int32) : (nar .char x).toInt = x.toInt % 65536 := by
  have h := c_i2c x
  show x.toUInt32.toUInt16.toUInt32.toInt32.toInt = _
  omega
theorem own_narB (x : Int32) : ChB (nar .char x) := by rw [own_chI, own_narI]; omega
theorem own_nar16 {x : Int32} (h : ChB x) : nar .char x = x := by
  apply Int32.toInt_inj.mp
  rw [own_chI] at h; rw [own_narI]; omega
theorem own_gcx {x : Int32} (h : ChB x) : nar .char (StrChars.pairCh (StrChars.lo8 x) (StrChars.hi8 x)) = x := by rw [StrChars.pair_says h.1 h.2]; exact own_nar16 h
theorem own_lcx {x : Int32} (h : ChB x) (k : ¬ (255 : Int32) < x) : nar .char ((StrChars.lo8 x &&& (255 : Int32)).toUInt32.toUInt16.toUInt32.toInt32) = x := by
  rw [StrChars.lo8_mask h.1 k]
  have e : x.toUInt32.toUInt16.toUInt32.toInt32 = x := own_nar16 h
  rw [e]; exact own_nar16 h
theorem own_i8 (x : Int32) : x.toInt8.toInt32.toInt8.toInt32 = x.toInt8.toInt32 := by simp
theorem own_rawL (x : Int32) : nar .byte (x.toInt8.toInt32) = StrChars.lo8 x := own_i8 x
theorem own_raw0 (x : Int32) : nar .byte ((x >>> ((0 : Int32) &&& 31)).toInt8.toInt32) = StrChars.lo8 x := by rw [StrChars.shr0]; exact own_i8 x
theorem own_raw1 (x : Int32) : nar .byte ((x >>> ((8 : Int32) &&& 31)).toInt8.toInt32) = StrChars.hi8 x := own_i8 _
def c16 (x : Int32) : Int32 := x.toUInt32.toUInt16.toUInt32.toInt32
def own_draw (r m : Int32) : Int32 := if (m &&& (3 : Int32)) = (0 : Int32) then nar .char ((r &&& (127 : Int32)).toUInt32.toUInt16.toUInt32.toInt32) else if (m &&& (3 : Int32)) = (1 : Int32) then nar .char ((r &&& (255 : Int32)).toUInt32.toUInt16.toUInt32.toInt32) else nar .char ((r &&& (65535 : Int32)).toUInt32.toUInt16.toUInt32.toInt32)
theorem own_drawB (r m : Int32) : ChB (own_draw r m) := by unfold own_draw; split <;> (try split) <;> exact own_narB _
def own_derive (c r m d : Int32) : Int32 := if (m &&& (3 : Int32)) = (1 : Int32) then nar .char ((c ^^^ (32 : Int32)).toUInt32.toUInt16.toUInt32.toInt32) else if (m &&& (3 : Int32)) = (2 : Int32) then nar .char (own_draw r d) else nar .char c
theorem own_deriveB (c r m d : Int32) : ChB (own_derive c r m d) := by unfold own_derive; split <;> (try split) <;> exact own_narB _
def own_same (c d : Int32) : Int32 := if c = d then 1 else if ¬ ((c ||| (32 : Int32)) = (d ||| (32 : Int32))) then 0 else if (c ||| (32 : Int32)) < (97 : Int32) then 0 else if (122 : Int32) < (c ||| (32 : Int32)) then 0 else 1
def own_low (c : Int32) : Int32 := if c < (65 : Int32) then nar .char c else if (90 : Int32) < c then nar .char c else nar .char ((c + (32 : Int32)).toUInt32.toUInt16.toUInt32.toInt32)
theorem own_or32 {c : Int32} (h : ChB c) : (c ||| (32 : Int32)).toInt = c.toInt + if c.toInt % 64 < 32 then 32 else 0 := by
  rw [own_chI] at h
  have e : c = (c &&& (65472 : Int32)) ||| (c &&& (63 : Int32)) := by
    have dist : (c &&& (65472 : Int32)) ||| (c &&& (63 : Int32)) = c &&& (65535 : Int32) := by
      have z : (65535 : Int32) = ((65472 : Int32) ||| 63) := by decide
      rw [z]
      apply Int32.toBitVec_inj.mp
      simp only [Int32.toBitVec_and, Int32.toBitVec_or]
      ext i
      simp only [BitVec.getElem_or, BitVec.getElem_and, Bool.and_or_distrib_left]
    rw [dist]
    apply Int32.toInt_inj.mp
    rw [c_mask c 65535 16 (by decide) (by decide)]
    have : ((2 ^ 16 : Nat) : Int) = 65536 := by decide
    rw [this]; omega
  have m63 := c_mask c 63 6 (by decide) (by decide)
  have p6 : ((2 ^ 6 : Nat) : Int) = 64 := by decide
  rw [p6] at m63
  have a0 : (c &&& (65472 : Int32)).toInt % 64 = 0 := by
    have q : (c &&& (65472 : Int32)) &&& 63 = 0 := by rw [Int32.and_assoc]; have : ((65472 : Int32) &&& 63) = 0 := by decide
                                                      rw [this]; exact Int32.and_zero
    have r := c_mask (c &&& (65472 : Int32)) 63 6 (by decide) (by decide)
    rw [q, p6] at r
    have z : (0 : Int32).toInt = 0 := rfl
    omega
  have s1 := c_or (c &&& (65472 : Int32)) (c &&& (63 : Int32)) 6 (by decide) 64 p6.symm a0 (by omega) (by omega)
  rw [← e] at s1
  have t : ∀ k : Fin 64, (Int32.ofNat k.val ||| 32).toInt = (k.val : Int) + if k.val < 32 then 32 else 0 := by decide +kernel
  have u : (c &&& (63 : Int32)) = Int32.ofNat (c.toInt % 64).toNat := by
    apply Int32.toInt_inj.mp
    rw [m63]
    have g : (c.toInt % 64).toNat < 64 := by omega
    have w : ∀ k : Fin 64, (Int32.ofNat k.val).toInt = (k.val : Int) := by decide +kernel
    have := w ⟨_, g⟩
    simp only at this
    rw [this]; omega
  have v := t ⟨(c.toInt % 64).toNat, by omega⟩
  simp only at v
  rw [← u] at v
  have k1 : (c ||| (32 : Int32)) = (c &&& (65472 : Int32)) ||| ((c &&& (63 : Int32)) ||| 32) := by
    conv => lhs; rw [e]
    rw [Int32.or_assoc]
  have b2 : 0 ≤ ((c &&& (63 : Int32)) ||| 32).toInt ∧ ((c &&& (63 : Int32)) ||| 32).toInt < 64 := by rw [v]; split <;> omega
  have s2 := c_or (c &&& (65472 : Int32)) ((c &&& (63 : Int32)) ||| 32) 6 (by decide) 64 p6.symm a0 b2.1 b2.2
  rw [← k1] at s2
  have r1 := rng32 (c ||| (32 : Int32)); have r2 := rng32 (c &&& (65472 : Int32))
  have v' : ((c &&& (63 : Int32)) ||| 32).toInt = c.toInt % 64 + if c.toInt % 64 < 32 then 32 else 0 := by
    rw [v]
    have : ((c.toInt % 64).toNat : Int) = c.toInt % 64 := by omega
    split <;> split <;> omega
  split at v' <;> split <;> omega
theorem own_lowI {c : Int32} (h : ChB c) : (own_low c).toInt = if 65 ≤ c.toInt ∧ c.toInt ≤ 90 then c.toInt + 32 else c.toInt := by
  have q := own_chI.mp h
  have e1 : (65 : Int32).toInt = 65 := rfl
  have e2 : (90 : Int32).toInt = 90 := rfl
  unfold own_low
  split
  · rename_i k; rw [Int32.lt_iff_toInt_lt, e1] at k; rw [own_narI]; split <;> omega
  · rename_i k; rw [Int32.lt_iff_toInt_lt, e1] at k
    split
    · rename_i k2; rw [Int32.lt_iff_toInt_lt, e2] at k2; rw [own_narI]; split <;> omega
    · rename_i k2; rw [Int32.lt_iff_toInt_lt, e2] at k2
      rw [own_narI]
      have s := c_i2c (c + (32 : Int32))
      have a : (c + (32 : Int32)).toInt = c.toInt + 32 := by
        rw [Int32.toInt_add]
        have e3 : (32 : Int32).toInt = 32 := rfl
        rw [e3, Int.bmod_def]; split <;> omega
      rw [a] at s
      split <;> omega
theorem own_sl {c d : Int32} (hc : ChB c) (hd : ChB d) : (own_low c = own_low d → own_same c d = 1) ∧ (¬ own_low c = own_low d → own_same c d = 0) := by
  have qc := own_chI.mp hc; have qd := own_chI.mp hd
  have lc := own_lowI hc; have ld := own_lowI hd
  have oc := own_or32 hc; have od := own_or32 hd
  have e1 : (97 : Int32).toInt = 97 := rfl
  have e2 : (122 : Int32).toInt = 122 := rfl
  have k : own_low c = own_low d ↔ (own_low c).toInt = (own_low d).toInt := Int32.toInt_inj.symm
  have k2 : c = d ↔ c.toInt = d.toInt := Int32.toInt_inj.symm
  have k3 : (c ||| (32 : Int32)) = (d ||| (32 : Int32)) ↔ (c ||| (32 : Int32)).toInt = (d ||| (32 : Int32)).toInt := Int32.toInt_inj.symm
  unfold own_same
  simp only [k, k2, k3, Int32.lt_iff_toInt_lt, e1, e2]
  rw [lc, ld]
  generalize (c ||| (32 : Int32)).toInt = C at *
  generalize (d ||| (32 : Int32)).toInt = D at *
  constructor
  · intro h
    split
    · rfl
    · split
      · exfalso; split at h <;> split at h <;> split at oc <;> split at od <;> omega
      · split
        · exfalso; split at h <;> split at h <;> split at oc <;> split at od <;> omega
        · split
          · exfalso; split at h <;> split at h <;> split at oc <;> split at od <;> omega
          · rfl
  · intro h
    split
    · exfalso; split at h <;> split at h <;> omega
    · split
      · rfl
      · split
        · rfl
        · split
          · rfl
          · exfalso; split at h <;> split at h <;> split at oc <;> split at od <;> omega
def own_eqi : List Int32 → List Int32 → Int32
  | [], [] => 1
  | x :: xs, y :: ys => if own_low x = own_low y then own_eqi xs ys else 0
  | _, _ => 0
theorem own_eqi_ne : ∀ {xs ys : List Int32}, ¬ xs.length = ys.length → own_eqi xs ys = 0
  | [], [], h => absurd rfl h
  | [], _ :: _, _ => rfl
  | _ :: _, [], _ => rfl
  | x :: xs, y :: ys, h => by
    show (if own_low x = own_low y then own_eqi xs ys else 0) = 0
    split
    · exact own_eqi_ne fun q => h (by simp [q])
    · rfl
def own_mkl (n c0 c1 c2 : Int32) : List Int32 := if n = (0 : Int32) then [] else if n = (1 : Int32) then [c0] else if n = (2 : Int32) then [c0, c1] else [c0, c1, c2]
def own_exp (la lb s0 s1 s2 : Int32) : Int32 := if ¬ la = lb then 0 else if la < (1 : Int32) then 1 else if s0 = (0 : Int32) then 0 else if la < (2 : Int32) then 1 else if s1 = (0 : Int32) then 0 else if la < (3 : Int32) then 1 else if s2 = (0 : Int32) then 0 else 1
theorem own_mkl0 {a b c : Int32} : own_mkl 0 a b c = [] := by unfold own_mkl; rw [if_pos rfl]
theorem own_mkl1 {a b c : Int32} : own_mkl 1 a b c = [a] := by unfold own_mkl; rw [if_neg (by decide), if_pos rfl]
theorem own_mkl2 {a b c : Int32} : own_mkl 2 a b c = [a, b] := by unfold own_mkl; rw [if_neg (by decide), if_neg (by decide), if_pos rfl]
theorem own_mkl3 {a b c : Int32} : own_mkl 3 a b c = [a, b, c] := by unfold own_mkl; rw [if_neg (by decide), if_neg (by decide), if_neg (by decide)]
theorem own_exp0 {x y z : Int32} : own_exp 0 0 x y z = 1 := by unfold own_exp; rw [if_neg (by decide), if_pos (by decide)]
theorem own_exp1 {x y z : Int32} : own_exp 1 1 x y z = if x = (0 : Int32) then 0 else 1 := by unfold own_exp; rw [if_neg (by decide), if_neg (by decide), if_pos (show (1 : Int32) < 2 by decide)]
theorem own_exp2 {x y z : Int32} : own_exp 2 2 x y z = if x = (0 : Int32) then 0 else if y = (0 : Int32) then 0 else 1 := by unfold own_exp; rw [if_neg (by decide), if_neg (by decide), if_neg (show ¬ (2 : Int32) < 2 by decide), if_pos (show (2 : Int32) < 3 by decide)]
theorem own_exp3 {x y z : Int32} : own_exp 3 3 x y z = if x = (0 : Int32) then 0 else if y = (0 : Int32) then 0 else if z = (0 : Int32) then 0 else 1 := by unfold own_exp; rw [if_neg (by decide), if_neg (by decide), if_neg (show ¬ (3 : Int32) < 2 by decide), if_neg (show ¬ (3 : Int32) < 3 by decide)]
theorem own_len4 {n a b c : Int32} (h : n = 0 ∨ n = 1 ∨ n = 2 ∨ n = 3) : Int32.ofNat (own_mkl n a b c).length = n ∧ (own_mkl n a b c).length ≤ 3 := by
  rcases h with rfl | rfl | rfl | rfl
  · rw [own_mkl0]; exact ⟨rfl, by decide⟩
  · rw [own_mkl1]; exact ⟨rfl, Nat.le_of_ble_eq_true rfl⟩
  · rw [own_mkl2]; exact ⟨rfl, Nat.le_of_ble_eq_true rfl⟩
  · rw [own_mkl3]; exact ⟨rfl, Nat.le_of_ble_eq_true rfl⟩
theorem own_law {la lb a0 a1 a2 b0 b1 b2 : Int32} (ha : la = 0 ∨ la = 1 ∨ la = 2 ∨ la = 3) (hb : lb = 0 ∨ lb = 1 ∨ lb = 2 ∨ lb = 3) (p0 : ChB a0) (p1 : ChB a1) (p2 : ChB a2) (q0 : ChB b0) (q1 : ChB b1) (q2 : ChB b2) :
    own_eqi (own_mkl la a0 a1 a2) (own_mkl lb b0 b1 b2) = own_exp la lb (own_same a0 b0) (own_same a1 b1) (own_same a2 b2) := by
  have s0 := own_sl p0 q0; have s1 := own_sl p1 q1; have s2 := own_sl p2 q2
  have o : ¬ (1 : Int32) = 0 := by decide
  by_cases e : la = lb
  · subst e
    rcases ha with rfl | rfl | rfl | rfl
    · rw [own_mkl0, own_mkl0, own_exp0]; rfl
    · rw [own_mkl1, own_mkl1, own_exp1]
      show (if own_low a0 = own_low b0 then (1 : Int32) else 0) = _
      by_cases z : own_low a0 = own_low b0
      · rw [if_pos z, s0.1 z, if_neg o]
      · rw [if_neg z, s0.2 z, if_pos rfl]
    · rw [own_mkl2, own_mkl2, own_exp2]
      show (if own_low a0 = own_low b0 then (if own_low a1 = own_low b1 then (1 : Int32) else 0) else 0) = _
      by_cases z : own_low a0 = own_low b0
      · rw [if_pos z, s0.1 z, if_neg o]
        by_cases y : own_low a1 = own_low b1
        · rw [if_pos y, s1.1 y, if_neg o]
        · rw [if_neg y, s1.2 y, if_pos rfl]
      · rw [if_neg z, s0.2 z, if_pos rfl]
    · rw [own_mkl3, own_mkl3, own_exp3]
      show (if own_low a0 = own_low b0 then (if own_low a1 = own_low b1 then (if own_low a2 = own_low b2 then (1 : Int32) else 0) else 0) else 0) = _
      by_cases z : own_low a0 = own_low b0
      · rw [if_pos z, s0.1 z, if_neg o]
        by_cases y : own_low a1 = own_low b1
        · rw [if_pos y, s1.1 y, if_neg o]
          by_cases x : own_low a2 = own_low b2
          · rw [if_pos x, s2.1 x, if_neg o]
          · rw [if_neg x, s2.2 x, if_pos rfl]
        · rw [if_neg y, s1.2 y, if_pos rfl]
      · rw [if_neg z, s0.2 z, if_pos rfl]
  · unfold own_exp; rw [if_pos e]
    refine own_eqi_ne fun q => e ?_
    have u := (own_len4 (a := a0) (b := a1) (c := a2) ha).1
    rw [q, (own_len4 (a := b0) (b := b1) (c := b2) hb).1] at u
    exact u.symm
theorem own_and3 (x : Int32) : x &&& 3 = 0 ∨ x &&& 3 = 1 ∨ x &&& 3 = 2 ∨ x &&& 3 = 3 := by
  have h := c_mask x 3 2 (by decide) (by decide)
  have h' : (x &&& 3).toInt = 0 ∨ (x &&& 3).toInt = 1 ∨ (x &&& 3).toInt = 2 ∨ (x &&& 3).toInt = 3 := by rw [h]; omega
  rcases h' with h' | h' | h' | h'
  · exact Or.inl (Int32.toInt_inj.mp h')
  · exact Or.inr (Or.inl (Int32.toInt_inj.mp h'))
  · exact Or.inr (Or.inr (Or.inl (Int32.toInt_inj.mp h')))
  · exact Or.inr (Or.inr (Or.inr (Int32.toInt_inj.mp h')))

abbrev pO2 (Z : State) (G1 : Int32) : Prop := Sta Z Z.heap "java/lang/String" "COMPACT_STRINGS" "Z" (.int G1)
abbrev pSA (Z : State) : Prop := Sta Z Z.heap "java/lang/StringUTF16" "$assertionsDisabled" "Z" (.int (1 : Int32))
abbrev pSH (Z : State) : Prop := Sta Z Z.heap "java/lang/StringUTF16" "HI_BYTE_SHIFT" "I" (.int (0 : Int32))
abbrev pSL (Z : State) : Prop := Sta Z Z.heap "java/lang/StringUTF16" "LO_BYTE_SHIFT" "I" (.int (8 : Int32))
abbrev pFM (Z : State) (fm : Value) : Prop := Sta Z Z.heap "jdk/internal/util/Preconditions" "SIOOBE_FORMATTER" "Ljava/util/function/BiFunction;" fm
abbrev EAt (N : Int32) (vs : List Value) (j v : Int32) : Prop := (¬ j < 0 ∧ j < N) ∧ j.toNatClampNeg < N.toNatClampNeg ∧ vs.getD j.toNatClampNeg (.int (0 : Int32)) = .int v
theorem own_some {a b : Int32} (h : a = b) : some (Value.int a) = some (Value.int b) := by rw [h]
abbrev StrF (Z : State) (h : Heap) (x t : Addr) (k : ClassId) (cd N : Int32) (vs : List Value) : Prop := Exa Z h x "java/lang/String" ∧ Fld Z h x "java/lang/String" "value" "[B" (.ref t) ∧ Fld Z h x "java/lang/String" "coder" "B" (.int cd) ∧ Arv Z h t k .byte N vs (.int (0 : Int32))
def Str (Z : State) (h : Heap) (x : Addr) (cs : List Int32) : Prop := ∃ (t : Addr) (k : ClassId) (cd N : Int32) (vs : List Value), StrF Z h x t k cd N vs ∧ StrChars.Road.CodA cs cd N vs
theorem own_strE {Z : State} {h h' : Heap} {x : Addr} {cs : List Int32} (F : Str Z h x cs) (E : Ext h h') : Str Z h' x cs := by
  obtain ⟨t, k, cd, N, vs, ⟨a, b, c, d⟩, e⟩ := F; exact ⟨t, k, cd, N, vs, ⟨a.ext E, b.ext E, c.ext E, d.ext E⟩, e⟩
theorem own_strK {Z : State} {h h' : Heap} {x : Addr} {cs : List Int32} (F : Str Z h x cs) (K : Keep h h' []) : Str Z h' x cs := by
  obtain ⟨t, k, cd, N, vs, ⟨a, b, c, d⟩, e⟩ := F; exact ⟨t, k, cd, N, vs, ⟨a.keep K, b.keep K own_nm0, c.keep K own_nm0, d.keep K own_nm0⟩, e⟩
theorem own_alli {P : Int32 → Prop} {a : Int32} {L : List Int32} (h : P a) (k : ∀ c ∈ L, P c) : ∀ c ∈ a :: L, P c := fun c hc => (List.mem_cons.mp hc).elim (fun e => e ▸ h) (k c)
theorem own_all0 {P : Int32 → Prop} : ∀ c ∈ ([] : List Int32), P c := fun _ q => absurd q List.not_mem_nil
def Qs (r : Option Value) (h0 : Heap) (n0 : Nat) (v : Option Value) (h : Heap) (L : List Loc) : Prop := v = r ∧ Fr n0 L ∧ h = h0
def QGB (Z : State) (b : Addr) (k : ClassId) (cap : Int32) (vs : List Value) (r : Option Value) (h0 : Heap) (n0 : Nat) (v : Option Value) (h : Heap) (L : List Loc) : Prop := v = r ∧ Fr n0 L ∧ Keep h0 h [b] ∧ Arv Z h b k .byte cap vs (.int (0 : Int32))
def QK (b : Addr) (r : Option Value) (h0 : Heap) (n0 : Nat) (v : Option Value) (h : Heap) (L : List Loc) : Prop := v = r ∧ Fr n0 L ∧ Keep h0 h [b]
def QAr (Z : State) (n : Int32) (vs : List Value) (h0 : Heap) (n0 : Nat) (v : Option Value) (h : Heap) (L : List Loc) : Prop := ∃ (r : Addr) (k : ClassId), v = some (.ref r) ∧ Fr n0 L ∧ Keep h0 h [] ∧ n0 ≤ r ∧ h0.size ≤ r ∧ Arv Z h r k .byte n vs (.int (0 : Int32))
def QC3 (Z : State) (cs : List Int32) (h0 : Heap) (n0 : Nat) (v : Option Value) (h : Heap) (L : List Loc) : Prop := ∃ (r : Addr) (k : ClassId) (cd N : Int32) (vs : List Value), v = some (.ref r) ∧ Fr n0 L ∧ Keep h0 h [] ∧ n0 ≤ r ∧ h0.size ≤ r ∧ Arv Z h r k .byte N vs (.int (0 : Int32)) ∧ StrChars.Road.CodA cs cd N vs
theorem own_cdn {cs : List Int32} {cd N : Int32} {vs : List Value} (h : StrChars.Road.CodA cs cd N vs) : nar .byte cd = cd := by
  rcases h with ⟨rfl, -⟩ | ⟨rfl, -⟩ <;> rfl
def QNew (Z : State) (x : Addr) (cs : List Int32) (h0 : Heap) (n0 : Nat) (v : Option Value) (h : Heap) (L : List Loc) : Prop := v = none ∧ Fr n0 L ∧ Keep h0 h [x] ∧ Str Z h x cs
def QMk (Z : State) (cs : List Int32) (h0 : Heap) (n0 : Nat) (v : Option Value) (h : Heap) (L : List Loc) : Prop := ∃ x : Addr, v = some (.ref x) ∧ Fr n0 L ∧ Keep h0 h [] ∧ Str Z h x cs
def Q0 (h0 : Heap) (n0 : Nat) (v : Option Value) (h : Heap) (L : List Loc) : Prop := v = some (.int (1 : Int32)) ∧ Fr n0 L
theorem own_of_ne {cs ds : List Int32} (h1 : cs.length ≤ 3) (h2 : ds.length ≤ 3) (h : ¬ cs.length = ds.length) : ¬ Int32.ofNat cs.length = Int32.ofNat ds.length := by
  generalize cs.length = a at *
  generalize ds.length = b at *
  have t : ∀ a b : Fin 4, ¬ a.val = b.val → ¬ Int32.ofNat a.val = Int32.ofNat b.val := by decide
  exact t ⟨a, by omega⟩ ⟨b, by omega⟩ h
theorem own_mem {P : Int32 → Prop} {L : List Int32} (h : ∀ c ∈ L, P c) (i : Nat) {x : Int32} (e : L[i]? = some x) : P x := h _ (List.mem_of_getElem? e)
def own_lb (p6 : Int32) : Int32 := if (((p6.toUInt32 >>> ((2 : Int32) &&& 31).toUInt32).toInt32) &&& (3 : Int32)) = (0 : Int32) then (((p6.toUInt32 >>> ((4 : Int32) &&& 31).toUInt32).toInt32) &&& (3 : Int32)) else (p6 &&& (3 : Int32))
theorem own_lb4 (p6 : Int32) : own_lb p6 = 0 ∨ own_lb p6 = 1 ∨ own_lb p6 = 2 ∨ own_lb p6 = 3 := by unfold own_lb; split <;> exact own_and3 _
theorem own_mklB {n a b c : Int32} (h0 : ChB a) (h1 : ChB b) (h2 : ChB c) : ∀ x ∈ own_mkl n a b c, ChB x := by
  unfold own_mkl
  split
  · exact own_all0
  · split
    · exact own_alli h0 own_all0
    · split
      · exact own_alli h0 (own_alli h1 own_all0)
      · exact own_alli h0 (own_alli h1 (own_alli h2 own_all0))
abbrev ro_0 : Room := { frames := 0, cells := 0, slots := 0, locals := 0 }
abbrev ro_1 : Room := { frames := 1, cells := 0, slots := 0, locals := 14 }
abbrev ro_2 : Room := { frames := 1, cells := 1, slots := 2, locals := 12 }
abbrev ro_3 : Room := { frames := 2, cells := 1, slots := 2, locals := 24 }
abbrev ro_4 : Room := { frames := 3, cells := 2, slots := 3, locals := 40 }
abbrev ro_5 : Room := { frames := 4, cells := 2, slots := 3, locals := 57 }
abbrev ro_6 : Room := { frames := 1, cells := 1, slots := 4, locals := 12 }
abbrev ro_7 : Room := { frames := 2, cells := 1, slots := 4, locals := 24 }
abbrev ro_8 : Room := { frames := 3, cells := 2, slots := 6, locals := 40 }
abbrev ro_9 : Room := { frames := 4, cells := 2, slots := 6, locals := 57 }
abbrev ro_10 : Room := { frames := 1, cells := 1, slots := 6, locals := 12 }
abbrev ro_11 : Room := { frames := 2, cells := 1, slots := 6, locals := 24 }
abbrev ro_12 : Room := { frames := 3, cells := 2, slots := 9, locals := 40 }
abbrev ro_13 : Room := { frames := 4, cells := 2, slots := 9, locals := 57 }
abbrev ro_14 : Room := { frames := 5, cells := 2, slots := 3, locals := 74 }
abbrev ro_15 : Room := { frames := 5, cells := 2, slots := 6, locals := 74 }
abbrev ro_16 : Room := { frames := 5, cells := 2, slots := 9, locals := 74 }
abbrev ro_17 : Room := { frames := 1, cells := 4, slots := 8, locals := 12 }
abbrev ro_18 : Room := { frames := 2, cells := 4, slots := 8, locals := 29 }
abbrev ro_19 : Room := { frames := 6, cells := 6, slots := 16, locals := 88 }
abbrev ro_20 : Room := { frames := 2, cells := 0, slots := 0, locals := 27 }
abbrev ro_21 : Room := { frames := 3, cells := 0, slots := 0, locals := 40 }
abbrev ro_22 : Room := { frames := 4, cells := 0, slots := 0, locals := 53 }
abbrev ro_23 : Room := { frames := 5, cells := 0, slots := 0, locals := 67 }
abbrev cv_0 : List Value := [.int (0 : Int32), .int (0 : Int32), .int (0 : Int32), .int (0 : Int32)]
abbrev cv_1 : List Value := [.int (0 : Int32), .int (0 : Int32), .int (0 : Int32), .int (0 : Int32), .int (0 : Int32), .int (0 : Int32)]
theorem d1_0 : decode method_3_code 0 = .ok (.iload_n 1, 1) := by decide +kernel
theorem d1_1 : decode method_3_code 1 = .ok (.iconst 3, 1) := by decide +kernel
theorem d1_2 : decode method_3_code 2 = .ok (.iand, 1) := by decide +kernel
theorem d1_3 : decode method_3_code 3 = .ok (.istore_n 2, 1) := by decide +kernel
theorem d1_4 : decode method_3_code 4 = .ok (.iload_n 2, 1) := by decide +kernel
theorem d1_5 : decode method_3_code 5 = .ok (.ifCond .ne 9, 3) := by decide +kernel
theorem d1_8 : decode method_3_code 8 = .ok (.iload_n 0, 1) := by decide +kernel
theorem d1_9 : decode method_3_code 9 = .ok (.bipush 127, 2) := by decide +kernel
theorem d1_11 : decode method_3_code 11 = .ok (.iand, 1) := by decide +kernel
theorem d1_12 : decode method_3_code 12 = .ok (.i2c, 1) := by decide +kernel
theorem d1_13 : decode method_3_code 13 = .ok (.ireturn, 1) := by decide +kernel
theorem d1_14 : decode method_3_code 14 = .ok (.iload_n 2, 1) := by decide +kernel
theorem d1_15 : decode method_3_code 15 = .ok (.iconst 1, 1) := by decide +kernel
theorem d1_16 : decode method_3_code 16 = .ok (.if_icmp .ne 10, 3) := by decide +kernel
theorem d1_19 : decode method_3_code 19 = .ok (.iload_n 0, 1) := by decide +kernel
theorem d1_20 : decode method_3_code 20 = .ok (.sipush 255, 3) := by decide +kernel
theorem d1_23 : decode method_3_code 23 = .ok (.iand, 1) := by decide +kernel
theorem d1_24 : decode method_3_code 24 = .ok (.i2c, 1) := by decide +kernel
theorem d1_25 : decode method_3_code 25 = .ok (.ireturn, 1) := by decide +kernel
theorem d1_26 : decode method_3_code 26 = .ok (.iload_n 0, 1) := by decide +kernel
theorem d1_27 : decode method_3_code 27 = .ok (.ldc 31, 2) := by decide +kernel
theorem d1_29 : decode method_3_code 29 = .ok (.iand, 1) := by decide +kernel
theorem d1_30 : decode method_3_code 30 = .ok (.i2c, 1) := by decide +kernel
theorem d1_31 : decode method_3_code 31 = .ok (.ireturn, 1) := by decide +kernel
theorem pn_1 : plainName "com/example/webhook_guard/webhookguard/http/HeaderFieldEqualsIgnoringAsciiCasePinLaw" = true := by first | (simp [plainName, overriddenIn]; done) | decide +kernel
theorem ef_1 (m : MethodId) (x0 : Int32) (x1 : Int32) : entryFrame m #[(.int x0), (.int x1)] 3 = mkF m 0 #[.val (.int x0), .val (.int x1), .unset] [] := by first | (simp [entryFrame, mkF, argsToLocals, Value.category]; done) | rfl
theorem d2_0 : decode method_4_code 0 = .ok (.iload_n 2, 1) := by decide +kernel
theorem d2_1 : decode method_4_code 1 = .ok (.iconst 3, 1) := by decide +kernel
theorem d2_2 : decode method_4_code 2 = .ok (.iand, 1) := by decide +kernel
theorem d2_3 : decode method_4_code 3 = .ok (.istore 4, 2) := by decide +kernel
theorem d2_5 : decode method_4_code 5 = .ok (.iload 4, 2) := by decide +kernel
theorem d2_7 : decode method_4_code 7 = .ok (.iconst 1, 1) := by decide +kernel
theorem d2_8 : decode method_4_code 8 = .ok (.if_icmp .ne 9, 3) := by decide +kernel
theorem d2_11 : decode method_4_code 11 = .ok (.iload_n 0, 1) := by decide +kernel
theorem d2_12 : decode method_4_code 12 = .ok (.bipush 32, 2) := by decide +kernel
theorem d2_14 : decode method_4_code 14 = .ok (.ixor, 1) := by decide +kernel
theorem d2_15 : decode method_4_code 15 = .ok (.i2c, 1) := by decide +kernel
theorem d2_16 : decode method_4_code 16 = .ok (.ireturn, 1) := by decide +kernel
theorem d2_17 : decode method_4_code 17 = .ok (.iload 4, 2) := by decide +kernel
theorem d2_19 : decode method_4_code 19 = .ok (.iconst 2, 1) := by decide +kernel
theorem d2_20 : decode method_4_code 20 = .ok (.if_icmp .ne 9, 3) := by decide +kernel
theorem d2_23 : decode method_4_code 23 = .ok (.iload_n 1, 1) := by decide +kernel
theorem d2_24 : decode method_4_code 24 = .ok (.iload_n 3, 1) := by decide +kernel
theorem d2_25 : decode method_4_code 25 = .ok (.invokestatic 7, 3) := by decide +kernel
theorem pd_II_C : parseMethodDescriptor "(II)C" = some ⟨[.int, .int], some .char⟩ := by decide +kernel
theorem d2_28 : decode method_4_code 28 = .ok (.ireturn, 1) := by decide +kernel
theorem d2_29 : decode method_4_code 29 = .ok (.iload_n 0, 1) := by decide +kernel
theorem d2_30 : decode method_4_code 30 = .ok (.ireturn, 1) := by decide +kernel
theorem pn_2 : plainName "com/example/webhook_guard/webhookguard/http/HeaderFieldEqualsIgnoringAsciiCasePinLaw" = true := by first | (simp [plainName, overriddenIn]; done) | decide +kernel
theorem ef_2 (m : MethodId) (x0 : Int32) (x1 : Int32) (x2 : Int32) (x3 : Int32) : entryFrame m #[(.int x0), (.int x1), (.int x2), (.int x3)] 5 = mkF m 0 #[.val (.int x0), .val (.int x1), .val (.int x2), .val (.int x3), .unset] [] := by first | (simp [entryFrame, mkF, argsToLocals, Value.category]; done) | rfl
theorem d13_0 : decode method_5_code 0 = .ok (.iload_n 0, 1) := by decide +kernel
theorem d13_1 : decode method_5_code 1 = .ok (.iload_n 1, 1) := by decide +kernel
theorem d13_2 : decode method_5_code 2 = .ok (.if_icmp .ne 5, 3) := by decide +kernel
theorem d13_5 : decode method_5_code 5 = .ok (.iconst 1, 1) := by decide +kernel
theorem d13_6 : decode method_5_code 6 = .ok (.ireturn, 1) := by decide +kernel
theorem d13_7 : decode method_5_code 7 = .ok (.iload_n 0, 1) := by decide +kernel
theorem d13_8 : decode method_5_code 8 = .ok (.bipush 32, 2) := by decide +kernel
theorem d13_10 : decode method_5_code 10 = .ok (.ior, 1) := by decide +kernel
theorem d13_11 : decode method_5_code 11 = .ok (.istore_n 2, 1) := by decide +kernel
theorem d13_12 : decode method_5_code 12 = .ok (.iload_n 1, 1) := by decide +kernel
theorem d13_13 : decode method_5_code 13 = .ok (.bipush 32, 2) := by decide +kernel
theorem d13_15 : decode method_5_code 15 = .ok (.ior, 1) := by decide +kernel
theorem d13_16 : decode method_5_code 16 = .ok (.istore_n 3, 1) := by decide +kernel
theorem d13_17 : decode method_5_code 17 = .ok (.iload_n 2, 1) := by decide +kernel
theorem d13_18 : decode method_5_code 18 = .ok (.iload_n 3, 1) := by decide +kernel
theorem d13_19 : decode method_5_code 19 = .ok (.if_icmp .ne 19, 3) := by decide +kernel
theorem d13_38 : decode method_5_code 38 = .ok (.iconst 0, 1) := by decide +kernel
theorem d13_39 : decode method_5_code 39 = .ok (.ireturn, 1) := by decide +kernel
theorem d13_22 : decode method_5_code 22 = .ok (.iload_n 2, 1) := by decide +kernel
theorem d13_23 : decode method_5_code 23 = .ok (.bipush 97, 2) := by decide +kernel
theorem d13_25 : decode method_5_code 25 = .ok (.if_icmp .lt 13, 3) := by decide +kernel
theorem d13_28 : decode method_5_code 28 = .ok (.iload_n 2, 1) := by decide +kernel
theorem d13_29 : decode method_5_code 29 = .ok (.bipush 122, 2) := by decide +kernel
theorem d13_31 : decode method_5_code 31 = .ok (.if_icmp .gt 7, 3) := by decide +kernel
theorem d13_34 : decode method_5_code 34 = .ok (.iconst 1, 1) := by decide +kernel
theorem d13_35 : decode method_5_code 35 = .ok (.goto 4, 3) := by decide +kernel
theorem pn_13 : plainName "com/example/webhook_guard/webhookguard/http/HeaderFieldEqualsIgnoringAsciiCasePinLaw" = true := by first | (simp [plainName, overriddenIn]; done) | decide +kernel
theorem ef_13 (m : MethodId) (x0 : Int32) (x1 : Int32) : entryFrame m #[(.int x0), (.int x1)] 4 = mkF m 0 #[.val (.int x0), .val (.int x1), .unset, .unset] [] := by first | (simp [entryFrame, mkF, argsToLocals, Value.category]; done) | rfl
theorem d19_0 : decode prog_7_method_8_code 0 = .ok (.iload_n 0, 1) := by decide +kernel
theorem d19_1 : decode prog_7_method_8_code 1 = .ok (.bipush 65, 2) := by decide +kernel
theorem d19_3 : decode prog_7_method_8_code 3 = .ok (.if_icmp .lt 17, 3) := by decide +kernel
theorem d19_20 : decode prog_7_method_8_code 20 = .ok (.iload_n 0, 1) := by decide +kernel
theorem d19_21 : decode prog_7_method_8_code 21 = .ok (.ireturn, 1) := by decide +kernel
theorem d19_6 : decode prog_7_method_8_code 6 = .ok (.iload_n 0, 1) := by decide +kernel
theorem d19_7 : decode prog_7_method_8_code 7 = .ok (.bipush 90, 2) := by decide +kernel
theorem d19_9 : decode prog_7_method_8_code 9 = .ok (.if_icmp .gt 11, 3) := by decide +kernel
theorem d19_12 : decode prog_7_method_8_code 12 = .ok (.iload_n 0, 1) := by decide +kernel
theorem d19_13 : decode prog_7_method_8_code 13 = .ok (.bipush 32, 2) := by decide +kernel
theorem d19_15 : decode prog_7_method_8_code 15 = .ok (.iadd, 1) := by decide +kernel
theorem d19_16 : decode prog_7_method_8_code 16 = .ok (.i2c, 1) := by decide +kernel
theorem d19_17 : decode prog_7_method_8_code 17 = .ok (.goto 4, 3) := by decide +kernel
theorem pn_19 : plainName "com/example/webhook_guard/webhookguard/http/HeaderField" = true := by first | (simp [plainName, overriddenIn]; done) | decide +kernel
theorem ef_19 (m : MethodId) (x0 : Int32) : entryFrame m #[(.int x0)] 1 = mkF m 0 #[.val (.int x0)] [] := by first | (simp [entryFrame, mkF, argsToLocals, Value.category]; done) | rfl
theorem d5_0 : decode jdk_42_method_149_code 0 = .ok (.aload_n 0, 1) := by decide +kernel
theorem d5_1 : decode jdk_42_method_149_code 1 = .ok (.invokespecial 1, 3) := by decide +kernel
theorem d5_4 : decode jdk_42_method_149_code 4 = .ok (.iload_n 3, 1) := by decide +kernel
theorem d5_5 : decode jdk_42_method_149_code 5 = .ok (.ifCond .ne 22, 3) := by decide +kernel
theorem d5_27 : decode jdk_42_method_149_code 27 = .ok (.getstatic 38, 3) := by decide +kernel
theorem d5_30 : decode jdk_42_method_149_code 30 = .ok (.ifCond .eq 28, 3) := by decide +kernel
theorem d5_33 : decode jdk_42_method_149_code 33 = .ok (.aload_n 1, 1) := by decide +kernel
theorem d5_34 : decode jdk_42_method_149_code 34 = .ok (.iload_n 2, 1) := by decide +kernel
theorem d5_35 : decode jdk_42_method_149_code 35 = .ok (.iload_n 3, 1) := by decide +kernel
theorem d5_36 : decode jdk_42_method_149_code 36 = .ok (.invokestatic 177, 3) := by decide +kernel
theorem d7_0 : decode jdk_52_method_16_code 0 = .ok (.iload_n 2, 1) := by decide +kernel
theorem d7_1 : decode jdk_52_method_16_code 1 = .ok (.newarray .byte, 2) := by decide +kernel
theorem d7_3 : decode jdk_52_method_16_code 3 = .ok (.astore_n 3, 1) := by decide +kernel
theorem d7_4 : decode jdk_52_method_16_code 4 = .ok (.aload_n 0, 1) := by decide +kernel
theorem d7_5 : decode jdk_52_method_16_code 5 = .ok (.iload_n 1, 1) := by decide +kernel
theorem d7_6 : decode jdk_52_method_16_code 6 = .ok (.aload_n 3, 1) := by decide +kernel
theorem d7_7 : decode jdk_52_method_16_code 7 = .ok (.iconst 0, 1) := by decide +kernel
theorem d7_8 : decode jdk_52_method_16_code 8 = .ok (.iload_n 2, 1) := by decide +kernel
theorem d7_9 : decode jdk_52_method_16_code 9 = .ok (.invokestatic 115, 3) := by decide +kernel
theorem d8_0 : decode jdk_52_method_21_code 0 = .ok (.iconst 0, 1) := by decide +kernel
theorem d8_1 : decode jdk_52_method_21_code 1 = .ok (.istore 5, 2) := by decide +kernel
theorem d8_3 : decode jdk_52_method_21_code 3 = .ok (.iload 5, 2) := by decide +kernel
theorem d8_5 : decode jdk_52_method_21_code 5 = .ok (.iload 4, 2) := by decide +kernel
theorem d8_7 : decode jdk_52_method_21_code 7 = .ok (.if_icmp .ge 37, 3) := by decide +kernel
theorem d8_10 : decode jdk_52_method_21_code 10 = .ok (.aload_n 0, 1) := by decide +kernel
theorem d8_11 : decode jdk_52_method_21_code 11 = .ok (.iload_n 1, 1) := by decide +kernel
theorem d8_12 : decode jdk_52_method_21_code 12 = .ok (.caload, 1) := by decide +kernel
theorem d8_13 : decode jdk_52_method_21_code 13 = .ok (.istore 6, 2) := by decide +kernel
theorem d8_15 : decode jdk_52_method_21_code 15 = .ok (.iload 6, 2) := by decide +kernel
theorem d8_17 : decode jdk_52_method_21_code 17 = .ok (.sipush 255, 3) := by decide +kernel
theorem d8_20 : decode jdk_52_method_21_code 20 = .ok (.if_icmp .le 6, 3) := by decide +kernel
theorem d8_26 : decode jdk_52_method_21_code 26 = .ok (.aload_n 2, 1) := by decide +kernel
theorem d8_27 : decode jdk_52_method_21_code 27 = .ok (.iload_n 3, 1) := by decide +kernel
theorem d8_28 : decode jdk_52_method_21_code 28 = .ok (.iload 6, 2) := by decide +kernel
theorem d8_30 : decode jdk_52_method_21_code 30 = .ok (.i2b, 1) := by decide +kernel
theorem d8_31 : decode jdk_52_method_21_code 31 = .ok (.bastore, 1) := by decide +kernel
theorem d8_32 : decode jdk_52_method_21_code 32 = .ok (.iinc 1 1, 3) := by decide +kernel
theorem d8_35 : decode jdk_52_method_21_code 35 = .ok (.iinc 3 1, 3) := by decide +kernel
theorem d8_38 : decode jdk_52_method_21_code 38 = .ok (.iinc 5 1, 3) := by decide +kernel
theorem d8_41 : decode jdk_52_method_21_code 41 = .ok (.goto (-38), 3) := by decide +kernel
theorem d8_44 : decode jdk_52_method_21_code 44 = .ok (.iload 4, 2) := by decide +kernel
theorem d8_46 : decode jdk_52_method_21_code 46 = .ok (.ireturn, 1) := by decide +kernel
theorem pn_8 : plainName "java/lang/StringUTF16" = true := by first | (simp [plainName, overriddenIn]; done) | decide +kernel
theorem ef_8 (m : MethodId) (x0 : Addr) (x1 : Int32) (x2 : Addr) (x3 : Int32) (x4 : Int32) : entryFrame m #[(.ref x0), (.int x1), (.ref x2), (.int x3), (.int x4)] 7 = mkF m 0 #[.val (.ref x0), .val (.int x1), .val (.ref x2), .val (.int x3), .val (.int x4), .unset, .unset] [] := by first | (simp [entryFrame, mkF, argsToLocals, Value.category]; done) | rfl
theorem pd_ACIABII_I : parseMethodDescriptor "([CI[BII)I" = some ⟨[(.array .char), .int, (.array .byte), .int, .int], some .int⟩ := by decide +kernel
theorem d7_12 : decode jdk_52_method_16_code 12 = .ok (.istore 4, 2) := by decide +kernel
theorem d7_14 : decode jdk_52_method_16_code 14 = .ok (.iload 4, 2) := by decide +kernel
theorem d7_16 : decode jdk_52_method_16_code 16 = .ok (.iload_n 2, 1) := by decide +kernel
theorem d7_17 : decode jdk_52_method_16_code 17 = .ok (.if_icmp .eq 40, 3) := by decide +kernel
theorem d7_57 : decode jdk_52_method_16_code 57 = .ok (.aload_n 3, 1) := by decide +kernel
theorem d7_58 : decode jdk_52_method_16_code 58 = .ok (.areturn, 1) := by decide +kernel
theorem d8_23 : decode jdk_52_method_21_code 23 = .ok (.iload 5, 2) := by decide +kernel
theorem d8_25 : decode jdk_52_method_21_code 25 = .ok (.ireturn, 1) := by decide +kernel
theorem d7_20 : decode jdk_52_method_16_code 20 = .ok (.aload_n 0, 1) := by decide +kernel
theorem d7_21 : decode jdk_52_method_16_code 21 = .ok (.iload_n 1, 1) := by decide +kernel
theorem d7_22 : decode jdk_52_method_16_code 22 = .ok (.iload_n 2, 1) := by decide +kernel
theorem d7_23 : decode jdk_52_method_16_code 23 = .ok (.invokestatic 119, 3) := by decide +kernel
theorem d20_0 : decode jdk_52_method_14_code 0 = .ok (.iload_n 2, 1) := by decide +kernel
theorem d20_1 : decode jdk_52_method_14_code 1 = .ok (.invokestatic 107, 3) := by decide +kernel
theorem d21_0 : decode jdk_52_method_2_code 0 = .ok (.iload_n 0, 1) := by decide +kernel
theorem d21_1 : decode jdk_52_method_2_code 1 = .ok (.invokestatic 11, 3) := by decide +kernel
theorem d22_0 : decode jdk_52_method_3_code 0 = .ok (.iload_n 0, 1) := by decide +kernel
theorem d22_1 : decode jdk_52_method_3_code 1 = .ok (.ifCond .ge 11, 3) := by decide +kernel
theorem d22_12 : decode jdk_52_method_3_code 12 = .ok (.iload_n 0, 1) := by decide +kernel
theorem d22_13 : decode jdk_52_method_3_code 13 = .ok (.ldc 20, 2) := by decide +kernel
theorem d22_15 : decode jdk_52_method_3_code 15 = .ok (.if_icmp .lt 40, 3) := by decide +kernel
theorem d22_55 : decode jdk_52_method_3_code 55 = .ok (.iload_n 0, 1) := by decide +kernel
theorem d22_56 : decode jdk_52_method_3_code 56 = .ok (.iconst 1, 1) := by decide +kernel
theorem d22_57 : decode jdk_52_method_3_code 57 = .ok (.ishl, 1) := by decide +kernel
theorem d22_58 : decode jdk_52_method_3_code 58 = .ok (.ireturn, 1) := by decide +kernel
theorem pn_22 : plainName "java/lang/StringUTF16" = true := by first | (simp [plainName, overriddenIn]; done) | decide +kernel
theorem ef_22 (m : MethodId) (x0 : Int32) : entryFrame m #[(.int x0)] 1 = mkF m 0 #[.val (.int x0)] [] := by first | (simp [entryFrame, mkF, argsToLocals, Value.category]; done) | rfl
theorem pd_I_I : parseMethodDescriptor "(I)I" = some ⟨[.int], some .int⟩ := by decide +kernel
theorem d21_4 : decode jdk_52_method_2_code 4 = .ok (.newarray .byte, 2) := by decide +kernel
theorem d21_6 : decode jdk_52_method_2_code 6 = .ok (.areturn, 1) := by decide +kernel
theorem pn_21 : plainName "java/lang/StringUTF16" = true := by first | (simp [plainName, overriddenIn]; done) | decide +kernel
theorem ef_21 (m : MethodId) (x0 : Int32) : entryFrame m #[(.int x0)] 1 = mkF m 0 #[.val (.int x0)] [] := by first | (simp [entryFrame, mkF, argsToLocals, Value.category]; done) | rfl
theorem pd_I_AB : parseMethodDescriptor "(I)[B" = some ⟨[.int], some (.array .byte)⟩ := by decide +kernel
theorem d20_4 : decode jdk_52_method_14_code 4 = .ok (.astore_n 3, 1) := by decide +kernel
theorem d20_5 : decode jdk_52_method_14_code 5 = .ok (.iconst 0, 1) := by decide +kernel
theorem d20_6 : decode jdk_52_method_14_code 6 = .ok (.istore 4, 2) := by decide +kernel
theorem d20_8 : decode jdk_52_method_14_code 8 = .ok (.iload 4, 2) := by decide +kernel
theorem d20_10 : decode jdk_52_method_14_code 10 = .ok (.iload_n 2, 1) := by decide +kernel
theorem d20_11 : decode jdk_52_method_14_code 11 = .ok (.if_icmp .ge 21, 3) := by decide +kernel
theorem d20_14 : decode jdk_52_method_14_code 14 = .ok (.aload_n 3, 1) := by decide +kernel
theorem d20_15 : decode jdk_52_method_14_code 15 = .ok (.iload 4, 2) := by decide +kernel
theorem d20_17 : decode jdk_52_method_14_code 17 = .ok (.aload_n 0, 1) := by decide +kernel
theorem d20_18 : decode jdk_52_method_14_code 18 = .ok (.iload_n 1, 1) := by decide +kernel
theorem d20_19 : decode jdk_52_method_14_code 19 = .ok (.caload, 1) := by decide +kernel
theorem d20_20 : decode jdk_52_method_14_code 20 = .ok (.invokestatic 111, 3) := by decide +kernel
theorem d23_0 : decode jdk_52_method_4_code 0 = .ok (.getstatic 44, 3) := by decide +kernel
theorem d23_3 : decode jdk_52_method_4_code 3 = .ok (.ifCond .ne 25, 3) := by decide +kernel
theorem d23_28 : decode jdk_52_method_4_code 28 = .ok (.iload_n 1, 1) := by decide +kernel
theorem d23_29 : decode jdk_52_method_4_code 29 = .ok (.iconst 1, 1) := by decide +kernel
theorem d23_30 : decode jdk_52_method_4_code 30 = .ok (.ishl, 1) := by decide +kernel
theorem d23_31 : decode jdk_52_method_4_code 31 = .ok (.istore_n 1, 1) := by decide +kernel
theorem d23_32 : decode jdk_52_method_4_code 32 = .ok (.aload_n 0, 1) := by decide +kernel
theorem d23_33 : decode jdk_52_method_4_code 33 = .ok (.iload_n 1, 1) := by decide +kernel
theorem d23_34 : decode jdk_52_method_4_code 34 = .ok (.iinc 1 1, 3) := by decide +kernel
theorem d23_37 : decode jdk_52_method_4_code 37 = .ok (.iload_n 2, 1) := by decide +kernel
theorem d23_38 : decode jdk_52_method_4_code 38 = .ok (.getstatic 59, 3) := by decide +kernel
theorem d23_41 : decode jdk_52_method_4_code 41 = .ok (.ishr, 1) := by decide +kernel
theorem d23_42 : decode jdk_52_method_4_code 42 = .ok (.i2b, 1) := by decide +kernel
theorem d23_43 : decode jdk_52_method_4_code 43 = .ok (.bastore, 1) := by decide +kernel
theorem d23_44 : decode jdk_52_method_4_code 44 = .ok (.aload_n 0, 1) := by decide +kernel
theorem d23_45 : decode jdk_52_method_4_code 45 = .ok (.iload_n 1, 1) := by decide +kernel
theorem d23_46 : decode jdk_52_method_4_code 46 = .ok (.iload_n 2, 1) := by decide +kernel
theorem d23_47 : decode jdk_52_method_4_code 47 = .ok (.getstatic 63, 3) := by decide +kernel
theorem d23_50 : decode jdk_52_method_4_code 50 = .ok (.ishr, 1) := by decide +kernel
theorem d23_51 : decode jdk_52_method_4_code 51 = .ok (.i2b, 1) := by decide +kernel
theorem d23_52 : decode jdk_52_method_4_code 52 = .ok (.bastore, 1) := by decide +kernel
theorem d23_53 : decode jdk_52_method_4_code 53 = .ok (.return_, 1) := by decide +kernel
theorem pn_23 : plainName "java/lang/StringUTF16" = true := by first | (simp [plainName, overriddenIn]; done) | decide +kernel
theorem ef_23 (m : MethodId) (x0 : Addr) (x1 : Int32) (x2 : Int32) : entryFrame m #[(.ref x0), (.int x1), (.int x2)] 3 = mkF m 0 #[.val (.ref x0), .val (.int x1), .val (.int x2)] [] := by first | (simp [entryFrame, mkF, argsToLocals, Value.category]; done) | rfl
theorem pd_ABII_V : parseMethodDescriptor "([BII)V" = some ⟨[(.array .byte), .int, .int], none⟩ := by decide +kernel
theorem d20_23 : decode jdk_52_method_14_code 23 = .ok (.iinc 1 1, 3) := by decide +kernel
theorem d20_26 : decode jdk_52_method_14_code 26 = .ok (.iinc 4 1, 3) := by decide +kernel
theorem d20_29 : decode jdk_52_method_14_code 29 = .ok (.goto (-21), 3) := by decide +kernel
theorem d20_32 : decode jdk_52_method_14_code 32 = .ok (.aload_n 3, 1) := by decide +kernel
theorem d20_33 : decode jdk_52_method_14_code 33 = .ok (.areturn, 1) := by decide +kernel
theorem pn_20 : plainName "java/lang/StringUTF16" = true := by first | (simp [plainName, overriddenIn]; done) | decide +kernel
theorem ef_20 (m : MethodId) (x0 : Addr) (x1 : Int32) (x2 : Int32) : entryFrame m #[(.ref x0), (.int x1), (.int x2)] 5 = mkF m 0 #[.val (.ref x0), .val (.int x1), .val (.int x2), .unset, .unset] [] := by first | (simp [entryFrame, mkF, argsToLocals, Value.category]; done) | rfl
theorem pd_ACII_AB : parseMethodDescriptor "([CII)[B" = some ⟨[(.array .char), .int, .int], some (.array .byte)⟩ := by decide +kernel
theorem d7_26 : decode jdk_52_method_16_code 26 = .ok (.astore 5, 2) := by decide +kernel
theorem d7_28 : decode jdk_52_method_16_code 28 = .ok (.aload 5, 2) := by decide +kernel
theorem d7_30 : decode jdk_52_method_16_code 30 = .ok (.iload 4, 2) := by decide +kernel
theorem d7_32 : decode jdk_52_method_16_code 32 = .ok (.invokestatic 71, 3) := by decide +kernel
theorem d24_0 : decode jdk_52_method_5_code 0 = .ok (.getstatic 44, 3) := by decide +kernel
theorem d24_3 : decode jdk_52_method_5_code 3 = .ok (.ifCond .ne 25, 3) := by decide +kernel
theorem d24_28 : decode jdk_52_method_5_code 28 = .ok (.iload_n 1, 1) := by decide +kernel
theorem d24_29 : decode jdk_52_method_5_code 29 = .ok (.iconst 1, 1) := by decide +kernel
theorem d24_30 : decode jdk_52_method_5_code 30 = .ok (.ishl, 1) := by decide +kernel
theorem d24_31 : decode jdk_52_method_5_code 31 = .ok (.istore_n 1, 1) := by decide +kernel
theorem d24_32 : decode jdk_52_method_5_code 32 = .ok (.aload_n 0, 1) := by decide +kernel
theorem d24_33 : decode jdk_52_method_5_code 33 = .ok (.iload_n 1, 1) := by decide +kernel
theorem d24_34 : decode jdk_52_method_5_code 34 = .ok (.iinc 1 1, 3) := by decide +kernel
theorem d24_37 : decode jdk_52_method_5_code 37 = .ok (.baload, 1) := by decide +kernel
theorem d24_38 : decode jdk_52_method_5_code 38 = .ok (.sipush 255, 3) := by decide +kernel
theorem d24_41 : decode jdk_52_method_5_code 41 = .ok (.iand, 1) := by decide +kernel
theorem d24_42 : decode jdk_52_method_5_code 42 = .ok (.getstatic 59, 3) := by decide +kernel
theorem d24_45 : decode jdk_52_method_5_code 45 = .ok (.ishl, 1) := by decide +kernel
theorem d24_46 : decode jdk_52_method_5_code 46 = .ok (.aload_n 0, 1) := by decide +kernel
theorem d24_47 : decode jdk_52_method_5_code 47 = .ok (.iload_n 1, 1) := by decide +kernel
theorem d24_48 : decode jdk_52_method_5_code 48 = .ok (.baload, 1) := by decide +kernel
theorem d24_49 : decode jdk_52_method_5_code 49 = .ok (.sipush 255, 3) := by decide +kernel
theorem d24_52 : decode jdk_52_method_5_code 52 = .ok (.iand, 1) := by decide +kernel
theorem d24_53 : decode jdk_52_method_5_code 53 = .ok (.getstatic 63, 3) := by decide +kernel
theorem d24_56 : decode jdk_52_method_5_code 56 = .ok (.ishl, 1) := by decide +kernel
theorem d24_57 : decode jdk_52_method_5_code 57 = .ok (.ior, 1) := by decide +kernel
theorem d24_58 : decode jdk_52_method_5_code 58 = .ok (.i2c, 1) := by decide +kernel
theorem d24_59 : decode jdk_52_method_5_code 59 = .ok (.ireturn, 1) := by decide +kernel
theorem pn_24 : plainName "java/lang/StringUTF16" = true := by first | (simp [plainName, overriddenIn]; done) | decide +kernel
theorem ef_24 (m : MethodId) (x0 : Addr) (x1 : Int32) : entryFrame m #[(.ref x0), (.int x1)] 2 = mkF m 0 #[.val (.ref x0), .val (.int x1)] [] := by first | (simp [entryFrame, mkF, argsToLocals, Value.category]; done) | rfl
theorem pd_ABI_C : parseMethodDescriptor "([BI)C" = some ⟨[(.array .byte), .int], some .char⟩ := by decide +kernel
theorem d7_35 : decode jdk_52_method_16_code 35 = .ok (.sipush 255, 3) := by decide +kernel
theorem d7_38 : decode jdk_52_method_16_code 38 = .ok (.if_icmp .gt 16, 3) := by decide +kernel
theorem d7_54 : decode jdk_52_method_16_code 54 = .ok (.aload 5, 2) := by decide +kernel
theorem d7_56 : decode jdk_52_method_16_code 56 = .ok (.areturn, 1) := by decide +kernel
theorem pn_7 : plainName "java/lang/StringUTF16" = true := by first | (simp [plainName, overriddenIn]; done) | decide +kernel
theorem ef_7 (m : MethodId) (x0 : Addr) (x1 : Int32) (x2 : Int32) : entryFrame m #[(.ref x0), (.int x1), (.int x2)] 6 = mkF m 0 #[.val (.ref x0), .val (.int x1), .val (.int x2), .unset, .unset, .unset] [] := by first | (simp [entryFrame, mkF, argsToLocals, Value.category]; done) | rfl
theorem d5_39 : decode jdk_42_method_149_code 39 = .ok (.astore 5, 2) := by decide +kernel
theorem d5_41 : decode jdk_42_method_149_code 41 = .ok (.aload_n 0, 1) := by decide +kernel
theorem d5_42 : decode jdk_42_method_149_code 42 = .ok (.aload 5, 2) := by decide +kernel
theorem d5_44 : decode jdk_42_method_149_code 44 = .ok (.iload_n 3, 1) := by decide +kernel
theorem d5_45 : decode jdk_42_method_149_code 45 = .ok (.invokestatic 47, 3) := by decide +kernel
theorem d9_0 : decode jdk_52_method_15_code 0 = .ok (.iload_n 1, 1) := by decide +kernel
theorem d9_1 : decode jdk_52_method_15_code 1 = .ok (.aload_n 0, 1) := by decide +kernel
theorem d9_2 : decode jdk_52_method_15_code 2 = .ok (.arraylength, 1) := by decide +kernel
theorem d9_3 : decode jdk_52_method_15_code 3 = .ok (.isub, 1) := by decide +kernel
theorem d9_4 : decode jdk_52_method_15_code 4 = .ok (.bipush 31, 2) := by decide +kernel
theorem d9_6 : decode jdk_52_method_15_code 6 = .ok (.iushr, 1) := by decide +kernel
theorem d9_7 : decode jdk_52_method_15_code 7 = .ok (.i2b, 1) := by decide +kernel
theorem d9_8 : decode jdk_52_method_15_code 8 = .ok (.ireturn, 1) := by decide +kernel
theorem pn_9 : plainName "java/lang/StringUTF16" = true := by first | (simp [plainName, overriddenIn]; done) | decide +kernel
theorem ef_9 (m : MethodId) (x0 : Addr) (x1 : Int32) : entryFrame m #[(.ref x0), (.int x1)] 2 = mkF m 0 #[.val (.ref x0), .val (.int x1)] [] := by first | (simp [entryFrame, mkF, argsToLocals, Value.category]; done) | rfl
theorem pd_ABI_B : parseMethodDescriptor "([BI)B" = some ⟨[(.array .byte), .int], some .byte⟩ := by decide +kernel
theorem d5_48 : decode jdk_42_method_149_code 48 = .ok (.putfield 15, 3) := by decide +kernel
theorem d5_51 : decode jdk_42_method_149_code 51 = .ok (.aload_n 0, 1) := by decide +kernel
theorem d5_52 : decode jdk_42_method_149_code 52 = .ok (.aload 5, 2) := by decide +kernel
theorem d5_54 : decode jdk_42_method_149_code 54 = .ok (.putfield 9, 3) := by decide +kernel
theorem d5_57 : decode jdk_42_method_149_code 57 = .ok (.return_, 1) := by decide +kernel
theorem pn_5 : plainName "java/lang/String" = true := by first | (simp [plainName, overriddenIn]; done) | decide +kernel
theorem ef_5vvvvn (m : MethodId) (x0 : Addr) (x1 : Addr) (x2 : Int32) (x3 : Int32) : entryFrame m #[(.ref x0), (.ref x1), (.int x2), (.int x3), .null] 6 = mkF m 0 #[.val (.ref x0), .val (.ref x1), .val (.int x2), .val (.int x3), .val .null, .unset] [] := by first | (simp [entryFrame, mkF, argsToLocals, Value.category]; done) | rfl
theorem d4_0 : decode jdk_42_method_3_code 0 = .ok (.aload_n 0, 1) := by decide +kernel
theorem d4_1 : decode jdk_42_method_3_code 1 = .ok (.aload_n 1, 1) := by decide +kernel
theorem d4_2 : decode jdk_42_method_3_code 2 = .ok (.iconst 0, 1) := by decide +kernel
theorem d4_3 : decode jdk_42_method_3_code 3 = .ok (.aload_n 1, 1) := by decide +kernel
theorem d4_4 : decode jdk_42_method_3_code 4 = .ok (.arraylength, 1) := by decide +kernel
theorem d4_5 : decode jdk_42_method_3_code 5 = .ok (.aconst_null, 1) := by decide +kernel
theorem d4_6 : decode jdk_42_method_3_code 6 = .ok (.invokespecial 27, 3) := by decide +kernel
theorem pd_ACIILjava_lang_Void__V : parseMethodDescriptor "([CIILjava/lang/Void;)V" = some ⟨[(.array .char), .int, .int, (.object "java/lang/Void")], none⟩ := by decide +kernel
theorem d4_9 : decode jdk_42_method_3_code 9 = .ok (.return_, 1) := by decide +kernel
theorem pn_4 : plainName "java/lang/String" = true := by first | (simp [plainName, overriddenIn]; done) | decide +kernel
theorem ef_4 (m : MethodId) (x0 : Addr) (x1 : Addr) : entryFrame m #[(.ref x0), (.ref x1)] 2 = mkF m 0 #[.val (.ref x0), .val (.ref x1)] [] := by first | (simp [entryFrame, mkF, argsToLocals, Value.category]; done) | rfl
theorem d5_8 : decode jdk_42_method_149_code 8 = .ok (.aload_n 0, 1) := by decide +kernel
theorem d5_9 : decode jdk_42_method_149_code 9 = .ok (.ldc 7, 2) := by decide +kernel
theorem d5_11 : decode jdk_42_method_149_code 11 = .ok (.getfield 9, 3) := by decide +kernel
theorem d5_14 : decode jdk_42_method_149_code 14 = .ok (.putfield 9, 3) := by decide +kernel
theorem d5_17 : decode jdk_42_method_149_code 17 = .ok (.aload_n 0, 1) := by decide +kernel
theorem d5_18 : decode jdk_42_method_149_code 18 = .ok (.ldc 7, 2) := by decide +kernel
theorem d5_20 : decode jdk_42_method_149_code 20 = .ok (.getfield 15, 3) := by decide +kernel
theorem d5_23 : decode jdk_42_method_149_code 23 = .ok (.putfield 15, 3) := by decide +kernel
theorem d5_26 : decode jdk_42_method_149_code 26 = .ok (.return_, 1) := by decide +kernel
theorem d3_0 : decode method_6_code 0 = .ok (.iload_n 0, 1) := by decide +kernel
theorem d3_1 : decode method_6_code 1 = .ok (.ifCond .ne 14, 3) := by decide +kernel
theorem d3_4 : decode method_6_code 4 = .ok (.new 32, 3) := by decide +kernel
theorem d3_7 : decode method_6_code 7 = .ok (.dup, 1) := by decide +kernel
theorem d3_8 : decode method_6_code 8 = .ok (.iconst 0, 1) := by decide +kernel
theorem d3_9 : decode method_6_code 9 = .ok (.newarray .char, 2) := by decide +kernel
theorem d3_11 : decode method_6_code 11 = .ok (.invokespecial 34, 3) := by decide +kernel
theorem pd_AC_V : parseMethodDescriptor "([C)V" = some ⟨[(.array .char)], none⟩ := by decide +kernel
theorem d3_14 : decode method_6_code 14 = .ok (.areturn, 1) := by decide +kernel
theorem d3_15 : decode method_6_code 15 = .ok (.iload_n 0, 1) := by decide +kernel
theorem d3_16 : decode method_6_code 16 = .ok (.iconst 1, 1) := by decide +kernel
theorem d3_17 : decode method_6_code 17 = .ok (.if_icmp .ne 18, 3) := by decide +kernel
theorem d3_20 : decode method_6_code 20 = .ok (.new 32, 3) := by decide +kernel
theorem d3_23 : decode method_6_code 23 = .ok (.dup, 1) := by decide +kernel
theorem d3_24 : decode method_6_code 24 = .ok (.iconst 1, 1) := by decide +kernel
theorem d3_25 : decode method_6_code 25 = .ok (.newarray .char, 2) := by decide +kernel
theorem d3_27 : decode method_6_code 27 = .ok (.dup, 1) := by decide +kernel
theorem d3_28 : decode method_6_code 28 = .ok (.iconst 0, 1) := by decide +kernel
theorem d3_29 : decode method_6_code 29 = .ok (.iload_n 1, 1) := by decide +kernel
theorem d3_30 : decode method_6_code 30 = .ok (.castore, 1) := by decide +kernel
theorem d3_31 : decode method_6_code 31 = .ok (.invokespecial 34, 3) := by decide +kernel
theorem d3_34 : decode method_6_code 34 = .ok (.areturn, 1) := by decide +kernel
theorem d3_35 : decode method_6_code 35 = .ok (.iload_n 0, 1) := by decide +kernel
theorem d3_36 : decode method_6_code 36 = .ok (.iconst 2, 1) := by decide +kernel
theorem d3_37 : decode method_6_code 37 = .ok (.if_icmp .ne 22, 3) := by decide +kernel
theorem d3_40 : decode method_6_code 40 = .ok (.new 32, 3) := by decide +kernel
theorem d3_43 : decode method_6_code 43 = .ok (.dup, 1) := by decide +kernel
theorem d3_44 : decode method_6_code 44 = .ok (.iconst 2, 1) := by decide +kernel
theorem d3_45 : decode method_6_code 45 = .ok (.newarray .char, 2) := by decide +kernel
theorem d3_47 : decode method_6_code 47 = .ok (.dup, 1) := by decide +kernel
theorem d3_48 : decode method_6_code 48 = .ok (.iconst 0, 1) := by decide +kernel
theorem d3_49 : decode method_6_code 49 = .ok (.iload_n 1, 1) := by decide +kernel
theorem d3_50 : decode method_6_code 50 = .ok (.castore, 1) := by decide +kernel
theorem d3_51 : decode method_6_code 51 = .ok (.dup, 1) := by decide +kernel
theorem d3_52 : decode method_6_code 52 = .ok (.iconst 1, 1) := by decide +kernel
theorem d3_53 : decode method_6_code 53 = .ok (.iload_n 2, 1) := by decide +kernel
theorem d3_54 : decode method_6_code 54 = .ok (.castore, 1) := by decide +kernel
theorem d3_55 : decode method_6_code 55 = .ok (.invokespecial 34, 3) := by decide +kernel
theorem d3_58 : decode method_6_code 58 = .ok (.areturn, 1) := by decide +kernel
theorem d3_59 : decode method_6_code 59 = .ok (.new 32, 3) := by decide +kernel
theorem d3_62 : decode method_6_code 62 = .ok (.dup, 1) := by decide +kernel
theorem d3_63 : decode method_6_code 63 = .ok (.iconst 3, 1) := by decide +kernel
theorem d3_64 : decode method_6_code 64 = .ok (.newarray .char, 2) := by decide +kernel
theorem d3_66 : decode method_6_code 66 = .ok (.dup, 1) := by decide +kernel
theorem d3_67 : decode method_6_code 67 = .ok (.iconst 0, 1) := by decide +kernel
theorem d3_68 : decode method_6_code 68 = .ok (.iload_n 1, 1) := by decide +kernel
theorem d3_69 : decode method_6_code 69 = .ok (.castore, 1) := by decide +kernel
theorem d3_70 : decode method_6_code 70 = .ok (.dup, 1) := by decide +kernel
theorem d3_71 : decode method_6_code 71 = .ok (.iconst 1, 1) := by decide +kernel
theorem d3_72 : decode method_6_code 72 = .ok (.iload_n 2, 1) := by decide +kernel
theorem d3_73 : decode method_6_code 73 = .ok (.castore, 1) := by decide +kernel
theorem d3_74 : decode method_6_code 74 = .ok (.dup, 1) := by decide +kernel
theorem d3_75 : decode method_6_code 75 = .ok (.iconst 2, 1) := by decide +kernel
theorem d3_76 : decode method_6_code 76 = .ok (.iload_n 3, 1) := by decide +kernel
theorem d3_77 : decode method_6_code 77 = .ok (.castore, 1) := by decide +kernel
theorem d3_78 : decode method_6_code 78 = .ok (.invokespecial 34, 3) := by decide +kernel
theorem d3_81 : decode method_6_code 81 = .ok (.areturn, 1) := by decide +kernel
theorem pn_3 : plainName "com/example/webhook_guard/webhookguard/http/HeaderFieldEqualsIgnoringAsciiCasePinLaw" = true := by first | (simp [plainName, overriddenIn]; done) | decide +kernel
theorem ef_3 (m : MethodId) (x0 : Int32) (x1 : Int32) (x2 : Int32) (x3 : Int32) : entryFrame m #[(.int x0), (.int x1), (.int x2), (.int x3)] 4 = mkF m 0 #[.val (.int x0), .val (.int x1), .val (.int x2), .val (.int x3)] [] := by first | (simp [entryFrame, mkF, argsToLocals, Value.category]; done) | rfl
theorem d10_0 : decode prog_7_method_7_code 0 = .ok (.aload_n 0, 1) := by decide +kernel
theorem d10_1 : decode prog_7_method_7_code 1 = .ok (.invokevirtual 17, 3) := by decide +kernel
theorem pd__I : parseMethodDescriptor "()I" = some ⟨[], some .int⟩ := by decide +kernel
theorem d10_4 : decode prog_7_method_7_code 4 = .ok (.aload_n 1, 1) := by decide +kernel
theorem d10_5 : decode prog_7_method_7_code 5 = .ok (.invokevirtual 17, 3) := by decide +kernel
theorem d10_8 : decode prog_7_method_7_code 8 = .ok (.if_icmp .eq 5, 3) := by decide +kernel
theorem d10_11 : decode prog_7_method_7_code 11 = .ok (.iconst 0, 1) := by decide +kernel
theorem d10_12 : decode prog_7_method_7_code 12 = .ok (.ireturn, 1) := by decide +kernel
theorem d10_15 : decode prog_7_method_7_code 15 = .ok (.iload_n 2, 1) := by decide +kernel
theorem d10_16 : decode prog_7_method_7_code 16 = .ok (.aload_n 0, 1) := by decide +kernel
theorem d10_17 : decode prog_7_method_7_code 17 = .ok (.invokevirtual 17, 3) := by decide +kernel
theorem d10_20 : decode prog_7_method_7_code 20 = .ok (.if_icmp .ge 30, 3) := by decide +kernel
theorem d10_23 : decode prog_7_method_7_code 23 = .ok (.aload_n 0, 1) := by decide +kernel
theorem d10_24 : decode prog_7_method_7_code 24 = .ok (.iload_n 2, 1) := by decide +kernel
theorem d10_25 : decode prog_7_method_7_code 25 = .ok (.invokevirtual 23, 3) := by decide +kernel
theorem d14_0 : decode jdk_42_method_56_code 0 = .ok (.aload_n 0, 1) := by decide +kernel
theorem d14_1 : decode jdk_42_method_56_code 1 = .ok (.invokevirtual 492, 3) := by decide +kernel
theorem d15_0 : decode jdk_42_method_154_code 0 = .ok (.getstatic 38, 3) := by decide +kernel
theorem d15_3 : decode jdk_42_method_154_code 3 = .ok (.ifCond .eq 14, 3) := by decide +kernel
theorem d15_6 : decode jdk_42_method_154_code 6 = .ok (.aload_n 0, 1) := by decide +kernel
theorem d15_7 : decode jdk_42_method_154_code 7 = .ok (.getfield 15, 3) := by decide +kernel
theorem d15_10 : decode jdk_42_method_154_code 10 = .ok (.ifCond .ne 7, 3) := by decide +kernel
theorem d15_13 : decode jdk_42_method_154_code 13 = .ok (.iconst 1, 1) := by decide +kernel
theorem d15_14 : decode jdk_42_method_154_code 14 = .ok (.goto 4, 3) := by decide +kernel
theorem d15_18 : decode jdk_42_method_154_code 18 = .ok (.ireturn, 1) := by decide +kernel
theorem pn_15 : plainName "java/lang/String" = true := by first | (simp [plainName, overriddenIn]; done) | decide +kernel
theorem ef_15 (m : MethodId) (x0 : Addr) : entryFrame m #[(.ref x0)] 1 = mkF m 0 #[.val (.ref x0)] [] := by first | (simp [entryFrame, mkF, argsToLocals, Value.category]; done) | rfl
theorem pd__Z : parseMethodDescriptor "()Z" = some ⟨[], some .boolean⟩ := by decide +kernel
theorem d14_4 : decode jdk_42_method_56_code 4 = .ok (.ifCond .eq 12, 3) := by decide +kernel
theorem d14_7 : decode jdk_42_method_56_code 7 = .ok (.aload_n 0, 1) := by decide +kernel
theorem d14_8 : decode jdk_42_method_56_code 8 = .ok (.getfield 9, 3) := by decide +kernel
theorem d14_11 : decode jdk_42_method_56_code 11 = .ok (.iload_n 1, 1) := by decide +kernel
theorem d14_12 : decode jdk_42_method_56_code 12 = .ok (.invokestatic 495, 3) := by decide +kernel
theorem d16_0 : decode jdk_43_method_2_code 0 = .ok (.iload_n 1, 1) := by decide +kernel
theorem d16_1 : decode jdk_43_method_2_code 1 = .ok (.aload_n 0, 1) := by decide +kernel
theorem d16_2 : decode jdk_43_method_2_code 2 = .ok (.arraylength, 1) := by decide +kernel
theorem d16_3 : decode jdk_43_method_2_code 3 = .ok (.invokestatic 9, 3) := by decide +kernel
theorem d17_0 : decode jdk_42_method_155_code 0 = .ok (.iload_n 0, 1) := by decide +kernel
theorem d17_1 : decode jdk_42_method_155_code 1 = .ok (.iload_n 1, 1) := by decide +kernel
theorem d17_2 : decode jdk_42_method_155_code 2 = .ok (.getstatic 1053, 3) := by decide +kernel
theorem d17_5 : decode jdk_42_method_155_code 5 = .ok (.invokestatic 1059, 3) := by decide +kernel
theorem d18_0 : decode jdk_41_method_11_code 0 = .ok (.iload_n 0, 1) := by decide +kernel
theorem d18_1 : decode jdk_41_method_11_code 1 = .ok (.ifCond .lt 8, 3) := by decide +kernel
theorem d18_4 : decode jdk_41_method_11_code 4 = .ok (.iload_n 0, 1) := by decide +kernel
theorem d18_5 : decode jdk_41_method_11_code 5 = .ok (.iload_n 1, 1) := by decide +kernel
theorem d18_6 : decode jdk_41_method_11_code 6 = .ok (.if_icmp .lt 10, 3) := by decide +kernel
theorem d18_16 : decode jdk_41_method_11_code 16 = .ok (.iload_n 0, 1) := by decide +kernel
theorem d18_17 : decode jdk_41_method_11_code 17 = .ok (.ireturn, 1) := by decide +kernel
theorem pn_18 : plainName "jdk/internal/util/Preconditions" = true := by first | (simp [plainName, overriddenIn]; done) | decide +kernel
theorem ef_18vvx (m : MethodId) (x0 : Int32) (x1 : Int32) (x2 : Value) (hx2 : x2.isRef = true) : entryFrame m #[(.int x0), (.int x1), x2] 3 = mkF m 0 #[.val (.int x0), .val (.int x1), .val x2] [] := by cases x2 <;> first | rfl | (simp [Value.isRef] at hx2)
theorem pd_IILjava_util_function_BiFunction__I : parseMethodDescriptor "(IILjava/util/function/BiFunction;)I" = some ⟨[.int, .int, (.object "java/util/function/BiFunction")], some .int⟩ := by decide +kernel
theorem d17_8 : decode jdk_42_method_155_code 8 = .ok (.pop, 1) := by decide +kernel
theorem d17_9 : decode jdk_42_method_155_code 9 = .ok (.return_, 1) := by decide +kernel
theorem pn_17 : plainName "java/lang/String" = true := by first | (simp [plainName, overriddenIn]; done) | decide +kernel
theorem ef_17 (m : MethodId) (x0 : Int32) (x1 : Int32) : entryFrame m #[(.int x0), (.int x1)] 2 = mkF m 0 #[.val (.int x0), .val (.int x1)] [] := by first | (simp [entryFrame, mkF, argsToLocals, Value.category]; done) | rfl
theorem pd_II_V : parseMethodDescriptor "(II)V" = some ⟨[.int, .int], none⟩ := by decide +kernel
theorem d16_6 : decode jdk_43_method_2_code 6 = .ok (.aload_n 0, 1) := by decide +kernel
theorem d16_7 : decode jdk_43_method_2_code 7 = .ok (.iload_n 1, 1) := by decide +kernel
theorem d16_8 : decode jdk_43_method_2_code 8 = .ok (.baload, 1) := by decide +kernel
theorem d16_9 : decode jdk_43_method_2_code 9 = .ok (.sipush 255, 3) := by decide +kernel
theorem d16_12 : decode jdk_43_method_2_code 12 = .ok (.iand, 1) := by decide +kernel
theorem d16_13 : decode jdk_43_method_2_code 13 = .ok (.i2c, 1) := by decide +kernel
theorem d16_14 : decode jdk_43_method_2_code 14 = .ok (.ireturn, 1) := by decide +kernel
theorem pn_16 : plainName "java/lang/StringLatin1" = true := by first | (simp [plainName, overriddenIn]; done) | decide +kernel
theorem ef_16 (m : MethodId) (x0 : Addr) (x1 : Int32) : entryFrame m #[(.ref x0), (.int x1)] 2 = mkF m 0 #[.val (.ref x0), .val (.int x1)] [] := by first | (simp [entryFrame, mkF, argsToLocals, Value.category]; done) | rfl
theorem d14_15 : decode jdk_42_method_56_code 15 = .ok (.ireturn, 1) := by decide +kernel
theorem d15_17 : decode jdk_42_method_154_code 17 = .ok (.iconst 0, 1) := by decide +kernel
theorem d14_16 : decode jdk_42_method_56_code 16 = .ok (.aload_n 0, 1) := by decide +kernel
theorem d14_17 : decode jdk_42_method_56_code 17 = .ok (.getfield 9, 3) := by decide +kernel
theorem d14_20 : decode jdk_42_method_56_code 20 = .ok (.iload_n 1, 1) := by decide +kernel
theorem d14_21 : decode jdk_42_method_56_code 21 = .ok (.invokestatic 498, 3) := by decide +kernel
theorem d25_0 : decode jdk_52_method_83_code 0 = .ok (.iload_n 1, 1) := by decide +kernel
theorem d25_1 : decode jdk_52_method_83_code 1 = .ok (.aload_n 0, 1) := by decide +kernel
theorem d25_2 : decode jdk_52_method_83_code 2 = .ok (.invokestatic 67, 3) := by decide +kernel
theorem d26_0 : decode jdk_52_method_91_code 0 = .ok (.iload_n 0, 1) := by decide +kernel
theorem d26_1 : decode jdk_52_method_91_code 1 = .ok (.aload_n 1, 1) := by decide +kernel
theorem d26_2 : decode jdk_52_method_91_code 2 = .ok (.invokestatic 48, 3) := by decide +kernel
theorem d27_0 : decode jdk_52_method_6_code 0 = .ok (.aload_n 0, 1) := by decide +kernel
theorem d27_1 : decode jdk_52_method_6_code 1 = .ok (.arraylength, 1) := by decide +kernel
theorem d27_2 : decode jdk_52_method_6_code 2 = .ok (.iconst 1, 1) := by decide +kernel
theorem d27_3 : decode jdk_52_method_6_code 3 = .ok (.ishr, 1) := by decide +kernel
theorem d27_4 : decode jdk_52_method_6_code 4 = .ok (.ireturn, 1) := by decide +kernel
theorem pn_27 : plainName "java/lang/StringUTF16" = true := by first | (simp [plainName, overriddenIn]; done) | decide +kernel
theorem ef_27 (m : MethodId) (x0 : Addr) : entryFrame m #[(.ref x0)] 1 = mkF m 0 #[.val (.ref x0)] [] := by first | (simp [entryFrame, mkF, argsToLocals, Value.category]; done) | rfl
theorem pd_AB_I : parseMethodDescriptor "([B)I" = some ⟨[(.array .byte)], some .int⟩ := by decide +kernel
theorem d26_5 : decode jdk_52_method_91_code 5 = .ok (.invokestatic 414, 3) := by decide +kernel
theorem d26_8 : decode jdk_52_method_91_code 8 = .ok (.return_, 1) := by decide +kernel
theorem pn_26 : plainName "java/lang/StringUTF16" = true := by first | (simp [plainName, overriddenIn]; done) | decide +kernel
theorem ef_26 (m : MethodId) (x0 : Int32) (x1 : Addr) : entryFrame m #[(.int x0), (.ref x1)] 2 = mkF m 0 #[.val (.int x0), .val (.ref x1)] [] := by first | (simp [entryFrame, mkF, argsToLocals, Value.category]; done) | rfl
theorem pd_IAB_V : parseMethodDescriptor "(I[B)V" = some ⟨[.int, (.array .byte)], none⟩ := by decide +kernel
theorem d25_5 : decode jdk_52_method_83_code 5 = .ok (.aload_n 0, 1) := by decide +kernel
theorem d25_6 : decode jdk_52_method_83_code 6 = .ok (.iload_n 1, 1) := by decide +kernel
theorem d25_7 : decode jdk_52_method_83_code 7 = .ok (.invokestatic 71, 3) := by decide +kernel
theorem d25_10 : decode jdk_52_method_83_code 10 = .ok (.ireturn, 1) := by decide +kernel
theorem pn_25 : plainName "java/lang/StringUTF16" = true := by first | (simp [plainName, overriddenIn]; done) | decide +kernel
theorem ef_25 (m : MethodId) (x0 : Addr) (x1 : Int32) : entryFrame m #[(.ref x0), (.int x1)] 2 = mkF m 0 #[.val (.ref x0), .val (.int x1)] [] := by first | (simp [entryFrame, mkF, argsToLocals, Value.category]; done) | rfl
theorem d14_24 : decode jdk_42_method_56_code 24 = .ok (.ireturn, 1) := by decide +kernel
theorem pn_14 : plainName "java/lang/String" = true := by first | (simp [plainName, overriddenIn]; done) | decide +kernel
theorem ef_14 (m : MethodId) (x0 : Addr) (x1 : Int32) : entryFrame m #[(.ref x0), (.int x1)] 2 = mkF m 0 #[.val (.ref x0), .val (.int x1)] [] := by first | (simp [entryFrame, mkF, argsToLocals, Value.category]; done) | rfl
theorem pd_I_C : parseMethodDescriptor "(I)C" = some ⟨[.int], some .char⟩ := by decide +kernel
theorem d10_28 : decode prog_7_method_7_code 28 = .ok (.invokestatic 122, 3) := by decide +kernel
theorem pd_C_C : parseMethodDescriptor "(C)C" = some ⟨[.char], some .char⟩ := by decide +kernel
theorem d10_31 : decode prog_7_method_7_code 31 = .ok (.aload_n 1, 1) := by decide +kernel
theorem d10_32 : decode prog_7_method_7_code 32 = .ok (.iload_n 2, 1) := by decide +kernel
theorem d10_33 : decode prog_7_method_7_code 33 = .ok (.invokevirtual 23, 3) := by decide +kernel
theorem d10_36 : decode prog_7_method_7_code 36 = .ok (.invokestatic 122, 3) := by decide +kernel
theorem d10_13 : decode prog_7_method_7_code 13 = .ok (.iconst 0, 1) := by decide +kernel
theorem d10_14 : decode prog_7_method_7_code 14 = .ok (.istore_n 2, 1) := by decide +kernel
theorem d10_50 : decode prog_7_method_7_code 50 = .ok (.iconst 1, 1) := by decide +kernel
theorem d10_51 : decode prog_7_method_7_code 51 = .ok (.ireturn, 1) := by decide +kernel
theorem d10_39 : decode prog_7_method_7_code 39 = .ok (.if_icmp .eq 5, 3) := by decide +kernel
theorem d10_44 : decode prog_7_method_7_code 44 = .ok (.iinc 2 1, 3) := by decide +kernel
theorem d10_47 : decode prog_7_method_7_code 47 = .ok (.goto (-32), 3) := by decide +kernel
theorem d10_42 : decode prog_7_method_7_code 42 = .ok (.iconst 0, 1) := by decide +kernel
theorem d10_43 : decode prog_7_method_7_code 43 = .ok (.ireturn, 1) := by decide +kernel
theorem pn_10 : plainName "com/example/webhook_guard/webhookguard/http/HeaderField" = true := by first | (simp [plainName, overriddenIn]; done) | decide +kernel
theorem ef_10 (m : MethodId) (x0 : Addr) (x1 : Addr) : entryFrame m #[(.ref x0), (.ref x1)] 3 = mkF m 0 #[.val (.ref x0), .val (.ref x1), .unset] [] := by first | (simp [entryFrame, mkF, argsToLocals, Value.category]; done) | rfl
theorem pd_CC_Z : parseMethodDescriptor "(CC)Z" = some ⟨[.char, .char], some .boolean⟩ := by decide +kernel
theorem pd_CIII_C : parseMethodDescriptor "(CIII)C" = some ⟨[.char, .int, .int, .int], some .char⟩ := by decide +kernel
theorem pd_ICCC_Ljava_lang_String_ : parseMethodDescriptor "(ICCC)Ljava/lang/String;" = some ⟨[.int, .char, .char, .char], some (.object "java/lang/String")⟩ := by decide +kernel
theorem pd_Ljava_lang_String_Ljava_lang_String__Z : parseMethodDescriptor "(Ljava/lang/String;Ljava/lang/String;)Z" = some ⟨[(.object "java/lang/String"), (.object "java/lang/String")], some .boolean⟩ := by decide +kernel
theorem pn_0 : plainName "com/example/webhook_guard/webhookguard/http/HeaderFieldEqualsIgnoringAsciiCasePinLaw" = true := by first | (simp [plainName, overriddenIn]; done) | decide +kernel
theorem ef_0 (m : MethodId) (x0 : Int32) (x1 : Int32) (x2 : Int32) (x3 : Int32) (x4 : Int32) (x5 : Int32) : entryFrame m #[(.int x0), (.int x1), (.int x2), (.int x3), (.int x4), (.int x5)] maxLocals = mkF m 0 #[.val (.int x0), .val (.int x1), .val (.int x2), .val (.int x3), .val (.int x4), .val (.int x5), .unset, .unset, .unset, .unset, .unset, .unset, .unset, .unset, .unset, .unset, .unset] [] := by first | (simp [entryFrame, mkF, argsToLocals, Value.category, maxLocals]; done) | rfl
set_option maxRecDepth 65536 in
set_option maxHeartbeats 40000000 in
theorem rmDraw_0 (l : Launch) (Z : State) (a0 : Array Value) (hw : ∀ d ∈ tables_1, d.before a0 Z = true) (ws : List Jvm.Cond) (p1 : Int32) (p2 : Int32) (h0 : Heap) (n0 : Nat) (X00 : Old Z n0 h0) (hc5 : (p2 &&& (3 : Int32)) = (0 : Int32)) :
    MetFree l mn_3 (head1 (Jvm.Cond.code mn_3 method_3_code 3 (some .char) :: ws) ro_0) (fun a U => a = #[(.int p1), (.int p2)] ∧ Z.Warmed39 U.vm ∧ U.heap = h0) (fun _ _ _ _ _ => True) (fun _ U o U' => ∃ rv rL, o = .returned rv ∧ Qs (some (.int (own_draw p1 p2))) h0 n0 rv U'.heap rL ∧ FrameEnd U o U' rL ro_0.cells ro_0.slots) := by
  refine MetFree.of_bodySF (plainFor_of_name pn_1) hisR ?_
  intro p e s m args below meth c s₁ Bd hml0 hP hK
  obtain ⟨rfl, hZ, hh⟩ := hP
  have hx := Bd.exec
  have hby := Bd.bytes
  have hml : c.maxLocals = 3 := hml0
  have hown : s.vm.findClass "com/example/webhook_guard/webhookguard/http/HeaderFieldEqualsIgnoringAsciiCasePinLaw" = some m.cls := findClass_of_methodNamed Bd.named
  have hnm := (name_of_methodNamed Bd.named Bd.method).1
  have X0 : Stand p l e ro_0 s m #[(.int p1), (.int p2)] below meth c s₁ [] 0 0 := Stand.of_body Bd
  have e0 : s₁.heap = h0 := by rw [← hh, Bd.state]; rfl
  have N0 := Fr.nil n0
  have pre0 : ∀ t, Steps p.tables e below (s₁.setTop (mkF m 0 #[.val (.int p1), .val (.int p2), .unset] [])) t → Steps p.tables e below (s₁.setTop (entryFrame m #[(.int p1), (.int p2)] 3)) t := fun t k => castTop (ef_1 m p1 p2) k
  obtain ⟨fs, hr, hrun, hended, hW, hsame⟩ := X0.leave (v := some (.int (nar .char ((p1 &&& (127 : Int32)).toUInt32.toUInt16.toUInt32.toInt32)))) (fun h => by rw [Bd.returns] at h; cases h)
  refine ⟨_, _, pre0 _ ?_, hrun, hended, _, _, rfl, ?_, ⟨_, rfl⟩, hW, hsame.mono (by decide) (by decide)⟩
  · show Go p e below s₁ (mkF m 0 #[vi p1, vi p2, .unset] []) _
    refine XS.iloadN X0.here hx rfl (hb hby d1_0) rfl ?_
    show Go p e below s₁ (mkF m 1 #[vi p1, vi p2, .unset] [wi p2]) _
    refine XS.iconst X0.here hx rfl (hb hby d1_1) ?_
    show Go p e below s₁ (mkF m 2 #[vi p1, vi p2, .unset] [wi 3, wi p2]) _
    refine XS.iand X0.here hx rfl (hb hby d1_2) rfl ?_
    show Go p e below s₁ (mkF m 3 #[vi p1, vi p2, .unset] [wi (p2 &&& (3 : Int32))]) _
    refine XS.istoreN X0.here hx rfl (hb hby d1_3) rfl (l' := #[.val (.int p1), .val (.int p2), .val (.int (p2 &&& (3 : Int32)))]) rfl ?_
    show Go p e below s₁ (mkF m 4 #[vi p1, vi p2, vi (p2 &&& (3 : Int32))] []) _
    refine XS.iloadN X0.here hx rfl (hb hby d1_4) rfl ?_
    show Go p e below s₁ (mkF m 5 #[vi p1, vi p2, vi (p2 &&& (3 : Int32))] [wi (p2 &&& (3 : Int32))]) _
    refine XS.ifNo X0.here hx rfl (hb hby d1_5) rfl ((if0 _ _).trans (teq hc5).2) ?_
    show Go p e below s₁ (mkF m 8 #[vi p1, vi p2, vi (p2 &&& (3 : Int32))] []) _
    refine XS.iloadN X0.here hx rfl (hb hby d1_8) rfl ?_
    show Go p e below s₁ (mkF m 9 #[vi p1, vi p2, vi (p2 &&& (3 : Int32))] [wi p1]) _
    refine XS.bipush X0.here hx rfl (hb hby d1_9) ?_
    show Go p e below s₁ (mkF m 11 #[vi p1, vi p2, vi (p2 &&& (3 : Int32))] [wi 127, wi p1]) _
    refine XS.iand X0.here hx rfl (hb hby d1_11) rfl ?_
    show Go p e below s₁ (mkF m 12 #[vi p1, vi p2, vi (p2 &&& (3 : Int32))] [wi (p1 &&& (127 : Int32))]) _
    refine XS.i2c X0.here hx rfl (hb hby d1_12) rfl ?_
    show Go p e below s₁ (mkF m 13 #[vi p1, vi p2, vi (p2 &&& (3 : Int32))] [wi ((p1 &&& (127 : Int32)).toUInt32.toUInt16.toUInt32.toInt32)]) _
    exact retN X0 hx (t := .char) Bd.returns (by simp) (hb hby d1_13) hr
  · show Qs (some (.int (own_draw p1 p2))) h0 n0 _ s₁.heap _
    rw [e0]
    exact ⟨by rw [own_draw, if_pos hc5], N0, rfl⟩
set_option maxRecDepth 65536 in
set_option maxHeartbeats 40000000 in
theorem rmDraw_1 (l : Launch) (Z : State) (a0 : Array Value) (hw : ∀ d ∈ tables_1, d.before a0 Z = true) (ws : List Jvm.Cond) (p1 : Int32) (p2 : Int32) (h0 : Heap) (n0 : Nat) (X00 : Old Z n0 h0) (hc5 : ¬ ((p2 &&& (3 : Int32)) = (0 : Int32))) (hc16 : (p2 &&& (3 : Int32)) = (1 : Int32)) :
    MetFree l mn_3 (head1 (Jvm.Cond.code mn_3 method_3_code 3 (some .char) :: ws) ro_0) (fun a U => a = #[(.int p1), (.int p2)] ∧ Z.Warmed39 U.vm ∧ U.heap = h0) (fun _ _ _ _ _ => True) (fun _ U o U' => ∃ rv rL, o = .returned rv ∧ Qs (some (.int (own_draw p1 p2))) h0 n0 rv U'.heap rL ∧ FrameEnd U o U' rL ro_0.cells ro_0.slots) := by
  refine MetFree.of_bodySF (plainFor_of_name pn_1) hisR ?_
  intro p e s m args below meth c s₁ Bd hml0 hP hK
  obtain ⟨rfl, hZ, hh⟩ := hP
  have hx := Bd.exec
  have hby := Bd.bytes
  have hml : c.maxLocals = 3 := hml0
  have hown : s.vm.findClass "com/example/webhook_guard/webhookguard/http/HeaderFieldEqualsIgnoringAsciiCasePinLaw" = some m.cls := findClass_of_methodNamed Bd.named
  have hnm := (name_of_methodNamed Bd.named Bd.method).1
  have X0 : Stand p l e ro_0 s m #[(.int p1), (.int p2)] below meth c s₁ [] 0 0 := Stand.of_body Bd
  have e0 : s₁.heap = h0 := by rw [← hh, Bd.state]; rfl
  have N0 := Fr.nil n0
  have pre0 : ∀ t, Steps p.tables e below (s₁.setTop (mkF m 0 #[.val (.int p1), .val (.int p2), .unset] [])) t → Steps p.tables e below (s₁.setTop (entryFrame m #[(.int p1), (.int p2)] 3)) t := fun t k => castTop (ef_1 m p1 p2) k
  obtain ⟨fs, hr, hrun, hended, hW, hsame⟩ := X0.leave (v := some (.int (nar .char ((p1 &&& (255 : Int32)).toUInt32.toUInt16.toUInt32.toInt32)))) (fun h => by rw [Bd.returns] at h; cases h)
  refine ⟨_, _, pre0 _ ?_, hrun, hended, _, _, rfl, ?_, ⟨_, rfl⟩, hW, hsame.mono (by decide) (by decide)⟩
  · show Go p e below s₁ (mkF m 0 #[vi p1, vi p2, .unset] []) _
    refine XS.iloadN X0.here hx rfl (hb hby d1_0) rfl ?_
    show Go p e below s₁ (mkF m 1 #[vi p1, vi p2, .unset] [wi p2]) _
    refine XS.iconst X0.here hx rfl (hb hby d1_1) ?_
    show Go p e below s₁ (mkF m 2 #[vi p1, vi p2, .unset] [wi 3, wi p2]) _
    refine XS.iand X0.here hx rfl (hb hby d1_2) rfl ?_
    show Go p e below s₁ (mkF m 3 #[vi p1, vi p2, .unset] [wi (p2 &&& (3 : Int32))]) _
    refine XS.istoreN X0.here hx rfl (hb hby d1_3) rfl (l' := #[.val (.int p1), .val (.int p2), .val (.int (p2 &&& (3 : Int32)))]) rfl ?_
    show Go p e below s₁ (mkF m 4 #[vi p1, vi p2, vi (p2 &&& (3 : Int32))] []) _
    refine XS.iloadN X0.here hx rfl (hb hby d1_4) rfl ?_
    show Go p e below s₁ (mkF m 5 #[vi p1, vi p2, vi (p2 &&& (3 : Int32))] [wi (p2 &&& (3 : Int32))]) _
    refine XS.ifYes X0.here hx rfl (pc0 := 5) (pc' := 14) rfl (hb hby d1_5) rfl ((if0 _ _).trans (feq hc5).2) (by decide) (by decide) ?_
    show Go p e below s₁ (mkF m 14 #[vi p1, vi p2, vi (p2 &&& (3 : Int32))] []) _
    refine XS.iloadN X0.here hx rfl (hb hby d1_14) rfl ?_
    show Go p e below s₁ (mkF m 15 #[vi p1, vi p2, vi (p2 &&& (3 : Int32))] [wi (p2 &&& (3 : Int32))]) _
    refine XS.iconst X0.here hx rfl (hb hby d1_15) ?_
    show Go p e below s₁ (mkF m 16 #[vi p1, vi p2, vi (p2 &&& (3 : Int32))] [wi 1, wi (p2 &&& (3 : Int32))]) _
    refine XS.icmpNo X0.here hx rfl (hb hby d1_16) rfl (teq hc16).2 ?_
    show Go p e below s₁ (mkF m 19 #[vi p1, vi p2, vi (p2 &&& (3 : Int32))] []) _
    refine XS.iloadN X0.here hx rfl (hb hby d1_19) rfl ?_
    show Go p e below s₁ (mkF m 20 #[vi p1, vi p2, vi (p2 &&& (3 : Int32))] [wi p1]) _
    refine XS.sipush X0.here hx rfl (hb hby d1_20) ?_
    show Go p e below s₁ (mkF m 23 #[vi p1, vi p2, vi (p2 &&& (3 : Int32))] [wi 255, wi p1]) _
    refine XS.iand X0.here hx rfl (hb hby d1_23) rfl ?_
    show Go p e below s₁ (mkF m 24 #[vi p1, vi p2, vi (p2 &&& (3 : Int32))] [wi (p1 &&& (255 : Int32))]) _
    refine XS.i2c X0.here hx rfl (hb hby d1_24) rfl ?_
    show Go p e below s₁ (mkF m 25 #[vi p1, vi p2, vi (p2 &&& (3 : Int32))] [wi ((p1 &&& (255 : Int32)).toUInt32.toUInt16.toUInt32.toInt32)]) _
    exact retN X0 hx (t := .char) Bd.returns (by simp) (hb hby d1_25) hr
  · show Qs (some (.int (own_draw p1 p2))) h0 n0 _ s₁.heap _
    rw [e0]
    exact ⟨by rw [own_draw, if_neg hc5, if_pos hc16], N0, rfl⟩
set_option maxRecDepth 65536 in
set_option maxHeartbeats 40000000 in
theorem rmDraw_2 (l : Launch) (Z : State) (a0 : Array Value) (hw : ∀ d ∈ tables_1, d.before a0 Z = true) (ws : List Jvm.Cond) (p1 : Int32) (p2 : Int32) (h0 : Heap) (n0 : Nat) (X00 : Old Z n0 h0) (hc5 : ¬ ((p2 &&& (3 : Int32)) = (0 : Int32))) (hc16 : ¬ ((p2 &&& (3 : Int32)) = (1 : Int32))) :
    MetFree l mn_3 (head1 (Jvm.Cond.code mn_3 method_3_code 3 (some .char) :: ws) ro_0) (fun a U => a = #[(.int p1), (.int p2)] ∧ Z.Warmed39 U.vm ∧ U.heap = h0) (fun _ _ _ _ _ => True) (fun _ U o U' => ∃ rv rL, o = .returned rv ∧ Qs (some (.int (own_draw p1 p2))) h0 n0 rv U'.heap rL ∧ FrameEnd U o U' rL ro_0.cells ro_0.slots) := by
  refine MetFree.of_bodySF (plainFor_of_name pn_1) hisR ?_
  intro p e s m args below meth c s₁ Bd hml0 hP hK
  obtain ⟨rfl, hZ, hh⟩ := hP
  have hx := Bd.exec
  have hby := Bd.bytes
  have hml : c.maxLocals = 3 := hml0
  have hown : s.vm.findClass "com/example/webhook_guard/webhookguard/http/HeaderFieldEqualsIgnoringAsciiCasePinLaw" = some m.cls := findClass_of_methodNamed Bd.named
  have hnm := (name_of_methodNamed Bd.named Bd.method).1
  have X0 : Stand p l e ro_0 s m #[(.int p1), (.int p2)] below meth c s₁ [] 0 0 := Stand.of_body Bd
  have e0 : s₁.heap = h0 := by rw [← hh, Bd.state]; rfl
  have N0 := Fr.nil n0
  have pre0 : ∀ t, Steps p.tables e below (s₁.setTop (mkF m 0 #[.val (.int p1), .val (.int p2), .unset] [])) t → Steps p.tables e below (s₁.setTop (entryFrame m #[(.int p1), (.int p2)] 3)) t := fun t k => castTop (ef_1 m p1 p2) k
  obtain ⟨fs, hr, hrun, hended, hW, hsame⟩ := X0.leave (v := some (.int (nar .char ((p1 &&& (65535 : Int32)).toUInt32.toUInt16.toUInt32.toInt32)))) (fun h => by rw [Bd.returns] at h; cases h)
  refine ⟨_, _, pre0 _ ?_, hrun, hended, _, _, rfl, ?_, ⟨_, rfl⟩, hW, hsame.mono (by decide) (by decide)⟩
  · show Go p e below s₁ (mkF m 0 #[vi p1, vi p2, .unset] []) _
    refine XS.iloadN X0.here hx rfl (hb hby d1_0) rfl ?_
    show Go p e below s₁ (mkF m 1 #[vi p1, vi p2, .unset] [wi p2]) _
    refine XS.iconst X0.here hx rfl (hb hby d1_1) ?_
    show Go p e below s₁ (mkF m 2 #[vi p1, vi p2, .unset] [wi 3, wi p2]) _
    refine XS.iand X0.here hx rfl (hb hby d1_2) rfl ?_
    show Go p e below s₁ (mkF m 3 #[vi p1, vi p2, .unset] [wi (p2 &&& (3 : Int32))]) _
    refine XS.istoreN X0.here hx rfl (hb hby d1_3) rfl (l' := #[.val (.int p1), .val (.int p2), .val (.int (p2 &&& (3 : Int32)))]) rfl ?_
    show Go p e below s₁ (mkF m 4 #[vi p1, vi p2, vi (p2 &&& (3 : Int32))] []) _
    refine XS.iloadN X0.here hx rfl (hb hby d1_4) rfl ?_
    show Go p e below s₁ (mkF m 5 #[vi p1, vi p2, vi (p2 &&& (3 : Int32))] [wi (p2 &&& (3 : Int32))]) _
    refine XS.ifYes X0.here hx rfl (pc0 := 5) (pc' := 14) rfl (hb hby d1_5) rfl ((if0 _ _).trans (feq hc5).2) (by decide) (by decide) ?_
    show Go p e below s₁ (mkF m 14 #[vi p1, vi p2, vi (p2 &&& (3 : Int32))] []) _
    refine XS.iloadN X0.here hx rfl (hb hby d1_14) rfl ?_
    show Go p e below s₁ (mkF m 15 #[vi p1, vi p2, vi (p2 &&& (3 : Int32))] [wi (p2 &&& (3 : Int32))]) _
    refine XS.iconst X0.here hx rfl (hb hby d1_15) ?_
    show Go p e below s₁ (mkF m 16 #[vi p1, vi p2, vi (p2 &&& (3 : Int32))] [wi 1, wi (p2 &&& (3 : Int32))]) _
    refine XS.icmpYes X0.here hx rfl (pc0 := 16) (pc' := 26) rfl (hb hby d1_16) rfl (feq hc16).2 (by decide) (by decide) ?_
    show Go p e below s₁ (mkF m 26 #[vi p1, vi p2, vi (p2 &&& (3 : Int32))] []) _
    refine XS.iloadN X0.here hx rfl (hb hby d1_26) rfl ?_
    show Go p e below s₁ (mkF m 27 #[vi p1, vi p2, vi (p2 &&& (3 : Int32))] [wi p1]) _
    refine X0.ldcInt hx hown (mvT hZ (tw hw 57 rfl)) (g := (mkF m 27 #[vi p1, vi p2, vi (p2 &&& (3 : Int32))] [wi p1])) rfl (hb hby d1_27) _ ?_
    show Go p e below s₁ (mkF m 29 #[vi p1, vi p2, vi (p2 &&& (3 : Int32))] [wi 65535, wi p1]) _
    refine XS.iand X0.here hx rfl (hb hby d1_29) rfl ?_
    show Go p e below s₁ (mkF m 30 #[vi p1, vi p2, vi (p2 &&& (3 : Int32))] [wi (p1 &&& (65535 : Int32))]) _
    refine XS.i2c X0.here hx rfl (hb hby d1_30) rfl ?_
    show Go p e below s₁ (mkF m 31 #[vi p1, vi p2, vi (p2 &&& (3 : Int32))] [wi ((p1 &&& (65535 : Int32)).toUInt32.toUInt16.toUInt32.toInt32)]) _
    exact retN X0 hx (t := .char) Bd.returns (by simp) (hb hby d1_31) hr
  · show Qs (some (.int (own_draw p1 p2))) h0 n0 _ s₁.heap _
    rw [e0]
    exact ⟨by rw [own_draw, if_neg hc5, if_neg hc16], N0, rfl⟩
theorem rmDraw (l : Launch) (Z : State) (a0 : Array Value) (hw : ∀ d ∈ tables_1, d.before a0 Z = true) (ws : List Jvm.Cond) (p1 : Int32) (p2 : Int32) (h0 : Heap) (n0 : Nat) (X00 : Old Z n0 h0) :
    MetFree l mn_3 (head1 (Jvm.Cond.code mn_3 method_3_code 3 (some .char) :: ws) ro_0) (fun a U => a = #[(.int p1), (.int p2)] ∧ Z.Warmed39 U.vm ∧ U.heap = h0) (fun _ _ _ _ _ => True) (fun _ U o U' => ∃ rv rL, o = .returned rv ∧ Qs (some (.int (own_draw p1 p2))) h0 n0 rv U'.heap rL ∧ FrameEnd U o U' rL ro_0.cells ro_0.slots) := by
  by_cases c : (p2 &&& (3 : Int32)) = (0 : Int32)
  · exact rmDraw_0 l Z a0 hw ws p1 p2 h0 n0 X00 c
  · by_cases d : (p2 &&& (3 : Int32)) = (1 : Int32)
    · exact rmDraw_1 l Z a0 hw ws p1 p2 h0 n0 X00 c d
    · exact rmDraw_2 l Z a0 hw ws p1 p2 h0 n0 X00 c d
set_option maxRecDepth 65536 in
set_option maxHeartbeats 40000000 in
theorem rmDer_0 (l : Launch) (Z : State) (a0 : Array Value) (hw : ∀ d ∈ tables_1, d.before a0 Z = true) (ws : List Jvm.Cond) (p1 : Int32) (p2 : Int32) (p3 : Int32) (p4 : Int32) (h0 : Heap) (n0 : Nat) (X00 : Old Z n0 h0) (hc8 : (p3 &&& (3 : Int32)) = (1 : Int32)) :
    MetFree l mn_2 (head1 (Jvm.Cond.code mn_2 method_4_code 5 (some .char) :: ws) ro_1) (fun a U => a = #[(.int p1), (.int p2), (.int p3), (.int p4)] ∧ Z.Warmed39 U.vm ∧ U.heap = h0) (fun _ _ _ _ _ => True) (fun _ U o U' => ∃ rv rL, o = .returned rv ∧ Qs (some (.int (own_derive p1 p2 p3 p4))) h0 n0 rv U'.heap rL ∧ FrameEnd U o U' rL ro_1.cells ro_1.slots) := by
  refine MetFree.of_bodySF (plainFor_of_name pn_2) hisR ?_
  intro p e s m args below meth c s₁ Bd hml0 hP hK
  obtain ⟨rfl, hZ, hh⟩ := hP
  have hx := Bd.exec
  have hby := Bd.bytes
  have hml : c.maxLocals = 5 := hml0
  have hown : s.vm.findClass "com/example/webhook_guard/webhookguard/http/HeaderFieldEqualsIgnoringAsciiCasePinLaw" = some m.cls := findClass_of_methodNamed Bd.named
  have hnm := (name_of_methodNamed Bd.named Bd.method).1
  have X0 : Stand p l e ro_1 s m #[(.int p1), (.int p2), (.int p3), (.int p4)] below meth c s₁ [] 0 0 := Stand.of_body Bd
  have e0 : s₁.heap = h0 := by rw [← hh, Bd.state]; rfl
  have N0 := Fr.nil n0
  have pre0 : ∀ t, Steps p.tables e below (s₁.setTop (mkF m 0 #[.val (.int p1), .val (.int p2), .val (.int p3), .val (.int p4), .unset] [])) t → Steps p.tables e below (s₁.setTop (entryFrame m #[(.int p1), (.int p2), (.int p3), (.int p4)] 5)) t := fun t k => castTop (ef_2 m p1 p2 p3 p4) k
  obtain ⟨fs, hr, hrun, hended, hW, hsame⟩ := X0.leave (v := some (.int (nar .char ((p1 ^^^ (32 : Int32)).toUInt32.toUInt16.toUInt32.toInt32)))) (fun h => by rw [Bd.returns] at h; cases h)
  refine ⟨_, _, pre0 _ ?_, hrun, hended, _, _, rfl, ?_, ⟨_, rfl⟩, hW, hsame.mono (by decide) (by decide)⟩
  · show Go p e below s₁ (mkF m 0 #[vi p1, vi p2, vi p3, vi p4, .unset] []) _
    refine XS.iloadN X0.here hx rfl (hb hby d2_0) rfl ?_
    show Go p e below s₁ (mkF m 1 #[vi p1, vi p2, vi p3, vi p4, .unset] [wi p3]) _
    refine XS.iconst X0.here hx rfl (hb hby d2_1) ?_
    show Go p e below s₁ (mkF m 2 #[vi p1, vi p2, vi p3, vi p4, .unset] [wi 3, wi p3]) _
    refine XS.iand X0.here hx rfl (hb hby d2_2) rfl ?_
    show Go p e below s₁ (mkF m 3 #[vi p1, vi p2, vi p3, vi p4, .unset] [wi (p3 &&& (3 : Int32))]) _
    refine XS.istore X0.here hx rfl (hb hby d2_3) rfl (l' := #[.val (.int p1), .val (.int p2), .val (.int p3), .val (.int p4), .val (.int (p3 &&& (3 : Int32)))]) rfl ?_
    show Go p e below s₁ (mkF m 5 #[vi p1, vi p2, vi p3, vi p4, vi (p3 &&& (3 : Int32))] []) _
    refine XS.iload X0.here hx rfl (hb hby d2_5) rfl ?_
    show Go p e below s₁ (mkF m 7 #[vi p1, vi p2, vi p3, vi p4, vi (p3 &&& (3 : Int32))] [wi (p3 &&& (3 : Int32))]) _
    refine XS.iconst X0.here hx rfl (hb hby d2_7) ?_
    show Go p e below s₁ (mkF m 8 #[vi p1, vi p2, vi p3, vi p4, vi (p3 &&& (3 : Int32))] [wi 1, wi (p3 &&& (3 : Int32))]) _
    refine XS.icmpNo X0.here hx rfl (hb hby d2_8) rfl (teq hc8).2 ?_
    show Go p e below s₁ (mkF m 11 #[vi p1, vi p2, vi p3, vi p4, vi (p3 &&& (3 : Int32))] []) _
    refine XS.iloadN X0.here hx rfl (hb hby d2_11) rfl ?_
    show Go p e below s₁ (mkF m 12 #[vi p1, vi p2, vi p3, vi p4, vi (p3 &&& (3 : Int32))] [wi p1]) _
    refine XS.bipush X0.here hx rfl (hb hby d2_12) ?_
    show Go p e below s₁ (mkF m 14 #[vi p1, vi p2, vi p3, vi p4, vi (p3 &&& (3 : Int32))] [wi 32, wi p1]) _
    refine XS.ixor X0.here hx rfl (hb hby d2_14) rfl ?_
    show Go p e below s₁ (mkF m 15 #[vi p1, vi p2, vi p3, vi p4, vi (p3 &&& (3 : Int32))] [wi (p1 ^^^ (32 : Int32))]) _
    refine XS.i2c X0.here hx rfl (hb hby d2_15) rfl ?_
    show Go p e below s₁ (mkF m 16 #[vi p1, vi p2, vi p3, vi p4, vi (p3 &&& (3 : Int32))] [wi ((p1 ^^^ (32 : Int32)).toUInt32.toUInt16.toUInt32.toInt32)]) _
    exact retN X0 hx (t := .char) Bd.returns (by simp) (hb hby d2_16) hr
  · show Qs (some (.int (own_derive p1 p2 p3 p4))) h0 n0 _ s₁.heap _
    rw [e0]
    exact ⟨by rw [own_derive, if_pos hc8], N0, rfl⟩
set_option maxRecDepth 65536 in
set_option maxHeartbeats 40000000 in
theorem rmDer_1 (l : Launch) (Z : State) (a0 : Array Value) (hw : ∀ d ∈ tables_1, d.before a0 Z = true) (ws : List Jvm.Cond) (p1 : Int32) (p2 : Int32) (p3 : Int32) (p4 : Int32) (h0 : Heap) (n0 : Nat) (X00 : Old Z n0 h0) (hc8 : ¬ ((p3 &&& (3 : Int32)) = (1 : Int32))) (hc20 : (p3 &&& (3 : Int32)) = (2 : Int32)) :
    MetFree l mn_2 (head1 (Jvm.Cond.code mn_2 method_4_code 5 (some .char) :: ws) ro_1) (fun a U => a = #[(.int p1), (.int p2), (.int p3), (.int p4)] ∧ Z.Warmed39 U.vm ∧ U.heap = h0) (fun _ _ _ _ _ => True) (fun _ U o U' => ∃ rv rL, o = .returned rv ∧ Qs (some (.int (own_derive p1 p2 p3 p4))) h0 n0 rv U'.heap rL ∧ FrameEnd U o U' rL ro_1.cells ro_1.slots) := by
  refine MetFree.of_bodySF (plainFor_of_name pn_2) hisR ?_
  intro p e s m args below meth c s₁ Bd hml0 hP hK
  obtain ⟨rfl, hZ, hh⟩ := hP
  have hx := Bd.exec
  have hby := Bd.bytes
  have hml : c.maxLocals = 5 := hml0
  have hown : s.vm.findClass "com/example/webhook_guard/webhookguard/http/HeaderFieldEqualsIgnoringAsciiCasePinLaw" = some m.cls := findClass_of_methodNamed Bd.named
  have hnm := (name_of_methodNamed Bd.named Bd.method).1
  have X0 : Stand p l e ro_1 s m #[(.int p1), (.int p2), (.int p3), (.int p4)] below meth c s₁ [] 0 0 := Stand.of_body Bd
  have e0 : s₁.heap = h0 := by rw [← hh, Bd.state]; rfl
  have N0 := Fr.nil n0
  have pre0 : ∀ t, Steps p.tables e below (s₁.setTop (mkF m 0 #[.val (.int p1), .val (.int p2), .val (.int p3), .val (.int p4), .unset] [])) t → Steps p.tables e below (s₁.setTop (entryFrame m #[(.int p1), (.int p2), (.int p3), (.int p4)] 5)) t := fun t k => castTop (ef_2 m p1 p2 p3 p4) k
  obtain ⟨_, _, ⟨T101, L101, k101, n101⟩, -, X101, ⟨Lc101, hQ101, l101, y101, z101⟩, st101⟩ := Jvm.LawKit.callS X0 hx (y := mn_3) hown (mvT hZ (tw hw 0 rfl)) (mvT hZ (tw hw 1 rfl)) (mvT hZ (tw hw 2 rfl)) (mvT hZ (tw hw 3 rfl)) (by decide) (backOf (W := 0) (rmDraw l Z a0 hw [] p2 p4 h0 n0 X00 ) hZ (tw hw 3 rfl) (tw hw 2 rfl) (by decide) (by decide)) (g := (mkF m 25 #[vi p1, vi p2, vi p3, vi p4, vi (p3 &&& (3 : Int32))] [wi p4, wi p2])) rfl (by rw [hml]; rfl) (argsL := [wi p2, wi p4]) (rest := []) (lenOf pd_II_C rfl) rfl (Nat.le_refl _) (hb hby d2_25) (fun _ _ => ⟨rfl, e0, (by decide : 0 + 0 ≤ _), (by decide : 0 + 0 ≤ _)⟩)
  dsimp only [Pt.U, Pt.locs, Pt.cells, Pt.slots] at X101 l101 y101 z101 st101 hQ101
  subst l101 y101 z101
  obtain ⟨rfl, N101q, eq101⟩ := hQ101
  have N101 := Fr.app N0 N101q
  obtain ⟨fs, hr, hrun, hended, hW, hsame⟩ := X101.leave (v := some (.int (nar .char (own_draw p2 p4)))) (fun h => by rw [Bd.returns] at h; cases h)
  refine ⟨_, _, pre0 _ ?_, hrun, hended, _, _, rfl, ?_, ⟨_, rfl⟩, hW, hsame.mono (by decide) (by decide)⟩
  · show Go p e below s₁ (mkF m 0 #[vi p1, vi p2, vi p3, vi p4, .unset] []) _
    refine XS.iloadN X0.here hx rfl (hb hby d2_0) rfl ?_
    show Go p e below s₁ (mkF m 1 #[vi p1, vi p2, vi p3, vi p4, .unset] [wi p3]) _
    refine XS.iconst X0.here hx rfl (hb hby d2_1) ?_
    show Go p e below s₁ (mkF m 2 #[vi p1, vi p2, vi p3, vi p4, .unset] [wi 3, wi p3]) _
    refine XS.iand X0.here hx rfl (hb hby d2_2) rfl ?_
    show Go p e below s₁ (mkF m 3 #[vi p1, vi p2, vi p3, vi p4, .unset] [wi (p3 &&& (3 : Int32))]) _
    refine XS.istore X0.here hx rfl (hb hby d2_3) rfl (l' := #[.val (.int p1), .val (.int p2), .val (.int p3), .val (.int p4), .val (.int (p3 &&& (3 : Int32)))]) rfl ?_
    show Go p e below s₁ (mkF m 5 #[vi p1, vi p2, vi p3, vi p4, vi (p3 &&& (3 : Int32))] []) _
    refine XS.iload X0.here hx rfl (hb hby d2_5) rfl ?_
    show Go p e below s₁ (mkF m 7 #[vi p1, vi p2, vi p3, vi p4, vi (p3 &&& (3 : Int32))] [wi (p3 &&& (3 : Int32))]) _
    refine XS.iconst X0.here hx rfl (hb hby d2_7) ?_
    show Go p e below s₁ (mkF m 8 #[vi p1, vi p2, vi p3, vi p4, vi (p3 &&& (3 : Int32))] [wi 1, wi (p3 &&& (3 : Int32))]) _
    refine XS.icmpYes X0.here hx rfl (pc0 := 8) (pc' := 17) rfl (hb hby d2_8) rfl (feq hc8).2 (by decide) (by decide) ?_
    show Go p e below s₁ (mkF m 17 #[vi p1, vi p2, vi p3, vi p4, vi (p3 &&& (3 : Int32))] []) _
    refine XS.iload X0.here hx rfl (hb hby d2_17) rfl ?_
    show Go p e below s₁ (mkF m 19 #[vi p1, vi p2, vi p3, vi p4, vi (p3 &&& (3 : Int32))] [wi (p3 &&& (3 : Int32))]) _
    refine XS.iconst X0.here hx rfl (hb hby d2_19) ?_
    show Go p e below s₁ (mkF m 20 #[vi p1, vi p2, vi p3, vi p4, vi (p3 &&& (3 : Int32))] [wi 2, wi (p3 &&& (3 : Int32))]) _
    refine XS.icmpNo X0.here hx rfl (hb hby d2_20) rfl (teq hc20).2 ?_
    show Go p e below s₁ (mkF m 23 #[vi p1, vi p2, vi p3, vi p4, vi (p3 &&& (3 : Int32))] []) _
    refine XS.iloadN X0.here hx rfl (hb hby d2_23) rfl ?_
    show Go p e below s₁ (mkF m 24 #[vi p1, vi p2, vi p3, vi p4, vi (p3 &&& (3 : Int32))] [wi p2]) _
    refine XS.iloadN X0.here hx rfl (hb hby d2_24) rfl ?_
    show Go p e below s₁ (mkF m 25 #[vi p1, vi p2, vi p3, vi p4, vi (p3 &&& (3 : Int32))] [wi p4, wi p2]) _
    refine st101 _ ?_
    show Go p e below T101 (mkF m 28 #[vi p1, vi p2, vi p3, vi p4, vi (p3 &&& (3 : Int32))] [wi (own_draw p2 p4)]) _
    exact retN X101 hx (t := .char) Bd.returns (by simp) (hb hby d2_28) hr
  · show Qs (some (.int (own_derive p1 p2 p3 p4))) h0 n0 _ T101.heap _
    rw [eq101]
    exact ⟨by rw [own_derive, if_neg hc8, if_pos hc20], N101, rfl⟩
set_option maxRecDepth 65536 in
set_option maxHeartbeats 40000000 in
theorem rmDer_2 (l : Launch) (Z : State) (a0 : Array Value) (hw : ∀ d ∈ tables_1, d.before a0 Z = true) (ws : List Jvm.Cond) (p1 : Int32) (p2 : Int32) (p3 : Int32) (p4 : Int32) (h0 : Heap) (n0 : Nat) (X00 : Old Z n0 h0) (hc8 : ¬ ((p3 &&& (3 : Int32)) = (1 : Int32))) (hc20 : ¬ ((p3 &&& (3 : Int32)) = (2 : Int32))) :
    MetFree l mn_2 (head1 (Jvm.Cond.code mn_2 method_4_code 5 (some .char) :: ws) ro_1) (fun a U => a = #[(.int p1), (.int p2), (.int p3), (.int p4)] ∧ Z.Warmed39 U.vm ∧ U.heap = h0) (fun _ _ _ _ _ => True) (fun _ U o U' => ∃ rv rL, o = .returned rv ∧ Qs (some (.int (own_derive p1 p2 p3 p4))) h0 n0 rv U'.heap rL ∧ FrameEnd U o U' rL ro_1.cells ro_1.slots) := by
  refine MetFree.of_bodySF (plainFor_of_name pn_2) hisR ?_
  intro p e s m args below meth c s₁ Bd hml0 hP hK
  obtain ⟨rfl, hZ, hh⟩ := hP
  have hx := Bd.exec
  have hby := Bd.bytes
  have hml : c.maxLocals = 5 := hml0
  have hown : s.vm.findClass "com/example/webhook_guard/webhookguard/http/HeaderFieldEqualsIgnoringAsciiCasePinLaw" = some m.cls := findClass_of_methodNamed Bd.named
  have hnm := (name_of_methodNamed Bd.named Bd.method).1
  have X0 : Stand p l e ro_1 s m #[(.int p1), (.int p2), (.int p3), (.int p4)] below meth c s₁ [] 0 0 := Stand.of_body Bd
  have e0 : s₁.heap = h0 := by rw [← hh, Bd.state]; rfl
  have N0 := Fr.nil n0
  have pre0 : ∀ t, Steps p.tables e below (s₁.setTop (mkF m 0 #[.val (.int p1), .val (.int p2), .val (.int p3), .val (.int p4), .unset] [])) t → Steps p.tables e below (s₁.setTop (entryFrame m #[(.int p1), (.int p2), (.int p3), (.int p4)] 5)) t := fun t k => castTop (ef_2 m p1 p2 p3 p4) k
  obtain ⟨fs, hr, hrun, hended, hW, hsame⟩ := X0.leave (v := some (.int (nar .char p1))) (fun h => by rw [Bd.returns] at h; cases h)
  refine ⟨_, _, pre0 _ ?_, hrun, hended, _, _, rfl, ?_, ⟨_, rfl⟩, hW, hsame.mono (by decide) (by decide)⟩
  · show Go p e below s₁ (mkF m 0 #[vi p1, vi p2, vi p3, vi p4, .unset] []) _
    refine XS.iloadN X0.here hx rfl (hb hby d2_0) rfl ?_
    show Go p e below s₁ (mkF m 1 #[vi p1, vi p2, vi p3, vi p4, .unset] [wi p3]) _
    refine XS.iconst X0.here hx rfl (hb hby d2_1) ?_
    show Go p e below s₁ (mkF m 2 #[vi p1, vi p2, vi p3, vi p4, .unset] [wi 3, wi p3]) _
    refine XS.iand X0.here hx rfl (hb hby d2_2) rfl ?_
    show Go p e below s₁ (mkF m 3 #[vi p1, vi p2, vi p3, vi p4, .unset] [wi (p3 &&& (3 : Int32))]) _
    refine XS.istore X0.here hx rfl (hb hby d2_3) rfl (l' := #[.val (.int p1), .val (.int p2), .val (.int p3), .val (.int p4), .val (.int (p3 &&& (3 : Int32)))]) rfl ?_
    show Go p e below s₁ (mkF m 5 #[vi p1, vi p2, vi p3, vi p4, vi (p3 &&& (3 : Int32))] []) _
    refine XS.iload X0.here hx rfl (hb hby d2_5) rfl ?_
    show Go p e below s₁ (mkF m 7 #[vi p1, vi p2, vi p3, vi p4, vi (p3 &&& (3 : Int32))] [wi (p3 &&& (3 : Int32))]) _
    refine XS.iconst X0.here hx rfl (hb hby d2_7) ?_
    show Go p e below s₁ (mkF m 8 #[vi p1, vi p2, vi p3, vi p4, vi (p3 &&& (3 : Int32))] [wi 1, wi (p3 &&& (3 : Int32))]) _
    refine XS.icmpYes X0.here hx rfl (pc0 := 8) (pc' := 17) rfl (hb hby d2_8) rfl (feq hc8).2 (by decide) (by decide) ?_
    show Go p e below s₁ (mkF m 17 #[vi p1, vi p2, vi p3, vi p4, vi (p3 &&& (3 : Int32))] []) _
    refine XS.iload X0.here hx rfl (hb hby d2_17) rfl ?_
    show Go p e below s₁ (mkF m 19 #[vi p1, vi p2, vi p3, vi p4, vi (p3 &&& (3 : Int32))] [wi (p3 &&& (3 : Int32))]) _
    refine XS.iconst X0.here hx rfl (hb hby d2_19) ?_
    show Go p e below s₁ (mkF m 20 #[vi p1, vi p2, vi p3, vi p4, vi (p3 &&& (3 : Int32))] [wi 2, wi (p3 &&& (3 : Int32))]) _
    refine XS.icmpYes X0.here hx rfl (pc0 := 20) (pc' := 29) rfl (hb hby d2_20) rfl (feq hc20).2 (by decide) (by decide) ?_
    show Go p e below s₁ (mkF m 29 #[vi p1, vi p2, vi p3, vi p4, vi (p3 &&& (3 : Int32))] []) _
    refine XS.iloadN X0.here hx rfl (hb hby d2_29) rfl ?_
    show Go p e below s₁ (mkF m 30 #[vi p1, vi p2, vi p3, vi p4, vi (p3 &&& (3 : Int32))] [wi p1]) _
    exact retN X0 hx (t := .char) Bd.returns (by simp) (hb hby d2_30) hr
  · show Qs (some (.int (own_derive p1 p2 p3 p4))) h0 n0 _ s₁.heap _
    rw [e0]
    exact ⟨by rw [own_derive, if_neg hc8, if_neg hc20], N0, rfl⟩
theorem rmDer (l : Launch) (Z : State) (a0 : Array Value) (hw : ∀ d ∈ tables_1, d.before a0 Z = true) (ws : List Jvm.Cond) (p1 : Int32) (p2 : Int32) (p3 : Int32) (p4 : Int32) (h0 : Heap) (n0 : Nat) (X00 : Old Z n0 h0) :
    MetFree l mn_2 (head1 (Jvm.Cond.code mn_2 method_4_code 5 (some .char) :: ws) ro_1) (fun a U => a = #[(.int p1), (.int p2), (.int p3), (.int p4)] ∧ Z.Warmed39 U.vm ∧ U.heap = h0) (fun _ _ _ _ _ => True) (fun _ U o U' => ∃ rv rL, o = .returned rv ∧ Qs (some (.int (own_derive p1 p2 p3 p4))) h0 n0 rv U'.heap rL ∧ FrameEnd U o U' rL ro_1.cells ro_1.slots) := by
  by_cases c : (p3 &&& (3 : Int32)) = (1 : Int32)
  · exact rmDer_0 l Z a0 hw ws p1 p2 p3 p4 h0 n0 X00 c
  · by_cases d : (p3 &&& (3 : Int32)) = (2 : Int32)
    · exact rmDer_1 l Z a0 hw ws p1 p2 p3 p4 h0 n0 X00 c d
    · exact rmDer_2 l Z a0 hw ws p1 p2 p3 p4 h0 n0 X00 c d
set_option maxRecDepth 65536 in
set_option maxHeartbeats 40000000 in
theorem rmSame_0 (l : Launch) (Z : State) (a0 : Array Value) (hw : ∀ d ∈ tables_1, d.before a0 Z = true) (ws : List Jvm.Cond) (p1 : Int32) (p2 : Int32) (h0 : Heap) (n0 : Nat) (X00 : Old Z n0 h0) (hc2 : p1 = p2) :
    MetFree l mn_5 (head1 (Jvm.Cond.code mn_5 method_5_code 4 (some .boolean) :: ws) ro_0) (fun a U => a = #[(.int p1), (.int p2)] ∧ Z.Warmed39 U.vm ∧ U.heap = h0) (fun _ _ _ _ _ => True) (fun _ U o U' => ∃ rv rL, o = .returned rv ∧ Qs (some (.int (own_same p1 p2))) h0 n0 rv U'.heap rL ∧ FrameEnd U o U' rL ro_0.cells ro_0.slots) := by
  refine MetFree.of_bodySF (plainFor_of_name pn_13) hisR ?_
  intro p e s m args below meth c s₁ Bd hml0 hP hK
  obtain ⟨rfl, hZ, hh⟩ := hP
  have hx := Bd.exec
  have hby := Bd.bytes
  have hml : c.maxLocals = 4 := hml0
  have hown : s.vm.findClass "com/example/webhook_guard/webhookguard/http/HeaderFieldEqualsIgnoringAsciiCasePinLaw" = some m.cls := findClass_of_methodNamed Bd.named
  have hnm := (name_of_methodNamed Bd.named Bd.method).1
  have X0 : Stand p l e ro_0 s m #[(.int p1), (.int p2)] below meth c s₁ [] 0 0 := Stand.of_body Bd
  have e0 : s₁.heap = h0 := by rw [← hh, Bd.state]; rfl
  have N0 := Fr.nil n0
  have pre0 : ∀ t, Steps p.tables e below (s₁.setTop (mkF m 0 #[.val (.int p1), .val (.int p2), .unset, .unset] [])) t → Steps p.tables e below (s₁.setTop (entryFrame m #[(.int p1), (.int p2)] 4)) t := fun t k => castTop (ef_13 m p1 p2) k
  obtain ⟨fs, hr, hrun, hended, hW, hsame⟩ := X0.leave (v := some (.int (1 : Int32))) (fun h => by rw [Bd.returns] at h; cases h)
  refine ⟨_, _, pre0 _ ?_, hrun, hended, _, _, rfl, ?_, ⟨_, rfl⟩, hW, hsame.mono (by decide) (by decide)⟩
  · show Go p e below s₁ (mkF m 0 #[vi p1, vi p2, .unset, .unset] []) _
    refine XS.iloadN X0.here hx rfl (hb hby d13_0) rfl ?_
    show Go p e below s₁ (mkF m 1 #[vi p1, vi p2, .unset, .unset] [wi p1]) _
    refine XS.iloadN X0.here hx rfl (hb hby d13_1) rfl ?_
    show Go p e below s₁ (mkF m 2 #[vi p1, vi p2, .unset, .unset] [wi p2, wi p1]) _
    refine XS.icmpNo X0.here hx rfl (hb hby d13_2) rfl (teq hc2).2 ?_
    show Go p e below s₁ (mkF m 5 #[vi p1, vi p2, .unset, .unset] []) _
    refine XS.iconst X0.here hx rfl (hb hby d13_5) ?_
    show Go p e below s₁ (mkF m 6 #[vi p1, vi p2, .unset, .unset] [wi 1]) _
    exact retN X0 hx (t := .boolean) Bd.returns (by simp) (hb hby d13_6) hr
  · show Qs (some (.int (own_same p1 p2))) h0 n0 _ s₁.heap _
    rw [e0]
    exact ⟨by rw [own_same, if_pos hc2], N0, rfl⟩
set_option maxRecDepth 65536 in
set_option maxHeartbeats 40000000 in
theorem rmSame_1 (l : Launch) (Z : State) (a0 : Array Value) (hw : ∀ d ∈ tables_1, d.before a0 Z = true) (ws : List Jvm.Cond) (p1 : Int32) (p2 : Int32) (h0 : Heap) (n0 : Nat) (X00 : Old Z n0 h0) (hc2 : ¬ (p1 = p2)) (hc19 : ¬ ((p1 ||| (32 : Int32)) = (p2 ||| (32 : Int32)))) :
    MetFree l mn_5 (head1 (Jvm.Cond.code mn_5 method_5_code 4 (some .boolean) :: ws) ro_0) (fun a U => a = #[(.int p1), (.int p2)] ∧ Z.Warmed39 U.vm ∧ U.heap = h0) (fun _ _ _ _ _ => True) (fun _ U o U' => ∃ rv rL, o = .returned rv ∧ Qs (some (.int (own_same p1 p2))) h0 n0 rv U'.heap rL ∧ FrameEnd U o U' rL ro_0.cells ro_0.slots) := by
  refine MetFree.of_bodySF (plainFor_of_name pn_13) hisR ?_
  intro p e s m args below meth c s₁ Bd hml0 hP hK
  obtain ⟨rfl, hZ, hh⟩ := hP
  have hx := Bd.exec
  have hby := Bd.bytes
  have hml : c.maxLocals = 4 := hml0
  have hown : s.vm.findClass "com/example/webhook_guard/webhookguard/http/HeaderFieldEqualsIgnoringAsciiCasePinLaw" = some m.cls := findClass_of_methodNamed Bd.named
  have hnm := (name_of_methodNamed Bd.named Bd.method).1
  have X0 : Stand p l e ro_0 s m #[(.int p1), (.int p2)] below meth c s₁ [] 0 0 := Stand.of_body Bd
  have e0 : s₁.heap = h0 := by rw [← hh, Bd.state]; rfl
  have N0 := Fr.nil n0
  have pre0 : ∀ t, Steps p.tables e below (s₁.setTop (mkF m 0 #[.val (.int p1), .val (.int p2), .unset, .unset] [])) t → Steps p.tables e below (s₁.setTop (entryFrame m #[(.int p1), (.int p2)] 4)) t := fun t k => castTop (ef_13 m p1 p2) k
  obtain ⟨fs, hr, hrun, hended, hW, hsame⟩ := X0.leave (v := some (.int (0 : Int32))) (fun h => by rw [Bd.returns] at h; cases h)
  refine ⟨_, _, pre0 _ ?_, hrun, hended, _, _, rfl, ?_, ⟨_, rfl⟩, hW, hsame.mono (by decide) (by decide)⟩
  · show Go p e below s₁ (mkF m 0 #[vi p1, vi p2, .unset, .unset] []) _
    refine XS.iloadN X0.here hx rfl (hb hby d13_0) rfl ?_
    show Go p e below s₁ (mkF m 1 #[vi p1, vi p2, .unset, .unset] [wi p1]) _
    refine XS.iloadN X0.here hx rfl (hb hby d13_1) rfl ?_
    show Go p e below s₁ (mkF m 2 #[vi p1, vi p2, .unset, .unset] [wi p2, wi p1]) _
    refine XS.icmpYes X0.here hx rfl (pc0 := 2) (pc' := 7) rfl (hb hby d13_2) rfl (feq hc2).2 (by decide) (by decide) ?_
    show Go p e below s₁ (mkF m 7 #[vi p1, vi p2, .unset, .unset] []) _
    refine XS.iloadN X0.here hx rfl (hb hby d13_7) rfl ?_
    show Go p e below s₁ (mkF m 8 #[vi p1, vi p2, .unset, .unset] [wi p1]) _
    refine XS.bipush X0.here hx rfl (hb hby d13_8) ?_
    show Go p e below s₁ (mkF m 10 #[vi p1, vi p2, .unset, .unset] [wi 32, wi p1]) _
    refine XS.ior X0.here hx rfl (hb hby d13_10) rfl ?_
    show Go p e below s₁ (mkF m 11 #[vi p1, vi p2, .unset, .unset] [wi (p1 ||| (32 : Int32))]) _
    refine XS.istoreN X0.here hx rfl (hb hby d13_11) rfl (l' := #[.val (.int p1), .val (.int p2), .val (.int (p1 ||| (32 : Int32))), .unset]) rfl ?_
    show Go p e below s₁ (mkF m 12 #[vi p1, vi p2, vi (p1 ||| (32 : Int32)), .unset] []) _
    refine XS.iloadN X0.here hx rfl (hb hby d13_12) rfl ?_
    show Go p e below s₁ (mkF m 13 #[vi p1, vi p2, vi (p1 ||| (32 : Int32)), .unset] [wi p2]) _
    refine XS.bipush X0.here hx rfl (hb hby d13_13) ?_
    show Go p e below s₁ (mkF m 15 #[vi p1, vi p2, vi (p1 ||| (32 : Int32)), .unset] [wi 32, wi p2]) _
    refine XS.ior X0.here hx rfl (hb hby d13_15) rfl ?_
    show Go p e below s₁ (mkF m 16 #[vi p1, vi p2, vi (p1 ||| (32 : Int32)), .unset] [wi (p2 ||| (32 : Int32))]) _
    refine XS.istoreN X0.here hx rfl (hb hby d13_16) rfl (l' := #[.val (.int p1), .val (.int p2), .val (.int (p1 ||| (32 : Int32))), .val (.int (p2 ||| (32 : Int32)))]) rfl ?_
    show Go p e below s₁ (mkF m 17 #[vi p1, vi p2, vi (p1 ||| (32 : Int32)), vi (p2 ||| (32 : Int32))] []) _
    refine XS.iloadN X0.here hx rfl (hb hby d13_17) rfl ?_
    show Go p e below s₁ (mkF m 18 #[vi p1, vi p2, vi (p1 ||| (32 : Int32)), vi (p2 ||| (32 : Int32))] [wi (p1 ||| (32 : Int32))]) _
    refine XS.iloadN X0.here hx rfl (hb hby d13_18) rfl ?_
    show Go p e below s₁ (mkF m 19 #[vi p1, vi p2, vi (p1 ||| (32 : Int32)), vi (p2 ||| (32 : Int32))] [wi (p2 ||| (32 : Int32)), wi (p1 ||| (32 : Int32))]) _
    refine XS.icmpYes X0.here hx rfl (pc0 := 19) (pc' := 38) rfl (hb hby d13_19) rfl (feq hc19).2 (by decide) (by decide) ?_
    show Go p e below s₁ (mkF m 38 #[vi p1, vi p2, vi (p1 ||| (32 : Int32)), vi (p2 ||| (32 : Int32))] []) _
    refine XS.iconst X0.here hx rfl (hb hby d13_38) ?_
    show Go p e below s₁ (mkF m 39 #[vi p1, vi p2, vi (p1 ||| (32 : Int32)), vi (p2 ||| (32 : Int32))] [wi 0]) _
    exact retN X0 hx (t := .boolean) Bd.returns (by simp) (hb hby d13_39) hr
  · show Qs (some (.int (own_same p1 p2))) h0 n0 _ s₁.heap _
    rw [e0]
    exact ⟨by rw [own_same, if_neg hc2, if_pos hc19], N0, rfl⟩
set_option maxRecDepth 65536 in
set_option maxHeartbeats 40000000 in
theorem rmSame_2 (l : Launch) (Z : State) (a0 : Array Value) (hw : ∀ d ∈ tables_1, d.before a0 Z = true) (ws : List Jvm.Cond) (p1 : Int32) (p2 : Int32) (h0 : Heap) (n0 : Nat) (X00 : Old Z n0 h0) (hc2 : ¬ (p1 = p2)) (hc19 : (p1 ||| (32 : Int32)) = (p2 ||| (32 : Int32))) (hc25 : (p1 ||| (32 : Int32)) < (97 : Int32)) :
    MetFree l mn_5 (head1 (Jvm.Cond.code mn_5 method_5_code 4 (some .boolean) :: ws) ro_0) (fun a U => a = #[(.int p1), (.int p2)] ∧ Z.Warmed39 U.vm ∧ U.heap = h0) (fun _ _ _ _ _ => True) (fun _ U o U' => ∃ rv rL, o = .returned rv ∧ Qs (some (.int (own_same p1 p2))) h0 n0 rv U'.heap rL ∧ FrameEnd U o U' rL ro_0.cells ro_0.slots) := by
  refine MetFree.of_bodySF (plainFor_of_name pn_13) hisR ?_
  intro p e s m args below meth c s₁ Bd hml0 hP hK
  obtain ⟨rfl, hZ, hh⟩ := hP
  have hx := Bd.exec
  have hby := Bd.bytes
  have hml : c.maxLocals = 4 := hml0
  have hown : s.vm.findClass "com/example/webhook_guard/webhookguard/http/HeaderFieldEqualsIgnoringAsciiCasePinLaw" = some m.cls := findClass_of_methodNamed Bd.named
  have hnm := (name_of_methodNamed Bd.named Bd.method).1
  have X0 : Stand p l e ro_0 s m #[(.int p1), (.int p2)] below meth c s₁ [] 0 0 := Stand.of_body Bd
  have e0 : s₁.heap = h0 := by rw [← hh, Bd.state]; rfl
  have N0 := Fr.nil n0
  have pre0 : ∀ t, Steps p.tables e below (s₁.setTop (mkF m 0 #[.val (.int p1), .val (.int p2), .unset, .unset] [])) t → Steps p.tables e below (s₁.setTop (entryFrame m #[(.int p1), (.int p2)] 4)) t := fun t k => castTop (ef_13 m p1 p2) k
  obtain ⟨fs, hr, hrun, hended, hW, hsame⟩ := X0.leave (v := some (.int (0 : Int32))) (fun h => by rw [Bd.returns] at h; cases h)
  refine ⟨_, _, pre0 _ ?_, hrun, hended, _, _, rfl, ?_, ⟨_, rfl⟩, hW, hsame.mono (by decide) (by decide)⟩
  · show Go p e below s₁ (mkF m 0 #[vi p1, vi p2, .unset, .unset] []) _
    refine XS.iloadN X0.here hx rfl (hb hby d13_0) rfl ?_
    show Go p e below s₁ (mkF m 1 #[vi p1, vi p2, .unset, .unset] [wi p1]) _
    refine XS.iloadN X0.here hx rfl (hb hby d13_1) rfl ?_
    show Go p e below s₁ (mkF m 2 #[vi p1, vi p2, .unset, .unset] [wi p2, wi p1]) _
    refine XS.icmpYes X0.here hx rfl (pc0 := 2) (pc' := 7) rfl (hb hby d13_2) rfl (feq hc2).2 (by decide) (by decide) ?_
    show Go p e below s₁ (mkF m 7 #[vi p1, vi p2, .unset, .unset] []) _
    refine XS.iloadN X0.here hx rfl (hb hby d13_7) rfl ?_
    show Go p e below s₁ (mkF m 8 #[vi p1, vi p2, .unset, .unset] [wi p1]) _
    refine XS.bipush X0.here hx rfl (hb hby d13_8) ?_
    show Go p e below s₁ (mkF m 10 #[vi p1, vi p2, .unset, .unset] [wi 32, wi p1]) _
    refine XS.ior X0.here hx rfl (hb hby d13_10) rfl ?_
    show Go p e below s₁ (mkF m 11 #[vi p1, vi p2, .unset, .unset] [wi (p1 ||| (32 : Int32))]) _
    refine XS.istoreN X0.here hx rfl (hb hby d13_11) rfl (l' := #[.val (.int p1), .val (.int p2), .val (.int (p1 ||| (32 : Int32))), .unset]) rfl ?_
    show Go p e below s₁ (mkF m 12 #[vi p1, vi p2, vi (p1 ||| (32 : Int32)), .unset] []) _
    refine XS.iloadN X0.here hx rfl (hb hby d13_12) rfl ?_
    show Go p e below s₁ (mkF m 13 #[vi p1, vi p2, vi (p1 ||| (32 : Int32)), .unset] [wi p2]) _
    refine XS.bipush X0.here hx rfl (hb hby d13_13) ?_
    show Go p e below s₁ (mkF m 15 #[vi p1, vi p2, vi (p1 ||| (32 : Int32)), .unset] [wi 32, wi p2]) _
    refine XS.ior X0.here hx rfl (hb hby d13_15) rfl ?_
    show Go p e below s₁ (mkF m 16 #[vi p1, vi p2, vi (p1 ||| (32 : Int32)), .unset] [wi (p2 ||| (32 : Int32))]) _
    refine XS.istoreN X0.here hx rfl (hb hby d13_16) rfl (l' := #[.val (.int p1), .val (.int p2), .val (.int (p1 ||| (32 : Int32))), .val (.int (p2 ||| (32 : Int32)))]) rfl ?_
    show Go p e below s₁ (mkF m 17 #[vi p1, vi p2, vi (p1 ||| (32 : Int32)), vi (p2 ||| (32 : Int32))] []) _
    refine XS.iloadN X0.here hx rfl (hb hby d13_17) rfl ?_
    show Go p e below s₁ (mkF m 18 #[vi p1, vi p2, vi (p1 ||| (32 : Int32)), vi (p2 ||| (32 : Int32))] [wi (p1 ||| (32 : Int32))]) _
    refine XS.iloadN X0.here hx rfl (hb hby d13_18) rfl ?_
    show Go p e below s₁ (mkF m 19 #[vi p1, vi p2, vi (p1 ||| (32 : Int32)), vi (p2 ||| (32 : Int32))] [wi (p2 ||| (32 : Int32)), wi (p1 ||| (32 : Int32))]) _
    refine XS.icmpNo X0.here hx rfl (hb hby d13_19) rfl (teq hc19).2 ?_
    show Go p e below s₁ (mkF m 22 #[vi p1, vi p2, vi (p1 ||| (32 : Int32)), vi (p2 ||| (32 : Int32))] []) _
    refine XS.iloadN X0.here hx rfl (hb hby d13_22) rfl ?_
    show Go p e below s₁ (mkF m 23 #[vi p1, vi p2, vi (p1 ||| (32 : Int32)), vi (p2 ||| (32 : Int32))] [wi (p1 ||| (32 : Int32))]) _
    refine XS.bipush X0.here hx rfl (hb hby d13_23) ?_
    show Go p e below s₁ (mkF m 25 #[vi p1, vi p2, vi (p1 ||| (32 : Int32)), vi (p2 ||| (32 : Int32))] [wi 97, wi (p1 ||| (32 : Int32))]) _
    refine XS.icmpYes X0.here hx rfl (pc0 := 25) (pc' := 38) rfl (hb hby d13_25) rfl (tlt hc25).1 (by decide) (by decide) ?_
    show Go p e below s₁ (mkF m 38 #[vi p1, vi p2, vi (p1 ||| (32 : Int32)), vi (p2 ||| (32 : Int32))] []) _
    refine XS.iconst X0.here hx rfl (hb hby d13_38) ?_
    show Go p e below s₁ (mkF m 39 #[vi p1, vi p2, vi (p1 ||| (32 : Int32)), vi (p2 ||| (32 : Int32))] [wi 0]) _
    exact retN X0 hx (t := .boolean) Bd.returns (by simp) (hb hby d13_39) hr
  · show Qs (some (.int (own_same p1 p2))) h0 n0 _ s₁.heap _
    rw [e0]
    exact ⟨by rw [own_same, if_neg hc2, if_neg (not_not_intro hc19), if_pos hc25], N0, rfl⟩
set_option maxRecDepth 65536 in
set_option maxHeartbeats 40000000 in
theorem rmSame_3 (l : Launch) (Z : State) (a0 : Array Value) (hw : ∀ d ∈ tables_1, d.before a0 Z = true) (ws : List Jvm.Cond) (p1 : Int32) (p2 : Int32) (h0 : Heap) (n0 : Nat) (X00 : Old Z n0 h0) (hc2 : ¬ (p1 = p2)) (hc19 : (p1 ||| (32 : Int32)) = (p2 ||| (32 : Int32))) (hc25 : ¬ ((p1 ||| (32 : Int32)) < (97 : Int32))) (hc31 : (122 : Int32) < (p1 ||| (32 : Int32))) :
    MetFree l mn_5 (head1 (Jvm.Cond.code mn_5 method_5_code 4 (some .boolean) :: ws) ro_0) (fun a U => a = #[(.int p1), (.int p2)] ∧ Z.Warmed39 U.vm ∧ U.heap = h0) (fun _ _ _ _ _ => True) (fun _ U o U' => ∃ rv rL, o = .returned rv ∧ Qs (some (.int (own_same p1 p2))) h0 n0 rv U'.heap rL ∧ FrameEnd U o U' rL ro_0.cells ro_0.slots) := by
  refine MetFree.of_bodySF (plainFor_of_name pn_13) hisR ?_
  intro p e s m args below meth c s₁ Bd hml0 hP hK
  obtain ⟨rfl, hZ, hh⟩ := hP
  have hx := Bd.exec
  have hby := Bd.bytes
  have hml : c.maxLocals = 4 := hml0
  have hown : s.vm.findClass "com/example/webhook_guard/webhookguard/http/HeaderFieldEqualsIgnoringAsciiCasePinLaw" = some m.cls := findClass_of_methodNamed Bd.named
  have hnm := (name_of_methodNamed Bd.named Bd.method).1
  have X0 : Stand p l e ro_0 s m #[(.int p1), (.int p2)] below meth c s₁ [] 0 0 := Stand.of_body Bd
  have e0 : s₁.heap = h0 := by rw [← hh, Bd.state]; rfl
  have N0 := Fr.nil n0
  have pre0 : ∀ t, Steps p.tables e below (s₁.setTop (mkF m 0 #[.val (.int p1), .val (.int p2), .unset, .unset] [])) t → Steps p.tables e below (s₁.setTop (entryFrame m #[(.int p1), (.int p2)] 4)) t := fun t k => castTop (ef_13 m p1 p2) k
  obtain ⟨fs, hr, hrun, hended, hW, hsame⟩ := X0.leave (v := some (.int (0 : Int32))) (fun h => by rw [Bd.returns] at h; cases h)
  refine ⟨_, _, pre0 _ ?_, hrun, hended, _, _, rfl, ?_, ⟨_, rfl⟩, hW, hsame.mono (by decide) (by decide)⟩
  · show Go p e below s₁ (mkF m 0 #[vi p1, vi p2, .unset, .unset] []) _
    refine XS.iloadN X0.here hx rfl (hb hby d13_0) rfl ?_
    show Go p e below s₁ (mkF m 1 #[vi p1, vi p2, .unset, .unset] [wi p1]) _
    refine XS.iloadN X0.here hx rfl (hb hby d13_1) rfl ?_
    show Go p e below s₁ (mkF m 2 #[vi p1, vi p2, .unset, .unset] [wi p2, wi p1]) _
    refine XS.icmpYes X0.here hx rfl (pc0 := 2) (pc' := 7) rfl (hb hby d13_2) rfl (feq hc2).2 (by decide) (by decide) ?_
    show Go p e below s₁ (mkF m 7 #[vi p1, vi p2, .unset, .unset] []) _
    refine XS.iloadN X0.here hx rfl (hb hby d13_7) rfl ?_
    show Go p e below s₁ (mkF m 8 #[vi p1, vi p2, .unset, .unset] [wi p1]) _
    refine XS.bipush X0.here hx rfl (hb hby d13_8) ?_
    show Go p e below s₁ (mkF m 10 #[vi p1, vi p2, .unset, .unset] [wi 32, wi p1]) _
    refine XS.ior X0.here hx rfl (hb hby d13_10) rfl ?_
    show Go p e below s₁ (mkF m 11 #[vi p1, vi p2, .unset, .unset] [wi (p1 ||| (32 : Int32))]) _
    refine XS.istoreN X0.here hx rfl (hb hby d13_11) rfl (l' := #[.val (.int p1), .val (.int p2), .val (.int (p1 ||| (32 : Int32))), .unset]) rfl ?_
    show Go p e below s₁ (mkF m 12 #[vi p1, vi p2, vi (p1 ||| (32 : Int32)), .unset] []) _
    refine XS.iloadN X0.here hx rfl (hb hby d13_12) rfl ?_
    show Go p e below s₁ (mkF m 13 #[vi p1, vi p2, vi (p1 ||| (32 : Int32)), .unset] [wi p2]) _
    refine XS.bipush X0.here hx rfl (hb hby d13_13) ?_
    show Go p e below s₁ (mkF m 15 #[vi p1, vi p2, vi (p1 ||| (32 : Int32)), .unset] [wi 32, wi p2]) _
    refine XS.ior X0.here hx rfl (hb hby d13_15) rfl ?_
    show Go p e below s₁ (mkF m 16 #[vi p1, vi p2, vi (p1 ||| (32 : Int32)), .unset] [wi (p2 ||| (32 : Int32))]) _
    refine XS.istoreN X0.here hx rfl (hb hby d13_16) rfl (l' := #[.val (.int p1), .val (.int p2), .val (.int (p1 ||| (32 : Int32))), .val (.int (p2 ||| (32 : Int32)))]) rfl ?_
    show Go p e below s₁ (mkF m 17 #[vi p1, vi p2, vi (p1 ||| (32 : Int32)), vi (p2 ||| (32 : Int32))] []) _
    refine XS.iloadN X0.here hx rfl (hb hby d13_17) rfl ?_
    show Go p e below s₁ (mkF m 18 #[vi p1, vi p2, vi (p1 ||| (32 : Int32)), vi (p2 ||| (32 : Int32))] [wi (p1 ||| (32 : Int32))]) _
    refine XS.iloadN X0.here hx rfl (hb hby d13_18) rfl ?_
    show Go p e below s₁ (mkF m 19 #[vi p1, vi p2, vi (p1 ||| (32 : Int32)), vi (p2 ||| (32 : Int32))] [wi (p2 ||| (32 : Int32)), wi (p1 ||| (32 : Int32))]) _
    refine XS.icmpNo X0.here hx rfl (hb hby d13_19) rfl (teq hc19).2 ?_
    show Go p e below s₁ (mkF m 22 #[vi p1, vi p2, vi (p1 ||| (32 : Int32)), vi (p2 ||| (32 : Int32))] []) _
    refine XS.iloadN X0.here hx rfl (hb hby d13_22) rfl ?_
    show Go p e below s₁ (mkF m 23 #[vi p1, vi p2, vi (p1 ||| (32 : Int32)), vi (p2 ||| (32 : Int32))] [wi (p1 ||| (32 : Int32))]) _
    refine XS.bipush X0.here hx rfl (hb hby d13_23) ?_
    show Go p e below s₁ (mkF m 25 #[vi p1, vi p2, vi (p1 ||| (32 : Int32)), vi (p2 ||| (32 : Int32))] [wi 97, wi (p1 ||| (32 : Int32))]) _
    refine XS.icmpNo X0.here hx rfl (hb hby d13_25) rfl (flt hc25).1 ?_
    show Go p e below s₁ (mkF m 28 #[vi p1, vi p2, vi (p1 ||| (32 : Int32)), vi (p2 ||| (32 : Int32))] []) _
    refine XS.iloadN X0.here hx rfl (hb hby d13_28) rfl ?_
    show Go p e below s₁ (mkF m 29 #[vi p1, vi p2, vi (p1 ||| (32 : Int32)), vi (p2 ||| (32 : Int32))] [wi (p1 ||| (32 : Int32))]) _
    refine XS.bipush X0.here hx rfl (hb hby d13_29) ?_
    show Go p e below s₁ (mkF m 31 #[vi p1, vi p2, vi (p1 ||| (32 : Int32)), vi (p2 ||| (32 : Int32))] [wi 122, wi (p1 ||| (32 : Int32))]) _
    refine XS.icmpYes X0.here hx rfl (pc0 := 31) (pc' := 38) rfl (hb hby d13_31) rfl (tlt hc31).2.2.1 (by decide) (by decide) ?_
    show Go p e below s₁ (mkF m 38 #[vi p1, vi p2, vi (p1 ||| (32 : Int32)), vi (p2 ||| (32 : Int32))] []) _
    refine XS.iconst X0.here hx rfl (hb hby d13_38) ?_
    show Go p e below s₁ (mkF m 39 #[vi p1, vi p2, vi (p1 ||| (32 : Int32)), vi (p2 ||| (32 : Int32))] [wi 0]) _
    exact retN X0 hx (t := .boolean) Bd.returns (by simp) (hb hby d13_39) hr
  · show Qs (some (.int (own_same p1 p2))) h0 n0 _ s₁.heap _
    rw [e0]
    exact ⟨by rw [own_same, if_neg hc2, if_neg (not_not_intro hc19), if_neg hc25, if_pos hc31], N0, rfl⟩
set_option maxRecDepth 65536 in
set_option maxHeartbeats 40000000 in
theorem rmSame_4 (l : Launch) (Z : State) (a0 : Array Value) (hw : ∀ d ∈ tables_1, d.before a0 Z = true) (ws : List Jvm.Cond) (p1 : Int32) (p2 : Int32) (h0 : Heap) (n0 : Nat) (X00 : Old Z n0 h0) (hc2 : ¬ (p1 = p2)) (hc19 : (p1 ||| (32 : Int32)) = (p2 ||| (32 : Int32))) (hc25 : ¬ ((p1 ||| (32 : Int32)) < (97 : Int32))) (hc31 : ¬ ((122 : Int32) < (p1 ||| (32 : Int32)))) :
    MetFree l mn_5 (head1 (Jvm.Cond.code mn_5 method_5_code 4 (some .boolean) :: ws) ro_0) (fun a U => a = #[(.int p1), (.int p2)] ∧ Z.Warmed39 U.vm ∧ U.heap = h0) (fun _ _ _ _ _ => True) (fun _ U o U' => ∃ rv rL, o = .returned rv ∧ Qs (some (.int (own_same p1 p2))) h0 n0 rv U'.heap rL ∧ FrameEnd U o U' rL ro_0.cells ro_0.slots) := by
  refine MetFree.of_bodySF (plainFor_of_name pn_13) hisR ?_
  intro p e s m args below meth c s₁ Bd hml0 hP hK
  obtain ⟨rfl, hZ, hh⟩ := hP
  have hx := Bd.exec
  have hby := Bd.bytes
  have hml : c.maxLocals = 4 := hml0
  have hown : s.vm.findClass "com/example/webhook_guard/webhookguard/http/HeaderFieldEqualsIgnoringAsciiCasePinLaw" = some m.cls := findClass_of_methodNamed Bd.named
  have hnm := (name_of_methodNamed Bd.named Bd.method).1
  have X0 : Stand p l e ro_0 s m #[(.int p1), (.int p2)] below meth c s₁ [] 0 0 := Stand.of_body Bd
  have e0 : s₁.heap = h0 := by rw [← hh, Bd.state]; rfl
  have N0 := Fr.nil n0
  have pre0 : ∀ t, Steps p.tables e below (s₁.setTop (mkF m 0 #[.val (.int p1), .val (.int p2), .unset, .unset] [])) t → Steps p.tables e below (s₁.setTop (entryFrame m #[(.int p1), (.int p2)] 4)) t := fun t k => castTop (ef_13 m p1 p2) k
  obtain ⟨fs, hr, hrun, hended, hW, hsame⟩ := X0.leave (v := some (.int (1 : Int32))) (fun h => by rw [Bd.returns] at h; cases h)
  refine ⟨_, _, pre0 _ ?_, hrun, hended, _, _, rfl, ?_, ⟨_, rfl⟩, hW, hsame.mono (by decide) (by decide)⟩
  · show Go p e below s₁ (mkF m 0 #[vi p1, vi p2, .unset, .unset] []) _
    refine XS.iloadN X0.here hx rfl (hb hby d13_0) rfl ?_
    show Go p e below s₁ (mkF m 1 #[vi p1, vi p2, .unset, .unset] [wi p1]) _
    refine XS.iloadN X0.here hx rfl (hb hby d13_1) rfl ?_
    show Go p e below s₁ (mkF m 2 #[vi p1, vi p2, .unset, .unset] [wi p2, wi p1]) _
    refine XS.icmpYes X0.here hx rfl (pc0 := 2) (pc' := 7) rfl (hb hby d13_2) rfl (feq hc2).2 (by decide) (by decide) ?_
    show Go p e below s₁ (mkF m 7 #[vi p1, vi p2, .unset, .unset] []) _
    refine XS.iloadN X0.here hx rfl (hb hby d13_7) rfl ?_
    show Go p e below s₁ (mkF m 8 #[vi p1, vi p2, .unset, .unset] [wi p1]) _
    refine XS.bipush X0.here hx rfl (hb hby d13_8) ?_
    show Go p e below s₁ (mkF m 10 #[vi p1, vi p2, .unset, .unset] [wi 32, wi p1]) _
    refine XS.ior X0.here hx rfl (hb hby d13_10) rfl ?_
    show Go p e below s₁ (mkF m 11 #[vi p1, vi p2, .unset, .unset] [wi (p1 ||| (32 : Int32))]) _
    refine XS.istoreN X0.here hx rfl (hb hby d13_11) rfl (l' := #[.val (.int p1), .val (.int p2), .val (.int (p1 ||| (32 : Int32))), .unset]) rfl ?_
    show Go p e below s₁ (mkF m 12 #[vi p1, vi p2, vi (p1 ||| (32 : Int32)), .unset] []) _
    refine XS.iloadN X0.here hx rfl (hb hby d13_12) rfl ?_
    show Go p e below s₁ (mkF m 13 #[vi p1, vi p2, vi (p1 ||| (32 : Int32)), .unset] [wi p2]) _
    refine XS.bipush X0.here hx rfl (hb hby d13_13) ?_
    show Go p e below s₁ (mkF m 15 #[vi p1, vi p2, vi (p1 ||| (32 : Int32)), .unset] [wi 32, wi p2]) _
    refine XS.ior X0.here hx rfl (hb hby d13_15) rfl ?_
    show Go p e below s₁ (mkF m 16 #[vi p1, vi p2, vi (p1 ||| (32 : Int32)), .unset] [wi (p2 ||| (32 : Int32))]) _
    refine XS.istoreN X0.here hx rfl (hb hby d13_16) rfl (l' := #[.val (.int p1), .val (.int p2), .val (.int (p1 ||| (32 : Int32))), .val (.int (p2 ||| (32 : Int32)))]) rfl ?_
    show Go p e below s₁ (mkF m 17 #[vi p1, vi p2, vi (p1 ||| (32 : Int32)), vi (p2 ||| (32 : Int32))] []) _
    refine XS.iloadN X0.here hx rfl (hb hby d13_17) rfl ?_
    show Go p e below s₁ (mkF m 18 #[vi p1, vi p2, vi (p1 ||| (32 : Int32)), vi (p2 ||| (32 : Int32))] [wi (p1 ||| (32 : Int32))]) _
    refine XS.iloadN X0.here hx rfl (hb hby d13_18) rfl ?_
    show Go p e below s₁ (mkF m 19 #[vi p1, vi p2, vi (p1 ||| (32 : Int32)), vi (p2 ||| (32 : Int32))] [wi (p2 ||| (32 : Int32)), wi (p1 ||| (32 : Int32))]) _
    refine XS.icmpNo X0.here hx rfl (hb hby d13_19) rfl (teq hc19).2 ?_
    show Go p e below s₁ (mkF m 22 #[vi p1, vi p2, vi (p1 ||| (32 : Int32)), vi (p2 ||| (32 : Int32))] []) _
    refine XS.iloadN X0.here hx rfl (hb hby d13_22) rfl ?_
    show Go p e below s₁ (mkF m 23 #[vi p1, vi p2, vi (p1 ||| (32 : Int32)), vi (p2 ||| (32 : Int32))] [wi (p1 ||| (32 : Int32))]) _
    refine XS.bipush X0.here hx rfl (hb hby d13_23) ?_
    show Go p e below s₁ (mkF m 25 #[vi p1, vi p2, vi (p1 ||| (32 : Int32)), vi (p2 ||| (32 : Int32))] [wi 97, wi (p1 ||| (32 : Int32))]) _
    refine XS.icmpNo X0.here hx rfl (hb hby d13_25) rfl (flt hc25).1 ?_
    show Go p e below s₁ (mkF m 28 #[vi p1, vi p2, vi (p1 ||| (32 : Int32)), vi (p2 ||| (32 : Int32))] []) _
    refine XS.iloadN X0.here hx rfl (hb hby d13_28) rfl ?_
    show Go p e below s₁ (mkF m 29 #[vi p1, vi p2, vi (p1 ||| (32 : Int32)), vi (p2 ||| (32 : Int32))] [wi (p1 ||| (32 : Int32))]) _
    refine XS.bipush X0.here hx rfl (hb hby d13_29) ?_
    show Go p e below s₁ (mkF m 31 #[vi p1, vi p2, vi (p1 ||| (32 : Int32)), vi (p2 ||| (32 : Int32))] [wi 122, wi (p1 ||| (32 : Int32))]) _
    refine XS.icmpNo X0.here hx rfl (hb hby d13_31) rfl (flt hc31).2.2.1 ?_
    show Go p e below s₁ (mkF m 34 #[vi p1, vi p2, vi (p1 ||| (32 : Int32)), vi (p2 ||| (32 : Int32))] []) _
    refine XS.iconst X0.here hx rfl (hb hby d13_34) ?_
    show Go p e below s₁ (mkF m 35 #[vi p1, vi p2, vi (p1 ||| (32 : Int32)), vi (p2 ||| (32 : Int32))] [wi 1]) _
    refine XS.goto X0.here hx rfl (pc0 := 35) (pc' := 39) rfl (hb hby d13_35) (by decide) (by decide) ?_
    show Go p e below s₁ (mkF m 39 #[vi p1, vi p2, vi (p1 ||| (32 : Int32)), vi (p2 ||| (32 : Int32))] [wi 1]) _
    exact retN X0 hx (t := .boolean) Bd.returns (by simp) (hb hby d13_39) hr
  · show Qs (some (.int (own_same p1 p2))) h0 n0 _ s₁.heap _
    rw [e0]
    exact ⟨by rw [own_same, if_neg hc2, if_neg (not_not_intro hc19), if_neg hc25, if_neg hc31], N0, rfl⟩
theorem rmSame (l : Launch) (Z : State) (a0 : Array Value) (hw : ∀ d ∈ tables_1, d.before a0 Z = true) (ws : List Jvm.Cond) (p1 : Int32) (p2 : Int32) (h0 : Heap) (n0 : Nat) (X00 : Old Z n0 h0) :
    MetFree l mn_5 (head1 (Jvm.Cond.code mn_5 method_5_code 4 (some .boolean) :: ws) ro_0) (fun a U => a = #[(.int p1), (.int p2)] ∧ Z.Warmed39 U.vm ∧ U.heap = h0) (fun _ _ _ _ _ => True) (fun _ U o U' => ∃ rv rL, o = .returned rv ∧ Qs (some (.int (own_same p1 p2))) h0 n0 rv U'.heap rL ∧ FrameEnd U o U' rL ro_0.cells ro_0.slots) := by
  by_cases c : p1 = p2
  · exact rmSame_0 l Z a0 hw ws p1 p2 h0 n0 X00 c
  · by_cases d : (p1 ||| (32 : Int32)) = (p2 ||| (32 : Int32))
    · by_cases e : (p1 ||| (32 : Int32)) < (97 : Int32)
      · exact rmSame_2 l Z a0 hw ws p1 p2 h0 n0 X00 c d e
      · by_cases f : (122 : Int32) < (p1 ||| (32 : Int32))
        · exact rmSame_3 l Z a0 hw ws p1 p2 h0 n0 X00 c d e f
        · exact rmSame_4 l Z a0 hw ws p1 p2 h0 n0 X00 c d e f
    · exact rmSame_1 l Z a0 hw ws p1 p2 h0 n0 X00 c d
set_option maxRecDepth 65536 in
set_option maxHeartbeats 40000000 in
theorem rmLow_0 (l : Launch) (Z : State) (a0 : Array Value) (hw : ∀ d ∈ tables_1, d.before a0 Z = true) (ws : List Jvm.Cond) (p1 : Int32) (h0 : Heap) (n0 : Nat) (X00 : Old Z n0 h0) (hc3 : p1 < (65 : Int32)) :
    MetFree l mn_1 (head1 (Jvm.Cond.code mn_1 prog_7_method_8_code 1 (some .char) :: ws) ro_0) (fun a U => a = #[(.int p1)] ∧ Z.Warmed39 U.vm ∧ U.heap = h0) (fun _ _ _ _ _ => True) (fun _ U o U' => ∃ rv rL, o = .returned rv ∧ Qs (some (.int (own_low p1))) h0 n0 rv U'.heap rL ∧ FrameEnd U o U' rL ro_0.cells ro_0.slots) := by
  refine MetFree.of_bodySF (plainFor_of_name pn_19) hisR ?_
  intro p e s m args below meth c s₁ Bd hml0 hP hK
  obtain ⟨rfl, hZ, hh⟩ := hP
  have hx := Bd.exec
  have hby := Bd.bytes
  have hml : c.maxLocals = 1 := hml0
  have hown : s.vm.findClass "com/example/webhook_guard/webhookguard/http/HeaderField" = some m.cls := findClass_of_methodNamed Bd.named
  have hnm := (name_of_methodNamed Bd.named Bd.method).1
  have X0 : Stand p l e ro_0 s m #[(.int p1)] below meth c s₁ [] 0 0 := Stand.of_body Bd
  have e0 : s₁.heap = h0 := by rw [← hh, Bd.state]; rfl
  have N0 := Fr.nil n0
  have pre0 : ∀ t, Steps p.tables e below (s₁.setTop (mkF m 0 #[.val (.int p1)] [])) t → Steps p.tables e below (s₁.setTop (entryFrame m #[(.int p1)] 1)) t := fun t k => castTop (ef_19 m p1) k
  obtain ⟨fs, hr, hrun, hended, hW, hsame⟩ := X0.leave (v := some (.int (nar .char p1))) (fun h => by rw [Bd.returns] at h; cases h)
  refine ⟨_, _, pre0 _ ?_, hrun, hended, _, _, rfl, ?_, ⟨_, rfl⟩, hW, hsame.mono (by decide) (by decide)⟩
  · show Go p e below s₁ (mkF m 0 #[vi p1] []) _
    refine XS.iloadN X0.here hx rfl (hb hby d19_0) rfl ?_
    show Go p e below s₁ (mkF m 1 #[vi p1] [wi p1]) _
    refine XS.bipush X0.here hx rfl (hb hby d19_1) ?_
    show Go p e below s₁ (mkF m 3 #[vi p1] [wi 65, wi p1]) _
    refine XS.icmpYes X0.here hx rfl (pc0 := 3) (pc' := 20) rfl (hb hby d19_3) rfl (tlt hc3).1 (by decide) (by decide) ?_
    show Go p e below s₁ (mkF m 20 #[vi p1] []) _
    refine XS.iloadN X0.here hx rfl (hb hby d19_20) rfl ?_
    show Go p e below s₁ (mkF m 21 #[vi p1] [wi p1]) _
    exact retN X0 hx (t := .char) Bd.returns (by simp) (hb hby d19_21) hr
  · show Qs (some (.int (own_low p1))) h0 n0 _ s₁.heap _
    rw [e0]
    exact ⟨by rw [own_low, if_pos hc3], N0, rfl⟩
set_option maxRecDepth 65536 in
set_option maxHeartbeats 40000000 in
theorem rmLow_1 (l : Launch) (Z : State) (a0 : Array Value) (hw : ∀ d ∈ tables_1, d.before a0 Z = true) (ws : List Jvm.Cond) (p1 : Int32) (h0 : Heap) (n0 : Nat) (X00 : Old Z n0 h0) (hc3 : ¬ (p1 < (65 : Int32))) (hc9 : (90 : Int32) < p1) :
    MetFree l mn_1 (head1 (Jvm.Cond.code mn_1 prog_7_method_8_code 1 (some .char) :: ws) ro_0) (fun a U => a = #[(.int p1)] ∧ Z.Warmed39 U.vm ∧ U.heap = h0) (fun _ _ _ _ _ => True) (fun _ U o U' => ∃ rv rL, o = .returned rv ∧ Qs (some (.int (own_low p1))) h0 n0 rv U'.heap rL ∧ FrameEnd U o U' rL ro_0.cells ro_0.slots) := by
  refine MetFree.of_bodySF (plainFor_of_name pn_19) hisR ?_
  intro p e s m args below meth c s₁ Bd hml0 hP hK
  obtain ⟨rfl, hZ, hh⟩ := hP
  have hx := Bd.exec
  have hby := Bd.bytes
  have hml : c.maxLocals = 1 := hml0
  have hown : s.vm.findClass "com/example/webhook_guard/webhookguard/http/HeaderField" = some m.cls := findClass_of_methodNamed Bd.named
  have hnm := (name_of_methodNamed Bd.named Bd.method).1
  have X0 : Stand p l e ro_0 s m #[(.int p1)] below meth c s₁ [] 0 0 := Stand.of_body Bd
  have e0 : s₁.heap = h0 := by rw [← hh, Bd.state]; rfl
  have N0 := Fr.nil n0
  have pre0 : ∀ t, Steps p.tables e below (s₁.setTop (mkF m 0 #[.val (.int p1)] [])) t → Steps p.tables e below (s₁.setTop (entryFrame m #[(.int p1)] 1)) t := fun t k => castTop (ef_19 m p1) k
  obtain ⟨fs, hr, hrun, hended, hW, hsame⟩ := X0.leave (v := some (.int (nar .char p1))) (fun h => by rw [Bd.returns] at h; cases h)
  refine ⟨_, _, pre0 _ ?_, hrun, hended, _, _, rfl, ?_, ⟨_, rfl⟩, hW, hsame.mono (by decide) (by decide)⟩
  · show Go p e below s₁ (mkF m 0 #[vi p1] []) _
    refine XS.iloadN X0.here hx rfl (hb hby d19_0) rfl ?_
    show Go p e below s₁ (mkF m 1 #[vi p1] [wi p1]) _
    refine XS.bipush X0.here hx rfl (hb hby d19_1) ?_
    show Go p e below s₁ (mkF m 3 #[vi p1] [wi 65, wi p1]) _
    refine XS.icmpNo X0.here hx rfl (hb hby d19_3) rfl (flt hc3).1 ?_
    show Go p e below s₁ (mkF m 6 #[vi p1] []) _
    refine XS.iloadN X0.here hx rfl (hb hby d19_6) rfl ?_
    show Go p e below s₁ (mkF m 7 #[vi p1] [wi p1]) _
    refine XS.bipush X0.here hx rfl (hb hby d19_7) ?_
    show Go p e below s₁ (mkF m 9 #[vi p1] [wi 90, wi p1]) _
    refine XS.icmpYes X0.here hx rfl (pc0 := 9) (pc' := 20) rfl (hb hby d19_9) rfl (tlt hc9).2.2.1 (by decide) (by decide) ?_
    show Go p e below s₁ (mkF m 20 #[vi p1] []) _
    refine XS.iloadN X0.here hx rfl (hb hby d19_20) rfl ?_
    show Go p e below s₁ (mkF m 21 #[vi p1] [wi p1]) _
    exact retN X0 hx (t := .char) Bd.returns (by simp) (hb hby d19_21) hr
  · show Qs (some (.int (own_low p1))) h0 n0 _ s₁.heap _
    rw [e0]
    exact ⟨by rw [own_low, if_neg hc3, if_pos hc9], N0, rfl⟩
set_option maxRecDepth 65536 in
set_option maxHeartbeats 40000000 in
theorem rmLow_2 (l : Launch) (Z : State) (a0 : Array Value) (hw : ∀ d ∈ tables_1, d.before a0 Z = true) (ws : List Jvm.Cond) (p1 : Int32) (h0 : Heap) (n0 : Nat) (X00 : Old Z n0 h0) (hc3 : ¬ (p1 < (65 : Int32))) (hc9 : ¬ ((90 : Int32) < p1)) :
    MetFree l mn_1 (head1 (Jvm.Cond.code mn_1 prog_7_method_8_code 1 (some .char) :: ws) ro_0) (fun a U => a = #[(.int p1)] ∧ Z.Warmed39 U.vm ∧ U.heap = h0) (fun _ _ _ _ _ => True) (fun _ U o U' => ∃ rv rL, o = .returned rv ∧ Qs (some (.int (own_low p1))) h0 n0 rv U'.heap rL ∧ FrameEnd U o U' rL ro_0.cells ro_0.slots) := by
  refine MetFree.of_bodySF (plainFor_of_name pn_19) hisR ?_
  intro p e s m args below meth c s₁ Bd hml0 hP hK
  obtain ⟨rfl, hZ, hh⟩ := hP
  have hx := Bd.exec
  have hby := Bd.bytes
  have hml : c.maxLocals = 1 := hml0
  have hown : s.vm.findClass "com/example/webhook_guard/webhookguard/http/HeaderField" = some m.cls := findClass_of_methodNamed Bd.named
  have hnm := (name_of_methodNamed Bd.named Bd.method).1
  have X0 : Stand p l e ro_0 s m #[(.int p1)] below meth c s₁ [] 0 0 := Stand.of_body Bd
  have e0 : s₁.heap = h0 := by rw [← hh, Bd.state]; rfl
  have N0 := Fr.nil n0
  have pre0 : ∀ t, Steps p.tables e below (s₁.setTop (mkF m 0 #[.val (.int p1)] [])) t → Steps p.tables e below (s₁.setTop (entryFrame m #[(.int p1)] 1)) t := fun t k => castTop (ef_19 m p1) k
  obtain ⟨fs, hr, hrun, hended, hW, hsame⟩ := X0.leave (v := some (.int (nar .char ((p1 + (32 : Int32)).toUInt32.toUInt16.toUInt32.toInt32)))) (fun h => by rw [Bd.returns] at h; cases h)
  refine ⟨_, _, pre0 _ ?_, hrun, hended, _, _, rfl, ?_, ⟨_, rfl⟩, hW, hsame.mono (by decide) (by decide)⟩
  · show Go p e below s₁ (mkF m 0 #[vi p1] []) _
    refine XS.iloadN X0.here hx rfl (hb hby d19_0) rfl ?_
    show Go p e below s₁ (mkF m 1 #[vi p1] [wi p1]) _
    refine XS.bipush X0.here hx rfl (hb hby d19_1) ?_
    show Go p e below s₁ (mkF m 3 #[vi p1] [wi 65, wi p1]) _
    refine XS.icmpNo X0.here hx rfl (hb hby d19_3) rfl (flt hc3).1 ?_
    show Go p e below s₁ (mkF m 6 #[vi p1] []) _
    refine XS.iloadN X0.here hx rfl (hb hby d19_6) rfl ?_
    show Go p e below s₁ (mkF m 7 #[vi p1] [wi p1]) _
    refine XS.bipush X0.here hx rfl (hb hby d19_7) ?_
    show Go p e below s₁ (mkF m 9 #[vi p1] [wi 90, wi p1]) _
    refine XS.icmpNo X0.here hx rfl (hb hby d19_9) rfl (flt hc9).2.2.1 ?_
    show Go p e below s₁ (mkF m 12 #[vi p1] []) _
    refine XS.iloadN X0.here hx rfl (hb hby d19_12) rfl ?_
    show Go p e below s₁ (mkF m 13 #[vi p1] [wi p1]) _
    refine XS.bipush X0.here hx rfl (hb hby d19_13) ?_
    show Go p e below s₁ (mkF m 15 #[vi p1] [wi 32, wi p1]) _
    refine XS.iadd X0.here hx rfl (hb hby d19_15) rfl ?_
    show Go p e below s₁ (mkF m 16 #[vi p1] [wi (p1 + (32 : Int32))]) _
    refine XS.i2c X0.here hx rfl (hb hby d19_16) rfl ?_
    show Go p e below s₁ (mkF m 17 #[vi p1] [wi ((p1 + (32 : Int32)).toUInt32.toUInt16.toUInt32.toInt32)]) _
    refine XS.goto X0.here hx rfl (pc0 := 17) (pc' := 21) rfl (hb hby d19_17) (by decide) (by decide) ?_
    show Go p e below s₁ (mkF m 21 #[vi p1] [wi ((p1 + (32 : Int32)).toUInt32.toUInt16.toUInt32.toInt32)]) _
    exact retN X0 hx (t := .char) Bd.returns (by simp) (hb hby d19_21) hr
  · show Qs (some (.int (own_low p1))) h0 n0 _ s₁.heap _
    rw [e0]
    exact ⟨by rw [own_low, if_neg hc3, if_neg hc9], N0, rfl⟩
theorem rmLow (l : Launch) (Z : State) (a0 : Array Value) (hw : ∀ d ∈ tables_1, d.before a0 Z = true) (ws : List Jvm.Cond) (p1 : Int32) (h0 : Heap) (n0 : Nat) (X00 : Old Z n0 h0) :
    MetFree l mn_1 (head1 (Jvm.Cond.code mn_1 prog_7_method_8_code 1 (some .char) :: ws) ro_0) (fun a U => a = #[(.int p1)] ∧ Z.Warmed39 U.vm ∧ U.heap = h0) (fun _ _ _ _ _ => True) (fun _ U o U' => ∃ rv rL, o = .returned rv ∧ Qs (some (.int (own_low p1))) h0 n0 rv U'.heap rL ∧ FrameEnd U o U' rL ro_0.cells ro_0.slots) := by
  by_cases c : p1 < (65 : Int32)
  · exact rmLow_0 l Z a0 hw ws p1 h0 n0 X00 c
  · by_cases d : (90 : Int32) < p1
    · exact rmLow_1 l Z a0 hw ws p1 h0 n0 X00 c d
    · exact rmLow_2 l Z a0 hw ws p1 h0 n0 X00 c d
set_option maxRecDepth 65536 in
set_option maxHeartbeats 40000000 in
theorem rmC5_1_n (l : Launch) (Z : State) (a0 : Array Value) (hw : ∀ d ∈ tables_1, d.before a0 Z = true) (ws : List Jvm.Cond) (a1 : Addr) (a3 : Addr) (ka : ClassId) (kd : ClassId) (x1 : Int32) (h0 : Heap) (n0 : Nat) (X00 : Old Z n0 h0) (V_a : Arv Z h0 a1 ka .char (1 : Int32) [(.int x1)] (.int (0 : Int32))) (V_d : Arv Z h0 a3 kd .byte (1 : Int32) [.int (0 : Int32)] (.int (0 : Int32))) (g_a3 : n0 ≤ a3) (ne : a1 ≠ a3) (hl0 : ¬ ((255 : Int32) < x1)) :
    MetFree l mn_19 (head1 (Jvm.Cond.code mn_19 jdk_52_method_21_code 7 (some .int) :: ws) ro_0) (fun a U => a = #[(.ref a1), (.int (0 : Int32)), (.ref a3), (.int (0 : Int32)), (.int (1 : Int32))] ∧ Z.Warmed39 U.vm ∧ U.heap = h0) (fun _ _ _ _ _ => True) (fun _ U o U' => ∃ rv rL, o = .returned rv ∧ QGB Z a3 kd (1 : Int32) [.int (StrChars.lo8 x1)] (some (.int (1 : Int32))) h0 n0 rv U'.heap rL ∧ FrameEnd U o U' rL ro_0.cells ro_0.slots) := by
  refine MetFree.of_bodySF (plainFor_of_name pn_8) hisR ?_
  intro p e s m args below meth c s₁ Bd hml0 hP hK
  obtain ⟨rfl, hZ, hh⟩ := hP
  have hx := Bd.exec
  have hby := Bd.bytes
  have hml : c.maxLocals = 7 := hml0
  have hown : s.vm.findClass "java/lang/StringUTF16" = some m.cls := findClass_of_methodNamed Bd.named
  have hnm := (name_of_methodNamed Bd.named Bd.method).1
  have X0 : Stand p l e ro_0 s m #[(.ref a1), (.int (0 : Int32)), (.ref a3), (.int (0 : Int32)), (.int (1 : Int32))] below meth c s₁ [] 0 0 := Stand.of_body Bd
  have e0 : s₁.heap = h0 := by rw [← hh, Bd.state]; rfl
  have N0 := Fr.nil n0
  have pre0 : ∀ t, Steps p.tables e below (s₁.setTop (mkF m 0 #[.val (.ref a1), .val (.int (0 : Int32)), .val (.ref a3), .val (.int (0 : Int32)), .val (.int (1 : Int32)), .unset, .unset] [])) t → Steps p.tables e below (s₁.setTop (entryFrame m #[(.ref a1), (.int (0 : Int32)), (.ref a3), (.int (0 : Int32)), (.int (1 : Int32))] 7)) t := fun t k => castTop (ef_8 m a1 (0 : Int32) a3 (0 : Int32) (1 : Int32)) k
  obtain ⟨cl101, Ar101, q101, S101, M101, H101, G101⟩ := id V_a
  have hat102 : cl101.slots[((0 : Int32)).toNatClampNeg]? = some (.int x1) := by rw [show ((0 : Int32)).toNatClampNeg = 0 from by decide]; exact H101 0 (by rw [S101]; decide)
  have hc20 : ¬ ((255 : Int32) < x1) := hl0
  obtain ⟨cl103, Ar103, q103, S103, M103, H103, G103⟩ := id V_d
  obtain ⟨T103, h103, X103, e103, W103, st103⟩ := stB X0 hx hZ e0 Ar103 (j := (0 : Int32)) (inb_of S103 ⟨by decide, by decide⟩) (g := (mkF m 31 #[vr a1, vi 0, vr a3, vi 0, vi 1, vi 0, vi x1] [wi (x1.toInt8.toInt32), wi 0, wr a3])) rfl rfl (hb hby d8_31)
  have V103 : Arv Z h103 a3 kd .byte (1 : Int32) [(.int (nar .byte (x1.toInt8.toInt32)))] (.int (0 : Int32)) := Arv.set Ar103 q103 S103 M103 H103 G103 (fits_nar_byte _) W103 0 rfl (Nat.le_of_ble_eq_true rfl)
  have N103 := Fr.snoc X103 N0 g_a3
  have y104 := ((Keep.refl h0 [a3]).wr W103 (Or.inl (List.mem_of_getElem? (i := 0) rfl)))
  obtain ⟨fs, hr, hrun, hended, hW, hsame⟩ := X103.leave (v := some (.int (1 : Int32))) (fun h => by rw [Bd.returns] at h; cases h)
  refine ⟨_, _, pre0 _ ?_, hrun, hended, _, _, rfl, ?_, ⟨_, rfl⟩, hW, hsame.mono (by decide) (by decide)⟩
  · show Go p e below s₁ (mkF m 0 #[vr a1, vi 0, vr a3, vi 0, vi 1, .unset, .unset] []) _
    refine XS.iconst X0.here hx rfl (hb hby d8_0) ?_
    show Go p e below s₁ (mkF m 1 #[vr a1, vi 0, vr a3, vi 0, vi 1, .unset, .unset] [wi 0]) _
    refine XS.istore X0.here hx rfl (hb hby d8_1) rfl (l' := #[.val (.ref a1), .val (.int (0 : Int32)), .val (.ref a3), .val (.int (0 : Int32)), .val (.int (1 : Int32)), .val (.int (0 : Int32)), .unset]) rfl ?_
    show Go p e below s₁ (mkF m 3 #[vr a1, vi 0, vr a3, vi 0, vi 1, vi 0, .unset] []) _
    refine XS.iload X0.here hx rfl (hb hby d8_3) rfl ?_
    show Go p e below s₁ (mkF m 5 #[vr a1, vi 0, vr a3, vi 0, vi 1, vi 0, .unset] [wi 0]) _
    refine XS.iload X0.here hx rfl (hb hby d8_5) rfl ?_
    show Go p e below s₁ (mkF m 7 #[vr a1, vi 0, vr a3, vi 0, vi 1, vi 0, .unset] [wi 1, wi 0]) _
    refine XS.icmpNo X0.here hx rfl (hb hby d8_7) rfl (tlt (by decide : (0 : Int32) < (1 : Int32))).2.1 ?_
    show Go p e below s₁ (mkF m 10 #[vr a1, vi 0, vr a3, vi 0, vi 1, vi 0, .unset] []) _
    refine XS.aloadN X0.here hx rfl (hb hby d8_10) rfl rfl ?_
    show Go p e below s₁ (mkF m 11 #[vr a1, vi 0, vr a3, vi 0, vi 1, vi 0, .unset] [wr a1]) _
    refine XS.iloadN X0.here hx rfl (hb hby d8_11) rfl ?_
    show Go p e below s₁ (mkF m 12 #[vr a1, vi 0, vr a3, vi 0, vi 1, vi 0, .unset] [wi 0, wr a1]) _
    refine X0.caload hx (j := (0 : Int32)) (v := (.int x1)) (by rw [e0]; exact Ar101.1) (State.isArrayOf_alike hZ.alike Ar101.2.1) Ar101.2.2 (inb_of S101 ⟨by decide, by decide⟩) hat102 (g := (mkF m 12 #[vr a1, vi 0, vr a3, vi 0, vi 1, vi 0, .unset] [wi 0, wr a1])) rfl rfl (hb hby d8_12) _ ?_
    show Go p e below s₁ (mkF m 13 #[vr a1, vi 0, vr a3, vi 0, vi 1, vi 0, .unset] [wi x1]) _
    refine XS.istore X0.here hx rfl (hb hby d8_13) rfl (l' := #[.val (.ref a1), .val (.int (0 : Int32)), .val (.ref a3), .val (.int (0 : Int32)), .val (.int (1 : Int32)), .val (.int (0 : Int32)), .val (.int x1)]) rfl ?_
    show Go p e below s₁ (mkF m 15 #[vr a1, vi 0, vr a3, vi 0, vi 1, vi 0, vi x1] []) _
    refine XS.iload X0.here hx rfl (hb hby d8_15) rfl ?_
    show Go p e below s₁ (mkF m 17 #[vr a1, vi 0, vr a3, vi 0, vi 1, vi 0, vi x1] [wi x1]) _
    refine XS.sipush X0.here hx rfl (hb hby d8_17) ?_
    show Go p e below s₁ (mkF m 20 #[vr a1, vi 0, vr a3, vi 0, vi 1, vi 0, vi x1] [wi 255, wi x1]) _
    refine XS.icmpYes X0.here hx rfl (pc0 := 20) (pc' := 26) rfl (hb hby d8_20) rfl (flt hc20).2.2.2 (by decide) (by decide) ?_
    show Go p e below s₁ (mkF m 26 #[vr a1, vi 0, vr a3, vi 0, vi 1, vi 0, vi x1] []) _
    refine XS.aloadN X0.here hx rfl (hb hby d8_26) rfl rfl ?_
    show Go p e below s₁ (mkF m 27 #[vr a1, vi 0, vr a3, vi 0, vi 1, vi 0, vi x1] [wr a3]) _
    refine XS.iloadN X0.here hx rfl (hb hby d8_27) rfl ?_
    show Go p e below s₁ (mkF m 28 #[vr a1, vi 0, vr a3, vi 0, vi 1, vi 0, vi x1] [wi 0, wr a3]) _
    refine XS.iload X0.here hx rfl (hb hby d8_28) rfl ?_
    show Go p e below s₁ (mkF m 30 #[vr a1, vi 0, vr a3, vi 0, vi 1, vi 0, vi x1] [wi x1, wi 0, wr a3]) _
    refine XS.i2b X0.here hx rfl (hb hby d8_30) rfl ?_
    show Go p e below s₁ (mkF m 31 #[vr a1, vi 0, vr a3, vi 0, vi 1, vi 0, vi x1] [wi (x1.toInt8.toInt32), wi 0, wr a3]) _
    refine st103 _ ?_
    show Go p e below T103 (mkF m 32 #[vr a1, vi 0, vr a3, vi 0, vi 1, vi 0, vi x1] []) _
    refine XS.iinc X103.here hx rfl (hb hby d8_32) rfl (l' := #[.val (.ref a1), .val (.int (1 : Int32)), .val (.ref a3), .val (.int (0 : Int32)), .val (.int (1 : Int32)), .val (.int (0 : Int32)), .val (.int x1)]) rfl ?_
    show Go p e below T103 (mkF m 35 #[vr a1, vi 1, vr a3, vi 0, vi 1, vi 0, vi x1] []) _
    refine XS.iinc X103.here hx rfl (hb hby d8_35) rfl (l' := #[.val (.ref a1), .val (.int (1 : Int32)), .val (.ref a3), .val (.int (1 : Int32)), .val (.int (1 : Int32)), .val (.int (0 : Int32)), .val (.int x1)]) rfl ?_
    show Go p e below T103 (mkF m 38 #[vr a1, vi 1, vr a3, vi 1, vi 1, vi 0, vi x1] []) _
    refine XS.iinc X103.here hx rfl (hb hby d8_38) rfl (l' := #[.val (.ref a1), .val (.int (1 : Int32)), .val (.ref a3), .val (.int (1 : Int32)), .val (.int (1 : Int32)), .val (.int (1 : Int32)), .val (.int x1)]) rfl ?_
    show Go p e below T103 (mkF m 41 #[vr a1, vi 1, vr a3, vi 1, vi 1, vi 1, vi x1] []) _
    refine XS.goto X103.here hx rfl (pc0 := 41) (pc' := 3) rfl (hb hby d8_41) (by decide) (by decide) ?_
    show Go p e below T103 (mkF m 3 #[vr a1, vi 1, vr a3, vi 1, vi 1, vi 1, vi x1] []) _
    refine XS.iload X103.here hx rfl (hb hby d8_3) rfl ?_
    show Go p e below T103 (mkF m 5 #[vr a1, vi 1, vr a3, vi 1, vi 1, vi 1, vi x1] [wi 1]) _
    refine XS.iload X103.here hx rfl (hb hby d8_5) rfl ?_
    show Go p e below T103 (mkF m 7 #[vr a1, vi 1, vr a3, vi 1, vi 1, vi 1, vi x1] [wi 1, wi 1]) _
    refine XS.icmpYes X103.here hx rfl (pc0 := 7) (pc' := 44) rfl (hb hby d8_7) rfl (flt (by decide : ¬ ((1 : Int32) < (1 : Int32)))).2.1 (by decide) (by decide) ?_
    show Go p e below T103 (mkF m 44 #[vr a1, vi 1, vr a3, vi 1, vi 1, vi 1, vi x1] []) _
    refine XS.iload X103.here hx rfl (hb hby d8_44) rfl ?_
    show Go p e below T103 (mkF m 46 #[vr a1, vi 1, vr a3, vi 1, vi 1, vi 1, vi x1] [wi 1]) _
    exact retI X103 hx Bd.returns (hb hby d8_46) hr
  · show QGB Z a3 kd (1 : Int32) [.int (StrChars.lo8 x1)] (some (.int (1 : Int32))) h0 n0 _ T103.heap _
    rw [e103]
    exact ⟨rfl, N103, y104, (by have q := V103; rw [own_rawL x1] at q; exact q)⟩
set_option maxRecDepth 65536 in
set_option maxHeartbeats 40000000 in
theorem rmC5_1_0 (l : Launch) (Z : State) (a0 : Array Value) (hw : ∀ d ∈ tables_1, d.before a0 Z = true) (ws : List Jvm.Cond) (a1 : Addr) (a3 : Addr) (ka : ClassId) (kd : ClassId) (x1 : Int32) (h0 : Heap) (n0 : Nat) (X00 : Old Z n0 h0) (V_a : Arv Z h0 a1 ka .char (1 : Int32) [(.int x1)] (.int (0 : Int32))) (V_d : Arv Z h0 a3 kd .byte (1 : Int32) [.int (0 : Int32)] (.int (0 : Int32))) (g_a3 : n0 ≤ a3) (ne : a1 ≠ a3) (hg : (255 : Int32) < x1) :
    MetFree l mn_19 (head1 (Jvm.Cond.code mn_19 jdk_52_method_21_code 7 (some .int) :: ws) ro_0) (fun a U => a = #[(.ref a1), (.int (0 : Int32)), (.ref a3), (.int (0 : Int32)), (.int (1 : Int32))] ∧ Z.Warmed39 U.vm ∧ U.heap = h0) (fun _ _ _ _ _ => True) (fun _ U o U' => ∃ rv rL, o = .returned rv ∧ QK a3 (some (.int (0 : Int32))) h0 n0 rv U'.heap rL ∧ FrameEnd U o U' rL ro_0.cells ro_0.slots) := by
  refine MetFree.of_bodySF (plainFor_of_name pn_8) hisR ?_
  intro p e s m args below meth c s₁ Bd hml0 hP hK
  obtain ⟨rfl, hZ, hh⟩ := hP
  have hx := Bd.exec
  have hby := Bd.bytes
  have hml : c.maxLocals = 7 := hml0
  have hown : s.vm.findClass "java/lang/StringUTF16" = some m.cls := findClass_of_methodNamed Bd.named
  have hnm := (name_of_methodNamed Bd.named Bd.method).1
  have X0 : Stand p l e ro_0 s m #[(.ref a1), (.int (0 : Int32)), (.ref a3), (.int (0 : Int32)), (.int (1 : Int32))] below meth c s₁ [] 0 0 := Stand.of_body Bd
  have e0 : s₁.heap = h0 := by rw [← hh, Bd.state]; rfl
  have N0 := Fr.nil n0
  have pre0 : ∀ t, Steps p.tables e below (s₁.setTop (mkF m 0 #[.val (.ref a1), .val (.int (0 : Int32)), .val (.ref a3), .val (.int (0 : Int32)), .val (.int (1 : Int32)), .unset, .unset] [])) t → Steps p.tables e below (s₁.setTop (entryFrame m #[(.ref a1), (.int (0 : Int32)), (.ref a3), (.int (0 : Int32)), (.int (1 : Int32))] 7)) t := fun t k => castTop (ef_8 m a1 (0 : Int32) a3 (0 : Int32) (1 : Int32)) k
  obtain ⟨cl101, Ar101, q101, S101, M101, H101, G101⟩ := id V_a
  have hat102 : cl101.slots[((0 : Int32)).toNatClampNeg]? = some (.int x1) := by rw [show ((0 : Int32)).toNatClampNeg = 0 from by decide]; exact H101 0 (by rw [S101]; decide)
  have hc20 : (255 : Int32) < x1 := hg
  obtain ⟨fs, hr, hrun, hended, hW, hsame⟩ := X0.leave (v := some (.int (0 : Int32))) (fun h => by rw [Bd.returns] at h; cases h)
  refine ⟨_, _, pre0 _ ?_, hrun, hended, _, _, rfl, ?_, ⟨_, rfl⟩, hW, hsame.mono (by decide) (by decide)⟩
  · show Go p e below s₁ (mkF m 0 #[vr a1, vi 0, vr a3, vi 0, vi 1, .unset, .unset] []) _
    refine XS.iconst X0.here hx rfl (hb hby d8_0) ?_
    show Go p e below s₁ (mkF m 1 #[vr a1, vi 0, vr a3, vi 0, vi 1, .unset, .unset] [wi 0]) _
    refine XS.istore X0.here hx rfl (hb hby d8_1) rfl (l' := #[.val (.ref a1), .val (.int (0 : Int32)), .val (.ref a3), .val (.int (0 : Int32)), .val (.int (1 : Int32)), .val (.int (0 : Int32)), .unset]) rfl ?_
    show Go p e below s₁ (mkF m 3 #[vr a1, vi 0, vr a3, vi 0, vi 1, vi 0, .unset] []) _
    refine XS.iload X0.here hx rfl (hb hby d8_3) rfl ?_
    show Go p e below s₁ (mkF m 5 #[vr a1, vi 0, vr a3, vi 0, vi 1, vi 0, .unset] [wi 0]) _
    refine XS.iload X0.here hx rfl (hb hby d8_5) rfl ?_
    show Go p e below s₁ (mkF m 7 #[vr a1, vi 0, vr a3, vi 0, vi 1, vi 0, .unset] [wi 1, wi 0]) _
    refine XS.icmpNo X0.here hx rfl (hb hby d8_7) rfl (tlt (by decide : (0 : Int32) < (1 : Int32))).2.1 ?_
    show Go p e below s₁ (mkF m 10 #[vr a1, vi 0, vr a3, vi 0, vi 1, vi 0, .unset] []) _
    refine XS.aloadN X0.here hx rfl (hb hby d8_10) rfl rfl ?_
    show Go p e below s₁ (mkF m 11 #[vr a1, vi 0, vr a3, vi 0, vi 1, vi 0, .unset] [wr a1]) _
    refine XS.iloadN X0.here hx rfl (hb hby d8_11) rfl ?_
    show Go p e below s₁ (mkF m 12 #[vr a1, vi 0, vr a3, vi 0, vi 1, vi 0, .unset] [wi 0, wr a1]) _
    refine X0.caload hx (j := (0 : Int32)) (v := (.int x1)) (by rw [e0]; exact Ar101.1) (State.isArrayOf_alike hZ.alike Ar101.2.1) Ar101.2.2 (inb_of S101 ⟨by decide, by decide⟩) hat102 (g := (mkF m 12 #[vr a1, vi 0, vr a3, vi 0, vi 1, vi 0, .unset] [wi 0, wr a1])) rfl rfl (hb hby d8_12) _ ?_
    show Go p e below s₁ (mkF m 13 #[vr a1, vi 0, vr a3, vi 0, vi 1, vi 0, .unset] [wi x1]) _
    refine XS.istore X0.here hx rfl (hb hby d8_13) rfl (l' := #[.val (.ref a1), .val (.int (0 : Int32)), .val (.ref a3), .val (.int (0 : Int32)), .val (.int (1 : Int32)), .val (.int (0 : Int32)), .val (.int x1)]) rfl ?_
    show Go p e below s₁ (mkF m 15 #[vr a1, vi 0, vr a3, vi 0, vi 1, vi 0, vi x1] []) _
    refine XS.iload X0.here hx rfl (hb hby d8_15) rfl ?_
    show Go p e below s₁ (mkF m 17 #[vr a1, vi 0, vr a3, vi 0, vi 1, vi 0, vi x1] [wi x1]) _
    refine XS.sipush X0.here hx rfl (hb hby d8_17) ?_
    show Go p e below s₁ (mkF m 20 #[vr a1, vi 0, vr a3, vi 0, vi 1, vi 0, vi x1] [wi 255, wi x1]) _
    refine XS.icmpNo X0.here hx rfl (hb hby d8_20) rfl (tlt hc20).2.2.2 ?_
    show Go p e below s₁ (mkF m 23 #[vr a1, vi 0, vr a3, vi 0, vi 1, vi 0, vi x1] []) _
    refine XS.iload X0.here hx rfl (hb hby d8_23) rfl ?_
    show Go p e below s₁ (mkF m 25 #[vr a1, vi 0, vr a3, vi 0, vi 1, vi 0, vi x1] [wi 0]) _
    exact retI X0 hx Bd.returns (hb hby d8_25) hr
  · show QK a3 (some (.int (0 : Int32))) h0 n0 _ s₁.heap _
    rw [e0]
    exact ⟨rfl, N0, (Keep.refl h0 [a3])⟩
set_option maxRecDepth 65536 in
set_option maxHeartbeats 40000000 in
theorem rm_newBytesLength_1 (l : Launch) (Z : State) (a0 : Array Value) (hw : ∀ d ∈ tables_1, d.before a0 Z = true) (ws : List Jvm.Cond)  (h0 : Heap) (n0 : Nat) (X00 : Old Z n0 h0) :
    MetFree l mn_23 (head1 (Jvm.Cond.code mn_23 jdk_52_method_3_code 1 (some .int) :: ws) ({ frames := 0, cells := 0, slots := 0, locals := 0 } : Room)) (fun a U => a = #[(.int (1 : Int32))] ∧ Z.Warmed39 U.vm ∧ U.heap = h0) (fun _ _ _ _ _ => True) (fun _ U o U' => ∃ rv rL, o = .returned rv ∧ Qs (some (.int (2 : Int32))) h0 n0 rv U'.heap rL ∧ FrameEnd U o U' rL ({ frames := 0, cells := 0, slots := 0, locals := 0 } : Room).cells ({ frames := 0, cells := 0, slots := 0, locals := 0 } : Room).slots) := by
  refine MetFree.of_bodySF (plainFor_of_name pn_22) hisR ?_
  intro p e s m args below meth c s₁ Bd hml0 hP hK
  obtain ⟨rfl, hZ, hh⟩ := hP
  have hx := Bd.exec
  have hby := Bd.bytes
  have hml : c.maxLocals = 1 := hml0
  have hown : s.vm.findClass "java/lang/StringUTF16" = some m.cls := findClass_of_methodNamed Bd.named
  have hnm := (name_of_methodNamed Bd.named Bd.method).1
  have X0 : Stand p l e ({ frames := 0, cells := 0, slots := 0, locals := 0 } : Room) s m #[(.int (1 : Int32))] below meth c s₁ [] 0 0 := Stand.of_body Bd
  have e0 : s₁.heap = h0 := by rw [← hh, Bd.state]; rfl
  have N0 := Fr.nil n0
  have pre0 : ∀ t, Steps p.tables e below (s₁.setTop (mkF m 0 #[.val (.int (1 : Int32))] [])) t → Steps p.tables e below (s₁.setTop (entryFrame m #[(.int (1 : Int32))] 1)) t := fun t k => castTop (ef_22 m (1 : Int32)) k
  obtain ⟨fs, hr, hrun, hended, hW, hsame⟩ := X0.leave (v := some (.int (2 : Int32))) (fun h => by rw [Bd.returns] at h; cases h)
  refine ⟨_, _, pre0 _ ?_, hrun, hended, _, _, rfl, ?_, ⟨_, rfl⟩, hW, hsame.mono (by decide) (by decide)⟩
  · show Go p e below s₁ (mkF m 0 #[vi 1] []) _
    refine XS.iloadN X0.here hx rfl (hb hby d22_0) rfl ?_
    show Go p e below s₁ (mkF m 1 #[vi 1] [wi 1]) _
    refine XS.ifYes X0.here hx rfl (pc0 := 1) (pc' := 12) rfl (hb hby d22_1) rfl ((if0 _ _).trans (flt (by decide : ¬ ((1 : Int32) < (0 : Int32)))).2.1) (by decide) (by decide) ?_
    show Go p e below s₁ (mkF m 12 #[vi 1] []) _
    refine XS.iloadN X0.here hx rfl (hb hby d22_12) rfl ?_
    show Go p e below s₁ (mkF m 13 #[vi 1] [wi 1]) _
    refine X0.ldcInt hx hown (mvT hZ (tw hw 95 rfl)) (g := (mkF m 13 #[vi 1] [wi 1])) rfl (hb hby d22_13) _ ?_
    show Go p e below s₁ (mkF m 15 #[vi 1] [wi 1073741823, wi 1]) _
    refine XS.icmpYes X0.here hx rfl (pc0 := 15) (pc' := 55) rfl (hb hby d22_15) rfl (tlt (by decide : (1 : Int32) < (1073741823 : Int32))).1 (by decide) (by decide) ?_
    show Go p e below s₁ (mkF m 55 #[vi 1] []) _
    refine XS.iloadN X0.here hx rfl (hb hby d22_55) rfl ?_
    show Go p e below s₁ (mkF m 56 #[vi 1] [wi 1]) _
    refine XS.iconst X0.here hx rfl (hb hby d22_56) ?_
    show Go p e below s₁ (mkF m 57 #[vi 1] [wi 1, wi 1]) _
    refine XS.ishl X0.here hx rfl (hb hby d22_57) rfl ?_
    show Go p e below s₁ (mkF m 58 #[vi 1] [wi 2]) _
    exact retI X0 hx Bd.returns (hb hby d22_58) hr
  · show Qs (some (.int (2 : Int32))) h0 n0 _ s₁.heap _
    rw [e0]
    exact ⟨rfl, N0, rfl⟩
set_option maxRecDepth 65536 in
set_option maxHeartbeats 40000000 in
theorem rmNBF_1 (l : Launch) (Z : State) (a0 : Array Value) (hw : ∀ d ∈ tables_1, d.before a0 Z = true) (ws : List Jvm.Cond)  (h0 : Heap) (n0 : Nat) (X00 : Old Z n0 h0) :
    MetFree l mn_22 (head1 (Jvm.Cond.code mn_22 jdk_52_method_2_code 1 (some (.array .byte)) :: ws) ro_2) (fun a U => a = #[(.int (1 : Int32))] ∧ Z.Warmed39 U.vm ∧ U.heap = h0) (fun _ _ _ _ _ => True) (fun _ U o U' => ∃ rv rL, o = .returned rv ∧ QAr Z (2 : Int32) [.int (0 : Int32), .int (0 : Int32)] h0 n0 rv U'.heap rL ∧ FrameEnd U o U' rL ro_2.cells ro_2.slots) := by
  refine MetFree.of_bodySF (plainFor_of_name pn_21) hisR ?_
  intro p e s m args below meth c s₁ Bd hml0 hP hK
  obtain ⟨rfl, hZ, hh⟩ := hP
  have hx := Bd.exec
  have hby := Bd.bytes
  have hml : c.maxLocals = 1 := hml0
  have hown : s.vm.findClass "java/lang/StringUTF16" = some m.cls := findClass_of_methodNamed Bd.named
  have hnm := (name_of_methodNamed Bd.named Bd.method).1
  have X0 : Stand p l e ro_2 s m #[(.int (1 : Int32))] below meth c s₁ [] 0 0 := Stand.of_body Bd
  have e0 : s₁.heap = h0 := by rw [← hh, Bd.state]; rfl
  have N0 := Fr.nil n0
  have pre0 : ∀ t, Steps p.tables e below (s₁.setTop (mkF m 0 #[.val (.int (1 : Int32))] [])) t → Steps p.tables e below (s₁.setTop (entryFrame m #[(.int (1 : Int32))] 1)) t := fun t k => castTop (ef_21 m (1 : Int32)) k
  obtain ⟨_, _, ⟨T101, L101, k101, n101⟩, -, X101, ⟨Lc101, hQ101, l101, y101, z101⟩, st101⟩ := Jvm.LawKit.callS X0 hx (y := mn_23) hown (mvT hZ (tw hw 92 rfl)) (mvT hZ (tw hw 93 rfl)) (mvT hZ (tw hw 27 rfl)) (mvT hZ (tw hw 94 rfl)) (by decide) (backOf (W := 0) (rm_newBytesLength_1 l Z a0 hw []  h0 n0 X00 ) hZ (tw hw 94 rfl) (tw hw 27 rfl) (by decide) (by decide)) (g := (mkF m 1 #[vi 1] [wi 1])) rfl (by rw [hml]; rfl) (argsL := [wi 1]) (rest := []) (lenOf pd_I_I rfl) rfl (Nat.le_refl _) (hb hby d21_1) (fun _ _ => ⟨rfl, e0, (by decide : 0 + 0 ≤ _), (by decide : 0 + 0 ≤ _)⟩)
  dsimp only [Pt.U, Pt.locs, Pt.cells, Pt.slots] at X101 l101 y101 z101 st101 hQ101
  subst l101 y101 z101
  obtain ⟨rfl, N101q, eq101⟩ := hQ101
  have N101 := Fr.app N0 N101q
  obtain ⟨T102, h102, k102, X102, e102, E102, A102, st102⟩ := newP X101 hx hZ (tw hw 29 rfl) eq101 (g := (mkF m 4 #[vi 1] [wi 2])) rfl (hb hby d21_4) rfl (by decide) (cap := 2) (by decide) (by decide) (by decide) (by decide)
  obtain ⟨b102, g102⟩ : ∃ z, z = h0.size := ⟨_, rfl⟩
  rw [← g102] at A102 st102
  have g_b102 : n0 ≤ b102 := Nat.le_trans (own_le X00) (Nat.le_of_eq g102.symm)
  have sz_b102 : h0.size ≤ b102 := Nat.le_trans (Keep.refl h0 []).1 (Nat.le_of_eq g102.symm)
  have V102 : Arv Z h102 b102 k102 .byte (2 : Int32) [(.int (0 : Int32)), (.int (0 : Int32))] (.int (0 : Int32)) := (Arv.new A102 (by decide)).pad (pad_rep [] (.int (0 : Int32)) 2)
  have y103 := ((Keep.refl h0 []).ext E102)
  obtain ⟨fs, hr, hrun, hended, hW, hsame⟩ := X102.leave (v := some (.ref b102)) (fun h => by rw [Bd.returns] at h; cases h)
  refine ⟨_, _, pre0 _ ?_, hrun, hended, _, _, rfl, ?_, ⟨_, rfl⟩, hW, hsame.mono (by decide) (by decide)⟩
  · show Go p e below s₁ (mkF m 0 #[vi 1] []) _
    refine XS.iloadN X0.here hx rfl (hb hby d21_0) rfl ?_
    show Go p e below s₁ (mkF m 1 #[vi 1] [wi 1]) _
    refine st101 _ ?_
    show Go p e below T101 (mkF m 4 #[vi 1] [wi 2]) _
    refine st102 _ ?_
    show Go p e below T102 (mkF m 6 #[vi 1] [wr b102]) _
    jvm_step X102.here [X102.here.top, hx, (hb hby d21_6), X102.method', Bd.returns, Value.isRef, FieldType.isReference]
    first | (intro acts; rw [hr _ acts rfl rfl rfl]) | rw [hr _ _ rfl rfl rfl]
    exact Steps.refl _
  · show QAr Z (2 : Int32) [.int (0 : Int32), .int (0 : Int32)] h0 n0 _ T102.heap _
    rw [e102]
    exact ⟨_, _, rfl, N101, y103, g_b102, sz_b102, V102⟩
set_option maxRecDepth 65536 in
set_option maxHeartbeats 40000000 in
theorem rmPut_1_0 (l : Launch) (Z : State) (a0 : Array Value) (hw : ∀ d ∈ tables_1, d.before a0 Z = true) (ws : List Jvm.Cond) (a1 : Addr) (p3 : Int32) (ka : ClassId) (h0 : Heap) (n0 : Nat) (X00 : Old Z n0 h0) (SA : pSA Z) (SH : pSH Z) (SL : pSL Z) (V_a : Arv Z h0 a1 ka .byte (2 : Int32) [.int (0 : Int32), .int (0 : Int32)] (.int (0 : Int32))) (g_a1 : n0 ≤ a1) :
    MetFree l mn_24 (head1 (Jvm.Cond.code mn_24 jdk_52_method_4_code 3 none :: ws) ro_0) (fun a U => a = #[(.ref a1), (.int (0 : Int32)), (.int p3)] ∧ Z.Warmed39 U.vm ∧ U.heap = h0) (fun _ _ _ _ _ => True) (fun _ U o U' => ∃ rv rL, o = .returned rv ∧ QGB Z a1 ka (2 : Int32) [.int (StrChars.lo8 p3), .int (StrChars.hi8 p3)] none h0 n0 rv U'.heap rL ∧ FrameEnd U o U' rL ro_0.cells ro_0.slots) := by
  refine MetFree.of_bodySF (plainFor_of_name pn_23) hisR ?_
  intro p e s m args below meth c s₁ Bd hml0 hP hK
  obtain ⟨rfl, hZ, hh⟩ := hP
  have hx := Bd.exec
  have hby := Bd.bytes
  have hml : c.maxLocals = 3 := hml0
  have hown : s.vm.findClass "java/lang/StringUTF16" = some m.cls := findClass_of_methodNamed Bd.named
  have hnm := (name_of_methodNamed Bd.named Bd.method).1
  have X0 : Stand p l e ro_0 s m #[(.ref a1), (.int (0 : Int32)), (.int p3)] below meth c s₁ [] 0 0 := Stand.of_body Bd
  have e0 : s₁.heap = h0 := by rw [← hh, Bd.state]; rfl
  have N0 := Fr.nil n0
  have pre0 : ∀ t, Steps p.tables e below (s₁.setTop (mkF m 0 #[.val (.ref a1), .val (.int (0 : Int32)), .val (.int p3)] [])) t → Steps p.tables e below (s₁.setTop (entryFrame m #[(.ref a1), (.int (0 : Int32)), (.int p3)] 3)) t := fun t k => castTop (ef_23 m a1 (0 : Int32) p3) k
  obtain ⟨T101, X101, e101, st101⟩ := getS2 X0 hx hZ hown (host := "") (Or.inl (tw hw 99 rfl)) Via.refl e0 (SA.ext X00.2) (g := (mkF m 0 #[vr a1, vi 0, vi p3] [])) rfl (hb hby d23_0)
  obtain ⟨T102, X102, e102, st102⟩ := getS2 X101 hx hZ hown (host := "") (Or.inl (tw hw 100 rfl)) Via.refl e101 (SH.ext X00.2) (g := (mkF m 38 #[vr a1, vi 1, vi p3] [wi p3, wi 0, wr a1])) rfl (hb hby d23_38)
  obtain ⟨cl103, Ar103, q103, S103, M103, H103, G103⟩ := id V_a
  obtain ⟨T103, h103, X103, e103, W103, st103⟩ := stB X102 hx hZ e102 Ar103 (j := (0 : Int32)) (inb_of S103 ⟨by decide, by decide⟩) (g := (mkF m 43 #[vr a1, vi 1, vi p3] [wi ((p3 >>> ((0 : Int32) &&& 31)).toInt8.toInt32), wi 0, wr a1])) rfl rfl (hb hby d23_43)
  have V103 : Arv Z h103 a1 ka .byte (2 : Int32) [(.int (nar .byte ((p3 >>> ((0 : Int32) &&& 31)).toInt8.toInt32))), (.int (0 : Int32))] (.int (0 : Int32)) := Arv.set Ar103 q103 S103 M103 H103 G103 (fits_nar_byte _) W103 0 rfl (Nat.le_of_ble_eq_true rfl)
  have N103 := Fr.snoc X103 N0 g_a1
  have y105 := (X00.wr W103 g_a1)
  obtain ⟨T104, X104, e104, st104⟩ := getS2 X103 hx hZ hown (host := "") (Or.inl (tw hw 101 rfl)) Via.refl e103 (SL.ext y105.2) (g := (mkF m 47 #[vr a1, vi 1, vi p3] [wi p3, wi 1, wr a1])) rfl (hb hby d23_47)
  obtain ⟨cl106, Ar106, q106, S106, M106, H106, G106⟩ := id V103
  obtain ⟨T106, h106, X106, e106, W106, st106⟩ := stB X104 hx hZ e104 Ar106 (j := (1 : Int32)) (inb_of S106 ⟨by decide, by decide⟩) (g := (mkF m 52 #[vr a1, vi 1, vi p3] [wi ((p3 >>> ((8 : Int32) &&& 31)).toInt8.toInt32), wi 1, wr a1])) rfl rfl (hb hby d23_52)
  have V106 : Arv Z h106 a1 ka .byte (2 : Int32) [(.int (nar .byte ((p3 >>> ((0 : Int32) &&& 31)).toInt8.toInt32))), (.int (nar .byte ((p3 >>> ((8 : Int32) &&& 31)).toInt8.toInt32)))] (.int (0 : Int32)) := Arv.set Ar106 q106 S106 M106 H106 G106 (fits_nar_byte _) W106 1 rfl (Nat.le_of_ble_eq_true rfl)
  have N106 := Fr.snoc X106 N103 g_a1
  have y107 := (((Keep.refl h0 [a1]).wr W103 (Or.inl (List.mem_of_getElem? (i := 0) rfl))).wr W106 (Or.inl (List.mem_of_getElem? (i := 0) rfl)))
  obtain ⟨fs, hr, hrun, hended, hW, hsame⟩ := X106.leave (v := none) (fun _ => rfl)
  refine ⟨_, _, pre0 _ ?_, hrun, hended, _, _, rfl, ?_, ⟨_, rfl⟩, hW, hsame.mono (by decide) (by decide)⟩
  · show Go p e below s₁ (mkF m 0 #[vr a1, vi 0, vi p3] []) _
    refine st101 _ ?_
    show Go p e below T101 (mkF m 3 #[vr a1, vi 0, vi p3] [wi 1]) _
    refine XS.ifYes X101.here hx rfl (pc0 := 3) (pc' := 28) rfl (hb hby d23_3) rfl ((if0 _ _).trans (feq (by decide : ¬ ((1 : Int32) = (0 : Int32)))).2) (by decide) (by decide) ?_
    show Go p e below T101 (mkF m 28 #[vr a1, vi 0, vi p3] []) _
    refine XS.iloadN X101.here hx rfl (hb hby d23_28) rfl ?_
    show Go p e below T101 (mkF m 29 #[vr a1, vi 0, vi p3] [wi 0]) _
    refine XS.iconst X101.here hx rfl (hb hby d23_29) ?_
    show Go p e below T101 (mkF m 30 #[vr a1, vi 0, vi p3] [wi 1, wi 0]) _
    refine XS.ishl X101.here hx rfl (hb hby d23_30) rfl ?_
    show Go p e below T101 (mkF m 31 #[vr a1, vi 0, vi p3] [wi 0]) _
    refine XS.istoreN X101.here hx rfl (hb hby d23_31) rfl (l' := #[.val (.ref a1), .val (.int (0 : Int32)), .val (.int p3)]) rfl ?_
    show Go p e below T101 (mkF m 32 #[vr a1, vi 0, vi p3] []) _
    refine XS.aloadN X101.here hx rfl (hb hby d23_32) rfl rfl ?_
    show Go p e below T101 (mkF m 33 #[vr a1, vi 0, vi p3] [wr a1]) _
    refine XS.iloadN X101.here hx rfl (hb hby d23_33) rfl ?_
    show Go p e below T101 (mkF m 34 #[vr a1, vi 0, vi p3] [wi 0, wr a1]) _
    refine XS.iinc X101.here hx rfl (hb hby d23_34) rfl (l' := #[.val (.ref a1), .val (.int (1 : Int32)), .val (.int p3)]) rfl ?_
    show Go p e below T101 (mkF m 37 #[vr a1, vi 1, vi p3] [wi 0, wr a1]) _
    refine XS.iloadN X101.here hx rfl (hb hby d23_37) rfl ?_
    show Go p e below T101 (mkF m 38 #[vr a1, vi 1, vi p3] [wi p3, wi 0, wr a1]) _
    refine st102 _ ?_
    show Go p e below T102 (mkF m 41 #[vr a1, vi 1, vi p3] [wi 0, wi p3, wi 0, wr a1]) _
    refine XS.ishr X102.here hx rfl (hb hby d23_41) rfl ?_
    show Go p e below T102 (mkF m 42 #[vr a1, vi 1, vi p3] [wi (p3 >>> ((0 : Int32) &&& 31)), wi 0, wr a1]) _
    refine XS.i2b X102.here hx rfl (hb hby d23_42) rfl ?_
    show Go p e below T102 (mkF m 43 #[vr a1, vi 1, vi p3] [wi ((p3 >>> ((0 : Int32) &&& 31)).toInt8.toInt32), wi 0, wr a1]) _
    refine st103 _ ?_
    show Go p e below T103 (mkF m 44 #[vr a1, vi 1, vi p3] []) _
    refine XS.aloadN X103.here hx rfl (hb hby d23_44) rfl rfl ?_
    show Go p e below T103 (mkF m 45 #[vr a1, vi 1, vi p3] [wr a1]) _
    refine XS.iloadN X103.here hx rfl (hb hby d23_45) rfl ?_
    show Go p e below T103 (mkF m 46 #[vr a1, vi 1, vi p3] [wi 1, wr a1]) _
    refine XS.iloadN X103.here hx rfl (hb hby d23_46) rfl ?_
    show Go p e below T103 (mkF m 47 #[vr a1, vi 1, vi p3] [wi p3, wi 1, wr a1]) _
    refine st104 _ ?_
    show Go p e below T104 (mkF m 50 #[vr a1, vi 1, vi p3] [wi 8, wi p3, wi 1, wr a1]) _
    refine XS.ishr X104.here hx rfl (hb hby d23_50) rfl ?_
    show Go p e below T104 (mkF m 51 #[vr a1, vi 1, vi p3] [wi (p3 >>> ((8 : Int32) &&& 31)), wi 1, wr a1]) _
    refine XS.i2b X104.here hx rfl (hb hby d23_51) rfl ?_
    show Go p e below T104 (mkF m 52 #[vr a1, vi 1, vi p3] [wi ((p3 >>> ((8 : Int32) &&& 31)).toInt8.toInt32), wi 1, wr a1]) _
    refine st106 _ ?_
    show Go p e below T106 (mkF m 53 #[vr a1, vi 1, vi p3] []) _
    exact X106.returnOut hx Bd.returns (hb hby d23_53) hr
  · show QGB Z a1 ka (2 : Int32) [.int (StrChars.lo8 p3), .int (StrChars.hi8 p3)] none h0 n0 _ T106.heap _
    rw [e106]
    exact ⟨rfl, N106, y107, (by have q := V106; rw [own_raw0 p3, own_raw1 p3] at q; exact q)⟩
set_option maxRecDepth 65536 in
set_option maxHeartbeats 40000000 in
theorem rmTob_1 (l : Launch) (Z : State) (a0 : Array Value) (hw : ∀ d ∈ tables_1, d.before a0 Z = true) (ws : List Jvm.Cond) (a1 : Addr) (ka : ClassId) (x1 : Int32) (h0 : Heap) (n0 : Nat) (X00 : Old Z n0 h0) (SA : pSA Z) (SH : pSH Z) (SL : pSL Z) (V_a : Arv Z h0 a1 ka .char (1 : Int32) [(.int x1)] (.int (0 : Int32))) :
    MetFree l mn_25 (head1 (Jvm.Cond.code mn_25 jdk_52_method_14_code 5 (some (.array .byte)) :: ws) ro_3) (fun a U => a = #[(.ref a1), (.int (0 : Int32)), (.int (1 : Int32))] ∧ Z.Warmed39 U.vm ∧ U.heap = h0) (fun _ _ _ _ _ => True) (fun _ U o U' => ∃ rv rL, o = .returned rv ∧ QAr Z (2 : Int32) [.int (StrChars.lo8 x1), .int (StrChars.hi8 x1)] h0 n0 rv U'.heap rL ∧ FrameEnd U o U' rL ro_3.cells ro_3.slots) := by
  refine MetFree.of_bodySF (plainFor_of_name pn_20) hisR ?_
  intro p e s m args below meth c s₁ Bd hml0 hP hK
  obtain ⟨rfl, hZ, hh⟩ := hP
  have hx := Bd.exec
  have hby := Bd.bytes
  have hml : c.maxLocals = 5 := hml0
  have hown : s.vm.findClass "java/lang/StringUTF16" = some m.cls := findClass_of_methodNamed Bd.named
  have hnm := (name_of_methodNamed Bd.named Bd.method).1
  have X0 : Stand p l e ro_3 s m #[(.ref a1), (.int (0 : Int32)), (.int (1 : Int32))] below meth c s₁ [] 0 0 := Stand.of_body Bd
  have e0 : s₁.heap = h0 := by rw [← hh, Bd.state]; rfl
  have N0 := Fr.nil n0
  have pre0 : ∀ t, Steps p.tables e below (s₁.setTop (mkF m 0 #[.val (.ref a1), .val (.int (0 : Int32)), .val (.int (1 : Int32)), .unset, .unset] [])) t → Steps p.tables e below (s₁.setTop (entryFrame m #[(.ref a1), (.int (0 : Int32)), (.int (1 : Int32))] 5)) t := fun t k => castTop (ef_20 m a1 (0 : Int32) (1 : Int32)) k
  have lz101_a1 := V_a.lt
  obtain ⟨_, _, ⟨T101, L101, k101, n101⟩, -, X101, ⟨Lc101, hQ101, l101, y101, z101⟩, st101⟩ := Jvm.LawKit.callS X0 hx (y := mn_22) hown (mvT hZ (tw hw 89 rfl)) (mvT hZ (tw hw 90 rfl)) (mvT hZ (tw hw 27 rfl)) (mvT hZ (tw hw 91 rfl)) (by decide) (backOf (W := 0) (rmNBF_1 l Z a0 hw []  h0 n0 X00 ) hZ (tw hw 91 rfl) (tw hw 27 rfl) (by decide) (by decide)) (g := (mkF m 1 #[vr a1, vi 0, vi 1, .unset, .unset] [wi 1])) rfl (by rw [hml]; rfl) (argsL := [wi 1]) (rest := []) (lenOf pd_I_AB rfl) rfl (Nat.le_refl _) (hb hby d20_1) (fun _ _ => ⟨rfl, e0, (by decide : 0 + 1 ≤ _), (by decide : 0 + 2 ≤ _)⟩)
  dsimp only [Pt.U, Pt.locs, Pt.cells, Pt.slots] at X101 l101 y101 z101 st101 hQ101
  subst l101 y101 z101
  obtain ⟨ur101, uq101, rfl, N101q, Kc101, ug101, us101, uV101⟩ := hQ101
  have N101 := Fr.app N0 N101q
  have lt_a1_ur101 : a1 < ur101 := Nat.lt_of_lt_of_le lz101_a1 us101
  have sz_ur101 : h0.size ≤ ur101 := Nat.le_trans (Keep.refl h0 []).1 us101
  have y102 := (V_a.keep Kc101 own_nm0)
  obtain ⟨cl103, Ar103, q103, S103, M103, H103, G103⟩ := id y102
  have hat104 : cl103.slots[((0 : Int32)).toNatClampNeg]? = some (.int x1) := by rw [show ((0 : Int32)).toNatClampNeg = 0 from by decide]; exact H103 0 (by rw [S103]; decide)
  have y105 := ((Keep.refl h0 []).trans Kc101 all0)
  have y106 := (X00.keep Kc101 all0)
  obtain ⟨_, _, ⟨T107, L107, k107, n107⟩, -, X107, ⟨Lc107, hQ107, l107, y107, z107⟩, st107⟩ := Jvm.LawKit.callS X101 hx (y := mn_24) hown (mvT hZ (tw hw 96 rfl)) (mvT hZ (tw hw 97 rfl)) (mvT hZ (tw hw 27 rfl)) (mvT hZ (tw hw 98 rfl)) (by decide) (backOf (W := 0) (rmPut_1_0 l Z a0 hw [] ur101 x1 uq101 T101.heap n0 y106 SA SH SL uV101 ug101) hZ (tw hw 98 rfl) (tw hw 27 rfl) (by decide) (by decide)) (g := (mkF m 20 #[vr a1, vi 0, vi 1, vr ur101, vi 0] [wi x1, wi 0, wr ur101])) rfl (by rw [hml]; rfl) (argsL := [wr ur101, wi 0, wi x1]) (rest := []) (lenOf pd_ABII_V rfl) rfl (Nat.le_refl _) (hb hby d20_20) (fun _ _ => ⟨rfl, rfl, (by decide : 1 + 0 ≤ _), (by decide : 2 + 0 ≤ _)⟩)
  dsimp only [Pt.U, Pt.locs, Pt.cells, Pt.slots] at X107 l107 y107 z107 st107 hQ107
  subst l107 y107 z107
  obtain ⟨rfl, N107q, Kc107, uV107⟩ := hQ107
  have N107 := Fr.app N101 N107q
  have y108 := (y105.trans Kc107 (allS (Or.inr sz_ur101) all0))
  obtain ⟨fs, hr, hrun, hended, hW, hsame⟩ := X107.leave (v := some (.ref ur101)) (fun h => by rw [Bd.returns] at h; cases h)
  refine ⟨_, _, pre0 _ ?_, hrun, hended, _, _, rfl, ?_, ⟨_, rfl⟩, hW, hsame.mono (by decide) (by decide)⟩
  · show Go p e below s₁ (mkF m 0 #[vr a1, vi 0, vi 1, .unset, .unset] []) _
    refine XS.iloadN X0.here hx rfl (hb hby d20_0) rfl ?_
    show Go p e below s₁ (mkF m 1 #[vr a1, vi 0, vi 1, .unset, .unset] [wi 1]) _
    refine st101 _ ?_
    show Go p e below T101 (mkF m 4 #[vr a1, vi 0, vi 1, .unset, .unset] [wr ur101]) _
    refine XS.astoreN X101.here hx rfl (hb hby d20_4) rfl rfl (l' := #[.val (.ref a1), .val (.int (0 : Int32)), .val (.int (1 : Int32)), .val (.ref ur101), .unset]) rfl ?_
    show Go p e below T101 (mkF m 5 #[vr a1, vi 0, vi 1, vr ur101, .unset] []) _
    refine XS.iconst X101.here hx rfl (hb hby d20_5) ?_
    show Go p e below T101 (mkF m 6 #[vr a1, vi 0, vi 1, vr ur101, .unset] [wi 0]) _
    refine XS.istore X101.here hx rfl (hb hby d20_6) rfl (l' := #[.val (.ref a1), .val (.int (0 : Int32)), .val (.int (1 : Int32)), .val (.ref ur101), .val (.int (0 : Int32))]) rfl ?_
    show Go p e below T101 (mkF m 8 #[vr a1, vi 0, vi 1, vr ur101, vi 0] []) _
    refine XS.iload X101.here hx rfl (hb hby d20_8) rfl ?_
    show Go p e below T101 (mkF m 10 #[vr a1, vi 0, vi 1, vr ur101, vi 0] [wi 0]) _
    refine XS.iloadN X101.here hx rfl (hb hby d20_10) rfl ?_
    show Go p e below T101 (mkF m 11 #[vr a1, vi 0, vi 1, vr ur101, vi 0] [wi 1, wi 0]) _
    refine XS.icmpNo X101.here hx rfl (hb hby d20_11) rfl (tlt (by decide : (0 : Int32) < (1 : Int32))).2.1 ?_
    show Go p e below T101 (mkF m 14 #[vr a1, vi 0, vi 1, vr ur101, vi 0] []) _
    refine XS.aloadN X101.here hx rfl (hb hby d20_14) rfl rfl ?_
    show Go p e below T101 (mkF m 15 #[vr a1, vi 0, vi 1, vr ur101, vi 0] [wr ur101]) _
    refine XS.iload X101.here hx rfl (hb hby d20_15) rfl ?_
    show Go p e below T101 (mkF m 17 #[vr a1, vi 0, vi 1, vr ur101, vi 0] [wi 0, wr ur101]) _
    refine XS.aloadN X101.here hx rfl (hb hby d20_17) rfl rfl ?_
    show Go p e below T101 (mkF m 18 #[vr a1, vi 0, vi 1, vr ur101, vi 0] [wr a1, wi 0, wr ur101]) _
    refine XS.iloadN X101.here hx rfl (hb hby d20_18) rfl ?_
    show Go p e below T101 (mkF m 19 #[vr a1, vi 0, vi 1, vr ur101, vi 0] [wi 0, wr a1, wi 0, wr ur101]) _
    refine X101.caload hx (j := (0 : Int32)) (v := (.int x1)) Ar103.1 (State.isArrayOf_alike hZ.alike Ar103.2.1) Ar103.2.2 (inb_of S103 ⟨by decide, by decide⟩) hat104 (g := (mkF m 19 #[vr a1, vi 0, vi 1, vr ur101, vi 0] [wi 0, wr a1, wi 0, wr ur101])) rfl rfl (hb hby d20_19) _ ?_
    show Go p e below T101 (mkF m 20 #[vr a1, vi 0, vi 1, vr ur101, vi 0] [wi x1, wi 0, wr ur101]) _
    refine st107 _ ?_
    show Go p e below T107 (mkF m 23 #[vr a1, vi 0, vi 1, vr ur101, vi 0] []) _
    refine XS.iinc X107.here hx rfl (hb hby d20_23) rfl (l' := #[.val (.ref a1), .val (.int (1 : Int32)), .val (.int (1 : Int32)), .val (.ref ur101), .val (.int (0 : Int32))]) rfl ?_
    show Go p e below T107 (mkF m 26 #[vr a1, vi 1, vi 1, vr ur101, vi 0] []) _
    refine XS.iinc X107.here hx rfl (hb hby d20_26) rfl (l' := #[.val (.ref a1), .val (.int (1 : Int32)), .val (.int (1 : Int32)), .val (.ref ur101), .val (.int (1 : Int32))]) rfl ?_
    show Go p e below T107 (mkF m 29 #[vr a1, vi 1, vi 1, vr ur101, vi 1] []) _
    refine XS.goto X107.here hx rfl (pc0 := 29) (pc' := 8) rfl (hb hby d20_29) (by decide) (by decide) ?_
    show Go p e below T107 (mkF m 8 #[vr a1, vi 1, vi 1, vr ur101, vi 1] []) _
    refine XS.iload X107.here hx rfl (hb hby d20_8) rfl ?_
    show Go p e below T107 (mkF m 10 #[vr a1, vi 1, vi 1, vr ur101, vi 1] [wi 1]) _
    refine XS.iloadN X107.here hx rfl (hb hby d20_10) rfl ?_
    show Go p e below T107 (mkF m 11 #[vr a1, vi 1, vi 1, vr ur101, vi 1] [wi 1, wi 1]) _
    refine XS.icmpYes X107.here hx rfl (pc0 := 11) (pc' := 32) rfl (hb hby d20_11) rfl (flt (by decide : ¬ ((1 : Int32) < (1 : Int32)))).2.1 (by decide) (by decide) ?_
    show Go p e below T107 (mkF m 32 #[vr a1, vi 1, vi 1, vr ur101, vi 1] []) _
    refine XS.aloadN X107.here hx rfl (hb hby d20_32) rfl rfl ?_
    show Go p e below T107 (mkF m 33 #[vr a1, vi 1, vi 1, vr ur101, vi 1] [wr ur101]) _
    jvm_step X107.here [X107.here.top, hx, (hb hby d20_33), X107.method', Bd.returns, Value.isRef, FieldType.isReference]
    first | (intro acts; rw [hr _ acts rfl rfl rfl]) | rw [hr _ _ rfl rfl rfl]
    exact Steps.refl _
  · show QAr Z (2 : Int32) [.int (StrChars.lo8 x1), .int (StrChars.hi8 x1)] h0 n0 _ T107.heap _
    exact ⟨_, _, rfl, N107, y108, ug101, sz_ur101, uV107⟩
set_option maxRecDepth 65536 in
set_option maxHeartbeats 40000000 in
theorem rmGch (l : Launch) (Z : State) (a0 : Array Value) (hw : ∀ d ∈ tables_1, d.before a0 Z = true) (ws : List Jvm.Cond) (a1 : Addr) (p2 : Int32) (ka : ClassId) (N : Int32) (vs : List Value) (xc : Int32) (h0 : Heap) (n0 : Nat) (X00 : Old Z n0 h0) (SA : pSA Z) (SH : pSH Z) (SL : pSL Z) (V_a : Arv Z h0 a1 ka .byte N vs (.int (0 : Int32))) (q0 : EAt N vs (p2 <<< ((1 : Int32) &&& 31)) (StrChars.lo8 xc)) (q1 : EAt N vs ((p2 <<< ((1 : Int32) &&& 31)) + (1 : Int32)) (StrChars.hi8 xc)) (hbx : ChB xc) :
    MetFree l mn_20 (head1 (Jvm.Cond.code mn_20 jdk_52_method_5_code 2 (some .char) :: ws) ro_0) (fun a U => a = #[(.ref a1), (.int p2)] ∧ Z.Warmed39 U.vm ∧ U.heap = h0) (fun _ _ _ _ _ => True) (fun _ U o U' => ∃ rv rL, o = .returned rv ∧ Qs (some (.int xc)) h0 n0 rv U'.heap rL ∧ FrameEnd U o U' rL ro_0.cells ro_0.slots) := by
  refine MetFree.of_bodySF (plainFor_of_name pn_24) hisR ?_
  intro p e s m args below meth c s₁ Bd hml0 hP hK
  obtain ⟨rfl, hZ, hh⟩ := hP
  have hx := Bd.exec
  have hby := Bd.bytes
  have hml : c.maxLocals = 2 := hml0
  have hown : s.vm.findClass "java/lang/StringUTF16" = some m.cls := findClass_of_methodNamed Bd.named
  have hnm := (name_of_methodNamed Bd.named Bd.method).1
  have X0 : Stand p l e ro_0 s m #[(.ref a1), (.int p2)] below meth c s₁ [] 0 0 := Stand.of_body Bd
  have e0 : s₁.heap = h0 := by rw [← hh, Bd.state]; rfl
  have N0 := Fr.nil n0
  have pre0 : ∀ t, Steps p.tables e below (s₁.setTop (mkF m 0 #[.val (.ref a1), .val (.int p2)] [])) t → Steps p.tables e below (s₁.setTop (entryFrame m #[(.ref a1), (.int p2)] 2)) t := fun t k => castTop (ef_24 m a1 p2) k
  obtain ⟨T101, X101, e101, st101⟩ := getS2 X0 hx hZ hown (host := "") (Or.inl (tw hw 99 rfl)) Via.refl e0 (SA.ext X00.2) (g := (mkF m 0 #[vr a1, vi p2] [])) rfl (hb hby d24_0)
  obtain ⟨cl102, Ar102, q102, S102, M102, H102, G102⟩ := id V_a
  have hat103 : cl102.slots[((p2 <<< ((1 : Int32) &&& 31))).toNatClampNeg]? = some (.int (StrChars.lo8 xc)) := (H102 _ (by rw [S102]; exact q0.2.1)).trans (congrArg some q0.2.2)
  obtain ⟨T104, X104, e104, st104⟩ := getS2 X101 hx hZ hown (host := "") (Or.inl (tw hw 100 rfl)) Via.refl e101 (SH.ext X00.2) (g := (mkF m 42 #[vr a1, vi ((p2 <<< ((1 : Int32) &&& 31)) + (1 : Int32))] [wi ((StrChars.lo8 xc) &&& (255 : Int32))])) rfl (hb hby d24_42)
  have hat105 : cl102.slots[(((p2 <<< ((1 : Int32) &&& 31)) + (1 : Int32))).toNatClampNeg]? = some (.int (StrChars.hi8 xc)) := (H102 _ (by rw [S102]; exact q1.2.1)).trans (congrArg some q1.2.2)
  obtain ⟨T106, X106, e106, st106⟩ := getS2 X104 hx hZ hown (host := "") (Or.inl (tw hw 101 rfl)) Via.refl e104 (SL.ext X00.2) (g := (mkF m 53 #[vr a1, vi ((p2 <<< ((1 : Int32) &&& 31)) + (1 : Int32))] [wi ((StrChars.hi8 xc) &&& (255 : Int32)), wi (((StrChars.lo8 xc) &&& (255 : Int32)) <<< ((0 : Int32) &&& 31))])) rfl (hb hby d24_53)
  obtain ⟨fs, hr, hrun, hended, hW, hsame⟩ := X106.leave (v := some (.int (nar .char (((((StrChars.lo8 xc) &&& (255 : Int32)) <<< ((0 : Int32) &&& 31)) ||| (((StrChars.hi8 xc) &&& (255 : Int32)) <<< ((8 : Int32) &&& 31))).toUInt32.toUInt16.toUInt32.toInt32)))) (fun h => by rw [Bd.returns] at h; cases h)
  refine ⟨_, _, pre0 _ ?_, hrun, hended, _, _, rfl, ?_, ⟨_, rfl⟩, hW, hsame.mono (by decide) (by decide)⟩
  · show Go p e below s₁ (mkF m 0 #[vr a1, vi p2] []) _
    refine st101 _ ?_
    show Go p e below T101 (mkF m 3 #[vr a1, vi p2] [wi 1]) _
    refine XS.ifYes X101.here hx rfl (pc0 := 3) (pc' := 28) rfl (hb hby d24_3) rfl ((if0 _ _).trans (feq (by decide : ¬ ((1 : Int32) = (0 : Int32)))).2) (by decide) (by decide) ?_
    show Go p e below T101 (mkF m 28 #[vr a1, vi p2] []) _
    refine XS.iloadN X101.here hx rfl (hb hby d24_28) rfl ?_
    show Go p e below T101 (mkF m 29 #[vr a1, vi p2] [wi p2]) _
    refine XS.iconst X101.here hx rfl (hb hby d24_29) ?_
    show Go p e below T101 (mkF m 30 #[vr a1, vi p2] [wi 1, wi p2]) _
    refine XS.ishl X101.here hx rfl (hb hby d24_30) rfl ?_
    show Go p e below T101 (mkF m 31 #[vr a1, vi p2] [wi (p2 <<< ((1 : Int32) &&& 31))]) _
    refine XS.istoreN X101.here hx rfl (hb hby d24_31) rfl (l' := #[.val (.ref a1), .val (.int (p2 <<< ((1 : Int32) &&& 31)))]) rfl ?_
    show Go p e below T101 (mkF m 32 #[vr a1, vi (p2 <<< ((1 : Int32) &&& 31))] []) _
    refine XS.aloadN X101.here hx rfl (hb hby d24_32) rfl rfl ?_
    show Go p e below T101 (mkF m 33 #[vr a1, vi (p2 <<< ((1 : Int32) &&& 31))] [wr a1]) _
    refine XS.iloadN X101.here hx rfl (hb hby d24_33) rfl ?_
    show Go p e below T101 (mkF m 34 #[vr a1, vi (p2 <<< ((1 : Int32) &&& 31))] [wi (p2 <<< ((1 : Int32) &&& 31)), wr a1]) _
    refine XS.iinc X101.here hx rfl (hb hby d24_34) rfl (l' := #[.val (.ref a1), .val (.int ((p2 <<< ((1 : Int32) &&& 31)) + (1 : Int32)))]) rfl ?_
    show Go p e below T101 (mkF m 37 #[vr a1, vi ((p2 <<< ((1 : Int32) &&& 31)) + (1 : Int32))] [wi (p2 <<< ((1 : Int32) &&& 31)), wr a1]) _
    refine X101.baloadBytes hx (j := (p2 <<< ((1 : Int32) &&& 31))) (v := (.int (StrChars.lo8 xc))) (by rw [e101]; exact Ar102.1) (State.isArrayOf_alike hZ.alike Ar102.2.1) Ar102.2.2 (inb_of S102 q0.1) hat103 (g := (mkF m 37 #[vr a1, vi ((p2 <<< ((1 : Int32) &&& 31)) + (1 : Int32))] [wi (p2 <<< ((1 : Int32) &&& 31)), wr a1])) rfl rfl (hb hby d24_37) _ ?_
    show Go p e below T101 (mkF m 38 #[vr a1, vi ((p2 <<< ((1 : Int32) &&& 31)) + (1 : Int32))] [wi (StrChars.lo8 xc)]) _
    refine XS.sipush X101.here hx rfl (hb hby d24_38) ?_
    show Go p e below T101 (mkF m 41 #[vr a1, vi ((p2 <<< ((1 : Int32) &&& 31)) + (1 : Int32))] [wi 255, wi (StrChars.lo8 xc)]) _
    refine XS.iand X101.here hx rfl (hb hby d24_41) rfl ?_
    show Go p e below T101 (mkF m 42 #[vr a1, vi ((p2 <<< ((1 : Int32) &&& 31)) + (1 : Int32))] [wi ((StrChars.lo8 xc) &&& (255 : Int32))]) _
    refine st104 _ ?_
    show Go p e below T104 (mkF m 45 #[vr a1, vi ((p2 <<< ((1 : Int32) &&& 31)) + (1 : Int32))] [wi 0, wi ((StrChars.lo8 xc) &&& (255 : Int32))]) _
    refine XS.ishl X104.here hx rfl (hb hby d24_45) rfl ?_
    show Go p e below T104 (mkF m 46 #[vr a1, vi ((p2 <<< ((1 : Int32) &&& 31)) + (1 : Int32))] [wi (((StrChars.lo8 xc) &&& (255 : Int32)) <<< ((0 : Int32) &&& 31))]) _
    refine XS.aloadN X104.here hx rfl (hb hby d24_46) rfl rfl ?_
    show Go p e below T104 (mkF m 47 #[vr a1, vi ((p2 <<< ((1 : Int32) &&& 31)) + (1 : Int32))] [wr a1, wi (((StrChars.lo8 xc) &&& (255 : Int32)) <<< ((0 : Int32) &&& 31))]) _
    refine XS.iloadN X104.here hx rfl (hb hby d24_47) rfl ?_
    show Go p e below T104 (mkF m 48 #[vr a1, vi ((p2 <<< ((1 : Int32) &&& 31)) + (1 : Int32))] [wi ((p2 <<< ((1 : Int32) &&& 31)) + (1 : Int32)), wr a1, wi (((StrChars.lo8 xc) &&& (255 : Int32)) <<< ((0 : Int32) &&& 31))]) _
    refine X104.baloadBytes hx (j := ((p2 <<< ((1 : Int32) &&& 31)) + (1 : Int32))) (v := (.int (StrChars.hi8 xc))) (by rw [e104]; exact Ar102.1) (State.isArrayOf_alike hZ.alike Ar102.2.1) Ar102.2.2 (inb_of S102 q1.1) hat105 (g := (mkF m 48 #[vr a1, vi ((p2 <<< ((1 : Int32) &&& 31)) + (1 : Int32))] [wi ((p2 <<< ((1 : Int32) &&& 31)) + (1 : Int32)), wr a1, wi (((StrChars.lo8 xc) &&& (255 : Int32)) <<< ((0 : Int32) &&& 31))])) rfl rfl (hb hby d24_48) _ ?_
    show Go p e below T104 (mkF m 49 #[vr a1, vi ((p2 <<< ((1 : Int32) &&& 31)) + (1 : Int32))] [wi (StrChars.hi8 xc), wi (((StrChars.lo8 xc) &&& (255 : Int32)) <<< ((0 : Int32) &&& 31))]) _
    refine XS.sipush X104.here hx rfl (hb hby d24_49) ?_
    show Go p e below T104 (mkF m 52 #[vr a1, vi ((p2 <<< ((1 : Int32) &&& 31)) + (1 : Int32))] [wi 255, wi (StrChars.hi8 xc), wi (((StrChars.lo8 xc) &&& (255 : Int32)) <<< ((0 : Int32) &&& 31))]) _
    refine XS.iand X104.here hx rfl (hb hby d24_52) rfl ?_
    show Go p e below T104 (mkF m 53 #[vr a1, vi ((p2 <<< ((1 : Int32) &&& 31)) + (1 : Int32))] [wi ((StrChars.hi8 xc) &&& (255 : Int32)), wi (((StrChars.lo8 xc) &&& (255 : Int32)) <<< ((0 : Int32) &&& 31))]) _
    refine st106 _ ?_
    show Go p e below T106 (mkF m 56 #[vr a1, vi ((p2 <<< ((1 : Int32) &&& 31)) + (1 : Int32))] [wi 8, wi ((StrChars.hi8 xc) &&& (255 : Int32)), wi (((StrChars.lo8 xc) &&& (255 : Int32)) <<< ((0 : Int32) &&& 31))]) _
    refine XS.ishl X106.here hx rfl (hb hby d24_56) rfl ?_
    show Go p e below T106 (mkF m 57 #[vr a1, vi ((p2 <<< ((1 : Int32) &&& 31)) + (1 : Int32))] [wi (((StrChars.hi8 xc) &&& (255 : Int32)) <<< ((8 : Int32) &&& 31)), wi (((StrChars.lo8 xc) &&& (255 : Int32)) <<< ((0 : Int32) &&& 31))]) _
    refine XS.ior X106.here hx rfl (hb hby d24_57) rfl ?_
    show Go p e below T106 (mkF m 58 #[vr a1, vi ((p2 <<< ((1 : Int32) &&& 31)) + (1 : Int32))] [wi ((((StrChars.lo8 xc) &&& (255 : Int32)) <<< ((0 : Int32) &&& 31)) ||| (((StrChars.hi8 xc) &&& (255 : Int32)) <<< ((8 : Int32) &&& 31)))]) _
    refine XS.i2c X106.here hx rfl (hb hby d24_58) rfl ?_
    show Go p e below T106 (mkF m 59 #[vr a1, vi ((p2 <<< ((1 : Int32) &&& 31)) + (1 : Int32))] [wi (((((StrChars.lo8 xc) &&& (255 : Int32)) <<< ((0 : Int32) &&& 31)) ||| (((StrChars.hi8 xc) &&& (255 : Int32)) <<< ((8 : Int32) &&& 31))).toUInt32.toUInt16.toUInt32.toInt32)]) _
    exact retN X106 hx (t := .char) Bd.returns (by simp) (hb hby d24_59) hr
  · show Qs (some (.int xc)) h0 n0 _ T106.heap _
    rw [e106]
    exact ⟨own_some (own_gcx hbx), N0, rfl⟩
set_option maxRecDepth 65536 in
set_option maxHeartbeats 40000000 in
theorem rmC3_1_n (l : Launch) (Z : State) (a0 : Array Value) (hw : ∀ d ∈ tables_1, d.before a0 Z = true) (ws : List Jvm.Cond) (a1 : Addr) (ka : ClassId) (x1 : Int32) (h0 : Heap) (n0 : Nat) (X00 : Old Z n0 h0) (SA : pSA Z) (SH : pSH Z) (SL : pSL Z) (V_a : Arv Z h0 a1 ka .char (1 : Int32) [(.int x1)] (.int (0 : Int32))) (hl0 : ¬ ((255 : Int32) < x1)) :
    MetFree l mn_18 (head1 (Jvm.Cond.code mn_18 jdk_52_method_16_code 6 (some (.array .byte)) :: ws) ro_4) (fun a U => a = #[(.ref a1), (.int (0 : Int32)), (.int (1 : Int32))] ∧ Z.Warmed39 U.vm ∧ U.heap = h0) (fun _ _ _ _ _ => True) (fun _ U o U' => ∃ rv rL, o = .returned rv ∧ QC3 Z [x1] h0 n0 rv U'.heap rL ∧ FrameEnd U o U' rL ro_4.cells ro_4.slots) := by
  refine MetFree.of_bodySF (plainFor_of_name pn_7) hisR ?_
  intro p e s m args below meth c s₁ Bd hml0 hP hK
  obtain ⟨rfl, hZ, hh⟩ := hP
  have hx := Bd.exec
  have hby := Bd.bytes
  have hml : c.maxLocals = 6 := hml0
  have hown : s.vm.findClass "java/lang/StringUTF16" = some m.cls := findClass_of_methodNamed Bd.named
  have hnm := (name_of_methodNamed Bd.named Bd.method).1
  have X0 : Stand p l e ro_4 s m #[(.ref a1), (.int (0 : Int32)), (.int (1 : Int32))] below meth c s₁ [] 0 0 := Stand.of_body Bd
  have e0 : s₁.heap = h0 := by rw [← hh, Bd.state]; rfl
  have N0 := Fr.nil n0
  have pre0 : ∀ t, Steps p.tables e below (s₁.setTop (mkF m 0 #[.val (.ref a1), .val (.int (0 : Int32)), .val (.int (1 : Int32)), .unset, .unset, .unset] [])) t → Steps p.tables e below (s₁.setTop (entryFrame m #[(.ref a1), (.int (0 : Int32)), (.int (1 : Int32))] 6)) t := fun t k => castTop (ef_7 m a1 (0 : Int32) (1 : Int32)) k
  have lz101_a1 := V_a.lt
  obtain ⟨T101, h101, k101, X101, e101, E101, A101, st101⟩ := newP X0 hx hZ (tw hw 29 rfl) e0 (g := (mkF m 1 #[vr a1, vi 0, vi 1, .unset, .unset, .unset] [wi 1])) rfl (hb hby d7_1) rfl (by decide) (cap := 1) (by decide) (by decide) (by decide) (by decide)
  obtain ⟨b101, g101⟩ : ∃ z, z = h0.size := ⟨_, rfl⟩
  rw [← g101] at A101 st101
  have g_b101 : n0 ≤ b101 := Nat.le_trans (own_le X00) (Nat.le_of_eq g101.symm)
  have lt_a1_b101 : a1 < b101 := Nat.lt_of_lt_of_le lz101_a1 (Nat.le_of_eq g101.symm)
  have sz_b101 : h0.size ≤ b101 := Nat.le_trans (Keep.refl h0 []).1 (Nat.le_of_eq g101.symm)
  have V101 : Arv Z h101 b101 k101 .byte (1 : Int32) [(.int (0 : Int32))] (.int (0 : Int32)) := (Arv.new A101 (by decide)).pad (pad_rep [] (.int (0 : Int32)) 1)
  have y102 := (V_a.ext E101)
  have y103 := ((Keep.refl h0 []).ext E101)
  have y104 := (X00.ext E101)
  obtain ⟨_, _, ⟨T105, L105, k105, n105⟩, -, X105, ⟨Lc105, hQ105, l105, y105, z105⟩, st105⟩ := Jvm.LawKit.callS X101 hx (y := mn_19) hown (mvT hZ (tw hw 30 rfl)) (mvT hZ (tw hw 31 rfl)) (mvT hZ (tw hw 27 rfl)) (mvT hZ (tw hw 32 rfl)) (by decide) (backOf (W := 0) (rmC5_1_n l Z a0 hw [] a1 b101 ka k101 x1 h101 n0 y104 y102 V101 g_b101 (Nat.ne_of_lt lt_a1_b101) hl0) hZ (tw hw 32 rfl) (tw hw 27 rfl) (by decide) (by decide)) (g := (mkF m 9 #[vr a1, vi 0, vi 1, vr b101, .unset, .unset] [wi 1, wi 0, wr b101, wi 0, wr a1])) rfl (by rw [hml]; rfl) (argsL := [wr a1, wi 0, wr b101, wi 0, wi 1]) (rest := []) (lenOf pd_ACIABII_I rfl) rfl (Nat.le_refl _) (hb hby d7_9) (fun _ _ => ⟨rfl, e101, (by decide : 1 + 0 ≤ _), (by decide : 1 + 0 ≤ _)⟩)
  dsimp only [Pt.U, Pt.locs, Pt.cells, Pt.slots] at X105 l105 y105 z105 st105 hQ105
  subst l105 y105 z105
  obtain ⟨rfl, N105q, Kc105, uV105⟩ := hQ105
  have N105 := Fr.app N0 N105q
  have y106 := (y103.trans Kc105 (allS (Or.inr sz_b101) all0))
  obtain ⟨fs, hr, hrun, hended, hW, hsame⟩ := X105.leave (v := some (.ref b101)) (fun h => by rw [Bd.returns] at h; cases h)
  refine ⟨_, _, pre0 _ ?_, hrun, hended, _, _, rfl, ?_, ⟨_, rfl⟩, hW, hsame.mono (by decide) (by decide)⟩
  · show Go p e below s₁ (mkF m 0 #[vr a1, vi 0, vi 1, .unset, .unset, .unset] []) _
    refine XS.iloadN X0.here hx rfl (hb hby d7_0) rfl ?_
    show Go p e below s₁ (mkF m 1 #[vr a1, vi 0, vi 1, .unset, .unset, .unset] [wi 1]) _
    refine st101 _ ?_
    show Go p e below T101 (mkF m 3 #[vr a1, vi 0, vi 1, .unset, .unset, .unset] [wr b101]) _
    refine XS.astoreN X101.here hx rfl (hb hby d7_3) rfl rfl (l' := #[.val (.ref a1), .val (.int (0 : Int32)), .val (.int (1 : Int32)), .val (.ref b101), .unset, .unset]) rfl ?_
    show Go p e below T101 (mkF m 4 #[vr a1, vi 0, vi 1, vr b101, .unset, .unset] []) _
    refine XS.aloadN X101.here hx rfl (hb hby d7_4) rfl rfl ?_
    show Go p e below T101 (mkF m 5 #[vr a1, vi 0, vi 1, vr b101, .unset, .unset] [wr a1]) _
    refine XS.iloadN X101.here hx rfl (hb hby d7_5) rfl ?_
    show Go p e below T101 (mkF m 6 #[vr a1, vi 0, vi 1, vr b101, .unset, .unset] [wi 0, wr a1]) _
    refine XS.aloadN X101.here hx rfl (hb hby d7_6) rfl rfl ?_
    show Go p e below T101 (mkF m 7 #[vr a1, vi 0, vi 1, vr b101, .unset, .unset] [wr b101, wi 0, wr a1]) _
    refine XS.iconst X101.here hx rfl (hb hby d7_7) ?_
    show Go p e below T101 (mkF m 8 #[vr a1, vi 0, vi 1, vr b101, .unset, .unset] [wi 0, wr b101, wi 0, wr a1]) _
    refine XS.iloadN X101.here hx rfl (hb hby d7_8) rfl ?_
    show Go p e below T101 (mkF m 9 #[vr a1, vi 0, vi 1, vr b101, .unset, .unset] [wi 1, wi 0, wr b101, wi 0, wr a1]) _
    refine st105 _ ?_
    show Go p e below T105 (mkF m 12 #[vr a1, vi 0, vi 1, vr b101, .unset, .unset] [wi 1]) _
    refine XS.istore X105.here hx rfl (hb hby d7_12) rfl (l' := #[.val (.ref a1), .val (.int (0 : Int32)), .val (.int (1 : Int32)), .val (.ref b101), .val (.int (1 : Int32)), .unset]) rfl ?_
    show Go p e below T105 (mkF m 14 #[vr a1, vi 0, vi 1, vr b101, vi 1, .unset] []) _
    refine XS.iload X105.here hx rfl (hb hby d7_14) rfl ?_
    show Go p e below T105 (mkF m 16 #[vr a1, vi 0, vi 1, vr b101, vi 1, .unset] [wi 1]) _
    refine XS.iloadN X105.here hx rfl (hb hby d7_16) rfl ?_
    show Go p e below T105 (mkF m 17 #[vr a1, vi 0, vi 1, vr b101, vi 1, .unset] [wi 1, wi 1]) _
    refine XS.icmpYes X105.here hx rfl (pc0 := 17) (pc' := 57) rfl (hb hby d7_17) rfl (teq (rfl : (1 : Int32) = (1 : Int32))).1 (by decide) (by decide) ?_
    show Go p e below T105 (mkF m 57 #[vr a1, vi 0, vi 1, vr b101, vi 1, .unset] []) _
    refine XS.aloadN X105.here hx rfl (hb hby d7_57) rfl rfl ?_
    show Go p e below T105 (mkF m 58 #[vr a1, vi 0, vi 1, vr b101, vi 1, .unset] [wr b101]) _
    jvm_step X105.here [X105.here.top, hx, (hb hby d7_58), X105.method', Bd.returns, Value.isRef, FieldType.isReference]
    first | (intro acts; rw [hr _ acts rfl rfl rfl]) | rw [hr _ _ rfl rfl rfl]
    exact Steps.refl _
  · show QC3 Z [x1] h0 n0 _ T105.heap _
    exact ⟨_, _, (0 : Int32), (1 : Int32), [.int (StrChars.lo8 x1)], rfl, N105, y106, g_b101, sz_b101, uV105, Or.inl ⟨rfl, rfl, rfl, (own_alli hl0 own_all0)⟩⟩
set_option maxRecDepth 65536 in
set_option maxHeartbeats 40000000 in
theorem rmC3_1_0 (l : Launch) (Z : State) (a0 : Array Value) (hw : ∀ d ∈ tables_1, d.before a0 Z = true) (ws : List Jvm.Cond) (a1 : Addr) (ka : ClassId) (x1 : Int32) (h0 : Heap) (n0 : Nat) (X00 : Old Z n0 h0) (SA : pSA Z) (SH : pSH Z) (SL : pSL Z) (V_a : Arv Z h0 a1 ka .char (1 : Int32) [(.int x1)] (.int (0 : Int32))) (hg : (255 : Int32) < x1) (hbw : ChB x1) :
    MetFree l mn_18 (head1 (Jvm.Cond.code mn_18 jdk_52_method_16_code 6 (some (.array .byte)) :: ws) ro_4) (fun a U => a = #[(.ref a1), (.int (0 : Int32)), (.int (1 : Int32))] ∧ Z.Warmed39 U.vm ∧ U.heap = h0) (fun _ _ _ _ _ => True) (fun _ U o U' => ∃ rv rL, o = .returned rv ∧ QC3 Z [x1] h0 n0 rv U'.heap rL ∧ FrameEnd U o U' rL ro_4.cells ro_4.slots) := by
  refine MetFree.of_bodySF (plainFor_of_name pn_7) hisR ?_
  intro p e s m args below meth c s₁ Bd hml0 hP hK
  obtain ⟨rfl, hZ, hh⟩ := hP
  have hx := Bd.exec
  have hby := Bd.bytes
  have hml : c.maxLocals = 6 := hml0
  have hown : s.vm.findClass "java/lang/StringUTF16" = some m.cls := findClass_of_methodNamed Bd.named
  have hnm := (name_of_methodNamed Bd.named Bd.method).1
  have X0 : Stand p l e ro_4 s m #[(.ref a1), (.int (0 : Int32)), (.int (1 : Int32))] below meth c s₁ [] 0 0 := Stand.of_body Bd
  have e0 : s₁.heap = h0 := by rw [← hh, Bd.state]; rfl
  have N0 := Fr.nil n0
  have pre0 : ∀ t, Steps p.tables e below (s₁.setTop (mkF m 0 #[.val (.ref a1), .val (.int (0 : Int32)), .val (.int (1 : Int32)), .unset, .unset, .unset] [])) t → Steps p.tables e below (s₁.setTop (entryFrame m #[(.ref a1), (.int (0 : Int32)), (.int (1 : Int32))] 6)) t := fun t k => castTop (ef_7 m a1 (0 : Int32) (1 : Int32)) k
  have lz101_a1 := V_a.lt
  obtain ⟨T101, h101, k101, X101, e101, E101, A101, st101⟩ := newP X0 hx hZ (tw hw 29 rfl) e0 (g := (mkF m 1 #[vr a1, vi 0, vi 1, .unset, .unset, .unset] [wi 1])) rfl (hb hby d7_1) rfl (by decide) (cap := 1) (by decide) (by decide) (by decide) (by decide)
  obtain ⟨b101, g101⟩ : ∃ z, z = h0.size := ⟨_, rfl⟩
  rw [← g101] at A101 st101
  have g_b101 : n0 ≤ b101 := Nat.le_trans (own_le X00) (Nat.le_of_eq g101.symm)
  have lt_a1_b101 : a1 < b101 := Nat.lt_of_lt_of_le lz101_a1 (Nat.le_of_eq g101.symm)
  have sz_b101 : h0.size ≤ b101 := Nat.le_trans (Keep.refl h0 []).1 (Nat.le_of_eq g101.symm)
  have V101 : Arv Z h101 b101 k101 .byte (1 : Int32) [(.int (0 : Int32))] (.int (0 : Int32)) := (Arv.new A101 (by decide)).pad (pad_rep [] (.int (0 : Int32)) 1)
  have y102 := (V_a.ext E101)
  have y103 := ((Keep.refl h0 []).ext E101)
  have y104 := (X00.ext E101)
  obtain ⟨_, _, ⟨T105, L105, k105, n105⟩, -, X105, ⟨Lc105, hQ105, l105, y105, z105⟩, st105⟩ := Jvm.LawKit.callS X101 hx (y := mn_19) hown (mvT hZ (tw hw 30 rfl)) (mvT hZ (tw hw 31 rfl)) (mvT hZ (tw hw 27 rfl)) (mvT hZ (tw hw 32 rfl)) (by decide) (backOf (W := 0) (rmC5_1_0 l Z a0 hw [] a1 b101 ka k101 x1 h101 n0 y104 y102 V101 g_b101 (Nat.ne_of_lt lt_a1_b101) hg) hZ (tw hw 32 rfl) (tw hw 27 rfl) (by decide) (by decide)) (g := (mkF m 9 #[vr a1, vi 0, vi 1, vr b101, .unset, .unset] [wi 1, wi 0, wr b101, wi 0, wr a1])) rfl (by rw [hml]; rfl) (argsL := [wr a1, wi 0, wr b101, wi 0, wi 1]) (rest := []) (lenOf pd_ACIABII_I rfl) rfl (Nat.le_refl _) (hb hby d7_9) (fun _ _ => ⟨rfl, e101, (by decide : 1 + 0 ≤ _), (by decide : 1 + 0 ≤ _)⟩)
  dsimp only [Pt.U, Pt.locs, Pt.cells, Pt.slots] at X105 l105 y105 z105 st105 hQ105
  subst l105 y105 z105
  obtain ⟨rfl, N105q, Kc105⟩ := hQ105
  have N105 := Fr.app N0 N105q
  have y106 := (y102.keep Kc105 (own_nmc (Nat.ne_of_lt lt_a1_b101) own_nm0))
  have y107 := (y103.trans Kc105 (allS (Or.inr sz_b101) all0))
  have y108 := (y104.keep Kc105 (allS g_b101 all0))
  have lz109_a1 := y106.lt
  obtain ⟨_, _, ⟨T109, L109, k109, n109⟩, -, X109, ⟨Lc109, hQ109, l109, y109, z109⟩, st109⟩ := Jvm.LawKit.callS X105 hx (y := mn_25) hown (mvT hZ (tw hw 86 rfl)) (mvT hZ (tw hw 87 rfl)) (mvT hZ (tw hw 27 rfl)) (mvT hZ (tw hw 88 rfl)) (by decide) (backOf (W := 0) (rmTob_1 l Z a0 hw [] a1 ka x1 T105.heap n0 y108 SA SH SL y106) hZ (tw hw 88 rfl) (tw hw 27 rfl) (by decide) (by decide)) (g := (mkF m 23 #[vr a1, vi 0, vi 1, vr b101, vi 0, .unset] [wi 1, wi 0, wr a1])) rfl (by rw [hml]; rfl) (argsL := [wr a1, wi 0, wi 1]) (rest := []) (lenOf pd_ACII_AB rfl) rfl (Nat.le_refl _) (hb hby d7_23) (fun _ _ => ⟨rfl, rfl, (by decide : 1 + 1 ≤ _), (by decide : 1 + 2 ≤ _)⟩)
  dsimp only [Pt.U, Pt.locs, Pt.cells, Pt.slots] at X109 l109 y109 z109 st109 hQ109
  subst l109 y109 z109
  obtain ⟨ur109, uq109, rfl, N109q, Kc109, ug109, us109, uV109⟩ := hQ109
  have N109 := Fr.app N105 N109q
  have lt_a1_ur109 : a1 < ur109 := Nat.lt_of_lt_of_le lz109_a1 us109
  have sz_ur109 : h0.size ≤ ur109 := Nat.le_trans y107.1 us109
  have y110 := (y107.trans Kc109 all0)
  have y111 := (y108.keep Kc109 all0)
  obtain ⟨_, _, ⟨T112, L112, k112, n112⟩, -, X112, ⟨Lc112, hQ112, l112, y112, z112⟩, st112⟩ := Jvm.LawKit.callS X109 hx (y := mn_20) hown (mvT hZ (tw hw 102 rfl)) (mvT hZ (tw hw 103 rfl)) (mvT hZ (tw hw 27 rfl)) (mvT hZ (tw hw 104 rfl)) (by decide) (backOf (W := 0) (rmGch l Z a0 hw [] ur109 (0 : Int32) uq109 (2 : Int32) [.int (StrChars.lo8 x1), .int (StrChars.hi8 x1)] x1 T109.heap n0 y111 SA SH SL uV109 ⟨⟨by decide, by decide⟩, by decide, rfl⟩ ⟨⟨by decide, by decide⟩, by decide, rfl⟩ hbw) hZ (tw hw 104 rfl) (tw hw 27 rfl) (by decide) (by decide)) (g := (mkF m 32 #[vr a1, vi 0, vi 1, vr b101, vi 0, vr ur109] [wi 0, wr ur109])) rfl (by rw [hml]; rfl) (argsL := [wr ur109, wi 0]) (rest := []) (lenOf pd_ABI_C rfl) rfl (Nat.le_refl _) (hb hby d7_32) (fun _ _ => ⟨rfl, rfl, (by decide : 2 + 0 ≤ _), (by decide : 3 + 0 ≤ _)⟩)
  dsimp only [Pt.U, Pt.locs, Pt.cells, Pt.slots] at X112 l112 y112 z112 st112 hQ112
  subst l112 y112 z112
  obtain ⟨rfl, N112q, eq112⟩ := hQ112
  have N112 := Fr.app N109 N112q
  have hc38 : (255 : Int32) < x1 := hg
  obtain ⟨fs, hr, hrun, hended, hW, hsame⟩ := X112.leave (v := some (.ref ur109)) (fun h => by rw [Bd.returns] at h; cases h)
  refine ⟨_, _, pre0 _ ?_, hrun, hended, _, _, rfl, ?_, ⟨_, rfl⟩, hW, hsame.mono (by decide) (by decide)⟩
  · show Go p e below s₁ (mkF m 0 #[vr a1, vi 0, vi 1, .unset, .unset, .unset] []) _
    refine XS.iloadN X0.here hx rfl (hb hby d7_0) rfl ?_
    show Go p e below s₁ (mkF m 1 #[vr a1, vi 0, vi 1, .unset, .unset, .unset] [wi 1]) _
    refine st101 _ ?_
    show Go p e below T101 (mkF m 3 #[vr a1, vi 0, vi 1, .unset, .unset, .unset] [wr b101]) _
    refine XS.astoreN X101.here hx rfl (hb hby d7_3) rfl rfl (l' := #[.val (.ref a1), .val (.int (0 : Int32)), .val (.int (1 : Int32)), .val (.ref b101), .unset, .unset]) rfl ?_
    show Go p e below T101 (mkF m 4 #[vr a1, vi 0, vi 1, vr b101, .unset, .unset] []) _
    refine XS.aloadN X101.here hx rfl (hb hby d7_4) rfl rfl ?_
    show Go p e below T101 (mkF m 5 #[vr a1, vi 0, vi 1, vr b101, .unset, .unset] [wr a1]) _
    refine XS.iloadN X101.here hx rfl (hb hby d7_5) rfl ?_
    show Go p e below T101 (mkF m 6 #[vr a1, vi 0, vi 1, vr b101, .unset, .unset] [wi 0, wr a1]) _
    refine XS.aloadN X101.here hx rfl (hb hby d7_6) rfl rfl ?_
    show Go p e below T101 (mkF m 7 #[vr a1, vi 0, vi 1, vr b101, .unset, .unset] [wr b101, wi 0, wr a1]) _
    refine XS.iconst X101.here hx rfl (hb hby d7_7) ?_
    show Go p e below T101 (mkF m 8 #[vr a1, vi 0, vi 1, vr b101, .unset, .unset] [wi 0, wr b101, wi 0, wr a1]) _
    refine XS.iloadN X101.here hx rfl (hb hby d7_8) rfl ?_
    show Go p e below T101 (mkF m 9 #[vr a1, vi 0, vi 1, vr b101, .unset, .unset] [wi 1, wi 0, wr b101, wi 0, wr a1]) _
    refine st105 _ ?_
    show Go p e below T105 (mkF m 12 #[vr a1, vi 0, vi 1, vr b101, .unset, .unset] [wi 0]) _
    refine XS.istore X105.here hx rfl (hb hby d7_12) rfl (l' := #[.val (.ref a1), .val (.int (0 : Int32)), .val (.int (1 : Int32)), .val (.ref b101), .val (.int (0 : Int32)), .unset]) rfl ?_
    show Go p e below T105 (mkF m 14 #[vr a1, vi 0, vi 1, vr b101, vi 0, .unset] []) _
    refine XS.iload X105.here hx rfl (hb hby d7_14) rfl ?_
    show Go p e below T105 (mkF m 16 #[vr a1, vi 0, vi 1, vr b101, vi 0, .unset] [wi 0]) _
    refine XS.iloadN X105.here hx rfl (hb hby d7_16) rfl ?_
    show Go p e below T105 (mkF m 17 #[vr a1, vi 0, vi 1, vr b101, vi 0, .unset] [wi 1, wi 0]) _
    refine XS.icmpNo X105.here hx rfl (hb hby d7_17) rfl (feq (by decide : ¬ ((0 : Int32) = (1 : Int32)))).1 ?_
    show Go p e below T105 (mkF m 20 #[vr a1, vi 0, vi 1, vr b101, vi 0, .unset] []) _
    refine XS.aloadN X105.here hx rfl (hb hby d7_20) rfl rfl ?_
    show Go p e below T105 (mkF m 21 #[vr a1, vi 0, vi 1, vr b101, vi 0, .unset] [wr a1]) _
    refine XS.iloadN X105.here hx rfl (hb hby d7_21) rfl ?_
    show Go p e below T105 (mkF m 22 #[vr a1, vi 0, vi 1, vr b101, vi 0, .unset] [wi 0, wr a1]) _
    refine XS.iloadN X105.here hx rfl (hb hby d7_22) rfl ?_
    show Go p e below T105 (mkF m 23 #[vr a1, vi 0, vi 1, vr b101, vi 0, .unset] [wi 1, wi 0, wr a1]) _
    refine st109 _ ?_
    show Go p e below T109 (mkF m 26 #[vr a1, vi 0, vi 1, vr b101, vi 0, .unset] [wr ur109]) _
    refine XS.astore X109.here hx rfl (hb hby d7_26) rfl rfl (l' := #[.val (.ref a1), .val (.int (0 : Int32)), .val (.int (1 : Int32)), .val (.ref b101), .val (.int (0 : Int32)), .val (.ref ur109)]) rfl ?_
    show Go p e below T109 (mkF m 28 #[vr a1, vi 0, vi 1, vr b101, vi 0, vr ur109] []) _
    refine XS.aload X109.here hx rfl (hb hby d7_28) rfl rfl ?_
    show Go p e below T109 (mkF m 30 #[vr a1, vi 0, vi 1, vr b101, vi 0, vr ur109] [wr ur109]) _
    refine XS.iload X109.here hx rfl (hb hby d7_30) rfl ?_
    show Go p e below T109 (mkF m 32 #[vr a1, vi 0, vi 1, vr b101, vi 0, vr ur109] [wi 0, wr ur109]) _
    refine st112 _ ?_
    show Go p e below T112 (mkF m 35 #[vr a1, vi 0, vi 1, vr b101, vi 0, vr ur109] [wi x1]) _
    refine XS.sipush X112.here hx rfl (hb hby d7_35) ?_
    show Go p e below T112 (mkF m 38 #[vr a1, vi 0, vi 1, vr b101, vi 0, vr ur109] [wi 255, wi x1]) _
    refine XS.icmpYes X112.here hx rfl (pc0 := 38) (pc' := 54) rfl (hb hby d7_38) rfl (tlt hc38).2.2.1 (by decide) (by decide) ?_
    show Go p e below T112 (mkF m 54 #[vr a1, vi 0, vi 1, vr b101, vi 0, vr ur109] []) _
    refine XS.aload X112.here hx rfl (hb hby d7_54) rfl rfl ?_
    show Go p e below T112 (mkF m 56 #[vr a1, vi 0, vi 1, vr b101, vi 0, vr ur109] [wr ur109]) _
    jvm_step X112.here [X112.here.top, hx, (hb hby d7_56), X112.method', Bd.returns, Value.isRef, FieldType.isReference]
    first | (intro acts; rw [hr _ acts rfl rfl rfl]) | rw [hr _ _ rfl rfl rfl]
    exact Steps.refl _
  · show QC3 Z [x1] h0 n0 _ T112.heap _
    rw [eq112]
    exact ⟨_, _, (1 : Int32), (2 : Int32), [.int (StrChars.lo8 x1), .int (StrChars.hi8 x1)], rfl, N112, y110, ug109, sz_ur109, uV109, Or.inr ⟨rfl, rfl, rfl, _, List.mem_of_getElem? (i := 0) rfl, hg⟩⟩
theorem rmC3_1 (l : Launch) (Z : State) (a0 : Array Value) (hw : ∀ d ∈ tables_1, d.before a0 Z = true) (ws : List Jvm.Cond) (a1 : Addr) (ka : ClassId) (x1 : Int32) (h0 : Heap) (n0 : Nat) (X00 : Old Z n0 h0) (SA : pSA Z) (SH : pSH Z) (SL : pSL Z) (V_a : Arv Z h0 a1 ka .char (1 : Int32) [(.int x1)] (.int (0 : Int32))) (hb0 : ChB x1) :
    MetFree l mn_18 (head1 (Jvm.Cond.code mn_18 jdk_52_method_16_code 6 (some (.array .byte)) :: ws) ro_4) (fun a U => a = #[(.ref a1), (.int (0 : Int32)), (.int (1 : Int32))] ∧ Z.Warmed39 U.vm ∧ U.heap = h0) (fun _ _ _ _ _ => True) (fun _ U o U' => ∃ rv rL, o = .returned rv ∧ QC3 Z [x1] h0 n0 rv U'.heap rL ∧ FrameEnd U o U' rL ro_4.cells ro_4.slots) := by
  by_cases c0 : (255 : Int32) < x1
  · exact rmC3_1_0 l Z a0 hw ws a1 ka x1 h0 n0 X00 SA SH SL V_a  c0 hb0
  exact rmC3_1_n l Z a0 hw ws a1 ka x1 h0 n0 X00 SA SH SL V_a c0
set_option maxRecDepth 65536 in
set_option maxHeartbeats 40000000 in
theorem rmCfl_1_0 (l : Launch) (Z : State) (a0 : Array Value) (hw : ∀ d ∈ tables_1, d.before a0 Z = true) (ws : List Jvm.Cond) (a1 : Addr) (ka : ClassId) (vs : List Value) (h0 : Heap) (n0 : Nat) (X00 : Old Z n0 h0) (V_a : Arv Z h0 a1 ka .byte (1 : Int32) vs (.int (0 : Int32))) :
    MetFree l mn_17 (head1 (Jvm.Cond.code mn_17 jdk_52_method_15_code 2 (some .byte) :: ws) ro_0) (fun a U => a = #[(.ref a1), (.int (1 : Int32))] ∧ Z.Warmed39 U.vm ∧ U.heap = h0) (fun _ _ _ _ _ => True) (fun _ U o U' => ∃ rv rL, o = .returned rv ∧ Qs (some (.int (0 : Int32))) h0 n0 rv U'.heap rL ∧ FrameEnd U o U' rL ro_0.cells ro_0.slots) := by
  refine MetFree.of_bodySF (plainFor_of_name pn_9) hisR ?_
  intro p e s m args below meth c s₁ Bd hml0 hP hK
  obtain ⟨rfl, hZ, hh⟩ := hP
  have hx := Bd.exec
  have hby := Bd.bytes
  have hml : c.maxLocals = 2 := hml0
  have hown : s.vm.findClass "java/lang/StringUTF16" = some m.cls := findClass_of_methodNamed Bd.named
  have hnm := (name_of_methodNamed Bd.named Bd.method).1
  have X0 : Stand p l e ro_0 s m #[(.ref a1), (.int (1 : Int32))] below meth c s₁ [] 0 0 := Stand.of_body Bd
  have e0 : s₁.heap = h0 := by rw [← hh, Bd.state]; rfl
  have N0 := Fr.nil n0
  have pre0 : ∀ t, Steps p.tables e below (s₁.setTop (mkF m 0 #[.val (.ref a1), .val (.int (1 : Int32))] [])) t → Steps p.tables e below (s₁.setTop (entryFrame m #[(.ref a1), (.int (1 : Int32))] 2)) t := fun t k => castTop (ef_9 m a1 (1 : Int32)) k
  obtain ⟨cl101, Ar101, q101, S101, M101, H101, G101⟩ := id V_a
  obtain ⟨fs, hr, hrun, hended, hW, hsame⟩ := X0.leave (v := some (.int (nar .byte ((((0 : Int32).toUInt32 >>> ((31 : Int32) &&& 31).toUInt32).toInt32).toInt8.toInt32)))) (fun h => by rw [Bd.returns] at h; cases h)
  refine ⟨_, _, pre0 _ ?_, hrun, hended, _, _, rfl, ?_, ⟨_, rfl⟩, hW, hsame.mono (by decide) (by decide)⟩
  · show Go p e below s₁ (mkF m 0 #[vr a1, vi 1] []) _
    refine XS.iloadN X0.here hx rfl (hb hby d9_0) rfl ?_
    show Go p e below s₁ (mkF m 1 #[vr a1, vi 1] [wi 1]) _
    refine XS.aloadN X0.here hx rfl (hb hby d9_1) rfl rfl ?_
    show Go p e below s₁ (mkF m 2 #[vr a1, vi 1] [wr a1, wi 1]) _
    refine X0.arraylength hx (by rw [e0]; exact Ar101.1) (State.isArrayOf_alike hZ.alike Ar101.2.1) (g := (mkF m 2 #[vr a1, vi 1] [wr a1, wi 1])) rfl rfl (hb hby d9_2) _ ?_
    rw [len_of S101 M101]
    show Go p e below s₁ (mkF m 3 #[vr a1, vi 1] [wi 1, wi 1]) _
    refine XS.isub X0.here hx rfl (hb hby d9_3) rfl ?_
    show Go p e below s₁ (mkF m 4 #[vr a1, vi 1] [wi 0]) _
    refine XS.bipush X0.here hx rfl (hb hby d9_4) ?_
    show Go p e below s₁ (mkF m 6 #[vr a1, vi 1] [wi 31, wi 0]) _
    refine XS.iushr X0.here hx rfl (hb hby d9_6) rfl ?_
    show Go p e below s₁ (mkF m 7 #[vr a1, vi 1] [wi (((0 : Int32).toUInt32 >>> ((31 : Int32) &&& 31).toUInt32).toInt32)]) _
    refine XS.i2b X0.here hx rfl (hb hby d9_7) rfl ?_
    show Go p e below s₁ (mkF m 8 #[vr a1, vi 1] [wi ((((0 : Int32).toUInt32 >>> ((31 : Int32) &&& 31).toUInt32).toInt32).toInt8.toInt32)]) _
    exact retN X0 hx (t := .byte) Bd.returns (by simp) (hb hby d9_8) hr
  · show Qs (some (.int (0 : Int32))) h0 n0 _ s₁.heap _
    rw [e0]
    exact ⟨by decide, N0, rfl⟩
set_option maxRecDepth 65536 in
set_option maxHeartbeats 40000000 in
theorem rmCfl_1_1 (l : Launch) (Z : State) (a0 : Array Value) (hw : ∀ d ∈ tables_1, d.before a0 Z = true) (ws : List Jvm.Cond) (a1 : Addr) (ka : ClassId) (vs : List Value) (h0 : Heap) (n0 : Nat) (X00 : Old Z n0 h0) (V_a : Arv Z h0 a1 ka .byte (2 : Int32) vs (.int (0 : Int32))) :
    MetFree l mn_17 (head1 (Jvm.Cond.code mn_17 jdk_52_method_15_code 2 (some .byte) :: ws) ro_0) (fun a U => a = #[(.ref a1), (.int (1 : Int32))] ∧ Z.Warmed39 U.vm ∧ U.heap = h0) (fun _ _ _ _ _ => True) (fun _ U o U' => ∃ rv rL, o = .returned rv ∧ Qs (some (.int (1 : Int32))) h0 n0 rv U'.heap rL ∧ FrameEnd U o U' rL ro_0.cells ro_0.slots) := by
  refine MetFree.of_bodySF (plainFor_of_name pn_9) hisR ?_
  intro p e s m args below meth c s₁ Bd hml0 hP hK
  obtain ⟨rfl, hZ, hh⟩ := hP
  have hx := Bd.exec
  have hby := Bd.bytes
  have hml : c.maxLocals = 2 := hml0
  have hown : s.vm.findClass "java/lang/StringUTF16" = some m.cls := findClass_of_methodNamed Bd.named
  have hnm := (name_of_methodNamed Bd.named Bd.method).1
  have X0 : Stand p l e ro_0 s m #[(.ref a1), (.int (1 : Int32))] below meth c s₁ [] 0 0 := Stand.of_body Bd
  have e0 : s₁.heap = h0 := by rw [← hh, Bd.state]; rfl
  have N0 := Fr.nil n0
  have pre0 : ∀ t, Steps p.tables e below (s₁.setTop (mkF m 0 #[.val (.ref a1), .val (.int (1 : Int32))] [])) t → Steps p.tables e below (s₁.setTop (entryFrame m #[(.ref a1), (.int (1 : Int32))] 2)) t := fun t k => castTop (ef_9 m a1 (1 : Int32)) k
  obtain ⟨cl101, Ar101, q101, S101, M101, H101, G101⟩ := id V_a
  obtain ⟨fs, hr, hrun, hended, hW, hsame⟩ := X0.leave (v := some (.int (nar .byte ((((-1 : Int32).toUInt32 >>> ((31 : Int32) &&& 31).toUInt32).toInt32).toInt8.toInt32)))) (fun h => by rw [Bd.returns] at h; cases h)
  refine ⟨_, _, pre0 _ ?_, hrun, hended, _, _, rfl, ?_, ⟨_, rfl⟩, hW, hsame.mono (by decide) (by decide)⟩
  · show Go p e below s₁ (mkF m 0 #[vr a1, vi 1] []) _
    refine XS.iloadN X0.here hx rfl (hb hby d9_0) rfl ?_
    show Go p e below s₁ (mkF m 1 #[vr a1, vi 1] [wi 1]) _
    refine XS.aloadN X0.here hx rfl (hb hby d9_1) rfl rfl ?_
    show Go p e below s₁ (mkF m 2 #[vr a1, vi 1] [wr a1, wi 1]) _
    refine X0.arraylength hx (by rw [e0]; exact Ar101.1) (State.isArrayOf_alike hZ.alike Ar101.2.1) (g := (mkF m 2 #[vr a1, vi 1] [wr a1, wi 1])) rfl rfl (hb hby d9_2) _ ?_
    rw [len_of S101 M101]
    show Go p e below s₁ (mkF m 3 #[vr a1, vi 1] [wi 2, wi 1]) _
    refine XS.isub X0.here hx rfl (hb hby d9_3) rfl ?_
    show Go p e below s₁ (mkF m 4 #[vr a1, vi 1] [wi (-1)]) _
    refine XS.bipush X0.here hx rfl (hb hby d9_4) ?_
    show Go p e below s₁ (mkF m 6 #[vr a1, vi 1] [wi 31, wi (-1)]) _
    refine XS.iushr X0.here hx rfl (hb hby d9_6) rfl ?_
    show Go p e below s₁ (mkF m 7 #[vr a1, vi 1] [wi (((-1 : Int32).toUInt32 >>> ((31 : Int32) &&& 31).toUInt32).toInt32)]) _
    refine XS.i2b X0.here hx rfl (hb hby d9_7) rfl ?_
    show Go p e below s₁ (mkF m 8 #[vr a1, vi 1] [wi ((((-1 : Int32).toUInt32 >>> ((31 : Int32) &&& 31).toUInt32).toInt32).toInt8.toInt32)]) _
    exact retN X0 hx (t := .byte) Bd.returns (by simp) (hb hby d9_8) hr
  · show Qs (some (.int (1 : Int32))) h0 n0 _ s₁.heap _
    rw [e0]
    exact ⟨by decide, N0, rfl⟩
theorem rmCfl_1 (l : Launch) (Z : State) (a0 : Array Value) (hw : ∀ d ∈ tables_1, d.before a0 Z = true) (ws : List Jvm.Cond) (a1 : Addr) (ka : ClassId) (vs : List Value) (cd : Int32) (N : Int32) (x1 : Int32) (h0 : Heap) (n0 : Nat) (X00 : Old Z n0 h0) (V_a : Arv Z h0 a1 ka .byte N vs (.int (0 : Int32))) (hc : StrChars.Road.CodA [x1] cd N vs) :
    MetFree l mn_17 (head1 (Jvm.Cond.code mn_17 jdk_52_method_15_code 2 (some .byte) :: ws) ro_0) (fun a U => a = #[(.ref a1), (.int (1 : Int32))] ∧ Z.Warmed39 U.vm ∧ U.heap = h0) (fun _ _ _ _ _ => True) (fun _ U o U' => ∃ rv rL, o = .returned rv ∧ Qs (some (.int cd)) h0 n0 rv U'.heap rL ∧ FrameEnd U o U' rL ro_0.cells ro_0.slots) := by
  rcases hc with ⟨rfl, rfl, -, -⟩ | ⟨rfl, rfl, -, -⟩
  · exact rmCfl_1_0 l Z a0 hw ws a1 ka vs h0 n0 X00 V_a
  · exact rmCfl_1_1 l Z a0 hw ws a1 ka vs h0 n0 X00 V_a
set_option maxRecDepth 65536 in
set_option maxHeartbeats 40000000 in
theorem rmSv_1 (l : Launch) (Z : State) (a0 : Array Value) (hw : ∀ d ∈ tables_1, d.before a0 Z = true) (ws : List Jvm.Cond) (a1 : Addr) (a2 : Addr) (uk : Value) (ka : ClassId) (x1 : Int32) (G1 : Int32) (h0 : Heap) (n0 : Nat) (X00 : Old Z n0 h0) (E_a1 : Exa Z h0 a1 ST) (F_v : Fld Z h0 a1 ST "value" "[B" .null) (F_k : Fld Z h0 a1 ST "coder" "B" uk) (g_a1 : n0 ≤ a1) (O2 : pO2 Z G1) (P5 : ¬ (G1 = (0 : Int32))) (SA : pSA Z) (SH : pSH Z) (SL : pSL Z) (V_a : Arv Z h0 a2 ka .char (1 : Int32) [(.int x1)] (.int (0 : Int32))) (hb0 : ChB x1) (ne : a2 ≠ a1) :
    MetFree l mn_8 (head1 (Jvm.Cond.code mn_8 jdk_42_method_149_code 6 none :: ws) ro_5) (fun a U => a = #[(.ref a1), (.ref a2), (.int (0 : Int32)), (.int (1 : Int32)), .null] ∧ Z.Warmed39 U.vm ∧ U.heap = h0) (fun _ _ _ _ _ => True) (fun _ U o U' => ∃ rv rL, o = .returned rv ∧ QNew Z a1 [x1] h0 n0 rv U'.heap rL ∧ FrameEnd U o U' rL ro_5.cells ro_5.slots) := by
  refine MetFree.of_bodySF (plainFor_of_name pn_5) hisR ?_
  intro p e s m args below meth c s₁ Bd hml0 hP hK
  obtain ⟨rfl, hZ, hh⟩ := hP
  have hx := Bd.exec
  have hby := Bd.bytes
  have hml : c.maxLocals = 6 := hml0
  have hown : s.vm.findClass "java/lang/String" = some m.cls := findClass_of_methodNamed Bd.named
  have hnm := (name_of_methodNamed Bd.named Bd.method).1
  have X0 : Stand p l e ro_5 s m #[(.ref a1), (.ref a2), (.int (0 : Int32)), (.int (1 : Int32)), .null] below meth c s₁ [] 0 0 := Stand.of_body Bd
  have e0 : s₁.heap = h0 := by rw [← hh, Bd.state]; rfl
  have N0 := Fr.nil n0
  have pre0 : ∀ t, Steps p.tables e below (s₁.setTop (mkF m 0 #[.val (.ref a1), .val (.ref a2), .val (.int (0 : Int32)), .val (.int (1 : Int32)), .val .null, .unset] [])) t → Steps p.tables e below (s₁.setTop (entryFrame m #[(.ref a1), (.ref a2), (.int (0 : Int32)), (.int (1 : Int32)), .null] 6)) t := fun t k => castTop (ef_5vvvvn m a1 a2 (0 : Int32) (1 : Int32)) k
  obtain ⟨T101, X101, e101, st101⟩ := initO X0 hx hZ hown (tw hw 21 rfl) (tw hw 22 rfl) (tw hw 23 rfl) e0 (g := (mkF m 1 #[vr a1, vr a2, vi 0, vi 1, .val .null, .unset] [wr a1])) rfl (by rw [hml]; rfl) rfl (hb hby d5_1) (by decide) (W := 0) (by show 2 * 0 + _ ≤ _; exact Nat.le_of_eq rfl) (by decide)
  obtain ⟨T102, X102, e102, st102⟩ := getS2 X101 hx hZ hown (host := "") (Or.inl (tw hw 24 rfl)) Via.refl e101 (O2.ext X00.2) (g := (mkF m 27 #[vr a1, vr a2, vi 0, vi 1, .val .null, .unset] [])) rfl (hb hby d5_27)
  have hc30 : ¬ (G1 = (0 : Int32)) := P5
  have lz103_a1 := E_a1.lt
  have lz103_a2 := V_a.lt
  obtain ⟨_, _, ⟨T103, L103, k103, n103⟩, -, X103, ⟨Lc103, hQ103, l103, y103, z103⟩, st103⟩ := Jvm.LawKit.callS X102 hx (y := mn_18) hown (mvT hZ (tw hw 25 rfl)) (mvT hZ (tw hw 26 rfl)) (mvT hZ (tw hw 27 rfl)) (mvT hZ (tw hw 28 rfl)) (by decide) (backOf (W := 0) (rmC3_1 l Z a0 hw [] a2 ka x1 h0 n0 X00 SA SH SL V_a hb0) hZ (tw hw 28 rfl) (tw hw 27 rfl) (by decide) (by decide)) (g := (mkF m 36 #[vr a1, vr a2, vi 0, vi 1, .val .null, .unset] [wi 1, wi 0, wr a2])) rfl (by rw [hml]; rfl) (argsL := [wr a2, wi 0, wi 1]) (rest := []) (lenOf pd_ACII_AB rfl) rfl (Nat.le_refl _) (hb hby d5_36) (fun _ _ => ⟨rfl, e102, (by decide : 0 + 2 ≤ _), (by decide : 0 + 3 ≤ _)⟩)
  dsimp only [Pt.U, Pt.locs, Pt.cells, Pt.slots] at X103 l103 y103 z103 st103 hQ103
  subst l103 y103 z103
  obtain ⟨ur103, uq103, ud103, uN103, uw103, rfl, N103q, Kc103, ug103, us103, uV103, uH103⟩ := hQ103
  have N103 := Fr.app N0 N103q
  have lt_a1_ur103 : a1 < ur103 := Nat.lt_of_lt_of_le lz103_a1 us103
  have lt_a2_ur103 : a2 < ur103 := Nat.lt_of_lt_of_le lz103_a2 us103
  have sz_ur103 : h0.size ≤ ur103 := Nat.le_trans (Keep.refl h0 [a1]).1 us103
  have y104 := ((Keep.refl h0 [a1]).trans Kc103 all0)
  have y105 := (X00.keep Kc103 all0)
  obtain ⟨_, _, ⟨T106, L106, k106, n106⟩, -, X106, ⟨Lc106, hQ106, l106, y106, z106⟩, st106⟩ := Jvm.LawKit.callS X103 hx (y := mn_17) hown (mvT hZ (tw hw 33 rfl)) (mvT hZ (tw hw 34 rfl)) (mvT hZ (tw hw 27 rfl)) (mvT hZ (tw hw 35 rfl)) (by decide) (backOf (W := 1) (rmCfl_1 l Z a0 hw [] ur103 uq103 uw103 ud103 uN103 x1 T103.heap n0 y105 uV103 uH103) hZ (tw hw 35 rfl) (tw hw 27 rfl) (by decide) (by decide)) (g := (mkF m 45 #[vr a1, vr a2, vi 0, vi 1, .val .null, vr ur103] [wi 1, wr ur103, wr a1])) rfl (by rw [hml]; rfl) (argsL := [wr ur103, wi 1]) (rest := [wr a1]) (lenOf pd_ABI_B rfl) rfl (Nat.le_refl _) (hb hby d5_45) (fun _ _ => ⟨rfl, rfl, (by decide : 2 + 0 ≤ _), (by decide : 3 + 0 ≤ _)⟩)
  dsimp only [Pt.U, Pt.locs, Pt.cells, Pt.slots] at X106 l106 y106 z106 st106 hQ106
  subst l106 y106 z106
  obtain ⟨rfl, N106q, eq106⟩ := hQ106
  have N106 := Fr.app N103 N106q
  have y107 := (F_k.keep Kc103 own_nm0)
  have y108 := (E_a1.keep Kc103)
  obtain ⟨T109, h109, X109, e109, W109, st109⟩ := putFN X106 hx hZ hown (tw hw 36 rfl) Via.refl eq106 y107 y108 (Or.inr ⟨(tw hw 37 rfl), rfl, hnm⟩) (tw hw 11 rfl) (ty := .byte) (v' := (.int (nar .byte ud103))) (by decide) rfl (fits_nar_byte _) (g := (mkF m 48 #[vr a1, vr a2, vi 0, vi 1, .val .null, vr ur103] [wi ud103, wr a1])) rfl rfl (hb hby d5_48)
  have Fw109 := y107.same W109
  have N109 := Fr.snoc X109 N106 g_a1
  have y110 := ((F_v.keep Kc103 own_nm0).other W109 (Or.inr (slot_ne (Or.inr (tw hw 39 rfl)) (Or.inr (tw hw 37 rfl)) (by decide) (t := (.array .byte)) (t' := .byte) (by decide) (by decide))))
  have y111 := (y108.wr W109)
  obtain ⟨T112, h112, X112, e112, W112, st112⟩ := putF X109 hx hZ hown (host := "") (Or.inl (tw hw 38 rfl)) Via.refl e109 y110 y111 (Or.inr ⟨(tw hw 39 rfl), rfl, hnm⟩) (tw hw 11 rfl) (ty := (.array .byte)) (by decide) rfl rfl (g := (mkF m 54 #[vr a1, vr a2, vi 0, vi 1, .val .null, vr ur103] [wr ur103, wr a1])) rfl rfl (hb hby d5_54)
  have Fw112 := y110.same W112
  have N112 := Fr.snoc X112 N109 g_a1
  have y113 := ((y104.wr W109 (Or.inl (List.mem_of_getElem? (i := 0) rfl))).wr W112 (Or.inl (List.mem_of_getElem? (i := 0) rfl)))
  have y114 := (y111.wr W112)
  have y115 := (Fw109.other W112 (Or.inr (slot_ne (Or.inr (tw hw 37 rfl)) (Or.inr (tw hw 39 rfl)) (by decide) (t := .byte) (t' := (.array .byte)) (by decide) (by decide))))
  have y116 := ((uV103.other W109 (Ne.symm (Nat.ne_of_lt lt_a1_ur103))).other W112 (Ne.symm (Nat.ne_of_lt lt_a1_ur103)))
  obtain ⟨fs, hr, hrun, hended, hW, hsame⟩ := X112.leave (v := none) (fun _ => rfl)
  refine ⟨_, _, pre0 _ ?_, hrun, hended, _, _, rfl, ?_, ⟨_, rfl⟩, hW, hsame.mono (by decide) (by decide)⟩
  · show Go p e below s₁ (mkF m 0 #[vr a1, vr a2, vi 0, vi 1, .val .null, .unset] []) _
    refine XS.aloadN X0.here hx rfl (hb hby d5_0) rfl rfl ?_
    show Go p e below s₁ (mkF m 1 #[vr a1, vr a2, vi 0, vi 1, .val .null, .unset] [wr a1]) _
    refine st101 _ ?_
    show Go p e below T101 (mkF m 4 #[vr a1, vr a2, vi 0, vi 1, .val .null, .unset] []) _
    refine XS.iloadN X101.here hx rfl (hb hby d5_4) rfl ?_
    show Go p e below T101 (mkF m 5 #[vr a1, vr a2, vi 0, vi 1, .val .null, .unset] [wi 1]) _
    refine XS.ifYes X101.here hx rfl (pc0 := 5) (pc' := 27) rfl (hb hby d5_5) rfl ((if0 _ _).trans (feq (by decide : ¬ ((1 : Int32) = (0 : Int32)))).2) (by decide) (by decide) ?_
    show Go p e below T101 (mkF m 27 #[vr a1, vr a2, vi 0, vi 1, .val .null, .unset] []) _
    refine st102 _ ?_
    show Go p e below T102 (mkF m 30 #[vr a1, vr a2, vi 0, vi 1, .val .null, .unset] [wi G1]) _
    refine XS.ifNo X102.here hx rfl (hb hby d5_30) rfl ((if0 _ _).trans (feq hc30).1) ?_
    show Go p e below T102 (mkF m 33 #[vr a1, vr a2, vi 0, vi 1, .val .null, .unset] []) _
    refine XS.aloadN X102.here hx rfl (hb hby d5_33) rfl rfl ?_
    show Go p e below T102 (mkF m 34 #[vr a1, vr a2, vi 0, vi 1, .val .null, .unset] [wr a2]) _
    refine XS.iloadN X102.here hx rfl (hb hby d5_34) rfl ?_
    show Go p e below T102 (mkF m 35 #[vr a1, vr a2, vi 0, vi 1, .val .null, .unset] [wi 0, wr a2]) _
    refine XS.iloadN X102.here hx rfl (hb hby d5_35) rfl ?_
    show Go p e below T102 (mkF m 36 #[vr a1, vr a2, vi 0, vi 1, .val .null, .unset] [wi 1, wi 0, wr a2]) _
    refine st103 _ ?_
    show Go p e below T103 (mkF m 39 #[vr a1, vr a2, vi 0, vi 1, .val .null, .unset] [wr ur103]) _
    refine XS.astore X103.here hx rfl (hb hby d5_39) rfl rfl (l' := #[.val (.ref a1), .val (.ref a2), .val (.int (0 : Int32)), .val (.int (1 : Int32)), .val .null, .val (.ref ur103)]) rfl ?_
    show Go p e below T103 (mkF m 41 #[vr a1, vr a2, vi 0, vi 1, .val .null, vr ur103] []) _
    refine XS.aloadN X103.here hx rfl (hb hby d5_41) rfl rfl ?_
    show Go p e below T103 (mkF m 42 #[vr a1, vr a2, vi 0, vi 1, .val .null, vr ur103] [wr a1]) _
    refine XS.aload X103.here hx rfl (hb hby d5_42) rfl rfl ?_
    show Go p e below T103 (mkF m 44 #[vr a1, vr a2, vi 0, vi 1, .val .null, vr ur103] [wr ur103, wr a1]) _
    refine XS.iloadN X103.here hx rfl (hb hby d5_44) rfl ?_
    show Go p e below T103 (mkF m 45 #[vr a1, vr a2, vi 0, vi 1, .val .null, vr ur103] [wi 1, wr ur103, wr a1]) _
    refine st106 _ ?_
    show Go p e below T106 (mkF m 48 #[vr a1, vr a2, vi 0, vi 1, .val .null, vr ur103] [wi ud103, wr a1]) _
    refine st109 _ ?_
    show Go p e below T109 (mkF m 51 #[vr a1, vr a2, vi 0, vi 1, .val .null, vr ur103] []) _
    refine XS.aloadN X109.here hx rfl (hb hby d5_51) rfl rfl ?_
    show Go p e below T109 (mkF m 52 #[vr a1, vr a2, vi 0, vi 1, .val .null, vr ur103] [wr a1]) _
    refine XS.aload X109.here hx rfl (hb hby d5_52) rfl rfl ?_
    show Go p e below T109 (mkF m 54 #[vr a1, vr a2, vi 0, vi 1, .val .null, vr ur103] [wr ur103, wr a1]) _
    refine st112 _ ?_
    show Go p e below T112 (mkF m 57 #[vr a1, vr a2, vi 0, vi 1, .val .null, vr ur103] []) _
    exact X112.returnOut hx Bd.returns (hb hby d5_57) hr
  · show QNew Z a1 [x1] h0 n0 _ T112.heap _
    rw [e112]
    exact ⟨rfl, N112, y113, ur103, uq103, ud103, uN103, uw103, ⟨y114, Fw112, (by have q := y115; rw [own_cdn uH103] at q; exact q), y116⟩, uH103⟩
set_option maxRecDepth 65536 in
set_option maxHeartbeats 40000000 in
theorem rmC5_2_n (l : Launch) (Z : State) (a0 : Array Value) (hw : ∀ d ∈ tables_1, d.before a0 Z = true) (ws : List Jvm.Cond) (a1 : Addr) (a3 : Addr) (ka : ClassId) (kd : ClassId) (x1 : Int32) (x2 : Int32) (h0 : Heap) (n0 : Nat) (X00 : Old Z n0 h0) (V_a : Arv Z h0 a1 ka .char (2 : Int32) [(.int x1), (.int x2)] (.int (0 : Int32))) (V_d : Arv Z h0 a3 kd .byte (2 : Int32) [.int (0 : Int32), .int (0 : Int32)] (.int (0 : Int32))) (g_a3 : n0 ≤ a3) (ne : a1 ≠ a3) (hl0 : ¬ ((255 : Int32) < x1)) (hl1 : ¬ ((255 : Int32) < x2)) :
    MetFree l mn_19 (head1 (Jvm.Cond.code mn_19 jdk_52_method_21_code 7 (some .int) :: ws) ro_0) (fun a U => a = #[(.ref a1), (.int (0 : Int32)), (.ref a3), (.int (0 : Int32)), (.int (2 : Int32))] ∧ Z.Warmed39 U.vm ∧ U.heap = h0) (fun _ _ _ _ _ => True) (fun _ U o U' => ∃ rv rL, o = .returned rv ∧ QGB Z a3 kd (2 : Int32) [.int (StrChars.lo8 x1), .int (StrChars.lo8 x2)] (some (.int (2 : Int32))) h0 n0 rv U'.heap rL ∧ FrameEnd U o U' rL ro_0.cells ro_0.slots) := by
  refine MetFree.of_bodySF (plainFor_of_name pn_8) hisR ?_
  intro p e s m args below meth c s₁ Bd hml0 hP hK
  obtain ⟨rfl, hZ, hh⟩ := hP
  have hx := Bd.exec
  have hby := Bd.bytes
  have hml : c.maxLocals = 7 := hml0
  have hown : s.vm.findClass "java/lang/StringUTF16" = some m.cls := findClass_of_methodNamed Bd.named
  have hnm := (name_of_methodNamed Bd.named Bd.method).1
  have X0 : Stand p l e ro_0 s m #[(.ref a1), (.int (0 : Int32)), (.ref a3), (.int (0 : Int32)), (.int (2 : Int32))] below meth c s₁ [] 0 0 := Stand.of_body Bd
  have e0 : s₁.heap = h0 := by rw [← hh, Bd.state]; rfl
  have N0 := Fr.nil n0
  have pre0 : ∀ t, Steps p.tables e below (s₁.setTop (mkF m 0 #[.val (.ref a1), .val (.int (0 : Int32)), .val (.ref a3), .val (.int (0 : Int32)), .val (.int (2 : Int32)), .unset, .unset] [])) t → Steps p.tables e below (s₁.setTop (entryFrame m #[(.ref a1), (.int (0 : Int32)), (.ref a3), (.int (0 : Int32)), (.int (2 : Int32))] 7)) t := fun t k => castTop (ef_8 m a1 (0 : Int32) a3 (0 : Int32) (2 : Int32)) k
  obtain ⟨cl101, Ar101, q101, S101, M101, H101, G101⟩ := id V_a
  have hat102 : cl101.slots[((0 : Int32)).toNatClampNeg]? = some (.int x1) := by rw [show ((0 : Int32)).toNatClampNeg = 0 from by decide]; exact H101 0 (by rw [S101]; decide)
  have hc20 : ¬ ((255 : Int32) < x1) := hl0
  obtain ⟨cl103, Ar103, q103, S103, M103, H103, G103⟩ := id V_d
  obtain ⟨T103, h103, X103, e103, W103, st103⟩ := stB X0 hx hZ e0 Ar103 (j := (0 : Int32)) (inb_of S103 ⟨by decide, by decide⟩) (g := (mkF m 31 #[vr a1, vi 0, vr a3, vi 0, vi 2, vi 0, vi x1] [wi (x1.toInt8.toInt32), wi 0, wr a3])) rfl rfl (hb hby d8_31)
  have V103 : Arv Z h103 a3 kd .byte (2 : Int32) [(.int (nar .byte (x1.toInt8.toInt32))), (.int (0 : Int32))] (.int (0 : Int32)) := Arv.set Ar103 q103 S103 M103 H103 G103 (fits_nar_byte _) W103 0 rfl (Nat.le_of_ble_eq_true rfl)
  have N103 := Fr.snoc X103 N0 g_a3
  have y104 := (V_a.other W103 ne)
  obtain ⟨cl105, Ar105, q105, S105, M105, H105, G105⟩ := id y104
  have hat106 : cl105.slots[((1 : Int32)).toNatClampNeg]? = some (.int x2) := by rw [show ((1 : Int32)).toNatClampNeg = 1 from by decide]; exact H105 1 (by rw [S105]; decide)
  have hc20_1 : ¬ ((255 : Int32) < x2) := hl1
  obtain ⟨cl107, Ar107, q107, S107, M107, H107, G107⟩ := id V103
  obtain ⟨T107, h107, X107, e107, W107, st107⟩ := stB X103 hx hZ e103 Ar107 (j := (1 : Int32)) (inb_of S107 ⟨by decide, by decide⟩) (g := (mkF m 31 #[vr a1, vi 1, vr a3, vi 1, vi 2, vi 1, vi x2] [wi (x2.toInt8.toInt32), wi 1, wr a3])) rfl rfl (hb hby d8_31)
  have V107 : Arv Z h107 a3 kd .byte (2 : Int32) [(.int (nar .byte (x1.toInt8.toInt32))), (.int (nar .byte (x2.toInt8.toInt32)))] (.int (0 : Int32)) := Arv.set Ar107 q107 S107 M107 H107 G107 (fits_nar_byte _) W107 1 rfl (Nat.le_of_ble_eq_true rfl)
  have N107 := Fr.snoc X107 N103 g_a3
  have y108 := (((Keep.refl h0 [a3]).wr W103 (Or.inl (List.mem_of_getElem? (i := 0) rfl))).wr W107 (Or.inl (List.mem_of_getElem? (i := 0) rfl)))
  obtain ⟨fs, hr, hrun, hended, hW, hsame⟩ := X107.leave (v := some (.int (2 : Int32))) (fun h => by rw [Bd.returns] at h; cases h)
  refine ⟨_, _, pre0 _ ?_, hrun, hended, _, _, rfl, ?_, ⟨_, rfl⟩, hW, hsame.mono (by decide) (by decide)⟩
  · show Go p e below s₁ (mkF m 0 #[vr a1, vi 0, vr a3, vi 0, vi 2, .unset, .unset] []) _
    refine XS.iconst X0.here hx rfl (hb hby d8_0) ?_
    show Go p e below s₁ (mkF m 1 #[vr a1, vi 0, vr a3, vi 0, vi 2, .unset, .unset] [wi 0]) _
    refine XS.istore X0.here hx rfl (hb hby d8_1) rfl (l' := #[.val (.ref a1), .val (.int (0 : Int32)), .val (.ref a3), .val (.int (0 : Int32)), .val (.int (2 : Int32)), .val (.int (0 : Int32)), .unset]) rfl ?_
    show Go p e below s₁ (mkF m 3 #[vr a1, vi 0, vr a3, vi 0, vi 2, vi 0, .unset] []) _
    refine XS.iload X0.here hx rfl (hb hby d8_3) rfl ?_
    show Go p e below s₁ (mkF m 5 #[vr a1, vi 0, vr a3, vi 0, vi 2, vi 0, .unset] [wi 0]) _
    refine XS.iload X0.here hx rfl (hb hby d8_5) rfl ?_
    show Go p e below s₁ (mkF m 7 #[vr a1, vi 0, vr a3, vi 0, vi 2, vi 0, .unset] [wi 2, wi 0]) _
    refine XS.icmpNo X0.here hx rfl (hb hby d8_7) rfl (tlt (by decide : (0 : Int32) < (2 : Int32))).2.1 ?_
    show Go p e below s₁ (mkF m 10 #[vr a1, vi 0, vr a3, vi 0, vi 2, vi 0, .unset] []) _
    refine XS.aloadN X0.here hx rfl (hb hby d8_10) rfl rfl ?_
    show Go p e below s₁ (mkF m 11 #[vr a1, vi 0, vr a3, vi 0, vi 2, vi 0, .unset] [wr a1]) _
    refine XS.iloadN X0.here hx rfl (hb hby d8_11) rfl ?_
    show Go p e below s₁ (mkF m 12 #[vr a1, vi 0, vr a3, vi 0, vi 2, vi 0, .unset] [wi 0, wr a1]) _
    refine X0.caload hx (j := (0 : Int32)) (v := (.int x1)) (by rw [e0]; exact Ar101.1) (State.isArrayOf_alike hZ.alike Ar101.2.1) Ar101.2.2 (inb_of S101 ⟨by decide, by decide⟩) hat102 (g := (mkF m 12 #[vr a1, vi 0, vr a3, vi 0, vi 2, vi 0, .unset] [wi 0, wr a1])) rfl rfl (hb hby d8_12) _ ?_
    show Go p e below s₁ (mkF m 13 #[vr a1, vi 0, vr a3, vi 0, vi 2, vi 0, .unset] [wi x1]) _
    refine XS.istore X0.here hx rfl (hb hby d8_13) rfl (l' := #[.val (.ref a1), .val (.int (0 : Int32)), .val (.ref a3), .val (.int (0 : Int32)), .val (.int (2 : Int32)), .val (.int (0 : Int32)), .val (.int x1)]) rfl ?_
    show Go p e below s₁ (mkF m 15 #[vr a1, vi 0, vr a3, vi 0, vi 2, vi 0, vi x1] []) _
    refine XS.iload X0.here hx rfl (hb hby d8_15) rfl ?_
    show Go p e below s₁ (mkF m 17 #[vr a1, vi 0, vr a3, vi 0, vi 2, vi 0, vi x1] [wi x1]) _
    refine XS.sipush X0.here hx rfl (hb hby d8_17) ?_
    show Go p e below s₁ (mkF m 20 #[vr a1, vi 0, vr a3, vi 0, vi 2, vi 0, vi x1] [wi 255, wi x1]) _
    refine XS.icmpYes X0.here hx rfl (pc0 := 20) (pc' := 26) rfl (hb hby d8_20) rfl (flt hc20).2.2.2 (by decide) (by decide) ?_
    show Go p e below s₁ (mkF m 26 #[vr a1, vi 0, vr a3, vi 0, vi 2, vi 0, vi x1] []) _
    refine XS.aloadN X0.here hx rfl (hb hby d8_26) rfl rfl ?_
    show Go p e below s₁ (mkF m 27 #[vr a1, vi 0, vr a3, vi 0, vi 2, vi 0, vi x1] [wr a3]) _
    refine XS.iloadN X0.here hx rfl (hb hby d8_27) rfl ?_
    show Go p e below s₁ (mkF m 28 #[vr a1, vi 0, vr a3, vi 0, vi 2, vi 0, vi x1] [wi 0, wr a3]) _
    refine XS.iload X0.here hx rfl (hb hby d8_28) rfl ?_
    show Go p e below s₁ (mkF m 30 #[vr a1, vi 0, vr a3, vi 0, vi 2, vi 0, vi x1] [wi x1, wi 0, wr a3]) _
    refine XS.i2b X0.here hx rfl (hb hby d8_30) rfl ?_
    show Go p e below s₁ (mkF m 31 #[vr a1, vi 0, vr a3, vi 0, vi 2, vi 0, vi x1] [wi (x1.toInt8.toInt32), wi 0, wr a3]) _
    refine st103 _ ?_
    show Go p e below T103 (mkF m 32 #[vr a1, vi 0, vr a3, vi 0, vi 2, vi 0, vi x1] []) _
    refine XS.iinc X103.here hx rfl (hb hby d8_32) rfl (l' := #[.val (.ref a1), .val (.int (1 : Int32)), .val (.ref a3), .val (.int (0 : Int32)), .val (.int (2 : Int32)), .val (.int (0 : Int32)), .val (.int x1)]) rfl ?_
    show Go p e below T103 (mkF m 35 #[vr a1, vi 1, vr a3, vi 0, vi 2, vi 0, vi x1] []) _
    refine XS.iinc X103.here hx rfl (hb hby d8_35) rfl (l' := #[.val (.ref a1), .val (.int (1 : Int32)), .val (.ref a3), .val (.int (1 : Int32)), .val (.int (2 : Int32)), .val (.int (0 : Int32)), .val (.int x1)]) rfl ?_
    show Go p e below T103 (mkF m 38 #[vr a1, vi 1, vr a3, vi 1, vi 2, vi 0, vi x1] []) _
    refine XS.iinc X103.here hx rfl (hb hby d8_38) rfl (l' := #[.val (.ref a1), .val (.int (1 : Int32)), .val (.ref a3), .val (.int (1 : Int32)), .val (.int (2 : Int32)), .val (.int (1 : Int32)), .val (.int x1)]) rfl ?_
    show Go p e below T103 (mkF m 41 #[vr a1, vi 1, vr a3, vi 1, vi 2, vi 1, vi x1] []) _
    refine XS.goto X103.here hx rfl (pc0 := 41) (pc' := 3) rfl (hb hby d8_41) (by decide) (by decide) ?_
    show Go p e below T103 (mkF m 3 #[vr a1, vi 1, vr a3, vi 1, vi 2, vi 1, vi x1] []) _
    refine XS.iload X103.here hx rfl (hb hby d8_3) rfl ?_
    show Go p e below T103 (mkF m 5 #[vr a1, vi 1, vr a3, vi 1, vi 2, vi 1, vi x1] [wi 1]) _
    refine XS.iload X103.here hx rfl (hb hby d8_5) rfl ?_
    show Go p e below T103 (mkF m 7 #[vr a1, vi 1, vr a3, vi 1, vi 2, vi 1, vi x1] [wi 2, wi 1]) _
    refine XS.icmpNo X103.here hx rfl (hb hby d8_7) rfl (tlt (by decide : (1 : Int32) < (2 : Int32))).2.1 ?_
    show Go p e below T103 (mkF m 10 #[vr a1, vi 1, vr a3, vi 1, vi 2, vi 1, vi x1] []) _
    refine XS.aloadN X103.here hx rfl (hb hby d8_10) rfl rfl ?_
    show Go p e below T103 (mkF m 11 #[vr a1, vi 1, vr a3, vi 1, vi 2, vi 1, vi x1] [wr a1]) _
    refine XS.iloadN X103.here hx rfl (hb hby d8_11) rfl ?_
    show Go p e below T103 (mkF m 12 #[vr a1, vi 1, vr a3, vi 1, vi 2, vi 1, vi x1] [wi 1, wr a1]) _
    refine X103.caload hx (j := (1 : Int32)) (v := (.int x2)) (by rw [e103]; exact Ar105.1) (State.isArrayOf_alike hZ.alike Ar105.2.1) Ar105.2.2 (inb_of S105 ⟨by decide, by decide⟩) hat106 (g := (mkF m 12 #[vr a1, vi 1, vr a3, vi 1, vi 2, vi 1, vi x1] [wi 1, wr a1])) rfl rfl (hb hby d8_12) _ ?_
    show Go p e below T103 (mkF m 13 #[vr a1, vi 1, vr a3, vi 1, vi 2, vi 1, vi x1] [wi x2]) _
    refine XS.istore X103.here hx rfl (hb hby d8_13) rfl (l' := #[.val (.ref a1), .val (.int (1 : Int32)), .val (.ref a3), .val (.int (1 : Int32)), .val (.int (2 : Int32)), .val (.int (1 : Int32)), .val (.int x2)]) rfl ?_
    show Go p e below T103 (mkF m 15 #[vr a1, vi 1, vr a3, vi 1, vi 2, vi 1, vi x2] []) _
    refine XS.iload X103.here hx rfl (hb hby d8_15) rfl ?_
    show Go p e below T103 (mkF m 17 #[vr a1, vi 1, vr a3, vi 1, vi 2, vi 1, vi x2] [wi x2]) _
    refine XS.sipush X103.here hx rfl (hb hby d8_17) ?_
    show Go p e below T103 (mkF m 20 #[vr a1, vi 1, vr a3, vi 1, vi 2, vi 1, vi x2] [wi 255, wi x2]) _
    refine XS.icmpYes X103.here hx rfl (pc0 := 20) (pc' := 26) rfl (hb hby d8_20) rfl (flt hc20_1).2.2.2 (by decide) (by decide) ?_
    show Go p e below T103 (mkF m 26 #[vr a1, vi 1, vr a3, vi 1, vi 2, vi 1, vi x2] []) _
    refine XS.aloadN X103.here hx rfl (hb hby d8_26) rfl rfl ?_
    show Go p e below T103 (mkF m 27 #[vr a1, vi 1, vr a3, vi 1, vi 2, vi 1, vi x2] [wr a3]) _
    refine XS.iloadN X103.here hx rfl (hb hby d8_27) rfl ?_
    show Go p e below T103 (mkF m 28 #[vr a1, vi 1, vr a3, vi 1, vi 2, vi 1, vi x2] [wi 1, wr a3]) _
    refine XS.iload X103.here hx rfl (hb hby d8_28) rfl ?_
    show Go p e below T103 (mkF m 30 #[vr a1, vi 1, vr a3, vi 1, vi 2, vi 1, vi x2] [wi x2, wi 1, wr a3]) _
    refine XS.i2b X103.here hx rfl (hb hby d8_30) rfl ?_
    show Go p e below T103 (mkF m 31 #[vr a1, vi 1, vr a3, vi 1, vi 2, vi 1, vi x2] [wi (x2.toInt8.toInt32), wi 1, wr a3]) _
    refine st107 _ ?_
    show Go p e below T107 (mkF m 32 #[vr a1, vi 1, vr a3, vi 1, vi 2, vi 1, vi x2] []) _
    refine XS.iinc X107.here hx rfl (hb hby d8_32) rfl (l' := #[.val (.ref a1), .val (.int (2 : Int32)), .val (.ref a3), .val (.int (1 : Int32)), .val (.int (2 : Int32)), .val (.int (1 : Int32)), .val (.int x2)]) rfl ?_
    show Go p e below T107 (mkF m 35 #[vr a1, vi 2, vr a3, vi 1, vi 2, vi 1, vi x2] []) _
    refine XS.iinc X107.here hx rfl (hb hby d8_35) rfl (l' := #[.val (.ref a1), .val (.int (2 : Int32)), .val (.ref a3), .val (.int (2 : Int32)), .val (.int (2 : Int32)), .val (.int (1 : Int32)), .val (.int x2)]) rfl ?_
    show Go p e below T107 (mkF m 38 #[vr a1, vi 2, vr a3, vi 2, vi 2, vi 1, vi x2] []) _
    refine XS.iinc X107.here hx rfl (hb hby d8_38) rfl (l' := #[.val (.ref a1), .val (.int (2 : Int32)), .val (.ref a3), .val (.int (2 : Int32)), .val (.int (2 : Int32)), .val (.int (2 : Int32)), .val (.int x2)]) rfl ?_
    show Go p e below T107 (mkF m 41 #[vr a1, vi 2, vr a3, vi 2, vi 2, vi 2, vi x2] []) _
    refine XS.goto X107.here hx rfl (pc0 := 41) (pc' := 3) rfl (hb hby d8_41) (by decide) (by decide) ?_
    show Go p e below T107 (mkF m 3 #[vr a1, vi 2, vr a3, vi 2, vi 2, vi 2, vi x2] []) _
    refine XS.iload X107.here hx rfl (hb hby d8_3) rfl ?_
    show Go p e below T107 (mkF m 5 #[vr a1, vi 2, vr a3, vi 2, vi 2, vi 2, vi x2] [wi 2]) _
    refine XS.iload X107.here hx rfl (hb hby d8_5) rfl ?_
    show Go p e below T107 (mkF m 7 #[vr a1, vi 2, vr a3, vi 2, vi 2, vi 2, vi x2] [wi 2, wi 2]) _
    refine XS.icmpYes X107.here hx rfl (pc0 := 7) (pc' := 44) rfl (hb hby d8_7) rfl (flt (by decide : ¬ ((2 : Int32) < (2 : Int32)))).2.1 (by decide) (by decide) ?_
    show Go p e below T107 (mkF m 44 #[vr a1, vi 2, vr a3, vi 2, vi 2, vi 2, vi x2] []) _
    refine XS.iload X107.here hx rfl (hb hby d8_44) rfl ?_
    show Go p e below T107 (mkF m 46 #[vr a1, vi 2, vr a3, vi 2, vi 2, vi 2, vi x2] [wi 2]) _
    exact retI X107 hx Bd.returns (hb hby d8_46) hr
  · show QGB Z a3 kd (2 : Int32) [.int (StrChars.lo8 x1), .int (StrChars.lo8 x2)] (some (.int (2 : Int32))) h0 n0 _ T107.heap _
    rw [e107]
    exact ⟨rfl, N107, y108, (by have q := V107; rw [own_rawL x1, own_rawL x2] at q; exact q)⟩
set_option maxRecDepth 65536 in
set_option maxHeartbeats 40000000 in
theorem rmC5_2_0 (l : Launch) (Z : State) (a0 : Array Value) (hw : ∀ d ∈ tables_1, d.before a0 Z = true) (ws : List Jvm.Cond) (a1 : Addr) (a3 : Addr) (ka : ClassId) (kd : ClassId) (x1 : Int32) (x2 : Int32) (h0 : Heap) (n0 : Nat) (X00 : Old Z n0 h0) (V_a : Arv Z h0 a1 ka .char (2 : Int32) [(.int x1), (.int x2)] (.int (0 : Int32))) (V_d : Arv Z h0 a3 kd .byte (2 : Int32) [.int (0 : Int32), .int (0 : Int32)] (.int (0 : Int32))) (g_a3 : n0 ≤ a3) (ne : a1 ≠ a3) (hg : (255 : Int32) < x1) :
    MetFree l mn_19 (head1 (Jvm.Cond.code mn_19 jdk_52_method_21_code 7 (some .int) :: ws) ro_0) (fun a U => a = #[(.ref a1), (.int (0 : Int32)), (.ref a3), (.int (0 : Int32)), (.int (2 : Int32))] ∧ Z.Warmed39 U.vm ∧ U.heap = h0) (fun _ _ _ _ _ => True) (fun _ U o U' => ∃ rv rL, o = .returned rv ∧ QK a3 (some (.int (0 : Int32))) h0 n0 rv U'.heap rL ∧ FrameEnd U o U' rL ro_0.cells ro_0.slots) := by
  refine MetFree.of_bodySF (plainFor_of_name pn_8) hisR ?_
  intro p e s m args below meth c s₁ Bd hml0 hP hK
  obtain ⟨rfl, hZ, hh⟩ := hP
  have hx := Bd.exec
  have hby := Bd.bytes
  have hml : c.maxLocals = 7 := hml0
  have hown : s.vm.findClass "java/lang/StringUTF16" = some m.cls := findClass_of_methodNamed Bd.named
  have hnm := (name_of_methodNamed Bd.named Bd.method).1
  have X0 : Stand p l e ro_0 s m #[(.ref a1), (.int (0 : Int32)), (.ref a3), (.int (0 : Int32)), (.int (2 : Int32))] below meth c s₁ [] 0 0 := Stand.of_body Bd
  have e0 : s₁.heap = h0 := by rw [← hh, Bd.state]; rfl
  have N0 := Fr.nil n0
  have pre0 : ∀ t, Steps p.tables e below (s₁.setTop (mkF m 0 #[.val (.ref a1), .val (.int (0 : Int32)), .val (.ref a3), .val (.int (0 : Int32)), .val (.int (2 : Int32)), .unset, .unset] [])) t → Steps p.tables e below (s₁.setTop (entryFrame m #[(.ref a1), (.int (0 : Int32)), (.ref a3), (.int (0 : Int32)), (.int (2 : Int32))] 7)) t := fun t k => castTop (ef_8 m a1 (0 : Int32) a3 (0 : Int32) (2 : Int32)) k
  obtain ⟨cl101, Ar101, q101, S101, M101, H101, G101⟩ := id V_a
  have hat102 : cl101.slots[((0 : Int32)).toNatClampNeg]? = some (.int x1) := by rw [show ((0 : Int32)).toNatClampNeg = 0 from by decide]; exact H101 0 (by rw [S101]; decide)
  have hc20 : (255 : Int32) < x1 := hg
  obtain ⟨fs, hr, hrun, hended, hW, hsame⟩ := X0.leave (v := some (.int (0 : Int32))) (fun h => by rw [Bd.returns] at h; cases h)
  refine ⟨_, _, pre0 _ ?_, hrun, hended, _, _, rfl, ?_, ⟨_, rfl⟩, hW, hsame.mono (by decide) (by decide)⟩
  · show Go p e below s₁ (mkF m 0 #[vr a1, vi 0, vr a3, vi 0, vi 2, .unset, .unset] []) _
    refine XS.iconst X0.here hx rfl (hb hby d8_0) ?_
    show Go p e below s₁ (mkF m 1 #[vr a1, vi 0, vr a3, vi 0, vi 2, .unset, .unset] [wi 0]) _
    refine XS.istore X0.here hx rfl (hb hby d8_1) rfl (l' := #[.val (.ref a1), .val (.int (0 : Int32)), .val (.ref a3), .val (.int (0 : Int32)), .val (.int (2 : Int32)), .val (.int (0 : Int32)), .unset]) rfl ?_
    show Go p e below s₁ (mkF m 3 #[vr a1, vi 0, vr a3, vi 0, vi 2, vi 0, .unset] []) _
    refine XS.iload X0.here hx rfl (hb hby d8_3) rfl ?_
    show Go p e below s₁ (mkF m 5 #[vr a1, vi 0, vr a3, vi 0, vi 2, vi 0, .unset] [wi 0]) _
    refine XS.iload X0.here hx rfl (hb hby d8_5) rfl ?_
    show Go p e below s₁ (mkF m 7 #[vr a1, vi 0, vr a3, vi 0, vi 2, vi 0, .unset] [wi 2, wi 0]) _
    refine XS.icmpNo X0.here hx rfl (hb hby d8_7) rfl (tlt (by decide : (0 : Int32) < (2 : Int32))).2.1 ?_
    show Go p e below s₁ (mkF m 10 #[vr a1, vi 0, vr a3, vi 0, vi 2, vi 0, .unset] []) _
    refine XS.aloadN X0.here hx rfl (hb hby d8_10) rfl rfl ?_
    show Go p e below s₁ (mkF m 11 #[vr a1, vi 0, vr a3, vi 0, vi 2, vi 0, .unset] [wr a1]) _
    refine XS.iloadN X0.here hx rfl (hb hby d8_11) rfl ?_
    show Go p e below s₁ (mkF m 12 #[vr a1, vi 0, vr a3, vi 0, vi 2, vi 0, .unset] [wi 0, wr a1]) _
    refine X0.caload hx (j := (0 : Int32)) (v := (.int x1)) (by rw [e0]; exact Ar101.1) (State.isArrayOf_alike hZ.alike Ar101.2.1) Ar101.2.2 (inb_of S101 ⟨by decide, by decide⟩) hat102 (g := (mkF m 12 #[vr a1, vi 0, vr a3, vi 0, vi 2, vi 0, .unset] [wi 0, wr a1])) rfl rfl (hb hby d8_12) _ ?_
    show Go p e below s₁ (mkF m 13 #[vr a1, vi 0, vr a3, vi 0, vi 2, vi 0, .unset] [wi x1]) _
    refine XS.istore X0.here hx rfl (hb hby d8_13) rfl (l' := #[.val (.ref a1), .val (.int (0 : Int32)), .val (.ref a3), .val (.int (0 : Int32)), .val (.int (2 : Int32)), .val (.int (0 : Int32)), .val (.int x1)]) rfl ?_
    show Go p e below s₁ (mkF m 15 #[vr a1, vi 0, vr a3, vi 0, vi 2, vi 0, vi x1] []) _
    refine XS.iload X0.here hx rfl (hb hby d8_15) rfl ?_
    show Go p e below s₁ (mkF m 17 #[vr a1, vi 0, vr a3, vi 0, vi 2, vi 0, vi x1] [wi x1]) _
    refine XS.sipush X0.here hx rfl (hb hby d8_17) ?_
    show Go p e below s₁ (mkF m 20 #[vr a1, vi 0, vr a3, vi 0, vi 2, vi 0, vi x1] [wi 255, wi x1]) _
    refine XS.icmpNo X0.here hx rfl (hb hby d8_20) rfl (tlt hc20).2.2.2 ?_
    show Go p e below s₁ (mkF m 23 #[vr a1, vi 0, vr a3, vi 0, vi 2, vi 0, vi x1] []) _
    refine XS.iload X0.here hx rfl (hb hby d8_23) rfl ?_
    show Go p e below s₁ (mkF m 25 #[vr a1, vi 0, vr a3, vi 0, vi 2, vi 0, vi x1] [wi 0]) _
    exact retI X0 hx Bd.returns (hb hby d8_25) hr
  · show QK a3 (some (.int (0 : Int32))) h0 n0 _ s₁.heap _
    rw [e0]
    exact ⟨rfl, N0, (Keep.refl h0 [a3])⟩
set_option maxRecDepth 65536 in
set_option maxHeartbeats 40000000 in
theorem rm_newBytesLength_2 (l : Launch) (Z : State) (a0 : Array Value) (hw : ∀ d ∈ tables_1, d.before a0 Z = true) (ws : List Jvm.Cond)  (h0 : Heap) (n0 : Nat) (X00 : Old Z n0 h0) :
    MetFree l mn_23 (head1 (Jvm.Cond.code mn_23 jdk_52_method_3_code 1 (some .int) :: ws) ({ frames := 0, cells := 0, slots := 0, locals := 0 } : Room)) (fun a U => a = #[(.int (2 : Int32))] ∧ Z.Warmed39 U.vm ∧ U.heap = h0) (fun _ _ _ _ _ => True) (fun _ U o U' => ∃ rv rL, o = .returned rv ∧ Qs (some (.int (4 : Int32))) h0 n0 rv U'.heap rL ∧ FrameEnd U o U' rL ({ frames := 0, cells := 0, slots := 0, locals := 0 } : Room).cells ({ frames := 0, cells := 0, slots := 0, locals := 0 } : Room).slots) := by
  refine MetFree.of_bodySF (plainFor_of_name pn_22) hisR ?_
  intro p e s m args below meth c s₁ Bd hml0 hP hK
  obtain ⟨rfl, hZ, hh⟩ := hP
  have hx := Bd.exec
  have hby := Bd.bytes
  have hml : c.maxLocals = 1 := hml0
  have hown : s.vm.findClass "java/lang/StringUTF16" = some m.cls := findClass_of_methodNamed Bd.named
  have hnm := (name_of_methodNamed Bd.named Bd.method).1
  have X0 : Stand p l e ({ frames := 0, cells := 0, slots := 0, locals := 0 } : Room) s m #[(.int (2 : Int32))] below meth c s₁ [] 0 0 := Stand.of_body Bd
  have e0 : s₁.heap = h0 := by rw [← hh, Bd.state]; rfl
  have N0 := Fr.nil n0
  have pre0 : ∀ t, Steps p.tables e below (s₁.setTop (mkF m 0 #[.val (.int (2 : Int32))] [])) t → Steps p.tables e below (s₁.setTop (entryFrame m #[(.int (2 : Int32))] 1)) t := fun t k => castTop (ef_22 m (2 : Int32)) k
  obtain ⟨fs, hr, hrun, hended, hW, hsame⟩ := X0.leave (v := some (.int (4 : Int32))) (fun h => by rw [Bd.returns] at h; cases h)
  refine ⟨_, _, pre0 _ ?_, hrun, hended, _, _, rfl, ?_, ⟨_, rfl⟩, hW, hsame.mono (by decide) (by decide)⟩
  · show Go p e below s₁ (mkF m 0 #[vi 2] []) _
    refine XS.iloadN X0.here hx rfl (hb hby d22_0) rfl ?_
    show Go p e below s₁ (mkF m 1 #[vi 2] [wi 2]) _
    refine XS.ifYes X0.here hx rfl (pc0 := 1) (pc' := 12) rfl (hb hby d22_1) rfl ((if0 _ _).trans (flt (by decide : ¬ ((2 : Int32) < (0 : Int32)))).2.1) (by decide) (by decide) ?_
    show Go p e below s₁ (mkF m 12 #[vi 2] []) _
    refine XS.iloadN X0.here hx rfl (hb hby d22_12) rfl ?_
    show Go p e below s₁ (mkF m 13 #[vi 2] [wi 2]) _
    refine X0.ldcInt hx hown (mvT hZ (tw hw 95 rfl)) (g := (mkF m 13 #[vi 2] [wi 2])) rfl (hb hby d22_13) _ ?_
    show Go p e below s₁ (mkF m 15 #[vi 2] [wi 1073741823, wi 2]) _
    refine XS.icmpYes X0.here hx rfl (pc0 := 15) (pc' := 55) rfl (hb hby d22_15) rfl (tlt (by decide : (2 : Int32) < (1073741823 : Int32))).1 (by decide) (by decide) ?_
    show Go p e below s₁ (mkF m 55 #[vi 2] []) _
    refine XS.iloadN X0.here hx rfl (hb hby d22_55) rfl ?_
    show Go p e below s₁ (mkF m 56 #[vi 2] [wi 2]) _
    refine XS.iconst X0.here hx rfl (hb hby d22_56) ?_
    show Go p e below s₁ (mkF m 57 #[vi 2] [wi 1, wi 2]) _
    refine XS.ishl X0.here hx rfl (hb hby d22_57) rfl ?_
    show Go p e below s₁ (mkF m 58 #[vi 2] [wi 4]) _
    exact retI X0 hx Bd.returns (hb hby d22_58) hr
  · show Qs (some (.int (4 : Int32))) h0 n0 _ s₁.heap _
    rw [e0]
    exact ⟨rfl, N0, rfl⟩
set_option maxRecDepth 65536 in
set_option maxHeartbeats 40000000 in
theorem rmNBF_2 (l : Launch) (Z : State) (a0 : Array Value) (hw : ∀ d ∈ tables_1, d.before a0 Z = true) (ws : List Jvm.Cond)  (h0 : Heap) (n0 : Nat) (X00 : Old Z n0 h0) :
    MetFree l mn_22 (head1 (Jvm.Cond.code mn_22 jdk_52_method_2_code 1 (some (.array .byte)) :: ws) ro_6) (fun a U => a = #[(.int (2 : Int32))] ∧ Z.Warmed39 U.vm ∧ U.heap = h0) (fun _ _ _ _ _ => True) (fun _ U o U' => ∃ rv rL, o = .returned rv ∧ QAr Z (4 : Int32) cv_0 h0 n0 rv U'.heap rL ∧ FrameEnd U o U' rL ro_6.cells ro_6.slots) := by
  refine MetFree.of_bodySF (plainFor_of_name pn_21) hisR ?_
  intro p e s m args below meth c s₁ Bd hml0 hP hK
  obtain ⟨rfl, hZ, hh⟩ := hP
  have hx := Bd.exec
  have hby := Bd.bytes
  have hml : c.maxLocals = 1 := hml0
  have hown : s.vm.findClass "java/lang/StringUTF16" = some m.cls := findClass_of_methodNamed Bd.named
  have hnm := (name_of_methodNamed Bd.named Bd.method).1
  have X0 : Stand p l e ro_6 s m #[(.int (2 : Int32))] below meth c s₁ [] 0 0 := Stand.of_body Bd
  have e0 : s₁.heap = h0 := by rw [← hh, Bd.state]; rfl
  have N0 := Fr.nil n0
  have pre0 : ∀ t, Steps p.tables e below (s₁.setTop (mkF m 0 #[.val (.int (2 : Int32))] [])) t → Steps p.tables e below (s₁.setTop (entryFrame m #[(.int (2 : Int32))] 1)) t := fun t k => castTop (ef_21 m (2 : Int32)) k
  obtain ⟨_, _, ⟨T101, L101, k101, n101⟩, -, X101, ⟨Lc101, hQ101, l101, y101, z101⟩, st101⟩ := Jvm.LawKit.callS X0 hx (y := mn_23) hown (mvT hZ (tw hw 92 rfl)) (mvT hZ (tw hw 93 rfl)) (mvT hZ (tw hw 27 rfl)) (mvT hZ (tw hw 94 rfl)) (by decide) (backOf (W := 0) (rm_newBytesLength_2 l Z a0 hw []  h0 n0 X00 ) hZ (tw hw 94 rfl) (tw hw 27 rfl) (by decide) (by decide)) (g := (mkF m 1 #[vi 2] [wi 2])) rfl (by rw [hml]; rfl) (argsL := [wi 2]) (rest := []) (lenOf pd_I_I rfl) rfl (Nat.le_refl _) (hb hby d21_1) (fun _ _ => ⟨rfl, e0, (by decide : 0 + 0 ≤ _), (by decide : 0 + 0 ≤ _)⟩)
  dsimp only [Pt.U, Pt.locs, Pt.cells, Pt.slots] at X101 l101 y101 z101 st101 hQ101
  subst l101 y101 z101
  obtain ⟨rfl, N101q, eq101⟩ := hQ101
  have N101 := Fr.app N0 N101q
  obtain ⟨T102, h102, k102, X102, e102, E102, A102, st102⟩ := newP X101 hx hZ (tw hw 29 rfl) eq101 (g := (mkF m 4 #[vi 2] [wi 4])) rfl (hb hby d21_4) rfl (by decide) (cap := 4) (by decide) (by decide) (by decide) (by decide)
  obtain ⟨b102, g102⟩ : ∃ z, z = h0.size := ⟨_, rfl⟩
  rw [← g102] at A102 st102
  have g_b102 : n0 ≤ b102 := Nat.le_trans (own_le X00) (Nat.le_of_eq g102.symm)
  have sz_b102 : h0.size ≤ b102 := Nat.le_trans (Keep.refl h0 []).1 (Nat.le_of_eq g102.symm)
  have V102 : Arv Z h102 b102 k102 .byte (4 : Int32) [(.int (0 : Int32)), (.int (0 : Int32)), (.int (0 : Int32)), (.int (0 : Int32))] (.int (0 : Int32)) := (Arv.new A102 (by decide)).pad (pad_rep [] (.int (0 : Int32)) 4)
  have y103 := ((Keep.refl h0 []).ext E102)
  obtain ⟨fs, hr, hrun, hended, hW, hsame⟩ := X102.leave (v := some (.ref b102)) (fun h => by rw [Bd.returns] at h; cases h)
  refine ⟨_, _, pre0 _ ?_, hrun, hended, _, _, rfl, ?_, ⟨_, rfl⟩, hW, hsame.mono (by decide) (by decide)⟩
  · show Go p e below s₁ (mkF m 0 #[vi 2] []) _
    refine XS.iloadN X0.here hx rfl (hb hby d21_0) rfl ?_
    show Go p e below s₁ (mkF m 1 #[vi 2] [wi 2]) _
    refine st101 _ ?_
    show Go p e below T101 (mkF m 4 #[vi 2] [wi 4]) _
    refine st102 _ ?_
    show Go p e below T102 (mkF m 6 #[vi 2] [wr b102]) _
    jvm_step X102.here [X102.here.top, hx, (hb hby d21_6), X102.method', Bd.returns, Value.isRef, FieldType.isReference]
    first | (intro acts; rw [hr _ acts rfl rfl rfl]) | rw [hr _ _ rfl rfl rfl]
    exact Steps.refl _
  · show QAr Z (4 : Int32) cv_0 h0 n0 _ T102.heap _
    rw [e102]
    exact ⟨_, _, rfl, N101, y103, g_b102, sz_b102, V102⟩
set_option maxRecDepth 65536 in
set_option maxHeartbeats 40000000 in
theorem rmPut_2_0 (l : Launch) (Z : State) (a0 : Array Value) (hw : ∀ d ∈ tables_1, d.before a0 Z = true) (ws : List Jvm.Cond) (a1 : Addr) (p3 : Int32) (ka : ClassId) (h0 : Heap) (n0 : Nat) (X00 : Old Z n0 h0) (SA : pSA Z) (SH : pSH Z) (SL : pSL Z) (V_a : Arv Z h0 a1 ka .byte (4 : Int32) cv_0 (.int (0 : Int32))) (g_a1 : n0 ≤ a1) :
    MetFree l mn_24 (head1 (Jvm.Cond.code mn_24 jdk_52_method_4_code 3 none :: ws) ro_0) (fun a U => a = #[(.ref a1), (.int (0 : Int32)), (.int p3)] ∧ Z.Warmed39 U.vm ∧ U.heap = h0) (fun _ _ _ _ _ => True) (fun _ U o U' => ∃ rv rL, o = .returned rv ∧ QGB Z a1 ka (4 : Int32) [.int (StrChars.lo8 p3), .int (StrChars.hi8 p3), .int (0 : Int32), .int (0 : Int32)] none h0 n0 rv U'.heap rL ∧ FrameEnd U o U' rL ro_0.cells ro_0.slots) := by
  refine MetFree.of_bodySF (plainFor_of_name pn_23) hisR ?_
  intro p e s m args below meth c s₁ Bd hml0 hP hK
  obtain ⟨rfl, hZ, hh⟩ := hP
  have hx := Bd.exec
  have hby := Bd.bytes
  have hml : c.maxLocals = 3 := hml0
  have hown : s.vm.findClass "java/lang/StringUTF16" = some m.cls := findClass_of_methodNamed Bd.named
  have hnm := (name_of_methodNamed Bd.named Bd.method).1
  have X0 : Stand p l e ro_0 s m #[(.ref a1), (.int (0 : Int32)), (.int p3)] below meth c s₁ [] 0 0 := Stand.of_body Bd
  have e0 : s₁.heap = h0 := by rw [← hh, Bd.state]; rfl
  have N0 := Fr.nil n0
  have pre0 : ∀ t, Steps p.tables e below (s₁.setTop (mkF m 0 #[.val (.ref a1), .val (.int (0 : Int32)), .val (.int p3)] [])) t → Steps p.tables e below (s₁.setTop (entryFrame m #[(.ref a1), (.int (0 : Int32)), (.int p3)] 3)) t := fun t k => castTop (ef_23 m a1 (0 : Int32) p3) k
  obtain ⟨T101, X101, e101, st101⟩ := getS2 X0 hx hZ hown (host := "") (Or.inl (tw hw 99 rfl)) Via.refl e0 (SA.ext X00.2) (g := (mkF m 0 #[vr a1, vi 0, vi p3] [])) rfl (hb hby d23_0)
  obtain ⟨T102, X102, e102, st102⟩ := getS2 X101 hx hZ hown (host := "") (Or.inl (tw hw 100 rfl)) Via.refl e101 (SH.ext X00.2) (g := (mkF m 38 #[vr a1, vi 1, vi p3] [wi p3, wi 0, wr a1])) rfl (hb hby d23_38)
  obtain ⟨cl103, Ar103, q103, S103, M103, H103, G103⟩ := id V_a
  obtain ⟨T103, h103, X103, e103, W103, st103⟩ := stB X102 hx hZ e102 Ar103 (j := (0 : Int32)) (inb_of S103 ⟨by decide, by decide⟩) (g := (mkF m 43 #[vr a1, vi 1, vi p3] [wi ((p3 >>> ((0 : Int32) &&& 31)).toInt8.toInt32), wi 0, wr a1])) rfl rfl (hb hby d23_43)
  have V103 : Arv Z h103 a1 ka .byte (4 : Int32) [(.int (nar .byte ((p3 >>> ((0 : Int32) &&& 31)).toInt8.toInt32))), (.int (0 : Int32)), (.int (0 : Int32)), (.int (0 : Int32))] (.int (0 : Int32)) := Arv.set Ar103 q103 S103 M103 H103 G103 (fits_nar_byte _) W103 0 rfl (Nat.le_of_ble_eq_true rfl)
  have N103 := Fr.snoc X103 N0 g_a1
  have y105 := (X00.wr W103 g_a1)
  obtain ⟨T104, X104, e104, st104⟩ := getS2 X103 hx hZ hown (host := "") (Or.inl (tw hw 101 rfl)) Via.refl e103 (SL.ext y105.2) (g := (mkF m 47 #[vr a1, vi 1, vi p3] [wi p3, wi 1, wr a1])) rfl (hb hby d23_47)
  obtain ⟨cl106, Ar106, q106, S106, M106, H106, G106⟩ := id V103
  obtain ⟨T106, h106, X106, e106, W106, st106⟩ := stB X104 hx hZ e104 Ar106 (j := (1 : Int32)) (inb_of S106 ⟨by decide, by decide⟩) (g := (mkF m 52 #[vr a1, vi 1, vi p3] [wi ((p3 >>> ((8 : Int32) &&& 31)).toInt8.toInt32), wi 1, wr a1])) rfl rfl (hb hby d23_52)
  have V106 : Arv Z h106 a1 ka .byte (4 : Int32) [(.int (nar .byte ((p3 >>> ((0 : Int32) &&& 31)).toInt8.toInt32))), (.int (nar .byte ((p3 >>> ((8 : Int32) &&& 31)).toInt8.toInt32))), (.int (0 : Int32)), (.int (0 : Int32))] (.int (0 : Int32)) := Arv.set Ar106 q106 S106 M106 H106 G106 (fits_nar_byte _) W106 1 rfl (Nat.le_of_ble_eq_true rfl)
  have N106 := Fr.snoc X106 N103 g_a1
  have y107 := (((Keep.refl h0 [a1]).wr W103 (Or.inl (List.mem_of_getElem? (i := 0) rfl))).wr W106 (Or.inl (List.mem_of_getElem? (i := 0) rfl)))
  obtain ⟨fs, hr, hrun, hended, hW, hsame⟩ := X106.leave (v := none) (fun _ => rfl)
  refine ⟨_, _, pre0 _ ?_, hrun, hended, _, _, rfl, ?_, ⟨_, rfl⟩, hW, hsame.mono (by decide) (by decide)⟩
  · show Go p e below s₁ (mkF m 0 #[vr a1, vi 0, vi p3] []) _
    refine st101 _ ?_
    show Go p e below T101 (mkF m 3 #[vr a1, vi 0, vi p3] [wi 1]) _
    refine XS.ifYes X101.here hx rfl (pc0 := 3) (pc' := 28) rfl (hb hby d23_3) rfl ((if0 _ _).trans (feq (by decide : ¬ ((1 : Int32) = (0 : Int32)))).2) (by decide) (by decide) ?_
    show Go p e below T101 (mkF m 28 #[vr a1, vi 0, vi p3] []) _
    refine XS.iloadN X101.here hx rfl (hb hby d23_28) rfl ?_
    show Go p e below T101 (mkF m 29 #[vr a1, vi 0, vi p3] [wi 0]) _
    refine XS.iconst X101.here hx rfl (hb hby d23_29) ?_
    show Go p e below T101 (mkF m 30 #[vr a1, vi 0, vi p3] [wi 1, wi 0]) _
    refine XS.ishl X101.here hx rfl (hb hby d23_30) rfl ?_
    show Go p e below T101 (mkF m 31 #[vr a1, vi 0, vi p3] [wi 0]) _
    refine XS.istoreN X101.here hx rfl (hb hby d23_31) rfl (l' := #[.val (.ref a1), .val (.int (0 : Int32)), .val (.int p3)]) rfl ?_
    show Go p e below T101 (mkF m 32 #[vr a1, vi 0, vi p3] []) _
    refine XS.aloadN X101.here hx rfl (hb hby d23_32) rfl rfl ?_
    show Go p e below T101 (mkF m 33 #[vr a1, vi 0, vi p3] [wr a1]) _
    refine XS.iloadN X101.here hx rfl (hb hby d23_33) rfl ?_
    show Go p e below T101 (mkF m 34 #[vr a1, vi 0, vi p3] [wi 0, wr a1]) _
    refine XS.iinc X101.here hx rfl (hb hby d23_34) rfl (l' := #[.val (.ref a1), .val (.int (1 : Int32)), .val (.int p3)]) rfl ?_
    show Go p e below T101 (mkF m 37 #[vr a1, vi 1, vi p3] [wi 0, wr a1]) _
    refine XS.iloadN X101.here hx rfl (hb hby d23_37) rfl ?_
    show Go p e below T101 (mkF m 38 #[vr a1, vi 1, vi p3] [wi p3, wi 0, wr a1]) _
    refine st102 _ ?_
    show Go p e below T102 (mkF m 41 #[vr a1, vi 1, vi p3] [wi 0, wi p3, wi 0, wr a1]) _
    refine XS.ishr X102.here hx rfl (hb hby d23_41) rfl ?_
    show Go p e below T102 (mkF m 42 #[vr a1, vi 1, vi p3] [wi (p3 >>> ((0 : Int32) &&& 31)), wi 0, wr a1]) _
    refine XS.i2b X102.here hx rfl (hb hby d23_42) rfl ?_
    show Go p e below T102 (mkF m 43 #[vr a1, vi 1, vi p3] [wi ((p3 >>> ((0 : Int32) &&& 31)).toInt8.toInt32), wi 0, wr a1]) _
    refine st103 _ ?_
    show Go p e below T103 (mkF m 44 #[vr a1, vi 1, vi p3] []) _
    refine XS.aloadN X103.here hx rfl (hb hby d23_44) rfl rfl ?_
    show Go p e below T103 (mkF m 45 #[vr a1, vi 1, vi p3] [wr a1]) _
    refine XS.iloadN X103.here hx rfl (hb hby d23_45) rfl ?_
    show Go p e below T103 (mkF m 46 #[vr a1, vi 1, vi p3] [wi 1, wr a1]) _
    refine XS.iloadN X103.here hx rfl (hb hby d23_46) rfl ?_
    show Go p e below T103 (mkF m 47 #[vr a1, vi 1, vi p3] [wi p3, wi 1, wr a1]) _
    refine st104 _ ?_
    show Go p e below T104 (mkF m 50 #[vr a1, vi 1, vi p3] [wi 8, wi p3, wi 1, wr a1]) _
    refine XS.ishr X104.here hx rfl (hb hby d23_50) rfl ?_
    show Go p e below T104 (mkF m 51 #[vr a1, vi 1, vi p3] [wi (p3 >>> ((8 : Int32) &&& 31)), wi 1, wr a1]) _
    refine XS.i2b X104.here hx rfl (hb hby d23_51) rfl ?_
    show Go p e below T104 (mkF m 52 #[vr a1, vi 1, vi p3] [wi ((p3 >>> ((8 : Int32) &&& 31)).toInt8.toInt32), wi 1, wr a1]) _
    refine st106 _ ?_
    show Go p e below T106 (mkF m 53 #[vr a1, vi 1, vi p3] []) _
    exact X106.returnOut hx Bd.returns (hb hby d23_53) hr
  · show QGB Z a1 ka (4 : Int32) [.int (StrChars.lo8 p3), .int (StrChars.hi8 p3), .int (0 : Int32), .int (0 : Int32)] none h0 n0 _ T106.heap _
    rw [e106]
    exact ⟨rfl, N106, y107, (by have q := V106; rw [own_raw0 p3, own_raw1 p3] at q; exact q)⟩
set_option maxRecDepth 65536 in
set_option maxHeartbeats 40000000 in
theorem rmPut_2_1 (l : Launch) (Z : State) (a0 : Array Value) (hw : ∀ d ∈ tables_1, d.before a0 Z = true) (ws : List Jvm.Cond) (a1 : Addr) (p3 : Int32) (ka : ClassId) (x1 : Int32) (h0 : Heap) (n0 : Nat) (X00 : Old Z n0 h0) (SA : pSA Z) (SH : pSH Z) (SL : pSL Z) (V_a : Arv Z h0 a1 ka .byte (4 : Int32) [.int (StrChars.lo8 x1), .int (StrChars.hi8 x1), .int (0 : Int32), .int (0 : Int32)] (.int (0 : Int32))) (g_a1 : n0 ≤ a1) :
    MetFree l mn_24 (head1 (Jvm.Cond.code mn_24 jdk_52_method_4_code 3 none :: ws) ro_0) (fun a U => a = #[(.ref a1), (.int (1 : Int32)), (.int p3)] ∧ Z.Warmed39 U.vm ∧ U.heap = h0) (fun _ _ _ _ _ => True) (fun _ U o U' => ∃ rv rL, o = .returned rv ∧ QGB Z a1 ka (4 : Int32) [.int (StrChars.lo8 x1), .int (StrChars.hi8 x1), .int (StrChars.lo8 p3), .int (StrChars.hi8 p3)] none h0 n0 rv U'.heap rL ∧ FrameEnd U o U' rL ro_0.cells ro_0.slots) := by
  refine MetFree.of_bodySF (plainFor_of_name pn_23) hisR ?_
  intro p e s m args below meth c s₁ Bd hml0 hP hK
  obtain ⟨rfl, hZ, hh⟩ := hP
  have hx := Bd.exec
  have hby := Bd.bytes
  have hml : c.maxLocals = 3 := hml0
  have hown : s.vm.findClass "java/lang/StringUTF16" = some m.cls := findClass_of_methodNamed Bd.named
  have hnm := (name_of_methodNamed Bd.named Bd.method).1
  have X0 : Stand p l e ro_0 s m #[(.ref a1), (.int (1 : Int32)), (.int p3)] below meth c s₁ [] 0 0 := Stand.of_body Bd
  have e0 : s₁.heap = h0 := by rw [← hh, Bd.state]; rfl
  have N0 := Fr.nil n0
  have pre0 : ∀ t, Steps p.tables e below (s₁.setTop (mkF m 0 #[.val (.ref a1), .val (.int (1 : Int32)), .val (.int p3)] [])) t → Steps p.tables e below (s₁.setTop (entryFrame m #[(.ref a1), (.int (1 : Int32)), (.int p3)] 3)) t := fun t k => castTop (ef_23 m a1 (1 : Int32) p3) k
  obtain ⟨T101, X101, e101, st101⟩ := getS2 X0 hx hZ hown (host := "") (Or.inl (tw hw 99 rfl)) Via.refl e0 (SA.ext X00.2) (g := (mkF m 0 #[vr a1, vi 1, vi p3] [])) rfl (hb hby d23_0)
  obtain ⟨T102, X102, e102, st102⟩ := getS2 X101 hx hZ hown (host := "") (Or.inl (tw hw 100 rfl)) Via.refl e101 (SH.ext X00.2) (g := (mkF m 38 #[vr a1, vi 3, vi p3] [wi p3, wi 2, wr a1])) rfl (hb hby d23_38)
  obtain ⟨cl103, Ar103, q103, S103, M103, H103, G103⟩ := id V_a
  obtain ⟨T103, h103, X103, e103, W103, st103⟩ := stB X102 hx hZ e102 Ar103 (j := (2 : Int32)) (inb_of S103 ⟨by decide, by decide⟩) (g := (mkF m 43 #[vr a1, vi 3, vi p3] [wi ((p3 >>> ((0 : Int32) &&& 31)).toInt8.toInt32), wi 2, wr a1])) rfl rfl (hb hby d23_43)
  have V103 : Arv Z h103 a1 ka .byte (4 : Int32) [(.int (StrChars.lo8 x1)), (.int (StrChars.hi8 x1)), (.int (nar .byte ((p3 >>> ((0 : Int32) &&& 31)).toInt8.toInt32))), (.int (0 : Int32))] (.int (0 : Int32)) := Arv.set Ar103 q103 S103 M103 H103 G103 (fits_nar_byte _) W103 2 rfl (Nat.le_of_ble_eq_true rfl)
  have N103 := Fr.snoc X103 N0 g_a1
  have y105 := (X00.wr W103 g_a1)
  obtain ⟨T104, X104, e104, st104⟩ := getS2 X103 hx hZ hown (host := "") (Or.inl (tw hw 101 rfl)) Via.refl e103 (SL.ext y105.2) (g := (mkF m 47 #[vr a1, vi 3, vi p3] [wi p3, wi 3, wr a1])) rfl (hb hby d23_47)
  obtain ⟨cl106, Ar106, q106, S106, M106, H106, G106⟩ := id V103
  obtain ⟨T106, h106, X106, e106, W106, st106⟩ := stB X104 hx hZ e104 Ar106 (j := (3 : Int32)) (inb_of S106 ⟨by decide, by decide⟩) (g := (mkF m 52 #[vr a1, vi 3, vi p3] [wi ((p3 >>> ((8 : Int32) &&& 31)).toInt8.toInt32), wi 3, wr a1])) rfl rfl (hb hby d23_52)
  have V106 : Arv Z h106 a1 ka .byte (4 : Int32) [(.int (StrChars.lo8 x1)), (.int (StrChars.hi8 x1)), (.int (nar .byte ((p3 >>> ((0 : Int32) &&& 31)).toInt8.toInt32))), (.int (nar .byte ((p3 >>> ((8 : Int32) &&& 31)).toInt8.toInt32)))] (.int (0 : Int32)) := Arv.set Ar106 q106 S106 M106 H106 G106 (fits_nar_byte _) W106 3 rfl (Nat.le_of_ble_eq_true rfl)
  have N106 := Fr.snoc X106 N103 g_a1
  have y107 := (((Keep.refl h0 [a1]).wr W103 (Or.inl (List.mem_of_getElem? (i := 0) rfl))).wr W106 (Or.inl (List.mem_of_getElem? (i := 0) rfl)))
  obtain ⟨fs, hr, hrun, hended, hW, hsame⟩ := X106.leave (v := none) (fun _ => rfl)
  refine ⟨_, _, pre0 _ ?_, hrun, hended, _, _, rfl, ?_, ⟨_, rfl⟩, hW, hsame.mono (by decide) (by decide)⟩
  · show Go p e below s₁ (mkF m 0 #[vr a1, vi 1, vi p3] []) _
    refine st101 _ ?_
    show Go p e below T101 (mkF m 3 #[vr a1, vi 1, vi p3] [wi 1]) _
    refine XS.ifYes X101.here hx rfl (pc0 := 3) (pc' := 28) rfl (hb hby d23_3) rfl ((if0 _ _).trans (feq (by decide : ¬ ((1 : Int32) = (0 : Int32)))).2) (by decide) (by decide) ?_
    show Go p e below T101 (mkF m 28 #[vr a1, vi 1, vi p3] []) _
    refine XS.iloadN X101.here hx rfl (hb hby d23_28) rfl ?_
    show Go p e below T101 (mkF m 29 #[vr a1, vi 1, vi p3] [wi 1]) _
    refine XS.iconst X101.here hx rfl (hb hby d23_29) ?_
    show Go p e below T101 (mkF m 30 #[vr a1, vi 1, vi p3] [wi 1, wi 1]) _
    refine XS.ishl X101.here hx rfl (hb hby d23_30) rfl ?_
    show Go p e below T101 (mkF m 31 #[vr a1, vi 1, vi p3] [wi 2]) _
    refine XS.istoreN X101.here hx rfl (hb hby d23_31) rfl (l' := #[.val (.ref a1), .val (.int (2 : Int32)), .val (.int p3)]) rfl ?_
    show Go p e below T101 (mkF m 32 #[vr a1, vi 2, vi p3] []) _
    refine XS.aloadN X101.here hx rfl (hb hby d23_32) rfl rfl ?_
    show Go p e below T101 (mkF m 33 #[vr a1, vi 2, vi p3] [wr a1]) _
    refine XS.iloadN X101.here hx rfl (hb hby d23_33) rfl ?_
    show Go p e below T101 (mkF m 34 #[vr a1, vi 2, vi p3] [wi 2, wr a1]) _
    refine XS.iinc X101.here hx rfl (hb hby d23_34) rfl (l' := #[.val (.ref a1), .val (.int (3 : Int32)), .val (.int p3)]) rfl ?_
    show Go p e below T101 (mkF m 37 #[vr a1, vi 3, vi p3] [wi 2, wr a1]) _
    refine XS.iloadN X101.here hx rfl (hb hby d23_37) rfl ?_
    show Go p e below T101 (mkF m 38 #[vr a1, vi 3, vi p3] [wi p3, wi 2, wr a1]) _
    refine st102 _ ?_
    show Go p e below T102 (mkF m 41 #[vr a1, vi 3, vi p3] [wi 0, wi p3, wi 2, wr a1]) _
    refine XS.ishr X102.here hx rfl (hb hby d23_41) rfl ?_
    show Go p e below T102 (mkF m 42 #[vr a1, vi 3, vi p3] [wi (p3 >>> ((0 : Int32) &&& 31)), wi 2, wr a1]) _
    refine XS.i2b X102.here hx rfl (hb hby d23_42) rfl ?_
    show Go p e below T102 (mkF m 43 #[vr a1, vi 3, vi p3] [wi ((p3 >>> ((0 : Int32) &&& 31)).toInt8.toInt32), wi 2, wr a1]) _
    refine st103 _ ?_
    show Go p e below T103 (mkF m 44 #[vr a1, vi 3, vi p3] []) _
    refine XS.aloadN X103.here hx rfl (hb hby d23_44) rfl rfl ?_
    show Go p e below T103 (mkF m 45 #[vr a1, vi 3, vi p3] [wr a1]) _
    refine XS.iloadN X103.here hx rfl (hb hby d23_45) rfl ?_
    show Go p e below T103 (mkF m 46 #[vr a1, vi 3, vi p3] [wi 3, wr a1]) _
    refine XS.iloadN X103.here hx rfl (hb hby d23_46) rfl ?_
    show Go p e below T103 (mkF m 47 #[vr a1, vi 3, vi p3] [wi p3, wi 3, wr a1]) _
    refine st104 _ ?_
    show Go p e below T104 (mkF m 50 #[vr a1, vi 3, vi p3] [wi 8, wi p3, wi 3, wr a1]) _
    refine XS.ishr X104.here hx rfl (hb hby d23_50) rfl ?_
    show Go p e below T104 (mkF m 51 #[vr a1, vi 3, vi p3] [wi (p3 >>> ((8 : Int32) &&& 31)), wi 3, wr a1]) _
    refine XS.i2b X104.here hx rfl (hb hby d23_51) rfl ?_
    show Go p e below T104 (mkF m 52 #[vr a1, vi 3, vi p3] [wi ((p3 >>> ((8 : Int32) &&& 31)).toInt8.toInt32), wi 3, wr a1]) _
    refine st106 _ ?_
    show Go p e below T106 (mkF m 53 #[vr a1, vi 3, vi p3] []) _
    exact X106.returnOut hx Bd.returns (hb hby d23_53) hr
  · show QGB Z a1 ka (4 : Int32) [.int (StrChars.lo8 x1), .int (StrChars.hi8 x1), .int (StrChars.lo8 p3), .int (StrChars.hi8 p3)] none h0 n0 _ T106.heap _
    rw [e106]
    exact ⟨rfl, N106, y107, (by have q := V106; rw [own_raw0 p3, own_raw1 p3] at q; exact q)⟩
set_option maxRecDepth 65536 in
set_option maxHeartbeats 40000000 in
theorem rmTob_2 (l : Launch) (Z : State) (a0 : Array Value) (hw : ∀ d ∈ tables_1, d.before a0 Z = true) (ws : List Jvm.Cond) (a1 : Addr) (ka : ClassId) (x1 : Int32) (x2 : Int32) (h0 : Heap) (n0 : Nat) (X00 : Old Z n0 h0) (SA : pSA Z) (SH : pSH Z) (SL : pSL Z) (V_a : Arv Z h0 a1 ka .char (2 : Int32) [(.int x1), (.int x2)] (.int (0 : Int32))) :
    MetFree l mn_25 (head1 (Jvm.Cond.code mn_25 jdk_52_method_14_code 5 (some (.array .byte)) :: ws) ro_7) (fun a U => a = #[(.ref a1), (.int (0 : Int32)), (.int (2 : Int32))] ∧ Z.Warmed39 U.vm ∧ U.heap = h0) (fun _ _ _ _ _ => True) (fun _ U o U' => ∃ rv rL, o = .returned rv ∧ QAr Z (4 : Int32) [.int (StrChars.lo8 x1), .int (StrChars.hi8 x1), .int (StrChars.lo8 x2), .int (StrChars.hi8 x2)] h0 n0 rv U'.heap rL ∧ FrameEnd U o U' rL ro_7.cells ro_7.slots) := by
  refine MetFree.of_bodySF (plainFor_of_name pn_20) hisR ?_
  intro p e s m args below meth c s₁ Bd hml0 hP hK
  obtain ⟨rfl, hZ, hh⟩ := hP
  have hx := Bd.exec
  have hby := Bd.bytes
  have hml : c.maxLocals = 5 := hml0
  have hown : s.vm.findClass "java/lang/StringUTF16" = some m.cls := findClass_of_methodNamed Bd.named
  have hnm := (name_of_methodNamed Bd.named Bd.method).1
  have X0 : Stand p l e ro_7 s m #[(.ref a1), (.int (0 : Int32)), (.int (2 : Int32))] below meth c s₁ [] 0 0 := Stand.of_body Bd
  have e0 : s₁.heap = h0 := by rw [← hh, Bd.state]; rfl
  have N0 := Fr.nil n0
  have pre0 : ∀ t, Steps p.tables e below (s₁.setTop (mkF m 0 #[.val (.ref a1), .val (.int (0 : Int32)), .val (.int (2 : Int32)), .unset, .unset] [])) t → Steps p.tables e below (s₁.setTop (entryFrame m #[(.ref a1), (.int (0 : Int32)), (.int (2 : Int32))] 5)) t := fun t k => castTop (ef_20 m a1 (0 : Int32) (2 : Int32)) k
  have lz101_a1 := V_a.lt
  obtain ⟨_, _, ⟨T101, L101, k101, n101⟩, -, X101, ⟨Lc101, hQ101, l101, y101, z101⟩, st101⟩ := Jvm.LawKit.callS X0 hx (y := mn_22) hown (mvT hZ (tw hw 89 rfl)) (mvT hZ (tw hw 90 rfl)) (mvT hZ (tw hw 27 rfl)) (mvT hZ (tw hw 91 rfl)) (by decide) (backOf (W := 0) (rmNBF_2 l Z a0 hw []  h0 n0 X00 ) hZ (tw hw 91 rfl) (tw hw 27 rfl) (by decide) (by decide)) (g := (mkF m 1 #[vr a1, vi 0, vi 2, .unset, .unset] [wi 2])) rfl (by rw [hml]; rfl) (argsL := [wi 2]) (rest := []) (lenOf pd_I_AB rfl) rfl (Nat.le_refl _) (hb hby d20_1) (fun _ _ => ⟨rfl, e0, (by decide : 0 + 1 ≤ _), (by decide : 0 + 4 ≤ _)⟩)
  dsimp only [Pt.U, Pt.locs, Pt.cells, Pt.slots] at X101 l101 y101 z101 st101 hQ101
  subst l101 y101 z101
  obtain ⟨ur101, uq101, rfl, N101q, Kc101, ug101, us101, uV101⟩ := hQ101
  have N101 := Fr.app N0 N101q
  have lt_a1_ur101 : a1 < ur101 := Nat.lt_of_lt_of_le lz101_a1 us101
  have sz_ur101 : h0.size ≤ ur101 := Nat.le_trans (Keep.refl h0 []).1 us101
  have y102 := (V_a.keep Kc101 own_nm0)
  obtain ⟨cl103, Ar103, q103, S103, M103, H103, G103⟩ := id y102
  have hat104 : cl103.slots[((0 : Int32)).toNatClampNeg]? = some (.int x1) := by rw [show ((0 : Int32)).toNatClampNeg = 0 from by decide]; exact H103 0 (by rw [S103]; decide)
  have y105 := ((Keep.refl h0 []).trans Kc101 all0)
  have y106 := (X00.keep Kc101 all0)
  obtain ⟨_, _, ⟨T107, L107, k107, n107⟩, -, X107, ⟨Lc107, hQ107, l107, y107, z107⟩, st107⟩ := Jvm.LawKit.callS X101 hx (y := mn_24) hown (mvT hZ (tw hw 96 rfl)) (mvT hZ (tw hw 97 rfl)) (mvT hZ (tw hw 27 rfl)) (mvT hZ (tw hw 98 rfl)) (by decide) (backOf (W := 0) (rmPut_2_0 l Z a0 hw [] ur101 x1 uq101 T101.heap n0 y106 SA SH SL uV101 ug101) hZ (tw hw 98 rfl) (tw hw 27 rfl) (by decide) (by decide)) (g := (mkF m 20 #[vr a1, vi 0, vi 2, vr ur101, vi 0] [wi x1, wi 0, wr ur101])) rfl (by rw [hml]; rfl) (argsL := [wr ur101, wi 0, wi x1]) (rest := []) (lenOf pd_ABII_V rfl) rfl (Nat.le_refl _) (hb hby d20_20) (fun _ _ => ⟨rfl, rfl, (by decide : 1 + 0 ≤ _), (by decide : 4 + 0 ≤ _)⟩)
  dsimp only [Pt.U, Pt.locs, Pt.cells, Pt.slots] at X107 l107 y107 z107 st107 hQ107
  subst l107 y107 z107
  obtain ⟨rfl, N107q, Kc107, uV107⟩ := hQ107
  have N107 := Fr.app N101 N107q
  have y108 := (y102.keep Kc107 (own_nmc (Nat.ne_of_lt lt_a1_ur101) own_nm0))
  obtain ⟨cl109, Ar109, q109, S109, M109, H109, G109⟩ := id y108
  have hat110 : cl109.slots[((1 : Int32)).toNatClampNeg]? = some (.int x2) := by rw [show ((1 : Int32)).toNatClampNeg = 1 from by decide]; exact H109 1 (by rw [S109]; decide)
  have y111 := (y105.trans Kc107 (allS (Or.inr sz_ur101) all0))
  have y112 := (y106.keep Kc107 (allS ug101 all0))
  obtain ⟨_, _, ⟨T113, L113, k113, n113⟩, -, X113, ⟨Lc113, hQ113, l113, y113, z113⟩, st113⟩ := Jvm.LawKit.callS X107 hx (y := mn_24) hown (mvT hZ (tw hw 96 rfl)) (mvT hZ (tw hw 97 rfl)) (mvT hZ (tw hw 27 rfl)) (mvT hZ (tw hw 98 rfl)) (by decide) (backOf (W := 0) (rmPut_2_1 l Z a0 hw [] ur101 x2 uq101 x1 T107.heap n0 y112 SA SH SL uV107 ug101) hZ (tw hw 98 rfl) (tw hw 27 rfl) (by decide) (by decide)) (g := (mkF m 20 #[vr a1, vi 1, vi 2, vr ur101, vi 1] [wi x2, wi 1, wr ur101])) rfl (by rw [hml]; rfl) (argsL := [wr ur101, wi 1, wi x2]) (rest := []) (lenOf pd_ABII_V rfl) rfl (Nat.le_refl _) (hb hby d20_20) (fun _ _ => ⟨rfl, rfl, (by decide : 1 + 0 ≤ _), (by decide : 4 + 0 ≤ _)⟩)
  dsimp only [Pt.U, Pt.locs, Pt.cells, Pt.slots] at X113 l113 y113 z113 st113 hQ113
  subst l113 y113 z113
  obtain ⟨rfl, N113q, Kc113, uV113⟩ := hQ113
  have N113 := Fr.app N107 N113q
  have y114 := (y111.trans Kc113 (allS (Or.inr sz_ur101) all0))
  obtain ⟨fs, hr, hrun, hended, hW, hsame⟩ := X113.leave (v := some (.ref ur101)) (fun h => by rw [Bd.returns] at h; cases h)
  refine ⟨_, _, pre0 _ ?_, hrun, hended, _, _, rfl, ?_, ⟨_, rfl⟩, hW, hsame.mono (by decide) (by decide)⟩
  · show Go p e below s₁ (mkF m 0 #[vr a1, vi 0, vi 2, .unset, .unset] []) _
    refine XS.iloadN X0.here hx rfl (hb hby d20_0) rfl ?_
    show Go p e below s₁ (mkF m 1 #[vr a1, vi 0, vi 2, .unset, .unset] [wi 2]) _
    refine st101 _ ?_
    show Go p e below T101 (mkF m 4 #[vr a1, vi 0, vi 2, .unset, .unset] [wr ur101]) _
    refine XS.astoreN X101.here hx rfl (hb hby d20_4) rfl rfl (l' := #[.val (.ref a1), .val (.int (0 : Int32)), .val (.int (2 : Int32)), .val (.ref ur101), .unset]) rfl ?_
    show Go p e below T101 (mkF m 5 #[vr a1, vi 0, vi 2, vr ur101, .unset] []) _
    refine XS.iconst X101.here hx rfl (hb hby d20_5) ?_
    show Go p e below T101 (mkF m 6 #[vr a1, vi 0, vi 2, vr ur101, .unset] [wi 0]) _
    refine XS.istore X101.here hx rfl (hb hby d20_6) rfl (l' := #[.val (.ref a1), .val (.int (0 : Int32)), .val (.int (2 : Int32)), .val (.ref ur101), .val (.int (0 : Int32))]) rfl ?_
    show Go p e below T101 (mkF m 8 #[vr a1, vi 0, vi 2, vr ur101, vi 0] []) _
    refine XS.iload X101.here hx rfl (hb hby d20_8) rfl ?_
    show Go p e below T101 (mkF m 10 #[vr a1, vi 0, vi 2, vr ur101, vi 0] [wi 0]) _
    refine XS.iloadN X101.here hx rfl (hb hby d20_10) rfl ?_
    show Go p e below T101 (mkF m 11 #[vr a1, vi 0, vi 2, vr ur101, vi 0] [wi 2, wi 0]) _
    refine XS.icmpNo X101.here hx rfl (hb hby d20_11) rfl (tlt (by decide : (0 : Int32) < (2 : Int32))).2.1 ?_
    show Go p e below T101 (mkF m 14 #[vr a1, vi 0, vi 2, vr ur101, vi 0] []) _
    refine XS.aloadN X101.here hx rfl (hb hby d20_14) rfl rfl ?_
    show Go p e below T101 (mkF m 15 #[vr a1, vi 0, vi 2, vr ur101, vi 0] [wr ur101]) _
    refine XS.iload X101.here hx rfl (hb hby d20_15) rfl ?_
    show Go p e below T101 (mkF m 17 #[vr a1, vi 0, vi 2, vr ur101, vi 0] [wi 0, wr ur101]) _
    refine XS.aloadN X101.here hx rfl (hb hby d20_17) rfl rfl ?_
    show Go p e below T101 (mkF m 18 #[vr a1, vi 0, vi 2, vr ur101, vi 0] [wr a1, wi 0, wr ur101]) _
    refine XS.iloadN X101.here hx rfl (hb hby d20_18) rfl ?_
    show Go p e below T101 (mkF m 19 #[vr a1, vi 0, vi 2, vr ur101, vi 0] [wi 0, wr a1, wi 0, wr ur101]) _
    refine X101.caload hx (j := (0 : Int32)) (v := (.int x1)) Ar103.1 (State.isArrayOf_alike hZ.alike Ar103.2.1) Ar103.2.2 (inb_of S103 ⟨by decide, by decide⟩) hat104 (g := (mkF m 19 #[vr a1, vi 0, vi 2, vr ur101, vi 0] [wi 0, wr a1, wi 0, wr ur101])) rfl rfl (hb hby d20_19) _ ?_
    show Go p e below T101 (mkF m 20 #[vr a1, vi 0, vi 2, vr ur101, vi 0] [wi x1, wi 0, wr ur101]) _
    refine st107 _ ?_
    show Go p e below T107 (mkF m 23 #[vr a1, vi 0, vi 2, vr ur101, vi 0] []) _
    refine XS.iinc X107.here hx rfl (hb hby d20_23) rfl (l' := #[.val (.ref a1), .val (.int (1 : Int32)), .val (.int (2 : Int32)), .val (.ref ur101), .val (.int (0 : Int32))]) rfl ?_
    show Go p e below T107 (mkF m 26 #[vr a1, vi 1, vi 2, vr ur101, vi 0] []) _
    refine XS.iinc X107.here hx rfl (hb hby d20_26) rfl (l' := #[.val (.ref a1), .val (.int (1 : Int32)), .val (.int (2 : Int32)), .val (.ref ur101), .val (.int (1 : Int32))]) rfl ?_
    show Go p e below T107 (mkF m 29 #[vr a1, vi 1, vi 2, vr ur101, vi 1] []) _
    refine XS.goto X107.here hx rfl (pc0 := 29) (pc' := 8) rfl (hb hby d20_29) (by decide) (by decide) ?_
    show Go p e below T107 (mkF m 8 #[vr a1, vi 1, vi 2, vr ur101, vi 1] []) _
    refine XS.iload X107.here hx rfl (hb hby d20_8) rfl ?_
    show Go p e below T107 (mkF m 10 #[vr a1, vi 1, vi 2, vr ur101, vi 1] [wi 1]) _
    refine XS.iloadN X107.here hx rfl (hb hby d20_10) rfl ?_
    show Go p e below T107 (mkF m 11 #[vr a1, vi 1, vi 2, vr ur101, vi 1] [wi 2, wi 1]) _
    refine XS.icmpNo X107.here hx rfl (hb hby d20_11) rfl (tlt (by decide : (1 : Int32) < (2 : Int32))).2.1 ?_
    show Go p e below T107 (mkF m 14 #[vr a1, vi 1, vi 2, vr ur101, vi 1] []) _
    refine XS.aloadN X107.here hx rfl (hb hby d20_14) rfl rfl ?_
    show Go p e below T107 (mkF m 15 #[vr a1, vi 1, vi 2, vr ur101, vi 1] [wr ur101]) _
    refine XS.iload X107.here hx rfl (hb hby d20_15) rfl ?_
    show Go p e below T107 (mkF m 17 #[vr a1, vi 1, vi 2, vr ur101, vi 1] [wi 1, wr ur101]) _
    refine XS.aloadN X107.here hx rfl (hb hby d20_17) rfl rfl ?_
    show Go p e below T107 (mkF m 18 #[vr a1, vi 1, vi 2, vr ur101, vi 1] [wr a1, wi 1, wr ur101]) _
    refine XS.iloadN X107.here hx rfl (hb hby d20_18) rfl ?_
    show Go p e below T107 (mkF m 19 #[vr a1, vi 1, vi 2, vr ur101, vi 1] [wi 1, wr a1, wi 1, wr ur101]) _
    refine X107.caload hx (j := (1 : Int32)) (v := (.int x2)) Ar109.1 (State.isArrayOf_alike hZ.alike Ar109.2.1) Ar109.2.2 (inb_of S109 ⟨by decide, by decide⟩) hat110 (g := (mkF m 19 #[vr a1, vi 1, vi 2, vr ur101, vi 1] [wi 1, wr a1, wi 1, wr ur101])) rfl rfl (hb hby d20_19) _ ?_
    show Go p e below T107 (mkF m 20 #[vr a1, vi 1, vi 2, vr ur101, vi 1] [wi x2, wi 1, wr ur101]) _
    refine st113 _ ?_
    show Go p e below T113 (mkF m 23 #[vr a1, vi 1, vi 2, vr ur101, vi 1] []) _
    refine XS.iinc X113.here hx rfl (hb hby d20_23) rfl (l' := #[.val (.ref a1), .val (.int (2 : Int32)), .val (.int (2 : Int32)), .val (.ref ur101), .val (.int (1 : Int32))]) rfl ?_
    show Go p e below T113 (mkF m 26 #[vr a1, vi 2, vi 2, vr ur101, vi 1] []) _
    refine XS.iinc X113.here hx rfl (hb hby d20_26) rfl (l' := #[.val (.ref a1), .val (.int (2 : Int32)), .val (.int (2 : Int32)), .val (.ref ur101), .val (.int (2 : Int32))]) rfl ?_
    show Go p e below T113 (mkF m 29 #[vr a1, vi 2, vi 2, vr ur101, vi 2] []) _
    refine XS.goto X113.here hx rfl (pc0 := 29) (pc' := 8) rfl (hb hby d20_29) (by decide) (by decide) ?_
    show Go p e below T113 (mkF m 8 #[vr a1, vi 2, vi 2, vr ur101, vi 2] []) _
    refine XS.iload X113.here hx rfl (hb hby d20_8) rfl ?_
    show Go p e below T113 (mkF m 10 #[vr a1, vi 2, vi 2, vr ur101, vi 2] [wi 2]) _
    refine XS.iloadN X113.here hx rfl (hb hby d20_10) rfl ?_
    show Go p e below T113 (mkF m 11 #[vr a1, vi 2, vi 2, vr ur101, vi 2] [wi 2, wi 2]) _
    refine XS.icmpYes X113.here hx rfl (pc0 := 11) (pc' := 32) rfl (hb hby d20_11) rfl (flt (by decide : ¬ ((2 : Int32) < (2 : Int32)))).2.1 (by decide) (by decide) ?_
    show Go p e below T113 (mkF m 32 #[vr a1, vi 2, vi 2, vr ur101, vi 2] []) _
    refine XS.aloadN X113.here hx rfl (hb hby d20_32) rfl rfl ?_
    show Go p e below T113 (mkF m 33 #[vr a1, vi 2, vi 2, vr ur101, vi 2] [wr ur101]) _
    jvm_step X113.here [X113.here.top, hx, (hb hby d20_33), X113.method', Bd.returns, Value.isRef, FieldType.isReference]
    first | (intro acts; rw [hr _ acts rfl rfl rfl]) | rw [hr _ _ rfl rfl rfl]
    exact Steps.refl _
  · show QAr Z (4 : Int32) [.int (StrChars.lo8 x1), .int (StrChars.hi8 x1), .int (StrChars.lo8 x2), .int (StrChars.hi8 x2)] h0 n0 _ T113.heap _
    exact ⟨_, _, rfl, N113, y114, ug101, sz_ur101, uV113⟩
set_option maxRecDepth 65536 in
set_option maxHeartbeats 40000000 in
theorem rmC5_2_1 (l : Launch) (Z : State) (a0 : Array Value) (hw : ∀ d ∈ tables_1, d.before a0 Z = true) (ws : List Jvm.Cond) (a1 : Addr) (a3 : Addr) (ka : ClassId) (kd : ClassId) (x1 : Int32) (x2 : Int32) (h0 : Heap) (n0 : Nat) (X00 : Old Z n0 h0) (V_a : Arv Z h0 a1 ka .char (2 : Int32) [(.int x1), (.int x2)] (.int (0 : Int32))) (V_d : Arv Z h0 a3 kd .byte (2 : Int32) [.int (0 : Int32), .int (0 : Int32)] (.int (0 : Int32))) (g_a3 : n0 ≤ a3) (ne : a1 ≠ a3) (hl0 : ¬ ((255 : Int32) < x1)) (hg : (255 : Int32) < x2) :
    MetFree l mn_19 (head1 (Jvm.Cond.code mn_19 jdk_52_method_21_code 7 (some .int) :: ws) ro_0) (fun a U => a = #[(.ref a1), (.int (0 : Int32)), (.ref a3), (.int (0 : Int32)), (.int (2 : Int32))] ∧ Z.Warmed39 U.vm ∧ U.heap = h0) (fun _ _ _ _ _ => True) (fun _ U o U' => ∃ rv rL, o = .returned rv ∧ QK a3 (some (.int (1 : Int32))) h0 n0 rv U'.heap rL ∧ FrameEnd U o U' rL ro_0.cells ro_0.slots) := by
  refine MetFree.of_bodySF (plainFor_of_name pn_8) hisR ?_
  intro p e s m args below meth c s₁ Bd hml0 hP hK
  obtain ⟨rfl, hZ, hh⟩ := hP
  have hx := Bd.exec
  have hby := Bd.bytes
  have hml : c.maxLocals = 7 := hml0
  have hown : s.vm.findClass "java/lang/StringUTF16" = some m.cls := findClass_of_methodNamed Bd.named
  have hnm := (name_of_methodNamed Bd.named Bd.method).1
  have X0 : Stand p l e ro_0 s m #[(.ref a1), (.int (0 : Int32)), (.ref a3), (.int (0 : Int32)), (.int (2 : Int32))] below meth c s₁ [] 0 0 := Stand.of_body Bd
  have e0 : s₁.heap = h0 := by rw [← hh, Bd.state]; rfl
  have N0 := Fr.nil n0
  have pre0 : ∀ t, Steps p.tables e below (s₁.setTop (mkF m 0 #[.val (.ref a1), .val (.int (0 : Int32)), .val (.ref a3), .val (.int (0 : Int32)), .val (.int (2 : Int32)), .unset, .unset] [])) t → Steps p.tables e below (s₁.setTop (entryFrame m #[(.ref a1), (.int (0 : Int32)), (.ref a3), (.int (0 : Int32)), (.int (2 : Int32))] 7)) t := fun t k => castTop (ef_8 m a1 (0 : Int32) a3 (0 : Int32) (2 : Int32)) k
  obtain ⟨cl101, Ar101, q101, S101, M101, H101, G101⟩ := id V_a
  have hat102 : cl101.slots[((0 : Int32)).toNatClampNeg]? = some (.int x1) := by rw [show ((0 : Int32)).toNatClampNeg = 0 from by decide]; exact H101 0 (by rw [S101]; decide)
  have hc20 : ¬ ((255 : Int32) < x1) := hl0
  obtain ⟨cl103, Ar103, q103, S103, M103, H103, G103⟩ := id V_d
  obtain ⟨T103, h103, X103, e103, W103, st103⟩ := stB X0 hx hZ e0 Ar103 (j := (0 : Int32)) (inb_of S103 ⟨by decide, by decide⟩) (g := (mkF m 31 #[vr a1, vi 0, vr a3, vi 0, vi 2, vi 0, vi x1] [wi (x1.toInt8.toInt32), wi 0, wr a3])) rfl rfl (hb hby d8_31)
  have V103 : Arv Z h103 a3 kd .byte (2 : Int32) [(.int (nar .byte (x1.toInt8.toInt32))), (.int (0 : Int32))] (.int (0 : Int32)) := Arv.set Ar103 q103 S103 M103 H103 G103 (fits_nar_byte _) W103 0 rfl (Nat.le_of_ble_eq_true rfl)
  have N103 := Fr.snoc X103 N0 g_a3
  have y104 := (V_a.other W103 ne)
  obtain ⟨cl105, Ar105, q105, S105, M105, H105, G105⟩ := id y104
  have hat106 : cl105.slots[((1 : Int32)).toNatClampNeg]? = some (.int x2) := by rw [show ((1 : Int32)).toNatClampNeg = 1 from by decide]; exact H105 1 (by rw [S105]; decide)
  have hc20_1 : (255 : Int32) < x2 := hg
  have y107 := ((Keep.refl h0 [a3]).wr W103 (Or.inl (List.mem_of_getElem? (i := 0) rfl)))
  obtain ⟨fs, hr, hrun, hended, hW, hsame⟩ := X103.leave (v := some (.int (1 : Int32))) (fun h => by rw [Bd.returns] at h; cases h)
  refine ⟨_, _, pre0 _ ?_, hrun, hended, _, _, rfl, ?_, ⟨_, rfl⟩, hW, hsame.mono (by decide) (by decide)⟩
  · show Go p e below s₁ (mkF m 0 #[vr a1, vi 0, vr a3, vi 0, vi 2, .unset, .unset] []) _
    refine XS.iconst X0.here hx rfl (hb hby d8_0) ?_
    show Go p e below s₁ (mkF m 1 #[vr a1, vi 0, vr a3, vi 0, vi 2, .unset, .unset] [wi 0]) _
    refine XS.istore X0.here hx rfl (hb hby d8_1) rfl (l' := #[.val (.ref a1), .val (.int (0 : Int32)), .val (.ref a3), .val (.int (0 : Int32)), .val (.int (2 : Int32)), .val (.int (0 : Int32)), .unset]) rfl ?_
    show Go p e below s₁ (mkF m 3 #[vr a1, vi 0, vr a3, vi 0, vi 2, vi 0, .unset] []) _
    refine XS.iload X0.here hx rfl (hb hby d8_3) rfl ?_
    show Go p e below s₁ (mkF m 5 #[vr a1, vi 0, vr a3, vi 0, vi 2, vi 0, .unset] [wi 0]) _
    refine XS.iload X0.here hx rfl (hb hby d8_5) rfl ?_
    show Go p e below s₁ (mkF m 7 #[vr a1, vi 0, vr a3, vi 0, vi 2, vi 0, .unset] [wi 2, wi 0]) _
    refine XS.icmpNo X0.here hx rfl (hb hby d8_7) rfl (tlt (by decide : (0 : Int32) < (2 : Int32))).2.1 ?_
    show Go p e below s₁ (mkF m 10 #[vr a1, vi 0, vr a3, vi 0, vi 2, vi 0, .unset] []) _
    refine XS.aloadN X0.here hx rfl (hb hby d8_10) rfl rfl ?_
    show Go p e below s₁ (mkF m 11 #[vr a1, vi 0, vr a3, vi 0, vi 2, vi 0, .unset] [wr a1]) _
    refine XS.iloadN X0.here hx rfl (hb hby d8_11) rfl ?_
    show Go p e below s₁ (mkF m 12 #[vr a1, vi 0, vr a3, vi 0, vi 2, vi 0, .unset] [wi 0, wr a1]) _
    refine X0.caload hx (j := (0 : Int32)) (v := (.int x1)) (by rw [e0]; exact Ar101.1) (State.isArrayOf_alike hZ.alike Ar101.2.1) Ar101.2.2 (inb_of S101 ⟨by decide, by decide⟩) hat102 (g := (mkF m 12 #[vr a1, vi 0, vr a3, vi 0, vi 2, vi 0, .unset] [wi 0, wr a1])) rfl rfl (hb hby d8_12) _ ?_
    show Go p e below s₁ (mkF m 13 #[vr a1, vi 0, vr a3, vi 0, vi 2, vi 0, .unset] [wi x1]) _
    refine XS.istore X0.here hx rfl (hb hby d8_13) rfl (l' := #[.val (.ref a1), .val (.int (0 : Int32)), .val (.ref a3), .val (.int (0 : Int32)), .val (.int (2 : Int32)), .val (.int (0 : Int32)), .val (.int x1)]) rfl ?_
    show Go p e below s₁ (mkF m 15 #[vr a1, vi 0, vr a3, vi 0, vi 2, vi 0, vi x1] []) _
    refine XS.iload X0.here hx rfl (hb hby d8_15) rfl ?_
    show Go p e below s₁ (mkF m 17 #[vr a1, vi 0, vr a3, vi 0, vi 2, vi 0, vi x1] [wi x1]) _
    refine XS.sipush X0.here hx rfl (hb hby d8_17) ?_
    show Go p e below s₁ (mkF m 20 #[vr a1, vi 0, vr a3, vi 0, vi 2, vi 0, vi x1] [wi 255, wi x1]) _
    refine XS.icmpYes X0.here hx rfl (pc0 := 20) (pc' := 26) rfl (hb hby d8_20) rfl (flt hc20).2.2.2 (by decide) (by decide) ?_
    show Go p e below s₁ (mkF m 26 #[vr a1, vi 0, vr a3, vi 0, vi 2, vi 0, vi x1] []) _
    refine XS.aloadN X0.here hx rfl (hb hby d8_26) rfl rfl ?_
    show Go p e below s₁ (mkF m 27 #[vr a1, vi 0, vr a3, vi 0, vi 2, vi 0, vi x1] [wr a3]) _
    refine XS.iloadN X0.here hx rfl (hb hby d8_27) rfl ?_
    show Go p e below s₁ (mkF m 28 #[vr a1, vi 0, vr a3, vi 0, vi 2, vi 0, vi x1] [wi 0, wr a3]) _
    refine XS.iload X0.here hx rfl (hb hby d8_28) rfl ?_
    show Go p e below s₁ (mkF m 30 #[vr a1, vi 0, vr a3, vi 0, vi 2, vi 0, vi x1] [wi x1, wi 0, wr a3]) _
    refine XS.i2b X0.here hx rfl (hb hby d8_30) rfl ?_
    show Go p e below s₁ (mkF m 31 #[vr a1, vi 0, vr a3, vi 0, vi 2, vi 0, vi x1] [wi (x1.toInt8.toInt32), wi 0, wr a3]) _
    refine st103 _ ?_
    show Go p e below T103 (mkF m 32 #[vr a1, vi 0, vr a3, vi 0, vi 2, vi 0, vi x1] []) _
    refine XS.iinc X103.here hx rfl (hb hby d8_32) rfl (l' := #[.val (.ref a1), .val (.int (1 : Int32)), .val (.ref a3), .val (.int (0 : Int32)), .val (.int (2 : Int32)), .val (.int (0 : Int32)), .val (.int x1)]) rfl ?_
    show Go p e below T103 (mkF m 35 #[vr a1, vi 1, vr a3, vi 0, vi 2, vi 0, vi x1] []) _
    refine XS.iinc X103.here hx rfl (hb hby d8_35) rfl (l' := #[.val (.ref a1), .val (.int (1 : Int32)), .val (.ref a3), .val (.int (1 : Int32)), .val (.int (2 : Int32)), .val (.int (0 : Int32)), .val (.int x1)]) rfl ?_
    show Go p e below T103 (mkF m 38 #[vr a1, vi 1, vr a3, vi 1, vi 2, vi 0, vi x1] []) _
    refine XS.iinc X103.here hx rfl (hb hby d8_38) rfl (l' := #[.val (.ref a1), .val (.int (1 : Int32)), .val (.ref a3), .val (.int (1 : Int32)), .val (.int (2 : Int32)), .val (.int (1 : Int32)), .val (.int x1)]) rfl ?_
    show Go p e below T103 (mkF m 41 #[vr a1, vi 1, vr a3, vi 1, vi 2, vi 1, vi x1] []) _
    refine XS.goto X103.here hx rfl (pc0 := 41) (pc' := 3) rfl (hb hby d8_41) (by decide) (by decide) ?_
    show Go p e below T103 (mkF m 3 #[vr a1, vi 1, vr a3, vi 1, vi 2, vi 1, vi x1] []) _
    refine XS.iload X103.here hx rfl (hb hby d8_3) rfl ?_
    show Go p e below T103 (mkF m 5 #[vr a1, vi 1, vr a3, vi 1, vi 2, vi 1, vi x1] [wi 1]) _
    refine XS.iload X103.here hx rfl (hb hby d8_5) rfl ?_
    show Go p e below T103 (mkF m 7 #[vr a1, vi 1, vr a3, vi 1, vi 2, vi 1, vi x1] [wi 2, wi 1]) _
    refine XS.icmpNo X103.here hx rfl (hb hby d8_7) rfl (tlt (by decide : (1 : Int32) < (2 : Int32))).2.1 ?_
    show Go p e below T103 (mkF m 10 #[vr a1, vi 1, vr a3, vi 1, vi 2, vi 1, vi x1] []) _
    refine XS.aloadN X103.here hx rfl (hb hby d8_10) rfl rfl ?_
    show Go p e below T103 (mkF m 11 #[vr a1, vi 1, vr a3, vi 1, vi 2, vi 1, vi x1] [wr a1]) _
    refine XS.iloadN X103.here hx rfl (hb hby d8_11) rfl ?_
    show Go p e below T103 (mkF m 12 #[vr a1, vi 1, vr a3, vi 1, vi 2, vi 1, vi x1] [wi 1, wr a1]) _
    refine X103.caload hx (j := (1 : Int32)) (v := (.int x2)) (by rw [e103]; exact Ar105.1) (State.isArrayOf_alike hZ.alike Ar105.2.1) Ar105.2.2 (inb_of S105 ⟨by decide, by decide⟩) hat106 (g := (mkF m 12 #[vr a1, vi 1, vr a3, vi 1, vi 2, vi 1, vi x1] [wi 1, wr a1])) rfl rfl (hb hby d8_12) _ ?_
    show Go p e below T103 (mkF m 13 #[vr a1, vi 1, vr a3, vi 1, vi 2, vi 1, vi x1] [wi x2]) _
    refine XS.istore X103.here hx rfl (hb hby d8_13) rfl (l' := #[.val (.ref a1), .val (.int (1 : Int32)), .val (.ref a3), .val (.int (1 : Int32)), .val (.int (2 : Int32)), .val (.int (1 : Int32)), .val (.int x2)]) rfl ?_
    show Go p e below T103 (mkF m 15 #[vr a1, vi 1, vr a3, vi 1, vi 2, vi 1, vi x2] []) _
    refine XS.iload X103.here hx rfl (hb hby d8_15) rfl ?_
    show Go p e below T103 (mkF m 17 #[vr a1, vi 1, vr a3, vi 1, vi 2, vi 1, vi x2] [wi x2]) _
    refine XS.sipush X103.here hx rfl (hb hby d8_17) ?_
    show Go p e below T103 (mkF m 20 #[vr a1, vi 1, vr a3, vi 1, vi 2, vi 1, vi x2] [wi 255, wi x2]) _
    refine XS.icmpNo X103.here hx rfl (hb hby d8_20) rfl (tlt hc20_1).2.2.2 ?_
    show Go p e below T103 (mkF m 23 #[vr a1, vi 1, vr a3, vi 1, vi 2, vi 1, vi x2] []) _
    refine XS.iload X103.here hx rfl (hb hby d8_23) rfl ?_
    show Go p e below T103 (mkF m 25 #[vr a1, vi 1, vr a3, vi 1, vi 2, vi 1, vi x2] [wi 1]) _
    exact retI X103 hx Bd.returns (hb hby d8_25) hr
  · show QK a3 (some (.int (1 : Int32))) h0 n0 _ T103.heap _
    rw [e103]
    exact ⟨rfl, N103, y107⟩
set_option maxRecDepth 65536 in
set_option maxHeartbeats 40000000 in
theorem rmC3_2_n (l : Launch) (Z : State) (a0 : Array Value) (hw : ∀ d ∈ tables_1, d.before a0 Z = true) (ws : List Jvm.Cond) (a1 : Addr) (ka : ClassId) (x1 : Int32) (x2 : Int32) (h0 : Heap) (n0 : Nat) (X00 : Old Z n0 h0) (SA : pSA Z) (SH : pSH Z) (SL : pSL Z) (V_a : Arv Z h0 a1 ka .char (2 : Int32) [(.int x1), (.int x2)] (.int (0 : Int32))) (hl0 : ¬ ((255 : Int32) < x1)) (hl1 : ¬ ((255 : Int32) < x2)) :
    MetFree l mn_18 (head1 (Jvm.Cond.code mn_18 jdk_52_method_16_code 6 (some (.array .byte)) :: ws) ro_8) (fun a U => a = #[(.ref a1), (.int (0 : Int32)), (.int (2 : Int32))] ∧ Z.Warmed39 U.vm ∧ U.heap = h0) (fun _ _ _ _ _ => True) (fun _ U o U' => ∃ rv rL, o = .returned rv ∧ QC3 Z [x1, x2] h0 n0 rv U'.heap rL ∧ FrameEnd U o U' rL ro_8.cells ro_8.slots) := by
  refine MetFree.of_bodySF (plainFor_of_name pn_7) hisR ?_
  intro p e s m args below meth c s₁ Bd hml0 hP hK
  obtain ⟨rfl, hZ, hh⟩ := hP
  have hx := Bd.exec
  have hby := Bd.bytes
  have hml : c.maxLocals = 6 := hml0
  have hown : s.vm.findClass "java/lang/StringUTF16" = some m.cls := findClass_of_methodNamed Bd.named
  have hnm := (name_of_methodNamed Bd.named Bd.method).1
  have X0 : Stand p l e ro_8 s m #[(.ref a1), (.int (0 : Int32)), (.int (2 : Int32))] below meth c s₁ [] 0 0 := Stand.of_body Bd
  have e0 : s₁.heap = h0 := by rw [← hh, Bd.state]; rfl
  have N0 := Fr.nil n0
  have pre0 : ∀ t, Steps p.tables e below (s₁.setTop (mkF m 0 #[.val (.ref a1), .val (.int (0 : Int32)), .val (.int (2 : Int32)), .unset, .unset, .unset] [])) t → Steps p.tables e below (s₁.setTop (entryFrame m #[(.ref a1), (.int (0 : Int32)), (.int (2 : Int32))] 6)) t := fun t k => castTop (ef_7 m a1 (0 : Int32) (2 : Int32)) k
  have lz101_a1 := V_a.lt
  obtain ⟨T101, h101, k101, X101, e101, E101, A101, st101⟩ := newP X0 hx hZ (tw hw 29 rfl) e0 (g := (mkF m 1 #[vr a1, vi 0, vi 2, .unset, .unset, .unset] [wi 2])) rfl (hb hby d7_1) rfl (by decide) (cap := 2) (by decide) (by decide) (by decide) (by decide)
  obtain ⟨b101, g101⟩ : ∃ z, z = h0.size := ⟨_, rfl⟩
  rw [← g101] at A101 st101
  have g_b101 : n0 ≤ b101 := Nat.le_trans (own_le X00) (Nat.le_of_eq g101.symm)
  have lt_a1_b101 : a1 < b101 := Nat.lt_of_lt_of_le lz101_a1 (Nat.le_of_eq g101.symm)
  have sz_b101 : h0.size ≤ b101 := Nat.le_trans (Keep.refl h0 []).1 (Nat.le_of_eq g101.symm)
  have V101 : Arv Z h101 b101 k101 .byte (2 : Int32) [(.int (0 : Int32)), (.int (0 : Int32))] (.int (0 : Int32)) := (Arv.new A101 (by decide)).pad (pad_rep [] (.int (0 : Int32)) 2)
  have y102 := (V_a.ext E101)
  have y103 := ((Keep.refl h0 []).ext E101)
  have y104 := (X00.ext E101)
  obtain ⟨_, _, ⟨T105, L105, k105, n105⟩, -, X105, ⟨Lc105, hQ105, l105, y105, z105⟩, st105⟩ := Jvm.LawKit.callS X101 hx (y := mn_19) hown (mvT hZ (tw hw 30 rfl)) (mvT hZ (tw hw 31 rfl)) (mvT hZ (tw hw 27 rfl)) (mvT hZ (tw hw 32 rfl)) (by decide) (backOf (W := 0) (rmC5_2_n l Z a0 hw [] a1 b101 ka k101 x1 x2 h101 n0 y104 y102 V101 g_b101 (Nat.ne_of_lt lt_a1_b101) hl0 hl1) hZ (tw hw 32 rfl) (tw hw 27 rfl) (by decide) (by decide)) (g := (mkF m 9 #[vr a1, vi 0, vi 2, vr b101, .unset, .unset] [wi 2, wi 0, wr b101, wi 0, wr a1])) rfl (by rw [hml]; rfl) (argsL := [wr a1, wi 0, wr b101, wi 0, wi 2]) (rest := []) (lenOf pd_ACIABII_I rfl) rfl (Nat.le_refl _) (hb hby d7_9) (fun _ _ => ⟨rfl, e101, (by decide : 1 + 0 ≤ _), (by decide : 2 + 0 ≤ _)⟩)
  dsimp only [Pt.U, Pt.locs, Pt.cells, Pt.slots] at X105 l105 y105 z105 st105 hQ105
  subst l105 y105 z105
  obtain ⟨rfl, N105q, Kc105, uV105⟩ := hQ105
  have N105 := Fr.app N0 N105q
  have y106 := (y103.trans Kc105 (allS (Or.inr sz_b101) all0))
  obtain ⟨fs, hr, hrun, hended, hW, hsame⟩ := X105.leave (v := some (.ref b101)) (fun h => by rw [Bd.returns] at h; cases h)
  refine ⟨_, _, pre0 _ ?_, hrun, hended, _, _, rfl, ?_, ⟨_, rfl⟩, hW, hsame.mono (by decide) (by decide)⟩
  · show Go p e below s₁ (mkF m 0 #[vr a1, vi 0, vi 2, .unset, .unset, .unset] []) _
    refine XS.iloadN X0.here hx rfl (hb hby d7_0) rfl ?_
    show Go p e below s₁ (mkF m 1 #[vr a1, vi 0, vi 2, .unset, .unset, .unset] [wi 2]) _
    refine st101 _ ?_
    show Go p e below T101 (mkF m 3 #[vr a1, vi 0, vi 2, .unset, .unset, .unset] [wr b101]) _
    refine XS.astoreN X101.here hx rfl (hb hby d7_3) rfl rfl (l' := #[.val (.ref a1), .val (.int (0 : Int32)), .val (.int (2 : Int32)), .val (.ref b101), .unset, .unset]) rfl ?_
    show Go p e below T101 (mkF m 4 #[vr a1, vi 0, vi 2, vr b101, .unset, .unset] []) _
    refine XS.aloadN X101.here hx rfl (hb hby d7_4) rfl rfl ?_
    show Go p e below T101 (mkF m 5 #[vr a1, vi 0, vi 2, vr b101, .unset, .unset] [wr a1]) _
    refine XS.iloadN X101.here hx rfl (hb hby d7_5) rfl ?_
    show Go p e below T101 (mkF m 6 #[vr a1, vi 0, vi 2, vr b101, .unset, .unset] [wi 0, wr a1]) _
    refine XS.aloadN X101.here hx rfl (hb hby d7_6) rfl rfl ?_
    show Go p e below T101 (mkF m 7 #[vr a1, vi 0, vi 2, vr b101, .unset, .unset] [wr b101, wi 0, wr a1]) _
    refine XS.iconst X101.here hx rfl (hb hby d7_7) ?_
    show Go p e below T101 (mkF m 8 #[vr a1, vi 0, vi 2, vr b101, .unset, .unset] [wi 0, wr b101, wi 0, wr a1]) _
    refine XS.iloadN X101.here hx rfl (hb hby d7_8) rfl ?_
    show Go p e below T101 (mkF m 9 #[vr a1, vi 0, vi 2, vr b101, .unset, .unset] [wi 2, wi 0, wr b101, wi 0, wr a1]) _
    refine st105 _ ?_
    show Go p e below T105 (mkF m 12 #[vr a1, vi 0, vi 2, vr b101, .unset, .unset] [wi 2]) _
    refine XS.istore X105.here hx rfl (hb hby d7_12) rfl (l' := #[.val (.ref a1), .val (.int (0 : Int32)), .val (.int (2 : Int32)), .val (.ref b101), .val (.int (2 : Int32)), .unset]) rfl ?_
    show Go p e below T105 (mkF m 14 #[vr a1, vi 0, vi 2, vr b101, vi 2, .unset] []) _
    refine XS.iload X105.here hx rfl (hb hby d7_14) rfl ?_
    show Go p e below T105 (mkF m 16 #[vr a1, vi 0, vi 2, vr b101, vi 2, .unset] [wi 2]) _
    refine XS.iloadN X105.here hx rfl (hb hby d7_16) rfl ?_
    show Go p e below T105 (mkF m 17 #[vr a1, vi 0, vi 2, vr b101, vi 2, .unset] [wi 2, wi 2]) _
    refine XS.icmpYes X105.here hx rfl (pc0 := 17) (pc' := 57) rfl (hb hby d7_17) rfl (teq (rfl : (2 : Int32) = (2 : Int32))).1 (by decide) (by decide) ?_
    show Go p e below T105 (mkF m 57 #[vr a1, vi 0, vi 2, vr b101, vi 2, .unset] []) _
    refine XS.aloadN X105.here hx rfl (hb hby d7_57) rfl rfl ?_
    show Go p e below T105 (mkF m 58 #[vr a1, vi 0, vi 2, vr b101, vi 2, .unset] [wr b101]) _
    jvm_step X105.here [X105.here.top, hx, (hb hby d7_58), X105.method', Bd.returns, Value.isRef, FieldType.isReference]
    first | (intro acts; rw [hr _ acts rfl rfl rfl]) | rw [hr _ _ rfl rfl rfl]
    exact Steps.refl _
  · show QC3 Z [x1, x2] h0 n0 _ T105.heap _
    exact ⟨_, _, (0 : Int32), (2 : Int32), [.int (StrChars.lo8 x1), .int (StrChars.lo8 x2)], rfl, N105, y106, g_b101, sz_b101, uV105, Or.inl ⟨rfl, rfl, rfl, (own_alli hl0 (own_alli hl1 own_all0))⟩⟩
set_option maxRecDepth 65536 in
set_option maxHeartbeats 40000000 in
theorem rmC3_2_0 (l : Launch) (Z : State) (a0 : Array Value) (hw : ∀ d ∈ tables_1, d.before a0 Z = true) (ws : List Jvm.Cond) (a1 : Addr) (ka : ClassId) (x1 : Int32) (x2 : Int32) (h0 : Heap) (n0 : Nat) (X00 : Old Z n0 h0) (SA : pSA Z) (SH : pSH Z) (SL : pSL Z) (V_a : Arv Z h0 a1 ka .char (2 : Int32) [(.int x1), (.int x2)] (.int (0 : Int32))) (hg : (255 : Int32) < x1) (hbw : ChB x1) :
    MetFree l mn_18 (head1 (Jvm.Cond.code mn_18 jdk_52_method_16_code 6 (some (.array .byte)) :: ws) ro_8) (fun a U => a = #[(.ref a1), (.int (0 : Int32)), (.int (2 : Int32))] ∧ Z.Warmed39 U.vm ∧ U.heap = h0) (fun _ _ _ _ _ => True) (fun _ U o U' => ∃ rv rL, o = .returned rv ∧ QC3 Z [x1, x2] h0 n0 rv U'.heap rL ∧ FrameEnd U o U' rL ro_8.cells ro_8.slots) := by
  refine MetFree.of_bodySF (plainFor_of_name pn_7) hisR ?_
  intro p e s m args below meth c s₁ Bd hml0 hP hK
  obtain ⟨rfl, hZ, hh⟩ := hP
  have hx := Bd.exec
  have hby := Bd.bytes
  have hml : c.maxLocals = 6 := hml0
  have hown : s.vm.findClass "java/lang/StringUTF16" = some m.cls := findClass_of_methodNamed Bd.named
  have hnm := (name_of_methodNamed Bd.named Bd.method).1
  have X0 : Stand p l e ro_8 s m #[(.ref a1), (.int (0 : Int32)), (.int (2 : Int32))] below meth c s₁ [] 0 0 := Stand.of_body Bd
  have e0 : s₁.heap = h0 := by rw [← hh, Bd.state]; rfl
  have N0 := Fr.nil n0
  have pre0 : ∀ t, Steps p.tables e below (s₁.setTop (mkF m 0 #[.val (.ref a1), .val (.int (0 : Int32)), .val (.int (2 : Int32)), .unset, .unset, .unset] [])) t → Steps p.tables e below (s₁.setTop (entryFrame m #[(.ref a1), (.int (0 : Int32)), (.int (2 : Int32))] 6)) t := fun t k => castTop (ef_7 m a1 (0 : Int32) (2 : Int32)) k
  have lz101_a1 := V_a.lt
  obtain ⟨T101, h101, k101, X101, e101, E101, A101, st101⟩ := newP X0 hx hZ (tw hw 29 rfl) e0 (g := (mkF m 1 #[vr a1, vi 0, vi 2, .unset, .unset, .unset] [wi 2])) rfl (hb hby d7_1) rfl (by decide) (cap := 2) (by decide) (by decide) (by decide) (by decide)
  obtain ⟨b101, g101⟩ : ∃ z, z = h0.size := ⟨_, rfl⟩
  rw [← g101] at A101 st101
  have g_b101 : n0 ≤ b101 := Nat.le_trans (own_le X00) (Nat.le_of_eq g101.symm)
  have lt_a1_b101 : a1 < b101 := Nat.lt_of_lt_of_le lz101_a1 (Nat.le_of_eq g101.symm)
  have sz_b101 : h0.size ≤ b101 := Nat.le_trans (Keep.refl h0 []).1 (Nat.le_of_eq g101.symm)
  have V101 : Arv Z h101 b101 k101 .byte (2 : Int32) [(.int (0 : Int32)), (.int (0 : Int32))] (.int (0 : Int32)) := (Arv.new A101 (by decide)).pad (pad_rep [] (.int (0 : Int32)) 2)
  have y102 := (V_a.ext E101)
  have y103 := ((Keep.refl h0 []).ext E101)
  have y104 := (X00.ext E101)
  obtain ⟨_, _, ⟨T105, L105, k105, n105⟩, -, X105, ⟨Lc105, hQ105, l105, y105, z105⟩, st105⟩ := Jvm.LawKit.callS X101 hx (y := mn_19) hown (mvT hZ (tw hw 30 rfl)) (mvT hZ (tw hw 31 rfl)) (mvT hZ (tw hw 27 rfl)) (mvT hZ (tw hw 32 rfl)) (by decide) (backOf (W := 0) (rmC5_2_0 l Z a0 hw [] a1 b101 ka k101 x1 x2 h101 n0 y104 y102 V101 g_b101 (Nat.ne_of_lt lt_a1_b101) hg) hZ (tw hw 32 rfl) (tw hw 27 rfl) (by decide) (by decide)) (g := (mkF m 9 #[vr a1, vi 0, vi 2, vr b101, .unset, .unset] [wi 2, wi 0, wr b101, wi 0, wr a1])) rfl (by rw [hml]; rfl) (argsL := [wr a1, wi 0, wr b101, wi 0, wi 2]) (rest := []) (lenOf pd_ACIABII_I rfl) rfl (Nat.le_refl _) (hb hby d7_9) (fun _ _ => ⟨rfl, e101, (by decide : 1 + 0 ≤ _), (by decide : 2 + 0 ≤ _)⟩)
  dsimp only [Pt.U, Pt.locs, Pt.cells, Pt.slots] at X105 l105 y105 z105 st105 hQ105
  subst l105 y105 z105
  obtain ⟨rfl, N105q, Kc105⟩ := hQ105
  have N105 := Fr.app N0 N105q
  have y106 := (y102.keep Kc105 (own_nmc (Nat.ne_of_lt lt_a1_b101) own_nm0))
  have y107 := (y103.trans Kc105 (allS (Or.inr sz_b101) all0))
  have y108 := (y104.keep Kc105 (allS g_b101 all0))
  have lz109_a1 := y106.lt
  obtain ⟨_, _, ⟨T109, L109, k109, n109⟩, -, X109, ⟨Lc109, hQ109, l109, y109, z109⟩, st109⟩ := Jvm.LawKit.callS X105 hx (y := mn_25) hown (mvT hZ (tw hw 86 rfl)) (mvT hZ (tw hw 87 rfl)) (mvT hZ (tw hw 27 rfl)) (mvT hZ (tw hw 88 rfl)) (by decide) (backOf (W := 0) (rmTob_2 l Z a0 hw [] a1 ka x1 x2 T105.heap n0 y108 SA SH SL y106) hZ (tw hw 88 rfl) (tw hw 27 rfl) (by decide) (by decide)) (g := (mkF m 23 #[vr a1, vi 0, vi 2, vr b101, vi 0, .unset] [wi 2, wi 0, wr a1])) rfl (by rw [hml]; rfl) (argsL := [wr a1, wi 0, wi 2]) (rest := []) (lenOf pd_ACII_AB rfl) rfl (Nat.le_refl _) (hb hby d7_23) (fun _ _ => ⟨rfl, rfl, (by decide : 1 + 1 ≤ _), (by decide : 2 + 4 ≤ _)⟩)
  dsimp only [Pt.U, Pt.locs, Pt.cells, Pt.slots] at X109 l109 y109 z109 st109 hQ109
  subst l109 y109 z109
  obtain ⟨ur109, uq109, rfl, N109q, Kc109, ug109, us109, uV109⟩ := hQ109
  have N109 := Fr.app N105 N109q
  have lt_a1_ur109 : a1 < ur109 := Nat.lt_of_lt_of_le lz109_a1 us109
  have sz_ur109 : h0.size ≤ ur109 := Nat.le_trans y107.1 us109
  have y110 := (y107.trans Kc109 all0)
  have y111 := (y108.keep Kc109 all0)
  obtain ⟨_, _, ⟨T112, L112, k112, n112⟩, -, X112, ⟨Lc112, hQ112, l112, y112, z112⟩, st112⟩ := Jvm.LawKit.callS X109 hx (y := mn_20) hown (mvT hZ (tw hw 102 rfl)) (mvT hZ (tw hw 103 rfl)) (mvT hZ (tw hw 27 rfl)) (mvT hZ (tw hw 104 rfl)) (by decide) (backOf (W := 0) (rmGch l Z a0 hw [] ur109 (0 : Int32) uq109 (4 : Int32) [.int (StrChars.lo8 x1), .int (StrChars.hi8 x1), .int (StrChars.lo8 x2), .int (StrChars.hi8 x2)] x1 T109.heap n0 y111 SA SH SL uV109 ⟨⟨by decide, by decide⟩, by decide, rfl⟩ ⟨⟨by decide, by decide⟩, by decide, rfl⟩ hbw) hZ (tw hw 104 rfl) (tw hw 27 rfl) (by decide) (by decide)) (g := (mkF m 32 #[vr a1, vi 0, vi 2, vr b101, vi 0, vr ur109] [wi 0, wr ur109])) rfl (by rw [hml]; rfl) (argsL := [wr ur109, wi 0]) (rest := []) (lenOf pd_ABI_C rfl) rfl (Nat.le_refl _) (hb hby d7_32) (fun _ _ => ⟨rfl, rfl, (by decide : 2 + 0 ≤ _), (by decide : 6 + 0 ≤ _)⟩)
  dsimp only [Pt.U, Pt.locs, Pt.cells, Pt.slots] at X112 l112 y112 z112 st112 hQ112
  subst l112 y112 z112
  obtain ⟨rfl, N112q, eq112⟩ := hQ112
  have N112 := Fr.app N109 N112q
  have hc38 : (255 : Int32) < x1 := hg
  obtain ⟨fs, hr, hrun, hended, hW, hsame⟩ := X112.leave (v := some (.ref ur109)) (fun h => by rw [Bd.returns] at h; cases h)
  refine ⟨_, _, pre0 _ ?_, hrun, hended, _, _, rfl, ?_, ⟨_, rfl⟩, hW, hsame.mono (by decide) (by decide)⟩
  · show Go p e below s₁ (mkF m 0 #[vr a1, vi 0, vi 2, .unset, .unset, .unset] []) _
    refine XS.iloadN X0.here hx rfl (hb hby d7_0) rfl ?_
    show Go p e below s₁ (mkF m 1 #[vr a1, vi 0, vi 2, .unset, .unset, .unset] [wi 2]) _
    refine st101 _ ?_
    show Go p e below T101 (mkF m 3 #[vr a1, vi 0, vi 2, .unset, .unset, .unset] [wr b101]) _
    refine XS.astoreN X101.here hx rfl (hb hby d7_3) rfl rfl (l' := #[.val (.ref a1), .val (.int (0 : Int32)), .val (.int (2 : Int32)), .val (.ref b101), .unset, .unset]) rfl ?_
    show Go p e below T101 (mkF m 4 #[vr a1, vi 0, vi 2, vr b101, .unset, .unset] []) _
    refine XS.aloadN X101.here hx rfl (hb hby d7_4) rfl rfl ?_
    show Go p e below T101 (mkF m 5 #[vr a1, vi 0, vi 2, vr b101, .unset, .unset] [wr a1]) _
    refine XS.iloadN X101.here hx rfl (hb hby d7_5) rfl ?_
    show Go p e below T101 (mkF m 6 #[vr a1, vi 0, vi 2, vr b101, .unset, .unset] [wi 0, wr a1]) _
    refine XS.aloadN X101.here hx rfl (hb hby d7_6) rfl rfl ?_
    show Go p e below T101 (mkF m 7 #[vr a1, vi 0, vi 2, vr b101, .unset, .unset] [wr b101, wi 0, wr a1]) _
    refine XS.iconst X101.here hx rfl (hb hby d7_7) ?_
    show Go p e below T101 (mkF m 8 #[vr a1, vi 0, vi 2, vr b101, .unset, .unset] [wi 0, wr b101, wi 0, wr a1]) _
    refine XS.iloadN X101.here hx rfl (hb hby d7_8) rfl ?_
    show Go p e below T101 (mkF m 9 #[vr a1, vi 0, vi 2, vr b101, .unset, .unset] [wi 2, wi 0, wr b101, wi 0, wr a1]) _
    refine st105 _ ?_
    show Go p e below T105 (mkF m 12 #[vr a1, vi 0, vi 2, vr b101, .unset, .unset] [wi 0]) _
    refine XS.istore X105.here hx rfl (hb hby d7_12) rfl (l' := #[.val (.ref a1), .val (.int (0 : Int32)), .val (.int (2 : Int32)), .val (.ref b101), .val (.int (0 : Int32)), .unset]) rfl ?_
    show Go p e below T105 (mkF m 14 #[vr a1, vi 0, vi 2, vr b101, vi 0, .unset] []) _
    refine XS.iload X105.here hx rfl (hb hby d7_14) rfl ?_
    show Go p e below T105 (mkF m 16 #[vr a1, vi 0, vi 2, vr b101, vi 0, .unset] [wi 0]) _
    refine XS.iloadN X105.here hx rfl (hb hby d7_16) rfl ?_
    show Go p e below T105 (mkF m 17 #[vr a1, vi 0, vi 2, vr b101, vi 0, .unset] [wi 2, wi 0]) _
    refine XS.icmpNo X105.here hx rfl (hb hby d7_17) rfl (feq (by decide : ¬ ((0 : Int32) = (2 : Int32)))).1 ?_
    show Go p e below T105 (mkF m 20 #[vr a1, vi 0, vi 2, vr b101, vi 0, .unset] []) _
    refine XS.aloadN X105.here hx rfl (hb hby d7_20) rfl rfl ?_
    show Go p e below T105 (mkF m 21 #[vr a1, vi 0, vi 2, vr b101, vi 0, .unset] [wr a1]) _
    refine XS.iloadN X105.here hx rfl (hb hby d7_21) rfl ?_
    show Go p e below T105 (mkF m 22 #[vr a1, vi 0, vi 2, vr b101, vi 0, .unset] [wi 0, wr a1]) _
    refine XS.iloadN X105.here hx rfl (hb hby d7_22) rfl ?_
    show Go p e below T105 (mkF m 23 #[vr a1, vi 0, vi 2, vr b101, vi 0, .unset] [wi 2, wi 0, wr a1]) _
    refine st109 _ ?_
    show Go p e below T109 (mkF m 26 #[vr a1, vi 0, vi 2, vr b101, vi 0, .unset] [wr ur109]) _
    refine XS.astore X109.here hx rfl (hb hby d7_26) rfl rfl (l' := #[.val (.ref a1), .val (.int (0 : Int32)), .val (.int (2 : Int32)), .val (.ref b101), .val (.int (0 : Int32)), .val (.ref ur109)]) rfl ?_
    show Go p e below T109 (mkF m 28 #[vr a1, vi 0, vi 2, vr b101, vi 0, vr ur109] []) _
    refine XS.aload X109.here hx rfl (hb hby d7_28) rfl rfl ?_
    show Go p e below T109 (mkF m 30 #[vr a1, vi 0, vi 2, vr b101, vi 0, vr ur109] [wr ur109]) _
    refine XS.iload X109.here hx rfl (hb hby d7_30) rfl ?_
    show Go p e below T109 (mkF m 32 #[vr a1, vi 0, vi 2, vr b101, vi 0, vr ur109] [wi 0, wr ur109]) _
    refine st112 _ ?_
    show Go p e below T112 (mkF m 35 #[vr a1, vi 0, vi 2, vr b101, vi 0, vr ur109] [wi x1]) _
    refine XS.sipush X112.here hx rfl (hb hby d7_35) ?_
    show Go p e below T112 (mkF m 38 #[vr a1, vi 0, vi 2, vr b101, vi 0, vr ur109] [wi 255, wi x1]) _
    refine XS.icmpYes X112.here hx rfl (pc0 := 38) (pc' := 54) rfl (hb hby d7_38) rfl (tlt hc38).2.2.1 (by decide) (by decide) ?_
    show Go p e below T112 (mkF m 54 #[vr a1, vi 0, vi 2, vr b101, vi 0, vr ur109] []) _
    refine XS.aload X112.here hx rfl (hb hby d7_54) rfl rfl ?_
    show Go p e below T112 (mkF m 56 #[vr a1, vi 0, vi 2, vr b101, vi 0, vr ur109] [wr ur109]) _
    jvm_step X112.here [X112.here.top, hx, (hb hby d7_56), X112.method', Bd.returns, Value.isRef, FieldType.isReference]
    first | (intro acts; rw [hr _ acts rfl rfl rfl]) | rw [hr _ _ rfl rfl rfl]
    exact Steps.refl _
  · show QC3 Z [x1, x2] h0 n0 _ T112.heap _
    rw [eq112]
    exact ⟨_, _, (1 : Int32), (4 : Int32), [.int (StrChars.lo8 x1), .int (StrChars.hi8 x1), .int (StrChars.lo8 x2), .int (StrChars.hi8 x2)], rfl, N112, y110, ug109, sz_ur109, uV109, Or.inr ⟨rfl, rfl, rfl, _, List.mem_of_getElem? (i := 0) rfl, hg⟩⟩
set_option maxRecDepth 65536 in
set_option maxHeartbeats 40000000 in
theorem rmC3_2_1 (l : Launch) (Z : State) (a0 : Array Value) (hw : ∀ d ∈ tables_1, d.before a0 Z = true) (ws : List Jvm.Cond) (a1 : Addr) (ka : ClassId) (x1 : Int32) (x2 : Int32) (h0 : Heap) (n0 : Nat) (X00 : Old Z n0 h0) (SA : pSA Z) (SH : pSH Z) (SL : pSL Z) (V_a : Arv Z h0 a1 ka .char (2 : Int32) [(.int x1), (.int x2)] (.int (0 : Int32))) (hl0 : ¬ ((255 : Int32) < x1)) (hg : (255 : Int32) < x2) (hbw : ChB x2) :
    MetFree l mn_18 (head1 (Jvm.Cond.code mn_18 jdk_52_method_16_code 6 (some (.array .byte)) :: ws) ro_8) (fun a U => a = #[(.ref a1), (.int (0 : Int32)), (.int (2 : Int32))] ∧ Z.Warmed39 U.vm ∧ U.heap = h0) (fun _ _ _ _ _ => True) (fun _ U o U' => ∃ rv rL, o = .returned rv ∧ QC3 Z [x1, x2] h0 n0 rv U'.heap rL ∧ FrameEnd U o U' rL ro_8.cells ro_8.slots) := by
  refine MetFree.of_bodySF (plainFor_of_name pn_7) hisR ?_
  intro p e s m args below meth c s₁ Bd hml0 hP hK
  obtain ⟨rfl, hZ, hh⟩ := hP
  have hx := Bd.exec
  have hby := Bd.bytes
  have hml : c.maxLocals = 6 := hml0
  have hown : s.vm.findClass "java/lang/StringUTF16" = some m.cls := findClass_of_methodNamed Bd.named
  have hnm := (name_of_methodNamed Bd.named Bd.method).1
  have X0 : Stand p l e ro_8 s m #[(.ref a1), (.int (0 : Int32)), (.int (2 : Int32))] below meth c s₁ [] 0 0 := Stand.of_body Bd
  have e0 : s₁.heap = h0 := by rw [← hh, Bd.state]; rfl
  have N0 := Fr.nil n0
  have pre0 : ∀ t, Steps p.tables e below (s₁.setTop (mkF m 0 #[.val (.ref a1), .val (.int (0 : Int32)), .val (.int (2 : Int32)), .unset, .unset, .unset] [])) t → Steps p.tables e below (s₁.setTop (entryFrame m #[(.ref a1), (.int (0 : Int32)), (.int (2 : Int32))] 6)) t := fun t k => castTop (ef_7 m a1 (0 : Int32) (2 : Int32)) k
  have lz101_a1 := V_a.lt
  obtain ⟨T101, h101, k101, X101, e101, E101, A101, st101⟩ := newP X0 hx hZ (tw hw 29 rfl) e0 (g := (mkF m 1 #[vr a1, vi 0, vi 2, .unset, .unset, .unset] [wi 2])) rfl (hb hby d7_1) rfl (by decide) (cap := 2) (by decide) (by decide) (by decide) (by decide)
  obtain ⟨b101, g101⟩ : ∃ z, z = h0.size := ⟨_, rfl⟩
  rw [← g101] at A101 st101
  have g_b101 : n0 ≤ b101 := Nat.le_trans (own_le X00) (Nat.le_of_eq g101.symm)
  have lt_a1_b101 : a1 < b101 := Nat.lt_of_lt_of_le lz101_a1 (Nat.le_of_eq g101.symm)
  have sz_b101 : h0.size ≤ b101 := Nat.le_trans (Keep.refl h0 []).1 (Nat.le_of_eq g101.symm)
  have V101 : Arv Z h101 b101 k101 .byte (2 : Int32) [(.int (0 : Int32)), (.int (0 : Int32))] (.int (0 : Int32)) := (Arv.new A101 (by decide)).pad (pad_rep [] (.int (0 : Int32)) 2)
  have y102 := (V_a.ext E101)
  have y103 := ((Keep.refl h0 []).ext E101)
  have y104 := (X00.ext E101)
  obtain ⟨_, _, ⟨T105, L105, k105, n105⟩, -, X105, ⟨Lc105, hQ105, l105, y105, z105⟩, st105⟩ := Jvm.LawKit.callS X101 hx (y := mn_19) hown (mvT hZ (tw hw 30 rfl)) (mvT hZ (tw hw 31 rfl)) (mvT hZ (tw hw 27 rfl)) (mvT hZ (tw hw 32 rfl)) (by decide) (backOf (W := 0) (rmC5_2_1 l Z a0 hw [] a1 b101 ka k101 x1 x2 h101 n0 y104 y102 V101 g_b101 (Nat.ne_of_lt lt_a1_b101) hl0 hg) hZ (tw hw 32 rfl) (tw hw 27 rfl) (by decide) (by decide)) (g := (mkF m 9 #[vr a1, vi 0, vi 2, vr b101, .unset, .unset] [wi 2, wi 0, wr b101, wi 0, wr a1])) rfl (by rw [hml]; rfl) (argsL := [wr a1, wi 0, wr b101, wi 0, wi 2]) (rest := []) (lenOf pd_ACIABII_I rfl) rfl (Nat.le_refl _) (hb hby d7_9) (fun _ _ => ⟨rfl, e101, (by decide : 1 + 0 ≤ _), (by decide : 2 + 0 ≤ _)⟩)
  dsimp only [Pt.U, Pt.locs, Pt.cells, Pt.slots] at X105 l105 y105 z105 st105 hQ105
  subst l105 y105 z105
  obtain ⟨rfl, N105q, Kc105⟩ := hQ105
  have N105 := Fr.app N0 N105q
  have y106 := (y102.keep Kc105 (own_nmc (Nat.ne_of_lt lt_a1_b101) own_nm0))
  have y107 := (y103.trans Kc105 (allS (Or.inr sz_b101) all0))
  have y108 := (y104.keep Kc105 (allS g_b101 all0))
  have lz109_a1 := y106.lt
  obtain ⟨_, _, ⟨T109, L109, k109, n109⟩, -, X109, ⟨Lc109, hQ109, l109, y109, z109⟩, st109⟩ := Jvm.LawKit.callS X105 hx (y := mn_25) hown (mvT hZ (tw hw 86 rfl)) (mvT hZ (tw hw 87 rfl)) (mvT hZ (tw hw 27 rfl)) (mvT hZ (tw hw 88 rfl)) (by decide) (backOf (W := 0) (rmTob_2 l Z a0 hw [] a1 ka x1 x2 T105.heap n0 y108 SA SH SL y106) hZ (tw hw 88 rfl) (tw hw 27 rfl) (by decide) (by decide)) (g := (mkF m 23 #[vr a1, vi 0, vi 2, vr b101, vi 1, .unset] [wi 2, wi 0, wr a1])) rfl (by rw [hml]; rfl) (argsL := [wr a1, wi 0, wi 2]) (rest := []) (lenOf pd_ACII_AB rfl) rfl (Nat.le_refl _) (hb hby d7_23) (fun _ _ => ⟨rfl, rfl, (by decide : 1 + 1 ≤ _), (by decide : 2 + 4 ≤ _)⟩)
  dsimp only [Pt.U, Pt.locs, Pt.cells, Pt.slots] at X109 l109 y109 z109 st109 hQ109
  subst l109 y109 z109
  obtain ⟨ur109, uq109, rfl, N109q, Kc109, ug109, us109, uV109⟩ := hQ109
  have N109 := Fr.app N105 N109q
  have lt_a1_ur109 : a1 < ur109 := Nat.lt_of_lt_of_le lz109_a1 us109
  have sz_ur109 : h0.size ≤ ur109 := Nat.le_trans y107.1 us109
  have y110 := (y107.trans Kc109 all0)
  have y111 := (y108.keep Kc109 all0)
  obtain ⟨_, _, ⟨T112, L112, k112, n112⟩, -, X112, ⟨Lc112, hQ112, l112, y112, z112⟩, st112⟩ := Jvm.LawKit.callS X109 hx (y := mn_20) hown (mvT hZ (tw hw 102 rfl)) (mvT hZ (tw hw 103 rfl)) (mvT hZ (tw hw 27 rfl)) (mvT hZ (tw hw 104 rfl)) (by decide) (backOf (W := 0) (rmGch l Z a0 hw [] ur109 (1 : Int32) uq109 (4 : Int32) [.int (StrChars.lo8 x1), .int (StrChars.hi8 x1), .int (StrChars.lo8 x2), .int (StrChars.hi8 x2)] x2 T109.heap n0 y111 SA SH SL uV109 ⟨⟨by decide, by decide⟩, by decide, rfl⟩ ⟨⟨by decide, by decide⟩, by decide, rfl⟩ hbw) hZ (tw hw 104 rfl) (tw hw 27 rfl) (by decide) (by decide)) (g := (mkF m 32 #[vr a1, vi 0, vi 2, vr b101, vi 1, vr ur109] [wi 1, wr ur109])) rfl (by rw [hml]; rfl) (argsL := [wr ur109, wi 1]) (rest := []) (lenOf pd_ABI_C rfl) rfl (Nat.le_refl _) (hb hby d7_32) (fun _ _ => ⟨rfl, rfl, (by decide : 2 + 0 ≤ _), (by decide : 6 + 0 ≤ _)⟩)
  dsimp only [Pt.U, Pt.locs, Pt.cells, Pt.slots] at X112 l112 y112 z112 st112 hQ112
  subst l112 y112 z112
  obtain ⟨rfl, N112q, eq112⟩ := hQ112
  have N112 := Fr.app N109 N112q
  have hc38 : (255 : Int32) < x2 := hg
  obtain ⟨fs, hr, hrun, hended, hW, hsame⟩ := X112.leave (v := some (.ref ur109)) (fun h => by rw [Bd.returns] at h; cases h)
  refine ⟨_, _, pre0 _ ?_, hrun, hended, _, _, rfl, ?_, ⟨_, rfl⟩, hW, hsame.mono (by decide) (by decide)⟩
  · show Go p e below s₁ (mkF m 0 #[vr a1, vi 0, vi 2, .unset, .unset, .unset] []) _
    refine XS.iloadN X0.here hx rfl (hb hby d7_0) rfl ?_
    show Go p e below s₁ (mkF m 1 #[vr a1, vi 0, vi 2, .unset, .unset, .unset] [wi 2]) _
    refine st101 _ ?_
    show Go p e below T101 (mkF m 3 #[vr a1, vi 0, vi 2, .unset, .unset, .unset] [wr b101]) _
    refine XS.astoreN X101.here hx rfl (hb hby d7_3) rfl rfl (l' := #[.val (.ref a1), .val (.int (0 : Int32)), .val (.int (2 : Int32)), .val (.ref b101), .unset, .unset]) rfl ?_
    show Go p e below T101 (mkF m 4 #[vr a1, vi 0, vi 2, vr b101, .unset, .unset] []) _
    refine XS.aloadN X101.here hx rfl (hb hby d7_4) rfl rfl ?_
    show Go p e below T101 (mkF m 5 #[vr a1, vi 0, vi 2, vr b101, .unset, .unset] [wr a1]) _
    refine XS.iloadN X101.here hx rfl (hb hby d7_5) rfl ?_
    show Go p e below T101 (mkF m 6 #[vr a1, vi 0, vi 2, vr b101, .unset, .unset] [wi 0, wr a1]) _
    refine XS.aloadN X101.here hx rfl (hb hby d7_6) rfl rfl ?_
    show Go p e below T101 (mkF m 7 #[vr a1, vi 0, vi 2, vr b101, .unset, .unset] [wr b101, wi 0, wr a1]) _
    refine XS.iconst X101.here hx rfl (hb hby d7_7) ?_
    show Go p e below T101 (mkF m 8 #[vr a1, vi 0, vi 2, vr b101, .unset, .unset] [wi 0, wr b101, wi 0, wr a1]) _
    refine XS.iloadN X101.here hx rfl (hb hby d7_8) rfl ?_
    show Go p e below T101 (mkF m 9 #[vr a1, vi 0, vi 2, vr b101, .unset, .unset] [wi 2, wi 0, wr b101, wi 0, wr a1]) _
    refine st105 _ ?_
    show Go p e below T105 (mkF m 12 #[vr a1, vi 0, vi 2, vr b101, .unset, .unset] [wi 1]) _
    refine XS.istore X105.here hx rfl (hb hby d7_12) rfl (l' := #[.val (.ref a1), .val (.int (0 : Int32)), .val (.int (2 : Int32)), .val (.ref b101), .val (.int (1 : Int32)), .unset]) rfl ?_
    show Go p e below T105 (mkF m 14 #[vr a1, vi 0, vi 2, vr b101, vi 1, .unset] []) _
    refine XS.iload X105.here hx rfl (hb hby d7_14) rfl ?_
    show Go p e below T105 (mkF m 16 #[vr a1, vi 0, vi 2, vr b101, vi 1, .unset] [wi 1]) _
    refine XS.iloadN X105.here hx rfl (hb hby d7_16) rfl ?_
    show Go p e below T105 (mkF m 17 #[vr a1, vi 0, vi 2, vr b101, vi 1, .unset] [wi 2, wi 1]) _
    refine XS.icmpNo X105.here hx rfl (hb hby d7_17) rfl (feq (by decide : ¬ ((1 : Int32) = (2 : Int32)))).1 ?_
    show Go p e below T105 (mkF m 20 #[vr a1, vi 0, vi 2, vr b101, vi 1, .unset] []) _
    refine XS.aloadN X105.here hx rfl (hb hby d7_20) rfl rfl ?_
    show Go p e below T105 (mkF m 21 #[vr a1, vi 0, vi 2, vr b101, vi 1, .unset] [wr a1]) _
    refine XS.iloadN X105.here hx rfl (hb hby d7_21) rfl ?_
    show Go p e below T105 (mkF m 22 #[vr a1, vi 0, vi 2, vr b101, vi 1, .unset] [wi 0, wr a1]) _
    refine XS.iloadN X105.here hx rfl (hb hby d7_22) rfl ?_
    show Go p e below T105 (mkF m 23 #[vr a1, vi 0, vi 2, vr b101, vi 1, .unset] [wi 2, wi 0, wr a1]) _
    refine st109 _ ?_
    show Go p e below T109 (mkF m 26 #[vr a1, vi 0, vi 2, vr b101, vi 1, .unset] [wr ur109]) _
    refine XS.astore X109.here hx rfl (hb hby d7_26) rfl rfl (l' := #[.val (.ref a1), .val (.int (0 : Int32)), .val (.int (2 : Int32)), .val (.ref b101), .val (.int (1 : Int32)), .val (.ref ur109)]) rfl ?_
    show Go p e below T109 (mkF m 28 #[vr a1, vi 0, vi 2, vr b101, vi 1, vr ur109] []) _
    refine XS.aload X109.here hx rfl (hb hby d7_28) rfl rfl ?_
    show Go p e below T109 (mkF m 30 #[vr a1, vi 0, vi 2, vr b101, vi 1, vr ur109] [wr ur109]) _
    refine XS.iload X109.here hx rfl (hb hby d7_30) rfl ?_
    show Go p e below T109 (mkF m 32 #[vr a1, vi 0, vi 2, vr b101, vi 1, vr ur109] [wi 1, wr ur109]) _
    refine st112 _ ?_
    show Go p e below T112 (mkF m 35 #[vr a1, vi 0, vi 2, vr b101, vi 1, vr ur109] [wi x2]) _
    refine XS.sipush X112.here hx rfl (hb hby d7_35) ?_
    show Go p e below T112 (mkF m 38 #[vr a1, vi 0, vi 2, vr b101, vi 1, vr ur109] [wi 255, wi x2]) _
    refine XS.icmpYes X112.here hx rfl (pc0 := 38) (pc' := 54) rfl (hb hby d7_38) rfl (tlt hc38).2.2.1 (by decide) (by decide) ?_
    show Go p e below T112 (mkF m 54 #[vr a1, vi 0, vi 2, vr b101, vi 1, vr ur109] []) _
    refine XS.aload X112.here hx rfl (hb hby d7_54) rfl rfl ?_
    show Go p e below T112 (mkF m 56 #[vr a1, vi 0, vi 2, vr b101, vi 1, vr ur109] [wr ur109]) _
    jvm_step X112.here [X112.here.top, hx, (hb hby d7_56), X112.method', Bd.returns, Value.isRef, FieldType.isReference]
    first | (intro acts; rw [hr _ acts rfl rfl rfl]) | rw [hr _ _ rfl rfl rfl]
    exact Steps.refl _
  · show QC3 Z [x1, x2] h0 n0 _ T112.heap _
    rw [eq112]
    exact ⟨_, _, (1 : Int32), (4 : Int32), [.int (StrChars.lo8 x1), .int (StrChars.hi8 x1), .int (StrChars.lo8 x2), .int (StrChars.hi8 x2)], rfl, N112, y110, ug109, sz_ur109, uV109, Or.inr ⟨rfl, rfl, rfl, _, List.mem_of_getElem? (i := 1) rfl, hg⟩⟩
theorem rmC3_2 (l : Launch) (Z : State) (a0 : Array Value) (hw : ∀ d ∈ tables_1, d.before a0 Z = true) (ws : List Jvm.Cond) (a1 : Addr) (ka : ClassId) (x1 : Int32) (x2 : Int32) (h0 : Heap) (n0 : Nat) (X00 : Old Z n0 h0) (SA : pSA Z) (SH : pSH Z) (SL : pSL Z) (V_a : Arv Z h0 a1 ka .char (2 : Int32) [(.int x1), (.int x2)] (.int (0 : Int32))) (hb0 : ChB x1) (hb1 : ChB x2) :
    MetFree l mn_18 (head1 (Jvm.Cond.code mn_18 jdk_52_method_16_code 6 (some (.array .byte)) :: ws) ro_8) (fun a U => a = #[(.ref a1), (.int (0 : Int32)), (.int (2 : Int32))] ∧ Z.Warmed39 U.vm ∧ U.heap = h0) (fun _ _ _ _ _ => True) (fun _ U o U' => ∃ rv rL, o = .returned rv ∧ QC3 Z [x1, x2] h0 n0 rv U'.heap rL ∧ FrameEnd U o U' rL ro_8.cells ro_8.slots) := by
  by_cases c0 : (255 : Int32) < x1
  · exact rmC3_2_0 l Z a0 hw ws a1 ka x1 x2 h0 n0 X00 SA SH SL V_a  c0 hb0
  by_cases c1 : (255 : Int32) < x2
  · exact rmC3_2_1 l Z a0 hw ws a1 ka x1 x2 h0 n0 X00 SA SH SL V_a c0 c1 hb1
  exact rmC3_2_n l Z a0 hw ws a1 ka x1 x2 h0 n0 X00 SA SH SL V_a c0 c1
set_option maxRecDepth 65536 in
set_option maxHeartbeats 40000000 in
theorem rmCfl_2_0 (l : Launch) (Z : State) (a0 : Array Value) (hw : ∀ d ∈ tables_1, d.before a0 Z = true) (ws : List Jvm.Cond) (a1 : Addr) (ka : ClassId) (vs : List Value) (h0 : Heap) (n0 : Nat) (X00 : Old Z n0 h0) (V_a : Arv Z h0 a1 ka .byte (2 : Int32) vs (.int (0 : Int32))) :
    MetFree l mn_17 (head1 (Jvm.Cond.code mn_17 jdk_52_method_15_code 2 (some .byte) :: ws) ro_0) (fun a U => a = #[(.ref a1), (.int (2 : Int32))] ∧ Z.Warmed39 U.vm ∧ U.heap = h0) (fun _ _ _ _ _ => True) (fun _ U o U' => ∃ rv rL, o = .returned rv ∧ Qs (some (.int (0 : Int32))) h0 n0 rv U'.heap rL ∧ FrameEnd U o U' rL ro_0.cells ro_0.slots) := by
  refine MetFree.of_bodySF (plainFor_of_name pn_9) hisR ?_
  intro p e s m args below meth c s₁ Bd hml0 hP hK
  obtain ⟨rfl, hZ, hh⟩ := hP
  have hx := Bd.exec
  have hby := Bd.bytes
  have hml : c.maxLocals = 2 := hml0
  have hown : s.vm.findClass "java/lang/StringUTF16" = some m.cls := findClass_of_methodNamed Bd.named
  have hnm := (name_of_methodNamed Bd.named Bd.method).1
  have X0 : Stand p l e ro_0 s m #[(.ref a1), (.int (2 : Int32))] below meth c s₁ [] 0 0 := Stand.of_body Bd
  have e0 : s₁.heap = h0 := by rw [← hh, Bd.state]; rfl
  have N0 := Fr.nil n0
  have pre0 : ∀ t, Steps p.tables e below (s₁.setTop (mkF m 0 #[.val (.ref a1), .val (.int (2 : Int32))] [])) t → Steps p.tables e below (s₁.setTop (entryFrame m #[(.ref a1), (.int (2 : Int32))] 2)) t := fun t k => castTop (ef_9 m a1 (2 : Int32)) k
  obtain ⟨cl101, Ar101, q101, S101, M101, H101, G101⟩ := id V_a
  obtain ⟨fs, hr, hrun, hended, hW, hsame⟩ := X0.leave (v := some (.int (nar .byte ((((0 : Int32).toUInt32 >>> ((31 : Int32) &&& 31).toUInt32).toInt32).toInt8.toInt32)))) (fun h => by rw [Bd.returns] at h; cases h)
  refine ⟨_, _, pre0 _ ?_, hrun, hended, _, _, rfl, ?_, ⟨_, rfl⟩, hW, hsame.mono (by decide) (by decide)⟩
  · show Go p e below s₁ (mkF m 0 #[vr a1, vi 2] []) _
    refine XS.iloadN X0.here hx rfl (hb hby d9_0) rfl ?_
    show Go p e below s₁ (mkF m 1 #[vr a1, vi 2] [wi 2]) _
    refine XS.aloadN X0.here hx rfl (hb hby d9_1) rfl rfl ?_
    show Go p e below s₁ (mkF m 2 #[vr a1, vi 2] [wr a1, wi 2]) _
    refine X0.arraylength hx (by rw [e0]; exact Ar101.1) (State.isArrayOf_alike hZ.alike Ar101.2.1) (g := (mkF m 2 #[vr a1, vi 2] [wr a1, wi 2])) rfl rfl (hb hby d9_2) _ ?_
    rw [len_of S101 M101]
    show Go p e below s₁ (mkF m 3 #[vr a1, vi 2] [wi 2, wi 2]) _
    refine XS.isub X0.here hx rfl (hb hby d9_3) rfl ?_
    show Go p e below s₁ (mkF m 4 #[vr a1, vi 2] [wi 0]) _
    refine XS.bipush X0.here hx rfl (hb hby d9_4) ?_
    show Go p e below s₁ (mkF m 6 #[vr a1, vi 2] [wi 31, wi 0]) _
    refine XS.iushr X0.here hx rfl (hb hby d9_6) rfl ?_
    show Go p e below s₁ (mkF m 7 #[vr a1, vi 2] [wi (((0 : Int32).toUInt32 >>> ((31 : Int32) &&& 31).toUInt32).toInt32)]) _
    refine XS.i2b X0.here hx rfl (hb hby d9_7) rfl ?_
    show Go p e below s₁ (mkF m 8 #[vr a1, vi 2] [wi ((((0 : Int32).toUInt32 >>> ((31 : Int32) &&& 31).toUInt32).toInt32).toInt8.toInt32)]) _
    exact retN X0 hx (t := .byte) Bd.returns (by simp) (hb hby d9_8) hr
  · show Qs (some (.int (0 : Int32))) h0 n0 _ s₁.heap _
    rw [e0]
    exact ⟨by decide, N0, rfl⟩
set_option maxRecDepth 65536 in
set_option maxHeartbeats 40000000 in
theorem rmCfl_2_1 (l : Launch) (Z : State) (a0 : Array Value) (hw : ∀ d ∈ tables_1, d.before a0 Z = true) (ws : List Jvm.Cond) (a1 : Addr) (ka : ClassId) (vs : List Value) (h0 : Heap) (n0 : Nat) (X00 : Old Z n0 h0) (V_a : Arv Z h0 a1 ka .byte (4 : Int32) vs (.int (0 : Int32))) :
    MetFree l mn_17 (head1 (Jvm.Cond.code mn_17 jdk_52_method_15_code 2 (some .byte) :: ws) ro_0) (fun a U => a = #[(.ref a1), (.int (2 : Int32))] ∧ Z.Warmed39 U.vm ∧ U.heap = h0) (fun _ _ _ _ _ => True) (fun _ U o U' => ∃ rv rL, o = .returned rv ∧ Qs (some (.int (1 : Int32))) h0 n0 rv U'.heap rL ∧ FrameEnd U o U' rL ro_0.cells ro_0.slots) := by
  refine MetFree.of_bodySF (plainFor_of_name pn_9) hisR ?_
  intro p e s m args below meth c s₁ Bd hml0 hP hK
  obtain ⟨rfl, hZ, hh⟩ := hP
  have hx := Bd.exec
  have hby := Bd.bytes
  have hml : c.maxLocals = 2 := hml0
  have hown : s.vm.findClass "java/lang/StringUTF16" = some m.cls := findClass_of_methodNamed Bd.named
  have hnm := (name_of_methodNamed Bd.named Bd.method).1
  have X0 : Stand p l e ro_0 s m #[(.ref a1), (.int (2 : Int32))] below meth c s₁ [] 0 0 := Stand.of_body Bd
  have e0 : s₁.heap = h0 := by rw [← hh, Bd.state]; rfl
  have N0 := Fr.nil n0
  have pre0 : ∀ t, Steps p.tables e below (s₁.setTop (mkF m 0 #[.val (.ref a1), .val (.int (2 : Int32))] [])) t → Steps p.tables e below (s₁.setTop (entryFrame m #[(.ref a1), (.int (2 : Int32))] 2)) t := fun t k => castTop (ef_9 m a1 (2 : Int32)) k
  obtain ⟨cl101, Ar101, q101, S101, M101, H101, G101⟩ := id V_a
  obtain ⟨fs, hr, hrun, hended, hW, hsame⟩ := X0.leave (v := some (.int (nar .byte ((((-2 : Int32).toUInt32 >>> ((31 : Int32) &&& 31).toUInt32).toInt32).toInt8.toInt32)))) (fun h => by rw [Bd.returns] at h; cases h)
  refine ⟨_, _, pre0 _ ?_, hrun, hended, _, _, rfl, ?_, ⟨_, rfl⟩, hW, hsame.mono (by decide) (by decide)⟩
  · show Go p e below s₁ (mkF m 0 #[vr a1, vi 2] []) _
    refine XS.iloadN X0.here hx rfl (hb hby d9_0) rfl ?_
    show Go p e below s₁ (mkF m 1 #[vr a1, vi 2] [wi 2]) _
    refine XS.aloadN X0.here hx rfl (hb hby d9_1) rfl rfl ?_
    show Go p e below s₁ (mkF m 2 #[vr a1, vi 2] [wr a1, wi 2]) _
    refine X0.arraylength hx (by rw [e0]; exact Ar101.1) (State.isArrayOf_alike hZ.alike Ar101.2.1) (g := (mkF m 2 #[vr a1, vi 2] [wr a1, wi 2])) rfl rfl (hb hby d9_2) _ ?_
    rw [len_of S101 M101]
    show Go p e below s₁ (mkF m 3 #[vr a1, vi 2] [wi 4, wi 2]) _
    refine XS.isub X0.here hx rfl (hb hby d9_3) rfl ?_
    show Go p e below s₁ (mkF m 4 #[vr a1, vi 2] [wi (-2)]) _
    refine XS.bipush X0.here hx rfl (hb hby d9_4) ?_
    show Go p e below s₁ (mkF m 6 #[vr a1, vi 2] [wi 31, wi (-2)]) _
    refine XS.iushr X0.here hx rfl (hb hby d9_6) rfl ?_
    show Go p e below s₁ (mkF m 7 #[vr a1, vi 2] [wi (((-2 : Int32).toUInt32 >>> ((31 : Int32) &&& 31).toUInt32).toInt32)]) _
    refine XS.i2b X0.here hx rfl (hb hby d9_7) rfl ?_
    show Go p e below s₁ (mkF m 8 #[vr a1, vi 2] [wi ((((-2 : Int32).toUInt32 >>> ((31 : Int32) &&& 31).toUInt32).toInt32).toInt8.toInt32)]) _
    exact retN X0 hx (t := .byte) Bd.returns (by simp) (hb hby d9_8) hr
  · show Qs (some (.int (1 : Int32))) h0 n0 _ s₁.heap _
    rw [e0]
    exact ⟨by decide, N0, rfl⟩
theorem rmCfl_2 (l : Launch) (Z : State) (a0 : Array Value) (hw : ∀ d ∈ tables_1, d.before a0 Z = true) (ws : List Jvm.Cond) (a1 : Addr) (ka : ClassId) (vs : List Value) (cd : Int32) (N : Int32) (x1 : Int32) (x2 : Int32) (h0 : Heap) (n0 : Nat) (X00 : Old Z n0 h0) (V_a : Arv Z h0 a1 ka .byte N vs (.int (0 : Int32))) (hc : StrChars.Road.CodA [x1, x2] cd N vs) :
    MetFree l mn_17 (head1 (Jvm.Cond.code mn_17 jdk_52_method_15_code 2 (some .byte) :: ws) ro_0) (fun a U => a = #[(.ref a1), (.int (2 : Int32))] ∧ Z.Warmed39 U.vm ∧ U.heap = h0) (fun _ _ _ _ _ => True) (fun _ U o U' => ∃ rv rL, o = .returned rv ∧ Qs (some (.int cd)) h0 n0 rv U'.heap rL ∧ FrameEnd U o U' rL ro_0.cells ro_0.slots) := by
  rcases hc with ⟨rfl, rfl, -, -⟩ | ⟨rfl, rfl, -, -⟩
  · exact rmCfl_2_0 l Z a0 hw ws a1 ka vs h0 n0 X00 V_a
  · exact rmCfl_2_1 l Z a0 hw ws a1 ka vs h0 n0 X00 V_a
set_option maxRecDepth 65536 in
set_option maxHeartbeats 40000000 in
theorem rmSv_2 (l : Launch) (Z : State) (a0 : Array Value) (hw : ∀ d ∈ tables_1, d.before a0 Z = true) (ws : List Jvm.Cond) (a1 : Addr) (a2 : Addr) (uk : Value) (ka : ClassId) (x1 : Int32) (x2 : Int32) (G1 : Int32) (h0 : Heap) (n0 : Nat) (X00 : Old Z n0 h0) (E_a1 : Exa Z h0 a1 ST) (F_v : Fld Z h0 a1 ST "value" "[B" .null) (F_k : Fld Z h0 a1 ST "coder" "B" uk) (g_a1 : n0 ≤ a1) (O2 : pO2 Z G1) (P5 : ¬ (G1 = (0 : Int32))) (SA : pSA Z) (SH : pSH Z) (SL : pSL Z) (V_a : Arv Z h0 a2 ka .char (2 : Int32) [(.int x1), (.int x2)] (.int (0 : Int32))) (hb0 : ChB x1) (hb1 : ChB x2) (ne : a2 ≠ a1) :
    MetFree l mn_8 (head1 (Jvm.Cond.code mn_8 jdk_42_method_149_code 6 none :: ws) ro_9) (fun a U => a = #[(.ref a1), (.ref a2), (.int (0 : Int32)), (.int (2 : Int32)), .null] ∧ Z.Warmed39 U.vm ∧ U.heap = h0) (fun _ _ _ _ _ => True) (fun _ U o U' => ∃ rv rL, o = .returned rv ∧ QNew Z a1 [x1, x2] h0 n0 rv U'.heap rL ∧ FrameEnd U o U' rL ro_9.cells ro_9.slots) := by
  refine MetFree.of_bodySF (plainFor_of_name pn_5) hisR ?_
  intro p e s m args below meth c s₁ Bd hml0 hP hK
  obtain ⟨rfl, hZ, hh⟩ := hP
  have hx := Bd.exec
  have hby := Bd.bytes
  have hml : c.maxLocals = 6 := hml0
  have hown : s.vm.findClass "java/lang/String" = some m.cls := findClass_of_methodNamed Bd.named
  have hnm := (name_of_methodNamed Bd.named Bd.method).1
  have X0 : Stand p l e ro_9 s m #[(.ref a1), (.ref a2), (.int (0 : Int32)), (.int (2 : Int32)), .null] below meth c s₁ [] 0 0 := Stand.of_body Bd
  have e0 : s₁.heap = h0 := by rw [← hh, Bd.state]; rfl
  have N0 := Fr.nil n0
  have pre0 : ∀ t, Steps p.tables e below (s₁.setTop (mkF m 0 #[.val (.ref a1), .val (.ref a2), .val (.int (0 : Int32)), .val (.int (2 : Int32)), .val .null, .unset] [])) t → Steps p.tables e below (s₁.setTop (entryFrame m #[(.ref a1), (.ref a2), (.int (0 : Int32)), (.int (2 : Int32)), .null] 6)) t := fun t k => castTop (ef_5vvvvn m a1 a2 (0 : Int32) (2 : Int32)) k
  obtain ⟨T101, X101, e101, st101⟩ := initO X0 hx hZ hown (tw hw 21 rfl) (tw hw 22 rfl) (tw hw 23 rfl) e0 (g := (mkF m 1 #[vr a1, vr a2, vi 0, vi 2, .val .null, .unset] [wr a1])) rfl (by rw [hml]; rfl) rfl (hb hby d5_1) (by decide) (W := 0) (by show 2 * 0 + _ ≤ _; exact Nat.le_of_eq rfl) (by decide)
  obtain ⟨T102, X102, e102, st102⟩ := getS2 X101 hx hZ hown (host := "") (Or.inl (tw hw 24 rfl)) Via.refl e101 (O2.ext X00.2) (g := (mkF m 27 #[vr a1, vr a2, vi 0, vi 2, .val .null, .unset] [])) rfl (hb hby d5_27)
  have hc30 : ¬ (G1 = (0 : Int32)) := P5
  have lz103_a1 := E_a1.lt
  have lz103_a2 := V_a.lt
  obtain ⟨_, _, ⟨T103, L103, k103, n103⟩, -, X103, ⟨Lc103, hQ103, l103, y103, z103⟩, st103⟩ := Jvm.LawKit.callS X102 hx (y := mn_18) hown (mvT hZ (tw hw 25 rfl)) (mvT hZ (tw hw 26 rfl)) (mvT hZ (tw hw 27 rfl)) (mvT hZ (tw hw 28 rfl)) (by decide) (backOf (W := 0) (rmC3_2 l Z a0 hw [] a2 ka x1 x2 h0 n0 X00 SA SH SL V_a hb0 hb1) hZ (tw hw 28 rfl) (tw hw 27 rfl) (by decide) (by decide)) (g := (mkF m 36 #[vr a1, vr a2, vi 0, vi 2, .val .null, .unset] [wi 2, wi 0, wr a2])) rfl (by rw [hml]; rfl) (argsL := [wr a2, wi 0, wi 2]) (rest := []) (lenOf pd_ACII_AB rfl) rfl (Nat.le_refl _) (hb hby d5_36) (fun _ _ => ⟨rfl, e102, (by decide : 0 + 2 ≤ _), (by decide : 0 + 6 ≤ _)⟩)
  dsimp only [Pt.U, Pt.locs, Pt.cells, Pt.slots] at X103 l103 y103 z103 st103 hQ103
  subst l103 y103 z103
  obtain ⟨ur103, uq103, ud103, uN103, uw103, rfl, N103q, Kc103, ug103, us103, uV103, uH103⟩ := hQ103
  have N103 := Fr.app N0 N103q
  have lt_a1_ur103 : a1 < ur103 := Nat.lt_of_lt_of_le lz103_a1 us103
  have lt_a2_ur103 : a2 < ur103 := Nat.lt_of_lt_of_le lz103_a2 us103
  have sz_ur103 : h0.size ≤ ur103 := Nat.le_trans (Keep.refl h0 [a1]).1 us103
  have y104 := ((Keep.refl h0 [a1]).trans Kc103 all0)
  have y105 := (X00.keep Kc103 all0)
  obtain ⟨_, _, ⟨T106, L106, k106, n106⟩, -, X106, ⟨Lc106, hQ106, l106, y106, z106⟩, st106⟩ := Jvm.LawKit.callS X103 hx (y := mn_17) hown (mvT hZ (tw hw 33 rfl)) (mvT hZ (tw hw 34 rfl)) (mvT hZ (tw hw 27 rfl)) (mvT hZ (tw hw 35 rfl)) (by decide) (backOf (W := 1) (rmCfl_2 l Z a0 hw [] ur103 uq103 uw103 ud103 uN103 x1 x2 T103.heap n0 y105 uV103 uH103) hZ (tw hw 35 rfl) (tw hw 27 rfl) (by decide) (by decide)) (g := (mkF m 45 #[vr a1, vr a2, vi 0, vi 2, .val .null, vr ur103] [wi 2, wr ur103, wr a1])) rfl (by rw [hml]; rfl) (argsL := [wr ur103, wi 2]) (rest := [wr a1]) (lenOf pd_ABI_B rfl) rfl (Nat.le_refl _) (hb hby d5_45) (fun _ _ => ⟨rfl, rfl, (by decide : 2 + 0 ≤ _), (by decide : 6 + 0 ≤ _)⟩)
  dsimp only [Pt.U, Pt.locs, Pt.cells, Pt.slots] at X106 l106 y106 z106 st106 hQ106
  subst l106 y106 z106
  obtain ⟨rfl, N106q, eq106⟩ := hQ106
  have N106 := Fr.app N103 N106q
  have y107 := (F_k.keep Kc103 own_nm0)
  have y108 := (E_a1.keep Kc103)
  obtain ⟨T109, h109, X109, e109, W109, st109⟩ := putFN X106 hx hZ hown (tw hw 36 rfl) Via.refl eq106 y107 y108 (Or.inr ⟨(tw hw 37 rfl), rfl, hnm⟩) (tw hw 11 rfl) (ty := .byte) (v' := (.int (nar .byte ud103))) (by decide) rfl (fits_nar_byte _) (g := (mkF m 48 #[vr a1, vr a2, vi 0, vi 2, .val .null, vr ur103] [wi ud103, wr a1])) rfl rfl (hb hby d5_48)
  have Fw109 := y107.same W109
  have N109 := Fr.snoc X109 N106 g_a1
  have y110 := ((F_v.keep Kc103 own_nm0).other W109 (Or.inr (slot_ne (Or.inr (tw hw 39 rfl)) (Or.inr (tw hw 37 rfl)) (by decide) (t := (.array .byte)) (t' := .byte) (by decide) (by decide))))
  have y111 := (y108.wr W109)
  obtain ⟨T112, h112, X112, e112, W112, st112⟩ := putF X109 hx hZ hown (host := "") (Or.inl (tw hw 38 rfl)) Via.refl e109 y110 y111 (Or.inr ⟨(tw hw 39 rfl), rfl, hnm⟩) (tw hw 11 rfl) (ty := (.array .byte)) (by decide) rfl rfl (g := (mkF m 54 #[vr a1, vr a2, vi 0, vi 2, .val .null, vr ur103] [wr ur103, wr a1])) rfl rfl (hb hby d5_54)
  have Fw112 := y110.same W112
  have N112 := Fr.snoc X112 N109 g_a1
  have y113 := ((y104.wr W109 (Or.inl (List.mem_of_getElem? (i := 0) rfl))).wr W112 (Or.inl (List.mem_of_getElem? (i := 0) rfl)))
  have y114 := (y111.wr W112)
  have y115 := (Fw109.other W112 (Or.inr (slot_ne (Or.inr (tw hw 37 rfl)) (Or.inr (tw hw 39 rfl)) (by decide) (t := .byte) (t' := (.array .byte)) (by decide) (by decide))))
  have y116 := ((uV103.other W109 (Ne.symm (Nat.ne_of_lt lt_a1_ur103))).other W112 (Ne.symm (Nat.ne_of_lt lt_a1_ur103)))
  obtain ⟨fs, hr, hrun, hended, hW, hsame⟩ := X112.leave (v := none) (fun _ => rfl)
  refine ⟨_, _, pre0 _ ?_, hrun, hended, _, _, rfl, ?_, ⟨_, rfl⟩, hW, hsame.mono (by decide) (by decide)⟩
  · show Go p e below s₁ (mkF m 0 #[vr a1, vr a2, vi 0, vi 2, .val .null, .unset] []) _
    refine XS.aloadN X0.here hx rfl (hb hby d5_0) rfl rfl ?_
    show Go p e below s₁ (mkF m 1 #[vr a1, vr a2, vi 0, vi 2, .val .null, .unset] [wr a1]) _
    refine st101 _ ?_
    show Go p e below T101 (mkF m 4 #[vr a1, vr a2, vi 0, vi 2, .val .null, .unset] []) _
    refine XS.iloadN X101.here hx rfl (hb hby d5_4) rfl ?_
    show Go p e below T101 (mkF m 5 #[vr a1, vr a2, vi 0, vi 2, .val .null, .unset] [wi 2]) _
    refine XS.ifYes X101.here hx rfl (pc0 := 5) (pc' := 27) rfl (hb hby d5_5) rfl ((if0 _ _).trans (feq (by decide : ¬ ((2 : Int32) = (0 : Int32)))).2) (by decide) (by decide) ?_
    show Go p e below T101 (mkF m 27 #[vr a1, vr a2, vi 0, vi 2, .val .null, .unset] []) _
    refine st102 _ ?_
    show Go p e below T102 (mkF m 30 #[vr a1, vr a2, vi 0, vi 2, .val .null, .unset] [wi G1]) _
    refine XS.ifNo X102.here hx rfl (hb hby d5_30) rfl ((if0 _ _).trans (feq hc30).1) ?_
    show Go p e below T102 (mkF m 33 #[vr a1, vr a2, vi 0, vi 2, .val .null, .unset] []) _
    refine XS.aloadN X102.here hx rfl (hb hby d5_33) rfl rfl ?_
    show Go p e below T102 (mkF m 34 #[vr a1, vr a2, vi 0, vi 2, .val .null, .unset] [wr a2]) _
    refine XS.iloadN X102.here hx rfl (hb hby d5_34) rfl ?_
    show Go p e below T102 (mkF m 35 #[vr a1, vr a2, vi 0, vi 2, .val .null, .unset] [wi 0, wr a2]) _
    refine XS.iloadN X102.here hx rfl (hb hby d5_35) rfl ?_
    show Go p e below T102 (mkF m 36 #[vr a1, vr a2, vi 0, vi 2, .val .null, .unset] [wi 2, wi 0, wr a2]) _
    refine st103 _ ?_
    show Go p e below T103 (mkF m 39 #[vr a1, vr a2, vi 0, vi 2, .val .null, .unset] [wr ur103]) _
    refine XS.astore X103.here hx rfl (hb hby d5_39) rfl rfl (l' := #[.val (.ref a1), .val (.ref a2), .val (.int (0 : Int32)), .val (.int (2 : Int32)), .val .null, .val (.ref ur103)]) rfl ?_
    show Go p e below T103 (mkF m 41 #[vr a1, vr a2, vi 0, vi 2, .val .null, vr ur103] []) _
    refine XS.aloadN X103.here hx rfl (hb hby d5_41) rfl rfl ?_
    show Go p e below T103 (mkF m 42 #[vr a1, vr a2, vi 0, vi 2, .val .null, vr ur103] [wr a1]) _
    refine XS.aload X103.here hx rfl (hb hby d5_42) rfl rfl ?_
    show Go p e below T103 (mkF m 44 #[vr a1, vr a2, vi 0, vi 2, .val .null, vr ur103] [wr ur103, wr a1]) _
    refine XS.iloadN X103.here hx rfl (hb hby d5_44) rfl ?_
    show Go p e below T103 (mkF m 45 #[vr a1, vr a2, vi 0, vi 2, .val .null, vr ur103] [wi 2, wr ur103, wr a1]) _
    refine st106 _ ?_
    show Go p e below T106 (mkF m 48 #[vr a1, vr a2, vi 0, vi 2, .val .null, vr ur103] [wi ud103, wr a1]) _
    refine st109 _ ?_
    show Go p e below T109 (mkF m 51 #[vr a1, vr a2, vi 0, vi 2, .val .null, vr ur103] []) _
    refine XS.aloadN X109.here hx rfl (hb hby d5_51) rfl rfl ?_
    show Go p e below T109 (mkF m 52 #[vr a1, vr a2, vi 0, vi 2, .val .null, vr ur103] [wr a1]) _
    refine XS.aload X109.here hx rfl (hb hby d5_52) rfl rfl ?_
    show Go p e below T109 (mkF m 54 #[vr a1, vr a2, vi 0, vi 2, .val .null, vr ur103] [wr ur103, wr a1]) _
    refine st112 _ ?_
    show Go p e below T112 (mkF m 57 #[vr a1, vr a2, vi 0, vi 2, .val .null, vr ur103] []) _
    exact X112.returnOut hx Bd.returns (hb hby d5_57) hr
  · show QNew Z a1 [x1, x2] h0 n0 _ T112.heap _
    rw [e112]
    exact ⟨rfl, N112, y113, ur103, uq103, ud103, uN103, uw103, ⟨y114, Fw112, (by have q := y115; rw [own_cdn uH103] at q; exact q), y116⟩, uH103⟩
set_option maxRecDepth 65536 in
set_option maxHeartbeats 40000000 in
theorem rmC5_3_n (l : Launch) (Z : State) (a0 : Array Value) (hw : ∀ d ∈ tables_1, d.before a0 Z = true) (ws : List Jvm.Cond) (a1 : Addr) (a3 : Addr) (ka : ClassId) (kd : ClassId) (x1 : Int32) (x2 : Int32) (x3 : Int32) (h0 : Heap) (n0 : Nat) (X00 : Old Z n0 h0) (V_a : Arv Z h0 a1 ka .char (3 : Int32) [(.int x1), (.int x2), (.int x3)] (.int (0 : Int32))) (V_d : Arv Z h0 a3 kd .byte (3 : Int32) [.int (0 : Int32), .int (0 : Int32), .int (0 : Int32)] (.int (0 : Int32))) (g_a3 : n0 ≤ a3) (ne : a1 ≠ a3) (hl0 : ¬ ((255 : Int32) < x1)) (hl1 : ¬ ((255 : Int32) < x2)) (hl2 : ¬ ((255 : Int32) < x3)) :
    MetFree l mn_19 (head1 (Jvm.Cond.code mn_19 jdk_52_method_21_code 7 (some .int) :: ws) ro_0) (fun a U => a = #[(.ref a1), (.int (0 : Int32)), (.ref a3), (.int (0 : Int32)), (.int (3 : Int32))] ∧ Z.Warmed39 U.vm ∧ U.heap = h0) (fun _ _ _ _ _ => True) (fun _ U o U' => ∃ rv rL, o = .returned rv ∧ QGB Z a3 kd (3 : Int32) [.int (StrChars.lo8 x1), .int (StrChars.lo8 x2), .int (StrChars.lo8 x3)] (some (.int (3 : Int32))) h0 n0 rv U'.heap rL ∧ FrameEnd U o U' rL ro_0.cells ro_0.slots) := by
  refine MetFree.of_bodySF (plainFor_of_name pn_8) hisR ?_
  intro p e s m args below meth c s₁ Bd hml0 hP hK
  obtain ⟨rfl, hZ, hh⟩ := hP
  have hx := Bd.exec
  have hby := Bd.bytes
  have hml : c.maxLocals = 7 := hml0
  have hown : s.vm.findClass "java/lang/StringUTF16" = some m.cls := findClass_of_methodNamed Bd.named
  have hnm := (name_of_methodNamed Bd.named Bd.method).1
  have X0 : Stand p l e ro_0 s m #[(.ref a1), (.int (0 : Int32)), (.ref a3), (.int (0 : Int32)), (.int (3 : Int32))] below meth c s₁ [] 0 0 := Stand.of_body Bd
  have e0 : s₁.heap = h0 := by rw [← hh, Bd.state]; rfl
  have N0 := Fr.nil n0
  have pre0 : ∀ t, Steps p.tables e below (s₁.setTop (mkF m 0 #[.val (.ref a1), .val (.int (0 : Int32)), .val (.ref a3), .val (.int (0 : Int32)), .val (.int (3 : Int32)), .unset, .unset] [])) t → Steps p.tables e below (s₁.setTop (entryFrame m #[(.ref a1), (.int (0 : Int32)), (.ref a3), (.int (0 : Int32)), (.int (3 : Int32))] 7)) t := fun t k => castTop (ef_8 m a1 (0 : Int32) a3 (0 : Int32) (3 : Int32)) k
  obtain ⟨cl101, Ar101, q101, S101, M101, H101, G101⟩ := id V_a
  have hat102 : cl101.slots[((0 : Int32)).toNatClampNeg]? = some (.int x1) := by rw [show ((0 : Int32)).toNatClampNeg = 0 from by decide]; exact H101 0 (by rw [S101]; decide)
  have hc20 : ¬ ((255 : Int32) < x1) := hl0
  obtain ⟨cl103, Ar103, q103, S103, M103, H103, G103⟩ := id V_d
  obtain ⟨T103, h103, X103, e103, W103, st103⟩ := stB X0 hx hZ e0 Ar103 (j := (0 : Int32)) (inb_of S103 ⟨by decide, by decide⟩) (g := (mkF m 31 #[vr a1, vi 0, vr a3, vi 0, vi 3, vi 0, vi x1] [wi (x1.toInt8.toInt32), wi 0, wr a3])) rfl rfl (hb hby d8_31)
  have V103 : Arv Z h103 a3 kd .byte (3 : Int32) [(.int (nar .byte (x1.toInt8.toInt32))), (.int (0 : Int32)), (.int (0 : Int32))] (.int (0 : Int32)) := Arv.set Ar103 q103 S103 M103 H103 G103 (fits_nar_byte _) W103 0 rfl (Nat.le_of_ble_eq_true rfl)
  have N103 := Fr.snoc X103 N0 g_a3
  have y104 := (V_a.other W103 ne)
  obtain ⟨cl105, Ar105, q105, S105, M105, H105, G105⟩ := id y104
  have hat106 : cl105.slots[((1 : Int32)).toNatClampNeg]? = some (.int x2) := by rw [show ((1 : Int32)).toNatClampNeg = 1 from by decide]; exact H105 1 (by rw [S105]; decide)
  have hc20_1 : ¬ ((255 : Int32) < x2) := hl1
  obtain ⟨cl107, Ar107, q107, S107, M107, H107, G107⟩ := id V103
  obtain ⟨T107, h107, X107, e107, W107, st107⟩ := stB X103 hx hZ e103 Ar107 (j := (1 : Int32)) (inb_of S107 ⟨by decide, by decide⟩) (g := (mkF m 31 #[vr a1, vi 1, vr a3, vi 1, vi 3, vi 1, vi x2] [wi (x2.toInt8.toInt32), wi 1, wr a3])) rfl rfl (hb hby d8_31)
  have V107 : Arv Z h107 a3 kd .byte (3 : Int32) [(.int (nar .byte (x1.toInt8.toInt32))), (.int (nar .byte (x2.toInt8.toInt32))), (.int (0 : Int32))] (.int (0 : Int32)) := Arv.set Ar107 q107 S107 M107 H107 G107 (fits_nar_byte _) W107 1 rfl (Nat.le_of_ble_eq_true rfl)
  have N107 := Fr.snoc X107 N103 g_a3
  have y108 := (y104.other W107 ne)
  obtain ⟨cl109, Ar109, q109, S109, M109, H109, G109⟩ := id y108
  have hat110 : cl109.slots[((2 : Int32)).toNatClampNeg]? = some (.int x3) := by rw [show ((2 : Int32)).toNatClampNeg = 2 from by decide]; exact H109 2 (by rw [S109]; decide)
  have hc20_2 : ¬ ((255 : Int32) < x3) := hl2
  obtain ⟨cl111, Ar111, q111, S111, M111, H111, G111⟩ := id V107
  obtain ⟨T111, h111, X111, e111, W111, st111⟩ := stB X107 hx hZ e107 Ar111 (j := (2 : Int32)) (inb_of S111 ⟨by decide, by decide⟩) (g := (mkF m 31 #[vr a1, vi 2, vr a3, vi 2, vi 3, vi 2, vi x3] [wi (x3.toInt8.toInt32), wi 2, wr a3])) rfl rfl (hb hby d8_31)
  have V111 : Arv Z h111 a3 kd .byte (3 : Int32) [(.int (nar .byte (x1.toInt8.toInt32))), (.int (nar .byte (x2.toInt8.toInt32))), (.int (nar .byte (x3.toInt8.toInt32)))] (.int (0 : Int32)) := Arv.set Ar111 q111 S111 M111 H111 G111 (fits_nar_byte _) W111 2 rfl (Nat.le_of_ble_eq_true rfl)
  have N111 := Fr.snoc X111 N107 g_a3
  have y112 := ((((Keep.refl h0 [a3]).wr W103 (Or.inl (List.mem_of_getElem? (i := 0) rfl))).wr W107 (Or.inl (List.mem_of_getElem? (i := 0) rfl))).wr W111 (Or.inl (List.mem_of_getElem? (i := 0) rfl)))
  obtain ⟨fs, hr, hrun, hended, hW, hsame⟩ := X111.leave (v := some (.int (3 : Int32))) (fun h => by rw [Bd.returns] at h; cases h)
  refine ⟨_, _, pre0 _ ?_, hrun, hended, _, _, rfl, ?_, ⟨_, rfl⟩, hW, hsame.mono (by decide) (by decide)⟩
  · show Go p e below s₁ (mkF m 0 #[vr a1, vi 0, vr a3, vi 0, vi 3, .unset, .unset] []) _
    refine XS.iconst X0.here hx rfl (hb hby d8_0) ?_
    show Go p e below s₁ (mkF m 1 #[vr a1, vi 0, vr a3, vi 0, vi 3, .unset, .unset] [wi 0]) _
    refine XS.istore X0.here hx rfl (hb hby d8_1) rfl (l' := #[.val (.ref a1), .val (.int (0 : Int32)), .val (.ref a3), .val (.int (0 : Int32)), .val (.int (3 : Int32)), .val (.int (0 : Int32)), .unset]) rfl ?_
    show Go p e below s₁ (mkF m 3 #[vr a1, vi 0, vr a3, vi 0, vi 3, vi 0, .unset] []) _
    refine XS.iload X0.here hx rfl (hb hby d8_3) rfl ?_
    show Go p e below s₁ (mkF m 5 #[vr a1, vi 0, vr a3, vi 0, vi 3, vi 0, .unset] [wi 0]) _
    refine XS.iload X0.here hx rfl (hb hby d8_5) rfl ?_
    show Go p e below s₁ (mkF m 7 #[vr a1, vi 0, vr a3, vi 0, vi 3, vi 0, .unset] [wi 3, wi 0]) _
    refine XS.icmpNo X0.here hx rfl (hb hby d8_7) rfl (tlt (by decide : (0 : Int32) < (3 : Int32))).2.1 ?_
    show Go p e below s₁ (mkF m 10 #[vr a1, vi 0, vr a3, vi 0, vi 3, vi 0, .unset] []) _
    refine XS.aloadN X0.here hx rfl (hb hby d8_10) rfl rfl ?_
    show Go p e below s₁ (mkF m 11 #[vr a1, vi 0, vr a3, vi 0, vi 3, vi 0, .unset] [wr a1]) _
    refine XS.iloadN X0.here hx rfl (hb hby d8_11) rfl ?_
    show Go p e below s₁ (mkF m 12 #[vr a1, vi 0, vr a3, vi 0, vi 3, vi 0, .unset] [wi 0, wr a1]) _
    refine X0.caload hx (j := (0 : Int32)) (v := (.int x1)) (by rw [e0]; exact Ar101.1) (State.isArrayOf_alike hZ.alike Ar101.2.1) Ar101.2.2 (inb_of S101 ⟨by decide, by decide⟩) hat102 (g := (mkF m 12 #[vr a1, vi 0, vr a3, vi 0, vi 3, vi 0, .unset] [wi 0, wr a1])) rfl rfl (hb hby d8_12) _ ?_
    show Go p e below s₁ (mkF m 13 #[vr a1, vi 0, vr a3, vi 0, vi 3, vi 0, .unset] [wi x1]) _
    refine XS.istore X0.here hx rfl (hb hby d8_13) rfl (l' := #[.val (.ref a1), .val (.int (0 : Int32)), .val (.ref a3), .val (.int (0 : Int32)), .val (.int (3 : Int32)), .val (.int (0 : Int32)), .val (.int x1)]) rfl ?_
    show Go p e below s₁ (mkF m 15 #[vr a1, vi 0, vr a3, vi 0, vi 3, vi 0, vi x1] []) _
    refine XS.iload X0.here hx rfl (hb hby d8_15) rfl ?_
    show Go p e below s₁ (mkF m 17 #[vr a1, vi 0, vr a3, vi 0, vi 3, vi 0, vi x1] [wi x1]) _
    refine XS.sipush X0.here hx rfl (hb hby d8_17) ?_
    show Go p e below s₁ (mkF m 20 #[vr a1, vi 0, vr a3, vi 0, vi 3, vi 0, vi x1] [wi 255, wi x1]) _
    refine XS.icmpYes X0.here hx rfl (pc0 := 20) (pc' := 26) rfl (hb hby d8_20) rfl (flt hc20).2.2.2 (by decide) (by decide) ?_
    show Go p e below s₁ (mkF m 26 #[vr a1, vi 0, vr a3, vi 0, vi 3, vi 0, vi x1] []) _
    refine XS.aloadN X0.here hx rfl (hb hby d8_26) rfl rfl ?_
    show Go p e below s₁ (mkF m 27 #[vr a1, vi 0, vr a3, vi 0, vi 3, vi 0, vi x1] [wr a3]) _
    refine XS.iloadN X0.here hx rfl (hb hby d8_27) rfl ?_
    show Go p e below s₁ (mkF m 28 #[vr a1, vi 0, vr a3, vi 0, vi 3, vi 0, vi x1] [wi 0, wr a3]) _
    refine XS.iload X0.here hx rfl (hb hby d8_28) rfl ?_
    show Go p e below s₁ (mkF m 30 #[vr a1, vi 0, vr a3, vi 0, vi 3, vi 0, vi x1] [wi x1, wi 0, wr a3]) _
    refine XS.i2b X0.here hx rfl (hb hby d8_30) rfl ?_
    show Go p e below s₁ (mkF m 31 #[vr a1, vi 0, vr a3, vi 0, vi 3, vi 0, vi x1] [wi (x1.toInt8.toInt32), wi 0, wr a3]) _
    refine st103 _ ?_
    show Go p e below T103 (mkF m 32 #[vr a1, vi 0, vr a3, vi 0, vi 3, vi 0, vi x1] []) _
    refine XS.iinc X103.here hx rfl (hb hby d8_32) rfl (l' := #[.val (.ref a1), .val (.int (1 : Int32)), .val (.ref a3), .val (.int (0 : Int32)), .val (.int (3 : Int32)), .val (.int (0 : Int32)), .val (.int x1)]) rfl ?_
    show Go p e below T103 (mkF m 35 #[vr a1, vi 1, vr a3, vi 0, vi 3, vi 0, vi x1] []) _
    refine XS.iinc X103.here hx rfl (hb hby d8_35) rfl (l' := #[.val (.ref a1), .val (.int (1 : Int32)), .val (.ref a3), .val (.int (1 : Int32)), .val (.int (3 : Int32)), .val (.int (0 : Int32)), .val (.int x1)]) rfl ?_
    show Go p e below T103 (mkF m 38 #[vr a1, vi 1, vr a3, vi 1, vi 3, vi 0, vi x1] []) _
    refine XS.iinc X103.here hx rfl (hb hby d8_38) rfl (l' := #[.val (.ref a1), .val (.int (1 : Int32)), .val (.ref a3), .val (.int (1 : Int32)), .val (.int (3 : Int32)), .val (.int (1 : Int32)), .val (.int x1)]) rfl ?_
    show Go p e below T103 (mkF m 41 #[vr a1, vi 1, vr a3, vi 1, vi 3, vi 1, vi x1] []) _
    refine XS.goto X103.here hx rfl (pc0 := 41) (pc' := 3) rfl (hb hby d8_41) (by decide) (by decide) ?_
    show Go p e below T103 (mkF m 3 #[vr a1, vi 1, vr a3, vi 1, vi 3, vi 1, vi x1] []) _
    refine XS.iload X103.here hx rfl (hb hby d8_3) rfl ?_
    show Go p e below T103 (mkF m 5 #[vr a1, vi 1, vr a3, vi 1, vi 3, vi 1, vi x1] [wi 1]) _
    refine XS.iload X103.here hx rfl (hb hby d8_5) rfl ?_
    show Go p e below T103 (mkF m 7 #[vr a1, vi 1, vr a3, vi 1, vi 3, vi 1, vi x1] [wi 3, wi 1]) _
    refine XS.icmpNo X103.here hx rfl (hb hby d8_7) rfl (tlt (by decide : (1 : Int32) < (3 : Int32))).2.1 ?_
    show Go p e below T103 (mkF m 10 #[vr a1, vi 1, vr a3, vi 1, vi 3, vi 1, vi x1] []) _
    refine XS.aloadN X103.here hx rfl (hb hby d8_10) rfl rfl ?_
    show Go p e below T103 (mkF m 11 #[vr a1, vi 1, vr a3, vi 1, vi 3, vi 1, vi x1] [wr a1]) _
    refine XS.iloadN X103.here hx rfl (hb hby d8_11) rfl ?_
    show Go p e below T103 (mkF m 12 #[vr a1, vi 1, vr a3, vi 1, vi 3, vi 1, vi x1] [wi 1, wr a1]) _
    refine X103.caload hx (j := (1 : Int32)) (v := (.int x2)) (by rw [e103]; exact Ar105.1) (State.isArrayOf_alike hZ.alike Ar105.2.1) Ar105.2.2 (inb_of S105 ⟨by decide, by decide⟩) hat106 (g := (mkF m 12 #[vr a1, vi 1, vr a3, vi 1, vi 3, vi 1, vi x1] [wi 1, wr a1])) rfl rfl (hb hby d8_12) _ ?_
    show Go p e below T103 (mkF m 13 #[vr a1, vi 1, vr a3, vi 1, vi 3, vi 1, vi x1] [wi x2]) _
    refine XS.istore X103.here hx rfl (hb hby d8_13) rfl (l' := #[.val (.ref a1), .val (.int (1 : Int32)), .val (.ref a3), .val (.int (1 : Int32)), .val (.int (3 : Int32)), .val (.int (1 : Int32)), .val (.int x2)]) rfl ?_
    show Go p e below T103 (mkF m 15 #[vr a1, vi 1, vr a3, vi 1, vi 3, vi 1, vi x2] []) _
    refine XS.iload X103.here hx rfl (hb hby d8_15) rfl ?_
    show Go p e below T103 (mkF m 17 #[vr a1, vi 1, vr a3, vi 1, vi 3, vi 1, vi x2] [wi x2]) _
    refine XS.sipush X103.here hx rfl (hb hby d8_17) ?_
    show Go p e below T103 (mkF m 20 #[vr a1, vi 1, vr a3, vi 1, vi 3, vi 1, vi x2] [wi 255, wi x2]) _
    refine XS.icmpYes X103.here hx rfl (pc0 := 20) (pc' := 26) rfl (hb hby d8_20) rfl (flt hc20_1).2.2.2 (by decide) (by decide) ?_
    show Go p e below T103 (mkF m 26 #[vr a1, vi 1, vr a3, vi 1, vi 3, vi 1, vi x2] []) _
    refine XS.aloadN X103.here hx rfl (hb hby d8_26) rfl rfl ?_
    show Go p e below T103 (mkF m 27 #[vr a1, vi 1, vr a3, vi 1, vi 3, vi 1, vi x2] [wr a3]) _
    refine XS.iloadN X103.here hx rfl (hb hby d8_27) rfl ?_
    show Go p e below T103 (mkF m 28 #[vr a1, vi 1, vr a3, vi 1, vi 3, vi 1, vi x2] [wi 1, wr a3]) _
    refine XS.iload X103.here hx rfl (hb hby d8_28) rfl ?_
    show Go p e below T103 (mkF m 30 #[vr a1, vi 1, vr a3, vi 1, vi 3, vi 1, vi x2] [wi x2, wi 1, wr a3]) _
    refine XS.i2b X103.here hx rfl (hb hby d8_30) rfl ?_
    show Go p e below T103 (mkF m 31 #[vr a1, vi 1, vr a3, vi 1, vi 3, vi 1, vi x2] [wi (x2.toInt8.toInt32), wi 1, wr a3]) _
    refine st107 _ ?_
    show Go p e below T107 (mkF m 32 #[vr a1, vi 1, vr a3, vi 1, vi 3, vi 1, vi x2] []) _
    refine XS.iinc X107.here hx rfl (hb hby d8_32) rfl (l' := #[.val (.ref a1), .val (.int (2 : Int32)), .val (.ref a3), .val (.int (1 : Int32)), .val (.int (3 : Int32)), .val (.int (1 : Int32)), .val (.int x2)]) rfl ?_
    show Go p e below T107 (mkF m 35 #[vr a1, vi 2, vr a3, vi 1, vi 3, vi 1, vi x2] []) _
    refine XS.iinc X107.here hx rfl (hb hby d8_35) rfl (l' := #[.val (.ref a1), .val (.int (2 : Int32)), .val (.ref a3), .val (.int (2 : Int32)), .val (.int (3 : Int32)), .val (.int (1 : Int32)), .val (.int x2)]) rfl ?_
    show Go p e below T107 (mkF m 38 #[vr a1, vi 2, vr a3, vi 2, vi 3, vi 1, vi x2] []) _
    refine XS.iinc X107.here hx rfl (hb hby d8_38) rfl (l' := #[.val (.ref a1), .val (.int (2 : Int32)), .val (.ref a3), .val (.int (2 : Int32)), .val (.int (3 : Int32)), .val (.int (2 : Int32)), .val (.int x2)]) rfl ?_
    show Go p e below T107 (mkF m 41 #[vr a1, vi 2, vr a3, vi 2, vi 3, vi 2, vi x2] []) _
    refine XS.goto X107.here hx rfl (pc0 := 41) (pc' := 3) rfl (hb hby d8_41) (by decide) (by decide) ?_
    show Go p e below T107 (mkF m 3 #[vr a1, vi 2, vr a3, vi 2, vi 3, vi 2, vi x2] []) _
    refine XS.iload X107.here hx rfl (hb hby d8_3) rfl ?_
    show Go p e below T107 (mkF m 5 #[vr a1, vi 2, vr a3, vi 2, vi 3, vi 2, vi x2] [wi 2]) _
    refine XS.iload X107.here hx rfl (hb hby d8_5) rfl ?_
    show Go p e below T107 (mkF m 7 #[vr a1, vi 2, vr a3, vi 2, vi 3, vi 2, vi x2] [wi 3, wi 2]) _
    refine XS.icmpNo X107.here hx rfl (hb hby d8_7) rfl (tlt (by decide : (2 : Int32) < (3 : Int32))).2.1 ?_
    show Go p e below T107 (mkF m 10 #[vr a1, vi 2, vr a3, vi 2, vi 3, vi 2, vi x2] []) _
    refine XS.aloadN X107.here hx rfl (hb hby d8_10) rfl rfl ?_
    show Go p e below T107 (mkF m 11 #[vr a1, vi 2, vr a3, vi 2, vi 3, vi 2, vi x2] [wr a1]) _
    refine XS.iloadN X107.here hx rfl (hb hby d8_11) rfl ?_
    show Go p e below T107 (mkF m 12 #[vr a1, vi 2, vr a3, vi 2, vi 3, vi 2, vi x2] [wi 2, wr a1]) _
    refine X107.caload hx (j := (2 : Int32)) (v := (.int x3)) (by rw [e107]; exact Ar109.1) (State.isArrayOf_alike hZ.alike Ar109.2.1) Ar109.2.2 (inb_of S109 ⟨by decide, by decide⟩) hat110 (g := (mkF m 12 #[vr a1, vi 2, vr a3, vi 2, vi 3, vi 2, vi x2] [wi 2, wr a1])) rfl rfl (hb hby d8_12) _ ?_
    show Go p e below T107 (mkF m 13 #[vr a1, vi 2, vr a3, vi 2, vi 3, vi 2, vi x2] [wi x3]) _
    refine XS.istore X107.here hx rfl (hb hby d8_13) rfl (l' := #[.val (.ref a1), .val (.int (2 : Int32)), .val (.ref a3), .val (.int (2 : Int32)), .val (.int (3 : Int32)), .val (.int (2 : Int32)), .val (.int x3)]) rfl ?_
    show Go p e below T107 (mkF m 15 #[vr a1, vi 2, vr a3, vi 2, vi 3, vi 2, vi x3] []) _
    refine XS.iload X107.here hx rfl (hb hby d8_15) rfl ?_
    show Go p e below T107 (mkF m 17 #[vr a1, vi 2, vr a3, vi 2, vi 3, vi 2, vi x3] [wi x3]) _
    refine XS.sipush X107.here hx rfl (hb hby d8_17) ?_
    show Go p e below T107 (mkF m 20 #[vr a1, vi 2, vr a3, vi 2, vi 3, vi 2, vi x3] [wi 255, wi x3]) _
    refine XS.icmpYes X107.here hx rfl (pc0 := 20) (pc' := 26) rfl (hb hby d8_20) rfl (flt hc20_2).2.2.2 (by decide) (by decide) ?_
    show Go p e below T107 (mkF m 26 #[vr a1, vi 2, vr a3, vi 2, vi 3, vi 2, vi x3] []) _
    refine XS.aloadN X107.here hx rfl (hb hby d8_26) rfl rfl ?_
    show Go p e below T107 (mkF m 27 #[vr a1, vi 2, vr a3, vi 2, vi 3, vi 2, vi x3] [wr a3]) _
    refine XS.iloadN X107.here hx rfl (hb hby d8_27) rfl ?_
    show Go p e below T107 (mkF m 28 #[vr a1, vi 2, vr a3, vi 2, vi 3, vi 2, vi x3] [wi 2, wr a3]) _
    refine XS.iload X107.here hx rfl (hb hby d8_28) rfl ?_
    show Go p e below T107 (mkF m 30 #[vr a1, vi 2, vr a3, vi 2, vi 3, vi 2, vi x3] [wi x3, wi 2, wr a3]) _
    refine XS.i2b X107.here hx rfl (hb hby d8_30) rfl ?_
    show Go p e below T107 (mkF m 31 #[vr a1, vi 2, vr a3, vi 2, vi 3, vi 2, vi x3] [wi (x3.toInt8.toInt32), wi 2, wr a3]) _
    refine st111 _ ?_
    show Go p e below T111 (mkF m 32 #[vr a1, vi 2, vr a3, vi 2, vi 3, vi 2, vi x3] []) _
    refine XS.iinc X111.here hx rfl (hb hby d8_32) rfl (l' := #[.val (.ref a1), .val (.int (3 : Int32)), .val (.ref a3), .val (.int (2 : Int32)), .val (.int (3 : Int32)), .val (.int (2 : Int32)), .val (.int x3)]) rfl ?_
    show Go p e below T111 (mkF m 35 #[vr a1, vi 3, vr a3, vi 2, vi 3, vi 2, vi x3] []) _
    refine XS.iinc X111.here hx rfl (hb hby d8_35) rfl (l' := #[.val (.ref a1), .val (.int (3 : Int32)), .val (.ref a3), .val (.int (3 : Int32)), .val (.int (3 : Int32)), .val (.int (2 : Int32)), .val (.int x3)]) rfl ?_
    show Go p e below T111 (mkF m 38 #[vr a1, vi 3, vr a3, vi 3, vi 3, vi 2, vi x3] []) _
    refine XS.iinc X111.here hx rfl (hb hby d8_38) rfl (l' := #[.val (.ref a1), .val (.int (3 : Int32)), .val (.ref a3), .val (.int (3 : Int32)), .val (.int (3 : Int32)), .val (.int (3 : Int32)), .val (.int x3)]) rfl ?_
    show Go p e below T111 (mkF m 41 #[vr a1, vi 3, vr a3, vi 3, vi 3, vi 3, vi x3] []) _
    refine XS.goto X111.here hx rfl (pc0 := 41) (pc' := 3) rfl (hb hby d8_41) (by decide) (by decide) ?_
    show Go p e below T111 (mkF m 3 #[vr a1, vi 3, vr a3, vi 3, vi 3, vi 3, vi x3] []) _
    refine XS.iload X111.here hx rfl (hb hby d8_3) rfl ?_
    show Go p e below T111 (mkF m 5 #[vr a1, vi 3, vr a3, vi 3, vi 3, vi 3, vi x3] [wi 3]) _
    refine XS.iload X111.here hx rfl (hb hby d8_5) rfl ?_
    show Go p e below T111 (mkF m 7 #[vr a1, vi 3, vr a3, vi 3, vi 3, vi 3, vi x3] [wi 3, wi 3]) _
    refine XS.icmpYes X111.here hx rfl (pc0 := 7) (pc' := 44) rfl (hb hby d8_7) rfl (flt (by decide : ¬ ((3 : Int32) < (3 : Int32)))).2.1 (by decide) (by decide) ?_
    show Go p e below T111 (mkF m 44 #[vr a1, vi 3, vr a3, vi 3, vi 3, vi 3, vi x3] []) _
    refine XS.iload X111.here hx rfl (hb hby d8_44) rfl ?_
    show Go p e below T111 (mkF m 46 #[vr a1, vi 3, vr a3, vi 3, vi 3, vi 3, vi x3] [wi 3]) _
    exact retI X111 hx Bd.returns (hb hby d8_46) hr
  · show QGB Z a3 kd (3 : Int32) [.int (StrChars.lo8 x1), .int (StrChars.lo8 x2), .int (StrChars.lo8 x3)] (some (.int (3 : Int32))) h0 n0 _ T111.heap _
    rw [e111]
    exact ⟨rfl, N111, y112, (by have q := V111; rw [own_rawL x1, own_rawL x2, own_rawL x3] at q; exact q)⟩
set_option maxRecDepth 65536 in
set_option maxHeartbeats 40000000 in
theorem rmC5_3_0 (l : Launch) (Z : State) (a0 : Array Value) (hw : ∀ d ∈ tables_1, d.before a0 Z = true) (ws : List Jvm.Cond) (a1 : Addr) (a3 : Addr) (ka : ClassId) (kd : ClassId) (x1 : Int32) (x2 : Int32) (x3 : Int32) (h0 : Heap) (n0 : Nat) (X00 : Old Z n0 h0) (V_a : Arv Z h0 a1 ka .char (3 : Int32) [(.int x1), (.int x2), (.int x3)] (.int (0 : Int32))) (V_d : Arv Z h0 a3 kd .byte (3 : Int32) [.int (0 : Int32), .int (0 : Int32), .int (0 : Int32)] (.int (0 : Int32))) (g_a3 : n0 ≤ a3) (ne : a1 ≠ a3) (hg : (255 : Int32) < x1) :
    MetFree l mn_19 (head1 (Jvm.Cond.code mn_19 jdk_52_method_21_code 7 (some .int) :: ws) ro_0) (fun a U => a = #[(.ref a1), (.int (0 : Int32)), (.ref a3), (.int (0 : Int32)), (.int (3 : Int32))] ∧ Z.Warmed39 U.vm ∧ U.heap = h0) (fun _ _ _ _ _ => True) (fun _ U o U' => ∃ rv rL, o = .returned rv ∧ QK a3 (some (.int (0 : Int32))) h0 n0 rv U'.heap rL ∧ FrameEnd U o U' rL ro_0.cells ro_0.slots) := by
  refine MetFree.of_bodySF (plainFor_of_name pn_8) hisR ?_
  intro p e s m args below meth c s₁ Bd hml0 hP hK
  obtain ⟨rfl, hZ, hh⟩ := hP
  have hx := Bd.exec
  have hby := Bd.bytes
  have hml : c.maxLocals = 7 := hml0
  have hown : s.vm.findClass "java/lang/StringUTF16" = some m.cls := findClass_of_methodNamed Bd.named
  have hnm := (name_of_methodNamed Bd.named Bd.method).1
  have X0 : Stand p l e ro_0 s m #[(.ref a1), (.int (0 : Int32)), (.ref a3), (.int (0 : Int32)), (.int (3 : Int32))] below meth c s₁ [] 0 0 := Stand.of_body Bd
  have e0 : s₁.heap = h0 := by rw [← hh, Bd.state]; rfl
  have N0 := Fr.nil n0
  have pre0 : ∀ t, Steps p.tables e below (s₁.setTop (mkF m 0 #[.val (.ref a1), .val (.int (0 : Int32)), .val (.ref a3), .val (.int (0 : Int32)), .val (.int (3 : Int32)), .unset, .unset] [])) t → Steps p.tables e below (s₁.setTop (entryFrame m #[(.ref a1), (.int (0 : Int32)), (.ref a3), (.int (0 : Int32)), (.int (3 : Int32))] 7)) t := fun t k => castTop (ef_8 m a1 (0 : Int32) a3 (0 : Int32) (3 : Int32)) k
  obtain ⟨cl101, Ar101, q101, S101, M101, H101, G101⟩ := id V_a
  have hat102 : cl101.slots[((0 : Int32)).toNatClampNeg]? = some (.int x1) := by rw [show ((0 : Int32)).toNatClampNeg = 0 from by decide]; exact H101 0 (by rw [S101]; decide)
  have hc20 : (255 : Int32) < x1 := hg
  obtain ⟨fs, hr, hrun, hended, hW, hsame⟩ := X0.leave (v := some (.int (0 : Int32))) (fun h => by rw [Bd.returns] at h; cases h)
  refine ⟨_, _, pre0 _ ?_, hrun, hended, _, _, rfl, ?_, ⟨_, rfl⟩, hW, hsame.mono (by decide) (by decide)⟩
  · show Go p e below s₁ (mkF m 0 #[vr a1, vi 0, vr a3, vi 0, vi 3, .unset, .unset] []) _
    refine XS.iconst X0.here hx rfl (hb hby d8_0) ?_
    show Go p e below s₁ (mkF m 1 #[vr a1, vi 0, vr a3, vi 0, vi 3, .unset, .unset] [wi 0]) _
    refine XS.istore X0.here hx rfl (hb hby d8_1) rfl (l' := #[.val (.ref a1), .val (.int (0 : Int32)), .val (.ref a3), .val (.int (0 : Int32)), .val (.int (3 : Int32)), .val (.int (0 : Int32)), .unset]) rfl ?_
    show Go p e below s₁ (mkF m 3 #[vr a1, vi 0, vr a3, vi 0, vi 3, vi 0, .unset] []) _
    refine XS.iload X0.here hx rfl (hb hby d8_3) rfl ?_
    show Go p e below s₁ (mkF m 5 #[vr a1, vi 0, vr a3, vi 0, vi 3, vi 0, .unset] [wi 0]) _
    refine XS.iload X0.here hx rfl (hb hby d8_5) rfl ?_
    show Go p e below s₁ (mkF m 7 #[vr a1, vi 0, vr a3, vi 0, vi 3, vi 0, .unset] [wi 3, wi 0]) _
    refine XS.icmpNo X0.here hx rfl (hb hby d8_7) rfl (tlt (by decide : (0 : Int32) < (3 : Int32))).2.1 ?_
    show Go p e below s₁ (mkF m 10 #[vr a1, vi 0, vr a3, vi 0, vi 3, vi 0, .unset] []) _
    refine XS.aloadN X0.here hx rfl (hb hby d8_10) rfl rfl ?_
    show Go p e below s₁ (mkF m 11 #[vr a1, vi 0, vr a3, vi 0, vi 3, vi 0, .unset] [wr a1]) _
    refine XS.iloadN X0.here hx rfl (hb hby d8_11) rfl ?_
    show Go p e below s₁ (mkF m 12 #[vr a1, vi 0, vr a3, vi 0, vi 3, vi 0, .unset] [wi 0, wr a1]) _
    refine X0.caload hx (j := (0 : Int32)) (v := (.int x1)) (by rw [e0]; exact Ar101.1) (State.isArrayOf_alike hZ.alike Ar101.2.1) Ar101.2.2 (inb_of S101 ⟨by decide, by decide⟩) hat102 (g := (mkF m 12 #[vr a1, vi 0, vr a3, vi 0, vi 3, vi 0, .unset] [wi 0, wr a1])) rfl rfl (hb hby d8_12) _ ?_
    show Go p e below s₁ (mkF m 13 #[vr a1, vi 0, vr a3, vi 0, vi 3, vi 0, .unset] [wi x1]) _
    refine XS.istore X0.here hx rfl (hb hby d8_13) rfl (l' := #[.val (.ref a1), .val (.int (0 : Int32)), .val (.ref a3), .val (.int (0 : Int32)), .val (.int (3 : Int32)), .val (.int (0 : Int32)), .val (.int x1)]) rfl ?_
    show Go p e below s₁ (mkF m 15 #[vr a1, vi 0, vr a3, vi 0, vi 3, vi 0, vi x1] []) _
    refine XS.iload X0.here hx rfl (hb hby d8_15) rfl ?_
    show Go p e below s₁ (mkF m 17 #[vr a1, vi 0, vr a3, vi 0, vi 3, vi 0, vi x1] [wi x1]) _
    refine XS.sipush X0.here hx rfl (hb hby d8_17) ?_
    show Go p e below s₁ (mkF m 20 #[vr a1, vi 0, vr a3, vi 0, vi 3, vi 0, vi x1] [wi 255, wi x1]) _
    refine XS.icmpNo X0.here hx rfl (hb hby d8_20) rfl (tlt hc20).2.2.2 ?_
    show Go p e below s₁ (mkF m 23 #[vr a1, vi 0, vr a3, vi 0, vi 3, vi 0, vi x1] []) _
    refine XS.iload X0.here hx rfl (hb hby d8_23) rfl ?_
    show Go p e below s₁ (mkF m 25 #[vr a1, vi 0, vr a3, vi 0, vi 3, vi 0, vi x1] [wi 0]) _
    exact retI X0 hx Bd.returns (hb hby d8_25) hr
  · show QK a3 (some (.int (0 : Int32))) h0 n0 _ s₁.heap _
    rw [e0]
    exact ⟨rfl, N0, (Keep.refl h0 [a3])⟩
set_option maxRecDepth 65536 in
set_option maxHeartbeats 40000000 in
theorem rm_newBytesLength_3 (l : Launch) (Z : State) (a0 : Array Value) (hw : ∀ d ∈ tables_1, d.before a0 Z = true) (ws : List Jvm.Cond)  (h0 : Heap) (n0 : Nat) (X00 : Old Z n0 h0) :
    MetFree l mn_23 (head1 (Jvm.Cond.code mn_23 jdk_52_method_3_code 1 (some .int) :: ws) ({ frames := 0, cells := 0, slots := 0, locals := 0 } : Room)) (fun a U => a = #[(.int (3 : Int32))] ∧ Z.Warmed39 U.vm ∧ U.heap = h0) (fun _ _ _ _ _ => True) (fun _ U o U' => ∃ rv rL, o = .returned rv ∧ Qs (some (.int (6 : Int32))) h0 n0 rv U'.heap rL ∧ FrameEnd U o U' rL ({ frames := 0, cells := 0, slots := 0, locals := 0 } : Room).cells ({ frames := 0, cells := 0, slots := 0, locals := 0 } : Room).slots) := by
  refine MetFree.of_bodySF (plainFor_of_name pn_22) hisR ?_
  intro p e s m args below meth c s₁ Bd hml0 hP hK
  obtain ⟨rfl, hZ, hh⟩ := hP
  have hx := Bd.exec
  have hby := Bd.bytes
  have hml : c.maxLocals = 1 := hml0
  have hown : s.vm.findClass "java/lang/StringUTF16" = some m.cls := findClass_of_methodNamed Bd.named
  have hnm := (name_of_methodNamed Bd.named Bd.method).1
  have X0 : Stand p l e ({ frames := 0, cells := 0, slots := 0, locals := 0 } : Room) s m #[(.int (3 : Int32))] below meth c s₁ [] 0 0 := Stand.of_body Bd
  have e0 : s₁.heap = h0 := by rw [← hh, Bd.state]; rfl
  have N0 := Fr.nil n0
  have pre0 : ∀ t, Steps p.tables e below (s₁.setTop (mkF m 0 #[.val (.int (3 : Int32))] [])) t → Steps p.tables e below (s₁.setTop (entryFrame m #[(.int (3 : Int32))] 1)) t := fun t k => castTop (ef_22 m (3 : Int32)) k
  obtain ⟨fs, hr, hrun, hended, hW, hsame⟩ := X0.leave (v := some (.int (6 : Int32))) (fun h => by rw [Bd.returns] at h; cases h)
  refine ⟨_, _, pre0 _ ?_, hrun, hended, _, _, rfl, ?_, ⟨_, rfl⟩, hW, hsame.mono (by decide) (by decide)⟩
  · show Go p e below s₁ (mkF m 0 #[vi 3] []) _
    refine XS.iloadN X0.here hx rfl (hb hby d22_0) rfl ?_
    show Go p e below s₁ (mkF m 1 #[vi 3] [wi 3]) _
    refine XS.ifYes X0.here hx rfl (pc0 := 1) (pc' := 12) rfl (hb hby d22_1) rfl ((if0 _ _).trans (flt (by decide : ¬ ((3 : Int32) < (0 : Int32)))).2.1) (by decide) (by decide) ?_
    show Go p e below s₁ (mkF m 12 #[vi 3] []) _
    refine XS.iloadN X0.here hx rfl (hb hby d22_12) rfl ?_
    show Go p e below s₁ (mkF m 13 #[vi 3] [wi 3]) _
    refine X0.ldcInt hx hown (mvT hZ (tw hw 95 rfl)) (g := (mkF m 13 #[vi 3] [wi 3])) rfl (hb hby d22_13) _ ?_
    show Go p e below s₁ (mkF m 15 #[vi 3] [wi 1073741823, wi 3]) _
    refine XS.icmpYes X0.here hx rfl (pc0 := 15) (pc' := 55) rfl (hb hby d22_15) rfl (tlt (by decide : (3 : Int32) < (1073741823 : Int32))).1 (by decide) (by decide) ?_
    show Go p e below s₁ (mkF m 55 #[vi 3] []) _
    refine XS.iloadN X0.here hx rfl (hb hby d22_55) rfl ?_
    show Go p e below s₁ (mkF m 56 #[vi 3] [wi 3]) _
    refine XS.iconst X0.here hx rfl (hb hby d22_56) ?_
    show Go p e below s₁ (mkF m 57 #[vi 3] [wi 1, wi 3]) _
    refine XS.ishl X0.here hx rfl (hb hby d22_57) rfl ?_
    show Go p e below s₁ (mkF m 58 #[vi 3] [wi 6]) _
    exact retI X0 hx Bd.returns (hb hby d22_58) hr
  · show Qs (some (.int (6 : Int32))) h0 n0 _ s₁.heap _
    rw [e0]
    exact ⟨rfl, N0, rfl⟩
set_option maxRecDepth 65536 in
set_option maxHeartbeats 40000000 in
theorem rmNBF_3 (l : Launch) (Z : State) (a0 : Array Value) (hw : ∀ d ∈ tables_1, d.before a0 Z = true) (ws : List Jvm.Cond)  (h0 : Heap) (n0 : Nat) (X00 : Old Z n0 h0) :
    MetFree l mn_22 (head1 (Jvm.Cond.code mn_22 jdk_52_method_2_code 1 (some (.array .byte)) :: ws) ro_10) (fun a U => a = #[(.int (3 : Int32))] ∧ Z.Warmed39 U.vm ∧ U.heap = h0) (fun _ _ _ _ _ => True) (fun _ U o U' => ∃ rv rL, o = .returned rv ∧ QAr Z (6 : Int32) cv_1 h0 n0 rv U'.heap rL ∧ FrameEnd U o U' rL ro_10.cells ro_10.slots) := by
  refine MetFree.of_bodySF (plainFor_of_name pn_21) hisR ?_
  intro p e s m args below meth c s₁ Bd hml0 hP hK
  obtain ⟨rfl, hZ, hh⟩ := hP
  have hx := Bd.exec
  have hby := Bd.bytes
  have hml : c.maxLocals = 1 := hml0
  have hown : s.vm.findClass "java/lang/StringUTF16" = some m.cls := findClass_of_methodNamed Bd.named
  have hnm := (name_of_methodNamed Bd.named Bd.method).1
  have X0 : Stand p l e ro_10 s m #[(.int (3 : Int32))] below meth c s₁ [] 0 0 := Stand.of_body Bd
  have e0 : s₁.heap = h0 := by rw [← hh, Bd.state]; rfl
  have N0 := Fr.nil n0
  have pre0 : ∀ t, Steps p.tables e below (s₁.setTop (mkF m 0 #[.val (.int (3 : Int32))] [])) t → Steps p.tables e below (s₁.setTop (entryFrame m #[(.int (3 : Int32))] 1)) t := fun t k => castTop (ef_21 m (3 : Int32)) k
  obtain ⟨_, _, ⟨T101, L101, k101, n101⟩, -, X101, ⟨Lc101, hQ101, l101, y101, z101⟩, st101⟩ := Jvm.LawKit.callS X0 hx (y := mn_23) hown (mvT hZ (tw hw 92 rfl)) (mvT hZ (tw hw 93 rfl)) (mvT hZ (tw hw 27 rfl)) (mvT hZ (tw hw 94 rfl)) (by decide) (backOf (W := 0) (rm_newBytesLength_3 l Z a0 hw []  h0 n0 X00 ) hZ (tw hw 94 rfl) (tw hw 27 rfl) (by decide) (by decide)) (g := (mkF m 1 #[vi 3] [wi 3])) rfl (by rw [hml]; rfl) (argsL := [wi 3]) (rest := []) (lenOf pd_I_I rfl) rfl (Nat.le_refl _) (hb hby d21_1) (fun _ _ => ⟨rfl, e0, (by decide : 0 + 0 ≤ _), (by decide : 0 + 0 ≤ _)⟩)
  dsimp only [Pt.U, Pt.locs, Pt.cells, Pt.slots] at X101 l101 y101 z101 st101 hQ101
  subst l101 y101 z101
  obtain ⟨rfl, N101q, eq101⟩ := hQ101
  have N101 := Fr.app N0 N101q
  obtain ⟨T102, h102, k102, X102, e102, E102, A102, st102⟩ := newP X101 hx hZ (tw hw 29 rfl) eq101 (g := (mkF m 4 #[vi 3] [wi 6])) rfl (hb hby d21_4) rfl (by decide) (cap := 6) (by decide) (by decide) (by decide) (by decide)
  obtain ⟨b102, g102⟩ : ∃ z, z = h0.size := ⟨_, rfl⟩
  rw [← g102] at A102 st102
  have g_b102 : n0 ≤ b102 := Nat.le_trans (own_le X00) (Nat.le_of_eq g102.symm)
  have sz_b102 : h0.size ≤ b102 := Nat.le_trans (Keep.refl h0 []).1 (Nat.le_of_eq g102.symm)
  have V102 : Arv Z h102 b102 k102 .byte (6 : Int32) [(.int (0 : Int32)), (.int (0 : Int32)), (.int (0 : Int32)), (.int (0 : Int32)), (.int (0 : Int32)), (.int (0 : Int32))] (.int (0 : Int32)) := (Arv.new A102 (by decide)).pad (pad_rep [] (.int (0 : Int32)) 6)
  have y103 := ((Keep.refl h0 []).ext E102)
  obtain ⟨fs, hr, hrun, hended, hW, hsame⟩ := X102.leave (v := some (.ref b102)) (fun h => by rw [Bd.returns] at h; cases h)
  refine ⟨_, _, pre0 _ ?_, hrun, hended, _, _, rfl, ?_, ⟨_, rfl⟩, hW, hsame.mono (by decide) (by decide)⟩
  · show Go p e below s₁ (mkF m 0 #[vi 3] []) _
    refine XS.iloadN X0.here hx rfl (hb hby d21_0) rfl ?_
    show Go p e below s₁ (mkF m 1 #[vi 3] [wi 3]) _
    refine st101 _ ?_
    show Go p e below T101 (mkF m 4 #[vi 3] [wi 6]) _
    refine st102 _ ?_
    show Go p e below T102 (mkF m 6 #[vi 3] [wr b102]) _
    jvm_step X102.here [X102.here.top, hx, (hb hby d21_6), X102.method', Bd.returns, Value.isRef, FieldType.isReference]
    first | (intro acts; rw [hr _ acts rfl rfl rfl]) | rw [hr _ _ rfl rfl rfl]
    exact Steps.refl _
  · show QAr Z (6 : Int32) cv_1 h0 n0 _ T102.heap _
    rw [e102]
    exact ⟨_, _, rfl, N101, y103, g_b102, sz_b102, V102⟩
set_option maxRecDepth 65536 in
set_option maxHeartbeats 40000000 in
theorem rmPut_3_0 (l : Launch) (Z : State) (a0 : Array Value) (hw : ∀ d ∈ tables_1, d.before a0 Z = true) (ws : List Jvm.Cond) (a1 : Addr) (p3 : Int32) (ka : ClassId) (h0 : Heap) (n0 : Nat) (X00 : Old Z n0 h0) (SA : pSA Z) (SH : pSH Z) (SL : pSL Z) (V_a : Arv Z h0 a1 ka .byte (6 : Int32) cv_1 (.int (0 : Int32))) (g_a1 : n0 ≤ a1) :
    MetFree l mn_24 (head1 (Jvm.Cond.code mn_24 jdk_52_method_4_code 3 none :: ws) ro_0) (fun a U => a = #[(.ref a1), (.int (0 : Int32)), (.int p3)] ∧ Z.Warmed39 U.vm ∧ U.heap = h0) (fun _ _ _ _ _ => True) (fun _ U o U' => ∃ rv rL, o = .returned rv ∧ QGB Z a1 ka (6 : Int32) (.int (StrChars.lo8 p3) :: .int (StrChars.hi8 p3) :: cv_0) none h0 n0 rv U'.heap rL ∧ FrameEnd U o U' rL ro_0.cells ro_0.slots) := by
  refine MetFree.of_bodySF (plainFor_of_name pn_23) hisR ?_
  intro p e s m args below meth c s₁ Bd hml0 hP hK
  obtain ⟨rfl, hZ, hh⟩ := hP
  have hx := Bd.exec
  have hby := Bd.bytes
  have hml : c.maxLocals = 3 := hml0
  have hown : s.vm.findClass "java/lang/StringUTF16" = some m.cls := findClass_of_methodNamed Bd.named
  have hnm := (name_of_methodNamed Bd.named Bd.method).1
  have X0 : Stand p l e ro_0 s m #[(.ref a1), (.int (0 : Int32)), (.int p3)] below meth c s₁ [] 0 0 := Stand.of_body Bd
  have e0 : s₁.heap = h0 := by rw [← hh, Bd.state]; rfl
  have N0 := Fr.nil n0
  have pre0 : ∀ t, Steps p.tables e below (s₁.setTop (mkF m 0 #[.val (.ref a1), .val (.int (0 : Int32)), .val (.int p3)] [])) t → Steps p.tables e below (s₁.setTop (entryFrame m #[(.ref a1), (.int (0 : Int32)), (.int p3)] 3)) t := fun t k => castTop (ef_23 m a1 (0 : Int32) p3) k
  obtain ⟨T101, X101, e101, st101⟩ := getS2 X0 hx hZ hown (host := "") (Or.inl (tw hw 99 rfl)) Via.refl e0 (SA.ext X00.2) (g := (mkF m 0 #[vr a1, vi 0, vi p3] [])) rfl (hb hby d23_0)
  obtain ⟨T102, X102, e102, st102⟩ := getS2 X101 hx hZ hown (host := "") (Or.inl (tw hw 100 rfl)) Via.refl e101 (SH.ext X00.2) (g := (mkF m 38 #[vr a1, vi 1, vi p3] [wi p3, wi 0, wr a1])) rfl (hb hby d23_38)
  obtain ⟨cl103, Ar103, q103, S103, M103, H103, G103⟩ := id V_a
  obtain ⟨T103, h103, X103, e103, W103, st103⟩ := stB X102 hx hZ e102 Ar103 (j := (0 : Int32)) (inb_of S103 ⟨by decide, by decide⟩) (g := (mkF m 43 #[vr a1, vi 1, vi p3] [wi ((p3 >>> ((0 : Int32) &&& 31)).toInt8.toInt32), wi 0, wr a1])) rfl rfl (hb hby d23_43)
  have V103 : Arv Z h103 a1 ka .byte (6 : Int32) [(.int (nar .byte ((p3 >>> ((0 : Int32) &&& 31)).toInt8.toInt32))), (.int (0 : Int32)), (.int (0 : Int32)), (.int (0 : Int32)), (.int (0 : Int32)), (.int (0 : Int32))] (.int (0 : Int32)) := Arv.set Ar103 q103 S103 M103 H103 G103 (fits_nar_byte _) W103 0 rfl (Nat.le_of_ble_eq_true rfl)
  have N103 := Fr.snoc X103 N0 g_a1
  have y105 := (X00.wr W103 g_a1)
  obtain ⟨T104, X104, e104, st104⟩ := getS2 X103 hx hZ hown (host := "") (Or.inl (tw hw 101 rfl)) Via.refl e103 (SL.ext y105.2) (g := (mkF m 47 #[vr a1, vi 1, vi p3] [wi p3, wi 1, wr a1])) rfl (hb hby d23_47)
  obtain ⟨cl106, Ar106, q106, S106, M106, H106, G106⟩ := id V103
  obtain ⟨T106, h106, X106, e106, W106, st106⟩ := stB X104 hx hZ e104 Ar106 (j := (1 : Int32)) (inb_of S106 ⟨by decide, by decide⟩) (g := (mkF m 52 #[vr a1, vi 1, vi p3] [wi ((p3 >>> ((8 : Int32) &&& 31)).toInt8.toInt32), wi 1, wr a1])) rfl rfl (hb hby d23_52)
  have V106 : Arv Z h106 a1 ka .byte (6 : Int32) [(.int (nar .byte ((p3 >>> ((0 : Int32) &&& 31)).toInt8.toInt32))), (.int (nar .byte ((p3 >>> ((8 : Int32) &&& 31)).toInt8.toInt32))), (.int (0 : Int32)), (.int (0 : Int32)), (.int (0 : Int32)), (.int (0 : Int32))] (.int (0 : Int32)) := Arv.set Ar106 q106 S106 M106 H106 G106 (fits_nar_byte _) W106 1 rfl (Nat.le_of_ble_eq_true rfl)
  have N106 := Fr.snoc X106 N103 g_a1
  have y107 := (((Keep.refl h0 [a1]).wr W103 (Or.inl (List.mem_of_getElem? (i := 0) rfl))).wr W106 (Or.inl (List.mem_of_getElem? (i := 0) rfl)))
  obtain ⟨fs, hr, hrun, hended, hW, hsame⟩ := X106.leave (v := none) (fun _ => rfl)
  refine ⟨_, _, pre0 _ ?_, hrun, hended, _, _, rfl, ?_, ⟨_, rfl⟩, hW, hsame.mono (by decide) (by decide)⟩
  · show Go p e below s₁ (mkF m 0 #[vr a1, vi 0, vi p3] []) _
    refine st101 _ ?_
    show Go p e below T101 (mkF m 3 #[vr a1, vi 0, vi p3] [wi 1]) _
    refine XS.ifYes X101.here hx rfl (pc0 := 3) (pc' := 28) rfl (hb hby d23_3) rfl ((if0 _ _).trans (feq (by decide : ¬ ((1 : Int32) = (0 : Int32)))).2) (by decide) (by decide) ?_
    show Go p e below T101 (mkF m 28 #[vr a1, vi 0, vi p3] []) _
    refine XS.iloadN X101.here hx rfl (hb hby d23_28) rfl ?_
    show Go p e below T101 (mkF m 29 #[vr a1, vi 0, vi p3] [wi 0]) _
    refine XS.iconst X101.here hx rfl (hb hby d23_29) ?_
    show Go p e below T101 (mkF m 30 #[vr a1, vi 0, vi p3] [wi 1, wi 0]) _
    refine XS.ishl X101.here hx rfl (hb hby d23_30) rfl ?_
    show Go p e below T101 (mkF m 31 #[vr a1, vi 0, vi p3] [wi 0]) _
    refine XS.istoreN X101.here hx rfl (hb hby d23_31) rfl (l' := #[.val (.ref a1), .val (.int (0 : Int32)), .val (.int p3)]) rfl ?_
    show Go p e below T101 (mkF m 32 #[vr a1, vi 0, vi p3] []) _
    refine XS.aloadN X101.here hx rfl (hb hby d23_32) rfl rfl ?_
    show Go p e below T101 (mkF m 33 #[vr a1, vi 0, vi p3] [wr a1]) _
    refine XS.iloadN X101.here hx rfl (hb hby d23_33) rfl ?_
    show Go p e below T101 (mkF m 34 #[vr a1, vi 0, vi p3] [wi 0, wr a1]) _
    refine XS.iinc X101.here hx rfl (hb hby d23_34) rfl (l' := #[.val (.ref a1), .val (.int (1 : Int32)), .val (.int p3)]) rfl ?_
    show Go p e below T101 (mkF m 37 #[vr a1, vi 1, vi p3] [wi 0, wr a1]) _
    refine XS.iloadN X101.here hx rfl (hb hby d23_37) rfl ?_
    show Go p e below T101 (mkF m 38 #[vr a1, vi 1, vi p3] [wi p3, wi 0, wr a1]) _
    refine st102 _ ?_
    show Go p e below T102 (mkF m 41 #[vr a1, vi 1, vi p3] [wi 0, wi p3, wi 0, wr a1]) _
    refine XS.ishr X102.here hx rfl (hb hby d23_41) rfl ?_
    show Go p e below T102 (mkF m 42 #[vr a1, vi 1, vi p3] [wi (p3 >>> ((0 : Int32) &&& 31)), wi 0, wr a1]) _
    refine XS.i2b X102.here hx rfl (hb hby d23_42) rfl ?_
    show Go p e below T102 (mkF m 43 #[vr a1, vi 1, vi p3] [wi ((p3 >>> ((0 : Int32) &&& 31)).toInt8.toInt32), wi 0, wr a1]) _
    refine st103 _ ?_
    show Go p e below T103 (mkF m 44 #[vr a1, vi 1, vi p3] []) _
    refine XS.aloadN X103.here hx rfl (hb hby d23_44) rfl rfl ?_
    show Go p e below T103 (mkF m 45 #[vr a1, vi 1, vi p3] [wr a1]) _
    refine XS.iloadN X103.here hx rfl (hb hby d23_45) rfl ?_
    show Go p e below T103 (mkF m 46 #[vr a1, vi 1, vi p3] [wi 1, wr a1]) _
    refine XS.iloadN X103.here hx rfl (hb hby d23_46) rfl ?_
    show Go p e below T103 (mkF m 47 #[vr a1, vi 1, vi p3] [wi p3, wi 1, wr a1]) _
    refine st104 _ ?_
    show Go p e below T104 (mkF m 50 #[vr a1, vi 1, vi p3] [wi 8, wi p3, wi 1, wr a1]) _
    refine XS.ishr X104.here hx rfl (hb hby d23_50) rfl ?_
    show Go p e below T104 (mkF m 51 #[vr a1, vi 1, vi p3] [wi (p3 >>> ((8 : Int32) &&& 31)), wi 1, wr a1]) _
    refine XS.i2b X104.here hx rfl (hb hby d23_51) rfl ?_
    show Go p e below T104 (mkF m 52 #[vr a1, vi 1, vi p3] [wi ((p3 >>> ((8 : Int32) &&& 31)).toInt8.toInt32), wi 1, wr a1]) _
    refine st106 _ ?_
    show Go p e below T106 (mkF m 53 #[vr a1, vi 1, vi p3] []) _
    exact X106.returnOut hx Bd.returns (hb hby d23_53) hr
  · show QGB Z a1 ka (6 : Int32) (.int (StrChars.lo8 p3) :: .int (StrChars.hi8 p3) :: cv_0) none h0 n0 _ T106.heap _
    rw [e106]
    exact ⟨rfl, N106, y107, (by have q := V106; rw [own_raw0 p3, own_raw1 p3] at q; exact q)⟩
set_option maxRecDepth 65536 in
set_option maxHeartbeats 40000000 in
theorem rmPut_3_1 (l : Launch) (Z : State) (a0 : Array Value) (hw : ∀ d ∈ tables_1, d.before a0 Z = true) (ws : List Jvm.Cond) (a1 : Addr) (p3 : Int32) (ka : ClassId) (x1 : Int32) (h0 : Heap) (n0 : Nat) (X00 : Old Z n0 h0) (SA : pSA Z) (SH : pSH Z) (SL : pSL Z) (V_a : Arv Z h0 a1 ka .byte (6 : Int32) (.int (StrChars.lo8 x1) :: .int (StrChars.hi8 x1) :: cv_0) (.int (0 : Int32))) (g_a1 : n0 ≤ a1) :
    MetFree l mn_24 (head1 (Jvm.Cond.code mn_24 jdk_52_method_4_code 3 none :: ws) ro_0) (fun a U => a = #[(.ref a1), (.int (1 : Int32)), (.int p3)] ∧ Z.Warmed39 U.vm ∧ U.heap = h0) (fun _ _ _ _ _ => True) (fun _ U o U' => ∃ rv rL, o = .returned rv ∧ QGB Z a1 ka (6 : Int32) [.int (StrChars.lo8 x1), .int (StrChars.hi8 x1), .int (StrChars.lo8 p3), .int (StrChars.hi8 p3), .int (0 : Int32), .int (0 : Int32)] none h0 n0 rv U'.heap rL ∧ FrameEnd U o U' rL ro_0.cells ro_0.slots) := by
  refine MetFree.of_bodySF (plainFor_of_name pn_23) hisR ?_
  intro p e s m args below meth c s₁ Bd hml0 hP hK
  obtain ⟨rfl, hZ, hh⟩ := hP
  have hx := Bd.exec
  have hby := Bd.bytes
  have hml : c.maxLocals = 3 := hml0
  have hown : s.vm.findClass "java/lang/StringUTF16" = some m.cls := findClass_of_methodNamed Bd.named
  have hnm := (name_of_methodNamed Bd.named Bd.method).1
  have X0 : Stand p l e ro_0 s m #[(.ref a1), (.int (1 : Int32)), (.int p3)] below meth c s₁ [] 0 0 := Stand.of_body Bd
  have e0 : s₁.heap = h0 := by rw [← hh, Bd.state]; rfl
  have N0 := Fr.nil n0
  have pre0 : ∀ t, Steps p.tables e below (s₁.setTop (mkF m 0 #[.val (.ref a1), .val (.int (1 : Int32)), .val (.int p3)] [])) t → Steps p.tables e below (s₁.setTop (entryFrame m #[(.ref a1), (.int (1 : Int32)), (.int p3)] 3)) t := fun t k => castTop (ef_23 m a1 (1 : Int32) p3) k
  obtain ⟨T101, X101, e101, st101⟩ := getS2 X0 hx hZ hown (host := "") (Or.inl (tw hw 99 rfl)) Via.refl e0 (SA.ext X00.2) (g := (mkF m 0 #[vr a1, vi 1, vi p3] [])) rfl (hb hby d23_0)
  obtain ⟨T102, X102, e102, st102⟩ := getS2 X101 hx hZ hown (host := "") (Or.inl (tw hw 100 rfl)) Via.refl e101 (SH.ext X00.2) (g := (mkF m 38 #[vr a1, vi 3, vi p3] [wi p3, wi 2, wr a1])) rfl (hb hby d23_38)
  obtain ⟨cl103, Ar103, q103, S103, M103, H103, G103⟩ := id V_a
  obtain ⟨T103, h103, X103, e103, W103, st103⟩ := stB X102 hx hZ e102 Ar103 (j := (2 : Int32)) (inb_of S103 ⟨by decide, by decide⟩) (g := (mkF m 43 #[vr a1, vi 3, vi p3] [wi ((p3 >>> ((0 : Int32) &&& 31)).toInt8.toInt32), wi 2, wr a1])) rfl rfl (hb hby d23_43)
  have V103 : Arv Z h103 a1 ka .byte (6 : Int32) [(.int (StrChars.lo8 x1)), (.int (StrChars.hi8 x1)), (.int (nar .byte ((p3 >>> ((0 : Int32) &&& 31)).toInt8.toInt32))), (.int (0 : Int32)), (.int (0 : Int32)), (.int (0 : Int32))] (.int (0 : Int32)) := Arv.set Ar103 q103 S103 M103 H103 G103 (fits_nar_byte _) W103 2 rfl (Nat.le_of_ble_eq_true rfl)
  have N103 := Fr.snoc X103 N0 g_a1
  have y105 := (X00.wr W103 g_a1)
  obtain ⟨T104, X104, e104, st104⟩ := getS2 X103 hx hZ hown (host := "") (Or.inl (tw hw 101 rfl)) Via.refl e103 (SL.ext y105.2) (g := (mkF m 47 #[vr a1, vi 3, vi p3] [wi p3, wi 3, wr a1])) rfl (hb hby d23_47)
  obtain ⟨cl106, Ar106, q106, S106, M106, H106, G106⟩ := id V103
  obtain ⟨T106, h106, X106, e106, W106, st106⟩ := stB X104 hx hZ e104 Ar106 (j := (3 : Int32)) (inb_of S106 ⟨by decide, by decide⟩) (g := (mkF m 52 #[vr a1, vi 3, vi p3] [wi ((p3 >>> ((8 : Int32) &&& 31)).toInt8.toInt32), wi 3, wr a1])) rfl rfl (hb hby d23_52)
  have V106 : Arv Z h106 a1 ka .byte (6 : Int32) [(.int (StrChars.lo8 x1)), (.int (StrChars.hi8 x1)), (.int (nar .byte ((p3 >>> ((0 : Int32) &&& 31)).toInt8.toInt32))), (.int (nar .byte ((p3 >>> ((8 : Int32) &&& 31)).toInt8.toInt32))), (.int (0 : Int32)), (.int (0 : Int32))] (.int (0 : Int32)) := Arv.set Ar106 q106 S106 M106 H106 G106 (fits_nar_byte _) W106 3 rfl (Nat.le_of_ble_eq_true rfl)
  have N106 := Fr.snoc X106 N103 g_a1
  have y107 := (((Keep.refl h0 [a1]).wr W103 (Or.inl (List.mem_of_getElem? (i := 0) rfl))).wr W106 (Or.inl (List.mem_of_getElem? (i := 0) rfl)))
  obtain ⟨fs, hr, hrun, hended, hW, hsame⟩ := X106.leave (v := none) (fun _ => rfl)
  refine ⟨_, _, pre0 _ ?_, hrun, hended, _, _, rfl, ?_, ⟨_, rfl⟩, hW, hsame.mono (by decide) (by decide)⟩
  · show Go p e below s₁ (mkF m 0 #[vr a1, vi 1, vi p3] []) _
    refine st101 _ ?_
    show Go p e below T101 (mkF m 3 #[vr a1, vi 1, vi p3] [wi 1]) _
    refine XS.ifYes X101.here hx rfl (pc0 := 3) (pc' := 28) rfl (hb hby d23_3) rfl ((if0 _ _).trans (feq (by decide : ¬ ((1 : Int32) = (0 : Int32)))).2) (by decide) (by decide) ?_
    show Go p e below T101 (mkF m 28 #[vr a1, vi 1, vi p3] []) _
    refine XS.iloadN X101.here hx rfl (hb hby d23_28) rfl ?_
    show Go p e below T101 (mkF m 29 #[vr a1, vi 1, vi p3] [wi 1]) _
    refine XS.iconst X101.here hx rfl (hb hby d23_29) ?_
    show Go p e below T101 (mkF m 30 #[vr a1, vi 1, vi p3] [wi 1, wi 1]) _
    refine XS.ishl X101.here hx rfl (hb hby d23_30) rfl ?_
    show Go p e below T101 (mkF m 31 #[vr a1, vi 1, vi p3] [wi 2]) _
    refine XS.istoreN X101.here hx rfl (hb hby d23_31) rfl (l' := #[.val (.ref a1), .val (.int (2 : Int32)), .val (.int p3)]) rfl ?_
    show Go p e below T101 (mkF m 32 #[vr a1, vi 2, vi p3] []) _
    refine XS.aloadN X101.here hx rfl (hb hby d23_32) rfl rfl ?_
    show Go p e below T101 (mkF m 33 #[vr a1, vi 2, vi p3] [wr a1]) _
    refine XS.iloadN X101.here hx rfl (hb hby d23_33) rfl ?_
    show Go p e below T101 (mkF m 34 #[vr a1, vi 2, vi p3] [wi 2, wr a1]) _
    refine XS.iinc X101.here hx rfl (hb hby d23_34) rfl (l' := #[.val (.ref a1), .val (.int (3 : Int32)), .val (.int p3)]) rfl ?_
    show Go p e below T101 (mkF m 37 #[vr a1, vi 3, vi p3] [wi 2, wr a1]) _
    refine XS.iloadN X101.here hx rfl (hb hby d23_37) rfl ?_
    show Go p e below T101 (mkF m 38 #[vr a1, vi 3, vi p3] [wi p3, wi 2, wr a1]) _
    refine st102 _ ?_
    show Go p e below T102 (mkF m 41 #[vr a1, vi 3, vi p3] [wi 0, wi p3, wi 2, wr a1]) _
    refine XS.ishr X102.here hx rfl (hb hby d23_41) rfl ?_
    show Go p e below T102 (mkF m 42 #[vr a1, vi 3, vi p3] [wi (p3 >>> ((0 : Int32) &&& 31)), wi 2, wr a1]) _
    refine XS.i2b X102.here hx rfl (hb hby d23_42) rfl ?_
    show Go p e below T102 (mkF m 43 #[vr a1, vi 3, vi p3] [wi ((p3 >>> ((0 : Int32) &&& 31)).toInt8.toInt32), wi 2, wr a1]) _
    refine st103 _ ?_
    show Go p e below T103 (mkF m 44 #[vr a1, vi 3, vi p3] []) _
    refine XS.aloadN X103.here hx rfl (hb hby d23_44) rfl rfl ?_
    show Go p e below T103 (mkF m 45 #[vr a1, vi 3, vi p3] [wr a1]) _
    refine XS.iloadN X103.here hx rfl (hb hby d23_45) rfl ?_
    show Go p e below T103 (mkF m 46 #[vr a1, vi 3, vi p3] [wi 3, wr a1]) _
    refine XS.iloadN X103.here hx rfl (hb hby d23_46) rfl ?_
    show Go p e below T103 (mkF m 47 #[vr a1, vi 3, vi p3] [wi p3, wi 3, wr a1]) _
    refine st104 _ ?_
    show Go p e below T104 (mkF m 50 #[vr a1, vi 3, vi p3] [wi 8, wi p3, wi 3, wr a1]) _
    refine XS.ishr X104.here hx rfl (hb hby d23_50) rfl ?_
    show Go p e below T104 (mkF m 51 #[vr a1, vi 3, vi p3] [wi (p3 >>> ((8 : Int32) &&& 31)), wi 3, wr a1]) _
    refine XS.i2b X104.here hx rfl (hb hby d23_51) rfl ?_
    show Go p e below T104 (mkF m 52 #[vr a1, vi 3, vi p3] [wi ((p3 >>> ((8 : Int32) &&& 31)).toInt8.toInt32), wi 3, wr a1]) _
    refine st106 _ ?_
    show Go p e below T106 (mkF m 53 #[vr a1, vi 3, vi p3] []) _
    exact X106.returnOut hx Bd.returns (hb hby d23_53) hr
  · show QGB Z a1 ka (6 : Int32) [.int (StrChars.lo8 x1), .int (StrChars.hi8 x1), .int (StrChars.lo8 p3), .int (StrChars.hi8 p3), .int (0 : Int32), .int (0 : Int32)] none h0 n0 _ T106.heap _
    rw [e106]
    exact ⟨rfl, N106, y107, (by have q := V106; rw [own_raw0 p3, own_raw1 p3] at q; exact q)⟩
set_option maxRecDepth 65536 in
set_option maxHeartbeats 40000000 in
theorem rmPut_3_2 (l : Launch) (Z : State) (a0 : Array Value) (hw : ∀ d ∈ tables_1, d.before a0 Z = true) (ws : List Jvm.Cond) (a1 : Addr) (p3 : Int32) (ka : ClassId) (x1 : Int32) (x2 : Int32) (h0 : Heap) (n0 : Nat) (X00 : Old Z n0 h0) (SA : pSA Z) (SH : pSH Z) (SL : pSL Z) (V_a : Arv Z h0 a1 ka .byte (6 : Int32) [.int (StrChars.lo8 x1), .int (StrChars.hi8 x1), .int (StrChars.lo8 x2), .int (StrChars.hi8 x2), .int (0 : Int32), .int (0 : Int32)] (.int (0 : Int32))) (g_a1 : n0 ≤ a1) :
    MetFree l mn_24 (head1 (Jvm.Cond.code mn_24 jdk_52_method_4_code 3 none :: ws) ro_0) (fun a U => a = #[(.ref a1), (.int (2 : Int32)), (.int p3)] ∧ Z.Warmed39 U.vm ∧ U.heap = h0) (fun _ _ _ _ _ => True) (fun _ U o U' => ∃ rv rL, o = .returned rv ∧ QGB Z a1 ka (6 : Int32) [.int (StrChars.lo8 x1), .int (StrChars.hi8 x1), .int (StrChars.lo8 x2), .int (StrChars.hi8 x2), .int (StrChars.lo8 p3), .int (StrChars.hi8 p3)] none h0 n0 rv U'.heap rL ∧ FrameEnd U o U' rL ro_0.cells ro_0.slots) := by
  refine MetFree.of_bodySF (plainFor_of_name pn_23) hisR ?_
  intro p e s m args below meth c s₁ Bd hml0 hP hK
  obtain ⟨rfl, hZ, hh⟩ := hP
  have hx := Bd.exec
  have hby := Bd.bytes
  have hml : c.maxLocals = 3 := hml0
  have hown : s.vm.findClass "java/lang/StringUTF16" = some m.cls := findClass_of_methodNamed Bd.named
  have hnm := (name_of_methodNamed Bd.named Bd.method).1
  have X0 : Stand p l e ro_0 s m #[(.ref a1), (.int (2 : Int32)), (.int p3)] below meth c s₁ [] 0 0 := Stand.of_body Bd
  have e0 : s₁.heap = h0 := by rw [← hh, Bd.state]; rfl
  have N0 := Fr.nil n0
  have pre0 : ∀ t, Steps p.tables e below (s₁.setTop (mkF m 0 #[.val (.ref a1), .val (.int (2 : Int32)), .val (.int p3)] [])) t → Steps p.tables e below (s₁.setTop (entryFrame m #[(.ref a1), (.int (2 : Int32)), (.int p3)] 3)) t := fun t k => castTop (ef_23 m a1 (2 : Int32) p3) k
  obtain ⟨T101, X101, e101, st101⟩ := getS2 X0 hx hZ hown (host := "") (Or.inl (tw hw 99 rfl)) Via.refl e0 (SA.ext X00.2) (g := (mkF m 0 #[vr a1, vi 2, vi p3] [])) rfl (hb hby d23_0)
  obtain ⟨T102, X102, e102, st102⟩ := getS2 X101 hx hZ hown (host := "") (Or.inl (tw hw 100 rfl)) Via.refl e101 (SH.ext X00.2) (g := (mkF m 38 #[vr a1, vi 5, vi p3] [wi p3, wi 4, wr a1])) rfl (hb hby d23_38)
  obtain ⟨cl103, Ar103, q103, S103, M103, H103, G103⟩ := id V_a
  obtain ⟨T103, h103, X103, e103, W103, st103⟩ := stB X102 hx hZ e102 Ar103 (j := (4 : Int32)) (inb_of S103 ⟨by decide, by decide⟩) (g := (mkF m 43 #[vr a1, vi 5, vi p3] [wi ((p3 >>> ((0 : Int32) &&& 31)).toInt8.toInt32), wi 4, wr a1])) rfl rfl (hb hby d23_43)
  have V103 : Arv Z h103 a1 ka .byte (6 : Int32) [(.int (StrChars.lo8 x1)), (.int (StrChars.hi8 x1)), (.int (StrChars.lo8 x2)), (.int (StrChars.hi8 x2)), (.int (nar .byte ((p3 >>> ((0 : Int32) &&& 31)).toInt8.toInt32))), (.int (0 : Int32))] (.int (0 : Int32)) := Arv.set Ar103 q103 S103 M103 H103 G103 (fits_nar_byte _) W103 4 rfl (Nat.le_of_ble_eq_true rfl)
  have N103 := Fr.snoc X103 N0 g_a1
  have y105 := (X00.wr W103 g_a1)
  obtain ⟨T104, X104, e104, st104⟩ := getS2 X103 hx hZ hown (host := "") (Or.inl (tw hw 101 rfl)) Via.refl e103 (SL.ext y105.2) (g := (mkF m 47 #[vr a1, vi 5, vi p3] [wi p3, wi 5, wr a1])) rfl (hb hby d23_47)
  obtain ⟨cl106, Ar106, q106, S106, M106, H106, G106⟩ := id V103
  obtain ⟨T106, h106, X106, e106, W106, st106⟩ := stB X104 hx hZ e104 Ar106 (j := (5 : Int32)) (inb_of S106 ⟨by decide, by decide⟩) (g := (mkF m 52 #[vr a1, vi 5, vi p3] [wi ((p3 >>> ((8 : Int32) &&& 31)).toInt8.toInt32), wi 5, wr a1])) rfl rfl (hb hby d23_52)
  have V106 : Arv Z h106 a1 ka .byte (6 : Int32) [(.int (StrChars.lo8 x1)), (.int (StrChars.hi8 x1)), (.int (StrChars.lo8 x2)), (.int (StrChars.hi8 x2)), (.int (nar .byte ((p3 >>> ((0 : Int32) &&& 31)).toInt8.toInt32))), (.int (nar .byte ((p3 >>> ((8 : Int32) &&& 31)).toInt8.toInt32)))] (.int (0 : Int32)) := Arv.set Ar106 q106 S106 M106 H106 G106 (fits_nar_byte _) W106 5 rfl (Nat.le_of_ble_eq_true rfl)
  have N106 := Fr.snoc X106 N103 g_a1
  have y107 := (((Keep.refl h0 [a1]).wr W103 (Or.inl (List.mem_of_getElem? (i := 0) rfl))).wr W106 (Or.inl (List.mem_of_getElem? (i := 0) rfl)))
  obtain ⟨fs, hr, hrun, hended, hW, hsame⟩ := X106.leave (v := none) (fun _ => rfl)
  refine ⟨_, _, pre0 _ ?_, hrun, hended, _, _, rfl, ?_, ⟨_, rfl⟩, hW, hsame.mono (by decide) (by decide)⟩
  · show Go p e below s₁ (mkF m 0 #[vr a1, vi 2, vi p3] []) _
    refine st101 _ ?_
    show Go p e below T101 (mkF m 3 #[vr a1, vi 2, vi p3] [wi 1]) _
    refine XS.ifYes X101.here hx rfl (pc0 := 3) (pc' := 28) rfl (hb hby d23_3) rfl ((if0 _ _).trans (feq (by decide : ¬ ((1 : Int32) = (0 : Int32)))).2) (by decide) (by decide) ?_
    show Go p e below T101 (mkF m 28 #[vr a1, vi 2, vi p3] []) _
    refine XS.iloadN X101.here hx rfl (hb hby d23_28) rfl ?_
    show Go p e below T101 (mkF m 29 #[vr a1, vi 2, vi p3] [wi 2]) _
    refine XS.iconst X101.here hx rfl (hb hby d23_29) ?_
    show Go p e below T101 (mkF m 30 #[vr a1, vi 2, vi p3] [wi 1, wi 2]) _
    refine XS.ishl X101.here hx rfl (hb hby d23_30) rfl ?_
    show Go p e below T101 (mkF m 31 #[vr a1, vi 2, vi p3] [wi 4]) _
    refine XS.istoreN X101.here hx rfl (hb hby d23_31) rfl (l' := #[.val (.ref a1), .val (.int (4 : Int32)), .val (.int p3)]) rfl ?_
    show Go p e below T101 (mkF m 32 #[vr a1, vi 4, vi p3] []) _
    refine XS.aloadN X101.here hx rfl (hb hby d23_32) rfl rfl ?_
    show Go p e below T101 (mkF m 33 #[vr a1, vi 4, vi p3] [wr a1]) _
    refine XS.iloadN X101.here hx rfl (hb hby d23_33) rfl ?_
    show Go p e below T101 (mkF m 34 #[vr a1, vi 4, vi p3] [wi 4, wr a1]) _
    refine XS.iinc X101.here hx rfl (hb hby d23_34) rfl (l' := #[.val (.ref a1), .val (.int (5 : Int32)), .val (.int p3)]) rfl ?_
    show Go p e below T101 (mkF m 37 #[vr a1, vi 5, vi p3] [wi 4, wr a1]) _
    refine XS.iloadN X101.here hx rfl (hb hby d23_37) rfl ?_
    show Go p e below T101 (mkF m 38 #[vr a1, vi 5, vi p3] [wi p3, wi 4, wr a1]) _
    refine st102 _ ?_
    show Go p e below T102 (mkF m 41 #[vr a1, vi 5, vi p3] [wi 0, wi p3, wi 4, wr a1]) _
    refine XS.ishr X102.here hx rfl (hb hby d23_41) rfl ?_
    show Go p e below T102 (mkF m 42 #[vr a1, vi 5, vi p3] [wi (p3 >>> ((0 : Int32) &&& 31)), wi 4, wr a1]) _
    refine XS.i2b X102.here hx rfl (hb hby d23_42) rfl ?_
    show Go p e below T102 (mkF m 43 #[vr a1, vi 5, vi p3] [wi ((p3 >>> ((0 : Int32) &&& 31)).toInt8.toInt32), wi 4, wr a1]) _
    refine st103 _ ?_
    show Go p e below T103 (mkF m 44 #[vr a1, vi 5, vi p3] []) _
    refine XS.aloadN X103.here hx rfl (hb hby d23_44) rfl rfl ?_
    show Go p e below T103 (mkF m 45 #[vr a1, vi 5, vi p3] [wr a1]) _
    refine XS.iloadN X103.here hx rfl (hb hby d23_45) rfl ?_
    show Go p e below T103 (mkF m 46 #[vr a1, vi 5, vi p3] [wi 5, wr a1]) _
    refine XS.iloadN X103.here hx rfl (hb hby d23_46) rfl ?_
    show Go p e below T103 (mkF m 47 #[vr a1, vi 5, vi p3] [wi p3, wi 5, wr a1]) _
    refine st104 _ ?_
    show Go p e below T104 (mkF m 50 #[vr a1, vi 5, vi p3] [wi 8, wi p3, wi 5, wr a1]) _
    refine XS.ishr X104.here hx rfl (hb hby d23_50) rfl ?_
    show Go p e below T104 (mkF m 51 #[vr a1, vi 5, vi p3] [wi (p3 >>> ((8 : Int32) &&& 31)), wi 5, wr a1]) _
    refine XS.i2b X104.here hx rfl (hb hby d23_51) rfl ?_
    show Go p e below T104 (mkF m 52 #[vr a1, vi 5, vi p3] [wi ((p3 >>> ((8 : Int32) &&& 31)).toInt8.toInt32), wi 5, wr a1]) _
    refine st106 _ ?_
    show Go p e below T106 (mkF m 53 #[vr a1, vi 5, vi p3] []) _
    exact X106.returnOut hx Bd.returns (hb hby d23_53) hr
  · show QGB Z a1 ka (6 : Int32) [.int (StrChars.lo8 x1), .int (StrChars.hi8 x1), .int (StrChars.lo8 x2), .int (StrChars.hi8 x2), .int (StrChars.lo8 p3), .int (StrChars.hi8 p3)] none h0 n0 _ T106.heap _
    rw [e106]
    exact ⟨rfl, N106, y107, (by have q := V106; rw [own_raw0 p3, own_raw1 p3] at q; exact q)⟩
set_option maxRecDepth 65536 in
set_option maxHeartbeats 40000000 in
theorem rmTob_3 (l : Launch) (Z : State) (a0 : Array Value) (hw : ∀ d ∈ tables_1, d.before a0 Z = true) (ws : List Jvm.Cond) (a1 : Addr) (ka : ClassId) (x1 : Int32) (x2 : Int32) (x3 : Int32) (h0 : Heap) (n0 : Nat) (X00 : Old Z n0 h0) (SA : pSA Z) (SH : pSH Z) (SL : pSL Z) (V_a : Arv Z h0 a1 ka .char (3 : Int32) [(.int x1), (.int x2), (.int x3)] (.int (0 : Int32))) :
    MetFree l mn_25 (head1 (Jvm.Cond.code mn_25 jdk_52_method_14_code 5 (some (.array .byte)) :: ws) ro_11) (fun a U => a = #[(.ref a1), (.int (0 : Int32)), (.int (3 : Int32))] ∧ Z.Warmed39 U.vm ∧ U.heap = h0) (fun _ _ _ _ _ => True) (fun _ U o U' => ∃ rv rL, o = .returned rv ∧ QAr Z (6 : Int32) [.int (StrChars.lo8 x1), .int (StrChars.hi8 x1), .int (StrChars.lo8 x2), .int (StrChars.hi8 x2), .int (StrChars.lo8 x3), .int (StrChars.hi8 x3)] h0 n0 rv U'.heap rL ∧ FrameEnd U o U' rL ro_11.cells ro_11.slots) := by
  refine MetFree.of_bodySF (plainFor_of_name pn_20) hisR ?_
  intro p e s m args below meth c s₁ Bd hml0 hP hK
  obtain ⟨rfl, hZ, hh⟩ := hP
  have hx := Bd.exec
  have hby := Bd.bytes
  have hml : c.maxLocals = 5 := hml0
  have hown : s.vm.findClass "java/lang/StringUTF16" = some m.cls := findClass_of_methodNamed Bd.named
  have hnm := (name_of_methodNamed Bd.named Bd.method).1
  have X0 : Stand p l e ro_11 s m #[(.ref a1), (.int (0 : Int32)), (.int (3 : Int32))] below meth c s₁ [] 0 0 := Stand.of_body Bd
  have e0 : s₁.heap = h0 := by rw [← hh, Bd.state]; rfl
  have N0 := Fr.nil n0
  have pre0 : ∀ t, Steps p.tables e below (s₁.setTop (mkF m 0 #[.val (.ref a1), .val (.int (0 : Int32)), .val (.int (3 : Int32)), .unset, .unset] [])) t → Steps p.tables e below (s₁.setTop (entryFrame m #[(.ref a1), (.int (0 : Int32)), (.int (3 : Int32))] 5)) t := fun t k => castTop (ef_20 m a1 (0 : Int32) (3 : Int32)) k
  have lz101_a1 := V_a.lt
  obtain ⟨_, _, ⟨T101, L101, k101, n101⟩, -, X101, ⟨Lc101, hQ101, l101, y101, z101⟩, st101⟩ := Jvm.LawKit.callS X0 hx (y := mn_22) hown (mvT hZ (tw hw 89 rfl)) (mvT hZ (tw hw 90 rfl)) (mvT hZ (tw hw 27 rfl)) (mvT hZ (tw hw 91 rfl)) (by decide) (backOf (W := 0) (rmNBF_3 l Z a0 hw []  h0 n0 X00 ) hZ (tw hw 91 rfl) (tw hw 27 rfl) (by decide) (by decide)) (g := (mkF m 1 #[vr a1, vi 0, vi 3, .unset, .unset] [wi 3])) rfl (by rw [hml]; rfl) (argsL := [wi 3]) (rest := []) (lenOf pd_I_AB rfl) rfl (Nat.le_refl _) (hb hby d20_1) (fun _ _ => ⟨rfl, e0, (by decide : 0 + 1 ≤ _), (by decide : 0 + 6 ≤ _)⟩)
  dsimp only [Pt.U, Pt.locs, Pt.cells, Pt.slots] at X101 l101 y101 z101 st101 hQ101
  subst l101 y101 z101
  obtain ⟨ur101, uq101, rfl, N101q, Kc101, ug101, us101, uV101⟩ := hQ101
  have N101 := Fr.app N0 N101q
  have lt_a1_ur101 : a1 < ur101 := Nat.lt_of_lt_of_le lz101_a1 us101
  have sz_ur101 : h0.size ≤ ur101 := Nat.le_trans (Keep.refl h0 []).1 us101
  have y102 := (V_a.keep Kc101 own_nm0)
  obtain ⟨cl103, Ar103, q103, S103, M103, H103, G103⟩ := id y102
  have hat104 : cl103.slots[((0 : Int32)).toNatClampNeg]? = some (.int x1) := by rw [show ((0 : Int32)).toNatClampNeg = 0 from by decide]; exact H103 0 (by rw [S103]; decide)
  have y105 := ((Keep.refl h0 []).trans Kc101 all0)
  have y106 := (X00.keep Kc101 all0)
  obtain ⟨_, _, ⟨T107, L107, k107, n107⟩, -, X107, ⟨Lc107, hQ107, l107, y107, z107⟩, st107⟩ := Jvm.LawKit.callS X101 hx (y := mn_24) hown (mvT hZ (tw hw 96 rfl)) (mvT hZ (tw hw 97 rfl)) (mvT hZ (tw hw 27 rfl)) (mvT hZ (tw hw 98 rfl)) (by decide) (backOf (W := 0) (rmPut_3_0 l Z a0 hw [] ur101 x1 uq101 T101.heap n0 y106 SA SH SL uV101 ug101) hZ (tw hw 98 rfl) (tw hw 27 rfl) (by decide) (by decide)) (g := (mkF m 20 #[vr a1, vi 0, vi 3, vr ur101, vi 0] [wi x1, wi 0, wr ur101])) rfl (by rw [hml]; rfl) (argsL := [wr ur101, wi 0, wi x1]) (rest := []) (lenOf pd_ABII_V rfl) rfl (Nat.le_refl _) (hb hby d20_20) (fun _ _ => ⟨rfl, rfl, (by decide : 1 + 0 ≤ _), (by decide : 6 + 0 ≤ _)⟩)
  dsimp only [Pt.U, Pt.locs, Pt.cells, Pt.slots] at X107 l107 y107 z107 st107 hQ107
  subst l107 y107 z107
  obtain ⟨rfl, N107q, Kc107, uV107⟩ := hQ107
  have N107 := Fr.app N101 N107q
  have y108 := (y102.keep Kc107 (own_nmc (Nat.ne_of_lt lt_a1_ur101) own_nm0))
  obtain ⟨cl109, Ar109, q109, S109, M109, H109, G109⟩ := id y108
  have hat110 : cl109.slots[((1 : Int32)).toNatClampNeg]? = some (.int x2) := by rw [show ((1 : Int32)).toNatClampNeg = 1 from by decide]; exact H109 1 (by rw [S109]; decide)
  have y111 := (y105.trans Kc107 (allS (Or.inr sz_ur101) all0))
  have y112 := (y106.keep Kc107 (allS ug101 all0))
  obtain ⟨_, _, ⟨T113, L113, k113, n113⟩, -, X113, ⟨Lc113, hQ113, l113, y113, z113⟩, st113⟩ := Jvm.LawKit.callS X107 hx (y := mn_24) hown (mvT hZ (tw hw 96 rfl)) (mvT hZ (tw hw 97 rfl)) (mvT hZ (tw hw 27 rfl)) (mvT hZ (tw hw 98 rfl)) (by decide) (backOf (W := 0) (rmPut_3_1 l Z a0 hw [] ur101 x2 uq101 x1 T107.heap n0 y112 SA SH SL uV107 ug101) hZ (tw hw 98 rfl) (tw hw 27 rfl) (by decide) (by decide)) (g := (mkF m 20 #[vr a1, vi 1, vi 3, vr ur101, vi 1] [wi x2, wi 1, wr ur101])) rfl (by rw [hml]; rfl) (argsL := [wr ur101, wi 1, wi x2]) (rest := []) (lenOf pd_ABII_V rfl) rfl (Nat.le_refl _) (hb hby d20_20) (fun _ _ => ⟨rfl, rfl, (by decide : 1 + 0 ≤ _), (by decide : 6 + 0 ≤ _)⟩)
  dsimp only [Pt.U, Pt.locs, Pt.cells, Pt.slots] at X113 l113 y113 z113 st113 hQ113
  subst l113 y113 z113
  obtain ⟨rfl, N113q, Kc113, uV113⟩ := hQ113
  have N113 := Fr.app N107 N113q
  have y114 := (y108.keep Kc113 (own_nmc (Nat.ne_of_lt lt_a1_ur101) own_nm0))
  obtain ⟨cl115, Ar115, q115, S115, M115, H115, G115⟩ := id y114
  have hat116 : cl115.slots[((2 : Int32)).toNatClampNeg]? = some (.int x3) := by rw [show ((2 : Int32)).toNatClampNeg = 2 from by decide]; exact H115 2 (by rw [S115]; decide)
  have y117 := (y111.trans Kc113 (allS (Or.inr sz_ur101) all0))
  have y118 := (y112.keep Kc113 (allS ug101 all0))
  obtain ⟨_, _, ⟨T119, L119, k119, n119⟩, -, X119, ⟨Lc119, hQ119, l119, y119, z119⟩, st119⟩ := Jvm.LawKit.callS X113 hx (y := mn_24) hown (mvT hZ (tw hw 96 rfl)) (mvT hZ (tw hw 97 rfl)) (mvT hZ (tw hw 27 rfl)) (mvT hZ (tw hw 98 rfl)) (by decide) (backOf (W := 0) (rmPut_3_2 l Z a0 hw [] ur101 x3 uq101 x1 x2 T113.heap n0 y118 SA SH SL uV113 ug101) hZ (tw hw 98 rfl) (tw hw 27 rfl) (by decide) (by decide)) (g := (mkF m 20 #[vr a1, vi 2, vi 3, vr ur101, vi 2] [wi x3, wi 2, wr ur101])) rfl (by rw [hml]; rfl) (argsL := [wr ur101, wi 2, wi x3]) (rest := []) (lenOf pd_ABII_V rfl) rfl (Nat.le_refl _) (hb hby d20_20) (fun _ _ => ⟨rfl, rfl, (by decide : 1 + 0 ≤ _), (by decide : 6 + 0 ≤ _)⟩)
  dsimp only [Pt.U, Pt.locs, Pt.cells, Pt.slots] at X119 l119 y119 z119 st119 hQ119
  subst l119 y119 z119
  obtain ⟨rfl, N119q, Kc119, uV119⟩ := hQ119
  have N119 := Fr.app N113 N119q
  have y120 := (y117.trans Kc119 (allS (Or.inr sz_ur101) all0))
  obtain ⟨fs, hr, hrun, hended, hW, hsame⟩ := X119.leave (v := some (.ref ur101)) (fun h => by rw [Bd.returns] at h; cases h)
  refine ⟨_, _, pre0 _ ?_, hrun, hended, _, _, rfl, ?_, ⟨_, rfl⟩, hW, hsame.mono (by decide) (by decide)⟩
  · show Go p e below s₁ (mkF m 0 #[vr a1, vi 0, vi 3, .unset, .unset] []) _
    refine XS.iloadN X0.here hx rfl (hb hby d20_0) rfl ?_
    show Go p e below s₁ (mkF m 1 #[vr a1, vi 0, vi 3, .unset, .unset] [wi 3]) _
    refine st101 _ ?_
    show Go p e below T101 (mkF m 4 #[vr a1, vi 0, vi 3, .unset, .unset] [wr ur101]) _
    refine XS.astoreN X101.here hx rfl (hb hby d20_4) rfl rfl (l' := #[.val (.ref a1), .val (.int (0 : Int32)), .val (.int (3 : Int32)), .val (.ref ur101), .unset]) rfl ?_
    show Go p e below T101 (mkF m 5 #[vr a1, vi 0, vi 3, vr ur101, .unset] []) _
    refine XS.iconst X101.here hx rfl (hb hby d20_5) ?_
    show Go p e below T101 (mkF m 6 #[vr a1, vi 0, vi 3, vr ur101, .unset] [wi 0]) _
    refine XS.istore X101.here hx rfl (hb hby d20_6) rfl (l' := #[.val (.ref a1), .val (.int (0 : Int32)), .val (.int (3 : Int32)), .val (.ref ur101), .val (.int (0 : Int32))]) rfl ?_
    show Go p e below T101 (mkF m 8 #[vr a1, vi 0, vi 3, vr ur101, vi 0] []) _
    refine XS.iload X101.here hx rfl (hb hby d20_8) rfl ?_
    show Go p e below T101 (mkF m 10 #[vr a1, vi 0, vi 3, vr ur101, vi 0] [wi 0]) _
    refine XS.iloadN X101.here hx rfl (hb hby d20_10) rfl ?_
    show Go p e below T101 (mkF m 11 #[vr a1, vi 0, vi 3, vr ur101, vi 0] [wi 3, wi 0]) _
    refine XS.icmpNo X101.here hx rfl (hb hby d20_11) rfl (tlt (by decide : (0 : Int32) < (3 : Int32))).2.1 ?_
    show Go p e below T101 (mkF m 14 #[vr a1, vi 0, vi 3, vr ur101, vi 0] []) _
    refine XS.aloadN X101.here hx rfl (hb hby d20_14) rfl rfl ?_
    show Go p e below T101 (mkF m 15 #[vr a1, vi 0, vi 3, vr ur101, vi 0] [wr ur101]) _
    refine XS.iload X101.here hx rfl (hb hby d20_15) rfl ?_
    show Go p e below T101 (mkF m 17 #[vr a1, vi 0, vi 3, vr ur101, vi 0] [wi 0, wr ur101]) _
    refine XS.aloadN X101.here hx rfl (hb hby d20_17) rfl rfl ?_
    show Go p e below T101 (mkF m 18 #[vr a1, vi 0, vi 3, vr ur101, vi 0] [wr a1, wi 0, wr ur101]) _
    refine XS.iloadN X101.here hx rfl (hb hby d20_18) rfl ?_
    show Go p e below T101 (mkF m 19 #[vr a1, vi 0, vi 3, vr ur101, vi 0] [wi 0, wr a1, wi 0, wr ur101]) _
    refine X101.caload hx (j := (0 : Int32)) (v := (.int x1)) Ar103.1 (State.isArrayOf_alike hZ.alike Ar103.2.1) Ar103.2.2 (inb_of S103 ⟨by decide, by decide⟩) hat104 (g := (mkF m 19 #[vr a1, vi 0, vi 3, vr ur101, vi 0] [wi 0, wr a1, wi 0, wr ur101])) rfl rfl (hb hby d20_19) _ ?_
    show Go p e below T101 (mkF m 20 #[vr a1, vi 0, vi 3, vr ur101, vi 0] [wi x1, wi 0, wr ur101]) _
    refine st107 _ ?_
    show Go p e below T107 (mkF m 23 #[vr a1, vi 0, vi 3, vr ur101, vi 0] []) _
    refine XS.iinc X107.here hx rfl (hb hby d20_23) rfl (l' := #[.val (.ref a1), .val (.int (1 : Int32)), .val (.int (3 : Int32)), .val (.ref ur101), .val (.int (0 : Int32))]) rfl ?_
    show Go p e below T107 (mkF m 26 #[vr a1, vi 1, vi 3, vr ur101, vi 0] []) _
    refine XS.iinc X107.here hx rfl (hb hby d20_26) rfl (l' := #[.val (.ref a1), .val (.int (1 : Int32)), .val (.int (3 : Int32)), .val (.ref ur101), .val (.int (1 : Int32))]) rfl ?_
    show Go p e below T107 (mkF m 29 #[vr a1, vi 1, vi 3, vr ur101, vi 1] []) _
    refine XS.goto X107.here hx rfl (pc0 := 29) (pc' := 8) rfl (hb hby d20_29) (by decide) (by decide) ?_
    show Go p e below T107 (mkF m 8 #[vr a1, vi 1, vi 3, vr ur101, vi 1] []) _
    refine XS.iload X107.here hx rfl (hb hby d20_8) rfl ?_
    show Go p e below T107 (mkF m 10 #[vr a1, vi 1, vi 3, vr ur101, vi 1] [wi 1]) _
    refine XS.iloadN X107.here hx rfl (hb hby d20_10) rfl ?_
    show Go p e below T107 (mkF m 11 #[vr a1, vi 1, vi 3, vr ur101, vi 1] [wi 3, wi 1]) _
    refine XS.icmpNo X107.here hx rfl (hb hby d20_11) rfl (tlt (by decide : (1 : Int32) < (3 : Int32))).2.1 ?_
    show Go p e below T107 (mkF m 14 #[vr a1, vi 1, vi 3, vr ur101, vi 1] []) _
    refine XS.aloadN X107.here hx rfl (hb hby d20_14) rfl rfl ?_
    show Go p e below T107 (mkF m 15 #[vr a1, vi 1, vi 3, vr ur101, vi 1] [wr ur101]) _
    refine XS.iload X107.here hx rfl (hb hby d20_15) rfl ?_
    show Go p e below T107 (mkF m 17 #[vr a1, vi 1, vi 3, vr ur101, vi 1] [wi 1, wr ur101]) _
    refine XS.aloadN X107.here hx rfl (hb hby d20_17) rfl rfl ?_
    show Go p e below T107 (mkF m 18 #[vr a1, vi 1, vi 3, vr ur101, vi 1] [wr a1, wi 1, wr ur101]) _
    refine XS.iloadN X107.here hx rfl (hb hby d20_18) rfl ?_
    show Go p e below T107 (mkF m 19 #[vr a1, vi 1, vi 3, vr ur101, vi 1] [wi 1, wr a1, wi 1, wr ur101]) _
    refine X107.caload hx (j := (1 : Int32)) (v := (.int x2)) Ar109.1 (State.isArrayOf_alike hZ.alike Ar109.2.1) Ar109.2.2 (inb_of S109 ⟨by decide, by decide⟩) hat110 (g := (mkF m 19 #[vr a1, vi 1, vi 3, vr ur101, vi 1] [wi 1, wr a1, wi 1, wr ur101])) rfl rfl (hb hby d20_19) _ ?_
    show Go p e below T107 (mkF m 20 #[vr a1, vi 1, vi 3, vr ur101, vi 1] [wi x2, wi 1, wr ur101]) _
    refine st113 _ ?_
    show Go p e below T113 (mkF m 23 #[vr a1, vi 1, vi 3, vr ur101, vi 1] []) _
    refine XS.iinc X113.here hx rfl (hb hby d20_23) rfl (l' := #[.val (.ref a1), .val (.int (2 : Int32)), .val (.int (3 : Int32)), .val (.ref ur101), .val (.int (1 : Int32))]) rfl ?_
    show Go p e below T113 (mkF m 26 #[vr a1, vi 2, vi 3, vr ur101, vi 1] []) _
    refine XS.iinc X113.here hx rfl (hb hby d20_26) rfl (l' := #[.val (.ref a1), .val (.int (2 : Int32)), .val (.int (3 : Int32)), .val (.ref ur101), .val (.int (2 : Int32))]) rfl ?_
    show Go p e below T113 (mkF m 29 #[vr a1, vi 2, vi 3, vr ur101, vi 2] []) _
    refine XS.goto X113.here hx rfl (pc0 := 29) (pc' := 8) rfl (hb hby d20_29) (by decide) (by decide) ?_
    show Go p e below T113 (mkF m 8 #[vr a1, vi 2, vi 3, vr ur101, vi 2] []) _
    refine XS.iload X113.here hx rfl (hb hby d20_8) rfl ?_
    show Go p e below T113 (mkF m 10 #[vr a1, vi 2, vi 3, vr ur101, vi 2] [wi 2]) _
    refine XS.iloadN X113.here hx rfl (hb hby d20_10) rfl ?_
    show Go p e below T113 (mkF m 11 #[vr a1, vi 2, vi 3, vr ur101, vi 2] [wi 3, wi 2]) _
    refine XS.icmpNo X113.here hx rfl (hb hby d20_11) rfl (tlt (by decide : (2 : Int32) < (3 : Int32))).2.1 ?_
    show Go p e below T113 (mkF m 14 #[vr a1, vi 2, vi 3, vr ur101, vi 2] []) _
    refine XS.aloadN X113.here hx rfl (hb hby d20_14) rfl rfl ?_
    show Go p e below T113 (mkF m 15 #[vr a1, vi 2, vi 3, vr ur101, vi 2] [wr ur101]) _
    refine XS.iload X113.here hx rfl (hb hby d20_15) rfl ?_
    show Go p e below T113 (mkF m 17 #[vr a1, vi 2, vi 3, vr ur101, vi 2] [wi 2, wr ur101]) _
    refine XS.aloadN X113.here hx rfl (hb hby d20_17) rfl rfl ?_
    show Go p e below T113 (mkF m 18 #[vr a1, vi 2, vi 3, vr ur101, vi 2] [wr a1, wi 2, wr ur101]) _
    refine XS.iloadN X113.here hx rfl (hb hby d20_18) rfl ?_
    show Go p e below T113 (mkF m 19 #[vr a1, vi 2, vi 3, vr ur101, vi 2] [wi 2, wr a1, wi 2, wr ur101]) _
    refine X113.caload hx (j := (2 : Int32)) (v := (.int x3)) Ar115.1 (State.isArrayOf_alike hZ.alike Ar115.2.1) Ar115.2.2 (inb_of S115 ⟨by decide, by decide⟩) hat116 (g := (mkF m 19 #[vr a1, vi 2, vi 3, vr ur101, vi 2] [wi 2, wr a1, wi 2, wr ur101])) rfl rfl (hb hby d20_19) _ ?_
    show Go p e below T113 (mkF m 20 #[vr a1, vi 2, vi 3, vr ur101, vi 2] [wi x3, wi 2, wr ur101]) _
    refine st119 _ ?_
    show Go p e below T119 (mkF m 23 #[vr a1, vi 2, vi 3, vr ur101, vi 2] []) _
    refine XS.iinc X119.here hx rfl (hb hby d20_23) rfl (l' := #[.val (.ref a1), .val (.int (3 : Int32)), .val (.int (3 : Int32)), .val (.ref ur101), .val (.int (2 : Int32))]) rfl ?_
    show Go p e below T119 (mkF m 26 #[vr a1, vi 3, vi 3, vr ur101, vi 2] []) _
    refine XS.iinc X119.here hx rfl (hb hby d20_26) rfl (l' := #[.val (.ref a1), .val (.int (3 : Int32)), .val (.int (3 : Int32)), .val (.ref ur101), .val (.int (3 : Int32))]) rfl ?_
    show Go p e below T119 (mkF m 29 #[vr a1, vi 3, vi 3, vr ur101, vi 3] []) _
    refine XS.goto X119.here hx rfl (pc0 := 29) (pc' := 8) rfl (hb hby d20_29) (by decide) (by decide) ?_
    show Go p e below T119 (mkF m 8 #[vr a1, vi 3, vi 3, vr ur101, vi 3] []) _
    refine XS.iload X119.here hx rfl (hb hby d20_8) rfl ?_
    show Go p e below T119 (mkF m 10 #[vr a1, vi 3, vi 3, vr ur101, vi 3] [wi 3]) _
    refine XS.iloadN X119.here hx rfl (hb hby d20_10) rfl ?_
    show Go p e below T119 (mkF m 11 #[vr a1, vi 3, vi 3, vr ur101, vi 3] [wi 3, wi 3]) _
    refine XS.icmpYes X119.here hx rfl (pc0 := 11) (pc' := 32) rfl (hb hby d20_11) rfl (flt (by decide : ¬ ((3 : Int32) < (3 : Int32)))).2.1 (by decide) (by decide) ?_
    show Go p e below T119 (mkF m 32 #[vr a1, vi 3, vi 3, vr ur101, vi 3] []) _
    refine XS.aloadN X119.here hx rfl (hb hby d20_32) rfl rfl ?_
    show Go p e below T119 (mkF m 33 #[vr a1, vi 3, vi 3, vr ur101, vi 3] [wr ur101]) _
    jvm_step X119.here [X119.here.top, hx, (hb hby d20_33), X119.method', Bd.returns, Value.isRef, FieldType.isReference]
    first | (intro acts; rw [hr _ acts rfl rfl rfl]) | rw [hr _ _ rfl rfl rfl]
    exact Steps.refl _
  · show QAr Z (6 : Int32) [.int (StrChars.lo8 x1), .int (StrChars.hi8 x1), .int (StrChars.lo8 x2), .int (StrChars.hi8 x2), .int (StrChars.lo8 x3), .int (StrChars.hi8 x3)] h0 n0 _ T119.heap _
    exact ⟨_, _, rfl, N119, y120, ug101, sz_ur101, uV119⟩
set_option maxRecDepth 65536 in
set_option maxHeartbeats 40000000 in
theorem rmC5_3_1 (l : Launch) (Z : State) (a0 : Array Value) (hw : ∀ d ∈ tables_1, d.before a0 Z = true) (ws : List Jvm.Cond) (a1 : Addr) (a3 : Addr) (ka : ClassId) (kd : ClassId) (x1 : Int32) (x2 : Int32) (x3 : Int32) (h0 : Heap) (n0 : Nat) (X00 : Old Z n0 h0) (V_a : Arv Z h0 a1 ka .char (3 : Int32) [(.int x1), (.int x2), (.int x3)] (.int (0 : Int32))) (V_d : Arv Z h0 a3 kd .byte (3 : Int32) [.int (0 : Int32), .int (0 : Int32), .int (0 : Int32)] (.int (0 : Int32))) (g_a3 : n0 ≤ a3) (ne : a1 ≠ a3) (hl0 : ¬ ((255 : Int32) < x1)) (hg : (255 : Int32) < x2) :
    MetFree l mn_19 (head1 (Jvm.Cond.code mn_19 jdk_52_method_21_code 7 (some .int) :: ws) ro_0) (fun a U => a = #[(.ref a1), (.int (0 : Int32)), (.ref a3), (.int (0 : Int32)), (.int (3 : Int32))] ∧ Z.Warmed39 U.vm ∧ U.heap = h0) (fun _ _ _ _ _ => True) (fun _ U o U' => ∃ rv rL, o = .returned rv ∧ QK a3 (some (.int (1 : Int32))) h0 n0 rv U'.heap rL ∧ FrameEnd U o U' rL ro_0.cells ro_0.slots) := by
  refine MetFree.of_bodySF (plainFor_of_name pn_8) hisR ?_
  intro p e s m args below meth c s₁ Bd hml0 hP hK
  obtain ⟨rfl, hZ, hh⟩ := hP
  have hx := Bd.exec
  have hby := Bd.bytes
  have hml : c.maxLocals = 7 := hml0
  have hown : s.vm.findClass "java/lang/StringUTF16" = some m.cls := findClass_of_methodNamed Bd.named
  have hnm := (name_of_methodNamed Bd.named Bd.method).1
  have X0 : Stand p l e ro_0 s m #[(.ref a1), (.int (0 : Int32)), (.ref a3), (.int (0 : Int32)), (.int (3 : Int32))] below meth c s₁ [] 0 0 := Stand.of_body Bd
  have e0 : s₁.heap = h0 := by rw [← hh, Bd.state]; rfl
  have N0 := Fr.nil n0
  have pre0 : ∀ t, Steps p.tables e below (s₁.setTop (mkF m 0 #[.val (.ref a1), .val (.int (0 : Int32)), .val (.ref a3), .val (.int (0 : Int32)), .val (.int (3 : Int32)), .unset, .unset] [])) t → Steps p.tables e below (s₁.setTop (entryFrame m #[(.ref a1), (.int (0 : Int32)), (.ref a3), (.int (0 : Int32)), (.int (3 : Int32))] 7)) t := fun t k => castTop (ef_8 m a1 (0 : Int32) a3 (0 : Int32) (3 : Int32)) k
  obtain ⟨cl101, Ar101, q101, S101, M101, H101, G101⟩ := id V_a
  have hat102 : cl101.slots[((0 : Int32)).toNatClampNeg]? = some (.int x1) := by rw [show ((0 : Int32)).toNatClampNeg = 0 from by decide]; exact H101 0 (by rw [S101]; decide)
  have hc20 : ¬ ((255 : Int32) < x1) := hl0
  obtain ⟨cl103, Ar103, q103, S103, M103, H103, G103⟩ := id V_d
  obtain ⟨T103, h103, X103, e103, W103, st103⟩ := stB X0 hx hZ e0 Ar103 (j := (0 : Int32)) (inb_of S103 ⟨by decide, by decide⟩) (g := (mkF m 31 #[vr a1, vi 0, vr a3, vi 0, vi 3, vi 0, vi x1] [wi (x1.toInt8.toInt32), wi 0, wr a3])) rfl rfl (hb hby d8_31)
  have V103 : Arv Z h103 a3 kd .byte (3 : Int32) [(.int (nar .byte (x1.toInt8.toInt32))), (.int (0 : Int32)), (.int (0 : Int32))] (.int (0 : Int32)) := Arv.set Ar103 q103 S103 M103 H103 G103 (fits_nar_byte _) W103 0 rfl (Nat.le_of_ble_eq_true rfl)
  have N103 := Fr.snoc X103 N0 g_a3
  have y104 := (V_a.other W103 ne)
  obtain ⟨cl105, Ar105, q105, S105, M105, H105, G105⟩ := id y104
  have hat106 : cl105.slots[((1 : Int32)).toNatClampNeg]? = some (.int x2) := by rw [show ((1 : Int32)).toNatClampNeg = 1 from by decide]; exact H105 1 (by rw [S105]; decide)
  have hc20_1 : (255 : Int32) < x2 := hg
  have y107 := ((Keep.refl h0 [a3]).wr W103 (Or.inl (List.mem_of_getElem? (i := 0) rfl)))
  obtain ⟨fs, hr, hrun, hended, hW, hsame⟩ := X103.leave (v := some (.int (1 : Int32))) (fun h => by rw [Bd.returns] at h; cases h)
  refine ⟨_, _, pre0 _ ?_, hrun, hended, _, _, rfl, ?_, ⟨_, rfl⟩, hW, hsame.mono (by decide) (by decide)⟩
  · show Go p e below s₁ (mkF m 0 #[vr a1, vi 0, vr a3, vi 0, vi 3, .unset, .unset] []) _
    refine XS.iconst X0.here hx rfl (hb hby d8_0) ?_
    show Go p e below s₁ (mkF m 1 #[vr a1, vi 0, vr a3, vi 0, vi 3, .unset, .unset] [wi 0]) _
    refine XS.istore X0.here hx rfl (hb hby d8_1) rfl (l' := #[.val (.ref a1), .val (.int (0 : Int32)), .val (.ref a3), .val (.int (0 : Int32)), .val (.int (3 : Int32)), .val (.int (0 : Int32)), .unset]) rfl ?_
    show Go p e below s₁ (mkF m 3 #[vr a1, vi 0, vr a3, vi 0, vi 3, vi 0, .unset] []) _
    refine XS.iload X0.here hx rfl (hb hby d8_3) rfl ?_
    show Go p e below s₁ (mkF m 5 #[vr a1, vi 0, vr a3, vi 0, vi 3, vi 0, .unset] [wi 0]) _
    refine XS.iload X0.here hx rfl (hb hby d8_5) rfl ?_
    show Go p e below s₁ (mkF m 7 #[vr a1, vi 0, vr a3, vi 0, vi 3, vi 0, .unset] [wi 3, wi 0]) _
    refine XS.icmpNo X0.here hx rfl (hb hby d8_7) rfl (tlt (by decide : (0 : Int32) < (3 : Int32))).2.1 ?_
    show Go p e below s₁ (mkF m 10 #[vr a1, vi 0, vr a3, vi 0, vi 3, vi 0, .unset] []) _
    refine XS.aloadN X0.here hx rfl (hb hby d8_10) rfl rfl ?_
    show Go p e below s₁ (mkF m 11 #[vr a1, vi 0, vr a3, vi 0, vi 3, vi 0, .unset] [wr a1]) _
    refine XS.iloadN X0.here hx rfl (hb hby d8_11) rfl ?_
    show Go p e below s₁ (mkF m 12 #[vr a1, vi 0, vr a3, vi 0, vi 3, vi 0, .unset] [wi 0, wr a1]) _
    refine X0.caload hx (j := (0 : Int32)) (v := (.int x1)) (by rw [e0]; exact Ar101.1) (State.isArrayOf_alike hZ.alike Ar101.2.1) Ar101.2.2 (inb_of S101 ⟨by decide, by decide⟩) hat102 (g := (mkF m 12 #[vr a1, vi 0, vr a3, vi 0, vi 3, vi 0, .unset] [wi 0, wr a1])) rfl rfl (hb hby d8_12) _ ?_
    show Go p e below s₁ (mkF m 13 #[vr a1, vi 0, vr a3, vi 0, vi 3, vi 0, .unset] [wi x1]) _
    refine XS.istore X0.here hx rfl (hb hby d8_13) rfl (l' := #[.val (.ref a1), .val (.int (0 : Int32)), .val (.ref a3), .val (.int (0 : Int32)), .val (.int (3 : Int32)), .val (.int (0 : Int32)), .val (.int x1)]) rfl ?_
    show Go p e below s₁ (mkF m 15 #[vr a1, vi 0, vr a3, vi 0, vi 3, vi 0, vi x1] []) _
    refine XS.iload X0.here hx rfl (hb hby d8_15) rfl ?_
    show Go p e below s₁ (mkF m 17 #[vr a1, vi 0, vr a3, vi 0, vi 3, vi 0, vi x1] [wi x1]) _
    refine XS.sipush X0.here hx rfl (hb hby d8_17) ?_
    show Go p e below s₁ (mkF m 20 #[vr a1, vi 0, vr a3, vi 0, vi 3, vi 0, vi x1] [wi 255, wi x1]) _
    refine XS.icmpYes X0.here hx rfl (pc0 := 20) (pc' := 26) rfl (hb hby d8_20) rfl (flt hc20).2.2.2 (by decide) (by decide) ?_
    show Go p e below s₁ (mkF m 26 #[vr a1, vi 0, vr a3, vi 0, vi 3, vi 0, vi x1] []) _
    refine XS.aloadN X0.here hx rfl (hb hby d8_26) rfl rfl ?_
    show Go p e below s₁ (mkF m 27 #[vr a1, vi 0, vr a3, vi 0, vi 3, vi 0, vi x1] [wr a3]) _
    refine XS.iloadN X0.here hx rfl (hb hby d8_27) rfl ?_
    show Go p e below s₁ (mkF m 28 #[vr a1, vi 0, vr a3, vi 0, vi 3, vi 0, vi x1] [wi 0, wr a3]) _
    refine XS.iload X0.here hx rfl (hb hby d8_28) rfl ?_
    show Go p e below s₁ (mkF m 30 #[vr a1, vi 0, vr a3, vi 0, vi 3, vi 0, vi x1] [wi x1, wi 0, wr a3]) _
    refine XS.i2b X0.here hx rfl (hb hby d8_30) rfl ?_
    show Go p e below s₁ (mkF m 31 #[vr a1, vi 0, vr a3, vi 0, vi 3, vi 0, vi x1] [wi (x1.toInt8.toInt32), wi 0, wr a3]) _
    refine st103 _ ?_
    show Go p e below T103 (mkF m 32 #[vr a1, vi 0, vr a3, vi 0, vi 3, vi 0, vi x1] []) _
    refine XS.iinc X103.here hx rfl (hb hby d8_32) rfl (l' := #[.val (.ref a1), .val (.int (1 : Int32)), .val (.ref a3), .val (.int (0 : Int32)), .val (.int (3 : Int32)), .val (.int (0 : Int32)), .val (.int x1)]) rfl ?_
    show Go p e below T103 (mkF m 35 #[vr a1, vi 1, vr a3, vi 0, vi 3, vi 0, vi x1] []) _
    refine XS.iinc X103.here hx rfl (hb hby d8_35) rfl (l' := #[.val (.ref a1), .val (.int (1 : Int32)), .val (.ref a3), .val (.int (1 : Int32)), .val (.int (3 : Int32)), .val (.int (0 : Int32)), .val (.int x1)]) rfl ?_
    show Go p e below T103 (mkF m 38 #[vr a1, vi 1, vr a3, vi 1, vi 3, vi 0, vi x1] []) _
    refine XS.iinc X103.here hx rfl (hb hby d8_38) rfl (l' := #[.val (.ref a1), .val (.int (1 : Int32)), .val (.ref a3), .val (.int (1 : Int32)), .val (.int (3 : Int32)), .val (.int (1 : Int32)), .val (.int x1)]) rfl ?_
    show Go p e below T103 (mkF m 41 #[vr a1, vi 1, vr a3, vi 1, vi 3, vi 1, vi x1] []) _
    refine XS.goto X103.here hx rfl (pc0 := 41) (pc' := 3) rfl (hb hby d8_41) (by decide) (by decide) ?_
    show Go p e below T103 (mkF m 3 #[vr a1, vi 1, vr a3, vi 1, vi 3, vi 1, vi x1] []) _
    refine XS.iload X103.here hx rfl (hb hby d8_3) rfl ?_
    show Go p e below T103 (mkF m 5 #[vr a1, vi 1, vr a3, vi 1, vi 3, vi 1, vi x1] [wi 1]) _
    refine XS.iload X103.here hx rfl (hb hby d8_5) rfl ?_
    show Go p e below T103 (mkF m 7 #[vr a1, vi 1, vr a3, vi 1, vi 3, vi 1, vi x1] [wi 3, wi 1]) _
    refine XS.icmpNo X103.here hx rfl (hb hby d8_7) rfl (tlt (by decide : (1 : Int32) < (3 : Int32))).2.1 ?_
    show Go p e below T103 (mkF m 10 #[vr a1, vi 1, vr a3, vi 1, vi 3, vi 1, vi x1] []) _
    refine XS.aloadN X103.here hx rfl (hb hby d8_10) rfl rfl ?_
    show Go p e below T103 (mkF m 11 #[vr a1, vi 1, vr a3, vi 1, vi 3, vi 1, vi x1] [wr a1]) _
    refine XS.iloadN X103.here hx rfl (hb hby d8_11) rfl ?_
    show Go p e below T103 (mkF m 12 #[vr a1, vi 1, vr a3, vi 1, vi 3, vi 1, vi x1] [wi 1, wr a1]) _
    refine X103.caload hx (j := (1 : Int32)) (v := (.int x2)) (by rw [e103]; exact Ar105.1) (State.isArrayOf_alike hZ.alike Ar105.2.1) Ar105.2.2 (inb_of S105 ⟨by decide, by decide⟩) hat106 (g := (mkF m 12 #[vr a1, vi 1, vr a3, vi 1, vi 3, vi 1, vi x1] [wi 1, wr a1])) rfl rfl (hb hby d8_12) _ ?_
    show Go p e below T103 (mkF m 13 #[vr a1, vi 1, vr a3, vi 1, vi 3, vi 1, vi x1] [wi x2]) _
    refine XS.istore X103.here hx rfl (hb hby d8_13) rfl (l' := #[.val (.ref a1), .val (.int (1 : Int32)), .val (.ref a3), .val (.int (1 : Int32)), .val (.int (3 : Int32)), .val (.int (1 : Int32)), .val (.int x2)]) rfl ?_
    show Go p e below T103 (mkF m 15 #[vr a1, vi 1, vr a3, vi 1, vi 3, vi 1, vi x2] []) _
    refine XS.iload X103.here hx rfl (hb hby d8_15) rfl ?_
    show Go p e below T103 (mkF m 17 #[vr a1, vi 1, vr a3, vi 1, vi 3, vi 1, vi x2] [wi x2]) _
    refine XS.sipush X103.here hx rfl (hb hby d8_17) ?_
    show Go p e below T103 (mkF m 20 #[vr a1, vi 1, vr a3, vi 1, vi 3, vi 1, vi x2] [wi 255, wi x2]) _
    refine XS.icmpNo X103.here hx rfl (hb hby d8_20) rfl (tlt hc20_1).2.2.2 ?_
    show Go p e below T103 (mkF m 23 #[vr a1, vi 1, vr a3, vi 1, vi 3, vi 1, vi x2] []) _
    refine XS.iload X103.here hx rfl (hb hby d8_23) rfl ?_
    show Go p e below T103 (mkF m 25 #[vr a1, vi 1, vr a3, vi 1, vi 3, vi 1, vi x2] [wi 1]) _
    exact retI X103 hx Bd.returns (hb hby d8_25) hr
  · show QK a3 (some (.int (1 : Int32))) h0 n0 _ T103.heap _
    rw [e103]
    exact ⟨rfl, N103, y107⟩
set_option maxRecDepth 65536 in
set_option maxHeartbeats 40000000 in
theorem rmC5_3_2 (l : Launch) (Z : State) (a0 : Array Value) (hw : ∀ d ∈ tables_1, d.before a0 Z = true) (ws : List Jvm.Cond) (a1 : Addr) (a3 : Addr) (ka : ClassId) (kd : ClassId) (x1 : Int32) (x2 : Int32) (x3 : Int32) (h0 : Heap) (n0 : Nat) (X00 : Old Z n0 h0) (V_a : Arv Z h0 a1 ka .char (3 : Int32) [(.int x1), (.int x2), (.int x3)] (.int (0 : Int32))) (V_d : Arv Z h0 a3 kd .byte (3 : Int32) [.int (0 : Int32), .int (0 : Int32), .int (0 : Int32)] (.int (0 : Int32))) (g_a3 : n0 ≤ a3) (ne : a1 ≠ a3) (hl0 : ¬ ((255 : Int32) < x1)) (hl1 : ¬ ((255 : Int32) < x2)) (hg : (255 : Int32) < x3) :
    MetFree l mn_19 (head1 (Jvm.Cond.code mn_19 jdk_52_method_21_code 7 (some .int) :: ws) ro_0) (fun a U => a = #[(.ref a1), (.int (0 : Int32)), (.ref a3), (.int (0 : Int32)), (.int (3 : Int32))] ∧ Z.Warmed39 U.vm ∧ U.heap = h0) (fun _ _ _ _ _ => True) (fun _ U o U' => ∃ rv rL, o = .returned rv ∧ QK a3 (some (.int (2 : Int32))) h0 n0 rv U'.heap rL ∧ FrameEnd U o U' rL ro_0.cells ro_0.slots) := by
  refine MetFree.of_bodySF (plainFor_of_name pn_8) hisR ?_
  intro p e s m args below meth c s₁ Bd hml0 hP hK
  obtain ⟨rfl, hZ, hh⟩ := hP
  have hx := Bd.exec
  have hby := Bd.bytes
  have hml : c.maxLocals = 7 := hml0
  have hown : s.vm.findClass "java/lang/StringUTF16" = some m.cls := findClass_of_methodNamed Bd.named
  have hnm := (name_of_methodNamed Bd.named Bd.method).1
  have X0 : Stand p l e ro_0 s m #[(.ref a1), (.int (0 : Int32)), (.ref a3), (.int (0 : Int32)), (.int (3 : Int32))] below meth c s₁ [] 0 0 := Stand.of_body Bd
  have e0 : s₁.heap = h0 := by rw [← hh, Bd.state]; rfl
  have N0 := Fr.nil n0
  have pre0 : ∀ t, Steps p.tables e below (s₁.setTop (mkF m 0 #[.val (.ref a1), .val (.int (0 : Int32)), .val (.ref a3), .val (.int (0 : Int32)), .val (.int (3 : Int32)), .unset, .unset] [])) t → Steps p.tables e below (s₁.setTop (entryFrame m #[(.ref a1), (.int (0 : Int32)), (.ref a3), (.int (0 : Int32)), (.int (3 : Int32))] 7)) t := fun t k => castTop (ef_8 m a1 (0 : Int32) a3 (0 : Int32) (3 : Int32)) k
  obtain ⟨cl101, Ar101, q101, S101, M101, H101, G101⟩ := id V_a
  have hat102 : cl101.slots[((0 : Int32)).toNatClampNeg]? = some (.int x1) := by rw [show ((0 : Int32)).toNatClampNeg = 0 from by decide]; exact H101 0 (by rw [S101]; decide)
  have hc20 : ¬ ((255 : Int32) < x1) := hl0
  obtain ⟨cl103, Ar103, q103, S103, M103, H103, G103⟩ := id V_d
  obtain ⟨T103, h103, X103, e103, W103, st103⟩ := stB X0 hx hZ e0 Ar103 (j := (0 : Int32)) (inb_of S103 ⟨by decide, by decide⟩) (g := (mkF m 31 #[vr a1, vi 0, vr a3, vi 0, vi 3, vi 0, vi x1] [wi (x1.toInt8.toInt32), wi 0, wr a3])) rfl rfl (hb hby d8_31)
  have V103 : Arv Z h103 a3 kd .byte (3 : Int32) [(.int (nar .byte (x1.toInt8.toInt32))), (.int (0 : Int32)), (.int (0 : Int32))] (.int (0 : Int32)) := Arv.set Ar103 q103 S103 M103 H103 G103 (fits_nar_byte _) W103 0 rfl (Nat.le_of_ble_eq_true rfl)
  have N103 := Fr.snoc X103 N0 g_a3
  have y104 := (V_a.other W103 ne)
  obtain ⟨cl105, Ar105, q105, S105, M105, H105, G105⟩ := id y104
  have hat106 : cl105.slots[((1 : Int32)).toNatClampNeg]? = some (.int x2) := by rw [show ((1 : Int32)).toNatClampNeg = 1 from by decide]; exact H105 1 (by rw [S105]; decide)
  have hc20_1 : ¬ ((255 : Int32) < x2) := hl1
  obtain ⟨cl107, Ar107, q107, S107, M107, H107, G107⟩ := id V103
  obtain ⟨T107, h107, X107, e107, W107, st107⟩ := stB X103 hx hZ e103 Ar107 (j := (1 : Int32)) (inb_of S107 ⟨by decide, by decide⟩) (g := (mkF m 31 #[vr a1, vi 1, vr a3, vi 1, vi 3, vi 1, vi x2] [wi (x2.toInt8.toInt32), wi 1, wr a3])) rfl rfl (hb hby d8_31)
  have V107 : Arv Z h107 a3 kd .byte (3 : Int32) [(.int (nar .byte (x1.toInt8.toInt32))), (.int (nar .byte (x2.toInt8.toInt32))), (.int (0 : Int32))] (.int (0 : Int32)) := Arv.set Ar107 q107 S107 M107 H107 G107 (fits_nar_byte _) W107 1 rfl (Nat.le_of_ble_eq_true rfl)
  have N107 := Fr.snoc X107 N103 g_a3
  have y108 := (y104.other W107 ne)
  obtain ⟨cl109, Ar109, q109, S109, M109, H109, G109⟩ := id y108
  have hat110 : cl109.slots[((2 : Int32)).toNatClampNeg]? = some (.int x3) := by rw [show ((2 : Int32)).toNatClampNeg = 2 from by decide]; exact H109 2 (by rw [S109]; decide)
  have hc20_2 : (255 : Int32) < x3 := hg
  have y111 := (((Keep.refl h0 [a3]).wr W103 (Or.inl (List.mem_of_getElem? (i := 0) rfl))).wr W107 (Or.inl (List.mem_of_getElem? (i := 0) rfl)))
  obtain ⟨fs, hr, hrun, hended, hW, hsame⟩ := X107.leave (v := some (.int (2 : Int32))) (fun h => by rw [Bd.returns] at h; cases h)
  refine ⟨_, _, pre0 _ ?_, hrun, hended, _, _, rfl, ?_, ⟨_, rfl⟩, hW, hsame.mono (by decide) (by decide)⟩
  · show Go p e below s₁ (mkF m 0 #[vr a1, vi 0, vr a3, vi 0, vi 3, .unset, .unset] []) _
    refine XS.iconst X0.here hx rfl (hb hby d8_0) ?_
    show Go p e below s₁ (mkF m 1 #[vr a1, vi 0, vr a3, vi 0, vi 3, .unset, .unset] [wi 0]) _
    refine XS.istore X0.here hx rfl (hb hby d8_1) rfl (l' := #[.val (.ref a1), .val (.int (0 : Int32)), .val (.ref a3), .val (.int (0 : Int32)), .val (.int (3 : Int32)), .val (.int (0 : Int32)), .unset]) rfl ?_
    show Go p e below s₁ (mkF m 3 #[vr a1, vi 0, vr a3, vi 0, vi 3, vi 0, .unset] []) _
    refine XS.iload X0.here hx rfl (hb hby d8_3) rfl ?_
    show Go p e below s₁ (mkF m 5 #[vr a1, vi 0, vr a3, vi 0, vi 3, vi 0, .unset] [wi 0]) _
    refine XS.iload X0.here hx rfl (hb hby d8_5) rfl ?_
    show Go p e below s₁ (mkF m 7 #[vr a1, vi 0, vr a3, vi 0, vi 3, vi 0, .unset] [wi 3, wi 0]) _
    refine XS.icmpNo X0.here hx rfl (hb hby d8_7) rfl (tlt (by decide : (0 : Int32) < (3 : Int32))).2.1 ?_
    show Go p e below s₁ (mkF m 10 #[vr a1, vi 0, vr a3, vi 0, vi 3, vi 0, .unset] []) _
    refine XS.aloadN X0.here hx rfl (hb hby d8_10) rfl rfl ?_
    show Go p e below s₁ (mkF m 11 #[vr a1, vi 0, vr a3, vi 0, vi 3, vi 0, .unset] [wr a1]) _
    refine XS.iloadN X0.here hx rfl (hb hby d8_11) rfl ?_
    show Go p e below s₁ (mkF m 12 #[vr a1, vi 0, vr a3, vi 0, vi 3, vi 0, .unset] [wi 0, wr a1]) _
    refine X0.caload hx (j := (0 : Int32)) (v := (.int x1)) (by rw [e0]; exact Ar101.1) (State.isArrayOf_alike hZ.alike Ar101.2.1) Ar101.2.2 (inb_of S101 ⟨by decide, by decide⟩) hat102 (g := (mkF m 12 #[vr a1, vi 0, vr a3, vi 0, vi 3, vi 0, .unset] [wi 0, wr a1])) rfl rfl (hb hby d8_12) _ ?_
    show Go p e below s₁ (mkF m 13 #[vr a1, vi 0, vr a3, vi 0, vi 3, vi 0, .unset] [wi x1]) _
    refine XS.istore X0.here hx rfl (hb hby d8_13) rfl (l' := #[.val (.ref a1), .val (.int (0 : Int32)), .val (.ref a3), .val (.int (0 : Int32)), .val (.int (3 : Int32)), .val (.int (0 : Int32)), .val (.int x1)]) rfl ?_
    show Go p e below s₁ (mkF m 15 #[vr a1, vi 0, vr a3, vi 0, vi 3, vi 0, vi x1] []) _
    refine XS.iload X0.here hx rfl (hb hby d8_15) rfl ?_
    show Go p e below s₁ (mkF m 17 #[vr a1, vi 0, vr a3, vi 0, vi 3, vi 0, vi x1] [wi x1]) _
    refine XS.sipush X0.here hx rfl (hb hby d8_17) ?_
    show Go p e below s₁ (mkF m 20 #[vr a1, vi 0, vr a3, vi 0, vi 3, vi 0, vi x1] [wi 255, wi x1]) _
    refine XS.icmpYes X0.here hx rfl (pc0 := 20) (pc' := 26) rfl (hb hby d8_20) rfl (flt hc20).2.2.2 (by decide) (by decide) ?_
    show Go p e below s₁ (mkF m 26 #[vr a1, vi 0, vr a3, vi 0, vi 3, vi 0, vi x1] []) _
    refine XS.aloadN X0.here hx rfl (hb hby d8_26) rfl rfl ?_
    show Go p e below s₁ (mkF m 27 #[vr a1, vi 0, vr a3, vi 0, vi 3, vi 0, vi x1] [wr a3]) _
    refine XS.iloadN X0.here hx rfl (hb hby d8_27) rfl ?_
    show Go p e below s₁ (mkF m 28 #[vr a1, vi 0, vr a3, vi 0, vi 3, vi 0, vi x1] [wi 0, wr a3]) _
    refine XS.iload X0.here hx rfl (hb hby d8_28) rfl ?_
    show Go p e below s₁ (mkF m 30 #[vr a1, vi 0, vr a3, vi 0, vi 3, vi 0, vi x1] [wi x1, wi 0, wr a3]) _
    refine XS.i2b X0.here hx rfl (hb hby d8_30) rfl ?_
    show Go p e below s₁ (mkF m 31 #[vr a1, vi 0, vr a3, vi 0, vi 3, vi 0, vi x1] [wi (x1.toInt8.toInt32), wi 0, wr a3]) _
    refine st103 _ ?_
    show Go p e below T103 (mkF m 32 #[vr a1, vi 0, vr a3, vi 0, vi 3, vi 0, vi x1] []) _
    refine XS.iinc X103.here hx rfl (hb hby d8_32) rfl (l' := #[.val (.ref a1), .val (.int (1 : Int32)), .val (.ref a3), .val (.int (0 : Int32)), .val (.int (3 : Int32)), .val (.int (0 : Int32)), .val (.int x1)]) rfl ?_
    show Go p e below T103 (mkF m 35 #[vr a1, vi 1, vr a3, vi 0, vi 3, vi 0, vi x1] []) _
    refine XS.iinc X103.here hx rfl (hb hby d8_35) rfl (l' := #[.val (.ref a1), .val (.int (1 : Int32)), .val (.ref a3), .val (.int (1 : Int32)), .val (.int (3 : Int32)), .val (.int (0 : Int32)), .val (.int x1)]) rfl ?_
    show Go p e below T103 (mkF m 38 #[vr a1, vi 1, vr a3, vi 1, vi 3, vi 0, vi x1] []) _
    refine XS.iinc X103.here hx rfl (hb hby d8_38) rfl (l' := #[.val (.ref a1), .val (.int (1 : Int32)), .val (.ref a3), .val (.int (1 : Int32)), .val (.int (3 : Int32)), .val (.int (1 : Int32)), .val (.int x1)]) rfl ?_
    show Go p e below T103 (mkF m 41 #[vr a1, vi 1, vr a3, vi 1, vi 3, vi 1, vi x1] []) _
    refine XS.goto X103.here hx rfl (pc0 := 41) (pc' := 3) rfl (hb hby d8_41) (by decide) (by decide) ?_
    show Go p e below T103 (mkF m 3 #[vr a1, vi 1, vr a3, vi 1, vi 3, vi 1, vi x1] []) _
    refine XS.iload X103.here hx rfl (hb hby d8_3) rfl ?_
    show Go p e below T103 (mkF m 5 #[vr a1, vi 1, vr a3, vi 1, vi 3, vi 1, vi x1] [wi 1]) _
    refine XS.iload X103.here hx rfl (hb hby d8_5) rfl ?_
    show Go p e below T103 (mkF m 7 #[vr a1, vi 1, vr a3, vi 1, vi 3, vi 1, vi x1] [wi 3, wi 1]) _
    refine XS.icmpNo X103.here hx rfl (hb hby d8_7) rfl (tlt (by decide : (1 : Int32) < (3 : Int32))).2.1 ?_
    show Go p e below T103 (mkF m 10 #[vr a1, vi 1, vr a3, vi 1, vi 3, vi 1, vi x1] []) _
    refine XS.aloadN X103.here hx rfl (hb hby d8_10) rfl rfl ?_
    show Go p e below T103 (mkF m 11 #[vr a1, vi 1, vr a3, vi 1, vi 3, vi 1, vi x1] [wr a1]) _
    refine XS.iloadN X103.here hx rfl (hb hby d8_11) rfl ?_
    show Go p e below T103 (mkF m 12 #[vr a1, vi 1, vr a3, vi 1, vi 3, vi 1, vi x1] [wi 1, wr a1]) _
    refine X103.caload hx (j := (1 : Int32)) (v := (.int x2)) (by rw [e103]; exact Ar105.1) (State.isArrayOf_alike hZ.alike Ar105.2.1) Ar105.2.2 (inb_of S105 ⟨by decide, by decide⟩) hat106 (g := (mkF m 12 #[vr a1, vi 1, vr a3, vi 1, vi 3, vi 1, vi x1] [wi 1, wr a1])) rfl rfl (hb hby d8_12) _ ?_
    show Go p e below T103 (mkF m 13 #[vr a1, vi 1, vr a3, vi 1, vi 3, vi 1, vi x1] [wi x2]) _
    refine XS.istore X103.here hx rfl (hb hby d8_13) rfl (l' := #[.val (.ref a1), .val (.int (1 : Int32)), .val (.ref a3), .val (.int (1 : Int32)), .val (.int (3 : Int32)), .val (.int (1 : Int32)), .val (.int x2)]) rfl ?_
    show Go p e below T103 (mkF m 15 #[vr a1, vi 1, vr a3, vi 1, vi 3, vi 1, vi x2] []) _
    refine XS.iload X103.here hx rfl (hb hby d8_15) rfl ?_
    show Go p e below T103 (mkF m 17 #[vr a1, vi 1, vr a3, vi 1, vi 3, vi 1, vi x2] [wi x2]) _
    refine XS.sipush X103.here hx rfl (hb hby d8_17) ?_
    show Go p e below T103 (mkF m 20 #[vr a1, vi 1, vr a3, vi 1, vi 3, vi 1, vi x2] [wi 255, wi x2]) _
    refine XS.icmpYes X103.here hx rfl (pc0 := 20) (pc' := 26) rfl (hb hby d8_20) rfl (flt hc20_1).2.2.2 (by decide) (by decide) ?_
    show Go p e below T103 (mkF m 26 #[vr a1, vi 1, vr a3, vi 1, vi 3, vi 1, vi x2] []) _
    refine XS.aloadN X103.here hx rfl (hb hby d8_26) rfl rfl ?_
    show Go p e below T103 (mkF m 27 #[vr a1, vi 1, vr a3, vi 1, vi 3, vi 1, vi x2] [wr a3]) _
    refine XS.iloadN X103.here hx rfl (hb hby d8_27) rfl ?_
    show Go p e below T103 (mkF m 28 #[vr a1, vi 1, vr a3, vi 1, vi 3, vi 1, vi x2] [wi 1, wr a3]) _
    refine XS.iload X103.here hx rfl (hb hby d8_28) rfl ?_
    show Go p e below T103 (mkF m 30 #[vr a1, vi 1, vr a3, vi 1, vi 3, vi 1, vi x2] [wi x2, wi 1, wr a3]) _
    refine XS.i2b X103.here hx rfl (hb hby d8_30) rfl ?_
    show Go p e below T103 (mkF m 31 #[vr a1, vi 1, vr a3, vi 1, vi 3, vi 1, vi x2] [wi (x2.toInt8.toInt32), wi 1, wr a3]) _
    refine st107 _ ?_
    show Go p e below T107 (mkF m 32 #[vr a1, vi 1, vr a3, vi 1, vi 3, vi 1, vi x2] []) _
    refine XS.iinc X107.here hx rfl (hb hby d8_32) rfl (l' := #[.val (.ref a1), .val (.int (2 : Int32)), .val (.ref a3), .val (.int (1 : Int32)), .val (.int (3 : Int32)), .val (.int (1 : Int32)), .val (.int x2)]) rfl ?_
    show Go p e below T107 (mkF m 35 #[vr a1, vi 2, vr a3, vi 1, vi 3, vi 1, vi x2] []) _
    refine XS.iinc X107.here hx rfl (hb hby d8_35) rfl (l' := #[.val (.ref a1), .val (.int (2 : Int32)), .val (.ref a3), .val (.int (2 : Int32)), .val (.int (3 : Int32)), .val (.int (1 : Int32)), .val (.int x2)]) rfl ?_
    show Go p e below T107 (mkF m 38 #[vr a1, vi 2, vr a3, vi 2, vi 3, vi 1, vi x2] []) _
    refine XS.iinc X107.here hx rfl (hb hby d8_38) rfl (l' := #[.val (.ref a1), .val (.int (2 : Int32)), .val (.ref a3), .val (.int (2 : Int32)), .val (.int (3 : Int32)), .val (.int (2 : Int32)), .val (.int x2)]) rfl ?_
    show Go p e below T107 (mkF m 41 #[vr a1, vi 2, vr a3, vi 2, vi 3, vi 2, vi x2] []) _
    refine XS.goto X107.here hx rfl (pc0 := 41) (pc' := 3) rfl (hb hby d8_41) (by decide) (by decide) ?_
    show Go p e below T107 (mkF m 3 #[vr a1, vi 2, vr a3, vi 2, vi 3, vi 2, vi x2] []) _
    refine XS.iload X107.here hx rfl (hb hby d8_3) rfl ?_
    show Go p e below T107 (mkF m 5 #[vr a1, vi 2, vr a3, vi 2, vi 3, vi 2, vi x2] [wi 2]) _
    refine XS.iload X107.here hx rfl (hb hby d8_5) rfl ?_
    show Go p e below T107 (mkF m 7 #[vr a1, vi 2, vr a3, vi 2, vi 3, vi 2, vi x2] [wi 3, wi 2]) _
    refine XS.icmpNo X107.here hx rfl (hb hby d8_7) rfl (tlt (by decide : (2 : Int32) < (3 : Int32))).2.1 ?_
    show Go p e below T107 (mkF m 10 #[vr a1, vi 2, vr a3, vi 2, vi 3, vi 2, vi x2] []) _
    refine XS.aloadN X107.here hx rfl (hb hby d8_10) rfl rfl ?_
    show Go p e below T107 (mkF m 11 #[vr a1, vi 2, vr a3, vi 2, vi 3, vi 2, vi x2] [wr a1]) _
    refine XS.iloadN X107.here hx rfl (hb hby d8_11) rfl ?_
    show Go p e below T107 (mkF m 12 #[vr a1, vi 2, vr a3, vi 2, vi 3, vi 2, vi x2] [wi 2, wr a1]) _
    refine X107.caload hx (j := (2 : Int32)) (v := (.int x3)) (by rw [e107]; exact Ar109.1) (State.isArrayOf_alike hZ.alike Ar109.2.1) Ar109.2.2 (inb_of S109 ⟨by decide, by decide⟩) hat110 (g := (mkF m 12 #[vr a1, vi 2, vr a3, vi 2, vi 3, vi 2, vi x2] [wi 2, wr a1])) rfl rfl (hb hby d8_12) _ ?_
    show Go p e below T107 (mkF m 13 #[vr a1, vi 2, vr a3, vi 2, vi 3, vi 2, vi x2] [wi x3]) _
    refine XS.istore X107.here hx rfl (hb hby d8_13) rfl (l' := #[.val (.ref a1), .val (.int (2 : Int32)), .val (.ref a3), .val (.int (2 : Int32)), .val (.int (3 : Int32)), .val (.int (2 : Int32)), .val (.int x3)]) rfl ?_
    show Go p e below T107 (mkF m 15 #[vr a1, vi 2, vr a3, vi 2, vi 3, vi 2, vi x3] []) _
    refine XS.iload X107.here hx rfl (hb hby d8_15) rfl ?_
    show Go p e below T107 (mkF m 17 #[vr a1, vi 2, vr a3, vi 2, vi 3, vi 2, vi x3] [wi x3]) _
    refine XS.sipush X107.here hx rfl (hb hby d8_17) ?_
    show Go p e below T107 (mkF m 20 #[vr a1, vi 2, vr a3, vi 2, vi 3, vi 2, vi x3] [wi 255, wi x3]) _
    refine XS.icmpNo X107.here hx rfl (hb hby d8_20) rfl (tlt hc20_2).2.2.2 ?_
    show Go p e below T107 (mkF m 23 #[vr a1, vi 2, vr a3, vi 2, vi 3, vi 2, vi x3] []) _
    refine XS.iload X107.here hx rfl (hb hby d8_23) rfl ?_
    show Go p e below T107 (mkF m 25 #[vr a1, vi 2, vr a3, vi 2, vi 3, vi 2, vi x3] [wi 2]) _
    exact retI X107 hx Bd.returns (hb hby d8_25) hr
  · show QK a3 (some (.int (2 : Int32))) h0 n0 _ T107.heap _
    rw [e107]
    exact ⟨rfl, N107, y111⟩
set_option maxRecDepth 65536 in
set_option maxHeartbeats 40000000 in
theorem rmC3_3_n (l : Launch) (Z : State) (a0 : Array Value) (hw : ∀ d ∈ tables_1, d.before a0 Z = true) (ws : List Jvm.Cond) (a1 : Addr) (ka : ClassId) (x1 : Int32) (x2 : Int32) (x3 : Int32) (h0 : Heap) (n0 : Nat) (X00 : Old Z n0 h0) (SA : pSA Z) (SH : pSH Z) (SL : pSL Z) (V_a : Arv Z h0 a1 ka .char (3 : Int32) [(.int x1), (.int x2), (.int x3)] (.int (0 : Int32))) (hl0 : ¬ ((255 : Int32) < x1)) (hl1 : ¬ ((255 : Int32) < x2)) (hl2 : ¬ ((255 : Int32) < x3)) :
    MetFree l mn_18 (head1 (Jvm.Cond.code mn_18 jdk_52_method_16_code 6 (some (.array .byte)) :: ws) ro_12) (fun a U => a = #[(.ref a1), (.int (0 : Int32)), (.int (3 : Int32))] ∧ Z.Warmed39 U.vm ∧ U.heap = h0) (fun _ _ _ _ _ => True) (fun _ U o U' => ∃ rv rL, o = .returned rv ∧ QC3 Z [x1, x2, x3] h0 n0 rv U'.heap rL ∧ FrameEnd U o U' rL ro_12.cells ro_12.slots) := by
  refine MetFree.of_bodySF (plainFor_of_name pn_7) hisR ?_
  intro p e s m args below meth c s₁ Bd hml0 hP hK
  obtain ⟨rfl, hZ, hh⟩ := hP
  have hx := Bd.exec
  have hby := Bd.bytes
  have hml : c.maxLocals = 6 := hml0
  have hown : s.vm.findClass "java/lang/StringUTF16" = some m.cls := findClass_of_methodNamed Bd.named
  have hnm := (name_of_methodNamed Bd.named Bd.method).1
  have X0 : Stand p l e ro_12 s m #[(.ref a1), (.int (0 : Int32)), (.int (3 : Int32))] below meth c s₁ [] 0 0 := Stand.of_body Bd
  have e0 : s₁.heap = h0 := by rw [← hh, Bd.state]; rfl
  have N0 := Fr.nil n0
  have pre0 : ∀ t, Steps p.tables e below (s₁.setTop (mkF m 0 #[.val (.ref a1), .val (.int (0 : Int32)), .val (.int (3 : Int32)), .unset, .unset, .unset] [])) t → Steps p.tables e below (s₁.setTop (entryFrame m #[(.ref a1), (.int (0 : Int32)), (.int (3 : Int32))] 6)) t := fun t k => castTop (ef_7 m a1 (0 : Int32) (3 : Int32)) k
  have lz101_a1 := V_a.lt
  obtain ⟨T101, h101, k101, X101, e101, E101, A101, st101⟩ := newP X0 hx hZ (tw hw 29 rfl) e0 (g := (mkF m 1 #[vr a1, vi 0, vi 3, .unset, .unset, .unset] [wi 3])) rfl (hb hby d7_1) rfl (by decide) (cap := 3) (by decide) (by decide) (by decide) (by decide)
  obtain ⟨b101, g101⟩ : ∃ z, z = h0.size := ⟨_, rfl⟩
  rw [← g101] at A101 st101
  have g_b101 : n0 ≤ b101 := Nat.le_trans (own_le X00) (Nat.le_of_eq g101.symm)
  have lt_a1_b101 : a1 < b101 := Nat.lt_of_lt_of_le lz101_a1 (Nat.le_of_eq g101.symm)
  have sz_b101 : h0.size ≤ b101 := Nat.le_trans (Keep.refl h0 []).1 (Nat.le_of_eq g101.symm)
  have V101 : Arv Z h101 b101 k101 .byte (3 : Int32) [(.int (0 : Int32)), (.int (0 : Int32)), (.int (0 : Int32))] (.int (0 : Int32)) := (Arv.new A101 (by decide)).pad (pad_rep [] (.int (0 : Int32)) 3)
  have y102 := (V_a.ext E101)
  have y103 := ((Keep.refl h0 []).ext E101)
  have y104 := (X00.ext E101)
  obtain ⟨_, _, ⟨T105, L105, k105, n105⟩, -, X105, ⟨Lc105, hQ105, l105, y105, z105⟩, st105⟩ := Jvm.LawKit.callS X101 hx (y := mn_19) hown (mvT hZ (tw hw 30 rfl)) (mvT hZ (tw hw 31 rfl)) (mvT hZ (tw hw 27 rfl)) (mvT hZ (tw hw 32 rfl)) (by decide) (backOf (W := 0) (rmC5_3_n l Z a0 hw [] a1 b101 ka k101 x1 x2 x3 h101 n0 y104 y102 V101 g_b101 (Nat.ne_of_lt lt_a1_b101) hl0 hl1 hl2) hZ (tw hw 32 rfl) (tw hw 27 rfl) (by decide) (by decide)) (g := (mkF m 9 #[vr a1, vi 0, vi 3, vr b101, .unset, .unset] [wi 3, wi 0, wr b101, wi 0, wr a1])) rfl (by rw [hml]; rfl) (argsL := [wr a1, wi 0, wr b101, wi 0, wi 3]) (rest := []) (lenOf pd_ACIABII_I rfl) rfl (Nat.le_refl _) (hb hby d7_9) (fun _ _ => ⟨rfl, e101, (by decide : 1 + 0 ≤ _), (by decide : 3 + 0 ≤ _)⟩)
  dsimp only [Pt.U, Pt.locs, Pt.cells, Pt.slots] at X105 l105 y105 z105 st105 hQ105
  subst l105 y105 z105
  obtain ⟨rfl, N105q, Kc105, uV105⟩ := hQ105
  have N105 := Fr.app N0 N105q
  have y106 := (y103.trans Kc105 (allS (Or.inr sz_b101) all0))
  obtain ⟨fs, hr, hrun, hended, hW, hsame⟩ := X105.leave (v := some (.ref b101)) (fun h => by rw [Bd.returns] at h; cases h)
  refine ⟨_, _, pre0 _ ?_, hrun, hended, _, _, rfl, ?_, ⟨_, rfl⟩, hW, hsame.mono (by decide) (by decide)⟩
  · show Go p e below s₁ (mkF m 0 #[vr a1, vi 0, vi 3, .unset, .unset, .unset] []) _
    refine XS.iloadN X0.here hx rfl (hb hby d7_0) rfl ?_
    show Go p e below s₁ (mkF m 1 #[vr a1, vi 0, vi 3, .unset, .unset, .unset] [wi 3]) _
    refine st101 _ ?_
    show Go p e below T101 (mkF m 3 #[vr a1, vi 0, vi 3, .unset, .unset, .unset] [wr b101]) _
    refine XS.astoreN X101.here hx rfl (hb hby d7_3) rfl rfl (l' := #[.val (.ref a1), .val (.int (0 : Int32)), .val (.int (3 : Int32)), .val (.ref b101), .unset, .unset]) rfl ?_
    show Go p e below T101 (mkF m 4 #[vr a1, vi 0, vi 3, vr b101, .unset, .unset] []) _
    refine XS.aloadN X101.here hx rfl (hb hby d7_4) rfl rfl ?_
    show Go p e below T101 (mkF m 5 #[vr a1, vi 0, vi 3, vr b101, .unset, .unset] [wr a1]) _
    refine XS.iloadN X101.here hx rfl (hb hby d7_5) rfl ?_
    show Go p e below T101 (mkF m 6 #[vr a1, vi 0, vi 3, vr b101, .unset, .unset] [wi 0, wr a1]) _
    refine XS.aloadN X101.here hx rfl (hb hby d7_6) rfl rfl ?_
    show Go p e below T101 (mkF m 7 #[vr a1, vi 0, vi 3, vr b101, .unset, .unset] [wr b101, wi 0, wr a1]) _
    refine XS.iconst X101.here hx rfl (hb hby d7_7) ?_
    show Go p e below T101 (mkF m 8 #[vr a1, vi 0, vi 3, vr b101, .unset, .unset] [wi 0, wr b101, wi 0, wr a1]) _
    refine XS.iloadN X101.here hx rfl (hb hby d7_8) rfl ?_
    show Go p e below T101 (mkF m 9 #[vr a1, vi 0, vi 3, vr b101, .unset, .unset] [wi 3, wi 0, wr b101, wi 0, wr a1]) _
    refine st105 _ ?_
    show Go p e below T105 (mkF m 12 #[vr a1, vi 0, vi 3, vr b101, .unset, .unset] [wi 3]) _
    refine XS.istore X105.here hx rfl (hb hby d7_12) rfl (l' := #[.val (.ref a1), .val (.int (0 : Int32)), .val (.int (3 : Int32)), .val (.ref b101), .val (.int (3 : Int32)), .unset]) rfl ?_
    show Go p e below T105 (mkF m 14 #[vr a1, vi 0, vi 3, vr b101, vi 3, .unset] []) _
    refine XS.iload X105.here hx rfl (hb hby d7_14) rfl ?_
    show Go p e below T105 (mkF m 16 #[vr a1, vi 0, vi 3, vr b101, vi 3, .unset] [wi 3]) _
    refine XS.iloadN X105.here hx rfl (hb hby d7_16) rfl ?_
    show Go p e below T105 (mkF m 17 #[vr a1, vi 0, vi 3, vr b101, vi 3, .unset] [wi 3, wi 3]) _
    refine XS.icmpYes X105.here hx rfl (pc0 := 17) (pc' := 57) rfl (hb hby d7_17) rfl (teq (rfl : (3 : Int32) = (3 : Int32))).1 (by decide) (by decide) ?_
    show Go p e below T105 (mkF m 57 #[vr a1, vi 0, vi 3, vr b101, vi 3, .unset] []) _
    refine XS.aloadN X105.here hx rfl (hb hby d7_57) rfl rfl ?_
    show Go p e below T105 (mkF m 58 #[vr a1, vi 0, vi 3, vr b101, vi 3, .unset] [wr b101]) _
    jvm_step X105.here [X105.here.top, hx, (hb hby d7_58), X105.method', Bd.returns, Value.isRef, FieldType.isReference]
    first | (intro acts; rw [hr _ acts rfl rfl rfl]) | rw [hr _ _ rfl rfl rfl]
    exact Steps.refl _
  · show QC3 Z [x1, x2, x3] h0 n0 _ T105.heap _
    exact ⟨_, _, (0 : Int32), (3 : Int32), [.int (StrChars.lo8 x1), .int (StrChars.lo8 x2), .int (StrChars.lo8 x3)], rfl, N105, y106, g_b101, sz_b101, uV105, Or.inl ⟨rfl, rfl, rfl, (own_alli hl0 (own_alli hl1 (own_alli hl2 own_all0)))⟩⟩
set_option maxRecDepth 65536 in
set_option maxHeartbeats 40000000 in
theorem rmC3_3_0 (l : Launch) (Z : State) (a0 : Array Value) (hw : ∀ d ∈ tables_1, d.before a0 Z = true) (ws : List Jvm.Cond) (a1 : Addr) (ka : ClassId) (x1 : Int32) (x2 : Int32) (x3 : Int32) (h0 : Heap) (n0 : Nat) (X00 : Old Z n0 h0) (SA : pSA Z) (SH : pSH Z) (SL : pSL Z) (V_a : Arv Z h0 a1 ka .char (3 : Int32) [(.int x1), (.int x2), (.int x3)] (.int (0 : Int32))) (hg : (255 : Int32) < x1) (hbw : ChB x1) :
    MetFree l mn_18 (head1 (Jvm.Cond.code mn_18 jdk_52_method_16_code 6 (some (.array .byte)) :: ws) ro_12) (fun a U => a = #[(.ref a1), (.int (0 : Int32)), (.int (3 : Int32))] ∧ Z.Warmed39 U.vm ∧ U.heap = h0) (fun _ _ _ _ _ => True) (fun _ U o U' => ∃ rv rL, o = .returned rv ∧ QC3 Z [x1, x2, x3] h0 n0 rv U'.heap rL ∧ FrameEnd U o U' rL ro_12.cells ro_12.slots) := by
  refine MetFree.of_bodySF (plainFor_of_name pn_7) hisR ?_
  intro p e s m args below meth c s₁ Bd hml0 hP hK
  obtain ⟨rfl, hZ, hh⟩ := hP
  have hx := Bd.exec
  have hby := Bd.bytes
  have hml : c.maxLocals = 6 := hml0
  have hown : s.vm.findClass "java/lang/StringUTF16" = some m.cls := findClass_of_methodNamed Bd.named
  have hnm := (name_of_methodNamed Bd.named Bd.method).1
  have X0 : Stand p l e ro_12 s m #[(.ref a1), (.int (0 : Int32)), (.int (3 : Int32))] below meth c s₁ [] 0 0 := Stand.of_body Bd
  have e0 : s₁.heap = h0 := by rw [← hh, Bd.state]; rfl
  have N0 := Fr.nil n0
  have pre0 : ∀ t, Steps p.tables e below (s₁.setTop (mkF m 0 #[.val (.ref a1), .val (.int (0 : Int32)), .val (.int (3 : Int32)), .unset, .unset, .unset] [])) t → Steps p.tables e below (s₁.setTop (entryFrame m #[(.ref a1), (.int (0 : Int32)), (.int (3 : Int32))] 6)) t := fun t k => castTop (ef_7 m a1 (0 : Int32) (3 : Int32)) k
  have lz101_a1 := V_a.lt
  obtain ⟨T101, h101, k101, X101, e101, E101, A101, st101⟩ := newP X0 hx hZ (tw hw 29 rfl) e0 (g := (mkF m 1 #[vr a1, vi 0, vi 3, .unset, .unset, .unset] [wi 3])) rfl (hb hby d7_1) rfl (by decide) (cap := 3) (by decide) (by decide) (by decide) (by decide)
  obtain ⟨b101, g101⟩ : ∃ z, z = h0.size := ⟨_, rfl⟩
  rw [← g101] at A101 st101
  have g_b101 : n0 ≤ b101 := Nat.le_trans (own_le X00) (Nat.le_of_eq g101.symm)
  have lt_a1_b101 : a1 < b101 := Nat.lt_of_lt_of_le lz101_a1 (Nat.le_of_eq g101.symm)
  have sz_b101 : h0.size ≤ b101 := Nat.le_trans (Keep.refl h0 []).1 (Nat.le_of_eq g101.symm)
  have V101 : Arv Z h101 b101 k101 .byte (3 : Int32) [(.int (0 : Int32)), (.int (0 : Int32)), (.int (0 : Int32))] (.int (0 : Int32)) := (Arv.new A101 (by decide)).pad (pad_rep [] (.int (0 : Int32)) 3)
  have y102 := (V_a.ext E101)
  have y103 := ((Keep.refl h0 []).ext E101)
  have y104 := (X00.ext E101)
  obtain ⟨_, _, ⟨T105, L105, k105, n105⟩, -, X105, ⟨Lc105, hQ105, l105, y105, z105⟩, st105⟩ := Jvm.LawKit.callS X101 hx (y := mn_19) hown (mvT hZ (tw hw 30 rfl)) (mvT hZ (tw hw 31 rfl)) (mvT hZ (tw hw 27 rfl)) (mvT hZ (tw hw 32 rfl)) (by decide) (backOf (W := 0) (rmC5_3_0 l Z a0 hw [] a1 b101 ka k101 x1 x2 x3 h101 n0 y104 y102 V101 g_b101 (Nat.ne_of_lt lt_a1_b101) hg) hZ (tw hw 32 rfl) (tw hw 27 rfl) (by decide) (by decide)) (g := (mkF m 9 #[vr a1, vi 0, vi 3, vr b101, .unset, .unset] [wi 3, wi 0, wr b101, wi 0, wr a1])) rfl (by rw [hml]; rfl) (argsL := [wr a1, wi 0, wr b101, wi 0, wi 3]) (rest := []) (lenOf pd_ACIABII_I rfl) rfl (Nat.le_refl _) (hb hby d7_9) (fun _ _ => ⟨rfl, e101, (by decide : 1 + 0 ≤ _), (by decide : 3 + 0 ≤ _)⟩)
  dsimp only [Pt.U, Pt.locs, Pt.cells, Pt.slots] at X105 l105 y105 z105 st105 hQ105
  subst l105 y105 z105
  obtain ⟨rfl, N105q, Kc105⟩ := hQ105
  have N105 := Fr.app N0 N105q
  have y106 := (y102.keep Kc105 (own_nmc (Nat.ne_of_lt lt_a1_b101) own_nm0))
  have y107 := (y103.trans Kc105 (allS (Or.inr sz_b101) all0))
  have y108 := (y104.keep Kc105 (allS g_b101 all0))
  have lz109_a1 := y106.lt
  obtain ⟨_, _, ⟨T109, L109, k109, n109⟩, -, X109, ⟨Lc109, hQ109, l109, y109, z109⟩, st109⟩ := Jvm.LawKit.callS X105 hx (y := mn_25) hown (mvT hZ (tw hw 86 rfl)) (mvT hZ (tw hw 87 rfl)) (mvT hZ (tw hw 27 rfl)) (mvT hZ (tw hw 88 rfl)) (by decide) (backOf (W := 0) (rmTob_3 l Z a0 hw [] a1 ka x1 x2 x3 T105.heap n0 y108 SA SH SL y106) hZ (tw hw 88 rfl) (tw hw 27 rfl) (by decide) (by decide)) (g := (mkF m 23 #[vr a1, vi 0, vi 3, vr b101, vi 0, .unset] [wi 3, wi 0, wr a1])) rfl (by rw [hml]; rfl) (argsL := [wr a1, wi 0, wi 3]) (rest := []) (lenOf pd_ACII_AB rfl) rfl (Nat.le_refl _) (hb hby d7_23) (fun _ _ => ⟨rfl, rfl, (by decide : 1 + 1 ≤ _), (by decide : 3 + 6 ≤ _)⟩)
  dsimp only [Pt.U, Pt.locs, Pt.cells, Pt.slots] at X109 l109 y109 z109 st109 hQ109
  subst l109 y109 z109
  obtain ⟨ur109, uq109, rfl, N109q, Kc109, ug109, us109, uV109⟩ := hQ109
  have N109 := Fr.app N105 N109q
  have lt_a1_ur109 : a1 < ur109 := Nat.lt_of_lt_of_le lz109_a1 us109
  have sz_ur109 : h0.size ≤ ur109 := Nat.le_trans y107.1 us109
  have y110 := (y107.trans Kc109 all0)
  have y111 := (y108.keep Kc109 all0)
  obtain ⟨_, _, ⟨T112, L112, k112, n112⟩, -, X112, ⟨Lc112, hQ112, l112, y112, z112⟩, st112⟩ := Jvm.LawKit.callS X109 hx (y := mn_20) hown (mvT hZ (tw hw 102 rfl)) (mvT hZ (tw hw 103 rfl)) (mvT hZ (tw hw 27 rfl)) (mvT hZ (tw hw 104 rfl)) (by decide) (backOf (W := 0) (rmGch l Z a0 hw [] ur109 (0 : Int32) uq109 (6 : Int32) [.int (StrChars.lo8 x1), .int (StrChars.hi8 x1), .int (StrChars.lo8 x2), .int (StrChars.hi8 x2), .int (StrChars.lo8 x3), .int (StrChars.hi8 x3)] x1 T109.heap n0 y111 SA SH SL uV109 ⟨⟨by decide, by decide⟩, by decide, rfl⟩ ⟨⟨by decide, by decide⟩, by decide, rfl⟩ hbw) hZ (tw hw 104 rfl) (tw hw 27 rfl) (by decide) (by decide)) (g := (mkF m 32 #[vr a1, vi 0, vi 3, vr b101, vi 0, vr ur109] [wi 0, wr ur109])) rfl (by rw [hml]; rfl) (argsL := [wr ur109, wi 0]) (rest := []) (lenOf pd_ABI_C rfl) rfl (Nat.le_refl _) (hb hby d7_32) (fun _ _ => ⟨rfl, rfl, (by decide : 2 + 0 ≤ _), (by decide : 9 + 0 ≤ _)⟩)
  dsimp only [Pt.U, Pt.locs, Pt.cells, Pt.slots] at X112 l112 y112 z112 st112 hQ112
  subst l112 y112 z112
  obtain ⟨rfl, N112q, eq112⟩ := hQ112
  have N112 := Fr.app N109 N112q
  have hc38 : (255 : Int32) < x1 := hg
  obtain ⟨fs, hr, hrun, hended, hW, hsame⟩ := X112.leave (v := some (.ref ur109)) (fun h => by rw [Bd.returns] at h; cases h)
  refine ⟨_, _, pre0 _ ?_, hrun, hended, _, _, rfl, ?_, ⟨_, rfl⟩, hW, hsame.mono (by decide) (by decide)⟩
  · show Go p e below s₁ (mkF m 0 #[vr a1, vi 0, vi 3, .unset, .unset, .unset] []) _
    refine XS.iloadN X0.here hx rfl (hb hby d7_0) rfl ?_
    show Go p e below s₁ (mkF m 1 #[vr a1, vi 0, vi 3, .unset, .unset, .unset] [wi 3]) _
    refine st101 _ ?_
    show Go p e below T101 (mkF m 3 #[vr a1, vi 0, vi 3, .unset, .unset, .unset] [wr b101]) _
    refine XS.astoreN X101.here hx rfl (hb hby d7_3) rfl rfl (l' := #[.val (.ref a1), .val (.int (0 : Int32)), .val (.int (3 : Int32)), .val (.ref b101), .unset, .unset]) rfl ?_
    show Go p e below T101 (mkF m 4 #[vr a1, vi 0, vi 3, vr b101, .unset, .unset] []) _
    refine XS.aloadN X101.here hx rfl (hb hby d7_4) rfl rfl ?_
    show Go p e below T101 (mkF m 5 #[vr a1, vi 0, vi 3, vr b101, .unset, .unset] [wr a1]) _
    refine XS.iloadN X101.here hx rfl (hb hby d7_5) rfl ?_
    show Go p e below T101 (mkF m 6 #[vr a1, vi 0, vi 3, vr b101, .unset, .unset] [wi 0, wr a1]) _
    refine XS.aloadN X101.here hx rfl (hb hby d7_6) rfl rfl ?_
    show Go p e below T101 (mkF m 7 #[vr a1, vi 0, vi 3, vr b101, .unset, .unset] [wr b101, wi 0, wr a1]) _
    refine XS.iconst X101.here hx rfl (hb hby d7_7) ?_
    show Go p e below T101 (mkF m 8 #[vr a1, vi 0, vi 3, vr b101, .unset, .unset] [wi 0, wr b101, wi 0, wr a1]) _
    refine XS.iloadN X101.here hx rfl (hb hby d7_8) rfl ?_
    show Go p e below T101 (mkF m 9 #[vr a1, vi 0, vi 3, vr b101, .unset, .unset] [wi 3, wi 0, wr b101, wi 0, wr a1]) _
    refine st105 _ ?_
    show Go p e below T105 (mkF m 12 #[vr a1, vi 0, vi 3, vr b101, .unset, .unset] [wi 0]) _
    refine XS.istore X105.here hx rfl (hb hby d7_12) rfl (l' := #[.val (.ref a1), .val (.int (0 : Int32)), .val (.int (3 : Int32)), .val (.ref b101), .val (.int (0 : Int32)), .unset]) rfl ?_
    show Go p e below T105 (mkF m 14 #[vr a1, vi 0, vi 3, vr b101, vi 0, .unset] []) _
    refine XS.iload X105.here hx rfl (hb hby d7_14) rfl ?_
    show Go p e below T105 (mkF m 16 #[vr a1, vi 0, vi 3, vr b101, vi 0, .unset] [wi 0]) _
    refine XS.iloadN X105.here hx rfl (hb hby d7_16) rfl ?_
    show Go p e below T105 (mkF m 17 #[vr a1, vi 0, vi 3, vr b101, vi 0, .unset] [wi 3, wi 0]) _
    refine XS.icmpNo X105.here hx rfl (hb hby d7_17) rfl (feq (by decide : ¬ ((0 : Int32) = (3 : Int32)))).1 ?_
    show Go p e below T105 (mkF m 20 #[vr a1, vi 0, vi 3, vr b101, vi 0, .unset] []) _
    refine XS.aloadN X105.here hx rfl (hb hby d7_20) rfl rfl ?_
    show Go p e below T105 (mkF m 21 #[vr a1, vi 0, vi 3, vr b101, vi 0, .unset] [wr a1]) _
    refine XS.iloadN X105.here hx rfl (hb hby d7_21) rfl ?_
    show Go p e below T105 (mkF m 22 #[vr a1, vi 0, vi 3, vr b101, vi 0, .unset] [wi 0, wr a1]) _
    refine XS.iloadN X105.here hx rfl (hb hby d7_22) rfl ?_
    show Go p e below T105 (mkF m 23 #[vr a1, vi 0, vi 3, vr b101, vi 0, .unset] [wi 3, wi 0, wr a1]) _
    refine st109 _ ?_
    show Go p e below T109 (mkF m 26 #[vr a1, vi 0, vi 3, vr b101, vi 0, .unset] [wr ur109]) _
    refine XS.astore X109.here hx rfl (hb hby d7_26) rfl rfl (l' := #[.val (.ref a1), .val (.int (0 : Int32)), .val (.int (3 : Int32)), .val (.ref b101), .val (.int (0 : Int32)), .val (.ref ur109)]) rfl ?_
    show Go p e below T109 (mkF m 28 #[vr a1, vi 0, vi 3, vr b101, vi 0, vr ur109] []) _
    refine XS.aload X109.here hx rfl (hb hby d7_28) rfl rfl ?_
    show Go p e below T109 (mkF m 30 #[vr a1, vi 0, vi 3, vr b101, vi 0, vr ur109] [wr ur109]) _
    refine XS.iload X109.here hx rfl (hb hby d7_30) rfl ?_
    show Go p e below T109 (mkF m 32 #[vr a1, vi 0, vi 3, vr b101, vi 0, vr ur109] [wi 0, wr ur109]) _
    refine st112 _ ?_
    show Go p e below T112 (mkF m 35 #[vr a1, vi 0, vi 3, vr b101, vi 0, vr ur109] [wi x1]) _
    refine XS.sipush X112.here hx rfl (hb hby d7_35) ?_
    show Go p e below T112 (mkF m 38 #[vr a1, vi 0, vi 3, vr b101, vi 0, vr ur109] [wi 255, wi x1]) _
    refine XS.icmpYes X112.here hx rfl (pc0 := 38) (pc' := 54) rfl (hb hby d7_38) rfl (tlt hc38).2.2.1 (by decide) (by decide) ?_
    show Go p e below T112 (mkF m 54 #[vr a1, vi 0, vi 3, vr b101, vi 0, vr ur109] []) _
    refine XS.aload X112.here hx rfl (hb hby d7_54) rfl rfl ?_
    show Go p e below T112 (mkF m 56 #[vr a1, vi 0, vi 3, vr b101, vi 0, vr ur109] [wr ur109]) _
    jvm_step X112.here [X112.here.top, hx, (hb hby d7_56), X112.method', Bd.returns, Value.isRef, FieldType.isReference]
    first | (intro acts; rw [hr _ acts rfl rfl rfl]) | rw [hr _ _ rfl rfl rfl]
    exact Steps.refl _
  · show QC3 Z [x1, x2, x3] h0 n0 _ T112.heap _
    rw [eq112]
    exact ⟨_, _, (1 : Int32), (6 : Int32), [.int (StrChars.lo8 x1), .int (StrChars.hi8 x1), .int (StrChars.lo8 x2), .int (StrChars.hi8 x2), .int (StrChars.lo8 x3), .int (StrChars.hi8 x3)], rfl, N112, y110, ug109, sz_ur109, uV109, Or.inr ⟨rfl, rfl, rfl, _, List.mem_of_getElem? (i := 0) rfl, hg⟩⟩
set_option maxRecDepth 65536 in
set_option maxHeartbeats 40000000 in
theorem rmC3_3_1 (l : Launch) (Z : State) (a0 : Array Value) (hw : ∀ d ∈ tables_1, d.before a0 Z = true) (ws : List Jvm.Cond) (a1 : Addr) (ka : ClassId) (x1 : Int32) (x2 : Int32) (x3 : Int32) (h0 : Heap) (n0 : Nat) (X00 : Old Z n0 h0) (SA : pSA Z) (SH : pSH Z) (SL : pSL Z) (V_a : Arv Z h0 a1 ka .char (3 : Int32) [(.int x1), (.int x2), (.int x3)] (.int (0 : Int32))) (hl0 : ¬ ((255 : Int32) < x1)) (hg : (255 : Int32) < x2) (hbw : ChB x2) :
    MetFree l mn_18 (head1 (Jvm.Cond.code mn_18 jdk_52_method_16_code 6 (some (.array .byte)) :: ws) ro_12) (fun a U => a = #[(.ref a1), (.int (0 : Int32)), (.int (3 : Int32))] ∧ Z.Warmed39 U.vm ∧ U.heap = h0) (fun _ _ _ _ _ => True) (fun _ U o U' => ∃ rv rL, o = .returned rv ∧ QC3 Z [x1, x2, x3] h0 n0 rv U'.heap rL ∧ FrameEnd U o U' rL ro_12.cells ro_12.slots) := by
  refine MetFree.of_bodySF (plainFor_of_name pn_7) hisR ?_
  intro p e s m args below meth c s₁ Bd hml0 hP hK
  obtain ⟨rfl, hZ, hh⟩ := hP
  have hx := Bd.exec
  have hby := Bd.bytes
  have hml : c.maxLocals = 6 := hml0
  have hown : s.vm.findClass "java/lang/StringUTF16" = some m.cls := findClass_of_methodNamed Bd.named
  have hnm := (name_of_methodNamed Bd.named Bd.method).1
  have X0 : Stand p l e ro_12 s m #[(.ref a1), (.int (0 : Int32)), (.int (3 : Int32))] below meth c s₁ [] 0 0 := Stand.of_body Bd
  have e0 : s₁.heap = h0 := by rw [← hh, Bd.state]; rfl
  have N0 := Fr.nil n0
  have pre0 : ∀ t, Steps p.tables e below (s₁.setTop (mkF m 0 #[.val (.ref a1), .val (.int (0 : Int32)), .val (.int (3 : Int32)), .unset, .unset, .unset] [])) t → Steps p.tables e below (s₁.setTop (entryFrame m #[(.ref a1), (.int (0 : Int32)), (.int (3 : Int32))] 6)) t := fun t k => castTop (ef_7 m a1 (0 : Int32) (3 : Int32)) k
  have lz101_a1 := V_a.lt
  obtain ⟨T101, h101, k101, X101, e101, E101, A101, st101⟩ := newP X0 hx hZ (tw hw 29 rfl) e0 (g := (mkF m 1 #[vr a1, vi 0, vi 3, .unset, .unset, .unset] [wi 3])) rfl (hb hby d7_1) rfl (by decide) (cap := 3) (by decide) (by decide) (by decide) (by decide)
  obtain ⟨b101, g101⟩ : ∃ z, z = h0.size := ⟨_, rfl⟩
  rw [← g101] at A101 st101
  have g_b101 : n0 ≤ b101 := Nat.le_trans (own_le X00) (Nat.le_of_eq g101.symm)
  have lt_a1_b101 : a1 < b101 := Nat.lt_of_lt_of_le lz101_a1 (Nat.le_of_eq g101.symm)
  have sz_b101 : h0.size ≤ b101 := Nat.le_trans (Keep.refl h0 []).1 (Nat.le_of_eq g101.symm)
  have V101 : Arv Z h101 b101 k101 .byte (3 : Int32) [(.int (0 : Int32)), (.int (0 : Int32)), (.int (0 : Int32))] (.int (0 : Int32)) := (Arv.new A101 (by decide)).pad (pad_rep [] (.int (0 : Int32)) 3)
  have y102 := (V_a.ext E101)
  have y103 := ((Keep.refl h0 []).ext E101)
  have y104 := (X00.ext E101)
  obtain ⟨_, _, ⟨T105, L105, k105, n105⟩, -, X105, ⟨Lc105, hQ105, l105, y105, z105⟩, st105⟩ := Jvm.LawKit.callS X101 hx (y := mn_19) hown (mvT hZ (tw hw 30 rfl)) (mvT hZ (tw hw 31 rfl)) (mvT hZ (tw hw 27 rfl)) (mvT hZ (tw hw 32 rfl)) (by decide) (backOf (W := 0) (rmC5_3_1 l Z a0 hw [] a1 b101 ka k101 x1 x2 x3 h101 n0 y104 y102 V101 g_b101 (Nat.ne_of_lt lt_a1_b101) hl0 hg) hZ (tw hw 32 rfl) (tw hw 27 rfl) (by decide) (by decide)) (g := (mkF m 9 #[vr a1, vi 0, vi 3, vr b101, .unset, .unset] [wi 3, wi 0, wr b101, wi 0, wr a1])) rfl (by rw [hml]; rfl) (argsL := [wr a1, wi 0, wr b101, wi 0, wi 3]) (rest := []) (lenOf pd_ACIABII_I rfl) rfl (Nat.le_refl _) (hb hby d7_9) (fun _ _ => ⟨rfl, e101, (by decide : 1 + 0 ≤ _), (by decide : 3 + 0 ≤ _)⟩)
  dsimp only [Pt.U, Pt.locs, Pt.cells, Pt.slots] at X105 l105 y105 z105 st105 hQ105
  subst l105 y105 z105
  obtain ⟨rfl, N105q, Kc105⟩ := hQ105
  have N105 := Fr.app N0 N105q
  have y106 := (y102.keep Kc105 (own_nmc (Nat.ne_of_lt lt_a1_b101) own_nm0))
  have y107 := (y103.trans Kc105 (allS (Or.inr sz_b101) all0))
  have y108 := (y104.keep Kc105 (allS g_b101 all0))
  have lz109_a1 := y106.lt
  obtain ⟨_, _, ⟨T109, L109, k109, n109⟩, -, X109, ⟨Lc109, hQ109, l109, y109, z109⟩, st109⟩ := Jvm.LawKit.callS X105 hx (y := mn_25) hown (mvT hZ (tw hw 86 rfl)) (mvT hZ (tw hw 87 rfl)) (mvT hZ (tw hw 27 rfl)) (mvT hZ (tw hw 88 rfl)) (by decide) (backOf (W := 0) (rmTob_3 l Z a0 hw [] a1 ka x1 x2 x3 T105.heap n0 y108 SA SH SL y106) hZ (tw hw 88 rfl) (tw hw 27 rfl) (by decide) (by decide)) (g := (mkF m 23 #[vr a1, vi 0, vi 3, vr b101, vi 1, .unset] [wi 3, wi 0, wr a1])) rfl (by rw [hml]; rfl) (argsL := [wr a1, wi 0, wi 3]) (rest := []) (lenOf pd_ACII_AB rfl) rfl (Nat.le_refl _) (hb hby d7_23) (fun _ _ => ⟨rfl, rfl, (by decide : 1 + 1 ≤ _), (by decide : 3 + 6 ≤ _)⟩)
  dsimp only [Pt.U, Pt.locs, Pt.cells, Pt.slots] at X109 l109 y109 z109 st109 hQ109
  subst l109 y109 z109
  obtain ⟨ur109, uq109, rfl, N109q, Kc109, ug109, us109, uV109⟩ := hQ109
  have N109 := Fr.app N105 N109q
  have lt_a1_ur109 : a1 < ur109 := Nat.lt_of_lt_of_le lz109_a1 us109
  have sz_ur109 : h0.size ≤ ur109 := Nat.le_trans y107.1 us109
  have y110 := (y107.trans Kc109 all0)
  have y111 := (y108.keep Kc109 all0)
  obtain ⟨_, _, ⟨T112, L112, k112, n112⟩, -, X112, ⟨Lc112, hQ112, l112, y112, z112⟩, st112⟩ := Jvm.LawKit.callS X109 hx (y := mn_20) hown (mvT hZ (tw hw 102 rfl)) (mvT hZ (tw hw 103 rfl)) (mvT hZ (tw hw 27 rfl)) (mvT hZ (tw hw 104 rfl)) (by decide) (backOf (W := 0) (rmGch l Z a0 hw [] ur109 (1 : Int32) uq109 (6 : Int32) [.int (StrChars.lo8 x1), .int (StrChars.hi8 x1), .int (StrChars.lo8 x2), .int (StrChars.hi8 x2), .int (StrChars.lo8 x3), .int (StrChars.hi8 x3)] x2 T109.heap n0 y111 SA SH SL uV109 ⟨⟨by decide, by decide⟩, by decide, rfl⟩ ⟨⟨by decide, by decide⟩, by decide, rfl⟩ hbw) hZ (tw hw 104 rfl) (tw hw 27 rfl) (by decide) (by decide)) (g := (mkF m 32 #[vr a1, vi 0, vi 3, vr b101, vi 1, vr ur109] [wi 1, wr ur109])) rfl (by rw [hml]; rfl) (argsL := [wr ur109, wi 1]) (rest := []) (lenOf pd_ABI_C rfl) rfl (Nat.le_refl _) (hb hby d7_32) (fun _ _ => ⟨rfl, rfl, (by decide : 2 + 0 ≤ _), (by decide : 9 + 0 ≤ _)⟩)
  dsimp only [Pt.U, Pt.locs, Pt.cells, Pt.slots] at X112 l112 y112 z112 st112 hQ112
  subst l112 y112 z112
  obtain ⟨rfl, N112q, eq112⟩ := hQ112
  have N112 := Fr.app N109 N112q
  have hc38 : (255 : Int32) < x2 := hg
  obtain ⟨fs, hr, hrun, hended, hW, hsame⟩ := X112.leave (v := some (.ref ur109)) (fun h => by rw [Bd.returns] at h; cases h)
  refine ⟨_, _, pre0 _ ?_, hrun, hended, _, _, rfl, ?_, ⟨_, rfl⟩, hW, hsame.mono (by decide) (by decide)⟩
  · show Go p e below s₁ (mkF m 0 #[vr a1, vi 0, vi 3, .unset, .unset, .unset] []) _
    refine XS.iloadN X0.here hx rfl (hb hby d7_0) rfl ?_
    show Go p e below s₁ (mkF m 1 #[vr a1, vi 0, vi 3, .unset, .unset, .unset] [wi 3]) _
    refine st101 _ ?_
    show Go p e below T101 (mkF m 3 #[vr a1, vi 0, vi 3, .unset, .unset, .unset] [wr b101]) _
    refine XS.astoreN X101.here hx rfl (hb hby d7_3) rfl rfl (l' := #[.val (.ref a1), .val (.int (0 : Int32)), .val (.int (3 : Int32)), .val (.ref b101), .unset, .unset]) rfl ?_
    show Go p e below T101 (mkF m 4 #[vr a1, vi 0, vi 3, vr b101, .unset, .unset] []) _
    refine XS.aloadN X101.here hx rfl (hb hby d7_4) rfl rfl ?_
    show Go p e below T101 (mkF m 5 #[vr a1, vi 0, vi 3, vr b101, .unset, .unset] [wr a1]) _
    refine XS.iloadN X101.here hx rfl (hb hby d7_5) rfl ?_
    show Go p e below T101 (mkF m 6 #[vr a1, vi 0, vi 3, vr b101, .unset, .unset] [wi 0, wr a1]) _
    refine XS.aloadN X101.here hx rfl (hb hby d7_6) rfl rfl ?_
    show Go p e below T101 (mkF m 7 #[vr a1, vi 0, vi 3, vr b101, .unset, .unset] [wr b101, wi 0, wr a1]) _
    refine XS.iconst X101.here hx rfl (hb hby d7_7) ?_
    show Go p e below T101 (mkF m 8 #[vr a1, vi 0, vi 3, vr b101, .unset, .unset] [wi 0, wr b101, wi 0, wr a1]) _
    refine XS.iloadN X101.here hx rfl (hb hby d7_8) rfl ?_
    show Go p e below T101 (mkF m 9 #[vr a1, vi 0, vi 3, vr b101, .unset, .unset] [wi 3, wi 0, wr b101, wi 0, wr a1]) _
    refine st105 _ ?_
    show Go p e below T105 (mkF m 12 #[vr a1, vi 0, vi 3, vr b101, .unset, .unset] [wi 1]) _
    refine XS.istore X105.here hx rfl (hb hby d7_12) rfl (l' := #[.val (.ref a1), .val (.int (0 : Int32)), .val (.int (3 : Int32)), .val (.ref b101), .val (.int (1 : Int32)), .unset]) rfl ?_
    show Go p e below T105 (mkF m 14 #[vr a1, vi 0, vi 3, vr b101, vi 1, .unset] []) _
    refine XS.iload X105.here hx rfl (hb hby d7_14) rfl ?_
    show Go p e below T105 (mkF m 16 #[vr a1, vi 0, vi 3, vr b101, vi 1, .unset] [wi 1]) _
    refine XS.iloadN X105.here hx rfl (hb hby d7_16) rfl ?_
    show Go p e below T105 (mkF m 17 #[vr a1, vi 0, vi 3, vr b101, vi 1, .unset] [wi 3, wi 1]) _
    refine XS.icmpNo X105.here hx rfl (hb hby d7_17) rfl (feq (by decide : ¬ ((1 : Int32) = (3 : Int32)))).1 ?_
    show Go p e below T105 (mkF m 20 #[vr a1, vi 0, vi 3, vr b101, vi 1, .unset] []) _
    refine XS.aloadN X105.here hx rfl (hb hby d7_20) rfl rfl ?_
    show Go p e below T105 (mkF m 21 #[vr a1, vi 0, vi 3, vr b101, vi 1, .unset] [wr a1]) _
    refine XS.iloadN X105.here hx rfl (hb hby d7_21) rfl ?_
    show Go p e below T105 (mkF m 22 #[vr a1, vi 0, vi 3, vr b101, vi 1, .unset] [wi 0, wr a1]) _
    refine XS.iloadN X105.here hx rfl (hb hby d7_22) rfl ?_
    show Go p e below T105 (mkF m 23 #[vr a1, vi 0, vi 3, vr b101, vi 1, .unset] [wi 3, wi 0, wr a1]) _
    refine st109 _ ?_
    show Go p e below T109 (mkF m 26 #[vr a1, vi 0, vi 3, vr b101, vi 1, .unset] [wr ur109]) _
    refine XS.astore X109.here hx rfl (hb hby d7_26) rfl rfl (l' := #[.val (.ref a1), .val (.int (0 : Int32)), .val (.int (3 : Int32)), .val (.ref b101), .val (.int (1 : Int32)), .val (.ref ur109)]) rfl ?_
    show Go p e below T109 (mkF m 28 #[vr a1, vi 0, vi 3, vr b101, vi 1, vr ur109] []) _
    refine XS.aload X109.here hx rfl (hb hby d7_28) rfl rfl ?_
    show Go p e below T109 (mkF m 30 #[vr a1, vi 0, vi 3, vr b101, vi 1, vr ur109] [wr ur109]) _
    refine XS.iload X109.here hx rfl (hb hby d7_30) rfl ?_
    show Go p e below T109 (mkF m 32 #[vr a1, vi 0, vi 3, vr b101, vi 1, vr ur109] [wi 1, wr ur109]) _
    refine st112 _ ?_
    show Go p e below T112 (mkF m 35 #[vr a1, vi 0, vi 3, vr b101, vi 1, vr ur109] [wi x2]) _
    refine XS.sipush X112.here hx rfl (hb hby d7_35) ?_
    show Go p e below T112 (mkF m 38 #[vr a1, vi 0, vi 3, vr b101, vi 1, vr ur109] [wi 255, wi x2]) _
    refine XS.icmpYes X112.here hx rfl (pc0 := 38) (pc' := 54) rfl (hb hby d7_38) rfl (tlt hc38).2.2.1 (by decide) (by decide) ?_
    show Go p e below T112 (mkF m 54 #[vr a1, vi 0, vi 3, vr b101, vi 1, vr ur109] []) _
    refine XS.aload X112.here hx rfl (hb hby d7_54) rfl rfl ?_
    show Go p e below T112 (mkF m 56 #[vr a1, vi 0, vi 3, vr b101, vi 1, vr ur109] [wr ur109]) _
    jvm_step X112.here [X112.here.top, hx, (hb hby d7_56), X112.method', Bd.returns, Value.isRef, FieldType.isReference]
    first | (intro acts; rw [hr _ acts rfl rfl rfl]) | rw [hr _ _ rfl rfl rfl]
    exact Steps.refl _
  · show QC3 Z [x1, x2, x3] h0 n0 _ T112.heap _
    rw [eq112]
    exact ⟨_, _, (1 : Int32), (6 : Int32), [.int (StrChars.lo8 x1), .int (StrChars.hi8 x1), .int (StrChars.lo8 x2), .int (StrChars.hi8 x2), .int (StrChars.lo8 x3), .int (StrChars.hi8 x3)], rfl, N112, y110, ug109, sz_ur109, uV109, Or.inr ⟨rfl, rfl, rfl, _, List.mem_of_getElem? (i := 1) rfl, hg⟩⟩
set_option maxRecDepth 65536 in
set_option maxHeartbeats 40000000 in
theorem rmC3_3_2 (l : Launch) (Z : State) (a0 : Array Value) (hw : ∀ d ∈ tables_1, d.before a0 Z = true) (ws : List Jvm.Cond) (a1 : Addr) (ka : ClassId) (x1 : Int32) (x2 : Int32) (x3 : Int32) (h0 : Heap) (n0 : Nat) (X00 : Old Z n0 h0) (SA : pSA Z) (SH : pSH Z) (SL : pSL Z) (V_a : Arv Z h0 a1 ka .char (3 : Int32) [(.int x1), (.int x2), (.int x3)] (.int (0 : Int32))) (hl0 : ¬ ((255 : Int32) < x1)) (hl1 : ¬ ((255 : Int32) < x2)) (hg : (255 : Int32) < x3) (hbw : ChB x3) :
    MetFree l mn_18 (head1 (Jvm.Cond.code mn_18 jdk_52_method_16_code 6 (some (.array .byte)) :: ws) ro_12) (fun a U => a = #[(.ref a1), (.int (0 : Int32)), (.int (3 : Int32))] ∧ Z.Warmed39 U.vm ∧ U.heap = h0) (fun _ _ _ _ _ => True) (fun _ U o U' => ∃ rv rL, o = .returned rv ∧ QC3 Z [x1, x2, x3] h0 n0 rv U'.heap rL ∧ FrameEnd U o U' rL ro_12.cells ro_12.slots) := by
  refine MetFree.of_bodySF (plainFor_of_name pn_7) hisR ?_
  intro p e s m args below meth c s₁ Bd hml0 hP hK
  obtain ⟨rfl, hZ, hh⟩ := hP
  have hx := Bd.exec
  have hby := Bd.bytes
  have hml : c.maxLocals = 6 := hml0
  have hown : s.vm.findClass "java/lang/StringUTF16" = some m.cls := findClass_of_methodNamed Bd.named
  have hnm := (name_of_methodNamed Bd.named Bd.method).1
  have X0 : Stand p l e ro_12 s m #[(.ref a1), (.int (0 : Int32)), (.int (3 : Int32))] below meth c s₁ [] 0 0 := Stand.of_body Bd
  have e0 : s₁.heap = h0 := by rw [← hh, Bd.state]; rfl
  have N0 := Fr.nil n0
  have pre0 : ∀ t, Steps p.tables e below (s₁.setTop (mkF m 0 #[.val (.ref a1), .val (.int (0 : Int32)), .val (.int (3 : Int32)), .unset, .unset, .unset] [])) t → Steps p.tables e below (s₁.setTop (entryFrame m #[(.ref a1), (.int (0 : Int32)), (.int (3 : Int32))] 6)) t := fun t k => castTop (ef_7 m a1 (0 : Int32) (3 : Int32)) k
  have lz101_a1 := V_a.lt
  obtain ⟨T101, h101, k101, X101, e101, E101, A101, st101⟩ := newP X0 hx hZ (tw hw 29 rfl) e0 (g := (mkF m 1 #[vr a1, vi 0, vi 3, .unset, .unset, .unset] [wi 3])) rfl (hb hby d7_1) rfl (by decide) (cap := 3) (by decide) (by decide) (by decide) (by decide)
  obtain ⟨b101, g101⟩ : ∃ z, z = h0.size := ⟨_, rfl⟩
  rw [← g101] at A101 st101
  have g_b101 : n0 ≤ b101 := Nat.le_trans (own_le X00) (Nat.le_of_eq g101.symm)
  have lt_a1_b101 : a1 < b101 := Nat.lt_of_lt_of_le lz101_a1 (Nat.le_of_eq g101.symm)
  have sz_b101 : h0.size ≤ b101 := Nat.le_trans (Keep.refl h0 []).1 (Nat.le_of_eq g101.symm)
  have V101 : Arv Z h101 b101 k101 .byte (3 : Int32) [(.int (0 : Int32)), (.int (0 : Int32)), (.int (0 : Int32))] (.int (0 : Int32)) := (Arv.new A101 (by decide)).pad (pad_rep [] (.int (0 : Int32)) 3)
  have y102 := (V_a.ext E101)
  have y103 := ((Keep.refl h0 []).ext E101)
  have y104 := (X00.ext E101)
  obtain ⟨_, _, ⟨T105, L105, k105, n105⟩, -, X105, ⟨Lc105, hQ105, l105, y105, z105⟩, st105⟩ := Jvm.LawKit.callS X101 hx (y := mn_19) hown (mvT hZ (tw hw 30 rfl)) (mvT hZ (tw hw 31 rfl)) (mvT hZ (tw hw 27 rfl)) (mvT hZ (tw hw 32 rfl)) (by decide) (backOf (W := 0) (rmC5_3_2 l Z a0 hw [] a1 b101 ka k101 x1 x2 x3 h101 n0 y104 y102 V101 g_b101 (Nat.ne_of_lt lt_a1_b101) hl0 hl1 hg) hZ (tw hw 32 rfl) (tw hw 27 rfl) (by decide) (by decide)) (g := (mkF m 9 #[vr a1, vi 0, vi 3, vr b101, .unset, .unset] [wi 3, wi 0, wr b101, wi 0, wr a1])) rfl (by rw [hml]; rfl) (argsL := [wr a1, wi 0, wr b101, wi 0, wi 3]) (rest := []) (lenOf pd_ACIABII_I rfl) rfl (Nat.le_refl _) (hb hby d7_9) (fun _ _ => ⟨rfl, e101, (by decide : 1 + 0 ≤ _), (by decide : 3 + 0 ≤ _)⟩)
  dsimp only [Pt.U, Pt.locs, Pt.cells, Pt.slots] at X105 l105 y105 z105 st105 hQ105
  subst l105 y105 z105
  obtain ⟨rfl, N105q, Kc105⟩ := hQ105
  have N105 := Fr.app N0 N105q
  have y106 := (y102.keep Kc105 (own_nmc (Nat.ne_of_lt lt_a1_b101) own_nm0))
  have y107 := (y103.trans Kc105 (allS (Or.inr sz_b101) all0))
  have y108 := (y104.keep Kc105 (allS g_b101 all0))
  have lz109_a1 := y106.lt
  obtain ⟨_, _, ⟨T109, L109, k109, n109⟩, -, X109, ⟨Lc109, hQ109, l109, y109, z109⟩, st109⟩ := Jvm.LawKit.callS X105 hx (y := mn_25) hown (mvT hZ (tw hw 86 rfl)) (mvT hZ (tw hw 87 rfl)) (mvT hZ (tw hw 27 rfl)) (mvT hZ (tw hw 88 rfl)) (by decide) (backOf (W := 0) (rmTob_3 l Z a0 hw [] a1 ka x1 x2 x3 T105.heap n0 y108 SA SH SL y106) hZ (tw hw 88 rfl) (tw hw 27 rfl) (by decide) (by decide)) (g := (mkF m 23 #[vr a1, vi 0, vi 3, vr b101, vi 2, .unset] [wi 3, wi 0, wr a1])) rfl (by rw [hml]; rfl) (argsL := [wr a1, wi 0, wi 3]) (rest := []) (lenOf pd_ACII_AB rfl) rfl (Nat.le_refl _) (hb hby d7_23) (fun _ _ => ⟨rfl, rfl, (by decide : 1 + 1 ≤ _), (by decide : 3 + 6 ≤ _)⟩)
  dsimp only [Pt.U, Pt.locs, Pt.cells, Pt.slots] at X109 l109 y109 z109 st109 hQ109
  subst l109 y109 z109
  obtain ⟨ur109, uq109, rfl, N109q, Kc109, ug109, us109, uV109⟩ := hQ109
  have N109 := Fr.app N105 N109q
  have lt_a1_ur109 : a1 < ur109 := Nat.lt_of_lt_of_le lz109_a1 us109
  have sz_ur109 : h0.size ≤ ur109 := Nat.le_trans y107.1 us109
  have y110 := (y107.trans Kc109 all0)
  have y111 := (y108.keep Kc109 all0)
  obtain ⟨_, _, ⟨T112, L112, k112, n112⟩, -, X112, ⟨Lc112, hQ112, l112, y112, z112⟩, st112⟩ := Jvm.LawKit.callS X109 hx (y := mn_20) hown (mvT hZ (tw hw 102 rfl)) (mvT hZ (tw hw 103 rfl)) (mvT hZ (tw hw 27 rfl)) (mvT hZ (tw hw 104 rfl)) (by decide) (backOf (W := 0) (rmGch l Z a0 hw [] ur109 (2 : Int32) uq109 (6 : Int32) [.int (StrChars.lo8 x1), .int (StrChars.hi8 x1), .int (StrChars.lo8 x2), .int (StrChars.hi8 x2), .int (StrChars.lo8 x3), .int (StrChars.hi8 x3)] x3 T109.heap n0 y111 SA SH SL uV109 ⟨⟨by decide, by decide⟩, by decide, rfl⟩ ⟨⟨by decide, by decide⟩, by decide, rfl⟩ hbw) hZ (tw hw 104 rfl) (tw hw 27 rfl) (by decide) (by decide)) (g := (mkF m 32 #[vr a1, vi 0, vi 3, vr b101, vi 2, vr ur109] [wi 2, wr ur109])) rfl (by rw [hml]; rfl) (argsL := [wr ur109, wi 2]) (rest := []) (lenOf pd_ABI_C rfl) rfl (Nat.le_refl _) (hb hby d7_32) (fun _ _ => ⟨rfl, rfl, (by decide : 2 + 0 ≤ _), (by decide : 9 + 0 ≤ _)⟩)
  dsimp only [Pt.U, Pt.locs, Pt.cells, Pt.slots] at X112 l112 y112 z112 st112 hQ112
  subst l112 y112 z112
  obtain ⟨rfl, N112q, eq112⟩ := hQ112
  have N112 := Fr.app N109 N112q
  have hc38 : (255 : Int32) < x3 := hg
  obtain ⟨fs, hr, hrun, hended, hW, hsame⟩ := X112.leave (v := some (.ref ur109)) (fun h => by rw [Bd.returns] at h; cases h)
  refine ⟨_, _, pre0 _ ?_, hrun, hended, _, _, rfl, ?_, ⟨_, rfl⟩, hW, hsame.mono (by decide) (by decide)⟩
  · show Go p e below s₁ (mkF m 0 #[vr a1, vi 0, vi 3, .unset, .unset, .unset] []) _
    refine XS.iloadN X0.here hx rfl (hb hby d7_0) rfl ?_
    show Go p e below s₁ (mkF m 1 #[vr a1, vi 0, vi 3, .unset, .unset, .unset] [wi 3]) _
    refine st101 _ ?_
    show Go p e below T101 (mkF m 3 #[vr a1, vi 0, vi 3, .unset, .unset, .unset] [wr b101]) _
    refine XS.astoreN X101.here hx rfl (hb hby d7_3) rfl rfl (l' := #[.val (.ref a1), .val (.int (0 : Int32)), .val (.int (3 : Int32)), .val (.ref b101), .unset, .unset]) rfl ?_
    show Go p e below T101 (mkF m 4 #[vr a1, vi 0, vi 3, vr b101, .unset, .unset] []) _
    refine XS.aloadN X101.here hx rfl (hb hby d7_4) rfl rfl ?_
    show Go p e below T101 (mkF m 5 #[vr a1, vi 0, vi 3, vr b101, .unset, .unset] [wr a1]) _
    refine XS.iloadN X101.here hx rfl (hb hby d7_5) rfl ?_
    show Go p e below T101 (mkF m 6 #[vr a1, vi 0, vi 3, vr b101, .unset, .unset] [wi 0, wr a1]) _
    refine XS.aloadN X101.here hx rfl (hb hby d7_6) rfl rfl ?_
    show Go p e below T101 (mkF m 7 #[vr a1, vi 0, vi 3, vr b101, .unset, .unset] [wr b101, wi 0, wr a1]) _
    refine XS.iconst X101.here hx rfl (hb hby d7_7) ?_
    show Go p e below T101 (mkF m 8 #[vr a1, vi 0, vi 3, vr b101, .unset, .unset] [wi 0, wr b101, wi 0, wr a1]) _
    refine XS.iloadN X101.here hx rfl (hb hby d7_8) rfl ?_
    show Go p e below T101 (mkF m 9 #[vr a1, vi 0, vi 3, vr b101, .unset, .unset] [wi 3, wi 0, wr b101, wi 0, wr a1]) _
    refine st105 _ ?_
    show Go p e below T105 (mkF m 12 #[vr a1, vi 0, vi 3, vr b101, .unset, .unset] [wi 2]) _
    refine XS.istore X105.here hx rfl (hb hby d7_12) rfl (l' := #[.val (.ref a1), .val (.int (0 : Int32)), .val (.int (3 : Int32)), .val (.ref b101), .val (.int (2 : Int32)), .unset]) rfl ?_
    show Go p e below T105 (mkF m 14 #[vr a1, vi 0, vi 3, vr b101, vi 2, .unset] []) _
    refine XS.iload X105.here hx rfl (hb hby d7_14) rfl ?_
    show Go p e below T105 (mkF m 16 #[vr a1, vi 0, vi 3, vr b101, vi 2, .unset] [wi 2]) _
    refine XS.iloadN X105.here hx rfl (hb hby d7_16) rfl ?_
    show Go p e below T105 (mkF m 17 #[vr a1, vi 0, vi 3, vr b101, vi 2, .unset] [wi 3, wi 2]) _
    refine XS.icmpNo X105.here hx rfl (hb hby d7_17) rfl (feq (by decide : ¬ ((2 : Int32) = (3 : Int32)))).1 ?_
    show Go p e below T105 (mkF m 20 #[vr a1, vi 0, vi 3, vr b101, vi 2, .unset] []) _
    refine XS.aloadN X105.here hx rfl (hb hby d7_20) rfl rfl ?_
    show Go p e below T105 (mkF m 21 #[vr a1, vi 0, vi 3, vr b101, vi 2, .unset] [wr a1]) _
    refine XS.iloadN X105.here hx rfl (hb hby d7_21) rfl ?_
    show Go p e below T105 (mkF m 22 #[vr a1, vi 0, vi 3, vr b101, vi 2, .unset] [wi 0, wr a1]) _
    refine XS.iloadN X105.here hx rfl (hb hby d7_22) rfl ?_
    show Go p e below T105 (mkF m 23 #[vr a1, vi 0, vi 3, vr b101, vi 2, .unset] [wi 3, wi 0, wr a1]) _
    refine st109 _ ?_
    show Go p e below T109 (mkF m 26 #[vr a1, vi 0, vi 3, vr b101, vi 2, .unset] [wr ur109]) _
    refine XS.astore X109.here hx rfl (hb hby d7_26) rfl rfl (l' := #[.val (.ref a1), .val (.int (0 : Int32)), .val (.int (3 : Int32)), .val (.ref b101), .val (.int (2 : Int32)), .val (.ref ur109)]) rfl ?_
    show Go p e below T109 (mkF m 28 #[vr a1, vi 0, vi 3, vr b101, vi 2, vr ur109] []) _
    refine XS.aload X109.here hx rfl (hb hby d7_28) rfl rfl ?_
    show Go p e below T109 (mkF m 30 #[vr a1, vi 0, vi 3, vr b101, vi 2, vr ur109] [wr ur109]) _
    refine XS.iload X109.here hx rfl (hb hby d7_30) rfl ?_
    show Go p e below T109 (mkF m 32 #[vr a1, vi 0, vi 3, vr b101, vi 2, vr ur109] [wi 2, wr ur109]) _
    refine st112 _ ?_
    show Go p e below T112 (mkF m 35 #[vr a1, vi 0, vi 3, vr b101, vi 2, vr ur109] [wi x3]) _
    refine XS.sipush X112.here hx rfl (hb hby d7_35) ?_
    show Go p e below T112 (mkF m 38 #[vr a1, vi 0, vi 3, vr b101, vi 2, vr ur109] [wi 255, wi x3]) _
    refine XS.icmpYes X112.here hx rfl (pc0 := 38) (pc' := 54) rfl (hb hby d7_38) rfl (tlt hc38).2.2.1 (by decide) (by decide) ?_
    show Go p e below T112 (mkF m 54 #[vr a1, vi 0, vi 3, vr b101, vi 2, vr ur109] []) _
    refine XS.aload X112.here hx rfl (hb hby d7_54) rfl rfl ?_
    show Go p e below T112 (mkF m 56 #[vr a1, vi 0, vi 3, vr b101, vi 2, vr ur109] [wr ur109]) _
    jvm_step X112.here [X112.here.top, hx, (hb hby d7_56), X112.method', Bd.returns, Value.isRef, FieldType.isReference]
    first | (intro acts; rw [hr _ acts rfl rfl rfl]) | rw [hr _ _ rfl rfl rfl]
    exact Steps.refl _
  · show QC3 Z [x1, x2, x3] h0 n0 _ T112.heap _
    rw [eq112]
    exact ⟨_, _, (1 : Int32), (6 : Int32), [.int (StrChars.lo8 x1), .int (StrChars.hi8 x1), .int (StrChars.lo8 x2), .int (StrChars.hi8 x2), .int (StrChars.lo8 x3), .int (StrChars.hi8 x3)], rfl, N112, y110, ug109, sz_ur109, uV109, Or.inr ⟨rfl, rfl, rfl, _, List.mem_of_getElem? (i := 2) rfl, hg⟩⟩
theorem rmC3_3 (l : Launch) (Z : State) (a0 : Array Value) (hw : ∀ d ∈ tables_1, d.before a0 Z = true) (ws : List Jvm.Cond) (a1 : Addr) (ka : ClassId) (x1 : Int32) (x2 : Int32) (x3 : Int32) (h0 : Heap) (n0 : Nat) (X00 : Old Z n0 h0) (SA : pSA Z) (SH : pSH Z) (SL : pSL Z) (V_a : Arv Z h0 a1 ka .char (3 : Int32) [(.int x1), (.int x2), (.int x3)] (.int (0 : Int32))) (hb0 : ChB x1) (hb1 : ChB x2) (hb2 : ChB x3) :
    MetFree l mn_18 (head1 (Jvm.Cond.code mn_18 jdk_52_method_16_code 6 (some (.array .byte)) :: ws) ro_12) (fun a U => a = #[(.ref a1), (.int (0 : Int32)), (.int (3 : Int32))] ∧ Z.Warmed39 U.vm ∧ U.heap = h0) (fun _ _ _ _ _ => True) (fun _ U o U' => ∃ rv rL, o = .returned rv ∧ QC3 Z [x1, x2, x3] h0 n0 rv U'.heap rL ∧ FrameEnd U o U' rL ro_12.cells ro_12.slots) := by
  by_cases c0 : (255 : Int32) < x1
  · exact rmC3_3_0 l Z a0 hw ws a1 ka x1 x2 x3 h0 n0 X00 SA SH SL V_a  c0 hb0
  by_cases c1 : (255 : Int32) < x2
  · exact rmC3_3_1 l Z a0 hw ws a1 ka x1 x2 x3 h0 n0 X00 SA SH SL V_a c0 c1 hb1
  by_cases c2 : (255 : Int32) < x3
  · exact rmC3_3_2 l Z a0 hw ws a1 ka x1 x2 x3 h0 n0 X00 SA SH SL V_a c0 c1 c2 hb2
  exact rmC3_3_n l Z a0 hw ws a1 ka x1 x2 x3 h0 n0 X00 SA SH SL V_a c0 c1 c2
set_option maxRecDepth 65536 in
set_option maxHeartbeats 40000000 in
theorem rmCfl_3_0 (l : Launch) (Z : State) (a0 : Array Value) (hw : ∀ d ∈ tables_1, d.before a0 Z = true) (ws : List Jvm.Cond) (a1 : Addr) (ka : ClassId) (vs : List Value) (h0 : Heap) (n0 : Nat) (X00 : Old Z n0 h0) (V_a : Arv Z h0 a1 ka .byte (3 : Int32) vs (.int (0 : Int32))) :
    MetFree l mn_17 (head1 (Jvm.Cond.code mn_17 jdk_52_method_15_code 2 (some .byte) :: ws) ro_0) (fun a U => a = #[(.ref a1), (.int (3 : Int32))] ∧ Z.Warmed39 U.vm ∧ U.heap = h0) (fun _ _ _ _ _ => True) (fun _ U o U' => ∃ rv rL, o = .returned rv ∧ Qs (some (.int (0 : Int32))) h0 n0 rv U'.heap rL ∧ FrameEnd U o U' rL ro_0.cells ro_0.slots) := by
  refine MetFree.of_bodySF (plainFor_of_name pn_9) hisR ?_
  intro p e s m args below meth c s₁ Bd hml0 hP hK
  obtain ⟨rfl, hZ, hh⟩ := hP
  have hx := Bd.exec
  have hby := Bd.bytes
  have hml : c.maxLocals = 2 := hml0
  have hown : s.vm.findClass "java/lang/StringUTF16" = some m.cls := findClass_of_methodNamed Bd.named
  have hnm := (name_of_methodNamed Bd.named Bd.method).1
  have X0 : Stand p l e ro_0 s m #[(.ref a1), (.int (3 : Int32))] below meth c s₁ [] 0 0 := Stand.of_body Bd
  have e0 : s₁.heap = h0 := by rw [← hh, Bd.state]; rfl
  have N0 := Fr.nil n0
  have pre0 : ∀ t, Steps p.tables e below (s₁.setTop (mkF m 0 #[.val (.ref a1), .val (.int (3 : Int32))] [])) t → Steps p.tables e below (s₁.setTop (entryFrame m #[(.ref a1), (.int (3 : Int32))] 2)) t := fun t k => castTop (ef_9 m a1 (3 : Int32)) k
  obtain ⟨cl101, Ar101, q101, S101, M101, H101, G101⟩ := id V_a
  obtain ⟨fs, hr, hrun, hended, hW, hsame⟩ := X0.leave (v := some (.int (nar .byte ((((0 : Int32).toUInt32 >>> ((31 : Int32) &&& 31).toUInt32).toInt32).toInt8.toInt32)))) (fun h => by rw [Bd.returns] at h; cases h)
  refine ⟨_, _, pre0 _ ?_, hrun, hended, _, _, rfl, ?_, ⟨_, rfl⟩, hW, hsame.mono (by decide) (by decide)⟩
  · show Go p e below s₁ (mkF m 0 #[vr a1, vi 3] []) _
    refine XS.iloadN X0.here hx rfl (hb hby d9_0) rfl ?_
    show Go p e below s₁ (mkF m 1 #[vr a1, vi 3] [wi 3]) _
    refine XS.aloadN X0.here hx rfl (hb hby d9_1) rfl rfl ?_
    show Go p e below s₁ (mkF m 2 #[vr a1, vi 3] [wr a1, wi 3]) _
    refine X0.arraylength hx (by rw [e0]; exact Ar101.1) (State.isArrayOf_alike hZ.alike Ar101.2.1) (g := (mkF m 2 #[vr a1, vi 3] [wr a1, wi 3])) rfl rfl (hb hby d9_2) _ ?_
    rw [len_of S101 M101]
    show Go p e below s₁ (mkF m 3 #[vr a1, vi 3] [wi 3, wi 3]) _
    refine XS.isub X0.here hx rfl (hb hby d9_3) rfl ?_
    show Go p e below s₁ (mkF m 4 #[vr a1, vi 3] [wi 0]) _
    refine XS.bipush X0.here hx rfl (hb hby d9_4) ?_
    show Go p e below s₁ (mkF m 6 #[vr a1, vi 3] [wi 31, wi 0]) _
    refine XS.iushr X0.here hx rfl (hb hby d9_6) rfl ?_
    show Go p e below s₁ (mkF m 7 #[vr a1, vi 3] [wi (((0 : Int32).toUInt32 >>> ((31 : Int32) &&& 31).toUInt32).toInt32)]) _
    refine XS.i2b X0.here hx rfl (hb hby d9_7) rfl ?_
    show Go p e below s₁ (mkF m 8 #[vr a1, vi 3] [wi ((((0 : Int32).toUInt32 >>> ((31 : Int32) &&& 31).toUInt32).toInt32).toInt8.toInt32)]) _
    exact retN X0 hx (t := .byte) Bd.returns (by simp) (hb hby d9_8) hr
  · show Qs (some (.int (0 : Int32))) h0 n0 _ s₁.heap _
    rw [e0]
    exact ⟨by decide, N0, rfl⟩
set_option maxRecDepth 65536 in
set_option maxHeartbeats 40000000 in
theorem rmCfl_3_1 (l : Launch) (Z : State) (a0 : Array Value) (hw : ∀ d ∈ tables_1, d.before a0 Z = true) (ws : List Jvm.Cond) (a1 : Addr) (ka : ClassId) (vs : List Value) (h0 : Heap) (n0 : Nat) (X00 : Old Z n0 h0) (V_a : Arv Z h0 a1 ka .byte (6 : Int32) vs (.int (0 : Int32))) :
    MetFree l mn_17 (head1 (Jvm.Cond.code mn_17 jdk_52_method_15_code 2 (some .byte) :: ws) ro_0) (fun a U => a = #[(.ref a1), (.int (3 : Int32))] ∧ Z.Warmed39 U.vm ∧ U.heap = h0) (fun _ _ _ _ _ => True) (fun _ U o U' => ∃ rv rL, o = .returned rv ∧ Qs (some (.int (1 : Int32))) h0 n0 rv U'.heap rL ∧ FrameEnd U o U' rL ro_0.cells ro_0.slots) := by
  refine MetFree.of_bodySF (plainFor_of_name pn_9) hisR ?_
  intro p e s m args below meth c s₁ Bd hml0 hP hK
  obtain ⟨rfl, hZ, hh⟩ := hP
  have hx := Bd.exec
  have hby := Bd.bytes
  have hml : c.maxLocals = 2 := hml0
  have hown : s.vm.findClass "java/lang/StringUTF16" = some m.cls := findClass_of_methodNamed Bd.named
  have hnm := (name_of_methodNamed Bd.named Bd.method).1
  have X0 : Stand p l e ro_0 s m #[(.ref a1), (.int (3 : Int32))] below meth c s₁ [] 0 0 := Stand.of_body Bd
  have e0 : s₁.heap = h0 := by rw [← hh, Bd.state]; rfl
  have N0 := Fr.nil n0
  have pre0 : ∀ t, Steps p.tables e below (s₁.setTop (mkF m 0 #[.val (.ref a1), .val (.int (3 : Int32))] [])) t → Steps p.tables e below (s₁.setTop (entryFrame m #[(.ref a1), (.int (3 : Int32))] 2)) t := fun t k => castTop (ef_9 m a1 (3 : Int32)) k
  obtain ⟨cl101, Ar101, q101, S101, M101, H101, G101⟩ := id V_a
  obtain ⟨fs, hr, hrun, hended, hW, hsame⟩ := X0.leave (v := some (.int (nar .byte ((((-3 : Int32).toUInt32 >>> ((31 : Int32) &&& 31).toUInt32).toInt32).toInt8.toInt32)))) (fun h => by rw [Bd.returns] at h; cases h)
  refine ⟨_, _, pre0 _ ?_, hrun, hended, _, _, rfl, ?_, ⟨_, rfl⟩, hW, hsame.mono (by decide) (by decide)⟩
  · show Go p e below s₁ (mkF m 0 #[vr a1, vi 3] []) _
    refine XS.iloadN X0.here hx rfl (hb hby d9_0) rfl ?_
    show Go p e below s₁ (mkF m 1 #[vr a1, vi 3] [wi 3]) _
    refine XS.aloadN X0.here hx rfl (hb hby d9_1) rfl rfl ?_
    show Go p e below s₁ (mkF m 2 #[vr a1, vi 3] [wr a1, wi 3]) _
    refine X0.arraylength hx (by rw [e0]; exact Ar101.1) (State.isArrayOf_alike hZ.alike Ar101.2.1) (g := (mkF m 2 #[vr a1, vi 3] [wr a1, wi 3])) rfl rfl (hb hby d9_2) _ ?_
    rw [len_of S101 M101]
    show Go p e below s₁ (mkF m 3 #[vr a1, vi 3] [wi 6, wi 3]) _
    refine XS.isub X0.here hx rfl (hb hby d9_3) rfl ?_
    show Go p e below s₁ (mkF m 4 #[vr a1, vi 3] [wi (-3)]) _
    refine XS.bipush X0.here hx rfl (hb hby d9_4) ?_
    show Go p e below s₁ (mkF m 6 #[vr a1, vi 3] [wi 31, wi (-3)]) _
    refine XS.iushr X0.here hx rfl (hb hby d9_6) rfl ?_
    show Go p e below s₁ (mkF m 7 #[vr a1, vi 3] [wi (((-3 : Int32).toUInt32 >>> ((31 : Int32) &&& 31).toUInt32).toInt32)]) _
    refine XS.i2b X0.here hx rfl (hb hby d9_7) rfl ?_
    show Go p e below s₁ (mkF m 8 #[vr a1, vi 3] [wi ((((-3 : Int32).toUInt32 >>> ((31 : Int32) &&& 31).toUInt32).toInt32).toInt8.toInt32)]) _
    exact retN X0 hx (t := .byte) Bd.returns (by simp) (hb hby d9_8) hr
  · show Qs (some (.int (1 : Int32))) h0 n0 _ s₁.heap _
    rw [e0]
    exact ⟨by decide, N0, rfl⟩
theorem rmCfl_3 (l : Launch) (Z : State) (a0 : Array Value) (hw : ∀ d ∈ tables_1, d.before a0 Z = true) (ws : List Jvm.Cond) (a1 : Addr) (ka : ClassId) (vs : List Value) (cd : Int32) (N : Int32) (x1 : Int32) (x2 : Int32) (x3 : Int32) (h0 : Heap) (n0 : Nat) (X00 : Old Z n0 h0) (V_a : Arv Z h0 a1 ka .byte N vs (.int (0 : Int32))) (hc : StrChars.Road.CodA [x1, x2, x3] cd N vs) :
    MetFree l mn_17 (head1 (Jvm.Cond.code mn_17 jdk_52_method_15_code 2 (some .byte) :: ws) ro_0) (fun a U => a = #[(.ref a1), (.int (3 : Int32))] ∧ Z.Warmed39 U.vm ∧ U.heap = h0) (fun _ _ _ _ _ => True) (fun _ U o U' => ∃ rv rL, o = .returned rv ∧ Qs (some (.int cd)) h0 n0 rv U'.heap rL ∧ FrameEnd U o U' rL ro_0.cells ro_0.slots) := by
  rcases hc with ⟨rfl, rfl, -, -⟩ | ⟨rfl, rfl, -, -⟩
  · exact rmCfl_3_0 l Z a0 hw ws a1 ka vs h0 n0 X00 V_a
  · exact rmCfl_3_1 l Z a0 hw ws a1 ka vs h0 n0 X00 V_a
set_option maxRecDepth 65536 in
set_option maxHeartbeats 40000000 in
theorem rmSv_3 (l : Launch) (Z : State) (a0 : Array Value) (hw : ∀ d ∈ tables_1, d.before a0 Z = true) (ws : List Jvm.Cond) (a1 : Addr) (a2 : Addr) (uk : Value) (ka : ClassId) (x1 : Int32) (x2 : Int32) (x3 : Int32) (G1 : Int32) (h0 : Heap) (n0 : Nat) (X00 : Old Z n0 h0) (E_a1 : Exa Z h0 a1 ST) (F_v : Fld Z h0 a1 ST "value" "[B" .null) (F_k : Fld Z h0 a1 ST "coder" "B" uk) (g_a1 : n0 ≤ a1) (O2 : pO2 Z G1) (P5 : ¬ (G1 = (0 : Int32))) (SA : pSA Z) (SH : pSH Z) (SL : pSL Z) (V_a : Arv Z h0 a2 ka .char (3 : Int32) [(.int x1), (.int x2), (.int x3)] (.int (0 : Int32))) (hb0 : ChB x1) (hb1 : ChB x2) (hb2 : ChB x3) (ne : a2 ≠ a1) :
    MetFree l mn_8 (head1 (Jvm.Cond.code mn_8 jdk_42_method_149_code 6 none :: ws) ro_13) (fun a U => a = #[(.ref a1), (.ref a2), (.int (0 : Int32)), (.int (3 : Int32)), .null] ∧ Z.Warmed39 U.vm ∧ U.heap = h0) (fun _ _ _ _ _ => True) (fun _ U o U' => ∃ rv rL, o = .returned rv ∧ QNew Z a1 [x1, x2, x3] h0 n0 rv U'.heap rL ∧ FrameEnd U o U' rL ro_13.cells ro_13.slots) := by
  refine MetFree.of_bodySF (plainFor_of_name pn_5) hisR ?_
  intro p e s m args below meth c s₁ Bd hml0 hP hK
  obtain ⟨rfl, hZ, hh⟩ := hP
  have hx := Bd.exec
  have hby := Bd.bytes
  have hml : c.maxLocals = 6 := hml0
  have hown : s.vm.findClass "java/lang/String" = some m.cls := findClass_of_methodNamed Bd.named
  have hnm := (name_of_methodNamed Bd.named Bd.method).1
  have X0 : Stand p l e ro_13 s m #[(.ref a1), (.ref a2), (.int (0 : Int32)), (.int (3 : Int32)), .null] below meth c s₁ [] 0 0 := Stand.of_body Bd
  have e0 : s₁.heap = h0 := by rw [← hh, Bd.state]; rfl
  have N0 := Fr.nil n0
  have pre0 : ∀ t, Steps p.tables e below (s₁.setTop (mkF m 0 #[.val (.ref a1), .val (.ref a2), .val (.int (0 : Int32)), .val (.int (3 : Int32)), .val .null, .unset] [])) t → Steps p.tables e below (s₁.setTop (entryFrame m #[(.ref a1), (.ref a2), (.int (0 : Int32)), (.int (3 : Int32)), .null] 6)) t := fun t k => castTop (ef_5vvvvn m a1 a2 (0 : Int32) (3 : Int32)) k
  obtain ⟨T101, X101, e101, st101⟩ := initO X0 hx hZ hown (tw hw 21 rfl) (tw hw 22 rfl) (tw hw 23 rfl) e0 (g := (mkF m 1 #[vr a1, vr a2, vi 0, vi 3, .val .null, .unset] [wr a1])) rfl (by rw [hml]; rfl) rfl (hb hby d5_1) (by decide) (W := 0) (by show 2 * 0 + _ ≤ _; exact Nat.le_of_eq rfl) (by decide)
  obtain ⟨T102, X102, e102, st102⟩ := getS2 X101 hx hZ hown (host := "") (Or.inl (tw hw 24 rfl)) Via.refl e101 (O2.ext X00.2) (g := (mkF m 27 #[vr a1, vr a2, vi 0, vi 3, .val .null, .unset] [])) rfl (hb hby d5_27)
  have hc30 : ¬ (G1 = (0 : Int32)) := P5
  have lz103_a1 := E_a1.lt
  have lz103_a2 := V_a.lt
  obtain ⟨_, _, ⟨T103, L103, k103, n103⟩, -, X103, ⟨Lc103, hQ103, l103, y103, z103⟩, st103⟩ := Jvm.LawKit.callS X102 hx (y := mn_18) hown (mvT hZ (tw hw 25 rfl)) (mvT hZ (tw hw 26 rfl)) (mvT hZ (tw hw 27 rfl)) (mvT hZ (tw hw 28 rfl)) (by decide) (backOf (W := 0) (rmC3_3 l Z a0 hw [] a2 ka x1 x2 x3 h0 n0 X00 SA SH SL V_a hb0 hb1 hb2) hZ (tw hw 28 rfl) (tw hw 27 rfl) (by decide) (by decide)) (g := (mkF m 36 #[vr a1, vr a2, vi 0, vi 3, .val .null, .unset] [wi 3, wi 0, wr a2])) rfl (by rw [hml]; rfl) (argsL := [wr a2, wi 0, wi 3]) (rest := []) (lenOf pd_ACII_AB rfl) rfl (Nat.le_refl _) (hb hby d5_36) (fun _ _ => ⟨rfl, e102, (by decide : 0 + 2 ≤ _), (by decide : 0 + 9 ≤ _)⟩)
  dsimp only [Pt.U, Pt.locs, Pt.cells, Pt.slots] at X103 l103 y103 z103 st103 hQ103
  subst l103 y103 z103
  obtain ⟨ur103, uq103, ud103, uN103, uw103, rfl, N103q, Kc103, ug103, us103, uV103, uH103⟩ := hQ103
  have N103 := Fr.app N0 N103q
  have lt_a1_ur103 : a1 < ur103 := Nat.lt_of_lt_of_le lz103_a1 us103
  have lt_a2_ur103 : a2 < ur103 := Nat.lt_of_lt_of_le lz103_a2 us103
  have sz_ur103 : h0.size ≤ ur103 := Nat.le_trans (Keep.refl h0 [a1]).1 us103
  have y104 := ((Keep.refl h0 [a1]).trans Kc103 all0)
  have y105 := (X00.keep Kc103 all0)
  obtain ⟨_, _, ⟨T106, L106, k106, n106⟩, -, X106, ⟨Lc106, hQ106, l106, y106, z106⟩, st106⟩ := Jvm.LawKit.callS X103 hx (y := mn_17) hown (mvT hZ (tw hw 33 rfl)) (mvT hZ (tw hw 34 rfl)) (mvT hZ (tw hw 27 rfl)) (mvT hZ (tw hw 35 rfl)) (by decide) (backOf (W := 1) (rmCfl_3 l Z a0 hw [] ur103 uq103 uw103 ud103 uN103 x1 x2 x3 T103.heap n0 y105 uV103 uH103) hZ (tw hw 35 rfl) (tw hw 27 rfl) (by decide) (by decide)) (g := (mkF m 45 #[vr a1, vr a2, vi 0, vi 3, .val .null, vr ur103] [wi 3, wr ur103, wr a1])) rfl (by rw [hml]; rfl) (argsL := [wr ur103, wi 3]) (rest := [wr a1]) (lenOf pd_ABI_B rfl) rfl (Nat.le_refl _) (hb hby d5_45) (fun _ _ => ⟨rfl, rfl, (by decide : 2 + 0 ≤ _), (by decide : 9 + 0 ≤ _)⟩)
  dsimp only [Pt.U, Pt.locs, Pt.cells, Pt.slots] at X106 l106 y106 z106 st106 hQ106
  subst l106 y106 z106
  obtain ⟨rfl, N106q, eq106⟩ := hQ106
  have N106 := Fr.app N103 N106q
  have y107 := (F_k.keep Kc103 own_nm0)
  have y108 := (E_a1.keep Kc103)
  obtain ⟨T109, h109, X109, e109, W109, st109⟩ := putFN X106 hx hZ hown (tw hw 36 rfl) Via.refl eq106 y107 y108 (Or.inr ⟨(tw hw 37 rfl), rfl, hnm⟩) (tw hw 11 rfl) (ty := .byte) (v' := (.int (nar .byte ud103))) (by decide) rfl (fits_nar_byte _) (g := (mkF m 48 #[vr a1, vr a2, vi 0, vi 3, .val .null, vr ur103] [wi ud103, wr a1])) rfl rfl (hb hby d5_48)
  have Fw109 := y107.same W109
  have N109 := Fr.snoc X109 N106 g_a1
  have y110 := ((F_v.keep Kc103 own_nm0).other W109 (Or.inr (slot_ne (Or.inr (tw hw 39 rfl)) (Or.inr (tw hw 37 rfl)) (by decide) (t := (.array .byte)) (t' := .byte) (by decide) (by decide))))
  have y111 := (y108.wr W109)
  obtain ⟨T112, h112, X112, e112, W112, st112⟩ := putF X109 hx hZ hown (host := "") (Or.inl (tw hw 38 rfl)) Via.refl e109 y110 y111 (Or.inr ⟨(tw hw 39 rfl), rfl, hnm⟩) (tw hw 11 rfl) (ty := (.array .byte)) (by decide) rfl rfl (g := (mkF m 54 #[vr a1, vr a2, vi 0, vi 3, .val .null, vr ur103] [wr ur103, wr a1])) rfl rfl (hb hby d5_54)
  have Fw112 := y110.same W112
  have N112 := Fr.snoc X112 N109 g_a1
  have y113 := ((y104.wr W109 (Or.inl (List.mem_of_getElem? (i := 0) rfl))).wr W112 (Or.inl (List.mem_of_getElem? (i := 0) rfl)))
  have y114 := (y111.wr W112)
  have y115 := (Fw109.other W112 (Or.inr (slot_ne (Or.inr (tw hw 37 rfl)) (Or.inr (tw hw 39 rfl)) (by decide) (t := .byte) (t' := (.array .byte)) (by decide) (by decide))))
  have y116 := ((uV103.other W109 (Ne.symm (Nat.ne_of_lt lt_a1_ur103))).other W112 (Ne.symm (Nat.ne_of_lt lt_a1_ur103)))
  obtain ⟨fs, hr, hrun, hended, hW, hsame⟩ := X112.leave (v := none) (fun _ => rfl)
  refine ⟨_, _, pre0 _ ?_, hrun, hended, _, _, rfl, ?_, ⟨_, rfl⟩, hW, hsame.mono (by decide) (by decide)⟩
  · show Go p e below s₁ (mkF m 0 #[vr a1, vr a2, vi 0, vi 3, .val .null, .unset] []) _
    refine XS.aloadN X0.here hx rfl (hb hby d5_0) rfl rfl ?_
    show Go p e below s₁ (mkF m 1 #[vr a1, vr a2, vi 0, vi 3, .val .null, .unset] [wr a1]) _
    refine st101 _ ?_
    show Go p e below T101 (mkF m 4 #[vr a1, vr a2, vi 0, vi 3, .val .null, .unset] []) _
    refine XS.iloadN X101.here hx rfl (hb hby d5_4) rfl ?_
    show Go p e below T101 (mkF m 5 #[vr a1, vr a2, vi 0, vi 3, .val .null, .unset] [wi 3]) _
    refine XS.ifYes X101.here hx rfl (pc0 := 5) (pc' := 27) rfl (hb hby d5_5) rfl ((if0 _ _).trans (feq (by decide : ¬ ((3 : Int32) = (0 : Int32)))).2) (by decide) (by decide) ?_
    show Go p e below T101 (mkF m 27 #[vr a1, vr a2, vi 0, vi 3, .val .null, .unset] []) _
    refine st102 _ ?_
    show Go p e below T102 (mkF m 30 #[vr a1, vr a2, vi 0, vi 3, .val .null, .unset] [wi G1]) _
    refine XS.ifNo X102.here hx rfl (hb hby d5_30) rfl ((if0 _ _).trans (feq hc30).1) ?_
    show Go p e below T102 (mkF m 33 #[vr a1, vr a2, vi 0, vi 3, .val .null, .unset] []) _
    refine XS.aloadN X102.here hx rfl (hb hby d5_33) rfl rfl ?_
    show Go p e below T102 (mkF m 34 #[vr a1, vr a2, vi 0, vi 3, .val .null, .unset] [wr a2]) _
    refine XS.iloadN X102.here hx rfl (hb hby d5_34) rfl ?_
    show Go p e below T102 (mkF m 35 #[vr a1, vr a2, vi 0, vi 3, .val .null, .unset] [wi 0, wr a2]) _
    refine XS.iloadN X102.here hx rfl (hb hby d5_35) rfl ?_
    show Go p e below T102 (mkF m 36 #[vr a1, vr a2, vi 0, vi 3, .val .null, .unset] [wi 3, wi 0, wr a2]) _
    refine st103 _ ?_
    show Go p e below T103 (mkF m 39 #[vr a1, vr a2, vi 0, vi 3, .val .null, .unset] [wr ur103]) _
    refine XS.astore X103.here hx rfl (hb hby d5_39) rfl rfl (l' := #[.val (.ref a1), .val (.ref a2), .val (.int (0 : Int32)), .val (.int (3 : Int32)), .val .null, .val (.ref ur103)]) rfl ?_
    show Go p e below T103 (mkF m 41 #[vr a1, vr a2, vi 0, vi 3, .val .null, vr ur103] []) _
    refine XS.aloadN X103.here hx rfl (hb hby d5_41) rfl rfl ?_
    show Go p e below T103 (mkF m 42 #[vr a1, vr a2, vi 0, vi 3, .val .null, vr ur103] [wr a1]) _
    refine XS.aload X103.here hx rfl (hb hby d5_42) rfl rfl ?_
    show Go p e below T103 (mkF m 44 #[vr a1, vr a2, vi 0, vi 3, .val .null, vr ur103] [wr ur103, wr a1]) _
    refine XS.iloadN X103.here hx rfl (hb hby d5_44) rfl ?_
    show Go p e below T103 (mkF m 45 #[vr a1, vr a2, vi 0, vi 3, .val .null, vr ur103] [wi 3, wr ur103, wr a1]) _
    refine st106 _ ?_
    show Go p e below T106 (mkF m 48 #[vr a1, vr a2, vi 0, vi 3, .val .null, vr ur103] [wi ud103, wr a1]) _
    refine st109 _ ?_
    show Go p e below T109 (mkF m 51 #[vr a1, vr a2, vi 0, vi 3, .val .null, vr ur103] []) _
    refine XS.aloadN X109.here hx rfl (hb hby d5_51) rfl rfl ?_
    show Go p e below T109 (mkF m 52 #[vr a1, vr a2, vi 0, vi 3, .val .null, vr ur103] [wr a1]) _
    refine XS.aload X109.here hx rfl (hb hby d5_52) rfl rfl ?_
    show Go p e below T109 (mkF m 54 #[vr a1, vr a2, vi 0, vi 3, .val .null, vr ur103] [wr ur103, wr a1]) _
    refine st112 _ ?_
    show Go p e below T112 (mkF m 57 #[vr a1, vr a2, vi 0, vi 3, .val .null, vr ur103] []) _
    exact X112.returnOut hx Bd.returns (hb hby d5_57) hr
  · show QNew Z a1 [x1, x2, x3] h0 n0 _ T112.heap _
    rw [e112]
    exact ⟨rfl, N112, y113, ur103, uq103, ud103, uN103, uw103, ⟨y114, Fw112, (by have q := y115; rw [own_cdn uH103] at q; exact q), y116⟩, uH103⟩
set_option maxRecDepth 65536 in
set_option maxHeartbeats 40000000 in
theorem rmSc_1 (l : Launch) (Z : State) (a0 : Array Value) (hw : ∀ d ∈ tables_1, d.before a0 Z = true) (ws : List Jvm.Cond) (a1 : Addr) (a2 : Addr) (uk : Value) (ka : ClassId) (x1 : Int32) (G1 : Int32) (h0 : Heap) (n0 : Nat) (X00 : Old Z n0 h0) (E_a1 : Exa Z h0 a1 ST) (F_v : Fld Z h0 a1 ST "value" "[B" .null) (F_k : Fld Z h0 a1 ST "coder" "B" uk) (g_a1 : n0 ≤ a1) (O2 : pO2 Z G1) (P5 : ¬ (G1 = (0 : Int32))) (SA : pSA Z) (SH : pSH Z) (SL : pSL Z) (V_a : Arv Z h0 a2 ka .char (1 : Int32) [(.int x1)] (.int (0 : Int32))) (hb0 : ChB x1) (ne : a2 ≠ a1) :
    MetFree l mn_7 (head1 (Jvm.Cond.code mn_7 jdk_42_method_3_code 2 none :: ws) ro_14) (fun a U => a = #[(.ref a1), (.ref a2)] ∧ Z.Warmed39 U.vm ∧ U.heap = h0) (fun _ _ _ _ _ => True) (fun _ U o U' => ∃ rv rL, o = .returned rv ∧ QNew Z a1 [x1] h0 n0 rv U'.heap rL ∧ FrameEnd U o U' rL ro_14.cells ro_14.slots) := by
  refine MetFree.of_bodySF (plainFor_of_name pn_4) hisR ?_
  intro p e s m args below meth c s₁ Bd hml0 hP hK
  obtain ⟨rfl, hZ, hh⟩ := hP
  have hx := Bd.exec
  have hby := Bd.bytes
  have hml : c.maxLocals = 2 := hml0
  have hown : s.vm.findClass "java/lang/String" = some m.cls := findClass_of_methodNamed Bd.named
  have hnm := (name_of_methodNamed Bd.named Bd.method).1
  have X0 : Stand p l e ro_14 s m #[(.ref a1), (.ref a2)] below meth c s₁ [] 0 0 := Stand.of_body Bd
  have e0 : s₁.heap = h0 := by rw [← hh, Bd.state]; rfl
  have N0 := Fr.nil n0
  have pre0 : ∀ t, Steps p.tables e below (s₁.setTop (mkF m 0 #[.val (.ref a1), .val (.ref a2)] [])) t → Steps p.tables e below (s₁.setTop (entryFrame m #[(.ref a1), (.ref a2)] 2)) t := fun t k => castTop (ef_4 m a1 a2) k
  obtain ⟨cl101, Ar101, q101, S101, M101, H101, G101⟩ := id V_a
  obtain ⟨_, _, ⟨T102, L102, k102, n102⟩, -, X102, ⟨Lc102, hQ102, l102, y102, z102⟩, st102⟩ := X0.specialBack hx (y := mn_8) rfl hown (mvT hZ (tw hw 17 rfl)) (mvT hZ (tw hw 18 rfl)) (mvT hZ (tw hw 20 rfl)) (by decide) (backOf (W := 0) (rmSv_1 l Z a0 hw [] a1 a2 (uk) ka x1 G1 h0 n0 X00 E_a1 F_v F_k g_a1 O2 P5 SA SH SL V_a hb0 ne) hZ (tw hw 20 rfl) (tw hw 12 rfl) (by decide) (by decide)) (g := (mkF m 6 #[vr a1, vr a2] [.null, wi 1, wi 0, wr a2, wr a1])) rfl (by rw [hml]; rfl) (Steps.refl _) (a := a1) (argsL := [wr a2, wi 0, wi 1, .null]) (rest := []) (lenOf pd_ACIILjava_lang_Void__V rfl) rfl (Nat.le_refl _) (hb hby d4_6) (fun _ _ => ⟨rfl, e0, (by decide : 0 + 2 ≤ _), (by decide : 0 + 3 ≤ _)⟩)
  dsimp only [Pt.U, Pt.locs, Pt.cells, Pt.slots] at X102 l102 y102 z102 st102 hQ102
  subst l102 y102 z102
  obtain ⟨rfl, N102q, Kc102, uS102⟩ := hQ102
  have N102 := Fr.app N0 N102q
  have y103 := ((Keep.refl h0 [a1]).trans Kc102 (allS (Or.inl (List.mem_of_getElem? (i := 0) rfl)) all0))
  obtain ⟨fs, hr, hrun, hended, hW, hsame⟩ := X102.leave (v := none) (fun _ => rfl)
  refine ⟨_, _, pre0 _ ?_, hrun, hended, _, _, rfl, ?_, ⟨_, rfl⟩, hW, hsame.mono (by decide) (by decide)⟩
  · show Go p e below s₁ (mkF m 0 #[vr a1, vr a2] []) _
    refine XS.aloadN X0.here hx rfl (hb hby d4_0) rfl rfl ?_
    show Go p e below s₁ (mkF m 1 #[vr a1, vr a2] [wr a1]) _
    refine XS.aloadN X0.here hx rfl (hb hby d4_1) rfl rfl ?_
    show Go p e below s₁ (mkF m 2 #[vr a1, vr a2] [wr a2, wr a1]) _
    refine XS.iconst X0.here hx rfl (hb hby d4_2) ?_
    show Go p e below s₁ (mkF m 3 #[vr a1, vr a2] [wi 0, wr a2, wr a1]) _
    refine XS.aloadN X0.here hx rfl (hb hby d4_3) rfl rfl ?_
    show Go p e below s₁ (mkF m 4 #[vr a1, vr a2] [wr a2, wi 0, wr a2, wr a1]) _
    refine X0.arraylength hx (by rw [e0]; exact Ar101.1) (State.isArrayOf_alike hZ.alike Ar101.2.1) (g := (mkF m 4 #[vr a1, vr a2] [wr a2, wi 0, wr a2, wr a1])) rfl rfl (hb hby d4_4) _ ?_
    rw [len_of S101 M101]
    show Go p e below s₁ (mkF m 5 #[vr a1, vr a2] [wi 1, wi 0, wr a2, wr a1]) _
    refine XS.aconstNull X0.here hx rfl (hb hby d4_5) ?_
    show Go p e below s₁ (mkF m 6 #[vr a1, vr a2] [.null, wi 1, wi 0, wr a2, wr a1]) _
    refine st102.trans ?_
    show Go p e below T102 (mkF m 9 #[vr a1, vr a2] []) _
    exact X102.returnOut hx Bd.returns (hb hby d4_9) hr
  · show QNew Z a1 [x1] h0 n0 _ T102.heap _
    exact ⟨rfl, N102, y103, uS102⟩
set_option maxRecDepth 65536 in
set_option maxHeartbeats 40000000 in
theorem rmSc_2 (l : Launch) (Z : State) (a0 : Array Value) (hw : ∀ d ∈ tables_1, d.before a0 Z = true) (ws : List Jvm.Cond) (a1 : Addr) (a2 : Addr) (uk : Value) (ka : ClassId) (x1 : Int32) (x2 : Int32) (G1 : Int32) (h0 : Heap) (n0 : Nat) (X00 : Old Z n0 h0) (E_a1 : Exa Z h0 a1 ST) (F_v : Fld Z h0 a1 ST "value" "[B" .null) (F_k : Fld Z h0 a1 ST "coder" "B" uk) (g_a1 : n0 ≤ a1) (O2 : pO2 Z G1) (P5 : ¬ (G1 = (0 : Int32))) (SA : pSA Z) (SH : pSH Z) (SL : pSL Z) (V_a : Arv Z h0 a2 ka .char (2 : Int32) [(.int x1), (.int x2)] (.int (0 : Int32))) (hb0 : ChB x1) (hb1 : ChB x2) (ne : a2 ≠ a1) :
    MetFree l mn_7 (head1 (Jvm.Cond.code mn_7 jdk_42_method_3_code 2 none :: ws) ro_15) (fun a U => a = #[(.ref a1), (.ref a2)] ∧ Z.Warmed39 U.vm ∧ U.heap = h0) (fun _ _ _ _ _ => True) (fun _ U o U' => ∃ rv rL, o = .returned rv ∧ QNew Z a1 [x1, x2] h0 n0 rv U'.heap rL ∧ FrameEnd U o U' rL ro_15.cells ro_15.slots) := by
  refine MetFree.of_bodySF (plainFor_of_name pn_4) hisR ?_
  intro p e s m args below meth c s₁ Bd hml0 hP hK
  obtain ⟨rfl, hZ, hh⟩ := hP
  have hx := Bd.exec
  have hby := Bd.bytes
  have hml : c.maxLocals = 2 := hml0
  have hown : s.vm.findClass "java/lang/String" = some m.cls := findClass_of_methodNamed Bd.named
  have hnm := (name_of_methodNamed Bd.named Bd.method).1
  have X0 : Stand p l e ro_15 s m #[(.ref a1), (.ref a2)] below meth c s₁ [] 0 0 := Stand.of_body Bd
  have e0 : s₁.heap = h0 := by rw [← hh, Bd.state]; rfl
  have N0 := Fr.nil n0
  have pre0 : ∀ t, Steps p.tables e below (s₁.setTop (mkF m 0 #[.val (.ref a1), .val (.ref a2)] [])) t → Steps p.tables e below (s₁.setTop (entryFrame m #[(.ref a1), (.ref a2)] 2)) t := fun t k => castTop (ef_4 m a1 a2) k
  obtain ⟨cl101, Ar101, q101, S101, M101, H101, G101⟩ := id V_a
  obtain ⟨_, _, ⟨T102, L102, k102, n102⟩, -, X102, ⟨Lc102, hQ102, l102, y102, z102⟩, st102⟩ := X0.specialBack hx (y := mn_8) rfl hown (mvT hZ (tw hw 17 rfl)) (mvT hZ (tw hw 18 rfl)) (mvT hZ (tw hw 20 rfl)) (by decide) (backOf (W := 0) (rmSv_2 l Z a0 hw [] a1 a2 (uk) ka x1 x2 G1 h0 n0 X00 E_a1 F_v F_k g_a1 O2 P5 SA SH SL V_a hb0 hb1 ne) hZ (tw hw 20 rfl) (tw hw 12 rfl) (by decide) (by decide)) (g := (mkF m 6 #[vr a1, vr a2] [.null, wi 2, wi 0, wr a2, wr a1])) rfl (by rw [hml]; rfl) (Steps.refl _) (a := a1) (argsL := [wr a2, wi 0, wi 2, .null]) (rest := []) (lenOf pd_ACIILjava_lang_Void__V rfl) rfl (Nat.le_refl _) (hb hby d4_6) (fun _ _ => ⟨rfl, e0, (by decide : 0 + 2 ≤ _), (by decide : 0 + 6 ≤ _)⟩)
  dsimp only [Pt.U, Pt.locs, Pt.cells, Pt.slots] at X102 l102 y102 z102 st102 hQ102
  subst l102 y102 z102
  obtain ⟨rfl, N102q, Kc102, uS102⟩ := hQ102
  have N102 := Fr.app N0 N102q
  have y103 := ((Keep.refl h0 [a1]).trans Kc102 (allS (Or.inl (List.mem_of_getElem? (i := 0) rfl)) all0))
  obtain ⟨fs, hr, hrun, hended, hW, hsame⟩ := X102.leave (v := none) (fun _ => rfl)
  refine ⟨_, _, pre0 _ ?_, hrun, hended, _, _, rfl, ?_, ⟨_, rfl⟩, hW, hsame.mono (by decide) (by decide)⟩
  · show Go p e below s₁ (mkF m 0 #[vr a1, vr a2] []) _
    refine XS.aloadN X0.here hx rfl (hb hby d4_0) rfl rfl ?_
    show Go p e below s₁ (mkF m 1 #[vr a1, vr a2] [wr a1]) _
    refine XS.aloadN X0.here hx rfl (hb hby d4_1) rfl rfl ?_
    show Go p e below s₁ (mkF m 2 #[vr a1, vr a2] [wr a2, wr a1]) _
    refine XS.iconst X0.here hx rfl (hb hby d4_2) ?_
    show Go p e below s₁ (mkF m 3 #[vr a1, vr a2] [wi 0, wr a2, wr a1]) _
    refine XS.aloadN X0.here hx rfl (hb hby d4_3) rfl rfl ?_
    show Go p e below s₁ (mkF m 4 #[vr a1, vr a2] [wr a2, wi 0, wr a2, wr a1]) _
    refine X0.arraylength hx (by rw [e0]; exact Ar101.1) (State.isArrayOf_alike hZ.alike Ar101.2.1) (g := (mkF m 4 #[vr a1, vr a2] [wr a2, wi 0, wr a2, wr a1])) rfl rfl (hb hby d4_4) _ ?_
    rw [len_of S101 M101]
    show Go p e below s₁ (mkF m 5 #[vr a1, vr a2] [wi 2, wi 0, wr a2, wr a1]) _
    refine XS.aconstNull X0.here hx rfl (hb hby d4_5) ?_
    show Go p e below s₁ (mkF m 6 #[vr a1, vr a2] [.null, wi 2, wi 0, wr a2, wr a1]) _
    refine st102.trans ?_
    show Go p e below T102 (mkF m 9 #[vr a1, vr a2] []) _
    exact X102.returnOut hx Bd.returns (hb hby d4_9) hr
  · show QNew Z a1 [x1, x2] h0 n0 _ T102.heap _
    exact ⟨rfl, N102, y103, uS102⟩
set_option maxRecDepth 65536 in
set_option maxHeartbeats 40000000 in
theorem rmSc_3 (l : Launch) (Z : State) (a0 : Array Value) (hw : ∀ d ∈ tables_1, d.before a0 Z = true) (ws : List Jvm.Cond) (a1 : Addr) (a2 : Addr) (uk : Value) (ka : ClassId) (x1 : Int32) (x2 : Int32) (x3 : Int32) (G1 : Int32) (h0 : Heap) (n0 : Nat) (X00 : Old Z n0 h0) (E_a1 : Exa Z h0 a1 ST) (F_v : Fld Z h0 a1 ST "value" "[B" .null) (F_k : Fld Z h0 a1 ST "coder" "B" uk) (g_a1 : n0 ≤ a1) (O2 : pO2 Z G1) (P5 : ¬ (G1 = (0 : Int32))) (SA : pSA Z) (SH : pSH Z) (SL : pSL Z) (V_a : Arv Z h0 a2 ka .char (3 : Int32) [(.int x1), (.int x2), (.int x3)] (.int (0 : Int32))) (hb0 : ChB x1) (hb1 : ChB x2) (hb2 : ChB x3) (ne : a2 ≠ a1) :
    MetFree l mn_7 (head1 (Jvm.Cond.code mn_7 jdk_42_method_3_code 2 none :: ws) ro_16) (fun a U => a = #[(.ref a1), (.ref a2)] ∧ Z.Warmed39 U.vm ∧ U.heap = h0) (fun _ _ _ _ _ => True) (fun _ U o U' => ∃ rv rL, o = .returned rv ∧ QNew Z a1 [x1, x2, x3] h0 n0 rv U'.heap rL ∧ FrameEnd U o U' rL ro_16.cells ro_16.slots) := by
  refine MetFree.of_bodySF (plainFor_of_name pn_4) hisR ?_
  intro p e s m args below meth c s₁ Bd hml0 hP hK
  obtain ⟨rfl, hZ, hh⟩ := hP
  have hx := Bd.exec
  have hby := Bd.bytes
  have hml : c.maxLocals = 2 := hml0
  have hown : s.vm.findClass "java/lang/String" = some m.cls := findClass_of_methodNamed Bd.named
  have hnm := (name_of_methodNamed Bd.named Bd.method).1
  have X0 : Stand p l e ro_16 s m #[(.ref a1), (.ref a2)] below meth c s₁ [] 0 0 := Stand.of_body Bd
  have e0 : s₁.heap = h0 := by rw [← hh, Bd.state]; rfl
  have N0 := Fr.nil n0
  have pre0 : ∀ t, Steps p.tables e below (s₁.setTop (mkF m 0 #[.val (.ref a1), .val (.ref a2)] [])) t → Steps p.tables e below (s₁.setTop (entryFrame m #[(.ref a1), (.ref a2)] 2)) t := fun t k => castTop (ef_4 m a1 a2) k
  obtain ⟨cl101, Ar101, q101, S101, M101, H101, G101⟩ := id V_a
  obtain ⟨_, _, ⟨T102, L102, k102, n102⟩, -, X102, ⟨Lc102, hQ102, l102, y102, z102⟩, st102⟩ := X0.specialBack hx (y := mn_8) rfl hown (mvT hZ (tw hw 17 rfl)) (mvT hZ (tw hw 18 rfl)) (mvT hZ (tw hw 20 rfl)) (by decide) (backOf (W := 0) (rmSv_3 l Z a0 hw [] a1 a2 (uk) ka x1 x2 x3 G1 h0 n0 X00 E_a1 F_v F_k g_a1 O2 P5 SA SH SL V_a hb0 hb1 hb2 ne) hZ (tw hw 20 rfl) (tw hw 12 rfl) (by decide) (by decide)) (g := (mkF m 6 #[vr a1, vr a2] [.null, wi 3, wi 0, wr a2, wr a1])) rfl (by rw [hml]; rfl) (Steps.refl _) (a := a1) (argsL := [wr a2, wi 0, wi 3, .null]) (rest := []) (lenOf pd_ACIILjava_lang_Void__V rfl) rfl (Nat.le_refl _) (hb hby d4_6) (fun _ _ => ⟨rfl, e0, (by decide : 0 + 2 ≤ _), (by decide : 0 + 9 ≤ _)⟩)
  dsimp only [Pt.U, Pt.locs, Pt.cells, Pt.slots] at X102 l102 y102 z102 st102 hQ102
  subst l102 y102 z102
  obtain ⟨rfl, N102q, Kc102, uS102⟩ := hQ102
  have N102 := Fr.app N0 N102q
  have y103 := ((Keep.refl h0 [a1]).trans Kc102 (allS (Or.inl (List.mem_of_getElem? (i := 0) rfl)) all0))
  obtain ⟨fs, hr, hrun, hended, hW, hsame⟩ := X102.leave (v := none) (fun _ => rfl)
  refine ⟨_, _, pre0 _ ?_, hrun, hended, _, _, rfl, ?_, ⟨_, rfl⟩, hW, hsame.mono (by decide) (by decide)⟩
  · show Go p e below s₁ (mkF m 0 #[vr a1, vr a2] []) _
    refine XS.aloadN X0.here hx rfl (hb hby d4_0) rfl rfl ?_
    show Go p e below s₁ (mkF m 1 #[vr a1, vr a2] [wr a1]) _
    refine XS.aloadN X0.here hx rfl (hb hby d4_1) rfl rfl ?_
    show Go p e below s₁ (mkF m 2 #[vr a1, vr a2] [wr a2, wr a1]) _
    refine XS.iconst X0.here hx rfl (hb hby d4_2) ?_
    show Go p e below s₁ (mkF m 3 #[vr a1, vr a2] [wi 0, wr a2, wr a1]) _
    refine XS.aloadN X0.here hx rfl (hb hby d4_3) rfl rfl ?_
    show Go p e below s₁ (mkF m 4 #[vr a1, vr a2] [wr a2, wi 0, wr a2, wr a1]) _
    refine X0.arraylength hx (by rw [e0]; exact Ar101.1) (State.isArrayOf_alike hZ.alike Ar101.2.1) (g := (mkF m 4 #[vr a1, vr a2] [wr a2, wi 0, wr a2, wr a1])) rfl rfl (hb hby d4_4) _ ?_
    rw [len_of S101 M101]
    show Go p e below s₁ (mkF m 5 #[vr a1, vr a2] [wi 3, wi 0, wr a2, wr a1]) _
    refine XS.aconstNull X0.here hx rfl (hb hby d4_5) ?_
    show Go p e below s₁ (mkF m 6 #[vr a1, vr a2] [.null, wi 3, wi 0, wr a2, wr a1]) _
    refine st102.trans ?_
    show Go p e below T102 (mkF m 9 #[vr a1, vr a2] []) _
    exact X102.returnOut hx Bd.returns (hb hby d4_9) hr
  · show QNew Z a1 [x1, x2, x3] h0 n0 _ T102.heap _
    exact ⟨rfl, N102, y103, uS102⟩
set_option maxRecDepth 65536 in
set_option maxHeartbeats 40000000 in
theorem rmS0b (l : Launch) (Z : State) (a0 : Array Value) (hw : ∀ d ∈ tables_1, d.before a0 Z = true) (ws : List Jvm.Cond) (a1 : Addr) (a2 : Addr) (uk : Value) (h0 : Heap) (n0 : Nat) (X00 : Old Z n0 h0) (E_a1 : Exa Z h0 a1 ST) (F_v : Fld Z h0 a1 ST "value" "[B" .null) (F_k : Fld Z h0 a1 ST "coder" "B" uk) (g_a1 : n0 ≤ a1) :
    MetFree l mn_8 (head1 (Jvm.Cond.code mn_8 jdk_42_method_149_code 6 none :: ws) ro_17) (fun a U => a = #[(.ref a1), (.ref a2), (.int (0 : Int32)), (.int (0 : Int32)), .null] ∧ Z.Warmed39 U.vm ∧ U.heap = h0 ∧ CHv Z consts_1 U.vm h0) (fun _ _ _ _ _ => True) (fun _ U o U' => ∃ rv rL, o = .returned rv ∧ QNew Z a1 [] h0 n0 rv U'.heap rL ∧ CHr Z consts_1 U.vm U.heap U'.vm U'.heap ∧ ReturnedEndW U o U' rL ro_17.cells ro_17.slots) := by
  refine MetFree.of_bodySF (plainFor_of_name pn_5) hisR ?_
  intro p e s m args below meth c s₁ Bd hml0 hP hK
  obtain ⟨rfl, hZ, hh, hCH⟩ := hP
  have hx := Bd.exec
  have hby := Bd.bytes
  have hml : c.maxLocals = 6 := hml0
  have hown : s.vm.findClass "java/lang/String" = some m.cls := findClass_of_methodNamed Bd.named
  have hnm := (name_of_methodNamed Bd.named Bd.method).1
  have X0 : Stand p l e ro_17 (s.setVm s.vm) m #[(.ref a1), (.ref a2), (.int (0 : Int32)), (.int (0 : Int32)), .null] below meth c s₁ [] 0 0 := Stand.of_body Bd
  have e0 : s₁.heap = h0 := by rw [← hh, Bd.state]; rfl
  have N0 := Fr.nil n0
  have hS0 : s.Since s.vm s.heap.size := own_since s
  have hk0 : s.heap.size ≤ h0.size := by rw [hh]; exact Nat.le_refl _
  have hstr := own_str hw
  have hEL := own_EL hw
  have pre0 : ∀ t, Steps p.tables e below (s₁.setTop (mkF m 0 #[.val (.ref a1), .val (.ref a2), .val (.int (0 : Int32)), .val (.int (0 : Int32)), .val .null, .unset] [])) t → Steps p.tables e below (s₁.setTop (entryFrame m #[(.ref a1), (.ref a2), (.int (0 : Int32)), (.int (0 : Int32)), .null] 6)) t := fun t k => castTop (ef_5vvvvn m a1 a2 (0 : Int32) (0 : Int32)) k
  have sf0 : Safe Z consts_1 s.vm h0 a1 := own_safeNull hZ.alike E_a1 F_v
  obtain ⟨T101, X101, e101, st101⟩ := initO X0 hx hZ hown (tw hw 21 rfl) (tw hw 22 rfl) (tw hw 23 rfl) e0 (g := (mkF m 1 #[vr a1, vr a2, vi 0, vi 0, .val .null, .unset] [wr a1])) rfl (by rw [hml]; rfl) rfl (hb hby d5_1) (by decide) (W := 0) (by show 2 * 0 + _ ≤ _; exact Nat.le_of_eq rfl) (by decide)
  have lz102_a1 := E_a1.lt
  obtain ⟨a102, T102, h102, k102, c102, kc102, X102, e102, E102, hS102, hk102, hZ102, hown102, A102, Fc102, Fv102, V102, la102, lc102, R102, -, ns102, st102⟩ := ldcCH (z := (0 : Int32)) (vs := []) X101 hx hZ hown (tw hw 40 rfl) hstr e101 hS0 hk0 hEL (by decide) hCH ⟨by decide, by decide⟩ (by decide) (by decide) (g := (mkF m 9 #[vr a1, vr a2, vi 0, vi 0, .val .null, .unset] [wr a1])) rfl (hb hby d5_9) (n := 0) (by decide) (by decide) (by decide) (by decide)
  have sf103_a1 := R102.safe lz102_a1 sf0
  have cr103 := (CHr.refl hCH).trans R102
  have ch103 := R102.1
  obtain ⟨T104, X104, e104, st104⟩ := getF X102 hx hZ102 hown102 (host := "") (Or.inl (tw hw 38 rfl)) Via.refl e102 Fv102 (g := (mkF m 11 #[vr a1, vr a2, vi 0, vi 0, .val .null, .unset] [wr a102, wr a1])) rfl rfl (hb hby d5_11)
  have y105 := (F_v.ext E102)
  have y106 := (E_a1.ext E102)
  obtain ⟨T107, h107, X107, e107, W107, st107⟩ := putF X104 hx hZ102 hown102 (host := "") (Or.inl (tw hw 38 rfl)) Via.refl e104 y105 y106 (Or.inr ⟨(tw hw 39 rfl), rfl, hnm⟩) (tw hw 11 rfl) (ty := (.array .byte)) (by decide) rfl rfl (g := (mkF m 14 #[vr a1, vr a2, vi 0, vi 0, .val .null, .unset] [wr c102, wr a1])) rfl rfl (hb hby d5_14)
  have Fw107 := y105.same W107
  have sf108_a1 := Safe.wr W107 sf103_a1 ch103 sf103_a1
  have cr108 := cr103.trans (CHr.wr W107 sf103_a1 ch103)
  have ch108 := CHv.wr W107 sf103_a1 ch103
  have N107 := Fr.snoc X107 N0 g_a1
  have y110 := (y106.wr W107)
  have lz109_a1 := y110.lt
  have y111 := (A102.wr W107)
  have lz109_a102 := y111.lt
  have y112 := (V102.other W107 (Ne.symm (ns102 _ sf103_a1).2))
  have lz109_c102 := y112.lt
  have y113 := (Nat.le_trans hk102 (Keep.of_wr W107).1)
  obtain ⟨a109, T109, h109, k109, c109, kc109, X109, e109, E109, hS109, hk109, hZ109, hown109, A109, Fc109, Fv109, V109, la109, lc109, R109, -, ns109, st109⟩ := ldcCH (z := (0 : Int32)) (vs := []) X107 hx hZ102 hown102 (tw hw 40 rfl) hstr e107 hS102 y113 hEL (by decide) ch108 ⟨by decide, by decide⟩ (by decide) (by decide) (g := (mkF m 18 #[vr a1, vr a2, vi 0, vi 0, .val .null, .unset] [wr a1])) rfl (hb hby d5_18) (n := 0) (by decide) (by decide) (by decide) (by decide)
  have sf114_a1 := R109.safe lz109_a1 sf108_a1
  have cr114 := cr108.trans R109
  have ch114 := R109.1
  obtain ⟨T115, X115, e115, st115⟩ := getF X109 hx hZ109 hown109 (host := "") (Or.inl (tw hw 36 rfl)) Via.refl e109 Fc109 (g := (mkF m 20 #[vr a1, vr a2, vi 0, vi 0, .val .null, .unset] [wr a109, wr a1])) rfl rfl (hb hby d5_20)
  have y116 := (((F_k.ext E102).other W107 (Or.inr (slot_ne (Or.inr (tw hw 37 rfl)) (Or.inr (tw hw 39 rfl)) (by decide) (t := .byte) (t' := (.array .byte)) (by decide) (by decide)))).ext E109)
  have y117 := (y110.ext E109)
  obtain ⟨T118, h118, X118, e118, W118, st118⟩ := putFN X115 hx hZ109 hown109 (tw hw 36 rfl) Via.refl e115 y116 y117 (Or.inr ⟨(tw hw 37 rfl), rfl, hnm⟩) (tw hw 11 rfl) (ty := .byte) (v' := (.int (0 : Int32))) (by decide) (by decide) (by decide) (g := (mkF m 23 #[vr a1, vr a2, vi 0, vi 0, .val .null, .unset] [wi 0, wr a1])) rfl rfl (hb hby d5_23)
  have Fw118 := y116.same W118
  have sf119_a1 := Safe.wr W118 sf114_a1 ch114 sf114_a1
  have cr119 := cr114.trans (CHr.wr W118 sf114_a1 ch114)
  have ch119 := CHv.wr W118 sf114_a1 ch114
  have N118 := Fr.snoc X118 N107 g_a1
  have y120 := (((((Keep.refl h0 [a1]).ext E102).wr W107 (Or.inl (List.mem_of_getElem? (i := 0) rfl))).ext E109).wr W118 (Or.inl (List.mem_of_getElem? (i := 0) rfl)))
  have y121 := (y117.wr W118)
  have y122 := ((Fw107.ext E109).other W118 (Or.inr (slot_ne (Or.inr (tw hw 39 rfl)) (Or.inr (tw hw 37 rfl)) (by decide) (t := (.array .byte)) (t' := .byte) (by decide) (by decide))))
  have y123 := ((y112.ext E109).other W118 (Ne.symm (ns102 _ sf103_a1).2))
  have y124 := (Nat.le_trans hk109 (Keep.of_wr W118).1)
  obtain ⟨fs, hr, hrun, hended, hRW⟩ := X118.leaveW hS109 (by rw [e118]; exact y124) (v := none) (fun _ => rfl)
  have crE : CHr Z consts_1 s.vm s.heap T118.vm T118.heap := own_chr hh e118 (cr119.trans (CHv.at X118 hZ109 hEL ch119))
  refine ⟨_, _, pre0 _ ?_, hrun, hended, _, _, rfl, ?_, crE, hRW.1, hRW.2.1, hRW.2.2.1, hRW.2.2.2.mono (by decide) (by decide)⟩
  · show Go p e below s₁ (mkF m 0 #[vr a1, vr a2, vi 0, vi 0, .val .null, .unset] []) _
    refine XS.aloadN X0.here hx rfl (hb hby d5_0) rfl rfl ?_
    show Go p e below s₁ (mkF m 1 #[vr a1, vr a2, vi 0, vi 0, .val .null, .unset] [wr a1]) _
    refine st101 _ ?_
    show Go p e below T101 (mkF m 4 #[vr a1, vr a2, vi 0, vi 0, .val .null, .unset] []) _
    refine XS.iloadN X101.here hx rfl (hb hby d5_4) rfl ?_
    show Go p e below T101 (mkF m 5 #[vr a1, vr a2, vi 0, vi 0, .val .null, .unset] [wi 0]) _
    refine XS.ifNo X101.here hx rfl (hb hby d5_5) rfl ((if0 _ _).trans (teq (rfl : (0 : Int32) = (0 : Int32))).2) ?_
    show Go p e below T101 (mkF m 8 #[vr a1, vr a2, vi 0, vi 0, .val .null, .unset] []) _
    refine XS.aloadN X101.here hx rfl (hb hby d5_8) rfl rfl ?_
    show Go p e below T101 (mkF m 9 #[vr a1, vr a2, vi 0, vi 0, .val .null, .unset] [wr a1]) _
    refine st102 _ ?_
    show Go p e below T102 (mkF m 11 #[vr a1, vr a2, vi 0, vi 0, .val .null, .unset] [wr a102, wr a1]) _
    refine st104 _ ?_
    show Go p e below T104 (mkF m 14 #[vr a1, vr a2, vi 0, vi 0, .val .null, .unset] [wr c102, wr a1]) _
    refine st107 _ ?_
    show Go p e below T107 (mkF m 17 #[vr a1, vr a2, vi 0, vi 0, .val .null, .unset] []) _
    refine XS.aloadN X107.here hx rfl (hb hby d5_17) rfl rfl ?_
    show Go p e below T107 (mkF m 18 #[vr a1, vr a2, vi 0, vi 0, .val .null, .unset] [wr a1]) _
    refine st109 _ ?_
    show Go p e below T109 (mkF m 20 #[vr a1, vr a2, vi 0, vi 0, .val .null, .unset] [wr a109, wr a1]) _
    refine st115 _ ?_
    show Go p e below T115 (mkF m 23 #[vr a1, vr a2, vi 0, vi 0, .val .null, .unset] [wi 0, wr a1]) _
    refine st118 _ ?_
    show Go p e below T118 (mkF m 26 #[vr a1, vr a2, vi 0, vi 0, .val .null, .unset] []) _
    exact X118.returnOut hx Bd.returns (hb hby d5_26) hr
  · show QNew Z a1 [] h0 n0 _ T118.heap _
    rw [e118]
    exact ⟨rfl, N118, y120, c102, kc102, (0 : Int32), (0 : Int32), [], ⟨y121, y122, Fw118, y123⟩, Or.inl ⟨rfl, rfl, rfl, own_all0⟩⟩
set_option maxRecDepth 65536 in
set_option maxHeartbeats 40000000 in
theorem rmS0 (l : Launch) (Z : State) (a0 : Array Value) (hw : ∀ d ∈ tables_1, d.before a0 Z = true) (ws : List Jvm.Cond) (a1 : Addr) (a2 : Addr) (ka : ClassId) (uk : Value) (h0 : Heap) (n0 : Nat) (X00 : Old Z n0 h0) (E_a1 : Exa Z h0 a1 ST) (F_v : Fld Z h0 a1 ST "value" "[B" .null) (F_k : Fld Z h0 a1 ST "coder" "B" uk) (g_a1 : n0 ≤ a1) (V_2 : Arv Z h0 a2 ka .char (0 : Int32) [] (.int (0 : Int32))) :
    MetFree l mn_7 (head1 (Jvm.Cond.code mn_7 jdk_42_method_3_code 2 none :: ws) ro_18) (fun a U => a = #[(.ref a1), (.ref a2)] ∧ Z.Warmed39 U.vm ∧ U.heap = h0 ∧ CHv Z consts_1 U.vm h0) (fun _ _ _ _ _ => True) (fun _ U o U' => ∃ rv rL, o = .returned rv ∧ QNew Z a1 [] h0 n0 rv U'.heap rL ∧ CHr Z consts_1 U.vm U.heap U'.vm U'.heap ∧ ReturnedEndW U o U' rL ro_18.cells ro_18.slots) := by
  refine MetFree.of_bodySF (plainFor_of_name pn_4) hisR ?_
  intro p e s m args below meth c s₁ Bd hml0 hP hK
  obtain ⟨rfl, hZ, hh, hCH⟩ := hP
  have hx := Bd.exec
  have hby := Bd.bytes
  have hml : c.maxLocals = 2 := hml0
  have hown : s.vm.findClass "java/lang/String" = some m.cls := findClass_of_methodNamed Bd.named
  have hnm := (name_of_methodNamed Bd.named Bd.method).1
  have X0 : Stand p l e ro_18 (s.setVm s.vm) m #[(.ref a1), (.ref a2)] below meth c s₁ [] 0 0 := Stand.of_body Bd
  have e0 : s₁.heap = h0 := by rw [← hh, Bd.state]; rfl
  have N0 := Fr.nil n0
  have hS0 : s.Since s.vm s.heap.size := own_since s
  have hk0 : s.heap.size ≤ h0.size := by rw [hh]; exact Nat.le_refl _
  have hstr := own_str hw
  have hEL := own_EL hw
  have pre0 : ∀ t, Steps p.tables e below (s₁.setTop (mkF m 0 #[.val (.ref a1), .val (.ref a2)] [])) t → Steps p.tables e below (s₁.setTop (entryFrame m #[(.ref a1), (.ref a2)] 2)) t := fun t k => castTop (ef_4 m a1 a2) k
  obtain ⟨cl101, Ar101, q101, S101, M101, H101, G101⟩ := id V_2
  have lz102_a1 := E_a1.lt
  have lz102_a2 := V_2.lt
  obtain ⟨_, _, ⟨T102, L102, k102, n102⟩, -, X102, hs102, hg102, ⟨Lc102, hQ102, l102, y102, z102, R102⟩, st102⟩ := X0.specialBackS hx (y := mn_8) rfl hown (mvT hZ (tw hw 17 rfl)) (mvT hZ (tw hw 18 rfl)) (mvT hZ (tw hw 20 rfl)) (by decide) (backOfSH (W := 0) (rmS0b l Z a0 hw [] a1 a2 (uk) h0 n0 X00 E_a1 F_v F_k g_a1) hZ (tw hw 20 rfl) (tw hw 12 rfl) (by decide) (by decide) hEL hCH) (g := (mkF m 6 #[vr a1, vr a2] [.null, wi 0, wi 0, wr a2, wr a1])) rfl (by rw [hml]; rfl) (Steps.refl _) (a := a1) (argsL := [wr a2, wi 0, wi 0, .null]) (rest := []) (lenOf pd_ACIILjava_lang_Void__V rfl) rfl (Nat.le_refl _) (hb hby d4_6) (fun _ _ => ⟨rfl, e0, (by decide : 0 + 4 ≤ _), (by decide : 0 + 8 ≤ _)⟩)
  dsimp only [Pt.U, Pt.locs, Pt.cells, Pt.slots] at X102 l102 y102 z102 st102 hQ102 hs102 hg102 R102
  subst l102 y102 z102
  obtain ⟨rfl, N102q, Kc102, uS102⟩ := hQ102
  have N102 := Fr.app N0 N102q
  obtain ⟨X102r, hS102, hZ102, hown102⟩ := rebS hS0 (by rw [e0]; exact hk0) X102 hs102 hg102 hZ hown
  have cr103 := (CHr.refl hCH).trans R102
  have ch103 := R102.1
  have y104 := ((Keep.refl h0 [a1]).trans Kc102 (allS (Or.inl (List.mem_of_getElem? (i := 0) rfl)) all0))
  obtain ⟨fs, hr, hrun, hended, hRW⟩ := X102r.leaveW hS102 (Nat.le_refl _) (v := none) (fun _ => rfl)
  have crE : CHr Z consts_1 s.vm s.heap T102.vm T102.heap := own_chr hh rfl (cr103.trans (CHv.at X102r hZ102 hEL ch103))
  refine ⟨_, _, pre0 _ ?_, hrun, hended, _, _, rfl, ?_, crE, hRW.1, hRW.2.1, hRW.2.2.1, hRW.2.2.2.mono (by decide) (by decide)⟩
  · show Go p e below s₁ (mkF m 0 #[vr a1, vr a2] []) _
    refine XS.aloadN X0.here hx rfl (hb hby d4_0) rfl rfl ?_
    show Go p e below s₁ (mkF m 1 #[vr a1, vr a2] [wr a1]) _
    refine XS.aloadN X0.here hx rfl (hb hby d4_1) rfl rfl ?_
    show Go p e below s₁ (mkF m 2 #[vr a1, vr a2] [wr a2, wr a1]) _
    refine XS.iconst X0.here hx rfl (hb hby d4_2) ?_
    show Go p e below s₁ (mkF m 3 #[vr a1, vr a2] [wi 0, wr a2, wr a1]) _
    refine XS.aloadN X0.here hx rfl (hb hby d4_3) rfl rfl ?_
    show Go p e below s₁ (mkF m 4 #[vr a1, vr a2] [wr a2, wi 0, wr a2, wr a1]) _
    refine X0.arraylength hx (by rw [e0]; exact Ar101.1) (State.isArrayOf_alike hZ.alike Ar101.2.1) (g := (mkF m 4 #[vr a1, vr a2] [wr a2, wi 0, wr a2, wr a1])) rfl rfl (hb hby d4_4) _ ?_
    rw [len_of S101 M101]
    show Go p e below s₁ (mkF m 5 #[vr a1, vr a2] [wi 0, wi 0, wr a2, wr a1]) _
    refine XS.aconstNull X0.here hx rfl (hb hby d4_5) ?_
    show Go p e below s₁ (mkF m 6 #[vr a1, vr a2] [.null, wi 0, wi 0, wr a2, wr a1]) _
    refine st102.trans ?_
    show Go p e below T102 (mkF m 9 #[vr a1, vr a2] []) _
    exact X102r.returnOut hx Bd.returns (hb hby d4_9) hr
  · show QNew Z a1 [] h0 n0 _ T102.heap _
    exact ⟨rfl, N102, y104, uS102⟩
set_option maxRecDepth 65536 in
set_option maxHeartbeats 40000000 in
theorem rmMk_0 (l : Launch) (Z : State) (a0 : Array Value) (hw : ∀ d ∈ tables_1, d.before a0 Z = true) (ws : List Jvm.Cond) (p2 : Int32) (p3 : Int32) (p4 : Int32) (G1 : Int32) (h0 : Heap) (n0 : Nat) (X00 : Old Z n0 h0) (O2 : pO2 Z G1) (P5 : ¬ (G1 = (0 : Int32))) (SA : pSA Z) (SH : pSH Z) (SL : pSL Z) (hb1 : ChB p2) (hb2 : ChB p3) (hb3 : ChB p4) :
    MetFree l mn_4 (head1 (Jvm.Cond.code mn_4 method_6_code 4 (some (.object "java/lang/String")) :: ws) ro_19) (fun a U => a = #[(.int (0 : Int32)), (.int p2), (.int p3), (.int p4)] ∧ Z.Warmed39 U.vm ∧ U.heap = h0 ∧ CHv Z consts_1 U.vm h0) (fun _ _ _ _ _ => True) (fun _ U o U' => ∃ rv rL, o = .returned rv ∧ QMk Z [] h0 n0 rv U'.heap rL ∧ CHr Z consts_1 U.vm U.heap U'.vm U'.heap ∧ ReturnedEndW U o U' rL ro_19.cells ro_19.slots) := by
  refine MetFree.of_bodySF (plainFor_of_name pn_3) hisR ?_
  intro p e s m args below meth c s₁ Bd hml0 hP hK
  obtain ⟨rfl, hZ, hh, hCH⟩ := hP
  have hx := Bd.exec
  have hby := Bd.bytes
  have hml : c.maxLocals = 4 := hml0
  have hown : s.vm.findClass "com/example/webhook_guard/webhookguard/http/HeaderFieldEqualsIgnoringAsciiCasePinLaw" = some m.cls := findClass_of_methodNamed Bd.named
  have hnm := (name_of_methodNamed Bd.named Bd.method).1
  have X0 : Stand p l e ro_19 (s.setVm s.vm) m #[(.int (0 : Int32)), (.int p2), (.int p3), (.int p4)] below meth c s₁ [] 0 0 := Stand.of_body Bd
  have e0 : s₁.heap = h0 := by rw [← hh, Bd.state]; rfl
  have N0 := Fr.nil n0
  have hS0 : s.Since s.vm s.heap.size := own_since s
  have hk0 : s.heap.size ≤ h0.size := by rw [hh]; exact Nat.le_refl _
  have hstr := own_str hw
  have hEL := own_EL hw
  have pre0 : ∀ t, Steps p.tables e below (s₁.setTop (mkF m 0 #[.val (.int (0 : Int32)), .val (.int p2), .val (.int p3), .val (.int p4)] [])) t → Steps p.tables e below (s₁.setTop (entryFrame m #[(.int (0 : Int32)), (.int p2), (.int p3), (.int p4)] 4)) t := fun t k => castTop (ef_3 m (0 : Int32) p2 p3 p4) k
  obtain ⟨T101, h101, X101, e101, E101, A101, D101, U101, st101⟩ := newO X0 hx hZ hown (tw hw 10 rfl) (tw hw 11 rfl) (tw hw 12 rfl) e0 (g := (mkF m 4 #[vi 0, vi p2, vi p3, vi p4] [])) rfl (hb hby d3_4) (by decide) (by decide)
  obtain ⟨b101, g101⟩ : ∃ z, z = h0.size := ⟨_, rfl⟩
  rw [← g101] at A101 D101 U101 st101
  have g_b101 : n0 ≤ b101 := Nat.le_trans (own_le X00) (Nat.le_of_eq g101.symm)
  have sn101 : Safe Z consts_1 s.vm h0 b101 := Safe.new (Nat.le_of_eq g101.symm)
  have sz_b101 : h0.size ≤ b101 := Nat.le_trans (Keep.refl h0 []).1 (Nat.le_of_eq g101.symm)
  have sf102_b101 := Safe.ext E101 hCH sn101
  have cr102 := (CHr.refl hCH).trans (CHr.ext E101 hCH)
  have ch102 := CHv.ext E101 hCH
  have F101_coder : Fld Z h101 b101 "java/lang/String" "coder" "B" (.int (0 : Int32)) := D101 (Or.inr (tw hw 37 rfl)) (ty := .byte) (by decide)
  have F101_value : Fld Z h101 b101 "java/lang/String" "value" "[B" .null := D101 (Or.inr (tw hw 39 rfl)) (ty := (.array .byte)) (by decide)
  have lz103_b101 := A101.lt
  obtain ⟨T103, h103, k103, X103, e103, E103, A103, st103⟩ := newP X101 hx hZ (tw hw 13 rfl) e101 (g := (mkF m 9 #[vi 0, vi p2, vi p3, vi p4] [wi 0, wr b101, wr b101])) rfl (hb hby d3_9) rfl (by decide) (cap := 0) (by decide) (by decide) (by decide) (by decide)
  obtain ⟨b103, g103⟩ : ∃ z, z = h101.size := ⟨_, rfl⟩
  rw [← g103] at A103 st103
  have y104 := (X00.ext E101)
  have g_b103 : n0 ≤ b103 := Nat.le_trans (own_le y104) (Nat.le_of_eq g103.symm)
  have lt_b101_b103 : b101 < b103 := Nat.lt_of_lt_of_le lz103_b101 (Nat.le_of_eq g103.symm)
  have sn103 : Safe Z consts_1 s.vm h101 b103 := Safe.new (Nat.le_of_eq g103.symm)
  have y105 := ((Keep.refl h0 []).ext E101)
  have sz_b103 : h0.size ≤ b103 := Nat.le_trans y105.1 (Nat.le_of_eq g103.symm)
  have V103 : Arv Z h103 b103 k103 .char (0 : Int32) [] (.int (0 : Int32)) := Arv.new A103 (by decide)
  have sf106_b101 := Safe.ext E103 ch102 sf102_b101
  have sf106_b103 := Safe.ext E103 ch102 sn103
  have cr106 := cr102.trans (CHr.ext E103 ch102)
  have ch106 := CHv.ext E103 ch102
  have y107 := (A101.ext E103)
  have y108 := (F101_value.ext E103)
  have y109 := (F101_coder.ext E103)
  have y110 := (y105.ext E103)
  have y111 := (y104.ext E103)
  have lz112_b101 := y107.lt
  have lz112_b103 := V103.lt
  obtain ⟨_, _, ⟨T112, L112, k112, n112⟩, -, X112, hs112, hg112, ⟨Lc112, hQ112, l112, y112, z112, R112⟩, st112⟩ := X103.specialBackS hx (y := mn_7) rfl hown (mvT hZ (tw hw 14 rfl)) (mvT hZ (tw hw 15 rfl)) (mvT hZ (tw hw 16 rfl)) (by decide) (backOfSH (W := 1) (rmS0 l Z a0 hw [] b101 b103 k103 ((.int (0 : Int32))) h103 n0 y111 y107 y108 y109 g_b101 V103) hZ (tw hw 16 rfl) (tw hw 12 rfl) (by decide) (by decide) hEL ch106) (g := (mkF m 11 #[vi 0, vi p2, vi p3, vi p4] [wr b103, wr b101, wr b101])) rfl (by rw [hml]; rfl) (Steps.refl _) (a := b101) (argsL := [wr b103]) (rest := [wr b101]) (lenOf pd_AC_V rfl) rfl (Nat.le_refl _) (hb hby d3_11) (fun _ _ => ⟨rfl, e103, (by decide : 2 + 4 ≤ _), (by decide : 4 + 8 ≤ _)⟩)
  dsimp only [Pt.U, Pt.locs, Pt.cells, Pt.slots] at X112 l112 y112 z112 st112 hQ112 hs112 hg112 R112
  subst l112 y112 z112
  obtain ⟨rfl, N112q, Kc112, uS112⟩ := hQ112
  have N112 := Fr.app N0 N112q
  have y113 := (Nat.le_trans (Nat.le_trans hk0 E101.1) E103.1)
  obtain ⟨X112r, hS112, hZ112, hown112⟩ := rebS hS0 (by rw [e103]; exact y113) X112 hs112 hg112 hZ hown
  have sf114_b101 := R112.safe lz112_b101 sf106_b101
  have sf114_b103 := R112.safe lz112_b103 sf106_b103
  have cr114 := cr106.trans R112
  have ch114 := R112.1
  have y115 := (y110.trans Kc112 (allS (Or.inr sz_b101) all0))
  obtain ⟨fs, hr, hrun, hended, hRW⟩ := X112r.leaveW hS112 (Nat.le_refl _) (v := some (.ref b101)) (fun h => by rw [Bd.returns] at h; cases h)
  have crE : CHr Z consts_1 s.vm s.heap T112.vm T112.heap := own_chr hh rfl (cr114.trans (CHv.at X112r hZ112 hEL ch114))
  refine ⟨_, _, pre0 _ ?_, hrun, hended, _, _, rfl, ?_, crE, hRW.1, hRW.2.1, hRW.2.2.1, hRW.2.2.2.mono (by decide) (by decide)⟩
  · show Go p e below s₁ (mkF m 0 #[vi 0, vi p2, vi p3, vi p4] []) _
    refine XS.iloadN X0.here hx rfl (hb hby d3_0) rfl ?_
    show Go p e below s₁ (mkF m 1 #[vi 0, vi p2, vi p3, vi p4] [wi 0]) _
    refine XS.ifNo X0.here hx rfl (hb hby d3_1) rfl ((if0 _ _).trans (teq (rfl : (0 : Int32) = (0 : Int32))).2) ?_
    show Go p e below s₁ (mkF m 4 #[vi 0, vi p2, vi p3, vi p4] []) _
    refine st101 _ ?_
    show Go p e below T101 (mkF m 7 #[vi 0, vi p2, vi p3, vi p4] [wr b101]) _
    refine XS.dup X101.here hx rfl (hb hby d3_7) rfl rfl ?_
    show Go p e below T101 (mkF m 8 #[vi 0, vi p2, vi p3, vi p4] [wr b101, wr b101]) _
    refine XS.iconst X101.here hx rfl (hb hby d3_8) ?_
    show Go p e below T101 (mkF m 9 #[vi 0, vi p2, vi p3, vi p4] [wi 0, wr b101, wr b101]) _
    refine st103 _ ?_
    show Go p e below T103 (mkF m 11 #[vi 0, vi p2, vi p3, vi p4] [wr b103, wr b101, wr b101]) _
    refine st112.trans ?_
    show Go p e below T112 (mkF m 14 #[vi 0, vi p2, vi p3, vi p4] [wr b101]) _
    jvm_step X112r.here [X112r.here.top, hx, (hb hby d3_14), X112r.method', Bd.returns, Value.isRef, FieldType.isReference]
    first | (intro acts; rw [hr _ acts rfl rfl rfl]) | rw [hr _ _ rfl rfl rfl]
    exact Steps.refl _
  · show QMk Z [] h0 n0 _ T112.heap _
    exact ⟨_, rfl, N112, y115, uS112⟩
set_option maxRecDepth 65536 in
set_option maxHeartbeats 40000000 in
theorem rmMk_1 (l : Launch) (Z : State) (a0 : Array Value) (hw : ∀ d ∈ tables_1, d.before a0 Z = true) (ws : List Jvm.Cond) (p2 : Int32) (p3 : Int32) (p4 : Int32) (G1 : Int32) (h0 : Heap) (n0 : Nat) (X00 : Old Z n0 h0) (O2 : pO2 Z G1) (P5 : ¬ (G1 = (0 : Int32))) (SA : pSA Z) (SH : pSH Z) (SL : pSL Z) (hb1 : ChB p2) (hb2 : ChB p3) (hb3 : ChB p4) :
    MetFree l mn_4 (head1 (Jvm.Cond.code mn_4 method_6_code 4 (some (.object "java/lang/String")) :: ws) ro_19) (fun a U => a = #[(.int (1 : Int32)), (.int p2), (.int p3), (.int p4)] ∧ Z.Warmed39 U.vm ∧ U.heap = h0 ∧ CHv Z consts_1 U.vm h0) (fun _ _ _ _ _ => True) (fun _ U o U' => ∃ rv rL, o = .returned rv ∧ QMk Z [p2] h0 n0 rv U'.heap rL ∧ CHr Z consts_1 U.vm U.heap U'.vm U'.heap ∧ ReturnedEndW U o U' rL ro_19.cells ro_19.slots) := by
  refine MetFree.of_bodySF (plainFor_of_name pn_3) hisR ?_
  intro p e s m args below meth c s₁ Bd hml0 hP hK
  obtain ⟨rfl, hZ, hh, hCH⟩ := hP
  have hx := Bd.exec
  have hby := Bd.bytes
  have hml : c.maxLocals = 4 := hml0
  have hown : s.vm.findClass "com/example/webhook_guard/webhookguard/http/HeaderFieldEqualsIgnoringAsciiCasePinLaw" = some m.cls := findClass_of_methodNamed Bd.named
  have hnm := (name_of_methodNamed Bd.named Bd.method).1
  have X0 : Stand p l e ro_19 (s.setVm s.vm) m #[(.int (1 : Int32)), (.int p2), (.int p3), (.int p4)] below meth c s₁ [] 0 0 := Stand.of_body Bd
  have e0 : s₁.heap = h0 := by rw [← hh, Bd.state]; rfl
  have N0 := Fr.nil n0
  have hS0 : s.Since s.vm s.heap.size := own_since s
  have hk0 : s.heap.size ≤ h0.size := by rw [hh]; exact Nat.le_refl _
  have hstr := own_str hw
  have hEL := own_EL hw
  have pre0 : ∀ t, Steps p.tables e below (s₁.setTop (mkF m 0 #[.val (.int (1 : Int32)), .val (.int p2), .val (.int p3), .val (.int p4)] [])) t → Steps p.tables e below (s₁.setTop (entryFrame m #[(.int (1 : Int32)), (.int p2), (.int p3), (.int p4)] 4)) t := fun t k => castTop (ef_3 m (1 : Int32) p2 p3 p4) k
  obtain ⟨T101, h101, X101, e101, E101, A101, D101, U101, st101⟩ := newO X0 hx hZ hown (tw hw 10 rfl) (tw hw 11 rfl) (tw hw 12 rfl) e0 (g := (mkF m 20 #[vi 1, vi p2, vi p3, vi p4] [])) rfl (hb hby d3_20) (by decide) (by decide)
  obtain ⟨b101, g101⟩ : ∃ z, z = h0.size := ⟨_, rfl⟩
  rw [← g101] at A101 D101 U101 st101
  have g_b101 : n0 ≤ b101 := Nat.le_trans (own_le X00) (Nat.le_of_eq g101.symm)
  have sn101 : Safe Z consts_1 s.vm h0 b101 := Safe.new (Nat.le_of_eq g101.symm)
  have sz_b101 : h0.size ≤ b101 := Nat.le_trans (Keep.refl h0 []).1 (Nat.le_of_eq g101.symm)
  have sf102_b101 := Safe.ext E101 hCH sn101
  have cr102 := (CHr.refl hCH).trans (CHr.ext E101 hCH)
  have ch102 := CHv.ext E101 hCH
  have F101_coder : Fld Z h101 b101 "java/lang/String" "coder" "B" (.int (0 : Int32)) := D101 (Or.inr (tw hw 37 rfl)) (ty := .byte) (by decide)
  have F101_value : Fld Z h101 b101 "java/lang/String" "value" "[B" .null := D101 (Or.inr (tw hw 39 rfl)) (ty := (.array .byte)) (by decide)
  have lz103_b101 := A101.lt
  obtain ⟨T103, h103, k103, X103, e103, E103, A103, st103⟩ := newP X101 hx hZ (tw hw 13 rfl) e101 (g := (mkF m 25 #[vi 1, vi p2, vi p3, vi p4] [wi 1, wr b101, wr b101])) rfl (hb hby d3_25) rfl (by decide) (cap := 1) (by decide) (by decide) (by decide) (by decide)
  obtain ⟨b103, g103⟩ : ∃ z, z = h101.size := ⟨_, rfl⟩
  rw [← g103] at A103 st103
  have y104 := (X00.ext E101)
  have g_b103 : n0 ≤ b103 := Nat.le_trans (own_le y104) (Nat.le_of_eq g103.symm)
  have lt_b101_b103 : b101 < b103 := Nat.lt_of_lt_of_le lz103_b101 (Nat.le_of_eq g103.symm)
  have sn103 : Safe Z consts_1 s.vm h101 b103 := Safe.new (Nat.le_of_eq g103.symm)
  have y105 := ((Keep.refl h0 []).ext E101)
  have sz_b103 : h0.size ≤ b103 := Nat.le_trans y105.1 (Nat.le_of_eq g103.symm)
  have V103 : Arv Z h103 b103 k103 .char (1 : Int32) [(.int (0 : Int32))] (.int (0 : Int32)) := (Arv.new A103 (by decide)).pad (pad_rep [] (.int (0 : Int32)) 1)
  have sf106_b101 := Safe.ext E103 ch102 sf102_b101
  have sf106_b103 := Safe.ext E103 ch102 sn103
  have cr106 := cr102.trans (CHr.ext E103 ch102)
  have ch106 := CHv.ext E103 ch102
  obtain ⟨cl107, Ar107, q107, S107, M107, H107, G107⟩ := id V103
  obtain ⟨T107, h107, X107, e107, W107, st107⟩ := stC X103 hx hZ e103 Ar107 (j := (0 : Int32)) (inb_of S107 ⟨by decide, by decide⟩) (g := (mkF m 30 #[vi 1, vi p2, vi p3, vi p4] [wi p2, wi 0, wr b103, wr b103, wr b101, wr b101])) rfl rfl (hb hby d3_30)
  have V107 : Arv Z h107 b103 k103 .char (1 : Int32) [(.int (nar .char p2))] (.int (0 : Int32)) := Arv.set Ar107 q107 S107 M107 H107 G107 (fits_nar_char _) W107 0 rfl (Nat.le_of_ble_eq_true rfl)
  have sf108_b101 := Safe.wr W107 sf106_b103 ch106 sf106_b101
  have sf108_b103 := Safe.wr W107 sf106_b103 ch106 sf106_b103
  have cr108 := cr106.trans (CHr.wr W107 sf106_b103 ch106)
  have ch108 := CHv.wr W107 sf106_b103 ch106
  have N107 := Fr.snoc X107 N0 g_b103
  have y109 := ((A101.ext E103).wr W107)
  have y110 := ((F101_value.ext E103).other W107 (Or.inl (Nat.ne_of_lt lt_b101_b103)))
  have y111 := ((F101_coder.ext E103).other W107 (Or.inl (Nat.ne_of_lt lt_b101_b103)))
  have y112 := ((y105.ext E103).wr W107 (Or.inr sz_b103))
  have y113 := ((y104.ext E103).wr W107 g_b103)
  obtain ⟨_, _, ⟨T114, L114, k114, n114⟩, -, X114, ⟨Lc114, hQ114, l114, y114, z114⟩, st114⟩ := X107.specialBack hx (y := mn_7) rfl hown (mvT hZ (tw hw 14 rfl)) (mvT hZ (tw hw 15 rfl)) (mvT hZ (tw hw 16 rfl)) (by decide) (backOf (W := 1) (rmSc_1 l Z a0 hw [] b101 b103 ((.int (0 : Int32))) k103 (nar .char p2) G1 h107 n0 y113 y109 y110 y111 g_b101 O2 P5 SA SH SL V107 (own_narB _) (Ne.symm (Nat.ne_of_lt lt_b101_b103))) hZ (tw hw 16 rfl) (tw hw 12 rfl) (by decide) (by decide)) (g := (mkF m 31 #[vi 1, vi p2, vi p3, vi p4] [wr b103, wr b101, wr b101])) rfl (by rw [hml]; rfl) (Steps.refl _) (a := b101) (argsL := [wr b103]) (rest := [wr b101]) (lenOf pd_AC_V rfl) rfl (Nat.le_refl _) (hb hby d3_31) (fun _ _ => ⟨rfl, e107, (by decide : 2 + 2 ≤ _), (by decide : 5 + 3 ≤ _)⟩)
  dsimp only [Pt.U, Pt.locs, Pt.cells, Pt.slots] at X114 l114 y114 z114 st114 hQ114
  subst l114 y114 z114
  obtain ⟨rfl, N114q, Kc114, uS114⟩ := hQ114
  have N114 := Fr.app N107 N114q
  have hs115_ : ∀ x ∈ ([b101] : List Addr), Safe Z consts_1 s.vm h107 x := (allS sf108_b101 all0)
  have sf115_b101 := Safe.keep Kc114 hs115_ ch108 sf108_b101
  have sf115_b103 := Safe.keep Kc114 hs115_ ch108 sf108_b103
  have cr115 := cr108.trans (CHr.keep Kc114 hs115_ ch108)
  have ch115 := CHv.keep Kc114 hs115_ ch108
  have y116 := (y112.trans Kc114 (allS (Or.inr sz_b101) all0))
  have y117 := (Nat.le_trans (Nat.le_trans (Nat.le_trans (Nat.le_trans hk0 E101.1) E103.1) (Keep.of_wr W107).1) Kc114.1)
  obtain ⟨fs, hr, hrun, hended, hRW⟩ := X114.leaveW hS0 y117 (v := some (.ref b101)) (fun h => by rw [Bd.returns] at h; cases h)
  have crE : CHr Z consts_1 s.vm s.heap T114.vm T114.heap := own_chr hh rfl (cr115.trans (CHv.at X114 hZ hEL ch115))
  refine ⟨_, _, pre0 _ ?_, hrun, hended, _, _, rfl, ?_, crE, hRW.1, hRW.2.1, hRW.2.2.1, hRW.2.2.2.mono (by decide) (by decide)⟩
  · show Go p e below s₁ (mkF m 0 #[vi 1, vi p2, vi p3, vi p4] []) _
    refine XS.iloadN X0.here hx rfl (hb hby d3_0) rfl ?_
    show Go p e below s₁ (mkF m 1 #[vi 1, vi p2, vi p3, vi p4] [wi 1]) _
    refine XS.ifYes X0.here hx rfl (pc0 := 1) (pc' := 15) rfl (hb hby d3_1) rfl ((if0 _ _).trans (feq (by decide : ¬ ((1 : Int32) = (0 : Int32)))).2) (by decide) (by decide) ?_
    show Go p e below s₁ (mkF m 15 #[vi 1, vi p2, vi p3, vi p4] []) _
    refine XS.iloadN X0.here hx rfl (hb hby d3_15) rfl ?_
    show Go p e below s₁ (mkF m 16 #[vi 1, vi p2, vi p3, vi p4] [wi 1]) _
    refine XS.iconst X0.here hx rfl (hb hby d3_16) ?_
    show Go p e below s₁ (mkF m 17 #[vi 1, vi p2, vi p3, vi p4] [wi 1, wi 1]) _
    refine XS.icmpNo X0.here hx rfl (hb hby d3_17) rfl (teq (rfl : (1 : Int32) = (1 : Int32))).2 ?_
    show Go p e below s₁ (mkF m 20 #[vi 1, vi p2, vi p3, vi p4] []) _
    refine st101 _ ?_
    show Go p e below T101 (mkF m 23 #[vi 1, vi p2, vi p3, vi p4] [wr b101]) _
    refine XS.dup X101.here hx rfl (hb hby d3_23) rfl rfl ?_
    show Go p e below T101 (mkF m 24 #[vi 1, vi p2, vi p3, vi p4] [wr b101, wr b101]) _
    refine XS.iconst X101.here hx rfl (hb hby d3_24) ?_
    show Go p e below T101 (mkF m 25 #[vi 1, vi p2, vi p3, vi p4] [wi 1, wr b101, wr b101]) _
    refine st103 _ ?_
    show Go p e below T103 (mkF m 27 #[vi 1, vi p2, vi p3, vi p4] [wr b103, wr b101, wr b101]) _
    refine XS.dup X103.here hx rfl (hb hby d3_27) rfl rfl ?_
    show Go p e below T103 (mkF m 28 #[vi 1, vi p2, vi p3, vi p4] [wr b103, wr b103, wr b101, wr b101]) _
    refine XS.iconst X103.here hx rfl (hb hby d3_28) ?_
    show Go p e below T103 (mkF m 29 #[vi 1, vi p2, vi p3, vi p4] [wi 0, wr b103, wr b103, wr b101, wr b101]) _
    refine XS.iloadN X103.here hx rfl (hb hby d3_29) rfl ?_
    show Go p e below T103 (mkF m 30 #[vi 1, vi p2, vi p3, vi p4] [wi p2, wi 0, wr b103, wr b103, wr b101, wr b101]) _
    refine st107 _ ?_
    show Go p e below T107 (mkF m 31 #[vi 1, vi p2, vi p3, vi p4] [wr b103, wr b101, wr b101]) _
    refine st114.trans ?_
    show Go p e below T114 (mkF m 34 #[vi 1, vi p2, vi p3, vi p4] [wr b101]) _
    jvm_step X114.here [X114.here.top, hx, (hb hby d3_34), X114.method', Bd.returns, Value.isRef, FieldType.isReference]
    first | (intro acts; rw [hr _ acts rfl rfl rfl]) | rw [hr _ _ rfl rfl rfl]
    exact Steps.refl _
  · show QMk Z [p2] h0 n0 _ T114.heap _
    exact ⟨_, rfl, N114, y116, (by have q := uS114; rw [own_nar16 hb1] at q; exact q)⟩
set_option maxRecDepth 65536 in
set_option maxHeartbeats 40000000 in
theorem rmMk_2 (l : Launch) (Z : State) (a0 : Array Value) (hw : ∀ d ∈ tables_1, d.before a0 Z = true) (ws : List Jvm.Cond) (p2 : Int32) (p3 : Int32) (p4 : Int32) (G1 : Int32) (h0 : Heap) (n0 : Nat) (X00 : Old Z n0 h0) (O2 : pO2 Z G1) (P5 : ¬ (G1 = (0 : Int32))) (SA : pSA Z) (SH : pSH Z) (SL : pSL Z) (hb1 : ChB p2) (hb2 : ChB p3) (hb3 : ChB p4) :
    MetFree l mn_4 (head1 (Jvm.Cond.code mn_4 method_6_code 4 (some (.object "java/lang/String")) :: ws) ro_19) (fun a U => a = #[(.int (2 : Int32)), (.int p2), (.int p3), (.int p4)] ∧ Z.Warmed39 U.vm ∧ U.heap = h0 ∧ CHv Z consts_1 U.vm h0) (fun _ _ _ _ _ => True) (fun _ U o U' => ∃ rv rL, o = .returned rv ∧ QMk Z [p2, p3] h0 n0 rv U'.heap rL ∧ CHr Z consts_1 U.vm U.heap U'.vm U'.heap ∧ ReturnedEndW U o U' rL ro_19.cells ro_19.slots) := by
  refine MetFree.of_bodySF (plainFor_of_name pn_3) hisR ?_
  intro p e s m args below meth c s₁ Bd hml0 hP hK
  obtain ⟨rfl, hZ, hh, hCH⟩ := hP
  have hx := Bd.exec
  have hby := Bd.bytes
  have hml : c.maxLocals = 4 := hml0
  have hown : s.vm.findClass "com/example/webhook_guard/webhookguard/http/HeaderFieldEqualsIgnoringAsciiCasePinLaw" = some m.cls := findClass_of_methodNamed Bd.named
  have hnm := (name_of_methodNamed Bd.named Bd.method).1
  have X0 : Stand p l e ro_19 (s.setVm s.vm) m #[(.int (2 : Int32)), (.int p2), (.int p3), (.int p4)] below meth c s₁ [] 0 0 := Stand.of_body Bd
  have e0 : s₁.heap = h0 := by rw [← hh, Bd.state]; rfl
  have N0 := Fr.nil n0
  have hS0 : s.Since s.vm s.heap.size := own_since s
  have hk0 : s.heap.size ≤ h0.size := by rw [hh]; exact Nat.le_refl _
  have hstr := own_str hw
  have hEL := own_EL hw
  have pre0 : ∀ t, Steps p.tables e below (s₁.setTop (mkF m 0 #[.val (.int (2 : Int32)), .val (.int p2), .val (.int p3), .val (.int p4)] [])) t → Steps p.tables e below (s₁.setTop (entryFrame m #[(.int (2 : Int32)), (.int p2), (.int p3), (.int p4)] 4)) t := fun t k => castTop (ef_3 m (2 : Int32) p2 p3 p4) k
  obtain ⟨T101, h101, X101, e101, E101, A101, D101, U101, st101⟩ := newO X0 hx hZ hown (tw hw 10 rfl) (tw hw 11 rfl) (tw hw 12 rfl) e0 (g := (mkF m 40 #[vi 2, vi p2, vi p3, vi p4] [])) rfl (hb hby d3_40) (by decide) (by decide)
  obtain ⟨b101, g101⟩ : ∃ z, z = h0.size := ⟨_, rfl⟩
  rw [← g101] at A101 D101 U101 st101
  have g_b101 : n0 ≤ b101 := Nat.le_trans (own_le X00) (Nat.le_of_eq g101.symm)
  have sn101 : Safe Z consts_1 s.vm h0 b101 := Safe.new (Nat.le_of_eq g101.symm)
  have sz_b101 : h0.size ≤ b101 := Nat.le_trans (Keep.refl h0 []).1 (Nat.le_of_eq g101.symm)
  have sf102_b101 := Safe.ext E101 hCH sn101
  have cr102 := (CHr.refl hCH).trans (CHr.ext E101 hCH)
  have ch102 := CHv.ext E101 hCH
  have F101_coder : Fld Z h101 b101 "java/lang/String" "coder" "B" (.int (0 : Int32)) := D101 (Or.inr (tw hw 37 rfl)) (ty := .byte) (by decide)
  have F101_value : Fld Z h101 b101 "java/lang/String" "value" "[B" .null := D101 (Or.inr (tw hw 39 rfl)) (ty := (.array .byte)) (by decide)
  have lz103_b101 := A101.lt
  obtain ⟨T103, h103, k103, X103, e103, E103, A103, st103⟩ := newP X101 hx hZ (tw hw 13 rfl) e101 (g := (mkF m 45 #[vi 2, vi p2, vi p3, vi p4] [wi 2, wr b101, wr b101])) rfl (hb hby d3_45) rfl (by decide) (cap := 2) (by decide) (by decide) (by decide) (by decide)
  obtain ⟨b103, g103⟩ : ∃ z, z = h101.size := ⟨_, rfl⟩
  rw [← g103] at A103 st103
  have y104 := (X00.ext E101)
  have g_b103 : n0 ≤ b103 := Nat.le_trans (own_le y104) (Nat.le_of_eq g103.symm)
  have lt_b101_b103 : b101 < b103 := Nat.lt_of_lt_of_le lz103_b101 (Nat.le_of_eq g103.symm)
  have sn103 : Safe Z consts_1 s.vm h101 b103 := Safe.new (Nat.le_of_eq g103.symm)
  have y105 := ((Keep.refl h0 []).ext E101)
  have sz_b103 : h0.size ≤ b103 := Nat.le_trans y105.1 (Nat.le_of_eq g103.symm)
  have V103 : Arv Z h103 b103 k103 .char (2 : Int32) [(.int (0 : Int32)), (.int (0 : Int32))] (.int (0 : Int32)) := (Arv.new A103 (by decide)).pad (pad_rep [] (.int (0 : Int32)) 2)
  have sf106_b101 := Safe.ext E103 ch102 sf102_b101
  have sf106_b103 := Safe.ext E103 ch102 sn103
  have cr106 := cr102.trans (CHr.ext E103 ch102)
  have ch106 := CHv.ext E103 ch102
  obtain ⟨cl107, Ar107, q107, S107, M107, H107, G107⟩ := id V103
  obtain ⟨T107, h107, X107, e107, W107, st107⟩ := stC X103 hx hZ e103 Ar107 (j := (0 : Int32)) (inb_of S107 ⟨by decide, by decide⟩) (g := (mkF m 50 #[vi 2, vi p2, vi p3, vi p4] [wi p2, wi 0, wr b103, wr b103, wr b101, wr b101])) rfl rfl (hb hby d3_50)
  have V107 : Arv Z h107 b103 k103 .char (2 : Int32) [(.int (nar .char p2)), (.int (0 : Int32))] (.int (0 : Int32)) := Arv.set Ar107 q107 S107 M107 H107 G107 (fits_nar_char _) W107 0 rfl (Nat.le_of_ble_eq_true rfl)
  have sf108_b101 := Safe.wr W107 sf106_b103 ch106 sf106_b101
  have sf108_b103 := Safe.wr W107 sf106_b103 ch106 sf106_b103
  have cr108 := cr106.trans (CHr.wr W107 sf106_b103 ch106)
  have ch108 := CHv.wr W107 sf106_b103 ch106
  have N107 := Fr.snoc X107 N0 g_b103
  obtain ⟨cl109, Ar109, q109, S109, M109, H109, G109⟩ := id V107
  obtain ⟨T109, h109, X109, e109, W109, st109⟩ := stC X107 hx hZ e107 Ar109 (j := (1 : Int32)) (inb_of S109 ⟨by decide, by decide⟩) (g := (mkF m 54 #[vi 2, vi p2, vi p3, vi p4] [wi p3, wi 1, wr b103, wr b103, wr b101, wr b101])) rfl rfl (hb hby d3_54)
  have V109 : Arv Z h109 b103 k103 .char (2 : Int32) [(.int (nar .char p2)), (.int (nar .char p3))] (.int (0 : Int32)) := Arv.set Ar109 q109 S109 M109 H109 G109 (fits_nar_char _) W109 1 rfl (Nat.le_of_ble_eq_true rfl)
  have sf110_b101 := Safe.wr W109 sf108_b103 ch108 sf108_b101
  have sf110_b103 := Safe.wr W109 sf108_b103 ch108 sf108_b103
  have cr110 := cr108.trans (CHr.wr W109 sf108_b103 ch108)
  have ch110 := CHv.wr W109 sf108_b103 ch108
  have N109 := Fr.snoc X109 N107 g_b103
  have y111 := (((A101.ext E103).wr W107).wr W109)
  have y112 := (((F101_value.ext E103).other W107 (Or.inl (Nat.ne_of_lt lt_b101_b103))).other W109 (Or.inl (Nat.ne_of_lt lt_b101_b103)))
  have y113 := (((F101_coder.ext E103).other W107 (Or.inl (Nat.ne_of_lt lt_b101_b103))).other W109 (Or.inl (Nat.ne_of_lt lt_b101_b103)))
  have y114 := (((y105.ext E103).wr W107 (Or.inr sz_b103)).wr W109 (Or.inr sz_b103))
  have y115 := (((y104.ext E103).wr W107 g_b103).wr W109 g_b103)
  obtain ⟨_, _, ⟨T116, L116, k116, n116⟩, -, X116, ⟨Lc116, hQ116, l116, y116, z116⟩, st116⟩ := X109.specialBack hx (y := mn_7) rfl hown (mvT hZ (tw hw 14 rfl)) (mvT hZ (tw hw 15 rfl)) (mvT hZ (tw hw 16 rfl)) (by decide) (backOf (W := 1) (rmSc_2 l Z a0 hw [] b101 b103 ((.int (0 : Int32))) k103 (nar .char p2) (nar .char p3) G1 h109 n0 y115 y111 y112 y113 g_b101 O2 P5 SA SH SL V109 (own_narB _) (own_narB _) (Ne.symm (Nat.ne_of_lt lt_b101_b103))) hZ (tw hw 16 rfl) (tw hw 12 rfl) (by decide) (by decide)) (g := (mkF m 55 #[vi 2, vi p2, vi p3, vi p4] [wr b103, wr b101, wr b101])) rfl (by rw [hml]; rfl) (Steps.refl _) (a := b101) (argsL := [wr b103]) (rest := [wr b101]) (lenOf pd_AC_V rfl) rfl (Nat.le_refl _) (hb hby d3_55) (fun _ _ => ⟨rfl, e109, (by decide : 2 + 2 ≤ _), (by decide : 6 + 6 ≤ _)⟩)
  dsimp only [Pt.U, Pt.locs, Pt.cells, Pt.slots] at X116 l116 y116 z116 st116 hQ116
  subst l116 y116 z116
  obtain ⟨rfl, N116q, Kc116, uS116⟩ := hQ116
  have N116 := Fr.app N109 N116q
  have hs117_ : ∀ x ∈ ([b101] : List Addr), Safe Z consts_1 s.vm h109 x := (allS sf110_b101 all0)
  have sf117_b101 := Safe.keep Kc116 hs117_ ch110 sf110_b101
  have sf117_b103 := Safe.keep Kc116 hs117_ ch110 sf110_b103
  have cr117 := cr110.trans (CHr.keep Kc116 hs117_ ch110)
  have ch117 := CHv.keep Kc116 hs117_ ch110
  have y118 := (y114.trans Kc116 (allS (Or.inr sz_b101) all0))
  have y119 := (Nat.le_trans (Nat.le_trans (Nat.le_trans (Nat.le_trans (Nat.le_trans hk0 E101.1) E103.1) (Keep.of_wr W107).1) (Keep.of_wr W109).1) Kc116.1)
  obtain ⟨fs, hr, hrun, hended, hRW⟩ := X116.leaveW hS0 y119 (v := some (.ref b101)) (fun h => by rw [Bd.returns] at h; cases h)
  have crE : CHr Z consts_1 s.vm s.heap T116.vm T116.heap := own_chr hh rfl (cr117.trans (CHv.at X116 hZ hEL ch117))
  refine ⟨_, _, pre0 _ ?_, hrun, hended, _, _, rfl, ?_, crE, hRW.1, hRW.2.1, hRW.2.2.1, hRW.2.2.2.mono (by decide) (by decide)⟩
  · show Go p e below s₁ (mkF m 0 #[vi 2, vi p2, vi p3, vi p4] []) _
    refine XS.iloadN X0.here hx rfl (hb hby d3_0) rfl ?_
    show Go p e below s₁ (mkF m 1 #[vi 2, vi p2, vi p3, vi p4] [wi 2]) _
    refine XS.ifYes X0.here hx rfl (pc0 := 1) (pc' := 15) rfl (hb hby d3_1) rfl ((if0 _ _).trans (feq (by decide : ¬ ((2 : Int32) = (0 : Int32)))).2) (by decide) (by decide) ?_
    show Go p e below s₁ (mkF m 15 #[vi 2, vi p2, vi p3, vi p4] []) _
    refine XS.iloadN X0.here hx rfl (hb hby d3_15) rfl ?_
    show Go p e below s₁ (mkF m 16 #[vi 2, vi p2, vi p3, vi p4] [wi 2]) _
    refine XS.iconst X0.here hx rfl (hb hby d3_16) ?_
    show Go p e below s₁ (mkF m 17 #[vi 2, vi p2, vi p3, vi p4] [wi 1, wi 2]) _
    refine XS.icmpYes X0.here hx rfl (pc0 := 17) (pc' := 35) rfl (hb hby d3_17) rfl (feq (by decide : ¬ ((2 : Int32) = (1 : Int32)))).2 (by decide) (by decide) ?_
    show Go p e below s₁ (mkF m 35 #[vi 2, vi p2, vi p3, vi p4] []) _
    refine XS.iloadN X0.here hx rfl (hb hby d3_35) rfl ?_
    show Go p e below s₁ (mkF m 36 #[vi 2, vi p2, vi p3, vi p4] [wi 2]) _
    refine XS.iconst X0.here hx rfl (hb hby d3_36) ?_
    show Go p e below s₁ (mkF m 37 #[vi 2, vi p2, vi p3, vi p4] [wi 2, wi 2]) _
    refine XS.icmpNo X0.here hx rfl (hb hby d3_37) rfl (teq (rfl : (2 : Int32) = (2 : Int32))).2 ?_
    show Go p e below s₁ (mkF m 40 #[vi 2, vi p2, vi p3, vi p4] []) _
    refine st101 _ ?_
    show Go p e below T101 (mkF m 43 #[vi 2, vi p2, vi p3, vi p4] [wr b101]) _
    refine XS.dup X101.here hx rfl (hb hby d3_43) rfl rfl ?_
    show Go p e below T101 (mkF m 44 #[vi 2, vi p2, vi p3, vi p4] [wr b101, wr b101]) _
    refine XS.iconst X101.here hx rfl (hb hby d3_44) ?_
    show Go p e below T101 (mkF m 45 #[vi 2, vi p2, vi p3, vi p4] [wi 2, wr b101, wr b101]) _
    refine st103 _ ?_
    show Go p e below T103 (mkF m 47 #[vi 2, vi p2, vi p3, vi p4] [wr b103, wr b101, wr b101]) _
    refine XS.dup X103.here hx rfl (hb hby d3_47) rfl rfl ?_
    show Go p e below T103 (mkF m 48 #[vi 2, vi p2, vi p3, vi p4] [wr b103, wr b103, wr b101, wr b101]) _
    refine XS.iconst X103.here hx rfl (hb hby d3_48) ?_
    show Go p e below T103 (mkF m 49 #[vi 2, vi p2, vi p3, vi p4] [wi 0, wr b103, wr b103, wr b101, wr b101]) _
    refine XS.iloadN X103.here hx rfl (hb hby d3_49) rfl ?_
    show Go p e below T103 (mkF m 50 #[vi 2, vi p2, vi p3, vi p4] [wi p2, wi 0, wr b103, wr b103, wr b101, wr b101]) _
    refine st107 _ ?_
    show Go p e below T107 (mkF m 51 #[vi 2, vi p2, vi p3, vi p4] [wr b103, wr b101, wr b101]) _
    refine XS.dup X107.here hx rfl (hb hby d3_51) rfl rfl ?_
    show Go p e below T107 (mkF m 52 #[vi 2, vi p2, vi p3, vi p4] [wr b103, wr b103, wr b101, wr b101]) _
    refine XS.iconst X107.here hx rfl (hb hby d3_52) ?_
    show Go p e below T107 (mkF m 53 #[vi 2, vi p2, vi p3, vi p4] [wi 1, wr b103, wr b103, wr b101, wr b101]) _
    refine XS.iloadN X107.here hx rfl (hb hby d3_53) rfl ?_
    show Go p e below T107 (mkF m 54 #[vi 2, vi p2, vi p3, vi p4] [wi p3, wi 1, wr b103, wr b103, wr b101, wr b101]) _
    refine st109 _ ?_
    show Go p e below T109 (mkF m 55 #[vi 2, vi p2, vi p3, vi p4] [wr b103, wr b101, wr b101]) _
    refine st116.trans ?_
    show Go p e below T116 (mkF m 58 #[vi 2, vi p2, vi p3, vi p4] [wr b101]) _
    jvm_step X116.here [X116.here.top, hx, (hb hby d3_58), X116.method', Bd.returns, Value.isRef, FieldType.isReference]
    first | (intro acts; rw [hr _ acts rfl rfl rfl]) | rw [hr _ _ rfl rfl rfl]
    exact Steps.refl _
  · show QMk Z [p2, p3] h0 n0 _ T116.heap _
    exact ⟨_, rfl, N116, y118, (by have q := uS116; rw [own_nar16 hb1, own_nar16 hb2] at q; exact q)⟩
set_option maxRecDepth 65536 in
set_option maxHeartbeats 40000000 in
theorem rmMk_3 (l : Launch) (Z : State) (a0 : Array Value) (hw : ∀ d ∈ tables_1, d.before a0 Z = true) (ws : List Jvm.Cond) (p2 : Int32) (p3 : Int32) (p4 : Int32) (G1 : Int32) (h0 : Heap) (n0 : Nat) (X00 : Old Z n0 h0) (O2 : pO2 Z G1) (P5 : ¬ (G1 = (0 : Int32))) (SA : pSA Z) (SH : pSH Z) (SL : pSL Z) (hb1 : ChB p2) (hb2 : ChB p3) (hb3 : ChB p4) :
    MetFree l mn_4 (head1 (Jvm.Cond.code mn_4 method_6_code 4 (some (.object "java/lang/String")) :: ws) ro_19) (fun a U => a = #[(.int (3 : Int32)), (.int p2), (.int p3), (.int p4)] ∧ Z.Warmed39 U.vm ∧ U.heap = h0 ∧ CHv Z consts_1 U.vm h0) (fun _ _ _ _ _ => True) (fun _ U o U' => ∃ rv rL, o = .returned rv ∧ QMk Z [p2, p3, p4] h0 n0 rv U'.heap rL ∧ CHr Z consts_1 U.vm U.heap U'.vm U'.heap ∧ ReturnedEndW U o U' rL ro_19.cells ro_19.slots) := by
  refine MetFree.of_bodySF (plainFor_of_name pn_3) hisR ?_
  intro p e s m args below meth c s₁ Bd hml0 hP hK
  obtain ⟨rfl, hZ, hh, hCH⟩ := hP
  have hx := Bd.exec
  have hby := Bd.bytes
  have hml : c.maxLocals = 4 := hml0
  have hown : s.vm.findClass "com/example/webhook_guard/webhookguard/http/HeaderFieldEqualsIgnoringAsciiCasePinLaw" = some m.cls := findClass_of_methodNamed Bd.named
  have hnm := (name_of_methodNamed Bd.named Bd.method).1
  have X0 : Stand p l e ro_19 (s.setVm s.vm) m #[(.int (3 : Int32)), (.int p2), (.int p3), (.int p4)] below meth c s₁ [] 0 0 := Stand.of_body Bd
  have e0 : s₁.heap = h0 := by rw [← hh, Bd.state]; rfl
  have N0 := Fr.nil n0
  have hS0 : s.Since s.vm s.heap.size := own_since s
  have hk0 : s.heap.size ≤ h0.size := by rw [hh]; exact Nat.le_refl _
  have hstr := own_str hw
  have hEL := own_EL hw
  have pre0 : ∀ t, Steps p.tables e below (s₁.setTop (mkF m 0 #[.val (.int (3 : Int32)), .val (.int p2), .val (.int p3), .val (.int p4)] [])) t → Steps p.tables e below (s₁.setTop (entryFrame m #[(.int (3 : Int32)), (.int p2), (.int p3), (.int p4)] 4)) t := fun t k => castTop (ef_3 m (3 : Int32) p2 p3 p4) k
  obtain ⟨T101, h101, X101, e101, E101, A101, D101, U101, st101⟩ := newO X0 hx hZ hown (tw hw 10 rfl) (tw hw 11 rfl) (tw hw 12 rfl) e0 (g := (mkF m 59 #[vi 3, vi p2, vi p3, vi p4] [])) rfl (hb hby d3_59) (by decide) (by decide)
  obtain ⟨b101, g101⟩ : ∃ z, z = h0.size := ⟨_, rfl⟩
  rw [← g101] at A101 D101 U101 st101
  have g_b101 : n0 ≤ b101 := Nat.le_trans (own_le X00) (Nat.le_of_eq g101.symm)
  have sn101 : Safe Z consts_1 s.vm h0 b101 := Safe.new (Nat.le_of_eq g101.symm)
  have sz_b101 : h0.size ≤ b101 := Nat.le_trans (Keep.refl h0 []).1 (Nat.le_of_eq g101.symm)
  have sf102_b101 := Safe.ext E101 hCH sn101
  have cr102 := (CHr.refl hCH).trans (CHr.ext E101 hCH)
  have ch102 := CHv.ext E101 hCH
  have F101_coder : Fld Z h101 b101 "java/lang/String" "coder" "B" (.int (0 : Int32)) := D101 (Or.inr (tw hw 37 rfl)) (ty := .byte) (by decide)
  have F101_value : Fld Z h101 b101 "java/lang/String" "value" "[B" .null := D101 (Or.inr (tw hw 39 rfl)) (ty := (.array .byte)) (by decide)
  have lz103_b101 := A101.lt
  obtain ⟨T103, h103, k103, X103, e103, E103, A103, st103⟩ := newP X101 hx hZ (tw hw 13 rfl) e101 (g := (mkF m 64 #[vi 3, vi p2, vi p3, vi p4] [wi 3, wr b101, wr b101])) rfl (hb hby d3_64) rfl (by decide) (cap := 3) (by decide) (by decide) (by decide) (by decide)
  obtain ⟨b103, g103⟩ : ∃ z, z = h101.size := ⟨_, rfl⟩
  rw [← g103] at A103 st103
  have y104 := (X00.ext E101)
  have g_b103 : n0 ≤ b103 := Nat.le_trans (own_le y104) (Nat.le_of_eq g103.symm)
  have lt_b101_b103 : b101 < b103 := Nat.lt_of_lt_of_le lz103_b101 (Nat.le_of_eq g103.symm)
  have sn103 : Safe Z consts_1 s.vm h101 b103 := Safe.new (Nat.le_of_eq g103.symm)
  have y105 := ((Keep.refl h0 []).ext E101)
  have sz_b103 : h0.size ≤ b103 := Nat.le_trans y105.1 (Nat.le_of_eq g103.symm)
  have V103 : Arv Z h103 b103 k103 .char (3 : Int32) [(.int (0 : Int32)), (.int (0 : Int32)), (.int (0 : Int32))] (.int (0 : Int32)) := (Arv.new A103 (by decide)).pad (pad_rep [] (.int (0 : Int32)) 3)
  have sf106_b101 := Safe.ext E103 ch102 sf102_b101
  have sf106_b103 := Safe.ext E103 ch102 sn103
  have cr106 := cr102.trans (CHr.ext E103 ch102)
  have ch106 := CHv.ext E103 ch102
  obtain ⟨cl107, Ar107, q107, S107, M107, H107, G107⟩ := id V103
  obtain ⟨T107, h107, X107, e107, W107, st107⟩ := stC X103 hx hZ e103 Ar107 (j := (0 : Int32)) (inb_of S107 ⟨by decide, by decide⟩) (g := (mkF m 69 #[vi 3, vi p2, vi p3, vi p4] [wi p2, wi 0, wr b103, wr b103, wr b101, wr b101])) rfl rfl (hb hby d3_69)
  have V107 : Arv Z h107 b103 k103 .char (3 : Int32) [(.int (nar .char p2)), (.int (0 : Int32)), (.int (0 : Int32))] (.int (0 : Int32)) := Arv.set Ar107 q107 S107 M107 H107 G107 (fits_nar_char _) W107 0 rfl (Nat.le_of_ble_eq_true rfl)
  have sf108_b101 := Safe.wr W107 sf106_b103 ch106 sf106_b101
  have sf108_b103 := Safe.wr W107 sf106_b103 ch106 sf106_b103
  have cr108 := cr106.trans (CHr.wr W107 sf106_b103 ch106)
  have ch108 := CHv.wr W107 sf106_b103 ch106
  have N107 := Fr.snoc X107 N0 g_b103
  obtain ⟨cl109, Ar109, q109, S109, M109, H109, G109⟩ := id V107
  obtain ⟨T109, h109, X109, e109, W109, st109⟩ := stC X107 hx hZ e107 Ar109 (j := (1 : Int32)) (inb_of S109 ⟨by decide, by decide⟩) (g := (mkF m 73 #[vi 3, vi p2, vi p3, vi p4] [wi p3, wi 1, wr b103, wr b103, wr b101, wr b101])) rfl rfl (hb hby d3_73)
  have V109 : Arv Z h109 b103 k103 .char (3 : Int32) [(.int (nar .char p2)), (.int (nar .char p3)), (.int (0 : Int32))] (.int (0 : Int32)) := Arv.set Ar109 q109 S109 M109 H109 G109 (fits_nar_char _) W109 1 rfl (Nat.le_of_ble_eq_true rfl)
  have sf110_b101 := Safe.wr W109 sf108_b103 ch108 sf108_b101
  have sf110_b103 := Safe.wr W109 sf108_b103 ch108 sf108_b103
  have cr110 := cr108.trans (CHr.wr W109 sf108_b103 ch108)
  have ch110 := CHv.wr W109 sf108_b103 ch108
  have N109 := Fr.snoc X109 N107 g_b103
  obtain ⟨cl111, Ar111, q111, S111, M111, H111, G111⟩ := id V109
  obtain ⟨T111, h111, X111, e111, W111, st111⟩ := stC X109 hx hZ e109 Ar111 (j := (2 : Int32)) (inb_of S111 ⟨by decide, by decide⟩) (g := (mkF m 77 #[vi 3, vi p2, vi p3, vi p4] [wi p4, wi 2, wr b103, wr b103, wr b101, wr b101])) rfl rfl (hb hby d3_77)
  have V111 : Arv Z h111 b103 k103 .char (3 : Int32) [(.int (nar .char p2)), (.int (nar .char p3)), (.int (nar .char p4))] (.int (0 : Int32)) := Arv.set Ar111 q111 S111 M111 H111 G111 (fits_nar_char _) W111 2 rfl (Nat.le_of_ble_eq_true rfl)
  have sf112_b101 := Safe.wr W111 sf110_b103 ch110 sf110_b101
  have sf112_b103 := Safe.wr W111 sf110_b103 ch110 sf110_b103
  have cr112 := cr110.trans (CHr.wr W111 sf110_b103 ch110)
  have ch112 := CHv.wr W111 sf110_b103 ch110
  have N111 := Fr.snoc X111 N109 g_b103
  have y113 := ((((A101.ext E103).wr W107).wr W109).wr W111)
  have y114 := ((((F101_value.ext E103).other W107 (Or.inl (Nat.ne_of_lt lt_b101_b103))).other W109 (Or.inl (Nat.ne_of_lt lt_b101_b103))).other W111 (Or.inl (Nat.ne_of_lt lt_b101_b103)))
  have y115 := ((((F101_coder.ext E103).other W107 (Or.inl (Nat.ne_of_lt lt_b101_b103))).other W109 (Or.inl (Nat.ne_of_lt lt_b101_b103))).other W111 (Or.inl (Nat.ne_of_lt lt_b101_b103)))
  have y116 := ((((y105.ext E103).wr W107 (Or.inr sz_b103)).wr W109 (Or.inr sz_b103)).wr W111 (Or.inr sz_b103))
  have y117 := ((((y104.ext E103).wr W107 g_b103).wr W109 g_b103).wr W111 g_b103)
  obtain ⟨_, _, ⟨T118, L118, k118, n118⟩, -, X118, ⟨Lc118, hQ118, l118, y118, z118⟩, st118⟩ := X111.specialBack hx (y := mn_7) rfl hown (mvT hZ (tw hw 14 rfl)) (mvT hZ (tw hw 15 rfl)) (mvT hZ (tw hw 16 rfl)) (by decide) (backOf (W := 1) (rmSc_3 l Z a0 hw [] b101 b103 ((.int (0 : Int32))) k103 (nar .char p2) (nar .char p3) (nar .char p4) G1 h111 n0 y117 y113 y114 y115 g_b101 O2 P5 SA SH SL V111 (own_narB _) (own_narB _) (own_narB _) (Ne.symm (Nat.ne_of_lt lt_b101_b103))) hZ (tw hw 16 rfl) (tw hw 12 rfl) (by decide) (by decide)) (g := (mkF m 78 #[vi 3, vi p2, vi p3, vi p4] [wr b103, wr b101, wr b101])) rfl (by rw [hml]; rfl) (Steps.refl _) (a := b101) (argsL := [wr b103]) (rest := [wr b101]) (lenOf pd_AC_V rfl) rfl (Nat.le_refl _) (hb hby d3_78) (fun _ _ => ⟨rfl, e111, (by decide : 2 + 2 ≤ _), (by decide : 7 + 9 ≤ _)⟩)
  dsimp only [Pt.U, Pt.locs, Pt.cells, Pt.slots] at X118 l118 y118 z118 st118 hQ118
  subst l118 y118 z118
  obtain ⟨rfl, N118q, Kc118, uS118⟩ := hQ118
  have N118 := Fr.app N111 N118q
  have hs119_ : ∀ x ∈ ([b101] : List Addr), Safe Z consts_1 s.vm h111 x := (allS sf112_b101 all0)
  have sf119_b101 := Safe.keep Kc118 hs119_ ch112 sf112_b101
  have sf119_b103 := Safe.keep Kc118 hs119_ ch112 sf112_b103
  have cr119 := cr112.trans (CHr.keep Kc118 hs119_ ch112)
  have ch119 := CHv.keep Kc118 hs119_ ch112
  have y120 := (y116.trans Kc118 (allS (Or.inr sz_b101) all0))
  have y121 := (Nat.le_trans (Nat.le_trans (Nat.le_trans (Nat.le_trans (Nat.le_trans (Nat.le_trans hk0 E101.1) E103.1) (Keep.of_wr W107).1) (Keep.of_wr W109).1) (Keep.of_wr W111).1) Kc118.1)
  obtain ⟨fs, hr, hrun, hended, hRW⟩ := X118.leaveW hS0 y121 (v := some (.ref b101)) (fun h => by rw [Bd.returns] at h; cases h)
  have crE : CHr Z consts_1 s.vm s.heap T118.vm T118.heap := own_chr hh rfl (cr119.trans (CHv.at X118 hZ hEL ch119))
  refine ⟨_, _, pre0 _ ?_, hrun, hended, _, _, rfl, ?_, crE, hRW.1, hRW.2.1, hRW.2.2.1, hRW.2.2.2.mono (by decide) (by decide)⟩
  · show Go p e below s₁ (mkF m 0 #[vi 3, vi p2, vi p3, vi p4] []) _
    refine XS.iloadN X0.here hx rfl (hb hby d3_0) rfl ?_
    show Go p e below s₁ (mkF m 1 #[vi 3, vi p2, vi p3, vi p4] [wi 3]) _
    refine XS.ifYes X0.here hx rfl (pc0 := 1) (pc' := 15) rfl (hb hby d3_1) rfl ((if0 _ _).trans (feq (by decide : ¬ ((3 : Int32) = (0 : Int32)))).2) (by decide) (by decide) ?_
    show Go p e below s₁ (mkF m 15 #[vi 3, vi p2, vi p3, vi p4] []) _
    refine XS.iloadN X0.here hx rfl (hb hby d3_15) rfl ?_
    show Go p e below s₁ (mkF m 16 #[vi 3, vi p2, vi p3, vi p4] [wi 3]) _
    refine XS.iconst X0.here hx rfl (hb hby d3_16) ?_
    show Go p e below s₁ (mkF m 17 #[vi 3, vi p2, vi p3, vi p4] [wi 1, wi 3]) _
    refine XS.icmpYes X0.here hx rfl (pc0 := 17) (pc' := 35) rfl (hb hby d3_17) rfl (feq (by decide : ¬ ((3 : Int32) = (1 : Int32)))).2 (by decide) (by decide) ?_
    show Go p e below s₁ (mkF m 35 #[vi 3, vi p2, vi p3, vi p4] []) _
    refine XS.iloadN X0.here hx rfl (hb hby d3_35) rfl ?_
    show Go p e below s₁ (mkF m 36 #[vi 3, vi p2, vi p3, vi p4] [wi 3]) _
    refine XS.iconst X0.here hx rfl (hb hby d3_36) ?_
    show Go p e below s₁ (mkF m 37 #[vi 3, vi p2, vi p3, vi p4] [wi 2, wi 3]) _
    refine XS.icmpYes X0.here hx rfl (pc0 := 37) (pc' := 59) rfl (hb hby d3_37) rfl (feq (by decide : ¬ ((3 : Int32) = (2 : Int32)))).2 (by decide) (by decide) ?_
    show Go p e below s₁ (mkF m 59 #[vi 3, vi p2, vi p3, vi p4] []) _
    refine st101 _ ?_
    show Go p e below T101 (mkF m 62 #[vi 3, vi p2, vi p3, vi p4] [wr b101]) _
    refine XS.dup X101.here hx rfl (hb hby d3_62) rfl rfl ?_
    show Go p e below T101 (mkF m 63 #[vi 3, vi p2, vi p3, vi p4] [wr b101, wr b101]) _
    refine XS.iconst X101.here hx rfl (hb hby d3_63) ?_
    show Go p e below T101 (mkF m 64 #[vi 3, vi p2, vi p3, vi p4] [wi 3, wr b101, wr b101]) _
    refine st103 _ ?_
    show Go p e below T103 (mkF m 66 #[vi 3, vi p2, vi p3, vi p4] [wr b103, wr b101, wr b101]) _
    refine XS.dup X103.here hx rfl (hb hby d3_66) rfl rfl ?_
    show Go p e below T103 (mkF m 67 #[vi 3, vi p2, vi p3, vi p4] [wr b103, wr b103, wr b101, wr b101]) _
    refine XS.iconst X103.here hx rfl (hb hby d3_67) ?_
    show Go p e below T103 (mkF m 68 #[vi 3, vi p2, vi p3, vi p4] [wi 0, wr b103, wr b103, wr b101, wr b101]) _
    refine XS.iloadN X103.here hx rfl (hb hby d3_68) rfl ?_
    show Go p e below T103 (mkF m 69 #[vi 3, vi p2, vi p3, vi p4] [wi p2, wi 0, wr b103, wr b103, wr b101, wr b101]) _
    refine st107 _ ?_
    show Go p e below T107 (mkF m 70 #[vi 3, vi p2, vi p3, vi p4] [wr b103, wr b101, wr b101]) _
    refine XS.dup X107.here hx rfl (hb hby d3_70) rfl rfl ?_
    show Go p e below T107 (mkF m 71 #[vi 3, vi p2, vi p3, vi p4] [wr b103, wr b103, wr b101, wr b101]) _
    refine XS.iconst X107.here hx rfl (hb hby d3_71) ?_
    show Go p e below T107 (mkF m 72 #[vi 3, vi p2, vi p3, vi p4] [wi 1, wr b103, wr b103, wr b101, wr b101]) _
    refine XS.iloadN X107.here hx rfl (hb hby d3_72) rfl ?_
    show Go p e below T107 (mkF m 73 #[vi 3, vi p2, vi p3, vi p4] [wi p3, wi 1, wr b103, wr b103, wr b101, wr b101]) _
    refine st109 _ ?_
    show Go p e below T109 (mkF m 74 #[vi 3, vi p2, vi p3, vi p4] [wr b103, wr b101, wr b101]) _
    refine XS.dup X109.here hx rfl (hb hby d3_74) rfl rfl ?_
    show Go p e below T109 (mkF m 75 #[vi 3, vi p2, vi p3, vi p4] [wr b103, wr b103, wr b101, wr b101]) _
    refine XS.iconst X109.here hx rfl (hb hby d3_75) ?_
    show Go p e below T109 (mkF m 76 #[vi 3, vi p2, vi p3, vi p4] [wi 2, wr b103, wr b103, wr b101, wr b101]) _
    refine XS.iloadN X109.here hx rfl (hb hby d3_76) rfl ?_
    show Go p e below T109 (mkF m 77 #[vi 3, vi p2, vi p3, vi p4] [wi p4, wi 2, wr b103, wr b103, wr b101, wr b101]) _
    refine st111 _ ?_
    show Go p e below T111 (mkF m 78 #[vi 3, vi p2, vi p3, vi p4] [wr b103, wr b101, wr b101]) _
    refine st118.trans ?_
    show Go p e below T118 (mkF m 81 #[vi 3, vi p2, vi p3, vi p4] [wr b101]) _
    jvm_step X118.here [X118.here.top, hx, (hb hby d3_81), X118.method', Bd.returns, Value.isRef, FieldType.isReference]
    first | (intro acts; rw [hr _ acts rfl rfl rfl]) | rw [hr _ _ rfl rfl rfl]
    exact Steps.refl _
  · show QMk Z [p2, p3, p4] h0 n0 _ T118.heap _
    exact ⟨_, rfl, N118, y120, (by have q := uS118; rw [own_nar16 hb1, own_nar16 hb2, own_nar16 hb3] at q; exact q)⟩
theorem rmMk (l : Launch) (Z : State) (a0 : Array Value) (hw : ∀ d ∈ tables_1, d.before a0 Z = true) (ws : List Jvm.Cond) (p1 : Int32) (p2 : Int32) (p3 : Int32) (p4 : Int32) (G1 : Int32) (h0 : Heap) (n0 : Nat) (X00 : Old Z n0 h0) (hn : p1 = 0 ∨ p1 = 1 ∨ p1 = 2 ∨ p1 = 3) (O2 : pO2 Z G1) (P5 : ¬ (G1 = (0 : Int32))) (SA : pSA Z) (SH : pSH Z) (SL : pSL Z) (hb1 : ChB p2) (hb2 : ChB p3) (hb3 : ChB p4) :
    MetFree l mn_4 (head1 (Jvm.Cond.code mn_4 method_6_code 4 (some (.object "java/lang/String")) :: ws) ro_19) (fun a U => a = #[(.int p1), (.int p2), (.int p3), (.int p4)] ∧ Z.Warmed39 U.vm ∧ U.heap = h0 ∧ CHv Z consts_1 U.vm h0) (fun _ _ _ _ _ => True) (fun _ U o U' => ∃ rv rL, o = .returned rv ∧ QMk Z (own_mkl p1 p2 p3 p4) h0 n0 rv U'.heap rL ∧ CHr Z consts_1 U.vm U.heap U'.vm U'.heap ∧ ReturnedEndW U o U' rL ro_19.cells ro_19.slots) := by
  rcases hn with rfl | rfl | rfl | rfl
  · rw [own_mkl0]; exact rmMk_0 l Z a0 hw ws p2 p3 p4 G1 h0 n0 X00 O2 P5 SA SH SL hb1 hb2 hb3
  · rw [own_mkl1]; exact rmMk_1 l Z a0 hw ws p2 p3 p4 G1 h0 n0 X00 O2 P5 SA SH SL hb1 hb2 hb3
  · rw [own_mkl2]; exact rmMk_2 l Z a0 hw ws p2 p3 p4 G1 h0 n0 X00 O2 P5 SA SH SL hb1 hb2 hb3
  · rw [own_mkl3]; exact rmMk_3 l Z a0 hw ws p2 p3 p4 G1 h0 n0 X00 O2 P5 SA SH SL hb1 hb2 hb3
set_option maxRecDepth 65536 in
set_option maxHeartbeats 40000000 in
theorem rmIsl_0 (l : Launch) (Z : State) (a0 : Array Value) (hw : ∀ d ∈ tables_1, d.before a0 Z = true) (ws : List Jvm.Cond) (a1 : Addr) (G1 : Int32) (h0 : Heap) (n0 : Nat) (X00 : Old Z n0 h0) (O2 : pO2 Z G1) (P5 : ¬ (G1 = (0 : Int32))) (F_k : Fld Z h0 a1 "java/lang/String" "coder" "B" (.int (0 : Int32))) :
    MetFree l mn_12 (head1 (Jvm.Cond.code mn_12 jdk_42_method_154_code 1 (some .boolean) :: ws) ro_0) (fun a U => a = #[(.ref a1)] ∧ Z.Warmed39 U.vm ∧ U.heap = h0) (fun _ _ _ _ _ => True) (fun _ U o U' => ∃ rv rL, o = .returned rv ∧ Qs (some (.int (1 : Int32))) h0 n0 rv U'.heap rL ∧ FrameEnd U o U' rL ro_0.cells ro_0.slots) := by
  refine MetFree.of_bodySF (plainFor_of_name pn_15) hisR ?_
  intro p e s m args below meth c s₁ Bd hml0 hP hK
  obtain ⟨rfl, hZ, hh⟩ := hP
  have hx := Bd.exec
  have hby := Bd.bytes
  have hml : c.maxLocals = 1 := hml0
  have hown : s.vm.findClass "java/lang/String" = some m.cls := findClass_of_methodNamed Bd.named
  have hnm := (name_of_methodNamed Bd.named Bd.method).1
  have X0 : Stand p l e ro_0 s m #[(.ref a1)] below meth c s₁ [] 0 0 := Stand.of_body Bd
  have e0 : s₁.heap = h0 := by rw [← hh, Bd.state]; rfl
  have N0 := Fr.nil n0
  have pre0 : ∀ t, Steps p.tables e below (s₁.setTop (mkF m 0 #[.val (.ref a1)] [])) t → Steps p.tables e below (s₁.setTop (entryFrame m #[(.ref a1)] 1)) t := fun t k => castTop (ef_15 m a1) k
  obtain ⟨T101, X101, e101, st101⟩ := getS2 X0 hx hZ hown (host := "") (Or.inl (tw hw 24 rfl)) Via.refl e0 (O2.ext X00.2) (g := (mkF m 0 #[vr a1] [])) rfl (hb hby d15_0)
  have hc3 : ¬ (G1 = (0 : Int32)) := P5
  obtain ⟨T102, X102, e102, st102⟩ := getF X101 hx hZ hown (host := "") (Or.inl (tw hw 36 rfl)) Via.refl e101 F_k (g := (mkF m 7 #[vr a1] [wr a1])) rfl rfl (hb hby d15_7)
  obtain ⟨fs, hr, hrun, hended, hW, hsame⟩ := X102.leave (v := some (.int (1 : Int32))) (fun h => by rw [Bd.returns] at h; cases h)
  refine ⟨_, _, pre0 _ ?_, hrun, hended, _, _, rfl, ?_, ⟨_, rfl⟩, hW, hsame.mono (by decide) (by decide)⟩
  · show Go p e below s₁ (mkF m 0 #[vr a1] []) _
    refine st101 _ ?_
    show Go p e below T101 (mkF m 3 #[vr a1] [wi G1]) _
    refine XS.ifNo X101.here hx rfl (hb hby d15_3) rfl ((if0 _ _).trans (feq hc3).1) ?_
    show Go p e below T101 (mkF m 6 #[vr a1] []) _
    refine XS.aloadN X101.here hx rfl (hb hby d15_6) rfl rfl ?_
    show Go p e below T101 (mkF m 7 #[vr a1] [wr a1]) _
    refine st102 _ ?_
    show Go p e below T102 (mkF m 10 #[vr a1] [wi 0]) _
    refine XS.ifNo X102.here hx rfl (hb hby d15_10) rfl ((if0 _ _).trans (teq (rfl : (0 : Int32) = (0 : Int32))).2) ?_
    show Go p e below T102 (mkF m 13 #[vr a1] []) _
    refine XS.iconst X102.here hx rfl (hb hby d15_13) ?_
    show Go p e below T102 (mkF m 14 #[vr a1] [wi 1]) _
    refine XS.goto X102.here hx rfl (pc0 := 14) (pc' := 18) rfl (hb hby d15_14) (by decide) (by decide) ?_
    show Go p e below T102 (mkF m 18 #[vr a1] [wi 1]) _
    exact retN X102 hx (t := .boolean) Bd.returns (by simp) (hb hby d15_18) hr
  · show Qs (some (.int (1 : Int32))) h0 n0 _ T102.heap _
    rw [e102]
    exact ⟨rfl, N0, rfl⟩
set_option maxRecDepth 65536 in
set_option maxHeartbeats 40000000 in
theorem rmCip (l : Launch) (Z : State) (a0 : Array Value) (hw : ∀ d ∈ tables_1, d.before a0 Z = true) (ws : List Jvm.Cond) (p1 : Int32) (p2 : Int32) (fm : Value) (h0 : Heap) (n0 : Nat) (X00 : Old Z n0 h0) (rf : fm.isRef = true) (h1 : ¬ (p1 < (0 : Int32))) (h2 : p1 < p2) :
    MetFree l mn_26 (head1 (Jvm.Cond.code mn_26 jdk_41_method_11_code 3 (some .int) :: ws) ro_0) (fun a U => a = #[(.int p1), (.int p2), fm] ∧ Z.Warmed39 U.vm ∧ U.heap = h0) (fun _ _ _ _ _ => True) (fun _ U o U' => ∃ rv rL, o = .returned rv ∧ Qs (some (.int p1)) h0 n0 rv U'.heap rL ∧ FrameEnd U o U' rL ro_0.cells ro_0.slots) := by
  refine MetFree.of_bodySF (plainFor_of_name pn_18) hisR ?_
  intro p e s m args below meth c s₁ Bd hml0 hP hK
  obtain ⟨rfl, hZ, hh⟩ := hP
  have hx := Bd.exec
  have hby := Bd.bytes
  have hml : c.maxLocals = 3 := hml0
  have hown : s.vm.findClass "jdk/internal/util/Preconditions" = some m.cls := findClass_of_methodNamed Bd.named
  have hnm := (name_of_methodNamed Bd.named Bd.method).1
  have X0 : Stand p l e ro_0 s m #[(.int p1), (.int p2), fm] below meth c s₁ [] 0 0 := Stand.of_body Bd
  have e0 : s₁.heap = h0 := by rw [← hh, Bd.state]; rfl
  have N0 := Fr.nil n0
  have pre0 : ∀ t, Steps p.tables e below (s₁.setTop (mkF m 0 #[.val (.int p1), .val (.int p2), .val fm] [])) t → Steps p.tables e below (s₁.setTop (entryFrame m #[(.int p1), (.int p2), fm] 3)) t := fun t k => castTop (ef_18vvx m p1 p2 fm rf) k
  have hc1 : ¬ (p1 < (0 : Int32)) := h1
  have hc6 : p1 < p2 := h2
  obtain ⟨fs, hr, hrun, hended, hW, hsame⟩ := X0.leave (v := some (.int p1)) (fun h => by rw [Bd.returns] at h; cases h)
  refine ⟨_, _, pre0 _ ?_, hrun, hended, _, _, rfl, ?_, ⟨_, rfl⟩, hW, hsame.mono (by decide) (by decide)⟩
  · show Go p e below s₁ (mkF m 0 #[vi p1, vi p2, .val fm] []) _
    refine XS.iloadN X0.here hx rfl (hb hby d18_0) rfl ?_
    show Go p e below s₁ (mkF m 1 #[vi p1, vi p2, .val fm] [wi p1]) _
    refine XS.ifNo X0.here hx rfl (hb hby d18_1) rfl ((if0 _ _).trans (flt hc1).1) ?_
    show Go p e below s₁ (mkF m 4 #[vi p1, vi p2, .val fm] []) _
    refine XS.iloadN X0.here hx rfl (hb hby d18_4) rfl ?_
    show Go p e below s₁ (mkF m 5 #[vi p1, vi p2, .val fm] [wi p1]) _
    refine XS.iloadN X0.here hx rfl (hb hby d18_5) rfl ?_
    show Go p e below s₁ (mkF m 6 #[vi p1, vi p2, .val fm] [wi p2, wi p1]) _
    refine XS.icmpYes X0.here hx rfl (pc0 := 6) (pc' := 16) rfl (hb hby d18_6) rfl (tlt hc6).1 (by decide) (by decide) ?_
    show Go p e below s₁ (mkF m 16 #[vi p1, vi p2, .val fm] []) _
    refine XS.iloadN X0.here hx rfl (hb hby d18_16) rfl ?_
    show Go p e below s₁ (mkF m 17 #[vi p1, vi p2, .val fm] [wi p1]) _
    exact retI X0 hx Bd.returns (hb hby d18_17) hr
  · show Qs (some (.int p1)) h0 n0 _ s₁.heap _
    rw [e0]
    exact ⟨rfl, N0, rfl⟩
set_option maxRecDepth 65536 in
set_option maxHeartbeats 40000000 in
theorem rmCis (l : Launch) (Z : State) (a0 : Array Value) (hw : ∀ d ∈ tables_1, d.before a0 Z = true) (ws : List Jvm.Cond) (p1 : Int32) (p2 : Int32) (fm : Value) (h0 : Heap) (n0 : Nat) (X00 : Old Z n0 h0) (FM : pFM Z fm) (rf : fm.isRef = true) (h1 : ¬ (p1 < (0 : Int32))) (h2 : p1 < p2) :
    MetFree l mn_10 (head1 (Jvm.Cond.code mn_10 jdk_42_method_155_code 2 none :: ws) ro_1) (fun a U => a = #[(.int p1), (.int p2)] ∧ Z.Warmed39 U.vm ∧ U.heap = h0) (fun _ _ _ _ _ => True) (fun _ U o U' => ∃ rv rL, o = .returned rv ∧ Qs none h0 n0 rv U'.heap rL ∧ FrameEnd U o U' rL ro_1.cells ro_1.slots) := by
  refine MetFree.of_bodySF (plainFor_of_name pn_17) hisR ?_
  intro p e s m args below meth c s₁ Bd hml0 hP hK
  obtain ⟨rfl, hZ, hh⟩ := hP
  have hx := Bd.exec
  have hby := Bd.bytes
  have hml : c.maxLocals = 2 := hml0
  have hown : s.vm.findClass "java/lang/String" = some m.cls := findClass_of_methodNamed Bd.named
  have hnm := (name_of_methodNamed Bd.named Bd.method).1
  have X0 : Stand p l e ro_1 s m #[(.int p1), (.int p2)] below meth c s₁ [] 0 0 := Stand.of_body Bd
  have e0 : s₁.heap = h0 := by rw [← hh, Bd.state]; rfl
  have N0 := Fr.nil n0
  have pre0 : ∀ t, Steps p.tables e below (s₁.setTop (mkF m 0 #[.val (.int p1), .val (.int p2)] [])) t → Steps p.tables e below (s₁.setTop (entryFrame m #[(.int p1), (.int p2)] 2)) t := fun t k => castTop (ef_17 m p1 p2) k
  obtain ⟨T101, X101, e101, st101⟩ := getS2 X0 hx hZ hown (host := "") (Or.inl (tw hw 78 rfl)) Via.refl e0 (FM.ext X00.2) (g := (mkF m 2 #[vi p1, vi p2] [wi p2, wi p1])) rfl (hb hby d17_2)
  obtain ⟨_, _, ⟨T102, L102, k102, n102⟩, -, X102, ⟨Lc102, hQ102, l102, y102, z102⟩, st102⟩ := Jvm.LawKit.callS X101 hx (y := mn_26) hown (mvT hZ (tw hw 80 rfl)) (mvT hZ (tw hw 81 rfl)) (mvT hZ (tw hw 79 rfl)) (mvT hZ (tw hw 82 rfl)) (by decide) (backOf (W := 0) (rmCip l Z a0 hw [] p1 p2 fm h0 n0 X00 rf h1 h2) hZ (tw hw 82 rfl) (tw hw 79 rfl) (by decide) (by decide)) (g := (mkF m 5 #[vi p1, vi p2] [fm, wi p2, wi p1])) rfl (by rw [hml]; rfl) (argsL := [wi p1, wi p2, fm]) (rest := []) (lenOf pd_IILjava_util_function_BiFunction__I rfl) rfl (Nat.le_refl _) (hb hby d17_5) (fun _ _ => ⟨rfl, e101, (by decide : 0 + 0 ≤ _), (by decide : 0 + 0 ≤ _)⟩)
  dsimp only [Pt.U, Pt.locs, Pt.cells, Pt.slots] at X102 l102 y102 z102 st102 hQ102
  subst l102 y102 z102
  obtain ⟨rfl, N102q, eq102⟩ := hQ102
  have N102 := Fr.app N0 N102q
  obtain ⟨fs, hr, hrun, hended, hW, hsame⟩ := X102.leave (v := none) (fun _ => rfl)
  refine ⟨_, _, pre0 _ ?_, hrun, hended, _, _, rfl, ?_, ⟨_, rfl⟩, hW, hsame.mono (by decide) (by decide)⟩
  · show Go p e below s₁ (mkF m 0 #[vi p1, vi p2] []) _
    refine XS.iloadN X0.here hx rfl (hb hby d17_0) rfl ?_
    show Go p e below s₁ (mkF m 1 #[vi p1, vi p2] [wi p1]) _
    refine XS.iloadN X0.here hx rfl (hb hby d17_1) rfl ?_
    show Go p e below s₁ (mkF m 2 #[vi p1, vi p2] [wi p2, wi p1]) _
    refine st101 _ ?_
    show Go p e below T101 (mkF m 5 #[vi p1, vi p2] [fm, wi p2, wi p1]) _
    refine st102 _ ?_
    show Go p e below T102 (mkF m 8 #[vi p1, vi p2] [wi p1]) _
    refine XS.pop X102.here hx rfl (hb hby d17_8) rfl rfl ?_
    show Go p e below T102 (mkF m 9 #[vi p1, vi p2] []) _
    exact X102.returnOut hx Bd.returns (hb hby d17_9) hr
  · show Qs none h0 n0 _ T102.heap _
    rw [eq102]
    exact ⟨rfl, N102, rfl⟩
set_option maxRecDepth 65536 in
set_option maxHeartbeats 40000000 in
theorem rmCal (l : Launch) (Z : State) (a0 : Array Value) (hw : ∀ d ∈ tables_1, d.before a0 Z = true) (ws : List Jvm.Cond) (a1 : Addr) (p2 : Int32) (ka : ClassId) (N : Int32) (vs : List Value) (xc : Int32) (fm : Value) (h0 : Heap) (n0 : Nat) (X00 : Old Z n0 h0) (FM : pFM Z fm) (rf : fm.isRef = true) (V_a : Arv Z h0 a1 ka .byte N vs (.int (0 : Int32))) (h1 : ¬ (p2 < (0 : Int32))) (h2 : p2 < N) (q0 : EAt N vs p2 (StrChars.lo8 xc)) (hbx : ChB xc) (hlx : ¬ (255 : Int32) < xc) :
    MetFree l mn_14 (head1 (Jvm.Cond.code mn_14 jdk_43_method_2_code 2 (some .char) :: ws) ro_20) (fun a U => a = #[(.ref a1), (.int p2)] ∧ Z.Warmed39 U.vm ∧ U.heap = h0) (fun _ _ _ _ _ => True) (fun _ U o U' => ∃ rv rL, o = .returned rv ∧ Qs (some (.int xc)) h0 n0 rv U'.heap rL ∧ FrameEnd U o U' rL ro_20.cells ro_20.slots) := by
  refine MetFree.of_bodySF (plainFor_of_name pn_16) hisR ?_
  intro p e s m args below meth c s₁ Bd hml0 hP hK
  obtain ⟨rfl, hZ, hh⟩ := hP
  have hx := Bd.exec
  have hby := Bd.bytes
  have hml : c.maxLocals = 2 := hml0
  have hown : s.vm.findClass "java/lang/StringLatin1" = some m.cls := findClass_of_methodNamed Bd.named
  have hnm := (name_of_methodNamed Bd.named Bd.method).1
  have X0 : Stand p l e ro_20 s m #[(.ref a1), (.int p2)] below meth c s₁ [] 0 0 := Stand.of_body Bd
  have e0 : s₁.heap = h0 := by rw [← hh, Bd.state]; rfl
  have N0 := Fr.nil n0
  have pre0 : ∀ t, Steps p.tables e below (s₁.setTop (mkF m 0 #[.val (.ref a1), .val (.int p2)] [])) t → Steps p.tables e below (s₁.setTop (entryFrame m #[(.ref a1), (.int p2)] 2)) t := fun t k => castTop (ef_16 m a1 p2) k
  obtain ⟨cl101, Ar101, q101, S101, M101, H101, G101⟩ := id V_a
  obtain ⟨_, _, ⟨T102, L102, k102, n102⟩, -, X102, ⟨Lc102, hQ102, l102, y102, z102⟩, st102⟩ := Jvm.LawKit.callS X0 hx (y := mn_10) hown (mvT hZ (tw hw 75 rfl)) (mvT hZ (tw hw 76 rfl)) (mvT hZ (tw hw 12 rfl)) (mvT hZ (tw hw 77 rfl)) (by decide) (backOf (W := 0) (rmCis l Z a0 hw [] p2 N fm h0 n0 X00 FM rf h1 h2) hZ (tw hw 77 rfl) (tw hw 12 rfl) (by decide) (by decide)) (g := (mkF m 3 #[vr a1, vi p2] [wi N, wi p2])) rfl (by rw [hml]; rfl) (argsL := [wi p2, wi N]) (rest := []) (lenOf pd_II_V rfl) rfl (Nat.le_refl _) (hb hby d16_3) (fun _ _ => ⟨rfl, e0, (by decide : 0 + 0 ≤ _), (by decide : 0 + 0 ≤ _)⟩)
  dsimp only [Pt.U, Pt.locs, Pt.cells, Pt.slots] at X102 l102 y102 z102 st102 hQ102
  subst l102 y102 z102
  obtain ⟨rfl, N102q, eq102⟩ := hQ102
  have N102 := Fr.app N0 N102q
  have hat103 : cl101.slots[(p2).toNatClampNeg]? = some (.int (StrChars.lo8 xc)) := (H101 _ (by rw [S101]; exact q0.2.1)).trans (congrArg some q0.2.2)
  obtain ⟨fs, hr, hrun, hended, hW, hsame⟩ := X102.leave (v := some (.int (nar .char (((StrChars.lo8 xc) &&& (255 : Int32)).toUInt32.toUInt16.toUInt32.toInt32)))) (fun h => by rw [Bd.returns] at h; cases h)
  refine ⟨_, _, pre0 _ ?_, hrun, hended, _, _, rfl, ?_, ⟨_, rfl⟩, hW, hsame.mono (by decide) (by decide)⟩
  · show Go p e below s₁ (mkF m 0 #[vr a1, vi p2] []) _
    refine XS.iloadN X0.here hx rfl (hb hby d16_0) rfl ?_
    show Go p e below s₁ (mkF m 1 #[vr a1, vi p2] [wi p2]) _
    refine XS.aloadN X0.here hx rfl (hb hby d16_1) rfl rfl ?_
    show Go p e below s₁ (mkF m 2 #[vr a1, vi p2] [wr a1, wi p2]) _
    refine X0.arraylength hx (by rw [e0]; exact Ar101.1) (State.isArrayOf_alike hZ.alike Ar101.2.1) (g := (mkF m 2 #[vr a1, vi p2] [wr a1, wi p2])) rfl rfl (hb hby d16_2) _ ?_
    rw [len_of S101 M101]
    show Go p e below s₁ (mkF m 3 #[vr a1, vi p2] [wi N, wi p2]) _
    refine st102 _ ?_
    show Go p e below T102 (mkF m 6 #[vr a1, vi p2] []) _
    refine XS.aloadN X102.here hx rfl (hb hby d16_6) rfl rfl ?_
    show Go p e below T102 (mkF m 7 #[vr a1, vi p2] [wr a1]) _
    refine XS.iloadN X102.here hx rfl (hb hby d16_7) rfl ?_
    show Go p e below T102 (mkF m 8 #[vr a1, vi p2] [wi p2, wr a1]) _
    refine X102.baloadBytes hx (j := p2) (v := (.int (StrChars.lo8 xc))) (by rw [eq102]; exact Ar101.1) (State.isArrayOf_alike hZ.alike Ar101.2.1) Ar101.2.2 (inb_of S101 q0.1) hat103 (g := (mkF m 8 #[vr a1, vi p2] [wi p2, wr a1])) rfl rfl (hb hby d16_8) _ ?_
    show Go p e below T102 (mkF m 9 #[vr a1, vi p2] [wi (StrChars.lo8 xc)]) _
    refine XS.sipush X102.here hx rfl (hb hby d16_9) ?_
    show Go p e below T102 (mkF m 12 #[vr a1, vi p2] [wi 255, wi (StrChars.lo8 xc)]) _
    refine XS.iand X102.here hx rfl (hb hby d16_12) rfl ?_
    show Go p e below T102 (mkF m 13 #[vr a1, vi p2] [wi ((StrChars.lo8 xc) &&& (255 : Int32))]) _
    refine XS.i2c X102.here hx rfl (hb hby d16_13) rfl ?_
    show Go p e below T102 (mkF m 14 #[vr a1, vi p2] [wi (((StrChars.lo8 xc) &&& (255 : Int32)).toUInt32.toUInt16.toUInt32.toInt32)]) _
    exact retN X102 hx (t := .char) Bd.returns (by simp) (hb hby d16_14) hr
  · show Qs (some (.int xc)) h0 n0 _ T102.heap _
    rw [eq102]
    exact ⟨own_some (own_lcx hbx hlx), N102, rfl⟩
set_option maxRecDepth 65536 in
set_option maxHeartbeats 40000000 in
theorem rmIsl_1 (l : Launch) (Z : State) (a0 : Array Value) (hw : ∀ d ∈ tables_1, d.before a0 Z = true) (ws : List Jvm.Cond) (a1 : Addr) (G1 : Int32) (h0 : Heap) (n0 : Nat) (X00 : Old Z n0 h0) (O2 : pO2 Z G1) (P5 : ¬ (G1 = (0 : Int32))) (F_k : Fld Z h0 a1 "java/lang/String" "coder" "B" (.int (1 : Int32))) :
    MetFree l mn_12 (head1 (Jvm.Cond.code mn_12 jdk_42_method_154_code 1 (some .boolean) :: ws) ro_0) (fun a U => a = #[(.ref a1)] ∧ Z.Warmed39 U.vm ∧ U.heap = h0) (fun _ _ _ _ _ => True) (fun _ U o U' => ∃ rv rL, o = .returned rv ∧ Qs (some (.int (0 : Int32))) h0 n0 rv U'.heap rL ∧ FrameEnd U o U' rL ro_0.cells ro_0.slots) := by
  refine MetFree.of_bodySF (plainFor_of_name pn_15) hisR ?_
  intro p e s m args below meth c s₁ Bd hml0 hP hK
  obtain ⟨rfl, hZ, hh⟩ := hP
  have hx := Bd.exec
  have hby := Bd.bytes
  have hml : c.maxLocals = 1 := hml0
  have hown : s.vm.findClass "java/lang/String" = some m.cls := findClass_of_methodNamed Bd.named
  have hnm := (name_of_methodNamed Bd.named Bd.method).1
  have X0 : Stand p l e ro_0 s m #[(.ref a1)] below meth c s₁ [] 0 0 := Stand.of_body Bd
  have e0 : s₁.heap = h0 := by rw [← hh, Bd.state]; rfl
  have N0 := Fr.nil n0
  have pre0 : ∀ t, Steps p.tables e below (s₁.setTop (mkF m 0 #[.val (.ref a1)] [])) t → Steps p.tables e below (s₁.setTop (entryFrame m #[(.ref a1)] 1)) t := fun t k => castTop (ef_15 m a1) k
  obtain ⟨T101, X101, e101, st101⟩ := getS2 X0 hx hZ hown (host := "") (Or.inl (tw hw 24 rfl)) Via.refl e0 (O2.ext X00.2) (g := (mkF m 0 #[vr a1] [])) rfl (hb hby d15_0)
  have hc3 : ¬ (G1 = (0 : Int32)) := P5
  obtain ⟨T102, X102, e102, st102⟩ := getF X101 hx hZ hown (host := "") (Or.inl (tw hw 36 rfl)) Via.refl e101 F_k (g := (mkF m 7 #[vr a1] [wr a1])) rfl rfl (hb hby d15_7)
  obtain ⟨fs, hr, hrun, hended, hW, hsame⟩ := X102.leave (v := some (.int (0 : Int32))) (fun h => by rw [Bd.returns] at h; cases h)
  refine ⟨_, _, pre0 _ ?_, hrun, hended, _, _, rfl, ?_, ⟨_, rfl⟩, hW, hsame.mono (by decide) (by decide)⟩
  · show Go p e below s₁ (mkF m 0 #[vr a1] []) _
    refine st101 _ ?_
    show Go p e below T101 (mkF m 3 #[vr a1] [wi G1]) _
    refine XS.ifNo X101.here hx rfl (hb hby d15_3) rfl ((if0 _ _).trans (feq hc3).1) ?_
    show Go p e below T101 (mkF m 6 #[vr a1] []) _
    refine XS.aloadN X101.here hx rfl (hb hby d15_6) rfl rfl ?_
    show Go p e below T101 (mkF m 7 #[vr a1] [wr a1]) _
    refine st102 _ ?_
    show Go p e below T102 (mkF m 10 #[vr a1] [wi 1]) _
    refine XS.ifYes X102.here hx rfl (pc0 := 10) (pc' := 17) rfl (hb hby d15_10) rfl ((if0 _ _).trans (feq (by decide : ¬ ((1 : Int32) = (0 : Int32)))).2) (by decide) (by decide) ?_
    show Go p e below T102 (mkF m 17 #[vr a1] []) _
    refine XS.iconst X102.here hx rfl (hb hby d15_17) ?_
    show Go p e below T102 (mkF m 18 #[vr a1] [wi 0]) _
    exact retN X102 hx (t := .boolean) Bd.returns (by simp) (hb hby d15_18) hr
  · show Qs (some (.int (0 : Int32))) h0 n0 _ T102.heap _
    rw [e102]
    exact ⟨rfl, N0, rfl⟩
set_option maxRecDepth 65536 in
set_option maxHeartbeats 40000000 in
theorem rmLn16 (l : Launch) (Z : State) (a0 : Array Value) (hw : ∀ d ∈ tables_1, d.before a0 Z = true) (ws : List Jvm.Cond) (a1 : Addr) (ka : ClassId) (N : Int32) (vs : List Value) (h0 : Heap) (n0 : Nat) (X00 : Old Z n0 h0) (V_a : Arv Z h0 a1 ka .byte N vs (.int (0 : Int32))) :
    MetFree l mn_21 (head1 (Jvm.Cond.code mn_21 jdk_52_method_6_code 1 (some .int) :: ws) ro_0) (fun a U => a = #[(.ref a1)] ∧ Z.Warmed39 U.vm ∧ U.heap = h0) (fun _ _ _ _ _ => True) (fun _ U o U' => ∃ rv rL, o = .returned rv ∧ Qs (some (.int (N >>> ((1 : Int32) &&& 31)))) h0 n0 rv U'.heap rL ∧ FrameEnd U o U' rL ro_0.cells ro_0.slots) := by
  refine MetFree.of_bodySF (plainFor_of_name pn_27) hisR ?_
  intro p e s m args below meth c s₁ Bd hml0 hP hK
  obtain ⟨rfl, hZ, hh⟩ := hP
  have hx := Bd.exec
  have hby := Bd.bytes
  have hml : c.maxLocals = 1 := hml0
  have hown : s.vm.findClass "java/lang/StringUTF16" = some m.cls := findClass_of_methodNamed Bd.named
  have hnm := (name_of_methodNamed Bd.named Bd.method).1
  have X0 : Stand p l e ro_0 s m #[(.ref a1)] below meth c s₁ [] 0 0 := Stand.of_body Bd
  have e0 : s₁.heap = h0 := by rw [← hh, Bd.state]; rfl
  have N0 := Fr.nil n0
  have pre0 : ∀ t, Steps p.tables e below (s₁.setTop (mkF m 0 #[.val (.ref a1)] [])) t → Steps p.tables e below (s₁.setTop (entryFrame m #[(.ref a1)] 1)) t := fun t k => castTop (ef_27 m a1) k
  obtain ⟨cl101, Ar101, q101, S101, M101, H101, G101⟩ := id V_a
  obtain ⟨fs, hr, hrun, hended, hW, hsame⟩ := X0.leave (v := some (.int (N >>> ((1 : Int32) &&& 31)))) (fun h => by rw [Bd.returns] at h; cases h)
  refine ⟨_, _, pre0 _ ?_, hrun, hended, _, _, rfl, ?_, ⟨_, rfl⟩, hW, hsame.mono (by decide) (by decide)⟩
  · show Go p e below s₁ (mkF m 0 #[vr a1] []) _
    refine XS.aloadN X0.here hx rfl (hb hby d27_0) rfl rfl ?_
    show Go p e below s₁ (mkF m 1 #[vr a1] [wr a1]) _
    refine X0.arraylength hx (by rw [e0]; exact Ar101.1) (State.isArrayOf_alike hZ.alike Ar101.2.1) (g := (mkF m 1 #[vr a1] [wr a1])) rfl rfl (hb hby d27_1) _ ?_
    rw [len_of S101 M101]
    show Go p e below s₁ (mkF m 2 #[vr a1] [wi N]) _
    refine XS.iconst X0.here hx rfl (hb hby d27_2) ?_
    show Go p e below s₁ (mkF m 3 #[vr a1] [wi 1, wi N]) _
    refine XS.ishr X0.here hx rfl (hb hby d27_3) rfl ?_
    show Go p e below s₁ (mkF m 4 #[vr a1] [wi (N >>> ((1 : Int32) &&& 31))]) _
    exact retI X0 hx Bd.returns (hb hby d27_4) hr
  · show Qs (some (.int (N >>> ((1 : Int32) &&& 31)))) h0 n0 _ s₁.heap _
    rw [e0]
    exact ⟨rfl, N0, rfl⟩
set_option maxRecDepth 65536 in
set_option maxHeartbeats 40000000 in
theorem rmCi16 (l : Launch) (Z : State) (a0 : Array Value) (hw : ∀ d ∈ tables_1, d.before a0 Z = true) (ws : List Jvm.Cond) (p1 : Int32) (a2 : Addr) (ka : ClassId) (N : Int32) (vs : List Value) (fm : Value) (h0 : Heap) (n0 : Nat) (X00 : Old Z n0 h0) (FM : pFM Z fm) (rf : fm.isRef = true) (V_a : Arv Z h0 a2 ka .byte N vs (.int (0 : Int32))) (h1 : ¬ (p1 < (0 : Int32))) (h2 : p1 < (N >>> ((1 : Int32) &&& 31))) :
    MetFree l mn_16 (head1 (Jvm.Cond.code mn_16 jdk_52_method_91_code 2 none :: ws) ro_20) (fun a U => a = #[(.int p1), (.ref a2)] ∧ Z.Warmed39 U.vm ∧ U.heap = h0) (fun _ _ _ _ _ => True) (fun _ U o U' => ∃ rv rL, o = .returned rv ∧ Qs none h0 n0 rv U'.heap rL ∧ FrameEnd U o U' rL ro_20.cells ro_20.slots) := by
  refine MetFree.of_bodySF (plainFor_of_name pn_26) hisR ?_
  intro p e s m args below meth c s₁ Bd hml0 hP hK
  obtain ⟨rfl, hZ, hh⟩ := hP
  have hx := Bd.exec
  have hby := Bd.bytes
  have hml : c.maxLocals = 2 := hml0
  have hown : s.vm.findClass "java/lang/StringUTF16" = some m.cls := findClass_of_methodNamed Bd.named
  have hnm := (name_of_methodNamed Bd.named Bd.method).1
  have X0 : Stand p l e ro_20 s m #[(.int p1), (.ref a2)] below meth c s₁ [] 0 0 := Stand.of_body Bd
  have e0 : s₁.heap = h0 := by rw [← hh, Bd.state]; rfl
  have N0 := Fr.nil n0
  have pre0 : ∀ t, Steps p.tables e below (s₁.setTop (mkF m 0 #[.val (.int p1), .val (.ref a2)] [])) t → Steps p.tables e below (s₁.setTop (entryFrame m #[(.int p1), (.ref a2)] 2)) t := fun t k => castTop (ef_26 m p1 a2) k
  obtain ⟨_, _, ⟨T101, L101, k101, n101⟩, -, X101, ⟨Lc101, hQ101, l101, y101, z101⟩, st101⟩ := Jvm.LawKit.callS X0 hx (y := mn_21) hown (mvT hZ (tw hw 111 rfl)) (mvT hZ (tw hw 112 rfl)) (mvT hZ (tw hw 27 rfl)) (mvT hZ (tw hw 113 rfl)) (by decide) (backOf (W := 1) (rmLn16 l Z a0 hw [] a2 ka N vs h0 n0 X00 V_a) hZ (tw hw 113 rfl) (tw hw 27 rfl) (by decide) (by decide)) (g := (mkF m 2 #[vi p1, vr a2] [wr a2, wi p1])) rfl (by rw [hml]; rfl) (argsL := [wr a2]) (rest := [wi p1]) (lenOf pd_AB_I rfl) rfl (Nat.le_refl _) (hb hby d26_2) (fun _ _ => ⟨rfl, e0, (by decide : 0 + 0 ≤ _), (by decide : 0 + 0 ≤ _)⟩)
  dsimp only [Pt.U, Pt.locs, Pt.cells, Pt.slots] at X101 l101 y101 z101 st101 hQ101
  subst l101 y101 z101
  obtain ⟨rfl, N101q, eq101⟩ := hQ101
  have N101 := Fr.app N0 N101q
  obtain ⟨_, _, ⟨T102, L102, k102, n102⟩, -, X102, ⟨Lc102, hQ102, l102, y102, z102⟩, st102⟩ := Jvm.LawKit.callS X101 hx (y := mn_10) hown (mvT hZ (tw hw 114 rfl)) (mvT hZ (tw hw 76 rfl)) (mvT hZ (tw hw 12 rfl)) (mvT hZ (tw hw 77 rfl)) (by decide) (backOf (W := 0) (rmCis l Z a0 hw [] p1 (N >>> ((1 : Int32) &&& 31)) fm h0 n0 X00 FM rf h1 h2) hZ (tw hw 77 rfl) (tw hw 12 rfl) (by decide) (by decide)) (g := (mkF m 5 #[vi p1, vr a2] [wi (N >>> ((1 : Int32) &&& 31)), wi p1])) rfl (by rw [hml]; rfl) (argsL := [wi p1, wi (N >>> ((1 : Int32) &&& 31))]) (rest := []) (lenOf pd_II_V rfl) rfl (Nat.le_refl _) (hb hby d26_5) (fun _ _ => ⟨rfl, eq101, (by decide : 0 + 0 ≤ _), (by decide : 0 + 0 ≤ _)⟩)
  dsimp only [Pt.U, Pt.locs, Pt.cells, Pt.slots] at X102 l102 y102 z102 st102 hQ102
  subst l102 y102 z102
  obtain ⟨rfl, N102q, eq102⟩ := hQ102
  have N102 := Fr.app N101 N102q
  obtain ⟨fs, hr, hrun, hended, hW, hsame⟩ := X102.leave (v := none) (fun _ => rfl)
  refine ⟨_, _, pre0 _ ?_, hrun, hended, _, _, rfl, ?_, ⟨_, rfl⟩, hW, hsame.mono (by decide) (by decide)⟩
  · show Go p e below s₁ (mkF m 0 #[vi p1, vr a2] []) _
    refine XS.iloadN X0.here hx rfl (hb hby d26_0) rfl ?_
    show Go p e below s₁ (mkF m 1 #[vi p1, vr a2] [wi p1]) _
    refine XS.aloadN X0.here hx rfl (hb hby d26_1) rfl rfl ?_
    show Go p e below s₁ (mkF m 2 #[vi p1, vr a2] [wr a2, wi p1]) _
    refine st101 _ ?_
    show Go p e below T101 (mkF m 5 #[vi p1, vr a2] [wi (N >>> ((1 : Int32) &&& 31)), wi p1]) _
    refine st102 _ ?_
    show Go p e below T102 (mkF m 8 #[vi p1, vr a2] []) _
    exact X102.returnOut hx Bd.returns (hb hby d26_8) hr
  · show Qs none h0 n0 _ T102.heap _
    rw [eq102]
    exact ⟨rfl, N102, rfl⟩
set_option maxRecDepth 65536 in
set_option maxHeartbeats 40000000 in
theorem rmCa16 (l : Launch) (Z : State) (a0 : Array Value) (hw : ∀ d ∈ tables_1, d.before a0 Z = true) (ws : List Jvm.Cond) (a1 : Addr) (p2 : Int32) (ka : ClassId) (N : Int32) (vs : List Value) (xc : Int32) (fm : Value) (h0 : Heap) (n0 : Nat) (X00 : Old Z n0 h0) (SA : pSA Z) (SH : pSH Z) (SL : pSL Z) (FM : pFM Z fm) (rf : fm.isRef = true) (V_a : Arv Z h0 a1 ka .byte N vs (.int (0 : Int32))) (h1 : ¬ (p2 < (0 : Int32))) (h2 : p2 < (N >>> ((1 : Int32) &&& 31))) (q0 : EAt N vs (p2 <<< ((1 : Int32) &&& 31)) (StrChars.lo8 xc)) (q1 : EAt N vs ((p2 <<< ((1 : Int32) &&& 31)) + (1 : Int32)) (StrChars.hi8 xc)) (hbx : ChB xc) :
    MetFree l mn_15 (head1 (Jvm.Cond.code mn_15 jdk_52_method_83_code 2 (some .char) :: ws) ro_21) (fun a U => a = #[(.ref a1), (.int p2)] ∧ Z.Warmed39 U.vm ∧ U.heap = h0) (fun _ _ _ _ _ => True) (fun _ U o U' => ∃ rv rL, o = .returned rv ∧ Qs (some (.int xc)) h0 n0 rv U'.heap rL ∧ FrameEnd U o U' rL ro_21.cells ro_21.slots) := by
  refine MetFree.of_bodySF (plainFor_of_name pn_25) hisR ?_
  intro p e s m args below meth c s₁ Bd hml0 hP hK
  obtain ⟨rfl, hZ, hh⟩ := hP
  have hx := Bd.exec
  have hby := Bd.bytes
  have hml : c.maxLocals = 2 := hml0
  have hown : s.vm.findClass "java/lang/StringUTF16" = some m.cls := findClass_of_methodNamed Bd.named
  have hnm := (name_of_methodNamed Bd.named Bd.method).1
  have X0 : Stand p l e ro_21 s m #[(.ref a1), (.int p2)] below meth c s₁ [] 0 0 := Stand.of_body Bd
  have e0 : s₁.heap = h0 := by rw [← hh, Bd.state]; rfl
  have N0 := Fr.nil n0
  have pre0 : ∀ t, Steps p.tables e below (s₁.setTop (mkF m 0 #[.val (.ref a1), .val (.int p2)] [])) t → Steps p.tables e below (s₁.setTop (entryFrame m #[(.ref a1), (.int p2)] 2)) t := fun t k => castTop (ef_25 m a1 p2) k
  obtain ⟨_, _, ⟨T101, L101, k101, n101⟩, -, X101, ⟨Lc101, hQ101, l101, y101, z101⟩, st101⟩ := Jvm.LawKit.callS X0 hx (y := mn_16) hown (mvT hZ (tw hw 108 rfl)) (mvT hZ (tw hw 109 rfl)) (mvT hZ (tw hw 27 rfl)) (mvT hZ (tw hw 110 rfl)) (by decide) (backOf (W := 0) (rmCi16 l Z a0 hw [] p2 a1 ka N vs fm h0 n0 X00 FM rf V_a h1 h2) hZ (tw hw 110 rfl) (tw hw 27 rfl) (by decide) (by decide)) (g := (mkF m 2 #[vr a1, vi p2] [wr a1, wi p2])) rfl (by rw [hml]; rfl) (argsL := [wi p2, wr a1]) (rest := []) (lenOf pd_IAB_V rfl) rfl (Nat.le_refl _) (hb hby d25_2) (fun _ _ => ⟨rfl, e0, (by decide : 0 + 0 ≤ _), (by decide : 0 + 0 ≤ _)⟩)
  dsimp only [Pt.U, Pt.locs, Pt.cells, Pt.slots] at X101 l101 y101 z101 st101 hQ101
  subst l101 y101 z101
  obtain ⟨rfl, N101q, eq101⟩ := hQ101
  have N101 := Fr.app N0 N101q
  obtain ⟨_, _, ⟨T102, L102, k102, n102⟩, -, X102, ⟨Lc102, hQ102, l102, y102, z102⟩, st102⟩ := Jvm.LawKit.callS X101 hx (y := mn_20) hown (mvT hZ (tw hw 102 rfl)) (mvT hZ (tw hw 103 rfl)) (mvT hZ (tw hw 27 rfl)) (mvT hZ (tw hw 104 rfl)) (by decide) (backOf (W := 0) (rmGch l Z a0 hw [] a1 p2 ka N vs xc h0 n0 X00 SA SH SL V_a q0 q1 hbx) hZ (tw hw 104 rfl) (tw hw 27 rfl) (by decide) (by decide)) (g := (mkF m 7 #[vr a1, vi p2] [wi p2, wr a1])) rfl (by rw [hml]; rfl) (argsL := [wr a1, wi p2]) (rest := []) (lenOf pd_ABI_C rfl) rfl (Nat.le_refl _) (hb hby d25_7) (fun _ _ => ⟨rfl, eq101, (by decide : 0 + 0 ≤ _), (by decide : 0 + 0 ≤ _)⟩)
  dsimp only [Pt.U, Pt.locs, Pt.cells, Pt.slots] at X102 l102 y102 z102 st102 hQ102
  subst l102 y102 z102
  obtain ⟨rfl, N102q, eq102⟩ := hQ102
  have N102 := Fr.app N101 N102q
  obtain ⟨fs, hr, hrun, hended, hW, hsame⟩ := X102.leave (v := some (.int (nar .char xc))) (fun h => by rw [Bd.returns] at h; cases h)
  refine ⟨_, _, pre0 _ ?_, hrun, hended, _, _, rfl, ?_, ⟨_, rfl⟩, hW, hsame.mono (by decide) (by decide)⟩
  · show Go p e below s₁ (mkF m 0 #[vr a1, vi p2] []) _
    refine XS.iloadN X0.here hx rfl (hb hby d25_0) rfl ?_
    show Go p e below s₁ (mkF m 1 #[vr a1, vi p2] [wi p2]) _
    refine XS.aloadN X0.here hx rfl (hb hby d25_1) rfl rfl ?_
    show Go p e below s₁ (mkF m 2 #[vr a1, vi p2] [wr a1, wi p2]) _
    refine st101 _ ?_
    show Go p e below T101 (mkF m 5 #[vr a1, vi p2] []) _
    refine XS.aloadN X101.here hx rfl (hb hby d25_5) rfl rfl ?_
    show Go p e below T101 (mkF m 6 #[vr a1, vi p2] [wr a1]) _
    refine XS.iloadN X101.here hx rfl (hb hby d25_6) rfl ?_
    show Go p e below T101 (mkF m 7 #[vr a1, vi p2] [wi p2, wr a1]) _
    refine st102 _ ?_
    show Go p e below T102 (mkF m 10 #[vr a1, vi p2] [wi xc]) _
    exact retN X102 hx (t := .char) Bd.returns (by simp) (hb hby d25_10) hr
  · show Qs (some (.int xc)) h0 n0 _ T102.heap _
    rw [eq102]
    exact ⟨own_some (own_nar16 hbx), N102, rfl⟩
set_option maxRecDepth 65536 in
set_option maxHeartbeats 40000000 in
theorem rmCg_0 (l : Launch) (Z : State) (a0 : Array Value) (hw : ∀ d ∈ tables_1, d.before a0 Z = true) (ws : List Jvm.Cond) (a1 : Addr) (p2 : Int32) (t : Addr) (kt : ClassId) (N : Int32) (vs : List Value) (xc : Int32) (G1 : Int32) (fm : Value) (h0 : Heap) (n0 : Nat) (X00 : Old Z n0 h0) (O2 : pO2 Z G1) (P5 : ¬ (G1 = (0 : Int32))) (SA : pSA Z) (SH : pSH Z) (SL : pSL Z) (FM : pFM Z fm) (rf : fm.isRef = true) (E_a1 : Exa Z h0 a1 ST) (S_v : Fld Z h0 a1 ST "value" "[B" (.ref t)) (S_k : Fld Z h0 a1 ST "coder" "B" (.int (0 : Int32))) (V_t : Arv Z h0 t kt .byte N vs (.int (0 : Int32))) (h1 : ¬ (p2 < (0 : Int32))) (h2 : p2 < N) (q0 : EAt N vs p2 (StrChars.lo8 xc)) (hbx : ChB xc) (hlx : ¬ (255 : Int32) < xc) :
    MetFree l mn_9 (head1 (Jvm.Cond.code mn_9 jdk_42_method_56_code 2 (some .char) :: ws) ro_22) (fun a U => a = #[(.ref a1), (.int p2)] ∧ Z.Warmed39 U.vm ∧ U.heap = h0) (fun _ _ _ _ _ => True) (fun _ U o U' => ∃ rv rL, o = .returned rv ∧ Qs (some (.int xc)) h0 n0 rv U'.heap rL ∧ FrameEnd U o U' rL ro_22.cells ro_22.slots) := by
  refine MetFree.of_bodySF (plainFor_of_name pn_14) hisR ?_
  intro p e s m args below meth c s₁ Bd hml0 hP hK
  obtain ⟨rfl, hZ, hh⟩ := hP
  have hx := Bd.exec
  have hby := Bd.bytes
  have hml : c.maxLocals = 2 := hml0
  have hown : s.vm.findClass "java/lang/String" = some m.cls := findClass_of_methodNamed Bd.named
  have hnm := (name_of_methodNamed Bd.named Bd.method).1
  have X0 : Stand p l e ro_22 s m #[(.ref a1), (.int p2)] below meth c s₁ [] 0 0 := Stand.of_body Bd
  have e0 : s₁.heap = h0 := by rw [← hh, Bd.state]; rfl
  have N0 := Fr.nil n0
  have pre0 : ∀ t, Steps p.tables e below (s₁.setTop (mkF m 0 #[.val (.ref a1), .val (.int p2)] [])) t → Steps p.tables e below (s₁.setTop (entryFrame m #[(.ref a1), (.int p2)] 2)) t := fun t k => castTop (ef_14 m a1 p2) k
  obtain ⟨cq101, kq101, q101a, q101b, q101c⟩ := isOf hZ e0 E_a1
  obtain ⟨_, _, ⟨T101, L101, k101, n101⟩, -, X101, ⟨Lc101, hQ101, l101, y101, z101⟩, st101⟩ := X0.virtualBack hx (y := mn_12) (z := mn_12) hown (mvT hZ (tw hw 66 rfl)) (mvT hZ (tw hw 67 rfl)) (notFace_of_selects (args := #[]) (mvT hZ (tw hw 69 rfl))) (mvT hZ (tw hw 69 rfl)) (mvT hZ (tw hw 68 rfl)) (by decide) (backOf (W := 0) (rmIsl_0 l Z a0 hw [] a1 G1 h0 n0 X00 O2 P5 S_k) hZ (tw hw 70 rfl) (tw hw 12 rfl) (by decide) (by decide)) q101a q101c (g := (mkF m 1 #[vr a1, vi p2] [wr a1])) rfl (by rw [hml]; rfl) (Steps.refl _) (argsL := []) (rest := []) (lenOf pd__Z rfl) rfl (Nat.le_refl _) (hb hby d14_1) (fun _ _ => ⟨rfl, e0, (by decide : 0 + 0 ≤ _), (by decide : 0 + 0 ≤ _)⟩)
  dsimp only [Pt.U, Pt.locs, Pt.cells, Pt.slots] at X101 l101 y101 z101 st101 hQ101
  subst l101 y101 z101
  obtain ⟨rfl, N101q, eq101⟩ := hQ101
  have N101 := Fr.app N0 N101q
  obtain ⟨T102, X102, e102, st102⟩ := getF X101 hx hZ hown (host := "") (Or.inl (tw hw 38 rfl)) Via.refl eq101 S_v (g := (mkF m 8 #[vr a1, vi p2] [wr a1])) rfl rfl (hb hby d14_8)
  obtain ⟨_, _, ⟨T103, L103, k103, n103⟩, -, X103, ⟨Lc103, hQ103, l103, y103, z103⟩, st103⟩ := Jvm.LawKit.callS X102 hx (y := mn_14) hown (mvT hZ (tw hw 71 rfl)) (mvT hZ (tw hw 72 rfl)) (mvT hZ (tw hw 73 rfl)) (mvT hZ (tw hw 74 rfl)) (by decide) (backOf (W := 0) (rmCal l Z a0 hw [] t p2 kt N vs xc fm h0 n0 X00 FM rf V_t h1 h2 q0 hbx hlx) hZ (tw hw 74 rfl) (tw hw 73 rfl) (by decide) (by decide)) (g := (mkF m 12 #[vr a1, vi p2] [wi p2, wr t])) rfl (by rw [hml]; rfl) (argsL := [wr t, wi p2]) (rest := []) (lenOf pd_ABI_C rfl) rfl (Nat.le_refl _) (hb hby d14_12) (fun _ _ => ⟨rfl, e102, (by decide : 0 + 0 ≤ _), (by decide : 0 + 0 ≤ _)⟩)
  dsimp only [Pt.U, Pt.locs, Pt.cells, Pt.slots] at X103 l103 y103 z103 st103 hQ103
  subst l103 y103 z103
  obtain ⟨rfl, N103q, eq103⟩ := hQ103
  have N103 := Fr.app N101 N103q
  obtain ⟨fs, hr, hrun, hended, hW, hsame⟩ := X103.leave (v := some (.int (nar .char xc))) (fun h => by rw [Bd.returns] at h; cases h)
  refine ⟨_, _, pre0 _ ?_, hrun, hended, _, _, rfl, ?_, ⟨_, rfl⟩, hW, hsame.mono (by decide) (by decide)⟩
  · show Go p e below s₁ (mkF m 0 #[vr a1, vi p2] []) _
    refine XS.aloadN X0.here hx rfl (hb hby d14_0) rfl rfl ?_
    show Go p e below s₁ (mkF m 1 #[vr a1, vi p2] [wr a1]) _
    refine st101.trans ?_
    show Go p e below T101 (mkF m 4 #[vr a1, vi p2] [wi 1]) _
    refine XS.ifNo X101.here hx rfl (hb hby d14_4) rfl ((if0 _ _).trans (feq (by decide : ¬ ((1 : Int32) = (0 : Int32)))).1) ?_
    show Go p e below T101 (mkF m 7 #[vr a1, vi p2] []) _
    refine XS.aloadN X101.here hx rfl (hb hby d14_7) rfl rfl ?_
    show Go p e below T101 (mkF m 8 #[vr a1, vi p2] [wr a1]) _
    refine st102 _ ?_
    show Go p e below T102 (mkF m 11 #[vr a1, vi p2] [wr t]) _
    refine XS.iloadN X102.here hx rfl (hb hby d14_11) rfl ?_
    show Go p e below T102 (mkF m 12 #[vr a1, vi p2] [wi p2, wr t]) _
    refine st103 _ ?_
    show Go p e below T103 (mkF m 15 #[vr a1, vi p2] [wi xc]) _
    exact retN X103 hx (t := .char) Bd.returns (by simp) (hb hby d14_15) hr
  · show Qs (some (.int xc)) h0 n0 _ T103.heap _
    rw [eq103]
    exact ⟨own_some (own_nar16 hbx), N103, rfl⟩
set_option maxRecDepth 65536 in
set_option maxHeartbeats 40000000 in
theorem rmCg_1 (l : Launch) (Z : State) (a0 : Array Value) (hw : ∀ d ∈ tables_1, d.before a0 Z = true) (ws : List Jvm.Cond) (a1 : Addr) (p2 : Int32) (t : Addr) (kt : ClassId) (N : Int32) (vs : List Value) (xc : Int32) (G1 : Int32) (fm : Value) (h0 : Heap) (n0 : Nat) (X00 : Old Z n0 h0) (O2 : pO2 Z G1) (P5 : ¬ (G1 = (0 : Int32))) (SA : pSA Z) (SH : pSH Z) (SL : pSL Z) (FM : pFM Z fm) (rf : fm.isRef = true) (E_a1 : Exa Z h0 a1 ST) (S_v : Fld Z h0 a1 ST "value" "[B" (.ref t)) (S_k : Fld Z h0 a1 ST "coder" "B" (.int (1 : Int32))) (V_t : Arv Z h0 t kt .byte N vs (.int (0 : Int32))) (h1 : ¬ (p2 < (0 : Int32))) (h2 : p2 < (N >>> ((1 : Int32) &&& 31))) (q0 : EAt N vs (p2 <<< ((1 : Int32) &&& 31)) (StrChars.lo8 xc)) (q1 : EAt N vs ((p2 <<< ((1 : Int32) &&& 31)) + (1 : Int32)) (StrChars.hi8 xc)) (hbx : ChB xc) :
    MetFree l mn_9 (head1 (Jvm.Cond.code mn_9 jdk_42_method_56_code 2 (some .char) :: ws) ro_22) (fun a U => a = #[(.ref a1), (.int p2)] ∧ Z.Warmed39 U.vm ∧ U.heap = h0) (fun _ _ _ _ _ => True) (fun _ U o U' => ∃ rv rL, o = .returned rv ∧ Qs (some (.int xc)) h0 n0 rv U'.heap rL ∧ FrameEnd U o U' rL ro_22.cells ro_22.slots) := by
  refine MetFree.of_bodySF (plainFor_of_name pn_14) hisR ?_
  intro p e s m args below meth c s₁ Bd hml0 hP hK
  obtain ⟨rfl, hZ, hh⟩ := hP
  have hx := Bd.exec
  have hby := Bd.bytes
  have hml : c.maxLocals = 2 := hml0
  have hown : s.vm.findClass "java/lang/String" = some m.cls := findClass_of_methodNamed Bd.named
  have hnm := (name_of_methodNamed Bd.named Bd.method).1
  have X0 : Stand p l e ro_22 s m #[(.ref a1), (.int p2)] below meth c s₁ [] 0 0 := Stand.of_body Bd
  have e0 : s₁.heap = h0 := by rw [← hh, Bd.state]; rfl
  have N0 := Fr.nil n0
  have pre0 : ∀ t, Steps p.tables e below (s₁.setTop (mkF m 0 #[.val (.ref a1), .val (.int p2)] [])) t → Steps p.tables e below (s₁.setTop (entryFrame m #[(.ref a1), (.int p2)] 2)) t := fun t k => castTop (ef_14 m a1 p2) k
  obtain ⟨cq101, kq101, q101a, q101b, q101c⟩ := isOf hZ e0 E_a1
  obtain ⟨_, _, ⟨T101, L101, k101, n101⟩, -, X101, ⟨Lc101, hQ101, l101, y101, z101⟩, st101⟩ := X0.virtualBack hx (y := mn_12) (z := mn_12) hown (mvT hZ (tw hw 66 rfl)) (mvT hZ (tw hw 67 rfl)) (notFace_of_selects (args := #[]) (mvT hZ (tw hw 69 rfl))) (mvT hZ (tw hw 69 rfl)) (mvT hZ (tw hw 68 rfl)) (by decide) (backOf (W := 0) (rmIsl_1 l Z a0 hw [] a1 G1 h0 n0 X00 O2 P5 S_k) hZ (tw hw 70 rfl) (tw hw 12 rfl) (by decide) (by decide)) q101a q101c (g := (mkF m 1 #[vr a1, vi p2] [wr a1])) rfl (by rw [hml]; rfl) (Steps.refl _) (argsL := []) (rest := []) (lenOf pd__Z rfl) rfl (Nat.le_refl _) (hb hby d14_1) (fun _ _ => ⟨rfl, e0, (by decide : 0 + 0 ≤ _), (by decide : 0 + 0 ≤ _)⟩)
  dsimp only [Pt.U, Pt.locs, Pt.cells, Pt.slots] at X101 l101 y101 z101 st101 hQ101
  subst l101 y101 z101
  obtain ⟨rfl, N101q, eq101⟩ := hQ101
  have N101 := Fr.app N0 N101q
  obtain ⟨T102, X102, e102, st102⟩ := getF X101 hx hZ hown (host := "") (Or.inl (tw hw 38 rfl)) Via.refl eq101 S_v (g := (mkF m 17 #[vr a1, vi p2] [wr a1])) rfl rfl (hb hby d14_17)
  obtain ⟨_, _, ⟨T103, L103, k103, n103⟩, -, X103, ⟨Lc103, hQ103, l103, y103, z103⟩, st103⟩ := Jvm.LawKit.callS X102 hx (y := mn_15) hown (mvT hZ (tw hw 105 rfl)) (mvT hZ (tw hw 106 rfl)) (mvT hZ (tw hw 27 rfl)) (mvT hZ (tw hw 107 rfl)) (by decide) (backOf (W := 0) (rmCa16 l Z a0 hw [] t p2 kt N vs xc fm h0 n0 X00 SA SH SL FM rf V_t h1 h2 q0 q1 hbx) hZ (tw hw 107 rfl) (tw hw 27 rfl) (by decide) (by decide)) (g := (mkF m 21 #[vr a1, vi p2] [wi p2, wr t])) rfl (by rw [hml]; rfl) (argsL := [wr t, wi p2]) (rest := []) (lenOf pd_ABI_C rfl) rfl (Nat.le_refl _) (hb hby d14_21) (fun _ _ => ⟨rfl, e102, (by decide : 0 + 0 ≤ _), (by decide : 0 + 0 ≤ _)⟩)
  dsimp only [Pt.U, Pt.locs, Pt.cells, Pt.slots] at X103 l103 y103 z103 st103 hQ103
  subst l103 y103 z103
  obtain ⟨rfl, N103q, eq103⟩ := hQ103
  have N103 := Fr.app N101 N103q
  obtain ⟨fs, hr, hrun, hended, hW, hsame⟩ := X103.leave (v := some (.int (nar .char xc))) (fun h => by rw [Bd.returns] at h; cases h)
  refine ⟨_, _, pre0 _ ?_, hrun, hended, _, _, rfl, ?_, ⟨_, rfl⟩, hW, hsame.mono (by decide) (by decide)⟩
  · show Go p e below s₁ (mkF m 0 #[vr a1, vi p2] []) _
    refine XS.aloadN X0.here hx rfl (hb hby d14_0) rfl rfl ?_
    show Go p e below s₁ (mkF m 1 #[vr a1, vi p2] [wr a1]) _
    refine st101.trans ?_
    show Go p e below T101 (mkF m 4 #[vr a1, vi p2] [wi 0]) _
    refine XS.ifYes X101.here hx rfl (pc0 := 4) (pc' := 16) rfl (hb hby d14_4) rfl ((if0 _ _).trans (teq (rfl : (0 : Int32) = (0 : Int32))).1) (by decide) (by decide) ?_
    show Go p e below T101 (mkF m 16 #[vr a1, vi p2] []) _
    refine XS.aloadN X101.here hx rfl (hb hby d14_16) rfl rfl ?_
    show Go p e below T101 (mkF m 17 #[vr a1, vi p2] [wr a1]) _
    refine st102 _ ?_
    show Go p e below T102 (mkF m 20 #[vr a1, vi p2] [wr t]) _
    refine XS.iloadN X102.here hx rfl (hb hby d14_20) rfl ?_
    show Go p e below T102 (mkF m 21 #[vr a1, vi p2] [wi p2, wr t]) _
    refine st103 _ ?_
    show Go p e below T103 (mkF m 24 #[vr a1, vi p2] [wi xc]) _
    exact retN X103 hx (t := .char) Bd.returns (by simp) (hb hby d14_24) hr
  · show Qs (some (.int xc)) h0 n0 _ T103.heap _
    rw [eq103]
    exact ⟨own_some (own_nar16 hbx), N103, rfl⟩
theorem rmCh_1_0 (l : Launch) (Z : State) (a0 : Array Value) (hw : ∀ d ∈ tables_1, d.before a0 Z = true) (ws : List Jvm.Cond) (a1 : Addr) (t : Addr) (kt : ClassId) (cd : Int32) (N : Int32) (vs : List Value) (x1 : Int32) (G1 : Int32) (fm : Value) (h0 : Heap) (n0 : Nat) (X00 : Old Z n0 h0) (O2 : pO2 Z G1) (P5 : ¬ (G1 = (0 : Int32))) (SA : pSA Z) (SH : pSH Z) (SL : pSL Z) (FM : pFM Z fm) (rf : fm.isRef = true) (E_a1 : Exa Z h0 a1 ST) (S_v : Fld Z h0 a1 ST "value" "[B" (.ref t)) (hbx : ChB x1) (S_k : Fld Z h0 a1 ST "coder" "B" (.int cd)) (V_t : Arv Z h0 t kt .byte N vs (.int (0 : Int32))) (hc : StrChars.Road.CodA [x1] cd N vs) :
    MetFree l mn_9 (head1 (Jvm.Cond.code mn_9 jdk_42_method_56_code 2 (some .char) :: ws) ro_22) (fun a U => a = #[(.ref a1), (.int (0 : Int32))] ∧ Z.Warmed39 U.vm ∧ U.heap = h0) (fun _ _ _ _ _ => True) (fun _ U o U' => ∃ rv rL, o = .returned rv ∧ Qs (some (.int x1)) h0 n0 rv U'.heap rL ∧ FrameEnd U o U' rL ro_22.cells ro_22.slots) := by
  rcases hc with ⟨rfl, rfl, rfl, hn⟩ | ⟨rfl, rfl, rfl, -⟩
  · exact rmCg_0 l Z a0 hw ws a1 (0 : Int32) t kt (1 : Int32) [.int (StrChars.lo8 x1)] x1 G1 fm h0 n0 X00 O2 P5 SA SH SL FM rf E_a1 S_v S_k V_t (by decide) (by decide) ⟨⟨by decide, by decide⟩, by decide, rfl⟩ hbx (hn _ (List.mem_of_getElem? (i := 0) rfl))
  · exact rmCg_1 l Z a0 hw ws a1 (0 : Int32) t kt (2 : Int32) [.int (StrChars.lo8 x1), .int (StrChars.hi8 x1)] x1 G1 fm h0 n0 X00 O2 P5 SA SH SL FM rf E_a1 S_v S_k V_t (by decide) (by decide) ⟨⟨by decide, by decide⟩, by decide, rfl⟩ ⟨⟨by decide, by decide⟩, by decide, rfl⟩ hbx
theorem rmCh_2_0 (l : Launch) (Z : State) (a0 : Array Value) (hw : ∀ d ∈ tables_1, d.before a0 Z = true) (ws : List Jvm.Cond) (a1 : Addr) (t : Addr) (kt : ClassId) (cd : Int32) (N : Int32) (vs : List Value) (x1 : Int32) (x2 : Int32) (G1 : Int32) (fm : Value) (h0 : Heap) (n0 : Nat) (X00 : Old Z n0 h0) (O2 : pO2 Z G1) (P5 : ¬ (G1 = (0 : Int32))) (SA : pSA Z) (SH : pSH Z) (SL : pSL Z) (FM : pFM Z fm) (rf : fm.isRef = true) (E_a1 : Exa Z h0 a1 ST) (S_v : Fld Z h0 a1 ST "value" "[B" (.ref t)) (hbx : ChB x1) (S_k : Fld Z h0 a1 ST "coder" "B" (.int cd)) (V_t : Arv Z h0 t kt .byte N vs (.int (0 : Int32))) (hc : StrChars.Road.CodA [x1, x2] cd N vs) :
    MetFree l mn_9 (head1 (Jvm.Cond.code mn_9 jdk_42_method_56_code 2 (some .char) :: ws) ro_22) (fun a U => a = #[(.ref a1), (.int (0 : Int32))] ∧ Z.Warmed39 U.vm ∧ U.heap = h0) (fun _ _ _ _ _ => True) (fun _ U o U' => ∃ rv rL, o = .returned rv ∧ Qs (some (.int x1)) h0 n0 rv U'.heap rL ∧ FrameEnd U o U' rL ro_22.cells ro_22.slots) := by
  rcases hc with ⟨rfl, rfl, rfl, hn⟩ | ⟨rfl, rfl, rfl, -⟩
  · exact rmCg_0 l Z a0 hw ws a1 (0 : Int32) t kt (2 : Int32) [.int (StrChars.lo8 x1), .int (StrChars.lo8 x2)] x1 G1 fm h0 n0 X00 O2 P5 SA SH SL FM rf E_a1 S_v S_k V_t (by decide) (by decide) ⟨⟨by decide, by decide⟩, by decide, rfl⟩ hbx (hn _ (List.mem_of_getElem? (i := 0) rfl))
  · exact rmCg_1 l Z a0 hw ws a1 (0 : Int32) t kt (4 : Int32) [.int (StrChars.lo8 x1), .int (StrChars.hi8 x1), .int (StrChars.lo8 x2), .int (StrChars.hi8 x2)] x1 G1 fm h0 n0 X00 O2 P5 SA SH SL FM rf E_a1 S_v S_k V_t (by decide) (by decide) ⟨⟨by decide, by decide⟩, by decide, rfl⟩ ⟨⟨by decide, by decide⟩, by decide, rfl⟩ hbx
theorem rmCh_2_1 (l : Launch) (Z : State) (a0 : Array Value) (hw : ∀ d ∈ tables_1, d.before a0 Z = true) (ws : List Jvm.Cond) (a1 : Addr) (t : Addr) (kt : ClassId) (cd : Int32) (N : Int32) (vs : List Value) (x1 : Int32) (x2 : Int32) (G1 : Int32) (fm : Value) (h0 : Heap) (n0 : Nat) (X00 : Old Z n0 h0) (O2 : pO2 Z G1) (P5 : ¬ (G1 = (0 : Int32))) (SA : pSA Z) (SH : pSH Z) (SL : pSL Z) (FM : pFM Z fm) (rf : fm.isRef = true) (E_a1 : Exa Z h0 a1 ST) (S_v : Fld Z h0 a1 ST "value" "[B" (.ref t)) (hbx : ChB x2) (S_k : Fld Z h0 a1 ST "coder" "B" (.int cd)) (V_t : Arv Z h0 t kt .byte N vs (.int (0 : Int32))) (hc : StrChars.Road.CodA [x1, x2] cd N vs) :
    MetFree l mn_9 (head1 (Jvm.Cond.code mn_9 jdk_42_method_56_code 2 (some .char) :: ws) ro_22) (fun a U => a = #[(.ref a1), (.int (1 : Int32))] ∧ Z.Warmed39 U.vm ∧ U.heap = h0) (fun _ _ _ _ _ => True) (fun _ U o U' => ∃ rv rL, o = .returned rv ∧ Qs (some (.int x2)) h0 n0 rv U'.heap rL ∧ FrameEnd U o U' rL ro_22.cells ro_22.slots) := by
  rcases hc with ⟨rfl, rfl, rfl, hn⟩ | ⟨rfl, rfl, rfl, -⟩
  · exact rmCg_0 l Z a0 hw ws a1 (1 : Int32) t kt (2 : Int32) [.int (StrChars.lo8 x1), .int (StrChars.lo8 x2)] x2 G1 fm h0 n0 X00 O2 P5 SA SH SL FM rf E_a1 S_v S_k V_t (by decide) (by decide) ⟨⟨by decide, by decide⟩, by decide, rfl⟩ hbx (hn _ (List.mem_of_getElem? (i := 1) rfl))
  · exact rmCg_1 l Z a0 hw ws a1 (1 : Int32) t kt (4 : Int32) [.int (StrChars.lo8 x1), .int (StrChars.hi8 x1), .int (StrChars.lo8 x2), .int (StrChars.hi8 x2)] x2 G1 fm h0 n0 X00 O2 P5 SA SH SL FM rf E_a1 S_v S_k V_t (by decide) (by decide) ⟨⟨by decide, by decide⟩, by decide, rfl⟩ ⟨⟨by decide, by decide⟩, by decide, rfl⟩ hbx
theorem rmCh_3_0 (l : Launch) (Z : State) (a0 : Array Value) (hw : ∀ d ∈ tables_1, d.before a0 Z = true) (ws : List Jvm.Cond) (a1 : Addr) (t : Addr) (kt : ClassId) (cd : Int32) (N : Int32) (vs : List Value) (x1 : Int32) (x2 : Int32) (x3 : Int32) (G1 : Int32) (fm : Value) (h0 : Heap) (n0 : Nat) (X00 : Old Z n0 h0) (O2 : pO2 Z G1) (P5 : ¬ (G1 = (0 : Int32))) (SA : pSA Z) (SH : pSH Z) (SL : pSL Z) (FM : pFM Z fm) (rf : fm.isRef = true) (E_a1 : Exa Z h0 a1 ST) (S_v : Fld Z h0 a1 ST "value" "[B" (.ref t)) (hbx : ChB x1) (S_k : Fld Z h0 a1 ST "coder" "B" (.int cd)) (V_t : Arv Z h0 t kt .byte N vs (.int (0 : Int32))) (hc : StrChars.Road.CodA [x1, x2, x3] cd N vs) :
    MetFree l mn_9 (head1 (Jvm.Cond.code mn_9 jdk_42_method_56_code 2 (some .char) :: ws) ro_22) (fun a U => a = #[(.ref a1), (.int (0 : Int32))] ∧ Z.Warmed39 U.vm ∧ U.heap = h0) (fun _ _ _ _ _ => True) (fun _ U o U' => ∃ rv rL, o = .returned rv ∧ Qs (some (.int x1)) h0 n0 rv U'.heap rL ∧ FrameEnd U o U' rL ro_22.cells ro_22.slots) := by
  rcases hc with ⟨rfl, rfl, rfl, hn⟩ | ⟨rfl, rfl, rfl, -⟩
  · exact rmCg_0 l Z a0 hw ws a1 (0 : Int32) t kt (3 : Int32) [.int (StrChars.lo8 x1), .int (StrChars.lo8 x2), .int (StrChars.lo8 x3)] x1 G1 fm h0 n0 X00 O2 P5 SA SH SL FM rf E_a1 S_v S_k V_t (by decide) (by decide) ⟨⟨by decide, by decide⟩, by decide, rfl⟩ hbx (hn _ (List.mem_of_getElem? (i := 0) rfl))
  · exact rmCg_1 l Z a0 hw ws a1 (0 : Int32) t kt (6 : Int32) [.int (StrChars.lo8 x1), .int (StrChars.hi8 x1), .int (StrChars.lo8 x2), .int (StrChars.hi8 x2), .int (StrChars.lo8 x3), .int (StrChars.hi8 x3)] x1 G1 fm h0 n0 X00 O2 P5 SA SH SL FM rf E_a1 S_v S_k V_t (by decide) (by decide) ⟨⟨by decide, by decide⟩, by decide, rfl⟩ ⟨⟨by decide, by decide⟩, by decide, rfl⟩ hbx
theorem rmCh_3_1 (l : Launch) (Z : State) (a0 : Array Value) (hw : ∀ d ∈ tables_1, d.before a0 Z = true) (ws : List Jvm.Cond) (a1 : Addr) (t : Addr) (kt : ClassId) (cd : Int32) (N : Int32) (vs : List Value) (x1 : Int32) (x2 : Int32) (x3 : Int32) (G1 : Int32) (fm : Value) (h0 : Heap) (n0 : Nat) (X00 : Old Z n0 h0) (O2 : pO2 Z G1) (P5 : ¬ (G1 = (0 : Int32))) (SA : pSA Z) (SH : pSH Z) (SL : pSL Z) (FM : pFM Z fm) (rf : fm.isRef = true) (E_a1 : Exa Z h0 a1 ST) (S_v : Fld Z h0 a1 ST "value" "[B" (.ref t)) (hbx : ChB x2) (S_k : Fld Z h0 a1 ST "coder" "B" (.int cd)) (V_t : Arv Z h0 t kt .byte N vs (.int (0 : Int32))) (hc : StrChars.Road.CodA [x1, x2, x3] cd N vs) :
    MetFree l mn_9 (head1 (Jvm.Cond.code mn_9 jdk_42_method_56_code 2 (some .char) :: ws) ro_22) (fun a U => a = #[(.ref a1), (.int (1 : Int32))] ∧ Z.Warmed39 U.vm ∧ U.heap = h0) (fun _ _ _ _ _ => True) (fun _ U o U' => ∃ rv rL, o = .returned rv ∧ Qs (some (.int x2)) h0 n0 rv U'.heap rL ∧ FrameEnd U o U' rL ro_22.cells ro_22.slots) := by
  rcases hc with ⟨rfl, rfl, rfl, hn⟩ | ⟨rfl, rfl, rfl, -⟩
  · exact rmCg_0 l Z a0 hw ws a1 (1 : Int32) t kt (3 : Int32) [.int (StrChars.lo8 x1), .int (StrChars.lo8 x2), .int (StrChars.lo8 x3)] x2 G1 fm h0 n0 X00 O2 P5 SA SH SL FM rf E_a1 S_v S_k V_t (by decide) (by decide) ⟨⟨by decide, by decide⟩, by decide, rfl⟩ hbx (hn _ (List.mem_of_getElem? (i := 1) rfl))
  · exact rmCg_1 l Z a0 hw ws a1 (1 : Int32) t kt (6 : Int32) [.int (StrChars.lo8 x1), .int (StrChars.hi8 x1), .int (StrChars.lo8 x2), .int (StrChars.hi8 x2), .int (StrChars.lo8 x3), .int (StrChars.hi8 x3)] x2 G1 fm h0 n0 X00 O2 P5 SA SH SL FM rf E_a1 S_v S_k V_t (by decide) (by decide) ⟨⟨by decide, by decide⟩, by decide, rfl⟩ ⟨⟨by decide, by decide⟩, by decide, rfl⟩ hbx
theorem rmCh_3_2 (l : Launch) (Z : State) (a0 : Array Value) (hw : ∀ d ∈ tables_1, d.before a0 Z = true) (ws : List Jvm.Cond) (a1 : Addr) (t : Addr) (kt : ClassId) (cd : Int32) (N : Int32) (vs : List Value) (x1 : Int32) (x2 : Int32) (x3 : Int32) (G1 : Int32) (fm : Value) (h0 : Heap) (n0 : Nat) (X00 : Old Z n0 h0) (O2 : pO2 Z G1) (P5 : ¬ (G1 = (0 : Int32))) (SA : pSA Z) (SH : pSH Z) (SL : pSL Z) (FM : pFM Z fm) (rf : fm.isRef = true) (E_a1 : Exa Z h0 a1 ST) (S_v : Fld Z h0 a1 ST "value" "[B" (.ref t)) (hbx : ChB x3) (S_k : Fld Z h0 a1 ST "coder" "B" (.int cd)) (V_t : Arv Z h0 t kt .byte N vs (.int (0 : Int32))) (hc : StrChars.Road.CodA [x1, x2, x3] cd N vs) :
    MetFree l mn_9 (head1 (Jvm.Cond.code mn_9 jdk_42_method_56_code 2 (some .char) :: ws) ro_22) (fun a U => a = #[(.ref a1), (.int (2 : Int32))] ∧ Z.Warmed39 U.vm ∧ U.heap = h0) (fun _ _ _ _ _ => True) (fun _ U o U' => ∃ rv rL, o = .returned rv ∧ Qs (some (.int x3)) h0 n0 rv U'.heap rL ∧ FrameEnd U o U' rL ro_22.cells ro_22.slots) := by
  rcases hc with ⟨rfl, rfl, rfl, hn⟩ | ⟨rfl, rfl, rfl, -⟩
  · exact rmCg_0 l Z a0 hw ws a1 (2 : Int32) t kt (3 : Int32) [.int (StrChars.lo8 x1), .int (StrChars.lo8 x2), .int (StrChars.lo8 x3)] x3 G1 fm h0 n0 X00 O2 P5 SA SH SL FM rf E_a1 S_v S_k V_t (by decide) (by decide) ⟨⟨by decide, by decide⟩, by decide, rfl⟩ hbx (hn _ (List.mem_of_getElem? (i := 2) rfl))
  · exact rmCg_1 l Z a0 hw ws a1 (2 : Int32) t kt (6 : Int32) [.int (StrChars.lo8 x1), .int (StrChars.hi8 x1), .int (StrChars.lo8 x2), .int (StrChars.hi8 x2), .int (StrChars.lo8 x3), .int (StrChars.hi8 x3)] x3 G1 fm h0 n0 X00 O2 P5 SA SH SL FM rf E_a1 S_v S_k V_t (by decide) (by decide) ⟨⟨by decide, by decide⟩, by decide, rfl⟩ ⟨⟨by decide, by decide⟩, by decide, rfl⟩ hbx
set_option maxRecDepth 65536 in
set_option maxHeartbeats 40000000 in
theorem tn_1_0 {p : Program} {l : Launch} {e : Env} {s : State} {m : MethodId} {args : Array Value} {below : List Frame} {meth : Method} {c : Code} {T0 : State} {locs : List Loc} {cells slots : Nat} {Z : State} {a0 : Array Value} {h0 : Heap} {n0 : Nat} (a1 : Addr) (a2 : Addr) (x1 : Int32) (z1 : Int32) (G1 : Int32) (fm : Value)
    (X0 : Stand p l e ro_23 s m args below meth c T0 locs cells slots) (hx : p.tables.exec = Jvm.exec) (hZ : Z.Warmed39 s.vm) (hw : ∀ d ∈ tables_1, d.before a0 Z = true) (hby : c.code = prog_7_method_7_code) (hml : c.maxLocals = 3) (hown : s.vm.findClass "com/example/webhook_guard/webhookguard/http/HeaderField" = some m.cls) (e0 : T0.heap = h0) (N0 : Fr n0 locs) (X00 : Old Z n0 h0) (qc : cells ≤ ro_23.cells) (qs : slots ≤ ro_23.slots) (O2 : pO2 Z G1) (P5 : ¬ (G1 = (0 : Int32))) (SA : pSA Z) (SH : pSH Z) (SL : pSL Z) (FM : pFM Z fm) (rf : fm.isRef = true) (S1 : Str Z h0 a1 [x1]) (S2 : Str Z h0 a2 [z1]) (hx1 : ChB x1) (hz1 : ChB z1) :
    ∃ (T' : State) (L' : List Loc), Stand p l e ro_23 s m args below meth c T' L' cells slots ∧ Fr n0 L' ∧ T'.heap = h0 ∧ ∀ target, Steps p.tables e below (T'.setTop (mkF m 39 #[vr a1, vr a2, vi 0] [wi (own_low z1), wi (own_low x1)])) target → Steps p.tables e below (T0.setTop (mkF m 15 #[vr a1, vr a2, vi 0] [])) target := by
  have hwl : ∀ d ∈ StrChars.Road.wordsLen, d.before a0 Z = true := fun d hd => hw d ((by decide +kernel : ∀ d ∈ StrChars.Road.wordsLen, d ∈ tables_1) d hd)
  obtain ⟨t1, k1, cd1, N1a, vs1, ⟨E_a1, S_v1, S_k1, V_t1⟩, hc1a⟩ := S1
  obtain ⟨t2, k2, cd2, N2a, vs2, ⟨E_a2, S_v2, S_k2, V_t2⟩, hc2a⟩ := S2
  obtain ⟨cq101, kq101, q101a, q101b, q101c⟩ := isOf hZ e0 E_a1
  obtain ⟨_, _, ⟨T101, L101, k101, n101⟩, -, X101, ⟨Lc101, hQ101, l101, y101, z101⟩, st101⟩ := X0.virtualBack hx (y := mn_13) (z := mn_13) hown (mvT hZ (tw hw 47 rfl)) (mvT hZ (tw hw 48 rfl)) (notFace_of_selects (args := #[]) (mvT hZ (tw hw 50 rfl))) (mvT hZ (tw hw 50 rfl)) (mvT hZ (tw hw 49 rfl)) (by decide) (StrChars.Road.lenW (W := 1) hZ hwl (kI := 4) (tw hw 11 rfl) (cs := ([x1] : List Int32)) E_a1 S_v1 S_k1 V_t1 hc1a (own_alli hx1 own_all0) (O2.ext X00.2) P5 (Nat.le_of_ble_eq_true rfl) (by decide) (by decide)) q101a q101c (g := (mkF m 17 #[vr a1, vr a2, vi 0] [wr a1, wi 0])) rfl (by rw [hml]; rfl) (Steps.refl _) (argsL := []) (rest := [wi 0]) (lenOf pd__I rfl) rfl (Nat.le_refl _) (hb hby d10_17) (fun _ _ => ⟨rfl, e0, qc, qs⟩)
  dsimp only [Pt.U, Pt.locs, Pt.cells, Pt.slots] at X101 l101 y101 z101 st101 hQ101
  subst l101 y101 z101
  obtain ⟨hv101, rfl, eq101⟩ := hQ101
  obtain rfl : _ = some (Value.int (1 : Int32)) := hv101
  have N101 := Fr.app N0 (Fr.nil n0)
  obtain ⟨cq102, kq102, q102a, q102b, q102c⟩ := isOf hZ eq101 E_a1
  obtain ⟨_, _, ⟨T102, L102, k102, n102⟩, -, X102, ⟨Lc102, hQ102, l102, y102, z102⟩, st102⟩ := X101.virtualBack hx (y := mn_9) (z := mn_9) hown (mvT hZ (tw hw 61 rfl)) (mvT hZ (tw hw 62 rfl)) (notFace_of_selects (args := #[]) (mvT hZ (tw hw 64 rfl))) (mvT hZ (tw hw 64 rfl)) (mvT hZ (tw hw 63 rfl)) (by decide) (backOf (W := 0) (rmCh_1_0 l Z a0 hw [] a1 t1 k1 cd1 N1a vs1 x1 G1 fm h0 n0 X00 O2 P5 SA SH SL FM rf E_a1 S_v1 hx1 S_k1 V_t1 hc1a) hZ (tw hw 65 rfl) (tw hw 12 rfl) (by decide) (by decide)) q102a q102c (g := (mkF m 25 #[vr a1, vr a2, vi 0] [wi 0, wr a1])) rfl (by rw [hml]; rfl) (Steps.refl _) (argsL := [wi 0]) (rest := []) (lenOf pd_I_C rfl) rfl (Nat.le_refl _) (hb hby d10_25) (fun _ _ => ⟨rfl, eq101, qc, qs⟩)
  dsimp only [Pt.U, Pt.locs, Pt.cells, Pt.slots] at X102 l102 y102 z102 st102 hQ102
  subst l102 y102 z102
  obtain ⟨rfl, N102q, eq102⟩ := hQ102
  have N102 := Fr.app N101 N102q
  obtain ⟨_, _, ⟨T103, L103, k103, n103⟩, -, X103, ⟨Lc103, hQ103, l103, y103, z103⟩, st103⟩ := Jvm.LawKit.callS X102 hx (y := mn_1) hown (mvT hZ (tw hw 83 rfl)) (mvT hZ (tw hw 84 rfl)) (mvT hZ (tw hw 45 rfl)) (mvT hZ (tw hw 85 rfl)) (by decide) (backOf (W := 0) (rmLow l Z a0 hw [] x1 h0 n0 X00 ) hZ (tw hw 85 rfl) (tw hw 45 rfl) (by decide) (by decide)) (g := (mkF m 28 #[vr a1, vr a2, vi 0] [wi x1])) rfl (by rw [hml]; rfl) (argsL := [wi x1]) (rest := []) (lenOf pd_C_C rfl) rfl (Nat.le_refl _) (hb hby d10_28) (fun _ _ => ⟨rfl, eq102, qc, qs⟩)
  dsimp only [Pt.U, Pt.locs, Pt.cells, Pt.slots] at X103 l103 y103 z103 st103 hQ103
  subst l103 y103 z103
  obtain ⟨rfl, N103q, eq103⟩ := hQ103
  have N103 := Fr.app N102 N103q
  obtain ⟨cq104, kq104, q104a, q104b, q104c⟩ := isOf hZ eq103 E_a2
  obtain ⟨_, _, ⟨T104, L104, k104, n104⟩, -, X104, ⟨Lc104, hQ104, l104, y104, z104⟩, st104⟩ := X103.virtualBack hx (y := mn_9) (z := mn_9) hown (mvT hZ (tw hw 61 rfl)) (mvT hZ (tw hw 62 rfl)) (notFace_of_selects (args := #[]) (mvT hZ (tw hw 64 rfl))) (mvT hZ (tw hw 64 rfl)) (mvT hZ (tw hw 63 rfl)) (by decide) (backOf (W := 1) (rmCh_1_0 l Z a0 hw [] a2 t2 k2 cd2 N2a vs2 z1 G1 fm h0 n0 X00 O2 P5 SA SH SL FM rf E_a2 S_v2 hz1 S_k2 V_t2 hc2a) hZ (tw hw 65 rfl) (tw hw 12 rfl) (by decide) (by decide)) q104a q104c (g := (mkF m 33 #[vr a1, vr a2, vi 0] [wi 0, wr a2, wi (own_low x1)])) rfl (by rw [hml]; rfl) (Steps.refl _) (argsL := [wi 0]) (rest := [wi (own_low x1)]) (lenOf pd_I_C rfl) rfl (Nat.le_refl _) (hb hby d10_33) (fun _ _ => ⟨rfl, eq103, qc, qs⟩)
  dsimp only [Pt.U, Pt.locs, Pt.cells, Pt.slots] at X104 l104 y104 z104 st104 hQ104
  subst l104 y104 z104
  obtain ⟨rfl, N104q, eq104⟩ := hQ104
  have N104 := Fr.app N103 N104q
  obtain ⟨_, _, ⟨T105, L105, k105, n105⟩, -, X105, ⟨Lc105, hQ105, l105, y105, z105⟩, st105⟩ := Jvm.LawKit.callS X104 hx (y := mn_1) hown (mvT hZ (tw hw 83 rfl)) (mvT hZ (tw hw 84 rfl)) (mvT hZ (tw hw 45 rfl)) (mvT hZ (tw hw 85 rfl)) (by decide) (backOf (W := 1) (rmLow l Z a0 hw [] z1 h0 n0 X00 ) hZ (tw hw 85 rfl) (tw hw 45 rfl) (by decide) (by decide)) (g := (mkF m 36 #[vr a1, vr a2, vi 0] [wi z1, wi (own_low x1)])) rfl (by rw [hml]; rfl) (argsL := [wi z1]) (rest := [wi (own_low x1)]) (lenOf pd_C_C rfl) rfl (Nat.le_refl _) (hb hby d10_36) (fun _ _ => ⟨rfl, eq104, qc, qs⟩)
  dsimp only [Pt.U, Pt.locs, Pt.cells, Pt.slots] at X105 l105 y105 z105 st105 hQ105
  subst l105 y105 z105
  obtain ⟨rfl, N105q, eq105⟩ := hQ105
  have N105 := Fr.app N104 N105q
  refine ⟨T105, _, X105, N105, eq105, fun target kt => ?_⟩
  show Go p e below T0 (mkF m 15 #[vr a1, vr a2, vi 0] []) _
  refine XS.iloadN X0.here hx rfl (hb hby d10_15) rfl ?_
  show Go p e below T0 (mkF m 16 #[vr a1, vr a2, vi 0] [wi 0]) _
  refine XS.aloadN X0.here hx rfl (hb hby d10_16) rfl rfl ?_
  show Go p e below T0 (mkF m 17 #[vr a1, vr a2, vi 0] [wr a1, wi 0]) _
  refine st101.trans ?_
  show Go p e below T101 (mkF m 20 #[vr a1, vr a2, vi 0] [wi 1, wi 0]) _
  refine XS.icmpNo X101.here hx rfl (hb hby d10_20) rfl (tlt (by decide : (0 : Int32) < (1 : Int32))).2.1 ?_
  show Go p e below T101 (mkF m 23 #[vr a1, vr a2, vi 0] []) _
  refine XS.aloadN X101.here hx rfl (hb hby d10_23) rfl rfl ?_
  show Go p e below T101 (mkF m 24 #[vr a1, vr a2, vi 0] [wr a1]) _
  refine XS.iloadN X101.here hx rfl (hb hby d10_24) rfl ?_
  show Go p e below T101 (mkF m 25 #[vr a1, vr a2, vi 0] [wi 0, wr a1]) _
  refine st102.trans ?_
  show Go p e below T102 (mkF m 28 #[vr a1, vr a2, vi 0] [wi x1]) _
  refine st103 _ ?_
  show Go p e below T103 (mkF m 31 #[vr a1, vr a2, vi 0] [wi (own_low x1)]) _
  refine XS.aloadN X103.here hx rfl (hb hby d10_31) rfl rfl ?_
  show Go p e below T103 (mkF m 32 #[vr a1, vr a2, vi 0] [wr a2, wi (own_low x1)]) _
  refine XS.iloadN X103.here hx rfl (hb hby d10_32) rfl ?_
  show Go p e below T103 (mkF m 33 #[vr a1, vr a2, vi 0] [wi 0, wr a2, wi (own_low x1)]) _
  refine st104.trans ?_
  show Go p e below T104 (mkF m 36 #[vr a1, vr a2, vi 0] [wi z1, wi (own_low x1)]) _
  refine st105 _ ?_
  exact kt
set_option maxRecDepth 65536 in
set_option maxHeartbeats 40000000 in
theorem tn_2_0 {p : Program} {l : Launch} {e : Env} {s : State} {m : MethodId} {args : Array Value} {below : List Frame} {meth : Method} {c : Code} {T0 : State} {locs : List Loc} {cells slots : Nat} {Z : State} {a0 : Array Value} {h0 : Heap} {n0 : Nat} (a1 : Addr) (a2 : Addr) (x1 : Int32) (x2 : Int32) (z1 : Int32) (z2 : Int32) (G1 : Int32) (fm : Value)
    (X0 : Stand p l e ro_23 s m args below meth c T0 locs cells slots) (hx : p.tables.exec = Jvm.exec) (hZ : Z.Warmed39 s.vm) (hw : ∀ d ∈ tables_1, d.before a0 Z = true) (hby : c.code = prog_7_method_7_code) (hml : c.maxLocals = 3) (hown : s.vm.findClass "com/example/webhook_guard/webhookguard/http/HeaderField" = some m.cls) (e0 : T0.heap = h0) (N0 : Fr n0 locs) (X00 : Old Z n0 h0) (qc : cells ≤ ro_23.cells) (qs : slots ≤ ro_23.slots) (O2 : pO2 Z G1) (P5 : ¬ (G1 = (0 : Int32))) (SA : pSA Z) (SH : pSH Z) (SL : pSL Z) (FM : pFM Z fm) (rf : fm.isRef = true) (S1 : Str Z h0 a1 [x1, x2]) (S2 : Str Z h0 a2 [z1, z2]) (hx1 : ChB x1) (hx2 : ChB x2) (hz1 : ChB z1) (hz2 : ChB z2) :
    ∃ (T' : State) (L' : List Loc), Stand p l e ro_23 s m args below meth c T' L' cells slots ∧ Fr n0 L' ∧ T'.heap = h0 ∧ ∀ target, Steps p.tables e below (T'.setTop (mkF m 39 #[vr a1, vr a2, vi 0] [wi (own_low z1), wi (own_low x1)])) target → Steps p.tables e below (T0.setTop (mkF m 15 #[vr a1, vr a2, vi 0] [])) target := by
  have hwl : ∀ d ∈ StrChars.Road.wordsLen, d.before a0 Z = true := fun d hd => hw d ((by decide +kernel : ∀ d ∈ StrChars.Road.wordsLen, d ∈ tables_1) d hd)
  obtain ⟨t1, k1, cd1, N1a, vs1, ⟨E_a1, S_v1, S_k1, V_t1⟩, hc1a⟩ := S1
  obtain ⟨t2, k2, cd2, N2a, vs2, ⟨E_a2, S_v2, S_k2, V_t2⟩, hc2a⟩ := S2
  obtain ⟨cq101, kq101, q101a, q101b, q101c⟩ := isOf hZ e0 E_a1
  obtain ⟨_, _, ⟨T101, L101, k101, n101⟩, -, X101, ⟨Lc101, hQ101, l101, y101, z101⟩, st101⟩ := X0.virtualBack hx (y := mn_13) (z := mn_13) hown (mvT hZ (tw hw 47 rfl)) (mvT hZ (tw hw 48 rfl)) (notFace_of_selects (args := #[]) (mvT hZ (tw hw 50 rfl))) (mvT hZ (tw hw 50 rfl)) (mvT hZ (tw hw 49 rfl)) (by decide) (StrChars.Road.lenW (W := 1) hZ hwl (kI := 4) (tw hw 11 rfl) (cs := ([x1, x2] : List Int32)) E_a1 S_v1 S_k1 V_t1 hc1a (own_alli hx1 (own_alli hx2 own_all0)) (O2.ext X00.2) P5 (Nat.le_of_ble_eq_true rfl) (by decide) (by decide)) q101a q101c (g := (mkF m 17 #[vr a1, vr a2, vi 0] [wr a1, wi 0])) rfl (by rw [hml]; rfl) (Steps.refl _) (argsL := []) (rest := [wi 0]) (lenOf pd__I rfl) rfl (Nat.le_refl _) (hb hby d10_17) (fun _ _ => ⟨rfl, e0, qc, qs⟩)
  dsimp only [Pt.U, Pt.locs, Pt.cells, Pt.slots] at X101 l101 y101 z101 st101 hQ101
  subst l101 y101 z101
  obtain ⟨hv101, rfl, eq101⟩ := hQ101
  obtain rfl : _ = some (Value.int (2 : Int32)) := hv101
  have N101 := Fr.app N0 (Fr.nil n0)
  obtain ⟨cq102, kq102, q102a, q102b, q102c⟩ := isOf hZ eq101 E_a1
  obtain ⟨_, _, ⟨T102, L102, k102, n102⟩, -, X102, ⟨Lc102, hQ102, l102, y102, z102⟩, st102⟩ := X101.virtualBack hx (y := mn_9) (z := mn_9) hown (mvT hZ (tw hw 61 rfl)) (mvT hZ (tw hw 62 rfl)) (notFace_of_selects (args := #[]) (mvT hZ (tw hw 64 rfl))) (mvT hZ (tw hw 64 rfl)) (mvT hZ (tw hw 63 rfl)) (by decide) (backOf (W := 0) (rmCh_2_0 l Z a0 hw [] a1 t1 k1 cd1 N1a vs1 x1 x2 G1 fm h0 n0 X00 O2 P5 SA SH SL FM rf E_a1 S_v1 hx1 S_k1 V_t1 hc1a) hZ (tw hw 65 rfl) (tw hw 12 rfl) (by decide) (by decide)) q102a q102c (g := (mkF m 25 #[vr a1, vr a2, vi 0] [wi 0, wr a1])) rfl (by rw [hml]; rfl) (Steps.refl _) (argsL := [wi 0]) (rest := []) (lenOf pd_I_C rfl) rfl (Nat.le_refl _) (hb hby d10_25) (fun _ _ => ⟨rfl, eq101, qc, qs⟩)
  dsimp only [Pt.U, Pt.locs, Pt.cells, Pt.slots] at X102 l102 y102 z102 st102 hQ102
  subst l102 y102 z102
  obtain ⟨rfl, N102q, eq102⟩ := hQ102
  have N102 := Fr.app N101 N102q
  obtain ⟨_, _, ⟨T103, L103, k103, n103⟩, -, X103, ⟨Lc103, hQ103, l103, y103, z103⟩, st103⟩ := Jvm.LawKit.callS X102 hx (y := mn_1) hown (mvT hZ (tw hw 83 rfl)) (mvT hZ (tw hw 84 rfl)) (mvT hZ (tw hw 45 rfl)) (mvT hZ (tw hw 85 rfl)) (by decide) (backOf (W := 0) (rmLow l Z a0 hw [] x1 h0 n0 X00 ) hZ (tw hw 85 rfl) (tw hw 45 rfl) (by decide) (by decide)) (g := (mkF m 28 #[vr a1, vr a2, vi 0] [wi x1])) rfl (by rw [hml]; rfl) (argsL := [wi x1]) (rest := []) (lenOf pd_C_C rfl) rfl (Nat.le_refl _) (hb hby d10_28) (fun _ _ => ⟨rfl, eq102, qc, qs⟩)
  dsimp only [Pt.U, Pt.locs, Pt.cells, Pt.slots] at X103 l103 y103 z103 st103 hQ103
  subst l103 y103 z103
  obtain ⟨rfl, N103q, eq103⟩ := hQ103
  have N103 := Fr.app N102 N103q
  obtain ⟨cq104, kq104, q104a, q104b, q104c⟩ := isOf hZ eq103 E_a2
  obtain ⟨_, _, ⟨T104, L104, k104, n104⟩, -, X104, ⟨Lc104, hQ104, l104, y104, z104⟩, st104⟩ := X103.virtualBack hx (y := mn_9) (z := mn_9) hown (mvT hZ (tw hw 61 rfl)) (mvT hZ (tw hw 62 rfl)) (notFace_of_selects (args := #[]) (mvT hZ (tw hw 64 rfl))) (mvT hZ (tw hw 64 rfl)) (mvT hZ (tw hw 63 rfl)) (by decide) (backOf (W := 1) (rmCh_2_0 l Z a0 hw [] a2 t2 k2 cd2 N2a vs2 z1 z2 G1 fm h0 n0 X00 O2 P5 SA SH SL FM rf E_a2 S_v2 hz1 S_k2 V_t2 hc2a) hZ (tw hw 65 rfl) (tw hw 12 rfl) (by decide) (by decide)) q104a q104c (g := (mkF m 33 #[vr a1, vr a2, vi 0] [wi 0, wr a2, wi (own_low x1)])) rfl (by rw [hml]; rfl) (Steps.refl _) (argsL := [wi 0]) (rest := [wi (own_low x1)]) (lenOf pd_I_C rfl) rfl (Nat.le_refl _) (hb hby d10_33) (fun _ _ => ⟨rfl, eq103, qc, qs⟩)
  dsimp only [Pt.U, Pt.locs, Pt.cells, Pt.slots] at X104 l104 y104 z104 st104 hQ104
  subst l104 y104 z104
  obtain ⟨rfl, N104q, eq104⟩ := hQ104
  have N104 := Fr.app N103 N104q
  obtain ⟨_, _, ⟨T105, L105, k105, n105⟩, -, X105, ⟨Lc105, hQ105, l105, y105, z105⟩, st105⟩ := Jvm.LawKit.callS X104 hx (y := mn_1) hown (mvT hZ (tw hw 83 rfl)) (mvT hZ (tw hw 84 rfl)) (mvT hZ (tw hw 45 rfl)) (mvT hZ (tw hw 85 rfl)) (by decide) (backOf (W := 1) (rmLow l Z a0 hw [] z1 h0 n0 X00 ) hZ (tw hw 85 rfl) (tw hw 45 rfl) (by decide) (by decide)) (g := (mkF m 36 #[vr a1, vr a2, vi 0] [wi z1, wi (own_low x1)])) rfl (by rw [hml]; rfl) (argsL := [wi z1]) (rest := [wi (own_low x1)]) (lenOf pd_C_C rfl) rfl (Nat.le_refl _) (hb hby d10_36) (fun _ _ => ⟨rfl, eq104, qc, qs⟩)
  dsimp only [Pt.U, Pt.locs, Pt.cells, Pt.slots] at X105 l105 y105 z105 st105 hQ105
  subst l105 y105 z105
  obtain ⟨rfl, N105q, eq105⟩ := hQ105
  have N105 := Fr.app N104 N105q
  refine ⟨T105, _, X105, N105, eq105, fun target kt => ?_⟩
  show Go p e below T0 (mkF m 15 #[vr a1, vr a2, vi 0] []) _
  refine XS.iloadN X0.here hx rfl (hb hby d10_15) rfl ?_
  show Go p e below T0 (mkF m 16 #[vr a1, vr a2, vi 0] [wi 0]) _
  refine XS.aloadN X0.here hx rfl (hb hby d10_16) rfl rfl ?_
  show Go p e below T0 (mkF m 17 #[vr a1, vr a2, vi 0] [wr a1, wi 0]) _
  refine st101.trans ?_
  show Go p e below T101 (mkF m 20 #[vr a1, vr a2, vi 0] [wi 2, wi 0]) _
  refine XS.icmpNo X101.here hx rfl (hb hby d10_20) rfl (tlt (by decide : (0 : Int32) < (2 : Int32))).2.1 ?_
  show Go p e below T101 (mkF m 23 #[vr a1, vr a2, vi 0] []) _
  refine XS.aloadN X101.here hx rfl (hb hby d10_23) rfl rfl ?_
  show Go p e below T101 (mkF m 24 #[vr a1, vr a2, vi 0] [wr a1]) _
  refine XS.iloadN X101.here hx rfl (hb hby d10_24) rfl ?_
  show Go p e below T101 (mkF m 25 #[vr a1, vr a2, vi 0] [wi 0, wr a1]) _
  refine st102.trans ?_
  show Go p e below T102 (mkF m 28 #[vr a1, vr a2, vi 0] [wi x1]) _
  refine st103 _ ?_
  show Go p e below T103 (mkF m 31 #[vr a1, vr a2, vi 0] [wi (own_low x1)]) _
  refine XS.aloadN X103.here hx rfl (hb hby d10_31) rfl rfl ?_
  show Go p e below T103 (mkF m 32 #[vr a1, vr a2, vi 0] [wr a2, wi (own_low x1)]) _
  refine XS.iloadN X103.here hx rfl (hb hby d10_32) rfl ?_
  show Go p e below T103 (mkF m 33 #[vr a1, vr a2, vi 0] [wi 0, wr a2, wi (own_low x1)]) _
  refine st104.trans ?_
  show Go p e below T104 (mkF m 36 #[vr a1, vr a2, vi 0] [wi z1, wi (own_low x1)]) _
  refine st105 _ ?_
  exact kt
set_option maxRecDepth 65536 in
set_option maxHeartbeats 40000000 in
theorem tn_2_1 {p : Program} {l : Launch} {e : Env} {s : State} {m : MethodId} {args : Array Value} {below : List Frame} {meth : Method} {c : Code} {T0 : State} {locs : List Loc} {cells slots : Nat} {Z : State} {a0 : Array Value} {h0 : Heap} {n0 : Nat} (a1 : Addr) (a2 : Addr) (x1 : Int32) (x2 : Int32) (z1 : Int32) (z2 : Int32) (G1 : Int32) (fm : Value)
    (X0 : Stand p l e ro_23 s m args below meth c T0 locs cells slots) (hx : p.tables.exec = Jvm.exec) (hZ : Z.Warmed39 s.vm) (hw : ∀ d ∈ tables_1, d.before a0 Z = true) (hby : c.code = prog_7_method_7_code) (hml : c.maxLocals = 3) (hown : s.vm.findClass "com/example/webhook_guard/webhookguard/http/HeaderField" = some m.cls) (e0 : T0.heap = h0) (N0 : Fr n0 locs) (X00 : Old Z n0 h0) (qc : cells ≤ ro_23.cells) (qs : slots ≤ ro_23.slots) (O2 : pO2 Z G1) (P5 : ¬ (G1 = (0 : Int32))) (SA : pSA Z) (SH : pSH Z) (SL : pSL Z) (FM : pFM Z fm) (rf : fm.isRef = true) (S1 : Str Z h0 a1 [x1, x2]) (S2 : Str Z h0 a2 [z1, z2]) (hx1 : ChB x1) (hx2 : ChB x2) (hz1 : ChB z1) (hz2 : ChB z2) :
    ∃ (T' : State) (L' : List Loc), Stand p l e ro_23 s m args below meth c T' L' cells slots ∧ Fr n0 L' ∧ T'.heap = h0 ∧ ∀ target, Steps p.tables e below (T'.setTop (mkF m 39 #[vr a1, vr a2, vi 1] [wi (own_low z2), wi (own_low x2)])) target → Steps p.tables e below (T0.setTop (mkF m 15 #[vr a1, vr a2, vi 1] [])) target := by
  have hwl : ∀ d ∈ StrChars.Road.wordsLen, d.before a0 Z = true := fun d hd => hw d ((by decide +kernel : ∀ d ∈ StrChars.Road.wordsLen, d ∈ tables_1) d hd)
  obtain ⟨t1, k1, cd1, N1a, vs1, ⟨E_a1, S_v1, S_k1, V_t1⟩, hc1a⟩ := S1
  obtain ⟨t2, k2, cd2, N2a, vs2, ⟨E_a2, S_v2, S_k2, V_t2⟩, hc2a⟩ := S2
  obtain ⟨cq101, kq101, q101a, q101b, q101c⟩ := isOf hZ e0 E_a1
  obtain ⟨_, _, ⟨T101, L101, k101, n101⟩, -, X101, ⟨Lc101, hQ101, l101, y101, z101⟩, st101⟩ := X0.virtualBack hx (y := mn_13) (z := mn_13) hown (mvT hZ (tw hw 47 rfl)) (mvT hZ (tw hw 48 rfl)) (notFace_of_selects (args := #[]) (mvT hZ (tw hw 50 rfl))) (mvT hZ (tw hw 50 rfl)) (mvT hZ (tw hw 49 rfl)) (by decide) (StrChars.Road.lenW (W := 1) hZ hwl (kI := 4) (tw hw 11 rfl) (cs := ([x1, x2] : List Int32)) E_a1 S_v1 S_k1 V_t1 hc1a (own_alli hx1 (own_alli hx2 own_all0)) (O2.ext X00.2) P5 (Nat.le_of_ble_eq_true rfl) (by decide) (by decide)) q101a q101c (g := (mkF m 17 #[vr a1, vr a2, vi 1] [wr a1, wi 1])) rfl (by rw [hml]; rfl) (Steps.refl _) (argsL := []) (rest := [wi 1]) (lenOf pd__I rfl) rfl (Nat.le_refl _) (hb hby d10_17) (fun _ _ => ⟨rfl, e0, qc, qs⟩)
  dsimp only [Pt.U, Pt.locs, Pt.cells, Pt.slots] at X101 l101 y101 z101 st101 hQ101
  subst l101 y101 z101
  obtain ⟨hv101, rfl, eq101⟩ := hQ101
  obtain rfl : _ = some (Value.int (2 : Int32)) := hv101
  have N101 := Fr.app N0 (Fr.nil n0)
  obtain ⟨cq102, kq102, q102a, q102b, q102c⟩ := isOf hZ eq101 E_a1
  obtain ⟨_, _, ⟨T102, L102, k102, n102⟩, -, X102, ⟨Lc102, hQ102, l102, y102, z102⟩, st102⟩ := X101.virtualBack hx (y := mn_9) (z := mn_9) hown (mvT hZ (tw hw 61 rfl)) (mvT hZ (tw hw 62 rfl)) (notFace_of_selects (args := #[]) (mvT hZ (tw hw 64 rfl))) (mvT hZ (tw hw 64 rfl)) (mvT hZ (tw hw 63 rfl)) (by decide) (backOf (W := 0) (rmCh_2_1 l Z a0 hw [] a1 t1 k1 cd1 N1a vs1 x1 x2 G1 fm h0 n0 X00 O2 P5 SA SH SL FM rf E_a1 S_v1 hx2 S_k1 V_t1 hc1a) hZ (tw hw 65 rfl) (tw hw 12 rfl) (by decide) (by decide)) q102a q102c (g := (mkF m 25 #[vr a1, vr a2, vi 1] [wi 1, wr a1])) rfl (by rw [hml]; rfl) (Steps.refl _) (argsL := [wi 1]) (rest := []) (lenOf pd_I_C rfl) rfl (Nat.le_refl _) (hb hby d10_25) (fun _ _ => ⟨rfl, eq101, qc, qs⟩)
  dsimp only [Pt.U, Pt.locs, Pt.cells, Pt.slots] at X102 l102 y102 z102 st102 hQ102
  subst l102 y102 z102
  obtain ⟨rfl, N102q, eq102⟩ := hQ102
  have N102 := Fr.app N101 N102q
  obtain ⟨_, _, ⟨T103, L103, k103, n103⟩, -, X103, ⟨Lc103, hQ103, l103, y103, z103⟩, st103⟩ := Jvm.LawKit.callS X102 hx (y := mn_1) hown (mvT hZ (tw hw 83 rfl)) (mvT hZ (tw hw 84 rfl)) (mvT hZ (tw hw 45 rfl)) (mvT hZ (tw hw 85 rfl)) (by decide) (backOf (W := 0) (rmLow l Z a0 hw [] x2 h0 n0 X00 ) hZ (tw hw 85 rfl) (tw hw 45 rfl) (by decide) (by decide)) (g := (mkF m 28 #[vr a1, vr a2, vi 1] [wi x2])) rfl (by rw [hml]; rfl) (argsL := [wi x2]) (rest := []) (lenOf pd_C_C rfl) rfl (Nat.le_refl _) (hb hby d10_28) (fun _ _ => ⟨rfl, eq102, qc, qs⟩)
  dsimp only [Pt.U, Pt.locs, Pt.cells, Pt.slots] at X103 l103 y103 z103 st103 hQ103
  subst l103 y103 z103
  obtain ⟨rfl, N103q, eq103⟩ := hQ103
  have N103 := Fr.app N102 N103q
  obtain ⟨cq104, kq104, q104a, q104b, q104c⟩ := isOf hZ eq103 E_a2
  obtain ⟨_, _, ⟨T104, L104, k104, n104⟩, -, X104, ⟨Lc104, hQ104, l104, y104, z104⟩, st104⟩ := X103.virtualBack hx (y := mn_9) (z := mn_9) hown (mvT hZ (tw hw 61 rfl)) (mvT hZ (tw hw 62 rfl)) (notFace_of_selects (args := #[]) (mvT hZ (tw hw 64 rfl))) (mvT hZ (tw hw 64 rfl)) (mvT hZ (tw hw 63 rfl)) (by decide) (backOf (W := 1) (rmCh_2_1 l Z a0 hw [] a2 t2 k2 cd2 N2a vs2 z1 z2 G1 fm h0 n0 X00 O2 P5 SA SH SL FM rf E_a2 S_v2 hz2 S_k2 V_t2 hc2a) hZ (tw hw 65 rfl) (tw hw 12 rfl) (by decide) (by decide)) q104a q104c (g := (mkF m 33 #[vr a1, vr a2, vi 1] [wi 1, wr a2, wi (own_low x2)])) rfl (by rw [hml]; rfl) (Steps.refl _) (argsL := [wi 1]) (rest := [wi (own_low x2)]) (lenOf pd_I_C rfl) rfl (Nat.le_refl _) (hb hby d10_33) (fun _ _ => ⟨rfl, eq103, qc, qs⟩)
  dsimp only [Pt.U, Pt.locs, Pt.cells, Pt.slots] at X104 l104 y104 z104 st104 hQ104
  subst l104 y104 z104
  obtain ⟨rfl, N104q, eq104⟩ := hQ104
  have N104 := Fr.app N103 N104q
  obtain ⟨_, _, ⟨T105, L105, k105, n105⟩, -, X105, ⟨Lc105, hQ105, l105, y105, z105⟩, st105⟩ := Jvm.LawKit.callS X104 hx (y := mn_1) hown (mvT hZ (tw hw 83 rfl)) (mvT hZ (tw hw 84 rfl)) (mvT hZ (tw hw 45 rfl)) (mvT hZ (tw hw 85 rfl)) (by decide) (backOf (W := 1) (rmLow l Z a0 hw [] z2 h0 n0 X00 ) hZ (tw hw 85 rfl) (tw hw 45 rfl) (by decide) (by decide)) (g := (mkF m 36 #[vr a1, vr a2, vi 1] [wi z2, wi (own_low x2)])) rfl (by rw [hml]; rfl) (argsL := [wi z2]) (rest := [wi (own_low x2)]) (lenOf pd_C_C rfl) rfl (Nat.le_refl _) (hb hby d10_36) (fun _ _ => ⟨rfl, eq104, qc, qs⟩)
  dsimp only [Pt.U, Pt.locs, Pt.cells, Pt.slots] at X105 l105 y105 z105 st105 hQ105
  subst l105 y105 z105
  obtain ⟨rfl, N105q, eq105⟩ := hQ105
  have N105 := Fr.app N104 N105q
  refine ⟨T105, _, X105, N105, eq105, fun target kt => ?_⟩
  show Go p e below T0 (mkF m 15 #[vr a1, vr a2, vi 1] []) _
  refine XS.iloadN X0.here hx rfl (hb hby d10_15) rfl ?_
  show Go p e below T0 (mkF m 16 #[vr a1, vr a2, vi 1] [wi 1]) _
  refine XS.aloadN X0.here hx rfl (hb hby d10_16) rfl rfl ?_
  show Go p e below T0 (mkF m 17 #[vr a1, vr a2, vi 1] [wr a1, wi 1]) _
  refine st101.trans ?_
  show Go p e below T101 (mkF m 20 #[vr a1, vr a2, vi 1] [wi 2, wi 1]) _
  refine XS.icmpNo X101.here hx rfl (hb hby d10_20) rfl (tlt (by decide : (1 : Int32) < (2 : Int32))).2.1 ?_
  show Go p e below T101 (mkF m 23 #[vr a1, vr a2, vi 1] []) _
  refine XS.aloadN X101.here hx rfl (hb hby d10_23) rfl rfl ?_
  show Go p e below T101 (mkF m 24 #[vr a1, vr a2, vi 1] [wr a1]) _
  refine XS.iloadN X101.here hx rfl (hb hby d10_24) rfl ?_
  show Go p e below T101 (mkF m 25 #[vr a1, vr a2, vi 1] [wi 1, wr a1]) _
  refine st102.trans ?_
  show Go p e below T102 (mkF m 28 #[vr a1, vr a2, vi 1] [wi x2]) _
  refine st103 _ ?_
  show Go p e below T103 (mkF m 31 #[vr a1, vr a2, vi 1] [wi (own_low x2)]) _
  refine XS.aloadN X103.here hx rfl (hb hby d10_31) rfl rfl ?_
  show Go p e below T103 (mkF m 32 #[vr a1, vr a2, vi 1] [wr a2, wi (own_low x2)]) _
  refine XS.iloadN X103.here hx rfl (hb hby d10_32) rfl ?_
  show Go p e below T103 (mkF m 33 #[vr a1, vr a2, vi 1] [wi 1, wr a2, wi (own_low x2)]) _
  refine st104.trans ?_
  show Go p e below T104 (mkF m 36 #[vr a1, vr a2, vi 1] [wi z2, wi (own_low x2)]) _
  refine st105 _ ?_
  exact kt
set_option maxRecDepth 65536 in
set_option maxHeartbeats 40000000 in
theorem tn_3_0 {p : Program} {l : Launch} {e : Env} {s : State} {m : MethodId} {args : Array Value} {below : List Frame} {meth : Method} {c : Code} {T0 : State} {locs : List Loc} {cells slots : Nat} {Z : State} {a0 : Array Value} {h0 : Heap} {n0 : Nat} (a1 : Addr) (a2 : Addr) (x1 : Int32) (x2 : Int32) (x3 : Int32) (z1 : Int32) (z2 : Int32) (z3 : Int32) (G1 : Int32) (fm : Value)
    (X0 : Stand p l e ro_23 s m args below meth c T0 locs cells slots) (hx : p.tables.exec = Jvm.exec) (hZ : Z.Warmed39 s.vm) (hw : ∀ d ∈ tables_1, d.before a0 Z = true) (hby : c.code = prog_7_method_7_code) (hml : c.maxLocals = 3) (hown : s.vm.findClass "com/example/webhook_guard/webhookguard/http/HeaderField" = some m.cls) (e0 : T0.heap = h0) (N0 : Fr n0 locs) (X00 : Old Z n0 h0) (qc : cells ≤ ro_23.cells) (qs : slots ≤ ro_23.slots) (O2 : pO2 Z G1) (P5 : ¬ (G1 = (0 : Int32))) (SA : pSA Z) (SH : pSH Z) (SL : pSL Z) (FM : pFM Z fm) (rf : fm.isRef = true) (S1 : Str Z h0 a1 [x1, x2, x3]) (S2 : Str Z h0 a2 [z1, z2, z3]) (hx1 : ChB x1) (hx2 : ChB x2) (hx3 : ChB x3) (hz1 : ChB z1) (hz2 : ChB z2) (hz3 : ChB z3) :
    ∃ (T' : State) (L' : List Loc), Stand p l e ro_23 s m args below meth c T' L' cells slots ∧ Fr n0 L' ∧ T'.heap = h0 ∧ ∀ target, Steps p.tables e below (T'.setTop (mkF m 39 #[vr a1, vr a2, vi 0] [wi (own_low z1), wi (own_low x1)])) target → Steps p.tables e below (T0.setTop (mkF m 15 #[vr a1, vr a2, vi 0] [])) target := by
  have hwl : ∀ d ∈ StrChars.Road.wordsLen, d.before a0 Z = true := fun d hd => hw d ((by decide +kernel : ∀ d ∈ StrChars.Road.wordsLen, d ∈ tables_1) d hd)
  obtain ⟨t1, k1, cd1, N1a, vs1, ⟨E_a1, S_v1, S_k1, V_t1⟩, hc1a⟩ := S1
  obtain ⟨t2, k2, cd2, N2a, vs2, ⟨E_a2, S_v2, S_k2, V_t2⟩, hc2a⟩ := S2
  obtain ⟨cq101, kq101, q101a, q101b, q101c⟩ := isOf hZ e0 E_a1
  obtain ⟨_, _, ⟨T101, L101, k101, n101⟩, -, X101, ⟨Lc101, hQ101, l101, y101, z101⟩, st101⟩ := X0.virtualBack hx (y := mn_13) (z := mn_13) hown (mvT hZ (tw hw 47 rfl)) (mvT hZ (tw hw 48 rfl)) (notFace_of_selects (args := #[]) (mvT hZ (tw hw 50 rfl))) (mvT hZ (tw hw 50 rfl)) (mvT hZ (tw hw 49 rfl)) (by decide) (StrChars.Road.lenW (W := 1) hZ hwl (kI := 4) (tw hw 11 rfl) (cs := ([x1, x2, x3] : List Int32)) E_a1 S_v1 S_k1 V_t1 hc1a (own_alli hx1 (own_alli hx2 (own_alli hx3 own_all0))) (O2.ext X00.2) P5 (Nat.le_of_ble_eq_true rfl) (by decide) (by decide)) q101a q101c (g := (mkF m 17 #[vr a1, vr a2, vi 0] [wr a1, wi 0])) rfl (by rw [hml]; rfl) (Steps.refl _) (argsL := []) (rest := [wi 0]) (lenOf pd__I rfl) rfl (Nat.le_refl _) (hb hby d10_17) (fun _ _ => ⟨rfl, e0, qc, qs⟩)
  dsimp only [Pt.U, Pt.locs, Pt.cells, Pt.slots] at X101 l101 y101 z101 st101 hQ101
  subst l101 y101 z101
  obtain ⟨hv101, rfl, eq101⟩ := hQ101
  obtain rfl : _ = some (Value.int (3 : Int32)) := hv101
  have N101 := Fr.app N0 (Fr.nil n0)
  obtain ⟨cq102, kq102, q102a, q102b, q102c⟩ := isOf hZ eq101 E_a1
  obtain ⟨_, _, ⟨T102, L102, k102, n102⟩, -, X102, ⟨Lc102, hQ102, l102, y102, z102⟩, st102⟩ := X101.virtualBack hx (y := mn_9) (z := mn_9) hown (mvT hZ (tw hw 61 rfl)) (mvT hZ (tw hw 62 rfl)) (notFace_of_selects (args := #[]) (mvT hZ (tw hw 64 rfl))) (mvT hZ (tw hw 64 rfl)) (mvT hZ (tw hw 63 rfl)) (by decide) (backOf (W := 0) (rmCh_3_0 l Z a0 hw [] a1 t1 k1 cd1 N1a vs1 x1 x2 x3 G1 fm h0 n0 X00 O2 P5 SA SH SL FM rf E_a1 S_v1 hx1 S_k1 V_t1 hc1a) hZ (tw hw 65 rfl) (tw hw 12 rfl) (by decide) (by decide)) q102a q102c (g := (mkF m 25 #[vr a1, vr a2, vi 0] [wi 0, wr a1])) rfl (by rw [hml]; rfl) (Steps.refl _) (argsL := [wi 0]) (rest := []) (lenOf pd_I_C rfl) rfl (Nat.le_refl _) (hb hby d10_25) (fun _ _ => ⟨rfl, eq101, qc, qs⟩)
  dsimp only [Pt.U, Pt.locs, Pt.cells, Pt.slots] at X102 l102 y102 z102 st102 hQ102
  subst l102 y102 z102
  obtain ⟨rfl, N102q, eq102⟩ := hQ102
  have N102 := Fr.app N101 N102q
  obtain ⟨_, _, ⟨T103, L103, k103, n103⟩, -, X103, ⟨Lc103, hQ103, l103, y103, z103⟩, st103⟩ := Jvm.LawKit.callS X102 hx (y := mn_1) hown (mvT hZ (tw hw 83 rfl)) (mvT hZ (tw hw 84 rfl)) (mvT hZ (tw hw 45 rfl)) (mvT hZ (tw hw 85 rfl)) (by decide) (backOf (W := 0) (rmLow l Z a0 hw [] x1 h0 n0 X00 ) hZ (tw hw 85 rfl) (tw hw 45 rfl) (by decide) (by decide)) (g := (mkF m 28 #[vr a1, vr a2, vi 0] [wi x1])) rfl (by rw [hml]; rfl) (argsL := [wi x1]) (rest := []) (lenOf pd_C_C rfl) rfl (Nat.le_refl _) (hb hby d10_28) (fun _ _ => ⟨rfl, eq102, qc, qs⟩)
  dsimp only [Pt.U, Pt.locs, Pt.cells, Pt.slots] at X103 l103 y103 z103 st103 hQ103
  subst l103 y103 z103
  obtain ⟨rfl, N103q, eq103⟩ := hQ103
  have N103 := Fr.app N102 N103q
  obtain ⟨cq104, kq104, q104a, q104b, q104c⟩ := isOf hZ eq103 E_a2
  obtain ⟨_, _, ⟨T104, L104, k104, n104⟩, -, X104, ⟨Lc104, hQ104, l104, y104, z104⟩, st104⟩ := X103.virtualBack hx (y := mn_9) (z := mn_9) hown (mvT hZ (tw hw 61 rfl)) (mvT hZ (tw hw 62 rfl)) (notFace_of_selects (args := #[]) (mvT hZ (tw hw 64 rfl))) (mvT hZ (tw hw 64 rfl)) (mvT hZ (tw hw 63 rfl)) (by decide) (backOf (W := 1) (rmCh_3_0 l Z a0 hw [] a2 t2 k2 cd2 N2a vs2 z1 z2 z3 G1 fm h0 n0 X00 O2 P5 SA SH SL FM rf E_a2 S_v2 hz1 S_k2 V_t2 hc2a) hZ (tw hw 65 rfl) (tw hw 12 rfl) (by decide) (by decide)) q104a q104c (g := (mkF m 33 #[vr a1, vr a2, vi 0] [wi 0, wr a2, wi (own_low x1)])) rfl (by rw [hml]; rfl) (Steps.refl _) (argsL := [wi 0]) (rest := [wi (own_low x1)]) (lenOf pd_I_C rfl) rfl (Nat.le_refl _) (hb hby d10_33) (fun _ _ => ⟨rfl, eq103, qc, qs⟩)
  dsimp only [Pt.U, Pt.locs, Pt.cells, Pt.slots] at X104 l104 y104 z104 st104 hQ104
  subst l104 y104 z104
  obtain ⟨rfl, N104q, eq104⟩ := hQ104
  have N104 := Fr.app N103 N104q
  obtain ⟨_, _, ⟨T105, L105, k105, n105⟩, -, X105, ⟨Lc105, hQ105, l105, y105, z105⟩, st105⟩ := Jvm.LawKit.callS X104 hx (y := mn_1) hown (mvT hZ (tw hw 83 rfl)) (mvT hZ (tw hw 84 rfl)) (mvT hZ (tw hw 45 rfl)) (mvT hZ (tw hw 85 rfl)) (by decide) (backOf (W := 1) (rmLow l Z a0 hw [] z1 h0 n0 X00 ) hZ (tw hw 85 rfl) (tw hw 45 rfl) (by decide) (by decide)) (g := (mkF m 36 #[vr a1, vr a2, vi 0] [wi z1, wi (own_low x1)])) rfl (by rw [hml]; rfl) (argsL := [wi z1]) (rest := [wi (own_low x1)]) (lenOf pd_C_C rfl) rfl (Nat.le_refl _) (hb hby d10_36) (fun _ _ => ⟨rfl, eq104, qc, qs⟩)
  dsimp only [Pt.U, Pt.locs, Pt.cells, Pt.slots] at X105 l105 y105 z105 st105 hQ105
  subst l105 y105 z105
  obtain ⟨rfl, N105q, eq105⟩ := hQ105
  have N105 := Fr.app N104 N105q
  refine ⟨T105, _, X105, N105, eq105, fun target kt => ?_⟩
  show Go p e below T0 (mkF m 15 #[vr a1, vr a2, vi 0] []) _
  refine XS.iloadN X0.here hx rfl (hb hby d10_15) rfl ?_
  show Go p e below T0 (mkF m 16 #[vr a1, vr a2, vi 0] [wi 0]) _
  refine XS.aloadN X0.here hx rfl (hb hby d10_16) rfl rfl ?_
  show Go p e below T0 (mkF m 17 #[vr a1, vr a2, vi 0] [wr a1, wi 0]) _
  refine st101.trans ?_
  show Go p e below T101 (mkF m 20 #[vr a1, vr a2, vi 0] [wi 3, wi 0]) _
  refine XS.icmpNo X101.here hx rfl (hb hby d10_20) rfl (tlt (by decide : (0 : Int32) < (3 : Int32))).2.1 ?_
  show Go p e below T101 (mkF m 23 #[vr a1, vr a2, vi 0] []) _
  refine XS.aloadN X101.here hx rfl (hb hby d10_23) rfl rfl ?_
  show Go p e below T101 (mkF m 24 #[vr a1, vr a2, vi 0] [wr a1]) _
  refine XS.iloadN X101.here hx rfl (hb hby d10_24) rfl ?_
  show Go p e below T101 (mkF m 25 #[vr a1, vr a2, vi 0] [wi 0, wr a1]) _
  refine st102.trans ?_
  show Go p e below T102 (mkF m 28 #[vr a1, vr a2, vi 0] [wi x1]) _
  refine st103 _ ?_
  show Go p e below T103 (mkF m 31 #[vr a1, vr a2, vi 0] [wi (own_low x1)]) _
  refine XS.aloadN X103.here hx rfl (hb hby d10_31) rfl rfl ?_
  show Go p e below T103 (mkF m 32 #[vr a1, vr a2, vi 0] [wr a2, wi (own_low x1)]) _
  refine XS.iloadN X103.here hx rfl (hb hby d10_32) rfl ?_
  show Go p e below T103 (mkF m 33 #[vr a1, vr a2, vi 0] [wi 0, wr a2, wi (own_low x1)]) _
  refine st104.trans ?_
  show Go p e below T104 (mkF m 36 #[vr a1, vr a2, vi 0] [wi z1, wi (own_low x1)]) _
  refine st105 _ ?_
  exact kt
set_option maxRecDepth 65536 in
set_option maxHeartbeats 40000000 in
theorem tn_3_1 {p : Program} {l : Launch} {e : Env} {s : State} {m : MethodId} {args : Array Value} {below : List Frame} {meth : Method} {c : Code} {T0 : State} {locs : List Loc} {cells slots : Nat} {Z : State} {a0 : Array Value} {h0 : Heap} {n0 : Nat} (a1 : Addr) (a2 : Addr) (x1 : Int32) (x2 : Int32) (x3 : Int32) (z1 : Int32) (z2 : Int32) (z3 : Int32) (G1 : Int32) (fm : Value)
    (X0 : Stand p l e ro_23 s m args below meth c T0 locs cells slots) (hx : p.tables.exec = Jvm.exec) (hZ : Z.Warmed39 s.vm) (hw : ∀ d ∈ tables_1, d.before a0 Z = true) (hby : c.code = prog_7_method_7_code) (hml : c.maxLocals = 3) (hown : s.vm.findClass "com/example/webhook_guard/webhookguard/http/HeaderField" = some m.cls) (e0 : T0.heap = h0) (N0 : Fr n0 locs) (X00 : Old Z n0 h0) (qc : cells ≤ ro_23.cells) (qs : slots ≤ ro_23.slots) (O2 : pO2 Z G1) (P5 : ¬ (G1 = (0 : Int32))) (SA : pSA Z) (SH : pSH Z) (SL : pSL Z) (FM : pFM Z fm) (rf : fm.isRef = true) (S1 : Str Z h0 a1 [x1, x2, x3]) (S2 : Str Z h0 a2 [z1, z2, z3]) (hx1 : ChB x1) (hx2 : ChB x2) (hx3 : ChB x3) (hz1 : ChB z1) (hz2 : ChB z2) (hz3 : ChB z3) :
    ∃ (T' : State) (L' : List Loc), Stand p l e ro_23 s m args below meth c T' L' cells slots ∧ Fr n0 L' ∧ T'.heap = h0 ∧ ∀ target, Steps p.tables e below (T'.setTop (mkF m 39 #[vr a1, vr a2, vi 1] [wi (own_low z2), wi (own_low x2)])) target → Steps p.tables e below (T0.setTop (mkF m 15 #[vr a1, vr a2, vi 1] [])) target := by
  have hwl : ∀ d ∈ StrChars.Road.wordsLen, d.before a0 Z = true := fun d hd => hw d ((by decide +kernel : ∀ d ∈ StrChars.Road.wordsLen, d ∈ tables_1) d hd)
  obtain ⟨t1, k1, cd1, N1a, vs1, ⟨E_a1, S_v1, S_k1, V_t1⟩, hc1a⟩ := S1
  obtain ⟨t2, k2, cd2, N2a, vs2, ⟨E_a2, S_v2, S_k2, V_t2⟩, hc2a⟩ := S2
  obtain ⟨cq101, kq101, q101a, q101b, q101c⟩ := isOf hZ e0 E_a1
  obtain ⟨_, _, ⟨T101, L101, k101, n101⟩, -, X101, ⟨Lc101, hQ101, l101, y101, z101⟩, st101⟩ := X0.virtualBack hx (y := mn_13) (z := mn_13) hown (mvT hZ (tw hw 47 rfl)) (mvT hZ (tw hw 48 rfl)) (notFace_of_selects (args := #[]) (mvT hZ (tw hw 50 rfl))) (mvT hZ (tw hw 50 rfl)) (mvT hZ (tw hw 49 rfl)) (by decide) (StrChars.Road.lenW (W := 1) hZ hwl (kI := 4) (tw hw 11 rfl) (cs := ([x1, x2, x3] : List Int32)) E_a1 S_v1 S_k1 V_t1 hc1a (own_alli hx1 (own_alli hx2 (own_alli hx3 own_all0))) (O2.ext X00.2) P5 (Nat.le_of_ble_eq_true rfl) (by decide) (by decide)) q101a q101c (g := (mkF m 17 #[vr a1, vr a2, vi 1] [wr a1, wi 1])) rfl (by rw [hml]; rfl) (Steps.refl _) (argsL := []) (rest := [wi 1]) (lenOf pd__I rfl) rfl (Nat.le_refl _) (hb hby d10_17) (fun _ _ => ⟨rfl, e0, qc, qs⟩)
  dsimp only [Pt.U, Pt.locs, Pt.cells, Pt.slots] at X101 l101 y101 z101 st101 hQ101
  subst l101 y101 z101
  obtain ⟨hv101, rfl, eq101⟩ := hQ101
  obtain rfl : _ = some (Value.int (3 : Int32)) := hv101
  have N101 := Fr.app N0 (Fr.nil n0)
  obtain ⟨cq102, kq102, q102a, q102b, q102c⟩ := isOf hZ eq101 E_a1
  obtain ⟨_, _, ⟨T102, L102, k102, n102⟩, -, X102, ⟨Lc102, hQ102, l102, y102, z102⟩, st102⟩ := X101.virtualBack hx (y := mn_9) (z := mn_9) hown (mvT hZ (tw hw 61 rfl)) (mvT hZ (tw hw 62 rfl)) (notFace_of_selects (args := #[]) (mvT hZ (tw hw 64 rfl))) (mvT hZ (tw hw 64 rfl)) (mvT hZ (tw hw 63 rfl)) (by decide) (backOf (W := 0) (rmCh_3_1 l Z a0 hw [] a1 t1 k1 cd1 N1a vs1 x1 x2 x3 G1 fm h0 n0 X00 O2 P5 SA SH SL FM rf E_a1 S_v1 hx2 S_k1 V_t1 hc1a) hZ (tw hw 65 rfl) (tw hw 12 rfl) (by decide) (by decide)) q102a q102c (g := (mkF m 25 #[vr a1, vr a2, vi 1] [wi 1, wr a1])) rfl (by rw [hml]; rfl) (Steps.refl _) (argsL := [wi 1]) (rest := []) (lenOf pd_I_C rfl) rfl (Nat.le_refl _) (hb hby d10_25) (fun _ _ => ⟨rfl, eq101, qc, qs⟩)
  dsimp only [Pt.U, Pt.locs, Pt.cells, Pt.slots] at X102 l102 y102 z102 st102 hQ102
  subst l102 y102 z102
  obtain ⟨rfl, N102q, eq102⟩ := hQ102
  have N102 := Fr.app N101 N102q
  obtain ⟨_, _, ⟨T103, L103, k103, n103⟩, -, X103, ⟨Lc103, hQ103, l103, y103, z103⟩, st103⟩ := Jvm.LawKit.callS X102 hx (y := mn_1) hown (mvT hZ (tw hw 83 rfl)) (mvT hZ (tw hw 84 rfl)) (mvT hZ (tw hw 45 rfl)) (mvT hZ (tw hw 85 rfl)) (by decide) (backOf (W := 0) (rmLow l Z a0 hw [] x2 h0 n0 X00 ) hZ (tw hw 85 rfl) (tw hw 45 rfl) (by decide) (by decide)) (g := (mkF m 28 #[vr a1, vr a2, vi 1] [wi x2])) rfl (by rw [hml]; rfl) (argsL := [wi x2]) (rest := []) (lenOf pd_C_C rfl) rfl (Nat.le_refl _) (hb hby d10_28) (fun _ _ => ⟨rfl, eq102, qc, qs⟩)
  dsimp only [Pt.U, Pt.locs, Pt.cells, Pt.slots] at X103 l103 y103 z103 st103 hQ103
  subst l103 y103 z103
  obtain ⟨rfl, N103q, eq103⟩ := hQ103
  have N103 := Fr.app N102 N103q
  obtain ⟨cq104, kq104, q104a, q104b, q104c⟩ := isOf hZ eq103 E_a2
  obtain ⟨_, _, ⟨T104, L104, k104, n104⟩, -, X104, ⟨Lc104, hQ104, l104, y104, z104⟩, st104⟩ := X103.virtualBack hx (y := mn_9) (z := mn_9) hown (mvT hZ (tw hw 61 rfl)) (mvT hZ (tw hw 62 rfl)) (notFace_of_selects (args := #[]) (mvT hZ (tw hw 64 rfl))) (mvT hZ (tw hw 64 rfl)) (mvT hZ (tw hw 63 rfl)) (by decide) (backOf (W := 1) (rmCh_3_1 l Z a0 hw [] a2 t2 k2 cd2 N2a vs2 z1 z2 z3 G1 fm h0 n0 X00 O2 P5 SA SH SL FM rf E_a2 S_v2 hz2 S_k2 V_t2 hc2a) hZ (tw hw 65 rfl) (tw hw 12 rfl) (by decide) (by decide)) q104a q104c (g := (mkF m 33 #[vr a1, vr a2, vi 1] [wi 1, wr a2, wi (own_low x2)])) rfl (by rw [hml]; rfl) (Steps.refl _) (argsL := [wi 1]) (rest := [wi (own_low x2)]) (lenOf pd_I_C rfl) rfl (Nat.le_refl _) (hb hby d10_33) (fun _ _ => ⟨rfl, eq103, qc, qs⟩)
  dsimp only [Pt.U, Pt.locs, Pt.cells, Pt.slots] at X104 l104 y104 z104 st104 hQ104
  subst l104 y104 z104
  obtain ⟨rfl, N104q, eq104⟩ := hQ104
  have N104 := Fr.app N103 N104q
  obtain ⟨_, _, ⟨T105, L105, k105, n105⟩, -, X105, ⟨Lc105, hQ105, l105, y105, z105⟩, st105⟩ := Jvm.LawKit.callS X104 hx (y := mn_1) hown (mvT hZ (tw hw 83 rfl)) (mvT hZ (tw hw 84 rfl)) (mvT hZ (tw hw 45 rfl)) (mvT hZ (tw hw 85 rfl)) (by decide) (backOf (W := 1) (rmLow l Z a0 hw [] z2 h0 n0 X00 ) hZ (tw hw 85 rfl) (tw hw 45 rfl) (by decide) (by decide)) (g := (mkF m 36 #[vr a1, vr a2, vi 1] [wi z2, wi (own_low x2)])) rfl (by rw [hml]; rfl) (argsL := [wi z2]) (rest := [wi (own_low x2)]) (lenOf pd_C_C rfl) rfl (Nat.le_refl _) (hb hby d10_36) (fun _ _ => ⟨rfl, eq104, qc, qs⟩)
  dsimp only [Pt.U, Pt.locs, Pt.cells, Pt.slots] at X105 l105 y105 z105 st105 hQ105
  subst l105 y105 z105
  obtain ⟨rfl, N105q, eq105⟩ := hQ105
  have N105 := Fr.app N104 N105q
  refine ⟨T105, _, X105, N105, eq105, fun target kt => ?_⟩
  show Go p e below T0 (mkF m 15 #[vr a1, vr a2, vi 1] []) _
  refine XS.iloadN X0.here hx rfl (hb hby d10_15) rfl ?_
  show Go p e below T0 (mkF m 16 #[vr a1, vr a2, vi 1] [wi 1]) _
  refine XS.aloadN X0.here hx rfl (hb hby d10_16) rfl rfl ?_
  show Go p e below T0 (mkF m 17 #[vr a1, vr a2, vi 1] [wr a1, wi 1]) _
  refine st101.trans ?_
  show Go p e below T101 (mkF m 20 #[vr a1, vr a2, vi 1] [wi 3, wi 1]) _
  refine XS.icmpNo X101.here hx rfl (hb hby d10_20) rfl (tlt (by decide : (1 : Int32) < (3 : Int32))).2.1 ?_
  show Go p e below T101 (mkF m 23 #[vr a1, vr a2, vi 1] []) _
  refine XS.aloadN X101.here hx rfl (hb hby d10_23) rfl rfl ?_
  show Go p e below T101 (mkF m 24 #[vr a1, vr a2, vi 1] [wr a1]) _
  refine XS.iloadN X101.here hx rfl (hb hby d10_24) rfl ?_
  show Go p e below T101 (mkF m 25 #[vr a1, vr a2, vi 1] [wi 1, wr a1]) _
  refine st102.trans ?_
  show Go p e below T102 (mkF m 28 #[vr a1, vr a2, vi 1] [wi x2]) _
  refine st103 _ ?_
  show Go p e below T103 (mkF m 31 #[vr a1, vr a2, vi 1] [wi (own_low x2)]) _
  refine XS.aloadN X103.here hx rfl (hb hby d10_31) rfl rfl ?_
  show Go p e below T103 (mkF m 32 #[vr a1, vr a2, vi 1] [wr a2, wi (own_low x2)]) _
  refine XS.iloadN X103.here hx rfl (hb hby d10_32) rfl ?_
  show Go p e below T103 (mkF m 33 #[vr a1, vr a2, vi 1] [wi 1, wr a2, wi (own_low x2)]) _
  refine st104.trans ?_
  show Go p e below T104 (mkF m 36 #[vr a1, vr a2, vi 1] [wi z2, wi (own_low x2)]) _
  refine st105 _ ?_
  exact kt
set_option maxRecDepth 65536 in
set_option maxHeartbeats 40000000 in
theorem tn_3_2 {p : Program} {l : Launch} {e : Env} {s : State} {m : MethodId} {args : Array Value} {below : List Frame} {meth : Method} {c : Code} {T0 : State} {locs : List Loc} {cells slots : Nat} {Z : State} {a0 : Array Value} {h0 : Heap} {n0 : Nat} (a1 : Addr) (a2 : Addr) (x1 : Int32) (x2 : Int32) (x3 : Int32) (z1 : Int32) (z2 : Int32) (z3 : Int32) (G1 : Int32) (fm : Value)
    (X0 : Stand p l e ro_23 s m args below meth c T0 locs cells slots) (hx : p.tables.exec = Jvm.exec) (hZ : Z.Warmed39 s.vm) (hw : ∀ d ∈ tables_1, d.before a0 Z = true) (hby : c.code = prog_7_method_7_code) (hml : c.maxLocals = 3) (hown : s.vm.findClass "com/example/webhook_guard/webhookguard/http/HeaderField" = some m.cls) (e0 : T0.heap = h0) (N0 : Fr n0 locs) (X00 : Old Z n0 h0) (qc : cells ≤ ro_23.cells) (qs : slots ≤ ro_23.slots) (O2 : pO2 Z G1) (P5 : ¬ (G1 = (0 : Int32))) (SA : pSA Z) (SH : pSH Z) (SL : pSL Z) (FM : pFM Z fm) (rf : fm.isRef = true) (S1 : Str Z h0 a1 [x1, x2, x3]) (S2 : Str Z h0 a2 [z1, z2, z3]) (hx1 : ChB x1) (hx2 : ChB x2) (hx3 : ChB x3) (hz1 : ChB z1) (hz2 : ChB z2) (hz3 : ChB z3) :
    ∃ (T' : State) (L' : List Loc), Stand p l e ro_23 s m args below meth c T' L' cells slots ∧ Fr n0 L' ∧ T'.heap = h0 ∧ ∀ target, Steps p.tables e below (T'.setTop (mkF m 39 #[vr a1, vr a2, vi 2] [wi (own_low z3), wi (own_low x3)])) target → Steps p.tables e below (T0.setTop (mkF m 15 #[vr a1, vr a2, vi 2] [])) target := by
  have hwl : ∀ d ∈ StrChars.Road.wordsLen, d.before a0 Z = true := fun d hd => hw d ((by decide +kernel : ∀ d ∈ StrChars.Road.wordsLen, d ∈ tables_1) d hd)
  obtain ⟨t1, k1, cd1, N1a, vs1, ⟨E_a1, S_v1, S_k1, V_t1⟩, hc1a⟩ := S1
  obtain ⟨t2, k2, cd2, N2a, vs2, ⟨E_a2, S_v2, S_k2, V_t2⟩, hc2a⟩ := S2
  obtain ⟨cq101, kq101, q101a, q101b, q101c⟩ := isOf hZ e0 E_a1
  obtain ⟨_, _, ⟨T101, L101, k101, n101⟩, -, X101, ⟨Lc101, hQ101, l101, y101, z101⟩, st101⟩ := X0.virtualBack hx (y := mn_13) (z := mn_13) hown (mvT hZ (tw hw 47 rfl)) (mvT hZ (tw hw 48 rfl)) (notFace_of_selects (args := #[]) (mvT hZ (tw hw 50 rfl))) (mvT hZ (tw hw 50 rfl)) (mvT hZ (tw hw 49 rfl)) (by decide) (StrChars.Road.lenW (W := 1) hZ hwl (kI := 4) (tw hw 11 rfl) (cs := ([x1, x2, x3] : List Int32)) E_a1 S_v1 S_k1 V_t1 hc1a (own_alli hx1 (own_alli hx2 (own_alli hx3 own_all0))) (O2.ext X00.2) P5 (Nat.le_of_ble_eq_true rfl) (by decide) (by decide)) q101a q101c (g := (mkF m 17 #[vr a1, vr a2, vi 2] [wr a1, wi 2])) rfl (by rw [hml]; rfl) (Steps.refl _) (argsL := []) (rest := [wi 2]) (lenOf pd__I rfl) rfl (Nat.le_refl _) (hb hby d10_17) (fun _ _ => ⟨rfl, e0, qc, qs⟩)
  dsimp only [Pt.U, Pt.locs, Pt.cells, Pt.slots] at X101 l101 y101 z101 st101 hQ101
  subst l101 y101 z101
  obtain ⟨hv101, rfl, eq101⟩ := hQ101
  obtain rfl : _ = some (Value.int (3 : Int32)) := hv101
  have N101 := Fr.app N0 (Fr.nil n0)
  obtain ⟨cq102, kq102, q102a, q102b, q102c⟩ := isOf hZ eq101 E_a1
  obtain ⟨_, _, ⟨T102, L102, k102, n102⟩, -, X102, ⟨Lc102, hQ102, l102, y102, z102⟩, st102⟩ := X101.virtualBack hx (y := mn_9) (z := mn_9) hown (mvT hZ (tw hw 61 rfl)) (mvT hZ (tw hw 62 rfl)) (notFace_of_selects (args := #[]) (mvT hZ (tw hw 64 rfl))) (mvT hZ (tw hw 64 rfl)) (mvT hZ (tw hw 63 rfl)) (by decide) (backOf (W := 0) (rmCh_3_2 l Z a0 hw [] a1 t1 k1 cd1 N1a vs1 x1 x2 x3 G1 fm h0 n0 X00 O2 P5 SA SH SL FM rf E_a1 S_v1 hx3 S_k1 V_t1 hc1a) hZ (tw hw 65 rfl) (tw hw 12 rfl) (by decide) (by decide)) q102a q102c (g := (mkF m 25 #[vr a1, vr a2, vi 2] [wi 2, wr a1])) rfl (by rw [hml]; rfl) (Steps.refl _) (argsL := [wi 2]) (rest := []) (lenOf pd_I_C rfl) rfl (Nat.le_refl _) (hb hby d10_25) (fun _ _ => ⟨rfl, eq101, qc, qs⟩)
  dsimp only [Pt.U, Pt.locs, Pt.cells, Pt.slots] at X102 l102 y102 z102 st102 hQ102
  subst l102 y102 z102
  obtain ⟨rfl, N102q, eq102⟩ := hQ102
  have N102 := Fr.app N101 N102q
  obtain ⟨_, _, ⟨T103, L103, k103, n103⟩, -, X103, ⟨Lc103, hQ103, l103, y103, z103⟩, st103⟩ := Jvm.LawKit.callS X102 hx (y := mn_1) hown (mvT hZ (tw hw 83 rfl)) (mvT hZ (tw hw 84 rfl)) (mvT hZ (tw hw 45 rfl)) (mvT hZ (tw hw 85 rfl)) (by decide) (backOf (W := 0) (rmLow l Z a0 hw [] x3 h0 n0 X00 ) hZ (tw hw 85 rfl) (tw hw 45 rfl) (by decide) (by decide)) (g := (mkF m 28 #[vr a1, vr a2, vi 2] [wi x3])) rfl (by rw [hml]; rfl) (argsL := [wi x3]) (rest := []) (lenOf pd_C_C rfl) rfl (Nat.le_refl _) (hb hby d10_28) (fun _ _ => ⟨rfl, eq102, qc, qs⟩)
  dsimp only [Pt.U, Pt.locs, Pt.cells, Pt.slots] at X103 l103 y103 z103 st103 hQ103
  subst l103 y103 z103
  obtain ⟨rfl, N103q, eq103⟩ := hQ103
  have N103 := Fr.app N102 N103q
  obtain ⟨cq104, kq104, q104a, q104b, q104c⟩ := isOf hZ eq103 E_a2
  obtain ⟨_, _, ⟨T104, L104, k104, n104⟩, -, X104, ⟨Lc104, hQ104, l104, y104, z104⟩, st104⟩ := X103.virtualBack hx (y := mn_9) (z := mn_9) hown (mvT hZ (tw hw 61 rfl)) (mvT hZ (tw hw 62 rfl)) (notFace_of_selects (args := #[]) (mvT hZ (tw hw 64 rfl))) (mvT hZ (tw hw 64 rfl)) (mvT hZ (tw hw 63 rfl)) (by decide) (backOf (W := 1) (rmCh_3_2 l Z a0 hw [] a2 t2 k2 cd2 N2a vs2 z1 z2 z3 G1 fm h0 n0 X00 O2 P5 SA SH SL FM rf E_a2 S_v2 hz3 S_k2 V_t2 hc2a) hZ (tw hw 65 rfl) (tw hw 12 rfl) (by decide) (by decide)) q104a q104c (g := (mkF m 33 #[vr a1, vr a2, vi 2] [wi 2, wr a2, wi (own_low x3)])) rfl (by rw [hml]; rfl) (Steps.refl _) (argsL := [wi 2]) (rest := [wi (own_low x3)]) (lenOf pd_I_C rfl) rfl (Nat.le_refl _) (hb hby d10_33) (fun _ _ => ⟨rfl, eq103, qc, qs⟩)
  dsimp only [Pt.U, Pt.locs, Pt.cells, Pt.slots] at X104 l104 y104 z104 st104 hQ104
  subst l104 y104 z104
  obtain ⟨rfl, N104q, eq104⟩ := hQ104
  have N104 := Fr.app N103 N104q
  obtain ⟨_, _, ⟨T105, L105, k105, n105⟩, -, X105, ⟨Lc105, hQ105, l105, y105, z105⟩, st105⟩ := Jvm.LawKit.callS X104 hx (y := mn_1) hown (mvT hZ (tw hw 83 rfl)) (mvT hZ (tw hw 84 rfl)) (mvT hZ (tw hw 45 rfl)) (mvT hZ (tw hw 85 rfl)) (by decide) (backOf (W := 1) (rmLow l Z a0 hw [] z3 h0 n0 X00 ) hZ (tw hw 85 rfl) (tw hw 45 rfl) (by decide) (by decide)) (g := (mkF m 36 #[vr a1, vr a2, vi 2] [wi z3, wi (own_low x3)])) rfl (by rw [hml]; rfl) (argsL := [wi z3]) (rest := [wi (own_low x3)]) (lenOf pd_C_C rfl) rfl (Nat.le_refl _) (hb hby d10_36) (fun _ _ => ⟨rfl, eq104, qc, qs⟩)
  dsimp only [Pt.U, Pt.locs, Pt.cells, Pt.slots] at X105 l105 y105 z105 st105 hQ105
  subst l105 y105 z105
  obtain ⟨rfl, N105q, eq105⟩ := hQ105
  have N105 := Fr.app N104 N105q
  refine ⟨T105, _, X105, N105, eq105, fun target kt => ?_⟩
  show Go p e below T0 (mkF m 15 #[vr a1, vr a2, vi 2] []) _
  refine XS.iloadN X0.here hx rfl (hb hby d10_15) rfl ?_
  show Go p e below T0 (mkF m 16 #[vr a1, vr a2, vi 2] [wi 2]) _
  refine XS.aloadN X0.here hx rfl (hb hby d10_16) rfl rfl ?_
  show Go p e below T0 (mkF m 17 #[vr a1, vr a2, vi 2] [wr a1, wi 2]) _
  refine st101.trans ?_
  show Go p e below T101 (mkF m 20 #[vr a1, vr a2, vi 2] [wi 3, wi 2]) _
  refine XS.icmpNo X101.here hx rfl (hb hby d10_20) rfl (tlt (by decide : (2 : Int32) < (3 : Int32))).2.1 ?_
  show Go p e below T101 (mkF m 23 #[vr a1, vr a2, vi 2] []) _
  refine XS.aloadN X101.here hx rfl (hb hby d10_23) rfl rfl ?_
  show Go p e below T101 (mkF m 24 #[vr a1, vr a2, vi 2] [wr a1]) _
  refine XS.iloadN X101.here hx rfl (hb hby d10_24) rfl ?_
  show Go p e below T101 (mkF m 25 #[vr a1, vr a2, vi 2] [wi 2, wr a1]) _
  refine st102.trans ?_
  show Go p e below T102 (mkF m 28 #[vr a1, vr a2, vi 2] [wi x3]) _
  refine st103 _ ?_
  show Go p e below T103 (mkF m 31 #[vr a1, vr a2, vi 2] [wi (own_low x3)]) _
  refine XS.aloadN X103.here hx rfl (hb hby d10_31) rfl rfl ?_
  show Go p e below T103 (mkF m 32 #[vr a1, vr a2, vi 2] [wr a2, wi (own_low x3)]) _
  refine XS.iloadN X103.here hx rfl (hb hby d10_32) rfl ?_
  show Go p e below T103 (mkF m 33 #[vr a1, vr a2, vi 2] [wi 2, wr a2, wi (own_low x3)]) _
  refine st104.trans ?_
  show Go p e below T104 (mkF m 36 #[vr a1, vr a2, vi 2] [wi z3, wi (own_low x3)]) _
  refine st105 _ ?_
  exact kt
set_option maxRecDepth 65536 in
set_option maxHeartbeats 40000000 in
theorem rmEq_ne (l : Launch) (Z : State) (a0 : Array Value) (hw : ∀ d ∈ tables_1, d.before a0 Z = true) (ws : List Jvm.Cond) (a1 : Addr) (a2 : Addr) (cs : List Int32) (ds : List Int32) (G1 : Int32) (fm : Value) (h0 : Heap) (n0 : Nat) (X00 : Old Z n0 h0) (O2 : pO2 Z G1) (P5 : ¬ (G1 = (0 : Int32))) (SA : pSA Z) (SH : pSH Z) (SL : pSL Z) (FM : pFM Z fm) (rf : fm.isRef = true) (S1 : Str Z h0 a1 cs) (S2 : Str Z h0 a2 ds) (hbc : ∀ c ∈ cs, ChB c) (hbd : ∀ c ∈ ds, ChB c) (hl1 : cs.length ≤ 3) (hl2 : ds.length ≤ 3) (hne : ¬ (cs.length = ds.length)) :
    MetFree l mn_0 (head1 (Jvm.Cond.code mn_0 prog_7_method_7_code 3 (some .boolean) :: ws) ro_23) (fun a U => a = #[(.ref a1), (.ref a2)] ∧ Z.Warmed39 U.vm ∧ U.heap = h0) (fun _ _ _ _ _ => True) (fun _ U o U' => ∃ rv rL, o = .returned rv ∧ Qs (some (.int (own_eqi cs ds))) h0 n0 rv U'.heap rL ∧ FrameEnd U o U' rL ro_23.cells ro_23.slots) := by
  refine MetFree.of_bodySF (plainFor_of_name pn_10) hisR ?_
  intro p e s m args below meth c s₁ Bd hml0 hP hK
  obtain ⟨rfl, hZ, hh⟩ := hP
  have hx := Bd.exec
  have hby := Bd.bytes
  have hml : c.maxLocals = 3 := hml0
  have hown : s.vm.findClass "com/example/webhook_guard/webhookguard/http/HeaderField" = some m.cls := findClass_of_methodNamed Bd.named
  have hnm := (name_of_methodNamed Bd.named Bd.method).1
  have X0 : Stand p l e ro_23 s m #[(.ref a1), (.ref a2)] below meth c s₁ [] 0 0 := Stand.of_body Bd
  have e0 : s₁.heap = h0 := by rw [← hh, Bd.state]; rfl
  have N0 := Fr.nil n0
  have pre0 : ∀ t, Steps p.tables e below (s₁.setTop (mkF m 0 #[.val (.ref a1), .val (.ref a2), .unset] [])) t → Steps p.tables e below (s₁.setTop (entryFrame m #[(.ref a1), (.ref a2)] 3)) t := fun t k => castTop (ef_10 m a1 a2) k
  have hwl : ∀ d ∈ StrChars.Road.wordsLen, d.before a0 Z = true := fun d hd => hw d ((by decide +kernel : ∀ d ∈ StrChars.Road.wordsLen, d ∈ tables_1) d hd)
  obtain ⟨t1, k1, cd1, N1a, vs1, ⟨E_a1, S_v1, S_k1, V_t1⟩, hc1a⟩ := S1
  obtain ⟨t2, k2, cd2, N2a, vs2, ⟨E_a2, S_v2, S_k2, V_t2⟩, hc2a⟩ := S2
  obtain ⟨cq101, kq101, q101a, q101b, q101c⟩ := isOf hZ e0 E_a1
  obtain ⟨_, _, ⟨T101, L101, k101, n101⟩, -, X101, ⟨Lc101, hQ101, l101, y101, z101⟩, st101⟩ := X0.virtualBack hx (y := mn_13) (z := mn_13) hown (mvT hZ (tw hw 47 rfl)) (mvT hZ (tw hw 48 rfl)) (notFace_of_selects (args := #[]) (mvT hZ (tw hw 50 rfl))) (mvT hZ (tw hw 50 rfl)) (mvT hZ (tw hw 49 rfl)) (by decide) (StrChars.Road.lenW (W := 0) hZ hwl (kI := 4) (tw hw 11 rfl) (cs := cs) E_a1 S_v1 S_k1 V_t1 hc1a hbc (O2.ext X00.2) P5 (Nat.le_trans hl1 (by decide)) (by decide) (by decide)) q101a q101c (g := (mkF m 1 #[vr a1, vr a2, .unset] [wr a1])) rfl (by rw [hml]; rfl) (Steps.refl _) (argsL := []) (rest := []) (lenOf pd__I rfl) rfl (Nat.le_refl _) (hb hby d10_1) (fun _ _ => ⟨rfl, e0, (by decide : 0 + 0 ≤ _), (by decide : 0 + 0 ≤ _)⟩)
  dsimp only [Pt.U, Pt.locs, Pt.cells, Pt.slots] at X101 l101 y101 z101 st101 hQ101
  subst l101 y101 z101
  obtain ⟨hv101, rfl, eq101⟩ := hQ101
  obtain rfl : _ = some (Value.int (Int32.ofNat cs.length)) := hv101
  have N101 := Fr.app N0 (Fr.nil n0)
  obtain ⟨cq102, kq102, q102a, q102b, q102c⟩ := isOf hZ eq101 E_a2
  obtain ⟨_, _, ⟨T102, L102, k102, n102⟩, -, X102, ⟨Lc102, hQ102, l102, y102, z102⟩, st102⟩ := X101.virtualBack hx (y := mn_13) (z := mn_13) hown (mvT hZ (tw hw 47 rfl)) (mvT hZ (tw hw 48 rfl)) (notFace_of_selects (args := #[]) (mvT hZ (tw hw 50 rfl))) (mvT hZ (tw hw 50 rfl)) (mvT hZ (tw hw 49 rfl)) (by decide) (StrChars.Road.lenW (W := 1) hZ hwl (kI := 4) (tw hw 11 rfl) (cs := ds) E_a2 S_v2 S_k2 V_t2 hc2a hbd (O2.ext X00.2) P5 (Nat.le_trans hl2 (by decide)) (by decide) (by decide)) q102a q102c (g := (mkF m 5 #[vr a1, vr a2, .unset] [wr a2, wi (Int32.ofNat cs.length)])) rfl (by rw [hml]; rfl) (Steps.refl _) (argsL := []) (rest := [wi (Int32.ofNat cs.length)]) (lenOf pd__I rfl) rfl (Nat.le_refl _) (hb hby d10_5) (fun _ _ => ⟨rfl, eq101, (by decide : 0 + 0 ≤ _), (by decide : 0 + 0 ≤ _)⟩)
  dsimp only [Pt.U, Pt.locs, Pt.cells, Pt.slots] at X102 l102 y102 z102 st102 hQ102
  subst l102 y102 z102
  obtain ⟨hv102, rfl, eq102⟩ := hQ102
  obtain rfl : _ = some (Value.int (Int32.ofNat ds.length)) := hv102
  have N102 := Fr.app N101 (Fr.nil n0)
  have hc8 : ¬ ((Int32.ofNat cs.length) = (Int32.ofNat ds.length)) := own_of_ne hl1 hl2 hne
  obtain ⟨fs, hr, hrun, hended, hW, hsame⟩ := X102.leave (v := some (.int (0 : Int32))) (fun h => by rw [Bd.returns] at h; cases h)
  refine ⟨_, _, pre0 _ ?_, hrun, hended, _, _, rfl, ?_, ⟨_, rfl⟩, hW, hsame.mono (by decide) (by decide)⟩
  · show Go p e below s₁ (mkF m 0 #[vr a1, vr a2, .unset] []) _
    refine XS.aloadN X0.here hx rfl (hb hby d10_0) rfl rfl ?_
    show Go p e below s₁ (mkF m 1 #[vr a1, vr a2, .unset] [wr a1]) _
    refine st101.trans ?_
    show Go p e below T101 (mkF m 4 #[vr a1, vr a2, .unset] [wi (Int32.ofNat cs.length)]) _
    refine XS.aloadN X101.here hx rfl (hb hby d10_4) rfl rfl ?_
    show Go p e below T101 (mkF m 5 #[vr a1, vr a2, .unset] [wr a2, wi (Int32.ofNat cs.length)]) _
    refine st102.trans ?_
    show Go p e below T102 (mkF m 8 #[vr a1, vr a2, .unset] [wi (Int32.ofNat ds.length), wi (Int32.ofNat cs.length)]) _
    refine XS.icmpNo X102.here hx rfl (hb hby d10_8) rfl (feq hc8).1 ?_
    show Go p e below T102 (mkF m 11 #[vr a1, vr a2, .unset] []) _
    refine XS.iconst X102.here hx rfl (hb hby d10_11) ?_
    show Go p e below T102 (mkF m 12 #[vr a1, vr a2, .unset] [wi 0]) _
    exact retN X102 hx (t := .boolean) Bd.returns (by simp) (hb hby d10_12) hr
  · show Qs (some (.int (own_eqi cs ds))) h0 n0 _ T102.heap _
    rw [eq102]
    exact ⟨by rw [own_eqi_ne hne], N102, rfl⟩
set_option maxRecDepth 65536 in
set_option maxHeartbeats 40000000 in
theorem rmEq_0_n (l : Launch) (Z : State) (a0 : Array Value) (hw : ∀ d ∈ tables_1, d.before a0 Z = true) (ws : List Jvm.Cond) (a1 : Addr) (a2 : Addr) (G1 : Int32) (fm : Value) (h0 : Heap) (n0 : Nat) (X00 : Old Z n0 h0) (O2 : pO2 Z G1) (P5 : ¬ (G1 = (0 : Int32))) (SA : pSA Z) (SH : pSH Z) (SL : pSL Z) (FM : pFM Z fm) (rf : fm.isRef = true) (S1 : Str Z h0 a1 []) (S2 : Str Z h0 a2 []) :
    MetFree l mn_0 (head1 (Jvm.Cond.code mn_0 prog_7_method_7_code 3 (some .boolean) :: ws) ro_23) (fun a U => a = #[(.ref a1), (.ref a2)] ∧ Z.Warmed39 U.vm ∧ U.heap = h0) (fun _ _ _ _ _ => True) (fun _ U o U' => ∃ rv rL, o = .returned rv ∧ Qs (some (.int (own_eqi [] []))) h0 n0 rv U'.heap rL ∧ FrameEnd U o U' rL ro_23.cells ro_23.slots) := by
  refine MetFree.of_bodySF (plainFor_of_name pn_10) hisR ?_
  intro p e s m args below meth c s₁ Bd hml0 hP hK
  obtain ⟨rfl, hZ, hh⟩ := hP
  have hx := Bd.exec
  have hby := Bd.bytes
  have hml : c.maxLocals = 3 := hml0
  have hown : s.vm.findClass "com/example/webhook_guard/webhookguard/http/HeaderField" = some m.cls := findClass_of_methodNamed Bd.named
  have hnm := (name_of_methodNamed Bd.named Bd.method).1
  have X0 : Stand p l e ro_23 s m #[(.ref a1), (.ref a2)] below meth c s₁ [] 0 0 := Stand.of_body Bd
  have e0 : s₁.heap = h0 := by rw [← hh, Bd.state]; rfl
  have N0 := Fr.nil n0
  have pre0 : ∀ t, Steps p.tables e below (s₁.setTop (mkF m 0 #[.val (.ref a1), .val (.ref a2), .unset] [])) t → Steps p.tables e below (s₁.setTop (entryFrame m #[(.ref a1), (.ref a2)] 3)) t := fun t k => castTop (ef_10 m a1 a2) k
  have hwl : ∀ d ∈ StrChars.Road.wordsLen, d.before a0 Z = true := fun d hd => hw d ((by decide +kernel : ∀ d ∈ StrChars.Road.wordsLen, d ∈ tables_1) d hd)
  obtain ⟨t1, k1, cd1, N1a, vs1, ⟨E_a1, S_v1, S_k1, V_t1⟩, hc1a⟩ := id S1
  obtain ⟨t2, k2, cd2, N2a, vs2, ⟨E_a2, S_v2, S_k2, V_t2⟩, hc2a⟩ := id S2
  obtain ⟨cq101, kq101, q101a, q101b, q101c⟩ := isOf hZ e0 E_a1
  obtain ⟨_, _, ⟨T101, L101, k101, n101⟩, -, X101, ⟨Lc101, hQ101, l101, y101, z101⟩, st101⟩ := X0.virtualBack hx (y := mn_13) (z := mn_13) hown (mvT hZ (tw hw 47 rfl)) (mvT hZ (tw hw 48 rfl)) (notFace_of_selects (args := #[]) (mvT hZ (tw hw 50 rfl))) (mvT hZ (tw hw 50 rfl)) (mvT hZ (tw hw 49 rfl)) (by decide) (StrChars.Road.lenW (W := 0) hZ hwl (kI := 4) (tw hw 11 rfl) (cs := ([] : List Int32)) E_a1 S_v1 S_k1 V_t1 hc1a own_all0 (O2.ext X00.2) P5 (Nat.le_of_ble_eq_true rfl) (by decide) (by decide)) q101a q101c (g := (mkF m 1 #[vr a1, vr a2, .unset] [wr a1])) rfl (by rw [hml]; rfl) (Steps.refl _) (argsL := []) (rest := []) (lenOf pd__I rfl) rfl (Nat.le_refl _) (hb hby d10_1) (fun _ _ => ⟨rfl, e0, (by decide : 0 + 0 ≤ _), (by decide : 0 + 0 ≤ _)⟩)
  dsimp only [Pt.U, Pt.locs, Pt.cells, Pt.slots] at X101 l101 y101 z101 st101 hQ101
  subst l101 y101 z101
  obtain ⟨hv101, rfl, eq101⟩ := hQ101
  obtain rfl : _ = some (Value.int (0 : Int32)) := hv101
  have N101 := Fr.app N0 (Fr.nil n0)
  obtain ⟨cq102, kq102, q102a, q102b, q102c⟩ := isOf hZ eq101 E_a2
  obtain ⟨_, _, ⟨T102, L102, k102, n102⟩, -, X102, ⟨Lc102, hQ102, l102, y102, z102⟩, st102⟩ := X101.virtualBack hx (y := mn_13) (z := mn_13) hown (mvT hZ (tw hw 47 rfl)) (mvT hZ (tw hw 48 rfl)) (notFace_of_selects (args := #[]) (mvT hZ (tw hw 50 rfl))) (mvT hZ (tw hw 50 rfl)) (mvT hZ (tw hw 49 rfl)) (by decide) (StrChars.Road.lenW (W := 1) hZ hwl (kI := 4) (tw hw 11 rfl) (cs := ([] : List Int32)) E_a2 S_v2 S_k2 V_t2 hc2a own_all0 (O2.ext X00.2) P5 (Nat.le_of_ble_eq_true rfl) (by decide) (by decide)) q102a q102c (g := (mkF m 5 #[vr a1, vr a2, .unset] [wr a2, wi 0])) rfl (by rw [hml]; rfl) (Steps.refl _) (argsL := []) (rest := [wi 0]) (lenOf pd__I rfl) rfl (Nat.le_refl _) (hb hby d10_5) (fun _ _ => ⟨rfl, eq101, (by decide : 0 + 0 ≤ _), (by decide : 0 + 0 ≤ _)⟩)
  dsimp only [Pt.U, Pt.locs, Pt.cells, Pt.slots] at X102 l102 y102 z102 st102 hQ102
  subst l102 y102 z102
  obtain ⟨hv102, rfl, eq102⟩ := hQ102
  obtain rfl : _ = some (Value.int (0 : Int32)) := hv102
  have N102 := Fr.app N101 (Fr.nil n0)
  obtain ⟨cq103, kq103, q103a, q103b, q103c⟩ := isOf hZ eq102 E_a1
  obtain ⟨_, _, ⟨T103, L103, k103, n103⟩, -, X103, ⟨Lc103, hQ103, l103, y103, z103⟩, st103⟩ := X102.virtualBack hx (y := mn_13) (z := mn_13) hown (mvT hZ (tw hw 47 rfl)) (mvT hZ (tw hw 48 rfl)) (notFace_of_selects (args := #[]) (mvT hZ (tw hw 50 rfl))) (mvT hZ (tw hw 50 rfl)) (mvT hZ (tw hw 49 rfl)) (by decide) (StrChars.Road.lenW (W := 1) hZ hwl (kI := 4) (tw hw 11 rfl) (cs := ([] : List Int32)) E_a1 S_v1 S_k1 V_t1 hc1a own_all0 (O2.ext X00.2) P5 (Nat.le_of_ble_eq_true rfl) (by decide) (by decide)) q103a q103c (g := (mkF m 17 #[vr a1, vr a2, vi 0] [wr a1, wi 0])) rfl (by rw [hml]; rfl) (Steps.refl _) (argsL := []) (rest := [wi 0]) (lenOf pd__I rfl) rfl (Nat.le_refl _) (hb hby d10_17) (fun _ _ => ⟨rfl, eq102, (by decide : 0 + 0 ≤ _), (by decide : 0 + 0 ≤ _)⟩)
  dsimp only [Pt.U, Pt.locs, Pt.cells, Pt.slots] at X103 l103 y103 z103 st103 hQ103
  subst l103 y103 z103
  obtain ⟨hv103, rfl, eq103⟩ := hQ103
  obtain rfl : _ = some (Value.int (0 : Int32)) := hv103
  have N103 := Fr.app N102 (Fr.nil n0)
  obtain ⟨fs, hr, hrun, hended, hW, hsame⟩ := X103.leave (v := some (.int (1 : Int32))) (fun h => by rw [Bd.returns] at h; cases h)
  refine ⟨_, _, pre0 _ ?_, hrun, hended, _, _, rfl, ?_, ⟨_, rfl⟩, hW, hsame.mono (by decide) (by decide)⟩
  · show Go p e below s₁ (mkF m 0 #[vr a1, vr a2, .unset] []) _
    refine XS.aloadN X0.here hx rfl (hb hby d10_0) rfl rfl ?_
    show Go p e below s₁ (mkF m 1 #[vr a1, vr a2, .unset] [wr a1]) _
    refine st101.trans ?_
    show Go p e below T101 (mkF m 4 #[vr a1, vr a2, .unset] [wi 0]) _
    refine XS.aloadN X101.here hx rfl (hb hby d10_4) rfl rfl ?_
    show Go p e below T101 (mkF m 5 #[vr a1, vr a2, .unset] [wr a2, wi 0]) _
    refine st102.trans ?_
    show Go p e below T102 (mkF m 8 #[vr a1, vr a2, .unset] [wi 0, wi 0]) _
    refine XS.icmpYes X102.here hx rfl (pc0 := 8) (pc' := 13) rfl (hb hby d10_8) rfl (teq (rfl : (0 : Int32) = (0 : Int32))).1 (by decide) (by decide) ?_
    show Go p e below T102 (mkF m 13 #[vr a1, vr a2, .unset] []) _
    refine XS.iconst X102.here hx rfl (hb hby d10_13) ?_
    show Go p e below T102 (mkF m 14 #[vr a1, vr a2, .unset] [wi 0]) _
    refine XS.istoreN X102.here hx rfl (hb hby d10_14) rfl (l' := #[.val (.ref a1), .val (.ref a2), .val (.int (0 : Int32))]) rfl ?_
    show Go p e below T102 (mkF m 15 #[vr a1, vr a2, vi 0] []) _
    refine XS.iloadN X102.here hx rfl (hb hby d10_15) rfl ?_
    show Go p e below T102 (mkF m 16 #[vr a1, vr a2, vi 0] [wi 0]) _
    refine XS.aloadN X102.here hx rfl (hb hby d10_16) rfl rfl ?_
    show Go p e below T102 (mkF m 17 #[vr a1, vr a2, vi 0] [wr a1, wi 0]) _
    refine st103.trans ?_
    show Go p e below T103 (mkF m 20 #[vr a1, vr a2, vi 0] [wi 0, wi 0]) _
    refine XS.icmpYes X103.here hx rfl (pc0 := 20) (pc' := 50) rfl (hb hby d10_20) rfl (flt (by decide : ¬ ((0 : Int32) < (0 : Int32)))).2.1 (by decide) (by decide) ?_
    show Go p e below T103 (mkF m 50 #[vr a1, vr a2, vi 0] []) _
    refine XS.iconst X103.here hx rfl (hb hby d10_50) ?_
    show Go p e below T103 (mkF m 51 #[vr a1, vr a2, vi 0] [wi 1]) _
    exact retN X103 hx (t := .boolean) Bd.returns (by simp) (hb hby d10_51) hr
  · show Qs (some (.int (own_eqi [] []))) h0 n0 _ T103.heap _
    rw [eq103]
    exact ⟨own_some (by simp only [own_eqi]), N103, rfl⟩
set_option maxRecDepth 65536 in
set_option maxHeartbeats 40000000 in
theorem rmEq_1_n (l : Launch) (Z : State) (a0 : Array Value) (hw : ∀ d ∈ tables_1, d.before a0 Z = true) (ws : List Jvm.Cond) (a1 : Addr) (a2 : Addr) (x1 : Int32) (z1 : Int32) (G1 : Int32) (fm : Value) (h0 : Heap) (n0 : Nat) (X00 : Old Z n0 h0) (O2 : pO2 Z G1) (P5 : ¬ (G1 = (0 : Int32))) (SA : pSA Z) (SH : pSH Z) (SL : pSL Z) (FM : pFM Z fm) (rf : fm.isRef = true) (S1 : Str Z h0 a1 [x1]) (S2 : Str Z h0 a2 [z1]) (hx1 : ChB x1) (hz1 : ChB z1) (el0 : own_low x1 = own_low z1) :
    MetFree l mn_0 (head1 (Jvm.Cond.code mn_0 prog_7_method_7_code 3 (some .boolean) :: ws) ro_23) (fun a U => a = #[(.ref a1), (.ref a2)] ∧ Z.Warmed39 U.vm ∧ U.heap = h0) (fun _ _ _ _ _ => True) (fun _ U o U' => ∃ rv rL, o = .returned rv ∧ Qs (some (.int (own_eqi [x1] [z1]))) h0 n0 rv U'.heap rL ∧ FrameEnd U o U' rL ro_23.cells ro_23.slots) := by
  refine MetFree.of_bodySF (plainFor_of_name pn_10) hisR ?_
  intro p e s m args below meth c s₁ Bd hml0 hP hK
  obtain ⟨rfl, hZ, hh⟩ := hP
  have hx := Bd.exec
  have hby := Bd.bytes
  have hml : c.maxLocals = 3 := hml0
  have hown : s.vm.findClass "com/example/webhook_guard/webhookguard/http/HeaderField" = some m.cls := findClass_of_methodNamed Bd.named
  have hnm := (name_of_methodNamed Bd.named Bd.method).1
  have X0 : Stand p l e ro_23 s m #[(.ref a1), (.ref a2)] below meth c s₁ [] 0 0 := Stand.of_body Bd
  have e0 : s₁.heap = h0 := by rw [← hh, Bd.state]; rfl
  have N0 := Fr.nil n0
  have pre0 : ∀ t, Steps p.tables e below (s₁.setTop (mkF m 0 #[.val (.ref a1), .val (.ref a2), .unset] [])) t → Steps p.tables e below (s₁.setTop (entryFrame m #[(.ref a1), (.ref a2)] 3)) t := fun t k => castTop (ef_10 m a1 a2) k
  have hwl : ∀ d ∈ StrChars.Road.wordsLen, d.before a0 Z = true := fun d hd => hw d ((by decide +kernel : ∀ d ∈ StrChars.Road.wordsLen, d ∈ tables_1) d hd)
  obtain ⟨t1, k1, cd1, N1a, vs1, ⟨E_a1, S_v1, S_k1, V_t1⟩, hc1a⟩ := id S1
  obtain ⟨t2, k2, cd2, N2a, vs2, ⟨E_a2, S_v2, S_k2, V_t2⟩, hc2a⟩ := id S2
  obtain ⟨cq101, kq101, q101a, q101b, q101c⟩ := isOf hZ e0 E_a1
  obtain ⟨_, _, ⟨T101, L101, k101, n101⟩, -, X101, ⟨Lc101, hQ101, l101, y101, z101⟩, st101⟩ := X0.virtualBack hx (y := mn_13) (z := mn_13) hown (mvT hZ (tw hw 47 rfl)) (mvT hZ (tw hw 48 rfl)) (notFace_of_selects (args := #[]) (mvT hZ (tw hw 50 rfl))) (mvT hZ (tw hw 50 rfl)) (mvT hZ (tw hw 49 rfl)) (by decide) (StrChars.Road.lenW (W := 0) hZ hwl (kI := 4) (tw hw 11 rfl) (cs := ([x1] : List Int32)) E_a1 S_v1 S_k1 V_t1 hc1a (own_alli hx1 own_all0) (O2.ext X00.2) P5 (Nat.le_of_ble_eq_true rfl) (by decide) (by decide)) q101a q101c (g := (mkF m 1 #[vr a1, vr a2, .unset] [wr a1])) rfl (by rw [hml]; rfl) (Steps.refl _) (argsL := []) (rest := []) (lenOf pd__I rfl) rfl (Nat.le_refl _) (hb hby d10_1) (fun _ _ => ⟨rfl, e0, (by decide : 0 + 0 ≤ _), (by decide : 0 + 0 ≤ _)⟩)
  dsimp only [Pt.U, Pt.locs, Pt.cells, Pt.slots] at X101 l101 y101 z101 st101 hQ101
  subst l101 y101 z101
  obtain ⟨hv101, rfl, eq101⟩ := hQ101
  obtain rfl : _ = some (Value.int (1 : Int32)) := hv101
  have N101 := Fr.app N0 (Fr.nil n0)
  obtain ⟨cq102, kq102, q102a, q102b, q102c⟩ := isOf hZ eq101 E_a2
  obtain ⟨_, _, ⟨T102, L102, k102, n102⟩, -, X102, ⟨Lc102, hQ102, l102, y102, z102⟩, st102⟩ := X101.virtualBack hx (y := mn_13) (z := mn_13) hown (mvT hZ (tw hw 47 rfl)) (mvT hZ (tw hw 48 rfl)) (notFace_of_selects (args := #[]) (mvT hZ (tw hw 50 rfl))) (mvT hZ (tw hw 50 rfl)) (mvT hZ (tw hw 49 rfl)) (by decide) (StrChars.Road.lenW (W := 1) hZ hwl (kI := 4) (tw hw 11 rfl) (cs := ([z1] : List Int32)) E_a2 S_v2 S_k2 V_t2 hc2a (own_alli hz1 own_all0) (O2.ext X00.2) P5 (Nat.le_of_ble_eq_true rfl) (by decide) (by decide)) q102a q102c (g := (mkF m 5 #[vr a1, vr a2, .unset] [wr a2, wi 1])) rfl (by rw [hml]; rfl) (Steps.refl _) (argsL := []) (rest := [wi 1]) (lenOf pd__I rfl) rfl (Nat.le_refl _) (hb hby d10_5) (fun _ _ => ⟨rfl, eq101, (by decide : 0 + 0 ≤ _), (by decide : 0 + 0 ≤ _)⟩)
  dsimp only [Pt.U, Pt.locs, Pt.cells, Pt.slots] at X102 l102 y102 z102 st102 hQ102
  subst l102 y102 z102
  obtain ⟨hv102, rfl, eq102⟩ := hQ102
  obtain rfl : _ = some (Value.int (1 : Int32)) := hv102
  have N102 := Fr.app N101 (Fr.nil n0)
  obtain ⟨T103, L103, X103, N103, e103, st103⟩ := tn_1_0 a1 a2 x1 z1 G1 fm X102 hx hZ hw hby hml hown eq102 N102 X00 (by decide) (by decide) O2 P5 SA SH SL FM rf S1 S2 hx1 hz1
  have hc39 : (own_low x1) = (own_low z1) := el0
  obtain ⟨cq104, kq104, q104a, q104b, q104c⟩ := isOf hZ e103 E_a1
  obtain ⟨_, _, ⟨T104, L104, k104, n104⟩, -, X104, ⟨Lc104, hQ104, l104, y104, z104⟩, st104⟩ := X103.virtualBack hx (y := mn_13) (z := mn_13) hown (mvT hZ (tw hw 47 rfl)) (mvT hZ (tw hw 48 rfl)) (notFace_of_selects (args := #[]) (mvT hZ (tw hw 50 rfl))) (mvT hZ (tw hw 50 rfl)) (mvT hZ (tw hw 49 rfl)) (by decide) (StrChars.Road.lenW (W := 1) hZ hwl (kI := 4) (tw hw 11 rfl) (cs := ([x1] : List Int32)) E_a1 S_v1 S_k1 V_t1 hc1a (own_alli hx1 own_all0) (O2.ext X00.2) P5 (Nat.le_of_ble_eq_true rfl) (by decide) (by decide)) q104a q104c (g := (mkF m 17 #[vr a1, vr a2, vi 1] [wr a1, wi 1])) rfl (by rw [hml]; rfl) (Steps.refl _) (argsL := []) (rest := [wi 1]) (lenOf pd__I rfl) rfl (Nat.le_refl _) (hb hby d10_17) (fun _ _ => ⟨rfl, e103, (by decide : 0 + 0 ≤ _), (by decide : 0 + 0 ≤ _)⟩)
  dsimp only [Pt.U, Pt.locs, Pt.cells, Pt.slots] at X104 l104 y104 z104 st104 hQ104
  subst l104 y104 z104
  obtain ⟨hv104, rfl, eq104⟩ := hQ104
  obtain rfl : _ = some (Value.int (1 : Int32)) := hv104
  have N104 := Fr.app N103 (Fr.nil n0)
  obtain ⟨fs, hr, hrun, hended, hW, hsame⟩ := X104.leave (v := some (.int (1 : Int32))) (fun h => by rw [Bd.returns] at h; cases h)
  refine ⟨_, _, pre0 _ ?_, hrun, hended, _, _, rfl, ?_, ⟨_, rfl⟩, hW, hsame.mono (by decide) (by decide)⟩
  · show Go p e below s₁ (mkF m 0 #[vr a1, vr a2, .unset] []) _
    refine XS.aloadN X0.here hx rfl (hb hby d10_0) rfl rfl ?_
    show Go p e below s₁ (mkF m 1 #[vr a1, vr a2, .unset] [wr a1]) _
    refine st101.trans ?_
    show Go p e below T101 (mkF m 4 #[vr a1, vr a2, .unset] [wi 1]) _
    refine XS.aloadN X101.here hx rfl (hb hby d10_4) rfl rfl ?_
    show Go p e below T101 (mkF m 5 #[vr a1, vr a2, .unset] [wr a2, wi 1]) _
    refine st102.trans ?_
    show Go p e below T102 (mkF m 8 #[vr a1, vr a2, .unset] [wi 1, wi 1]) _
    refine XS.icmpYes X102.here hx rfl (pc0 := 8) (pc' := 13) rfl (hb hby d10_8) rfl (teq (rfl : (1 : Int32) = (1 : Int32))).1 (by decide) (by decide) ?_
    show Go p e below T102 (mkF m 13 #[vr a1, vr a2, .unset] []) _
    refine XS.iconst X102.here hx rfl (hb hby d10_13) ?_
    show Go p e below T102 (mkF m 14 #[vr a1, vr a2, .unset] [wi 0]) _
    refine XS.istoreN X102.here hx rfl (hb hby d10_14) rfl (l' := #[.val (.ref a1), .val (.ref a2), .val (.int (0 : Int32))]) rfl ?_
    refine st103 _ ?_
    show Go p e below T103 (mkF m 39 #[vr a1, vr a2, vi 0] [wi (own_low z1), wi (own_low x1)]) _
    refine XS.icmpYes X103.here hx rfl (pc0 := 39) (pc' := 44) rfl (hb hby d10_39) rfl (teq hc39).1 (by decide) (by decide) ?_
    show Go p e below T103 (mkF m 44 #[vr a1, vr a2, vi 0] []) _
    refine XS.iinc X103.here hx rfl (hb hby d10_44) rfl (l' := #[.val (.ref a1), .val (.ref a2), .val (.int (1 : Int32))]) rfl ?_
    show Go p e below T103 (mkF m 47 #[vr a1, vr a2, vi 1] []) _
    refine XS.goto X103.here hx rfl (pc0 := 47) (pc' := 15) rfl (hb hby d10_47) (by decide) (by decide) ?_
    show Go p e below T103 (mkF m 15 #[vr a1, vr a2, vi 1] []) _
    refine XS.iloadN X103.here hx rfl (hb hby d10_15) rfl ?_
    show Go p e below T103 (mkF m 16 #[vr a1, vr a2, vi 1] [wi 1]) _
    refine XS.aloadN X103.here hx rfl (hb hby d10_16) rfl rfl ?_
    show Go p e below T103 (mkF m 17 #[vr a1, vr a2, vi 1] [wr a1, wi 1]) _
    refine st104.trans ?_
    show Go p e below T104 (mkF m 20 #[vr a1, vr a2, vi 1] [wi 1, wi 1]) _
    refine XS.icmpYes X104.here hx rfl (pc0 := 20) (pc' := 50) rfl (hb hby d10_20) rfl (flt (by decide : ¬ ((1 : Int32) < (1 : Int32)))).2.1 (by decide) (by decide) ?_
    show Go p e below T104 (mkF m 50 #[vr a1, vr a2, vi 1] []) _
    refine XS.iconst X104.here hx rfl (hb hby d10_50) ?_
    show Go p e below T104 (mkF m 51 #[vr a1, vr a2, vi 1] [wi 1]) _
    exact retN X104 hx (t := .boolean) Bd.returns (by simp) (hb hby d10_51) hr
  · show Qs (some (.int (own_eqi [x1] [z1]))) h0 n0 _ T104.heap _
    rw [eq104]
    exact ⟨own_some (by simp only [own_eqi, if_pos el0]), N104, rfl⟩
set_option maxRecDepth 65536 in
set_option maxHeartbeats 40000000 in
theorem rmEq_1_0 (l : Launch) (Z : State) (a0 : Array Value) (hw : ∀ d ∈ tables_1, d.before a0 Z = true) (ws : List Jvm.Cond) (a1 : Addr) (a2 : Addr) (x1 : Int32) (z1 : Int32) (G1 : Int32) (fm : Value) (h0 : Heap) (n0 : Nat) (X00 : Old Z n0 h0) (O2 : pO2 Z G1) (P5 : ¬ (G1 = (0 : Int32))) (SA : pSA Z) (SH : pSH Z) (SL : pSL Z) (FM : pFM Z fm) (rf : fm.isRef = true) (S1 : Str Z h0 a1 [x1]) (S2 : Str Z h0 a2 [z1]) (hx1 : ChB x1) (hz1 : ChB z1) (ew : ¬ (own_low x1 = own_low z1)) :
    MetFree l mn_0 (head1 (Jvm.Cond.code mn_0 prog_7_method_7_code 3 (some .boolean) :: ws) ro_23) (fun a U => a = #[(.ref a1), (.ref a2)] ∧ Z.Warmed39 U.vm ∧ U.heap = h0) (fun _ _ _ _ _ => True) (fun _ U o U' => ∃ rv rL, o = .returned rv ∧ Qs (some (.int (own_eqi [x1] [z1]))) h0 n0 rv U'.heap rL ∧ FrameEnd U o U' rL ro_23.cells ro_23.slots) := by
  refine MetFree.of_bodySF (plainFor_of_name pn_10) hisR ?_
  intro p e s m args below meth c s₁ Bd hml0 hP hK
  obtain ⟨rfl, hZ, hh⟩ := hP
  have hx := Bd.exec
  have hby := Bd.bytes
  have hml : c.maxLocals = 3 := hml0
  have hown : s.vm.findClass "com/example/webhook_guard/webhookguard/http/HeaderField" = some m.cls := findClass_of_methodNamed Bd.named
  have hnm := (name_of_methodNamed Bd.named Bd.method).1
  have X0 : Stand p l e ro_23 s m #[(.ref a1), (.ref a2)] below meth c s₁ [] 0 0 := Stand.of_body Bd
  have e0 : s₁.heap = h0 := by rw [← hh, Bd.state]; rfl
  have N0 := Fr.nil n0
  have pre0 : ∀ t, Steps p.tables e below (s₁.setTop (mkF m 0 #[.val (.ref a1), .val (.ref a2), .unset] [])) t → Steps p.tables e below (s₁.setTop (entryFrame m #[(.ref a1), (.ref a2)] 3)) t := fun t k => castTop (ef_10 m a1 a2) k
  have hwl : ∀ d ∈ StrChars.Road.wordsLen, d.before a0 Z = true := fun d hd => hw d ((by decide +kernel : ∀ d ∈ StrChars.Road.wordsLen, d ∈ tables_1) d hd)
  obtain ⟨t1, k1, cd1, N1a, vs1, ⟨E_a1, S_v1, S_k1, V_t1⟩, hc1a⟩ := id S1
  obtain ⟨t2, k2, cd2, N2a, vs2, ⟨E_a2, S_v2, S_k2, V_t2⟩, hc2a⟩ := id S2
  obtain ⟨cq101, kq101, q101a, q101b, q101c⟩ := isOf hZ e0 E_a1
  obtain ⟨_, _, ⟨T101, L101, k101, n101⟩, -, X101, ⟨Lc101, hQ101, l101, y101, z101⟩, st101⟩ := X0.virtualBack hx (y := mn_13) (z := mn_13) hown (mvT hZ (tw hw 47 rfl)) (mvT hZ (tw hw 48 rfl)) (notFace_of_selects (args := #[]) (mvT hZ (tw hw 50 rfl))) (mvT hZ (tw hw 50 rfl)) (mvT hZ (tw hw 49 rfl)) (by decide) (StrChars.Road.lenW (W := 0) hZ hwl (kI := 4) (tw hw 11 rfl) (cs := ([x1] : List Int32)) E_a1 S_v1 S_k1 V_t1 hc1a (own_alli hx1 own_all0) (O2.ext X00.2) P5 (Nat.le_of_ble_eq_true rfl) (by decide) (by decide)) q101a q101c (g := (mkF m 1 #[vr a1, vr a2, .unset] [wr a1])) rfl (by rw [hml]; rfl) (Steps.refl _) (argsL := []) (rest := []) (lenOf pd__I rfl) rfl (Nat.le_refl _) (hb hby d10_1) (fun _ _ => ⟨rfl, e0, (by decide : 0 + 0 ≤ _), (by decide : 0 + 0 ≤ _)⟩)
  dsimp only [Pt.U, Pt.locs, Pt.cells, Pt.slots] at X101 l101 y101 z101 st101 hQ101
  subst l101 y101 z101
  obtain ⟨hv101, rfl, eq101⟩ := hQ101
  obtain rfl : _ = some (Value.int (1 : Int32)) := hv101
  have N101 := Fr.app N0 (Fr.nil n0)
  obtain ⟨cq102, kq102, q102a, q102b, q102c⟩ := isOf hZ eq101 E_a2
  obtain ⟨_, _, ⟨T102, L102, k102, n102⟩, -, X102, ⟨Lc102, hQ102, l102, y102, z102⟩, st102⟩ := X101.virtualBack hx (y := mn_13) (z := mn_13) hown (mvT hZ (tw hw 47 rfl)) (mvT hZ (tw hw 48 rfl)) (notFace_of_selects (args := #[]) (mvT hZ (tw hw 50 rfl))) (mvT hZ (tw hw 50 rfl)) (mvT hZ (tw hw 49 rfl)) (by decide) (StrChars.Road.lenW (W := 1) hZ hwl (kI := 4) (tw hw 11 rfl) (cs := ([z1] : List Int32)) E_a2 S_v2 S_k2 V_t2 hc2a (own_alli hz1 own_all0) (O2.ext X00.2) P5 (Nat.le_of_ble_eq_true rfl) (by decide) (by decide)) q102a q102c (g := (mkF m 5 #[vr a1, vr a2, .unset] [wr a2, wi 1])) rfl (by rw [hml]; rfl) (Steps.refl _) (argsL := []) (rest := [wi 1]) (lenOf pd__I rfl) rfl (Nat.le_refl _) (hb hby d10_5) (fun _ _ => ⟨rfl, eq101, (by decide : 0 + 0 ≤ _), (by decide : 0 + 0 ≤ _)⟩)
  dsimp only [Pt.U, Pt.locs, Pt.cells, Pt.slots] at X102 l102 y102 z102 st102 hQ102
  subst l102 y102 z102
  obtain ⟨hv102, rfl, eq102⟩ := hQ102
  obtain rfl : _ = some (Value.int (1 : Int32)) := hv102
  have N102 := Fr.app N101 (Fr.nil n0)
  obtain ⟨T103, L103, X103, N103, e103, st103⟩ := tn_1_0 a1 a2 x1 z1 G1 fm X102 hx hZ hw hby hml hown eq102 N102 X00 (by decide) (by decide) O2 P5 SA SH SL FM rf S1 S2 hx1 hz1
  have hc39 : ¬ ((own_low x1) = (own_low z1)) := ew
  obtain ⟨fs, hr, hrun, hended, hW, hsame⟩ := X103.leave (v := some (.int (0 : Int32))) (fun h => by rw [Bd.returns] at h; cases h)
  refine ⟨_, _, pre0 _ ?_, hrun, hended, _, _, rfl, ?_, ⟨_, rfl⟩, hW, hsame.mono (by decide) (by decide)⟩
  · show Go p e below s₁ (mkF m 0 #[vr a1, vr a2, .unset] []) _
    refine XS.aloadN X0.here hx rfl (hb hby d10_0) rfl rfl ?_
    show Go p e below s₁ (mkF m 1 #[vr a1, vr a2, .unset] [wr a1]) _
    refine st101.trans ?_
    show Go p e below T101 (mkF m 4 #[vr a1, vr a2, .unset] [wi 1]) _
    refine XS.aloadN X101.here hx rfl (hb hby d10_4) rfl rfl ?_
    show Go p e below T101 (mkF m 5 #[vr a1, vr a2, .unset] [wr a2, wi 1]) _
    refine st102.trans ?_
    show Go p e below T102 (mkF m 8 #[vr a1, vr a2, .unset] [wi 1, wi 1]) _
    refine XS.icmpYes X102.here hx rfl (pc0 := 8) (pc' := 13) rfl (hb hby d10_8) rfl (teq (rfl : (1 : Int32) = (1 : Int32))).1 (by decide) (by decide) ?_
    show Go p e below T102 (mkF m 13 #[vr a1, vr a2, .unset] []) _
    refine XS.iconst X102.here hx rfl (hb hby d10_13) ?_
    show Go p e below T102 (mkF m 14 #[vr a1, vr a2, .unset] [wi 0]) _
    refine XS.istoreN X102.here hx rfl (hb hby d10_14) rfl (l' := #[.val (.ref a1), .val (.ref a2), .val (.int (0 : Int32))]) rfl ?_
    refine st103 _ ?_
    show Go p e below T103 (mkF m 39 #[vr a1, vr a2, vi 0] [wi (own_low z1), wi (own_low x1)]) _
    refine XS.icmpNo X103.here hx rfl (hb hby d10_39) rfl (feq hc39).1 ?_
    show Go p e below T103 (mkF m 42 #[vr a1, vr a2, vi 0] []) _
    refine XS.iconst X103.here hx rfl (hb hby d10_42) ?_
    show Go p e below T103 (mkF m 43 #[vr a1, vr a2, vi 0] [wi 0]) _
    exact retN X103 hx (t := .boolean) Bd.returns (by simp) (hb hby d10_43) hr
  · show Qs (some (.int (own_eqi [x1] [z1]))) h0 n0 _ T103.heap _
    rw [e103]
    exact ⟨own_some (by simp only [own_eqi, if_neg ew]), N103, rfl⟩
set_option maxRecDepth 65536 in
set_option maxHeartbeats 40000000 in
theorem rmEq_2_n (l : Launch) (Z : State) (a0 : Array Value) (hw : ∀ d ∈ tables_1, d.before a0 Z = true) (ws : List Jvm.Cond) (a1 : Addr) (a2 : Addr) (x1 : Int32) (x2 : Int32) (z1 : Int32) (z2 : Int32) (G1 : Int32) (fm : Value) (h0 : Heap) (n0 : Nat) (X00 : Old Z n0 h0) (O2 : pO2 Z G1) (P5 : ¬ (G1 = (0 : Int32))) (SA : pSA Z) (SH : pSH Z) (SL : pSL Z) (FM : pFM Z fm) (rf : fm.isRef = true) (S1 : Str Z h0 a1 [x1, x2]) (S2 : Str Z h0 a2 [z1, z2]) (hx1 : ChB x1) (hx2 : ChB x2) (hz1 : ChB z1) (hz2 : ChB z2) (el0 : own_low x1 = own_low z1) (el1 : own_low x2 = own_low z2) :
    MetFree l mn_0 (head1 (Jvm.Cond.code mn_0 prog_7_method_7_code 3 (some .boolean) :: ws) ro_23) (fun a U => a = #[(.ref a1), (.ref a2)] ∧ Z.Warmed39 U.vm ∧ U.heap = h0) (fun _ _ _ _ _ => True) (fun _ U o U' => ∃ rv rL, o = .returned rv ∧ Qs (some (.int (own_eqi [x1, x2] [z1, z2]))) h0 n0 rv U'.heap rL ∧ FrameEnd U o U' rL ro_23.cells ro_23.slots) := by
  refine MetFree.of_bodySF (plainFor_of_name pn_10) hisR ?_
  intro p e s m args below meth c s₁ Bd hml0 hP hK
  obtain ⟨rfl, hZ, hh⟩ := hP
  have hx := Bd.exec
  have hby := Bd.bytes
  have hml : c.maxLocals = 3 := hml0
  have hown : s.vm.findClass "com/example/webhook_guard/webhookguard/http/HeaderField" = some m.cls := findClass_of_methodNamed Bd.named
  have hnm := (name_of_methodNamed Bd.named Bd.method).1
  have X0 : Stand p l e ro_23 s m #[(.ref a1), (.ref a2)] below meth c s₁ [] 0 0 := Stand.of_body Bd
  have e0 : s₁.heap = h0 := by rw [← hh, Bd.state]; rfl
  have N0 := Fr.nil n0
  have pre0 : ∀ t, Steps p.tables e below (s₁.setTop (mkF m 0 #[.val (.ref a1), .val (.ref a2), .unset] [])) t → Steps p.tables e below (s₁.setTop (entryFrame m #[(.ref a1), (.ref a2)] 3)) t := fun t k => castTop (ef_10 m a1 a2) k
  have hwl : ∀ d ∈ StrChars.Road.wordsLen, d.before a0 Z = true := fun d hd => hw d ((by decide +kernel : ∀ d ∈ StrChars.Road.wordsLen, d ∈ tables_1) d hd)
  obtain ⟨t1, k1, cd1, N1a, vs1, ⟨E_a1, S_v1, S_k1, V_t1⟩, hc1a⟩ := id S1
  obtain ⟨t2, k2, cd2, N2a, vs2, ⟨E_a2, S_v2, S_k2, V_t2⟩, hc2a⟩ := id S2
  obtain ⟨cq101, kq101, q101a, q101b, q101c⟩ := isOf hZ e0 E_a1
  obtain ⟨_, _, ⟨T101, L101, k101, n101⟩, -, X101, ⟨Lc101, hQ101, l101, y101, z101⟩, st101⟩ := X0.virtualBack hx (y := mn_13) (z := mn_13) hown (mvT hZ (tw hw 47 rfl)) (mvT hZ (tw hw 48 rfl)) (notFace_of_selects (args := #[]) (mvT hZ (tw hw 50 rfl))) (mvT hZ (tw hw 50 rfl)) (mvT hZ (tw hw 49 rfl)) (by decide) (StrChars.Road.lenW (W := 0) hZ hwl (kI := 4) (tw hw 11 rfl) (cs := ([x1, x2] : List Int32)) E_a1 S_v1 S_k1 V_t1 hc1a (own_alli hx1 (own_alli hx2 own_all0)) (O2.ext X00.2) P5 (Nat.le_of_ble_eq_true rfl) (by decide) (by decide)) q101a q101c (g := (mkF m 1 #[vr a1, vr a2, .unset] [wr a1])) rfl (by rw [hml]; rfl) (Steps.refl _) (argsL := []) (rest := []) (lenOf pd__I rfl) rfl (Nat.le_refl _) (hb hby d10_1) (fun _ _ => ⟨rfl, e0, (by decide : 0 + 0 ≤ _), (by decide : 0 + 0 ≤ _)⟩)
  dsimp only [Pt.U, Pt.locs, Pt.cells, Pt.slots] at X101 l101 y101 z101 st101 hQ101
  subst l101 y101 z101
  obtain ⟨hv101, rfl, eq101⟩ := hQ101
  obtain rfl : _ = some (Value.int (2 : Int32)) := hv101
  have N101 := Fr.app N0 (Fr.nil n0)
  obtain ⟨cq102, kq102, q102a, q102b, q102c⟩ := isOf hZ eq101 E_a2
  obtain ⟨_, _, ⟨T102, L102, k102, n102⟩, -, X102, ⟨Lc102, hQ102, l102, y102, z102⟩, st102⟩ := X101.virtualBack hx (y := mn_13) (z := mn_13) hown (mvT hZ (tw hw 47 rfl)) (mvT hZ (tw hw 48 rfl)) (notFace_of_selects (args := #[]) (mvT hZ (tw hw 50 rfl))) (mvT hZ (tw hw 50 rfl)) (mvT hZ (tw hw 49 rfl)) (by decide) (StrChars.Road.lenW (W := 1) hZ hwl (kI := 4) (tw hw 11 rfl) (cs := ([z1, z2] : List Int32)) E_a2 S_v2 S_k2 V_t2 hc2a (own_alli hz1 (own_alli hz2 own_all0)) (O2.ext X00.2) P5 (Nat.le_of_ble_eq_true rfl) (by decide) (by decide)) q102a q102c (g := (mkF m 5 #[vr a1, vr a2, .unset] [wr a2, wi 2])) rfl (by rw [hml]; rfl) (Steps.refl _) (argsL := []) (rest := [wi 2]) (lenOf pd__I rfl) rfl (Nat.le_refl _) (hb hby d10_5) (fun _ _ => ⟨rfl, eq101, (by decide : 0 + 0 ≤ _), (by decide : 0 + 0 ≤ _)⟩)
  dsimp only [Pt.U, Pt.locs, Pt.cells, Pt.slots] at X102 l102 y102 z102 st102 hQ102
  subst l102 y102 z102
  obtain ⟨hv102, rfl, eq102⟩ := hQ102
  obtain rfl : _ = some (Value.int (2 : Int32)) := hv102
  have N102 := Fr.app N101 (Fr.nil n0)
  obtain ⟨T103, L103, X103, N103, e103, st103⟩ := tn_2_0 a1 a2 x1 x2 z1 z2 G1 fm X102 hx hZ hw hby hml hown eq102 N102 X00 (by decide) (by decide) O2 P5 SA SH SL FM rf S1 S2 hx1 hx2 hz1 hz2
  have hc39 : (own_low x1) = (own_low z1) := el0
  obtain ⟨T104, L104, X104, N104, e104, st104⟩ := tn_2_1 a1 a2 x1 x2 z1 z2 G1 fm X103 hx hZ hw hby hml hown e103 N103 X00 (by decide) (by decide) O2 P5 SA SH SL FM rf S1 S2 hx1 hx2 hz1 hz2
  have hc39_1 : (own_low x2) = (own_low z2) := el1
  obtain ⟨cq105, kq105, q105a, q105b, q105c⟩ := isOf hZ e104 E_a1
  obtain ⟨_, _, ⟨T105, L105, k105, n105⟩, -, X105, ⟨Lc105, hQ105, l105, y105, z105⟩, st105⟩ := X104.virtualBack hx (y := mn_13) (z := mn_13) hown (mvT hZ (tw hw 47 rfl)) (mvT hZ (tw hw 48 rfl)) (notFace_of_selects (args := #[]) (mvT hZ (tw hw 50 rfl))) (mvT hZ (tw hw 50 rfl)) (mvT hZ (tw hw 49 rfl)) (by decide) (StrChars.Road.lenW (W := 1) hZ hwl (kI := 4) (tw hw 11 rfl) (cs := ([x1, x2] : List Int32)) E_a1 S_v1 S_k1 V_t1 hc1a (own_alli hx1 (own_alli hx2 own_all0)) (O2.ext X00.2) P5 (Nat.le_of_ble_eq_true rfl) (by decide) (by decide)) q105a q105c (g := (mkF m 17 #[vr a1, vr a2, vi 2] [wr a1, wi 2])) rfl (by rw [hml]; rfl) (Steps.refl _) (argsL := []) (rest := [wi 2]) (lenOf pd__I rfl) rfl (Nat.le_refl _) (hb hby d10_17) (fun _ _ => ⟨rfl, e104, (by decide : 0 + 0 ≤ _), (by decide : 0 + 0 ≤ _)⟩)
  dsimp only [Pt.U, Pt.locs, Pt.cells, Pt.slots] at X105 l105 y105 z105 st105 hQ105
  subst l105 y105 z105
  obtain ⟨hv105, rfl, eq105⟩ := hQ105
  obtain rfl : _ = some (Value.int (2 : Int32)) := hv105
  have N105 := Fr.app N104 (Fr.nil n0)
  obtain ⟨fs, hr, hrun, hended, hW, hsame⟩ := X105.leave (v := some (.int (1 : Int32))) (fun h => by rw [Bd.returns] at h; cases h)
  refine ⟨_, _, pre0 _ ?_, hrun, hended, _, _, rfl, ?_, ⟨_, rfl⟩, hW, hsame.mono (by decide) (by decide)⟩
  · show Go p e below s₁ (mkF m 0 #[vr a1, vr a2, .unset] []) _
    refine XS.aloadN X0.here hx rfl (hb hby d10_0) rfl rfl ?_
    show Go p e below s₁ (mkF m 1 #[vr a1, vr a2, .unset] [wr a1]) _
    refine st101.trans ?_
    show Go p e below T101 (mkF m 4 #[vr a1, vr a2, .unset] [wi 2]) _
    refine XS.aloadN X101.here hx rfl (hb hby d10_4) rfl rfl ?_
    show Go p e below T101 (mkF m 5 #[vr a1, vr a2, .unset] [wr a2, wi 2]) _
    refine st102.trans ?_
    show Go p e below T102 (mkF m 8 #[vr a1, vr a2, .unset] [wi 2, wi 2]) _
    refine XS.icmpYes X102.here hx rfl (pc0 := 8) (pc' := 13) rfl (hb hby d10_8) rfl (teq (rfl : (2 : Int32) = (2 : Int32))).1 (by decide) (by decide) ?_
    show Go p e below T102 (mkF m 13 #[vr a1, vr a2, .unset] []) _
    refine XS.iconst X102.here hx rfl (hb hby d10_13) ?_
    show Go p e below T102 (mkF m 14 #[vr a1, vr a2, .unset] [wi 0]) _
    refine XS.istoreN X102.here hx rfl (hb hby d10_14) rfl (l' := #[.val (.ref a1), .val (.ref a2), .val (.int (0 : Int32))]) rfl ?_
    refine st103 _ ?_
    show Go p e below T103 (mkF m 39 #[vr a1, vr a2, vi 0] [wi (own_low z1), wi (own_low x1)]) _
    refine XS.icmpYes X103.here hx rfl (pc0 := 39) (pc' := 44) rfl (hb hby d10_39) rfl (teq hc39).1 (by decide) (by decide) ?_
    show Go p e below T103 (mkF m 44 #[vr a1, vr a2, vi 0] []) _
    refine XS.iinc X103.here hx rfl (hb hby d10_44) rfl (l' := #[.val (.ref a1), .val (.ref a2), .val (.int (1 : Int32))]) rfl ?_
    show Go p e below T103 (mkF m 47 #[vr a1, vr a2, vi 1] []) _
    refine XS.goto X103.here hx rfl (pc0 := 47) (pc' := 15) rfl (hb hby d10_47) (by decide) (by decide) ?_
    refine st104 _ ?_
    show Go p e below T104 (mkF m 39 #[vr a1, vr a2, vi 1] [wi (own_low z2), wi (own_low x2)]) _
    refine XS.icmpYes X104.here hx rfl (pc0 := 39) (pc' := 44) rfl (hb hby d10_39) rfl (teq hc39_1).1 (by decide) (by decide) ?_
    show Go p e below T104 (mkF m 44 #[vr a1, vr a2, vi 1] []) _
    refine XS.iinc X104.here hx rfl (hb hby d10_44) rfl (l' := #[.val (.ref a1), .val (.ref a2), .val (.int (2 : Int32))]) rfl ?_
    show Go p e below T104 (mkF m 47 #[vr a1, vr a2, vi 2] []) _
    refine XS.goto X104.here hx rfl (pc0 := 47) (pc' := 15) rfl (hb hby d10_47) (by decide) (by decide) ?_
    show Go p e below T104 (mkF m 15 #[vr a1, vr a2, vi 2] []) _
    refine XS.iloadN X104.here hx rfl (hb hby d10_15) rfl ?_
    show Go p e below T104 (mkF m 16 #[vr a1, vr a2, vi 2] [wi 2]) _
    refine XS.aloadN X104.here hx rfl (hb hby d10_16) rfl rfl ?_
    show Go p e below T104 (mkF m 17 #[vr a1, vr a2, vi 2] [wr a1, wi 2]) _
    refine st105.trans ?_
    show Go p e below T105 (mkF m 20 #[vr a1, vr a2, vi 2] [wi 2, wi 2]) _
    refine XS.icmpYes X105.here hx rfl (pc0 := 20) (pc' := 50) rfl (hb hby d10_20) rfl (flt (by decide : ¬ ((2 : Int32) < (2 : Int32)))).2.1 (by decide) (by decide) ?_
    show Go p e below T105 (mkF m 50 #[vr a1, vr a2, vi 2] []) _
    refine XS.iconst X105.here hx rfl (hb hby d10_50) ?_
    show Go p e below T105 (mkF m 51 #[vr a1, vr a2, vi 2] [wi 1]) _
    exact retN X105 hx (t := .boolean) Bd.returns (by simp) (hb hby d10_51) hr
  · show Qs (some (.int (own_eqi [x1, x2] [z1, z2]))) h0 n0 _ T105.heap _
    rw [eq105]
    exact ⟨own_some (by simp only [own_eqi, if_pos el0, if_pos el1]), N105, rfl⟩
set_option maxRecDepth 65536 in
set_option maxHeartbeats 40000000 in
theorem rmEq_2_0 (l : Launch) (Z : State) (a0 : Array Value) (hw : ∀ d ∈ tables_1, d.before a0 Z = true) (ws : List Jvm.Cond) (a1 : Addr) (a2 : Addr) (x1 : Int32) (x2 : Int32) (z1 : Int32) (z2 : Int32) (G1 : Int32) (fm : Value) (h0 : Heap) (n0 : Nat) (X00 : Old Z n0 h0) (O2 : pO2 Z G1) (P5 : ¬ (G1 = (0 : Int32))) (SA : pSA Z) (SH : pSH Z) (SL : pSL Z) (FM : pFM Z fm) (rf : fm.isRef = true) (S1 : Str Z h0 a1 [x1, x2]) (S2 : Str Z h0 a2 [z1, z2]) (hx1 : ChB x1) (hx2 : ChB x2) (hz1 : ChB z1) (hz2 : ChB z2) (ew : ¬ (own_low x1 = own_low z1)) :
    MetFree l mn_0 (head1 (Jvm.Cond.code mn_0 prog_7_method_7_code 3 (some .boolean) :: ws) ro_23) (fun a U => a = #[(.ref a1), (.ref a2)] ∧ Z.Warmed39 U.vm ∧ U.heap = h0) (fun _ _ _ _ _ => True) (fun _ U o U' => ∃ rv rL, o = .returned rv ∧ Qs (some (.int (own_eqi [x1, x2] [z1, z2]))) h0 n0 rv U'.heap rL ∧ FrameEnd U o U' rL ro_23.cells ro_23.slots) := by
  refine MetFree.of_bodySF (plainFor_of_name pn_10) hisR ?_
  intro p e s m args below meth c s₁ Bd hml0 hP hK
  obtain ⟨rfl, hZ, hh⟩ := hP
  have hx := Bd.exec
  have hby := Bd.bytes
  have hml : c.maxLocals = 3 := hml0
  have hown : s.vm.findClass "com/example/webhook_guard/webhookguard/http/HeaderField" = some m.cls := findClass_of_methodNamed Bd.named
  have hnm := (name_of_methodNamed Bd.named Bd.method).1
  have X0 : Stand p l e ro_23 s m #[(.ref a1), (.ref a2)] below meth c s₁ [] 0 0 := Stand.of_body Bd
  have e0 : s₁.heap = h0 := by rw [← hh, Bd.state]; rfl
  have N0 := Fr.nil n0
  have pre0 : ∀ t, Steps p.tables e below (s₁.setTop (mkF m 0 #[.val (.ref a1), .val (.ref a2), .unset] [])) t → Steps p.tables e below (s₁.setTop (entryFrame m #[(.ref a1), (.ref a2)] 3)) t := fun t k => castTop (ef_10 m a1 a2) k
  have hwl : ∀ d ∈ StrChars.Road.wordsLen, d.before a0 Z = true := fun d hd => hw d ((by decide +kernel : ∀ d ∈ StrChars.Road.wordsLen, d ∈ tables_1) d hd)
  obtain ⟨t1, k1, cd1, N1a, vs1, ⟨E_a1, S_v1, S_k1, V_t1⟩, hc1a⟩ := id S1
  obtain ⟨t2, k2, cd2, N2a, vs2, ⟨E_a2, S_v2, S_k2, V_t2⟩, hc2a⟩ := id S2
  obtain ⟨cq101, kq101, q101a, q101b, q101c⟩ := isOf hZ e0 E_a1
  obtain ⟨_, _, ⟨T101, L101, k101, n101⟩, -, X101, ⟨Lc101, hQ101, l101, y101, z101⟩, st101⟩ := X0.virtualBack hx (y := mn_13) (z := mn_13) hown (mvT hZ (tw hw 47 rfl)) (mvT hZ (tw hw 48 rfl)) (notFace_of_selects (args := #[]) (mvT hZ (tw hw 50 rfl))) (mvT hZ (tw hw 50 rfl)) (mvT hZ (tw hw 49 rfl)) (by decide) (StrChars.Road.lenW (W := 0) hZ hwl (kI := 4) (tw hw 11 rfl) (cs := ([x1, x2] : List Int32)) E_a1 S_v1 S_k1 V_t1 hc1a (own_alli hx1 (own_alli hx2 own_all0)) (O2.ext X00.2) P5 (Nat.le_of_ble_eq_true rfl) (by decide) (by decide)) q101a q101c (g := (mkF m 1 #[vr a1, vr a2, .unset] [wr a1])) rfl (by rw [hml]; rfl) (Steps.refl _) (argsL := []) (rest := []) (lenOf pd__I rfl) rfl (Nat.le_refl _) (hb hby d10_1) (fun _ _ => ⟨rfl, e0, (by decide : 0 + 0 ≤ _), (by decide : 0 + 0 ≤ _)⟩)
  dsimp only [Pt.U, Pt.locs, Pt.cells, Pt.slots] at X101 l101 y101 z101 st101 hQ101
  subst l101 y101 z101
  obtain ⟨hv101, rfl, eq101⟩ := hQ101
  obtain rfl : _ = some (Value.int (2 : Int32)) := hv101
  have N101 := Fr.app N0 (Fr.nil n0)
  obtain ⟨cq102, kq102, q102a, q102b, q102c⟩ := isOf hZ eq101 E_a2
  obtain ⟨_, _, ⟨T102, L102, k102, n102⟩, -, X102, ⟨Lc102, hQ102, l102, y102, z102⟩, st102⟩ := X101.virtualBack hx (y := mn_13) (z := mn_13) hown (mvT hZ (tw hw 47 rfl)) (mvT hZ (tw hw 48 rfl)) (notFace_of_selects (args := #[]) (mvT hZ (tw hw 50 rfl))) (mvT hZ (tw hw 50 rfl)) (mvT hZ (tw hw 49 rfl)) (by decide) (StrChars.Road.lenW (W := 1) hZ hwl (kI := 4) (tw hw 11 rfl) (cs := ([z1, z2] : List Int32)) E_a2 S_v2 S_k2 V_t2 hc2a (own_alli hz1 (own_alli hz2 own_all0)) (O2.ext X00.2) P5 (Nat.le_of_ble_eq_true rfl) (by decide) (by decide)) q102a q102c (g := (mkF m 5 #[vr a1, vr a2, .unset] [wr a2, wi 2])) rfl (by rw [hml]; rfl) (Steps.refl _) (argsL := []) (rest := [wi 2]) (lenOf pd__I rfl) rfl (Nat.le_refl _) (hb hby d10_5) (fun _ _ => ⟨rfl, eq101, (by decide : 0 + 0 ≤ _), (by decide : 0 + 0 ≤ _)⟩)
  dsimp only [Pt.U, Pt.locs, Pt.cells, Pt.slots] at X102 l102 y102 z102 st102 hQ102
  subst l102 y102 z102
  obtain ⟨hv102, rfl, eq102⟩ := hQ102
  obtain rfl : _ = some (Value.int (2 : Int32)) := hv102
  have N102 := Fr.app N101 (Fr.nil n0)
  obtain ⟨T103, L103, X103, N103, e103, st103⟩ := tn_2_0 a1 a2 x1 x2 z1 z2 G1 fm X102 hx hZ hw hby hml hown eq102 N102 X00 (by decide) (by decide) O2 P5 SA SH SL FM rf S1 S2 hx1 hx2 hz1 hz2
  have hc39 : ¬ ((own_low x1) = (own_low z1)) := ew
  obtain ⟨fs, hr, hrun, hended, hW, hsame⟩ := X103.leave (v := some (.int (0 : Int32))) (fun h => by rw [Bd.returns] at h; cases h)
  refine ⟨_, _, pre0 _ ?_, hrun, hended, _, _, rfl, ?_, ⟨_, rfl⟩, hW, hsame.mono (by decide) (by decide)⟩
  · show Go p e below s₁ (mkF m 0 #[vr a1, vr a2, .unset] []) _
    refine XS.aloadN X0.here hx rfl (hb hby d10_0) rfl rfl ?_
    show Go p e below s₁ (mkF m 1 #[vr a1, vr a2, .unset] [wr a1]) _
    refine st101.trans ?_
    show Go p e below T101 (mkF m 4 #[vr a1, vr a2, .unset] [wi 2]) _
    refine XS.aloadN X101.here hx rfl (hb hby d10_4) rfl rfl ?_
    show Go p e below T101 (mkF m 5 #[vr a1, vr a2, .unset] [wr a2, wi 2]) _
    refine st102.trans ?_
    show Go p e below T102 (mkF m 8 #[vr a1, vr a2, .unset] [wi 2, wi 2]) _
    refine XS.icmpYes X102.here hx rfl (pc0 := 8) (pc' := 13) rfl (hb hby d10_8) rfl (teq (rfl : (2 : Int32) = (2 : Int32))).1 (by decide) (by decide) ?_
    show Go p e below T102 (mkF m 13 #[vr a1, vr a2, .unset] []) _
    refine XS.iconst X102.here hx rfl (hb hby d10_13) ?_
    show Go p e below T102 (mkF m 14 #[vr a1, vr a2, .unset] [wi 0]) _
    refine XS.istoreN X102.here hx rfl (hb hby d10_14) rfl (l' := #[.val (.ref a1), .val (.ref a2), .val (.int (0 : Int32))]) rfl ?_
    refine st103 _ ?_
    show Go p e below T103 (mkF m 39 #[vr a1, vr a2, vi 0] [wi (own_low z1), wi (own_low x1)]) _
    refine XS.icmpNo X103.here hx rfl (hb hby d10_39) rfl (feq hc39).1 ?_
    show Go p e below T103 (mkF m 42 #[vr a1, vr a2, vi 0] []) _
    refine XS.iconst X103.here hx rfl (hb hby d10_42) ?_
    show Go p e below T103 (mkF m 43 #[vr a1, vr a2, vi 0] [wi 0]) _
    exact retN X103 hx (t := .boolean) Bd.returns (by simp) (hb hby d10_43) hr
  · show Qs (some (.int (own_eqi [x1, x2] [z1, z2]))) h0 n0 _ T103.heap _
    rw [e103]
    exact ⟨own_some (by simp only [own_eqi, if_neg ew]), N103, rfl⟩
set_option maxRecDepth 65536 in
set_option maxHeartbeats 40000000 in
theorem rmEq_2_1 (l : Launch) (Z : State) (a0 : Array Value) (hw : ∀ d ∈ tables_1, d.before a0 Z = true) (ws : List Jvm.Cond) (a1 : Addr) (a2 : Addr) (x1 : Int32) (x2 : Int32) (z1 : Int32) (z2 : Int32) (G1 : Int32) (fm : Value) (h0 : Heap) (n0 : Nat) (X00 : Old Z n0 h0) (O2 : pO2 Z G1) (P5 : ¬ (G1 = (0 : Int32))) (SA : pSA Z) (SH : pSH Z) (SL : pSL Z) (FM : pFM Z fm) (rf : fm.isRef = true) (S1 : Str Z h0 a1 [x1, x2]) (S2 : Str Z h0 a2 [z1, z2]) (hx1 : ChB x1) (hx2 : ChB x2) (hz1 : ChB z1) (hz2 : ChB z2) (el0 : own_low x1 = own_low z1) (ew : ¬ (own_low x2 = own_low z2)) :
    MetFree l mn_0 (head1 (Jvm.Cond.code mn_0 prog_7_method_7_code 3 (some .boolean) :: ws) ro_23) (fun a U => a = #[(.ref a1), (.ref a2)] ∧ Z.Warmed39 U.vm ∧ U.heap = h0) (fun _ _ _ _ _ => True) (fun _ U o U' => ∃ rv rL, o = .returned rv ∧ Qs (some (.int (own_eqi [x1, x2] [z1, z2]))) h0 n0 rv U'.heap rL ∧ FrameEnd U o U' rL ro_23.cells ro_23.slots) := by
  refine MetFree.of_bodySF (plainFor_of_name pn_10) hisR ?_
  intro p e s m args below meth c s₁ Bd hml0 hP hK
  obtain ⟨rfl, hZ, hh⟩ := hP
  have hx := Bd.exec
  have hby := Bd.bytes
  have hml : c.maxLocals = 3 := hml0
  have hown : s.vm.findClass "com/example/webhook_guard/webhookguard/http/HeaderField" = some m.cls := findClass_of_methodNamed Bd.named
  have hnm := (name_of_methodNamed Bd.named Bd.method).1
  have X0 : Stand p l e ro_23 s m #[(.ref a1), (.ref a2)] below meth c s₁ [] 0 0 := Stand.of_body Bd
  have e0 : s₁.heap = h0 := by rw [← hh, Bd.state]; rfl
  have N0 := Fr.nil n0
  have pre0 : ∀ t, Steps p.tables e below (s₁.setTop (mkF m 0 #[.val (.ref a1), .val (.ref a2), .unset] [])) t → Steps p.tables e below (s₁.setTop (entryFrame m #[(.ref a1), (.ref a2)] 3)) t := fun t k => castTop (ef_10 m a1 a2) k
  have hwl : ∀ d ∈ StrChars.Road.wordsLen, d.before a0 Z = true := fun d hd => hw d ((by decide +kernel : ∀ d ∈ StrChars.Road.wordsLen, d ∈ tables_1) d hd)
  obtain ⟨t1, k1, cd1, N1a, vs1, ⟨E_a1, S_v1, S_k1, V_t1⟩, hc1a⟩ := id S1
  obtain ⟨t2, k2, cd2, N2a, vs2, ⟨E_a2, S_v2, S_k2, V_t2⟩, hc2a⟩ := id S2
  obtain ⟨cq101, kq101, q101a, q101b, q101c⟩ := isOf hZ e0 E_a1
  obtain ⟨_, _, ⟨T101, L101, k101, n101⟩, -, X101, ⟨Lc101, hQ101, l101, y101, z101⟩, st101⟩ := X0.virtualBack hx (y := mn_13) (z := mn_13) hown (mvT hZ (tw hw 47 rfl)) (mvT hZ (tw hw 48 rfl)) (notFace_of_selects (args := #[]) (mvT hZ (tw hw 50 rfl))) (mvT hZ (tw hw 50 rfl)) (mvT hZ (tw hw 49 rfl)) (by decide) (StrChars.Road.lenW (W := 0) hZ hwl (kI := 4) (tw hw 11 rfl) (cs := ([x1, x2] : List Int32)) E_a1 S_v1 S_k1 V_t1 hc1a (own_alli hx1 (own_alli hx2 own_all0)) (O2.ext X00.2) P5 (Nat.le_of_ble_eq_true rfl) (by decide) (by decide)) q101a q101c (g := (mkF m 1 #[vr a1, vr a2, .unset] [wr a1])) rfl (by rw [hml]; rfl) (Steps.refl _) (argsL := []) (rest := []) (lenOf pd__I rfl) rfl (Nat.le_refl _) (hb hby d10_1) (fun _ _ => ⟨rfl, e0, (by decide : 0 + 0 ≤ _), (by decide : 0 + 0 ≤ _)⟩)
  dsimp only [Pt.U, Pt.locs, Pt.cells, Pt.slots] at X101 l101 y101 z101 st101 hQ101
  subst l101 y101 z101
  obtain ⟨hv101, rfl, eq101⟩ := hQ101
  obtain rfl : _ = some (Value.int (2 : Int32)) := hv101
  have N101 := Fr.app N0 (Fr.nil n0)
  obtain ⟨cq102, kq102, q102a, q102b, q102c⟩ := isOf hZ eq101 E_a2
  obtain ⟨_, _, ⟨T102, L102, k102, n102⟩, -, X102, ⟨Lc102, hQ102, l102, y102, z102⟩, st102⟩ := X101.virtualBack hx (y := mn_13) (z := mn_13) hown (mvT hZ (tw hw 47 rfl)) (mvT hZ (tw hw 48 rfl)) (notFace_of_selects (args := #[]) (mvT hZ (tw hw 50 rfl))) (mvT hZ (tw hw 50 rfl)) (mvT hZ (tw hw 49 rfl)) (by decide) (StrChars.Road.lenW (W := 1) hZ hwl (kI := 4) (tw hw 11 rfl) (cs := ([z1, z2] : List Int32)) E_a2 S_v2 S_k2 V_t2 hc2a (own_alli hz1 (own_alli hz2 own_all0)) (O2.ext X00.2) P5 (Nat.le_of_ble_eq_true rfl) (by decide) (by decide)) q102a q102c (g := (mkF m 5 #[vr a1, vr a2, .unset] [wr a2, wi 2])) rfl (by rw [hml]; rfl) (Steps.refl _) (argsL := []) (rest := [wi 2]) (lenOf pd__I rfl) rfl (Nat.le_refl _) (hb hby d10_5) (fun _ _ => ⟨rfl, eq101, (by decide : 0 + 0 ≤ _), (by decide : 0 + 0 ≤ _)⟩)
  dsimp only [Pt.U, Pt.locs, Pt.cells, Pt.slots] at X102 l102 y102 z102 st102 hQ102
  subst l102 y102 z102
  obtain ⟨hv102, rfl, eq102⟩ := hQ102
  obtain rfl : _ = some (Value.int (2 : Int32)) := hv102
  have N102 := Fr.app N101 (Fr.nil n0)
  obtain ⟨T103, L103, X103, N103, e103, st103⟩ := tn_2_0 a1 a2 x1 x2 z1 z2 G1 fm X102 hx hZ hw hby hml hown eq102 N102 X00 (by decide) (by decide) O2 P5 SA SH SL FM rf S1 S2 hx1 hx2 hz1 hz2
  have hc39 : (own_low x1) = (own_low z1) := el0
  obtain ⟨T104, L104, X104, N104, e104, st104⟩ := tn_2_1 a1 a2 x1 x2 z1 z2 G1 fm X103 hx hZ hw hby hml hown e103 N103 X00 (by decide) (by decide) O2 P5 SA SH SL FM rf S1 S2 hx1 hx2 hz1 hz2
  have hc39_1 : ¬ ((own_low x2) = (own_low z2)) := ew
  obtain ⟨fs, hr, hrun, hended, hW, hsame⟩ := X104.leave (v := some (.int (0 : Int32))) (fun h => by rw [Bd.returns] at h; cases h)
  refine ⟨_, _, pre0 _ ?_, hrun, hended, _, _, rfl, ?_, ⟨_, rfl⟩, hW, hsame.mono (by decide) (by decide)⟩
  · show Go p e below s₁ (mkF m 0 #[vr a1, vr a2, .unset] []) _
    refine XS.aloadN X0.here hx rfl (hb hby d10_0) rfl rfl ?_
    show Go p e below s₁ (mkF m 1 #[vr a1, vr a2, .unset] [wr a1]) _
    refine st101.trans ?_
    show Go p e below T101 (mkF m 4 #[vr a1, vr a2, .unset] [wi 2]) _
    refine XS.aloadN X101.here hx rfl (hb hby d10_4) rfl rfl ?_
    show Go p e below T101 (mkF m 5 #[vr a1, vr a2, .unset] [wr a2, wi 2]) _
    refine st102.trans ?_
    show Go p e below T102 (mkF m 8 #[vr a1, vr a2, .unset] [wi 2, wi 2]) _
    refine XS.icmpYes X102.here hx rfl (pc0 := 8) (pc' := 13) rfl (hb hby d10_8) rfl (teq (rfl : (2 : Int32) = (2 : Int32))).1 (by decide) (by decide) ?_
    show Go p e below T102 (mkF m 13 #[vr a1, vr a2, .unset] []) _
    refine XS.iconst X102.here hx rfl (hb hby d10_13) ?_
    show Go p e below T102 (mkF m 14 #[vr a1, vr a2, .unset] [wi 0]) _
    refine XS.istoreN X102.here hx rfl (hb hby d10_14) rfl (l' := #[.val (.ref a1), .val (.ref a2), .val (.int (0 : Int32))]) rfl ?_
    refine st103 _ ?_
    show Go p e below T103 (mkF m 39 #[vr a1, vr a2, vi 0] [wi (own_low z1), wi (own_low x1)]) _
    refine XS.icmpYes X103.here hx rfl (pc0 := 39) (pc' := 44) rfl (hb hby d10_39) rfl (teq hc39).1 (by decide) (by decide) ?_
    show Go p e below T103 (mkF m 44 #[vr a1, vr a2, vi 0] []) _
    refine XS.iinc X103.here hx rfl (hb hby d10_44) rfl (l' := #[.val (.ref a1), .val (.ref a2), .val (.int (1 : Int32))]) rfl ?_
    show Go p e below T103 (mkF m 47 #[vr a1, vr a2, vi 1] []) _
    refine XS.goto X103.here hx rfl (pc0 := 47) (pc' := 15) rfl (hb hby d10_47) (by decide) (by decide) ?_
    refine st104 _ ?_
    show Go p e below T104 (mkF m 39 #[vr a1, vr a2, vi 1] [wi (own_low z2), wi (own_low x2)]) _
    refine XS.icmpNo X104.here hx rfl (hb hby d10_39) rfl (feq hc39_1).1 ?_
    show Go p e below T104 (mkF m 42 #[vr a1, vr a2, vi 1] []) _
    refine XS.iconst X104.here hx rfl (hb hby d10_42) ?_
    show Go p e below T104 (mkF m 43 #[vr a1, vr a2, vi 1] [wi 0]) _
    exact retN X104 hx (t := .boolean) Bd.returns (by simp) (hb hby d10_43) hr
  · show Qs (some (.int (own_eqi [x1, x2] [z1, z2]))) h0 n0 _ T104.heap _
    rw [e104]
    exact ⟨own_some (by simp only [own_eqi, if_pos el0, if_neg ew]), N104, rfl⟩
set_option maxRecDepth 65536 in
set_option maxHeartbeats 40000000 in
theorem rmEq_3_n (l : Launch) (Z : State) (a0 : Array Value) (hw : ∀ d ∈ tables_1, d.before a0 Z = true) (ws : List Jvm.Cond) (a1 : Addr) (a2 : Addr) (x1 : Int32) (x2 : Int32) (x3 : Int32) (z1 : Int32) (z2 : Int32) (z3 : Int32) (G1 : Int32) (fm : Value) (h0 : Heap) (n0 : Nat) (X00 : Old Z n0 h0) (O2 : pO2 Z G1) (P5 : ¬ (G1 = (0 : Int32))) (SA : pSA Z) (SH : pSH Z) (SL : pSL Z) (FM : pFM Z fm) (rf : fm.isRef = true) (S1 : Str Z h0 a1 [x1, x2, x3]) (S2 : Str Z h0 a2 [z1, z2, z3]) (hx1 : ChB x1) (hx2 : ChB x2) (hx3 : ChB x3) (hz1 : ChB z1) (hz2 : ChB z2) (hz3 : ChB z3) (el0 : own_low x1 = own_low z1) (el1 : own_low x2 = own_low z2) (el2 : own_low x3 = own_low z3) :
    MetFree l mn_0 (head1 (Jvm.Cond.code mn_0 prog_7_method_7_code 3 (some .boolean) :: ws) ro_23) (fun a U => a = #[(.ref a1), (.ref a2)] ∧ Z.Warmed39 U.vm ∧ U.heap = h0) (fun _ _ _ _ _ => True) (fun _ U o U' => ∃ rv rL, o = .returned rv ∧ Qs (some (.int (own_eqi [x1, x2, x3] [z1, z2, z3]))) h0 n0 rv U'.heap rL ∧ FrameEnd U o U' rL ro_23.cells ro_23.slots) := by
  refine MetFree.of_bodySF (plainFor_of_name pn_10) hisR ?_
  intro p e s m args below meth c s₁ Bd hml0 hP hK
  obtain ⟨rfl, hZ, hh⟩ := hP
  have hx := Bd.exec
  have hby := Bd.bytes
  have hml : c.maxLocals = 3 := hml0
  have hown : s.vm.findClass "com/example/webhook_guard/webhookguard/http/HeaderField" = some m.cls := findClass_of_methodNamed Bd.named
  have hnm := (name_of_methodNamed Bd.named Bd.method).1
  have X0 : Stand p l e ro_23 s m #[(.ref a1), (.ref a2)] below meth c s₁ [] 0 0 := Stand.of_body Bd
  have e0 : s₁.heap = h0 := by rw [← hh, Bd.state]; rfl
  have N0 := Fr.nil n0
  have pre0 : ∀ t, Steps p.tables e below (s₁.setTop (mkF m 0 #[.val (.ref a1), .val (.ref a2), .unset] [])) t → Steps p.tables e below (s₁.setTop (entryFrame m #[(.ref a1), (.ref a2)] 3)) t := fun t k => castTop (ef_10 m a1 a2) k
  have hwl : ∀ d ∈ StrChars.Road.wordsLen, d.before a0 Z = true := fun d hd => hw d ((by decide +kernel : ∀ d ∈ StrChars.Road.wordsLen, d ∈ tables_1) d hd)
  obtain ⟨t1, k1, cd1, N1a, vs1, ⟨E_a1, S_v1, S_k1, V_t1⟩, hc1a⟩ := id S1
  obtain ⟨t2, k2, cd2, N2a, vs2, ⟨E_a2, S_v2, S_k2, V_t2⟩, hc2a⟩ := id S2
  obtain ⟨cq101, kq101, q101a, q101b, q101c⟩ := isOf hZ e0 E_a1
  obtain ⟨_, _, ⟨T101, L101, k101, n101⟩, -, X101, ⟨Lc101, hQ101, l101, y101, z101⟩, st101⟩ := X0.virtualBack hx (y := mn_13) (z := mn_13) hown (mvT hZ (tw hw 47 rfl)) (mvT hZ (tw hw 48 rfl)) (notFace_of_selects (args := #[]) (mvT hZ (tw hw 50 rfl))) (mvT hZ (tw hw 50 rfl)) (mvT hZ (tw hw 49 rfl)) (by decide) (StrChars.Road.lenW (W := 0) hZ hwl (kI := 4) (tw hw 11 rfl) (cs := ([x1, x2, x3] : List Int32)) E_a1 S_v1 S_k1 V_t1 hc1a (own_alli hx1 (own_alli hx2 (own_alli hx3 own_all0))) (O2.ext X00.2) P5 (Nat.le_of_ble_eq_true rfl) (by decide) (by decide)) q101a q101c (g := (mkF m 1 #[vr a1, vr a2, .unset] [wr a1])) rfl (by rw [hml]; rfl) (Steps.refl _) (argsL := []) (rest := []) (lenOf pd__I rfl) rfl (Nat.le_refl _) (hb hby d10_1) (fun _ _ => ⟨rfl, e0, (by decide : 0 + 0 ≤ _), (by decide : 0 + 0 ≤ _)⟩)
  dsimp only [Pt.U, Pt.locs, Pt.cells, Pt.slots] at X101 l101 y101 z101 st101 hQ101
  subst l101 y101 z101
  obtain ⟨hv101, rfl, eq101⟩ := hQ101
  obtain rfl : _ = some (Value.int (3 : Int32)) := hv101
  have N101 := Fr.app N0 (Fr.nil n0)
  obtain ⟨cq102, kq102, q102a, q102b, q102c⟩ := isOf hZ eq101 E_a2
  obtain ⟨_, _, ⟨T102, L102, k102, n102⟩, -, X102, ⟨Lc102, hQ102, l102, y102, z102⟩, st102⟩ := X101.virtualBack hx (y := mn_13) (z := mn_13) hown (mvT hZ (tw hw 47 rfl)) (mvT hZ (tw hw 48 rfl)) (notFace_of_selects (args := #[]) (mvT hZ (tw hw 50 rfl))) (mvT hZ (tw hw 50 rfl)) (mvT hZ (tw hw 49 rfl)) (by decide) (StrChars.Road.lenW (W := 1) hZ hwl (kI := 4) (tw hw 11 rfl) (cs := ([z1, z2, z3] : List Int32)) E_a2 S_v2 S_k2 V_t2 hc2a (own_alli hz1 (own_alli hz2 (own_alli hz3 own_all0))) (O2.ext X00.2) P5 (Nat.le_of_ble_eq_true rfl) (by decide) (by decide)) q102a q102c (g := (mkF m 5 #[vr a1, vr a2, .unset] [wr a2, wi 3])) rfl (by rw [hml]; rfl) (Steps.refl _) (argsL := []) (rest := [wi 3]) (lenOf pd__I rfl) rfl (Nat.le_refl _) (hb hby d10_5) (fun _ _ => ⟨rfl, eq101, (by decide : 0 + 0 ≤ _), (by decide : 0 + 0 ≤ _)⟩)
  dsimp only [Pt.U, Pt.locs, Pt.cells, Pt.slots] at X102 l102 y102 z102 st102 hQ102
  subst l102 y102 z102
  obtain ⟨hv102, rfl, eq102⟩ := hQ102
  obtain rfl : _ = some (Value.int (3 : Int32)) := hv102
  have N102 := Fr.app N101 (Fr.nil n0)
  obtain ⟨T103, L103, X103, N103, e103, st103⟩ := tn_3_0 a1 a2 x1 x2 x3 z1 z2 z3 G1 fm X102 hx hZ hw hby hml hown eq102 N102 X00 (by decide) (by decide) O2 P5 SA SH SL FM rf S1 S2 hx1 hx2 hx3 hz1 hz2 hz3
  have hc39 : (own_low x1) = (own_low z1) := el0
  obtain ⟨T104, L104, X104, N104, e104, st104⟩ := tn_3_1 a1 a2 x1 x2 x3 z1 z2 z3 G1 fm X103 hx hZ hw hby hml hown e103 N103 X00 (by decide) (by decide) O2 P5 SA SH SL FM rf S1 S2 hx1 hx2 hx3 hz1 hz2 hz3
  have hc39_1 : (own_low x2) = (own_low z2) := el1
  obtain ⟨T105, L105, X105, N105, e105, st105⟩ := tn_3_2 a1 a2 x1 x2 x3 z1 z2 z3 G1 fm X104 hx hZ hw hby hml hown e104 N104 X00 (by decide) (by decide) O2 P5 SA SH SL FM rf S1 S2 hx1 hx2 hx3 hz1 hz2 hz3
  have hc39_2 : (own_low x3) = (own_low z3) := el2
  obtain ⟨cq106, kq106, q106a, q106b, q106c⟩ := isOf hZ e105 E_a1
  obtain ⟨_, _, ⟨T106, L106, k106, n106⟩, -, X106, ⟨Lc106, hQ106, l106, y106, z106⟩, st106⟩ := X105.virtualBack hx (y := mn_13) (z := mn_13) hown (mvT hZ (tw hw 47 rfl)) (mvT hZ (tw hw 48 rfl)) (notFace_of_selects (args := #[]) (mvT hZ (tw hw 50 rfl))) (mvT hZ (tw hw 50 rfl)) (mvT hZ (tw hw 49 rfl)) (by decide) (StrChars.Road.lenW (W := 1) hZ hwl (kI := 4) (tw hw 11 rfl) (cs := ([x1, x2, x3] : List Int32)) E_a1 S_v1 S_k1 V_t1 hc1a (own_alli hx1 (own_alli hx2 (own_alli hx3 own_all0))) (O2.ext X00.2) P5 (Nat.le_of_ble_eq_true rfl) (by decide) (by decide)) q106a q106c (g := (mkF m 17 #[vr a1, vr a2, vi 3] [wr a1, wi 3])) rfl (by rw [hml]; rfl) (Steps.refl _) (argsL := []) (rest := [wi 3]) (lenOf pd__I rfl) rfl (Nat.le_refl _) (hb hby d10_17) (fun _ _ => ⟨rfl, e105, (by decide : 0 + 0 ≤ _), (by decide : 0 + 0 ≤ _)⟩)
  dsimp only [Pt.U, Pt.locs, Pt.cells, Pt.slots] at X106 l106 y106 z106 st106 hQ106
  subst l106 y106 z106
  obtain ⟨hv106, rfl, eq106⟩ := hQ106
  obtain rfl : _ = some (Value.int (3 : Int32)) := hv106
  have N106 := Fr.app N105 (Fr.nil n0)
  obtain ⟨fs, hr, hrun, hended, hW, hsame⟩ := X106.leave (v := some (.int (1 : Int32))) (fun h => by rw [Bd.returns] at h; cases h)
  refine ⟨_, _, pre0 _ ?_, hrun, hended, _, _, rfl, ?_, ⟨_, rfl⟩, hW, hsame.mono (by decide) (by decide)⟩
  · show Go p e below s₁ (mkF m 0 #[vr a1, vr a2, .unset] []) _
    refine XS.aloadN X0.here hx rfl (hb hby d10_0) rfl rfl ?_
    show Go p e below s₁ (mkF m 1 #[vr a1, vr a2, .unset] [wr a1]) _
    refine st101.trans ?_
    show Go p e below T101 (mkF m 4 #[vr a1, vr a2, .unset] [wi 3]) _
    refine XS.aloadN X101.here hx rfl (hb hby d10_4) rfl rfl ?_
    show Go p e below T101 (mkF m 5 #[vr a1, vr a2, .unset] [wr a2, wi 3]) _
    refine st102.trans ?_
    show Go p e below T102 (mkF m 8 #[vr a1, vr a2, .unset] [wi 3, wi 3]) _
    refine XS.icmpYes X102.here hx rfl (pc0 := 8) (pc' := 13) rfl (hb hby d10_8) rfl (teq (rfl : (3 : Int32) = (3 : Int32))).1 (by decide) (by decide) ?_
    show Go p e below T102 (mkF m 13 #[vr a1, vr a2, .unset] []) _
    refine XS.iconst X102.here hx rfl (hb hby d10_13) ?_
    show Go p e below T102 (mkF m 14 #[vr a1, vr a2, .unset] [wi 0]) _
    refine XS.istoreN X102.here hx rfl (hb hby d10_14) rfl (l' := #[.val (.ref a1), .val (.ref a2), .val (.int (0 : Int32))]) rfl ?_
    refine st103 _ ?_
    show Go p e below T103 (mkF m 39 #[vr a1, vr a2, vi 0] [wi (own_low z1), wi (own_low x1)]) _
    refine XS.icmpYes X103.here hx rfl (pc0 := 39) (pc' := 44) rfl (hb hby d10_39) rfl (teq hc39).1 (by decide) (by decide) ?_
    show Go p e below T103 (mkF m 44 #[vr a1, vr a2, vi 0] []) _
    refine XS.iinc X103.here hx rfl (hb hby d10_44) rfl (l' := #[.val (.ref a1), .val (.ref a2), .val (.int (1 : Int32))]) rfl ?_
    show Go p e below T103 (mkF m 47 #[vr a1, vr a2, vi 1] []) _
    refine XS.goto X103.here hx rfl (pc0 := 47) (pc' := 15) rfl (hb hby d10_47) (by decide) (by decide) ?_
    refine st104 _ ?_
    show Go p e below T104 (mkF m 39 #[vr a1, vr a2, vi 1] [wi (own_low z2), wi (own_low x2)]) _
    refine XS.icmpYes X104.here hx rfl (pc0 := 39) (pc' := 44) rfl (hb hby d10_39) rfl (teq hc39_1).1 (by decide) (by decide) ?_
    show Go p e below T104 (mkF m 44 #[vr a1, vr a2, vi 1] []) _
    refine XS.iinc X104.here hx rfl (hb hby d10_44) rfl (l' := #[.val (.ref a1), .val (.ref a2), .val (.int (2 : Int32))]) rfl ?_
    show Go p e below T104 (mkF m 47 #[vr a1, vr a2, vi 2] []) _
    refine XS.goto X104.here hx rfl (pc0 := 47) (pc' := 15) rfl (hb hby d10_47) (by decide) (by decide) ?_
    refine st105 _ ?_
    show Go p e below T105 (mkF m 39 #[vr a1, vr a2, vi 2] [wi (own_low z3), wi (own_low x3)]) _
    refine XS.icmpYes X105.here hx rfl (pc0 := 39) (pc' := 44) rfl (hb hby d10_39) rfl (teq hc39_2).1 (by decide) (by decide) ?_
    show Go p e below T105 (mkF m 44 #[vr a1, vr a2, vi 2] []) _
    refine XS.iinc X105.here hx rfl (hb hby d10_44) rfl (l' := #[.val (.ref a1), .val (.ref a2), .val (.int (3 : Int32))]) rfl ?_
    show Go p e below T105 (mkF m 47 #[vr a1, vr a2, vi 3] []) _
    refine XS.goto X105.here hx rfl (pc0 := 47) (pc' := 15) rfl (hb hby d10_47) (by decide) (by decide) ?_
    show Go p e below T105 (mkF m 15 #[vr a1, vr a2, vi 3] []) _
    refine XS.iloadN X105.here hx rfl (hb hby d10_15) rfl ?_
    show Go p e below T105 (mkF m 16 #[vr a1, vr a2, vi 3] [wi 3]) _
    refine XS.aloadN X105.here hx rfl (hb hby d10_16) rfl rfl ?_
    show Go p e below T105 (mkF m 17 #[vr a1, vr a2, vi 3] [wr a1, wi 3]) _
    refine st106.trans ?_
    show Go p e below T106 (mkF m 20 #[vr a1, vr a2, vi 3] [wi 3, wi 3]) _
    refine XS.icmpYes X106.here hx rfl (pc0 := 20) (pc' := 50) rfl (hb hby d10_20) rfl (flt (by decide : ¬ ((3 : Int32) < (3 : Int32)))).2.1 (by decide) (by decide) ?_
    show Go p e below T106 (mkF m 50 #[vr a1, vr a2, vi 3] []) _
    refine XS.iconst X106.here hx rfl (hb hby d10_50) ?_
    show Go p e below T106 (mkF m 51 #[vr a1, vr a2, vi 3] [wi 1]) _
    exact retN X106 hx (t := .boolean) Bd.returns (by simp) (hb hby d10_51) hr
  · show Qs (some (.int (own_eqi [x1, x2, x3] [z1, z2, z3]))) h0 n0 _ T106.heap _
    rw [eq106]
    exact ⟨own_some (by simp only [own_eqi, if_pos el0, if_pos el1, if_pos el2]), N106, rfl⟩
set_option maxRecDepth 65536 in
set_option maxHeartbeats 40000000 in
theorem rmEq_3_0 (l : Launch) (Z : State) (a0 : Array Value) (hw : ∀ d ∈ tables_1, d.before a0 Z = true) (ws : List Jvm.Cond) (a1 : Addr) (a2 : Addr) (x1 : Int32) (x2 : Int32) (x3 : Int32) (z1 : Int32) (z2 : Int32) (z3 : Int32) (G1 : Int32) (fm : Value) (h0 : Heap) (n0 : Nat) (X00 : Old Z n0 h0) (O2 : pO2 Z G1) (P5 : ¬ (G1 = (0 : Int32))) (SA : pSA Z) (SH : pSH Z) (SL : pSL Z) (FM : pFM Z fm) (rf : fm.isRef = true) (S1 : Str Z h0 a1 [x1, x2, x3]) (S2 : Str Z h0 a2 [z1, z2, z3]) (hx1 : ChB x1) (hx2 : ChB x2) (hx3 : ChB x3) (hz1 : ChB z1) (hz2 : ChB z2) (hz3 : ChB z3) (ew : ¬ (own_low x1 = own_low z1)) :
    MetFree l mn_0 (head1 (Jvm.Cond.code mn_0 prog_7_method_7_code 3 (some .boolean) :: ws) ro_23) (fun a U => a = #[(.ref a1), (.ref a2)] ∧ Z.Warmed39 U.vm ∧ U.heap = h0) (fun _ _ _ _ _ => True) (fun _ U o U' => ∃ rv rL, o = .returned rv ∧ Qs (some (.int (own_eqi [x1, x2, x3] [z1, z2, z3]))) h0 n0 rv U'.heap rL ∧ FrameEnd U o U' rL ro_23.cells ro_23.slots) := by
  refine MetFree.of_bodySF (plainFor_of_name pn_10) hisR ?_
  intro p e s m args below meth c s₁ Bd hml0 hP hK
  obtain ⟨rfl, hZ, hh⟩ := hP
  have hx := Bd.exec
  have hby := Bd.bytes
  have hml : c.maxLocals = 3 := hml0
  have hown : s.vm.findClass "com/example/webhook_guard/webhookguard/http/HeaderField" = some m.cls := findClass_of_methodNamed Bd.named
  have hnm := (name_of_methodNamed Bd.named Bd.method).1
  have X0 : Stand p l e ro_23 s m #[(.ref a1), (.ref a2)] below meth c s₁ [] 0 0 := Stand.of_body Bd
  have e0 : s₁.heap = h0 := by rw [← hh, Bd.state]; rfl
  have N0 := Fr.nil n0
  have pre0 : ∀ t, Steps p.tables e below (s₁.setTop (mkF m 0 #[.val (.ref a1), .val (.ref a2), .unset] [])) t → Steps p.tables e below (s₁.setTop (entryFrame m #[(.ref a1), (.ref a2)] 3)) t := fun t k => castTop (ef_10 m a1 a2) k
  have hwl : ∀ d ∈ StrChars.Road.wordsLen, d.before a0 Z = true := fun d hd => hw d ((by decide +kernel : ∀ d ∈ StrChars.Road.wordsLen, d ∈ tables_1) d hd)
  obtain ⟨t1, k1, cd1, N1a, vs1, ⟨E_a1, S_v1, S_k1, V_t1⟩, hc1a⟩ := id S1
  obtain ⟨t2, k2, cd2, N2a, vs2, ⟨E_a2, S_v2, S_k2, V_t2⟩, hc2a⟩ := id S2
  obtain ⟨cq101, kq101, q101a, q101b, q101c⟩ := isOf hZ e0 E_a1
  obtain ⟨_, _, ⟨T101, L101, k101, n101⟩, -, X101, ⟨Lc101, hQ101, l101, y101, z101⟩, st101⟩ := X0.virtualBack hx (y := mn_13) (z := mn_13) hown (mvT hZ (tw hw 47 rfl)) (mvT hZ (tw hw 48 rfl)) (notFace_of_selects (args := #[]) (mvT hZ (tw hw 50 rfl))) (mvT hZ (tw hw 50 rfl)) (mvT hZ (tw hw 49 rfl)) (by decide) (StrChars.Road.lenW (W := 0) hZ hwl (kI := 4) (tw hw 11 rfl) (cs := ([x1, x2, x3] : List Int32)) E_a1 S_v1 S_k1 V_t1 hc1a (own_alli hx1 (own_alli hx2 (own_alli hx3 own_all0))) (O2.ext X00.2) P5 (Nat.le_of_ble_eq_true rfl) (by decide) (by decide)) q101a q101c (g := (mkF m 1 #[vr a1, vr a2, .unset] [wr a1])) rfl (by rw [hml]; rfl) (Steps.refl _) (argsL := []) (rest := []) (lenOf pd__I rfl) rfl (Nat.le_refl _) (hb hby d10_1) (fun _ _ => ⟨rfl, e0, (by decide : 0 + 0 ≤ _), (by decide : 0 + 0 ≤ _)⟩)
  dsimp only [Pt.U, Pt.locs, Pt.cells, Pt.slots] at X101 l101 y101 z101 st101 hQ101
  subst l101 y101 z101
  obtain ⟨hv101, rfl, eq101⟩ := hQ101
  obtain rfl : _ = some (Value.int (3 : Int32)) := hv101
  have N101 := Fr.app N0 (Fr.nil n0)
  obtain ⟨cq102, kq102, q102a, q102b, q102c⟩ := isOf hZ eq101 E_a2
  obtain ⟨_, _, ⟨T102, L102, k102, n102⟩, -, X102, ⟨Lc102, hQ102, l102, y102, z102⟩, st102⟩ := X101.virtualBack hx (y := mn_13) (z := mn_13) hown (mvT hZ (tw hw 47 rfl)) (mvT hZ (tw hw 48 rfl)) (notFace_of_selects (args := #[]) (mvT hZ (tw hw 50 rfl))) (mvT hZ (tw hw 50 rfl)) (mvT hZ (tw hw 49 rfl)) (by decide) (StrChars.Road.lenW (W := 1) hZ hwl (kI := 4) (tw hw 11 rfl) (cs := ([z1, z2, z3] : List Int32)) E_a2 S_v2 S_k2 V_t2 hc2a (own_alli hz1 (own_alli hz2 (own_alli hz3 own_all0))) (O2.ext X00.2) P5 (Nat.le_of_ble_eq_true rfl) (by decide) (by decide)) q102a q102c (g := (mkF m 5 #[vr a1, vr a2, .unset] [wr a2, wi 3])) rfl (by rw [hml]; rfl) (Steps.refl _) (argsL := []) (rest := [wi 3]) (lenOf pd__I rfl) rfl (Nat.le_refl _) (hb hby d10_5) (fun _ _ => ⟨rfl, eq101, (by decide : 0 + 0 ≤ _), (by decide : 0 + 0 ≤ _)⟩)
  dsimp only [Pt.U, Pt.locs, Pt.cells, Pt.slots] at X102 l102 y102 z102 st102 hQ102
  subst l102 y102 z102
  obtain ⟨hv102, rfl, eq102⟩ := hQ102
  obtain rfl : _ = some (Value.int (3 : Int32)) := hv102
  have N102 := Fr.app N101 (Fr.nil n0)
  obtain ⟨T103, L103, X103, N103, e103, st103⟩ := tn_3_0 a1 a2 x1 x2 x3 z1 z2 z3 G1 fm X102 hx hZ hw hby hml hown eq102 N102 X00 (by decide) (by decide) O2 P5 SA SH SL FM rf S1 S2 hx1 hx2 hx3 hz1 hz2 hz3
  have hc39 : ¬ ((own_low x1) = (own_low z1)) := ew
  obtain ⟨fs, hr, hrun, hended, hW, hsame⟩ := X103.leave (v := some (.int (0 : Int32))) (fun h => by rw [Bd.returns] at h; cases h)
  refine ⟨_, _, pre0 _ ?_, hrun, hended, _, _, rfl, ?_, ⟨_, rfl⟩, hW, hsame.mono (by decide) (by decide)⟩
  · show Go p e below s₁ (mkF m 0 #[vr a1, vr a2, .unset] []) _
    refine XS.aloadN X0.here hx rfl (hb hby d10_0) rfl rfl ?_
    show Go p e below s₁ (mkF m 1 #[vr a1, vr a2, .unset] [wr a1]) _
    refine st101.trans ?_
    show Go p e below T101 (mkF m 4 #[vr a1, vr a2, .unset] [wi 3]) _
    refine XS.aloadN X101.here hx rfl (hb hby d10_4) rfl rfl ?_
    show Go p e below T101 (mkF m 5 #[vr a1, vr a2, .unset] [wr a2, wi 3]) _
    refine st102.trans ?_
    show Go p e below T102 (mkF m 8 #[vr a1, vr a2, .unset] [wi 3, wi 3]) _
    refine XS.icmpYes X102.here hx rfl (pc0 := 8) (pc' := 13) rfl (hb hby d10_8) rfl (teq (rfl : (3 : Int32) = (3 : Int32))).1 (by decide) (by decide) ?_
    show Go p e below T102 (mkF m 13 #[vr a1, vr a2, .unset] []) _
    refine XS.iconst X102.here hx rfl (hb hby d10_13) ?_
    show Go p e below T102 (mkF m 14 #[vr a1, vr a2, .unset] [wi 0]) _
    refine XS.istoreN X102.here hx rfl (hb hby d10_14) rfl (l' := #[.val (.ref a1), .val (.ref a2), .val (.int (0 : Int32))]) rfl ?_
    refine st103 _ ?_
    show Go p e below T103 (mkF m 39 #[vr a1, vr a2, vi 0] [wi (own_low z1), wi (own_low x1)]) _
    refine XS.icmpNo X103.here hx rfl (hb hby d10_39) rfl (feq hc39).1 ?_
    show Go p e below T103 (mkF m 42 #[vr a1, vr a2, vi 0] []) _
    refine XS.iconst X103.here hx rfl (hb hby d10_42) ?_
    show Go p e below T103 (mkF m 43 #[vr a1, vr a2, vi 0] [wi 0]) _
    exact retN X103 hx (t := .boolean) Bd.returns (by simp) (hb hby d10_43) hr
  · show Qs (some (.int (own_eqi [x1, x2, x3] [z1, z2, z3]))) h0 n0 _ T103.heap _
    rw [e103]
    exact ⟨own_some (by simp only [own_eqi, if_neg ew]), N103, rfl⟩
set_option maxRecDepth 65536 in
set_option maxHeartbeats 40000000 in
theorem rmEq_3_1 (l : Launch) (Z : State) (a0 : Array Value) (hw : ∀ d ∈ tables_1, d.before a0 Z = true) (ws : List Jvm.Cond) (a1 : Addr) (a2 : Addr) (x1 : Int32) (x2 : Int32) (x3 : Int32) (z1 : Int32) (z2 : Int32) (z3 : Int32) (G1 : Int32) (fm : Value) (h0 : Heap) (n0 : Nat) (X00 : Old Z n0 h0) (O2 : pO2 Z G1) (P5 : ¬ (G1 = (0 : Int32))) (SA : pSA Z) (SH : pSH Z) (SL : pSL Z) (FM : pFM Z fm) (rf : fm.isRef = true) (S1 : Str Z h0 a1 [x1, x2, x3]) (S2 : Str Z h0 a2 [z1, z2, z3]) (hx1 : ChB x1) (hx2 : ChB x2) (hx3 : ChB x3) (hz1 : ChB z1) (hz2 : ChB z2) (hz3 : ChB z3) (el0 : own_low x1 = own_low z1) (ew : ¬ (own_low x2 = own_low z2)) :
    MetFree l mn_0 (head1 (Jvm.Cond.code mn_0 prog_7_method_7_code 3 (some .boolean) :: ws) ro_23) (fun a U => a = #[(.ref a1), (.ref a2)] ∧ Z.Warmed39 U.vm ∧ U.heap = h0) (fun _ _ _ _ _ => True) (fun _ U o U' => ∃ rv rL, o = .returned rv ∧ Qs (some (.int (own_eqi [x1, x2, x3] [z1, z2, z3]))) h0 n0 rv U'.heap rL ∧ FrameEnd U o U' rL ro_23.cells ro_23.slots) := by
  refine MetFree.of_bodySF (plainFor_of_name pn_10) hisR ?_
  intro p e s m args below meth c s₁ Bd hml0 hP hK
  obtain ⟨rfl, hZ, hh⟩ := hP
  have hx := Bd.exec
  have hby := Bd.bytes
  have hml : c.maxLocals = 3 := hml0
  have hown : s.vm.findClass "com/example/webhook_guard/webhookguard/http/HeaderField" = some m.cls := findClass_of_methodNamed Bd.named
  have hnm := (name_of_methodNamed Bd.named Bd.method).1
  have X0 : Stand p l e ro_23 s m #[(.ref a1), (.ref a2)] below meth c s₁ [] 0 0 := Stand.of_body Bd
  have e0 : s₁.heap = h0 := by rw [← hh, Bd.state]; rfl
  have N0 := Fr.nil n0
  have pre0 : ∀ t, Steps p.tables e below (s₁.setTop (mkF m 0 #[.val (.ref a1), .val (.ref a2), .unset] [])) t → Steps p.tables e below (s₁.setTop (entryFrame m #[(.ref a1), (.ref a2)] 3)) t := fun t k => castTop (ef_10 m a1 a2) k
  have hwl : ∀ d ∈ StrChars.Road.wordsLen, d.before a0 Z = true := fun d hd => hw d ((by decide +kernel : ∀ d ∈ StrChars.Road.wordsLen, d ∈ tables_1) d hd)
  obtain ⟨t1, k1, cd1, N1a, vs1, ⟨E_a1, S_v1, S_k1, V_t1⟩, hc1a⟩ := id S1
  obtain ⟨t2, k2, cd2, N2a, vs2, ⟨E_a2, S_v2, S_k2, V_t2⟩, hc2a⟩ := id S2
  obtain ⟨cq101, kq101, q101a, q101b, q101c⟩ := isOf hZ e0 E_a1
  obtain ⟨_, _, ⟨T101, L101, k101, n101⟩, -, X101, ⟨Lc101, hQ101, l101, y101, z101⟩, st101⟩ := X0.virtualBack hx (y := mn_13) (z := mn_13) hown (mvT hZ (tw hw 47 rfl)) (mvT hZ (tw hw 48 rfl)) (notFace_of_selects (args := #[]) (mvT hZ (tw hw 50 rfl))) (mvT hZ (tw hw 50 rfl)) (mvT hZ (tw hw 49 rfl)) (by decide) (StrChars.Road.lenW (W := 0) hZ hwl (kI := 4) (tw hw 11 rfl) (cs := ([x1, x2, x3] : List Int32)) E_a1 S_v1 S_k1 V_t1 hc1a (own_alli hx1 (own_alli hx2 (own_alli hx3 own_all0))) (O2.ext X00.2) P5 (Nat.le_of_ble_eq_true rfl) (by decide) (by decide)) q101a q101c (g := (mkF m 1 #[vr a1, vr a2, .unset] [wr a1])) rfl (by rw [hml]; rfl) (Steps.refl _) (argsL := []) (rest := []) (lenOf pd__I rfl) rfl (Nat.le_refl _) (hb hby d10_1) (fun _ _ => ⟨rfl, e0, (by decide : 0 + 0 ≤ _), (by decide : 0 + 0 ≤ _)⟩)
  dsimp only [Pt.U, Pt.locs, Pt.cells, Pt.slots] at X101 l101 y101 z101 st101 hQ101
  subst l101 y101 z101
  obtain ⟨hv101, rfl, eq101⟩ := hQ101
  obtain rfl : _ = some (Value.int (3 : Int32)) := hv101
  have N101 := Fr.app N0 (Fr.nil n0)
  obtain ⟨cq102, kq102, q102a, q102b, q102c⟩ := isOf hZ eq101 E_a2
  obtain ⟨_, _, ⟨T102, L102, k102, n102⟩, -, X102, ⟨Lc102, hQ102, l102, y102, z102⟩, st102⟩ := X101.virtualBack hx (y := mn_13) (z := mn_13) hown (mvT hZ (tw hw 47 rfl)) (mvT hZ (tw hw 48 rfl)) (notFace_of_selects (args := #[]) (mvT hZ (tw hw 50 rfl))) (mvT hZ (tw hw 50 rfl)) (mvT hZ (tw hw 49 rfl)) (by decide) (StrChars.Road.lenW (W := 1) hZ hwl (kI := 4) (tw hw 11 rfl) (cs := ([z1, z2, z3] : List Int32)) E_a2 S_v2 S_k2 V_t2 hc2a (own_alli hz1 (own_alli hz2 (own_alli hz3 own_all0))) (O2.ext X00.2) P5 (Nat.le_of_ble_eq_true rfl) (by decide) (by decide)) q102a q102c (g := (mkF m 5 #[vr a1, vr a2, .unset] [wr a2, wi 3])) rfl (by rw [hml]; rfl) (Steps.refl _) (argsL := []) (rest := [wi 3]) (lenOf pd__I rfl) rfl (Nat.le_refl _) (hb hby d10_5) (fun _ _ => ⟨rfl, eq101, (by decide : 0 + 0 ≤ _), (by decide : 0 + 0 ≤ _)⟩)
  dsimp only [Pt.U, Pt.locs, Pt.cells, Pt.slots] at X102 l102 y102 z102 st102 hQ102
  subst l102 y102 z102
  obtain ⟨hv102, rfl, eq102⟩ := hQ102
  obtain rfl : _ = some (Value.int (3 : Int32)) := hv102
  have N102 := Fr.app N101 (Fr.nil n0)
  obtain ⟨T103, L103, X103, N103, e103, st103⟩ := tn_3_0 a1 a2 x1 x2 x3 z1 z2 z3 G1 fm X102 hx hZ hw hby hml hown eq102 N102 X00 (by decide) (by decide) O2 P5 SA SH SL FM rf S1 S2 hx1 hx2 hx3 hz1 hz2 hz3
  have hc39 : (own_low x1) = (own_low z1) := el0
  obtain ⟨T104, L104, X104, N104, e104, st104⟩ := tn_3_1 a1 a2 x1 x2 x3 z1 z2 z3 G1 fm X103 hx hZ hw hby hml hown e103 N103 X00 (by decide) (by decide) O2 P5 SA SH SL FM rf S1 S2 hx1 hx2 hx3 hz1 hz2 hz3
  have hc39_1 : ¬ ((own_low x2) = (own_low z2)) := ew
  obtain ⟨fs, hr, hrun, hended, hW, hsame⟩ := X104.leave (v := some (.int (0 : Int32))) (fun h => by rw [Bd.returns] at h; cases h)
  refine ⟨_, _, pre0 _ ?_, hrun, hended, _, _, rfl, ?_, ⟨_, rfl⟩, hW, hsame.mono (by decide) (by decide)⟩
  · show Go p e below s₁ (mkF m 0 #[vr a1, vr a2, .unset] []) _
    refine XS.aloadN X0.here hx rfl (hb hby d10_0) rfl rfl ?_
    show Go p e below s₁ (mkF m 1 #[vr a1, vr a2, .unset] [wr a1]) _
    refine st101.trans ?_
    show Go p e below T101 (mkF m 4 #[vr a1, vr a2, .unset] [wi 3]) _
    refine XS.aloadN X101.here hx rfl (hb hby d10_4) rfl rfl ?_
    show Go p e below T101 (mkF m 5 #[vr a1, vr a2, .unset] [wr a2, wi 3]) _
    refine st102.trans ?_
    show Go p e below T102 (mkF m 8 #[vr a1, vr a2, .unset] [wi 3, wi 3]) _
    refine XS.icmpYes X102.here hx rfl (pc0 := 8) (pc' := 13) rfl (hb hby d10_8) rfl (teq (rfl : (3 : Int32) = (3 : Int32))).1 (by decide) (by decide) ?_
    show Go p e below T102 (mkF m 13 #[vr a1, vr a2, .unset] []) _
    refine XS.iconst X102.here hx rfl (hb hby d10_13) ?_
    show Go p e below T102 (mkF m 14 #[vr a1, vr a2, .unset] [wi 0]) _
    refine XS.istoreN X102.here hx rfl (hb hby d10_14) rfl (l' := #[.val (.ref a1), .val (.ref a2), .val (.int (0 : Int32))]) rfl ?_
    refine st103 _ ?_
    show Go p e below T103 (mkF m 39 #[vr a1, vr a2, vi 0] [wi (own_low z1), wi (own_low x1)]) _
    refine XS.icmpYes X103.here hx rfl (pc0 := 39) (pc' := 44) rfl (hb hby d10_39) rfl (teq hc39).1 (by decide) (by decide) ?_
    show Go p e below T103 (mkF m 44 #[vr a1, vr a2, vi 0] []) _
    refine XS.iinc X103.here hx rfl (hb hby d10_44) rfl (l' := #[.val (.ref a1), .val (.ref a2), .val (.int (1 : Int32))]) rfl ?_
    show Go p e below T103 (mkF m 47 #[vr a1, vr a2, vi 1] []) _
    refine XS.goto X103.here hx rfl (pc0 := 47) (pc' := 15) rfl (hb hby d10_47) (by decide) (by decide) ?_
    refine st104 _ ?_
    show Go p e below T104 (mkF m 39 #[vr a1, vr a2, vi 1] [wi (own_low z2), wi (own_low x2)]) _
    refine XS.icmpNo X104.here hx rfl (hb hby d10_39) rfl (feq hc39_1).1 ?_
    show Go p e below T104 (mkF m 42 #[vr a1, vr a2, vi 1] []) _
    refine XS.iconst X104.here hx rfl (hb hby d10_42) ?_
    show Go p e below T104 (mkF m 43 #[vr a1, vr a2, vi 1] [wi 0]) _
    exact retN X104 hx (t := .boolean) Bd.returns (by simp) (hb hby d10_43) hr
  · show Qs (some (.int (own_eqi [x1, x2, x3] [z1, z2, z3]))) h0 n0 _ T104.heap _
    rw [e104]
    exact ⟨own_some (by simp only [own_eqi, if_pos el0, if_neg ew]), N104, rfl⟩
set_option maxRecDepth 65536 in
set_option maxHeartbeats 40000000 in
theorem rmEq_3_2 (l : Launch) (Z : State) (a0 : Array Value) (hw : ∀ d ∈ tables_1, d.before a0 Z = true) (ws : List Jvm.Cond) (a1 : Addr) (a2 : Addr) (x1 : Int32) (x2 : Int32) (x3 : Int32) (z1 : Int32) (z2 : Int32) (z3 : Int32) (G1 : Int32) (fm : Value) (h0 : Heap) (n0 : Nat) (X00 : Old Z n0 h0) (O2 : pO2 Z G1) (P5 : ¬ (G1 = (0 : Int32))) (SA : pSA Z) (SH : pSH Z) (SL : pSL Z) (FM : pFM Z fm) (rf : fm.isRef = true) (S1 : Str Z h0 a1 [x1, x2, x3]) (S2 : Str Z h0 a2 [z1, z2, z3]) (hx1 : ChB x1) (hx2 : ChB x2) (hx3 : ChB x3) (hz1 : ChB z1) (hz2 : ChB z2) (hz3 : ChB z3) (el0 : own_low x1 = own_low z1) (el1 : own_low x2 = own_low z2) (ew : ¬ (own_low x3 = own_low z3)) :
    MetFree l mn_0 (head1 (Jvm.Cond.code mn_0 prog_7_method_7_code 3 (some .boolean) :: ws) ro_23) (fun a U => a = #[(.ref a1), (.ref a2)] ∧ Z.Warmed39 U.vm ∧ U.heap = h0) (fun _ _ _ _ _ => True) (fun _ U o U' => ∃ rv rL, o = .returned rv ∧ Qs (some (.int (own_eqi [x1, x2, x3] [z1, z2, z3]))) h0 n0 rv U'.heap rL ∧ FrameEnd U o U' rL ro_23.cells ro_23.slots) := by
  refine MetFree.of_bodySF (plainFor_of_name pn_10) hisR ?_
  intro p e s m args below meth c s₁ Bd hml0 hP hK
  obtain ⟨rfl, hZ, hh⟩ := hP
  have hx := Bd.exec
  have hby := Bd.bytes
  have hml : c.maxLocals = 3 := hml0
  have hown : s.vm.findClass "com/example/webhook_guard/webhookguard/http/HeaderField" = some m.cls := findClass_of_methodNamed Bd.named
  have hnm := (name_of_methodNamed Bd.named Bd.method).1
  have X0 : Stand p l e ro_23 s m #[(.ref a1), (.ref a2)] below meth c s₁ [] 0 0 := Stand.of_body Bd
  have e0 : s₁.heap = h0 := by rw [← hh, Bd.state]; rfl
  have N0 := Fr.nil n0
  have pre0 : ∀ t, Steps p.tables e below (s₁.setTop (mkF m 0 #[.val (.ref a1), .val (.ref a2), .unset] [])) t → Steps p.tables e below (s₁.setTop (entryFrame m #[(.ref a1), (.ref a2)] 3)) t := fun t k => castTop (ef_10 m a1 a2) k
  have hwl : ∀ d ∈ StrChars.Road.wordsLen, d.before a0 Z = true := fun d hd => hw d ((by decide +kernel : ∀ d ∈ StrChars.Road.wordsLen, d ∈ tables_1) d hd)
  obtain ⟨t1, k1, cd1, N1a, vs1, ⟨E_a1, S_v1, S_k1, V_t1⟩, hc1a⟩ := id S1
  obtain ⟨t2, k2, cd2, N2a, vs2, ⟨E_a2, S_v2, S_k2, V_t2⟩, hc2a⟩ := id S2
  obtain ⟨cq101, kq101, q101a, q101b, q101c⟩ := isOf hZ e0 E_a1
  obtain ⟨_, _, ⟨T101, L101, k101, n101⟩, -, X101, ⟨Lc101, hQ101, l101, y101, z101⟩, st101⟩ := X0.virtualBack hx (y := mn_13) (z := mn_13) hown (mvT hZ (tw hw 47 rfl)) (mvT hZ (tw hw 48 rfl)) (notFace_of_selects (args := #[]) (mvT hZ (tw hw 50 rfl))) (mvT hZ (tw hw 50 rfl)) (mvT hZ (tw hw 49 rfl)) (by decide) (StrChars.Road.lenW (W := 0) hZ hwl (kI := 4) (tw hw 11 rfl) (cs := ([x1, x2, x3] : List Int32)) E_a1 S_v1 S_k1 V_t1 hc1a (own_alli hx1 (own_alli hx2 (own_alli hx3 own_all0))) (O2.ext X00.2) P5 (Nat.le_of_ble_eq_true rfl) (by decide) (by decide)) q101a q101c (g := (mkF m 1 #[vr a1, vr a2, .unset] [wr a1])) rfl (by rw [hml]; rfl) (Steps.refl _) (argsL := []) (rest := []) (lenOf pd__I rfl) rfl (Nat.le_refl _) (hb hby d10_1) (fun _ _ => ⟨rfl, e0, (by decide : 0 + 0 ≤ _), (by decide : 0 + 0 ≤ _)⟩)
  dsimp only [Pt.U, Pt.locs, Pt.cells, Pt.slots] at X101 l101 y101 z101 st101 hQ101
  subst l101 y101 z101
  obtain ⟨hv101, rfl, eq101⟩ := hQ101
  obtain rfl : _ = some (Value.int (3 : Int32)) := hv101
  have N101 := Fr.app N0 (Fr.nil n0)
  obtain ⟨cq102, kq102, q102a, q102b, q102c⟩ := isOf hZ eq101 E_a2
  obtain ⟨_, _, ⟨T102, L102, k102, n102⟩, -, X102, ⟨Lc102, hQ102, l102, y102, z102⟩, st102⟩ := X101.virtualBack hx (y := mn_13) (z := mn_13) hown (mvT hZ (tw hw 47 rfl)) (mvT hZ (tw hw 48 rfl)) (notFace_of_selects (args := #[]) (mvT hZ (tw hw 50 rfl))) (mvT hZ (tw hw 50 rfl)) (mvT hZ (tw hw 49 rfl)) (by decide) (StrChars.Road.lenW (W := 1) hZ hwl (kI := 4) (tw hw 11 rfl) (cs := ([z1, z2, z3] : List Int32)) E_a2 S_v2 S_k2 V_t2 hc2a (own_alli hz1 (own_alli hz2 (own_alli hz3 own_all0))) (O2.ext X00.2) P5 (Nat.le_of_ble_eq_true rfl) (by decide) (by decide)) q102a q102c (g := (mkF m 5 #[vr a1, vr a2, .unset] [wr a2, wi 3])) rfl (by rw [hml]; rfl) (Steps.refl _) (argsL := []) (rest := [wi 3]) (lenOf pd__I rfl) rfl (Nat.le_refl _) (hb hby d10_5) (fun _ _ => ⟨rfl, eq101, (by decide : 0 + 0 ≤ _), (by decide : 0 + 0 ≤ _)⟩)
  dsimp only [Pt.U, Pt.locs, Pt.cells, Pt.slots] at X102 l102 y102 z102 st102 hQ102
  subst l102 y102 z102
  obtain ⟨hv102, rfl, eq102⟩ := hQ102
  obtain rfl : _ = some (Value.int (3 : Int32)) := hv102
  have N102 := Fr.app N101 (Fr.nil n0)
  obtain ⟨T103, L103, X103, N103, e103, st103⟩ := tn_3_0 a1 a2 x1 x2 x3 z1 z2 z3 G1 fm X102 hx hZ hw hby hml hown eq102 N102 X00 (by decide) (by decide) O2 P5 SA SH SL FM rf S1 S2 hx1 hx2 hx3 hz1 hz2 hz3
  have hc39 : (own_low x1) = (own_low z1) := el0
  obtain ⟨T104, L104, X104, N104, e104, st104⟩ := tn_3_1 a1 a2 x1 x2 x3 z1 z2 z3 G1 fm X103 hx hZ hw hby hml hown e103 N103 X00 (by decide) (by decide) O2 P5 SA SH SL FM rf S1 S2 hx1 hx2 hx3 hz1 hz2 hz3
  have hc39_1 : (own_low x2) = (own_low z2) := el1
  obtain ⟨T105, L105, X105, N105, e105, st105⟩ := tn_3_2 a1 a2 x1 x2 x3 z1 z2 z3 G1 fm X104 hx hZ hw hby hml hown e104 N104 X00 (by decide) (by decide) O2 P5 SA SH SL FM rf S1 S2 hx1 hx2 hx3 hz1 hz2 hz3
  have hc39_2 : ¬ ((own_low x3) = (own_low z3)) := ew
  obtain ⟨fs, hr, hrun, hended, hW, hsame⟩ := X105.leave (v := some (.int (0 : Int32))) (fun h => by rw [Bd.returns] at h; cases h)
  refine ⟨_, _, pre0 _ ?_, hrun, hended, _, _, rfl, ?_, ⟨_, rfl⟩, hW, hsame.mono (by decide) (by decide)⟩
  · show Go p e below s₁ (mkF m 0 #[vr a1, vr a2, .unset] []) _
    refine XS.aloadN X0.here hx rfl (hb hby d10_0) rfl rfl ?_
    show Go p e below s₁ (mkF m 1 #[vr a1, vr a2, .unset] [wr a1]) _
    refine st101.trans ?_
    show Go p e below T101 (mkF m 4 #[vr a1, vr a2, .unset] [wi 3]) _
    refine XS.aloadN X101.here hx rfl (hb hby d10_4) rfl rfl ?_
    show Go p e below T101 (mkF m 5 #[vr a1, vr a2, .unset] [wr a2, wi 3]) _
    refine st102.trans ?_
    show Go p e below T102 (mkF m 8 #[vr a1, vr a2, .unset] [wi 3, wi 3]) _
    refine XS.icmpYes X102.here hx rfl (pc0 := 8) (pc' := 13) rfl (hb hby d10_8) rfl (teq (rfl : (3 : Int32) = (3 : Int32))).1 (by decide) (by decide) ?_
    show Go p e below T102 (mkF m 13 #[vr a1, vr a2, .unset] []) _
    refine XS.iconst X102.here hx rfl (hb hby d10_13) ?_
    show Go p e below T102 (mkF m 14 #[vr a1, vr a2, .unset] [wi 0]) _
    refine XS.istoreN X102.here hx rfl (hb hby d10_14) rfl (l' := #[.val (.ref a1), .val (.ref a2), .val (.int (0 : Int32))]) rfl ?_
    refine st103 _ ?_
    show Go p e below T103 (mkF m 39 #[vr a1, vr a2, vi 0] [wi (own_low z1), wi (own_low x1)]) _
    refine XS.icmpYes X103.here hx rfl (pc0 := 39) (pc' := 44) rfl (hb hby d10_39) rfl (teq hc39).1 (by decide) (by decide) ?_
    show Go p e below T103 (mkF m 44 #[vr a1, vr a2, vi 0] []) _
    refine XS.iinc X103.here hx rfl (hb hby d10_44) rfl (l' := #[.val (.ref a1), .val (.ref a2), .val (.int (1 : Int32))]) rfl ?_
    show Go p e below T103 (mkF m 47 #[vr a1, vr a2, vi 1] []) _
    refine XS.goto X103.here hx rfl (pc0 := 47) (pc' := 15) rfl (hb hby d10_47) (by decide) (by decide) ?_
    refine st104 _ ?_
    show Go p e below T104 (mkF m 39 #[vr a1, vr a2, vi 1] [wi (own_low z2), wi (own_low x2)]) _
    refine XS.icmpYes X104.here hx rfl (pc0 := 39) (pc' := 44) rfl (hb hby d10_39) rfl (teq hc39_1).1 (by decide) (by decide) ?_
    show Go p e below T104 (mkF m 44 #[vr a1, vr a2, vi 1] []) _
    refine XS.iinc X104.here hx rfl (hb hby d10_44) rfl (l' := #[.val (.ref a1), .val (.ref a2), .val (.int (2 : Int32))]) rfl ?_
    show Go p e below T104 (mkF m 47 #[vr a1, vr a2, vi 2] []) _
    refine XS.goto X104.here hx rfl (pc0 := 47) (pc' := 15) rfl (hb hby d10_47) (by decide) (by decide) ?_
    refine st105 _ ?_
    show Go p e below T105 (mkF m 39 #[vr a1, vr a2, vi 2] [wi (own_low z3), wi (own_low x3)]) _
    refine XS.icmpNo X105.here hx rfl (hb hby d10_39) rfl (feq hc39_2).1 ?_
    show Go p e below T105 (mkF m 42 #[vr a1, vr a2, vi 2] []) _
    refine XS.iconst X105.here hx rfl (hb hby d10_42) ?_
    show Go p e below T105 (mkF m 43 #[vr a1, vr a2, vi 2] [wi 0]) _
    exact retN X105 hx (t := .boolean) Bd.returns (by simp) (hb hby d10_43) hr
  · show Qs (some (.int (own_eqi [x1, x2, x3] [z1, z2, z3]))) h0 n0 _ T105.heap _
    rw [e105]
    exact ⟨own_some (by simp only [own_eqi, if_pos el0, if_pos el1, if_neg ew]), N105, rfl⟩
set_option maxRecDepth 65536 in
set_option maxHeartbeats 40000000 in
theorem rmEq (l : Launch) (Z : State) (a0 : Array Value) (hw : ∀ d ∈ tables_1, d.before a0 Z = true) (ws : List Jvm.Cond) (a1 : Addr) (a2 : Addr) (cs : List Int32) (ds : List Int32) (G1 : Int32) (fm : Value) (h0 : Heap) (n0 : Nat) (X00 : Old Z n0 h0) (O2 : pO2 Z G1) (P5 : ¬ (G1 = (0 : Int32))) (SA : pSA Z) (SH : pSH Z) (SL : pSL Z) (FM : pFM Z fm) (rf : fm.isRef = true) (S1 : Str Z h0 a1 cs) (S2 : Str Z h0 a2 ds) (hbc : ∀ c ∈ cs, ChB c) (hbd : ∀ c ∈ ds, ChB c) (hl1 : cs.length ≤ 3) (hl2 : ds.length ≤ 3) :
    MetFree l mn_0 (head1 (Jvm.Cond.code mn_0 prog_7_method_7_code 3 (some .boolean) :: ws) ro_23) (fun a U => a = #[(.ref a1), (.ref a2)] ∧ Z.Warmed39 U.vm ∧ U.heap = h0) (fun _ _ _ _ _ => True) (fun _ U o U' => ∃ rv rL, o = .returned rv ∧ Qs (some (.int (own_eqi cs ds))) h0 n0 rv U'.heap rL ∧ FrameEnd U o U' rL ro_23.cells ro_23.slots) := by
  by_cases hne : cs.length = ds.length
  · match cs, ds, hl1, hne, hbc, hbd, S1, S2 with
    | [], [], _, _, hbc, hbd, S1, S2 =>
      exact rmEq_0_n l Z a0 hw ws a1 a2  G1 fm h0 n0 X00 O2 P5 SA SH SL FM rf S1 S2   
    | [x1], [z1], _, _, hbc, hbd, S1, S2 =>
      by_cases c0 : own_low x1 = own_low z1
      case neg => exact rmEq_1_0 l Z a0 hw ws a1 a2 x1 z1 G1 fm h0 n0 X00 O2 P5 SA SH SL FM rf S1 S2 (own_mem hbc 0 rfl) (own_mem hbd 0 rfl) c0
      exact rmEq_1_n l Z a0 hw ws a1 a2 x1 z1 G1 fm h0 n0 X00 O2 P5 SA SH SL FM rf S1 S2 (own_mem hbc 0 rfl) (own_mem hbd 0 rfl) c0
    | [x1, x2], [z1, z2], _, _, hbc, hbd, S1, S2 =>
      by_cases c0 : own_low x1 = own_low z1
      case neg => exact rmEq_2_0 l Z a0 hw ws a1 a2 x1 x2 z1 z2 G1 fm h0 n0 X00 O2 P5 SA SH SL FM rf S1 S2 (own_mem hbc 0 rfl) (own_mem hbc 1 rfl) (own_mem hbd 0 rfl) (own_mem hbd 1 rfl) c0
      by_cases c1 : own_low x2 = own_low z2
      case neg => exact rmEq_2_1 l Z a0 hw ws a1 a2 x1 x2 z1 z2 G1 fm h0 n0 X00 O2 P5 SA SH SL FM rf S1 S2 (own_mem hbc 0 rfl) (own_mem hbc 1 rfl) (own_mem hbd 0 rfl) (own_mem hbd 1 rfl) c0 c1
      exact rmEq_2_n l Z a0 hw ws a1 a2 x1 x2 z1 z2 G1 fm h0 n0 X00 O2 P5 SA SH SL FM rf S1 S2 (own_mem hbc 0 rfl) (own_mem hbc 1 rfl) (own_mem hbd 0 rfl) (own_mem hbd 1 rfl) c0 c1
    | [x1, x2, x3], [z1, z2, z3], _, _, hbc, hbd, S1, S2 =>
      by_cases c0 : own_low x1 = own_low z1
      case neg => exact rmEq_3_0 l Z a0 hw ws a1 a2 x1 x2 x3 z1 z2 z3 G1 fm h0 n0 X00 O2 P5 SA SH SL FM rf S1 S2 (own_mem hbc 0 rfl) (own_mem hbc 1 rfl) (own_mem hbc 2 rfl) (own_mem hbd 0 rfl) (own_mem hbd 1 rfl) (own_mem hbd 2 rfl) c0
      by_cases c1 : own_low x2 = own_low z2
      case neg => exact rmEq_3_1 l Z a0 hw ws a1 a2 x1 x2 x3 z1 z2 z3 G1 fm h0 n0 X00 O2 P5 SA SH SL FM rf S1 S2 (own_mem hbc 0 rfl) (own_mem hbc 1 rfl) (own_mem hbc 2 rfl) (own_mem hbd 0 rfl) (own_mem hbd 1 rfl) (own_mem hbd 2 rfl) c0 c1
      by_cases c2 : own_low x3 = own_low z3
      case neg => exact rmEq_3_2 l Z a0 hw ws a1 a2 x1 x2 x3 z1 z2 z3 G1 fm h0 n0 X00 O2 P5 SA SH SL FM rf S1 S2 (own_mem hbc 0 rfl) (own_mem hbc 1 rfl) (own_mem hbc 2 rfl) (own_mem hbd 0 rfl) (own_mem hbd 1 rfl) (own_mem hbd 2 rfl) c0 c1 c2
      exact rmEq_3_n l Z a0 hw ws a1 a2 x1 x2 x3 z1 z2 z3 G1 fm h0 n0 X00 O2 P5 SA SH SL FM rf S1 S2 (own_mem hbc 0 rfl) (own_mem hbc 1 rfl) (own_mem hbc 2 rfl) (own_mem hbd 0 rfl) (own_mem hbd 1 rfl) (own_mem hbd 2 rfl) c0 c1 c2
    | _ :: _ :: _ :: _ :: _, _, h, _, _, _, _, _ => exact absurd h (by simp only [List.length_cons]; omega)
  · exact rmEq_ne l Z a0 hw ws a1 a2 cs ds G1 fm h0 n0 X00 O2 P5 SA SH SL FM rf S1 S2 hbc hbd hl1 hl2 hne
set_option maxRecDepth 65536 in
set_option maxHeartbeats 40000000 in
theorem pcA_0 {p : Program} {l : Launch} {e : Env} {s : State} {m : MethodId} {args : Array Value} {below : List Frame} {meth : Method} {c : Code} {T0 : State} {locs : List Loc} {cells slots : Nat} {Z : State} {a0 : Array Value} {h0 : Heap} {n0 : Nat} (p1 : Int32) (p2 : Int32) (p3 : Int32) (p4 : Int32) (p5 : Int32) (p6 : Int32)
    (X0 : Stand p l e room_1 s m args below meth c T0 locs cells slots) (hx : p.tables.exec = Jvm.exec) (hZ : Z.Warmed39 s.vm) (hw : ∀ d ∈ tables_1, d.before a0 Z = true) (hby : c.code = code) (hml : c.maxLocals = 17) (hown : s.vm.findClass "com/example/webhook_guard/webhookguard/http/HeaderFieldEqualsIgnoringAsciiCasePinLaw" = some m.cls) (e0 : T0.heap = h0) (N0 : Fr n0 locs) (X00 : Old Z n0 h0) (qc : cells ≤ room_1.cells) (qs : slots ≤ room_1.slots) (hc12 : (((p6.toUInt32 >>> ((2 : Int32) &&& 31).toUInt32).toInt32) &&& (3 : Int32)) = (0 : Int32)) :
    ∃ (T' : State) (L' : List Loc), Stand p l e room_1 s m args below meth c T' L' cells slots ∧ Fr n0 L' ∧ T'.heap = h0 ∧ ∀ target, Steps p.tables e below (T'.setTop (mkF m 28 #[vi p1, vi p2, vi p3, vi p4, vi p5, vi p6, vi (p6 &&& (3 : Int32)), vi (((p6.toUInt32 >>> ((4 : Int32) &&& 31).toUInt32).toInt32) &&& (3 : Int32)), .unset, .unset, .unset, .unset, .unset, .unset, .unset, .unset, .unset] [])) target → Steps p.tables e below (T0.setTop (mkF m 0 #[vi p1, vi p2, vi p3, vi p4, vi p5, vi p6, .unset, .unset, .unset, .unset, .unset, .unset, .unset, .unset, .unset, .unset, .unset] [])) target := by
  refine ⟨T0, _, X0, N0, e0, fun target kt => ?_⟩
  show Go p e below T0 (mkF m 0 #[vi p1, vi p2, vi p3, vi p4, vi p5, vi p6, .unset, .unset, .unset, .unset, .unset, .unset, .unset, .unset, .unset, .unset, .unset] []) _
  refine XS.iload X0.here hx rfl (hb hby at_0) rfl ?_
  show Go p e below T0 (mkF m 2 #[vi p1, vi p2, vi p3, vi p4, vi p5, vi p6, .unset, .unset, .unset, .unset, .unset, .unset, .unset, .unset, .unset, .unset, .unset] [wi p6]) _
  refine XS.iconst X0.here hx rfl (hb hby at_2) ?_
  show Go p e below T0 (mkF m 3 #[vi p1, vi p2, vi p3, vi p4, vi p5, vi p6, .unset, .unset, .unset, .unset, .unset, .unset, .unset, .unset, .unset, .unset, .unset] [wi 3, wi p6]) _
  refine XS.iand X0.here hx rfl (hb hby at_3) rfl ?_
  show Go p e below T0 (mkF m 4 #[vi p1, vi p2, vi p3, vi p4, vi p5, vi p6, .unset, .unset, .unset, .unset, .unset, .unset, .unset, .unset, .unset, .unset, .unset] [wi (p6 &&& (3 : Int32))]) _
  refine XS.istore X0.here hx rfl (hb hby at_4) rfl (l' := #[.val (.int p1), .val (.int p2), .val (.int p3), .val (.int p4), .val (.int p5), .val (.int p6), .val (.int (p6 &&& (3 : Int32))), .unset, .unset, .unset, .unset, .unset, .unset, .unset, .unset, .unset, .unset]) rfl ?_
  show Go p e below T0 (mkF m 6 #[vi p1, vi p2, vi p3, vi p4, vi p5, vi p6, vi (p6 &&& (3 : Int32)), .unset, .unset, .unset, .unset, .unset, .unset, .unset, .unset, .unset, .unset] []) _
  refine XS.iload X0.here hx rfl (hb hby at_6) rfl ?_
  show Go p e below T0 (mkF m 8 #[vi p1, vi p2, vi p3, vi p4, vi p5, vi p6, vi (p6 &&& (3 : Int32)), .unset, .unset, .unset, .unset, .unset, .unset, .unset, .unset, .unset, .unset] [wi p6]) _
  refine XS.iconst X0.here hx rfl (hb hby at_8) ?_
  show Go p e below T0 (mkF m 9 #[vi p1, vi p2, vi p3, vi p4, vi p5, vi p6, vi (p6 &&& (3 : Int32)), .unset, .unset, .unset, .unset, .unset, .unset, .unset, .unset, .unset, .unset] [wi 2, wi p6]) _
  refine XS.iushr X0.here hx rfl (hb hby at_9) rfl ?_
  show Go p e below T0 (mkF m 10 #[vi p1, vi p2, vi p3, vi p4, vi p5, vi p6, vi (p6 &&& (3 : Int32)), .unset, .unset, .unset, .unset, .unset, .unset, .unset, .unset, .unset, .unset] [wi ((p6.toUInt32 >>> ((2 : Int32) &&& 31).toUInt32).toInt32)]) _
  refine XS.iconst X0.here hx rfl (hb hby at_10) ?_
  show Go p e below T0 (mkF m 11 #[vi p1, vi p2, vi p3, vi p4, vi p5, vi p6, vi (p6 &&& (3 : Int32)), .unset, .unset, .unset, .unset, .unset, .unset, .unset, .unset, .unset, .unset] [wi 3, wi ((p6.toUInt32 >>> ((2 : Int32) &&& 31).toUInt32).toInt32)]) _
  refine XS.iand X0.here hx rfl (hb hby at_11) rfl ?_
  show Go p e below T0 (mkF m 12 #[vi p1, vi p2, vi p3, vi p4, vi p5, vi p6, vi (p6 &&& (3 : Int32)), .unset, .unset, .unset, .unset, .unset, .unset, .unset, .unset, .unset, .unset] [wi (((p6.toUInt32 >>> ((2 : Int32) &&& 31).toUInt32).toInt32) &&& (3 : Int32))]) _
  refine XS.ifNo X0.here hx rfl (hb hby at_12) rfl ((if0 _ _).trans (teq hc12).2) ?_
  show Go p e below T0 (mkF m 15 #[vi p1, vi p2, vi p3, vi p4, vi p5, vi p6, vi (p6 &&& (3 : Int32)), .unset, .unset, .unset, .unset, .unset, .unset, .unset, .unset, .unset, .unset] []) _
  refine XS.iload X0.here hx rfl (hb hby at_15) rfl ?_
  show Go p e below T0 (mkF m 17 #[vi p1, vi p2, vi p3, vi p4, vi p5, vi p6, vi (p6 &&& (3 : Int32)), .unset, .unset, .unset, .unset, .unset, .unset, .unset, .unset, .unset, .unset] [wi p6]) _
  refine XS.iconst X0.here hx rfl (hb hby at_17) ?_
  show Go p e below T0 (mkF m 18 #[vi p1, vi p2, vi p3, vi p4, vi p5, vi p6, vi (p6 &&& (3 : Int32)), .unset, .unset, .unset, .unset, .unset, .unset, .unset, .unset, .unset, .unset] [wi 4, wi p6]) _
  refine XS.iushr X0.here hx rfl (hb hby at_18) rfl ?_
  show Go p e below T0 (mkF m 19 #[vi p1, vi p2, vi p3, vi p4, vi p5, vi p6, vi (p6 &&& (3 : Int32)), .unset, .unset, .unset, .unset, .unset, .unset, .unset, .unset, .unset, .unset] [wi ((p6.toUInt32 >>> ((4 : Int32) &&& 31).toUInt32).toInt32)]) _
  refine XS.iconst X0.here hx rfl (hb hby at_19) ?_
  show Go p e below T0 (mkF m 20 #[vi p1, vi p2, vi p3, vi p4, vi p5, vi p6, vi (p6 &&& (3 : Int32)), .unset, .unset, .unset, .unset, .unset, .unset, .unset, .unset, .unset, .unset] [wi 3, wi ((p6.toUInt32 >>> ((4 : Int32) &&& 31).toUInt32).toInt32)]) _
  refine XS.iand X0.here hx rfl (hb hby at_20) rfl ?_
  show Go p e below T0 (mkF m 21 #[vi p1, vi p2, vi p3, vi p4, vi p5, vi p6, vi (p6 &&& (3 : Int32)), .unset, .unset, .unset, .unset, .unset, .unset, .unset, .unset, .unset, .unset] [wi (((p6.toUInt32 >>> ((4 : Int32) &&& 31).toUInt32).toInt32) &&& (3 : Int32))]) _
  refine XS.goto X0.here hx rfl (pc0 := 21) (pc' := 26) rfl (hb hby at_21) (by decide) (by decide) ?_
  show Go p e below T0 (mkF m 26 #[vi p1, vi p2, vi p3, vi p4, vi p5, vi p6, vi (p6 &&& (3 : Int32)), .unset, .unset, .unset, .unset, .unset, .unset, .unset, .unset, .unset, .unset] [wi (((p6.toUInt32 >>> ((4 : Int32) &&& 31).toUInt32).toInt32) &&& (3 : Int32))]) _
  refine XS.istore X0.here hx rfl (hb hby at_26) rfl (l' := #[.val (.int p1), .val (.int p2), .val (.int p3), .val (.int p4), .val (.int p5), .val (.int p6), .val (.int (p6 &&& (3 : Int32))), .val (.int (((p6.toUInt32 >>> ((4 : Int32) &&& 31).toUInt32).toInt32) &&& (3 : Int32))), .unset, .unset, .unset, .unset, .unset, .unset, .unset, .unset, .unset]) rfl ?_
  exact kt
set_option maxRecDepth 65536 in
set_option maxHeartbeats 40000000 in
theorem pcA_1 {p : Program} {l : Launch} {e : Env} {s : State} {m : MethodId} {args : Array Value} {below : List Frame} {meth : Method} {c : Code} {T0 : State} {locs : List Loc} {cells slots : Nat} {Z : State} {a0 : Array Value} {h0 : Heap} {n0 : Nat} (p1 : Int32) (p2 : Int32) (p3 : Int32) (p4 : Int32) (p5 : Int32) (p6 : Int32)
    (X0 : Stand p l e room_1 s m args below meth c T0 locs cells slots) (hx : p.tables.exec = Jvm.exec) (hZ : Z.Warmed39 s.vm) (hw : ∀ d ∈ tables_1, d.before a0 Z = true) (hby : c.code = code) (hml : c.maxLocals = 17) (hown : s.vm.findClass "com/example/webhook_guard/webhookguard/http/HeaderFieldEqualsIgnoringAsciiCasePinLaw" = some m.cls) (e0 : T0.heap = h0) (N0 : Fr n0 locs) (X00 : Old Z n0 h0) (qc : cells ≤ room_1.cells) (qs : slots ≤ room_1.slots) (hc12 : ¬ ((((p6.toUInt32 >>> ((2 : Int32) &&& 31).toUInt32).toInt32) &&& (3 : Int32)) = (0 : Int32))) :
    ∃ (T' : State) (L' : List Loc), Stand p l e room_1 s m args below meth c T' L' cells slots ∧ Fr n0 L' ∧ T'.heap = h0 ∧ ∀ target, Steps p.tables e below (T'.setTop (mkF m 28 #[vi p1, vi p2, vi p3, vi p4, vi p5, vi p6, vi (p6 &&& (3 : Int32)), vi (p6 &&& (3 : Int32)), .unset, .unset, .unset, .unset, .unset, .unset, .unset, .unset, .unset] [])) target → Steps p.tables e below (T0.setTop (mkF m 0 #[vi p1, vi p2, vi p3, vi p4, vi p5, vi p6, .unset, .unset, .unset, .unset, .unset, .unset, .unset, .unset, .unset, .unset, .unset] [])) target := by
  refine ⟨T0, _, X0, N0, e0, fun target kt => ?_⟩
  show Go p e below T0 (mkF m 0 #[vi p1, vi p2, vi p3, vi p4, vi p5, vi p6, .unset, .unset, .unset, .unset, .unset, .unset, .unset, .unset, .unset, .unset, .unset] []) _
  refine XS.iload X0.here hx rfl (hb hby at_0) rfl ?_
  show Go p e below T0 (mkF m 2 #[vi p1, vi p2, vi p3, vi p4, vi p5, vi p6, .unset, .unset, .unset, .unset, .unset, .unset, .unset, .unset, .unset, .unset, .unset] [wi p6]) _
  refine XS.iconst X0.here hx rfl (hb hby at_2) ?_
  show Go p e below T0 (mkF m 3 #[vi p1, vi p2, vi p3, vi p4, vi p5, vi p6, .unset, .unset, .unset, .unset, .unset, .unset, .unset, .unset, .unset, .unset, .unset] [wi 3, wi p6]) _
  refine XS.iand X0.here hx rfl (hb hby at_3) rfl ?_
  show Go p e below T0 (mkF m 4 #[vi p1, vi p2, vi p3, vi p4, vi p5, vi p6, .unset, .unset, .unset, .unset, .unset, .unset, .unset, .unset, .unset, .unset, .unset] [wi (p6 &&& (3 : Int32))]) _
  refine XS.istore X0.here hx rfl (hb hby at_4) rfl (l' := #[.val (.int p1), .val (.int p2), .val (.int p3), .val (.int p4), .val (.int p5), .val (.int p6), .val (.int (p6 &&& (3 : Int32))), .unset, .unset, .unset, .unset, .unset, .unset, .unset, .unset, .unset, .unset]) rfl ?_
  show Go p e below T0 (mkF m 6 #[vi p1, vi p2, vi p3, vi p4, vi p5, vi p6, vi (p6 &&& (3 : Int32)), .unset, .unset, .unset, .unset, .unset, .unset, .unset, .unset, .unset, .unset] []) _
  refine XS.iload X0.here hx rfl (hb hby at_6) rfl ?_
  show Go p e below T0 (mkF m 8 #[vi p1, vi p2, vi p3, vi p4, vi p5, vi p6, vi (p6 &&& (3 : Int32)), .unset, .unset, .unset, .unset, .unset, .unset, .unset, .unset, .unset, .unset] [wi p6]) _
  refine XS.iconst X0.here hx rfl (hb hby at_8) ?_
  show Go p e below T0 (mkF m 9 #[vi p1, vi p2, vi p3, vi p4, vi p5, vi p6, vi (p6 &&& (3 : Int32)), .unset, .unset, .unset, .unset, .unset, .unset, .unset, .unset, .unset, .unset] [wi 2, wi p6]) _
  refine XS.iushr X0.here hx rfl (hb hby at_9) rfl ?_
  show Go p e below T0 (mkF m 10 #[vi p1, vi p2, vi p3, vi p4, vi p5, vi p6, vi (p6 &&& (3 : Int32)), .unset, .unset, .unset, .unset, .unset, .unset, .unset, .unset, .unset, .unset] [wi ((p6.toUInt32 >>> ((2 : Int32) &&& 31).toUInt32).toInt32)]) _
  refine XS.iconst X0.here hx rfl (hb hby at_10) ?_
  show Go p e below T0 (mkF m 11 #[vi p1, vi p2, vi p3, vi p4, vi p5, vi p6, vi (p6 &&& (3 : Int32)), .unset, .unset, .unset, .unset, .unset, .unset, .unset, .unset, .unset, .unset] [wi 3, wi ((p6.toUInt32 >>> ((2 : Int32) &&& 31).toUInt32).toInt32)]) _
  refine XS.iand X0.here hx rfl (hb hby at_11) rfl ?_
  show Go p e below T0 (mkF m 12 #[vi p1, vi p2, vi p3, vi p4, vi p5, vi p6, vi (p6 &&& (3 : Int32)), .unset, .unset, .unset, .unset, .unset, .unset, .unset, .unset, .unset, .unset] [wi (((p6.toUInt32 >>> ((2 : Int32) &&& 31).toUInt32).toInt32) &&& (3 : Int32))]) _
  refine XS.ifYes X0.here hx rfl (pc0 := 12) (pc' := 24) rfl (hb hby at_12) rfl ((if0 _ _).trans (feq hc12).2) (by decide) (by decide) ?_
  show Go p e below T0 (mkF m 24 #[vi p1, vi p2, vi p3, vi p4, vi p5, vi p6, vi (p6 &&& (3 : Int32)), .unset, .unset, .unset, .unset, .unset, .unset, .unset, .unset, .unset, .unset] []) _
  refine XS.iload X0.here hx rfl (hb hby at_24) rfl ?_
  show Go p e below T0 (mkF m 26 #[vi p1, vi p2, vi p3, vi p4, vi p5, vi p6, vi (p6 &&& (3 : Int32)), .unset, .unset, .unset, .unset, .unset, .unset, .unset, .unset, .unset, .unset] [wi (p6 &&& (3 : Int32))]) _
  refine XS.istore X0.here hx rfl (hb hby at_26) rfl (l' := #[.val (.int p1), .val (.int p2), .val (.int p3), .val (.int p4), .val (.int p5), .val (.int p6), .val (.int (p6 &&& (3 : Int32))), .val (.int (p6 &&& (3 : Int32))), .unset, .unset, .unset, .unset, .unset, .unset, .unset, .unset, .unset]) rfl ?_
  exact kt
theorem pcA {p : Program} {l : Launch} {e : Env} {s : State} {m : MethodId} {args : Array Value} {below : List Frame} {meth : Method} {c : Code} {T0 : State} {locs : List Loc} {cells slots : Nat} {Z : State} {a0 : Array Value} {h0 : Heap} {n0 : Nat} (p1 : Int32) (p2 : Int32) (p3 : Int32) (p4 : Int32) (p5 : Int32) (p6 : Int32)
    (X0 : Stand p l e room_1 s m args below meth c T0 locs cells slots) (hx : p.tables.exec = Jvm.exec) (hZ : Z.Warmed39 s.vm) (hw : ∀ d ∈ tables_1, d.before a0 Z = true) (hby : c.code = code) (hml : c.maxLocals = 17) (hown : s.vm.findClass "com/example/webhook_guard/webhookguard/http/HeaderFieldEqualsIgnoringAsciiCasePinLaw" = some m.cls) (e0 : T0.heap = h0) (N0 : Fr n0 locs) (X00 : Old Z n0 h0) (qc : cells ≤ room_1.cells) (qs : slots ≤ room_1.slots) :
    ∃ (T' : State) (L' : List Loc), Stand p l e room_1 s m args below meth c T' L' cells slots ∧ Fr n0 L' ∧ T'.heap = h0 ∧ ∀ target, Steps p.tables e below (T'.setTop (mkF m 28 #[vi p1, vi p2, vi p3, vi p4, vi p5, vi p6, vi (p6 &&& (3 : Int32)), vi (own_lb p6), .unset, .unset, .unset, .unset, .unset, .unset, .unset, .unset, .unset] [])) target → Steps p.tables e below (T0.setTop (mkF m 0 #[vi p1, vi p2, vi p3, vi p4, vi p5, vi p6, .unset, .unset, .unset, .unset, .unset, .unset, .unset, .unset, .unset, .unset, .unset] [])) target := by
  by_cases c : (((p6.toUInt32 >>> ((2 : Int32) &&& 31).toUInt32).toInt32) &&& (3 : Int32)) = (0 : Int32)
  · have q := pcA_0 p1 p2 p3 p4 p5 p6 X0 hx hZ hw hby hml hown e0 N0 X00 qc qs c; rw [show own_lb p6 = (((p6.toUInt32 >>> ((4 : Int32) &&& 31).toUInt32).toInt32) &&& (3 : Int32)) from if_pos c]; exact q
  · have q := pcA_1 p1 p2 p3 p4 p5 p6 X0 hx hZ hw hby hml hown e0 N0 X00 qc qs c; rw [show own_lb p6 = (p6 &&& (3 : Int32)) from if_neg c]; exact q
set_option maxRecDepth 65536 in
set_option maxHeartbeats 40000000 in
theorem pcB_0 {p : Program} {l : Launch} {e : Env} {s : State} {m : MethodId} {args : Array Value} {below : List Frame} {meth : Method} {c : Code} {T0 : State} {locs : List Loc} {cells slots : Nat} {Z : State} {a0 : Array Value} {h0 : Heap} {n0 : Nat} (p1 : Int32) (p2 : Int32) (p3 : Int32) (p4 : Int32) (p5 : Int32) (p6 : Int32) (la : Int32) (lb : Int32) (c0 : Int32) (c1 : Int32) (c2 : Int32) (d0 : Int32) (d1 : Int32) (d2 : Int32) (sa : Addr) (sc : Addr)
    (X0 : Stand p l e room_1 s m args below meth c T0 locs cells slots) (hx : p.tables.exec = Jvm.exec) (hZ : Z.Warmed39 s.vm) (hw : ∀ d ∈ tables_1, d.before a0 Z = true) (hby : c.code = code) (hml : c.maxLocals = 17) (hown : s.vm.findClass "com/example/webhook_guard/webhookguard/http/HeaderFieldEqualsIgnoringAsciiCasePinLaw" = some m.cls) (e0 : T0.heap = h0) (N0 : Fr n0 locs) (X00 : Old Z n0 h0) (qc : cells ≤ room_1.cells) (qs : slots ≤ room_1.slots) (hc141 : ¬ (la = lb)) :
    ∃ (T' : State) (L' : List Loc), Stand p l e room_1 s m args below meth c T' L' cells slots ∧ Fr n0 L' ∧ T'.heap = h0 ∧ ∀ target, Steps p.tables e below (T'.setTop (mkF m 197 #[vi p1, vi p2, vi p3, vi p4, vi p5, vi p6, vi la, vi lb, vi c0, vi c1, vi c2, vi d0, vi d1, vi d2, vr sa, vr sc, .unset] [wi 0])) target → Steps p.tables e below (T0.setTop (mkF m 137 #[vi p1, vi p2, vi p3, vi p4, vi p5, vi p6, vi la, vi lb, vi c0, vi c1, vi c2, vi d0, vi d1, vi d2, vr sa, vr sc, .unset] [])) target := by
  refine ⟨T0, _, X0, N0, e0, fun target kt => ?_⟩
  show Go p e below T0 (mkF m 137 #[vi p1, vi p2, vi p3, vi p4, vi p5, vi p6, vi la, vi lb, vi c0, vi c1, vi c2, vi d0, vi d1, vi d2, vr sa, vr sc, .unset] []) _
  refine XS.iload X0.here hx rfl (hb hby at_137) rfl ?_
  show Go p e below T0 (mkF m 139 #[vi p1, vi p2, vi p3, vi p4, vi p5, vi p6, vi la, vi lb, vi c0, vi c1, vi c2, vi d0, vi d1, vi d2, vr sa, vr sc, .unset] [wi la]) _
  refine XS.iload X0.here hx rfl (hb hby at_139) rfl ?_
  show Go p e below T0 (mkF m 141 #[vi p1, vi p2, vi p3, vi p4, vi p5, vi p6, vi la, vi lb, vi c0, vi c1, vi c2, vi d0, vi d1, vi d2, vr sa, vr sc, .unset] [wi lb, wi la]) _
  refine XS.icmpYes X0.here hx rfl (pc0 := 141) (pc' := 196) rfl (hb hby at_141) rfl (feq hc141).2 (by decide) (by decide) ?_
  show Go p e below T0 (mkF m 196 #[vi p1, vi p2, vi p3, vi p4, vi p5, vi p6, vi la, vi lb, vi c0, vi c1, vi c2, vi d0, vi d1, vi d2, vr sa, vr sc, .unset] []) _
  refine XS.iconst X0.here hx rfl (hb hby at_196) ?_
  exact kt
set_option maxRecDepth 65536 in
set_option maxHeartbeats 40000000 in
theorem pcB_1 {p : Program} {l : Launch} {e : Env} {s : State} {m : MethodId} {args : Array Value} {below : List Frame} {meth : Method} {c : Code} {T0 : State} {locs : List Loc} {cells slots : Nat} {Z : State} {a0 : Array Value} {h0 : Heap} {n0 : Nat} (p1 : Int32) (p2 : Int32) (p3 : Int32) (p4 : Int32) (p5 : Int32) (p6 : Int32) (la : Int32) (lb : Int32) (c0 : Int32) (c1 : Int32) (c2 : Int32) (d0 : Int32) (d1 : Int32) (d2 : Int32) (sa : Addr) (sc : Addr)
    (X0 : Stand p l e room_1 s m args below meth c T0 locs cells slots) (hx : p.tables.exec = Jvm.exec) (hZ : Z.Warmed39 s.vm) (hw : ∀ d ∈ tables_1, d.before a0 Z = true) (hby : c.code = code) (hml : c.maxLocals = 17) (hown : s.vm.findClass "com/example/webhook_guard/webhookguard/http/HeaderFieldEqualsIgnoringAsciiCasePinLaw" = some m.cls) (e0 : T0.heap = h0) (N0 : Fr n0 locs) (X00 : Old Z n0 h0) (qc : cells ≤ room_1.cells) (qs : slots ≤ room_1.slots) (hc141 : la = lb) (hc147 : la < (1 : Int32)) (hc163 : la < (2 : Int32)) (hc179 : la < (3 : Int32)) :
    ∃ (T' : State) (L' : List Loc), Stand p l e room_1 s m args below meth c T' L' cells slots ∧ Fr n0 L' ∧ T'.heap = h0 ∧ ∀ target, Steps p.tables e below (T'.setTop (mkF m 197 #[vi p1, vi p2, vi p3, vi p4, vi p5, vi p6, vi la, vi lb, vi c0, vi c1, vi c2, vi d0, vi d1, vi d2, vr sa, vr sc, .unset] [wi 1])) target → Steps p.tables e below (T0.setTop (mkF m 137 #[vi p1, vi p2, vi p3, vi p4, vi p5, vi p6, vi la, vi lb, vi c0, vi c1, vi c2, vi d0, vi d1, vi d2, vr sa, vr sc, .unset] [])) target := by
  refine ⟨T0, _, X0, N0, e0, fun target kt => ?_⟩
  show Go p e below T0 (mkF m 137 #[vi p1, vi p2, vi p3, vi p4, vi p5, vi p6, vi la, vi lb, vi c0, vi c1, vi c2, vi d0, vi d1, vi d2, vr sa, vr sc, .unset] []) _
  refine XS.iload X0.here hx rfl (hb hby at_137) rfl ?_
  show Go p e below T0 (mkF m 139 #[vi p1, vi p2, vi p3, vi p4, vi p5, vi p6, vi la, vi lb, vi c0, vi c1, vi c2, vi d0, vi d1, vi d2, vr sa, vr sc, .unset] [wi la]) _
  refine XS.iload X0.here hx rfl (hb hby at_139) rfl ?_
  show Go p e below T0 (mkF m 141 #[vi p1, vi p2, vi p3, vi p4, vi p5, vi p6, vi la, vi lb, vi c0, vi c1, vi c2, vi d0, vi d1, vi d2, vr sa, vr sc, .unset] [wi lb, wi la]) _
  refine XS.icmpNo X0.here hx rfl (hb hby at_141) rfl (teq hc141).2 ?_
  show Go p e below T0 (mkF m 144 #[vi p1, vi p2, vi p3, vi p4, vi p5, vi p6, vi la, vi lb, vi c0, vi c1, vi c2, vi d0, vi d1, vi d2, vr sa, vr sc, .unset] []) _
  refine XS.iload X0.here hx rfl (hb hby at_144) rfl ?_
  show Go p e below T0 (mkF m 146 #[vi p1, vi p2, vi p3, vi p4, vi p5, vi p6, vi la, vi lb, vi c0, vi c1, vi c2, vi d0, vi d1, vi d2, vr sa, vr sc, .unset] [wi la]) _
  refine XS.iconst X0.here hx rfl (hb hby at_146) ?_
  show Go p e below T0 (mkF m 147 #[vi p1, vi p2, vi p3, vi p4, vi p5, vi p6, vi la, vi lb, vi c0, vi c1, vi c2, vi d0, vi d1, vi d2, vr sa, vr sc, .unset] [wi 1, wi la]) _
  refine XS.icmpYes X0.here hx rfl (pc0 := 147) (pc' := 160) rfl (hb hby at_147) rfl (tlt hc147).1 (by decide) (by decide) ?_
  show Go p e below T0 (mkF m 160 #[vi p1, vi p2, vi p3, vi p4, vi p5, vi p6, vi la, vi lb, vi c0, vi c1, vi c2, vi d0, vi d1, vi d2, vr sa, vr sc, .unset] []) _
  refine XS.iload X0.here hx rfl (hb hby at_160) rfl ?_
  show Go p e below T0 (mkF m 162 #[vi p1, vi p2, vi p3, vi p4, vi p5, vi p6, vi la, vi lb, vi c0, vi c1, vi c2, vi d0, vi d1, vi d2, vr sa, vr sc, .unset] [wi la]) _
  refine XS.iconst X0.here hx rfl (hb hby at_162) ?_
  show Go p e below T0 (mkF m 163 #[vi p1, vi p2, vi p3, vi p4, vi p5, vi p6, vi la, vi lb, vi c0, vi c1, vi c2, vi d0, vi d1, vi d2, vr sa, vr sc, .unset] [wi 2, wi la]) _
  refine XS.icmpYes X0.here hx rfl (pc0 := 163) (pc' := 176) rfl (hb hby at_163) rfl (tlt hc163).1 (by decide) (by decide) ?_
  show Go p e below T0 (mkF m 176 #[vi p1, vi p2, vi p3, vi p4, vi p5, vi p6, vi la, vi lb, vi c0, vi c1, vi c2, vi d0, vi d1, vi d2, vr sa, vr sc, .unset] []) _
  refine XS.iload X0.here hx rfl (hb hby at_176) rfl ?_
  show Go p e below T0 (mkF m 178 #[vi p1, vi p2, vi p3, vi p4, vi p5, vi p6, vi la, vi lb, vi c0, vi c1, vi c2, vi d0, vi d1, vi d2, vr sa, vr sc, .unset] [wi la]) _
  refine XS.iconst X0.here hx rfl (hb hby at_178) ?_
  show Go p e below T0 (mkF m 179 #[vi p1, vi p2, vi p3, vi p4, vi p5, vi p6, vi la, vi lb, vi c0, vi c1, vi c2, vi d0, vi d1, vi d2, vr sa, vr sc, .unset] [wi 3, wi la]) _
  refine XS.icmpYes X0.here hx rfl (pc0 := 179) (pc' := 192) rfl (hb hby at_179) rfl (tlt hc179).1 (by decide) (by decide) ?_
  show Go p e below T0 (mkF m 192 #[vi p1, vi p2, vi p3, vi p4, vi p5, vi p6, vi la, vi lb, vi c0, vi c1, vi c2, vi d0, vi d1, vi d2, vr sa, vr sc, .unset] []) _
  refine XS.iconst X0.here hx rfl (hb hby at_192) ?_
  show Go p e below T0 (mkF m 193 #[vi p1, vi p2, vi p3, vi p4, vi p5, vi p6, vi la, vi lb, vi c0, vi c1, vi c2, vi d0, vi d1, vi d2, vr sa, vr sc, .unset] [wi 1]) _
  refine XS.goto X0.here hx rfl (pc0 := 193) (pc' := 197) rfl (hb hby at_193) (by decide) (by decide) ?_
  exact kt
set_option maxRecDepth 65536 in
set_option maxHeartbeats 40000000 in
theorem pcB_2 {p : Program} {l : Launch} {e : Env} {s : State} {m : MethodId} {args : Array Value} {below : List Frame} {meth : Method} {c : Code} {T0 : State} {locs : List Loc} {cells slots : Nat} {Z : State} {a0 : Array Value} {h0 : Heap} {n0 : Nat} (p1 : Int32) (p2 : Int32) (p3 : Int32) (p4 : Int32) (p5 : Int32) (p6 : Int32) (la : Int32) (lb : Int32) (c0 : Int32) (c1 : Int32) (c2 : Int32) (d0 : Int32) (d1 : Int32) (d2 : Int32) (sa : Addr) (sc : Addr)
    (X0 : Stand p l e room_1 s m args below meth c T0 locs cells slots) (hx : p.tables.exec = Jvm.exec) (hZ : Z.Warmed39 s.vm) (hw : ∀ d ∈ tables_1, d.before a0 Z = true) (hby : c.code = code) (hml : c.maxLocals = 17) (hown : s.vm.findClass "com/example/webhook_guard/webhookguard/http/HeaderFieldEqualsIgnoringAsciiCasePinLaw" = some m.cls) (e0 : T0.heap = h0) (N0 : Fr n0 locs) (X00 : Old Z n0 h0) (qc : cells ≤ room_1.cells) (qs : slots ≤ room_1.slots) (hc141 : la = lb) (hc147 : ¬ (la < (1 : Int32))) (hc157 : (own_same c0 d0) = (0 : Int32)) :
    ∃ (T' : State) (L' : List Loc), Stand p l e room_1 s m args below meth c T' L' cells slots ∧ Fr n0 L' ∧ T'.heap = h0 ∧ ∀ target, Steps p.tables e below (T'.setTop (mkF m 197 #[vi p1, vi p2, vi p3, vi p4, vi p5, vi p6, vi la, vi lb, vi c0, vi c1, vi c2, vi d0, vi d1, vi d2, vr sa, vr sc, .unset] [wi 0])) target → Steps p.tables e below (T0.setTop (mkF m 137 #[vi p1, vi p2, vi p3, vi p4, vi p5, vi p6, vi la, vi lb, vi c0, vi c1, vi c2, vi d0, vi d1, vi d2, vr sa, vr sc, .unset] [])) target := by
  obtain ⟨_, _, ⟨T101, L101, k101, n101⟩, -, X101, ⟨Lc101, hQ101, l101, y101, z101⟩, st101⟩ := Jvm.LawKit.callS X0 hx (y := mn_5) hown (mvT hZ (tw hw 58 rfl)) (mvT hZ (tw hw 59 rfl)) (mvT hZ (tw hw 2 rfl)) (mvT hZ (tw hw 60 rfl)) (by decide) (backOf (W := 0) (rmSame l Z a0 hw [] c0 d0 h0 n0 X00 ) hZ (tw hw 60 rfl) (tw hw 2 rfl) (by decide) (by decide)) (g := (mkF m 154 #[vi p1, vi p2, vi p3, vi p4, vi p5, vi p6, vi la, vi lb, vi c0, vi c1, vi c2, vi d0, vi d1, vi d2, vr sa, vr sc, .unset] [wi d0, wi c0])) rfl (by rw [hml]; rfl) (argsL := [wi c0, wi d0]) (rest := []) (lenOf pd_CC_Z rfl) rfl (Nat.le_refl _) (hb hby at_154) (fun _ _ => ⟨rfl, e0, qc, qs⟩)
  dsimp only [Pt.U, Pt.locs, Pt.cells, Pt.slots] at X101 l101 y101 z101 st101 hQ101
  subst l101 y101 z101
  obtain ⟨rfl, N101q, eq101⟩ := hQ101
  have N101 := Fr.app N0 N101q
  refine ⟨T101, _, X101, N101, eq101, fun target kt => ?_⟩
  show Go p e below T0 (mkF m 137 #[vi p1, vi p2, vi p3, vi p4, vi p5, vi p6, vi la, vi lb, vi c0, vi c1, vi c2, vi d0, vi d1, vi d2, vr sa, vr sc, .unset] []) _
  refine XS.iload X0.here hx rfl (hb hby at_137) rfl ?_
  show Go p e below T0 (mkF m 139 #[vi p1, vi p2, vi p3, vi p4, vi p5, vi p6, vi la, vi lb, vi c0, vi c1, vi c2, vi d0, vi d1, vi d2, vr sa, vr sc, .unset] [wi la]) _
  refine XS.iload X0.here hx rfl (hb hby at_139) rfl ?_
  show Go p e below T0 (mkF m 141 #[vi p1, vi p2, vi p3, vi p4, vi p5, vi p6, vi la, vi lb, vi c0, vi c1, vi c2, vi d0, vi d1, vi d2, vr sa, vr sc, .unset] [wi lb, wi la]) _
  refine XS.icmpNo X0.here hx rfl (hb hby at_141) rfl (teq hc141).2 ?_
  show Go p e below T0 (mkF m 144 #[vi p1, vi p2, vi p3, vi p4, vi p5, vi p6, vi la, vi lb, vi c0, vi c1, vi c2, vi d0, vi d1, vi d2, vr sa, vr sc, .unset] []) _
  refine XS.iload X0.here hx rfl (hb hby at_144) rfl ?_
  show Go p e below T0 (mkF m 146 #[vi p1, vi p2, vi p3, vi p4, vi p5, vi p6, vi la, vi lb, vi c0, vi c1, vi c2, vi d0, vi d1, vi d2, vr sa, vr sc, .unset] [wi la]) _
  refine XS.iconst X0.here hx rfl (hb hby at_146) ?_
  show Go p e below T0 (mkF m 147 #[vi p1, vi p2, vi p3, vi p4, vi p5, vi p6, vi la, vi lb, vi c0, vi c1, vi c2, vi d0, vi d1, vi d2, vr sa, vr sc, .unset] [wi 1, wi la]) _
  refine XS.icmpNo X0.here hx rfl (hb hby at_147) rfl (flt hc147).1 ?_
  show Go p e below T0 (mkF m 150 #[vi p1, vi p2, vi p3, vi p4, vi p5, vi p6, vi la, vi lb, vi c0, vi c1, vi c2, vi d0, vi d1, vi d2, vr sa, vr sc, .unset] []) _
  refine XS.iload X0.here hx rfl (hb hby at_150) rfl ?_
  show Go p e below T0 (mkF m 152 #[vi p1, vi p2, vi p3, vi p4, vi p5, vi p6, vi la, vi lb, vi c0, vi c1, vi c2, vi d0, vi d1, vi d2, vr sa, vr sc, .unset] [wi c0]) _
  refine XS.iload X0.here hx rfl (hb hby at_152) rfl ?_
  show Go p e below T0 (mkF m 154 #[vi p1, vi p2, vi p3, vi p4, vi p5, vi p6, vi la, vi lb, vi c0, vi c1, vi c2, vi d0, vi d1, vi d2, vr sa, vr sc, .unset] [wi d0, wi c0]) _
  refine st101 _ ?_
  show Go p e below T101 (mkF m 157 #[vi p1, vi p2, vi p3, vi p4, vi p5, vi p6, vi la, vi lb, vi c0, vi c1, vi c2, vi d0, vi d1, vi d2, vr sa, vr sc, .unset] [wi (own_same c0 d0)]) _
  refine XS.ifYes X101.here hx rfl (pc0 := 157) (pc' := 196) rfl (hb hby at_157) rfl ((if0 _ _).trans (teq hc157).1) (by decide) (by decide) ?_
  show Go p e below T101 (mkF m 196 #[vi p1, vi p2, vi p3, vi p4, vi p5, vi p6, vi la, vi lb, vi c0, vi c1, vi c2, vi d0, vi d1, vi d2, vr sa, vr sc, .unset] []) _
  refine XS.iconst X101.here hx rfl (hb hby at_196) ?_
  exact kt
set_option maxRecDepth 65536 in
set_option maxHeartbeats 40000000 in
theorem pcB_3 {p : Program} {l : Launch} {e : Env} {s : State} {m : MethodId} {args : Array Value} {below : List Frame} {meth : Method} {c : Code} {T0 : State} {locs : List Loc} {cells slots : Nat} {Z : State} {a0 : Array Value} {h0 : Heap} {n0 : Nat} (p1 : Int32) (p2 : Int32) (p3 : Int32) (p4 : Int32) (p5 : Int32) (p6 : Int32) (la : Int32) (lb : Int32) (c0 : Int32) (c1 : Int32) (c2 : Int32) (d0 : Int32) (d1 : Int32) (d2 : Int32) (sa : Addr) (sc : Addr)
    (X0 : Stand p l e room_1 s m args below meth c T0 locs cells slots) (hx : p.tables.exec = Jvm.exec) (hZ : Z.Warmed39 s.vm) (hw : ∀ d ∈ tables_1, d.before a0 Z = true) (hby : c.code = code) (hml : c.maxLocals = 17) (hown : s.vm.findClass "com/example/webhook_guard/webhookguard/http/HeaderFieldEqualsIgnoringAsciiCasePinLaw" = some m.cls) (e0 : T0.heap = h0) (N0 : Fr n0 locs) (X00 : Old Z n0 h0) (qc : cells ≤ room_1.cells) (qs : slots ≤ room_1.slots) (hc141 : la = lb) (hc147 : ¬ (la < (1 : Int32))) (hc157 : ¬ ((own_same c0 d0) = (0 : Int32))) (hc163 : la < (2 : Int32)) (hc179 : la < (3 : Int32)) :
    ∃ (T' : State) (L' : List Loc), Stand p l e room_1 s m args below meth c T' L' cells slots ∧ Fr n0 L' ∧ T'.heap = h0 ∧ ∀ target, Steps p.tables e below (T'.setTop (mkF m 197 #[vi p1, vi p2, vi p3, vi p4, vi p5, vi p6, vi la, vi lb, vi c0, vi c1, vi c2, vi d0, vi d1, vi d2, vr sa, vr sc, .unset] [wi 1])) target → Steps p.tables e below (T0.setTop (mkF m 137 #[vi p1, vi p2, vi p3, vi p4, vi p5, vi p6, vi la, vi lb, vi c0, vi c1, vi c2, vi d0, vi d1, vi d2, vr sa, vr sc, .unset] [])) target := by
  obtain ⟨_, _, ⟨T101, L101, k101, n101⟩, -, X101, ⟨Lc101, hQ101, l101, y101, z101⟩, st101⟩ := Jvm.LawKit.callS X0 hx (y := mn_5) hown (mvT hZ (tw hw 58 rfl)) (mvT hZ (tw hw 59 rfl)) (mvT hZ (tw hw 2 rfl)) (mvT hZ (tw hw 60 rfl)) (by decide) (backOf (W := 0) (rmSame l Z a0 hw [] c0 d0 h0 n0 X00 ) hZ (tw hw 60 rfl) (tw hw 2 rfl) (by decide) (by decide)) (g := (mkF m 154 #[vi p1, vi p2, vi p3, vi p4, vi p5, vi p6, vi la, vi lb, vi c0, vi c1, vi c2, vi d0, vi d1, vi d2, vr sa, vr sc, .unset] [wi d0, wi c0])) rfl (by rw [hml]; rfl) (argsL := [wi c0, wi d0]) (rest := []) (lenOf pd_CC_Z rfl) rfl (Nat.le_refl _) (hb hby at_154) (fun _ _ => ⟨rfl, e0, qc, qs⟩)
  dsimp only [Pt.U, Pt.locs, Pt.cells, Pt.slots] at X101 l101 y101 z101 st101 hQ101
  subst l101 y101 z101
  obtain ⟨rfl, N101q, eq101⟩ := hQ101
  have N101 := Fr.app N0 N101q
  refine ⟨T101, _, X101, N101, eq101, fun target kt => ?_⟩
  show Go p e below T0 (mkF m 137 #[vi p1, vi p2, vi p3, vi p4, vi p5, vi p6, vi la, vi lb, vi c0, vi c1, vi c2, vi d0, vi d1, vi d2, vr sa, vr sc, .unset] []) _
  refine XS.iload X0.here hx rfl (hb hby at_137) rfl ?_
  show Go p e below T0 (mkF m 139 #[vi p1, vi p2, vi p3, vi p4, vi p5, vi p6, vi la, vi lb, vi c0, vi c1, vi c2, vi d0, vi d1, vi d2, vr sa, vr sc, .unset] [wi la]) _
  refine XS.iload X0.here hx rfl (hb hby at_139) rfl ?_
  show Go p e below T0 (mkF m 141 #[vi p1, vi p2, vi p3, vi p4, vi p5, vi p6, vi la, vi lb, vi c0, vi c1, vi c2, vi d0, vi d1, vi d2, vr sa, vr sc, .unset] [wi lb, wi la]) _
  refine XS.icmpNo X0.here hx rfl (hb hby at_141) rfl (teq hc141).2 ?_
  show Go p e below T0 (mkF m 144 #[vi p1, vi p2, vi p3, vi p4, vi p5, vi p6, vi la, vi lb, vi c0, vi c1, vi c2, vi d0, vi d1, vi d2, vr sa, vr sc, .unset] []) _
  refine XS.iload X0.here hx rfl (hb hby at_144) rfl ?_
  show Go p e below T0 (mkF m 146 #[vi p1, vi p2, vi p3, vi p4, vi p5, vi p6, vi la, vi lb, vi c0, vi c1, vi c2, vi d0, vi d1, vi d2, vr sa, vr sc, .unset] [wi la]) _
  refine XS.iconst X0.here hx rfl (hb hby at_146) ?_
  show Go p e below T0 (mkF m 147 #[vi p1, vi p2, vi p3, vi p4, vi p5, vi p6, vi la, vi lb, vi c0, vi c1, vi c2, vi d0, vi d1, vi d2, vr sa, vr sc, .unset] [wi 1, wi la]) _
  refine XS.icmpNo X0.here hx rfl (hb hby at_147) rfl (flt hc147).1 ?_
  show Go p e below T0 (mkF m 150 #[vi p1, vi p2, vi p3, vi p4, vi p5, vi p6, vi la, vi lb, vi c0, vi c1, vi c2, vi d0, vi d1, vi d2, vr sa, vr sc, .unset] []) _
  refine XS.iload X0.here hx rfl (hb hby at_150) rfl ?_
  show Go p e below T0 (mkF m 152 #[vi p1, vi p2, vi p3, vi p4, vi p5, vi p6, vi la, vi lb, vi c0, vi c1, vi c2, vi d0, vi d1, vi d2, vr sa, vr sc, .unset] [wi c0]) _
  refine XS.iload X0.here hx rfl (hb hby at_152) rfl ?_
  show Go p e below T0 (mkF m 154 #[vi p1, vi p2, vi p3, vi p4, vi p5, vi p6, vi la, vi lb, vi c0, vi c1, vi c2, vi d0, vi d1, vi d2, vr sa, vr sc, .unset] [wi d0, wi c0]) _
  refine st101 _ ?_
  show Go p e below T101 (mkF m 157 #[vi p1, vi p2, vi p3, vi p4, vi p5, vi p6, vi la, vi lb, vi c0, vi c1, vi c2, vi d0, vi d1, vi d2, vr sa, vr sc, .unset] [wi (own_same c0 d0)]) _
  refine XS.ifNo X101.here hx rfl (hb hby at_157) rfl ((if0 _ _).trans (feq hc157).1) ?_
  show Go p e below T101 (mkF m 160 #[vi p1, vi p2, vi p3, vi p4, vi p5, vi p6, vi la, vi lb, vi c0, vi c1, vi c2, vi d0, vi d1, vi d2, vr sa, vr sc, .unset] []) _
  refine XS.iload X101.here hx rfl (hb hby at_160) rfl ?_
  show Go p e below T101 (mkF m 162 #[vi p1, vi p2, vi p3, vi p4, vi p5, vi p6, vi la, vi lb, vi c0, vi c1, vi c2, vi d0, vi d1, vi d2, vr sa, vr sc, .unset] [wi la]) _
  refine XS.iconst X101.here hx rfl (hb hby at_162) ?_
  show Go p e below T101 (mkF m 163 #[vi p1, vi p2, vi p3, vi p4, vi p5, vi p6, vi la, vi lb, vi c0, vi c1, vi c2, vi d0, vi d1, vi d2, vr sa, vr sc, .unset] [wi 2, wi la]) _
  refine XS.icmpYes X101.here hx rfl (pc0 := 163) (pc' := 176) rfl (hb hby at_163) rfl (tlt hc163).1 (by decide) (by decide) ?_
  show Go p e below T101 (mkF m 176 #[vi p1, vi p2, vi p3, vi p4, vi p5, vi p6, vi la, vi lb, vi c0, vi c1, vi c2, vi d0, vi d1, vi d2, vr sa, vr sc, .unset] []) _
  refine XS.iload X101.here hx rfl (hb hby at_176) rfl ?_
  show Go p e below T101 (mkF m 178 #[vi p1, vi p2, vi p3, vi p4, vi p5, vi p6, vi la, vi lb, vi c0, vi c1, vi c2, vi d0, vi d1, vi d2, vr sa, vr sc, .unset] [wi la]) _
  refine XS.iconst X101.here hx rfl (hb hby at_178) ?_
  show Go p e below T101 (mkF m 179 #[vi p1, vi p2, vi p3, vi p4, vi p5, vi p6, vi la, vi lb, vi c0, vi c1, vi c2, vi d0, vi d1, vi d2, vr sa, vr sc, .unset] [wi 3, wi la]) _
  refine XS.icmpYes X101.here hx rfl (pc0 := 179) (pc' := 192) rfl (hb hby at_179) rfl (tlt hc179).1 (by decide) (by decide) ?_
  show Go p e below T101 (mkF m 192 #[vi p1, vi p2, vi p3, vi p4, vi p5, vi p6, vi la, vi lb, vi c0, vi c1, vi c2, vi d0, vi d1, vi d2, vr sa, vr sc, .unset] []) _
  refine XS.iconst X101.here hx rfl (hb hby at_192) ?_
  show Go p e below T101 (mkF m 193 #[vi p1, vi p2, vi p3, vi p4, vi p5, vi p6, vi la, vi lb, vi c0, vi c1, vi c2, vi d0, vi d1, vi d2, vr sa, vr sc, .unset] [wi 1]) _
  refine XS.goto X101.here hx rfl (pc0 := 193) (pc' := 197) rfl (hb hby at_193) (by decide) (by decide) ?_
  exact kt
set_option maxRecDepth 65536 in
set_option maxHeartbeats 40000000 in
theorem pcB_4 {p : Program} {l : Launch} {e : Env} {s : State} {m : MethodId} {args : Array Value} {below : List Frame} {meth : Method} {c : Code} {T0 : State} {locs : List Loc} {cells slots : Nat} {Z : State} {a0 : Array Value} {h0 : Heap} {n0 : Nat} (p1 : Int32) (p2 : Int32) (p3 : Int32) (p4 : Int32) (p5 : Int32) (p6 : Int32) (la : Int32) (lb : Int32) (c0 : Int32) (c1 : Int32) (c2 : Int32) (d0 : Int32) (d1 : Int32) (d2 : Int32) (sa : Addr) (sc : Addr)
    (X0 : Stand p l e room_1 s m args below meth c T0 locs cells slots) (hx : p.tables.exec = Jvm.exec) (hZ : Z.Warmed39 s.vm) (hw : ∀ d ∈ tables_1, d.before a0 Z = true) (hby : c.code = code) (hml : c.maxLocals = 17) (hown : s.vm.findClass "com/example/webhook_guard/webhookguard/http/HeaderFieldEqualsIgnoringAsciiCasePinLaw" = some m.cls) (e0 : T0.heap = h0) (N0 : Fr n0 locs) (X00 : Old Z n0 h0) (qc : cells ≤ room_1.cells) (qs : slots ≤ room_1.slots) (hc141 : la = lb) (hc147 : ¬ (la < (1 : Int32))) (hc157 : ¬ ((own_same c0 d0) = (0 : Int32))) (hc163 : ¬ (la < (2 : Int32))) (hc173 : (own_same c1 d1) = (0 : Int32)) :
    ∃ (T' : State) (L' : List Loc), Stand p l e room_1 s m args below meth c T' L' cells slots ∧ Fr n0 L' ∧ T'.heap = h0 ∧ ∀ target, Steps p.tables e below (T'.setTop (mkF m 197 #[vi p1, vi p2, vi p3, vi p4, vi p5, vi p6, vi la, vi lb, vi c0, vi c1, vi c2, vi d0, vi d1, vi d2, vr sa, vr sc, .unset] [wi 0])) target → Steps p.tables e below (T0.setTop (mkF m 137 #[vi p1, vi p2, vi p3, vi p4, vi p5, vi p6, vi la, vi lb, vi c0, vi c1, vi c2, vi d0, vi d1, vi d2, vr sa, vr sc, .unset] [])) target := by
  obtain ⟨_, _, ⟨T101, L101, k101, n101⟩, -, X101, ⟨Lc101, hQ101, l101, y101, z101⟩, st101⟩ := Jvm.LawKit.callS X0 hx (y := mn_5) hown (mvT hZ (tw hw 58 rfl)) (mvT hZ (tw hw 59 rfl)) (mvT hZ (tw hw 2 rfl)) (mvT hZ (tw hw 60 rfl)) (by decide) (backOf (W := 0) (rmSame l Z a0 hw [] c0 d0 h0 n0 X00 ) hZ (tw hw 60 rfl) (tw hw 2 rfl) (by decide) (by decide)) (g := (mkF m 154 #[vi p1, vi p2, vi p3, vi p4, vi p5, vi p6, vi la, vi lb, vi c0, vi c1, vi c2, vi d0, vi d1, vi d2, vr sa, vr sc, .unset] [wi d0, wi c0])) rfl (by rw [hml]; rfl) (argsL := [wi c0, wi d0]) (rest := []) (lenOf pd_CC_Z rfl) rfl (Nat.le_refl _) (hb hby at_154) (fun _ _ => ⟨rfl, e0, qc, qs⟩)
  dsimp only [Pt.U, Pt.locs, Pt.cells, Pt.slots] at X101 l101 y101 z101 st101 hQ101
  subst l101 y101 z101
  obtain ⟨rfl, N101q, eq101⟩ := hQ101
  have N101 := Fr.app N0 N101q
  obtain ⟨_, _, ⟨T102, L102, k102, n102⟩, -, X102, ⟨Lc102, hQ102, l102, y102, z102⟩, st102⟩ := Jvm.LawKit.callS X101 hx (y := mn_5) hown (mvT hZ (tw hw 58 rfl)) (mvT hZ (tw hw 59 rfl)) (mvT hZ (tw hw 2 rfl)) (mvT hZ (tw hw 60 rfl)) (by decide) (backOf (W := 0) (rmSame l Z a0 hw [] c1 d1 h0 n0 X00 ) hZ (tw hw 60 rfl) (tw hw 2 rfl) (by decide) (by decide)) (g := (mkF m 170 #[vi p1, vi p2, vi p3, vi p4, vi p5, vi p6, vi la, vi lb, vi c0, vi c1, vi c2, vi d0, vi d1, vi d2, vr sa, vr sc, .unset] [wi d1, wi c1])) rfl (by rw [hml]; rfl) (argsL := [wi c1, wi d1]) (rest := []) (lenOf pd_CC_Z rfl) rfl (Nat.le_refl _) (hb hby at_170) (fun _ _ => ⟨rfl, eq101, qc, qs⟩)
  dsimp only [Pt.U, Pt.locs, Pt.cells, Pt.slots] at X102 l102 y102 z102 st102 hQ102
  subst l102 y102 z102
  obtain ⟨rfl, N102q, eq102⟩ := hQ102
  have N102 := Fr.app N101 N102q
  refine ⟨T102, _, X102, N102, eq102, fun target kt => ?_⟩
  show Go p e below T0 (mkF m 137 #[vi p1, vi p2, vi p3, vi p4, vi p5, vi p6, vi la, vi lb, vi c0, vi c1, vi c2, vi d0, vi d1, vi d2, vr sa, vr sc, .unset] []) _
  refine XS.iload X0.here hx rfl (hb hby at_137) rfl ?_
  show Go p e below T0 (mkF m 139 #[vi p1, vi p2, vi p3, vi p4, vi p5, vi p6, vi la, vi lb, vi c0, vi c1, vi c2, vi d0, vi d1, vi d2, vr sa, vr sc, .unset] [wi la]) _
  refine XS.iload X0.here hx rfl (hb hby at_139) rfl ?_
  show Go p e below T0 (mkF m 141 #[vi p1, vi p2, vi p3, vi p4, vi p5, vi p6, vi la, vi lb, vi c0, vi c1, vi c2, vi d0, vi d1, vi d2, vr sa, vr sc, .unset] [wi lb, wi la]) _
  refine XS.icmpNo X0.here hx rfl (hb hby at_141) rfl (teq hc141).2 ?_
  show Go p e below T0 (mkF m 144 #[vi p1, vi p2, vi p3, vi p4, vi p5, vi p6, vi la, vi lb, vi c0, vi c1, vi c2, vi d0, vi d1, vi d2, vr sa, vr sc, .unset] []) _
  refine XS.iload X0.here hx rfl (hb hby at_144) rfl ?_
  show Go p e below T0 (mkF m 146 #[vi p1, vi p2, vi p3, vi p4, vi p5, vi p6, vi la, vi lb, vi c0, vi c1, vi c2, vi d0, vi d1, vi d2, vr sa, vr sc, .unset] [wi la]) _
  refine XS.iconst X0.here hx rfl (hb hby at_146) ?_
  show Go p e below T0 (mkF m 147 #[vi p1, vi p2, vi p3, vi p4, vi p5, vi p6, vi la, vi lb, vi c0, vi c1, vi c2, vi d0, vi d1, vi d2, vr sa, vr sc, .unset] [wi 1, wi la]) _
  refine XS.icmpNo X0.here hx rfl (hb hby at_147) rfl (flt hc147).1 ?_
  show Go p e below T0 (mkF m 150 #[vi p1, vi p2, vi p3, vi p4, vi p5, vi p6, vi la, vi lb, vi c0, vi c1, vi c2, vi d0, vi d1, vi d2, vr sa, vr sc, .unset] []) _
  refine XS.iload X0.here hx rfl (hb hby at_150) rfl ?_
  show Go p e below T0 (mkF m 152 #[vi p1, vi p2, vi p3, vi p4, vi p5, vi p6, vi la, vi lb, vi c0, vi c1, vi c2, vi d0, vi d1, vi d2, vr sa, vr sc, .unset] [wi c0]) _
  refine XS.iload X0.here hx rfl (hb hby at_152) rfl ?_
  show Go p e below T0 (mkF m 154 #[vi p1, vi p2, vi p3, vi p4, vi p5, vi p6, vi la, vi lb, vi c0, vi c1, vi c2, vi d0, vi d1, vi d2, vr sa, vr sc, .unset] [wi d0, wi c0]) _
  refine st101 _ ?_
  show Go p e below T101 (mkF m 157 #[vi p1, vi p2, vi p3, vi p4, vi p5, vi p6, vi la, vi lb, vi c0, vi c1, vi c2, vi d0, vi d1, vi d2, vr sa, vr sc, .unset] [wi (own_same c0 d0)]) _
  refine XS.ifNo X101.here hx rfl (hb hby at_157) rfl ((if0 _ _).trans (feq hc157).1) ?_
  show Go p e below T101 (mkF m 160 #[vi p1, vi p2, vi p3, vi p4, vi p5, vi p6, vi la, vi lb, vi c0, vi c1, vi c2, vi d0, vi d1, vi d2, vr sa, vr sc, .unset] []) _
  refine XS.iload X101.here hx rfl (hb hby at_160) rfl ?_
  show Go p e below T101 (mkF m 162 #[vi p1, vi p2, vi p3, vi p4, vi p5, vi p6, vi la, vi lb, vi c0, vi c1, vi c2, vi d0, vi d1, vi d2, vr sa, vr sc, .unset] [wi la]) _
  refine XS.iconst X101.here hx rfl (hb hby at_162) ?_
  show Go p e below T101 (mkF m 163 #[vi p1, vi p2, vi p3, vi p4, vi p5, vi p6, vi la, vi lb, vi c0, vi c1, vi c2, vi d0, vi d1, vi d2, vr sa, vr sc, .unset] [wi 2, wi la]) _
  refine XS.icmpNo X101.here hx rfl (hb hby at_163) rfl (flt hc163).1 ?_
  show Go p e below T101 (mkF m 166 #[vi p1, vi p2, vi p3, vi p4, vi p5, vi p6, vi la, vi lb, vi c0, vi c1, vi c2, vi d0, vi d1, vi d2, vr sa, vr sc, .unset] []) _
  refine XS.iload X101.here hx rfl (hb hby at_166) rfl ?_
  show Go p e below T101 (mkF m 168 #[vi p1, vi p2, vi p3, vi p4, vi p5, vi p6, vi la, vi lb, vi c0, vi c1, vi c2, vi d0, vi d1, vi d2, vr sa, vr sc, .unset] [wi c1]) _
  refine XS.iload X101.here hx rfl (hb hby at_168) rfl ?_
  show Go p e below T101 (mkF m 170 #[vi p1, vi p2, vi p3, vi p4, vi p5, vi p6, vi la, vi lb, vi c0, vi c1, vi c2, vi d0, vi d1, vi d2, vr sa, vr sc, .unset] [wi d1, wi c1]) _
  refine st102 _ ?_
  show Go p e below T102 (mkF m 173 #[vi p1, vi p2, vi p3, vi p4, vi p5, vi p6, vi la, vi lb, vi c0, vi c1, vi c2, vi d0, vi d1, vi d2, vr sa, vr sc, .unset] [wi (own_same c1 d1)]) _
  refine XS.ifYes X102.here hx rfl (pc0 := 173) (pc' := 196) rfl (hb hby at_173) rfl ((if0 _ _).trans (teq hc173).1) (by decide) (by decide) ?_
  show Go p e below T102 (mkF m 196 #[vi p1, vi p2, vi p3, vi p4, vi p5, vi p6, vi la, vi lb, vi c0, vi c1, vi c2, vi d0, vi d1, vi d2, vr sa, vr sc, .unset] []) _
  refine XS.iconst X102.here hx rfl (hb hby at_196) ?_
  exact kt
set_option maxRecDepth 65536 in
set_option maxHeartbeats 40000000 in
theorem pcB_5 {p : Program} {l : Launch} {e : Env} {s : State} {m : MethodId} {args : Array Value} {below : List Frame} {meth : Method} {c : Code} {T0 : State} {locs : List Loc} {cells slots : Nat} {Z : State} {a0 : Array Value} {h0 : Heap} {n0 : Nat} (p1 : Int32) (p2 : Int32) (p3 : Int32) (p4 : Int32) (p5 : Int32) (p6 : Int32) (la : Int32) (lb : Int32) (c0 : Int32) (c1 : Int32) (c2 : Int32) (d0 : Int32) (d1 : Int32) (d2 : Int32) (sa : Addr) (sc : Addr)
    (X0 : Stand p l e room_1 s m args below meth c T0 locs cells slots) (hx : p.tables.exec = Jvm.exec) (hZ : Z.Warmed39 s.vm) (hw : ∀ d ∈ tables_1, d.before a0 Z = true) (hby : c.code = code) (hml : c.maxLocals = 17) (hown : s.vm.findClass "com/example/webhook_guard/webhookguard/http/HeaderFieldEqualsIgnoringAsciiCasePinLaw" = some m.cls) (e0 : T0.heap = h0) (N0 : Fr n0 locs) (X00 : Old Z n0 h0) (qc : cells ≤ room_1.cells) (qs : slots ≤ room_1.slots) (hc141 : la = lb) (hc147 : ¬ (la < (1 : Int32))) (hc157 : ¬ ((own_same c0 d0) = (0 : Int32))) (hc163 : ¬ (la < (2 : Int32))) (hc173 : ¬ ((own_same c1 d1) = (0 : Int32))) (hc179 : la < (3 : Int32)) :
    ∃ (T' : State) (L' : List Loc), Stand p l e room_1 s m args below meth c T' L' cells slots ∧ Fr n0 L' ∧ T'.heap = h0 ∧ ∀ target, Steps p.tables e below (T'.setTop (mkF m 197 #[vi p1, vi p2, vi p3, vi p4, vi p5, vi p6, vi la, vi lb, vi c0, vi c1, vi c2, vi d0, vi d1, vi d2, vr sa, vr sc, .unset] [wi 1])) target → Steps p.tables e below (T0.setTop (mkF m 137 #[vi p1, vi p2, vi p3, vi p4, vi p5, vi p6, vi la, vi lb, vi c0, vi c1, vi c2, vi d0, vi d1, vi d2, vr sa, vr sc, .unset] [])) target := by
  obtain ⟨_, _, ⟨T101, L101, k101, n101⟩, -, X101, ⟨Lc101, hQ101, l101, y101, z101⟩, st101⟩ := Jvm.LawKit.callS X0 hx (y := mn_5) hown (mvT hZ (tw hw 58 rfl)) (mvT hZ (tw hw 59 rfl)) (mvT hZ (tw hw 2 rfl)) (mvT hZ (tw hw 60 rfl)) (by decide) (backOf (W := 0) (rmSame l Z a0 hw [] c0 d0 h0 n0 X00 ) hZ (tw hw 60 rfl) (tw hw 2 rfl) (by decide) (by decide)) (g := (mkF m 154 #[vi p1, vi p2, vi p3, vi p4, vi p5, vi p6, vi la, vi lb, vi c0, vi c1, vi c2, vi d0, vi d1, vi d2, vr sa, vr sc, .unset] [wi d0, wi c0])) rfl (by rw [hml]; rfl) (argsL := [wi c0, wi d0]) (rest := []) (lenOf pd_CC_Z rfl) rfl (Nat.le_refl _) (hb hby at_154) (fun _ _ => ⟨rfl, e0, qc, qs⟩)
  dsimp only [Pt.U, Pt.locs, Pt.cells, Pt.slots] at X101 l101 y101 z101 st101 hQ101
  subst l101 y101 z101
  obtain ⟨rfl, N101q, eq101⟩ := hQ101
  have N101 := Fr.app N0 N101q
  obtain ⟨_, _, ⟨T102, L102, k102, n102⟩, -, X102, ⟨Lc102, hQ102, l102, y102, z102⟩, st102⟩ := Jvm.LawKit.callS X101 hx (y := mn_5) hown (mvT hZ (tw hw 58 rfl)) (mvT hZ (tw hw 59 rfl)) (mvT hZ (tw hw 2 rfl)) (mvT hZ (tw hw 60 rfl)) (by decide) (backOf (W := 0) (rmSame l Z a0 hw [] c1 d1 h0 n0 X00 ) hZ (tw hw 60 rfl) (tw hw 2 rfl) (by decide) (by decide)) (g := (mkF m 170 #[vi p1, vi p2, vi p3, vi p4, vi p5, vi p6, vi la, vi lb, vi c0, vi c1, vi c2, vi d0, vi d1, vi d2, vr sa, vr sc, .unset] [wi d1, wi c1])) rfl (by rw [hml]; rfl) (argsL := [wi c1, wi d1]) (rest := []) (lenOf pd_CC_Z rfl) rfl (Nat.le_refl _) (hb hby at_170) (fun _ _ => ⟨rfl, eq101, qc, qs⟩)
  dsimp only [Pt.U, Pt.locs, Pt.cells, Pt.slots] at X102 l102 y102 z102 st102 hQ102
  subst l102 y102 z102
  obtain ⟨rfl, N102q, eq102⟩ := hQ102
  have N102 := Fr.app N101 N102q
  refine ⟨T102, _, X102, N102, eq102, fun target kt => ?_⟩
  show Go p e below T0 (mkF m 137 #[vi p1, vi p2, vi p3, vi p4, vi p5, vi p6, vi la, vi lb, vi c0, vi c1, vi c2, vi d0, vi d1, vi d2, vr sa, vr sc, .unset] []) _
  refine XS.iload X0.here hx rfl (hb hby at_137) rfl ?_
  show Go p e below T0 (mkF m 139 #[vi p1, vi p2, vi p3, vi p4, vi p5, vi p6, vi la, vi lb, vi c0, vi c1, vi c2, vi d0, vi d1, vi d2, vr sa, vr sc, .unset] [wi la]) _
  refine XS.iload X0.here hx rfl (hb hby at_139) rfl ?_
  show Go p e below T0 (mkF m 141 #[vi p1, vi p2, vi p3, vi p4, vi p5, vi p6, vi la, vi lb, vi c0, vi c1, vi c2, vi d0, vi d1, vi d2, vr sa, vr sc, .unset] [wi lb, wi la]) _
  refine XS.icmpNo X0.here hx rfl (hb hby at_141) rfl (teq hc141).2 ?_
  show Go p e below T0 (mkF m 144 #[vi p1, vi p2, vi p3, vi p4, vi p5, vi p6, vi la, vi lb, vi c0, vi c1, vi c2, vi d0, vi d1, vi d2, vr sa, vr sc, .unset] []) _
  refine XS.iload X0.here hx rfl (hb hby at_144) rfl ?_
  show Go p e below T0 (mkF m 146 #[vi p1, vi p2, vi p3, vi p4, vi p5, vi p6, vi la, vi lb, vi c0, vi c1, vi c2, vi d0, vi d1, vi d2, vr sa, vr sc, .unset] [wi la]) _
  refine XS.iconst X0.here hx rfl (hb hby at_146) ?_
  show Go p e below T0 (mkF m 147 #[vi p1, vi p2, vi p3, vi p4, vi p5, vi p6, vi la, vi lb, vi c0, vi c1, vi c2, vi d0, vi d1, vi d2, vr sa, vr sc, .unset] [wi 1, wi la]) _
  refine XS.icmpNo X0.here hx rfl (hb hby at_147) rfl (flt hc147).1 ?_
  show Go p e below T0 (mkF m 150 #[vi p1, vi p2, vi p3, vi p4, vi p5, vi p6, vi la, vi lb, vi c0, vi c1, vi c2, vi d0, vi d1, vi d2, vr sa, vr sc, .unset] []) _
  refine XS.iload X0.here hx rfl (hb hby at_150) rfl ?_
  show Go p e below T0 (mkF m 152 #[vi p1, vi p2, vi p3, vi p4, vi p5, vi p6, vi la, vi lb, vi c0, vi c1, vi c2, vi d0, vi d1, vi d2, vr sa, vr sc, .unset] [wi c0]) _
  refine XS.iload X0.here hx rfl (hb hby at_152) rfl ?_
  show Go p e below T0 (mkF m 154 #[vi p1, vi p2, vi p3, vi p4, vi p5, vi p6, vi la, vi lb, vi c0, vi c1, vi c2, vi d0, vi d1, vi d2, vr sa, vr sc, .unset] [wi d0, wi c0]) _
  refine st101 _ ?_
  show Go p e below T101 (mkF m 157 #[vi p1, vi p2, vi p3, vi p4, vi p5, vi p6, vi la, vi lb, vi c0, vi c1, vi c2, vi d0, vi d1, vi d2, vr sa, vr sc, .unset] [wi (own_same c0 d0)]) _
  refine XS.ifNo X101.here hx rfl (hb hby at_157) rfl ((if0 _ _).trans (feq hc157).1) ?_
  show Go p e below T101 (mkF m 160 #[vi p1, vi p2, vi p3, vi p4, vi p5, vi p6, vi la, vi lb, vi c0, vi c1, vi c2, vi d0, vi d1, vi d2, vr sa, vr sc, .unset] []) _
  refine XS.iload X101.here hx rfl (hb hby at_160) rfl ?_
  show Go p e below T101 (mkF m 162 #[vi p1, vi p2, vi p3, vi p4, vi p5, vi p6, vi la, vi lb, vi c0, vi c1, vi c2, vi d0, vi d1, vi d2, vr sa, vr sc, .unset] [wi la]) _
  refine XS.iconst X101.here hx rfl (hb hby at_162) ?_
  show Go p e below T101 (mkF m 163 #[vi p1, vi p2, vi p3, vi p4, vi p5, vi p6, vi la, vi lb, vi c0, vi c1, vi c2, vi d0, vi d1, vi d2, vr sa, vr sc, .unset] [wi 2, wi la]) _
  refine XS.icmpNo X101.here hx rfl (hb hby at_163) rfl (flt hc163).1 ?_
  show Go p e below T101 (mkF m 166 #[vi p1, vi p2, vi p3, vi p4, vi p5, vi p6, vi la, vi lb, vi c0, vi c1, vi c2, vi d0, vi d1, vi d2, vr sa, vr sc, .unset] []) _
  refine XS.iload X101.here hx rfl (hb hby at_166) rfl ?_
  show Go p e below T101 (mkF m 168 #[vi p1, vi p2, vi p3, vi p4, vi p5, vi p6, vi la, vi lb, vi c0, vi c1, vi c2, vi d0, vi d1, vi d2, vr sa, vr sc, .unset] [wi c1]) _
  refine XS.iload X101.here hx rfl (hb hby at_168) rfl ?_
  show Go p e below T101 (mkF m 170 #[vi p1, vi p2, vi p3, vi p4, vi p5, vi p6, vi la, vi lb, vi c0, vi c1, vi c2, vi d0, vi d1, vi d2, vr sa, vr sc, .unset] [wi d1, wi c1]) _
  refine st102 _ ?_
  show Go p e below T102 (mkF m 173 #[vi p1, vi p2, vi p3, vi p4, vi p5, vi p6, vi la, vi lb, vi c0, vi c1, vi c2, vi d0, vi d1, vi d2, vr sa, vr sc, .unset] [wi (own_same c1 d1)]) _
  refine XS.ifNo X102.here hx rfl (hb hby at_173) rfl ((if0 _ _).trans (feq hc173).1) ?_
  show Go p e below T102 (mkF m 176 #[vi p1, vi p2, vi p3, vi p4, vi p5, vi p6, vi la, vi lb, vi c0, vi c1, vi c2, vi d0, vi d1, vi d2, vr sa, vr sc, .unset] []) _
  refine XS.iload X102.here hx rfl (hb hby at_176) rfl ?_
  show Go p e below T102 (mkF m 178 #[vi p1, vi p2, vi p3, vi p4, vi p5, vi p6, vi la, vi lb, vi c0, vi c1, vi c2, vi d0, vi d1, vi d2, vr sa, vr sc, .unset] [wi la]) _
  refine XS.iconst X102.here hx rfl (hb hby at_178) ?_
  show Go p e below T102 (mkF m 179 #[vi p1, vi p2, vi p3, vi p4, vi p5, vi p6, vi la, vi lb, vi c0, vi c1, vi c2, vi d0, vi d1, vi d2, vr sa, vr sc, .unset] [wi 3, wi la]) _
  refine XS.icmpYes X102.here hx rfl (pc0 := 179) (pc' := 192) rfl (hb hby at_179) rfl (tlt hc179).1 (by decide) (by decide) ?_
  show Go p e below T102 (mkF m 192 #[vi p1, vi p2, vi p3, vi p4, vi p5, vi p6, vi la, vi lb, vi c0, vi c1, vi c2, vi d0, vi d1, vi d2, vr sa, vr sc, .unset] []) _
  refine XS.iconst X102.here hx rfl (hb hby at_192) ?_
  show Go p e below T102 (mkF m 193 #[vi p1, vi p2, vi p3, vi p4, vi p5, vi p6, vi la, vi lb, vi c0, vi c1, vi c2, vi d0, vi d1, vi d2, vr sa, vr sc, .unset] [wi 1]) _
  refine XS.goto X102.here hx rfl (pc0 := 193) (pc' := 197) rfl (hb hby at_193) (by decide) (by decide) ?_
  exact kt
set_option maxRecDepth 65536 in
set_option maxHeartbeats 40000000 in
theorem pcB_6 {p : Program} {l : Launch} {e : Env} {s : State} {m : MethodId} {args : Array Value} {below : List Frame} {meth : Method} {c : Code} {T0 : State} {locs : List Loc} {cells slots : Nat} {Z : State} {a0 : Array Value} {h0 : Heap} {n0 : Nat} (p1 : Int32) (p2 : Int32) (p3 : Int32) (p4 : Int32) (p5 : Int32) (p6 : Int32) (la : Int32) (lb : Int32) (c0 : Int32) (c1 : Int32) (c2 : Int32) (d0 : Int32) (d1 : Int32) (d2 : Int32) (sa : Addr) (sc : Addr)
    (X0 : Stand p l e room_1 s m args below meth c T0 locs cells slots) (hx : p.tables.exec = Jvm.exec) (hZ : Z.Warmed39 s.vm) (hw : ∀ d ∈ tables_1, d.before a0 Z = true) (hby : c.code = code) (hml : c.maxLocals = 17) (hown : s.vm.findClass "com/example/webhook_guard/webhookguard/http/HeaderFieldEqualsIgnoringAsciiCasePinLaw" = some m.cls) (e0 : T0.heap = h0) (N0 : Fr n0 locs) (X00 : Old Z n0 h0) (qc : cells ≤ room_1.cells) (qs : slots ≤ room_1.slots) (hc141 : la = lb) (hc147 : ¬ (la < (1 : Int32))) (hc157 : ¬ ((own_same c0 d0) = (0 : Int32))) (hc163 : ¬ (la < (2 : Int32))) (hc173 : ¬ ((own_same c1 d1) = (0 : Int32))) (hc179 : ¬ (la < (3 : Int32))) (hc189 : (own_same c2 d2) = (0 : Int32)) :
    ∃ (T' : State) (L' : List Loc), Stand p l e room_1 s m args below meth c T' L' cells slots ∧ Fr n0 L' ∧ T'.heap = h0 ∧ ∀ target, Steps p.tables e below (T'.setTop (mkF m 197 #[vi p1, vi p2, vi p3, vi p4, vi p5, vi p6, vi la, vi lb, vi c0, vi c1, vi c2, vi d0, vi d1, vi d2, vr sa, vr sc, .unset] [wi 0])) target → Steps p.tables e below (T0.setTop (mkF m 137 #[vi p1, vi p2, vi p3, vi p4, vi p5, vi p6, vi la, vi lb, vi c0, vi c1, vi c2, vi d0, vi d1, vi d2, vr sa, vr sc, .unset] [])) target := by
  obtain ⟨_, _, ⟨T101, L101, k101, n101⟩, -, X101, ⟨Lc101, hQ101, l101, y101, z101⟩, st101⟩ := Jvm.LawKit.callS X0 hx (y := mn_5) hown (mvT hZ (tw hw 58 rfl)) (mvT hZ (tw hw 59 rfl)) (mvT hZ (tw hw 2 rfl)) (mvT hZ (tw hw 60 rfl)) (by decide) (backOf (W := 0) (rmSame l Z a0 hw [] c0 d0 h0 n0 X00 ) hZ (tw hw 60 rfl) (tw hw 2 rfl) (by decide) (by decide)) (g := (mkF m 154 #[vi p1, vi p2, vi p3, vi p4, vi p5, vi p6, vi la, vi lb, vi c0, vi c1, vi c2, vi d0, vi d1, vi d2, vr sa, vr sc, .unset] [wi d0, wi c0])) rfl (by rw [hml]; rfl) (argsL := [wi c0, wi d0]) (rest := []) (lenOf pd_CC_Z rfl) rfl (Nat.le_refl _) (hb hby at_154) (fun _ _ => ⟨rfl, e0, qc, qs⟩)
  dsimp only [Pt.U, Pt.locs, Pt.cells, Pt.slots] at X101 l101 y101 z101 st101 hQ101
  subst l101 y101 z101
  obtain ⟨rfl, N101q, eq101⟩ := hQ101
  have N101 := Fr.app N0 N101q
  obtain ⟨_, _, ⟨T102, L102, k102, n102⟩, -, X102, ⟨Lc102, hQ102, l102, y102, z102⟩, st102⟩ := Jvm.LawKit.callS X101 hx (y := mn_5) hown (mvT hZ (tw hw 58 rfl)) (mvT hZ (tw hw 59 rfl)) (mvT hZ (tw hw 2 rfl)) (mvT hZ (tw hw 60 rfl)) (by decide) (backOf (W := 0) (rmSame l Z a0 hw [] c1 d1 h0 n0 X00 ) hZ (tw hw 60 rfl) (tw hw 2 rfl) (by decide) (by decide)) (g := (mkF m 170 #[vi p1, vi p2, vi p3, vi p4, vi p5, vi p6, vi la, vi lb, vi c0, vi c1, vi c2, vi d0, vi d1, vi d2, vr sa, vr sc, .unset] [wi d1, wi c1])) rfl (by rw [hml]; rfl) (argsL := [wi c1, wi d1]) (rest := []) (lenOf pd_CC_Z rfl) rfl (Nat.le_refl _) (hb hby at_170) (fun _ _ => ⟨rfl, eq101, qc, qs⟩)
  dsimp only [Pt.U, Pt.locs, Pt.cells, Pt.slots] at X102 l102 y102 z102 st102 hQ102
  subst l102 y102 z102
  obtain ⟨rfl, N102q, eq102⟩ := hQ102
  have N102 := Fr.app N101 N102q
  obtain ⟨_, _, ⟨T103, L103, k103, n103⟩, -, X103, ⟨Lc103, hQ103, l103, y103, z103⟩, st103⟩ := Jvm.LawKit.callS X102 hx (y := mn_5) hown (mvT hZ (tw hw 58 rfl)) (mvT hZ (tw hw 59 rfl)) (mvT hZ (tw hw 2 rfl)) (mvT hZ (tw hw 60 rfl)) (by decide) (backOf (W := 0) (rmSame l Z a0 hw [] c2 d2 h0 n0 X00 ) hZ (tw hw 60 rfl) (tw hw 2 rfl) (by decide) (by decide)) (g := (mkF m 186 #[vi p1, vi p2, vi p3, vi p4, vi p5, vi p6, vi la, vi lb, vi c0, vi c1, vi c2, vi d0, vi d1, vi d2, vr sa, vr sc, .unset] [wi d2, wi c2])) rfl (by rw [hml]; rfl) (argsL := [wi c2, wi d2]) (rest := []) (lenOf pd_CC_Z rfl) rfl (Nat.le_refl _) (hb hby at_186) (fun _ _ => ⟨rfl, eq102, qc, qs⟩)
  dsimp only [Pt.U, Pt.locs, Pt.cells, Pt.slots] at X103 l103 y103 z103 st103 hQ103
  subst l103 y103 z103
  obtain ⟨rfl, N103q, eq103⟩ := hQ103
  have N103 := Fr.app N102 N103q
  refine ⟨T103, _, X103, N103, eq103, fun target kt => ?_⟩
  show Go p e below T0 (mkF m 137 #[vi p1, vi p2, vi p3, vi p4, vi p5, vi p6, vi la, vi lb, vi c0, vi c1, vi c2, vi d0, vi d1, vi d2, vr sa, vr sc, .unset] []) _
  refine XS.iload X0.here hx rfl (hb hby at_137) rfl ?_
  show Go p e below T0 (mkF m 139 #[vi p1, vi p2, vi p3, vi p4, vi p5, vi p6, vi la, vi lb, vi c0, vi c1, vi c2, vi d0, vi d1, vi d2, vr sa, vr sc, .unset] [wi la]) _
  refine XS.iload X0.here hx rfl (hb hby at_139) rfl ?_
  show Go p e below T0 (mkF m 141 #[vi p1, vi p2, vi p3, vi p4, vi p5, vi p6, vi la, vi lb, vi c0, vi c1, vi c2, vi d0, vi d1, vi d2, vr sa, vr sc, .unset] [wi lb, wi la]) _
  refine XS.icmpNo X0.here hx rfl (hb hby at_141) rfl (teq hc141).2 ?_
  show Go p e below T0 (mkF m 144 #[vi p1, vi p2, vi p3, vi p4, vi p5, vi p6, vi la, vi lb, vi c0, vi c1, vi c2, vi d0, vi d1, vi d2, vr sa, vr sc, .unset] []) _
  refine XS.iload X0.here hx rfl (hb hby at_144) rfl ?_
  show Go p e below T0 (mkF m 146 #[vi p1, vi p2, vi p3, vi p4, vi p5, vi p6, vi la, vi lb, vi c0, vi c1, vi c2, vi d0, vi d1, vi d2, vr sa, vr sc, .unset] [wi la]) _
  refine XS.iconst X0.here hx rfl (hb hby at_146) ?_
  show Go p e below T0 (mkF m 147 #[vi p1, vi p2, vi p3, vi p4, vi p5, vi p6, vi la, vi lb, vi c0, vi c1, vi c2, vi d0, vi d1, vi d2, vr sa, vr sc, .unset] [wi 1, wi la]) _
  refine XS.icmpNo X0.here hx rfl (hb hby at_147) rfl (flt hc147).1 ?_
  show Go p e below T0 (mkF m 150 #[vi p1, vi p2, vi p3, vi p4, vi p5, vi p6, vi la, vi lb, vi c0, vi c1, vi c2, vi d0, vi d1, vi d2, vr sa, vr sc, .unset] []) _
  refine XS.iload X0.here hx rfl (hb hby at_150) rfl ?_
  show Go p e below T0 (mkF m 152 #[vi p1, vi p2, vi p3, vi p4, vi p5, vi p6, vi la, vi lb, vi c0, vi c1, vi c2, vi d0, vi d1, vi d2, vr sa, vr sc, .unset] [wi c0]) _
  refine XS.iload X0.here hx rfl (hb hby at_152) rfl ?_
  show Go p e below T0 (mkF m 154 #[vi p1, vi p2, vi p3, vi p4, vi p5, vi p6, vi la, vi lb, vi c0, vi c1, vi c2, vi d0, vi d1, vi d2, vr sa, vr sc, .unset] [wi d0, wi c0]) _
  refine st101 _ ?_
  show Go p e below T101 (mkF m 157 #[vi p1, vi p2, vi p3, vi p4, vi p5, vi p6, vi la, vi lb, vi c0, vi c1, vi c2, vi d0, vi d1, vi d2, vr sa, vr sc, .unset] [wi (own_same c0 d0)]) _
  refine XS.ifNo X101.here hx rfl (hb hby at_157) rfl ((if0 _ _).trans (feq hc157).1) ?_
  show Go p e below T101 (mkF m 160 #[vi p1, vi p2, vi p3, vi p4, vi p5, vi p6, vi la, vi lb, vi c0, vi c1, vi c2, vi d0, vi d1, vi d2, vr sa, vr sc, .unset] []) _
  refine XS.iload X101.here hx rfl (hb hby at_160) rfl ?_
  show Go p e below T101 (mkF m 162 #[vi p1, vi p2, vi p3, vi p4, vi p5, vi p6, vi la, vi lb, vi c0, vi c1, vi c2, vi d0, vi d1, vi d2, vr sa, vr sc, .unset] [wi la]) _
  refine XS.iconst X101.here hx rfl (hb hby at_162) ?_
  show Go p e below T101 (mkF m 163 #[vi p1, vi p2, vi p3, vi p4, vi p5, vi p6, vi la, vi lb, vi c0, vi c1, vi c2, vi d0, vi d1, vi d2, vr sa, vr sc, .unset] [wi 2, wi la]) _
  refine XS.icmpNo X101.here hx rfl (hb hby at_163) rfl (flt hc163).1 ?_
  show Go p e below T101 (mkF m 166 #[vi p1, vi p2, vi p3, vi p4, vi p5, vi p6, vi la, vi lb, vi c0, vi c1, vi c2, vi d0, vi d1, vi d2, vr sa, vr sc, .unset] []) _
  refine XS.iload X101.here hx rfl (hb hby at_166) rfl ?_
  show Go p e below T101 (mkF m 168 #[vi p1, vi p2, vi p3, vi p4, vi p5, vi p6, vi la, vi lb, vi c0, vi c1, vi c2, vi d0, vi d1, vi d2, vr sa, vr sc, .unset] [wi c1]) _
  refine XS.iload X101.here hx rfl (hb hby at_168) rfl ?_
  show Go p e below T101 (mkF m 170 #[vi p1, vi p2, vi p3, vi p4, vi p5, vi p6, vi la, vi lb, vi c0, vi c1, vi c2, vi d0, vi d1, vi d2, vr sa, vr sc, .unset] [wi d1, wi c1]) _
  refine st102 _ ?_
  show Go p e below T102 (mkF m 173 #[vi p1, vi p2, vi p3, vi p4, vi p5, vi p6, vi la, vi lb, vi c0, vi c1, vi c2, vi d0, vi d1, vi d2, vr sa, vr sc, .unset] [wi (own_same c1 d1)]) _
  refine XS.ifNo X102.here hx rfl (hb hby at_173) rfl ((if0 _ _).trans (feq hc173).1) ?_
  show Go p e below T102 (mkF m 176 #[vi p1, vi p2, vi p3, vi p4, vi p5, vi p6, vi la, vi lb, vi c0, vi c1, vi c2, vi d0, vi d1, vi d2, vr sa, vr sc, .unset] []) _
  refine XS.iload X102.here hx rfl (hb hby at_176) rfl ?_
  show Go p e below T102 (mkF m 178 #[vi p1, vi p2, vi p3, vi p4, vi p5, vi p6, vi la, vi lb, vi c0, vi c1, vi c2, vi d0, vi d1, vi d2, vr sa, vr sc, .unset] [wi la]) _
  refine XS.iconst X102.here hx rfl (hb hby at_178) ?_
  show Go p e below T102 (mkF m 179 #[vi p1, vi p2, vi p3, vi p4, vi p5, vi p6, vi la, vi lb, vi c0, vi c1, vi c2, vi d0, vi d1, vi d2, vr sa, vr sc, .unset] [wi 3, wi la]) _
  refine XS.icmpNo X102.here hx rfl (hb hby at_179) rfl (flt hc179).1 ?_
  show Go p e below T102 (mkF m 182 #[vi p1, vi p2, vi p3, vi p4, vi p5, vi p6, vi la, vi lb, vi c0, vi c1, vi c2, vi d0, vi d1, vi d2, vr sa, vr sc, .unset] []) _
  refine XS.iload X102.here hx rfl (hb hby at_182) rfl ?_
  show Go p e below T102 (mkF m 184 #[vi p1, vi p2, vi p3, vi p4, vi p5, vi p6, vi la, vi lb, vi c0, vi c1, vi c2, vi d0, vi d1, vi d2, vr sa, vr sc, .unset] [wi c2]) _
  refine XS.iload X102.here hx rfl (hb hby at_184) rfl ?_
  show Go p e below T102 (mkF m 186 #[vi p1, vi p2, vi p3, vi p4, vi p5, vi p6, vi la, vi lb, vi c0, vi c1, vi c2, vi d0, vi d1, vi d2, vr sa, vr sc, .unset] [wi d2, wi c2]) _
  refine st103 _ ?_
  show Go p e below T103 (mkF m 189 #[vi p1, vi p2, vi p3, vi p4, vi p5, vi p6, vi la, vi lb, vi c0, vi c1, vi c2, vi d0, vi d1, vi d2, vr sa, vr sc, .unset] [wi (own_same c2 d2)]) _
  refine XS.ifYes X103.here hx rfl (pc0 := 189) (pc' := 196) rfl (hb hby at_189) rfl ((if0 _ _).trans (teq hc189).1) (by decide) (by decide) ?_
  show Go p e below T103 (mkF m 196 #[vi p1, vi p2, vi p3, vi p4, vi p5, vi p6, vi la, vi lb, vi c0, vi c1, vi c2, vi d0, vi d1, vi d2, vr sa, vr sc, .unset] []) _
  refine XS.iconst X103.here hx rfl (hb hby at_196) ?_
  exact kt
set_option maxRecDepth 65536 in
set_option maxHeartbeats 40000000 in
theorem pcB_7 {p : Program} {l : Launch} {e : Env} {s : State} {m : MethodId} {args : Array Value} {below : List Frame} {meth : Method} {c : Code} {T0 : State} {locs : List Loc} {cells slots : Nat} {Z : State} {a0 : Array Value} {h0 : Heap} {n0 : Nat} (p1 : Int32) (p2 : Int32) (p3 : Int32) (p4 : Int32) (p5 : Int32) (p6 : Int32) (la : Int32) (lb : Int32) (c0 : Int32) (c1 : Int32) (c2 : Int32) (d0 : Int32) (d1 : Int32) (d2 : Int32) (sa : Addr) (sc : Addr)
    (X0 : Stand p l e room_1 s m args below meth c T0 locs cells slots) (hx : p.tables.exec = Jvm.exec) (hZ : Z.Warmed39 s.vm) (hw : ∀ d ∈ tables_1, d.before a0 Z = true) (hby : c.code = code) (hml : c.maxLocals = 17) (hown : s.vm.findClass "com/example/webhook_guard/webhookguard/http/HeaderFieldEqualsIgnoringAsciiCasePinLaw" = some m.cls) (e0 : T0.heap = h0) (N0 : Fr n0 locs) (X00 : Old Z n0 h0) (qc : cells ≤ room_1.cells) (qs : slots ≤ room_1.slots) (hc141 : la = lb) (hc147 : ¬ (la < (1 : Int32))) (hc157 : ¬ ((own_same c0 d0) = (0 : Int32))) (hc163 : ¬ (la < (2 : Int32))) (hc173 : ¬ ((own_same c1 d1) = (0 : Int32))) (hc179 : ¬ (la < (3 : Int32))) (hc189 : ¬ ((own_same c2 d2) = (0 : Int32))) :
    ∃ (T' : State) (L' : List Loc), Stand p l e room_1 s m args below meth c T' L' cells slots ∧ Fr n0 L' ∧ T'.heap = h0 ∧ ∀ target, Steps p.tables e below (T'.setTop (mkF m 197 #[vi p1, vi p2, vi p3, vi p4, vi p5, vi p6, vi la, vi lb, vi c0, vi c1, vi c2, vi d0, vi d1, vi d2, vr sa, vr sc, .unset] [wi 1])) target → Steps p.tables e below (T0.setTop (mkF m 137 #[vi p1, vi p2, vi p3, vi p4, vi p5, vi p6, vi la, vi lb, vi c0, vi c1, vi c2, vi d0, vi d1, vi d2, vr sa, vr sc, .unset] [])) target := by
  obtain ⟨_, _, ⟨T101, L101, k101, n101⟩, -, X101, ⟨Lc101, hQ101, l101, y101, z101⟩, st101⟩ := Jvm.LawKit.callS X0 hx (y := mn_5) hown (mvT hZ (tw hw 58 rfl)) (mvT hZ (tw hw 59 rfl)) (mvT hZ (tw hw 2 rfl)) (mvT hZ (tw hw 60 rfl)) (by decide) (backOf (W := 0) (rmSame l Z a0 hw [] c0 d0 h0 n0 X00 ) hZ (tw hw 60 rfl) (tw hw 2 rfl) (by decide) (by decide)) (g := (mkF m 154 #[vi p1, vi p2, vi p3, vi p4, vi p5, vi p6, vi la, vi lb, vi c0, vi c1, vi c2, vi d0, vi d1, vi d2, vr sa, vr sc, .unset] [wi d0, wi c0])) rfl (by rw [hml]; rfl) (argsL := [wi c0, wi d0]) (rest := []) (lenOf pd_CC_Z rfl) rfl (Nat.le_refl _) (hb hby at_154) (fun _ _ => ⟨rfl, e0, qc, qs⟩)
  dsimp only [Pt.U, Pt.locs, Pt.cells, Pt.slots] at X101 l101 y101 z101 st101 hQ101
  subst l101 y101 z101
  obtain ⟨rfl, N101q, eq101⟩ := hQ101
  have N101 := Fr.app N0 N101q
  obtain ⟨_, _, ⟨T102, L102, k102, n102⟩, -, X102, ⟨Lc102, hQ102, l102, y102, z102⟩, st102⟩ := Jvm.LawKit.callS X101 hx (y := mn_5) hown (mvT hZ (tw hw 58 rfl)) (mvT hZ (tw hw 59 rfl)) (mvT hZ (tw hw 2 rfl)) (mvT hZ (tw hw 60 rfl)) (by decide) (backOf (W := 0) (rmSame l Z a0 hw [] c1 d1 h0 n0 X00 ) hZ (tw hw 60 rfl) (tw hw 2 rfl) (by decide) (by decide)) (g := (mkF m 170 #[vi p1, vi p2, vi p3, vi p4, vi p5, vi p6, vi la, vi lb, vi c0, vi c1, vi c2, vi d0, vi d1, vi d2, vr sa, vr sc, .unset] [wi d1, wi c1])) rfl (by rw [hml]; rfl) (argsL := [wi c1, wi d1]) (rest := []) (lenOf pd_CC_Z rfl) rfl (Nat.le_refl _) (hb hby at_170) (fun _ _ => ⟨rfl, eq101, qc, qs⟩)
  dsimp only [Pt.U, Pt.locs, Pt.cells, Pt.slots] at X102 l102 y102 z102 st102 hQ102
  subst l102 y102 z102
  obtain ⟨rfl, N102q, eq102⟩ := hQ102
  have N102 := Fr.app N101 N102q
  obtain ⟨_, _, ⟨T103, L103, k103, n103⟩, -, X103, ⟨Lc103, hQ103, l103, y103, z103⟩, st103⟩ := Jvm.LawKit.callS X102 hx (y := mn_5) hown (mvT hZ (tw hw 58 rfl)) (mvT hZ (tw hw 59 rfl)) (mvT hZ (tw hw 2 rfl)) (mvT hZ (tw hw 60 rfl)) (by decide) (backOf (W := 0) (rmSame l Z a0 hw [] c2 d2 h0 n0 X00 ) hZ (tw hw 60 rfl) (tw hw 2 rfl) (by decide) (by decide)) (g := (mkF m 186 #[vi p1, vi p2, vi p3, vi p4, vi p5, vi p6, vi la, vi lb, vi c0, vi c1, vi c2, vi d0, vi d1, vi d2, vr sa, vr sc, .unset] [wi d2, wi c2])) rfl (by rw [hml]; rfl) (argsL := [wi c2, wi d2]) (rest := []) (lenOf pd_CC_Z rfl) rfl (Nat.le_refl _) (hb hby at_186) (fun _ _ => ⟨rfl, eq102, qc, qs⟩)
  dsimp only [Pt.U, Pt.locs, Pt.cells, Pt.slots] at X103 l103 y103 z103 st103 hQ103
  subst l103 y103 z103
  obtain ⟨rfl, N103q, eq103⟩ := hQ103
  have N103 := Fr.app N102 N103q
  refine ⟨T103, _, X103, N103, eq103, fun target kt => ?_⟩
  show Go p e below T0 (mkF m 137 #[vi p1, vi p2, vi p3, vi p4, vi p5, vi p6, vi la, vi lb, vi c0, vi c1, vi c2, vi d0, vi d1, vi d2, vr sa, vr sc, .unset] []) _
  refine XS.iload X0.here hx rfl (hb hby at_137) rfl ?_
  show Go p e below T0 (mkF m 139 #[vi p1, vi p2, vi p3, vi p4, vi p5, vi p6, vi la, vi lb, vi c0, vi c1, vi c2, vi d0, vi d1, vi d2, vr sa, vr sc, .unset] [wi la]) _
  refine XS.iload X0.here hx rfl (hb hby at_139) rfl ?_
  show Go p e below T0 (mkF m 141 #[vi p1, vi p2, vi p3, vi p4, vi p5, vi p6, vi la, vi lb, vi c0, vi c1, vi c2, vi d0, vi d1, vi d2, vr sa, vr sc, .unset] [wi lb, wi la]) _
  refine XS.icmpNo X0.here hx rfl (hb hby at_141) rfl (teq hc141).2 ?_
  show Go p e below T0 (mkF m 144 #[vi p1, vi p2, vi p3, vi p4, vi p5, vi p6, vi la, vi lb, vi c0, vi c1, vi c2, vi d0, vi d1, vi d2, vr sa, vr sc, .unset] []) _
  refine XS.iload X0.here hx rfl (hb hby at_144) rfl ?_
  show Go p e below T0 (mkF m 146 #[vi p1, vi p2, vi p3, vi p4, vi p5, vi p6, vi la, vi lb, vi c0, vi c1, vi c2, vi d0, vi d1, vi d2, vr sa, vr sc, .unset] [wi la]) _
  refine XS.iconst X0.here hx rfl (hb hby at_146) ?_
  show Go p e below T0 (mkF m 147 #[vi p1, vi p2, vi p3, vi p4, vi p5, vi p6, vi la, vi lb, vi c0, vi c1, vi c2, vi d0, vi d1, vi d2, vr sa, vr sc, .unset] [wi 1, wi la]) _
  refine XS.icmpNo X0.here hx rfl (hb hby at_147) rfl (flt hc147).1 ?_
  show Go p e below T0 (mkF m 150 #[vi p1, vi p2, vi p3, vi p4, vi p5, vi p6, vi la, vi lb, vi c0, vi c1, vi c2, vi d0, vi d1, vi d2, vr sa, vr sc, .unset] []) _
  refine XS.iload X0.here hx rfl (hb hby at_150) rfl ?_
  show Go p e below T0 (mkF m 152 #[vi p1, vi p2, vi p3, vi p4, vi p5, vi p6, vi la, vi lb, vi c0, vi c1, vi c2, vi d0, vi d1, vi d2, vr sa, vr sc, .unset] [wi c0]) _
  refine XS.iload X0.here hx rfl (hb hby at_152) rfl ?_
  show Go p e below T0 (mkF m 154 #[vi p1, vi p2, vi p3, vi p4, vi p5, vi p6, vi la, vi lb, vi c0, vi c1, vi c2, vi d0, vi d1, vi d2, vr sa, vr sc, .unset] [wi d0, wi c0]) _
  refine st101 _ ?_
  show Go p e below T101 (mkF m 157 #[vi p1, vi p2, vi p3, vi p4, vi p5, vi p6, vi la, vi lb, vi c0, vi c1, vi c2, vi d0, vi d1, vi d2, vr sa, vr sc, .unset] [wi (own_same c0 d0)]) _
  refine XS.ifNo X101.here hx rfl (hb hby at_157) rfl ((if0 _ _).trans (feq hc157).1) ?_
  show Go p e below T101 (mkF m 160 #[vi p1, vi p2, vi p3, vi p4, vi p5, vi p6, vi la, vi lb, vi c0, vi c1, vi c2, vi d0, vi d1, vi d2, vr sa, vr sc, .unset] []) _
  refine XS.iload X101.here hx rfl (hb hby at_160) rfl ?_
  show Go p e below T101 (mkF m 162 #[vi p1, vi p2, vi p3, vi p4, vi p5, vi p6, vi la, vi lb, vi c0, vi c1, vi c2, vi d0, vi d1, vi d2, vr sa, vr sc, .unset] [wi la]) _
  refine XS.iconst X101.here hx rfl (hb hby at_162) ?_
  show Go p e below T101 (mkF m 163 #[vi p1, vi p2, vi p3, vi p4, vi p5, vi p6, vi la, vi lb, vi c0, vi c1, vi c2, vi d0, vi d1, vi d2, vr sa, vr sc, .unset] [wi 2, wi la]) _
  refine XS.icmpNo X101.here hx rfl (hb hby at_163) rfl (flt hc163).1 ?_
  show Go p e below T101 (mkF m 166 #[vi p1, vi p2, vi p3, vi p4, vi p5, vi p6, vi la, vi lb, vi c0, vi c1, vi c2, vi d0, vi d1, vi d2, vr sa, vr sc, .unset] []) _
  refine XS.iload X101.here hx rfl (hb hby at_166) rfl ?_
  show Go p e below T101 (mkF m 168 #[vi p1, vi p2, vi p3, vi p4, vi p5, vi p6, vi la, vi lb, vi c0, vi c1, vi c2, vi d0, vi d1, vi d2, vr sa, vr sc, .unset] [wi c1]) _
  refine XS.iload X101.here hx rfl (hb hby at_168) rfl ?_
  show Go p e below T101 (mkF m 170 #[vi p1, vi p2, vi p3, vi p4, vi p5, vi p6, vi la, vi lb, vi c0, vi c1, vi c2, vi d0, vi d1, vi d2, vr sa, vr sc, .unset] [wi d1, wi c1]) _
  refine st102 _ ?_
  show Go p e below T102 (mkF m 173 #[vi p1, vi p2, vi p3, vi p4, vi p5, vi p6, vi la, vi lb, vi c0, vi c1, vi c2, vi d0, vi d1, vi d2, vr sa, vr sc, .unset] [wi (own_same c1 d1)]) _
  refine XS.ifNo X102.here hx rfl (hb hby at_173) rfl ((if0 _ _).trans (feq hc173).1) ?_
  show Go p e below T102 (mkF m 176 #[vi p1, vi p2, vi p3, vi p4, vi p5, vi p6, vi la, vi lb, vi c0, vi c1, vi c2, vi d0, vi d1, vi d2, vr sa, vr sc, .unset] []) _
  refine XS.iload X102.here hx rfl (hb hby at_176) rfl ?_
  show Go p e below T102 (mkF m 178 #[vi p1, vi p2, vi p3, vi p4, vi p5, vi p6, vi la, vi lb, vi c0, vi c1, vi c2, vi d0, vi d1, vi d2, vr sa, vr sc, .unset] [wi la]) _
  refine XS.iconst X102.here hx rfl (hb hby at_178) ?_
  show Go p e below T102 (mkF m 179 #[vi p1, vi p2, vi p3, vi p4, vi p5, vi p6, vi la, vi lb, vi c0, vi c1, vi c2, vi d0, vi d1, vi d2, vr sa, vr sc, .unset] [wi 3, wi la]) _
  refine XS.icmpNo X102.here hx rfl (hb hby at_179) rfl (flt hc179).1 ?_
  show Go p e below T102 (mkF m 182 #[vi p1, vi p2, vi p3, vi p4, vi p5, vi p6, vi la, vi lb, vi c0, vi c1, vi c2, vi d0, vi d1, vi d2, vr sa, vr sc, .unset] []) _
  refine XS.iload X102.here hx rfl (hb hby at_182) rfl ?_
  show Go p e below T102 (mkF m 184 #[vi p1, vi p2, vi p3, vi p4, vi p5, vi p6, vi la, vi lb, vi c0, vi c1, vi c2, vi d0, vi d1, vi d2, vr sa, vr sc, .unset] [wi c2]) _
  refine XS.iload X102.here hx rfl (hb hby at_184) rfl ?_
  show Go p e below T102 (mkF m 186 #[vi p1, vi p2, vi p3, vi p4, vi p5, vi p6, vi la, vi lb, vi c0, vi c1, vi c2, vi d0, vi d1, vi d2, vr sa, vr sc, .unset] [wi d2, wi c2]) _
  refine st103 _ ?_
  show Go p e below T103 (mkF m 189 #[vi p1, vi p2, vi p3, vi p4, vi p5, vi p6, vi la, vi lb, vi c0, vi c1, vi c2, vi d0, vi d1, vi d2, vr sa, vr sc, .unset] [wi (own_same c2 d2)]) _
  refine XS.ifNo X103.here hx rfl (hb hby at_189) rfl ((if0 _ _).trans (feq hc189).1) ?_
  show Go p e below T103 (mkF m 192 #[vi p1, vi p2, vi p3, vi p4, vi p5, vi p6, vi la, vi lb, vi c0, vi c1, vi c2, vi d0, vi d1, vi d2, vr sa, vr sc, .unset] []) _
  refine XS.iconst X103.here hx rfl (hb hby at_192) ?_
  show Go p e below T103 (mkF m 193 #[vi p1, vi p2, vi p3, vi p4, vi p5, vi p6, vi la, vi lb, vi c0, vi c1, vi c2, vi d0, vi d1, vi d2, vr sa, vr sc, .unset] [wi 1]) _
  refine XS.goto X103.here hx rfl (pc0 := 193) (pc' := 197) rfl (hb hby at_193) (by decide) (by decide) ?_
  exact kt
theorem pcB {p : Program} {l : Launch} {e : Env} {s : State} {m : MethodId} {args : Array Value} {below : List Frame} {meth : Method} {c : Code} {T0 : State} {locs : List Loc} {cells slots : Nat} {Z : State} {a0 : Array Value} {h0 : Heap} {n0 : Nat} (p1 : Int32) (p2 : Int32) (p3 : Int32) (p4 : Int32) (p5 : Int32) (p6 : Int32) (la : Int32) (lb : Int32) (c0 : Int32) (c1 : Int32) (c2 : Int32) (d0 : Int32) (d1 : Int32) (d2 : Int32) (sa : Addr) (sc : Addr)
    (X0 : Stand p l e room_1 s m args below meth c T0 locs cells slots) (hx : p.tables.exec = Jvm.exec) (hZ : Z.Warmed39 s.vm) (hw : ∀ d ∈ tables_1, d.before a0 Z = true) (hby : c.code = code) (hml : c.maxLocals = 17) (hown : s.vm.findClass "com/example/webhook_guard/webhookguard/http/HeaderFieldEqualsIgnoringAsciiCasePinLaw" = some m.cls) (e0 : T0.heap = h0) (N0 : Fr n0 locs) (X00 : Old Z n0 h0) (qc : cells ≤ room_1.cells) (qs : slots ≤ room_1.slots) :
    ∃ (T' : State) (L' : List Loc), Stand p l e room_1 s m args below meth c T' L' cells slots ∧ Fr n0 L' ∧ T'.heap = h0 ∧ ∀ target, Steps p.tables e below (T'.setTop (mkF m 197 #[vi p1, vi p2, vi p3, vi p4, vi p5, vi p6, vi la, vi lb, vi c0, vi c1, vi c2, vi d0, vi d1, vi d2, vr sa, vr sc, .unset] [wi (own_exp la lb (own_same c0 d0) (own_same c1 d1) (own_same c2 d2))])) target → Steps p.tables e below (T0.setTop (mkF m 137 #[vi p1, vi p2, vi p3, vi p4, vi p5, vi p6, vi la, vi lb, vi c0, vi c1, vi c2, vi d0, vi d1, vi d2, vr sa, vr sc, .unset] [])) target := by
  by_cases g0 : la = lb
  case neg =>
    have q := pcB_0 p1 p2 p3 p4 p5 p6 la lb c0 c1 c2 d0 d1 d2 sa sc X0 hx hZ hw hby hml hown e0 N0 X00 qc qs g0; rw [show (own_exp la lb (own_same c0 d0) (own_same c1 d1) (own_same c2 d2)) = 0 from by unfold own_exp; rw [if_pos g0]]; exact q
  by_cases g1 : la < (1 : Int32)
  · have q := pcB_1 p1 p2 p3 p4 p5 p6 la lb c0 c1 c2 d0 d1 d2 sa sc X0 hx hZ hw hby hml hown e0 N0 X00 qc qs g0 g1 (Int32.lt_trans g1 (by decide)) (Int32.lt_trans g1 (by decide)); rw [show (own_exp la lb (own_same c0 d0) (own_same c1 d1) (own_same c2 d2)) = 1 from by unfold own_exp; rw [if_neg (not_not_intro g0), if_pos g1]]; exact q
  by_cases g2 : (own_same c0 d0) = (0 : Int32)
  · have q := pcB_2 p1 p2 p3 p4 p5 p6 la lb c0 c1 c2 d0 d1 d2 sa sc X0 hx hZ hw hby hml hown e0 N0 X00 qc qs g0 g1 g2; rw [show (own_exp la lb (own_same c0 d0) (own_same c1 d1) (own_same c2 d2)) = 0 from by unfold own_exp; rw [if_neg (not_not_intro g0), if_neg g1, if_pos g2]]; exact q
  by_cases g3 : la < (2 : Int32)
  · have q := pcB_3 p1 p2 p3 p4 p5 p6 la lb c0 c1 c2 d0 d1 d2 sa sc X0 hx hZ hw hby hml hown e0 N0 X00 qc qs g0 g1 g2 g3 (Int32.lt_trans g3 (by decide)); rw [show (own_exp la lb (own_same c0 d0) (own_same c1 d1) (own_same c2 d2)) = 1 from by unfold own_exp; rw [if_neg (not_not_intro g0), if_neg g1, if_neg g2, if_pos g3]]; exact q
  by_cases g4 : (own_same c1 d1) = (0 : Int32)
  · have q := pcB_4 p1 p2 p3 p4 p5 p6 la lb c0 c1 c2 d0 d1 d2 sa sc X0 hx hZ hw hby hml hown e0 N0 X00 qc qs g0 g1 g2 g3 g4; rw [show (own_exp la lb (own_same c0 d0) (own_same c1 d1) (own_same c2 d2)) = 0 from by unfold own_exp; rw [if_neg (not_not_intro g0), if_neg g1, if_neg g2, if_neg g3, if_pos g4]]; exact q
  by_cases g5 : la < (3 : Int32)
  · have q := pcB_5 p1 p2 p3 p4 p5 p6 la lb c0 c1 c2 d0 d1 d2 sa sc X0 hx hZ hw hby hml hown e0 N0 X00 qc qs g0 g1 g2 g3 g4 g5; rw [show (own_exp la lb (own_same c0 d0) (own_same c1 d1) (own_same c2 d2)) = 1 from by unfold own_exp; rw [if_neg (not_not_intro g0), if_neg g1, if_neg g2, if_neg g3, if_neg g4, if_pos g5]]; exact q
  by_cases g6 : (own_same c2 d2) = (0 : Int32)
  · have q := pcB_6 p1 p2 p3 p4 p5 p6 la lb c0 c1 c2 d0 d1 d2 sa sc X0 hx hZ hw hby hml hown e0 N0 X00 qc qs g0 g1 g2 g3 g4 g5 g6; rw [show (own_exp la lb (own_same c0 d0) (own_same c1 d1) (own_same c2 d2)) = 0 from by unfold own_exp; rw [if_neg (not_not_intro g0), if_neg g1, if_neg g2, if_neg g3, if_neg g4, if_neg g5, if_pos g6]]; exact q
  have q := pcB_7 p1 p2 p3 p4 p5 p6 la lb c0 c1 c2 d0 d1 d2 sa sc X0 hx hZ hw hby hml hown e0 N0 X00 qc qs g0 g1 g2 g3 g4 g5 g6; rw [show (own_exp la lb (own_same c0 d0) (own_same c1 d1) (own_same c2 d2)) = 1 from by unfold own_exp; rw [if_neg (not_not_intro g0), if_neg g1, if_neg g2, if_neg g3, if_neg g4, if_neg g5, if_neg g6]]; exact q
set_option maxRecDepth 65536 in
set_option maxHeartbeats 40000000 in
theorem rm0 (l : Launch) (Z : State) (a0 : Array Value) (hw : ∀ d ∈ tables_1, d.before a0 Z = true) (ws : List Jvm.Cond) (p1 : Int32) (p2 : Int32) (p3 : Int32) (p4 : Int32) (p5 : Int32) (p6 : Int32) (G1 : Int32) (fm : Value) (h0 : Heap) (n0 : Nat) (X00 : Old Z n0 h0) (O2 : pO2 Z G1) (P5 : ¬ (G1 = (0 : Int32))) (SA : pSA Z) (SH : pSH Z) (SL : pSL Z) (FM : pFM Z fm) (rf : fm.isRef = true) :
    MetFree l x (head1 (Jvm.Cond.code x code maxLocals ret :: ws) room_1) (fun a U => a = #[(.int p1), (.int p2), (.int p3), (.int p4), (.int p5), (.int p6)] ∧ Z.Warmed39 U.vm ∧ U.heap = h0 ∧ CHv Z consts_1 U.vm h0) (fun _ _ _ _ _ => True) (fun _ U o U' => ∃ rv rL, o = .returned rv ∧ Q0 h0 n0 rv U'.heap rL ∧ ReturnedEndW U o U' rL room_1.cells room_1.slots) := by
  refine MetFree.of_bodySF (plainFor_of_name pn_0) hisR ?_
  intro p e s m args below meth c s₁ Bd hml0 hP hK
  obtain ⟨rfl, hZ, hh, hCH⟩ := hP
  have hx := Bd.exec
  have hby := Bd.bytes
  have hml : c.maxLocals = 17 := hml0
  have hown : s.vm.findClass "com/example/webhook_guard/webhookguard/http/HeaderFieldEqualsIgnoringAsciiCasePinLaw" = some m.cls := findClass_of_methodNamed Bd.named
  have hnm := (name_of_methodNamed Bd.named Bd.method).1
  have X0 : Stand p l e room_1 (s.setVm s.vm) m #[(.int p1), (.int p2), (.int p3), (.int p4), (.int p5), (.int p6)] below meth c s₁ [] 0 0 := Stand.of_body Bd
  have e0 : s₁.heap = h0 := by rw [← hh, Bd.state]; rfl
  have N0 := Fr.nil n0
  have hS0 : s.Since s.vm s.heap.size := own_since s
  have hk0 : s.heap.size ≤ h0.size := by rw [hh]; exact Nat.le_refl _
  have hstr := own_str hw
  have hEL := own_EL hw
  have pre0 : ∀ t, Steps p.tables e below (s₁.setTop (mkF m 0 #[.val (.int p1), .val (.int p2), .val (.int p3), .val (.int p4), .val (.int p5), .val (.int p6), .unset, .unset, .unset, .unset, .unset, .unset, .unset, .unset, .unset, .unset, .unset] [])) t → Steps p.tables e below (s₁.setTop (entryFrame m #[(.int p1), (.int p2), (.int p3), (.int p4), (.int p5), (.int p6)] maxLocals)) t := fun t k => castTop (ef_0 m p1 p2 p3 p4 p5 p6) k
  obtain ⟨la, hla⟩ : ∃ c : Int32, c = (p6 &&& (3 : Int32)) := ⟨_, rfl⟩
  obtain ⟨lb, hlb⟩ : ∃ c : Int32, c = own_lb p6 := ⟨_, rfl⟩
  have f_a : la = 0 ∨ la = 1 ∨ la = 2 ∨ la = 3 := by rw [hla]; exact own_and3 p6
  have f_b : lb = 0 ∨ lb = 1 ∨ lb = 2 ∨ lb = 3 := by rw [hlb]; exact own_lb4 p6
  obtain ⟨T101, L101, X101, N101, e101, st101⟩ := pcA p1 p2 p3 p4 p5 p6 X0 hx hZ hw hby hml hown e0 N0 X00 (by decide) (by decide)
  obtain ⟨_, _, ⟨T102, L102, k102, n102⟩, -, X102, ⟨Lc102, hQ102, l102, y102, z102⟩, st102⟩ := Jvm.LawKit.callS X101 hx (y := mn_3) hown (mvT hZ (tw hw 0 rfl)) (mvT hZ (tw hw 1 rfl)) (mvT hZ (tw hw 2 rfl)) (mvT hZ (tw hw 3 rfl)) (by decide) (backOf (W := 0) (rmDraw l Z a0 hw [] p1 p5 h0 n0 X00 ) hZ (tw hw 3 rfl) (tw hw 2 rfl) (by decide) (by decide)) (g := (mkF m 31 #[vi p1, vi p2, vi p3, vi p4, vi p5, vi p6, vi la, vi lb, .unset, .unset, .unset, .unset, .unset, .unset, .unset, .unset, .unset] [wi p5, wi p1])) rfl (by rw [hml]; rfl) (argsL := [wi p1, wi p5]) (rest := []) (lenOf pd_II_C rfl) rfl (Nat.le_refl _) (hb hby at_31) (fun _ _ => ⟨rfl, e101, (by decide : 0 + 0 ≤ _), (by decide : 0 + 0 ≤ _)⟩)
  dsimp only [Pt.U, Pt.locs, Pt.cells, Pt.slots] at X102 l102 y102 z102 st102 hQ102
  subst l102 y102 z102
  obtain ⟨rfl, N102q, eq102⟩ := hQ102
  have N102 := Fr.app N101 N102q
  obtain ⟨c0, hc0⟩ : ∃ c : Int32, c = (own_draw p1 p5) := ⟨_, rfl⟩
  have hb_c0 : ChB c0 := by rw [hc0]; exact (own_drawB _ _)
  obtain ⟨_, _, ⟨T103, L103, k103, n103⟩, -, X103, ⟨Lc103, hQ103, l103, y103, z103⟩, st103⟩ := Jvm.LawKit.callS X102 hx (y := mn_3) hown (mvT hZ (tw hw 0 rfl)) (mvT hZ (tw hw 1 rfl)) (mvT hZ (tw hw 2 rfl)) (mvT hZ (tw hw 3 rfl)) (by decide) (backOf (W := 0) (rmDraw l Z a0 hw [] ((p1.toUInt32 >>> ((16 : Int32) &&& 31).toUInt32).toInt32) ((p5.toUInt32 >>> ((2 : Int32) &&& 31).toUInt32).toInt32) h0 n0 X00 ) hZ (tw hw 3 rfl) (tw hw 2 rfl) (by decide) (by decide)) (g := (mkF m 44 #[vi p1, vi p2, vi p3, vi p4, vi p5, vi p6, vi la, vi lb, vi c0, .unset, .unset, .unset, .unset, .unset, .unset, .unset, .unset] [wi ((p5.toUInt32 >>> ((2 : Int32) &&& 31).toUInt32).toInt32), wi ((p1.toUInt32 >>> ((16 : Int32) &&& 31).toUInt32).toInt32)])) rfl (by rw [hml]; rfl) (argsL := [wi ((p1.toUInt32 >>> ((16 : Int32) &&& 31).toUInt32).toInt32), wi ((p5.toUInt32 >>> ((2 : Int32) &&& 31).toUInt32).toInt32)]) (rest := []) (lenOf pd_II_C rfl) rfl (Nat.le_refl _) (hb hby at_44) (fun _ _ => ⟨rfl, eq102, (by decide : 0 + 0 ≤ _), (by decide : 0 + 0 ≤ _)⟩)
  dsimp only [Pt.U, Pt.locs, Pt.cells, Pt.slots] at X103 l103 y103 z103 st103 hQ103
  subst l103 y103 z103
  obtain ⟨rfl, N103q, eq103⟩ := hQ103
  have N103 := Fr.app N102 N103q
  obtain ⟨c1, hc1⟩ : ∃ c : Int32, c = (own_draw ((p1.toUInt32 >>> ((16 : Int32) &&& 31).toUInt32).toInt32) ((p5.toUInt32 >>> ((2 : Int32) &&& 31).toUInt32).toInt32)) := ⟨_, rfl⟩
  have hb_c1 : ChB c1 := by rw [hc1]; exact (own_drawB _ _)
  obtain ⟨_, _, ⟨T104, L104, k104, n104⟩, -, X104, ⟨Lc104, hQ104, l104, y104, z104⟩, st104⟩ := Jvm.LawKit.callS X103 hx (y := mn_3) hown (mvT hZ (tw hw 0 rfl)) (mvT hZ (tw hw 1 rfl)) (mvT hZ (tw hw 2 rfl)) (mvT hZ (tw hw 3 rfl)) (by decide) (backOf (W := 0) (rmDraw l Z a0 hw [] p2 ((p5.toUInt32 >>> ((4 : Int32) &&& 31).toUInt32).toInt32) h0 n0 X00 ) hZ (tw hw 3 rfl) (tw hw 2 rfl) (by decide) (by decide)) (g := (mkF m 54 #[vi p1, vi p2, vi p3, vi p4, vi p5, vi p6, vi la, vi lb, vi c0, vi c1, .unset, .unset, .unset, .unset, .unset, .unset, .unset] [wi ((p5.toUInt32 >>> ((4 : Int32) &&& 31).toUInt32).toInt32), wi p2])) rfl (by rw [hml]; rfl) (argsL := [wi p2, wi ((p5.toUInt32 >>> ((4 : Int32) &&& 31).toUInt32).toInt32)]) (rest := []) (lenOf pd_II_C rfl) rfl (Nat.le_refl _) (hb hby at_54) (fun _ _ => ⟨rfl, eq103, (by decide : 0 + 0 ≤ _), (by decide : 0 + 0 ≤ _)⟩)
  dsimp only [Pt.U, Pt.locs, Pt.cells, Pt.slots] at X104 l104 y104 z104 st104 hQ104
  subst l104 y104 z104
  obtain ⟨rfl, N104q, eq104⟩ := hQ104
  have N104 := Fr.app N103 N104q
  obtain ⟨c2, hc2⟩ : ∃ c : Int32, c = (own_draw p2 ((p5.toUInt32 >>> ((4 : Int32) &&& 31).toUInt32).toInt32)) := ⟨_, rfl⟩
  have hb_c2 : ChB c2 := by rw [hc2]; exact (own_drawB _ _)
  obtain ⟨_, _, ⟨T105, L105, k105, n105⟩, -, X105, ⟨Lc105, hQ105, l105, y105, z105⟩, st105⟩ := Jvm.LawKit.callS X104 hx (y := mn_2) hown (mvT hZ (tw hw 4 rfl)) (mvT hZ (tw hw 5 rfl)) (mvT hZ (tw hw 2 rfl)) (mvT hZ (tw hw 6 rfl)) (by decide) (backOf (W := 0) (rmDer l Z a0 hw [] c0 p3 ((p5.toUInt32 >>> ((6 : Int32) &&& 31).toUInt32).toInt32) p4 h0 n0 X00 ) hZ (tw hw 6 rfl) (tw hw 2 rfl) (by decide) (by decide)) (g := (mkF m 68 #[vi p1, vi p2, vi p3, vi p4, vi p5, vi p6, vi la, vi lb, vi c0, vi c1, vi c2, .unset, .unset, .unset, .unset, .unset, .unset] [wi p4, wi ((p5.toUInt32 >>> ((6 : Int32) &&& 31).toUInt32).toInt32), wi p3, wi c0])) rfl (by rw [hml]; rfl) (argsL := [wi c0, wi p3, wi ((p5.toUInt32 >>> ((6 : Int32) &&& 31).toUInt32).toInt32), wi p4]) (rest := []) (lenOf pd_CIII_C rfl) rfl (Nat.le_refl _) (hb hby at_68) (fun _ _ => ⟨rfl, eq104, (by decide : 0 + 0 ≤ _), (by decide : 0 + 0 ≤ _)⟩)
  dsimp only [Pt.U, Pt.locs, Pt.cells, Pt.slots] at X105 l105 y105 z105 st105 hQ105
  subst l105 y105 z105
  obtain ⟨rfl, N105q, eq105⟩ := hQ105
  have N105 := Fr.app N104 N105q
  obtain ⟨d0, hd0⟩ : ∃ c : Int32, c = (own_derive c0 p3 ((p5.toUInt32 >>> ((6 : Int32) &&& 31).toUInt32).toInt32) p4) := ⟨_, rfl⟩
  have hb_d0 : ChB d0 := by rw [hd0]; exact (own_deriveB _ _ _ _)
  obtain ⟨_, _, ⟨T106, L106, k106, n106⟩, -, X106, ⟨Lc106, hQ106, l106, y106, z106⟩, st106⟩ := Jvm.LawKit.callS X105 hx (y := mn_2) hown (mvT hZ (tw hw 4 rfl)) (mvT hZ (tw hw 5 rfl)) (mvT hZ (tw hw 2 rfl)) (mvT hZ (tw hw 6 rfl)) (by decide) (backOf (W := 0) (rmDer l Z a0 hw [] c1 ((p3.toUInt32 >>> ((16 : Int32) &&& 31).toUInt32).toInt32) ((p5.toUInt32 >>> ((8 : Int32) &&& 31).toUInt32).toInt32) ((p4.toUInt32 >>> ((2 : Int32) &&& 31).toUInt32).toInt32) h0 n0 X00 ) hZ (tw hw 6 rfl) (tw hw 2 rfl) (by decide) (by decide)) (g := (mkF m 87 #[vi p1, vi p2, vi p3, vi p4, vi p5, vi p6, vi la, vi lb, vi c0, vi c1, vi c2, vi d0, .unset, .unset, .unset, .unset, .unset] [wi ((p4.toUInt32 >>> ((2 : Int32) &&& 31).toUInt32).toInt32), wi ((p5.toUInt32 >>> ((8 : Int32) &&& 31).toUInt32).toInt32), wi ((p3.toUInt32 >>> ((16 : Int32) &&& 31).toUInt32).toInt32), wi c1])) rfl (by rw [hml]; rfl) (argsL := [wi c1, wi ((p3.toUInt32 >>> ((16 : Int32) &&& 31).toUInt32).toInt32), wi ((p5.toUInt32 >>> ((8 : Int32) &&& 31).toUInt32).toInt32), wi ((p4.toUInt32 >>> ((2 : Int32) &&& 31).toUInt32).toInt32)]) (rest := []) (lenOf pd_CIII_C rfl) rfl (Nat.le_refl _) (hb hby at_87) (fun _ _ => ⟨rfl, eq105, (by decide : 0 + 0 ≤ _), (by decide : 0 + 0 ≤ _)⟩)
  dsimp only [Pt.U, Pt.locs, Pt.cells, Pt.slots] at X106 l106 y106 z106 st106 hQ106
  subst l106 y106 z106
  obtain ⟨rfl, N106q, eq106⟩ := hQ106
  have N106 := Fr.app N105 N106q
  obtain ⟨d1, hd1⟩ : ∃ c : Int32, c = (own_derive c1 ((p3.toUInt32 >>> ((16 : Int32) &&& 31).toUInt32).toInt32) ((p5.toUInt32 >>> ((8 : Int32) &&& 31).toUInt32).toInt32) ((p4.toUInt32 >>> ((2 : Int32) &&& 31).toUInt32).toInt32)) := ⟨_, rfl⟩
  have hb_d1 : ChB d1 := by rw [hd1]; exact (own_deriveB _ _ _ _)
  obtain ⟨_, _, ⟨T107, L107, k107, n107⟩, -, X107, ⟨Lc107, hQ107, l107, y107, z107⟩, st107⟩ := Jvm.LawKit.callS X106 hx (y := mn_2) hown (mvT hZ (tw hw 4 rfl)) (mvT hZ (tw hw 5 rfl)) (mvT hZ (tw hw 2 rfl)) (mvT hZ (tw hw 6 rfl)) (by decide) (backOf (W := 0) (rmDer l Z a0 hw [] c2 ((p2.toUInt32 >>> ((16 : Int32) &&& 31).toUInt32).toInt32) ((p5.toUInt32 >>> ((10 : Int32) &&& 31).toUInt32).toInt32) ((p4.toUInt32 >>> ((4 : Int32) &&& 31).toUInt32).toInt32) h0 n0 X00 ) hZ (tw hw 6 rfl) (tw hw 2 rfl) (by decide) (by decide)) (g := (mkF m 106 #[vi p1, vi p2, vi p3, vi p4, vi p5, vi p6, vi la, vi lb, vi c0, vi c1, vi c2, vi d0, vi d1, .unset, .unset, .unset, .unset] [wi ((p4.toUInt32 >>> ((4 : Int32) &&& 31).toUInt32).toInt32), wi ((p5.toUInt32 >>> ((10 : Int32) &&& 31).toUInt32).toInt32), wi ((p2.toUInt32 >>> ((16 : Int32) &&& 31).toUInt32).toInt32), wi c2])) rfl (by rw [hml]; rfl) (argsL := [wi c2, wi ((p2.toUInt32 >>> ((16 : Int32) &&& 31).toUInt32).toInt32), wi ((p5.toUInt32 >>> ((10 : Int32) &&& 31).toUInt32).toInt32), wi ((p4.toUInt32 >>> ((4 : Int32) &&& 31).toUInt32).toInt32)]) (rest := []) (lenOf pd_CIII_C rfl) rfl (Nat.le_refl _) (hb hby at_106) (fun _ _ => ⟨rfl, eq106, (by decide : 0 + 0 ≤ _), (by decide : 0 + 0 ≤ _)⟩)
  dsimp only [Pt.U, Pt.locs, Pt.cells, Pt.slots] at X107 l107 y107 z107 st107 hQ107
  subst l107 y107 z107
  obtain ⟨rfl, N107q, eq107⟩ := hQ107
  have N107 := Fr.app N106 N107q
  obtain ⟨d2, hd2⟩ : ∃ c : Int32, c = (own_derive c2 ((p2.toUInt32 >>> ((16 : Int32) &&& 31).toUInt32).toInt32) ((p5.toUInt32 >>> ((10 : Int32) &&& 31).toUInt32).toInt32) ((p4.toUInt32 >>> ((4 : Int32) &&& 31).toUInt32).toInt32)) := ⟨_, rfl⟩
  have hb_d2 : ChB d2 := by rw [hd2]; exact (own_deriveB _ _ _ _)
  obtain ⟨_, _, ⟨T108, L108, k108, n108⟩, -, X108, hs108, hg108, ⟨Lc108, hQ108, l108, y108, z108, R108⟩, st108⟩ := callSS X107 hx (y := mn_4) hown (mvT hZ (tw hw 7 rfl)) (mvT hZ (tw hw 8 rfl)) (mvT hZ (tw hw 2 rfl)) (mvT hZ (tw hw 9 rfl)) (by decide) (backOfSH (W := 0) (rmMk l Z a0 hw [] la c0 c1 c2 G1 h0 n0 X00 f_a O2 P5 SA SH SL hb_c0 hb_c1 hb_c2) hZ (tw hw 9 rfl) (tw hw 2 rfl) (by decide) (by decide) hEL hCH) (g := (mkF m 119 #[vi p1, vi p2, vi p3, vi p4, vi p5, vi p6, vi la, vi lb, vi c0, vi c1, vi c2, vi d0, vi d1, vi d2, .unset, .unset, .unset] [wi c2, wi c1, wi c0, wi la])) rfl (by rw [hml]; rfl) (argsL := [wi la, wi c0, wi c1, wi c2]) (rest := []) (lenOf pd_ICCC_Ljava_lang_String_ rfl) rfl (Nat.le_refl _) (hb hby at_119) (fun _ _ => ⟨rfl, eq107, (by decide : 0 + 6 ≤ _), (by decide : 0 + 16 ≤ _)⟩)
  dsimp only [Pt.U, Pt.locs, Pt.cells, Pt.slots] at X108 l108 y108 z108 st108 hQ108 hs108 hg108 R108
  subst l108 y108 z108
  obtain ⟨ux108, rfl, N108q, Kc108, uS108⟩ := hQ108
  have N108 := Fr.app N107 N108q
  obtain ⟨X108r, hS108, hZ108, hown108⟩ := rebS hS0 (by rw [eq107]; exact hk0) X108 hs108 hg108 hZ hown
  have cr109 := (CHr.refl hCH).trans R108
  have ch109 := R108.1
  have y110 := ((Keep.refl h0 []).trans Kc108 all0)
  have y111 := (X00.keep Kc108 all0)
  obtain ⟨_, _, ⟨T112, L112, k112, n112⟩, -, X112, hs112, hg112, ⟨Lc112, hQ112, l112, y112, z112, R112⟩, st112⟩ := callSS X108r hx (y := mn_4) hown108 (mvT hZ108 (tw hw 7 rfl)) (mvT hZ108 (tw hw 8 rfl)) (mvT hZ108 (tw hw 2 rfl)) (mvT hZ108 (tw hw 9 rfl)) (by decide) (backOfSH (W := 0) (rmMk l Z a0 hw [] lb d0 d1 d2 G1 T108.heap n0 y111 f_b O2 P5 SA SH SL hb_d0 hb_d1 hb_d2) hZ108 (tw hw 9 rfl) (tw hw 2 rfl) (by decide) (by decide) hEL ch109) (g := (mkF m 132 #[vi p1, vi p2, vi p3, vi p4, vi p5, vi p6, vi la, vi lb, vi c0, vi c1, vi c2, vi d0, vi d1, vi d2, vr ux108, .unset, .unset] [wi d2, wi d1, wi d0, wi lb])) rfl (by rw [hml]; rfl) (argsL := [wi lb, wi d0, wi d1, wi d2]) (rest := []) (lenOf pd_ICCC_Ljava_lang_String_ rfl) rfl (Nat.le_refl _) (hb hby at_132) (fun _ _ => ⟨rfl, rfl, (by decide : 6 + 6 ≤ _), (by decide : 16 + 16 ≤ _)⟩)
  dsimp only [Pt.U, Pt.locs, Pt.cells, Pt.slots] at X112 l112 y112 z112 st112 hQ112 hs112 hg112 R112
  subst l112 y112 z112
  obtain ⟨ux112, rfl, N112q, Kc112, uS112⟩ := hQ112
  have N112 := Fr.app N108 N112q
  obtain ⟨X112r, hS112, hZ112, hown112⟩ := rebS hS108 (Nat.le_refl _) X112 hs112 hg112 hZ108 hown108
  have cr113 := cr109.trans R112
  have ch113 := R112.1
  have y115 := (y111.keep Kc112 all0)
  obtain ⟨T114, L114, X114, N114, e114, st114⟩ := pcB p1 p2 p3 p4 p5 p6 la lb c0 c1 c2 d0 d1 d2 ux108 ux112 X112r hx hZ112 hw hby hml hown112 rfl N112 y115 (by decide) (by decide)
  have hfin : own_eqi (own_mkl la c0 c1 c2) (own_mkl lb d0 d1 d2) = (own_exp la lb (own_same c0 d0) (own_same c1 d1) (own_same c2 d2)) := own_law f_a f_b hb_c0 hb_c1 hb_c2 hb_d0 hb_d1 hb_d2
  have y116 := (own_strK uS108 Kc112)
  have y117 := (y110.trans Kc112 all0)
  obtain ⟨_, _, ⟨T118, L118, k118, n118⟩, -, X118, ⟨Lc118, hQ118, l118, y118, z118⟩, st118⟩ := Jvm.LawKit.callS X114 hx (y := mn_0) hown112 (mvT hZ112 (tw hw 43 rfl)) (mvT hZ112 (tw hw 44 rfl)) (mvT hZ112 (tw hw 45 rfl)) (mvT hZ112 (tw hw 46 rfl)) (by decide) (backOf (W := 0) (rmEq l Z a0 hw [] ux108 ux112 (own_mkl la c0 c1 c2) (own_mkl lb d0 d1 d2) G1 fm T112.heap n0 y115 O2 P5 SA SH SL FM rf y116 uS112 (own_mklB hb_c0 hb_c1 hb_c2) (own_mklB hb_d0 hb_d1 hb_d2) (own_len4 f_a).2 (own_len4 f_b).2) hZ112 (tw hw 46 rfl) (tw hw 45 rfl) (by decide) (by decide)) (g := (mkF m 203 #[vi p1, vi p2, vi p3, vi p4, vi p5, vi p6, vi la, vi lb, vi c0, vi c1, vi c2, vi d0, vi d1, vi d2, vr ux108, vr ux112, vi (own_exp la lb (own_same c0 d0) (own_same c1 d1) (own_same c2 d2))] [wr ux112, wr ux108])) rfl (by rw [hml]; rfl) (argsL := [wr ux108, wr ux112]) (rest := []) (lenOf pd_Ljava_lang_String_Ljava_lang_String__Z rfl) rfl (Nat.le_refl _) (hb hby at_203) (fun _ _ => ⟨rfl, e114, (by decide : 12 + 0 ≤ _), (by decide : 32 + 0 ≤ _)⟩)
  dsimp only [Pt.U, Pt.locs, Pt.cells, Pt.slots] at X118 l118 y118 z118 st118 hQ118
  subst l118 y118 z118
  obtain ⟨rfl, N118q, eq118⟩ := hQ118
  have N118 := Fr.app N114 N118q
  have hc208 : (own_eqi (own_mkl la c0 c1 c2) (own_mkl lb d0 d1 d2)) = (own_exp la lb (own_same c0 d0) (own_same c1 d1) (own_same c2 d2)) := hfin
  obtain ⟨fs, hr, hrun, hended, hRW⟩ := X118.leaveW hS112 (by rw [eq118]; exact (Nat.le_refl _)) (v := some (.int (1 : Int32))) (fun h => by rw [Bd.returns] at h; cases h)
  refine ⟨_, _, pre0 _ ?_, hrun, hended, _, _, rfl, ?_, hRW.1, hRW.2.1, hRW.2.2.1, hRW.2.2.2.mono (by decide) (by decide)⟩
  · show Go p e below s₁ (mkF m 0 #[vi p1, vi p2, vi p3, vi p4, vi p5, vi p6, .unset, .unset, .unset, .unset, .unset, .unset, .unset, .unset, .unset, .unset, .unset] []) _
    refine st101 _ ?_
    rw [← hla, ← hlb]
    show Go p e below T101 (mkF m 28 #[vi p1, vi p2, vi p3, vi p4, vi p5, vi p6, vi la, vi lb, .unset, .unset, .unset, .unset, .unset, .unset, .unset, .unset, .unset] []) _
    refine XS.iloadN X101.here hx rfl (hb hby at_28) rfl ?_
    show Go p e below T101 (mkF m 29 #[vi p1, vi p2, vi p3, vi p4, vi p5, vi p6, vi la, vi lb, .unset, .unset, .unset, .unset, .unset, .unset, .unset, .unset, .unset] [wi p1]) _
    refine XS.iload X101.here hx rfl (hb hby at_29) rfl ?_
    show Go p e below T101 (mkF m 31 #[vi p1, vi p2, vi p3, vi p4, vi p5, vi p6, vi la, vi lb, .unset, .unset, .unset, .unset, .unset, .unset, .unset, .unset, .unset] [wi p5, wi p1]) _
    refine st102 _ ?_
    rw [← hc0]
    show Go p e below T102 (mkF m 34 #[vi p1, vi p2, vi p3, vi p4, vi p5, vi p6, vi la, vi lb, .unset, .unset, .unset, .unset, .unset, .unset, .unset, .unset, .unset] [wi c0]) _
    refine XS.istore X102.here hx rfl (hb hby at_34) rfl (l' := #[.val (.int p1), .val (.int p2), .val (.int p3), .val (.int p4), .val (.int p5), .val (.int p6), .val (.int la), .val (.int lb), .val (.int c0), .unset, .unset, .unset, .unset, .unset, .unset, .unset, .unset]) rfl ?_
    show Go p e below T102 (mkF m 36 #[vi p1, vi p2, vi p3, vi p4, vi p5, vi p6, vi la, vi lb, vi c0, .unset, .unset, .unset, .unset, .unset, .unset, .unset, .unset] []) _
    refine XS.iloadN X102.here hx rfl (hb hby at_36) rfl ?_
    show Go p e below T102 (mkF m 37 #[vi p1, vi p2, vi p3, vi p4, vi p5, vi p6, vi la, vi lb, vi c0, .unset, .unset, .unset, .unset, .unset, .unset, .unset, .unset] [wi p1]) _
    refine XS.bipush X102.here hx rfl (hb hby at_37) ?_
    show Go p e below T102 (mkF m 39 #[vi p1, vi p2, vi p3, vi p4, vi p5, vi p6, vi la, vi lb, vi c0, .unset, .unset, .unset, .unset, .unset, .unset, .unset, .unset] [wi 16, wi p1]) _
    refine XS.iushr X102.here hx rfl (hb hby at_39) rfl ?_
    show Go p e below T102 (mkF m 40 #[vi p1, vi p2, vi p3, vi p4, vi p5, vi p6, vi la, vi lb, vi c0, .unset, .unset, .unset, .unset, .unset, .unset, .unset, .unset] [wi ((p1.toUInt32 >>> ((16 : Int32) &&& 31).toUInt32).toInt32)]) _
    refine XS.iload X102.here hx rfl (hb hby at_40) rfl ?_
    show Go p e below T102 (mkF m 42 #[vi p1, vi p2, vi p3, vi p4, vi p5, vi p6, vi la, vi lb, vi c0, .unset, .unset, .unset, .unset, .unset, .unset, .unset, .unset] [wi p5, wi ((p1.toUInt32 >>> ((16 : Int32) &&& 31).toUInt32).toInt32)]) _
    refine XS.iconst X102.here hx rfl (hb hby at_42) ?_
    show Go p e below T102 (mkF m 43 #[vi p1, vi p2, vi p3, vi p4, vi p5, vi p6, vi la, vi lb, vi c0, .unset, .unset, .unset, .unset, .unset, .unset, .unset, .unset] [wi 2, wi p5, wi ((p1.toUInt32 >>> ((16 : Int32) &&& 31).toUInt32).toInt32)]) _
    refine XS.iushr X102.here hx rfl (hb hby at_43) rfl ?_
    show Go p e below T102 (mkF m 44 #[vi p1, vi p2, vi p3, vi p4, vi p5, vi p6, vi la, vi lb, vi c0, .unset, .unset, .unset, .unset, .unset, .unset, .unset, .unset] [wi ((p5.toUInt32 >>> ((2 : Int32) &&& 31).toUInt32).toInt32), wi ((p1.toUInt32 >>> ((16 : Int32) &&& 31).toUInt32).toInt32)]) _
    refine st103 _ ?_
    rw [← hc1]
    show Go p e below T103 (mkF m 47 #[vi p1, vi p2, vi p3, vi p4, vi p5, vi p6, vi la, vi lb, vi c0, .unset, .unset, .unset, .unset, .unset, .unset, .unset, .unset] [wi c1]) _
    refine XS.istore X103.here hx rfl (hb hby at_47) rfl (l' := #[.val (.int p1), .val (.int p2), .val (.int p3), .val (.int p4), .val (.int p5), .val (.int p6), .val (.int la), .val (.int lb), .val (.int c0), .val (.int c1), .unset, .unset, .unset, .unset, .unset, .unset, .unset]) rfl ?_
    show Go p e below T103 (mkF m 49 #[vi p1, vi p2, vi p3, vi p4, vi p5, vi p6, vi la, vi lb, vi c0, vi c1, .unset, .unset, .unset, .unset, .unset, .unset, .unset] []) _
    refine XS.iloadN X103.here hx rfl (hb hby at_49) rfl ?_
    show Go p e below T103 (mkF m 50 #[vi p1, vi p2, vi p3, vi p4, vi p5, vi p6, vi la, vi lb, vi c0, vi c1, .unset, .unset, .unset, .unset, .unset, .unset, .unset] [wi p2]) _
    refine XS.iload X103.here hx rfl (hb hby at_50) rfl ?_
    show Go p e below T103 (mkF m 52 #[vi p1, vi p2, vi p3, vi p4, vi p5, vi p6, vi la, vi lb, vi c0, vi c1, .unset, .unset, .unset, .unset, .unset, .unset, .unset] [wi p5, wi p2]) _
    refine XS.iconst X103.here hx rfl (hb hby at_52) ?_
    show Go p e below T103 (mkF m 53 #[vi p1, vi p2, vi p3, vi p4, vi p5, vi p6, vi la, vi lb, vi c0, vi c1, .unset, .unset, .unset, .unset, .unset, .unset, .unset] [wi 4, wi p5, wi p2]) _
    refine XS.iushr X103.here hx rfl (hb hby at_53) rfl ?_
    show Go p e below T103 (mkF m 54 #[vi p1, vi p2, vi p3, vi p4, vi p5, vi p6, vi la, vi lb, vi c0, vi c1, .unset, .unset, .unset, .unset, .unset, .unset, .unset] [wi ((p5.toUInt32 >>> ((4 : Int32) &&& 31).toUInt32).toInt32), wi p2]) _
    refine st104 _ ?_
    rw [← hc2]
    show Go p e below T104 (mkF m 57 #[vi p1, vi p2, vi p3, vi p4, vi p5, vi p6, vi la, vi lb, vi c0, vi c1, .unset, .unset, .unset, .unset, .unset, .unset, .unset] [wi c2]) _
    refine XS.istore X104.here hx rfl (hb hby at_57) rfl (l' := #[.val (.int p1), .val (.int p2), .val (.int p3), .val (.int p4), .val (.int p5), .val (.int p6), .val (.int la), .val (.int lb), .val (.int c0), .val (.int c1), .val (.int c2), .unset, .unset, .unset, .unset, .unset, .unset]) rfl ?_
    show Go p e below T104 (mkF m 59 #[vi p1, vi p2, vi p3, vi p4, vi p5, vi p6, vi la, vi lb, vi c0, vi c1, vi c2, .unset, .unset, .unset, .unset, .unset, .unset] []) _
    refine XS.iload X104.here hx rfl (hb hby at_59) rfl ?_
    show Go p e below T104 (mkF m 61 #[vi p1, vi p2, vi p3, vi p4, vi p5, vi p6, vi la, vi lb, vi c0, vi c1, vi c2, .unset, .unset, .unset, .unset, .unset, .unset] [wi c0]) _
    refine XS.iloadN X104.here hx rfl (hb hby at_61) rfl ?_
    show Go p e below T104 (mkF m 62 #[vi p1, vi p2, vi p3, vi p4, vi p5, vi p6, vi la, vi lb, vi c0, vi c1, vi c2, .unset, .unset, .unset, .unset, .unset, .unset] [wi p3, wi c0]) _
    refine XS.iload X104.here hx rfl (hb hby at_62) rfl ?_
    show Go p e below T104 (mkF m 64 #[vi p1, vi p2, vi p3, vi p4, vi p5, vi p6, vi la, vi lb, vi c0, vi c1, vi c2, .unset, .unset, .unset, .unset, .unset, .unset] [wi p5, wi p3, wi c0]) _
    refine XS.bipush X104.here hx rfl (hb hby at_64) ?_
    show Go p e below T104 (mkF m 66 #[vi p1, vi p2, vi p3, vi p4, vi p5, vi p6, vi la, vi lb, vi c0, vi c1, vi c2, .unset, .unset, .unset, .unset, .unset, .unset] [wi 6, wi p5, wi p3, wi c0]) _
    refine XS.iushr X104.here hx rfl (hb hby at_66) rfl ?_
    show Go p e below T104 (mkF m 67 #[vi p1, vi p2, vi p3, vi p4, vi p5, vi p6, vi la, vi lb, vi c0, vi c1, vi c2, .unset, .unset, .unset, .unset, .unset, .unset] [wi ((p5.toUInt32 >>> ((6 : Int32) &&& 31).toUInt32).toInt32), wi p3, wi c0]) _
    refine XS.iloadN X104.here hx rfl (hb hby at_67) rfl ?_
    show Go p e below T104 (mkF m 68 #[vi p1, vi p2, vi p3, vi p4, vi p5, vi p6, vi la, vi lb, vi c0, vi c1, vi c2, .unset, .unset, .unset, .unset, .unset, .unset] [wi p4, wi ((p5.toUInt32 >>> ((6 : Int32) &&& 31).toUInt32).toInt32), wi p3, wi c0]) _
    refine st105 _ ?_
    rw [← hd0]
    show Go p e below T105 (mkF m 71 #[vi p1, vi p2, vi p3, vi p4, vi p5, vi p6, vi la, vi lb, vi c0, vi c1, vi c2, .unset, .unset, .unset, .unset, .unset, .unset] [wi d0]) _
    refine XS.istore X105.here hx rfl (hb hby at_71) rfl (l' := #[.val (.int p1), .val (.int p2), .val (.int p3), .val (.int p4), .val (.int p5), .val (.int p6), .val (.int la), .val (.int lb), .val (.int c0), .val (.int c1), .val (.int c2), .val (.int d0), .unset, .unset, .unset, .unset, .unset]) rfl ?_
    show Go p e below T105 (mkF m 73 #[vi p1, vi p2, vi p3, vi p4, vi p5, vi p6, vi la, vi lb, vi c0, vi c1, vi c2, vi d0, .unset, .unset, .unset, .unset, .unset] []) _
    refine XS.iload X105.here hx rfl (hb hby at_73) rfl ?_
    show Go p e below T105 (mkF m 75 #[vi p1, vi p2, vi p3, vi p4, vi p5, vi p6, vi la, vi lb, vi c0, vi c1, vi c2, vi d0, .unset, .unset, .unset, .unset, .unset] [wi c1]) _
    refine XS.iloadN X105.here hx rfl (hb hby at_75) rfl ?_
    show Go p e below T105 (mkF m 76 #[vi p1, vi p2, vi p3, vi p4, vi p5, vi p6, vi la, vi lb, vi c0, vi c1, vi c2, vi d0, .unset, .unset, .unset, .unset, .unset] [wi p3, wi c1]) _
    refine XS.bipush X105.here hx rfl (hb hby at_76) ?_
    show Go p e below T105 (mkF m 78 #[vi p1, vi p2, vi p3, vi p4, vi p5, vi p6, vi la, vi lb, vi c0, vi c1, vi c2, vi d0, .unset, .unset, .unset, .unset, .unset] [wi 16, wi p3, wi c1]) _
    refine XS.iushr X105.here hx rfl (hb hby at_78) rfl ?_
    show Go p e below T105 (mkF m 79 #[vi p1, vi p2, vi p3, vi p4, vi p5, vi p6, vi la, vi lb, vi c0, vi c1, vi c2, vi d0, .unset, .unset, .unset, .unset, .unset] [wi ((p3.toUInt32 >>> ((16 : Int32) &&& 31).toUInt32).toInt32), wi c1]) _
    refine XS.iload X105.here hx rfl (hb hby at_79) rfl ?_
    show Go p e below T105 (mkF m 81 #[vi p1, vi p2, vi p3, vi p4, vi p5, vi p6, vi la, vi lb, vi c0, vi c1, vi c2, vi d0, .unset, .unset, .unset, .unset, .unset] [wi p5, wi ((p3.toUInt32 >>> ((16 : Int32) &&& 31).toUInt32).toInt32), wi c1]) _
    refine XS.bipush X105.here hx rfl (hb hby at_81) ?_
    show Go p e below T105 (mkF m 83 #[vi p1, vi p2, vi p3, vi p4, vi p5, vi p6, vi la, vi lb, vi c0, vi c1, vi c2, vi d0, .unset, .unset, .unset, .unset, .unset] [wi 8, wi p5, wi ((p3.toUInt32 >>> ((16 : Int32) &&& 31).toUInt32).toInt32), wi c1]) _
    refine XS.iushr X105.here hx rfl (hb hby at_83) rfl ?_
    show Go p e below T105 (mkF m 84 #[vi p1, vi p2, vi p3, vi p4, vi p5, vi p6, vi la, vi lb, vi c0, vi c1, vi c2, vi d0, .unset, .unset, .unset, .unset, .unset] [wi ((p5.toUInt32 >>> ((8 : Int32) &&& 31).toUInt32).toInt32), wi ((p3.toUInt32 >>> ((16 : Int32) &&& 31).toUInt32).toInt32), wi c1]) _
    refine XS.iloadN X105.here hx rfl (hb hby at_84) rfl ?_
    show Go p e below T105 (mkF m 85 #[vi p1, vi p2, vi p3, vi p4, vi p5, vi p6, vi la, vi lb, vi c0, vi c1, vi c2, vi d0, .unset, .unset, .unset, .unset, .unset] [wi p4, wi ((p5.toUInt32 >>> ((8 : Int32) &&& 31).toUInt32).toInt32), wi ((p3.toUInt32 >>> ((16 : Int32) &&& 31).toUInt32).toInt32), wi c1]) _
    refine XS.iconst X105.here hx rfl (hb hby at_85) ?_
    show Go p e below T105 (mkF m 86 #[vi p1, vi p2, vi p3, vi p4, vi p5, vi p6, vi la, vi lb, vi c0, vi c1, vi c2, vi d0, .unset, .unset, .unset, .unset, .unset] [wi 2, wi p4, wi ((p5.toUInt32 >>> ((8 : Int32) &&& 31).toUInt32).toInt32), wi ((p3.toUInt32 >>> ((16 : Int32) &&& 31).toUInt32).toInt32), wi c1]) _
    refine XS.iushr X105.here hx rfl (hb hby at_86) rfl ?_
    show Go p e below T105 (mkF m 87 #[vi p1, vi p2, vi p3, vi p4, vi p5, vi p6, vi la, vi lb, vi c0, vi c1, vi c2, vi d0, .unset, .unset, .unset, .unset, .unset] [wi ((p4.toUInt32 >>> ((2 : Int32) &&& 31).toUInt32).toInt32), wi ((p5.toUInt32 >>> ((8 : Int32) &&& 31).toUInt32).toInt32), wi ((p3.toUInt32 >>> ((16 : Int32) &&& 31).toUInt32).toInt32), wi c1]) _
    refine st106 _ ?_
    rw [← hd1]
    show Go p e below T106 (mkF m 90 #[vi p1, vi p2, vi p3, vi p4, vi p5, vi p6, vi la, vi lb, vi c0, vi c1, vi c2, vi d0, .unset, .unset, .unset, .unset, .unset] [wi d1]) _
    refine XS.istore X106.here hx rfl (hb hby at_90) rfl (l' := #[.val (.int p1), .val (.int p2), .val (.int p3), .val (.int p4), .val (.int p5), .val (.int p6), .val (.int la), .val (.int lb), .val (.int c0), .val (.int c1), .val (.int c2), .val (.int d0), .val (.int d1), .unset, .unset, .unset, .unset]) rfl ?_
    show Go p e below T106 (mkF m 92 #[vi p1, vi p2, vi p3, vi p4, vi p5, vi p6, vi la, vi lb, vi c0, vi c1, vi c2, vi d0, vi d1, .unset, .unset, .unset, .unset] []) _
    refine XS.iload X106.here hx rfl (hb hby at_92) rfl ?_
    show Go p e below T106 (mkF m 94 #[vi p1, vi p2, vi p3, vi p4, vi p5, vi p6, vi la, vi lb, vi c0, vi c1, vi c2, vi d0, vi d1, .unset, .unset, .unset, .unset] [wi c2]) _
    refine XS.iloadN X106.here hx rfl (hb hby at_94) rfl ?_
    show Go p e below T106 (mkF m 95 #[vi p1, vi p2, vi p3, vi p4, vi p5, vi p6, vi la, vi lb, vi c0, vi c1, vi c2, vi d0, vi d1, .unset, .unset, .unset, .unset] [wi p2, wi c2]) _
    refine XS.bipush X106.here hx rfl (hb hby at_95) ?_
    show Go p e below T106 (mkF m 97 #[vi p1, vi p2, vi p3, vi p4, vi p5, vi p6, vi la, vi lb, vi c0, vi c1, vi c2, vi d0, vi d1, .unset, .unset, .unset, .unset] [wi 16, wi p2, wi c2]) _
    refine XS.iushr X106.here hx rfl (hb hby at_97) rfl ?_
    show Go p e below T106 (mkF m 98 #[vi p1, vi p2, vi p3, vi p4, vi p5, vi p6, vi la, vi lb, vi c0, vi c1, vi c2, vi d0, vi d1, .unset, .unset, .unset, .unset] [wi ((p2.toUInt32 >>> ((16 : Int32) &&& 31).toUInt32).toInt32), wi c2]) _
    refine XS.iload X106.here hx rfl (hb hby at_98) rfl ?_
    show Go p e below T106 (mkF m 100 #[vi p1, vi p2, vi p3, vi p4, vi p5, vi p6, vi la, vi lb, vi c0, vi c1, vi c2, vi d0, vi d1, .unset, .unset, .unset, .unset] [wi p5, wi ((p2.toUInt32 >>> ((16 : Int32) &&& 31).toUInt32).toInt32), wi c2]) _
    refine XS.bipush X106.here hx rfl (hb hby at_100) ?_
    show Go p e below T106 (mkF m 102 #[vi p1, vi p2, vi p3, vi p4, vi p5, vi p6, vi la, vi lb, vi c0, vi c1, vi c2, vi d0, vi d1, .unset, .unset, .unset, .unset] [wi 10, wi p5, wi ((p2.toUInt32 >>> ((16 : Int32) &&& 31).toUInt32).toInt32), wi c2]) _
    refine XS.iushr X106.here hx rfl (hb hby at_102) rfl ?_
    show Go p e below T106 (mkF m 103 #[vi p1, vi p2, vi p3, vi p4, vi p5, vi p6, vi la, vi lb, vi c0, vi c1, vi c2, vi d0, vi d1, .unset, .unset, .unset, .unset] [wi ((p5.toUInt32 >>> ((10 : Int32) &&& 31).toUInt32).toInt32), wi ((p2.toUInt32 >>> ((16 : Int32) &&& 31).toUInt32).toInt32), wi c2]) _
    refine XS.iloadN X106.here hx rfl (hb hby at_103) rfl ?_
    show Go p e below T106 (mkF m 104 #[vi p1, vi p2, vi p3, vi p4, vi p5, vi p6, vi la, vi lb, vi c0, vi c1, vi c2, vi d0, vi d1, .unset, .unset, .unset, .unset] [wi p4, wi ((p5.toUInt32 >>> ((10 : Int32) &&& 31).toUInt32).toInt32), wi ((p2.toUInt32 >>> ((16 : Int32) &&& 31).toUInt32).toInt32), wi c2]) _
    refine XS.iconst X106.here hx rfl (hb hby at_104) ?_
    show Go p e below T106 (mkF m 105 #[vi p1, vi p2, vi p3, vi p4, vi p5, vi p6, vi la, vi lb, vi c0, vi c1, vi c2, vi d0, vi d1, .unset, .unset, .unset, .unset] [wi 4, wi p4, wi ((p5.toUInt32 >>> ((10 : Int32) &&& 31).toUInt32).toInt32), wi ((p2.toUInt32 >>> ((16 : Int32) &&& 31).toUInt32).toInt32), wi c2]) _
    refine XS.iushr X106.here hx rfl (hb hby at_105) rfl ?_
    show Go p e below T106 (mkF m 106 #[vi p1, vi p2, vi p3, vi p4, vi p5, vi p6, vi la, vi lb, vi c0, vi c1, vi c2, vi d0, vi d1, .unset, .unset, .unset, .unset] [wi ((p4.toUInt32 >>> ((4 : Int32) &&& 31).toUInt32).toInt32), wi ((p5.toUInt32 >>> ((10 : Int32) &&& 31).toUInt32).toInt32), wi ((p2.toUInt32 >>> ((16 : Int32) &&& 31).toUInt32).toInt32), wi c2]) _
    refine st107 _ ?_
    rw [← hd2]
    show Go p e below T107 (mkF m 109 #[vi p1, vi p2, vi p3, vi p4, vi p5, vi p6, vi la, vi lb, vi c0, vi c1, vi c2, vi d0, vi d1, .unset, .unset, .unset, .unset] [wi d2]) _
    refine XS.istore X107.here hx rfl (hb hby at_109) rfl (l' := #[.val (.int p1), .val (.int p2), .val (.int p3), .val (.int p4), .val (.int p5), .val (.int p6), .val (.int la), .val (.int lb), .val (.int c0), .val (.int c1), .val (.int c2), .val (.int d0), .val (.int d1), .val (.int d2), .unset, .unset, .unset]) rfl ?_
    show Go p e below T107 (mkF m 111 #[vi p1, vi p2, vi p3, vi p4, vi p5, vi p6, vi la, vi lb, vi c0, vi c1, vi c2, vi d0, vi d1, vi d2, .unset, .unset, .unset] []) _
    refine XS.iload X107.here hx rfl (hb hby at_111) rfl ?_
    show Go p e below T107 (mkF m 113 #[vi p1, vi p2, vi p3, vi p4, vi p5, vi p6, vi la, vi lb, vi c0, vi c1, vi c2, vi d0, vi d1, vi d2, .unset, .unset, .unset] [wi la]) _
    refine XS.iload X107.here hx rfl (hb hby at_113) rfl ?_
    show Go p e below T107 (mkF m 115 #[vi p1, vi p2, vi p3, vi p4, vi p5, vi p6, vi la, vi lb, vi c0, vi c1, vi c2, vi d0, vi d1, vi d2, .unset, .unset, .unset] [wi c0, wi la]) _
    refine XS.iload X107.here hx rfl (hb hby at_115) rfl ?_
    show Go p e below T107 (mkF m 117 #[vi p1, vi p2, vi p3, vi p4, vi p5, vi p6, vi la, vi lb, vi c0, vi c1, vi c2, vi d0, vi d1, vi d2, .unset, .unset, .unset] [wi c1, wi c0, wi la]) _
    refine XS.iload X107.here hx rfl (hb hby at_117) rfl ?_
    show Go p e below T107 (mkF m 119 #[vi p1, vi p2, vi p3, vi p4, vi p5, vi p6, vi la, vi lb, vi c0, vi c1, vi c2, vi d0, vi d1, vi d2, .unset, .unset, .unset] [wi c2, wi c1, wi c0, wi la]) _
    refine st108.trans ?_
    show Go p e below T108 (mkF m 122 #[vi p1, vi p2, vi p3, vi p4, vi p5, vi p6, vi la, vi lb, vi c0, vi c1, vi c2, vi d0, vi d1, vi d2, .unset, .unset, .unset] [wr ux108]) _
    refine XS.astore X108r.here hx rfl (hb hby at_122) rfl rfl (l' := #[.val (.int p1), .val (.int p2), .val (.int p3), .val (.int p4), .val (.int p5), .val (.int p6), .val (.int la), .val (.int lb), .val (.int c0), .val (.int c1), .val (.int c2), .val (.int d0), .val (.int d1), .val (.int d2), .val (.ref ux108), .unset, .unset]) rfl ?_
    show Go p e below T108 (mkF m 124 #[vi p1, vi p2, vi p3, vi p4, vi p5, vi p6, vi la, vi lb, vi c0, vi c1, vi c2, vi d0, vi d1, vi d2, vr ux108, .unset, .unset] []) _
    refine XS.iload X108r.here hx rfl (hb hby at_124) rfl ?_
    show Go p e below T108 (mkF m 126 #[vi p1, vi p2, vi p3, vi p4, vi p5, vi p6, vi la, vi lb, vi c0, vi c1, vi c2, vi d0, vi d1, vi d2, vr ux108, .unset, .unset] [wi lb]) _
    refine XS.iload X108r.here hx rfl (hb hby at_126) rfl ?_
    show Go p e below T108 (mkF m 128 #[vi p1, vi p2, vi p3, vi p4, vi p5, vi p6, vi la, vi lb, vi c0, vi c1, vi c2, vi d0, vi d1, vi d2, vr ux108, .unset, .unset] [wi d0, wi lb]) _
    refine XS.iload X108r.here hx rfl (hb hby at_128) rfl ?_
    show Go p e below T108 (mkF m 130 #[vi p1, vi p2, vi p3, vi p4, vi p5, vi p6, vi la, vi lb, vi c0, vi c1, vi c2, vi d0, vi d1, vi d2, vr ux108, .unset, .unset] [wi d1, wi d0, wi lb]) _
    refine XS.iload X108r.here hx rfl (hb hby at_130) rfl ?_
    show Go p e below T108 (mkF m 132 #[vi p1, vi p2, vi p3, vi p4, vi p5, vi p6, vi la, vi lb, vi c0, vi c1, vi c2, vi d0, vi d1, vi d2, vr ux108, .unset, .unset] [wi d2, wi d1, wi d0, wi lb]) _
    refine st112.trans ?_
    show Go p e below T112 (mkF m 135 #[vi p1, vi p2, vi p3, vi p4, vi p5, vi p6, vi la, vi lb, vi c0, vi c1, vi c2, vi d0, vi d1, vi d2, vr ux108, .unset, .unset] [wr ux112]) _
    refine XS.astore X112r.here hx rfl (hb hby at_135) rfl rfl (l' := #[.val (.int p1), .val (.int p2), .val (.int p3), .val (.int p4), .val (.int p5), .val (.int p6), .val (.int la), .val (.int lb), .val (.int c0), .val (.int c1), .val (.int c2), .val (.int d0), .val (.int d1), .val (.int d2), .val (.ref ux108), .val (.ref ux112), .unset]) rfl ?_
    refine st114 _ ?_
    show Go p e below T114 (mkF m 197 #[vi p1, vi p2, vi p3, vi p4, vi p5, vi p6, vi la, vi lb, vi c0, vi c1, vi c2, vi d0, vi d1, vi d2, vr ux108, vr ux112, .unset] [wi (own_exp la lb (own_same c0 d0) (own_same c1 d1) (own_same c2 d2))]) _
    refine XS.istore X114.here hx rfl (hb hby at_197) rfl (l' := #[.val (.int p1), .val (.int p2), .val (.int p3), .val (.int p4), .val (.int p5), .val (.int p6), .val (.int la), .val (.int lb), .val (.int c0), .val (.int c1), .val (.int c2), .val (.int d0), .val (.int d1), .val (.int d2), .val (.ref ux108), .val (.ref ux112), .val (.int (own_exp la lb (own_same c0 d0) (own_same c1 d1) (own_same c2 d2)))]) rfl ?_
    show Go p e below T114 (mkF m 199 #[vi p1, vi p2, vi p3, vi p4, vi p5, vi p6, vi la, vi lb, vi c0, vi c1, vi c2, vi d0, vi d1, vi d2, vr ux108, vr ux112, vi (own_exp la lb (own_same c0 d0) (own_same c1 d1) (own_same c2 d2))] []) _
    refine XS.aload X114.here hx rfl (hb hby at_199) rfl rfl ?_
    show Go p e below T114 (mkF m 201 #[vi p1, vi p2, vi p3, vi p4, vi p5, vi p6, vi la, vi lb, vi c0, vi c1, vi c2, vi d0, vi d1, vi d2, vr ux108, vr ux112, vi (own_exp la lb (own_same c0 d0) (own_same c1 d1) (own_same c2 d2))] [wr ux108]) _
    refine XS.aload X114.here hx rfl (hb hby at_201) rfl rfl ?_
    show Go p e below T114 (mkF m 203 #[vi p1, vi p2, vi p3, vi p4, vi p5, vi p6, vi la, vi lb, vi c0, vi c1, vi c2, vi d0, vi d1, vi d2, vr ux108, vr ux112, vi (own_exp la lb (own_same c0 d0) (own_same c1 d1) (own_same c2 d2))] [wr ux112, wr ux108]) _
    refine st118 _ ?_
    show Go p e below T118 (mkF m 206 #[vi p1, vi p2, vi p3, vi p4, vi p5, vi p6, vi la, vi lb, vi c0, vi c1, vi c2, vi d0, vi d1, vi d2, vr ux108, vr ux112, vi (own_exp la lb (own_same c0 d0) (own_same c1 d1) (own_same c2 d2))] [wi (own_eqi (own_mkl la c0 c1 c2) (own_mkl lb d0 d1 d2))]) _
    refine XS.iload X118.here hx rfl (hb hby at_206) rfl ?_
    show Go p e below T118 (mkF m 208 #[vi p1, vi p2, vi p3, vi p4, vi p5, vi p6, vi la, vi lb, vi c0, vi c1, vi c2, vi d0, vi d1, vi d2, vr ux108, vr ux112, vi (own_exp la lb (own_same c0 d0) (own_same c1 d1) (own_same c2 d2))] [wi (own_exp la lb (own_same c0 d0) (own_same c1 d1) (own_same c2 d2)), wi (own_eqi (own_mkl la c0 c1 c2) (own_mkl lb d0 d1 d2))]) _
    refine XS.icmpNo X118.here hx rfl (hb hby at_208) rfl (teq hc208).2 ?_
    show Go p e below T118 (mkF m 211 #[vi p1, vi p2, vi p3, vi p4, vi p5, vi p6, vi la, vi lb, vi c0, vi c1, vi c2, vi d0, vi d1, vi d2, vr ux108, vr ux112, vi (own_exp la lb (own_same c0 d0) (own_same c1 d1) (own_same c2 d2))] []) _
    refine XS.iconst X118.here hx rfl (hb hby at_211) ?_
    show Go p e below T118 (mkF m 212 #[vi p1, vi p2, vi p3, vi p4, vi p5, vi p6, vi la, vi lb, vi c0, vi c1, vi c2, vi d0, vi d1, vi d2, vr ux108, vr ux112, vi (own_exp la lb (own_same c0 d0) (own_same c1 d1) (own_same c2 d2))] [wi 1]) _
    refine XS.goto X118.here hx rfl (pc0 := 212) (pc' := 216) rfl (hb hby at_212) (by decide) (by decide) ?_
    show Go p e below T118 (mkF m 216 #[vi p1, vi p2, vi p3, vi p4, vi p5, vi p6, vi la, vi lb, vi c0, vi c1, vi c2, vi d0, vi d1, vi d2, vr ux108, vr ux112, vi (own_exp la lb (own_same c0 d0) (own_same c1 d1) (own_same c2 d2))] [wi 1]) _
    exact retN X118 hx (t := .boolean) Bd.returns (by simp) (hb hby at_216) hr
  · show Q0 h0 n0 _ T118.heap _
    rw [eq118]
    exact ⟨rfl, N118⟩
theorem own_len {s : State} {args : Array Value} {t : Term} {b : Addr} {c : Cell} {ty : FieldType} {z : Int32} (et : t.eval args s none [] s = some (.ref b)) (A : Arr s s.heap b c ty) (h : (Term.length t).eval args s none [] s = some (.int z)) : c.slots.size < 2 ^ 31 ∧ c.slots.size.toInt32 = z := by
  have ha : s.arrayAt? b = some c := Arr.fin (Vm.Alike.refl _) A
  by_cases q : c.slots.size < 2 ^ 31
  · refine ⟨q, ?_⟩
    have := (len_f et ha q).symm.trans h
    simpa using this
  · simp [Term.eval, et, ha, q] at h
theorem own_isref {s : State} {args : Array Value} {t : Term} (h : (Cond.isRef t).value args s none s [] = some true) : ∃ v : Value, t.eval args s none [] s = some v ∧ v.isRef = true := by
  simp only [Cond.value] at h
  cases e : t.eval args s none [] s with
  | none => simp [e] at h
  | some v => exact ⟨v, rfl, by cases v <;> simp_all [Value.isRef]⟩
set_option maxRecDepth 65536 in
set_option maxHeartbeats 40000000 in
theorem comes_1 {Post : Tables → Env → Array Value → State → Outcome → State → Prop} (hpost : ∀ tb e args s v u, (limb_1_1.after args s (.returned v) u = true ∧ limb_1_2.after args s (.returned v) u = true ∧ True) → ReturnedEndW s (.returned v) u (Jvm.fieldLocs frame_1_writes args s ++ Jvm.arrayLocs frame_1_arrays args s ++ Jvm.staticLocs frame_1_statics s) 32 1216 → Post tb e args s (.returned v) u) :
    ArmFor flags0 classFile x code maxLocals ret World_1 tables_1 room_1 Calls_1 rest_1 Pre_1 Post := by
  intro l hfl _ _ p e ha hc hk s m args below hf hA hF happ hP
  obtain ⟨hcalls, hrest, hpre⟩ := hP
  obtain ⟨-, -, -, hnamed, -, -, -, hat⟩ := (Spec.applies_iff hf).mp happ
  obtain ⟨hg, hn⟩ := and_e (Cond.before_iff.mp (show (Jvm.Cond.and given_1 narrow_1).before args s = true from hpre))
  obtain ⟨hcount, hg0⟩ := and_e hg
  obtain ⟨ga0, hg1⟩ := and_e hg0
  obtain ⟨ga1, hg2⟩ := and_e hg1
  obtain ⟨ga2, hg3⟩ := and_e hg2
  obtain ⟨ga3, hg4⟩ := and_e hg3
  obtain ⟨ga4, hg5⟩ := and_e hg4
  have ga5 := hg5
  obtain ⟨w0, w1, w2, w3, w4, w5, rfl⟩ : ∃ w0 w1 w2 w3 w4 w5 : Value, args = #[w0, w1, w2, w3, w4, w5] := by
    have hs : args.size = 6 := by simpa [Cond.value, given_1] using hcount
    obtain ⟨L⟩ := args
    match L, hs with
    | [w0, w1, w2, w3, w4, w5], _ => exact ⟨w0, w1, w2, w3, w4, w5, rfl⟩
  have hw := fun d (hd : d ∈ tables_1) => atoms_spec (ws := Jvm.Cond.code x code maxLocals ret :: tables_1) hat d (List.mem_cons_of_mem _ hd)
  have hfit : Fit s := fun {y c} hc i hi => by
    obtain ⟨ha, rfl⟩ := Array.getElem?_eq_some_iff.mp hc
    have q := List.all_eq_true.mp ((Array.all_eq_true_iff_forall_mem.mp hF) _ (Array.getElem_mem ha)) i (List.mem_range.mpr hi)
    simpa [Array.getElem?_eq_getElem hi] using q
  obtain ⟨hsets, hown0⟩ := atoms_of _ (rest_1_c_eq ▸ (show rest_1_c.before _ s = true from hrest))
  obtain ⟨i0, ei0⟩ := is_v ga0
  obtain rfl : w0 = (.int i0) := Option.some.inj ei0
  obtain ⟨i1, ei1⟩ := is_v ga1
  obtain rfl : w1 = (.int i1) := Option.some.inj ei1
  obtain ⟨i2, ei2⟩ := is_v ga2
  obtain rfl : w2 = (.int i2) := Option.some.inj ei2
  obtain ⟨i3, ei3⟩ := is_v ga3
  obtain rfl : w3 = (.int i3) := Option.some.inj ei3
  obtain ⟨i4, ei4⟩ := is_v ga4
  obtain rfl : w4 = (.int i4) := Option.some.inj ei4
  obtain ⟨i5, ei5⟩ := is_v ga5
  obtain rfl : w5 = (.int i5) := Option.some.inj ei5
  have n5 := not_v (Cond.before_iff.mp (hsets _ (List.mem_of_getElem? (i := 2) rfl)))
  obtain ⟨gc, ec⟩ := is_v (Cond.before_iff.mp (hsets _ (List.mem_of_getElem? (i := 1) rfl)))
  have Sc : Sta s s.heap "java/lang/String" "COMPACT_STRINGS" "Z" (.int gc) := Sta.start ec (Or.inl (hsets _ (List.mem_of_getElem? (i := 0) rfl)))
  have c17 : ¬ (gc = (0 : Int32)) := gotF (Cond.eq_ints ec (Term.int_eval (0))) n5
  obtain ⟨fm, efm, rf⟩ := own_isref (Cond.before_iff.mp (hsets _ (List.mem_of_getElem? (i := 8) rfl)))
  have FM : pFM s fm := Sta.start efm (Or.inl (hsets _ (List.mem_of_getElem? (i := 7) rfl)))
  have SA : pSA s := Sta.start (eqv_i (Term.int_eval (1 : Int32)) (Cond.before_iff.mp (hsets _ (List.mem_of_getElem? (i := 12) rfl)))) (Or.inl (hsets _ (List.mem_of_getElem? (i := 11) rfl)))
  have SH : pSH s := Sta.start (eqv_i (Term.int_eval (0 : Int32)) (Cond.before_iff.mp (hsets _ (List.mem_of_getElem? (i := 15) rfl)))) (Or.inl (hsets _ (List.mem_of_getElem? (i := 14) rfl)))
  have SL : pSL s := Sta.start (eqv_i (Term.int_eval (8 : Int32)) (Cond.before_iff.mp (hsets _ (List.mem_of_getElem? (i := 18) rfl)))) (Or.inl (hsets _ (List.mem_of_getElem? (i := 17) rfl)))
  have hCH : CHv s consts_1 s.vm s.heap := CHv.start (own_EL hw) hcalls.1 (hsets _ (List.mem_of_getElem? (i := 2) rfl)) (tw hw 29 rfl) (tw hw 11 rfl)
  obtain ⟨n, o, h1, h2, h3, _, L, rfl, ⟨rfl, N⟩, hq⟩ := rm0 l s _ hw tables_1 i0 i1 i2 i3 i4 i5 gc fm s.heap s.heap.size (Old.start s) Sc c17 SA SH SL FM rf p e ha hc hk s m _ below hf ((Spec.applies_iff_loose hf).mp happ).1 ⟨rfl, State.Warmed39.refl s, rfl, hCH⟩ trivial
  refine ⟨n, _, h1, h2, h3, hpost _ _ _ _ _ _ ⟨Cond.after_iff.mpr rfl, Cond.after_iff.mpr (eq_i res_at (Term.int_eval (1)) rfl), trivial⟩ ⟨hq.1, hq.2.1, hq.2.2.1, (hq.2.2.2.sift fun y hy => Or.inr (N y hy)).mono (by decide) (by decide)⟩⟩
theorem main_1_1 : Claimed_1_1 := comes_1 fun _ _ _ _ _ _ h hF => ⟨h.1, hF⟩
theorem main_1_2 : Claimed_1_2 := comes_1 fun _ _ _ _ _ _ h hF => ⟨h.2.1, hF⟩
end Jvm.Pilot.@@N@@
namespace Jvm.Pilot.@@N@@
open Jvm Jvm.ClassFile Sem Op Lib Jvm.Free Jvm.Stand Jvm.Pilot.@@N@@.Jvm.D
/-! MADE BY PROGRAM (witnessworld.py) out of the Statement's table words and the real class files: 21 classes; the members and pool entries that the words name. The judged class is class 1, her method 1. -/
namespace start1
open Jvm.ClassFile
def u (s : String) : CpInfo := .utf8 (stringToUtf16 s)
/-- a pool by its gaps: so many unusable entries, then the entry; so many at the end -/
def gap : Nat → List CpInfo → List CpInfo
  | 0, r => r
  | n + 1, r => .unusable :: gap n r
def poolList (es : List (Nat × CpInfo)) (last : Nat) : List CpInfo := es.foldr (fun e r => gap e.1 (e.2 :: r)) (gap last [])
def pool (es : List (Nat × CpInfo)) (last : Nat) : Array CpInfo := ⟨poolList es last⟩
def fileOf (pool : Array CpInfo) (this : Nat) (attrs : Array Attribute := #[]) (ms : Array MethodInfo := #[]) (fl : Nat := 33) (sup : Nat := 0) (ifs : Array Nat := #[]) (fds : Array FieldInfo := #[]) : ClassFile where
  minorVersion := 0
  majorVersion := 65
  constantPool := pool
  accessFlags := fl
  thisClass := this
  superClass := sup
  interfaces := ifs
  fields := fds
  methods := ms
  attributes := attrs
def plain (name : String) (sup : Option ClassId) : Class where
  name := name
  kind := .ordinary
  loader := none
  accessFlags := 33
  super := sup
  interfaces := #[]
  cf := none
  fields := #[]
  methods := #[]
  instanceTypes := #[]
  staticTypes := #[]
  resolved := #[]
  callSites := []
  init := .initialized
  statics := none
  mirror := none

def pool0 : Array CpInfo := pool [(5, u "<init>"), (0, u "()V"), (1, .class_ 10), (1, u "java/lang/Object")] 113

def k0c0 : Code := { maxStack := 0, maxLocals := 1, code := object_method_1_code, exceptionTable := #[], attributes := #[] }
def k0m0 : Method := { name := "<init>", desc := "()V", sig := { parameters := [], returnType := none }, accessFlags := 1, code := some k0c0 }
/-- java/lang/Object -/
def k0 : Class := { plain "java/lang/Object" none with
  accessFlags := 33
  interfaces := #[]
  cf := some (fileOf pool0 8 #[] #[{ accessFlags := 1, nameIndex := 5, descriptorIndex := 6, attributes := #[] }] 33 0 #[] #[])
  fields := #[]
  methods := #[k0m0]
  instanceTypes := #[]
  staticTypes := #[]
  resolved := Array.replicate 124 none
  statics := none }

def pool1 : Array CpInfo := pool [(2, .class_ 4), (1, u "java/lang/Object"), (0, u "<init>"), (0, u "()V"), (0, .methodref 8 9), (0, .class_ 10), (0, .nameAndType 11 12), (0, u "com/example/webhook_guard/webhookguard/http/HeaderFieldEqualsIgnoringAsciiCasePinLaw"), (0, u "draw"), (0, u "(II)C"), (0, .methodref 8 14), (0, .nameAndType 15 16), (0, u "derive"), (0, u "(CIII)C"), (0, .methodref 8 18), (0, .nameAndType 19 20), (0, u "mk"), (0, u "(ICCC)Ljava/lang/String;"), (0, .methodref 8 22), (0, .nameAndType 23 24), (0, u "same"), (0, u "(CC)Z"), (0, .methodref 26 27), (0, .class_ 28), (0, .nameAndType 29 30), (0, u "com/example/webhook_guard/webhookguard/http/HeaderField"), (0, u "equalsIgnoringAsciiCase"), (0, u "(Ljava/lang/String;Ljava/lang/String;)Z"), (0, .integer 65535), (0, .class_ 33), (0, u "java/lang/String"), (0, .methodref 32 35), (0, .nameAndType 5 36), (0, u "([C)V"), (2, u "law"), (0, u "(IIIIII)Z")] 3

def k1m0 : Method := { name := "<init>", desc := "()V", sig := { parameters := [], returnType := none }, accessFlags := 2, code := none }
def k1c1 : Code := { maxStack := 5, maxLocals := 17, code := code, exceptionTable := #[], attributes := #[] }
def k1m1 : Method := { name := "law", desc := "(IIIIII)Z", sig := { parameters := [.int, .int, .int, .int, .int, .int], returnType := some .boolean }, accessFlags := 9, code := some k1c1 }
def k1c2 : Code := { maxStack := 2, maxLocals := 3, code := method_3_code, exceptionTable := #[], attributes := #[] }
def k1m2 : Method := { name := "draw", desc := "(II)C", sig := { parameters := [.int, .int], returnType := some .char }, accessFlags := 10, code := some k1c2 }
def k1c3 : Code := { maxStack := 2, maxLocals := 5, code := method_4_code, exceptionTable := #[], attributes := #[] }
def k1m3 : Method := { name := "derive", desc := "(CIII)C", sig := { parameters := [.char, .int, .int, .int], returnType := some .char }, accessFlags := 10, code := some k1c3 }
def k1c4 : Code := { maxStack := 2, maxLocals := 4, code := method_5_code, exceptionTable := #[], attributes := #[] }
def k1m4 : Method := { name := "same", desc := "(CC)Z", sig := { parameters := [.char, .char], returnType := some .boolean }, accessFlags := 10, code := some k1c4 }
def k1c5 : Code := { maxStack := 6, maxLocals := 4, code := method_6_code, exceptionTable := #[], attributes := #[] }
def k1m5 : Method := { name := "mk", desc := "(ICCC)Ljava/lang/String;", sig := { parameters := [.int, .char, .char, .char], returnType := some (.object "java/lang/String") }, accessFlags := 10, code := some k1c5 }
/-- com/example/webhook_guard/webhookguard/http/HeaderFieldEqualsIgnoringAsciiCasePinLaw -/
def k1 : Class := { plain "com/example/webhook_guard/webhookguard/http/HeaderFieldEqualsIgnoringAsciiCasePinLaw" (some 0) with
  accessFlags := 49
  interfaces := #[]
  cf := some (fileOf pool1 8 #[] #[{ accessFlags := 2, nameIndex := 5, descriptorIndex := 6, attributes := #[] }, { accessFlags := 9, nameIndex := 39, descriptorIndex := 40, attributes := #[] }, { accessFlags := 10, nameIndex := 11, descriptorIndex := 12, attributes := #[] }, { accessFlags := 10, nameIndex := 15, descriptorIndex := 16, attributes := #[] }, { accessFlags := 10, nameIndex := 23, descriptorIndex := 24, attributes := #[] }, { accessFlags := 10, nameIndex := 19, descriptorIndex := 20, attributes := #[] }] 49 2 #[] #[])
  fields := #[]
  methods := #[k1m0, k1m1, k1m2, k1m3, k1m4, k1m5]
  instanceTypes := #[]
  staticTypes := #[]
  resolved := Array.replicate 44 none
  statics := none }

def pool2 : Array CpInfo := pool [(1, .class_ 2), (0, u "java/io/Serializable"), (0, .class_ 4), (0, u "java/lang/Object")] 2

/-- java/io/Serializable -/
def k2 : Class := { plain "java/io/Serializable" (some 0) with
  accessFlags := 1537
  interfaces := #[]
  cf := some (fileOf pool2 1 #[] #[] 1537 3 #[] #[])
  fields := #[]
  methods := #[]
  instanceTypes := #[]
  staticTypes := #[]
  resolved := Array.replicate 7 none
  statics := none }

def pool3 : Array CpInfo := pool [(1, .class_ 2), (0, u "java/lang/Comparable"), (0, .class_ 4), (0, u "java/lang/Object")] 7

/-- java/lang/Comparable -/
def k3 : Class := { plain "java/lang/Comparable" (some 0) with
  accessFlags := 1537
  interfaces := #[]
  cf := some (fileOf pool3 1 #[] #[] 1537 3 #[] #[])
  fields := #[]
  methods := #[]
  instanceTypes := #[]
  staticTypes := #[]
  resolved := Array.replicate 12 none
  statics := none }

def pool4 : Array CpInfo := pool [(2, .class_ 4), (1, u "java/lang/CharSequence"), (42, .class_ 48), (0, u "java/lang/CharSequence$1CodePointIterator"), (10, .class_ 60), (0, u "java/lang/CharSequence$1CharIterator"), (5, .class_ 67), (0, u "java/lang/Object")] 63

/-- java/lang/CharSequence -/
def k4 : Class := { plain "java/lang/CharSequence" (some 0) with
  accessFlags := 1537
  interfaces := #[]
  cf := some (fileOf pool4 2 #[.nestMembers #[47, 59]] #[] 1537 66 #[] #[])
  fields := #[]
  methods := #[]
  instanceTypes := #[]
  staticTypes := #[]
  resolved := Array.replicate 131 none
  statics := none }

def pool5 : Array CpInfo := pool [(1, .class_ 2), (0, u "java/lang/constant/Constable"), (0, .class_ 4), (0, u "java/lang/Object")] 6

/-- java/lang/constant/Constable -/
def k5 : Class := { plain "java/lang/constant/Constable" (some 0) with
  accessFlags := 1537
  interfaces := #[]
  cf := some (fileOf pool5 1 #[] #[] 1537 3 #[] #[])
  fields := #[]
  methods := #[]
  instanceTypes := #[]
  staticTypes := #[]
  resolved := Array.replicate 11 none
  statics := none }

def pool6 : Array CpInfo := pool [(1, .class_ 2), (0, u "java/lang/constant/ConstantDesc"), (0, .class_ 4), (0, u "java/lang/Object")] 32

/-- java/lang/constant/ConstantDesc -/
def k6 : Class := { plain "java/lang/constant/ConstantDesc" (some 0) with
  accessFlags := 1537
  interfaces := #[]
  cf := some (fileOf pool6 1 #[] #[] 1537 3 #[] #[])
  fields := #[]
  methods := #[]
  instanceTypes := #[]
  staticTypes := #[]
  resolved := Array.replicate 37 none
  statics := none }

def pool7 : Array CpInfo := pool [(1, .methodref 2 3), (0, .class_ 4), (0, .nameAndType 5 6), (0, u "java/lang/Object"), (0, u "<init>"), (0, u "()V"), (0, .string 8), (0, u ""), (0, .fieldref 10 11), (0, .class_ 12), (0, .nameAndType 13 14), (0, u "java/lang/String"), (0, u "value"), (0, u "[B"), (0, .fieldref 10 16), (0, .nameAndType 17 18), (0, u "coder"), (0, u "B"), (2, u "hash"), (0, u "I"), (2, u "hashIsZero"), (0, u "Z"), (0, .methodref 10 28), (0, .nameAndType 5 29), (0, u "([CIILjava/lang/Void;)V"), (8, .fieldref 10 39), (0, .nameAndType 40 26), (0, u "COMPACT_STRINGS"), (1, .class_ 44), (1, u "java/lang/StringUTF16"), (0, u "compress"), (1, .methodref 42 48), (0, .nameAndType 49 50), (0, u "coderFromArrayLen"), (0, u "([BI)B"), (56, .class_ 109), (1, u "java/lang/StringLatin1"), (32, u "()Z"), (34, .methodref 42 178), (0, .nameAndType 45 179), (0, u "([CII)[B"), (154, u "()I"), (0, .methodref 10 336), (0, .nameAndType 17 337), (0, u "()B"), (25, u "([BI)C"), (27, u "(II)V"), (35, u "(I)C"), (64, .methodref 10 493), (0, .nameAndType 494 142), (0, u "isLatin1"), (0, .methodref 107 496), (0, .nameAndType 497 363), (0, u "charAt"), (0, .methodref 42 496), (2, u "checkIndex"), (5, u "length"), (67, .class_ 576), (0, u "java/lang/CharSequence"), (22, u "CASE_INSENSITIVE_ORDER"), (0, u "Ljava/util/Comparator;"), (409, u "([C)V"), (42, .fieldref 1054 1055), (0, .class_ 1056), (0, .nameAndType 1057 1058), (0, u "jdk/internal/util/Preconditions"), (0, u "SIOOBE_FORMATTER"), (0, u "Ljava/util/function/BiFunction;"), (0, .methodref 1054 1060), (0, .nameAndType 501 1061), (0, u "(IILjava/util/function/BiFunction;)I"), (39, u "serialPersistentFields"), (0, u "[Ljava/io/ObjectStreamField;"), (0, .class_ 1104), (0, u "java/lang/String$CaseInsensitiveComparator"), (1, .class_ 1107), (0, u "java/io/Serializable"), (0, .class_ 1109), (0, u "java/lang/Comparable"), (0, .class_ 1111), (0, u "java/lang/constant/Constable"), (0, .class_ 1113), (0, u "java/lang/constant/ConstantDesc"), (2, u "serialVersionUID"), (0, u "J"), (3, u "REPL"), (0, u "C"), (2, u "LATIN1"), (1, u "UTF16")] 323

def k7m0 : Method := { name := "<init>", desc := "()V", sig := { parameters := [], returnType := none }, accessFlags := 1, code := none }
def k7c1 : Code := { maxStack := 5, maxLocals := 2, code := jdk_42_method_3_code, exceptionTable := #[], attributes := #[] }
def k7m1 : Method := { name := "<init>", desc := "([C)V", sig := { parameters := [(.array .char)], returnType := none }, accessFlags := 1, code := some k7c1 }
def k7c2 : Code := { maxStack := 2, maxLocals := 1, code := jdk_42_method_54_code, exceptionTable := #[], attributes := #[] }
def k7m2 : Method := { name := "length", desc := "()I", sig := { parameters := [], returnType := some .int }, accessFlags := 1, code := some k7c2 }
def k7c3 : Code := { maxStack := 2, maxLocals := 2, code := jdk_42_method_56_code, exceptionTable := #[], attributes := #[] }
def k7m3 : Method := { name := "charAt", desc := "(I)C", sig := { parameters := [.int], returnType := some .char }, accessFlags := 1, code := some k7c3 }
def k7c4 : Code := { maxStack := 4, maxLocals := 6, code := jdk_42_method_149_code, exceptionTable := #[], attributes := #[] }
def k7m4 : Method := { name := "<init>", desc := "([CIILjava/lang/Void;)V", sig := { parameters := [(.array .char), .int, .int, (.object "java/lang/Void")], returnType := none }, accessFlags := 2, code := some k7c4 }
def k7c5 : Code := { maxStack := 1, maxLocals := 1, code := jdk_42_method_152_code, exceptionTable := #[], attributes := #[] }
def k7m5 : Method := { name := "coder", desc := "()B", sig := { parameters := [], returnType := some .byte }, accessFlags := 0, code := some k7c5 }
def k7c6 : Code := { maxStack := 1, maxLocals := 1, code := jdk_42_method_154_code, exceptionTable := #[], attributes := #[] }
def k7m6 : Method := { name := "isLatin1", desc := "()Z", sig := { parameters := [], returnType := some .boolean }, accessFlags := 0, code := some k7c6 }
def k7c7 : Code := { maxStack := 3, maxLocals := 2, code := jdk_42_method_155_code, exceptionTable := #[], attributes := #[] }
def k7m7 : Method := { name := "checkIndex", desc := "(II)V", sig := { parameters := [.int, .int], returnType := none }, accessFlags := 8, code := some k7c7 }
/-- java/lang/String -/
def k7 : Class := { plain "java/lang/String" (some 0) with
  accessFlags := 49
  interfaces := #[2, 3, 4, 5, 6]
  cf := some (fileOf pool7 10 #[.nestMembers #[1103]] #[{ accessFlags := 1, nameIndex := 5, descriptorIndex := 6, attributes := #[] }, { accessFlags := 1, nameIndex := 5, descriptorIndex := 1010, attributes := #[] }, { accessFlags := 1, nameIndex := 507, descriptorIndex := 334, attributes := #[] }, { accessFlags := 1, nameIndex := 497, descriptorIndex := 427, attributes := #[] }, { accessFlags := 2, nameIndex := 5, descriptorIndex := 29, attributes := #[] }, { accessFlags := 0, nameIndex := 17, descriptorIndex := 337, attributes := #[] }, { accessFlags := 0, nameIndex := 494, descriptorIndex := 142, attributes := #[] }, { accessFlags := 8, nameIndex := 501, descriptorIndex := 391, attributes := #[] }] 49 2 #[1106, 1108, 575, 1110, 1112] #[{ accessFlags := 18, nameIndex := 13, descriptorIndex := 14, attributes := #[] }, { accessFlags := 18, nameIndex := 17, descriptorIndex := 18, attributes := #[] }, { accessFlags := 2, nameIndex := 21, descriptorIndex := 22, attributes := #[] }, { accessFlags := 2, nameIndex := 25, descriptorIndex := 26, attributes := #[] }, { accessFlags := 26, nameIndex := 1116, descriptorIndex := 1117, attributes := #[] }, { accessFlags := 24, nameIndex := 40, descriptorIndex := 26, attributes := #[] }, { accessFlags := 26, nameIndex := 1101, descriptorIndex := 1102, attributes := #[] }, { accessFlags := 26, nameIndex := 1121, descriptorIndex := 1122, attributes := #[] }, { accessFlags := 25, nameIndex := 599, descriptorIndex := 600, attributes := #[] }, { accessFlags := 24, nameIndex := 1125, descriptorIndex := 18, attributes := #[] }, { accessFlags := 24, nameIndex := 1127, descriptorIndex := 18, attributes := #[] }])
  fields := #[{ name := "value", type := (.array .byte), accessFlags := 18, slot := 0, constantValue := 0 }, { name := "coder", type := .byte, accessFlags := 18, slot := 1, constantValue := 0 }, { name := "hash", type := .int, accessFlags := 2, slot := 2, constantValue := 0 }, { name := "hashIsZero", type := .boolean, accessFlags := 2, slot := 3, constantValue := 0 }, { name := "serialVersionUID", type := .long, accessFlags := 26, slot := 0, constantValue := 0 }, { name := "COMPACT_STRINGS", type := .boolean, accessFlags := 24, slot := 1, constantValue := 0 }, { name := "serialPersistentFields", type := (.array (.object "java/io/ObjectStreamField")), accessFlags := 26, slot := 2, constantValue := 0 }, { name := "REPL", type := .char, accessFlags := 26, slot := 3, constantValue := 0 }, { name := "CASE_INSENSITIVE_ORDER", type := (.object "java/util/Comparator"), accessFlags := 25, slot := 4, constantValue := 0 }, { name := "LATIN1", type := .byte, accessFlags := 24, slot := 5, constantValue := 0 }, { name := "UTF16", type := .byte, accessFlags := 24, slot := 6, constantValue := 0 }]
  methods := #[k7m0, k7m1, k7m2, k7m3, k7m4, k7m5, k7m6, k7m7]
  instanceTypes := #[(.array .byte), .byte, .int, .boolean]
  staticTypes := #[.long, .boolean, (.array (.object "java/io/ObjectStreamField")), .char, (.object "java/util/Comparator"), .byte, .byte]
  resolved := Array.replicate 1451 none
  statics := some 0 }

def pool8 : Array CpInfo := pool [(3, .class_ 4), (0, u "java/lang/String"), (1, .class_ 8), (1, u "java/lang/Object"), (0, u "<init>"), (0, u "()V"), (0, .methodref 12 13), (0, .class_ 14), (0, .nameAndType 15 16), (0, u "java/lang/StringUTF16"), (0, u "newBytesLength"), (0, u "(I)I"), (3, .integer 1073741823), (23, .fieldref 12 45), (0, .nameAndType 46 47), (0, u "$assertionsDisabled"), (0, u "Z"), (0, .methodref 12 49), (0, .nameAndType 50 51), (0, u "length"), (0, u "([B)I"), (7, .fieldref 12 60), (0, .nameAndType 61 62), (0, u "HI_BYTE_SHIFT"), (0, u "I"), (0, .fieldref 12 64), (0, .nameAndType 65 62), (0, u "LO_BYTE_SHIFT"), (1, .methodref 12 68), (0, .nameAndType 69 70), (0, u "checkIndex"), (0, u "(I[B)V"), (0, .methodref 12 72), (0, .nameAndType 73 74), (0, u "getChar"), (0, u "([BI)C"), (32, .methodref 12 108), (0, .nameAndType 109 110), (0, u "newBytesFor"), (0, u "(I)[B"), (0, .methodref 12 112), (0, .nameAndType 113 114), (0, u "putChar"), (0, u "([BII)V"), (0, .methodref 12 116), (0, .nameAndType 117 118), (0, u "compress"), (0, u "([CI[BII)I"), (0, .methodref 12 120), (0, .nameAndType 121 122), (0, u "toBytes"), (0, u "([CII)[B"), (138, u "coderFromArrayLen"), (0, u "([BI)B"), (106, .class_ 371), (1, u "java/lang/StringUTF16$LinesSpliterator"), (20, u "charAt"), (21, .methodref 3 415), (0, .nameAndType 69 416), (0, u "(II)V"), (13, u "MAX_LENGTH"), (196, .class_ 628), (0, u "java/lang/StringUTF16$CodePointsSpliterator"), (0, .class_ 630), (0, u "java/lang/StringUTF16$CharsSpliterator")] 4

def k8m0 : Method := { name := "<init>", desc := "()V", sig := { parameters := [], returnType := none }, accessFlags := 0, code := none }
def k8c1 : Code := { maxStack := 1, maxLocals := 1, code := jdk_52_method_2_code, exceptionTable := #[], attributes := #[] }
def k8m1 : Method := { name := "newBytesFor", desc := "(I)[B", sig := { parameters := [.int], returnType := some (.array .byte) }, accessFlags := 9, code := some k8c1 }
def k8c2 : Code := { maxStack := 4, maxLocals := 1, code := jdk_52_method_3_code, exceptionTable := #[], attributes := #[] }
def k8m2 : Method := { name := "newBytesLength", desc := "(I)I", sig := { parameters := [.int], returnType := some .int }, accessFlags := 9, code := some k8c2 }
def k8c3 : Code := { maxStack := 4, maxLocals := 3, code := jdk_52_method_4_code, exceptionTable := #[], attributes := #[] }
def k8m3 : Method := { name := "putChar", desc := "([BII)V", sig := { parameters := [(.array .byte), .int, .int], returnType := none }, accessFlags := 8, code := some k8c3 }
def k8c4 : Code := { maxStack := 3, maxLocals := 2, code := jdk_52_method_5_code, exceptionTable := #[], attributes := #[] }
def k8m4 : Method := { name := "getChar", desc := "([BI)C", sig := { parameters := [(.array .byte), .int], returnType := some .char }, accessFlags := 8, code := some k8c4 }
def k8c5 : Code := { maxStack := 2, maxLocals := 1, code := jdk_52_method_6_code, exceptionTable := #[], attributes := #[] }
def k8m5 : Method := { name := "length", desc := "([B)I", sig := { parameters := [(.array .byte)], returnType := some .int }, accessFlags := 9, code := some k8c5 }
def k8c6 : Code := { maxStack := 4, maxLocals := 5, code := jdk_52_method_14_code, exceptionTable := #[], attributes := #[] }
def k8m6 : Method := { name := "toBytes", desc := "([CII)[B", sig := { parameters := [(.array .char), .int, .int], returnType := some (.array .byte) }, accessFlags := 9, code := some k8c6 }
def k8c7 : Code := { maxStack := 2, maxLocals := 2, code := jdk_52_method_15_code, exceptionTable := #[], attributes := #[] }
def k8m7 : Method := { name := "coderFromArrayLen", desc := "([BI)B", sig := { parameters := [(.array .byte), .int], returnType := some .byte }, accessFlags := 8, code := some k8c7 }
def k8c8 : Code := { maxStack := 5, maxLocals := 6, code := jdk_52_method_16_code, exceptionTable := #[], attributes := #[] }
def k8m8 : Method := { name := "compress", desc := "([CII)[B", sig := { parameters := [(.array .char), .int, .int], returnType := some (.array .byte) }, accessFlags := 9, code := some k8c8 }
def k8c9 : Code := { maxStack := 3, maxLocals := 7, code := jdk_52_method_21_code, exceptionTable := #[], attributes := #[] }
def k8m9 : Method := { name := "compress", desc := "([CI[BII)I", sig := { parameters := [(.array .char), .int, (.array .byte), .int, .int], returnType := some .int }, accessFlags := 9, code := some k8c9 }
def k8c10 : Code := { maxStack := 2, maxLocals := 2, code := jdk_52_method_83_code, exceptionTable := #[], attributes := #[] }
def k8m10 : Method := { name := "charAt", desc := "([BI)C", sig := { parameters := [(.array .byte), .int], returnType := some .char }, accessFlags := 9, code := some k8c10 }
def k8c11 : Code := { maxStack := 2, maxLocals := 2, code := jdk_52_method_91_code, exceptionTable := #[], attributes := #[] }
def k8m11 : Method := { name := "checkIndex", desc := "(I[B)V", sig := { parameters := [.int, (.array .byte)], returnType := none }, accessFlags := 9, code := some k8c11 }
/-- java/lang/StringUTF16 -/
def k8 : Class := { plain "java/lang/StringUTF16" (some 0) with
  accessFlags := 48
  interfaces := #[]
  cf := some (fileOf pool8 12 #[.nestMembers #[627, 629, 369]] #[{ accessFlags := 0, nameIndex := 9, descriptorIndex := 10, attributes := #[] }, { accessFlags := 9, nameIndex := 109, descriptorIndex := 110, attributes := #[] }, { accessFlags := 9, nameIndex := 15, descriptorIndex := 16, attributes := #[] }, { accessFlags := 8, nameIndex := 113, descriptorIndex := 114, attributes := #[] }, { accessFlags := 8, nameIndex := 73, descriptorIndex := 74, attributes := #[] }, { accessFlags := 9, nameIndex := 50, descriptorIndex := 51, attributes := #[] }, { accessFlags := 9, nameIndex := 121, descriptorIndex := 122, attributes := #[] }, { accessFlags := 8, nameIndex := 261, descriptorIndex := 262, attributes := #[] }, { accessFlags := 9, nameIndex := 117, descriptorIndex := 122, attributes := #[] }, { accessFlags := 9, nameIndex := 117, descriptorIndex := 118, attributes := #[] }, { accessFlags := 9, nameIndex := 392, descriptorIndex := 74, attributes := #[] }, { accessFlags := 9, nameIndex := 69, descriptorIndex := 70, attributes := #[] }] 48 6 #[] #[{ accessFlags := 26, nameIndex := 61, descriptorIndex := 62, attributes := #[] }, { accessFlags := 26, nameIndex := 65, descriptorIndex := 62, attributes := #[] }, { accessFlags := 24, nameIndex := 430, descriptorIndex := 62, attributes := #[] }, { accessFlags := 4120, nameIndex := 46, descriptorIndex := 47, attributes := #[] }])
  fields := #[{ name := "HI_BYTE_SHIFT", type := .int, accessFlags := 26, slot := 0, constantValue := 0 }, { name := "LO_BYTE_SHIFT", type := .int, accessFlags := 26, slot := 1, constantValue := 0 }, { name := "MAX_LENGTH", type := .int, accessFlags := 24, slot := 2, constantValue := 0 }, { name := "$assertionsDisabled", type := .boolean, accessFlags := 4120, slot := 3, constantValue := 0 }]
  methods := #[k8m0, k8m1, k8m2, k8m3, k8m4, k8m5, k8m6, k8m7, k8m8, k8m9, k8m10, k8m11]
  instanceTypes := #[]
  staticTypes := #[.int, .int, .int, .boolean]
  resolved := Array.replicate 635 none
  statics := some 1 }

def pool9 : Array CpInfo := pool [(2, .class_ 4), (1, u "java/lang/Object"), (0, u "<init>"), (0, u "()V"), (0, .class_ 8), (0, u "java/lang/Record")] 13

def k9m0 : Method := { name := "<init>", desc := "()V", sig := { parameters := [], returnType := none }, accessFlags := 4, code := none }
/-- java/lang/Record -/
def k9 : Class := { plain "java/lang/Record" (some 0) with
  accessFlags := 1057
  interfaces := #[]
  cf := some (fileOf pool9 7 #[] #[{ accessFlags := 4, nameIndex := 5, descriptorIndex := 6, attributes := #[] }] 1057 2 #[] #[])
  fields := #[]
  methods := #[k9m0]
  instanceTypes := #[]
  staticTypes := #[]
  resolved := Array.replicate 22 none
  statics := none }

def pool10 : Array CpInfo := pool [(2, .class_ 4), (1, u "java/lang/Record"), (3, u "name"), (7, u "value"), (0, .methodref 18 19), (0, .class_ 20), (0, .nameAndType 21 22), (0, u "java/lang/String"), (0, u "length"), (0, u "()I"), (0, .methodref 18 24), (0, .nameAndType 25 26), (0, u "charAt"), (0, u "(I)C"), (1, .class_ 30), (1, u "com/example/webhook_guard/webhookguard/http/HeaderField"), (8, u "Ljava/lang/String;"), (4, u "equalsIgnoringAsciiCase"), (0, u "(Ljava/lang/String;Ljava/lang/String;)Z"), (2, u "TOKEN_ONLY"), (0, u "Ljava/util/regex/Pattern;"), (14, u "FIELD_VALUE_ONLY"), (57, .methodref 28 123), (0, .nameAndType 124 125), (0, u "lowerAscii"), (0, u "(C)C"), (20, u "TOKEN"), (1, u "FIELD_VALUE")] 36

def k10c0 : Code := { maxStack := 3, maxLocals := 3, code := prog_7_method_7_code, exceptionTable := #[], attributes := #[] }
def k10m0 : Method := { name := "equalsIgnoringAsciiCase", desc := "(Ljava/lang/String;Ljava/lang/String;)Z", sig := { parameters := [(.object "java/lang/String"), (.object "java/lang/String")], returnType := some .boolean }, accessFlags := 8, code := some k10c0 }
def k10c1 : Code := { maxStack := 2, maxLocals := 1, code := prog_7_method_8_code, exceptionTable := #[], attributes := #[] }
def k10m1 : Method := { name := "lowerAscii", desc := "(C)C", sig := { parameters := [.char], returnType := some .char }, accessFlags := 10, code := some k10c1 }
/-- com/example/webhook_guard/webhookguard/http/HeaderField -/
def k10 : Class := { plain "com/example/webhook_guard/webhookguard/http/HeaderField" (some 9) with
  accessFlags := 49
  interfaces := #[]
  cf := some (fileOf pool10 28 #[] #[{ accessFlags := 8, nameIndex := 44, descriptorIndex := 45, attributes := #[] }, { accessFlags := 10, nameIndex := 124, descriptorIndex := 125, attributes := #[] }] 49 2 #[] #[{ accessFlags := 18, nameIndex := 8, descriptorIndex := 39, attributes := #[] }, { accessFlags := 18, nameIndex := 16, descriptorIndex := 39, attributes := #[] }, { accessFlags := 24, nameIndex := 146, descriptorIndex := 39, attributes := #[] }, { accessFlags := 24, nameIndex := 148, descriptorIndex := 39, attributes := #[] }, { accessFlags := 26, nameIndex := 48, descriptorIndex := 49, attributes := #[] }, { accessFlags := 26, nameIndex := 64, descriptorIndex := 49, attributes := #[] }])
  fields := #[{ name := "name", type := (.object "java/lang/String"), accessFlags := 18, slot := 0, constantValue := 0 }, { name := "value", type := (.object "java/lang/String"), accessFlags := 18, slot := 1, constantValue := 0 }, { name := "TOKEN", type := (.object "java/lang/String"), accessFlags := 24, slot := 0, constantValue := 0 }, { name := "FIELD_VALUE", type := (.object "java/lang/String"), accessFlags := 24, slot := 1, constantValue := 0 }, { name := "TOKEN_ONLY", type := (.object "java/util/regex/Pattern"), accessFlags := 26, slot := 2, constantValue := 0 }, { name := "FIELD_VALUE_ONLY", type := (.object "java/util/regex/Pattern"), accessFlags := 26, slot := 3, constantValue := 0 }]
  methods := #[k10m0, k10m1]
  instanceTypes := #[(.object "java/lang/String"), (.object "java/lang/String")]
  staticTypes := #[(.object "java/lang/String"), (.object "java/lang/String"), (.object "java/util/regex/Pattern"), (.object "java/util/regex/Pattern")]
  resolved := Array.replicate 185 none
  statics := none }

def pool11 : Array CpInfo := pool [(1, .class_ 2), (0, u "java/lang/String"), (1, .class_ 6), (1, u "java/lang/Object"), (0, u "<init>"), (0, u "()V"), (0, .methodref 1 10), (0, .nameAndType 11 12), (0, u "checkIndex"), (0, u "(II)V"), (1, .class_ 16), (1, u "java/lang/StringLatin1"), (36, u "([BI)C"), (67, u "$assertionsDisabled"), (0, u "Z"), (98, .class_ 223), (1, u "java/lang/StringLatin1$LinesSpliterator"), (28, u "charAt"), (137, .class_ 391), (0, u "java/lang/StringLatin1$CharsSpliterator")] 3

def k11m0 : Method := { name := "<init>", desc := "()V", sig := { parameters := [], returnType := none }, accessFlags := 0, code := none }
def k11c1 : Code := { maxStack := 2, maxLocals := 2, code := jdk_43_method_2_code, exceptionTable := #[], attributes := #[] }
def k11m1 : Method := { name := "charAt", desc := "([BI)C", sig := { parameters := [(.array .byte), .int], returnType := some .char }, accessFlags := 9, code := some k11c1 }
/-- java/lang/StringLatin1 -/
def k11 : Class := { plain "java/lang/StringLatin1" (some 0) with
  accessFlags := 48
  interfaces := #[]
  cf := some (fileOf pool11 14 #[.nestMembers #[390, 221]] #[{ accessFlags := 0, nameIndex := 7, descriptorIndex := 8, attributes := #[] }, { accessFlags := 9, nameIndex := 252, descriptorIndex := 53, attributes := #[] }] 48 4 #[] #[{ accessFlags := 4120, nameIndex := 121, descriptorIndex := 122, attributes := #[] }])
  fields := #[{ name := "$assertionsDisabled", type := .boolean, accessFlags := 4120, slot := 0, constantValue := 0 }]
  methods := #[k11m0, k11m1]
  instanceTypes := #[]
  staticTypes := #[.boolean]
  resolved := Array.replicate 395 none
  statics := none }

def pool12 : Array CpInfo := pool [(2, .class_ 4), (1, u "java/lang/Object"), (0, u "<init>"), (0, u "()V"), (17, .class_ 26), (1, u "jdk/internal/util/Preconditions"), (6, u "checkIndex"), (21, .class_ 56), (0, u "jdk/internal/util/Preconditions$4"), (57, .class_ 115), (0, u "jdk/internal/util/Preconditions$1"), (7, u "SIOOBE_FORMATTER"), (0, u "Ljava/util/function/BiFunction;"), (0, .class_ 126), (0, u "jdk/internal/util/Preconditions$2"), (3, u "AIOOBE_FORMATTER"), (0, .class_ 132), (0, u "jdk/internal/util/Preconditions$3"), (3, u "IOOBE_FORMATTER"), (41, u "(IILjava/util/function/BiFunction;)I")] 15

def k12m0 : Method := { name := "<init>", desc := "()V", sig := { parameters := [], returnType := none }, accessFlags := 1, code := none }
def k12c1 : Code := { maxStack := 3, maxLocals := 3, code := jdk_41_method_11_code, exceptionTable := #[], attributes := #[] }
def k12m1 : Method := { name := "checkIndex", desc := "(IILjava/util/function/BiFunction;)I", sig := { parameters := [.int, .int, (.object "java/util/function/BiFunction")], returnType := some .int }, accessFlags := 9, code := some k12c1 }
/-- jdk/internal/util/Preconditions -/
def k12 : Class := { plain "jdk/internal/util/Preconditions" (some 0) with
  accessFlags := 33
  interfaces := #[]
  cf := some (fileOf pool12 24 #[.nestMembers #[55, 131, 125, 114]] #[{ accessFlags := 1, nameIndex := 5, descriptorIndex := 6, attributes := #[] }, { accessFlags := 9, nameIndex := 33, descriptorIndex := 178, attributes := #[] }] 33 2 #[] #[{ accessFlags := 25, nameIndex := 123, descriptorIndex := 124, attributes := #[] }, { accessFlags := 25, nameIndex := 130, descriptorIndex := 124, attributes := #[] }, { accessFlags := 25, nameIndex := 136, descriptorIndex := 124, attributes := #[] }])
  fields := #[{ name := "SIOOBE_FORMATTER", type := (.object "java/util/function/BiFunction"), accessFlags := 25, slot := 0, constantValue := 0 }, { name := "AIOOBE_FORMATTER", type := (.object "java/util/function/BiFunction"), accessFlags := 25, slot := 1, constantValue := 0 }, { name := "IOOBE_FORMATTER", type := (.object "java/util/function/BiFunction"), accessFlags := 25, slot := 2, constantValue := 0 }]
  methods := #[k12m0, k12m1]
  instanceTypes := #[]
  staticTypes := #[(.object "java/util/function/BiFunction"), (.object "java/util/function/BiFunction"), (.object "java/util/function/BiFunction")]
  resolved := Array.replicate 194 none
  statics := some 2 }

def pool13 : Array CpInfo := pool [(9, u "<init>"), (6, .class_ 18), (1, u "java/lang/Object"), (0, u "()V"), (1, .class_ 23), (1, u "jdk/internal/util/ArraysSupport"), (0, u "LOG2_ARRAY_LONG_INDEX_SCALE"), (0, u "I"), (2, u "U"), (0, u "Ljdk/internal/misc/Unsafe;"), (8, u "BIG_ENDIAN"), (0, u "Z"), (8, u "LOG2_BYTE_BIT_SIZE"), (4, u "LOG2_ARRAY_INT_INDEX_SCALE"), (54, u "JLA"), (0, u "Ljdk/internal/access/JavaLangAccess;"), (11, u "LOG2_ARRAY_BOOLEAN_INDEX_SCALE"), (9, u "LOG2_ARRAY_BYTE_INDEX_SCALE"), (5, u "LOG2_ARRAY_CHAR_INDEX_SCALE"), (5, u "LOG2_ARRAY_SHORT_INDEX_SCALE"), (18, u "LOG2_ARRAY_FLOAT_INDEX_SCALE"), (24, u "LOG2_ARRAY_DOUBLE_INDEX_SCALE"), (89, u "T_BOOLEAN"), (2, u "T_CHAR"), (1, u "T_FLOAT"), (1, u "T_DOUBLE"), (1, u "T_BYTE"), (1, u "T_SHORT"), (1, u "T_INT"), (1, u "T_LONG"), (1, u "SOFT_MAX_ARRAY_LENGTH")] 83

def k13m0 : Method := { name := "<init>", desc := "()V", sig := { parameters := [], returnType := none }, accessFlags := 2, code := none }
/-- jdk/internal/util/ArraysSupport -/
def k13 : Class := { plain "jdk/internal/util/ArraysSupport" (some 0) with
  accessFlags := 33
  interfaces := #[]
  cf := some (fileOf pool13 21 #[] #[{ accessFlags := 2, nameIndex := 9, descriptorIndex := 19, attributes := #[] }] 33 16 #[] #[{ accessFlags := 24, nameIndex := 28, descriptorIndex := 29, attributes := #[] }, { accessFlags := 26, nameIndex := 38, descriptorIndex := 39, attributes := #[] }, { accessFlags := 25, nameIndex := 121, descriptorIndex := 25, attributes := #[] }, { accessFlags := 25, nameIndex := 131, descriptorIndex := 25, attributes := #[] }, { accessFlags := 25, nameIndex := 137, descriptorIndex := 25, attributes := #[] }, { accessFlags := 25, nameIndex := 143, descriptorIndex := 25, attributes := #[] }, { accessFlags := 25, nameIndex := 53, descriptorIndex := 25, attributes := #[] }, { accessFlags := 25, nameIndex := 24, descriptorIndex := 25, attributes := #[] }, { accessFlags := 25, nameIndex := 162, descriptorIndex := 25, attributes := #[] }, { accessFlags := 25, nameIndex := 187, descriptorIndex := 25, attributes := #[] }, { accessFlags := 26, nameIndex := 48, descriptorIndex := 25, attributes := #[] }, { accessFlags := 25, nameIndex := 277, descriptorIndex := 25, attributes := #[] }, { accessFlags := 25, nameIndex := 280, descriptorIndex := 25, attributes := #[] }, { accessFlags := 25, nameIndex := 282, descriptorIndex := 25, attributes := #[] }, { accessFlags := 25, nameIndex := 284, descriptorIndex := 25, attributes := #[] }, { accessFlags := 25, nameIndex := 286, descriptorIndex := 25, attributes := #[] }, { accessFlags := 25, nameIndex := 288, descriptorIndex := 25, attributes := #[] }, { accessFlags := 25, nameIndex := 290, descriptorIndex := 25, attributes := #[] }, { accessFlags := 25, nameIndex := 292, descriptorIndex := 25, attributes := #[] }, { accessFlags := 26, nameIndex := 108, descriptorIndex := 109, attributes := #[] }, { accessFlags := 25, nameIndex := 294, descriptorIndex := 25, attributes := #[] }])
  fields := #[{ name := "U", type := (.object "jdk/internal/misc/Unsafe"), accessFlags := 24, slot := 0, constantValue := 0 }, { name := "BIG_ENDIAN", type := .boolean, accessFlags := 26, slot := 1, constantValue := 0 }, { name := "LOG2_ARRAY_BOOLEAN_INDEX_SCALE", type := .int, accessFlags := 25, slot := 2, constantValue := 0 }, { name := "LOG2_ARRAY_BYTE_INDEX_SCALE", type := .int, accessFlags := 25, slot := 3, constantValue := 0 }, { name := "LOG2_ARRAY_CHAR_INDEX_SCALE", type := .int, accessFlags := 25, slot := 4, constantValue := 0 }, { name := "LOG2_ARRAY_SHORT_INDEX_SCALE", type := .int, accessFlags := 25, slot := 5, constantValue := 0 }, { name := "LOG2_ARRAY_INT_INDEX_SCALE", type := .int, accessFlags := 25, slot := 6, constantValue := 0 }, { name := "LOG2_ARRAY_LONG_INDEX_SCALE", type := .int, accessFlags := 25, slot := 7, constantValue := 0 }, { name := "LOG2_ARRAY_FLOAT_INDEX_SCALE", type := .int, accessFlags := 25, slot := 8, constantValue := 0 }, { name := "LOG2_ARRAY_DOUBLE_INDEX_SCALE", type := .int, accessFlags := 25, slot := 9, constantValue := 0 }, { name := "LOG2_BYTE_BIT_SIZE", type := .int, accessFlags := 26, slot := 10, constantValue := 0 }, { name := "T_BOOLEAN", type := .int, accessFlags := 25, slot := 11, constantValue := 0 }, { name := "T_CHAR", type := .int, accessFlags := 25, slot := 12, constantValue := 0 }, { name := "T_FLOAT", type := .int, accessFlags := 25, slot := 13, constantValue := 0 }, { name := "T_DOUBLE", type := .int, accessFlags := 25, slot := 14, constantValue := 0 }, { name := "T_BYTE", type := .int, accessFlags := 25, slot := 15, constantValue := 0 }, { name := "T_SHORT", type := .int, accessFlags := 25, slot := 16, constantValue := 0 }, { name := "T_INT", type := .int, accessFlags := 25, slot := 17, constantValue := 0 }, { name := "T_LONG", type := .int, accessFlags := 25, slot := 18, constantValue := 0 }, { name := "JLA", type := (.object "jdk/internal/access/JavaLangAccess"), accessFlags := 26, slot := 19, constantValue := 0 }, { name := "SOFT_MAX_ARRAY_LENGTH", type := .int, accessFlags := 25, slot := 20, constantValue := 0 }]
  methods := #[k13m0]
  instanceTypes := #[]
  staticTypes := #[(.object "jdk/internal/misc/Unsafe"), .boolean, .int, .int, .int, .int, .int, .int, .int, .int, .int, .int, .int, .int, .int, .int, .int, .int, .int, (.object "jdk/internal/access/JavaLangAccess"), .int]
  resolved := Array.replicate 378 none
  statics := none }

def pool14 : Array CpInfo := pool [(1, u "java/lang/Cloneable"), (0, .class_ 1), (0, u "java/lang/Object"), (0, .class_ 3)] 3

/-- java/lang/Cloneable -/
def k14 : Class := { plain "java/lang/Cloneable" (some 0) with
  accessFlags := 1537
  interfaces := #[]
  cf := some (fileOf pool14 2 #[] #[] 1537 4 #[] #[])
  fields := #[]
  methods := #[]
  instanceTypes := #[]
  staticTypes := #[]
  resolved := Array.replicate 8 none
  statics := none }

/-- the primitive byte -/
def k15 : Class := { plain "byte" none with kind := .primitive 'B', accessFlags := 0x411 }
/-- [B -/
def k16 : Class := { plain "[B" (some 0) with kind := .array 15 .byte, interfaces := #[14, 2], accessFlags := 1041 }

/-- the primitive char -/
def k17 : Class := { plain "char" none with kind := .primitive 'C', accessFlags := 0x411 }
/-- [C -/
def k18 : Class := { plain "[C" (some 0) with kind := .array 17 .char, interfaces := #[14, 2], accessFlags := 1041 }

/-- the primitive int -/
def k19 : Class := { plain "int" none with kind := .primitive 'I', accessFlags := 0x411 }
/-- [I -/
def k20 : Class := { plain "[I" (some 0) with kind := .array 19 .int, interfaces := #[14, 2], accessFlags := 1041 }

def heap : Heap := #[{ cls := 7, slots := #[.long 0, .int 1, .null, .int 0, .null, .int 0, .int 0], vm := .statics 7 },
  { cls := 8, slots := #[.int 0, .int 8, .int 0, .int 1], vm := .statics 8 },
  { cls := 12, slots := #[.null, .null, .null], vm := .statics 12 }]
def classes : Array Class := #[k0, k1, k2, k3, k4, k5, k6, k7, k8, k9, k10, k11, k12, k13, k14, k15, k16, k17, k18, k19, k20]
def interned : List (Array UInt16 × Addr) := []
def slotsUsed : Nat := 14
def theMethod : MethodId := ⟨1, 1⟩
def args0 : Array Value := #[.int 5, .int 66, .int 70000, .int 3, .int 1, .int 7]
def aboutOver (below : List Frame) : State where
  vm := { classes := classes, interned := interned.toArray }
  heap := heap
  slotsUsed := slotsUsed
  threads := #[{ frames := .invoking theMethod args0 :: below }]
def below0 : List Frame := [.native { method := ⟨0, 0⟩, args := #[] }]
def about1 : State := aboutOver below0
def p0 : Program := .bare "" "" ""
def e0 : Env := launch0.env 0 0 0
theorem w_frames : about1.frames = Frame.invoking theMethod args0 :: below0 := rfl
set_option maxRecDepth 65536 in
theorem w_args : argsFit about1.vm theMethod args0 = true := by decide +kernel
set_option maxRecDepth 65536 in
theorem w_heap : heapFits about1 = true := by decide +kernel
set_option maxRecDepth 65536 in
theorem w_runnable : about1.curStatus? = some .runnable := by decide +kernel
set_option maxRecDepth 65536 in
theorem w_alone : about1.alone = true := by decide +kernel
set_option maxRecDepth 65536 in
theorem w_named : about1.methodNamed? x = some theMethod := by decide +kernel
set_option maxRecDepth 65536 in
theorem w_hears : about1.hears theMethod below0 = true := by decide +kernel
set_option maxRecDepth 65536 in
theorem w_ripe : about1.ripe theMethod args0 below0 = true := by decide +kernel
theorem w_running : about1.status = .running := rfl
set_option maxRecDepth 65536 in
theorem w_room : about1.hasRoom e0.platform room_1 = true :=
  launch0.hasRoom_least _ room_1 (by decide +kernel) (by decide +kernel) (by decide +kernel) (by decide +kernel) (by decide +kernel) (by decide +kernel)
theorem allAtoms_all (ts : List Jvm.Cond) (a : Array Jvm.Value) (st : Jvm.State) : (allAtoms ts).before a st = ts.all (fun c => c.before a st) := by
  induction ts with
  | nil => rfl
  | cons c t ih =>
    show (Jvm.Cond.and c (allAtoms t)).before a st = _
    rw [Jvm.Cond.before_and, ih, List.all_cons]
def words1 : List Jvm.Cond := Jvm.Cond.code x code maxLocals ret :: tables_1
/-- a 'code' word, met by the world's own term for the bytes: nothing is compared byte by byte -/
theorem code_word {y : MethodName} {bytes : ByteArray} {mx : Nat} {rt : Option FieldType} {a : Array Value} {s : State} {m : MethodId} {meth : Method} {c : Code} (h1 : s.methodNamed? y = some m) (h2 : s.vm.method? m = some meth) (h3 : meth.code = some c) (h4 : c.code = bytes)
    (h5 : (c.maxLocals == mx && c.exceptionTable.isEmpty && decide (c.maxStack ≤ mostOperands) && decide (meth.sig.returnType = rt) && !meth.locks && decide (parseMethodDescriptor y.desc = some meth.sig)) = true) : (Jvm.Cond.code y bytes mx rt).before a s = true := by
  simp only [Bool.and_eq_true, beq_iff_eq, Bool.not_eq_true', decide_eq_true_eq] at h5
  obtain ⟨⟨⟨⟨⟨g1, g2⟩, g3⟩, g4⟩, g5⟩, g6⟩ := h5
  simp [Cond.before, Cond.holds, Cond.value, h1, h2, h3, h4, g1, g2, g3, g4, g5, g6]
def isCode : Jvm.Cond → Bool
  | .code _ _ _ _ => true
  | _ => false
theorem all_split {L : List Jvm.Cond} {P : Jvm.Cond → Bool} (h1 : L.all (fun c => isCode c || P c) = true) (h2 : ∀ c ∈ L.filter isCode, P c = true) : L.all P = true := by
  refine List.all_eq_true.mpr fun c hc => ?_
  have h := List.all_eq_true.mp h1 c hc
  rcases Bool.eq_false_or_eq_true (isCode c) with hi | hi
  · exact h2 c (List.mem_filter.mpr ⟨hc, hi⟩)
  · simpa [hi] using h
set_option maxRecDepth 65536 in
theorem w_c0 : (Jvm.Cond.code x code maxLocals ret).before args0 about1 = true := code_word (m := ⟨1, 1⟩) (meth := k1m1) (c := k1c1) (by decide +kernel) rfl rfl rfl (by decide +kernel)
set_option maxRecDepth 65536 in
theorem w_c1 : (Jvm.Cond.code ({ cls := "com/example/webhook_guard/webhookguard/http/HeaderFieldEqualsIgnoringAsciiCasePinLaw", name := "draw", desc := "(II)C" } : Jvm.MethodName) method_3_code (3 : Nat) (Option.some Jvm.ClassFile.FieldType.char)).before args0 about1 = true := code_word (m := ⟨1, 2⟩) (meth := k1m2) (c := k1c2) (by decide +kernel) rfl rfl rfl (by decide +kernel)
set_option maxRecDepth 65536 in
theorem w_c2 : (Jvm.Cond.code ({ cls := "com/example/webhook_guard/webhookguard/http/HeaderFieldEqualsIgnoringAsciiCasePinLaw", name := "derive", desc := "(CIII)C" } : Jvm.MethodName) method_4_code (5 : Nat) (Option.some Jvm.ClassFile.FieldType.char)).before args0 about1 = true := code_word (m := ⟨1, 3⟩) (meth := k1m3) (c := k1c3) (by decide +kernel) rfl rfl rfl (by decide +kernel)
set_option maxRecDepth 65536 in
theorem w_c3 : (Jvm.Cond.code ({ cls := "com/example/webhook_guard/webhookguard/http/HeaderFieldEqualsIgnoringAsciiCasePinLaw", name := "mk", desc := "(ICCC)Ljava/lang/String;" } : Jvm.MethodName) method_6_code (4 : Nat) (Option.some (Jvm.ClassFile.FieldType.object "java/lang/String"))).before args0 about1 = true := code_word (m := ⟨1, 5⟩) (meth := k1m5) (c := k1c5) (by decide +kernel) rfl rfl rfl (by decide +kernel)
set_option maxRecDepth 65536 in
theorem w_c4 : (Jvm.Cond.code ({ cls := "java/lang/String", name := "<init>", desc := "([C)V" } : Jvm.MethodName) jdk_42_method_3_code (2 : Nat) (Option.none : Option Jvm.ClassFile.FieldType)).before args0 about1 = true := code_word (m := ⟨7, 1⟩) (meth := k7m1) (c := k7c1) (by decide +kernel) rfl rfl rfl (by decide +kernel)
set_option maxRecDepth 65536 in
theorem w_c5 : (Jvm.Cond.code ({ cls := "java/lang/String", name := "<init>", desc := "([CIILjava/lang/Void;)V" } : Jvm.MethodName) jdk_42_method_149_code (6 : Nat) (Option.none : Option Jvm.ClassFile.FieldType)).before args0 about1 = true := code_word (m := ⟨7, 4⟩) (meth := k7m4) (c := k7c4) (by decide +kernel) rfl rfl rfl (by decide +kernel)
set_option maxRecDepth 65536 in
theorem w_c6 : (Jvm.Cond.code ({ cls := "java/lang/Object", name := "<init>", desc := "()V" } : Jvm.MethodName) object_method_1_code (1 : Nat) (Option.none : Option Jvm.ClassFile.FieldType)).before args0 about1 = true := code_word (m := ⟨0, 0⟩) (meth := k0m0) (c := k0c0) (by decide +kernel) rfl rfl rfl (by decide +kernel)
set_option maxRecDepth 65536 in
theorem w_c7 : (Jvm.Cond.code ({ cls := "java/lang/StringUTF16", name := "compress", desc := "([CII)[B" } : Jvm.MethodName) jdk_52_method_16_code (6 : Nat) (Option.some (Jvm.ClassFile.FieldType.array Jvm.ClassFile.FieldType.byte))).before args0 about1 = true := code_word (m := ⟨8, 8⟩) (meth := k8m8) (c := k8c8) (by decide +kernel) rfl rfl rfl (by decide +kernel)
set_option maxRecDepth 65536 in
theorem w_c8 : (Jvm.Cond.code ({ cls := "java/lang/StringUTF16", name := "compress", desc := "([CI[BII)I" } : Jvm.MethodName) jdk_52_method_21_code (7 : Nat) (Option.some Jvm.ClassFile.FieldType.int)).before args0 about1 = true := code_word (m := ⟨8, 9⟩) (meth := k8m9) (c := k8c9) (by decide +kernel) rfl rfl rfl (by decide +kernel)
set_option maxRecDepth 65536 in
theorem w_c9 : (Jvm.Cond.code ({ cls := "java/lang/StringUTF16", name := "coderFromArrayLen", desc := "([BI)B" } : Jvm.MethodName) jdk_52_method_15_code (2 : Nat) (Option.some Jvm.ClassFile.FieldType.byte)).before args0 about1 = true := code_word (m := ⟨8, 7⟩) (meth := k8m7) (c := k8c7) (by decide +kernel) rfl rfl rfl (by decide +kernel)
set_option maxRecDepth 65536 in
theorem w_c10 : (Jvm.Cond.code ({ cls := "com/example/webhook_guard/webhookguard/http/HeaderField", name := "equalsIgnoringAsciiCase", desc := "(Ljava/lang/String;Ljava/lang/String;)Z" } : Jvm.MethodName) prog_7_method_7_code (3 : Nat) (Option.some Jvm.ClassFile.FieldType.boolean)).before args0 about1 = true := code_word (m := ⟨10, 0⟩) (meth := k10m0) (c := k10c0) (by decide +kernel) rfl rfl rfl (by decide +kernel)
set_option maxRecDepth 65536 in
theorem w_c11 : (Jvm.Cond.code ({ cls := "java/lang/String", name := "length", desc := "()I" } : Jvm.MethodName) jdk_42_method_54_code (1 : Nat) (Option.some Jvm.ClassFile.FieldType.int)).before args0 about1 = true := code_word (m := ⟨7, 2⟩) (meth := k7m2) (c := k7c2) (by decide +kernel) rfl rfl rfl (by decide +kernel)
set_option maxRecDepth 65536 in
theorem w_c12 : (Jvm.Cond.code ({ cls := "java/lang/String", name := "coder", desc := "()B" } : Jvm.MethodName) jdk_42_method_152_code (1 : Nat) (Option.some Jvm.ClassFile.FieldType.byte)).before args0 about1 = true := code_word (m := ⟨7, 5⟩) (meth := k7m5) (c := k7c5) (by decide +kernel) rfl rfl rfl (by decide +kernel)
set_option maxRecDepth 65536 in
theorem w_c13 : (Jvm.Cond.code ({ cls := "com/example/webhook_guard/webhookguard/http/HeaderFieldEqualsIgnoringAsciiCasePinLaw", name := "same", desc := "(CC)Z" } : Jvm.MethodName) method_5_code (4 : Nat) (Option.some Jvm.ClassFile.FieldType.boolean)).before args0 about1 = true := code_word (m := ⟨1, 4⟩) (meth := k1m4) (c := k1c4) (by decide +kernel) rfl rfl rfl (by decide +kernel)
set_option maxRecDepth 65536 in
theorem w_c14 : (Jvm.Cond.code ({ cls := "java/lang/String", name := "charAt", desc := "(I)C" } : Jvm.MethodName) jdk_42_method_56_code (2 : Nat) (Option.some Jvm.ClassFile.FieldType.char)).before args0 about1 = true := code_word (m := ⟨7, 3⟩) (meth := k7m3) (c := k7c3) (by decide +kernel) rfl rfl rfl (by decide +kernel)
set_option maxRecDepth 65536 in
theorem w_c15 : (Jvm.Cond.code ({ cls := "java/lang/String", name := "isLatin1", desc := "()Z" } : Jvm.MethodName) jdk_42_method_154_code (1 : Nat) (Option.some Jvm.ClassFile.FieldType.boolean)).before args0 about1 = true := code_word (m := ⟨7, 6⟩) (meth := k7m6) (c := k7c6) (by decide +kernel) rfl rfl rfl (by decide +kernel)
set_option maxRecDepth 65536 in
theorem w_c16 : (Jvm.Cond.code ({ cls := "java/lang/StringLatin1", name := "charAt", desc := "([BI)C" } : Jvm.MethodName) jdk_43_method_2_code (2 : Nat) (Option.some Jvm.ClassFile.FieldType.char)).before args0 about1 = true := code_word (m := ⟨11, 1⟩) (meth := k11m1) (c := k11c1) (by decide +kernel) rfl rfl rfl (by decide +kernel)
set_option maxRecDepth 65536 in
theorem w_c17 : (Jvm.Cond.code ({ cls := "java/lang/String", name := "checkIndex", desc := "(II)V" } : Jvm.MethodName) jdk_42_method_155_code (2 : Nat) (Option.none : Option Jvm.ClassFile.FieldType)).before args0 about1 = true := code_word (m := ⟨7, 7⟩) (meth := k7m7) (c := k7c7) (by decide +kernel) rfl rfl rfl (by decide +kernel)
set_option maxRecDepth 65536 in
theorem w_c18 : (Jvm.Cond.code ({ cls := "jdk/internal/util/Preconditions", name := "checkIndex", desc := "(IILjava/util/function/BiFunction;)I" } : Jvm.MethodName) jdk_41_method_11_code (3 : Nat) (Option.some Jvm.ClassFile.FieldType.int)).before args0 about1 = true := code_word (m := ⟨12, 1⟩) (meth := k12m1) (c := k12c1) (by decide +kernel) rfl rfl rfl (by decide +kernel)
set_option maxRecDepth 65536 in
theorem w_c19 : (Jvm.Cond.code ({ cls := "com/example/webhook_guard/webhookguard/http/HeaderField", name := "lowerAscii", desc := "(C)C" } : Jvm.MethodName) prog_7_method_8_code (1 : Nat) (Option.some Jvm.ClassFile.FieldType.char)).before args0 about1 = true := code_word (m := ⟨10, 1⟩) (meth := k10m1) (c := k10c1) (by decide +kernel) rfl rfl rfl (by decide +kernel)
set_option maxRecDepth 65536 in
theorem w_c20 : (Jvm.Cond.code ({ cls := "java/lang/StringUTF16", name := "toBytes", desc := "([CII)[B" } : Jvm.MethodName) jdk_52_method_14_code (5 : Nat) (Option.some (Jvm.ClassFile.FieldType.array Jvm.ClassFile.FieldType.byte))).before args0 about1 = true := code_word (m := ⟨8, 6⟩) (meth := k8m6) (c := k8c6) (by decide +kernel) rfl rfl rfl (by decide +kernel)
set_option maxRecDepth 65536 in
theorem w_c21 : (Jvm.Cond.code ({ cls := "java/lang/StringUTF16", name := "newBytesFor", desc := "(I)[B" } : Jvm.MethodName) jdk_52_method_2_code (1 : Nat) (Option.some (Jvm.ClassFile.FieldType.array Jvm.ClassFile.FieldType.byte))).before args0 about1 = true := code_word (m := ⟨8, 1⟩) (meth := k8m1) (c := k8c1) (by decide +kernel) rfl rfl rfl (by decide +kernel)
set_option maxRecDepth 65536 in
theorem w_c22 : (Jvm.Cond.code ({ cls := "java/lang/StringUTF16", name := "newBytesLength", desc := "(I)I" } : Jvm.MethodName) jdk_52_method_3_code (1 : Nat) (Option.some Jvm.ClassFile.FieldType.int)).before args0 about1 = true := code_word (m := ⟨8, 2⟩) (meth := k8m2) (c := k8c2) (by decide +kernel) rfl rfl rfl (by decide +kernel)
set_option maxRecDepth 65536 in
theorem w_c23 : (Jvm.Cond.code ({ cls := "java/lang/StringUTF16", name := "putChar", desc := "([BII)V" } : Jvm.MethodName) jdk_52_method_4_code (3 : Nat) (Option.none : Option Jvm.ClassFile.FieldType)).before args0 about1 = true := code_word (m := ⟨8, 3⟩) (meth := k8m3) (c := k8c3) (by decide +kernel) rfl rfl rfl (by decide +kernel)
set_option maxRecDepth 65536 in
theorem w_c24 : (Jvm.Cond.code ({ cls := "java/lang/StringUTF16", name := "getChar", desc := "([BI)C" } : Jvm.MethodName) jdk_52_method_5_code (2 : Nat) (Option.some Jvm.ClassFile.FieldType.char)).before args0 about1 = true := code_word (m := ⟨8, 4⟩) (meth := k8m4) (c := k8c4) (by decide +kernel) rfl rfl rfl (by decide +kernel)
set_option maxRecDepth 65536 in
theorem w_c25 : (Jvm.Cond.code ({ cls := "java/lang/StringUTF16", name := "charAt", desc := "([BI)C" } : Jvm.MethodName) jdk_52_method_83_code (2 : Nat) (Option.some Jvm.ClassFile.FieldType.char)).before args0 about1 = true := code_word (m := ⟨8, 10⟩) (meth := k8m10) (c := k8c10) (by decide +kernel) rfl rfl rfl (by decide +kernel)
set_option maxRecDepth 65536 in
theorem w_c26 : (Jvm.Cond.code ({ cls := "java/lang/StringUTF16", name := "checkIndex", desc := "(I[B)V" } : Jvm.MethodName) jdk_52_method_91_code (2 : Nat) (Option.none : Option Jvm.ClassFile.FieldType)).before args0 about1 = true := code_word (m := ⟨8, 11⟩) (meth := k8m11) (c := k8c11) (by decide +kernel) rfl rfl rfl (by decide +kernel)
set_option maxRecDepth 65536 in
theorem w_c27 : (Jvm.Cond.code ({ cls := "java/lang/StringUTF16", name := "length", desc := "([B)I" } : Jvm.MethodName) jdk_52_method_6_code (1 : Nat) (Option.some Jvm.ClassFile.FieldType.int)).before args0 about1 = true := code_word (m := ⟨8, 5⟩) (meth := k8m5) (c := k8c5) (by decide +kernel) rfl rfl rfl (by decide +kernel)
def codes1 : List Jvm.Cond := [Jvm.Cond.code x code maxLocals ret, Jvm.Cond.code ({ cls := "com/example/webhook_guard/webhookguard/http/HeaderFieldEqualsIgnoringAsciiCasePinLaw", name := "draw", desc := "(II)C" } : Jvm.MethodName) method_3_code (3 : Nat) (Option.some Jvm.ClassFile.FieldType.char), Jvm.Cond.code ({ cls := "com/example/webhook_guard/webhookguard/http/HeaderFieldEqualsIgnoringAsciiCasePinLaw", name := "derive", desc := "(CIII)C" } : Jvm.MethodName) method_4_code (5 : Nat) (Option.some Jvm.ClassFile.FieldType.char), Jvm.Cond.code ({ cls := "com/example/webhook_guard/webhookguard/http/HeaderFieldEqualsIgnoringAsciiCasePinLaw", name := "mk", desc := "(ICCC)Ljava/lang/String;" } : Jvm.MethodName) method_6_code (4 : Nat) (Option.some (Jvm.ClassFile.FieldType.object "java/lang/String")), Jvm.Cond.code ({ cls := "java/lang/String", name := "<init>", desc := "([C)V" } : Jvm.MethodName) jdk_42_method_3_code (2 : Nat) (Option.none : Option Jvm.ClassFile.FieldType), Jvm.Cond.code ({ cls := "java/lang/String", name := "<init>", desc := "([CIILjava/lang/Void;)V" } : Jvm.MethodName) jdk_42_method_149_code (6 : Nat) (Option.none : Option Jvm.ClassFile.FieldType), Jvm.Cond.code ({ cls := "java/lang/Object", name := "<init>", desc := "()V" } : Jvm.MethodName) object_method_1_code (1 : Nat) (Option.none : Option Jvm.ClassFile.FieldType), Jvm.Cond.code ({ cls := "java/lang/StringUTF16", name := "compress", desc := "([CII)[B" } : Jvm.MethodName) jdk_52_method_16_code (6 : Nat) (Option.some (Jvm.ClassFile.FieldType.array Jvm.ClassFile.FieldType.byte)), Jvm.Cond.code ({ cls := "java/lang/StringUTF16", name := "compress", desc := "([CI[BII)I" } : Jvm.MethodName) jdk_52_method_21_code (7 : Nat) (Option.some Jvm.ClassFile.FieldType.int), Jvm.Cond.code ({ cls := "java/lang/StringUTF16", name := "coderFromArrayLen", desc := "([BI)B" } : Jvm.MethodName) jdk_52_method_15_code (2 : Nat) (Option.some Jvm.ClassFile.FieldType.byte), Jvm.Cond.code ({ cls := "com/example/webhook_guard/webhookguard/http/HeaderField", name := "equalsIgnoringAsciiCase", desc := "(Ljava/lang/String;Ljava/lang/String;)Z" } : Jvm.MethodName) prog_7_method_7_code (3 : Nat) (Option.some Jvm.ClassFile.FieldType.boolean), Jvm.Cond.code ({ cls := "java/lang/String", name := "length", desc := "()I" } : Jvm.MethodName) jdk_42_method_54_code (1 : Nat) (Option.some Jvm.ClassFile.FieldType.int), Jvm.Cond.code ({ cls := "java/lang/String", name := "coder", desc := "()B" } : Jvm.MethodName) jdk_42_method_152_code (1 : Nat) (Option.some Jvm.ClassFile.FieldType.byte), Jvm.Cond.code ({ cls := "com/example/webhook_guard/webhookguard/http/HeaderFieldEqualsIgnoringAsciiCasePinLaw", name := "same", desc := "(CC)Z" } : Jvm.MethodName) method_5_code (4 : Nat) (Option.some Jvm.ClassFile.FieldType.boolean), Jvm.Cond.code ({ cls := "java/lang/String", name := "charAt", desc := "(I)C" } : Jvm.MethodName) jdk_42_method_56_code (2 : Nat) (Option.some Jvm.ClassFile.FieldType.char), Jvm.Cond.code ({ cls := "java/lang/String", name := "isLatin1", desc := "()Z" } : Jvm.MethodName) jdk_42_method_154_code (1 : Nat) (Option.some Jvm.ClassFile.FieldType.boolean), Jvm.Cond.code ({ cls := "java/lang/StringLatin1", name := "charAt", desc := "([BI)C" } : Jvm.MethodName) jdk_43_method_2_code (2 : Nat) (Option.some Jvm.ClassFile.FieldType.char), Jvm.Cond.code ({ cls := "java/lang/String", name := "checkIndex", desc := "(II)V" } : Jvm.MethodName) jdk_42_method_155_code (2 : Nat) (Option.none : Option Jvm.ClassFile.FieldType), Jvm.Cond.code ({ cls := "jdk/internal/util/Preconditions", name := "checkIndex", desc := "(IILjava/util/function/BiFunction;)I" } : Jvm.MethodName) jdk_41_method_11_code (3 : Nat) (Option.some Jvm.ClassFile.FieldType.int), Jvm.Cond.code ({ cls := "com/example/webhook_guard/webhookguard/http/HeaderField", name := "lowerAscii", desc := "(C)C" } : Jvm.MethodName) prog_7_method_8_code (1 : Nat) (Option.some Jvm.ClassFile.FieldType.char), Jvm.Cond.code ({ cls := "java/lang/StringUTF16", name := "toBytes", desc := "([CII)[B" } : Jvm.MethodName) jdk_52_method_14_code (5 : Nat) (Option.some (Jvm.ClassFile.FieldType.array Jvm.ClassFile.FieldType.byte)), Jvm.Cond.code ({ cls := "java/lang/StringUTF16", name := "newBytesFor", desc := "(I)[B" } : Jvm.MethodName) jdk_52_method_2_code (1 : Nat) (Option.some (Jvm.ClassFile.FieldType.array Jvm.ClassFile.FieldType.byte)), Jvm.Cond.code ({ cls := "java/lang/StringUTF16", name := "newBytesLength", desc := "(I)I" } : Jvm.MethodName) jdk_52_method_3_code (1 : Nat) (Option.some Jvm.ClassFile.FieldType.int), Jvm.Cond.code ({ cls := "java/lang/StringUTF16", name := "putChar", desc := "([BII)V" } : Jvm.MethodName) jdk_52_method_4_code (3 : Nat) (Option.none : Option Jvm.ClassFile.FieldType), Jvm.Cond.code ({ cls := "java/lang/StringUTF16", name := "getChar", desc := "([BI)C" } : Jvm.MethodName) jdk_52_method_5_code (2 : Nat) (Option.some Jvm.ClassFile.FieldType.char), Jvm.Cond.code ({ cls := "java/lang/StringUTF16", name := "charAt", desc := "([BI)C" } : Jvm.MethodName) jdk_52_method_83_code (2 : Nat) (Option.some Jvm.ClassFile.FieldType.char), Jvm.Cond.code ({ cls := "java/lang/StringUTF16", name := "checkIndex", desc := "(I[B)V" } : Jvm.MethodName) jdk_52_method_91_code (2 : Nat) (Option.none : Option Jvm.ClassFile.FieldType), Jvm.Cond.code ({ cls := "java/lang/StringUTF16", name := "length", desc := "([B)I" } : Jvm.MethodName) jdk_52_method_6_code (1 : Nat) (Option.some Jvm.ClassFile.FieldType.int)]
set_option maxRecDepth 65536 in
theorem codes_eq : words1.filter isCode = codes1 := rfl
theorem w_codes : ∀ c ∈ words1.filter isCode, c.before args0 about1 = true := by
  rw [codes_eq]
  intro c hc
  simp only [codes1, List.mem_cons, List.not_mem_nil, or_false] at hc
  rcases hc with rfl | rfl | rfl | rfl | rfl | rfl | rfl | rfl | rfl | rfl | rfl | rfl | rfl | rfl | rfl | rfl | rfl | rfl | rfl | rfl | rfl | rfl | rfl | rfl | rfl | rfl | rfl | rfl
  · exact w_c0
  · exact w_c1
  · exact w_c2
  · exact w_c3
  · exact w_c4
  · exact w_c5
  · exact w_c6
  · exact w_c7
  · exact w_c8
  · exact w_c9
  · exact w_c10
  · exact w_c11
  · exact w_c12
  · exact w_c13
  · exact w_c14
  · exact w_c15
  · exact w_c16
  · exact w_c17
  · exact w_c18
  · exact w_c19
  · exact w_c20
  · exact w_c21
  · exact w_c22
  · exact w_c23
  · exact w_c24
  · exact w_c25
  · exact w_c26
  · exact w_c27
set_option maxRecDepth 65536 in
theorem w_t1 : (words1.take 24).all (fun c => isCode c || c.before args0 about1) = true := by decide +kernel
set_option maxRecDepth 65536 in
theorem w_t2 : ((words1.drop 24).take 24).all (fun c => isCode c || c.before args0 about1) = true := by decide +kernel
set_option maxRecDepth 65536 in
theorem w_t3 : (((words1.drop 24).drop 24).take 24).all (fun c => isCode c || c.before args0 about1) = true := by decide +kernel
set_option maxRecDepth 65536 in
theorem w_t4 : ((((words1.drop 24).drop 24).drop 24).take 24).all (fun c => isCode c || c.before args0 about1) = true := by decide +kernel
set_option maxRecDepth 65536 in
theorem w_t5 : ((((words1.drop 24).drop 24).drop 24).drop 24).all (fun c => isCode c || c.before args0 about1) = true := by decide +kernel
theorem w_tables : (allAtoms (Jvm.Cond.code x code maxLocals ret :: tables_1)).before args0 about1 = true := by
  rw [allAtoms_all]
  show words1.all (fun c => c.before args0 about1) = true
  refine all_split ?_ w_codes
  rw [← List.take_append_drop 24 words1, List.all_append, w_t1, ← List.take_append_drop 24 (words1.drop 24), List.all_append, w_t2, ← List.take_append_drop 24 ((words1.drop 24).drop 24), List.all_append, w_t3, ← List.take_append_drop 24 (((words1.drop 24).drop 24).drop 24), List.all_append, w_t4, w_t5]
  rfl
set_option maxRecDepth 65536 in
theorem w_rest : rest_1_c.before args0 about1 = true := by decide +kernel
set_option maxRecDepth 65536 in
theorem w_case : (Jvm.Cond.and given_1 narrow_1).before args0 about1 = true := by decide +kernel
set_option maxRecDepth 65536 in
theorem w_consts : constsHeld consts_1 about1 := Jvm.Lit.constsHeldB_iff.mp (by decide +kernel)
theorem w_applies : (headSpec (Jvm.Cond.code x code maxLocals ret :: tables_1) room_1).applies x e0.platform about1 = true :=
  (Spec.applies_iff w_frames).mpr ⟨w_running, w_runnable, w_alone, w_named, w_hears, w_ripe, w_room, w_tables⟩
theorem atStart : AtStart classFile x code maxLocals ret World_1 tables_1 room_1 Calls_1 rest_1 Pre_1 launch0 p0 e0 about1 theMethod args0 below0 :=
  ⟨lists_1, trivial, launch0.admits_env _ _ _, launch0.least_env, fairChoices_fair.cas, fairChoices_fair.clock, w_frames, w_args, w_heap, w_applies, ⟨w_consts, trivial⟩, w_rest, w_case⟩
end start1
theorem witness_1 : WitnessClaimed_1 := ⟨start1.p0, start1.e0, start1.about1, start1.theMethod, start1.args0, start1.below0, start1.atStart⟩
end Jvm.Pilot.@@N@@
