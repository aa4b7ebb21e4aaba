import JvmDerived
import JvmDerived.Pilot.@@N@@Statement
import JvmDerived.Pilot.@@N@@Code
set_option linter.unusedVariables false
set_option linter.unusedSimpArgs false
namespace Jvm.RoadKit
open Sem ClassFile Op Lib Jvm.Stand Jvm.Free Jvm.LawKit
section New
variable {p : Program} {l : Launch} {e : Env} {R : Room} {s : State} {m : MethodId} {args : Array Value} {below : List Frame} {meth : Method} {c : Code} {T : State} {locs : List Loc} {cells slots : Nat}
theorem retI (X : Stand p l e R s m args below meth c T locs cells slots) (hx : p.tables.exec = Jvm.exec) {pc : Nat} {Ls : Array Slot} {z : Int32} {rest : List Value} (hret : meth.sig.returnType = some .int) (hd : decode c.code pc = .ok (.ireturn, 1)) {fs : List Frame}
    (hl : ∀ (f : JFrame) (acts : List Action), f.method = m → f.locked = none → f.entered = [] → (doReturn e (T.setTop f) acts (some (.int z))).1 = T.setFrames fs) : Steps p.tables e below (T.setTop (mkF m pc Ls (.int z :: rest))) (T.setFrames fs) := by
  have hm' : T.vm.method? m = some meth := X.method'
  have hn : narrow .int (.int z) = .int z := rfl
  show Steps p.tables e below (T.setTop { method := m, pc := pc, locals := Ls, stack := _ :: rest, locked := none }) _
  jvm_step X.here [X.here.top, hx, hd, hm', hret, hn]
  first | (intro acts; rw [hl _ acts rfl rfl rfl]) | rw [hl _ _ rfl rfl rfl]
  exact Steps.refl _
end New
end Jvm.RoadKit
namespace Jvm.Pilot.@@N@@
open Jvm Jvm.ClassFile Sem Op Lib Jvm.Free Jvm.Stand Jvm.LawKit Jvm.RoadKit Bundle Jvm.Pilot.@@N@@.Jvm.D
theorem own_le {Z : State} {n0 : Nat} {h : Heap} (X : Old Z n0 h) : n0 ≤ h.size := X.1 ▸ X.2.1
theorem own_nm0 {a : Addr} : a ∉ ([] : List Addr) := List.not_mem_nil
theorem own_nmc {a x : Addr} {L : List Addr} (h : a ≠ x) (k : a ∉ L) : a ∉ x :: L := fun q => (List.mem_cons.mp q).elim h k
theorem own_arrK {Z : State} {h h' : Heap} {a : Addr} {c : Cell} {ty : FieldType} {ws : List Addr} (A : Arr Z h a c ty) (K : Keep h h' ws) (q : a ∉ ws) : Arr Z h' a c ty := ⟨K.2.1 _ _ A.1 q, A.2⟩
theorem own_since (s : State) : s.Since s.vm s.heap.size := ⟨State.Warmed39.refl s, by first | exact State.Booked.refl s | (intro j p h1 h2; exact absurd (Array.getElem?_eq_some_iff.mp h2).1 (Nat.not_lt.mpr h1))⟩
theorem own_str {a0 : Array Value} {Z : State} (hw : ∀ d ∈ tables_1, d.before a0 Z = true) : ∀ a ∈ Bundle.stringAtoms, a.before a0 Z = true := fun d hd => hw d ((by decide +kernel : ∀ d ∈ Bundle.stringAtoms, d ∈ tables_1) d hd)

abbrev BI : String := "java/math/BigInteger"
abbrev RA : String := "com/example/granica/granica/Rational"
def own_sg (v : Int64) : Int32 := if v < 0 then -1 else if 0 < v then 1 else 0
def own_cmp (a b : Int64) : Int32 := if a < b then -1 else if b < a then 1 else 0
def own_ab (v : Int64) : Int64 := if v < 0 then -v else v
def own_hi (u : Int64) : Int32 := (((u.toUInt64 >>> ((32 : Int32) &&& 0x3f).toInt64.toUInt64).toInt64).toInt32)
def own_mg (v : Int64) : List Int32 := if v = 0 then [] else if own_hi (own_ab v) = 0 then [(own_ab v).toInt32] else [own_hi (own_ab v), (own_ab v).toInt32]
def own_ux (x : Int32) : Int := x.toInt % 4294967296
def own_cm2 : List Int32 → List Int32 → Int32
  | x :: xs, y :: ys => if x = y then own_cm2 xs ys else if own_ux x < own_ux y then -1 else 1
  | _, _ => 0
def own_cm (xs ys : List Int32) : Int32 := if xs.length < ys.length then -1 else if ys.length < xs.length then 1 else own_cm2 xs ys
theorem own_ux_inj {x y : Int32} (h : own_ux x = own_ux y) : x = y := by
  have a := rng32 x; have b := rng32 y
  apply Int32.toInt_inj.mp
  simp only [own_ux] at h
  omega
theorem own_hiU (u : Int64) : own_ux (own_hi u) = (u.toInt % 18446744073709551616) / 4294967296 := by
  have a := c_lushr u 32 32 (by decide) (by decide)
  have b := c_l2i ((u.toUInt64 >>> ((32 : Int32) &&& 0x3f).toInt64.toUInt64).toInt64)
  have r := rng64 u
  rw [a] at b
  simp only [own_ux, own_hi]
  have : ((2 ^ 32 : Nat) : Int) = 4294967296 := by decide
  rw [this] at b
  omega
theorem own_loU (u : Int64) : own_ux u.toInt32 = u.toInt % 4294967296 := by
  have b := c_l2i u
  simp only [own_ux]
  omega
theorem own_abU (v : Int64) : (own_ab v).toInt % 18446744073709551616 = if v.toInt < 0 then -v.toInt else v.toInt := by
  have r := rng64 v
  have n := c_lneg v
  have q := rng64 (-v)
  unfold own_ab
  have e : (v < 0) ↔ v.toInt < 0 := by rw [Int64.lt_iff_toInt_lt]; exact Iff.rfl
  by_cases h : v < 0
  · rw [if_pos h, if_pos (e.mp h)]; have := e.mp h; omega
  · rw [if_neg h, if_neg (fun k => h (e.mpr k))]; have : ¬ v.toInt < 0 := fun k => h (e.mpr k); omega
theorem own_hi0 (u : Int64) : own_hi u = 0 ↔ (u.toInt % 18446744073709551616) / 4294967296 = 0 := by
  rw [← own_hiU]
  constructor
  · intro h; rw [h]; decide
  · intro h; exact own_ux_inj (h.trans (by decide))
/-- the two magnitudes compare as the absolute values do -/
theorem own_cmS (v w : Int64) (hv : ¬ v = 0) (hw : ¬ w = 0) : own_cm (own_mg v) (own_mg w) = if (own_ab v).toInt % 18446744073709551616 < (own_ab w).toInt % 18446744073709551616 then -1 else if (own_ab w).toInt % 18446744073709551616 < (own_ab v).toInt % 18446744073709551616 then 1 else 0 := by
  have a1 := own_hiU (own_ab v); have a2 := own_hiU (own_ab w); have b1 := own_loU (own_ab v); have b2 := own_loU (own_ab w)
  have z1 := own_hi0 (own_ab v); have z2 := own_hi0 (own_ab w)
  unfold own_mg
  rw [if_neg hv, if_neg hw]
  generalize own_ab v = A at *
  generalize own_ab w = B at *
  have r1 := rng64 A; have r2 := rng64 B
  by_cases h1 : own_hi A = 0 <;> by_cases h2 : own_hi B = 0
  · rw [if_pos h1, if_pos h2]
    have k1 := z1.mp h1; have k2 := z2.mp h2
    by_cases e : A.toInt32 = B.toInt32
    · have e' : own_ux A.toInt32 = own_ux B.toInt32 := by rw [e]
      rw [b1, b2] at e'
      simp only [own_cm, own_cm2, List.length_cons, List.length_nil, Nat.lt_irrefl, if_false, e, if_true]
      rw [if_neg (by omega), if_neg (by omega)]
    · have e' : ¬ own_ux A.toInt32 = own_ux B.toInt32 := fun q => e (own_ux_inj q)
      simp only [own_cm, own_cm2, List.length_cons, List.length_nil, Nat.lt_irrefl, if_false, if_neg e]
      by_cases l : own_ux A.toInt32 < own_ux B.toInt32
      · rw [if_pos l, if_pos (by omega)]
      · rw [if_neg l, if_neg (by omega), if_pos (by omega)]
  · rw [if_pos h1, if_neg h2]
    have k1 := z1.mp h1; have k2 := mt z2.mpr h2
    simp only [own_cm, List.length_cons, List.length_nil]
    rw [if_pos (by decide), if_pos (by omega)]
  · rw [if_neg h1, if_pos h2]
    have k1 := mt z1.mpr h1; have k2 := z2.mp h2
    simp only [own_cm, List.length_cons, List.length_nil]
    rw [if_neg (by decide), if_pos (by decide), if_neg (by omega), if_pos (by omega)]
  · rw [if_neg h1, if_neg h2]
    simp only [own_cm, own_cm2, List.length_cons, List.length_nil, Nat.lt_irrefl, if_false]
    by_cases e : own_hi A = own_hi B
    · have e' : own_ux (own_hi A) = own_ux (own_hi B) := by rw [e]
      rw [if_pos e]
      by_cases f : A.toInt32 = B.toInt32
      · have f' : own_ux A.toInt32 = own_ux B.toInt32 := by rw [f]
        rw [if_pos f, if_neg (by omega), if_neg (by omega)]
      · have f' : ¬ own_ux A.toInt32 = own_ux B.toInt32 := fun q => f (own_ux_inj q)
        rw [if_neg f]
        by_cases l : own_ux A.toInt32 < own_ux B.toInt32
        · rw [if_pos l, if_pos (by omega)]
        · rw [if_neg l, if_neg (by omega), if_pos (by omega)]
    · have e' : ¬ own_ux (own_hi A) = own_ux (own_hi B) := fun q => e (own_ux_inj q)
      rw [if_neg e]
      by_cases l : own_ux (own_hi A) < own_ux (own_hi B)
      · rw [if_pos l, if_pos (by omega)]
      · rw [if_neg l, if_neg (by omega), if_pos (by omega)]
theorem own_lt64 (a b : Int64) : a < b ↔ a.toInt < b.toInt := Int64.lt_iff_toInt_lt
theorem own_eq0 (a : Int64) : a = 0 ↔ a.toInt = 0 := by rw [← Int64.toInt_inj]; exact Iff.rfl
theorem own_cmPos {v w : Int64} (hv : 0 < v) (hw : 0 < w) : own_cm (own_mg v) (own_mg w) = own_cmp v w := by
  have a := (own_lt64 0 v).mp hv; have b := (own_lt64 0 w).mp hw
  have z : (0 : Int64).toInt = 0 := by decide
  rw [z] at a b
  rw [own_cmS v w (fun q => by rw [own_eq0] at q; omega) (fun q => by rw [own_eq0] at q; omega), own_abU, own_abU, own_cmp, if_neg (show ¬ v.toInt < 0 by omega), if_neg (show ¬ w.toInt < 0 by omega)]
  simp only [own_lt64]
theorem own_cmNeg {v w : Int64} (hv : v < 0) (hw : w < 0) : own_cm (own_mg w) (own_mg v) = own_cmp v w := by
  have a := (own_lt64 v 0).mp hv; have b := (own_lt64 w 0).mp hw
  have z : (0 : Int64).toInt = 0 := by decide
  rw [z] at a b
  rw [own_cmS w v (fun q => by rw [own_eq0] at q; omega) (fun q => by rw [own_eq0] at q; omega), own_abU, own_abU, own_cmp, if_pos a, if_pos b]
  simp only [own_lt64]
  by_cases c : v.toInt < w.toInt
  · rw [if_pos c, if_pos (by omega)]
  · rw [if_neg c, if_neg (by omega)]
    by_cases d : w.toInt < v.toInt
    · rw [if_pos d, if_pos (by omega)]
    · rw [if_neg d, if_neg (by omega)]
theorem own_sgc (a b : Int64) : own_sg (own_cmp a b).toInt64 = own_cmp a b := by
  unfold own_cmp; split
  · decide
  · split <;> decide
def BigM (Z : State) (h : Heap) (a : Addr) (v : Int64) : Prop := Fld Z h a BI "signum" "I" (.int (own_sg v)) ∧ ∃ (t : Addr) (k : ClassId), Fld Z h a BI "mag" "[I" (.ref t) ∧ Arv Z h t k .int (Int32.ofNat (own_mg v).length) ((own_mg v).map Value.int) (.int 0)
def Big (Z : State) (h : Heap) (a : Addr) (v : Int64) : Prop := Exa Z h a BI ∧ BigM Z h a v
def Rat (Z : State) (h : Heap) (r : Addr) (v w : Int64) : Prop := Exa Z h r RA ∧ ∃ a b : Addr, Fld Z h r RA "numerator" "Ljava/math/BigInteger;" (.ref a) ∧ Fld Z h r RA "denominator" "Ljava/math/BigInteger;" (.ref b) ∧ Big Z h a v ∧ Big Z h b w
theorem own_bigE {Z : State} {h h' : Heap} {a : Addr} {v : Int64} (B : Big Z h a v) (E : Ext h h') : Big Z h' a v := by
  obtain ⟨e, s, t, k, F, V⟩ := B
  exact ⟨e.ext E, s.ext E, t, k, F.ext E, V.ext E⟩
theorem own_bigK {Z : State} {h h' : Heap} {a : Addr} {v : Int64} (B : Big Z h a v) (K : Keep h h' []) : Big Z h' a v := by
  obtain ⟨e, s, t, k, F, V⟩ := B
  exact ⟨e.keep K, s.keep K own_nm0, t, k, F.keep K own_nm0, V.keep K own_nm0⟩
theorem own_bigKo {Z : State} {h h' : Heap} {a b : Addr} {v : Int64} {C : String} {n : Nat} {a0 : Array Value} (B : Big Z h a v) (X : Exa Z h b C) (hC : BI ≠ C) (wi : (Jvm.Cond.instantiable C n).before a0 Z = true) (K : Keep h h' [b]) : Big Z h' a v := by
  obtain ⟨e, s, t, k, F, V⟩ := B
  exact ⟨e.keep K, s.keep K (own_nmc (e.ne X hC) own_nm0), t, k, F.keep K (own_nmc (e.ne X hC) own_nm0), V.keep K (own_nmc (Ne.symm (X.neArv V wi)) own_nm0)⟩
theorem own_ratE {Z : State} {h h' : Heap} {a : Addr} {v w : Int64} (B : Rat Z h a v w) (E : Ext h h') : Rat Z h' a v w := by
  obtain ⟨e, x, y, F, G, B1, B2⟩ := B
  exact ⟨e.ext E, x, y, F.ext E, G.ext E, own_bigE B1 E, own_bigE B2 E⟩
theorem own_ratK {Z : State} {h h' : Heap} {a : Addr} {v w : Int64} (B : Rat Z h a v w) (K : Keep h h' []) : Rat Z h' a v w := by
  obtain ⟨e, x, y, F, G, B1, B2⟩ := B
  exact ⟨e.keep K, x, y, F.keep K own_nm0, G.keep K own_nm0, own_bigK B1 K, own_bigK B2 K⟩
def Qs (r : Option Value) (h0 : Heap) (n0 : Nat) (v : Option Value) (h : Heap) (L : List Loc) : Prop := v = r ∧ Fr n0 L ∧ h = h0
def QBI (Z : State) (a : Addr) (x : Int64) (h0 : Heap) (n0 : Nat) (v : Option Value) (h : Heap) (L : List Loc) : Prop := v = none ∧ Fr n0 L ∧ Keep h0 h [a] ∧ BigM Z h a x
def QVal (Z : State) (x : Int64) (h0 : Heap) (n0 : Nat) (v : Option Value) (h : Heap) (L : List Loc) : Prop := ∃ r : Addr, v = some (.ref r) ∧ Fr n0 L ∧ Keep h0 h [] ∧ Big Z h r x
def QRat (Z : State) (x : Int64) (h0 : Heap) (n0 : Nat) (v : Option Value) (h : Heap) (L : List Loc) : Prop := ∃ r : Addr, v = some (.ref r) ∧ Fr n0 L ∧ Keep h0 h [] ∧ Rat Z h r x 1
def QRI (Z : State) (a x y : Addr) (h0 : Heap) (n0 : Nat) (v : Option Value) (h : Heap) (L : List Loc) : Prop := v = none ∧ Fr n0 L ∧ Keep h0 h [a] ∧ Fld Z h a RA "numerator" "Ljava/math/BigInteger;" (.ref x) ∧ Fld Z h a RA "denominator" "Ljava/math/BigInteger;" (.ref y)
def Q0 (h0 : Heap) (n0 : Nat) (v : Option Value) (h : Heap) (L : List Loc) : Prop := v = some (.int (1 : Int32)) ∧ Fr n0 L
def Cache (Z : State) : Prop := (∃ wz : Addr, Sta Z Z.heap BI "ZERO" "Ljava/math/BigInteger;" (.ref wz) ∧ Big Z Z.heap wz 0) ∧
  (∃ (wp : Addr) (cl : Cell), Sta Z Z.heap BI "posConst" "[Ljava/math/BigInteger;" (.ref wp) ∧ Arr Z Z.heap wp cl (.object BI) ∧ ∀ v : Int64, 0 < v → ¬ 16 < v → ¬ (v.toInt32 < 0 ∨ cl.slots.size ≤ (v.toInt32).toNatClampNeg) ∧ ∃ r : Addr, cl.slots[(v.toInt32).toNatClampNeg]? = some (.ref r) ∧ Big Z Z.heap r v) ∧
  (∃ (wp : Addr) (cl : Cell), Sta Z Z.heap BI "negConst" "[Ljava/math/BigInteger;" (.ref wp) ∧ Arr Z Z.heap wp cl (.object BI) ∧ ∀ v : Int64, v < 0 → ¬ v < -16 → ¬ (((-v).toInt32) < 0 ∨ cl.slots.size ≤ (((-v).toInt32)).toNatClampNeg) ∧ ∃ r : Addr, cl.slots[(((-v).toInt32)).toNatClampNeg]? = some (.ref r) ∧ Big Z Z.heap r v)

theorem own_ne0 {v : Int64} (h : v < 0 ∨ 0 < v) : ¬ v = 0 := by
  rintro rfl; rcases h with h | h <;> exact absurd h (by decide)
theorem own_as {v : Int64} {P : Prop} : v < 0 → 0 < v → P := fun a b => by
  rw [own_lt64] at a b; exact absurd a (by have : (0 : Int64).toInt = 0 := by decide
                                           omega)
theorem own_neg {v : Int64} (a : ¬ v = 0) (b : ¬ 0 < v) : v < 0 := by
  rw [own_eq0] at a; rw [own_lt64] at b ⊢
  have : (0 : Int64).toInt = 0 := by decide
  omega
theorem own_sgPos {v : Int64} (a : ¬ v = 0) (b : ¬ v < 0) : own_sg v = 1 := by
  have p : 0 < v := by
    rw [own_eq0] at a; rw [own_lt64] at b ⊢
    have : (0 : Int64).toInt = 0 := by decide
    omega
  rw [own_sg, if_neg b, if_pos p]
theorem own_ltt {v w : Int64} (a : v < 0) (b : 0 < w) : v < w := by
  rw [own_lt64] at a b ⊢
  have : (0 : Int64).toInt = 0 := by decide
  omega
theorem own_tri (v : Int64) : (v < 0 ∧ own_sg v = -1) ∨ (v = 0 ∧ own_sg v = 0) ∨ (0 < v ∧ own_sg v = 1) := by
  by_cases a : v < 0
  · exact Or.inl ⟨a, by rw [own_sg, if_pos a]⟩
  · by_cases b : 0 < v
    · exact Or.inr (Or.inr ⟨b, by rw [own_sg, if_neg a, if_pos b]⟩)
    · refine Or.inr (Or.inl ⟨?_, by rw [own_sg, if_neg a, if_neg b]⟩)
      rw [own_eq0]; rw [own_lt64] at a b
      have : (0 : Int64).toInt = 0 := by decide
      omega
theorem own_cmpL {v w : Int64} (a : v < w) : own_cmp v w = -1 := by rw [own_cmp, if_pos a]
theorem own_cmpG {v w : Int64} (a : w < v) : own_cmp v w = 1 := by
  rw [own_cmp, if_neg (fun q => by rw [own_lt64] at a q; omega), if_pos a]
theorem own_mlt {x y : Int32} : ((x.toInt64) &&& (4294967295 : Int64)) < ((y.toInt64) &&& (4294967295 : Int64)) ↔ own_ux x < own_ux y := by
  rw [own_lt64, c_maskL _ _ 32 (by decide) (by decide), c_maskL _ _ 32 (by decide) (by decide), c_i2l, c_i2l]
  exact Iff.rfl
theorem d20_0 : decode jdk_18_method_1_code 0 = .ok (.aload_n 0, 1) := by decide +kernel
theorem d20_1 : decode jdk_18_method_1_code 1 = .ok (.invokespecial 1, 3) := by decide +kernel
theorem d20_4 : decode jdk_18_method_1_code 4 = .ok (.return_, 1) := by decide +kernel
theorem pn_20 : plainName "java/lang/Number" = true := by first | (simp [plainName, overriddenIn]; done) | decide +kernel
theorem ef_20 (m : MethodId) (x0 : Addr) : entryFrame m #[(.ref x0)] 1 = mkF m 0 #[.val (.ref x0)] [] := by first | (simp [entryFrame, mkF, argsToLocals, Value.category]; done) | rfl
theorem d19_0 : decode jdk_2097_method_30_code 0 = .ok (.aload_n 0, 1) := by decide +kernel
theorem d19_1 : decode jdk_2097_method_30_code 1 = .ok (.invokespecial 3, 3) := by decide +kernel
theorem pd__V : parseMethodDescriptor "()V" = some ⟨[], none⟩ := by decide +kernel
theorem d19_4 : decode jdk_2097_method_30_code 4 = .ok (.lload_n 1, 1) := by decide +kernel
theorem d19_5 : decode jdk_2097_method_30_code 5 = .ok (.lconst 0, 1) := by decide +kernel
theorem d19_6 : decode jdk_2097_method_30_code 6 = .ok (.lcmp, 1) := by decide +kernel
theorem d19_7 : decode jdk_2097_method_30_code 7 = .ok (.ifCond .ge 14, 3) := by decide +kernel
theorem d19_10 : decode jdk_2097_method_30_code 10 = .ok (.lload_n 1, 1) := by decide +kernel
theorem d19_11 : decode jdk_2097_method_30_code 11 = .ok (.lneg, 1) := by decide +kernel
theorem d19_12 : decode jdk_2097_method_30_code 12 = .ok (.lstore_n 1, 1) := by decide +kernel
theorem d19_13 : decode jdk_2097_method_30_code 13 = .ok (.aload_n 0, 1) := by decide +kernel
theorem d19_14 : decode jdk_2097_method_30_code 14 = .ok (.iconst (-1), 1) := by decide +kernel
theorem d19_15 : decode jdk_2097_method_30_code 15 = .ok (.putfield 32, 3) := by decide +kernel
theorem d19_18 : decode jdk_2097_method_30_code 18 = .ok (.goto 8, 3) := by decide +kernel
theorem d19_26 : decode jdk_2097_method_30_code 26 = .ok (.lload_n 1, 1) := by decide +kernel
theorem d19_27 : decode jdk_2097_method_30_code 27 = .ok (.bipush 32, 2) := by decide +kernel
theorem d19_29 : decode jdk_2097_method_30_code 29 = .ok (.lushr, 1) := by decide +kernel
theorem d19_30 : decode jdk_2097_method_30_code 30 = .ok (.l2i, 1) := by decide +kernel
theorem d19_31 : decode jdk_2097_method_30_code 31 = .ok (.istore_n 3, 1) := by decide +kernel
theorem d19_32 : decode jdk_2097_method_30_code 32 = .ok (.iload_n 3, 1) := by decide +kernel
theorem d19_33 : decode jdk_2097_method_30_code 33 = .ok (.ifCond .ne 21, 3) := by decide +kernel
theorem d19_36 : decode jdk_2097_method_30_code 36 = .ok (.aload_n 0, 1) := by decide +kernel
theorem d19_37 : decode jdk_2097_method_30_code 37 = .ok (.iconst 1, 1) := by decide +kernel
theorem d19_38 : decode jdk_2097_method_30_code 38 = .ok (.newarray .int, 2) := by decide +kernel
theorem d19_40 : decode jdk_2097_method_30_code 40 = .ok (.putfield 28, 3) := by decide +kernel
theorem d19_43 : decode jdk_2097_method_30_code 43 = .ok (.aload_n 0, 1) := by decide +kernel
theorem d19_44 : decode jdk_2097_method_30_code 44 = .ok (.getfield 28, 3) := by decide +kernel
theorem d19_47 : decode jdk_2097_method_30_code 47 = .ok (.iconst 0, 1) := by decide +kernel
theorem d19_48 : decode jdk_2097_method_30_code 48 = .ok (.lload_n 1, 1) := by decide +kernel
theorem d19_49 : decode jdk_2097_method_30_code 49 = .ok (.l2i, 1) := by decide +kernel
theorem d19_50 : decode jdk_2097_method_30_code 50 = .ok (.iastore, 1) := by decide +kernel
theorem d19_51 : decode jdk_2097_method_30_code 51 = .ok (.goto 25, 3) := by decide +kernel
theorem d19_76 : decode jdk_2097_method_30_code 76 = .ok (.return_, 1) := by decide +kernel
theorem pn_19 : plainName "java/math/BigInteger" = true := by first | (simp [plainName, overriddenIn]; done) | decide +kernel
theorem ef_19 (m : MethodId) (x0 : Addr) (x1 : Int64) : entryFrame m #[(.ref x0), (.long x1)] 4 = mkF m 0 #[.val (.ref x0), .val (.long x1), .second, .unset] [] := by first | (simp [entryFrame, mkF, argsToLocals, Value.category]; done) | rfl
theorem d19_54 : decode jdk_2097_method_30_code 54 = .ok (.aload_n 0, 1) := by decide +kernel
theorem d19_55 : decode jdk_2097_method_30_code 55 = .ok (.iconst 2, 1) := by decide +kernel
theorem d19_56 : decode jdk_2097_method_30_code 56 = .ok (.newarray .int, 2) := by decide +kernel
theorem d19_58 : decode jdk_2097_method_30_code 58 = .ok (.putfield 28, 3) := by decide +kernel
theorem d19_61 : decode jdk_2097_method_30_code 61 = .ok (.aload_n 0, 1) := by decide +kernel
theorem d19_62 : decode jdk_2097_method_30_code 62 = .ok (.getfield 28, 3) := by decide +kernel
theorem d19_65 : decode jdk_2097_method_30_code 65 = .ok (.iconst 0, 1) := by decide +kernel
theorem d19_66 : decode jdk_2097_method_30_code 66 = .ok (.iload_n 3, 1) := by decide +kernel
theorem d19_67 : decode jdk_2097_method_30_code 67 = .ok (.iastore, 1) := by decide +kernel
theorem d19_68 : decode jdk_2097_method_30_code 68 = .ok (.aload_n 0, 1) := by decide +kernel
theorem d19_69 : decode jdk_2097_method_30_code 69 = .ok (.getfield 28, 3) := by decide +kernel
theorem d19_72 : decode jdk_2097_method_30_code 72 = .ok (.iconst 1, 1) := by decide +kernel
theorem d19_73 : decode jdk_2097_method_30_code 73 = .ok (.lload_n 1, 1) := by decide +kernel
theorem d19_74 : decode jdk_2097_method_30_code 74 = .ok (.l2i, 1) := by decide +kernel
theorem d19_75 : decode jdk_2097_method_30_code 75 = .ok (.iastore, 1) := by decide +kernel
theorem d19_21 : decode jdk_2097_method_30_code 21 = .ok (.aload_n 0, 1) := by decide +kernel
theorem d19_22 : decode jdk_2097_method_30_code 22 = .ok (.iconst 1, 1) := by decide +kernel
theorem d19_23 : decode jdk_2097_method_30_code 23 = .ok (.putfield 32, 3) := by decide +kernel
theorem d2_0 : decode jdk_2097_method_29_code 0 = .ok (.lload_n 0, 1) := by decide +kernel
theorem d2_1 : decode jdk_2097_method_29_code 1 = .ok (.lconst 0, 1) := by decide +kernel
theorem d2_2 : decode jdk_2097_method_29_code 2 = .ok (.lcmp, 1) := by decide +kernel
theorem d2_3 : decode jdk_2097_method_29_code 3 = .ok (.ifCond .ne 7, 3) := by decide +kernel
theorem d2_6 : decode jdk_2097_method_29_code 6 = .ok (.getstatic 22, 3) := by decide +kernel
theorem d2_9 : decode jdk_2097_method_29_code 9 = .ok (.areturn, 1) := by decide +kernel
theorem pn_2 : plainName "java/math/BigInteger" = true := by first | (simp [plainName, overriddenIn]; done) | decide +kernel
theorem ef_2 (m : MethodId) (x0 : Int64) : entryFrame m #[(.long x0)] 2 = mkF m 0 #[.val (.long x0), .second] [] := by first | (simp [entryFrame, mkF, argsToLocals, Value.category]; done) | rfl
theorem d2_10 : decode jdk_2097_method_29_code 10 = .ok (.lload_n 0, 1) := by decide +kernel
theorem d2_11 : decode jdk_2097_method_29_code 11 = .ok (.lconst 0, 1) := by decide +kernel
theorem d2_12 : decode jdk_2097_method_29_code 12 = .ok (.lcmp, 1) := by decide +kernel
theorem d2_13 : decode jdk_2097_method_29_code 13 = .ok (.ifCond .le 18, 3) := by decide +kernel
theorem d2_16 : decode jdk_2097_method_29_code 16 = .ok (.lload_n 0, 1) := by decide +kernel
theorem d2_17 : decode jdk_2097_method_29_code 17 = .ok (.ldc2_w 345, 3) := by decide +kernel
theorem d2_20 : decode jdk_2097_method_29_code 20 = .ok (.lcmp, 1) := by decide +kernel
theorem d2_21 : decode jdk_2097_method_29_code 21 = .ok (.ifCond .gt 10, 3) := by decide +kernel
theorem d2_24 : decode jdk_2097_method_29_code 24 = .ok (.getstatic 347, 3) := by decide +kernel
theorem d2_27 : decode jdk_2097_method_29_code 27 = .ok (.lload_n 0, 1) := by decide +kernel
theorem d2_28 : decode jdk_2097_method_29_code 28 = .ok (.l2i, 1) := by decide +kernel
theorem d2_29 : decode jdk_2097_method_29_code 29 = .ok (.aaload, 1) := by decide +kernel
theorem d2_30 : decode jdk_2097_method_29_code 30 = .ok (.areturn, 1) := by decide +kernel
theorem d2_31 : decode jdk_2097_method_29_code 31 = .ok (.lload_n 0, 1) := by decide +kernel
theorem d2_32 : decode jdk_2097_method_29_code 32 = .ok (.lconst 0, 1) := by decide +kernel
theorem d2_33 : decode jdk_2097_method_29_code 33 = .ok (.lcmp, 1) := by decide +kernel
theorem d2_34 : decode jdk_2097_method_29_code 34 = .ok (.ifCond .ge 19, 3) := by decide +kernel
theorem d2_37 : decode jdk_2097_method_29_code 37 = .ok (.lload_n 0, 1) := by decide +kernel
theorem d2_38 : decode jdk_2097_method_29_code 38 = .ok (.ldc2_w 351, 3) := by decide +kernel
theorem d2_41 : decode jdk_2097_method_29_code 41 = .ok (.lcmp, 1) := by decide +kernel
theorem d2_42 : decode jdk_2097_method_29_code 42 = .ok (.ifCond .lt 11, 3) := by decide +kernel
theorem d2_45 : decode jdk_2097_method_29_code 45 = .ok (.getstatic 353, 3) := by decide +kernel
theorem d2_48 : decode jdk_2097_method_29_code 48 = .ok (.lload_n 0, 1) := by decide +kernel
theorem d2_49 : decode jdk_2097_method_29_code 49 = .ok (.lneg, 1) := by decide +kernel
theorem d2_50 : decode jdk_2097_method_29_code 50 = .ok (.l2i, 1) := by decide +kernel
theorem d2_51 : decode jdk_2097_method_29_code 51 = .ok (.aaload, 1) := by decide +kernel
theorem d2_52 : decode jdk_2097_method_29_code 52 = .ok (.areturn, 1) := by decide +kernel
theorem d2_53 : decode jdk_2097_method_29_code 53 = .ok (.new 23, 3) := by decide +kernel
theorem d2_56 : decode jdk_2097_method_29_code 56 = .ok (.dup, 1) := by decide +kernel
theorem d2_57 : decode jdk_2097_method_29_code 57 = .ok (.lload_n 0, 1) := by decide +kernel
theorem d2_58 : decode jdk_2097_method_29_code 58 = .ok (.invokespecial 356, 3) := by decide +kernel
theorem pd_J_V : parseMethodDescriptor "(J)V" = some ⟨[.long], none⟩ := by decide +kernel
theorem d2_61 : decode jdk_2097_method_29_code 61 = .ok (.areturn, 1) := by decide +kernel
theorem d3_0 : decode prog_30_method_1_code 0 = .ok (.aload_n 0, 1) := by decide +kernel
theorem d3_1 : decode prog_30_method_1_code 1 = .ok (.invokespecial 3, 3) := by decide +kernel
theorem d3_4 : decode prog_30_method_1_code 4 = .ok (.aload_n 0, 1) := by decide +kernel
theorem d3_5 : decode prog_30_method_1_code 5 = .ok (.aload_n 1, 1) := by decide +kernel
theorem d3_6 : decode prog_30_method_1_code 6 = .ok (.putfield 9, 3) := by decide +kernel
theorem d3_9 : decode prog_30_method_1_code 9 = .ok (.aload_n 0, 1) := by decide +kernel
theorem d3_10 : decode prog_30_method_1_code 10 = .ok (.aload_n 2, 1) := by decide +kernel
theorem d3_11 : decode prog_30_method_1_code 11 = .ok (.putfield 15, 3) := by decide +kernel
theorem d3_14 : decode prog_30_method_1_code 14 = .ok (.return_, 1) := by decide +kernel
theorem pn_3 : plainName "com/example/granica/granica/Rational" = true := by first | (simp [plainName, overriddenIn]; done) | decide +kernel
theorem ef_3 (m : MethodId) (x0 : Addr) (x1 : Addr) (x2 : Addr) : entryFrame m #[(.ref x0), (.ref x1), (.ref x2)] 3 = mkF m 0 #[.val (.ref x0), .val (.ref x1), .val (.ref x2)] [] := by first | (simp [entryFrame, mkF, argsToLocals, Value.category]; done) | rfl
theorem d1_0 : decode prog_30_method_2_code 0 = .ok (.new 10, 3) := by decide +kernel
theorem d1_3 : decode prog_30_method_2_code 3 = .ok (.dup, 1) := by decide +kernel
theorem d1_4 : decode prog_30_method_2_code 4 = .ok (.lload_n 0, 1) := by decide +kernel
theorem d1_5 : decode prog_30_method_2_code 5 = .ok (.invokestatic 18, 3) := by decide +kernel
theorem pd_J_Ljava_math_BigInteger_ : parseMethodDescriptor "(J)Ljava/math/BigInteger;" = some ⟨[.long], some (.object "java/math/BigInteger")⟩ := by decide +kernel
theorem d1_8 : decode prog_30_method_2_code 8 = .ok (.getstatic 24, 3) := by decide +kernel
theorem d1_11 : decode prog_30_method_2_code 11 = .ok (.invokespecial 27, 3) := by decide +kernel
theorem pd_Ljava_math_BigInteger_Ljava_math_BigInteger__V : parseMethodDescriptor "(Ljava/math/BigInteger;Ljava/math/BigInteger;)V" = some ⟨[(.object "java/math/BigInteger"), (.object "java/math/BigInteger")], none⟩ := by decide +kernel
theorem d1_14 : decode prog_30_method_2_code 14 = .ok (.areturn, 1) := by decide +kernel
theorem pn_1 : plainName "com/example/granica/granica/Rational" = true := by first | (simp [plainName, overriddenIn]; done) | decide +kernel
theorem ef_1 (m : MethodId) (x0 : Int64) : entryFrame m #[(.long x0)] 2 = mkF m 0 #[.val (.long x0), .second] [] := by first | (simp [entryFrame, mkF, argsToLocals, Value.category]; done) | rfl
theorem d8_0 : decode jdk_2097_method_81_code 0 = .ok (.aload_n 0, 1) := by decide +kernel
theorem d8_1 : decode jdk_2097_method_81_code 1 = .ok (.getfield 32, 3) := by decide +kernel
theorem d8_4 : decode jdk_2097_method_81_code 4 = .ok (.ireturn, 1) := by decide +kernel
theorem pn_8 : plainName "java/math/BigInteger" = true := by first | (simp [plainName, overriddenIn]; done) | decide +kernel
theorem ef_8 (m : MethodId) (x0 : Addr) : entryFrame m #[(.ref x0)] 1 = mkF m 0 #[.val (.ref x0)] [] := by first | (simp [entryFrame, mkF, argsToLocals, Value.category]; done) | rfl
theorem d10_0 : decode jdk_2097_method_124_code 0 = .ok (.aload_n 1, 1) := by decide +kernel
theorem d10_1 : decode jdk_2097_method_124_code 1 = .ok (.aload_n 0, 1) := by decide +kernel
theorem d10_2 : decode jdk_2097_method_124_code 2 = .ok (.if_acmp .ne 5, 3) := by decide +kernel
theorem d10_5 : decode jdk_2097_method_124_code 5 = .ok (.iconst 1, 1) := by decide +kernel
theorem d10_6 : decode jdk_2097_method_124_code 6 = .ok (.ireturn, 1) := by decide +kernel
theorem pn_10 : plainName "java/math/BigInteger" = true := by first | (simp [plainName, overriddenIn]; done) | decide +kernel
theorem ef_10 (m : MethodId) (x0 : Addr) (x1 : Addr) : entryFrame m #[(.ref x0), (.ref x1)] 7 = mkF m 0 #[.val (.ref x0), .val (.ref x1), .unset, .unset, .unset, .unset, .unset] [] := by first | (simp [entryFrame, mkF, argsToLocals, Value.category]; done) | rfl
theorem d10_7 : decode jdk_2097_method_124_code 7 = .ok (.aload_n 1, 1) := by decide +kernel
theorem d10_8 : decode jdk_2097_method_124_code 8 = .ok (.instanceof 23, 3) := by decide +kernel
theorem d10_11 : decode jdk_2097_method_124_code 11 = .ok (.ifCond .eq 11, 3) := by decide +kernel
theorem d10_14 : decode jdk_2097_method_124_code 14 = .ok (.aload_n 1, 1) := by decide +kernel
theorem d10_15 : decode jdk_2097_method_124_code 15 = .ok (.checkcast 23, 3) := by decide +kernel
theorem d10_18 : decode jdk_2097_method_124_code 18 = .ok (.astore_n 2, 1) := by decide +kernel
theorem d10_19 : decode jdk_2097_method_124_code 19 = .ok (.goto 5, 3) := by decide +kernel
theorem d10_24 : decode jdk_2097_method_124_code 24 = .ok (.aload_n 2, 1) := by decide +kernel
theorem d10_25 : decode jdk_2097_method_124_code 25 = .ok (.getfield 32, 3) := by decide +kernel
theorem d10_28 : decode jdk_2097_method_124_code 28 = .ok (.aload_n 0, 1) := by decide +kernel
theorem d10_29 : decode jdk_2097_method_124_code 29 = .ok (.getfield 32, 3) := by decide +kernel
theorem d10_32 : decode jdk_2097_method_124_code 32 = .ok (.if_icmp .eq 5, 3) := by decide +kernel
theorem d10_37 : decode jdk_2097_method_124_code 37 = .ok (.aload_n 0, 1) := by decide +kernel
theorem d10_38 : decode jdk_2097_method_124_code 38 = .ok (.getfield 28, 3) := by decide +kernel
theorem d10_41 : decode jdk_2097_method_124_code 41 = .ok (.astore_n 3, 1) := by decide +kernel
theorem d10_42 : decode jdk_2097_method_124_code 42 = .ok (.aload_n 3, 1) := by decide +kernel
theorem d10_43 : decode jdk_2097_method_124_code 43 = .ok (.arraylength, 1) := by decide +kernel
theorem d10_44 : decode jdk_2097_method_124_code 44 = .ok (.istore 4, 2) := by decide +kernel
theorem d10_46 : decode jdk_2097_method_124_code 46 = .ok (.aload_n 2, 1) := by decide +kernel
theorem d10_47 : decode jdk_2097_method_124_code 47 = .ok (.getfield 28, 3) := by decide +kernel
theorem d10_50 : decode jdk_2097_method_124_code 50 = .ok (.astore 5, 2) := by decide +kernel
theorem d10_52 : decode jdk_2097_method_124_code 52 = .ok (.iload 4, 2) := by decide +kernel
theorem d10_54 : decode jdk_2097_method_124_code 54 = .ok (.aload 5, 2) := by decide +kernel
theorem d10_56 : decode jdk_2097_method_124_code 56 = .ok (.arraylength, 1) := by decide +kernel
theorem d10_57 : decode jdk_2097_method_124_code 57 = .ok (.if_icmp .eq 5, 3) := by decide +kernel
theorem d10_62 : decode jdk_2097_method_124_code 62 = .ok (.iconst 0, 1) := by decide +kernel
theorem d10_63 : decode jdk_2097_method_124_code 63 = .ok (.istore 6, 2) := by decide +kernel
theorem d10_65 : decode jdk_2097_method_124_code 65 = .ok (.iload 6, 2) := by decide +kernel
theorem d10_67 : decode jdk_2097_method_124_code 67 = .ok (.iload 4, 2) := by decide +kernel
theorem d10_69 : decode jdk_2097_method_124_code 69 = .ok (.if_icmp .ge 23, 3) := by decide +kernel
theorem d10_92 : decode jdk_2097_method_124_code 92 = .ok (.iconst 1, 1) := by decide +kernel
theorem d10_93 : decode jdk_2097_method_124_code 93 = .ok (.ireturn, 1) := by decide +kernel
theorem d10_72 : decode jdk_2097_method_124_code 72 = .ok (.aload 5, 2) := by decide +kernel
theorem d10_74 : decode jdk_2097_method_124_code 74 = .ok (.iload 6, 2) := by decide +kernel
theorem d10_76 : decode jdk_2097_method_124_code 76 = .ok (.iaload, 1) := by decide +kernel
theorem d10_77 : decode jdk_2097_method_124_code 77 = .ok (.aload_n 3, 1) := by decide +kernel
theorem d10_78 : decode jdk_2097_method_124_code 78 = .ok (.iload 6, 2) := by decide +kernel
theorem d10_80 : decode jdk_2097_method_124_code 80 = .ok (.iaload, 1) := by decide +kernel
theorem d10_81 : decode jdk_2097_method_124_code 81 = .ok (.if_icmp .eq 5, 3) := by decide +kernel
theorem d10_86 : decode jdk_2097_method_124_code 86 = .ok (.iinc 6 1, 3) := by decide +kernel
theorem d10_89 : decode jdk_2097_method_124_code 89 = .ok (.goto (-24), 3) := by decide +kernel
theorem d9_0 : decode prog_30_method_14_code 0 = .ok (.aload_n 1, 1) := by decide +kernel
theorem d9_1 : decode prog_30_method_14_code 1 = .ok (.getstatic 24, 3) := by decide +kernel
theorem d9_4 : decode prog_30_method_14_code 4 = .ok (.invokevirtual 172, 3) := by decide +kernel
theorem pd_Ljava_lang_Object__Z : parseMethodDescriptor "(Ljava/lang/Object;)Z" = some ⟨[(.object "java/lang/Object")], some .boolean⟩ := by decide +kernel
theorem d9_7 : decode prog_30_method_14_code 7 = .ok (.ifCond .eq 16, 3) := by decide +kernel
theorem d9_10 : decode prog_30_method_14_code 10 = .ok (.new 10, 3) := by decide +kernel
theorem d9_13 : decode prog_30_method_14_code 13 = .ok (.dup, 1) := by decide +kernel
theorem d9_14 : decode prog_30_method_14_code 14 = .ok (.aload_n 0, 1) := by decide +kernel
theorem d9_15 : decode prog_30_method_14_code 15 = .ok (.aload_n 1, 1) := by decide +kernel
theorem d9_16 : decode prog_30_method_14_code 16 = .ok (.invokespecial 27, 3) := by decide +kernel
theorem d9_19 : decode prog_30_method_14_code 19 = .ok (.astore_n 2, 1) := by decide +kernel
theorem d9_20 : decode prog_30_method_14_code 20 = .ok (.goto 72, 3) := by decide +kernel
theorem d9_92 : decode prog_30_method_14_code 92 = .ok (.aload_n 2, 1) := by decide +kernel
theorem d9_93 : decode prog_30_method_14_code 93 = .ok (.areturn, 1) := by decide +kernel
theorem pn_9 : plainName "com/example/granica/granica/Rational" = true := by first | (simp [plainName, overriddenIn]; done) | decide +kernel
theorem ef_9 (m : MethodId) (x0 : Addr) (x1 : Addr) : entryFrame m #[(.ref x0), (.ref x1)] 4 = mkF m 0 #[.val (.ref x0), .val (.ref x1), .unset, .unset] [] := by first | (simp [entryFrame, mkF, argsToLocals, Value.category]; done) | rfl
theorem d7_0 : decode jdk_31_method_11_code 0 = .ok (.aload_n 0, 1) := by decide +kernel
theorem d7_1 : decode jdk_31_method_11_code 1 = .ok (.ifnonnull 12, 3) := by decide +kernel
theorem d7_13 : decode jdk_31_method_11_code 13 = .ok (.aload_n 0, 1) := by decide +kernel
theorem d7_14 : decode jdk_31_method_11_code 14 = .ok (.areturn, 1) := by decide +kernel
theorem pn_7 : plainName "java/util/Objects" = true := by first | (simp [plainName, overriddenIn]; done) | decide +kernel
theorem ef_7 (m : MethodId) (x0 : Addr) (x1 : Addr) : entryFrame m #[(.ref x0), (.ref x1)] 2 = mkF m 0 #[.val (.ref x0), .val (.ref x1)] [] := by first | (simp [entryFrame, mkF, argsToLocals, Value.category]; done) | rfl
theorem d6_0 : decode prog_30_method_5_code 0 = .ok (.aload_n 0, 1) := by decide +kernel
theorem d6_1 : decode prog_30_method_5_code 1 = .ok (.ldc 41, 2) := by decide +kernel
theorem d6_3 : decode prog_30_method_5_code 3 = .ok (.invokestatic 32, 3) := by decide +kernel
theorem pd_Ljava_lang_Object_Ljava_lang_String__Ljava_lang_Object_ : parseMethodDescriptor "(Ljava/lang/Object;Ljava/lang/String;)Ljava/lang/Object;" = some ⟨[(.object "java/lang/Object"), (.object "java/lang/String")], some (.object "java/lang/Object")⟩ := by decide +kernel
theorem d6_6 : decode prog_30_method_5_code 6 = .ok (.pop, 1) := by decide +kernel
theorem d6_7 : decode prog_30_method_5_code 7 = .ok (.aload_n 1, 1) := by decide +kernel
theorem d6_8 : decode prog_30_method_5_code 8 = .ok (.ldc 42, 2) := by decide +kernel
theorem d6_10 : decode prog_30_method_5_code 10 = .ok (.invokestatic 32, 3) := by decide +kernel
theorem d6_13 : decode prog_30_method_5_code 13 = .ok (.pop, 1) := by decide +kernel
theorem d6_14 : decode prog_30_method_5_code 14 = .ok (.aload_n 1, 1) := by decide +kernel
theorem d6_15 : decode prog_30_method_5_code 15 = .ok (.invokevirtual 43, 3) := by decide +kernel
theorem pd__I : parseMethodDescriptor "()I" = some ⟨[], some .int⟩ := by decide +kernel
theorem d6_18 : decode prog_30_method_5_code 18 = .ok (.ifCond .ne 16, 3) := by decide +kernel
theorem d6_34 : decode prog_30_method_5_code 34 = .ok (.aload_n 0, 1) := by decide +kernel
theorem d6_35 : decode prog_30_method_5_code 35 = .ok (.aload_n 1, 1) := by decide +kernel
theorem d6_36 : decode prog_30_method_5_code 36 = .ok (.invokestatic 60, 3) := by decide +kernel
theorem pd_Ljava_math_BigInteger_Ljava_math_BigInteger__Lcom_example_granica_granica_Rational_ : parseMethodDescriptor "(Ljava/math/BigInteger;Ljava/math/BigInteger;)Lcom/example/granica/granica/Rational;" = some ⟨[(.object "java/math/BigInteger"), (.object "java/math/BigInteger")], some (.object "com/example/granica/granica/Rational")⟩ := by decide +kernel
theorem d6_39 : decode prog_30_method_5_code 39 = .ok (.areturn, 1) := by decide +kernel
theorem pn_6 : plainName "com/example/granica/granica/Rational" = true := by first | (simp [plainName, overriddenIn]; done) | decide +kernel
theorem ef_6 (m : MethodId) (x0 : Addr) (x1 : Addr) : entryFrame m #[(.ref x0), (.ref x1)] 2 = mkF m 0 #[.val (.ref x0), .val (.ref x1)] [] := by first | (simp [entryFrame, mkF, argsToLocals, Value.category]; done) | rfl
theorem d5_0 : decode prog_30_method_4_code 0 = .ok (.lload_n 0, 1) := by decide +kernel
theorem d5_1 : decode prog_30_method_4_code 1 = .ok (.invokestatic 18, 3) := by decide +kernel
theorem d5_4 : decode prog_30_method_4_code 4 = .ok (.lload_n 2, 1) := by decide +kernel
theorem d5_5 : decode prog_30_method_4_code 5 = .ok (.invokestatic 18, 3) := by decide +kernel
theorem d5_8 : decode prog_30_method_4_code 8 = .ok (.invokestatic 38, 3) := by decide +kernel
theorem d5_11 : decode prog_30_method_4_code 11 = .ok (.areturn, 1) := by decide +kernel
theorem pn_5 : plainName "com/example/granica/granica/Rational" = true := by first | (simp [plainName, overriddenIn]; done) | decide +kernel
theorem ef_5 (m : MethodId) (x0 : Int64) (x1 : Int64) : entryFrame m #[(.long x0), (.long x1)] 4 = mkF m 0 #[.val (.long x0), .second, .val (.long x1), .second] [] := by first | (simp [entryFrame, mkF, argsToLocals, Value.category]; done) | rfl
theorem d11_0 : decode prog_30_method_20_code 0 = .ok (.aload_n 0, 1) := by decide +kernel
theorem d11_1 : decode prog_30_method_20_code 1 = .ok (.getfield 15, 3) := by decide +kernel
theorem d11_4 : decode prog_30_method_20_code 4 = .ok (.invokevirtual 43, 3) := by decide +kernel
theorem d11_7 : decode prog_30_method_20_code 7 = .ok (.ifCond .eq 7, 3) := by decide +kernel
theorem d11_10 : decode prog_30_method_20_code 10 = .ok (.iconst 1, 1) := by decide +kernel
theorem d11_11 : decode prog_30_method_20_code 11 = .ok (.goto 4, 3) := by decide +kernel
theorem d11_15 : decode prog_30_method_20_code 15 = .ok (.ireturn, 1) := by decide +kernel
theorem pn_11 : plainName "com/example/granica/granica/Rational" = true := by first | (simp [plainName, overriddenIn]; done) | decide +kernel
theorem ef_11 (m : MethodId) (x0 : Addr) : entryFrame m #[(.ref x0)] 1 = mkF m 0 #[.val (.ref x0)] [] := by first | (simp [entryFrame, mkF, argsToLocals, Value.category]; done) | rfl
theorem d12_0 : decode prog_30_method_34_code 0 = .ok (.aload_n 1, 1) := by decide +kernel
theorem d12_1 : decode prog_30_method_34_code 1 = .ok (.instanceof 10, 3) := by decide +kernel
theorem d12_4 : decode prog_30_method_34_code 4 = .ok (.ifCond .eq 11, 3) := by decide +kernel
theorem d12_7 : decode prog_30_method_34_code 7 = .ok (.aload_n 1, 1) := by decide +kernel
theorem d12_8 : decode prog_30_method_34_code 8 = .ok (.checkcast 10, 3) := by decide +kernel
theorem d12_11 : decode prog_30_method_34_code 11 = .ok (.astore_n 2, 1) := by decide +kernel
theorem d12_12 : decode prog_30_method_34_code 12 = .ok (.goto 5, 3) := by decide +kernel
theorem d12_17 : decode prog_30_method_34_code 17 = .ok (.aload_n 0, 1) := by decide +kernel
theorem d12_18 : decode prog_30_method_34_code 18 = .ok (.getfield 9, 3) := by decide +kernel
theorem d12_21 : decode prog_30_method_34_code 21 = .ok (.aload_n 2, 1) := by decide +kernel
theorem d12_22 : decode prog_30_method_34_code 22 = .ok (.getfield 9, 3) := by decide +kernel
theorem d12_25 : decode prog_30_method_34_code 25 = .ok (.invokevirtual 172, 3) := by decide +kernel
theorem d12_28 : decode prog_30_method_34_code 28 = .ok (.ifCond .eq 21, 3) := by decide +kernel
theorem d12_31 : decode prog_30_method_34_code 31 = .ok (.aload_n 0, 1) := by decide +kernel
theorem d12_32 : decode prog_30_method_34_code 32 = .ok (.getfield 15, 3) := by decide +kernel
theorem d12_35 : decode prog_30_method_34_code 35 = .ok (.aload_n 2, 1) := by decide +kernel
theorem d12_36 : decode prog_30_method_34_code 36 = .ok (.getfield 15, 3) := by decide +kernel
theorem d12_39 : decode prog_30_method_34_code 39 = .ok (.invokevirtual 172, 3) := by decide +kernel
theorem d12_42 : decode prog_30_method_34_code 42 = .ok (.ifCond .eq 7, 3) := by decide +kernel
theorem d12_45 : decode prog_30_method_34_code 45 = .ok (.iconst 1, 1) := by decide +kernel
theorem d12_46 : decode prog_30_method_34_code 46 = .ok (.goto 4, 3) := by decide +kernel
theorem d12_50 : decode prog_30_method_34_code 50 = .ok (.ireturn, 1) := by decide +kernel
theorem pn_12 : plainName "com/example/granica/granica/Rational" = true := by first | (simp [plainName, overriddenIn]; done) | decide +kernel
theorem ef_12 (m : MethodId) (x0 : Addr) (x1 : Addr) : entryFrame m #[(.ref x0), (.ref x1)] 3 = mkF m 0 #[.val (.ref x0), .val (.ref x1), .unset] [] := by first | (simp [entryFrame, mkF, argsToLocals, Value.category]; done) | rfl
theorem d13_0 : decode prog_30_method_21_code 0 = .ok (.aload_n 0, 1) := by decide +kernel
theorem d13_1 : decode prog_30_method_21_code 1 = .ok (.getfield 9, 3) := by decide +kernel
theorem d13_4 : decode prog_30_method_21_code 4 = .ok (.invokevirtual 43, 3) := by decide +kernel
theorem d13_7 : decode prog_30_method_21_code 7 = .ok (.ireturn, 1) := by decide +kernel
theorem pn_13 : plainName "com/example/granica/granica/Rational" = true := by first | (simp [plainName, overriddenIn]; done) | decide +kernel
theorem ef_13 (m : MethodId) (x0 : Addr) : entryFrame m #[(.ref x0)] 1 = mkF m 0 #[.val (.ref x0)] [] := by first | (simp [entryFrame, mkF, argsToLocals, Value.category]; done) | rfl
theorem d17_0 : decode jdk_2097_method_122_code 0 = .ok (.aload_n 0, 1) := by decide +kernel
theorem d17_1 : decode jdk_2097_method_122_code 1 = .ok (.getfield 28, 3) := by decide +kernel
theorem d17_4 : decode jdk_2097_method_122_code 4 = .ok (.astore_n 2, 1) := by decide +kernel
theorem d17_5 : decode jdk_2097_method_122_code 5 = .ok (.aload_n 2, 1) := by decide +kernel
theorem d17_6 : decode jdk_2097_method_122_code 6 = .ok (.arraylength, 1) := by decide +kernel
theorem d17_7 : decode jdk_2097_method_122_code 7 = .ok (.istore_n 3, 1) := by decide +kernel
theorem d17_8 : decode jdk_2097_method_122_code 8 = .ok (.aload_n 1, 1) := by decide +kernel
theorem d17_9 : decode jdk_2097_method_122_code 9 = .ok (.getfield 28, 3) := by decide +kernel
theorem d17_12 : decode jdk_2097_method_122_code 12 = .ok (.astore 4, 2) := by decide +kernel
theorem d17_14 : decode jdk_2097_method_122_code 14 = .ok (.aload 4, 2) := by decide +kernel
theorem d17_16 : decode jdk_2097_method_122_code 16 = .ok (.arraylength, 1) := by decide +kernel
theorem d17_17 : decode jdk_2097_method_122_code 17 = .ok (.istore 5, 2) := by decide +kernel
theorem d17_19 : decode jdk_2097_method_122_code 19 = .ok (.iload_n 3, 1) := by decide +kernel
theorem d17_20 : decode jdk_2097_method_122_code 20 = .ok (.iload 5, 2) := by decide +kernel
theorem d17_22 : decode jdk_2097_method_122_code 22 = .ok (.if_icmp .ge 5, 3) := by decide +kernel
theorem d17_25 : decode jdk_2097_method_122_code 25 = .ok (.iconst (-1), 1) := by decide +kernel
theorem d17_26 : decode jdk_2097_method_122_code 26 = .ok (.ireturn, 1) := by decide +kernel
theorem pn_17 : plainName "java/math/BigInteger" = true := by first | (simp [plainName, overriddenIn]; done) | decide +kernel
theorem ef_17 (m : MethodId) (x0 : Addr) (x1 : Addr) : entryFrame m #[(.ref x0), (.ref x1)] 9 = mkF m 0 #[.val (.ref x0), .val (.ref x1), .unset, .unset, .unset, .unset, .unset, .unset, .unset] [] := by first | (simp [entryFrame, mkF, argsToLocals, Value.category]; done) | rfl
theorem d17_27 : decode jdk_2097_method_122_code 27 = .ok (.iload_n 3, 1) := by decide +kernel
theorem d17_28 : decode jdk_2097_method_122_code 28 = .ok (.iload 5, 2) := by decide +kernel
theorem d17_30 : decode jdk_2097_method_122_code 30 = .ok (.if_icmp .le 5, 3) := by decide +kernel
theorem d17_33 : decode jdk_2097_method_122_code 33 = .ok (.iconst 1, 1) := by decide +kernel
theorem d17_34 : decode jdk_2097_method_122_code 34 = .ok (.ireturn, 1) := by decide +kernel
theorem d17_35 : decode jdk_2097_method_122_code 35 = .ok (.iconst 0, 1) := by decide +kernel
theorem d17_36 : decode jdk_2097_method_122_code 36 = .ok (.istore 6, 2) := by decide +kernel
theorem d17_38 : decode jdk_2097_method_122_code 38 = .ok (.iload 6, 2) := by decide +kernel
theorem d17_40 : decode jdk_2097_method_122_code 40 = .ok (.iload_n 3, 1) := by decide +kernel
theorem d17_41 : decode jdk_2097_method_122_code 41 = .ok (.if_icmp .ge 53, 3) := by decide +kernel
theorem d17_44 : decode jdk_2097_method_122_code 44 = .ok (.aload_n 2, 1) := by decide +kernel
theorem d17_45 : decode jdk_2097_method_122_code 45 = .ok (.iload 6, 2) := by decide +kernel
theorem d17_47 : decode jdk_2097_method_122_code 47 = .ok (.iaload, 1) := by decide +kernel
theorem d17_48 : decode jdk_2097_method_122_code 48 = .ok (.istore 7, 2) := by decide +kernel
theorem d17_50 : decode jdk_2097_method_122_code 50 = .ok (.aload 4, 2) := by decide +kernel
theorem d17_52 : decode jdk_2097_method_122_code 52 = .ok (.iload 6, 2) := by decide +kernel
theorem d17_54 : decode jdk_2097_method_122_code 54 = .ok (.iaload, 1) := by decide +kernel
theorem d17_55 : decode jdk_2097_method_122_code 55 = .ok (.istore 8, 2) := by decide +kernel
theorem d17_57 : decode jdk_2097_method_122_code 57 = .ok (.iload 7, 2) := by decide +kernel
theorem d17_59 : decode jdk_2097_method_122_code 59 = .ok (.iload 8, 2) := by decide +kernel
theorem d17_61 : decode jdk_2097_method_122_code 61 = .ok (.if_icmp .eq 27, 3) := by decide +kernel
theorem d17_64 : decode jdk_2097_method_122_code 64 = .ok (.iload 7, 2) := by decide +kernel
theorem d17_66 : decode jdk_2097_method_122_code 66 = .ok (.i2l, 1) := by decide +kernel
theorem d17_67 : decode jdk_2097_method_122_code 67 = .ok (.ldc2_w 130, 3) := by decide +kernel
theorem d17_70 : decode jdk_2097_method_122_code 70 = .ok (.land, 1) := by decide +kernel
theorem d17_71 : decode jdk_2097_method_122_code 71 = .ok (.iload 8, 2) := by decide +kernel
theorem d17_73 : decode jdk_2097_method_122_code 73 = .ok (.i2l, 1) := by decide +kernel
theorem d17_74 : decode jdk_2097_method_122_code 74 = .ok (.ldc2_w 130, 3) := by decide +kernel
theorem d17_77 : decode jdk_2097_method_122_code 77 = .ok (.land, 1) := by decide +kernel
theorem d17_78 : decode jdk_2097_method_122_code 78 = .ok (.lcmp, 1) := by decide +kernel
theorem d17_79 : decode jdk_2097_method_122_code 79 = .ok (.ifCond .ge 7, 3) := by decide +kernel
theorem d17_82 : decode jdk_2097_method_122_code 82 = .ok (.iconst (-1), 1) := by decide +kernel
theorem d17_83 : decode jdk_2097_method_122_code 83 = .ok (.goto 4, 3) := by decide +kernel
theorem d17_87 : decode jdk_2097_method_122_code 87 = .ok (.ireturn, 1) := by decide +kernel
theorem d17_86 : decode jdk_2097_method_122_code 86 = .ok (.iconst 1, 1) := by decide +kernel
theorem d17_88 : decode jdk_2097_method_122_code 88 = .ok (.iinc 6 1, 3) := by decide +kernel
theorem d17_91 : decode jdk_2097_method_122_code 91 = .ok (.goto (-53), 3) := by decide +kernel
theorem d17_94 : decode jdk_2097_method_122_code 94 = .ok (.iconst 0, 1) := by decide +kernel
theorem d17_95 : decode jdk_2097_method_122_code 95 = .ok (.ireturn, 1) := by decide +kernel
theorem d16_0 : decode jdk_2097_method_121_code 0 = .ok (.aload_n 0, 1) := by decide +kernel
theorem d16_1 : decode jdk_2097_method_121_code 1 = .ok (.getfield 32, 3) := by decide +kernel
theorem d16_4 : decode jdk_2097_method_121_code 4 = .ok (.aload_n 1, 1) := by decide +kernel
theorem d16_5 : decode jdk_2097_method_121_code 5 = .ok (.getfield 32, 3) := by decide +kernel
theorem d16_8 : decode jdk_2097_method_121_code 8 = .ok (.if_icmp .ne 50, 3) := by decide +kernel
theorem d16_11 : decode jdk_2097_method_121_code 11 = .ok (.aload_n 0, 1) := by decide +kernel
theorem d16_12 : decode jdk_2097_method_121_code 12 = .ok (.getfield 32, 3) := by decide +kernel
theorem d16_15 : decode jdk_2097_method_121_code 15 = .ok (.lookupswitch 41 #[(-1, 33), (1, 25)], 25) := by decide +kernel
theorem d16_40 : decode jdk_2097_method_121_code 40 = .ok (.aload_n 0, 1) := by decide +kernel
theorem d16_41 : decode jdk_2097_method_121_code 41 = .ok (.aload_n 1, 1) := by decide +kernel
theorem d16_42 : decode jdk_2097_method_121_code 42 = .ok (.invokevirtual 365, 3) := by decide +kernel
theorem pd_Ljava_math_BigInteger__I : parseMethodDescriptor "(Ljava/math/BigInteger;)I" = some ⟨[(.object "java/math/BigInteger")], some .int⟩ := by decide +kernel
theorem d16_45 : decode jdk_2097_method_121_code 45 = .ok (.goto 12, 3) := by decide +kernel
theorem d16_57 : decode jdk_2097_method_121_code 57 = .ok (.ireturn, 1) := by decide +kernel
theorem pn_16 : plainName "java/math/BigInteger" = true := by first | (simp [plainName, overriddenIn]; done) | decide +kernel
theorem ef_16 (m : MethodId) (x0 : Addr) (x1 : Addr) : entryFrame m #[(.ref x0), (.ref x1)] 2 = mkF m 0 #[.val (.ref x0), .val (.ref x1)] [] := by first | (simp [entryFrame, mkF, argsToLocals, Value.category]; done) | rfl
theorem d16_48 : decode jdk_2097_method_121_code 48 = .ok (.aload_n 1, 1) := by decide +kernel
theorem d16_49 : decode jdk_2097_method_121_code 49 = .ok (.aload_n 0, 1) := by decide +kernel
theorem d16_50 : decode jdk_2097_method_121_code 50 = .ok (.invokevirtual 365, 3) := by decide +kernel
theorem d16_53 : decode jdk_2097_method_121_code 53 = .ok (.goto 4, 3) := by decide +kernel
theorem d16_56 : decode jdk_2097_method_121_code 56 = .ok (.iconst 0, 1) := by decide +kernel
theorem d16_58 : decode jdk_2097_method_121_code 58 = .ok (.aload_n 0, 1) := by decide +kernel
theorem d16_59 : decode jdk_2097_method_121_code 59 = .ok (.getfield 32, 3) := by decide +kernel
theorem d16_62 : decode jdk_2097_method_121_code 62 = .ok (.aload_n 1, 1) := by decide +kernel
theorem d16_63 : decode jdk_2097_method_121_code 63 = .ok (.getfield 32, 3) := by decide +kernel
theorem d16_66 : decode jdk_2097_method_121_code 66 = .ok (.if_icmp .le 7, 3) := by decide +kernel
theorem d16_69 : decode jdk_2097_method_121_code 69 = .ok (.iconst 1, 1) := by decide +kernel
theorem d16_70 : decode jdk_2097_method_121_code 70 = .ok (.goto 4, 3) := by decide +kernel
theorem d16_74 : decode jdk_2097_method_121_code 74 = .ok (.ireturn, 1) := by decide +kernel
theorem d16_73 : decode jdk_2097_method_121_code 73 = .ok (.iconst (-1), 1) := by decide +kernel
theorem d15_0 : decode prog_30_method_33_code 0 = .ok (.aload_n 0, 1) := by decide +kernel
theorem d15_1 : decode prog_30_method_33_code 1 = .ok (.getfield 15, 3) := by decide +kernel
theorem d15_4 : decode prog_30_method_33_code 4 = .ok (.aload_n 1, 1) := by decide +kernel
theorem d15_5 : decode prog_30_method_33_code 5 = .ok (.getfield 15, 3) := by decide +kernel
theorem d15_8 : decode prog_30_method_33_code 8 = .ok (.invokevirtual 172, 3) := by decide +kernel
theorem d15_11 : decode prog_30_method_33_code 11 = .ok (.ifCond .eq 18, 3) := by decide +kernel
theorem d15_14 : decode prog_30_method_33_code 14 = .ok (.aload_n 0, 1) := by decide +kernel
theorem d15_15 : decode prog_30_method_33_code 15 = .ok (.getfield 9, 3) := by decide +kernel
theorem d15_18 : decode prog_30_method_33_code 18 = .ok (.aload_n 1, 1) := by decide +kernel
theorem d15_19 : decode prog_30_method_33_code 19 = .ok (.getfield 9, 3) := by decide +kernel
theorem d15_22 : decode prog_30_method_33_code 22 = .ok (.invokevirtual 279, 3) := by decide +kernel
theorem d15_25 : decode prog_30_method_33_code 25 = .ok (.istore_n 2, 1) := by decide +kernel
theorem d15_26 : decode prog_30_method_33_code 26 = .ok (.goto 31, 3) := by decide +kernel
theorem d15_57 : decode prog_30_method_33_code 57 = .ok (.iload_n 2, 1) := by decide +kernel
theorem d15_58 : decode prog_30_method_33_code 58 = .ok (.ireturn, 1) := by decide +kernel
theorem pn_15 : plainName "com/example/granica/granica/Rational" = true := by first | (simp [plainName, overriddenIn]; done) | decide +kernel
theorem ef_15 (m : MethodId) (x0 : Addr) (x1 : Addr) : entryFrame m #[(.ref x0), (.ref x1)] 4 = mkF m 0 #[.val (.ref x0), .val (.ref x1), .unset, .unset] [] := by first | (simp [entryFrame, mkF, argsToLocals, Value.category]; done) | rfl
theorem d14_0 : decode method_2_code 0 = .ok (.lload_n 0, 1) := by decide +kernel
theorem d14_1 : decode method_2_code 1 = .ok (.lconst 0, 1) := by decide +kernel
theorem d14_2 : decode method_2_code 2 = .ok (.lcmp, 1) := by decide +kernel
theorem d14_3 : decode method_2_code 3 = .ok (.ifCond .ge 5, 3) := by decide +kernel
theorem d14_6 : decode method_2_code 6 = .ok (.iconst (-1), 1) := by decide +kernel
theorem d14_7 : decode method_2_code 7 = .ok (.ireturn, 1) := by decide +kernel
theorem pn_14 : plainName "com/example/granica/granica/RationalValueOfPinLaw" = true := by first | (simp [plainName, overriddenIn]; done) | decide +kernel
theorem ef_14 (m : MethodId) (x0 : Int64) : entryFrame m #[(.long x0)] 2 = mkF m 0 #[.val (.long x0), .second] [] := by first | (simp [entryFrame, mkF, argsToLocals, Value.category]; done) | rfl
theorem d14_8 : decode method_2_code 8 = .ok (.lload_n 0, 1) := by decide +kernel
theorem d14_9 : decode method_2_code 9 = .ok (.lconst 0, 1) := by decide +kernel
theorem d14_10 : decode method_2_code 10 = .ok (.lcmp, 1) := by decide +kernel
theorem d14_11 : decode method_2_code 11 = .ok (.ifCond .le 5, 3) := by decide +kernel
theorem d14_14 : decode method_2_code 14 = .ok (.iconst 1, 1) := by decide +kernel
theorem d14_15 : decode method_2_code 15 = .ok (.ireturn, 1) := by decide +kernel
theorem d14_16 : decode method_2_code 16 = .ok (.iconst 0, 1) := by decide +kernel
theorem d14_17 : decode method_2_code 17 = .ok (.ireturn, 1) := by decide +kernel
theorem d18_0 : decode method_3_code 0 = .ok (.lload_n 0, 1) := by decide +kernel
theorem d18_1 : decode method_3_code 1 = .ok (.lload_n 2, 1) := by decide +kernel
theorem d18_2 : decode method_3_code 2 = .ok (.lcmp, 1) := by decide +kernel
theorem d18_3 : decode method_3_code 3 = .ok (.ifCond .ge 5, 3) := by decide +kernel
theorem d18_6 : decode method_3_code 6 = .ok (.iconst (-1), 1) := by decide +kernel
theorem d18_7 : decode method_3_code 7 = .ok (.ireturn, 1) := by decide +kernel
theorem pn_18 : plainName "com/example/granica/granica/RationalValueOfPinLaw" = true := by first | (simp [plainName, overriddenIn]; done) | decide +kernel
theorem ef_18 (m : MethodId) (x0 : Int64) (x1 : Int64) : entryFrame m #[(.long x0), (.long x1)] 4 = mkF m 0 #[.val (.long x0), .second, .val (.long x1), .second] [] := by first | (simp [entryFrame, mkF, argsToLocals, Value.category]; done) | rfl
theorem d18_8 : decode method_3_code 8 = .ok (.lload_n 0, 1) := by decide +kernel
theorem d18_9 : decode method_3_code 9 = .ok (.lload_n 2, 1) := by decide +kernel
theorem d18_10 : decode method_3_code 10 = .ok (.lcmp, 1) := by decide +kernel
theorem d18_11 : decode method_3_code 11 = .ok (.ifCond .le 5, 3) := by decide +kernel
theorem d18_14 : decode method_3_code 14 = .ok (.iconst 1, 1) := by decide +kernel
theorem d18_15 : decode method_3_code 15 = .ok (.ireturn, 1) := by decide +kernel
theorem d18_16 : decode method_3_code 16 = .ok (.iconst 0, 1) := by decide +kernel
theorem d18_17 : decode method_3_code 17 = .ok (.ireturn, 1) := by decide +kernel
theorem pd_J_Lcom_example_granica_granica_Rational_ : parseMethodDescriptor "(J)Lcom/example/granica/granica/Rational;" = some ⟨[.long], some (.object "com/example/granica/granica/Rational")⟩ := by decide +kernel
theorem pd_JJ_Lcom_example_granica_granica_Rational_ : parseMethodDescriptor "(JJ)Lcom/example/granica/granica/Rational;" = some ⟨[.long, .long], some (.object "com/example/granica/granica/Rational")⟩ := by decide +kernel
theorem pd__Z : parseMethodDescriptor "()Z" = some ⟨[], some .boolean⟩ := by decide +kernel
theorem pd_J_I : parseMethodDescriptor "(J)I" = some ⟨[.long], some .int⟩ := by decide +kernel
theorem pd_Lcom_example_granica_granica_Rational__I : parseMethodDescriptor "(Lcom/example/granica/granica/Rational;)I" = some ⟨[(.object "com/example/granica/granica/Rational")], some .int⟩ := by decide +kernel
theorem pd_JJ_I : parseMethodDescriptor "(JJ)I" = some ⟨[.long, .long], some .int⟩ := by decide +kernel
theorem pn_0 : plainName "com/example/granica/granica/RationalValueOfPinLaw" = true := by first | (simp [plainName, overriddenIn]; done) | decide +kernel
theorem ef_0 (m : MethodId) (x0 : Int64) (x1 : Int64) : entryFrame m #[(.long x0), (.long x1)] maxLocals = mkF m 0 #[.val (.long x0), .second, .val (.long x1), .second, .unset, .unset, .unset, .unset, .unset, .unset, .unset, .unset] [] := by first | (simp [entryFrame, mkF, argsToLocals, Value.category, maxLocals]; done) | rfl
set_option maxRecDepth 65536 in
set_option maxHeartbeats 40000000 in
theorem rmNum (l : Launch) (Z : State) (a0 : Array Value) (hw : ∀ d ∈ tables_1, d.before a0 Z = true) (ws : List Jvm.Cond) (a1 : Addr) (h0 : Heap) (n0 : Nat) (X00 : Old Z n0 h0) :
    MetFree l (⟨"java/lang/Number", "<init>", "()V"⟩ : MethodName) (head1 (Jvm.Cond.code (⟨"java/lang/Number", "<init>", "()V"⟩ : MethodName) jdk_18_method_1_code 1 none :: ws) ({ frames := 1, cells := 0, slots := 0, locals := 12 } : Room)) (fun a U => a = #[(.ref a1)] ∧ Z.Warmed39 U.vm ∧ U.heap = h0) (fun _ _ _ _ _ => True) (fun _ U o U' => ∃ rv rL, o = .returned rv ∧ Qs none h0 n0 rv U'.heap rL ∧ FrameEnd U o U' rL ({ frames := 1, cells := 0, slots := 0, locals := 12 } : Room).cells ({ frames := 1, cells := 0, slots := 0, locals := 12 } : Room).slots) := by
  refine MetFree.of_bodySF (plainFor_of_name pn_20) hisR ?_
  intro p e s m args below meth c s₁ Bd hml0 hP hK
  obtain ⟨rfl, hZ, hh⟩ := hP
  have hx := Bd.exec
  have hby := Bd.bytes
  have hml : c.maxLocals = 1 := hml0
  have hown : s.vm.findClass "java/lang/Number" = some m.cls := findClass_of_methodNamed Bd.named
  have hnm := (name_of_methodNamed Bd.named Bd.method).1
  have X0 : Stand p l e ({ frames := 1, cells := 0, slots := 0, locals := 12 } : Room) s m #[(.ref a1)] below meth c s₁ [] 0 0 := Stand.of_body Bd
  have e0 : s₁.heap = h0 := by rw [← hh, Bd.state]; rfl
  have N0 := Fr.nil n0
  have pre0 : ∀ t, Steps p.tables e below (s₁.setTop (mkF m 0 #[.val (.ref a1)] [])) t → Steps p.tables e below (s₁.setTop (entryFrame m #[(.ref a1)] 1)) t := fun t k => castTop (ef_20 m a1) k
  obtain ⟨T101, X101, e101, st101⟩ := initO X0 hx hZ hown (hw _ (List.mem_of_getElem? (i := 111) rfl)) (hw _ (List.mem_of_getElem? (i := 17) rfl)) (hw _ (List.mem_of_getElem? (i := 18) rfl)) e0 (g := (mkF m 1 #[.val (.ref a1)] [(.ref a1)])) rfl (by rw [hml]; rfl) rfl (hb hby d20_1) (by decide) (W := 0) (by show 2 * 0 + _ ≤ _; exact Nat.le_of_eq rfl) (by decide)
  obtain ⟨fs, hr, hrun, hended, hW, hsame⟩ := X101.leave (v := none) (fun _ => rfl)
  refine ⟨_, _, pre0 _ ?_, hrun, hended, _, _, rfl, ?_, ⟨_, rfl⟩, hW, hsame.mono (by decide) (by decide)⟩
  · show Steps p.tables e below (s₁.setTop (mkF m 0 #[.val (.ref a1)] [])) _
    refine XS.aloadN X0.here hx rfl (hb hby d20_0) rfl rfl ?_
    show Steps p.tables e below (s₁.setTop (mkF m 1 #[.val (.ref a1)] [(.ref a1)])) _
    refine st101 _ ?_
    show Steps p.tables e below (T101.setTop (mkF m 4 #[.val (.ref a1)] [])) _
    exact X101.returnOut hx Bd.returns (hb hby d20_4) hr
  · show Qs none h0 n0 _ T101.heap _
    rw [e101]
    exact ⟨rfl, N0, rfl⟩
set_option maxRecDepth 65536 in
set_option maxHeartbeats 40000000 in
theorem rmBI_ff (l : Launch) (Z : State) (a0 : Array Value) (hw : ∀ d ∈ tables_1, d.before a0 Z = true) (ws : List Jvm.Cond) (a1 : Addr) (q2 : Int64) (us : Value) (um : Value) (h0 : Heap) (n0 : Nat) (X00 : Old Z n0 h0) (hz : ¬ (q2 = (0 : Int64))) (E_a1 : Exa Z h0 a1 BI) (F_s : Fld Z h0 a1 BI "signum" "I" us) (F_m : Fld Z h0 a1 BI "mag" "[I" um) (g_a1 : n0 ≤ a1) (hc7 : (lcmpW q2 (0 : Int64)) < (0 : Int32)) (hc33 : ((((-q2).toUInt64 >>> ((32 : Int32) &&& 0x3f).toInt64.toUInt64).toInt64).toInt32) = (0 : Int32)) :
    MetFree l (⟨"java/math/BigInteger", "<init>", "(J)V"⟩ : MethodName) (head1 (Jvm.Cond.code (⟨"java/math/BigInteger", "<init>", "(J)V"⟩ : MethodName) jdk_2097_method_30_code 4 none :: ws) ({ frames := 2, cells := 1, slots := 2, locals := 24 } : Room)) (fun a U => a = #[(.ref a1), (.long q2)] ∧ Z.Warmed39 U.vm ∧ U.heap = h0) (fun _ _ _ _ _ => True) (fun _ U o U' => ∃ rv rL, o = .returned rv ∧ QBI Z a1 q2 h0 n0 rv U'.heap rL ∧ FrameEnd U o U' rL ({ frames := 2, cells := 1, slots := 2, locals := 24 } : Room).cells ({ frames := 2, cells := 1, slots := 2, locals := 24 } : Room).slots) := by
  refine MetFree.of_bodySF (plainFor_of_name pn_19) hisR ?_
  intro p e s m args below meth c s₁ Bd hml0 hP hK
  obtain ⟨rfl, hZ, hh⟩ := hP
  have hx := Bd.exec
  have hby := Bd.bytes
  have hml : c.maxLocals = 4 := hml0
  have hown : s.vm.findClass "java/math/BigInteger" = some m.cls := findClass_of_methodNamed Bd.named
  have hnm := (name_of_methodNamed Bd.named Bd.method).1
  have X0 : Stand p l e ({ frames := 2, cells := 1, slots := 2, locals := 24 } : Room) s m #[(.ref a1), (.long q2)] below meth c s₁ [] 0 0 := Stand.of_body Bd
  have e0 : s₁.heap = h0 := by rw [← hh, Bd.state]; rfl
  have N0 := Fr.nil n0
  have pre0 : ∀ t, Steps p.tables e below (s₁.setTop (mkF m 0 #[.val (.ref a1), .val (.long q2), .second, .unset] [])) t → Steps p.tables e below (s₁.setTop (entryFrame m #[(.ref a1), (.long q2)] 4)) t := fun t k => castTop (ef_19 m a1 q2) k
  obtain ⟨_, _, ⟨T101, L101, k101, n101⟩, -, X101, ⟨Lc101, hQ101, l101, y101, z101⟩, st101⟩ := X0.specialBack hx (y := (⟨"java/lang/Number", "<init>", "()V"⟩ : MethodName)) rfl hown (mvT hZ (hw _ (List.mem_of_getElem? (i := 105) rfl))) (mvT hZ (hw _ (List.mem_of_getElem? (i := 106) rfl))) (mvT hZ (hw _ (List.mem_of_getElem? (i := 110) rfl))) (by decide) (backOf (W := 0) (rmNum l Z a0 hw [] a1 h0 n0 X00) hZ (hw _ (List.mem_of_getElem? (i := 110) rfl)) (hw _ (List.mem_of_getElem? (i := 109) rfl)) (by decide) (by decide)) (g := (mkF m 1 #[.val (.ref a1), .val (.long q2), .second, .unset] [(.ref a1)])) rfl (by rw [hml]; rfl) (Steps.refl _) (a := a1) (argsL := []) (rest := []) (lenOf pd__V rfl) rfl (by show 2 * 0 + _ ≤ _; exact Nat.le_of_eq rfl) (hb hby d19_1) (fun _ _ => ⟨rfl, e0, (by decide : 0 + 0 ≤ _), (by decide : 0 + 0 ≤ _)⟩)
  dsimp only [Pt.U, Pt.locs, Pt.cells, Pt.slots] at X101 l101 y101 z101 st101 hQ101
  subst l101 y101 z101
  obtain ⟨rfl, N101q, eq101⟩ := hQ101
  have N101 := Fr.app N0 N101q
  obtain ⟨T102, h102, X102, e102, W102, st102⟩ := putF X101 hx hZ hown (host := "") (Or.inl (hw _ (List.mem_of_getElem? (i := 47) rfl))) Via.refl eq101 F_s E_a1 (Or.inr ⟨(hw _ (List.mem_of_getElem? (i := 48) rfl)), rfl, hnm⟩) (hw _ (List.mem_of_getElem? (i := 100) rfl)) (ty := .int) (by decide) rfl rfl (g := (mkF m 15 #[.val (.ref a1), .val (.long (-q2)), .second, .unset] [(.int (-1 : Int32)), (.ref a1)])) rfl rfl (hb hby d19_15)
  have Fw102 := F_s.same W102
  have N102 := Fr.snoc X102 N101 g_a1
  have y104 := (E_a1.wr W102)
  have lz103_a1 := y104.lt
  obtain ⟨T103, h103, k103, X103, e103, E103, A103, st103⟩ := newP X102 hx hZ (hw _ (List.mem_of_getElem? (i := 112) rfl)) e102 (g := (mkF m 38 #[.val (.ref a1), .val (.long (-q2)), .second, .val (.int ((((-q2).toUInt64 >>> ((32 : Int32) &&& 0x3f).toInt64.toUInt64).toInt64).toInt32))] [(.int (1 : Int32)), (.ref a1)])) rfl (hb hby d19_38) rfl (by decide) (cap := 1) (by decide) (by decide) (by decide) (by decide)
  obtain ⟨b103, g103⟩ : ∃ z, z = h102.size := ⟨_, rfl⟩
  rw [← g103] at A103 st103
  have y105 := (X00.wr W102 g_a1)
  have g_b103 : n0 ≤ b103 := Nat.le_trans (own_le y105) (Nat.le_of_eq g103.symm)
  have lt_a1_b103 : a1 < b103 := Nat.lt_of_lt_of_le lz103_a1 (Nat.le_of_eq g103.symm)
  have y106 := ((Keep.refl h0 [a1]).wr W102 (Or.inl (List.mem_of_getElem? (i := 0) rfl)))
  have sz_b103 : h0.size ≤ b103 := Nat.le_trans y106.1 (Nat.le_of_eq g103.symm)
  have V103 : Arv Z h103 b103 k103 .int (1 : Int32) [(.int (0 : Int32))] (.int (0 : Int32)) := (Arv.new A103 (by decide)).pad (pad_rep [] (.int (0 : Int32)) 1)
  have y107 := ((F_m.other W102 (Or.inr (slot_ne (Or.inr (hw _ (List.mem_of_getElem? (i := 93) rfl))) (Or.inr (hw _ (List.mem_of_getElem? (i := 48) rfl))) (by decide) (t := (.array .int)) (t' := .int) (by decide) (by decide)))).ext E103)
  have y108 := (y104.ext E103)
  obtain ⟨T109, h109, X109, e109, W109, st109⟩ := putF X103 hx hZ hown (host := "") (Or.inl (hw _ (List.mem_of_getElem? (i := 92) rfl))) Via.refl e103 y107 y108 (Or.inr ⟨(hw _ (List.mem_of_getElem? (i := 93) rfl)), rfl, hnm⟩) (hw _ (List.mem_of_getElem? (i := 100) rfl)) (ty := (.array .int)) (by decide) rfl rfl (g := (mkF m 40 #[.val (.ref a1), .val (.long (-q2)), .second, .val (.int ((((-q2).toUInt64 >>> ((32 : Int32) &&& 0x3f).toInt64.toUInt64).toInt64).toInt32))] [(.ref b103), (.ref a1)])) rfl rfl (hb hby d19_40)
  have Fw109 := y107.same W109
  have N109 := Fr.snoc X109 N102 g_a1
  obtain ⟨T110, X110, e110, st110⟩ := getF X109 hx hZ hown (host := "") (Or.inl (hw _ (List.mem_of_getElem? (i := 92) rfl))) Via.refl e109 Fw109 (g := (mkF m 44 #[.val (.ref a1), .val (.long (-q2)), .second, .val (.int ((((-q2).toUInt64 >>> ((32 : Int32) &&& 0x3f).toInt64.toUInt64).toInt64).toInt32))] [(.ref a1)])) rfl rfl (hb hby d19_44)
  have y112 := (V103.other W109 (Ne.symm (Nat.ne_of_lt lt_a1_b103)))
  obtain ⟨cl111, Ar111, q111, S111, M111, H111, G111⟩ := id y112
  obtain ⟨T111, h111, X111, e111, W111, st111⟩ := stI X110 hx hZ e110 Ar111 (j := (0 : Int32)) (inb_of S111 ⟨by decide, by decide⟩) (g := (mkF m 50 #[.val (.ref a1), .val (.long (-q2)), .second, .val (.int ((((-q2).toUInt64 >>> ((32 : Int32) &&& 0x3f).toInt64.toUInt64).toInt64).toInt32))] [(.int ((-q2).toInt32)), (.int (0 : Int32)), (.ref b103)])) rfl rfl (hb hby d19_50)
  have V111 : Arv Z h111 b103 k103 .int (1 : Int32) [(.int ((-q2).toInt32))] (.int (0 : Int32)) := Arv.set Ar111 q111 S111 M111 H111 G111 rfl W111 0 rfl (Nat.le_of_ble_eq_true rfl)
  have N111 := Fr.snoc X111 N109 g_b103
  have hlt : q2 < 0 := (lw_lt q2 0).mp hc7
  have es : own_sg q2 = (-1 : Int32) := by rw [own_sg, if_pos hlt]
  have ea : own_ab q2 = (-q2) := by rw [own_ab, if_pos hlt]
  have em : own_mg q2 = [(-q2).toInt32] := by rw [own_mg, if_neg hz, ea, if_pos (show own_hi (-q2) = 0 from hc33)]
  have y113 := (Fw109.other W111 (Or.inl (Nat.ne_of_lt lt_a1_b103)))
  have y114 := (((Fw102.ext E103).other W109 (Or.inr (slot_ne (Or.inr (hw _ (List.mem_of_getElem? (i := 48) rfl))) (Or.inr (hw _ (List.mem_of_getElem? (i := 93) rfl))) (by decide) (t := .int) (t' := (.array .int)) (by decide) (by decide)))).other W111 (Or.inl (Nat.ne_of_lt lt_a1_b103)))
  have y115 := (((y106.ext E103).wr W109 (Or.inl (List.mem_of_getElem? (i := 0) rfl))).wr W111 (Or.inr sz_b103))
  obtain ⟨fs, hr, hrun, hended, hW, hsame⟩ := X111.leave (v := none) (fun _ => rfl)
  refine ⟨_, _, pre0 _ ?_, hrun, hended, _, _, rfl, ?_, ⟨_, rfl⟩, hW, hsame.mono (by decide) (by decide)⟩
  · show Steps p.tables e below (s₁.setTop (mkF m 0 #[.val (.ref a1), .val (.long q2), .second, .unset] [])) _
    refine XS.aloadN X0.here hx rfl (hb hby d19_0) rfl rfl ?_
    show Steps p.tables e below (s₁.setTop (mkF m 1 #[.val (.ref a1), .val (.long q2), .second, .unset] [(.ref a1)])) _
    refine st101.trans ?_
    show Steps p.tables e below (T101.setTop (mkF m 4 #[.val (.ref a1), .val (.long q2), .second, .unset] [])) _
    refine XS.lloadN X101.here hx rfl (hb hby d19_4) rfl ?_
    show Steps p.tables e below (T101.setTop (mkF m 5 #[.val (.ref a1), .val (.long q2), .second, .unset] [(.long q2)])) _
    refine XS.lconst X101.here hx rfl (hb hby d19_5) ?_
    show Steps p.tables e below (T101.setTop (mkF m 6 #[.val (.ref a1), .val (.long q2), .second, .unset] [(.long (0 : Int64)), (.long q2)])) _
    refine XS.lcmp X101.here hx rfl (hb hby d19_6) rfl ?_
    show Steps p.tables e below (T101.setTop (mkF m 7 #[.val (.ref a1), .val (.long q2), .second, .unset] [(.int (lcmpW q2 (0 : Int64)))])) _
    refine XS.ifNo X101.here hx rfl (hb hby d19_7) rfl ((if0 _ _).trans (tlt hc7).2.1) ?_
    show Steps p.tables e below (T101.setTop (mkF m 10 #[.val (.ref a1), .val (.long q2), .second, .unset] [])) _
    refine XS.lloadN X101.here hx rfl (hb hby d19_10) rfl ?_
    show Steps p.tables e below (T101.setTop (mkF m 11 #[.val (.ref a1), .val (.long q2), .second, .unset] [(.long q2)])) _
    refine XS.lneg X101.here hx rfl (hb hby d19_11) rfl ?_
    show Steps p.tables e below (T101.setTop (mkF m 12 #[.val (.ref a1), .val (.long q2), .second, .unset] [(.long (-q2))])) _
    refine XS.lstoreN X101.here hx rfl (hb hby d19_12) rfl (l' := #[.val (.ref a1), .val (.long (-q2)), .second, .unset]) rfl ?_
    show Steps p.tables e below (T101.setTop (mkF m 13 #[.val (.ref a1), .val (.long (-q2)), .second, .unset] [])) _
    refine XS.aloadN X101.here hx rfl (hb hby d19_13) rfl rfl ?_
    show Steps p.tables e below (T101.setTop (mkF m 14 #[.val (.ref a1), .val (.long (-q2)), .second, .unset] [(.ref a1)])) _
    refine XS.iconst X101.here hx rfl (hb hby d19_14) ?_
    show Steps p.tables e below (T101.setTop (mkF m 15 #[.val (.ref a1), .val (.long (-q2)), .second, .unset] [(.int (-1 : Int32)), (.ref a1)])) _
    refine st102 _ ?_
    show Steps p.tables e below (T102.setTop (mkF m 18 #[.val (.ref a1), .val (.long (-q2)), .second, .unset] [])) _
    refine XS.goto X102.here hx rfl (pc0 := 18) (pc' := 26) rfl (hb hby d19_18) (by decide) (by decide) ?_
    show Steps p.tables e below (T102.setTop (mkF m 26 #[.val (.ref a1), .val (.long (-q2)), .second, .unset] [])) _
    refine XS.lloadN X102.here hx rfl (hb hby d19_26) rfl ?_
    show Steps p.tables e below (T102.setTop (mkF m 27 #[.val (.ref a1), .val (.long (-q2)), .second, .unset] [(.long (-q2))])) _
    refine XS.bipush X102.here hx rfl (hb hby d19_27) ?_
    show Steps p.tables e below (T102.setTop (mkF m 29 #[.val (.ref a1), .val (.long (-q2)), .second, .unset] [(.int (32 : Int32)), (.long (-q2))])) _
    refine XS.lushr X102.here hx rfl (hb hby d19_29) rfl ?_
    show Steps p.tables e below (T102.setTop (mkF m 30 #[.val (.ref a1), .val (.long (-q2)), .second, .unset] [(.long (((-q2).toUInt64 >>> ((32 : Int32) &&& 0x3f).toInt64.toUInt64).toInt64))])) _
    refine XS.l2i X102.here hx rfl (hb hby d19_30) rfl ?_
    show Steps p.tables e below (T102.setTop (mkF m 31 #[.val (.ref a1), .val (.long (-q2)), .second, .unset] [(.int ((((-q2).toUInt64 >>> ((32 : Int32) &&& 0x3f).toInt64.toUInt64).toInt64).toInt32))])) _
    refine XS.istoreN X102.here hx rfl (hb hby d19_31) rfl (l' := #[.val (.ref a1), .val (.long (-q2)), .second, .val (.int ((((-q2).toUInt64 >>> ((32 : Int32) &&& 0x3f).toInt64.toUInt64).toInt64).toInt32))]) rfl ?_
    show Steps p.tables e below (T102.setTop (mkF m 32 #[.val (.ref a1), .val (.long (-q2)), .second, .val (.int ((((-q2).toUInt64 >>> ((32 : Int32) &&& 0x3f).toInt64.toUInt64).toInt64).toInt32))] [])) _
    refine XS.iloadN X102.here hx rfl (hb hby d19_32) rfl ?_
    show Steps p.tables e below (T102.setTop (mkF m 33 #[.val (.ref a1), .val (.long (-q2)), .second, .val (.int ((((-q2).toUInt64 >>> ((32 : Int32) &&& 0x3f).toInt64.toUInt64).toInt64).toInt32))] [(.int ((((-q2).toUInt64 >>> ((32 : Int32) &&& 0x3f).toInt64.toUInt64).toInt64).toInt32))])) _
    refine XS.ifNo X102.here hx rfl (hb hby d19_33) rfl ((if0 _ _).trans (teq hc33).2) ?_
    show Steps p.tables e below (T102.setTop (mkF m 36 #[.val (.ref a1), .val (.long (-q2)), .second, .val (.int ((((-q2).toUInt64 >>> ((32 : Int32) &&& 0x3f).toInt64.toUInt64).toInt64).toInt32))] [])) _
    refine XS.aloadN X102.here hx rfl (hb hby d19_36) rfl rfl ?_
    show Steps p.tables e below (T102.setTop (mkF m 37 #[.val (.ref a1), .val (.long (-q2)), .second, .val (.int ((((-q2).toUInt64 >>> ((32 : Int32) &&& 0x3f).toInt64.toUInt64).toInt64).toInt32))] [(.ref a1)])) _
    refine XS.iconst X102.here hx rfl (hb hby d19_37) ?_
    show Steps p.tables e below (T102.setTop (mkF m 38 #[.val (.ref a1), .val (.long (-q2)), .second, .val (.int ((((-q2).toUInt64 >>> ((32 : Int32) &&& 0x3f).toInt64.toUInt64).toInt64).toInt32))] [(.int (1 : Int32)), (.ref a1)])) _
    refine st103 _ ?_
    show Steps p.tables e below (T103.setTop (mkF m 40 #[.val (.ref a1), .val (.long (-q2)), .second, .val (.int ((((-q2).toUInt64 >>> ((32 : Int32) &&& 0x3f).toInt64.toUInt64).toInt64).toInt32))] [(.ref b103), (.ref a1)])) _
    refine st109 _ ?_
    show Steps p.tables e below (T109.setTop (mkF m 43 #[.val (.ref a1), .val (.long (-q2)), .second, .val (.int ((((-q2).toUInt64 >>> ((32 : Int32) &&& 0x3f).toInt64.toUInt64).toInt64).toInt32))] [])) _
    refine XS.aloadN X109.here hx rfl (hb hby d19_43) rfl rfl ?_
    show Steps p.tables e below (T109.setTop (mkF m 44 #[.val (.ref a1), .val (.long (-q2)), .second, .val (.int ((((-q2).toUInt64 >>> ((32 : Int32) &&& 0x3f).toInt64.toUInt64).toInt64).toInt32))] [(.ref a1)])) _
    refine st110 _ ?_
    show Steps p.tables e below (T110.setTop (mkF m 47 #[.val (.ref a1), .val (.long (-q2)), .second, .val (.int ((((-q2).toUInt64 >>> ((32 : Int32) &&& 0x3f).toInt64.toUInt64).toInt64).toInt32))] [(.ref b103)])) _
    refine XS.iconst X110.here hx rfl (hb hby d19_47) ?_
    show Steps p.tables e below (T110.setTop (mkF m 48 #[.val (.ref a1), .val (.long (-q2)), .second, .val (.int ((((-q2).toUInt64 >>> ((32 : Int32) &&& 0x3f).toInt64.toUInt64).toInt64).toInt32))] [(.int (0 : Int32)), (.ref b103)])) _
    refine XS.lloadN X110.here hx rfl (hb hby d19_48) rfl ?_
    show Steps p.tables e below (T110.setTop (mkF m 49 #[.val (.ref a1), .val (.long (-q2)), .second, .val (.int ((((-q2).toUInt64 >>> ((32 : Int32) &&& 0x3f).toInt64.toUInt64).toInt64).toInt32))] [(.long (-q2)), (.int (0 : Int32)), (.ref b103)])) _
    refine XS.l2i X110.here hx rfl (hb hby d19_49) rfl ?_
    show Steps p.tables e below (T110.setTop (mkF m 50 #[.val (.ref a1), .val (.long (-q2)), .second, .val (.int ((((-q2).toUInt64 >>> ((32 : Int32) &&& 0x3f).toInt64.toUInt64).toInt64).toInt32))] [(.int ((-q2).toInt32)), (.int (0 : Int32)), (.ref b103)])) _
    refine st111 _ ?_
    show Steps p.tables e below (T111.setTop (mkF m 51 #[.val (.ref a1), .val (.long (-q2)), .second, .val (.int ((((-q2).toUInt64 >>> ((32 : Int32) &&& 0x3f).toInt64.toUInt64).toInt64).toInt32))] [])) _
    refine XS.goto X111.here hx rfl (pc0 := 51) (pc' := 76) rfl (hb hby d19_51) (by decide) (by decide) ?_
    show Steps p.tables e below (T111.setTop (mkF m 76 #[.val (.ref a1), .val (.long (-q2)), .second, .val (.int ((((-q2).toUInt64 >>> ((32 : Int32) &&& 0x3f).toInt64.toUInt64).toInt64).toInt32))] [])) _
    exact X111.returnOut hx Bd.returns (hb hby d19_76) hr
  · show QBI Z a1 q2 h0 n0 _ T111.heap _
    rw [e111]
    exact ⟨rfl, N111, y115, (by rw [es]; exact y114), b103, _, y113, (by rw [em]; exact V111)⟩
set_option maxRecDepth 65536 in
set_option maxHeartbeats 40000000 in
theorem rmBI_ft (l : Launch) (Z : State) (a0 : Array Value) (hw : ∀ d ∈ tables_1, d.before a0 Z = true) (ws : List Jvm.Cond) (a1 : Addr) (q2 : Int64) (us : Value) (um : Value) (h0 : Heap) (n0 : Nat) (X00 : Old Z n0 h0) (hz : ¬ (q2 = (0 : Int64))) (E_a1 : Exa Z h0 a1 BI) (F_s : Fld Z h0 a1 BI "signum" "I" us) (F_m : Fld Z h0 a1 BI "mag" "[I" um) (g_a1 : n0 ≤ a1) (hc7 : (lcmpW q2 (0 : Int64)) < (0 : Int32)) (hc33 : ¬ (((((-q2).toUInt64 >>> ((32 : Int32) &&& 0x3f).toInt64.toUInt64).toInt64).toInt32) = (0 : Int32))) :
    MetFree l (⟨"java/math/BigInteger", "<init>", "(J)V"⟩ : MethodName) (head1 (Jvm.Cond.code (⟨"java/math/BigInteger", "<init>", "(J)V"⟩ : MethodName) jdk_2097_method_30_code 4 none :: ws) ({ frames := 2, cells := 1, slots := 2, locals := 24 } : Room)) (fun a U => a = #[(.ref a1), (.long q2)] ∧ Z.Warmed39 U.vm ∧ U.heap = h0) (fun _ _ _ _ _ => True) (fun _ U o U' => ∃ rv rL, o = .returned rv ∧ QBI Z a1 q2 h0 n0 rv U'.heap rL ∧ FrameEnd U o U' rL ({ frames := 2, cells := 1, slots := 2, locals := 24 } : Room).cells ({ frames := 2, cells := 1, slots := 2, locals := 24 } : Room).slots) := by
  refine MetFree.of_bodySF (plainFor_of_name pn_19) hisR ?_
  intro p e s m args below meth c s₁ Bd hml0 hP hK
  obtain ⟨rfl, hZ, hh⟩ := hP
  have hx := Bd.exec
  have hby := Bd.bytes
  have hml : c.maxLocals = 4 := hml0
  have hown : s.vm.findClass "java/math/BigInteger" = some m.cls := findClass_of_methodNamed Bd.named
  have hnm := (name_of_methodNamed Bd.named Bd.method).1
  have X0 : Stand p l e ({ frames := 2, cells := 1, slots := 2, locals := 24 } : Room) s m #[(.ref a1), (.long q2)] below meth c s₁ [] 0 0 := Stand.of_body Bd
  have e0 : s₁.heap = h0 := by rw [← hh, Bd.state]; rfl
  have N0 := Fr.nil n0
  have pre0 : ∀ t, Steps p.tables e below (s₁.setTop (mkF m 0 #[.val (.ref a1), .val (.long q2), .second, .unset] [])) t → Steps p.tables e below (s₁.setTop (entryFrame m #[(.ref a1), (.long q2)] 4)) t := fun t k => castTop (ef_19 m a1 q2) k
  obtain ⟨_, _, ⟨T101, L101, k101, n101⟩, -, X101, ⟨Lc101, hQ101, l101, y101, z101⟩, st101⟩ := X0.specialBack hx (y := (⟨"java/lang/Number", "<init>", "()V"⟩ : MethodName)) rfl hown (mvT hZ (hw _ (List.mem_of_getElem? (i := 105) rfl))) (mvT hZ (hw _ (List.mem_of_getElem? (i := 106) rfl))) (mvT hZ (hw _ (List.mem_of_getElem? (i := 110) rfl))) (by decide) (backOf (W := 0) (rmNum l Z a0 hw [] a1 h0 n0 X00) hZ (hw _ (List.mem_of_getElem? (i := 110) rfl)) (hw _ (List.mem_of_getElem? (i := 109) rfl)) (by decide) (by decide)) (g := (mkF m 1 #[.val (.ref a1), .val (.long q2), .second, .unset] [(.ref a1)])) rfl (by rw [hml]; rfl) (Steps.refl _) (a := a1) (argsL := []) (rest := []) (lenOf pd__V rfl) rfl (by show 2 * 0 + _ ≤ _; exact Nat.le_of_eq rfl) (hb hby d19_1) (fun _ _ => ⟨rfl, e0, (by decide : 0 + 0 ≤ _), (by decide : 0 + 0 ≤ _)⟩)
  dsimp only [Pt.U, Pt.locs, Pt.cells, Pt.slots] at X101 l101 y101 z101 st101 hQ101
  subst l101 y101 z101
  obtain ⟨rfl, N101q, eq101⟩ := hQ101
  have N101 := Fr.app N0 N101q
  obtain ⟨T102, h102, X102, e102, W102, st102⟩ := putF X101 hx hZ hown (host := "") (Or.inl (hw _ (List.mem_of_getElem? (i := 47) rfl))) Via.refl eq101 F_s E_a1 (Or.inr ⟨(hw _ (List.mem_of_getElem? (i := 48) rfl)), rfl, hnm⟩) (hw _ (List.mem_of_getElem? (i := 100) rfl)) (ty := .int) (by decide) rfl rfl (g := (mkF m 15 #[.val (.ref a1), .val (.long (-q2)), .second, .unset] [(.int (-1 : Int32)), (.ref a1)])) rfl rfl (hb hby d19_15)
  have Fw102 := F_s.same W102
  have N102 := Fr.snoc X102 N101 g_a1
  have y104 := (E_a1.wr W102)
  have lz103_a1 := y104.lt
  obtain ⟨T103, h103, k103, X103, e103, E103, A103, st103⟩ := newP X102 hx hZ (hw _ (List.mem_of_getElem? (i := 112) rfl)) e102 (g := (mkF m 56 #[.val (.ref a1), .val (.long (-q2)), .second, .val (.int ((((-q2).toUInt64 >>> ((32 : Int32) &&& 0x3f).toInt64.toUInt64).toInt64).toInt32))] [(.int (2 : Int32)), (.ref a1)])) rfl (hb hby d19_56) rfl (by decide) (cap := 2) (by decide) (by decide) (by decide) (by decide)
  obtain ⟨b103, g103⟩ : ∃ z, z = h102.size := ⟨_, rfl⟩
  rw [← g103] at A103 st103
  have y105 := (X00.wr W102 g_a1)
  have g_b103 : n0 ≤ b103 := Nat.le_trans (own_le y105) (Nat.le_of_eq g103.symm)
  have lt_a1_b103 : a1 < b103 := Nat.lt_of_lt_of_le lz103_a1 (Nat.le_of_eq g103.symm)
  have y106 := ((Keep.refl h0 [a1]).wr W102 (Or.inl (List.mem_of_getElem? (i := 0) rfl)))
  have sz_b103 : h0.size ≤ b103 := Nat.le_trans y106.1 (Nat.le_of_eq g103.symm)
  have V103 : Arv Z h103 b103 k103 .int (2 : Int32) [(.int (0 : Int32)), (.int (0 : Int32))] (.int (0 : Int32)) := (Arv.new A103 (by decide)).pad (pad_rep [] (.int (0 : Int32)) 2)
  have y107 := ((F_m.other W102 (Or.inr (slot_ne (Or.inr (hw _ (List.mem_of_getElem? (i := 93) rfl))) (Or.inr (hw _ (List.mem_of_getElem? (i := 48) rfl))) (by decide) (t := (.array .int)) (t' := .int) (by decide) (by decide)))).ext E103)
  have y108 := (y104.ext E103)
  obtain ⟨T109, h109, X109, e109, W109, st109⟩ := putF X103 hx hZ hown (host := "") (Or.inl (hw _ (List.mem_of_getElem? (i := 92) rfl))) Via.refl e103 y107 y108 (Or.inr ⟨(hw _ (List.mem_of_getElem? (i := 93) rfl)), rfl, hnm⟩) (hw _ (List.mem_of_getElem? (i := 100) rfl)) (ty := (.array .int)) (by decide) rfl rfl (g := (mkF m 58 #[.val (.ref a1), .val (.long (-q2)), .second, .val (.int ((((-q2).toUInt64 >>> ((32 : Int32) &&& 0x3f).toInt64.toUInt64).toInt64).toInt32))] [(.ref b103), (.ref a1)])) rfl rfl (hb hby d19_58)
  have Fw109 := y107.same W109
  have N109 := Fr.snoc X109 N102 g_a1
  obtain ⟨T110, X110, e110, st110⟩ := getF X109 hx hZ hown (host := "") (Or.inl (hw _ (List.mem_of_getElem? (i := 92) rfl))) Via.refl e109 Fw109 (g := (mkF m 62 #[.val (.ref a1), .val (.long (-q2)), .second, .val (.int ((((-q2).toUInt64 >>> ((32 : Int32) &&& 0x3f).toInt64.toUInt64).toInt64).toInt32))] [(.ref a1)])) rfl rfl (hb hby d19_62)
  have y112 := (V103.other W109 (Ne.symm (Nat.ne_of_lt lt_a1_b103)))
  obtain ⟨cl111, Ar111, q111, S111, M111, H111, G111⟩ := id y112
  obtain ⟨T111, h111, X111, e111, W111, st111⟩ := stI X110 hx hZ e110 Ar111 (j := (0 : Int32)) (inb_of S111 ⟨by decide, by decide⟩) (g := (mkF m 67 #[.val (.ref a1), .val (.long (-q2)), .second, .val (.int ((((-q2).toUInt64 >>> ((32 : Int32) &&& 0x3f).toInt64.toUInt64).toInt64).toInt32))] [(.int ((((-q2).toUInt64 >>> ((32 : Int32) &&& 0x3f).toInt64.toUInt64).toInt64).toInt32)), (.int (0 : Int32)), (.ref b103)])) rfl rfl (hb hby d19_67)
  have V111 : Arv Z h111 b103 k103 .int (2 : Int32) [(.int ((((-q2).toUInt64 >>> ((32 : Int32) &&& 0x3f).toInt64.toUInt64).toInt64).toInt32)), (.int (0 : Int32))] (.int (0 : Int32)) := Arv.set Ar111 q111 S111 M111 H111 G111 rfl W111 0 rfl (Nat.le_of_ble_eq_true rfl)
  have N111 := Fr.snoc X111 N109 g_b103
  have y114 := (Fw109.other W111 (Or.inl (Nat.ne_of_lt lt_a1_b103)))
  obtain ⟨T113, X113, e113, st113⟩ := getF X111 hx hZ hown (host := "") (Or.inl (hw _ (List.mem_of_getElem? (i := 92) rfl))) Via.refl e111 y114 (g := (mkF m 69 #[.val (.ref a1), .val (.long (-q2)), .second, .val (.int ((((-q2).toUInt64 >>> ((32 : Int32) &&& 0x3f).toInt64.toUInt64).toInt64).toInt32))] [(.ref a1)])) rfl rfl (hb hby d19_69)
  obtain ⟨cl115, Ar115, q115, S115, M115, H115, G115⟩ := id V111
  obtain ⟨T115, h115, X115, e115, W115, st115⟩ := stI X113 hx hZ e113 Ar115 (j := (1 : Int32)) (inb_of S115 ⟨by decide, by decide⟩) (g := (mkF m 75 #[.val (.ref a1), .val (.long (-q2)), .second, .val (.int ((((-q2).toUInt64 >>> ((32 : Int32) &&& 0x3f).toInt64.toUInt64).toInt64).toInt32))] [(.int ((-q2).toInt32)), (.int (1 : Int32)), (.ref b103)])) rfl rfl (hb hby d19_75)
  have V115 : Arv Z h115 b103 k103 .int (2 : Int32) [(.int ((((-q2).toUInt64 >>> ((32 : Int32) &&& 0x3f).toInt64.toUInt64).toInt64).toInt32)), (.int ((-q2).toInt32))] (.int (0 : Int32)) := Arv.set Ar115 q115 S115 M115 H115 G115 rfl W115 1 rfl (Nat.le_of_ble_eq_true rfl)
  have N115 := Fr.snoc X115 N111 g_b103
  have hlt : q2 < 0 := (lw_lt q2 0).mp hc7
  have es : own_sg q2 = (-1 : Int32) := by rw [own_sg, if_pos hlt]
  have ea : own_ab q2 = (-q2) := by rw [own_ab, if_pos hlt]
  have em : own_mg q2 = [own_hi (-q2), (-q2).toInt32] := by rw [own_mg, if_neg hz, ea, if_neg (show ¬ own_hi (-q2) = 0 from hc33)]
  have y116 := (y114.other W115 (Or.inl (Nat.ne_of_lt lt_a1_b103)))
  have y117 := ((((Fw102.ext E103).other W109 (Or.inr (slot_ne (Or.inr (hw _ (List.mem_of_getElem? (i := 48) rfl))) (Or.inr (hw _ (List.mem_of_getElem? (i := 93) rfl))) (by decide) (t := .int) (t' := (.array .int)) (by decide) (by decide)))).other W111 (Or.inl (Nat.ne_of_lt lt_a1_b103))).other W115 (Or.inl (Nat.ne_of_lt lt_a1_b103)))
  have y118 := ((((y106.ext E103).wr W109 (Or.inl (List.mem_of_getElem? (i := 0) rfl))).wr W111 (Or.inr sz_b103)).wr W115 (Or.inr sz_b103))
  obtain ⟨fs, hr, hrun, hended, hW, hsame⟩ := X115.leave (v := none) (fun _ => rfl)
  refine ⟨_, _, pre0 _ ?_, hrun, hended, _, _, rfl, ?_, ⟨_, rfl⟩, hW, hsame.mono (by decide) (by decide)⟩
  · show Steps p.tables e below (s₁.setTop (mkF m 0 #[.val (.ref a1), .val (.long q2), .second, .unset] [])) _
    refine XS.aloadN X0.here hx rfl (hb hby d19_0) rfl rfl ?_
    show Steps p.tables e below (s₁.setTop (mkF m 1 #[.val (.ref a1), .val (.long q2), .second, .unset] [(.ref a1)])) _
    refine st101.trans ?_
    show Steps p.tables e below (T101.setTop (mkF m 4 #[.val (.ref a1), .val (.long q2), .second, .unset] [])) _
    refine XS.lloadN X101.here hx rfl (hb hby d19_4) rfl ?_
    show Steps p.tables e below (T101.setTop (mkF m 5 #[.val (.ref a1), .val (.long q2), .second, .unset] [(.long q2)])) _
    refine XS.lconst X101.here hx rfl (hb hby d19_5) ?_
    show Steps p.tables e below (T101.setTop (mkF m 6 #[.val (.ref a1), .val (.long q2), .second, .unset] [(.long (0 : Int64)), (.long q2)])) _
    refine XS.lcmp X101.here hx rfl (hb hby d19_6) rfl ?_
    show Steps p.tables e below (T101.setTop (mkF m 7 #[.val (.ref a1), .val (.long q2), .second, .unset] [(.int (lcmpW q2 (0 : Int64)))])) _
    refine XS.ifNo X101.here hx rfl (hb hby d19_7) rfl ((if0 _ _).trans (tlt hc7).2.1) ?_
    show Steps p.tables e below (T101.setTop (mkF m 10 #[.val (.ref a1), .val (.long q2), .second, .unset] [])) _
    refine XS.lloadN X101.here hx rfl (hb hby d19_10) rfl ?_
    show Steps p.tables e below (T101.setTop (mkF m 11 #[.val (.ref a1), .val (.long q2), .second, .unset] [(.long q2)])) _
    refine XS.lneg X101.here hx rfl (hb hby d19_11) rfl ?_
    show Steps p.tables e below (T101.setTop (mkF m 12 #[.val (.ref a1), .val (.long q2), .second, .unset] [(.long (-q2))])) _
    refine XS.lstoreN X101.here hx rfl (hb hby d19_12) rfl (l' := #[.val (.ref a1), .val (.long (-q2)), .second, .unset]) rfl ?_
    show Steps p.tables e below (T101.setTop (mkF m 13 #[.val (.ref a1), .val (.long (-q2)), .second, .unset] [])) _
    refine XS.aloadN X101.here hx rfl (hb hby d19_13) rfl rfl ?_
    show Steps p.tables e below (T101.setTop (mkF m 14 #[.val (.ref a1), .val (.long (-q2)), .second, .unset] [(.ref a1)])) _
    refine XS.iconst X101.here hx rfl (hb hby d19_14) ?_
    show Steps p.tables e below (T101.setTop (mkF m 15 #[.val (.ref a1), .val (.long (-q2)), .second, .unset] [(.int (-1 : Int32)), (.ref a1)])) _
    refine st102 _ ?_
    show Steps p.tables e below (T102.setTop (mkF m 18 #[.val (.ref a1), .val (.long (-q2)), .second, .unset] [])) _
    refine XS.goto X102.here hx rfl (pc0 := 18) (pc' := 26) rfl (hb hby d19_18) (by decide) (by decide) ?_
    show Steps p.tables e below (T102.setTop (mkF m 26 #[.val (.ref a1), .val (.long (-q2)), .second, .unset] [])) _
    refine XS.lloadN X102.here hx rfl (hb hby d19_26) rfl ?_
    show Steps p.tables e below (T102.setTop (mkF m 27 #[.val (.ref a1), .val (.long (-q2)), .second, .unset] [(.long (-q2))])) _
    refine XS.bipush X102.here hx rfl (hb hby d19_27) ?_
    show Steps p.tables e below (T102.setTop (mkF m 29 #[.val (.ref a1), .val (.long (-q2)), .second, .unset] [(.int (32 : Int32)), (.long (-q2))])) _
    refine XS.lushr X102.here hx rfl (hb hby d19_29) rfl ?_
    show Steps p.tables e below (T102.setTop (mkF m 30 #[.val (.ref a1), .val (.long (-q2)), .second, .unset] [(.long (((-q2).toUInt64 >>> ((32 : Int32) &&& 0x3f).toInt64.toUInt64).toInt64))])) _
    refine XS.l2i X102.here hx rfl (hb hby d19_30) rfl ?_
    show Steps p.tables e below (T102.setTop (mkF m 31 #[.val (.ref a1), .val (.long (-q2)), .second, .unset] [(.int ((((-q2).toUInt64 >>> ((32 : Int32) &&& 0x3f).toInt64.toUInt64).toInt64).toInt32))])) _
    refine XS.istoreN X102.here hx rfl (hb hby d19_31) rfl (l' := #[.val (.ref a1), .val (.long (-q2)), .second, .val (.int ((((-q2).toUInt64 >>> ((32 : Int32) &&& 0x3f).toInt64.toUInt64).toInt64).toInt32))]) rfl ?_
    show Steps p.tables e below (T102.setTop (mkF m 32 #[.val (.ref a1), .val (.long (-q2)), .second, .val (.int ((((-q2).toUInt64 >>> ((32 : Int32) &&& 0x3f).toInt64.toUInt64).toInt64).toInt32))] [])) _
    refine XS.iloadN X102.here hx rfl (hb hby d19_32) rfl ?_
    show Steps p.tables e below (T102.setTop (mkF m 33 #[.val (.ref a1), .val (.long (-q2)), .second, .val (.int ((((-q2).toUInt64 >>> ((32 : Int32) &&& 0x3f).toInt64.toUInt64).toInt64).toInt32))] [(.int ((((-q2).toUInt64 >>> ((32 : Int32) &&& 0x3f).toInt64.toUInt64).toInt64).toInt32))])) _
    refine XS.ifYes X102.here hx rfl (pc0 := 33) (pc' := 54) rfl (hb hby d19_33) rfl ((if0 _ _).trans (feq hc33).2) (by decide) (by decide) ?_
    show Steps p.tables e below (T102.setTop (mkF m 54 #[.val (.ref a1), .val (.long (-q2)), .second, .val (.int ((((-q2).toUInt64 >>> ((32 : Int32) &&& 0x3f).toInt64.toUInt64).toInt64).toInt32))] [])) _
    refine XS.aloadN X102.here hx rfl (hb hby d19_54) rfl rfl ?_
    show Steps p.tables e below (T102.setTop (mkF m 55 #[.val (.ref a1), .val (.long (-q2)), .second, .val (.int ((((-q2).toUInt64 >>> ((32 : Int32) &&& 0x3f).toInt64.toUInt64).toInt64).toInt32))] [(.ref a1)])) _
    refine XS.iconst X102.here hx rfl (hb hby d19_55) ?_
    show Steps p.tables e below (T102.setTop (mkF m 56 #[.val (.ref a1), .val (.long (-q2)), .second, .val (.int ((((-q2).toUInt64 >>> ((32 : Int32) &&& 0x3f).toInt64.toUInt64).toInt64).toInt32))] [(.int (2 : Int32)), (.ref a1)])) _
    refine st103 _ ?_
    show Steps p.tables e below (T103.setTop (mkF m 58 #[.val (.ref a1), .val (.long (-q2)), .second, .val (.int ((((-q2).toUInt64 >>> ((32 : Int32) &&& 0x3f).toInt64.toUInt64).toInt64).toInt32))] [(.ref b103), (.ref a1)])) _
    refine st109 _ ?_
    show Steps p.tables e below (T109.setTop (mkF m 61 #[.val (.ref a1), .val (.long (-q2)), .second, .val (.int ((((-q2).toUInt64 >>> ((32 : Int32) &&& 0x3f).toInt64.toUInt64).toInt64).toInt32))] [])) _
    refine XS.aloadN X109.here hx rfl (hb hby d19_61) rfl rfl ?_
    show Steps p.tables e below (T109.setTop (mkF m 62 #[.val (.ref a1), .val (.long (-q2)), .second, .val (.int ((((-q2).toUInt64 >>> ((32 : Int32) &&& 0x3f).toInt64.toUInt64).toInt64).toInt32))] [(.ref a1)])) _
    refine st110 _ ?_
    show Steps p.tables e below (T110.setTop (mkF m 65 #[.val (.ref a1), .val (.long (-q2)), .second, .val (.int ((((-q2).toUInt64 >>> ((32 : Int32) &&& 0x3f).toInt64.toUInt64).toInt64).toInt32))] [(.ref b103)])) _
    refine XS.iconst X110.here hx rfl (hb hby d19_65) ?_
    show Steps p.tables e below (T110.setTop (mkF m 66 #[.val (.ref a1), .val (.long (-q2)), .second, .val (.int ((((-q2).toUInt64 >>> ((32 : Int32) &&& 0x3f).toInt64.toUInt64).toInt64).toInt32))] [(.int (0 : Int32)), (.ref b103)])) _
    refine XS.iloadN X110.here hx rfl (hb hby d19_66) rfl ?_
    show Steps p.tables e below (T110.setTop (mkF m 67 #[.val (.ref a1), .val (.long (-q2)), .second, .val (.int ((((-q2).toUInt64 >>> ((32 : Int32) &&& 0x3f).toInt64.toUInt64).toInt64).toInt32))] [(.int ((((-q2).toUInt64 >>> ((32 : Int32) &&& 0x3f).toInt64.toUInt64).toInt64).toInt32)), (.int (0 : Int32)), (.ref b103)])) _
    refine st111 _ ?_
    show Steps p.tables e below (T111.setTop (mkF m 68 #[.val (.ref a1), .val (.long (-q2)), .second, .val (.int ((((-q2).toUInt64 >>> ((32 : Int32) &&& 0x3f).toInt64.toUInt64).toInt64).toInt32))] [])) _
    refine XS.aloadN X111.here hx rfl (hb hby d19_68) rfl rfl ?_
    show Steps p.tables e below (T111.setTop (mkF m 69 #[.val (.ref a1), .val (.long (-q2)), .second, .val (.int ((((-q2).toUInt64 >>> ((32 : Int32) &&& 0x3f).toInt64.toUInt64).toInt64).toInt32))] [(.ref a1)])) _
    refine st113 _ ?_
    show Steps p.tables e below (T113.setTop (mkF m 72 #[.val (.ref a1), .val (.long (-q2)), .second, .val (.int ((((-q2).toUInt64 >>> ((32 : Int32) &&& 0x3f).toInt64.toUInt64).toInt64).toInt32))] [(.ref b103)])) _
    refine XS.iconst X113.here hx rfl (hb hby d19_72) ?_
    show Steps p.tables e below (T113.setTop (mkF m 73 #[.val (.ref a1), .val (.long (-q2)), .second, .val (.int ((((-q2).toUInt64 >>> ((32 : Int32) &&& 0x3f).toInt64.toUInt64).toInt64).toInt32))] [(.int (1 : Int32)), (.ref b103)])) _
    refine XS.lloadN X113.here hx rfl (hb hby d19_73) rfl ?_
    show Steps p.tables e below (T113.setTop (mkF m 74 #[.val (.ref a1), .val (.long (-q2)), .second, .val (.int ((((-q2).toUInt64 >>> ((32 : Int32) &&& 0x3f).toInt64.toUInt64).toInt64).toInt32))] [(.long (-q2)), (.int (1 : Int32)), (.ref b103)])) _
    refine XS.l2i X113.here hx rfl (hb hby d19_74) rfl ?_
    show Steps p.tables e below (T113.setTop (mkF m 75 #[.val (.ref a1), .val (.long (-q2)), .second, .val (.int ((((-q2).toUInt64 >>> ((32 : Int32) &&& 0x3f).toInt64.toUInt64).toInt64).toInt32))] [(.int ((-q2).toInt32)), (.int (1 : Int32)), (.ref b103)])) _
    refine st115 _ ?_
    show Steps p.tables e below (T115.setTop (mkF m 76 #[.val (.ref a1), .val (.long (-q2)), .second, .val (.int ((((-q2).toUInt64 >>> ((32 : Int32) &&& 0x3f).toInt64.toUInt64).toInt64).toInt32))] [])) _
    exact X115.returnOut hx Bd.returns (hb hby d19_76) hr
  · show QBI Z a1 q2 h0 n0 _ T115.heap _
    rw [e115]
    exact ⟨rfl, N115, y118, (by rw [es]; exact y117), b103, _, y116, (by rw [em]; exact V115)⟩
set_option maxRecDepth 65536 in
set_option maxHeartbeats 40000000 in
theorem rmBI_tf (l : Launch) (Z : State) (a0 : Array Value) (hw : ∀ d ∈ tables_1, d.before a0 Z = true) (ws : List Jvm.Cond) (a1 : Addr) (q2 : Int64) (us : Value) (um : Value) (h0 : Heap) (n0 : Nat) (X00 : Old Z n0 h0) (hz : ¬ (q2 = (0 : Int64))) (E_a1 : Exa Z h0 a1 BI) (F_s : Fld Z h0 a1 BI "signum" "I" us) (F_m : Fld Z h0 a1 BI "mag" "[I" um) (g_a1 : n0 ≤ a1) (hc7 : ¬ ((lcmpW q2 (0 : Int64)) < (0 : Int32))) (hc33 : (((q2.toUInt64 >>> ((32 : Int32) &&& 0x3f).toInt64.toUInt64).toInt64).toInt32) = (0 : Int32)) :
    MetFree l (⟨"java/math/BigInteger", "<init>", "(J)V"⟩ : MethodName) (head1 (Jvm.Cond.code (⟨"java/math/BigInteger", "<init>", "(J)V"⟩ : MethodName) jdk_2097_method_30_code 4 none :: ws) ({ frames := 2, cells := 1, slots := 2, locals := 24 } : Room)) (fun a U => a = #[(.ref a1), (.long q2)] ∧ Z.Warmed39 U.vm ∧ U.heap = h0) (fun _ _ _ _ _ => True) (fun _ U o U' => ∃ rv rL, o = .returned rv ∧ QBI Z a1 q2 h0 n0 rv U'.heap rL ∧ FrameEnd U o U' rL ({ frames := 2, cells := 1, slots := 2, locals := 24 } : Room).cells ({ frames := 2, cells := 1, slots := 2, locals := 24 } : Room).slots) := by
  refine MetFree.of_bodySF (plainFor_of_name pn_19) hisR ?_
  intro p e s m args below meth c s₁ Bd hml0 hP hK
  obtain ⟨rfl, hZ, hh⟩ := hP
  have hx := Bd.exec
  have hby := Bd.bytes
  have hml : c.maxLocals = 4 := hml0
  have hown : s.vm.findClass "java/math/BigInteger" = some m.cls := findClass_of_methodNamed Bd.named
  have hnm := (name_of_methodNamed Bd.named Bd.method).1
  have X0 : Stand p l e ({ frames := 2, cells := 1, slots := 2, locals := 24 } : Room) s m #[(.ref a1), (.long q2)] below meth c s₁ [] 0 0 := Stand.of_body Bd
  have e0 : s₁.heap = h0 := by rw [← hh, Bd.state]; rfl
  have N0 := Fr.nil n0
  have pre0 : ∀ t, Steps p.tables e below (s₁.setTop (mkF m 0 #[.val (.ref a1), .val (.long q2), .second, .unset] [])) t → Steps p.tables e below (s₁.setTop (entryFrame m #[(.ref a1), (.long q2)] 4)) t := fun t k => castTop (ef_19 m a1 q2) k
  obtain ⟨_, _, ⟨T101, L101, k101, n101⟩, -, X101, ⟨Lc101, hQ101, l101, y101, z101⟩, st101⟩ := X0.specialBack hx (y := (⟨"java/lang/Number", "<init>", "()V"⟩ : MethodName)) rfl hown (mvT hZ (hw _ (List.mem_of_getElem? (i := 105) rfl))) (mvT hZ (hw _ (List.mem_of_getElem? (i := 106) rfl))) (mvT hZ (hw _ (List.mem_of_getElem? (i := 110) rfl))) (by decide) (backOf (W := 0) (rmNum l Z a0 hw [] a1 h0 n0 X00) hZ (hw _ (List.mem_of_getElem? (i := 110) rfl)) (hw _ (List.mem_of_getElem? (i := 109) rfl)) (by decide) (by decide)) (g := (mkF m 1 #[.val (.ref a1), .val (.long q2), .second, .unset] [(.ref a1)])) rfl (by rw [hml]; rfl) (Steps.refl _) (a := a1) (argsL := []) (rest := []) (lenOf pd__V rfl) rfl (by show 2 * 0 + _ ≤ _; exact Nat.le_of_eq rfl) (hb hby d19_1) (fun _ _ => ⟨rfl, e0, (by decide : 0 + 0 ≤ _), (by decide : 0 + 0 ≤ _)⟩)
  dsimp only [Pt.U, Pt.locs, Pt.cells, Pt.slots] at X101 l101 y101 z101 st101 hQ101
  subst l101 y101 z101
  obtain ⟨rfl, N101q, eq101⟩ := hQ101
  have N101 := Fr.app N0 N101q
  obtain ⟨T102, h102, X102, e102, W102, st102⟩ := putF X101 hx hZ hown (host := "") (Or.inl (hw _ (List.mem_of_getElem? (i := 47) rfl))) Via.refl eq101 F_s E_a1 (Or.inr ⟨(hw _ (List.mem_of_getElem? (i := 48) rfl)), rfl, hnm⟩) (hw _ (List.mem_of_getElem? (i := 100) rfl)) (ty := .int) (by decide) rfl rfl (g := (mkF m 23 #[.val (.ref a1), .val (.long q2), .second, .unset] [(.int (1 : Int32)), (.ref a1)])) rfl rfl (hb hby d19_23)
  have Fw102 := F_s.same W102
  have N102 := Fr.snoc X102 N101 g_a1
  have y104 := (E_a1.wr W102)
  have lz103_a1 := y104.lt
  obtain ⟨T103, h103, k103, X103, e103, E103, A103, st103⟩ := newP X102 hx hZ (hw _ (List.mem_of_getElem? (i := 112) rfl)) e102 (g := (mkF m 38 #[.val (.ref a1), .val (.long q2), .second, .val (.int (((q2.toUInt64 >>> ((32 : Int32) &&& 0x3f).toInt64.toUInt64).toInt64).toInt32))] [(.int (1 : Int32)), (.ref a1)])) rfl (hb hby d19_38) rfl (by decide) (cap := 1) (by decide) (by decide) (by decide) (by decide)
  obtain ⟨b103, g103⟩ : ∃ z, z = h102.size := ⟨_, rfl⟩
  rw [← g103] at A103 st103
  have y105 := (X00.wr W102 g_a1)
  have g_b103 : n0 ≤ b103 := Nat.le_trans (own_le y105) (Nat.le_of_eq g103.symm)
  have lt_a1_b103 : a1 < b103 := Nat.lt_of_lt_of_le lz103_a1 (Nat.le_of_eq g103.symm)
  have y106 := ((Keep.refl h0 [a1]).wr W102 (Or.inl (List.mem_of_getElem? (i := 0) rfl)))
  have sz_b103 : h0.size ≤ b103 := Nat.le_trans y106.1 (Nat.le_of_eq g103.symm)
  have V103 : Arv Z h103 b103 k103 .int (1 : Int32) [(.int (0 : Int32))] (.int (0 : Int32)) := (Arv.new A103 (by decide)).pad (pad_rep [] (.int (0 : Int32)) 1)
  have y107 := ((F_m.other W102 (Or.inr (slot_ne (Or.inr (hw _ (List.mem_of_getElem? (i := 93) rfl))) (Or.inr (hw _ (List.mem_of_getElem? (i := 48) rfl))) (by decide) (t := (.array .int)) (t' := .int) (by decide) (by decide)))).ext E103)
  have y108 := (y104.ext E103)
  obtain ⟨T109, h109, X109, e109, W109, st109⟩ := putF X103 hx hZ hown (host := "") (Or.inl (hw _ (List.mem_of_getElem? (i := 92) rfl))) Via.refl e103 y107 y108 (Or.inr ⟨(hw _ (List.mem_of_getElem? (i := 93) rfl)), rfl, hnm⟩) (hw _ (List.mem_of_getElem? (i := 100) rfl)) (ty := (.array .int)) (by decide) rfl rfl (g := (mkF m 40 #[.val (.ref a1), .val (.long q2), .second, .val (.int (((q2.toUInt64 >>> ((32 : Int32) &&& 0x3f).toInt64.toUInt64).toInt64).toInt32))] [(.ref b103), (.ref a1)])) rfl rfl (hb hby d19_40)
  have Fw109 := y107.same W109
  have N109 := Fr.snoc X109 N102 g_a1
  obtain ⟨T110, X110, e110, st110⟩ := getF X109 hx hZ hown (host := "") (Or.inl (hw _ (List.mem_of_getElem? (i := 92) rfl))) Via.refl e109 Fw109 (g := (mkF m 44 #[.val (.ref a1), .val (.long q2), .second, .val (.int (((q2.toUInt64 >>> ((32 : Int32) &&& 0x3f).toInt64.toUInt64).toInt64).toInt32))] [(.ref a1)])) rfl rfl (hb hby d19_44)
  have y112 := (V103.other W109 (Ne.symm (Nat.ne_of_lt lt_a1_b103)))
  obtain ⟨cl111, Ar111, q111, S111, M111, H111, G111⟩ := id y112
  obtain ⟨T111, h111, X111, e111, W111, st111⟩ := stI X110 hx hZ e110 Ar111 (j := (0 : Int32)) (inb_of S111 ⟨by decide, by decide⟩) (g := (mkF m 50 #[.val (.ref a1), .val (.long q2), .second, .val (.int (((q2.toUInt64 >>> ((32 : Int32) &&& 0x3f).toInt64.toUInt64).toInt64).toInt32))] [(.int (q2.toInt32)), (.int (0 : Int32)), (.ref b103)])) rfl rfl (hb hby d19_50)
  have V111 : Arv Z h111 b103 k103 .int (1 : Int32) [(.int (q2.toInt32))] (.int (0 : Int32)) := Arv.set Ar111 q111 S111 M111 H111 G111 rfl W111 0 rfl (Nat.le_of_ble_eq_true rfl)
  have N111 := Fr.snoc X111 N109 g_b103
  have hlt : ¬ q2 < 0 := fun q => hc7 ((lw_lt q2 0).mpr q)
  have es : own_sg q2 = (1 : Int32) := own_sgPos hz hlt
  have ea : own_ab q2 = q2 := by rw [own_ab, if_neg hlt]
  have em : own_mg q2 = [q2.toInt32] := by rw [own_mg, if_neg hz, ea, if_pos (show own_hi q2 = 0 from hc33)]
  have y113 := (Fw109.other W111 (Or.inl (Nat.ne_of_lt lt_a1_b103)))
  have y114 := (((Fw102.ext E103).other W109 (Or.inr (slot_ne (Or.inr (hw _ (List.mem_of_getElem? (i := 48) rfl))) (Or.inr (hw _ (List.mem_of_getElem? (i := 93) rfl))) (by decide) (t := .int) (t' := (.array .int)) (by decide) (by decide)))).other W111 (Or.inl (Nat.ne_of_lt lt_a1_b103)))
  have y115 := (((y106.ext E103).wr W109 (Or.inl (List.mem_of_getElem? (i := 0) rfl))).wr W111 (Or.inr sz_b103))
  obtain ⟨fs, hr, hrun, hended, hW, hsame⟩ := X111.leave (v := none) (fun _ => rfl)
  refine ⟨_, _, pre0 _ ?_, hrun, hended, _, _, rfl, ?_, ⟨_, rfl⟩, hW, hsame.mono (by decide) (by decide)⟩
  · show Steps p.tables e below (s₁.setTop (mkF m 0 #[.val (.ref a1), .val (.long q2), .second, .unset] [])) _
    refine XS.aloadN X0.here hx rfl (hb hby d19_0) rfl rfl ?_
    show Steps p.tables e below (s₁.setTop (mkF m 1 #[.val (.ref a1), .val (.long q2), .second, .unset] [(.ref a1)])) _
    refine st101.trans ?_
    show Steps p.tables e below (T101.setTop (mkF m 4 #[.val (.ref a1), .val (.long q2), .second, .unset] [])) _
    refine XS.lloadN X101.here hx rfl (hb hby d19_4) rfl ?_
    show Steps p.tables e below (T101.setTop (mkF m 5 #[.val (.ref a1), .val (.long q2), .second, .unset] [(.long q2)])) _
    refine XS.lconst X101.here hx rfl (hb hby d19_5) ?_
    show Steps p.tables e below (T101.setTop (mkF m 6 #[.val (.ref a1), .val (.long q2), .second, .unset] [(.long (0 : Int64)), (.long q2)])) _
    refine XS.lcmp X101.here hx rfl (hb hby d19_6) rfl ?_
    show Steps p.tables e below (T101.setTop (mkF m 7 #[.val (.ref a1), .val (.long q2), .second, .unset] [(.int (lcmpW q2 (0 : Int64)))])) _
    refine XS.ifYes X101.here hx rfl (pc0 := 7) (pc' := 21) rfl (hb hby d19_7) rfl ((if0 _ _).trans (flt hc7).2.1) (by decide) (by decide) ?_
    show Steps p.tables e below (T101.setTop (mkF m 21 #[.val (.ref a1), .val (.long q2), .second, .unset] [])) _
    refine XS.aloadN X101.here hx rfl (hb hby d19_21) rfl rfl ?_
    show Steps p.tables e below (T101.setTop (mkF m 22 #[.val (.ref a1), .val (.long q2), .second, .unset] [(.ref a1)])) _
    refine XS.iconst X101.here hx rfl (hb hby d19_22) ?_
    show Steps p.tables e below (T101.setTop (mkF m 23 #[.val (.ref a1), .val (.long q2), .second, .unset] [(.int (1 : Int32)), (.ref a1)])) _
    refine st102 _ ?_
    show Steps p.tables e below (T102.setTop (mkF m 26 #[.val (.ref a1), .val (.long q2), .second, .unset] [])) _
    refine XS.lloadN X102.here hx rfl (hb hby d19_26) rfl ?_
    show Steps p.tables e below (T102.setTop (mkF m 27 #[.val (.ref a1), .val (.long q2), .second, .unset] [(.long q2)])) _
    refine XS.bipush X102.here hx rfl (hb hby d19_27) ?_
    show Steps p.tables e below (T102.setTop (mkF m 29 #[.val (.ref a1), .val (.long q2), .second, .unset] [(.int (32 : Int32)), (.long q2)])) _
    refine XS.lushr X102.here hx rfl (hb hby d19_29) rfl ?_
    show Steps p.tables e below (T102.setTop (mkF m 30 #[.val (.ref a1), .val (.long q2), .second, .unset] [(.long ((q2.toUInt64 >>> ((32 : Int32) &&& 0x3f).toInt64.toUInt64).toInt64))])) _
    refine XS.l2i X102.here hx rfl (hb hby d19_30) rfl ?_
    show Steps p.tables e below (T102.setTop (mkF m 31 #[.val (.ref a1), .val (.long q2), .second, .unset] [(.int (((q2.toUInt64 >>> ((32 : Int32) &&& 0x3f).toInt64.toUInt64).toInt64).toInt32))])) _
    refine XS.istoreN X102.here hx rfl (hb hby d19_31) rfl (l' := #[.val (.ref a1), .val (.long q2), .second, .val (.int (((q2.toUInt64 >>> ((32 : Int32) &&& 0x3f).toInt64.toUInt64).toInt64).toInt32))]) rfl ?_
    show Steps p.tables e below (T102.setTop (mkF m 32 #[.val (.ref a1), .val (.long q2), .second, .val (.int (((q2.toUInt64 >>> ((32 : Int32) &&& 0x3f).toInt64.toUInt64).toInt64).toInt32))] [])) _
    refine XS.iloadN X102.here hx rfl (hb hby d19_32) rfl ?_
    show Steps p.tables e below (T102.setTop (mkF m 33 #[.val (.ref a1), .val (.long q2), .second, .val (.int (((q2.toUInt64 >>> ((32 : Int32) &&& 0x3f).toInt64.toUInt64).toInt64).toInt32))] [(.int (((q2.toUInt64 >>> ((32 : Int32) &&& 0x3f).toInt64.toUInt64).toInt64).toInt32))])) _
    refine XS.ifNo X102.here hx rfl (hb hby d19_33) rfl ((if0 _ _).trans (teq hc33).2) ?_
    show Steps p.tables e below (T102.setTop (mkF m 36 #[.val (.ref a1), .val (.long q2), .second, .val (.int (((q2.toUInt64 >>> ((32 : Int32) &&& 0x3f).toInt64.toUInt64).toInt64).toInt32))] [])) _
    refine XS.aloadN X102.here hx rfl (hb hby d19_36) rfl rfl ?_
    show Steps p.tables e below (T102.setTop (mkF m 37 #[.val (.ref a1), .val (.long q2), .second, .val (.int (((q2.toUInt64 >>> ((32 : Int32) &&& 0x3f).toInt64.toUInt64).toInt64).toInt32))] [(.ref a1)])) _
    refine XS.iconst X102.here hx rfl (hb hby d19_37) ?_
    show Steps p.tables e below (T102.setTop (mkF m 38 #[.val (.ref a1), .val (.long q2), .second, .val (.int (((q2.toUInt64 >>> ((32 : Int32) &&& 0x3f).toInt64.toUInt64).toInt64).toInt32))] [(.int (1 : Int32)), (.ref a1)])) _
    refine st103 _ ?_
    show Steps p.tables e below (T103.setTop (mkF m 40 #[.val (.ref a1), .val (.long q2), .second, .val (.int (((q2.toUInt64 >>> ((32 : Int32) &&& 0x3f).toInt64.toUInt64).toInt64).toInt32))] [(.ref b103), (.ref a1)])) _
    refine st109 _ ?_
    show Steps p.tables e below (T109.setTop (mkF m 43 #[.val (.ref a1), .val (.long q2), .second, .val (.int (((q2.toUInt64 >>> ((32 : Int32) &&& 0x3f).toInt64.toUInt64).toInt64).toInt32))] [])) _
    refine XS.aloadN X109.here hx rfl (hb hby d19_43) rfl rfl ?_
    show Steps p.tables e below (T109.setTop (mkF m 44 #[.val (.ref a1), .val (.long q2), .second, .val (.int (((q2.toUInt64 >>> ((32 : Int32) &&& 0x3f).toInt64.toUInt64).toInt64).toInt32))] [(.ref a1)])) _
    refine st110 _ ?_
    show Steps p.tables e below (T110.setTop (mkF m 47 #[.val (.ref a1), .val (.long q2), .second, .val (.int (((q2.toUInt64 >>> ((32 : Int32) &&& 0x3f).toInt64.toUInt64).toInt64).toInt32))] [(.ref b103)])) _
    refine XS.iconst X110.here hx rfl (hb hby d19_47) ?_
    show Steps p.tables e below (T110.setTop (mkF m 48 #[.val (.ref a1), .val (.long q2), .second, .val (.int (((q2.toUInt64 >>> ((32 : Int32) &&& 0x3f).toInt64.toUInt64).toInt64).toInt32))] [(.int (0 : Int32)), (.ref b103)])) _
    refine XS.lloadN X110.here hx rfl (hb hby d19_48) rfl ?_
    show Steps p.tables e below (T110.setTop (mkF m 49 #[.val (.ref a1), .val (.long q2), .second, .val (.int (((q2.toUInt64 >>> ((32 : Int32) &&& 0x3f).toInt64.toUInt64).toInt64).toInt32))] [(.long q2), (.int (0 : Int32)), (.ref b103)])) _
    refine XS.l2i X110.here hx rfl (hb hby d19_49) rfl ?_
    show Steps p.tables e below (T110.setTop (mkF m 50 #[.val (.ref a1), .val (.long q2), .second, .val (.int (((q2.toUInt64 >>> ((32 : Int32) &&& 0x3f).toInt64.toUInt64).toInt64).toInt32))] [(.int (q2.toInt32)), (.int (0 : Int32)), (.ref b103)])) _
    refine st111 _ ?_
    show Steps p.tables e below (T111.setTop (mkF m 51 #[.val (.ref a1), .val (.long q2), .second, .val (.int (((q2.toUInt64 >>> ((32 : Int32) &&& 0x3f).toInt64.toUInt64).toInt64).toInt32))] [])) _
    refine XS.goto X111.here hx rfl (pc0 := 51) (pc' := 76) rfl (hb hby d19_51) (by decide) (by decide) ?_
    show Steps p.tables e below (T111.setTop (mkF m 76 #[.val (.ref a1), .val (.long q2), .second, .val (.int (((q2.toUInt64 >>> ((32 : Int32) &&& 0x3f).toInt64.toUInt64).toInt64).toInt32))] [])) _
    exact X111.returnOut hx Bd.returns (hb hby d19_76) hr
  · show QBI Z a1 q2 h0 n0 _ T111.heap _
    rw [e111]
    exact ⟨rfl, N111, y115, (by rw [es]; exact y114), b103, _, y113, (by rw [em]; exact V111)⟩
set_option maxRecDepth 65536 in
set_option maxHeartbeats 40000000 in
theorem rmBI_tt (l : Launch) (Z : State) (a0 : Array Value) (hw : ∀ d ∈ tables_1, d.before a0 Z = true) (ws : List Jvm.Cond) (a1 : Addr) (q2 : Int64) (us : Value) (um : Value) (h0 : Heap) (n0 : Nat) (X00 : Old Z n0 h0) (hz : ¬ (q2 = (0 : Int64))) (E_a1 : Exa Z h0 a1 BI) (F_s : Fld Z h0 a1 BI "signum" "I" us) (F_m : Fld Z h0 a1 BI "mag" "[I" um) (g_a1 : n0 ≤ a1) (hc7 : ¬ ((lcmpW q2 (0 : Int64)) < (0 : Int32))) (hc33 : ¬ ((((q2.toUInt64 >>> ((32 : Int32) &&& 0x3f).toInt64.toUInt64).toInt64).toInt32) = (0 : Int32))) :
    MetFree l (⟨"java/math/BigInteger", "<init>", "(J)V"⟩ : MethodName) (head1 (Jvm.Cond.code (⟨"java/math/BigInteger", "<init>", "(J)V"⟩ : MethodName) jdk_2097_method_30_code 4 none :: ws) ({ frames := 2, cells := 1, slots := 2, locals := 24 } : Room)) (fun a U => a = #[(.ref a1), (.long q2)] ∧ Z.Warmed39 U.vm ∧ U.heap = h0) (fun _ _ _ _ _ => True) (fun _ U o U' => ∃ rv rL, o = .returned rv ∧ QBI Z a1 q2 h0 n0 rv U'.heap rL ∧ FrameEnd U o U' rL ({ frames := 2, cells := 1, slots := 2, locals := 24 } : Room).cells ({ frames := 2, cells := 1, slots := 2, locals := 24 } : Room).slots) := by
  refine MetFree.of_bodySF (plainFor_of_name pn_19) hisR ?_
  intro p e s m args below meth c s₁ Bd hml0 hP hK
  obtain ⟨rfl, hZ, hh⟩ := hP
  have hx := Bd.exec
  have hby := Bd.bytes
  have hml : c.maxLocals = 4 := hml0
  have hown : s.vm.findClass "java/math/BigInteger" = some m.cls := findClass_of_methodNamed Bd.named
  have hnm := (name_of_methodNamed Bd.named Bd.method).1
  have X0 : Stand p l e ({ frames := 2, cells := 1, slots := 2, locals := 24 } : Room) s m #[(.ref a1), (.long q2)] below meth c s₁ [] 0 0 := Stand.of_body Bd
  have e0 : s₁.heap = h0 := by rw [← hh, Bd.state]; rfl
  have N0 := Fr.nil n0
  have pre0 : ∀ t, Steps p.tables e below (s₁.setTop (mkF m 0 #[.val (.ref a1), .val (.long q2), .second, .unset] [])) t → Steps p.tables e below (s₁.setTop (entryFrame m #[(.ref a1), (.long q2)] 4)) t := fun t k => castTop (ef_19 m a1 q2) k
  obtain ⟨_, _, ⟨T101, L101, k101, n101⟩, -, X101, ⟨Lc101, hQ101, l101, y101, z101⟩, st101⟩ := X0.specialBack hx (y := (⟨"java/lang/Number", "<init>", "()V"⟩ : MethodName)) rfl hown (mvT hZ (hw _ (List.mem_of_getElem? (i := 105) rfl))) (mvT hZ (hw _ (List.mem_of_getElem? (i := 106) rfl))) (mvT hZ (hw _ (List.mem_of_getElem? (i := 110) rfl))) (by decide) (backOf (W := 0) (rmNum l Z a0 hw [] a1 h0 n0 X00) hZ (hw _ (List.mem_of_getElem? (i := 110) rfl)) (hw _ (List.mem_of_getElem? (i := 109) rfl)) (by decide) (by decide)) (g := (mkF m 1 #[.val (.ref a1), .val (.long q2), .second, .unset] [(.ref a1)])) rfl (by rw [hml]; rfl) (Steps.refl _) (a := a1) (argsL := []) (rest := []) (lenOf pd__V rfl) rfl (by show 2 * 0 + _ ≤ _; exact Nat.le_of_eq rfl) (hb hby d19_1) (fun _ _ => ⟨rfl, e0, (by decide : 0 + 0 ≤ _), (by decide : 0 + 0 ≤ _)⟩)
  dsimp only [Pt.U, Pt.locs, Pt.cells, Pt.slots] at X101 l101 y101 z101 st101 hQ101
  subst l101 y101 z101
  obtain ⟨rfl, N101q, eq101⟩ := hQ101
  have N101 := Fr.app N0 N101q
  obtain ⟨T102, h102, X102, e102, W102, st102⟩ := putF X101 hx hZ hown (host := "") (Or.inl (hw _ (List.mem_of_getElem? (i := 47) rfl))) Via.refl eq101 F_s E_a1 (Or.inr ⟨(hw _ (List.mem_of_getElem? (i := 48) rfl)), rfl, hnm⟩) (hw _ (List.mem_of_getElem? (i := 100) rfl)) (ty := .int) (by decide) rfl rfl (g := (mkF m 23 #[.val (.ref a1), .val (.long q2), .second, .unset] [(.int (1 : Int32)), (.ref a1)])) rfl rfl (hb hby d19_23)
  have Fw102 := F_s.same W102
  have N102 := Fr.snoc X102 N101 g_a1
  have y104 := (E_a1.wr W102)
  have lz103_a1 := y104.lt
  obtain ⟨T103, h103, k103, X103, e103, E103, A103, st103⟩ := newP X102 hx hZ (hw _ (List.mem_of_getElem? (i := 112) rfl)) e102 (g := (mkF m 56 #[.val (.ref a1), .val (.long q2), .second, .val (.int (((q2.toUInt64 >>> ((32 : Int32) &&& 0x3f).toInt64.toUInt64).toInt64).toInt32))] [(.int (2 : Int32)), (.ref a1)])) rfl (hb hby d19_56) rfl (by decide) (cap := 2) (by decide) (by decide) (by decide) (by decide)
  obtain ⟨b103, g103⟩ : ∃ z, z = h102.size := ⟨_, rfl⟩
  rw [← g103] at A103 st103
  have y105 := (X00.wr W102 g_a1)
  have g_b103 : n0 ≤ b103 := Nat.le_trans (own_le y105) (Nat.le_of_eq g103.symm)
  have lt_a1_b103 : a1 < b103 := Nat.lt_of_lt_of_le lz103_a1 (Nat.le_of_eq g103.symm)
  have y106 := ((Keep.refl h0 [a1]).wr W102 (Or.inl (List.mem_of_getElem? (i := 0) rfl)))
  have sz_b103 : h0.size ≤ b103 := Nat.le_trans y106.1 (Nat.le_of_eq g103.symm)
  have V103 : Arv Z h103 b103 k103 .int (2 : Int32) [(.int (0 : Int32)), (.int (0 : Int32))] (.int (0 : Int32)) := (Arv.new A103 (by decide)).pad (pad_rep [] (.int (0 : Int32)) 2)
  have y107 := ((F_m.other W102 (Or.inr (slot_ne (Or.inr (hw _ (List.mem_of_getElem? (i := 93) rfl))) (Or.inr (hw _ (List.mem_of_getElem? (i := 48) rfl))) (by decide) (t := (.array .int)) (t' := .int) (by decide) (by decide)))).ext E103)
  have y108 := (y104.ext E103)
  obtain ⟨T109, h109, X109, e109, W109, st109⟩ := putF X103 hx hZ hown (host := "") (Or.inl (hw _ (List.mem_of_getElem? (i := 92) rfl))) Via.refl e103 y107 y108 (Or.inr ⟨(hw _ (List.mem_of_getElem? (i := 93) rfl)), rfl, hnm⟩) (hw _ (List.mem_of_getElem? (i := 100) rfl)) (ty := (.array .int)) (by decide) rfl rfl (g := (mkF m 58 #[.val (.ref a1), .val (.long q2), .second, .val (.int (((q2.toUInt64 >>> ((32 : Int32) &&& 0x3f).toInt64.toUInt64).toInt64).toInt32))] [(.ref b103), (.ref a1)])) rfl rfl (hb hby d19_58)
  have Fw109 := y107.same W109
  have N109 := Fr.snoc X109 N102 g_a1
  obtain ⟨T110, X110, e110, st110⟩ := getF X109 hx hZ hown (host := "") (Or.inl (hw _ (List.mem_of_getElem? (i := 92) rfl))) Via.refl e109 Fw109 (g := (mkF m 62 #[.val (.ref a1), .val (.long q2), .second, .val (.int (((q2.toUInt64 >>> ((32 : Int32) &&& 0x3f).toInt64.toUInt64).toInt64).toInt32))] [(.ref a1)])) rfl rfl (hb hby d19_62)
  have y112 := (V103.other W109 (Ne.symm (Nat.ne_of_lt lt_a1_b103)))
  obtain ⟨cl111, Ar111, q111, S111, M111, H111, G111⟩ := id y112
  obtain ⟨T111, h111, X111, e111, W111, st111⟩ := stI X110 hx hZ e110 Ar111 (j := (0 : Int32)) (inb_of S111 ⟨by decide, by decide⟩) (g := (mkF m 67 #[.val (.ref a1), .val (.long q2), .second, .val (.int (((q2.toUInt64 >>> ((32 : Int32) &&& 0x3f).toInt64.toUInt64).toInt64).toInt32))] [(.int (((q2.toUInt64 >>> ((32 : Int32) &&& 0x3f).toInt64.toUInt64).toInt64).toInt32)), (.int (0 : Int32)), (.ref b103)])) rfl rfl (hb hby d19_67)
  have V111 : Arv Z h111 b103 k103 .int (2 : Int32) [(.int (((q2.toUInt64 >>> ((32 : Int32) &&& 0x3f).toInt64.toUInt64).toInt64).toInt32)), (.int (0 : Int32))] (.int (0 : Int32)) := Arv.set Ar111 q111 S111 M111 H111 G111 rfl W111 0 rfl (Nat.le_of_ble_eq_true rfl)
  have N111 := Fr.snoc X111 N109 g_b103
  have y114 := (Fw109.other W111 (Or.inl (Nat.ne_of_lt lt_a1_b103)))
  obtain ⟨T113, X113, e113, st113⟩ := getF X111 hx hZ hown (host := "") (Or.inl (hw _ (List.mem_of_getElem? (i := 92) rfl))) Via.refl e111 y114 (g := (mkF m 69 #[.val (.ref a1), .val (.long q2), .second, .val (.int (((q2.toUInt64 >>> ((32 : Int32) &&& 0x3f).toInt64.toUInt64).toInt64).toInt32))] [(.ref a1)])) rfl rfl (hb hby d19_69)
  obtain ⟨cl115, Ar115, q115, S115, M115, H115, G115⟩ := id V111
  obtain ⟨T115, h115, X115, e115, W115, st115⟩ := stI X113 hx hZ e113 Ar115 (j := (1 : Int32)) (inb_of S115 ⟨by decide, by decide⟩) (g := (mkF m 75 #[.val (.ref a1), .val (.long q2), .second, .val (.int (((q2.toUInt64 >>> ((32 : Int32) &&& 0x3f).toInt64.toUInt64).toInt64).toInt32))] [(.int (q2.toInt32)), (.int (1 : Int32)), (.ref b103)])) rfl rfl (hb hby d19_75)
  have V115 : Arv Z h115 b103 k103 .int (2 : Int32) [(.int (((q2.toUInt64 >>> ((32 : Int32) &&& 0x3f).toInt64.toUInt64).toInt64).toInt32)), (.int (q2.toInt32))] (.int (0 : Int32)) := Arv.set Ar115 q115 S115 M115 H115 G115 rfl W115 1 rfl (Nat.le_of_ble_eq_true rfl)
  have N115 := Fr.snoc X115 N111 g_b103
  have hlt : ¬ q2 < 0 := fun q => hc7 ((lw_lt q2 0).mpr q)
  have es : own_sg q2 = (1 : Int32) := own_sgPos hz hlt
  have ea : own_ab q2 = q2 := by rw [own_ab, if_neg hlt]
  have em : own_mg q2 = [own_hi q2, q2.toInt32] := by rw [own_mg, if_neg hz, ea, if_neg (show ¬ own_hi q2 = 0 from hc33)]
  have y116 := (y114.other W115 (Or.inl (Nat.ne_of_lt lt_a1_b103)))
  have y117 := ((((Fw102.ext E103).other W109 (Or.inr (slot_ne (Or.inr (hw _ (List.mem_of_getElem? (i := 48) rfl))) (Or.inr (hw _ (List.mem_of_getElem? (i := 93) rfl))) (by decide) (t := .int) (t' := (.array .int)) (by decide) (by decide)))).other W111 (Or.inl (Nat.ne_of_lt lt_a1_b103))).other W115 (Or.inl (Nat.ne_of_lt lt_a1_b103)))
  have y118 := ((((y106.ext E103).wr W109 (Or.inl (List.mem_of_getElem? (i := 0) rfl))).wr W111 (Or.inr sz_b103)).wr W115 (Or.inr sz_b103))
  obtain ⟨fs, hr, hrun, hended, hW, hsame⟩ := X115.leave (v := none) (fun _ => rfl)
  refine ⟨_, _, pre0 _ ?_, hrun, hended, _, _, rfl, ?_, ⟨_, rfl⟩, hW, hsame.mono (by decide) (by decide)⟩
  · show Steps p.tables e below (s₁.setTop (mkF m 0 #[.val (.ref a1), .val (.long q2), .second, .unset] [])) _
    refine XS.aloadN X0.here hx rfl (hb hby d19_0) rfl rfl ?_
    show Steps p.tables e below (s₁.setTop (mkF m 1 #[.val (.ref a1), .val (.long q2), .second, .unset] [(.ref a1)])) _
    refine st101.trans ?_
    show Steps p.tables e below (T101.setTop (mkF m 4 #[.val (.ref a1), .val (.long q2), .second, .unset] [])) _
    refine XS.lloadN X101.here hx rfl (hb hby d19_4) rfl ?_
    show Steps p.tables e below (T101.setTop (mkF m 5 #[.val (.ref a1), .val (.long q2), .second, .unset] [(.long q2)])) _
    refine XS.lconst X101.here hx rfl (hb hby d19_5) ?_
    show Steps p.tables e below (T101.setTop (mkF m 6 #[.val (.ref a1), .val (.long q2), .second, .unset] [(.long (0 : Int64)), (.long q2)])) _
    refine XS.lcmp X101.here hx rfl (hb hby d19_6) rfl ?_
    show Steps p.tables e below (T101.setTop (mkF m 7 #[.val (.ref a1), .val (.long q2), .second, .unset] [(.int (lcmpW q2 (0 : Int64)))])) _
    refine XS.ifYes X101.here hx rfl (pc0 := 7) (pc' := 21) rfl (hb hby d19_7) rfl ((if0 _ _).trans (flt hc7).2.1) (by decide) (by decide) ?_
    show Steps p.tables e below (T101.setTop (mkF m 21 #[.val (.ref a1), .val (.long q2), .second, .unset] [])) _
    refine XS.aloadN X101.here hx rfl (hb hby d19_21) rfl rfl ?_
    show Steps p.tables e below (T101.setTop (mkF m 22 #[.val (.ref a1), .val (.long q2), .second, .unset] [(.ref a1)])) _
    refine XS.iconst X101.here hx rfl (hb hby d19_22) ?_
    show Steps p.tables e below (T101.setTop (mkF m 23 #[.val (.ref a1), .val (.long q2), .second, .unset] [(.int (1 : Int32)), (.ref a1)])) _
    refine st102 _ ?_
    show Steps p.tables e below (T102.setTop (mkF m 26 #[.val (.ref a1), .val (.long q2), .second, .unset] [])) _
    refine XS.lloadN X102.here hx rfl (hb hby d19_26) rfl ?_
    show Steps p.tables e below (T102.setTop (mkF m 27 #[.val (.ref a1), .val (.long q2), .second, .unset] [(.long q2)])) _
    refine XS.bipush X102.here hx rfl (hb hby d19_27) ?_
    show Steps p.tables e below (T102.setTop (mkF m 29 #[.val (.ref a1), .val (.long q2), .second, .unset] [(.int (32 : Int32)), (.long q2)])) _
    refine XS.lushr X102.here hx rfl (hb hby d19_29) rfl ?_
    show Steps p.tables e below (T102.setTop (mkF m 30 #[.val (.ref a1), .val (.long q2), .second, .unset] [(.long ((q2.toUInt64 >>> ((32 : Int32) &&& 0x3f).toInt64.toUInt64).toInt64))])) _
    refine XS.l2i X102.here hx rfl (hb hby d19_30) rfl ?_
    show Steps p.tables e below (T102.setTop (mkF m 31 #[.val (.ref a1), .val (.long q2), .second, .unset] [(.int (((q2.toUInt64 >>> ((32 : Int32) &&& 0x3f).toInt64.toUInt64).toInt64).toInt32))])) _
    refine XS.istoreN X102.here hx rfl (hb hby d19_31) rfl (l' := #[.val (.ref a1), .val (.long q2), .second, .val (.int (((q2.toUInt64 >>> ((32 : Int32) &&& 0x3f).toInt64.toUInt64).toInt64).toInt32))]) rfl ?_
    show Steps p.tables e below (T102.setTop (mkF m 32 #[.val (.ref a1), .val (.long q2), .second, .val (.int (((q2.toUInt64 >>> ((32 : Int32) &&& 0x3f).toInt64.toUInt64).toInt64).toInt32))] [])) _
    refine XS.iloadN X102.here hx rfl (hb hby d19_32) rfl ?_
    show Steps p.tables e below (T102.setTop (mkF m 33 #[.val (.ref a1), .val (.long q2), .second, .val (.int (((q2.toUInt64 >>> ((32 : Int32) &&& 0x3f).toInt64.toUInt64).toInt64).toInt32))] [(.int (((q2.toUInt64 >>> ((32 : Int32) &&& 0x3f).toInt64.toUInt64).toInt64).toInt32))])) _
    refine XS.ifYes X102.here hx rfl (pc0 := 33) (pc' := 54) rfl (hb hby d19_33) rfl ((if0 _ _).trans (feq hc33).2) (by decide) (by decide) ?_
    show Steps p.tables e below (T102.setTop (mkF m 54 #[.val (.ref a1), .val (.long q2), .second, .val (.int (((q2.toUInt64 >>> ((32 : Int32) &&& 0x3f).toInt64.toUInt64).toInt64).toInt32))] [])) _
    refine XS.aloadN X102.here hx rfl (hb hby d19_54) rfl rfl ?_
    show Steps p.tables e below (T102.setTop (mkF m 55 #[.val (.ref a1), .val (.long q2), .second, .val (.int (((q2.toUInt64 >>> ((32 : Int32) &&& 0x3f).toInt64.toUInt64).toInt64).toInt32))] [(.ref a1)])) _
    refine XS.iconst X102.here hx rfl (hb hby d19_55) ?_
    show Steps p.tables e below (T102.setTop (mkF m 56 #[.val (.ref a1), .val (.long q2), .second, .val (.int (((q2.toUInt64 >>> ((32 : Int32) &&& 0x3f).toInt64.toUInt64).toInt64).toInt32))] [(.int (2 : Int32)), (.ref a1)])) _
    refine st103 _ ?_
    show Steps p.tables e below (T103.setTop (mkF m 58 #[.val (.ref a1), .val (.long q2), .second, .val (.int (((q2.toUInt64 >>> ((32 : Int32) &&& 0x3f).toInt64.toUInt64).toInt64).toInt32))] [(.ref b103), (.ref a1)])) _
    refine st109 _ ?_
    show Steps p.tables e below (T109.setTop (mkF m 61 #[.val (.ref a1), .val (.long q2), .second, .val (.int (((q2.toUInt64 >>> ((32 : Int32) &&& 0x3f).toInt64.toUInt64).toInt64).toInt32))] [])) _
    refine XS.aloadN X109.here hx rfl (hb hby d19_61) rfl rfl ?_
    show Steps p.tables e below (T109.setTop (mkF m 62 #[.val (.ref a1), .val (.long q2), .second, .val (.int (((q2.toUInt64 >>> ((32 : Int32) &&& 0x3f).toInt64.toUInt64).toInt64).toInt32))] [(.ref a1)])) _
    refine st110 _ ?_
    show Steps p.tables e below (T110.setTop (mkF m 65 #[.val (.ref a1), .val (.long q2), .second, .val (.int (((q2.toUInt64 >>> ((32 : Int32) &&& 0x3f).toInt64.toUInt64).toInt64).toInt32))] [(.ref b103)])) _
    refine XS.iconst X110.here hx rfl (hb hby d19_65) ?_
    show Steps p.tables e below (T110.setTop (mkF m 66 #[.val (.ref a1), .val (.long q2), .second, .val (.int (((q2.toUInt64 >>> ((32 : Int32) &&& 0x3f).toInt64.toUInt64).toInt64).toInt32))] [(.int (0 : Int32)), (.ref b103)])) _
    refine XS.iloadN X110.here hx rfl (hb hby d19_66) rfl ?_
    show Steps p.tables e below (T110.setTop (mkF m 67 #[.val (.ref a1), .val (.long q2), .second, .val (.int (((q2.toUInt64 >>> ((32 : Int32) &&& 0x3f).toInt64.toUInt64).toInt64).toInt32))] [(.int (((q2.toUInt64 >>> ((32 : Int32) &&& 0x3f).toInt64.toUInt64).toInt64).toInt32)), (.int (0 : Int32)), (.ref b103)])) _
    refine st111 _ ?_
    show Steps p.tables e below (T111.setTop (mkF m 68 #[.val (.ref a1), .val (.long q2), .second, .val (.int (((q2.toUInt64 >>> ((32 : Int32) &&& 0x3f).toInt64.toUInt64).toInt64).toInt32))] [])) _
    refine XS.aloadN X111.here hx rfl (hb hby d19_68) rfl rfl ?_
    show Steps p.tables e below (T111.setTop (mkF m 69 #[.val (.ref a1), .val (.long q2), .second, .val (.int (((q2.toUInt64 >>> ((32 : Int32) &&& 0x3f).toInt64.toUInt64).toInt64).toInt32))] [(.ref a1)])) _
    refine st113 _ ?_
    show Steps p.tables e below (T113.setTop (mkF m 72 #[.val (.ref a1), .val (.long q2), .second, .val (.int (((q2.toUInt64 >>> ((32 : Int32) &&& 0x3f).toInt64.toUInt64).toInt64).toInt32))] [(.ref b103)])) _
    refine XS.iconst X113.here hx rfl (hb hby d19_72) ?_
    show Steps p.tables e below (T113.setTop (mkF m 73 #[.val (.ref a1), .val (.long q2), .second, .val (.int (((q2.toUInt64 >>> ((32 : Int32) &&& 0x3f).toInt64.toUInt64).toInt64).toInt32))] [(.int (1 : Int32)), (.ref b103)])) _
    refine XS.lloadN X113.here hx rfl (hb hby d19_73) rfl ?_
    show Steps p.tables e below (T113.setTop (mkF m 74 #[.val (.ref a1), .val (.long q2), .second, .val (.int (((q2.toUInt64 >>> ((32 : Int32) &&& 0x3f).toInt64.toUInt64).toInt64).toInt32))] [(.long q2), (.int (1 : Int32)), (.ref b103)])) _
    refine XS.l2i X113.here hx rfl (hb hby d19_74) rfl ?_
    show Steps p.tables e below (T113.setTop (mkF m 75 #[.val (.ref a1), .val (.long q2), .second, .val (.int (((q2.toUInt64 >>> ((32 : Int32) &&& 0x3f).toInt64.toUInt64).toInt64).toInt32))] [(.int (q2.toInt32)), (.int (1 : Int32)), (.ref b103)])) _
    refine st115 _ ?_
    show Steps p.tables e below (T115.setTop (mkF m 76 #[.val (.ref a1), .val (.long q2), .second, .val (.int (((q2.toUInt64 >>> ((32 : Int32) &&& 0x3f).toInt64.toUInt64).toInt64).toInt32))] [])) _
    exact X115.returnOut hx Bd.returns (hb hby d19_76) hr
  · show QBI Z a1 q2 h0 n0 _ T115.heap _
    rw [e115]
    exact ⟨rfl, N115, y118, (by rw [es]; exact y117), b103, _, y116, (by rw [em]; exact V115)⟩
set_option maxRecDepth 65536 in
set_option maxHeartbeats 40000000 in
theorem rmBI (l : Launch) (Z : State) (a0 : Array Value) (hw : ∀ d ∈ tables_1, d.before a0 Z = true) (ws : List Jvm.Cond) (a1 : Addr) (q2 : Int64) (us : Value) (um : Value) (h0 : Heap) (n0 : Nat) (X00 : Old Z n0 h0) (hz : ¬ (q2 = (0 : Int64))) (E_a1 : Exa Z h0 a1 BI) (F_s : Fld Z h0 a1 BI "signum" "I" us) (F_m : Fld Z h0 a1 BI "mag" "[I" um) (g_a1 : n0 ≤ a1) :
    MetFree l (⟨"java/math/BigInteger", "<init>", "(J)V"⟩ : MethodName) (head1 (Jvm.Cond.code (⟨"java/math/BigInteger", "<init>", "(J)V"⟩ : MethodName) jdk_2097_method_30_code 4 none :: ws) ({ frames := 2, cells := 1, slots := 2, locals := 24 } : Room)) (fun a U => a = #[(.ref a1), (.long q2)] ∧ Z.Warmed39 U.vm ∧ U.heap = h0) (fun _ _ _ _ _ => True) (fun _ U o U' => ∃ rv rL, o = .returned rv ∧ QBI Z a1 q2 h0 n0 rv U'.heap rL ∧ FrameEnd U o U' rL ({ frames := 2, cells := 1, slots := 2, locals := 24 } : Room).cells ({ frames := 2, cells := 1, slots := 2, locals := 24 } : Room).slots) := by
  by_cases c1 : (lcmpW q2 (0 : Int64)) < (0 : Int32)
  · by_cases c2 : own_hi (-q2) = 0
    · exact rmBI_ff l Z a0 hw ws a1 q2 us um h0 n0 X00 hz E_a1 F_s F_m g_a1 c1 c2
    · exact rmBI_ft l Z a0 hw ws a1 q2 us um h0 n0 X00 hz E_a1 F_s F_m g_a1 c1 c2
  · by_cases c2 : own_hi q2 = 0
    · exact rmBI_tf l Z a0 hw ws a1 q2 us um h0 n0 X00 hz E_a1 F_s F_m g_a1 c1 c2
    · exact rmBI_tt l Z a0 hw ws a1 q2 us um h0 n0 X00 hz E_a1 F_s F_m g_a1 c1 c2
set_option maxRecDepth 65536 in
set_option maxHeartbeats 40000000 in
theorem rmVal_z (l : Launch) (Z : State) (a0 : Array Value) (hw : ∀ d ∈ tables_1, d.before a0 Z = true) (ws : List Jvm.Cond) (q1 : Int64) (wz : Addr) (h0 : Heap) (n0 : Nat) (X00 : Old Z n0 h0) (S_z : Sta Z Z.heap BI "ZERO" "Ljava/math/BigInteger;" (.ref wz)) (B_z : Big Z Z.heap wz 0) (hv : q1 = (0 : Int64)) :
    MetFree l (⟨"java/math/BigInteger", "valueOf", "(J)Ljava/math/BigInteger;"⟩ : MethodName) (head1 (Jvm.Cond.code (⟨"java/math/BigInteger", "valueOf", "(J)Ljava/math/BigInteger;"⟩ : MethodName) jdk_2097_method_29_code 2 (some (.object "java/math/BigInteger")) :: ws) ({ frames := 3, cells := 2, slots := 8, locals := 40 } : Room)) (fun a U => a = #[(.long q1)] ∧ Z.Warmed39 U.vm ∧ U.heap = h0) (fun _ _ _ _ _ => True) (fun _ U o U' => ∃ rv rL, o = .returned rv ∧ QVal Z q1 h0 n0 rv U'.heap rL ∧ FrameEnd U o U' rL ({ frames := 3, cells := 2, slots := 8, locals := 40 } : Room).cells ({ frames := 3, cells := 2, slots := 8, locals := 40 } : Room).slots) := by
  refine MetFree.of_bodySF (plainFor_of_name pn_2) hisR ?_
  intro p e s m args below meth c s₁ Bd hml0 hP hK
  obtain ⟨rfl, hZ, hh⟩ := hP
  have hx := Bd.exec
  have hby := Bd.bytes
  have hml : c.maxLocals = 2 := hml0
  have hown : s.vm.findClass "java/math/BigInteger" = some m.cls := findClass_of_methodNamed Bd.named
  have hnm := (name_of_methodNamed Bd.named Bd.method).1
  have X0 : Stand p l e ({ frames := 3, cells := 2, slots := 8, locals := 40 } : Room) s m #[(.long q1)] below meth c s₁ [] 0 0 := Stand.of_body Bd
  have e0 : s₁.heap = h0 := by rw [← hh, Bd.state]; rfl
  have N0 := Fr.nil n0
  have pre0 : ∀ t, Steps p.tables e below (s₁.setTop (mkF m 0 #[.val (.long q1), .second] [])) t → Steps p.tables e below (s₁.setTop (entryFrame m #[(.long q1)] 2)) t := fun t k => castTop (ef_2 m q1) k
  have hc3 : (lcmpW q1 (0 : Int64)) = (0 : Int32) := (lw_eq q1 0).mpr hv
  obtain ⟨T101, X101, e101, st101⟩ := getS2 X0 hx hZ hown (host := "") (Or.inl (hw _ (List.mem_of_getElem? (i := 114) rfl))) Via.refl e0 (S_z.ext X00.2) (g := (mkF m 6 #[.val (.long q1), .second] [])) rfl (hb hby d2_6)
  obtain ⟨fs, hr, hrun, hended, hW, hsame⟩ := X101.leave (v := some (.ref wz)) (fun h => by rw [Bd.returns] at h; cases h)
  refine ⟨_, _, pre0 _ ?_, hrun, hended, _, _, rfl, ?_, ⟨_, rfl⟩, hW, hsame.mono (by decide) (by decide)⟩
  · show Steps p.tables e below (s₁.setTop (mkF m 0 #[.val (.long q1), .second] [])) _
    refine XS.lloadN X0.here hx rfl (hb hby d2_0) rfl ?_
    show Steps p.tables e below (s₁.setTop (mkF m 1 #[.val (.long q1), .second] [(.long q1)])) _
    refine XS.lconst X0.here hx rfl (hb hby d2_1) ?_
    show Steps p.tables e below (s₁.setTop (mkF m 2 #[.val (.long q1), .second] [(.long (0 : Int64)), (.long q1)])) _
    refine XS.lcmp X0.here hx rfl (hb hby d2_2) rfl ?_
    show Steps p.tables e below (s₁.setTop (mkF m 3 #[.val (.long q1), .second] [(.int (lcmpW q1 (0 : Int64)))])) _
    refine XS.ifNo X0.here hx rfl (hb hby d2_3) rfl ((if0 _ _).trans (teq hc3).2) ?_
    show Steps p.tables e below (s₁.setTop (mkF m 6 #[.val (.long q1), .second] [])) _
    refine st101 _ ?_
    show Steps p.tables e below (T101.setTop (mkF m 9 #[.val (.long q1), .second] [(.ref wz)])) _
    jvm_step X101.here [X101.here.top, hx, (hb hby d2_9), X101.method', Bd.returns, Value.isRef, FieldType.isReference]
    first | (intro acts; rw [hr _ acts rfl rfl rfl]) | rw [hr _ _ rfl rfl rfl]
    exact Steps.refl _
  · show QVal Z q1 h0 n0 _ T101.heap _
    rw [e101]
    exact ⟨_, rfl, N0, Keep.refl _ _, (by rw [hv]; exact (own_bigE B_z X00.2))⟩
set_option maxRecDepth 65536 in
set_option maxHeartbeats 40000000 in
theorem rmVal_p (l : Launch) (Z : State) (a0 : Array Value) (hw : ∀ d ∈ tables_1, d.before a0 Z = true) (ws : List Jvm.Cond) (q1 : Int64) (wp : Addr) (cl : Cell) (r : Addr) (h0 : Heap) (n0 : Nat) (X00 : Old Z n0 h0) (S_p : Sta Z Z.heap BI "posConst" "[Ljava/math/BigInteger;" (.ref wp)) (A_p : Arr Z Z.heap wp cl (.object BI)) (hin : ¬ (q1.toInt32 < 0 ∨ cl.slots.size ≤ (q1.toInt32).toNatClampNeg)) (hat : cl.slots[(q1.toInt32).toNatClampNeg]? = some (.ref r)) (B_r : Big Z Z.heap r q1) (h1 : 0 < q1) (h2 : ¬ 16 < q1) :
    MetFree l (⟨"java/math/BigInteger", "valueOf", "(J)Ljava/math/BigInteger;"⟩ : MethodName) (head1 (Jvm.Cond.code (⟨"java/math/BigInteger", "valueOf", "(J)Ljava/math/BigInteger;"⟩ : MethodName) jdk_2097_method_29_code 2 (some (.object "java/math/BigInteger")) :: ws) ({ frames := 3, cells := 2, slots := 8, locals := 40 } : Room)) (fun a U => a = #[(.long q1)] ∧ Z.Warmed39 U.vm ∧ U.heap = h0) (fun _ _ _ _ _ => True) (fun _ U o U' => ∃ rv rL, o = .returned rv ∧ QVal Z q1 h0 n0 rv U'.heap rL ∧ FrameEnd U o U' rL ({ frames := 3, cells := 2, slots := 8, locals := 40 } : Room).cells ({ frames := 3, cells := 2, slots := 8, locals := 40 } : Room).slots) := by
  refine MetFree.of_bodySF (plainFor_of_name pn_2) hisR ?_
  intro p e s m args below meth c s₁ Bd hml0 hP hK
  obtain ⟨rfl, hZ, hh⟩ := hP
  have hx := Bd.exec
  have hby := Bd.bytes
  have hml : c.maxLocals = 2 := hml0
  have hown : s.vm.findClass "java/math/BigInteger" = some m.cls := findClass_of_methodNamed Bd.named
  have hnm := (name_of_methodNamed Bd.named Bd.method).1
  have X0 : Stand p l e ({ frames := 3, cells := 2, slots := 8, locals := 40 } : Room) s m #[(.long q1)] below meth c s₁ [] 0 0 := Stand.of_body Bd
  have e0 : s₁.heap = h0 := by rw [← hh, Bd.state]; rfl
  have N0 := Fr.nil n0
  have pre0 : ∀ t, Steps p.tables e below (s₁.setTop (mkF m 0 #[.val (.long q1), .second] [])) t → Steps p.tables e below (s₁.setTop (entryFrame m #[(.long q1)] 2)) t := fun t k => castTop (ef_2 m q1) k
  have hc3 : ¬ ((lcmpW q1 (0 : Int64)) = (0 : Int32)) := fun q => own_ne0 (Or.inr h1) ((lw_eq q1 0).mp q)
  have hc13 : (0 : Int32) < (lcmpW q1 (0 : Int64)) := (lw_gt q1 0).mpr h1
  have hc21 : ¬ ((0 : Int32) < (lcmpW q1 (16 : Int64))) := fun q => h2 ((lw_gt q1 16).mp q)
  obtain ⟨T101, X101, e101, st101⟩ := getS2 X0 hx hZ hown (host := "") (Or.inl (hw _ (List.mem_of_getElem? (i := 11) rfl))) Via.refl e0 (S_p.ext X00.2) (g := (mkF m 24 #[.val (.long q1), .second] [])) rfl (hb hby d2_24)
  obtain ⟨fs, hr, hrun, hended, hW, hsame⟩ := X101.leave (v := some (.ref r)) (fun h => by rw [Bd.returns] at h; cases h)
  refine ⟨_, _, pre0 _ ?_, hrun, hended, _, _, rfl, ?_, ⟨_, rfl⟩, hW, hsame.mono (by decide) (by decide)⟩
  · show Steps p.tables e below (s₁.setTop (mkF m 0 #[.val (.long q1), .second] [])) _
    refine XS.lloadN X0.here hx rfl (hb hby d2_0) rfl ?_
    show Steps p.tables e below (s₁.setTop (mkF m 1 #[.val (.long q1), .second] [(.long q1)])) _
    refine XS.lconst X0.here hx rfl (hb hby d2_1) ?_
    show Steps p.tables e below (s₁.setTop (mkF m 2 #[.val (.long q1), .second] [(.long (0 : Int64)), (.long q1)])) _
    refine XS.lcmp X0.here hx rfl (hb hby d2_2) rfl ?_
    show Steps p.tables e below (s₁.setTop (mkF m 3 #[.val (.long q1), .second] [(.int (lcmpW q1 (0 : Int64)))])) _
    refine XS.ifYes X0.here hx rfl (pc0 := 3) (pc' := 10) rfl (hb hby d2_3) rfl ((if0 _ _).trans (feq hc3).2) (by decide) (by decide) ?_
    show Steps p.tables e below (s₁.setTop (mkF m 10 #[.val (.long q1), .second] [])) _
    refine XS.lloadN X0.here hx rfl (hb hby d2_10) rfl ?_
    show Steps p.tables e below (s₁.setTop (mkF m 11 #[.val (.long q1), .second] [(.long q1)])) _
    refine XS.lconst X0.here hx rfl (hb hby d2_11) ?_
    show Steps p.tables e below (s₁.setTop (mkF m 12 #[.val (.long q1), .second] [(.long (0 : Int64)), (.long q1)])) _
    refine XS.lcmp X0.here hx rfl (hb hby d2_12) rfl ?_
    show Steps p.tables e below (s₁.setTop (mkF m 13 #[.val (.long q1), .second] [(.int (lcmpW q1 (0 : Int64)))])) _
    refine XS.ifNo X0.here hx rfl (hb hby d2_13) rfl ((if0 _ _).trans (tlt hc13).2.2.2) ?_
    show Steps p.tables e below (s₁.setTop (mkF m 16 #[.val (.long q1), .second] [])) _
    refine XS.lloadN X0.here hx rfl (hb hby d2_16) rfl ?_
    show Steps p.tables e below (s₁.setTop (mkF m 17 #[.val (.long q1), .second] [(.long q1)])) _
    refine X0.ldc2Long hx hown (mvT hZ (hw _ (List.mem_of_getElem? (i := 10) rfl))) (g := (mkF m 17 #[.val (.long q1), .second] [(.long q1)])) rfl (hb hby d2_17) _ ?_
    show Steps p.tables e below (s₁.setTop (mkF m 20 #[.val (.long q1), .second] [(.long (16 : Int64)), (.long q1)])) _
    refine XS.lcmp X0.here hx rfl (hb hby d2_20) rfl ?_
    show Steps p.tables e below (s₁.setTop (mkF m 21 #[.val (.long q1), .second] [(.int (lcmpW q1 (16 : Int64)))])) _
    refine XS.ifNo X0.here hx rfl (hb hby d2_21) rfl ((if0 _ _).trans (flt hc21).2.2.1) ?_
    show Steps p.tables e below (s₁.setTop (mkF m 24 #[.val (.long q1), .second] [])) _
    refine st101 _ ?_
    show Steps p.tables e below (T101.setTop (mkF m 27 #[.val (.long q1), .second] [(.ref wp)])) _
    refine XS.lloadN X101.here hx rfl (hb hby d2_27) rfl ?_
    show Steps p.tables e below (T101.setTop (mkF m 28 #[.val (.long q1), .second] [(.long q1), (.ref wp)])) _
    refine XS.l2i X101.here hx rfl (hb hby d2_28) rfl ?_
    show Steps p.tables e below (T101.setTop (mkF m 29 #[.val (.long q1), .second] [(.int (q1.toInt32)), (.ref wp)])) _
    refine X101.aaload hx (j := (q1.toInt32)) (v := (.ref r)) (by rw [e101]; exact (A_p.ext X00.2).1) (State.isArrayOf_alike hZ.alike (A_p.ext X00.2).2.1) rfl (A_p.ext X00.2).2.2 hin hat (g := (mkF m 29 #[.val (.long q1), .second] [(.int (q1.toInt32)), (.ref wp)])) rfl rfl (hb hby d2_29) _ ?_
    show Steps p.tables e below (T101.setTop (mkF m 30 #[.val (.long q1), .second] [(.ref r)])) _
    jvm_step X101.here [X101.here.top, hx, (hb hby d2_30), X101.method', Bd.returns, Value.isRef, FieldType.isReference]
    first | (intro acts; rw [hr _ acts rfl rfl rfl]) | rw [hr _ _ rfl rfl rfl]
    exact Steps.refl _
  · show QVal Z q1 h0 n0 _ T101.heap _
    rw [e101]
    exact ⟨_, rfl, N0, Keep.refl _ _, (own_bigE B_r X00.2)⟩
set_option maxRecDepth 65536 in
set_option maxHeartbeats 40000000 in
theorem rmVal_n (l : Launch) (Z : State) (a0 : Array Value) (hw : ∀ d ∈ tables_1, d.before a0 Z = true) (ws : List Jvm.Cond) (q1 : Int64) (wp : Addr) (cl : Cell) (r : Addr) (h0 : Heap) (n0 : Nat) (X00 : Old Z n0 h0) (S_p : Sta Z Z.heap BI "negConst" "[Ljava/math/BigInteger;" (.ref wp)) (A_p : Arr Z Z.heap wp cl (.object BI)) (hin : ¬ (((-q1).toInt32) < 0 ∨ cl.slots.size ≤ (((-q1).toInt32)).toNatClampNeg)) (hat : cl.slots[(((-q1).toInt32)).toNatClampNeg]? = some (.ref r)) (B_r : Big Z Z.heap r q1) (h1 : q1 < 0) (h2 : ¬ q1 < -16) :
    MetFree l (⟨"java/math/BigInteger", "valueOf", "(J)Ljava/math/BigInteger;"⟩ : MethodName) (head1 (Jvm.Cond.code (⟨"java/math/BigInteger", "valueOf", "(J)Ljava/math/BigInteger;"⟩ : MethodName) jdk_2097_method_29_code 2 (some (.object "java/math/BigInteger")) :: ws) ({ frames := 3, cells := 2, slots := 8, locals := 40 } : Room)) (fun a U => a = #[(.long q1)] ∧ Z.Warmed39 U.vm ∧ U.heap = h0) (fun _ _ _ _ _ => True) (fun _ U o U' => ∃ rv rL, o = .returned rv ∧ QVal Z q1 h0 n0 rv U'.heap rL ∧ FrameEnd U o U' rL ({ frames := 3, cells := 2, slots := 8, locals := 40 } : Room).cells ({ frames := 3, cells := 2, slots := 8, locals := 40 } : Room).slots) := by
  refine MetFree.of_bodySF (plainFor_of_name pn_2) hisR ?_
  intro p e s m args below meth c s₁ Bd hml0 hP hK
  obtain ⟨rfl, hZ, hh⟩ := hP
  have hx := Bd.exec
  have hby := Bd.bytes
  have hml : c.maxLocals = 2 := hml0
  have hown : s.vm.findClass "java/math/BigInteger" = some m.cls := findClass_of_methodNamed Bd.named
  have hnm := (name_of_methodNamed Bd.named Bd.method).1
  have X0 : Stand p l e ({ frames := 3, cells := 2, slots := 8, locals := 40 } : Room) s m #[(.long q1)] below meth c s₁ [] 0 0 := Stand.of_body Bd
  have e0 : s₁.heap = h0 := by rw [← hh, Bd.state]; rfl
  have N0 := Fr.nil n0
  have pre0 : ∀ t, Steps p.tables e below (s₁.setTop (mkF m 0 #[.val (.long q1), .second] [])) t → Steps p.tables e below (s₁.setTop (entryFrame m #[(.long q1)] 2)) t := fun t k => castTop (ef_2 m q1) k
  have hc3 : ¬ ((lcmpW q1 (0 : Int64)) = (0 : Int32)) := fun q => own_ne0 (Or.inl h1) ((lw_eq q1 0).mp q)
  have hc13 : ¬ ((0 : Int32) < (lcmpW q1 (0 : Int64))) := fun q => own_as h1 ((lw_gt q1 0).mp q)
  have hc34 : (lcmpW q1 (0 : Int64)) < (0 : Int32) := (lw_lt q1 0).mpr h1
  have hc42 : ¬ ((lcmpW q1 (-16 : Int64)) < (0 : Int32)) := fun q => h2 ((lw_lt q1 (-16)).mp q)
  obtain ⟨T101, X101, e101, st101⟩ := getS2 X0 hx hZ hown (host := "") (Or.inl (hw _ (List.mem_of_getElem? (i := 113) rfl))) Via.refl e0 (S_p.ext X00.2) (g := (mkF m 45 #[.val (.long q1), .second] [])) rfl (hb hby d2_45)
  obtain ⟨fs, hr, hrun, hended, hW, hsame⟩ := X101.leave (v := some (.ref r)) (fun h => by rw [Bd.returns] at h; cases h)
  refine ⟨_, _, pre0 _ ?_, hrun, hended, _, _, rfl, ?_, ⟨_, rfl⟩, hW, hsame.mono (by decide) (by decide)⟩
  · show Steps p.tables e below (s₁.setTop (mkF m 0 #[.val (.long q1), .second] [])) _
    refine XS.lloadN X0.here hx rfl (hb hby d2_0) rfl ?_
    show Steps p.tables e below (s₁.setTop (mkF m 1 #[.val (.long q1), .second] [(.long q1)])) _
    refine XS.lconst X0.here hx rfl (hb hby d2_1) ?_
    show Steps p.tables e below (s₁.setTop (mkF m 2 #[.val (.long q1), .second] [(.long (0 : Int64)), (.long q1)])) _
    refine XS.lcmp X0.here hx rfl (hb hby d2_2) rfl ?_
    show Steps p.tables e below (s₁.setTop (mkF m 3 #[.val (.long q1), .second] [(.int (lcmpW q1 (0 : Int64)))])) _
    refine XS.ifYes X0.here hx rfl (pc0 := 3) (pc' := 10) rfl (hb hby d2_3) rfl ((if0 _ _).trans (feq hc3).2) (by decide) (by decide) ?_
    show Steps p.tables e below (s₁.setTop (mkF m 10 #[.val (.long q1), .second] [])) _
    refine XS.lloadN X0.here hx rfl (hb hby d2_10) rfl ?_
    show Steps p.tables e below (s₁.setTop (mkF m 11 #[.val (.long q1), .second] [(.long q1)])) _
    refine XS.lconst X0.here hx rfl (hb hby d2_11) ?_
    show Steps p.tables e below (s₁.setTop (mkF m 12 #[.val (.long q1), .second] [(.long (0 : Int64)), (.long q1)])) _
    refine XS.lcmp X0.here hx rfl (hb hby d2_12) rfl ?_
    show Steps p.tables e below (s₁.setTop (mkF m 13 #[.val (.long q1), .second] [(.int (lcmpW q1 (0 : Int64)))])) _
    refine XS.ifYes X0.here hx rfl (pc0 := 13) (pc' := 31) rfl (hb hby d2_13) rfl ((if0 _ _).trans (flt hc13).2.2.2) (by decide) (by decide) ?_
    show Steps p.tables e below (s₁.setTop (mkF m 31 #[.val (.long q1), .second] [])) _
    refine XS.lloadN X0.here hx rfl (hb hby d2_31) rfl ?_
    show Steps p.tables e below (s₁.setTop (mkF m 32 #[.val (.long q1), .second] [(.long q1)])) _
    refine XS.lconst X0.here hx rfl (hb hby d2_32) ?_
    show Steps p.tables e below (s₁.setTop (mkF m 33 #[.val (.long q1), .second] [(.long (0 : Int64)), (.long q1)])) _
    refine XS.lcmp X0.here hx rfl (hb hby d2_33) rfl ?_
    show Steps p.tables e below (s₁.setTop (mkF m 34 #[.val (.long q1), .second] [(.int (lcmpW q1 (0 : Int64)))])) _
    refine XS.ifNo X0.here hx rfl (hb hby d2_34) rfl ((if0 _ _).trans (tlt hc34).2.1) ?_
    show Steps p.tables e below (s₁.setTop (mkF m 37 #[.val (.long q1), .second] [])) _
    refine XS.lloadN X0.here hx rfl (hb hby d2_37) rfl ?_
    show Steps p.tables e below (s₁.setTop (mkF m 38 #[.val (.long q1), .second] [(.long q1)])) _
    refine X0.ldc2Long hx hown (mvT hZ (hw _ (List.mem_of_getElem? (i := 98) rfl))) (g := (mkF m 38 #[.val (.long q1), .second] [(.long q1)])) rfl (hb hby d2_38) _ ?_
    show Steps p.tables e below (s₁.setTop (mkF m 41 #[.val (.long q1), .second] [(.long (-16 : Int64)), (.long q1)])) _
    refine XS.lcmp X0.here hx rfl (hb hby d2_41) rfl ?_
    show Steps p.tables e below (s₁.setTop (mkF m 42 #[.val (.long q1), .second] [(.int (lcmpW q1 (-16 : Int64)))])) _
    refine XS.ifNo X0.here hx rfl (hb hby d2_42) rfl ((if0 _ _).trans (flt hc42).1) ?_
    show Steps p.tables e below (s₁.setTop (mkF m 45 #[.val (.long q1), .second] [])) _
    refine st101 _ ?_
    show Steps p.tables e below (T101.setTop (mkF m 48 #[.val (.long q1), .second] [(.ref wp)])) _
    refine XS.lloadN X101.here hx rfl (hb hby d2_48) rfl ?_
    show Steps p.tables e below (T101.setTop (mkF m 49 #[.val (.long q1), .second] [(.long q1), (.ref wp)])) _
    refine XS.lneg X101.here hx rfl (hb hby d2_49) rfl ?_
    show Steps p.tables e below (T101.setTop (mkF m 50 #[.val (.long q1), .second] [(.long (-q1)), (.ref wp)])) _
    refine XS.l2i X101.here hx rfl (hb hby d2_50) rfl ?_
    show Steps p.tables e below (T101.setTop (mkF m 51 #[.val (.long q1), .second] [(.int ((-q1).toInt32)), (.ref wp)])) _
    refine X101.aaload hx (j := ((-q1).toInt32)) (v := (.ref r)) (by rw [e101]; exact (A_p.ext X00.2).1) (State.isArrayOf_alike hZ.alike (A_p.ext X00.2).2.1) rfl (A_p.ext X00.2).2.2 hin hat (g := (mkF m 51 #[.val (.long q1), .second] [(.int ((-q1).toInt32)), (.ref wp)])) rfl rfl (hb hby d2_51) _ ?_
    show Steps p.tables e below (T101.setTop (mkF m 52 #[.val (.long q1), .second] [(.ref r)])) _
    jvm_step X101.here [X101.here.top, hx, (hb hby d2_52), X101.method', Bd.returns, Value.isRef, FieldType.isReference]
    first | (intro acts; rw [hr _ acts rfl rfl rfl]) | rw [hr _ _ rfl rfl rfl]
    exact Steps.refl _
  · show QVal Z q1 h0 n0 _ T101.heap _
    rw [e101]
    exact ⟨_, rfl, N0, Keep.refl _ _, (own_bigE B_r X00.2)⟩
set_option maxRecDepth 65536 in
set_option maxHeartbeats 40000000 in
theorem rmVal_P (l : Launch) (Z : State) (a0 : Array Value) (hw : ∀ d ∈ tables_1, d.before a0 Z = true) (ws : List Jvm.Cond) (q1 : Int64) (h0 : Heap) (n0 : Nat) (X00 : Old Z n0 h0) (h1 : 0 < q1) (h2 : 16 < q1) :
    MetFree l (⟨"java/math/BigInteger", "valueOf", "(J)Ljava/math/BigInteger;"⟩ : MethodName) (head1 (Jvm.Cond.code (⟨"java/math/BigInteger", "valueOf", "(J)Ljava/math/BigInteger;"⟩ : MethodName) jdk_2097_method_29_code 2 (some (.object "java/math/BigInteger")) :: ws) ({ frames := 3, cells := 2, slots := 8, locals := 40 } : Room)) (fun a U => a = #[(.long q1)] ∧ Z.Warmed39 U.vm ∧ U.heap = h0) (fun _ _ _ _ _ => True) (fun _ U o U' => ∃ rv rL, o = .returned rv ∧ QVal Z q1 h0 n0 rv U'.heap rL ∧ FrameEnd U o U' rL ({ frames := 3, cells := 2, slots := 8, locals := 40 } : Room).cells ({ frames := 3, cells := 2, slots := 8, locals := 40 } : Room).slots) := by
  refine MetFree.of_bodySF (plainFor_of_name pn_2) hisR ?_
  intro p e s m args below meth c s₁ Bd hml0 hP hK
  obtain ⟨rfl, hZ, hh⟩ := hP
  have hx := Bd.exec
  have hby := Bd.bytes
  have hml : c.maxLocals = 2 := hml0
  have hown : s.vm.findClass "java/math/BigInteger" = some m.cls := findClass_of_methodNamed Bd.named
  have hnm := (name_of_methodNamed Bd.named Bd.method).1
  have X0 : Stand p l e ({ frames := 3, cells := 2, slots := 8, locals := 40 } : Room) s m #[(.long q1)] below meth c s₁ [] 0 0 := Stand.of_body Bd
  have e0 : s₁.heap = h0 := by rw [← hh, Bd.state]; rfl
  have N0 := Fr.nil n0
  have pre0 : ∀ t, Steps p.tables e below (s₁.setTop (mkF m 0 #[.val (.long q1), .second] [])) t → Steps p.tables e below (s₁.setTop (entryFrame m #[(.long q1)] 2)) t := fun t k => castTop (ef_2 m q1) k
  have hz : ¬ (q1 = (0 : Int64)) := own_ne0 (Or.inr h1)
  have hc3 : ¬ ((lcmpW q1 (0 : Int64)) = (0 : Int32)) := fun q => own_ne0 (Or.inr h1) ((lw_eq q1 0).mp q)
  have hc13 : (0 : Int32) < (lcmpW q1 (0 : Int64)) := (lw_gt q1 0).mpr h1
  have hc21 : (0 : Int32) < (lcmpW q1 (16 : Int64)) := (lw_gt q1 16).mpr h2
  have hc34 : ¬ ((lcmpW q1 (0 : Int64)) < (0 : Int32)) := fun q => own_as ((lw_lt q1 0).mp q) h1
  obtain ⟨T101, h101, X101, e101, E101, A101, D101, U101, st101⟩ := newO X0 hx hZ hown (hw _ (List.mem_of_getElem? (i := 99) rfl)) (hw _ (List.mem_of_getElem? (i := 100) rfl)) (hw _ (List.mem_of_getElem? (i := 8) rfl)) e0 (g := (mkF m 53 #[.val (.long q1), .second] [])) rfl (hb hby d2_53) (by decide) (by decide)
  obtain ⟨b101, g101⟩ : ∃ z, z = h0.size := ⟨_, rfl⟩
  rw [← g101] at A101 D101 U101 st101
  have g_b101 : n0 ≤ b101 := Nat.le_trans (own_le X00) (Nat.le_of_eq g101.symm)
  have sz_b101 : h0.size ≤ b101 := Nat.le_trans (Keep.refl h0 []).1 (Nat.le_of_eq g101.symm)
  have F101_signum : Fld Z h101 b101 "java/math/BigInteger" "signum" "I" (.int (0 : Int32)) := D101 (Or.inr (hw _ (List.mem_of_getElem? (i := 48) rfl))) (ty := .int) (by decide)
  have F101_mag : Fld Z h101 b101 "java/math/BigInteger" "mag" "[I" .null := D101 (Or.inr (hw _ (List.mem_of_getElem? (i := 93) rfl))) (ty := (.array .int)) (by decide)
  have y102 := (X00.ext E101)
  obtain ⟨_, _, ⟨T103, L103, k103, n103⟩, -, X103, ⟨Lc103, hQ103, l103, y103, z103⟩, st103⟩ := X101.specialBack hx (y := (⟨"java/math/BigInteger", "<init>", "(J)V"⟩ : MethodName)) rfl hown (mvT hZ (hw _ (List.mem_of_getElem? (i := 101) rfl))) (mvT hZ (hw _ (List.mem_of_getElem? (i := 102) rfl))) (mvT hZ (hw _ (List.mem_of_getElem? (i := 104) rfl))) (by decide) (backOf (W := 1) (rmBI l Z a0 hw [] b101 q1 (.int (0 : Int32)) .null h101 n0 y102 hz A101 F101_signum F101_mag g_b101) hZ (hw _ (List.mem_of_getElem? (i := 104) rfl)) (hw _ (List.mem_of_getElem? (i := 8) rfl)) (by decide) (by decide)) (g := (mkF m 58 #[.val (.long q1), .second] [(.long q1), (.ref b101), (.ref b101)])) rfl (by rw [hml]; rfl) (Steps.refl _) (a := b101) (argsL := [(.long q1)]) (rest := [(.ref b101)]) (lenOf pd_J_V rfl) rfl (by show 2 * 0 + _ ≤ _; exact Nat.le_of_eq rfl) (hb hby d2_58) (fun _ _ => ⟨rfl, e101, (by decide : 1 + 1 ≤ _), (by decide : 6 + 2 ≤ _)⟩)
  dsimp only [Pt.U, Pt.locs, Pt.cells, Pt.slots] at X103 l103 y103 z103 st103 hQ103
  subst l103 y103 z103
  obtain ⟨rfl, N103q, Kc103, M103⟩ := hQ103
  have N103 := Fr.app N0 N103q
  have y104 := (A101.keep Kc103)
  have y105 := (((Keep.refl h0 []).ext E101).trans Kc103 (allS (Or.inr sz_b101) all0))
  obtain ⟨fs, hr, hrun, hended, hW, hsame⟩ := X103.leave (v := some (.ref b101)) (fun h => by rw [Bd.returns] at h; cases h)
  refine ⟨_, _, pre0 _ ?_, hrun, hended, _, _, rfl, ?_, ⟨_, rfl⟩, hW, hsame.mono (by decide) (by decide)⟩
  · show Steps p.tables e below (s₁.setTop (mkF m 0 #[.val (.long q1), .second] [])) _
    refine XS.lloadN X0.here hx rfl (hb hby d2_0) rfl ?_
    show Steps p.tables e below (s₁.setTop (mkF m 1 #[.val (.long q1), .second] [(.long q1)])) _
    refine XS.lconst X0.here hx rfl (hb hby d2_1) ?_
    show Steps p.tables e below (s₁.setTop (mkF m 2 #[.val (.long q1), .second] [(.long (0 : Int64)), (.long q1)])) _
    refine XS.lcmp X0.here hx rfl (hb hby d2_2) rfl ?_
    show Steps p.tables e below (s₁.setTop (mkF m 3 #[.val (.long q1), .second] [(.int (lcmpW q1 (0 : Int64)))])) _
    refine XS.ifYes X0.here hx rfl (pc0 := 3) (pc' := 10) rfl (hb hby d2_3) rfl ((if0 _ _).trans (feq hc3).2) (by decide) (by decide) ?_
    show Steps p.tables e below (s₁.setTop (mkF m 10 #[.val (.long q1), .second] [])) _
    refine XS.lloadN X0.here hx rfl (hb hby d2_10) rfl ?_
    show Steps p.tables e below (s₁.setTop (mkF m 11 #[.val (.long q1), .second] [(.long q1)])) _
    refine XS.lconst X0.here hx rfl (hb hby d2_11) ?_
    show Steps p.tables e below (s₁.setTop (mkF m 12 #[.val (.long q1), .second] [(.long (0 : Int64)), (.long q1)])) _
    refine XS.lcmp X0.here hx rfl (hb hby d2_12) rfl ?_
    show Steps p.tables e below (s₁.setTop (mkF m 13 #[.val (.long q1), .second] [(.int (lcmpW q1 (0 : Int64)))])) _
    refine XS.ifNo X0.here hx rfl (hb hby d2_13) rfl ((if0 _ _).trans (tlt hc13).2.2.2) ?_
    show Steps p.tables e below (s₁.setTop (mkF m 16 #[.val (.long q1), .second] [])) _
    refine XS.lloadN X0.here hx rfl (hb hby d2_16) rfl ?_
    show Steps p.tables e below (s₁.setTop (mkF m 17 #[.val (.long q1), .second] [(.long q1)])) _
    refine X0.ldc2Long hx hown (mvT hZ (hw _ (List.mem_of_getElem? (i := 10) rfl))) (g := (mkF m 17 #[.val (.long q1), .second] [(.long q1)])) rfl (hb hby d2_17) _ ?_
    show Steps p.tables e below (s₁.setTop (mkF m 20 #[.val (.long q1), .second] [(.long (16 : Int64)), (.long q1)])) _
    refine XS.lcmp X0.here hx rfl (hb hby d2_20) rfl ?_
    show Steps p.tables e below (s₁.setTop (mkF m 21 #[.val (.long q1), .second] [(.int (lcmpW q1 (16 : Int64)))])) _
    refine XS.ifYes X0.here hx rfl (pc0 := 21) (pc' := 31) rfl (hb hby d2_21) rfl ((if0 _ _).trans (tlt hc21).2.2.1) (by decide) (by decide) ?_
    show Steps p.tables e below (s₁.setTop (mkF m 31 #[.val (.long q1), .second] [])) _
    refine XS.lloadN X0.here hx rfl (hb hby d2_31) rfl ?_
    show Steps p.tables e below (s₁.setTop (mkF m 32 #[.val (.long q1), .second] [(.long q1)])) _
    refine XS.lconst X0.here hx rfl (hb hby d2_32) ?_
    show Steps p.tables e below (s₁.setTop (mkF m 33 #[.val (.long q1), .second] [(.long (0 : Int64)), (.long q1)])) _
    refine XS.lcmp X0.here hx rfl (hb hby d2_33) rfl ?_
    show Steps p.tables e below (s₁.setTop (mkF m 34 #[.val (.long q1), .second] [(.int (lcmpW q1 (0 : Int64)))])) _
    refine XS.ifYes X0.here hx rfl (pc0 := 34) (pc' := 53) rfl (hb hby d2_34) rfl ((if0 _ _).trans (flt hc34).2.1) (by decide) (by decide) ?_
    show Steps p.tables e below (s₁.setTop (mkF m 53 #[.val (.long q1), .second] [])) _
    refine st101 _ ?_
    show Steps p.tables e below (T101.setTop (mkF m 56 #[.val (.long q1), .second] [(.ref b101)])) _
    refine XS.dup X101.here hx rfl (hb hby d2_56) rfl rfl ?_
    show Steps p.tables e below (T101.setTop (mkF m 57 #[.val (.long q1), .second] [(.ref b101), (.ref b101)])) _
    refine XS.lloadN X101.here hx rfl (hb hby d2_57) rfl ?_
    show Steps p.tables e below (T101.setTop (mkF m 58 #[.val (.long q1), .second] [(.long q1), (.ref b101), (.ref b101)])) _
    refine st103.trans ?_
    show Steps p.tables e below (T103.setTop (mkF m 61 #[.val (.long q1), .second] [(.ref b101)])) _
    jvm_step X103.here [X103.here.top, hx, (hb hby d2_61), X103.method', Bd.returns, Value.isRef, FieldType.isReference]
    first | (intro acts; rw [hr _ acts rfl rfl rfl]) | rw [hr _ _ rfl rfl rfl]
    exact Steps.refl _
  · show QVal Z q1 h0 n0 _ T103.heap _
    exact ⟨_, rfl, N103, y105, (⟨y104, M103⟩ : Big Z T103.heap b101 q1)⟩
set_option maxRecDepth 65536 in
set_option maxHeartbeats 40000000 in
theorem rmVal_N (l : Launch) (Z : State) (a0 : Array Value) (hw : ∀ d ∈ tables_1, d.before a0 Z = true) (ws : List Jvm.Cond) (q1 : Int64) (h0 : Heap) (n0 : Nat) (X00 : Old Z n0 h0) (h1 : q1 < 0) (h2 : q1 < -16) :
    MetFree l (⟨"java/math/BigInteger", "valueOf", "(J)Ljava/math/BigInteger;"⟩ : MethodName) (head1 (Jvm.Cond.code (⟨"java/math/BigInteger", "valueOf", "(J)Ljava/math/BigInteger;"⟩ : MethodName) jdk_2097_method_29_code 2 (some (.object "java/math/BigInteger")) :: ws) ({ frames := 3, cells := 2, slots := 8, locals := 40 } : Room)) (fun a U => a = #[(.long q1)] ∧ Z.Warmed39 U.vm ∧ U.heap = h0) (fun _ _ _ _ _ => True) (fun _ U o U' => ∃ rv rL, o = .returned rv ∧ QVal Z q1 h0 n0 rv U'.heap rL ∧ FrameEnd U o U' rL ({ frames := 3, cells := 2, slots := 8, locals := 40 } : Room).cells ({ frames := 3, cells := 2, slots := 8, locals := 40 } : Room).slots) := by
  refine MetFree.of_bodySF (plainFor_of_name pn_2) hisR ?_
  intro p e s m args below meth c s₁ Bd hml0 hP hK
  obtain ⟨rfl, hZ, hh⟩ := hP
  have hx := Bd.exec
  have hby := Bd.bytes
  have hml : c.maxLocals = 2 := hml0
  have hown : s.vm.findClass "java/math/BigInteger" = some m.cls := findClass_of_methodNamed Bd.named
  have hnm := (name_of_methodNamed Bd.named Bd.method).1
  have X0 : Stand p l e ({ frames := 3, cells := 2, slots := 8, locals := 40 } : Room) s m #[(.long q1)] below meth c s₁ [] 0 0 := Stand.of_body Bd
  have e0 : s₁.heap = h0 := by rw [← hh, Bd.state]; rfl
  have N0 := Fr.nil n0
  have pre0 : ∀ t, Steps p.tables e below (s₁.setTop (mkF m 0 #[.val (.long q1), .second] [])) t → Steps p.tables e below (s₁.setTop (entryFrame m #[(.long q1)] 2)) t := fun t k => castTop (ef_2 m q1) k
  have hz : ¬ (q1 = (0 : Int64)) := own_ne0 (Or.inl h1)
  have hc3 : ¬ ((lcmpW q1 (0 : Int64)) = (0 : Int32)) := fun q => own_ne0 (Or.inl h1) ((lw_eq q1 0).mp q)
  have hc13 : ¬ ((0 : Int32) < (lcmpW q1 (0 : Int64))) := fun q => own_as h1 ((lw_gt q1 0).mp q)
  have hc34 : (lcmpW q1 (0 : Int64)) < (0 : Int32) := (lw_lt q1 0).mpr h1
  have hc42 : (lcmpW q1 (-16 : Int64)) < (0 : Int32) := (lw_lt q1 (-16)).mpr h2
  obtain ⟨T101, h101, X101, e101, E101, A101, D101, U101, st101⟩ := newO X0 hx hZ hown (hw _ (List.mem_of_getElem? (i := 99) rfl)) (hw _ (List.mem_of_getElem? (i := 100) rfl)) (hw _ (List.mem_of_getElem? (i := 8) rfl)) e0 (g := (mkF m 53 #[.val (.long q1), .second] [])) rfl (hb hby d2_53) (by decide) (by decide)
  obtain ⟨b101, g101⟩ : ∃ z, z = h0.size := ⟨_, rfl⟩
  rw [← g101] at A101 D101 U101 st101
  have g_b101 : n0 ≤ b101 := Nat.le_trans (own_le X00) (Nat.le_of_eq g101.symm)
  have sz_b101 : h0.size ≤ b101 := Nat.le_trans (Keep.refl h0 []).1 (Nat.le_of_eq g101.symm)
  have F101_signum : Fld Z h101 b101 "java/math/BigInteger" "signum" "I" (.int (0 : Int32)) := D101 (Or.inr (hw _ (List.mem_of_getElem? (i := 48) rfl))) (ty := .int) (by decide)
  have F101_mag : Fld Z h101 b101 "java/math/BigInteger" "mag" "[I" .null := D101 (Or.inr (hw _ (List.mem_of_getElem? (i := 93) rfl))) (ty := (.array .int)) (by decide)
  have y102 := (X00.ext E101)
  obtain ⟨_, _, ⟨T103, L103, k103, n103⟩, -, X103, ⟨Lc103, hQ103, l103, y103, z103⟩, st103⟩ := X101.specialBack hx (y := (⟨"java/math/BigInteger", "<init>", "(J)V"⟩ : MethodName)) rfl hown (mvT hZ (hw _ (List.mem_of_getElem? (i := 101) rfl))) (mvT hZ (hw _ (List.mem_of_getElem? (i := 102) rfl))) (mvT hZ (hw _ (List.mem_of_getElem? (i := 104) rfl))) (by decide) (backOf (W := 1) (rmBI l Z a0 hw [] b101 q1 (.int (0 : Int32)) .null h101 n0 y102 hz A101 F101_signum F101_mag g_b101) hZ (hw _ (List.mem_of_getElem? (i := 104) rfl)) (hw _ (List.mem_of_getElem? (i := 8) rfl)) (by decide) (by decide)) (g := (mkF m 58 #[.val (.long q1), .second] [(.long q1), (.ref b101), (.ref b101)])) rfl (by rw [hml]; rfl) (Steps.refl _) (a := b101) (argsL := [(.long q1)]) (rest := [(.ref b101)]) (lenOf pd_J_V rfl) rfl (by show 2 * 0 + _ ≤ _; exact Nat.le_of_eq rfl) (hb hby d2_58) (fun _ _ => ⟨rfl, e101, (by decide : 1 + 1 ≤ _), (by decide : 6 + 2 ≤ _)⟩)
  dsimp only [Pt.U, Pt.locs, Pt.cells, Pt.slots] at X103 l103 y103 z103 st103 hQ103
  subst l103 y103 z103
  obtain ⟨rfl, N103q, Kc103, M103⟩ := hQ103
  have N103 := Fr.app N0 N103q
  have y104 := (A101.keep Kc103)
  have y105 := (((Keep.refl h0 []).ext E101).trans Kc103 (allS (Or.inr sz_b101) all0))
  obtain ⟨fs, hr, hrun, hended, hW, hsame⟩ := X103.leave (v := some (.ref b101)) (fun h => by rw [Bd.returns] at h; cases h)
  refine ⟨_, _, pre0 _ ?_, hrun, hended, _, _, rfl, ?_, ⟨_, rfl⟩, hW, hsame.mono (by decide) (by decide)⟩
  · show Steps p.tables e below (s₁.setTop (mkF m 0 #[.val (.long q1), .second] [])) _
    refine XS.lloadN X0.here hx rfl (hb hby d2_0) rfl ?_
    show Steps p.tables e below (s₁.setTop (mkF m 1 #[.val (.long q1), .second] [(.long q1)])) _
    refine XS.lconst X0.here hx rfl (hb hby d2_1) ?_
    show Steps p.tables e below (s₁.setTop (mkF m 2 #[.val (.long q1), .second] [(.long (0 : Int64)), (.long q1)])) _
    refine XS.lcmp X0.here hx rfl (hb hby d2_2) rfl ?_
    show Steps p.tables e below (s₁.setTop (mkF m 3 #[.val (.long q1), .second] [(.int (lcmpW q1 (0 : Int64)))])) _
    refine XS.ifYes X0.here hx rfl (pc0 := 3) (pc' := 10) rfl (hb hby d2_3) rfl ((if0 _ _).trans (feq hc3).2) (by decide) (by decide) ?_
    show Steps p.tables e below (s₁.setTop (mkF m 10 #[.val (.long q1), .second] [])) _
    refine XS.lloadN X0.here hx rfl (hb hby d2_10) rfl ?_
    show Steps p.tables e below (s₁.setTop (mkF m 11 #[.val (.long q1), .second] [(.long q1)])) _
    refine XS.lconst X0.here hx rfl (hb hby d2_11) ?_
    show Steps p.tables e below (s₁.setTop (mkF m 12 #[.val (.long q1), .second] [(.long (0 : Int64)), (.long q1)])) _
    refine XS.lcmp X0.here hx rfl (hb hby d2_12) rfl ?_
    show Steps p.tables e below (s₁.setTop (mkF m 13 #[.val (.long q1), .second] [(.int (lcmpW q1 (0 : Int64)))])) _
    refine XS.ifYes X0.here hx rfl (pc0 := 13) (pc' := 31) rfl (hb hby d2_13) rfl ((if0 _ _).trans (flt hc13).2.2.2) (by decide) (by decide) ?_
    show Steps p.tables e below (s₁.setTop (mkF m 31 #[.val (.long q1), .second] [])) _
    refine XS.lloadN X0.here hx rfl (hb hby d2_31) rfl ?_
    show Steps p.tables e below (s₁.setTop (mkF m 32 #[.val (.long q1), .second] [(.long q1)])) _
    refine XS.lconst X0.here hx rfl (hb hby d2_32) ?_
    show Steps p.tables e below (s₁.setTop (mkF m 33 #[.val (.long q1), .second] [(.long (0 : Int64)), (.long q1)])) _
    refine XS.lcmp X0.here hx rfl (hb hby d2_33) rfl ?_
    show Steps p.tables e below (s₁.setTop (mkF m 34 #[.val (.long q1), .second] [(.int (lcmpW q1 (0 : Int64)))])) _
    refine XS.ifNo X0.here hx rfl (hb hby d2_34) rfl ((if0 _ _).trans (tlt hc34).2.1) ?_
    show Steps p.tables e below (s₁.setTop (mkF m 37 #[.val (.long q1), .second] [])) _
    refine XS.lloadN X0.here hx rfl (hb hby d2_37) rfl ?_
    show Steps p.tables e below (s₁.setTop (mkF m 38 #[.val (.long q1), .second] [(.long q1)])) _
    refine X0.ldc2Long hx hown (mvT hZ (hw _ (List.mem_of_getElem? (i := 98) rfl))) (g := (mkF m 38 #[.val (.long q1), .second] [(.long q1)])) rfl (hb hby d2_38) _ ?_
    show Steps p.tables e below (s₁.setTop (mkF m 41 #[.val (.long q1), .second] [(.long (-16 : Int64)), (.long q1)])) _
    refine XS.lcmp X0.here hx rfl (hb hby d2_41) rfl ?_
    show Steps p.tables e below (s₁.setTop (mkF m 42 #[.val (.long q1), .second] [(.int (lcmpW q1 (-16 : Int64)))])) _
    refine XS.ifYes X0.here hx rfl (pc0 := 42) (pc' := 53) rfl (hb hby d2_42) rfl ((if0 _ _).trans (tlt hc42).1) (by decide) (by decide) ?_
    show Steps p.tables e below (s₁.setTop (mkF m 53 #[.val (.long q1), .second] [])) _
    refine st101 _ ?_
    show Steps p.tables e below (T101.setTop (mkF m 56 #[.val (.long q1), .second] [(.ref b101)])) _
    refine XS.dup X101.here hx rfl (hb hby d2_56) rfl rfl ?_
    show Steps p.tables e below (T101.setTop (mkF m 57 #[.val (.long q1), .second] [(.ref b101), (.ref b101)])) _
    refine XS.lloadN X101.here hx rfl (hb hby d2_57) rfl ?_
    show Steps p.tables e below (T101.setTop (mkF m 58 #[.val (.long q1), .second] [(.long q1), (.ref b101), (.ref b101)])) _
    refine st103.trans ?_
    show Steps p.tables e below (T103.setTop (mkF m 61 #[.val (.long q1), .second] [(.ref b101)])) _
    jvm_step X103.here [X103.here.top, hx, (hb hby d2_61), X103.method', Bd.returns, Value.isRef, FieldType.isReference]
    first | (intro acts; rw [hr _ acts rfl rfl rfl]) | rw [hr _ _ rfl rfl rfl]
    exact Steps.refl _
  · show QVal Z q1 h0 n0 _ T103.heap _
    exact ⟨_, rfl, N103, y105, (⟨y104, M103⟩ : Big Z T103.heap b101 q1)⟩
set_option maxRecDepth 65536 in
set_option maxHeartbeats 40000000 in
theorem rmVal (l : Launch) (Z : State) (a0 : Array Value) (hw : ∀ d ∈ tables_1, d.before a0 Z = true) (ws : List Jvm.Cond) (q1 : Int64) (h0 : Heap) (n0 : Nat) (X00 : Old Z n0 h0) (C : Cache Z) :
    MetFree l (⟨"java/math/BigInteger", "valueOf", "(J)Ljava/math/BigInteger;"⟩ : MethodName) (head1 (Jvm.Cond.code (⟨"java/math/BigInteger", "valueOf", "(J)Ljava/math/BigInteger;"⟩ : MethodName) jdk_2097_method_29_code 2 (some (.object "java/math/BigInteger")) :: ws) ({ frames := 3, cells := 2, slots := 8, locals := 40 } : Room)) (fun a U => a = #[(.long q1)] ∧ Z.Warmed39 U.vm ∧ U.heap = h0) (fun _ _ _ _ _ => True) (fun _ U o U' => ∃ rv rL, o = .returned rv ∧ QVal Z q1 h0 n0 rv U'.heap rL ∧ FrameEnd U o U' rL ({ frames := 3, cells := 2, slots := 8, locals := 40 } : Room).cells ({ frames := 3, cells := 2, slots := 8, locals := 40 } : Room).slots) := by
  obtain ⟨⟨wz, sz, bz⟩, ⟨wp, cp, sp, ap, hp⟩, ⟨wn, cn, sn, an, hn⟩⟩ := C
  by_cases c0 : q1 = 0
  · exact rmVal_z l Z a0 hw ws q1 wz h0 n0 X00 sz bz c0
  by_cases c1 : 0 < q1
  · by_cases c2 : 16 < q1
    · exact rmVal_P l Z a0 hw ws q1 h0 n0 X00 c1 c2
    · obtain ⟨hin, r, hat, br⟩ := hp q1 c1 c2
      exact rmVal_p l Z a0 hw ws q1 wp cp r h0 n0 X00 sp ap hin hat br c1 c2
  · have c3 : q1 < 0 := own_neg c0 c1
    by_cases c2 : q1 < -16
    · exact rmVal_N l Z a0 hw ws q1 h0 n0 X00 c3 c2
    · obtain ⟨hin, r, hat, br⟩ := hn q1 c3 c2
      exact rmVal_n l Z a0 hw ws q1 wn cn r h0 n0 X00 sn an hin hat br c3 c2
set_option maxRecDepth 65536 in
set_option maxHeartbeats 40000000 in
theorem rmRI (l : Launch) (Z : State) (a0 : Array Value) (hw : ∀ d ∈ tables_1, d.before a0 Z = true) (ws : List Jvm.Cond) (a1 : Addr) (a2 : Addr) (a3 : Addr) (un : Value) (ud : Value) (h0 : Heap) (n0 : Nat) (X00 : Old Z n0 h0) (E_a1 : Exa Z h0 a1 RA) (F_n : Fld Z h0 a1 RA "numerator" "Ljava/math/BigInteger;" un) (F_d : Fld Z h0 a1 RA "denominator" "Ljava/math/BigInteger;" ud) (g_a1 : n0 ≤ a1) :
    MetFree l (⟨"com/example/granica/granica/Rational", "<init>", "(Ljava/math/BigInteger;Ljava/math/BigInteger;)V"⟩ : MethodName) (head1 (Jvm.Cond.code (⟨"com/example/granica/granica/Rational", "<init>", "(Ljava/math/BigInteger;Ljava/math/BigInteger;)V"⟩ : MethodName) prog_30_method_1_code 3 none :: ws) ({ frames := 1, cells := 0, slots := 0, locals := 12 } : Room)) (fun a U => a = #[(.ref a1), (.ref a2), (.ref a3)] ∧ Z.Warmed39 U.vm ∧ U.heap = h0) (fun _ _ _ _ _ => True) (fun _ U o U' => ∃ rv rL, o = .returned rv ∧ QRI Z a1 a2 a3 h0 n0 rv U'.heap rL ∧ FrameEnd U o U' rL ({ frames := 1, cells := 0, slots := 0, locals := 12 } : Room).cells ({ frames := 1, cells := 0, slots := 0, locals := 12 } : Room).slots) := by
  refine MetFree.of_bodySF (plainFor_of_name pn_3) hisR ?_
  intro p e s m args below meth c s₁ Bd hml0 hP hK
  obtain ⟨rfl, hZ, hh⟩ := hP
  have hx := Bd.exec
  have hby := Bd.bytes
  have hml : c.maxLocals = 3 := hml0
  have hown : s.vm.findClass "com/example/granica/granica/Rational" = some m.cls := findClass_of_methodNamed Bd.named
  have hnm := (name_of_methodNamed Bd.named Bd.method).1
  have X0 : Stand p l e ({ frames := 1, cells := 0, slots := 0, locals := 12 } : Room) s m #[(.ref a1), (.ref a2), (.ref a3)] below meth c s₁ [] 0 0 := Stand.of_body Bd
  have e0 : s₁.heap = h0 := by rw [← hh, Bd.state]; rfl
  have N0 := Fr.nil n0
  have pre0 : ∀ t, Steps p.tables e below (s₁.setTop (mkF m 0 #[.val (.ref a1), .val (.ref a2), .val (.ref a3)] [])) t → Steps p.tables e below (s₁.setTop (entryFrame m #[(.ref a1), (.ref a2), (.ref a3)] 3)) t := fun t k => castTop (ef_3 m a1 a2 a3) k
  obtain ⟨T101, X101, e101, st101⟩ := initO X0 hx hZ hown (hw _ (List.mem_of_getElem? (i := 16) rfl)) (hw _ (List.mem_of_getElem? (i := 17) rfl)) (hw _ (List.mem_of_getElem? (i := 18) rfl)) e0 (g := (mkF m 1 #[.val (.ref a1), .val (.ref a2), .val (.ref a3)] [(.ref a1)])) rfl (by rw [hml]; rfl) rfl (hb hby d3_1) (by decide) (W := 0) (by show 2 * 0 + _ ≤ _; exact Nat.le_of_eq rfl) (by decide)
  obtain ⟨T102, h102, X102, e102, W102, st102⟩ := putF X101 hx hZ hown (host := "") (Or.inl (hw _ (List.mem_of_getElem? (i := 19) rfl))) Via.refl e101 F_n E_a1 (Or.inr ⟨(hw _ (List.mem_of_getElem? (i := 20) rfl)), rfl, hnm⟩) (hw _ (List.mem_of_getElem? (i := 5) rfl)) (ty := (.object "java/math/BigInteger")) (by decide) rfl rfl (g := (mkF m 6 #[.val (.ref a1), .val (.ref a2), .val (.ref a3)] [(.ref a2), (.ref a1)])) rfl rfl (hb hby d3_6)
  have Fw102 := F_n.same W102
  have N102 := Fr.snoc X102 N0 g_a1
  have y103 := (F_d.other W102 (Or.inr (slot_ne (Or.inr (hw _ (List.mem_of_getElem? (i := 22) rfl))) (Or.inr (hw _ (List.mem_of_getElem? (i := 20) rfl))) (by decide) (t := (.object "java/math/BigInteger")) (t' := (.object "java/math/BigInteger")) (by decide) (by decide))))
  have y104 := (E_a1.wr W102)
  obtain ⟨T105, h105, X105, e105, W105, st105⟩ := putF X102 hx hZ hown (host := "") (Or.inl (hw _ (List.mem_of_getElem? (i := 21) rfl))) Via.refl e102 y103 y104 (Or.inr ⟨(hw _ (List.mem_of_getElem? (i := 22) rfl)), rfl, hnm⟩) (hw _ (List.mem_of_getElem? (i := 5) rfl)) (ty := (.object "java/math/BigInteger")) (by decide) rfl rfl (g := (mkF m 11 #[.val (.ref a1), .val (.ref a2), .val (.ref a3)] [(.ref a3), (.ref a1)])) rfl rfl (hb hby d3_11)
  have Fw105 := y103.same W105
  have N105 := Fr.snoc X105 N102 g_a1
  have y106 := (((Keep.refl h0 [a1]).wr W102 (Or.inl (List.mem_of_getElem? (i := 0) rfl))).wr W105 (Or.inl (List.mem_of_getElem? (i := 0) rfl)))
  have y107 := (Fw102.other W105 (Or.inr (slot_ne (Or.inr (hw _ (List.mem_of_getElem? (i := 20) rfl))) (Or.inr (hw _ (List.mem_of_getElem? (i := 22) rfl))) (by decide) (t := (.object "java/math/BigInteger")) (t' := (.object "java/math/BigInteger")) (by decide) (by decide))))
  obtain ⟨fs, hr, hrun, hended, hW, hsame⟩ := X105.leave (v := none) (fun _ => rfl)
  refine ⟨_, _, pre0 _ ?_, hrun, hended, _, _, rfl, ?_, ⟨_, rfl⟩, hW, hsame.mono (by decide) (by decide)⟩
  · show Steps p.tables e below (s₁.setTop (mkF m 0 #[.val (.ref a1), .val (.ref a2), .val (.ref a3)] [])) _
    refine XS.aloadN X0.here hx rfl (hb hby d3_0) rfl rfl ?_
    show Steps p.tables e below (s₁.setTop (mkF m 1 #[.val (.ref a1), .val (.ref a2), .val (.ref a3)] [(.ref a1)])) _
    refine st101 _ ?_
    show Steps p.tables e below (T101.setTop (mkF m 4 #[.val (.ref a1), .val (.ref a2), .val (.ref a3)] [])) _
    refine XS.aloadN X101.here hx rfl (hb hby d3_4) rfl rfl ?_
    show Steps p.tables e below (T101.setTop (mkF m 5 #[.val (.ref a1), .val (.ref a2), .val (.ref a3)] [(.ref a1)])) _
    refine XS.aloadN X101.here hx rfl (hb hby d3_5) rfl rfl ?_
    show Steps p.tables e below (T101.setTop (mkF m 6 #[.val (.ref a1), .val (.ref a2), .val (.ref a3)] [(.ref a2), (.ref a1)])) _
    refine st102 _ ?_
    show Steps p.tables e below (T102.setTop (mkF m 9 #[.val (.ref a1), .val (.ref a2), .val (.ref a3)] [])) _
    refine XS.aloadN X102.here hx rfl (hb hby d3_9) rfl rfl ?_
    show Steps p.tables e below (T102.setTop (mkF m 10 #[.val (.ref a1), .val (.ref a2), .val (.ref a3)] [(.ref a1)])) _
    refine XS.aloadN X102.here hx rfl (hb hby d3_10) rfl rfl ?_
    show Steps p.tables e below (T102.setTop (mkF m 11 #[.val (.ref a1), .val (.ref a2), .val (.ref a3)] [(.ref a3), (.ref a1)])) _
    refine st105 _ ?_
    show Steps p.tables e below (T105.setTop (mkF m 14 #[.val (.ref a1), .val (.ref a2), .val (.ref a3)] [])) _
    exact X105.returnOut hx Bd.returns (hb hby d3_14) hr
  · show QRI Z a1 a2 a3 h0 n0 _ T105.heap _
    rw [e105]
    exact ⟨rfl, N105, y106, y107, Fw105⟩
set_option maxRecDepth 65536 in
set_option maxHeartbeats 40000000 in
theorem rmRV (l : Launch) (Z : State) (a0 : Array Value) (hw : ∀ d ∈ tables_1, d.before a0 Z = true) (ws : List Jvm.Cond) (q1 : Int64) (wo : Addr) (h0 : Heap) (n0 : Nat) (X00 : Old Z n0 h0) (S_o : Sta Z Z.heap BI "ONE" "Ljava/math/BigInteger;" (.ref wo)) (B_o : Big Z Z.heap wo 1) (C : Cache Z) :
    MetFree l (⟨"com/example/granica/granica/Rational", "valueOf", "(J)Lcom/example/granica/granica/Rational;"⟩ : MethodName) (head1 (Jvm.Cond.code (⟨"com/example/granica/granica/Rational", "valueOf", "(J)Lcom/example/granica/granica/Rational;"⟩ : MethodName) prog_30_method_2_code 2 (some (.object "com/example/granica/granica/Rational")) :: ws) ({ frames := 4, cells := 3, slots := 10, locals := 60 } : Room)) (fun a U => a = #[(.long q1)] ∧ Z.Warmed39 U.vm ∧ U.heap = h0) (fun _ _ _ _ _ => True) (fun _ U o U' => ∃ rv rL, o = .returned rv ∧ QRat Z q1 h0 n0 rv U'.heap rL ∧ FrameEnd U o U' rL ({ frames := 4, cells := 3, slots := 10, locals := 60 } : Room).cells ({ frames := 4, cells := 3, slots := 10, locals := 60 } : Room).slots) := by
  refine MetFree.of_bodySF (plainFor_of_name pn_1) hisR ?_
  intro p e s m args below meth c s₁ Bd hml0 hP hK
  obtain ⟨rfl, hZ, hh⟩ := hP
  have hx := Bd.exec
  have hby := Bd.bytes
  have hml : c.maxLocals = 2 := hml0
  have hown : s.vm.findClass "com/example/granica/granica/Rational" = some m.cls := findClass_of_methodNamed Bd.named
  have hnm := (name_of_methodNamed Bd.named Bd.method).1
  have X0 : Stand p l e ({ frames := 4, cells := 3, slots := 10, locals := 60 } : Room) s m #[(.long q1)] below meth c s₁ [] 0 0 := Stand.of_body Bd
  have e0 : s₁.heap = h0 := by rw [← hh, Bd.state]; rfl
  have N0 := Fr.nil n0
  have pre0 : ∀ t, Steps p.tables e below (s₁.setTop (mkF m 0 #[.val (.long q1), .second] [])) t → Steps p.tables e below (s₁.setTop (entryFrame m #[(.long q1)] 2)) t := fun t k => castTop (ef_1 m q1) k
  obtain ⟨T101, h101, X101, e101, E101, A101, D101, U101, st101⟩ := newO X0 hx hZ hown (hw _ (List.mem_of_getElem? (i := 4) rfl)) (hw _ (List.mem_of_getElem? (i := 5) rfl)) (hw _ (List.mem_of_getElem? (i := 2) rfl)) e0 (g := (mkF m 0 #[.val (.long q1), .second] [])) rfl (hb hby d1_0) (by decide) (by decide)
  obtain ⟨b101, g101⟩ : ∃ z, z = h0.size := ⟨_, rfl⟩
  rw [← g101] at A101 D101 U101 st101
  have g_b101 : n0 ≤ b101 := Nat.le_trans (own_le X00) (Nat.le_of_eq g101.symm)
  have sz_b101 : h0.size ≤ b101 := Nat.le_trans (Keep.refl h0 []).1 (Nat.le_of_eq g101.symm)
  have F101_numerator : Fld Z h101 b101 "com/example/granica/granica/Rational" "numerator" "Ljava/math/BigInteger;" .null := D101 (Or.inr (hw _ (List.mem_of_getElem? (i := 20) rfl))) (ty := (.object "java/math/BigInteger")) (by decide)
  have F101_denominator : Fld Z h101 b101 "com/example/granica/granica/Rational" "denominator" "Ljava/math/BigInteger;" .null := D101 (Or.inr (hw _ (List.mem_of_getElem? (i := 22) rfl))) (ty := (.object "java/math/BigInteger")) (by decide)
  have y102 := (X00.ext E101)
  obtain ⟨_, _, ⟨T103, L103, k103, n103⟩, -, X103, ⟨Lc103, hQ103, l103, y103, z103⟩, st103⟩ := Jvm.LawKit.callS X101 hx (y := (⟨"java/math/BigInteger", "valueOf", "(J)Ljava/math/BigInteger;"⟩ : MethodName)) hown (mvT hZ (hw _ (List.mem_of_getElem? (i := 6) rfl))) (mvT hZ (hw _ (List.mem_of_getElem? (i := 7) rfl))) (mvT hZ (hw _ (List.mem_of_getElem? (i := 8) rfl))) (mvT hZ (hw _ (List.mem_of_getElem? (i := 9) rfl))) (by decide) (backOf (W := 2) (rmVal l Z a0 hw [] q1 h101 n0 y102 C) hZ (hw _ (List.mem_of_getElem? (i := 9) rfl)) (hw _ (List.mem_of_getElem? (i := 8) rfl)) (by decide) (by decide)) (g := (mkF m 5 #[.val (.long q1), .second] [(.long q1), (.ref b101), (.ref b101)])) rfl (by rw [hml]; rfl) (argsL := [(.long q1)]) (rest := [(.ref b101), (.ref b101)]) (lenOf pd_J_Ljava_math_BigInteger_ rfl) rfl (by show 2 * 0 + _ ≤ _; exact Nat.le_of_eq rfl) (hb hby d1_5) (fun _ _ => ⟨rfl, e101, (by decide : 1 + 2 ≤ _), (by decide : 2 + 8 ≤ _)⟩)
  dsimp only [Pt.U, Pt.locs, Pt.cells, Pt.slots] at X103 l103 y103 z103 st103 hQ103
  subst l103 y103 z103
  obtain ⟨r103, rfl, N103q, Kc103, B103⟩ := hQ103
  have N103 := Fr.app N0 N103q
  have y105 := (y102.keep Kc103 all0)
  obtain ⟨T104, X104, e104, st104⟩ := getS2 X103 hx hZ hown (host := "") (Or.inl (hw _ (List.mem_of_getElem? (i := 12) rfl))) Via.refl rfl (S_o.ext y105.2) (g := (mkF m 8 #[.val (.long q1), .second] [(.ref r103), (.ref b101), (.ref b101)])) rfl (hb hby d1_8)
  have y106 := (A101.keep Kc103)
  have y107 := (F101_numerator.keep Kc103 own_nm0)
  have y108 := (F101_denominator.keep Kc103 own_nm0)
  obtain ⟨_, _, ⟨T109, L109, k109, n109⟩, -, X109, ⟨Lc109, hQ109, l109, y109, z109⟩, st109⟩ := X104.specialBack hx (y := (⟨"com/example/granica/granica/Rational", "<init>", "(Ljava/math/BigInteger;Ljava/math/BigInteger;)V"⟩ : MethodName)) rfl hown (mvT hZ (hw _ (List.mem_of_getElem? (i := 13) rfl))) (mvT hZ (hw _ (List.mem_of_getElem? (i := 14) rfl))) (mvT hZ (hw _ (List.mem_of_getElem? (i := 15) rfl))) (by decide) (backOf (W := 1) (rmRI l Z a0 hw [] b101 r103 wo .null .null T103.heap n0 y105 y106 y107 y108 g_b101) hZ (hw _ (List.mem_of_getElem? (i := 15) rfl)) (hw _ (List.mem_of_getElem? (i := 2) rfl)) (by decide) (by decide)) (g := (mkF m 11 #[.val (.long q1), .second] [(.ref wo), (.ref r103), (.ref b101), (.ref b101)])) rfl (by rw [hml]; rfl) (Steps.refl _) (a := b101) (argsL := [(.ref r103), (.ref wo)]) (rest := [(.ref b101)]) (lenOf pd_Ljava_math_BigInteger_Ljava_math_BigInteger__V rfl) rfl (by show 2 * 0 + _ ≤ _; exact Nat.le_of_eq rfl) (hb hby d1_11) (fun _ _ => ⟨rfl, e104, (by decide : 3 + 0 ≤ _), (by decide : 10 + 0 ≤ _)⟩)
  dsimp only [Pt.U, Pt.locs, Pt.cells, Pt.slots] at X109 l109 y109 z109 st109 hQ109
  subst l109 y109 z109
  obtain ⟨rfl, N109q, Kc109, Fn109, Fd109⟩ := hQ109
  have N109 := Fr.app N103 N109q
  have y110 := (y106.keep Kc109)
  have y111 := (own_bigKo B103 y106 (by decide) (hw _ (List.mem_of_getElem? (i := 5) rfl)) Kc109)
  have y112 := (y105.keep Kc109 (allS g_b101 all0))
  have R109 : Rat Z T109.heap b101 q1 1 := ⟨y110, r103, wo, Fn109, Fd109, y111, (own_bigE B_o y112.2)⟩
  have y113 := ((((Keep.refl h0 []).ext E101).trans Kc103 all0).trans Kc109 (allS (Or.inr sz_b101) all0))
  obtain ⟨fs, hr, hrun, hended, hW, hsame⟩ := X109.leave (v := some (.ref b101)) (fun h => by rw [Bd.returns] at h; cases h)
  refine ⟨_, _, pre0 _ ?_, hrun, hended, _, _, rfl, ?_, ⟨_, rfl⟩, hW, hsame.mono (by decide) (by decide)⟩
  · show Steps p.tables e below (s₁.setTop (mkF m 0 #[.val (.long q1), .second] [])) _
    refine st101 _ ?_
    show Steps p.tables e below (T101.setTop (mkF m 3 #[.val (.long q1), .second] [(.ref b101)])) _
    refine XS.dup X101.here hx rfl (hb hby d1_3) rfl rfl ?_
    show Steps p.tables e below (T101.setTop (mkF m 4 #[.val (.long q1), .second] [(.ref b101), (.ref b101)])) _
    refine XS.lloadN X101.here hx rfl (hb hby d1_4) rfl ?_
    show Steps p.tables e below (T101.setTop (mkF m 5 #[.val (.long q1), .second] [(.long q1), (.ref b101), (.ref b101)])) _
    refine st103 _ ?_
    show Steps p.tables e below (T103.setTop (mkF m 8 #[.val (.long q1), .second] [(.ref r103), (.ref b101), (.ref b101)])) _
    refine st104 _ ?_
    show Steps p.tables e below (T104.setTop (mkF m 11 #[.val (.long q1), .second] [(.ref wo), (.ref r103), (.ref b101), (.ref b101)])) _
    refine st109.trans ?_
    show Steps p.tables e below (T109.setTop (mkF m 14 #[.val (.long q1), .second] [(.ref b101)])) _
    jvm_step X109.here [X109.here.top, hx, (hb hby d1_14), X109.method', Bd.returns, Value.isRef, FieldType.isReference]
    first | (intro acts; rw [hr _ acts rfl rfl rfl]) | rw [hr _ _ rfl rfl rfl]
    exact Steps.refl _
  · show QRat Z q1 h0 n0 _ T109.heap _
    exact ⟨_, rfl, N109, y113, R109⟩
set_option maxRecDepth 65536 in
set_option maxHeartbeats 40000000 in
theorem rmSig (l : Launch) (Z : State) (a0 : Array Value) (hw : ∀ d ∈ tables_1, d.before a0 Z = true) (ws : List Jvm.Cond) (a1 : Addr) (v : Int64) (h0 : Heap) (n0 : Nat) (X00 : Old Z n0 h0) (B : Big Z h0 a1 v) :
    MetFree l (⟨"java/math/BigInteger", "signum", "()I"⟩ : MethodName) (head1 (Jvm.Cond.code (⟨"java/math/BigInteger", "signum", "()I"⟩ : MethodName) jdk_2097_method_81_code 1 (some .int) :: ws) ({ frames := 0, cells := 0, slots := 0, locals := 0 } : Room)) (fun a U => a = #[(.ref a1)] ∧ Z.Warmed39 U.vm ∧ U.heap = h0) (fun _ _ _ _ _ => True) (fun _ U o U' => ∃ rv rL, o = .returned rv ∧ Qs (some (.int (own_sg v))) h0 n0 rv U'.heap rL ∧ FrameEnd U o U' rL ({ frames := 0, cells := 0, slots := 0, locals := 0 } : Room).cells ({ frames := 0, cells := 0, slots := 0, locals := 0 } : Room).slots) := by
  refine MetFree.of_bodySF (plainFor_of_name pn_8) hisR ?_
  intro p e s m args below meth c s₁ Bd hml0 hP hK
  obtain ⟨rfl, hZ, hh⟩ := hP
  have hx := Bd.exec
  have hby := Bd.bytes
  have hml : c.maxLocals = 1 := hml0
  have hown : s.vm.findClass "java/math/BigInteger" = some m.cls := findClass_of_methodNamed Bd.named
  have hnm := (name_of_methodNamed Bd.named Bd.method).1
  have X0 : Stand p l e ({ frames := 0, cells := 0, slots := 0, locals := 0 } : Room) s m #[(.ref a1)] below meth c s₁ [] 0 0 := Stand.of_body Bd
  have e0 : s₁.heap = h0 := by rw [← hh, Bd.state]; rfl
  have N0 := Fr.nil n0
  have pre0 : ∀ t, Steps p.tables e below (s₁.setTop (mkF m 0 #[.val (.ref a1)] [])) t → Steps p.tables e below (s₁.setTop (entryFrame m #[(.ref a1)] 1)) t := fun t k => castTop (ef_8 m a1) k
  obtain ⟨T101, X101, e101, st101⟩ := getF X0 hx hZ hown (host := "") (Or.inl (hw _ (List.mem_of_getElem? (i := 47) rfl))) Via.refl e0 B.2.1 (g := (mkF m 1 #[.val (.ref a1)] [(.ref a1)])) rfl rfl (hb hby d8_1)
  obtain ⟨fs, hr, hrun, hended, hW, hsame⟩ := X101.leave (v := some (.int (own_sg v))) (fun h => by rw [Bd.returns] at h; cases h)
  refine ⟨_, _, pre0 _ ?_, hrun, hended, _, _, rfl, ?_, ⟨_, rfl⟩, hW, hsame.mono (by decide) (by decide)⟩
  · show Steps p.tables e below (s₁.setTop (mkF m 0 #[.val (.ref a1)] [])) _
    refine XS.aloadN X0.here hx rfl (hb hby d8_0) rfl rfl ?_
    show Steps p.tables e below (s₁.setTop (mkF m 1 #[.val (.ref a1)] [(.ref a1)])) _
    refine st101 _ ?_
    show Steps p.tables e below (T101.setTop (mkF m 4 #[.val (.ref a1)] [(.int (own_sg v))])) _
    exact retI X101 hx Bd.returns (hb hby d8_4) hr
  · show Qs (some (.int (own_sg v))) h0 n0 _ T101.heap _
    rw [e101]
    exact ⟨rfl, N0, rfl⟩
set_option maxRecDepth 65536 in
set_option maxHeartbeats 40000000 in
theorem rmEq_s (l : Launch) (Z : State) (a0 : Array Value) (hw : ∀ d ∈ tables_1, d.before a0 Z = true) (ws : List Jvm.Cond) (a1 : Addr) (h0 : Heap) (n0 : Nat) (X00 : Old Z n0 h0) :
    MetFree l (⟨"java/math/BigInteger", "equals", "(Ljava/lang/Object;)Z"⟩ : MethodName) (head1 (Jvm.Cond.code (⟨"java/math/BigInteger", "equals", "(Ljava/lang/Object;)Z"⟩ : MethodName) jdk_2097_method_124_code 7 (some .boolean) :: ws) ({ frames := 0, cells := 0, slots := 0, locals := 0 } : Room)) (fun a U => a = #[(.ref a1), (.ref a1)] ∧ Z.Warmed39 U.vm ∧ U.heap = h0) (fun _ _ _ _ _ => True) (fun _ U o U' => ∃ rv rL, o = .returned rv ∧ Qs (some (.int (1 : Int32))) h0 n0 rv U'.heap rL ∧ FrameEnd U o U' rL ({ frames := 0, cells := 0, slots := 0, locals := 0 } : Room).cells ({ frames := 0, cells := 0, slots := 0, locals := 0 } : Room).slots) := by
  refine MetFree.of_bodySF (plainFor_of_name pn_10) hisR ?_
  intro p e s m args below meth c s₁ Bd hml0 hP hK
  obtain ⟨rfl, hZ, hh⟩ := hP
  have hx := Bd.exec
  have hby := Bd.bytes
  have hml : c.maxLocals = 7 := hml0
  have hown : s.vm.findClass "java/math/BigInteger" = some m.cls := findClass_of_methodNamed Bd.named
  have hnm := (name_of_methodNamed Bd.named Bd.method).1
  have X0 : Stand p l e ({ frames := 0, cells := 0, slots := 0, locals := 0 } : Room) s m #[(.ref a1), (.ref a1)] below meth c s₁ [] 0 0 := Stand.of_body Bd
  have e0 : s₁.heap = h0 := by rw [← hh, Bd.state]; rfl
  have N0 := Fr.nil n0
  have pre0 : ∀ t, Steps p.tables e below (s₁.setTop (mkF m 0 #[.val (.ref a1), .val (.ref a1), .unset, .unset, .unset, .unset, .unset] [])) t → Steps p.tables e below (s₁.setTop (entryFrame m #[(.ref a1), (.ref a1)] 7)) t := fun t k => castTop (ef_10 m a1 a1) k
  obtain ⟨fs, hr, hrun, hended, hW, hsame⟩ := X0.leave (v := some (.int (1 : Int32))) (fun h => by rw [Bd.returns] at h; cases h)
  refine ⟨_, _, pre0 _ ?_, hrun, hended, _, _, rfl, ?_, ⟨_, rfl⟩, hW, hsame.mono (by decide) (by decide)⟩
  · show Steps p.tables e below (s₁.setTop (mkF m 0 #[.val (.ref a1), .val (.ref a1), .unset, .unset, .unset, .unset, .unset] [])) _
    refine XS.aloadN X0.here hx rfl (hb hby d10_0) rfl rfl ?_
    show Steps p.tables e below (s₁.setTop (mkF m 1 #[.val (.ref a1), .val (.ref a1), .unset, .unset, .unset, .unset, .unset] [(.ref a1)])) _
    refine XS.aloadN X0.here hx rfl (hb hby d10_1) rfl rfl ?_
    show Steps p.tables e below (s₁.setTop (mkF m 2 #[.val (.ref a1), .val (.ref a1), .unset, .unset, .unset, .unset, .unset] [(.ref a1), (.ref a1)])) _
    refine Jvm.RoadKit.acmp (g := (mkF m 2 #[.val (.ref a1), .val (.ref a1), .unset, .unset, .unset, .unset, .unset] [(.ref a1), (.ref a1)])) X0 hx rfl rfl rfl (pc0 := 2) (pc' := 5) (same := true) rfl (hb hby d10_2) rfl (decide_eq_true rfl) (by decide) (by decide) ?_
    show Steps p.tables e below (s₁.setTop (mkF m 5 #[.val (.ref a1), .val (.ref a1), .unset, .unset, .unset, .unset, .unset] [])) _
    refine XS.iconst X0.here hx rfl (hb hby d10_5) ?_
    show Steps p.tables e below (s₁.setTop (mkF m 6 #[.val (.ref a1), .val (.ref a1), .unset, .unset, .unset, .unset, .unset] [(.int (1 : Int32))])) _
    exact retN X0 hx (t := .boolean) Bd.returns (by simp) (hb hby d10_6) hr
  · show Qs (some (.int (1 : Int32))) h0 n0 _ s₁.heap _
    rw [e0]
    exact ⟨rfl, N0, rfl⟩
set_option maxRecDepth 65536 in
set_option maxHeartbeats 40000000 in
theorem rmEq_0 (l : Launch) (Z : State) (a0 : Array Value) (hw : ∀ d ∈ tables_1, d.before a0 Z = true) (ws : List Jvm.Cond) (a1 : Addr) (a2 : Addr) (sg : Int32) (t1 : Addr) (t2 : Addr) (k1 : ClassId) (k2 : ClassId) (h0 : Heap) (n0 : Nat) (X00 : Old Z n0 h0) (E1 : Exa Z h0 a1 BI) (E2 : Exa Z h0 a2 BI) (S1 : Fld Z h0 a1 BI "signum" "I" (.int sg)) (S2 : Fld Z h0 a2 BI "signum" "I" (.int sg)) (M1 : Fld Z h0 a1 BI "mag" "[I" (.ref t1)) (M2 : Fld Z h0 a2 BI "mag" "[I" (.ref t2)) (V1 : Arv Z h0 t1 k1 .int (0 : Int32) [] (.int (0 : Int32))) (V2 : Arv Z h0 t2 k2 .int (0 : Int32) [] (.int (0 : Int32))) (hne : ¬ (a2 = a1)) :
    MetFree l (⟨"java/math/BigInteger", "equals", "(Ljava/lang/Object;)Z"⟩ : MethodName) (head1 (Jvm.Cond.code (⟨"java/math/BigInteger", "equals", "(Ljava/lang/Object;)Z"⟩ : MethodName) jdk_2097_method_124_code 7 (some .boolean) :: ws) ({ frames := 0, cells := 0, slots := 0, locals := 0 } : Room)) (fun a U => a = #[(.ref a1), (.ref a2)] ∧ Z.Warmed39 U.vm ∧ U.heap = h0) (fun _ _ _ _ _ => True) (fun _ U o U' => ∃ rv rL, o = .returned rv ∧ Qs (some (.int (1 : Int32))) h0 n0 rv U'.heap rL ∧ FrameEnd U o U' rL ({ frames := 0, cells := 0, slots := 0, locals := 0 } : Room).cells ({ frames := 0, cells := 0, slots := 0, locals := 0 } : Room).slots) := by
  refine MetFree.of_bodySF (plainFor_of_name pn_10) hisR ?_
  intro p e s m args below meth c s₁ Bd hml0 hP hK
  obtain ⟨rfl, hZ, hh⟩ := hP
  have hx := Bd.exec
  have hby := Bd.bytes
  have hml : c.maxLocals = 7 := hml0
  have hown : s.vm.findClass "java/math/BigInteger" = some m.cls := findClass_of_methodNamed Bd.named
  have hnm := (name_of_methodNamed Bd.named Bd.method).1
  have X0 : Stand p l e ({ frames := 0, cells := 0, slots := 0, locals := 0 } : Room) s m #[(.ref a1), (.ref a2)] below meth c s₁ [] 0 0 := Stand.of_body Bd
  have e0 : s₁.heap = h0 := by rw [← hh, Bd.state]; rfl
  have N0 := Fr.nil n0
  have pre0 : ∀ t, Steps p.tables e below (s₁.setTop (mkF m 0 #[.val (.ref a1), .val (.ref a2), .unset, .unset, .unset, .unset, .unset] [])) t → Steps p.tables e below (s₁.setTop (entryFrame m #[(.ref a1), (.ref a2)] 7)) t := fun t k => castTop (ef_10 m a1 a2) k
  have ha2 : ¬ (a2 = a1) := hne
  obtain ⟨T101, X101, e101, st101⟩ := instY X0 hx hZ hown (hw _ (List.mem_of_getElem? (i := 99) rfl)) e0 (Ins.self E2) (g := (mkF m 8 #[.val (.ref a1), .val (.ref a2), .unset, .unset, .unset, .unset, .unset] [(.ref a2)])) rfl rfl (hb hby d10_8)
  have hc11 : ¬ ((1 : Int32) = (0 : Int32)) := by decide
  obtain ⟨T102, X102, e102, st102⟩ := castY X101 hx hZ hown (hw _ (List.mem_of_getElem? (i := 99) rfl)) e101 (Ins.self E2) (g := (mkF m 15 #[.val (.ref a1), .val (.ref a2), .unset, .unset, .unset, .unset, .unset] [(.ref a2)])) rfl rfl (hb hby d10_15)
  obtain ⟨T103, X103, e103, st103⟩ := getF X102 hx hZ hown (host := "") (Or.inl (hw _ (List.mem_of_getElem? (i := 47) rfl))) Via.refl e102 S2 (g := (mkF m 25 #[.val (.ref a1), .val (.ref a2), .val (.ref a2), .unset, .unset, .unset, .unset] [(.ref a2)])) rfl rfl (hb hby d10_25)
  obtain ⟨T104, X104, e104, st104⟩ := getF X103 hx hZ hown (host := "") (Or.inl (hw _ (List.mem_of_getElem? (i := 47) rfl))) Via.refl e103 S1 (g := (mkF m 29 #[.val (.ref a1), .val (.ref a2), .val (.ref a2), .unset, .unset, .unset, .unset] [(.ref a1), (.int sg)])) rfl rfl (hb hby d10_29)
  obtain ⟨T105, X105, e105, st105⟩ := getF X104 hx hZ hown (host := "") (Or.inl (hw _ (List.mem_of_getElem? (i := 92) rfl))) Via.refl e104 M1 (g := (mkF m 38 #[.val (.ref a1), .val (.ref a2), .val (.ref a2), .unset, .unset, .unset, .unset] [(.ref a1)])) rfl rfl (hb hby d10_38)
  obtain ⟨cl106, Ar106, q106, S106, M106, H106, G106⟩ := id V1
  obtain ⟨T107, X107, e107, st107⟩ := getF X105 hx hZ hown (host := "") (Or.inl (hw _ (List.mem_of_getElem? (i := 92) rfl))) Via.refl e105 M2 (g := (mkF m 47 #[.val (.ref a1), .val (.ref a2), .val (.ref a2), .val (.ref t1), .val (.int (0 : Int32)), .unset, .unset] [(.ref a2)])) rfl rfl (hb hby d10_47)
  obtain ⟨cl108, Ar108, q108, S108, M108, H108, G108⟩ := id V2
  have hc69 : ¬ ((0 : Int32) < (0 : Int32)) := by decide
  obtain ⟨fs, hr, hrun, hended, hW, hsame⟩ := X107.leave (v := some (.int (1 : Int32))) (fun h => by rw [Bd.returns] at h; cases h)
  refine ⟨_, _, pre0 _ ?_, hrun, hended, _, _, rfl, ?_, ⟨_, rfl⟩, hW, hsame.mono (by decide) (by decide)⟩
  · show Steps p.tables e below (s₁.setTop (mkF m 0 #[.val (.ref a1), .val (.ref a2), .unset, .unset, .unset, .unset, .unset] [])) _
    refine XS.aloadN X0.here hx rfl (hb hby d10_0) rfl rfl ?_
    show Steps p.tables e below (s₁.setTop (mkF m 1 #[.val (.ref a1), .val (.ref a2), .unset, .unset, .unset, .unset, .unset] [(.ref a2)])) _
    refine XS.aloadN X0.here hx rfl (hb hby d10_1) rfl rfl ?_
    show Steps p.tables e below (s₁.setTop (mkF m 2 #[.val (.ref a1), .val (.ref a2), .unset, .unset, .unset, .unset, .unset] [(.ref a1), (.ref a2)])) _
    refine Jvm.RoadKit.acmp (g := (mkF m 2 #[.val (.ref a1), .val (.ref a2), .unset, .unset, .unset, .unset, .unset] [(.ref a1), (.ref a2)])) X0 hx rfl rfl rfl (pc0 := 2) (pc' := 7) (same := false) rfl (hb hby d10_2) rfl (decide_eq_false fun q => ha2 (Value.ref.inj q)) (by decide) (by decide) ?_
    show Steps p.tables e below (s₁.setTop (mkF m 7 #[.val (.ref a1), .val (.ref a2), .unset, .unset, .unset, .unset, .unset] [])) _
    refine XS.aloadN X0.here hx rfl (hb hby d10_7) rfl rfl ?_
    show Steps p.tables e below (s₁.setTop (mkF m 8 #[.val (.ref a1), .val (.ref a2), .unset, .unset, .unset, .unset, .unset] [(.ref a2)])) _
    refine st101 _ ?_
    show Steps p.tables e below (T101.setTop (mkF m 11 #[.val (.ref a1), .val (.ref a2), .unset, .unset, .unset, .unset, .unset] [(.int (1 : Int32))])) _
    refine XS.ifNo X101.here hx rfl (hb hby d10_11) rfl ((if0 _ _).trans (feq hc11).1) ?_
    show Steps p.tables e below (T101.setTop (mkF m 14 #[.val (.ref a1), .val (.ref a2), .unset, .unset, .unset, .unset, .unset] [])) _
    refine XS.aloadN X101.here hx rfl (hb hby d10_14) rfl rfl ?_
    show Steps p.tables e below (T101.setTop (mkF m 15 #[.val (.ref a1), .val (.ref a2), .unset, .unset, .unset, .unset, .unset] [(.ref a2)])) _
    refine st102 _ ?_
    show Steps p.tables e below (T102.setTop (mkF m 18 #[.val (.ref a1), .val (.ref a2), .unset, .unset, .unset, .unset, .unset] [(.ref a2)])) _
    refine XS.astoreN X102.here hx rfl (hb hby d10_18) rfl rfl (l' := #[.val (.ref a1), .val (.ref a2), .val (.ref a2), .unset, .unset, .unset, .unset]) rfl ?_
    show Steps p.tables e below (T102.setTop (mkF m 19 #[.val (.ref a1), .val (.ref a2), .val (.ref a2), .unset, .unset, .unset, .unset] [])) _
    refine XS.goto X102.here hx rfl (pc0 := 19) (pc' := 24) rfl (hb hby d10_19) (by decide) (by decide) ?_
    show Steps p.tables e below (T102.setTop (mkF m 24 #[.val (.ref a1), .val (.ref a2), .val (.ref a2), .unset, .unset, .unset, .unset] [])) _
    refine XS.aloadN X102.here hx rfl (hb hby d10_24) rfl rfl ?_
    show Steps p.tables e below (T102.setTop (mkF m 25 #[.val (.ref a1), .val (.ref a2), .val (.ref a2), .unset, .unset, .unset, .unset] [(.ref a2)])) _
    refine st103 _ ?_
    show Steps p.tables e below (T103.setTop (mkF m 28 #[.val (.ref a1), .val (.ref a2), .val (.ref a2), .unset, .unset, .unset, .unset] [(.int sg)])) _
    refine XS.aloadN X103.here hx rfl (hb hby d10_28) rfl rfl ?_
    show Steps p.tables e below (T103.setTop (mkF m 29 #[.val (.ref a1), .val (.ref a2), .val (.ref a2), .unset, .unset, .unset, .unset] [(.ref a1), (.int sg)])) _
    refine st104 _ ?_
    show Steps p.tables e below (T104.setTop (mkF m 32 #[.val (.ref a1), .val (.ref a2), .val (.ref a2), .unset, .unset, .unset, .unset] [(.int sg), (.int sg)])) _
    refine XS.icmpYes X104.here hx rfl (pc0 := 32) (pc' := 37) rfl (hb hby d10_32) rfl (teq (rfl : sg = sg)).1 (by decide) (by decide) ?_
    show Steps p.tables e below (T104.setTop (mkF m 37 #[.val (.ref a1), .val (.ref a2), .val (.ref a2), .unset, .unset, .unset, .unset] [])) _
    refine XS.aloadN X104.here hx rfl (hb hby d10_37) rfl rfl ?_
    show Steps p.tables e below (T104.setTop (mkF m 38 #[.val (.ref a1), .val (.ref a2), .val (.ref a2), .unset, .unset, .unset, .unset] [(.ref a1)])) _
    refine st105 _ ?_
    show Steps p.tables e below (T105.setTop (mkF m 41 #[.val (.ref a1), .val (.ref a2), .val (.ref a2), .unset, .unset, .unset, .unset] [(.ref t1)])) _
    refine XS.astoreN X105.here hx rfl (hb hby d10_41) rfl rfl (l' := #[.val (.ref a1), .val (.ref a2), .val (.ref a2), .val (.ref t1), .unset, .unset, .unset]) rfl ?_
    show Steps p.tables e below (T105.setTop (mkF m 42 #[.val (.ref a1), .val (.ref a2), .val (.ref a2), .val (.ref t1), .unset, .unset, .unset] [])) _
    refine XS.aloadN X105.here hx rfl (hb hby d10_42) rfl rfl ?_
    show Steps p.tables e below (T105.setTop (mkF m 43 #[.val (.ref a1), .val (.ref a2), .val (.ref a2), .val (.ref t1), .unset, .unset, .unset] [(.ref t1)])) _
    refine X105.arraylength hx (by rw [e105]; exact Ar106.1) (State.isArrayOf_alike hZ.alike Ar106.2.1) (g := (mkF m 43 #[.val (.ref a1), .val (.ref a2), .val (.ref a2), .val (.ref t1), .unset, .unset, .unset] [(.ref t1)])) rfl rfl (hb hby d10_43) _ ?_
    rw [len_of S106 M106]
    show Steps p.tables e below (T105.setTop (mkF m 44 #[.val (.ref a1), .val (.ref a2), .val (.ref a2), .val (.ref t1), .unset, .unset, .unset] [(.int (0 : Int32))])) _
    refine XS.istore X105.here hx rfl (hb hby d10_44) rfl (l' := #[.val (.ref a1), .val (.ref a2), .val (.ref a2), .val (.ref t1), .val (.int (0 : Int32)), .unset, .unset]) rfl ?_
    show Steps p.tables e below (T105.setTop (mkF m 46 #[.val (.ref a1), .val (.ref a2), .val (.ref a2), .val (.ref t1), .val (.int (0 : Int32)), .unset, .unset] [])) _
    refine XS.aloadN X105.here hx rfl (hb hby d10_46) rfl rfl ?_
    show Steps p.tables e below (T105.setTop (mkF m 47 #[.val (.ref a1), .val (.ref a2), .val (.ref a2), .val (.ref t1), .val (.int (0 : Int32)), .unset, .unset] [(.ref a2)])) _
    refine st107 _ ?_
    show Steps p.tables e below (T107.setTop (mkF m 50 #[.val (.ref a1), .val (.ref a2), .val (.ref a2), .val (.ref t1), .val (.int (0 : Int32)), .unset, .unset] [(.ref t2)])) _
    refine XS.astore X107.here hx rfl (hb hby d10_50) rfl rfl (l' := #[.val (.ref a1), .val (.ref a2), .val (.ref a2), .val (.ref t1), .val (.int (0 : Int32)), .val (.ref t2), .unset]) rfl ?_
    show Steps p.tables e below (T107.setTop (mkF m 52 #[.val (.ref a1), .val (.ref a2), .val (.ref a2), .val (.ref t1), .val (.int (0 : Int32)), .val (.ref t2), .unset] [])) _
    refine XS.iload X107.here hx rfl (hb hby d10_52) rfl ?_
    show Steps p.tables e below (T107.setTop (mkF m 54 #[.val (.ref a1), .val (.ref a2), .val (.ref a2), .val (.ref t1), .val (.int (0 : Int32)), .val (.ref t2), .unset] [(.int (0 : Int32))])) _
    refine XS.aload X107.here hx rfl (hb hby d10_54) rfl rfl ?_
    show Steps p.tables e below (T107.setTop (mkF m 56 #[.val (.ref a1), .val (.ref a2), .val (.ref a2), .val (.ref t1), .val (.int (0 : Int32)), .val (.ref t2), .unset] [(.ref t2), (.int (0 : Int32))])) _
    refine X107.arraylength hx (by rw [e107]; exact Ar108.1) (State.isArrayOf_alike hZ.alike Ar108.2.1) (g := (mkF m 56 #[.val (.ref a1), .val (.ref a2), .val (.ref a2), .val (.ref t1), .val (.int (0 : Int32)), .val (.ref t2), .unset] [(.ref t2), (.int (0 : Int32))])) rfl rfl (hb hby d10_56) _ ?_
    rw [len_of S108 M108]
    show Steps p.tables e below (T107.setTop (mkF m 57 #[.val (.ref a1), .val (.ref a2), .val (.ref a2), .val (.ref t1), .val (.int (0 : Int32)), .val (.ref t2), .unset] [(.int (0 : Int32)), (.int (0 : Int32))])) _
    refine XS.icmpYes X107.here hx rfl (pc0 := 57) (pc' := 62) rfl (hb hby d10_57) rfl (teq (rfl : (0 : Int32) = (0 : Int32))).1 (by decide) (by decide) ?_
    show Steps p.tables e below (T107.setTop (mkF m 62 #[.val (.ref a1), .val (.ref a2), .val (.ref a2), .val (.ref t1), .val (.int (0 : Int32)), .val (.ref t2), .unset] [])) _
    refine XS.iconst X107.here hx rfl (hb hby d10_62) ?_
    show Steps p.tables e below (T107.setTop (mkF m 63 #[.val (.ref a1), .val (.ref a2), .val (.ref a2), .val (.ref t1), .val (.int (0 : Int32)), .val (.ref t2), .unset] [(.int (0 : Int32))])) _
    refine XS.istore X107.here hx rfl (hb hby d10_63) rfl (l' := #[.val (.ref a1), .val (.ref a2), .val (.ref a2), .val (.ref t1), .val (.int (0 : Int32)), .val (.ref t2), .val (.int (0 : Int32))]) rfl ?_
    show Steps p.tables e below (T107.setTop (mkF m 65 #[.val (.ref a1), .val (.ref a2), .val (.ref a2), .val (.ref t1), .val (.int (0 : Int32)), .val (.ref t2), .val (.int (0 : Int32))] [])) _
    refine XS.iload X107.here hx rfl (hb hby d10_65) rfl ?_
    show Steps p.tables e below (T107.setTop (mkF m 67 #[.val (.ref a1), .val (.ref a2), .val (.ref a2), .val (.ref t1), .val (.int (0 : Int32)), .val (.ref t2), .val (.int (0 : Int32))] [(.int (0 : Int32))])) _
    refine XS.iload X107.here hx rfl (hb hby d10_67) rfl ?_
    show Steps p.tables e below (T107.setTop (mkF m 69 #[.val (.ref a1), .val (.ref a2), .val (.ref a2), .val (.ref t1), .val (.int (0 : Int32)), .val (.ref t2), .val (.int (0 : Int32))] [(.int (0 : Int32)), (.int (0 : Int32))])) _
    refine XS.icmpYes X107.here hx rfl (pc0 := 69) (pc' := 92) rfl (hb hby d10_69) rfl (flt hc69).2.1 (by decide) (by decide) ?_
    show Steps p.tables e below (T107.setTop (mkF m 92 #[.val (.ref a1), .val (.ref a2), .val (.ref a2), .val (.ref t1), .val (.int (0 : Int32)), .val (.ref t2), .val (.int (0 : Int32))] [])) _
    refine XS.iconst X107.here hx rfl (hb hby d10_92) ?_
    show Steps p.tables e below (T107.setTop (mkF m 93 #[.val (.ref a1), .val (.ref a2), .val (.ref a2), .val (.ref t1), .val (.int (0 : Int32)), .val (.ref t2), .val (.int (0 : Int32))] [(.int (1 : Int32))])) _
    exact retN X107 hx (t := .boolean) Bd.returns (by simp) (hb hby d10_93) hr
  · show Qs (some (.int (1 : Int32))) h0 n0 _ T107.heap _
    rw [e107]
    exact ⟨rfl, N0, rfl⟩
set_option maxRecDepth 65536 in
set_option maxHeartbeats 40000000 in
theorem rmEq_1 (l : Launch) (Z : State) (a0 : Array Value) (hw : ∀ d ∈ tables_1, d.before a0 Z = true) (ws : List Jvm.Cond) (a1 : Addr) (a2 : Addr) (sg : Int32) (t1 : Addr) (t2 : Addr) (k1 : ClassId) (k2 : ClassId) (x0 : Int32) (h0 : Heap) (n0 : Nat) (X00 : Old Z n0 h0) (E1 : Exa Z h0 a1 BI) (E2 : Exa Z h0 a2 BI) (S1 : Fld Z h0 a1 BI "signum" "I" (.int sg)) (S2 : Fld Z h0 a2 BI "signum" "I" (.int sg)) (M1 : Fld Z h0 a1 BI "mag" "[I" (.ref t1)) (M2 : Fld Z h0 a2 BI "mag" "[I" (.ref t2)) (V1 : Arv Z h0 t1 k1 .int (1 : Int32) [(.int x0)] (.int (0 : Int32))) (V2 : Arv Z h0 t2 k2 .int (1 : Int32) [(.int x0)] (.int (0 : Int32))) (hne : ¬ (a2 = a1)) :
    MetFree l (⟨"java/math/BigInteger", "equals", "(Ljava/lang/Object;)Z"⟩ : MethodName) (head1 (Jvm.Cond.code (⟨"java/math/BigInteger", "equals", "(Ljava/lang/Object;)Z"⟩ : MethodName) jdk_2097_method_124_code 7 (some .boolean) :: ws) ({ frames := 0, cells := 0, slots := 0, locals := 0 } : Room)) (fun a U => a = #[(.ref a1), (.ref a2)] ∧ Z.Warmed39 U.vm ∧ U.heap = h0) (fun _ _ _ _ _ => True) (fun _ U o U' => ∃ rv rL, o = .returned rv ∧ Qs (some (.int (1 : Int32))) h0 n0 rv U'.heap rL ∧ FrameEnd U o U' rL ({ frames := 0, cells := 0, slots := 0, locals := 0 } : Room).cells ({ frames := 0, cells := 0, slots := 0, locals := 0 } : Room).slots) := by
  refine MetFree.of_bodySF (plainFor_of_name pn_10) hisR ?_
  intro p e s m args below meth c s₁ Bd hml0 hP hK
  obtain ⟨rfl, hZ, hh⟩ := hP
  have hx := Bd.exec
  have hby := Bd.bytes
  have hml : c.maxLocals = 7 := hml0
  have hown : s.vm.findClass "java/math/BigInteger" = some m.cls := findClass_of_methodNamed Bd.named
  have hnm := (name_of_methodNamed Bd.named Bd.method).1
  have X0 : Stand p l e ({ frames := 0, cells := 0, slots := 0, locals := 0 } : Room) s m #[(.ref a1), (.ref a2)] below meth c s₁ [] 0 0 := Stand.of_body Bd
  have e0 : s₁.heap = h0 := by rw [← hh, Bd.state]; rfl
  have N0 := Fr.nil n0
  have pre0 : ∀ t, Steps p.tables e below (s₁.setTop (mkF m 0 #[.val (.ref a1), .val (.ref a2), .unset, .unset, .unset, .unset, .unset] [])) t → Steps p.tables e below (s₁.setTop (entryFrame m #[(.ref a1), (.ref a2)] 7)) t := fun t k => castTop (ef_10 m a1 a2) k
  have ha2 : ¬ (a2 = a1) := hne
  obtain ⟨T101, X101, e101, st101⟩ := instY X0 hx hZ hown (hw _ (List.mem_of_getElem? (i := 99) rfl)) e0 (Ins.self E2) (g := (mkF m 8 #[.val (.ref a1), .val (.ref a2), .unset, .unset, .unset, .unset, .unset] [(.ref a2)])) rfl rfl (hb hby d10_8)
  have hc11 : ¬ ((1 : Int32) = (0 : Int32)) := by decide
  obtain ⟨T102, X102, e102, st102⟩ := castY X101 hx hZ hown (hw _ (List.mem_of_getElem? (i := 99) rfl)) e101 (Ins.self E2) (g := (mkF m 15 #[.val (.ref a1), .val (.ref a2), .unset, .unset, .unset, .unset, .unset] [(.ref a2)])) rfl rfl (hb hby d10_15)
  obtain ⟨T103, X103, e103, st103⟩ := getF X102 hx hZ hown (host := "") (Or.inl (hw _ (List.mem_of_getElem? (i := 47) rfl))) Via.refl e102 S2 (g := (mkF m 25 #[.val (.ref a1), .val (.ref a2), .val (.ref a2), .unset, .unset, .unset, .unset] [(.ref a2)])) rfl rfl (hb hby d10_25)
  obtain ⟨T104, X104, e104, st104⟩ := getF X103 hx hZ hown (host := "") (Or.inl (hw _ (List.mem_of_getElem? (i := 47) rfl))) Via.refl e103 S1 (g := (mkF m 29 #[.val (.ref a1), .val (.ref a2), .val (.ref a2), .unset, .unset, .unset, .unset] [(.ref a1), (.int sg)])) rfl rfl (hb hby d10_29)
  obtain ⟨T105, X105, e105, st105⟩ := getF X104 hx hZ hown (host := "") (Or.inl (hw _ (List.mem_of_getElem? (i := 92) rfl))) Via.refl e104 M1 (g := (mkF m 38 #[.val (.ref a1), .val (.ref a2), .val (.ref a2), .unset, .unset, .unset, .unset] [(.ref a1)])) rfl rfl (hb hby d10_38)
  obtain ⟨cl106, Ar106, q106, S106, M106, H106, G106⟩ := id V1
  obtain ⟨T107, X107, e107, st107⟩ := getF X105 hx hZ hown (host := "") (Or.inl (hw _ (List.mem_of_getElem? (i := 92) rfl))) Via.refl e105 M2 (g := (mkF m 47 #[.val (.ref a1), .val (.ref a2), .val (.ref a2), .val (.ref t1), .val (.int (1 : Int32)), .unset, .unset] [(.ref a2)])) rfl rfl (hb hby d10_47)
  obtain ⟨cl108, Ar108, q108, S108, M108, H108, G108⟩ := id V2
  have hc69 : (0 : Int32) < (1 : Int32) := by decide
  have hat109 : cl108.slots[((0 : Int32)).toNatClampNeg]? = some (.int x0) := by rw [show ((0 : Int32)).toNatClampNeg = 0 from by decide]; exact H108 0 (by rw [S108]; decide)
  have hat110 : cl106.slots[((0 : Int32)).toNatClampNeg]? = some (.int x0) := by rw [show ((0 : Int32)).toNatClampNeg = 0 from by decide]; exact H106 0 (by rw [S106]; decide)
  have hc69_1 : ¬ (((0 : Int32) + (1 : Int32)) < (1 : Int32)) := by decide
  obtain ⟨fs, hr, hrun, hended, hW, hsame⟩ := X107.leave (v := some (.int (1 : Int32))) (fun h => by rw [Bd.returns] at h; cases h)
  refine ⟨_, _, pre0 _ ?_, hrun, hended, _, _, rfl, ?_, ⟨_, rfl⟩, hW, hsame.mono (by decide) (by decide)⟩
  · show Steps p.tables e below (s₁.setTop (mkF m 0 #[.val (.ref a1), .val (.ref a2), .unset, .unset, .unset, .unset, .unset] [])) _
    refine XS.aloadN X0.here hx rfl (hb hby d10_0) rfl rfl ?_
    show Steps p.tables e below (s₁.setTop (mkF m 1 #[.val (.ref a1), .val (.ref a2), .unset, .unset, .unset, .unset, .unset] [(.ref a2)])) _
    refine XS.aloadN X0.here hx rfl (hb hby d10_1) rfl rfl ?_
    show Steps p.tables e below (s₁.setTop (mkF m 2 #[.val (.ref a1), .val (.ref a2), .unset, .unset, .unset, .unset, .unset] [(.ref a1), (.ref a2)])) _
    refine Jvm.RoadKit.acmp (g := (mkF m 2 #[.val (.ref a1), .val (.ref a2), .unset, .unset, .unset, .unset, .unset] [(.ref a1), (.ref a2)])) X0 hx rfl rfl rfl (pc0 := 2) (pc' := 7) (same := false) rfl (hb hby d10_2) rfl (decide_eq_false fun q => ha2 (Value.ref.inj q)) (by decide) (by decide) ?_
    show Steps p.tables e below (s₁.setTop (mkF m 7 #[.val (.ref a1), .val (.ref a2), .unset, .unset, .unset, .unset, .unset] [])) _
    refine XS.aloadN X0.here hx rfl (hb hby d10_7) rfl rfl ?_
    show Steps p.tables e below (s₁.setTop (mkF m 8 #[.val (.ref a1), .val (.ref a2), .unset, .unset, .unset, .unset, .unset] [(.ref a2)])) _
    refine st101 _ ?_
    show Steps p.tables e below (T101.setTop (mkF m 11 #[.val (.ref a1), .val (.ref a2), .unset, .unset, .unset, .unset, .unset] [(.int (1 : Int32))])) _
    refine XS.ifNo X101.here hx rfl (hb hby d10_11) rfl ((if0 _ _).trans (feq hc11).1) ?_
    show Steps p.tables e below (T101.setTop (mkF m 14 #[.val (.ref a1), .val (.ref a2), .unset, .unset, .unset, .unset, .unset] [])) _
    refine XS.aloadN X101.here hx rfl (hb hby d10_14) rfl rfl ?_
    show Steps p.tables e below (T101.setTop (mkF m 15 #[.val (.ref a1), .val (.ref a2), .unset, .unset, .unset, .unset, .unset] [(.ref a2)])) _
    refine st102 _ ?_
    show Steps p.tables e below (T102.setTop (mkF m 18 #[.val (.ref a1), .val (.ref a2), .unset, .unset, .unset, .unset, .unset] [(.ref a2)])) _
    refine XS.astoreN X102.here hx rfl (hb hby d10_18) rfl rfl (l' := #[.val (.ref a1), .val (.ref a2), .val (.ref a2), .unset, .unset, .unset, .unset]) rfl ?_
    show Steps p.tables e below (T102.setTop (mkF m 19 #[.val (.ref a1), .val (.ref a2), .val (.ref a2), .unset, .unset, .unset, .unset] [])) _
    refine XS.goto X102.here hx rfl (pc0 := 19) (pc' := 24) rfl (hb hby d10_19) (by decide) (by decide) ?_
    show Steps p.tables e below (T102.setTop (mkF m 24 #[.val (.ref a1), .val (.ref a2), .val (.ref a2), .unset, .unset, .unset, .unset] [])) _
    refine XS.aloadN X102.here hx rfl (hb hby d10_24) rfl rfl ?_
    show Steps p.tables e below (T102.setTop (mkF m 25 #[.val (.ref a1), .val (.ref a2), .val (.ref a2), .unset, .unset, .unset, .unset] [(.ref a2)])) _
    refine st103 _ ?_
    show Steps p.tables e below (T103.setTop (mkF m 28 #[.val (.ref a1), .val (.ref a2), .val (.ref a2), .unset, .unset, .unset, .unset] [(.int sg)])) _
    refine XS.aloadN X103.here hx rfl (hb hby d10_28) rfl rfl ?_
    show Steps p.tables e below (T103.setTop (mkF m 29 #[.val (.ref a1), .val (.ref a2), .val (.ref a2), .unset, .unset, .unset, .unset] [(.ref a1), (.int sg)])) _
    refine st104 _ ?_
    show Steps p.tables e below (T104.setTop (mkF m 32 #[.val (.ref a1), .val (.ref a2), .val (.ref a2), .unset, .unset, .unset, .unset] [(.int sg), (.int sg)])) _
    refine XS.icmpYes X104.here hx rfl (pc0 := 32) (pc' := 37) rfl (hb hby d10_32) rfl (teq (rfl : sg = sg)).1 (by decide) (by decide) ?_
    show Steps p.tables e below (T104.setTop (mkF m 37 #[.val (.ref a1), .val (.ref a2), .val (.ref a2), .unset, .unset, .unset, .unset] [])) _
    refine XS.aloadN X104.here hx rfl (hb hby d10_37) rfl rfl ?_
    show Steps p.tables e below (T104.setTop (mkF m 38 #[.val (.ref a1), .val (.ref a2), .val (.ref a2), .unset, .unset, .unset, .unset] [(.ref a1)])) _
    refine st105 _ ?_
    show Steps p.tables e below (T105.setTop (mkF m 41 #[.val (.ref a1), .val (.ref a2), .val (.ref a2), .unset, .unset, .unset, .unset] [(.ref t1)])) _
    refine XS.astoreN X105.here hx rfl (hb hby d10_41) rfl rfl (l' := #[.val (.ref a1), .val (.ref a2), .val (.ref a2), .val (.ref t1), .unset, .unset, .unset]) rfl ?_
    show Steps p.tables e below (T105.setTop (mkF m 42 #[.val (.ref a1), .val (.ref a2), .val (.ref a2), .val (.ref t1), .unset, .unset, .unset] [])) _
    refine XS.aloadN X105.here hx rfl (hb hby d10_42) rfl rfl ?_
    show Steps p.tables e below (T105.setTop (mkF m 43 #[.val (.ref a1), .val (.ref a2), .val (.ref a2), .val (.ref t1), .unset, .unset, .unset] [(.ref t1)])) _
    refine X105.arraylength hx (by rw [e105]; exact Ar106.1) (State.isArrayOf_alike hZ.alike Ar106.2.1) (g := (mkF m 43 #[.val (.ref a1), .val (.ref a2), .val (.ref a2), .val (.ref t1), .unset, .unset, .unset] [(.ref t1)])) rfl rfl (hb hby d10_43) _ ?_
    rw [len_of S106 M106]
    show Steps p.tables e below (T105.setTop (mkF m 44 #[.val (.ref a1), .val (.ref a2), .val (.ref a2), .val (.ref t1), .unset, .unset, .unset] [(.int (1 : Int32))])) _
    refine XS.istore X105.here hx rfl (hb hby d10_44) rfl (l' := #[.val (.ref a1), .val (.ref a2), .val (.ref a2), .val (.ref t1), .val (.int (1 : Int32)), .unset, .unset]) rfl ?_
    show Steps p.tables e below (T105.setTop (mkF m 46 #[.val (.ref a1), .val (.ref a2), .val (.ref a2), .val (.ref t1), .val (.int (1 : Int32)), .unset, .unset] [])) _
    refine XS.aloadN X105.here hx rfl (hb hby d10_46) rfl rfl ?_
    show Steps p.tables e below (T105.setTop (mkF m 47 #[.val (.ref a1), .val (.ref a2), .val (.ref a2), .val (.ref t1), .val (.int (1 : Int32)), .unset, .unset] [(.ref a2)])) _
    refine st107 _ ?_
    show Steps p.tables e below (T107.setTop (mkF m 50 #[.val (.ref a1), .val (.ref a2), .val (.ref a2), .val (.ref t1), .val (.int (1 : Int32)), .unset, .unset] [(.ref t2)])) _
    refine XS.astore X107.here hx rfl (hb hby d10_50) rfl rfl (l' := #[.val (.ref a1), .val (.ref a2), .val (.ref a2), .val (.ref t1), .val (.int (1 : Int32)), .val (.ref t2), .unset]) rfl ?_
    show Steps p.tables e below (T107.setTop (mkF m 52 #[.val (.ref a1), .val (.ref a2), .val (.ref a2), .val (.ref t1), .val (.int (1 : Int32)), .val (.ref t2), .unset] [])) _
    refine XS.iload X107.here hx rfl (hb hby d10_52) rfl ?_
    show Steps p.tables e below (T107.setTop (mkF m 54 #[.val (.ref a1), .val (.ref a2), .val (.ref a2), .val (.ref t1), .val (.int (1 : Int32)), .val (.ref t2), .unset] [(.int (1 : Int32))])) _
    refine XS.aload X107.here hx rfl (hb hby d10_54) rfl rfl ?_
    show Steps p.tables e below (T107.setTop (mkF m 56 #[.val (.ref a1), .val (.ref a2), .val (.ref a2), .val (.ref t1), .val (.int (1 : Int32)), .val (.ref t2), .unset] [(.ref t2), (.int (1 : Int32))])) _
    refine X107.arraylength hx (by rw [e107]; exact Ar108.1) (State.isArrayOf_alike hZ.alike Ar108.2.1) (g := (mkF m 56 #[.val (.ref a1), .val (.ref a2), .val (.ref a2), .val (.ref t1), .val (.int (1 : Int32)), .val (.ref t2), .unset] [(.ref t2), (.int (1 : Int32))])) rfl rfl (hb hby d10_56) _ ?_
    rw [len_of S108 M108]
    show Steps p.tables e below (T107.setTop (mkF m 57 #[.val (.ref a1), .val (.ref a2), .val (.ref a2), .val (.ref t1), .val (.int (1 : Int32)), .val (.ref t2), .unset] [(.int (1 : Int32)), (.int (1 : Int32))])) _
    refine XS.icmpYes X107.here hx rfl (pc0 := 57) (pc' := 62) rfl (hb hby d10_57) rfl (teq (rfl : (1 : Int32) = (1 : Int32))).1 (by decide) (by decide) ?_
    show Steps p.tables e below (T107.setTop (mkF m 62 #[.val (.ref a1), .val (.ref a2), .val (.ref a2), .val (.ref t1), .val (.int (1 : Int32)), .val (.ref t2), .unset] [])) _
    refine XS.iconst X107.here hx rfl (hb hby d10_62) ?_
    show Steps p.tables e below (T107.setTop (mkF m 63 #[.val (.ref a1), .val (.ref a2), .val (.ref a2), .val (.ref t1), .val (.int (1 : Int32)), .val (.ref t2), .unset] [(.int (0 : Int32))])) _
    refine XS.istore X107.here hx rfl (hb hby d10_63) rfl (l' := #[.val (.ref a1), .val (.ref a2), .val (.ref a2), .val (.ref t1), .val (.int (1 : Int32)), .val (.ref t2), .val (.int (0 : Int32))]) rfl ?_
    show Steps p.tables e below (T107.setTop (mkF m 65 #[.val (.ref a1), .val (.ref a2), .val (.ref a2), .val (.ref t1), .val (.int (1 : Int32)), .val (.ref t2), .val (.int (0 : Int32))] [])) _
    refine XS.iload X107.here hx rfl (hb hby d10_65) rfl ?_
    show Steps p.tables e below (T107.setTop (mkF m 67 #[.val (.ref a1), .val (.ref a2), .val (.ref a2), .val (.ref t1), .val (.int (1 : Int32)), .val (.ref t2), .val (.int (0 : Int32))] [(.int (0 : Int32))])) _
    refine XS.iload X107.here hx rfl (hb hby d10_67) rfl ?_
    show Steps p.tables e below (T107.setTop (mkF m 69 #[.val (.ref a1), .val (.ref a2), .val (.ref a2), .val (.ref t1), .val (.int (1 : Int32)), .val (.ref t2), .val (.int (0 : Int32))] [(.int (1 : Int32)), (.int (0 : Int32))])) _
    refine XS.icmpNo X107.here hx rfl (hb hby d10_69) rfl (tlt hc69).2.1 ?_
    show Steps p.tables e below (T107.setTop (mkF m 72 #[.val (.ref a1), .val (.ref a2), .val (.ref a2), .val (.ref t1), .val (.int (1 : Int32)), .val (.ref t2), .val (.int (0 : Int32))] [])) _
    refine XS.aload X107.here hx rfl (hb hby d10_72) rfl rfl ?_
    show Steps p.tables e below (T107.setTop (mkF m 74 #[.val (.ref a1), .val (.ref a2), .val (.ref a2), .val (.ref t1), .val (.int (1 : Int32)), .val (.ref t2), .val (.int (0 : Int32))] [(.ref t2)])) _
    refine XS.iload X107.here hx rfl (hb hby d10_74) rfl ?_
    show Steps p.tables e below (T107.setTop (mkF m 76 #[.val (.ref a1), .val (.ref a2), .val (.ref a2), .val (.ref t1), .val (.int (1 : Int32)), .val (.ref t2), .val (.int (0 : Int32))] [(.int (0 : Int32)), (.ref t2)])) _
    refine X107.iaload hx (j := (0 : Int32)) (v := (.int x0)) (by rw [e107]; exact Ar108.1) (State.isArrayOf_alike hZ.alike Ar108.2.1) Ar108.2.2 (inb_of S108 ⟨by decide, by decide⟩) hat109 (g := (mkF m 76 #[.val (.ref a1), .val (.ref a2), .val (.ref a2), .val (.ref t1), .val (.int (1 : Int32)), .val (.ref t2), .val (.int (0 : Int32))] [(.int (0 : Int32)), (.ref t2)])) rfl rfl (hb hby d10_76) _ ?_
    show Steps p.tables e below (T107.setTop (mkF m 77 #[.val (.ref a1), .val (.ref a2), .val (.ref a2), .val (.ref t1), .val (.int (1 : Int32)), .val (.ref t2), .val (.int (0 : Int32))] [(.int x0)])) _
    refine XS.aloadN X107.here hx rfl (hb hby d10_77) rfl rfl ?_
    show Steps p.tables e below (T107.setTop (mkF m 78 #[.val (.ref a1), .val (.ref a2), .val (.ref a2), .val (.ref t1), .val (.int (1 : Int32)), .val (.ref t2), .val (.int (0 : Int32))] [(.ref t1), (.int x0)])) _
    refine XS.iload X107.here hx rfl (hb hby d10_78) rfl ?_
    show Steps p.tables e below (T107.setTop (mkF m 80 #[.val (.ref a1), .val (.ref a2), .val (.ref a2), .val (.ref t1), .val (.int (1 : Int32)), .val (.ref t2), .val (.int (0 : Int32))] [(.int (0 : Int32)), (.ref t1), (.int x0)])) _
    refine X107.iaload hx (j := (0 : Int32)) (v := (.int x0)) (by rw [e107]; exact Ar106.1) (State.isArrayOf_alike hZ.alike Ar106.2.1) Ar106.2.2 (inb_of S106 ⟨by decide, by decide⟩) hat110 (g := (mkF m 80 #[.val (.ref a1), .val (.ref a2), .val (.ref a2), .val (.ref t1), .val (.int (1 : Int32)), .val (.ref t2), .val (.int (0 : Int32))] [(.int (0 : Int32)), (.ref t1), (.int x0)])) rfl rfl (hb hby d10_80) _ ?_
    show Steps p.tables e below (T107.setTop (mkF m 81 #[.val (.ref a1), .val (.ref a2), .val (.ref a2), .val (.ref t1), .val (.int (1 : Int32)), .val (.ref t2), .val (.int (0 : Int32))] [(.int x0), (.int x0)])) _
    refine XS.icmpYes X107.here hx rfl (pc0 := 81) (pc' := 86) rfl (hb hby d10_81) rfl (teq (rfl : x0 = x0)).1 (by decide) (by decide) ?_
    show Steps p.tables e below (T107.setTop (mkF m 86 #[.val (.ref a1), .val (.ref a2), .val (.ref a2), .val (.ref t1), .val (.int (1 : Int32)), .val (.ref t2), .val (.int (0 : Int32))] [])) _
    refine XS.iinc X107.here hx rfl (hb hby d10_86) rfl (l' := #[.val (.ref a1), .val (.ref a2), .val (.ref a2), .val (.ref t1), .val (.int (1 : Int32)), .val (.ref t2), .val (.int ((0 : Int32) + (1 : Int32)))]) rfl ?_
    show Steps p.tables e below (T107.setTop (mkF m 89 #[.val (.ref a1), .val (.ref a2), .val (.ref a2), .val (.ref t1), .val (.int (1 : Int32)), .val (.ref t2), .val (.int ((0 : Int32) + (1 : Int32)))] [])) _
    refine XS.goto X107.here hx rfl (pc0 := 89) (pc' := 65) rfl (hb hby d10_89) (by decide) (by decide) ?_
    show Steps p.tables e below (T107.setTop (mkF m 65 #[.val (.ref a1), .val (.ref a2), .val (.ref a2), .val (.ref t1), .val (.int (1 : Int32)), .val (.ref t2), .val (.int ((0 : Int32) + (1 : Int32)))] [])) _
    refine XS.iload X107.here hx rfl (hb hby d10_65) rfl ?_
    show Steps p.tables e below (T107.setTop (mkF m 67 #[.val (.ref a1), .val (.ref a2), .val (.ref a2), .val (.ref t1), .val (.int (1 : Int32)), .val (.ref t2), .val (.int ((0 : Int32) + (1 : Int32)))] [(.int ((0 : Int32) + (1 : Int32)))])) _
    refine XS.iload X107.here hx rfl (hb hby d10_67) rfl ?_
    show Steps p.tables e below (T107.setTop (mkF m 69 #[.val (.ref a1), .val (.ref a2), .val (.ref a2), .val (.ref t1), .val (.int (1 : Int32)), .val (.ref t2), .val (.int ((0 : Int32) + (1 : Int32)))] [(.int (1 : Int32)), (.int ((0 : Int32) + (1 : Int32)))])) _
    refine XS.icmpYes X107.here hx rfl (pc0 := 69) (pc' := 92) rfl (hb hby d10_69) rfl (flt hc69_1).2.1 (by decide) (by decide) ?_
    show Steps p.tables e below (T107.setTop (mkF m 92 #[.val (.ref a1), .val (.ref a2), .val (.ref a2), .val (.ref t1), .val (.int (1 : Int32)), .val (.ref t2), .val (.int ((0 : Int32) + (1 : Int32)))] [])) _
    refine XS.iconst X107.here hx rfl (hb hby d10_92) ?_
    show Steps p.tables e below (T107.setTop (mkF m 93 #[.val (.ref a1), .val (.ref a2), .val (.ref a2), .val (.ref t1), .val (.int (1 : Int32)), .val (.ref t2), .val (.int ((0 : Int32) + (1 : Int32)))] [(.int (1 : Int32))])) _
    exact retN X107 hx (t := .boolean) Bd.returns (by simp) (hb hby d10_93) hr
  · show Qs (some (.int (1 : Int32))) h0 n0 _ T107.heap _
    rw [e107]
    exact ⟨rfl, N0, rfl⟩
set_option maxRecDepth 65536 in
set_option maxHeartbeats 40000000 in
theorem rmEq_2 (l : Launch) (Z : State) (a0 : Array Value) (hw : ∀ d ∈ tables_1, d.before a0 Z = true) (ws : List Jvm.Cond) (a1 : Addr) (a2 : Addr) (sg : Int32) (t1 : Addr) (t2 : Addr) (k1 : ClassId) (k2 : ClassId) (x0 : Int32) (x1 : Int32) (h0 : Heap) (n0 : Nat) (X00 : Old Z n0 h0) (E1 : Exa Z h0 a1 BI) (E2 : Exa Z h0 a2 BI) (S1 : Fld Z h0 a1 BI "signum" "I" (.int sg)) (S2 : Fld Z h0 a2 BI "signum" "I" (.int sg)) (M1 : Fld Z h0 a1 BI "mag" "[I" (.ref t1)) (M2 : Fld Z h0 a2 BI "mag" "[I" (.ref t2)) (V1 : Arv Z h0 t1 k1 .int (2 : Int32) [(.int x0), (.int x1)] (.int (0 : Int32))) (V2 : Arv Z h0 t2 k2 .int (2 : Int32) [(.int x0), (.int x1)] (.int (0 : Int32))) (hne : ¬ (a2 = a1)) :
    MetFree l (⟨"java/math/BigInteger", "equals", "(Ljava/lang/Object;)Z"⟩ : MethodName) (head1 (Jvm.Cond.code (⟨"java/math/BigInteger", "equals", "(Ljava/lang/Object;)Z"⟩ : MethodName) jdk_2097_method_124_code 7 (some .boolean) :: ws) ({ frames := 0, cells := 0, slots := 0, locals := 0 } : Room)) (fun a U => a = #[(.ref a1), (.ref a2)] ∧ Z.Warmed39 U.vm ∧ U.heap = h0) (fun _ _ _ _ _ => True) (fun _ U o U' => ∃ rv rL, o = .returned rv ∧ Qs (some (.int (1 : Int32))) h0 n0 rv U'.heap rL ∧ FrameEnd U o U' rL ({ frames := 0, cells := 0, slots := 0, locals := 0 } : Room).cells ({ frames := 0, cells := 0, slots := 0, locals := 0 } : Room).slots) := by
  refine MetFree.of_bodySF (plainFor_of_name pn_10) hisR ?_
  intro p e s m args below meth c s₁ Bd hml0 hP hK
  obtain ⟨rfl, hZ, hh⟩ := hP
  have hx := Bd.exec
  have hby := Bd.bytes
  have hml : c.maxLocals = 7 := hml0
  have hown : s.vm.findClass "java/math/BigInteger" = some m.cls := findClass_of_methodNamed Bd.named
  have hnm := (name_of_methodNamed Bd.named Bd.method).1
  have X0 : Stand p l e ({ frames := 0, cells := 0, slots := 0, locals := 0 } : Room) s m #[(.ref a1), (.ref a2)] below meth c s₁ [] 0 0 := Stand.of_body Bd
  have e0 : s₁.heap = h0 := by rw [← hh, Bd.state]; rfl
  have N0 := Fr.nil n0
  have pre0 : ∀ t, Steps p.tables e below (s₁.setTop (mkF m 0 #[.val (.ref a1), .val (.ref a2), .unset, .unset, .unset, .unset, .unset] [])) t → Steps p.tables e below (s₁.setTop (entryFrame m #[(.ref a1), (.ref a2)] 7)) t := fun t k => castTop (ef_10 m a1 a2) k
  have ha2 : ¬ (a2 = a1) := hne
  obtain ⟨T101, X101, e101, st101⟩ := instY X0 hx hZ hown (hw _ (List.mem_of_getElem? (i := 99) rfl)) e0 (Ins.self E2) (g := (mkF m 8 #[.val (.ref a1), .val (.ref a2), .unset, .unset, .unset, .unset, .unset] [(.ref a2)])) rfl rfl (hb hby d10_8)
  have hc11 : ¬ ((1 : Int32) = (0 : Int32)) := by decide
  obtain ⟨T102, X102, e102, st102⟩ := castY X101 hx hZ hown (hw _ (List.mem_of_getElem? (i := 99) rfl)) e101 (Ins.self E2) (g := (mkF m 15 #[.val (.ref a1), .val (.ref a2), .unset, .unset, .unset, .unset, .unset] [(.ref a2)])) rfl rfl (hb hby d10_15)
  obtain ⟨T103, X103, e103, st103⟩ := getF X102 hx hZ hown (host := "") (Or.inl (hw _ (List.mem_of_getElem? (i := 47) rfl))) Via.refl e102 S2 (g := (mkF m 25 #[.val (.ref a1), .val (.ref a2), .val (.ref a2), .unset, .unset, .unset, .unset] [(.ref a2)])) rfl rfl (hb hby d10_25)
  obtain ⟨T104, X104, e104, st104⟩ := getF X103 hx hZ hown (host := "") (Or.inl (hw _ (List.mem_of_getElem? (i := 47) rfl))) Via.refl e103 S1 (g := (mkF m 29 #[.val (.ref a1), .val (.ref a2), .val (.ref a2), .unset, .unset, .unset, .unset] [(.ref a1), (.int sg)])) rfl rfl (hb hby d10_29)
  obtain ⟨T105, X105, e105, st105⟩ := getF X104 hx hZ hown (host := "") (Or.inl (hw _ (List.mem_of_getElem? (i := 92) rfl))) Via.refl e104 M1 (g := (mkF m 38 #[.val (.ref a1), .val (.ref a2), .val (.ref a2), .unset, .unset, .unset, .unset] [(.ref a1)])) rfl rfl (hb hby d10_38)
  obtain ⟨cl106, Ar106, q106, S106, M106, H106, G106⟩ := id V1
  obtain ⟨T107, X107, e107, st107⟩ := getF X105 hx hZ hown (host := "") (Or.inl (hw _ (List.mem_of_getElem? (i := 92) rfl))) Via.refl e105 M2 (g := (mkF m 47 #[.val (.ref a1), .val (.ref a2), .val (.ref a2), .val (.ref t1), .val (.int (2 : Int32)), .unset, .unset] [(.ref a2)])) rfl rfl (hb hby d10_47)
  obtain ⟨cl108, Ar108, q108, S108, M108, H108, G108⟩ := id V2
  have hc69 : (0 : Int32) < (2 : Int32) := by decide
  have hat109 : cl108.slots[((0 : Int32)).toNatClampNeg]? = some (.int x0) := by rw [show ((0 : Int32)).toNatClampNeg = 0 from by decide]; exact H108 0 (by rw [S108]; decide)
  have hat110 : cl106.slots[((0 : Int32)).toNatClampNeg]? = some (.int x0) := by rw [show ((0 : Int32)).toNatClampNeg = 0 from by decide]; exact H106 0 (by rw [S106]; decide)
  have hc69_1 : ((0 : Int32) + (1 : Int32)) < (2 : Int32) := by decide
  have hat111 : cl108.slots[(((0 : Int32) + (1 : Int32))).toNatClampNeg]? = some (.int x1) := by rw [show (((0 : Int32) + (1 : Int32))).toNatClampNeg = 1 from by decide]; exact H108 1 (by rw [S108]; decide)
  have hat112 : cl106.slots[(((0 : Int32) + (1 : Int32))).toNatClampNeg]? = some (.int x1) := by rw [show (((0 : Int32) + (1 : Int32))).toNatClampNeg = 1 from by decide]; exact H106 1 (by rw [S106]; decide)
  have hc69_2 : ¬ ((((0 : Int32) + (1 : Int32)) + (1 : Int32)) < (2 : Int32)) := by decide
  obtain ⟨fs, hr, hrun, hended, hW, hsame⟩ := X107.leave (v := some (.int (1 : Int32))) (fun h => by rw [Bd.returns] at h; cases h)
  refine ⟨_, _, pre0 _ ?_, hrun, hended, _, _, rfl, ?_, ⟨_, rfl⟩, hW, hsame.mono (by decide) (by decide)⟩
  · show Steps p.tables e below (s₁.setTop (mkF m 0 #[.val (.ref a1), .val (.ref a2), .unset, .unset, .unset, .unset, .unset] [])) _
    refine XS.aloadN X0.here hx rfl (hb hby d10_0) rfl rfl ?_
    show Steps p.tables e below (s₁.setTop (mkF m 1 #[.val (.ref a1), .val (.ref a2), .unset, .unset, .unset, .unset, .unset] [(.ref a2)])) _
    refine XS.aloadN X0.here hx rfl (hb hby d10_1) rfl rfl ?_
    show Steps p.tables e below (s₁.setTop (mkF m 2 #[.val (.ref a1), .val (.ref a2), .unset, .unset, .unset, .unset, .unset] [(.ref a1), (.ref a2)])) _
    refine Jvm.RoadKit.acmp (g := (mkF m 2 #[.val (.ref a1), .val (.ref a2), .unset, .unset, .unset, .unset, .unset] [(.ref a1), (.ref a2)])) X0 hx rfl rfl rfl (pc0 := 2) (pc' := 7) (same := false) rfl (hb hby d10_2) rfl (decide_eq_false fun q => ha2 (Value.ref.inj q)) (by decide) (by decide) ?_
    show Steps p.tables e below (s₁.setTop (mkF m 7 #[.val (.ref a1), .val (.ref a2), .unset, .unset, .unset, .unset, .unset] [])) _
    refine XS.aloadN X0.here hx rfl (hb hby d10_7) rfl rfl ?_
    show Steps p.tables e below (s₁.setTop (mkF m 8 #[.val (.ref a1), .val (.ref a2), .unset, .unset, .unset, .unset, .unset] [(.ref a2)])) _
    refine st101 _ ?_
    show Steps p.tables e below (T101.setTop (mkF m 11 #[.val (.ref a1), .val (.ref a2), .unset, .unset, .unset, .unset, .unset] [(.int (1 : Int32))])) _
    refine XS.ifNo X101.here hx rfl (hb hby d10_11) rfl ((if0 _ _).trans (feq hc11).1) ?_
    show Steps p.tables e below (T101.setTop (mkF m 14 #[.val (.ref a1), .val (.ref a2), .unset, .unset, .unset, .unset, .unset] [])) _
    refine XS.aloadN X101.here hx rfl (hb hby d10_14) rfl rfl ?_
    show Steps p.tables e below (T101.setTop (mkF m 15 #[.val (.ref a1), .val (.ref a2), .unset, .unset, .unset, .unset, .unset] [(.ref a2)])) _
    refine st102 _ ?_
    show Steps p.tables e below (T102.setTop (mkF m 18 #[.val (.ref a1), .val (.ref a2), .unset, .unset, .unset, .unset, .unset] [(.ref a2)])) _
    refine XS.astoreN X102.here hx rfl (hb hby d10_18) rfl rfl (l' := #[.val (.ref a1), .val (.ref a2), .val (.ref a2), .unset, .unset, .unset, .unset]) rfl ?_
    show Steps p.tables e below (T102.setTop (mkF m 19 #[.val (.ref a1), .val (.ref a2), .val (.ref a2), .unset, .unset, .unset, .unset] [])) _
    refine XS.goto X102.here hx rfl (pc0 := 19) (pc' := 24) rfl (hb hby d10_19) (by decide) (by decide) ?_
    show Steps p.tables e below (T102.setTop (mkF m 24 #[.val (.ref a1), .val (.ref a2), .val (.ref a2), .unset, .unset, .unset, .unset] [])) _
    refine XS.aloadN X102.here hx rfl (hb hby d10_24) rfl rfl ?_
    show Steps p.tables e below (T102.setTop (mkF m 25 #[.val (.ref a1), .val (.ref a2), .val (.ref a2), .unset, .unset, .unset, .unset] [(.ref a2)])) _
    refine st103 _ ?_
    show Steps p.tables e below (T103.setTop (mkF m 28 #[.val (.ref a1), .val (.ref a2), .val (.ref a2), .unset, .unset, .unset, .unset] [(.int sg)])) _
    refine XS.aloadN X103.here hx rfl (hb hby d10_28) rfl rfl ?_
    show Steps p.tables e below (T103.setTop (mkF m 29 #[.val (.ref a1), .val (.ref a2), .val (.ref a2), .unset, .unset, .unset, .unset] [(.ref a1), (.int sg)])) _
    refine st104 _ ?_
    show Steps p.tables e below (T104.setTop (mkF m 32 #[.val (.ref a1), .val (.ref a2), .val (.ref a2), .unset, .unset, .unset, .unset] [(.int sg), (.int sg)])) _
    refine XS.icmpYes X104.here hx rfl (pc0 := 32) (pc' := 37) rfl (hb hby d10_32) rfl (teq (rfl : sg = sg)).1 (by decide) (by decide) ?_
    show Steps p.tables e below (T104.setTop (mkF m 37 #[.val (.ref a1), .val (.ref a2), .val (.ref a2), .unset, .unset, .unset, .unset] [])) _
    refine XS.aloadN X104.here hx rfl (hb hby d10_37) rfl rfl ?_
    show Steps p.tables e below (T104.setTop (mkF m 38 #[.val (.ref a1), .val (.ref a2), .val (.ref a2), .unset, .unset, .unset, .unset] [(.ref a1)])) _
    refine st105 _ ?_
    show Steps p.tables e below (T105.setTop (mkF m 41 #[.val (.ref a1), .val (.ref a2), .val (.ref a2), .unset, .unset, .unset, .unset] [(.ref t1)])) _
    refine XS.astoreN X105.here hx rfl (hb hby d10_41) rfl rfl (l' := #[.val (.ref a1), .val (.ref a2), .val (.ref a2), .val (.ref t1), .unset, .unset, .unset]) rfl ?_
    show Steps p.tables e below (T105.setTop (mkF m 42 #[.val (.ref a1), .val (.ref a2), .val (.ref a2), .val (.ref t1), .unset, .unset, .unset] [])) _
    refine XS.aloadN X105.here hx rfl (hb hby d10_42) rfl rfl ?_
    show Steps p.tables e below (T105.setTop (mkF m 43 #[.val (.ref a1), .val (.ref a2), .val (.ref a2), .val (.ref t1), .unset, .unset, .unset] [(.ref t1)])) _
    refine X105.arraylength hx (by rw [e105]; exact Ar106.1) (State.isArrayOf_alike hZ.alike Ar106.2.1) (g := (mkF m 43 #[.val (.ref a1), .val (.ref a2), .val (.ref a2), .val (.ref t1), .unset, .unset, .unset] [(.ref t1)])) rfl rfl (hb hby d10_43) _ ?_
    rw [len_of S106 M106]
    show Steps p.tables e below (T105.setTop (mkF m 44 #[.val (.ref a1), .val (.ref a2), .val (.ref a2), .val (.ref t1), .unset, .unset, .unset] [(.int (2 : Int32))])) _
    refine XS.istore X105.here hx rfl (hb hby d10_44) rfl (l' := #[.val (.ref a1), .val (.ref a2), .val (.ref a2), .val (.ref t1), .val (.int (2 : Int32)), .unset, .unset]) rfl ?_
    show Steps p.tables e below (T105.setTop (mkF m 46 #[.val (.ref a1), .val (.ref a2), .val (.ref a2), .val (.ref t1), .val (.int (2 : Int32)), .unset, .unset] [])) _
    refine XS.aloadN X105.here hx rfl (hb hby d10_46) rfl rfl ?_
    show Steps p.tables e below (T105.setTop (mkF m 47 #[.val (.ref a1), .val (.ref a2), .val (.ref a2), .val (.ref t1), .val (.int (2 : Int32)), .unset, .unset] [(.ref a2)])) _
    refine st107 _ ?_
    show Steps p.tables e below (T107.setTop (mkF m 50 #[.val (.ref a1), .val (.ref a2), .val (.ref a2), .val (.ref t1), .val (.int (2 : Int32)), .unset, .unset] [(.ref t2)])) _
    refine XS.astore X107.here hx rfl (hb hby d10_50) rfl rfl (l' := #[.val (.ref a1), .val (.ref a2), .val (.ref a2), .val (.ref t1), .val (.int (2 : Int32)), .val (.ref t2), .unset]) rfl ?_
    show Steps p.tables e below (T107.setTop (mkF m 52 #[.val (.ref a1), .val (.ref a2), .val (.ref a2), .val (.ref t1), .val (.int (2 : Int32)), .val (.ref t2), .unset] [])) _
    refine XS.iload X107.here hx rfl (hb hby d10_52) rfl ?_
    show Steps p.tables e below (T107.setTop (mkF m 54 #[.val (.ref a1), .val (.ref a2), .val (.ref a2), .val (.ref t1), .val (.int (2 : Int32)), .val (.ref t2), .unset] [(.int (2 : Int32))])) _
    refine XS.aload X107.here hx rfl (hb hby d10_54) rfl rfl ?_
    show Steps p.tables e below (T107.setTop (mkF m 56 #[.val (.ref a1), .val (.ref a2), .val (.ref a2), .val (.ref t1), .val (.int (2 : Int32)), .val (.ref t2), .unset] [(.ref t2), (.int (2 : Int32))])) _
    refine X107.arraylength hx (by rw [e107]; exact Ar108.1) (State.isArrayOf_alike hZ.alike Ar108.2.1) (g := (mkF m 56 #[.val (.ref a1), .val (.ref a2), .val (.ref a2), .val (.ref t1), .val (.int (2 : Int32)), .val (.ref t2), .unset] [(.ref t2), (.int (2 : Int32))])) rfl rfl (hb hby d10_56) _ ?_
    rw [len_of S108 M108]
    show Steps p.tables e below (T107.setTop (mkF m 57 #[.val (.ref a1), .val (.ref a2), .val (.ref a2), .val (.ref t1), .val (.int (2 : Int32)), .val (.ref t2), .unset] [(.int (2 : Int32)), (.int (2 : Int32))])) _
    refine XS.icmpYes X107.here hx rfl (pc0 := 57) (pc' := 62) rfl (hb hby d10_57) rfl (teq (rfl : (2 : Int32) = (2 : Int32))).1 (by decide) (by decide) ?_
    show Steps p.tables e below (T107.setTop (mkF m 62 #[.val (.ref a1), .val (.ref a2), .val (.ref a2), .val (.ref t1), .val (.int (2 : Int32)), .val (.ref t2), .unset] [])) _
    refine XS.iconst X107.here hx rfl (hb hby d10_62) ?_
    show Steps p.tables e below (T107.setTop (mkF m 63 #[.val (.ref a1), .val (.ref a2), .val (.ref a2), .val (.ref t1), .val (.int (2 : Int32)), .val (.ref t2), .unset] [(.int (0 : Int32))])) _
    refine XS.istore X107.here hx rfl (hb hby d10_63) rfl (l' := #[.val (.ref a1), .val (.ref a2), .val (.ref a2), .val (.ref t1), .val (.int (2 : Int32)), .val (.ref t2), .val (.int (0 : Int32))]) rfl ?_
    show Steps p.tables e below (T107.setTop (mkF m 65 #[.val (.ref a1), .val (.ref a2), .val (.ref a2), .val (.ref t1), .val (.int (2 : Int32)), .val (.ref t2), .val (.int (0 : Int32))] [])) _
    refine XS.iload X107.here hx rfl (hb hby d10_65) rfl ?_
    show Steps p.tables e below (T107.setTop (mkF m 67 #[.val (.ref a1), .val (.ref a2), .val (.ref a2), .val (.ref t1), .val (.int (2 : Int32)), .val (.ref t2), .val (.int (0 : Int32))] [(.int (0 : Int32))])) _
    refine XS.iload X107.here hx rfl (hb hby d10_67) rfl ?_
    show Steps p.tables e below (T107.setTop (mkF m 69 #[.val (.ref a1), .val (.ref a2), .val (.ref a2), .val (.ref t1), .val (.int (2 : Int32)), .val (.ref t2), .val (.int (0 : Int32))] [(.int (2 : Int32)), (.int (0 : Int32))])) _
    refine XS.icmpNo X107.here hx rfl (hb hby d10_69) rfl (tlt hc69).2.1 ?_
    show Steps p.tables e below (T107.setTop (mkF m 72 #[.val (.ref a1), .val (.ref a2), .val (.ref a2), .val (.ref t1), .val (.int (2 : Int32)), .val (.ref t2), .val (.int (0 : Int32))] [])) _
    refine XS.aload X107.here hx rfl (hb hby d10_72) rfl rfl ?_
    show Steps p.tables e below (T107.setTop (mkF m 74 #[.val (.ref a1), .val (.ref a2), .val (.ref a2), .val (.ref t1), .val (.int (2 : Int32)), .val (.ref t2), .val (.int (0 : Int32))] [(.ref t2)])) _
    refine XS.iload X107.here hx rfl (hb hby d10_74) rfl ?_
    show Steps p.tables e below (T107.setTop (mkF m 76 #[.val (.ref a1), .val (.ref a2), .val (.ref a2), .val (.ref t1), .val (.int (2 : Int32)), .val (.ref t2), .val (.int (0 : Int32))] [(.int (0 : Int32)), (.ref t2)])) _
    refine X107.iaload hx (j := (0 : Int32)) (v := (.int x0)) (by rw [e107]; exact Ar108.1) (State.isArrayOf_alike hZ.alike Ar108.2.1) Ar108.2.2 (inb_of S108 ⟨by decide, by decide⟩) hat109 (g := (mkF m 76 #[.val (.ref a1), .val (.ref a2), .val (.ref a2), .val (.ref t1), .val (.int (2 : Int32)), .val (.ref t2), .val (.int (0 : Int32))] [(.int (0 : Int32)), (.ref t2)])) rfl rfl (hb hby d10_76) _ ?_
    show Steps p.tables e below (T107.setTop (mkF m 77 #[.val (.ref a1), .val (.ref a2), .val (.ref a2), .val (.ref t1), .val (.int (2 : Int32)), .val (.ref t2), .val (.int (0 : Int32))] [(.int x0)])) _
    refine XS.aloadN X107.here hx rfl (hb hby d10_77) rfl rfl ?_
    show Steps p.tables e below (T107.setTop (mkF m 78 #[.val (.ref a1), .val (.ref a2), .val (.ref a2), .val (.ref t1), .val (.int (2 : Int32)), .val (.ref t2), .val (.int (0 : Int32))] [(.ref t1), (.int x0)])) _
    refine XS.iload X107.here hx rfl (hb hby d10_78) rfl ?_
    show Steps p.tables e below (T107.setTop (mkF m 80 #[.val (.ref a1), .val (.ref a2), .val (.ref a2), .val (.ref t1), .val (.int (2 : Int32)), .val (.ref t2), .val (.int (0 : Int32))] [(.int (0 : Int32)), (.ref t1), (.int x0)])) _
    refine X107.iaload hx (j := (0 : Int32)) (v := (.int x0)) (by rw [e107]; exact Ar106.1) (State.isArrayOf_alike hZ.alike Ar106.2.1) Ar106.2.2 (inb_of S106 ⟨by decide, by decide⟩) hat110 (g := (mkF m 80 #[.val (.ref a1), .val (.ref a2), .val (.ref a2), .val (.ref t1), .val (.int (2 : Int32)), .val (.ref t2), .val (.int (0 : Int32))] [(.int (0 : Int32)), (.ref t1), (.int x0)])) rfl rfl (hb hby d10_80) _ ?_
    show Steps p.tables e below (T107.setTop (mkF m 81 #[.val (.ref a1), .val (.ref a2), .val (.ref a2), .val (.ref t1), .val (.int (2 : Int32)), .val (.ref t2), .val (.int (0 : Int32))] [(.int x0), (.int x0)])) _
    refine XS.icmpYes X107.here hx rfl (pc0 := 81) (pc' := 86) rfl (hb hby d10_81) rfl (teq (rfl : x0 = x0)).1 (by decide) (by decide) ?_
    show Steps p.tables e below (T107.setTop (mkF m 86 #[.val (.ref a1), .val (.ref a2), .val (.ref a2), .val (.ref t1), .val (.int (2 : Int32)), .val (.ref t2), .val (.int (0 : Int32))] [])) _
    refine XS.iinc X107.here hx rfl (hb hby d10_86) rfl (l' := #[.val (.ref a1), .val (.ref a2), .val (.ref a2), .val (.ref t1), .val (.int (2 : Int32)), .val (.ref t2), .val (.int ((0 : Int32) + (1 : Int32)))]) rfl ?_
    show Steps p.tables e below (T107.setTop (mkF m 89 #[.val (.ref a1), .val (.ref a2), .val (.ref a2), .val (.ref t1), .val (.int (2 : Int32)), .val (.ref t2), .val (.int ((0 : Int32) + (1 : Int32)))] [])) _
    refine XS.goto X107.here hx rfl (pc0 := 89) (pc' := 65) rfl (hb hby d10_89) (by decide) (by decide) ?_
    show Steps p.tables e below (T107.setTop (mkF m 65 #[.val (.ref a1), .val (.ref a2), .val (.ref a2), .val (.ref t1), .val (.int (2 : Int32)), .val (.ref t2), .val (.int ((0 : Int32) + (1 : Int32)))] [])) _
    refine XS.iload X107.here hx rfl (hb hby d10_65) rfl ?_
    show Steps p.tables e below (T107.setTop (mkF m 67 #[.val (.ref a1), .val (.ref a2), .val (.ref a2), .val (.ref t1), .val (.int (2 : Int32)), .val (.ref t2), .val (.int ((0 : Int32) + (1 : Int32)))] [(.int ((0 : Int32) + (1 : Int32)))])) _
    refine XS.iload X107.here hx rfl (hb hby d10_67) rfl ?_
    show Steps p.tables e below (T107.setTop (mkF m 69 #[.val (.ref a1), .val (.ref a2), .val (.ref a2), .val (.ref t1), .val (.int (2 : Int32)), .val (.ref t2), .val (.int ((0 : Int32) + (1 : Int32)))] [(.int (2 : Int32)), (.int ((0 : Int32) + (1 : Int32)))])) _
    refine XS.icmpNo X107.here hx rfl (hb hby d10_69) rfl (tlt hc69_1).2.1 ?_
    show Steps p.tables e below (T107.setTop (mkF m 72 #[.val (.ref a1), .val (.ref a2), .val (.ref a2), .val (.ref t1), .val (.int (2 : Int32)), .val (.ref t2), .val (.int ((0 : Int32) + (1 : Int32)))] [])) _
    refine XS.aload X107.here hx rfl (hb hby d10_72) rfl rfl ?_
    show Steps p.tables e below (T107.setTop (mkF m 74 #[.val (.ref a1), .val (.ref a2), .val (.ref a2), .val (.ref t1), .val (.int (2 : Int32)), .val (.ref t2), .val (.int ((0 : Int32) + (1 : Int32)))] [(.ref t2)])) _
    refine XS.iload X107.here hx rfl (hb hby d10_74) rfl ?_
    show Steps p.tables e below (T107.setTop (mkF m 76 #[.val (.ref a1), .val (.ref a2), .val (.ref a2), .val (.ref t1), .val (.int (2 : Int32)), .val (.ref t2), .val (.int ((0 : Int32) + (1 : Int32)))] [(.int ((0 : Int32) + (1 : Int32))), (.ref t2)])) _
    refine X107.iaload hx (j := ((0 : Int32) + (1 : Int32))) (v := (.int x1)) (by rw [e107]; exact Ar108.1) (State.isArrayOf_alike hZ.alike Ar108.2.1) Ar108.2.2 (inb_of S108 ⟨by decide, by decide⟩) hat111 (g := (mkF m 76 #[.val (.ref a1), .val (.ref a2), .val (.ref a2), .val (.ref t1), .val (.int (2 : Int32)), .val (.ref t2), .val (.int ((0 : Int32) + (1 : Int32)))] [(.int ((0 : Int32) + (1 : Int32))), (.ref t2)])) rfl rfl (hb hby d10_76) _ ?_
    show Steps p.tables e below (T107.setTop (mkF m 77 #[.val (.ref a1), .val (.ref a2), .val (.ref a2), .val (.ref t1), .val (.int (2 : Int32)), .val (.ref t2), .val (.int ((0 : Int32) + (1 : Int32)))] [(.int x1)])) _
    refine XS.aloadN X107.here hx rfl (hb hby d10_77) rfl rfl ?_
    show Steps p.tables e below (T107.setTop (mkF m 78 #[.val (.ref a1), .val (.ref a2), .val (.ref a2), .val (.ref t1), .val (.int (2 : Int32)), .val (.ref t2), .val (.int ((0 : Int32) + (1 : Int32)))] [(.ref t1), (.int x1)])) _
    refine XS.iload X107.here hx rfl (hb hby d10_78) rfl ?_
    show Steps p.tables e below (T107.setTop (mkF m 80 #[.val (.ref a1), .val (.ref a2), .val (.ref a2), .val (.ref t1), .val (.int (2 : Int32)), .val (.ref t2), .val (.int ((0 : Int32) + (1 : Int32)))] [(.int ((0 : Int32) + (1 : Int32))), (.ref t1), (.int x1)])) _
    refine X107.iaload hx (j := ((0 : Int32) + (1 : Int32))) (v := (.int x1)) (by rw [e107]; exact Ar106.1) (State.isArrayOf_alike hZ.alike Ar106.2.1) Ar106.2.2 (inb_of S106 ⟨by decide, by decide⟩) hat112 (g := (mkF m 80 #[.val (.ref a1), .val (.ref a2), .val (.ref a2), .val (.ref t1), .val (.int (2 : Int32)), .val (.ref t2), .val (.int ((0 : Int32) + (1 : Int32)))] [(.int ((0 : Int32) + (1 : Int32))), (.ref t1), (.int x1)])) rfl rfl (hb hby d10_80) _ ?_
    show Steps p.tables e below (T107.setTop (mkF m 81 #[.val (.ref a1), .val (.ref a2), .val (.ref a2), .val (.ref t1), .val (.int (2 : Int32)), .val (.ref t2), .val (.int ((0 : Int32) + (1 : Int32)))] [(.int x1), (.int x1)])) _
    refine XS.icmpYes X107.here hx rfl (pc0 := 81) (pc' := 86) rfl (hb hby d10_81) rfl (teq (rfl : x1 = x1)).1 (by decide) (by decide) ?_
    show Steps p.tables e below (T107.setTop (mkF m 86 #[.val (.ref a1), .val (.ref a2), .val (.ref a2), .val (.ref t1), .val (.int (2 : Int32)), .val (.ref t2), .val (.int ((0 : Int32) + (1 : Int32)))] [])) _
    refine XS.iinc X107.here hx rfl (hb hby d10_86) rfl (l' := #[.val (.ref a1), .val (.ref a2), .val (.ref a2), .val (.ref t1), .val (.int (2 : Int32)), .val (.ref t2), .val (.int (((0 : Int32) + (1 : Int32)) + (1 : Int32)))]) rfl ?_
    show Steps p.tables e below (T107.setTop (mkF m 89 #[.val (.ref a1), .val (.ref a2), .val (.ref a2), .val (.ref t1), .val (.int (2 : Int32)), .val (.ref t2), .val (.int (((0 : Int32) + (1 : Int32)) + (1 : Int32)))] [])) _
    refine XS.goto X107.here hx rfl (pc0 := 89) (pc' := 65) rfl (hb hby d10_89) (by decide) (by decide) ?_
    show Steps p.tables e below (T107.setTop (mkF m 65 #[.val (.ref a1), .val (.ref a2), .val (.ref a2), .val (.ref t1), .val (.int (2 : Int32)), .val (.ref t2), .val (.int (((0 : Int32) + (1 : Int32)) + (1 : Int32)))] [])) _
    refine XS.iload X107.here hx rfl (hb hby d10_65) rfl ?_
    show Steps p.tables e below (T107.setTop (mkF m 67 #[.val (.ref a1), .val (.ref a2), .val (.ref a2), .val (.ref t1), .val (.int (2 : Int32)), .val (.ref t2), .val (.int (((0 : Int32) + (1 : Int32)) + (1 : Int32)))] [(.int (((0 : Int32) + (1 : Int32)) + (1 : Int32)))])) _
    refine XS.iload X107.here hx rfl (hb hby d10_67) rfl ?_
    show Steps p.tables e below (T107.setTop (mkF m 69 #[.val (.ref a1), .val (.ref a2), .val (.ref a2), .val (.ref t1), .val (.int (2 : Int32)), .val (.ref t2), .val (.int (((0 : Int32) + (1 : Int32)) + (1 : Int32)))] [(.int (2 : Int32)), (.int (((0 : Int32) + (1 : Int32)) + (1 : Int32)))])) _
    refine XS.icmpYes X107.here hx rfl (pc0 := 69) (pc' := 92) rfl (hb hby d10_69) rfl (flt hc69_2).2.1 (by decide) (by decide) ?_
    show Steps p.tables e below (T107.setTop (mkF m 92 #[.val (.ref a1), .val (.ref a2), .val (.ref a2), .val (.ref t1), .val (.int (2 : Int32)), .val (.ref t2), .val (.int (((0 : Int32) + (1 : Int32)) + (1 : Int32)))] [])) _
    refine XS.iconst X107.here hx rfl (hb hby d10_92) ?_
    show Steps p.tables e below (T107.setTop (mkF m 93 #[.val (.ref a1), .val (.ref a2), .val (.ref a2), .val (.ref t1), .val (.int (2 : Int32)), .val (.ref t2), .val (.int (((0 : Int32) + (1 : Int32)) + (1 : Int32)))] [(.int (1 : Int32))])) _
    exact retN X107 hx (t := .boolean) Bd.returns (by simp) (hb hby d10_93) hr
  · show Qs (some (.int (1 : Int32))) h0 n0 _ T107.heap _
    rw [e107]
    exact ⟨rfl, N0, rfl⟩
set_option maxRecDepth 65536 in
set_option maxHeartbeats 40000000 in
theorem rmEq (l : Launch) (Z : State) (a0 : Array Value) (hw : ∀ d ∈ tables_1, d.before a0 Z = true) (ws : List Jvm.Cond) (a1 : Addr) (a2 : Addr) (v : Int64) (h0 : Heap) (n0 : Nat) (X00 : Old Z n0 h0) (B1 : Big Z h0 a1 v) (B2 : Big Z h0 a2 v) :
    MetFree l (⟨"java/math/BigInteger", "equals", "(Ljava/lang/Object;)Z"⟩ : MethodName) (head1 (Jvm.Cond.code (⟨"java/math/BigInteger", "equals", "(Ljava/lang/Object;)Z"⟩ : MethodName) jdk_2097_method_124_code 7 (some .boolean) :: ws) ({ frames := 0, cells := 0, slots := 0, locals := 0 } : Room)) (fun a U => a = #[(.ref a1), (.ref a2)] ∧ Z.Warmed39 U.vm ∧ U.heap = h0) (fun _ _ _ _ _ => True) (fun _ U o U' => ∃ rv rL, o = .returned rv ∧ Qs (some (.int (1 : Int32))) h0 n0 rv U'.heap rL ∧ FrameEnd U o U' rL ({ frames := 0, cells := 0, slots := 0, locals := 0 } : Room).cells ({ frames := 0, cells := 0, slots := 0, locals := 0 } : Room).slots) := by
  by_cases c : a2 = a1
  · subst c; exact rmEq_s l Z a0 hw ws _ h0 n0 X00
  obtain ⟨E1, S1, t1, k1, M1, V1⟩ := B1
  obtain ⟨E2, S2, t2, k2, M2, V2⟩ := B2
  unfold own_mg at V1 V2
  by_cases c0 : v = 0
  · rw [if_pos c0] at V1 V2; exact rmEq_0 l Z a0 hw ws a1 a2 _ t1 t2 k1 k2 h0 n0 X00 E1 E2 S1 S2 M1 M2 V1 V2 c
  · rw [if_neg c0] at V1 V2
    by_cases c1 : own_hi (own_ab v) = 0
    · rw [if_pos c1] at V1 V2; exact rmEq_1 l Z a0 hw ws a1 a2 _ t1 t2 k1 k2 _ h0 n0 X00 E1 E2 S1 S2 M1 M2 V1 V2 c
    · rw [if_neg c1] at V1 V2; exact rmEq_2 l Z a0 hw ws a1 a2 _ t1 t2 k1 k2 _ _ h0 n0 X00 E1 E2 S1 S2 M1 M2 V1 V2 c
set_option maxRecDepth 65536 in
set_option maxHeartbeats 40000000 in
theorem rmRed (l : Launch) (Z : State) (a0 : Array Value) (hw : ∀ d ∈ tables_1, d.before a0 Z = true) (ws : List Jvm.Cond) (a1 : Addr) (a2 : Addr) (v : Int64) (wo : Addr) (h0 : Heap) (n0 : Nat) (X00 : Old Z n0 h0) (S_o : Sta Z Z.heap BI "ONE" "Ljava/math/BigInteger;" (.ref wo)) (B_o : Big Z Z.heap wo 1) (B1 : Big Z h0 a1 v) (B2 : Big Z h0 a2 1) :
    MetFree l (⟨"com/example/granica/granica/Rational", "reduce", "(Ljava/math/BigInteger;Ljava/math/BigInteger;)Lcom/example/granica/granica/Rational;"⟩ : MethodName) (head1 (Jvm.Cond.code (⟨"com/example/granica/granica/Rational", "reduce", "(Ljava/math/BigInteger;Ljava/math/BigInteger;)Lcom/example/granica/granica/Rational;"⟩ : MethodName) prog_30_method_14_code 4 (some (.object "com/example/granica/granica/Rational")) :: ws) ({ frames := 2, cells := 1, slots := 2, locals := 27 } : Room)) (fun a U => a = #[(.ref a1), (.ref a2)] ∧ Z.Warmed39 U.vm ∧ U.heap = h0) (fun _ _ _ _ _ => True) (fun _ U o U' => ∃ rv rL, o = .returned rv ∧ QRat Z v h0 n0 rv U'.heap rL ∧ FrameEnd U o U' rL ({ frames := 2, cells := 1, slots := 2, locals := 27 } : Room).cells ({ frames := 2, cells := 1, slots := 2, locals := 27 } : Room).slots) := by
  refine MetFree.of_bodySF (plainFor_of_name pn_9) hisR ?_
  intro p e s m args below meth c s₁ Bd hml0 hP hK
  obtain ⟨rfl, hZ, hh⟩ := hP
  have hx := Bd.exec
  have hby := Bd.bytes
  have hml : c.maxLocals = 4 := hml0
  have hown : s.vm.findClass "com/example/granica/granica/Rational" = some m.cls := findClass_of_methodNamed Bd.named
  have hnm := (name_of_methodNamed Bd.named Bd.method).1
  have X0 : Stand p l e ({ frames := 2, cells := 1, slots := 2, locals := 27 } : Room) s m #[(.ref a1), (.ref a2)] below meth c s₁ [] 0 0 := Stand.of_body Bd
  have e0 : s₁.heap = h0 := by rw [← hh, Bd.state]; rfl
  have N0 := Fr.nil n0
  have pre0 : ∀ t, Steps p.tables e below (s₁.setTop (mkF m 0 #[.val (.ref a1), .val (.ref a2), .unset, .unset] [])) t → Steps p.tables e below (s₁.setTop (entryFrame m #[(.ref a1), (.ref a2)] 4)) t := fun t k => castTop (ef_9 m a1 a2) k
  obtain ⟨T101, X101, e101, st101⟩ := getS2 X0 hx hZ hown (host := "") (Or.inl (hw _ (List.mem_of_getElem? (i := 12) rfl))) Via.refl e0 (S_o.ext X00.2) (g := (mkF m 1 #[.val (.ref a1), .val (.ref a2), .unset, .unset] [(.ref a2)])) rfl (hb hby d9_1)
  obtain ⟨cq102, kq102, q102a, q102b, q102c⟩ := isOf hZ e101 B2.1
  obtain ⟨_, _, ⟨T102, L102, k102, n102⟩, -, X102, ⟨Lc102, hQ102, l102, y102, z102⟩, st102⟩ := X101.virtualBack hx (y := (⟨"java/math/BigInteger", "equals", "(Ljava/lang/Object;)Z"⟩ : MethodName)) (z := (⟨"java/math/BigInteger", "equals", "(Ljava/lang/Object;)Z"⟩ : MethodName)) hown (mvT hZ (hw _ (List.mem_of_getElem? (i := 52) rfl))) (mvT hZ (hw _ (List.mem_of_getElem? (i := 53) rfl))) (notFace_of_selects (args := #[]) (mvT hZ (hw _ (List.mem_of_getElem? (i := 55) rfl)))) (mvT hZ (hw _ (List.mem_of_getElem? (i := 55) rfl))) (mvT hZ (hw _ (List.mem_of_getElem? (i := 54) rfl))) (by decide) (backOf (W := 0) (rmEq l Z a0 hw [] a2 wo 1 h0 n0 X00 B2 (own_bigE B_o X00.2)) hZ (hw _ (List.mem_of_getElem? (i := 56) rfl)) (hw _ (List.mem_of_getElem? (i := 8) rfl)) (by decide) (by decide)) q102a q102c (g := (mkF m 4 #[.val (.ref a1), .val (.ref a2), .unset, .unset] [(.ref wo), (.ref a2)])) rfl (by rw [hml]; rfl) (Steps.refl _) (argsL := [(.ref wo)]) (rest := []) (lenOf pd_Ljava_lang_Object__Z rfl) rfl (by show 2 * 0 + _ ≤ _; exact Nat.le_of_eq rfl) (hb hby d9_4) (fun _ _ => ⟨rfl, e101, (by decide : 0 + 0 ≤ _), (by decide : 0 + 0 ≤ _)⟩)
  dsimp only [Pt.U, Pt.locs, Pt.cells, Pt.slots] at X102 l102 y102 z102 st102 hQ102
  subst l102 y102 z102
  obtain ⟨rfl, N102q, eq102⟩ := hQ102
  have N102 := Fr.app N0 N102q
  have hc7 : ¬ ((1 : Int32) = (0 : Int32)) := by decide
  have lz103_a1 := B1.1.lt
  have lz103_a2 := B2.1.lt
  obtain ⟨T103, h103, X103, e103, E103, A103, D103, U103, st103⟩ := newO X102 hx hZ hown (hw _ (List.mem_of_getElem? (i := 4) rfl)) (hw _ (List.mem_of_getElem? (i := 5) rfl)) (hw _ (List.mem_of_getElem? (i := 2) rfl)) eq102 (g := (mkF m 10 #[.val (.ref a1), .val (.ref a2), .unset, .unset] [])) rfl (hb hby d9_10) (by decide) (by decide)
  obtain ⟨b103, g103⟩ : ∃ z, z = h0.size := ⟨_, rfl⟩
  rw [← g103] at A103 D103 U103 st103
  have g_b103 : n0 ≤ b103 := Nat.le_trans (own_le X00) (Nat.le_of_eq g103.symm)
  have lt_a1_b103 : a1 < b103 := Nat.lt_of_lt_of_le lz103_a1 (Nat.le_of_eq g103.symm)
  have lt_a2_b103 : a2 < b103 := Nat.lt_of_lt_of_le lz103_a2 (Nat.le_of_eq g103.symm)
  have sz_b103 : h0.size ≤ b103 := Nat.le_trans (Keep.refl h0 []).1 (Nat.le_of_eq g103.symm)
  have F103_numerator : Fld Z h103 b103 "com/example/granica/granica/Rational" "numerator" "Ljava/math/BigInteger;" .null := D103 (Or.inr (hw _ (List.mem_of_getElem? (i := 20) rfl))) (ty := (.object "java/math/BigInteger")) (by decide)
  have F103_denominator : Fld Z h103 b103 "com/example/granica/granica/Rational" "denominator" "Ljava/math/BigInteger;" .null := D103 (Or.inr (hw _ (List.mem_of_getElem? (i := 22) rfl))) (ty := (.object "java/math/BigInteger")) (by decide)
  have y104 := (X00.ext E103)
  obtain ⟨_, _, ⟨T105, L105, k105, n105⟩, -, X105, ⟨Lc105, hQ105, l105, y105, z105⟩, st105⟩ := X103.specialBack hx (y := (⟨"com/example/granica/granica/Rational", "<init>", "(Ljava/math/BigInteger;Ljava/math/BigInteger;)V"⟩ : MethodName)) rfl hown (mvT hZ (hw _ (List.mem_of_getElem? (i := 13) rfl))) (mvT hZ (hw _ (List.mem_of_getElem? (i := 14) rfl))) (mvT hZ (hw _ (List.mem_of_getElem? (i := 15) rfl))) (by decide) (backOf (W := 1) (rmRI l Z a0 hw [] b103 a1 a2 .null .null h103 n0 y104 A103 F103_numerator F103_denominator g_b103) hZ (hw _ (List.mem_of_getElem? (i := 15) rfl)) (hw _ (List.mem_of_getElem? (i := 2) rfl)) (by decide) (by decide)) (g := (mkF m 16 #[.val (.ref a1), .val (.ref a2), .unset, .unset] [(.ref a2), (.ref a1), (.ref b103), (.ref b103)])) rfl (by rw [hml]; rfl) (Steps.refl _) (a := b103) (argsL := [(.ref a1), (.ref a2)]) (rest := [(.ref b103)]) (lenOf pd_Ljava_math_BigInteger_Ljava_math_BigInteger__V rfl) rfl (by show 2 * 0 + _ ≤ _; exact Nat.le_of_eq rfl) (hb hby d9_16) (fun _ _ => ⟨rfl, e103, (by decide : 1 + 0 ≤ _), (by decide : 2 + 0 ≤ _)⟩)
  dsimp only [Pt.U, Pt.locs, Pt.cells, Pt.slots] at X105 l105 y105 z105 st105 hQ105
  subst l105 y105 z105
  obtain ⟨rfl, N105q, Kc105, Fn105, Fd105⟩ := hQ105
  have N105 := Fr.app N102 N105q
  have y106 := (A103.keep Kc105)
  have y107 := (own_bigKo (own_bigE B1 E103) A103 (by decide) (hw _ (List.mem_of_getElem? (i := 5) rfl)) Kc105)
  have y108 := (own_bigKo (own_bigE B2 E103) A103 (by decide) (hw _ (List.mem_of_getElem? (i := 5) rfl)) Kc105)
  have R105 : Rat Z T105.heap b103 v 1 := ⟨y106, a1, a2, Fn105, Fd105, y107, y108⟩
  have y109 := (((Keep.refl h0 []).ext E103).trans Kc105 (allS (Or.inr sz_b103) all0))
  obtain ⟨fs, hr, hrun, hended, hW, hsame⟩ := X105.leave (v := some (.ref b103)) (fun h => by rw [Bd.returns] at h; cases h)
  refine ⟨_, _, pre0 _ ?_, hrun, hended, _, _, rfl, ?_, ⟨_, rfl⟩, hW, hsame.mono (by decide) (by decide)⟩
  · show Steps p.tables e below (s₁.setTop (mkF m 0 #[.val (.ref a1), .val (.ref a2), .unset, .unset] [])) _
    refine XS.aloadN X0.here hx rfl (hb hby d9_0) rfl rfl ?_
    show Steps p.tables e below (s₁.setTop (mkF m 1 #[.val (.ref a1), .val (.ref a2), .unset, .unset] [(.ref a2)])) _
    refine st101 _ ?_
    show Steps p.tables e below (T101.setTop (mkF m 4 #[.val (.ref a1), .val (.ref a2), .unset, .unset] [(.ref wo), (.ref a2)])) _
    refine st102.trans ?_
    show Steps p.tables e below (T102.setTop (mkF m 7 #[.val (.ref a1), .val (.ref a2), .unset, .unset] [(.int (1 : Int32))])) _
    refine XS.ifNo X102.here hx rfl (hb hby d9_7) rfl ((if0 _ _).trans (feq hc7).1) ?_
    show Steps p.tables e below (T102.setTop (mkF m 10 #[.val (.ref a1), .val (.ref a2), .unset, .unset] [])) _
    refine st103 _ ?_
    show Steps p.tables e below (T103.setTop (mkF m 13 #[.val (.ref a1), .val (.ref a2), .unset, .unset] [(.ref b103)])) _
    refine XS.dup X103.here hx rfl (hb hby d9_13) rfl rfl ?_
    show Steps p.tables e below (T103.setTop (mkF m 14 #[.val (.ref a1), .val (.ref a2), .unset, .unset] [(.ref b103), (.ref b103)])) _
    refine XS.aloadN X103.here hx rfl (hb hby d9_14) rfl rfl ?_
    show Steps p.tables e below (T103.setTop (mkF m 15 #[.val (.ref a1), .val (.ref a2), .unset, .unset] [(.ref a1), (.ref b103), (.ref b103)])) _
    refine XS.aloadN X103.here hx rfl (hb hby d9_15) rfl rfl ?_
    show Steps p.tables e below (T103.setTop (mkF m 16 #[.val (.ref a1), .val (.ref a2), .unset, .unset] [(.ref a2), (.ref a1), (.ref b103), (.ref b103)])) _
    refine st105.trans ?_
    show Steps p.tables e below (T105.setTop (mkF m 19 #[.val (.ref a1), .val (.ref a2), .unset, .unset] [(.ref b103)])) _
    refine XS.astoreN X105.here hx rfl (hb hby d9_19) rfl rfl (l' := #[.val (.ref a1), .val (.ref a2), .val (.ref b103), .unset]) rfl ?_
    show Steps p.tables e below (T105.setTop (mkF m 20 #[.val (.ref a1), .val (.ref a2), .val (.ref b103), .unset] [])) _
    refine XS.goto X105.here hx rfl (pc0 := 20) (pc' := 92) rfl (hb hby d9_20) (by decide) (by decide) ?_
    show Steps p.tables e below (T105.setTop (mkF m 92 #[.val (.ref a1), .val (.ref a2), .val (.ref b103), .unset] [])) _
    refine XS.aloadN X105.here hx rfl (hb hby d9_92) rfl rfl ?_
    show Steps p.tables e below (T105.setTop (mkF m 93 #[.val (.ref a1), .val (.ref a2), .val (.ref b103), .unset] [(.ref b103)])) _
    jvm_step X105.here [X105.here.top, hx, (hb hby d9_93), X105.method', Bd.returns, Value.isRef, FieldType.isReference]
    first | (intro acts; rw [hr _ acts rfl rfl rfl]) | rw [hr _ _ rfl rfl rfl]
    exact Steps.refl _
  · show QRat Z v h0 n0 _ T105.heap _
    exact ⟨_, rfl, N105, y109, R105⟩
set_option maxRecDepth 65536 in
set_option maxHeartbeats 40000000 in
theorem rmNN (l : Launch) (Z : State) (a0 : Array Value) (hw : ∀ d ∈ tables_1, d.before a0 Z = true) (ws : List Jvm.Cond) (a1 : Addr) (a2 : Addr) (h0 : Heap) (n0 : Nat) (X00 : Old Z n0 h0) :
    MetFree l (⟨"java/util/Objects", "requireNonNull", "(Ljava/lang/Object;Ljava/lang/String;)Ljava/lang/Object;"⟩ : MethodName) (head1 (Jvm.Cond.code (⟨"java/util/Objects", "requireNonNull", "(Ljava/lang/Object;Ljava/lang/String;)Ljava/lang/Object;"⟩ : MethodName) jdk_31_method_11_code 2 (some (.object "java/lang/Object")) :: ws) ({ frames := 0, cells := 0, slots := 0, locals := 0 } : Room)) (fun a U => a = #[(.ref a1), (.ref a2)] ∧ Z.Warmed39 U.vm ∧ U.heap = h0) (fun _ _ _ _ _ => True) (fun _ U o U' => ∃ rv rL, o = .returned rv ∧ Qs (some (.ref a1)) h0 n0 rv U'.heap rL ∧ FrameEnd U o U' rL ({ frames := 0, cells := 0, slots := 0, locals := 0 } : Room).cells ({ frames := 0, cells := 0, slots := 0, locals := 0 } : Room).slots) := by
  refine MetFree.of_bodySF (plainFor_of_name pn_7) hisR ?_
  intro p e s m args below meth c s₁ Bd hml0 hP hK
  obtain ⟨rfl, hZ, hh⟩ := hP
  have hx := Bd.exec
  have hby := Bd.bytes
  have hml : c.maxLocals = 2 := hml0
  have hown : s.vm.findClass "java/util/Objects" = some m.cls := findClass_of_methodNamed Bd.named
  have hnm := (name_of_methodNamed Bd.named Bd.method).1
  have X0 : Stand p l e ({ frames := 0, cells := 0, slots := 0, locals := 0 } : Room) s m #[(.ref a1), (.ref a2)] below meth c s₁ [] 0 0 := Stand.of_body Bd
  have e0 : s₁.heap = h0 := by rw [← hh, Bd.state]; rfl
  have N0 := Fr.nil n0
  have pre0 : ∀ t, Steps p.tables e below (s₁.setTop (mkF m 0 #[.val (.ref a1), .val (.ref a2)] [])) t → Steps p.tables e below (s₁.setTop (entryFrame m #[(.ref a1), (.ref a2)] 2)) t := fun t k => castTop (ef_7 m a1 a2) k
  obtain ⟨fs, hr, hrun, hended, hW, hsame⟩ := X0.leave (v := some (.ref a1)) (fun h => by rw [Bd.returns] at h; cases h)
  refine ⟨_, _, pre0 _ ?_, hrun, hended, _, _, rfl, ?_, ⟨_, rfl⟩, hW, hsame.mono (by decide) (by decide)⟩
  · show Steps p.tables e below (s₁.setTop (mkF m 0 #[.val (.ref a1), .val (.ref a2)] [])) _
    refine XS.aloadN X0.here hx rfl (hb hby d7_0) rfl rfl ?_
    show Steps p.tables e below (s₁.setTop (mkF m 1 #[.val (.ref a1), .val (.ref a2)] [(.ref a1)])) _
    refine XS.ifnonnullYes X0.here hx rfl (pc0 := 1) (pc' := 13) rfl (hb hby d7_1) rfl (by decide) (by decide) ?_
    show Steps p.tables e below (s₁.setTop (mkF m 13 #[.val (.ref a1), .val (.ref a2)] [])) _
    refine XS.aloadN X0.here hx rfl (hb hby d7_13) rfl rfl ?_
    show Steps p.tables e below (s₁.setTop (mkF m 14 #[.val (.ref a1), .val (.ref a2)] [(.ref a1)])) _
    jvm_step X0.here [X0.here.top, hx, (hb hby d7_14), X0.method', Bd.returns, Value.isRef, FieldType.isReference]
    first | (intro acts; rw [hr _ acts rfl rfl rfl]) | rw [hr _ _ rfl rfl rfl]
    exact Steps.refl _
  · show Qs (some (.ref a1)) h0 n0 _ s₁.heap _
    rw [e0]
    exact ⟨rfl, N0, rfl⟩
set_option maxRecDepth 65536 in
set_option maxHeartbeats 40000000 in
theorem rmVB (l : Launch) (Z : State) (a0 : Array Value) (hw : ∀ d ∈ tables_1, d.before a0 Z = true) (ws : List Jvm.Cond) (a1 : Addr) (a2 : Addr) (v : Int64) (wo : Addr) (h0 : Heap) (n0 : Nat) (X00 : Old Z n0 h0) (S_o : Sta Z Z.heap BI "ONE" "Ljava/math/BigInteger;" (.ref wo)) (B_o : Big Z Z.heap wo 1) (B1 : Big Z h0 a1 v) (B2 : Big Z h0 a2 1) :
    MetFree l (⟨"com/example/granica/granica/Rational", "valueOf", "(Ljava/math/BigInteger;Ljava/math/BigInteger;)Lcom/example/granica/granica/Rational;"⟩ : MethodName) (head1 (Jvm.Cond.code (⟨"com/example/granica/granica/Rational", "valueOf", "(Ljava/math/BigInteger;Ljava/math/BigInteger;)Lcom/example/granica/granica/Rational;"⟩ : MethodName) prog_30_method_5_code 2 (some (.object "com/example/granica/granica/Rational")) :: ws) ({ frames := 3, cells := 5, slots := 90, locals := 42 } : Room)) (fun a U => a = #[(.ref a1), (.ref a2)] ∧ Z.Warmed39 U.vm ∧ U.heap = h0) (fun _ _ _ _ _ => True) (fun _ U o U' => ∃ rv rL, o = .returned rv ∧ QRat Z v h0 n0 rv U'.heap rL ∧ ReturnedEndW U o U' rL ({ frames := 3, cells := 5, slots := 90, locals := 42 } : Room).cells ({ frames := 3, cells := 5, slots := 90, locals := 42 } : Room).slots) := by
  refine MetFree.of_bodySF (plainFor_of_name pn_6) hisR ?_
  intro p e s m args below meth c s₁ Bd hml0 hP hK
  obtain ⟨rfl, hZ, hh⟩ := hP
  have hx := Bd.exec
  have hby := Bd.bytes
  have hml : c.maxLocals = 2 := hml0
  have hown : s.vm.findClass "com/example/granica/granica/Rational" = some m.cls := findClass_of_methodNamed Bd.named
  have hnm := (name_of_methodNamed Bd.named Bd.method).1
  have X0 : Stand p l e ({ frames := 3, cells := 5, slots := 90, locals := 42 } : Room) (s.setVm s.vm) m #[(.ref a1), (.ref a2)] below meth c s₁ [] 0 0 := Stand.of_body Bd
  have e0 : s₁.heap = h0 := by rw [← hh, Bd.state]; rfl
  have N0 := Fr.nil n0
  have hS0 : s.Since s.vm s.heap.size := own_since s
  have hk0 : s.heap.size ≤ h0.size := by rw [hh]; exact Nat.le_refl _
  have hstr := own_str hw
  have pre0 : ∀ t, Steps p.tables e below (s₁.setTop (mkF m 0 #[.val (.ref a1), .val (.ref a2)] [])) t → Steps p.tables e below (s₁.setTop (entryFrame m #[(.ref a1), (.ref a2)] 2)) t := fun t k => castTop (ef_6 m a1 a2) k
  have lz101_a1 := B1.1.lt
  have lz101_a2 := B2.1.lt
  obtain ⟨a101, T101, h101, k101, X101, e101, E101, hS101, hk101, hZ101, hown101, st101⟩ := ldcS X0 hx hZ hown (hw _ (List.mem_of_getElem? (i := 29) rfl)) hstr e0 hS0 hk0 (g := (mkF m 1 #[.val (.ref a1), .val (.ref a2)] [(.ref a1)])) rfl (hb hby d6_1) (n := 36) (by decide) (by decide) (by decide) (by decide)
  have y102 := (X00.ext E101)
  obtain ⟨_, _, ⟨T103, L103, k103, n103⟩, -, X103, ⟨Lc103, hQ103, l103, y103, z103⟩, st103⟩ := Jvm.LawKit.callS X101 hx (y := (⟨"java/util/Objects", "requireNonNull", "(Ljava/lang/Object;Ljava/lang/String;)Ljava/lang/Object;"⟩ : MethodName)) hown101 (mvT hZ101 (hw _ (List.mem_of_getElem? (i := 37) rfl))) (mvT hZ101 (hw _ (List.mem_of_getElem? (i := 38) rfl))) (mvT hZ101 (hw _ (List.mem_of_getElem? (i := 39) rfl))) (mvT hZ101 (hw _ (List.mem_of_getElem? (i := 40) rfl))) (by decide) (backOf (W := 0) (rmNN l Z a0 hw [] a1 a101 h101 n0 y102) hZ101 (hw _ (List.mem_of_getElem? (i := 40) rfl)) (hw _ (List.mem_of_getElem? (i := 39) rfl)) (by decide) (by decide)) (g := (mkF m 3 #[.val (.ref a1), .val (.ref a2)] [(.ref a101), (.ref a1)])) rfl (by rw [hml]; rfl) (argsL := [(.ref a1), (.ref a101)]) (rest := []) (lenOf pd_Ljava_lang_Object_Ljava_lang_String__Ljava_lang_Object_ rfl) rfl (by show 2 * 0 + _ ≤ _; exact Nat.le_of_eq rfl) (hb hby d6_3) (fun _ _ => ⟨rfl, e101, (by decide : 2 + 0 ≤ _), (by decide : 40 + 0 ≤ _)⟩)
  dsimp only [Pt.U, Pt.locs, Pt.cells, Pt.slots] at X103 l103 y103 z103 st103 hQ103
  subst l103 y103 z103
  obtain ⟨rfl, N103q, eq103⟩ := hQ103
  have N103 := Fr.app N0 N103q
  have y105 := (B1.1.ext E101)
  have lz104_a1 := y105.lt
  have y106 := (B2.1.ext E101)
  have lz104_a2 := y106.lt
  obtain ⟨a104, T104, h104, k104, X104, e104, E104, hS104, hk104, hZ104, hown104, st104⟩ := ldcS X103 hx hZ101 hown101 (hw _ (List.mem_of_getElem? (i := 41) rfl)) hstr eq103 hS101 hk101 (g := (mkF m 8 #[.val (.ref a1), .val (.ref a2)] [(.ref a2)])) rfl (hb hby d6_8) (n := 44) (by decide) (by decide) (by decide) (by decide)
  have y107 := (y102.ext E104)
  obtain ⟨_, _, ⟨T108, L108, k108, n108⟩, -, X108, ⟨Lc108, hQ108, l108, y108, z108⟩, st108⟩ := Jvm.LawKit.callS X104 hx (y := (⟨"java/util/Objects", "requireNonNull", "(Ljava/lang/Object;Ljava/lang/String;)Ljava/lang/Object;"⟩ : MethodName)) hown104 (mvT hZ104 (hw _ (List.mem_of_getElem? (i := 37) rfl))) (mvT hZ104 (hw _ (List.mem_of_getElem? (i := 38) rfl))) (mvT hZ104 (hw _ (List.mem_of_getElem? (i := 39) rfl))) (mvT hZ104 (hw _ (List.mem_of_getElem? (i := 40) rfl))) (by decide) (backOf (W := 0) (rmNN l Z a0 hw [] a2 a104 h104 n0 y107) hZ104 (hw _ (List.mem_of_getElem? (i := 40) rfl)) (hw _ (List.mem_of_getElem? (i := 39) rfl)) (by decide) (by decide)) (g := (mkF m 10 #[.val (.ref a1), .val (.ref a2)] [(.ref a104), (.ref a2)])) rfl (by rw [hml]; rfl) (argsL := [(.ref a2), (.ref a104)]) (rest := []) (lenOf pd_Ljava_lang_Object_Ljava_lang_String__Ljava_lang_Object_ rfl) rfl (by show 2 * 0 + _ ≤ _; exact Nat.le_of_eq rfl) (hb hby d6_10) (fun _ _ => ⟨rfl, e104, (by decide : 4 + 0 ≤ _), (by decide : 88 + 0 ≤ _)⟩)
  dsimp only [Pt.U, Pt.locs, Pt.cells, Pt.slots] at X108 l108 y108 z108 st108 hQ108
  subst l108 y108 z108
  obtain ⟨rfl, N108q, eq108⟩ := hQ108
  have N108 := Fr.app N103 N108q
  have y109 := (own_bigE (own_bigE B2 E101) E104)
  have y111 := (y106.ext E104)
  obtain ⟨cq110, kq110, q110a, q110b, q110c⟩ := isOf hZ104 eq108 y111
  obtain ⟨_, _, ⟨T110, L110, k110, n110⟩, -, X110, ⟨Lc110, hQ110, l110, y110, z110⟩, st110⟩ := X108.virtualBack hx (y := (⟨"java/math/BigInteger", "signum", "()I"⟩ : MethodName)) (z := (⟨"java/math/BigInteger", "signum", "()I"⟩ : MethodName)) hown104 (mvT hZ104 (hw _ (List.mem_of_getElem? (i := 42) rfl))) (mvT hZ104 (hw _ (List.mem_of_getElem? (i := 43) rfl))) (notFace_of_selects (args := #[]) (mvT hZ104 (hw _ (List.mem_of_getElem? (i := 45) rfl)))) (mvT hZ104 (hw _ (List.mem_of_getElem? (i := 45) rfl))) (mvT hZ104 (hw _ (List.mem_of_getElem? (i := 44) rfl))) (by decide) (backOf (W := 0) (rmSig l Z a0 hw [] a2 1 h104 n0 y107 y109) hZ104 (hw _ (List.mem_of_getElem? (i := 46) rfl)) (hw _ (List.mem_of_getElem? (i := 8) rfl)) (by decide) (by decide)) q110a q110c (g := (mkF m 15 #[.val (.ref a1), .val (.ref a2)] [(.ref a2)])) rfl (by rw [hml]; rfl) (Steps.refl _) (argsL := []) (rest := []) (lenOf pd__I rfl) rfl (by show 2 * 0 + _ ≤ _; exact Nat.le_of_eq rfl) (hb hby d6_15) (fun _ _ => ⟨rfl, eq108, (by decide : 4 + 0 ≤ _), (by decide : 88 + 0 ≤ _)⟩)
  dsimp only [Pt.U, Pt.locs, Pt.cells, Pt.slots] at X110 l110 y110 z110 st110 hQ110
  subst l110 y110 z110
  obtain ⟨rfl, N110q, eq110⟩ := hQ110
  have N110 := Fr.app N108 N110q
  have hc18 : ¬ ((own_sg 1) = (0 : Int32)) := by decide
  have y112 := (own_bigE (own_bigE B1 E101) E104)
  obtain ⟨_, _, ⟨T113, L113, k113, n113⟩, -, X113, ⟨Lc113, hQ113, l113, y113, z113⟩, st113⟩ := Jvm.LawKit.callS X110 hx (y := (⟨"com/example/granica/granica/Rational", "reduce", "(Ljava/math/BigInteger;Ljava/math/BigInteger;)Lcom/example/granica/granica/Rational;"⟩ : MethodName)) hown104 (mvT hZ104 (hw _ (List.mem_of_getElem? (i := 49) rfl))) (mvT hZ104 (hw _ (List.mem_of_getElem? (i := 50) rfl))) (mvT hZ104 (hw _ (List.mem_of_getElem? (i := 2) rfl))) (mvT hZ104 (hw _ (List.mem_of_getElem? (i := 51) rfl))) (by decide) (backOf (W := 0) (rmRed l Z a0 hw [] a1 a2 v wo h104 n0 y107 S_o B_o y112 y109) hZ104 (hw _ (List.mem_of_getElem? (i := 51) rfl)) (hw _ (List.mem_of_getElem? (i := 2) rfl)) (by decide) (by decide)) (g := (mkF m 36 #[.val (.ref a1), .val (.ref a2)] [(.ref a2), (.ref a1)])) rfl (by rw [hml]; rfl) (argsL := [(.ref a1), (.ref a2)]) (rest := []) (lenOf pd_Ljava_math_BigInteger_Ljava_math_BigInteger__Lcom_example_granica_granica_Rational_ rfl) rfl (by show 2 * 0 + _ ≤ _; exact Nat.le_of_eq rfl) (hb hby d6_36) (fun _ _ => ⟨rfl, eq110, (by decide : 4 + 1 ≤ _), (by decide : 88 + 2 ≤ _)⟩)
  dsimp only [Pt.U, Pt.locs, Pt.cells, Pt.slots] at X113 l113 y113 z113 st113 hQ113
  subst l113 y113 z113
  obtain ⟨r113, rfl, N113q, Kc113, B113⟩ := hQ113
  have N113 := Fr.app N110 N113q
  have y114 := ((((Keep.refl h0 []).ext E101).ext E104).trans Kc113 all0)
  have y115 := (Nat.le_trans hk104 Kc113.1)
  obtain ⟨fs, hr, hrun, hended, hRW⟩ := X113.leaveW hS104 y115 (v := some (.ref r113)) (fun h => by rw [Bd.returns] at h; cases h)
  refine ⟨_, _, pre0 _ ?_, hrun, hended, _, _, rfl, ?_, hRW.1, hRW.2.1, hRW.2.2.1, hRW.2.2.2.mono (by decide) (by decide)⟩
  · show Steps p.tables e below (s₁.setTop (mkF m 0 #[.val (.ref a1), .val (.ref a2)] [])) _
    refine XS.aloadN X0.here hx rfl (hb hby d6_0) rfl rfl ?_
    show Steps p.tables e below (s₁.setTop (mkF m 1 #[.val (.ref a1), .val (.ref a2)] [(.ref a1)])) _
    refine st101 _ ?_
    show Steps p.tables e below (T101.setTop (mkF m 3 #[.val (.ref a1), .val (.ref a2)] [(.ref a101), (.ref a1)])) _
    refine st103 _ ?_
    show Steps p.tables e below (T103.setTop (mkF m 6 #[.val (.ref a1), .val (.ref a2)] [(.ref a1)])) _
    refine XS.pop X103.here hx rfl (hb hby d6_6) rfl rfl ?_
    show Steps p.tables e below (T103.setTop (mkF m 7 #[.val (.ref a1), .val (.ref a2)] [])) _
    refine XS.aloadN X103.here hx rfl (hb hby d6_7) rfl rfl ?_
    show Steps p.tables e below (T103.setTop (mkF m 8 #[.val (.ref a1), .val (.ref a2)] [(.ref a2)])) _
    refine st104 _ ?_
    show Steps p.tables e below (T104.setTop (mkF m 10 #[.val (.ref a1), .val (.ref a2)] [(.ref a104), (.ref a2)])) _
    refine st108 _ ?_
    show Steps p.tables e below (T108.setTop (mkF m 13 #[.val (.ref a1), .val (.ref a2)] [(.ref a2)])) _
    refine XS.pop X108.here hx rfl (hb hby d6_13) rfl rfl ?_
    show Steps p.tables e below (T108.setTop (mkF m 14 #[.val (.ref a1), .val (.ref a2)] [])) _
    refine XS.aloadN X108.here hx rfl (hb hby d6_14) rfl rfl ?_
    show Steps p.tables e below (T108.setTop (mkF m 15 #[.val (.ref a1), .val (.ref a2)] [(.ref a2)])) _
    refine st110.trans ?_
    show Steps p.tables e below (T110.setTop (mkF m 18 #[.val (.ref a1), .val (.ref a2)] [(.int (own_sg 1))])) _
    refine XS.ifYes X110.here hx rfl (pc0 := 18) (pc' := 34) rfl (hb hby d6_18) rfl ((if0 _ _).trans (feq hc18).2) (by decide) (by decide) ?_
    show Steps p.tables e below (T110.setTop (mkF m 34 #[.val (.ref a1), .val (.ref a2)] [])) _
    refine XS.aloadN X110.here hx rfl (hb hby d6_34) rfl rfl ?_
    show Steps p.tables e below (T110.setTop (mkF m 35 #[.val (.ref a1), .val (.ref a2)] [(.ref a1)])) _
    refine XS.aloadN X110.here hx rfl (hb hby d6_35) rfl rfl ?_
    show Steps p.tables e below (T110.setTop (mkF m 36 #[.val (.ref a1), .val (.ref a2)] [(.ref a2), (.ref a1)])) _
    refine st113 _ ?_
    show Steps p.tables e below (T113.setTop (mkF m 39 #[.val (.ref a1), .val (.ref a2)] [(.ref r113)])) _
    jvm_step X113.here [X113.here.top, hx, (hb hby d6_39), X113.method', Bd.returns, Value.isRef, FieldType.isReference]
    first | (intro acts; rw [hr _ acts rfl rfl rfl]) | rw [hr _ _ rfl rfl rfl]
    exact Steps.refl _
  · show QRat Z v h0 n0 _ T113.heap _
    exact ⟨_, rfl, N113, y114, B113⟩
set_option maxRecDepth 65536 in
set_option maxHeartbeats 40000000 in
theorem rmVJ (l : Launch) (Z : State) (a0 : Array Value) (hw : ∀ d ∈ tables_1, d.before a0 Z = true) (ws : List Jvm.Cond) (q1 : Int64) (wo : Addr) (h0 : Heap) (n0 : Nat) (X00 : Old Z n0 h0) (S_o : Sta Z Z.heap BI "ONE" "Ljava/math/BigInteger;" (.ref wo)) (B_o : Big Z Z.heap wo 1) (C : Cache Z) :
    MetFree l (⟨"com/example/granica/granica/Rational", "valueOf", "(JJ)Lcom/example/granica/granica/Rational;"⟩ : MethodName) (head1 (Jvm.Cond.code (⟨"com/example/granica/granica/Rational", "valueOf", "(JJ)Lcom/example/granica/granica/Rational;"⟩ : MethodName) prog_30_method_4_code 4 (some (.object "com/example/granica/granica/Rational")) :: ws) ({ frames := 4, cells := 9, slots := 106, locals := 55 } : Room)) (fun a U => a = #[(.long q1), (.long (1 : Int64))] ∧ Z.Warmed39 U.vm ∧ U.heap = h0) (fun _ _ _ _ _ => True) (fun _ U o U' => ∃ rv rL, o = .returned rv ∧ QRat Z q1 h0 n0 rv U'.heap rL ∧ ReturnedEndW U o U' rL ({ frames := 4, cells := 9, slots := 106, locals := 55 } : Room).cells ({ frames := 4, cells := 9, slots := 106, locals := 55 } : Room).slots) := by
  refine MetFree.of_bodySF (plainFor_of_name pn_5) hisR ?_
  intro p e s m args below meth c s₁ Bd hml0 hP hK
  obtain ⟨rfl, hZ, hh⟩ := hP
  have hx := Bd.exec
  have hby := Bd.bytes
  have hml : c.maxLocals = 4 := hml0
  have hown : s.vm.findClass "com/example/granica/granica/Rational" = some m.cls := findClass_of_methodNamed Bd.named
  have hnm := (name_of_methodNamed Bd.named Bd.method).1
  have X0 : Stand p l e ({ frames := 4, cells := 9, slots := 106, locals := 55 } : Room) (s.setVm s.vm) m #[(.long q1), (.long (1 : Int64))] below meth c s₁ [] 0 0 := Stand.of_body Bd
  have e0 : s₁.heap = h0 := by rw [← hh, Bd.state]; rfl
  have N0 := Fr.nil n0
  have hS0 : s.Since s.vm s.heap.size := own_since s
  have hk0 : s.heap.size ≤ h0.size := by rw [hh]; exact Nat.le_refl _
  have hstr := own_str hw
  have pre0 : ∀ t, Steps p.tables e below (s₁.setTop (mkF m 0 #[.val (.long q1), .second, .val (.long (1 : Int64)), .second] [])) t → Steps p.tables e below (s₁.setTop (entryFrame m #[(.long q1), (.long (1 : Int64))] 4)) t := fun t k => castTop (ef_5 m q1 (1 : Int64)) k
  obtain ⟨_, _, ⟨T101, L101, k101, n101⟩, -, X101, ⟨Lc101, hQ101, l101, y101, z101⟩, st101⟩ := Jvm.LawKit.callS X0 hx (y := (⟨"java/math/BigInteger", "valueOf", "(J)Ljava/math/BigInteger;"⟩ : MethodName)) hown (mvT hZ (hw _ (List.mem_of_getElem? (i := 6) rfl))) (mvT hZ (hw _ (List.mem_of_getElem? (i := 7) rfl))) (mvT hZ (hw _ (List.mem_of_getElem? (i := 8) rfl))) (mvT hZ (hw _ (List.mem_of_getElem? (i := 9) rfl))) (by decide) (backOf (W := 0) (rmVal l Z a0 hw [] q1 h0 n0 X00 C) hZ (hw _ (List.mem_of_getElem? (i := 9) rfl)) (hw _ (List.mem_of_getElem? (i := 8) rfl)) (by decide) (by decide)) (g := (mkF m 1 #[.val (.long q1), .second, .val (.long (1 : Int64)), .second] [(.long q1)])) rfl (by rw [hml]; rfl) (argsL := [(.long q1)]) (rest := []) (lenOf pd_J_Ljava_math_BigInteger_ rfl) rfl (by show 2 * 0 + _ ≤ _; exact Nat.le_of_eq rfl) (hb hby d5_1) (fun _ _ => ⟨rfl, e0, (by decide : 0 + 2 ≤ _), (by decide : 0 + 8 ≤ _)⟩)
  dsimp only [Pt.U, Pt.locs, Pt.cells, Pt.slots] at X101 l101 y101 z101 st101 hQ101
  subst l101 y101 z101
  obtain ⟨r101, rfl, N101q, Kc101, B101⟩ := hQ101
  have N101 := Fr.app N0 N101q
  have y102 := (X00.keep Kc101 all0)
  obtain ⟨_, _, ⟨T103, L103, k103, n103⟩, -, X103, ⟨Lc103, hQ103, l103, y103, z103⟩, st103⟩ := Jvm.LawKit.callS X101 hx (y := (⟨"java/math/BigInteger", "valueOf", "(J)Ljava/math/BigInteger;"⟩ : MethodName)) hown (mvT hZ (hw _ (List.mem_of_getElem? (i := 6) rfl))) (mvT hZ (hw _ (List.mem_of_getElem? (i := 7) rfl))) (mvT hZ (hw _ (List.mem_of_getElem? (i := 8) rfl))) (mvT hZ (hw _ (List.mem_of_getElem? (i := 9) rfl))) (by decide) (backOf (W := 1) (rmVal l Z a0 hw [] (1 : Int64) T101.heap n0 y102 C) hZ (hw _ (List.mem_of_getElem? (i := 9) rfl)) (hw _ (List.mem_of_getElem? (i := 8) rfl)) (by decide) (by decide)) (g := (mkF m 5 #[.val (.long q1), .second, .val (.long (1 : Int64)), .second] [(.long (1 : Int64)), (.ref r101)])) rfl (by rw [hml]; rfl) (argsL := [(.long (1 : Int64))]) (rest := [(.ref r101)]) (lenOf pd_J_Ljava_math_BigInteger_ rfl) rfl (by show 2 * 0 + _ ≤ _; exact Nat.le_of_eq rfl) (hb hby d5_5) (fun _ _ => ⟨rfl, rfl, (by decide : 2 + 2 ≤ _), (by decide : 8 + 8 ≤ _)⟩)
  dsimp only [Pt.U, Pt.locs, Pt.cells, Pt.slots] at X103 l103 y103 z103 st103 hQ103
  subst l103 y103 z103
  obtain ⟨r103, rfl, N103q, Kc103, B103⟩ := hQ103
  have N103 := Fr.app N101 N103q
  have y104 := (y102.keep Kc103 all0)
  have y105 := (own_bigK B101 Kc103)
  obtain ⟨_, _, ⟨T106, L106, k106, n106⟩, -, X106, hs106, hg106, ⟨Lc106, hQ106, l106, y106, z106⟩, st106⟩ := callSS X103 hx (y := (⟨"com/example/granica/granica/Rational", "valueOf", "(Ljava/math/BigInteger;Ljava/math/BigInteger;)Lcom/example/granica/granica/Rational;"⟩ : MethodName)) hown (mvT hZ (hw _ (List.mem_of_getElem? (i := 26) rfl))) (mvT hZ (hw _ (List.mem_of_getElem? (i := 27) rfl))) (mvT hZ (hw _ (List.mem_of_getElem? (i := 2) rfl))) (mvT hZ (hw _ (List.mem_of_getElem? (i := 28) rfl))) (by decide) (backOfS (W := 0) (rmVB l Z a0 hw [] r101 r103 q1 wo T103.heap n0 y104 S_o B_o y105 B103) hZ (hw _ (List.mem_of_getElem? (i := 28) rfl)) (hw _ (List.mem_of_getElem? (i := 2) rfl)) (by decide) (by decide)) (g := (mkF m 8 #[.val (.long q1), .second, .val (.long (1 : Int64)), .second] [(.ref r103), (.ref r101)])) rfl (by rw [hml]; rfl) (argsL := [(.ref r101), (.ref r103)]) (rest := []) (lenOf pd_Ljava_math_BigInteger_Ljava_math_BigInteger__Lcom_example_granica_granica_Rational_ rfl) rfl (by show 2 * 0 + _ ≤ _; exact Nat.le_of_eq rfl) (hb hby d5_8) (fun _ _ => ⟨rfl, rfl, (by decide : 4 + 5 ≤ _), (by decide : 16 + 90 ≤ _)⟩)
  dsimp only [Pt.U, Pt.locs, Pt.cells, Pt.slots] at X106 l106 y106 z106 st106 hQ106 hs106 hg106
  subst l106 y106 z106
  obtain ⟨r106, rfl, N106q, Kc106, B106⟩ := hQ106
  have N106 := Fr.app N103 N106q
  have y107 := (Nat.le_trans (Nat.le_trans hk0 Kc101.1) Kc103.1)
  obtain ⟨X106r, hS106, hZ106, hown106⟩ := rebS hS0 y107 X106 hs106 hg106 hZ hown
  have y108 := ((((Keep.refl h0 []).trans Kc101 all0).trans Kc103 all0).trans Kc106 all0)
  obtain ⟨fs, hr, hrun, hended, hRW⟩ := X106r.leaveW hS106 (Nat.le_refl _) (v := some (.ref r106)) (fun h => by rw [Bd.returns] at h; cases h)
  refine ⟨_, _, pre0 _ ?_, hrun, hended, _, _, rfl, ?_, hRW.1, hRW.2.1, hRW.2.2.1, hRW.2.2.2.mono (by decide) (by decide)⟩
  · show Steps p.tables e below (s₁.setTop (mkF m 0 #[.val (.long q1), .second, .val (.long (1 : Int64)), .second] [])) _
    refine XS.lloadN X0.here hx rfl (hb hby d5_0) rfl ?_
    show Steps p.tables e below (s₁.setTop (mkF m 1 #[.val (.long q1), .second, .val (.long (1 : Int64)), .second] [(.long q1)])) _
    refine st101 _ ?_
    show Steps p.tables e below (T101.setTop (mkF m 4 #[.val (.long q1), .second, .val (.long (1 : Int64)), .second] [(.ref r101)])) _
    refine XS.lloadN X101.here hx rfl (hb hby d5_4) rfl ?_
    show Steps p.tables e below (T101.setTop (mkF m 5 #[.val (.long q1), .second, .val (.long (1 : Int64)), .second] [(.long (1 : Int64)), (.ref r101)])) _
    refine st103 _ ?_
    show Steps p.tables e below (T103.setTop (mkF m 8 #[.val (.long q1), .second, .val (.long (1 : Int64)), .second] [(.ref r103), (.ref r101)])) _
    refine st106.trans ?_
    show Steps p.tables e below (T106.setTop (mkF m 11 #[.val (.long q1), .second, .val (.long (1 : Int64)), .second] [(.ref r106)])) _
    jvm_step X106r.here [X106r.here.top, hx, (hb hby d5_11), X106r.method', Bd.returns, Value.isRef, FieldType.isReference]
    first | (intro acts; rw [hr _ acts rfl rfl rfl]) | rw [hr _ _ rfl rfl rfl]
    exact Steps.refl _
  · show QRat Z q1 h0 n0 _ T106.heap _
    exact ⟨_, rfl, N106, y108, B106⟩
set_option maxRecDepth 65536 in
set_option maxHeartbeats 40000000 in
theorem rmFin (l : Launch) (Z : State) (a0 : Array Value) (hw : ∀ d ∈ tables_1, d.before a0 Z = true) (ws : List Jvm.Cond) (a1 : Addr) (v : Int64) (h0 : Heap) (n0 : Nat) (X00 : Old Z n0 h0) (R1 : Rat Z h0 a1 v 1) :
    MetFree l (⟨"com/example/granica/granica/Rational", "isFinite", "()Z"⟩ : MethodName) (head1 (Jvm.Cond.code (⟨"com/example/granica/granica/Rational", "isFinite", "()Z"⟩ : MethodName) prog_30_method_20_code 1 (some .boolean) :: ws) ({ frames := 1, cells := 0, slots := 0, locals := 20 } : Room)) (fun a U => a = #[(.ref a1)] ∧ Z.Warmed39 U.vm ∧ U.heap = h0) (fun _ _ _ _ _ => True) (fun _ U o U' => ∃ rv rL, o = .returned rv ∧ Qs (some (.int (1 : Int32))) h0 n0 rv U'.heap rL ∧ FrameEnd U o U' rL ({ frames := 1, cells := 0, slots := 0, locals := 20 } : Room).cells ({ frames := 1, cells := 0, slots := 0, locals := 20 } : Room).slots) := by
  refine MetFree.of_bodySF (plainFor_of_name pn_11) hisR ?_
  intro p e s m args below meth c s₁ Bd hml0 hP hK
  obtain ⟨rfl, hZ, hh⟩ := hP
  have hx := Bd.exec
  have hby := Bd.bytes
  have hml : c.maxLocals = 1 := hml0
  have hown : s.vm.findClass "com/example/granica/granica/Rational" = some m.cls := findClass_of_methodNamed Bd.named
  have hnm := (name_of_methodNamed Bd.named Bd.method).1
  have X0 : Stand p l e ({ frames := 1, cells := 0, slots := 0, locals := 20 } : Room) s m #[(.ref a1)] below meth c s₁ [] 0 0 := Stand.of_body Bd
  have e0 : s₁.heap = h0 := by rw [← hh, Bd.state]; rfl
  have N0 := Fr.nil n0
  have pre0 : ∀ t, Steps p.tables e below (s₁.setTop (mkF m 0 #[.val (.ref a1)] [])) t → Steps p.tables e below (s₁.setTop (entryFrame m #[(.ref a1)] 1)) t := fun t k => castTop (ef_11 m a1) k
  obtain ⟨E_a1, n_a1, d_a1, Fn_a1, Fd_a1, Bn_a1, Bd_a1⟩ := R1
  obtain ⟨T101, X101, e101, st101⟩ := getF X0 hx hZ hown (host := "") (Or.inl (hw _ (List.mem_of_getElem? (i := 21) rfl))) Via.refl e0 Fd_a1 (g := (mkF m 1 #[.val (.ref a1)] [(.ref a1)])) rfl rfl (hb hby d11_1)
  obtain ⟨cq102, kq102, q102a, q102b, q102c⟩ := isOf hZ e101 Bd_a1.1
  obtain ⟨_, _, ⟨T102, L102, k102, n102⟩, -, X102, ⟨Lc102, hQ102, l102, y102, z102⟩, st102⟩ := X101.virtualBack hx (y := (⟨"java/math/BigInteger", "signum", "()I"⟩ : MethodName)) (z := (⟨"java/math/BigInteger", "signum", "()I"⟩ : MethodName)) hown (mvT hZ (hw _ (List.mem_of_getElem? (i := 42) rfl))) (mvT hZ (hw _ (List.mem_of_getElem? (i := 43) rfl))) (notFace_of_selects (args := #[]) (mvT hZ (hw _ (List.mem_of_getElem? (i := 45) rfl)))) (mvT hZ (hw _ (List.mem_of_getElem? (i := 45) rfl))) (mvT hZ (hw _ (List.mem_of_getElem? (i := 44) rfl))) (by decide) (backOf (W := 0) (rmSig l Z a0 hw [] d_a1 1 h0 n0 X00 Bd_a1) hZ (hw _ (List.mem_of_getElem? (i := 46) rfl)) (hw _ (List.mem_of_getElem? (i := 8) rfl)) (by decide) (by decide)) q102a q102c (g := (mkF m 4 #[.val (.ref a1)] [(.ref d_a1)])) rfl (by rw [hml]; rfl) (Steps.refl _) (argsL := []) (rest := []) (lenOf pd__I rfl) rfl (by show 2 * 0 + _ ≤ _; exact Nat.le_of_eq rfl) (hb hby d11_4) (fun _ _ => ⟨rfl, e101, (by decide : 0 + 0 ≤ _), (by decide : 0 + 0 ≤ _)⟩)
  dsimp only [Pt.U, Pt.locs, Pt.cells, Pt.slots] at X102 l102 y102 z102 st102 hQ102
  subst l102 y102 z102
  obtain ⟨rfl, N102q, eq102⟩ := hQ102
  have N102 := Fr.app N0 N102q
  have hc7 : ¬ ((own_sg 1) = (0 : Int32)) := by decide
  obtain ⟨fs, hr, hrun, hended, hW, hsame⟩ := X102.leave (v := some (.int (1 : Int32))) (fun h => by rw [Bd.returns] at h; cases h)
  refine ⟨_, _, pre0 _ ?_, hrun, hended, _, _, rfl, ?_, ⟨_, rfl⟩, hW, hsame.mono (by decide) (by decide)⟩
  · show Steps p.tables e below (s₁.setTop (mkF m 0 #[.val (.ref a1)] [])) _
    refine XS.aloadN X0.here hx rfl (hb hby d11_0) rfl rfl ?_
    show Steps p.tables e below (s₁.setTop (mkF m 1 #[.val (.ref a1)] [(.ref a1)])) _
    refine st101 _ ?_
    show Steps p.tables e below (T101.setTop (mkF m 4 #[.val (.ref a1)] [(.ref d_a1)])) _
    refine st102.trans ?_
    show Steps p.tables e below (T102.setTop (mkF m 7 #[.val (.ref a1)] [(.int (own_sg 1))])) _
    refine XS.ifNo X102.here hx rfl (hb hby d11_7) rfl ((if0 _ _).trans (feq hc7).1) ?_
    show Steps p.tables e below (T102.setTop (mkF m 10 #[.val (.ref a1)] [])) _
    refine XS.iconst X102.here hx rfl (hb hby d11_10) ?_
    show Steps p.tables e below (T102.setTop (mkF m 11 #[.val (.ref a1)] [(.int (1 : Int32))])) _
    refine XS.goto X102.here hx rfl (pc0 := 11) (pc' := 15) rfl (hb hby d11_11) (by decide) (by decide) ?_
    show Steps p.tables e below (T102.setTop (mkF m 15 #[.val (.ref a1)] [(.int (1 : Int32))])) _
    exact retN X102 hx (t := .boolean) Bd.returns (by simp) (hb hby d11_15) hr
  · show Qs (some (.int (1 : Int32))) h0 n0 _ T102.heap _
    rw [eq102]
    exact ⟨rfl, N102, rfl⟩
set_option maxRecDepth 65536 in
set_option maxHeartbeats 40000000 in
theorem rmREq (l : Launch) (Z : State) (a0 : Array Value) (hw : ∀ d ∈ tables_1, d.before a0 Z = true) (ws : List Jvm.Cond) (a1 : Addr) (a2 : Addr) (v : Int64) (h0 : Heap) (n0 : Nat) (X00 : Old Z n0 h0) (R1 : Rat Z h0 a1 v 1) (R2 : Rat Z h0 a2 v 1) :
    MetFree l (⟨"com/example/granica/granica/Rational", "equals", "(Ljava/lang/Object;)Z"⟩ : MethodName) (head1 (Jvm.Cond.code (⟨"com/example/granica/granica/Rational", "equals", "(Ljava/lang/Object;)Z"⟩ : MethodName) prog_30_method_34_code 3 (some .boolean) :: ws) ({ frames := 1, cells := 0, slots := 0, locals := 20 } : Room)) (fun a U => a = #[(.ref a1), (.ref a2)] ∧ Z.Warmed39 U.vm ∧ U.heap = h0) (fun _ _ _ _ _ => True) (fun _ U o U' => ∃ rv rL, o = .returned rv ∧ Qs (some (.int (1 : Int32))) h0 n0 rv U'.heap rL ∧ FrameEnd U o U' rL ({ frames := 1, cells := 0, slots := 0, locals := 20 } : Room).cells ({ frames := 1, cells := 0, slots := 0, locals := 20 } : Room).slots) := by
  refine MetFree.of_bodySF (plainFor_of_name pn_12) hisR ?_
  intro p e s m args below meth c s₁ Bd hml0 hP hK
  obtain ⟨rfl, hZ, hh⟩ := hP
  have hx := Bd.exec
  have hby := Bd.bytes
  have hml : c.maxLocals = 3 := hml0
  have hown : s.vm.findClass "com/example/granica/granica/Rational" = some m.cls := findClass_of_methodNamed Bd.named
  have hnm := (name_of_methodNamed Bd.named Bd.method).1
  have X0 : Stand p l e ({ frames := 1, cells := 0, slots := 0, locals := 20 } : Room) s m #[(.ref a1), (.ref a2)] below meth c s₁ [] 0 0 := Stand.of_body Bd
  have e0 : s₁.heap = h0 := by rw [← hh, Bd.state]; rfl
  have N0 := Fr.nil n0
  have pre0 : ∀ t, Steps p.tables e below (s₁.setTop (mkF m 0 #[.val (.ref a1), .val (.ref a2), .unset] [])) t → Steps p.tables e below (s₁.setTop (entryFrame m #[(.ref a1), (.ref a2)] 3)) t := fun t k => castTop (ef_12 m a1 a2) k
  obtain ⟨E_a1, n_a1, d_a1, Fn_a1, Fd_a1, Bn_a1, Bd_a1⟩ := R1
  obtain ⟨E_a2, n_a2, d_a2, Fn_a2, Fd_a2, Bn_a2, Bd_a2⟩ := R2
  obtain ⟨T101, X101, e101, st101⟩ := instY X0 hx hZ hown (hw _ (List.mem_of_getElem? (i := 4) rfl)) e0 (Ins.self E_a2) (g := (mkF m 1 #[.val (.ref a1), .val (.ref a2), .unset] [(.ref a2)])) rfl rfl (hb hby d12_1)
  have hc4 : ¬ ((1 : Int32) = (0 : Int32)) := by decide
  obtain ⟨T102, X102, e102, st102⟩ := castY X101 hx hZ hown (hw _ (List.mem_of_getElem? (i := 4) rfl)) e101 (Ins.self E_a2) (g := (mkF m 8 #[.val (.ref a1), .val (.ref a2), .unset] [(.ref a2)])) rfl rfl (hb hby d12_8)
  obtain ⟨T103, X103, e103, st103⟩ := getF X102 hx hZ hown (host := "") (Or.inl (hw _ (List.mem_of_getElem? (i := 19) rfl))) Via.refl e102 Fn_a1 (g := (mkF m 18 #[.val (.ref a1), .val (.ref a2), .val (.ref a2)] [(.ref a1)])) rfl rfl (hb hby d12_18)
  obtain ⟨T104, X104, e104, st104⟩ := getF X103 hx hZ hown (host := "") (Or.inl (hw _ (List.mem_of_getElem? (i := 19) rfl))) Via.refl e103 Fn_a2 (g := (mkF m 22 #[.val (.ref a1), .val (.ref a2), .val (.ref a2)] [(.ref a2), (.ref n_a1)])) rfl rfl (hb hby d12_22)
  obtain ⟨cq105, kq105, q105a, q105b, q105c⟩ := isOf hZ e104 Bn_a1.1
  obtain ⟨_, _, ⟨T105, L105, k105, n105⟩, -, X105, ⟨Lc105, hQ105, l105, y105, z105⟩, st105⟩ := X104.virtualBack hx (y := (⟨"java/math/BigInteger", "equals", "(Ljava/lang/Object;)Z"⟩ : MethodName)) (z := (⟨"java/math/BigInteger", "equals", "(Ljava/lang/Object;)Z"⟩ : MethodName)) hown (mvT hZ (hw _ (List.mem_of_getElem? (i := 52) rfl))) (mvT hZ (hw _ (List.mem_of_getElem? (i := 53) rfl))) (notFace_of_selects (args := #[]) (mvT hZ (hw _ (List.mem_of_getElem? (i := 55) rfl)))) (mvT hZ (hw _ (List.mem_of_getElem? (i := 55) rfl))) (mvT hZ (hw _ (List.mem_of_getElem? (i := 54) rfl))) (by decide) (backOf (W := 0) (rmEq l Z a0 hw [] n_a1 n_a2 v h0 n0 X00 Bn_a1 Bn_a2) hZ (hw _ (List.mem_of_getElem? (i := 56) rfl)) (hw _ (List.mem_of_getElem? (i := 8) rfl)) (by decide) (by decide)) q105a q105c (g := (mkF m 25 #[.val (.ref a1), .val (.ref a2), .val (.ref a2)] [(.ref n_a2), (.ref n_a1)])) rfl (by rw [hml]; rfl) (Steps.refl _) (argsL := [(.ref n_a2)]) (rest := []) (lenOf pd_Ljava_lang_Object__Z rfl) rfl (by show 2 * 0 + _ ≤ _; exact Nat.le_of_eq rfl) (hb hby d12_25) (fun _ _ => ⟨rfl, e104, (by decide : 0 + 0 ≤ _), (by decide : 0 + 0 ≤ _)⟩)
  dsimp only [Pt.U, Pt.locs, Pt.cells, Pt.slots] at X105 l105 y105 z105 st105 hQ105
  subst l105 y105 z105
  obtain ⟨rfl, N105q, eq105⟩ := hQ105
  have N105 := Fr.app N0 N105q
  have hc28 : ¬ ((1 : Int32) = (0 : Int32)) := by decide
  obtain ⟨T106, X106, e106, st106⟩ := getF X105 hx hZ hown (host := "") (Or.inl (hw _ (List.mem_of_getElem? (i := 21) rfl))) Via.refl eq105 Fd_a1 (g := (mkF m 32 #[.val (.ref a1), .val (.ref a2), .val (.ref a2)] [(.ref a1)])) rfl rfl (hb hby d12_32)
  obtain ⟨T107, X107, e107, st107⟩ := getF X106 hx hZ hown (host := "") (Or.inl (hw _ (List.mem_of_getElem? (i := 21) rfl))) Via.refl e106 Fd_a2 (g := (mkF m 36 #[.val (.ref a1), .val (.ref a2), .val (.ref a2)] [(.ref a2), (.ref d_a1)])) rfl rfl (hb hby d12_36)
  obtain ⟨cq108, kq108, q108a, q108b, q108c⟩ := isOf hZ e107 Bd_a1.1
  obtain ⟨_, _, ⟨T108, L108, k108, n108⟩, -, X108, ⟨Lc108, hQ108, l108, y108, z108⟩, st108⟩ := X107.virtualBack hx (y := (⟨"java/math/BigInteger", "equals", "(Ljava/lang/Object;)Z"⟩ : MethodName)) (z := (⟨"java/math/BigInteger", "equals", "(Ljava/lang/Object;)Z"⟩ : MethodName)) hown (mvT hZ (hw _ (List.mem_of_getElem? (i := 52) rfl))) (mvT hZ (hw _ (List.mem_of_getElem? (i := 53) rfl))) (notFace_of_selects (args := #[]) (mvT hZ (hw _ (List.mem_of_getElem? (i := 55) rfl)))) (mvT hZ (hw _ (List.mem_of_getElem? (i := 55) rfl))) (mvT hZ (hw _ (List.mem_of_getElem? (i := 54) rfl))) (by decide) (backOf (W := 0) (rmEq l Z a0 hw [] d_a1 d_a2 1 h0 n0 X00 Bd_a1 Bd_a2) hZ (hw _ (List.mem_of_getElem? (i := 56) rfl)) (hw _ (List.mem_of_getElem? (i := 8) rfl)) (by decide) (by decide)) q108a q108c (g := (mkF m 39 #[.val (.ref a1), .val (.ref a2), .val (.ref a2)] [(.ref d_a2), (.ref d_a1)])) rfl (by rw [hml]; rfl) (Steps.refl _) (argsL := [(.ref d_a2)]) (rest := []) (lenOf pd_Ljava_lang_Object__Z rfl) rfl (by show 2 * 0 + _ ≤ _; exact Nat.le_of_eq rfl) (hb hby d12_39) (fun _ _ => ⟨rfl, e107, (by decide : 0 + 0 ≤ _), (by decide : 0 + 0 ≤ _)⟩)
  dsimp only [Pt.U, Pt.locs, Pt.cells, Pt.slots] at X108 l108 y108 z108 st108 hQ108
  subst l108 y108 z108
  obtain ⟨rfl, N108q, eq108⟩ := hQ108
  have N108 := Fr.app N105 N108q
  have hc42 : ¬ ((1 : Int32) = (0 : Int32)) := by decide
  obtain ⟨fs, hr, hrun, hended, hW, hsame⟩ := X108.leave (v := some (.int (1 : Int32))) (fun h => by rw [Bd.returns] at h; cases h)
  refine ⟨_, _, pre0 _ ?_, hrun, hended, _, _, rfl, ?_, ⟨_, rfl⟩, hW, hsame.mono (by decide) (by decide)⟩
  · show Steps p.tables e below (s₁.setTop (mkF m 0 #[.val (.ref a1), .val (.ref a2), .unset] [])) _
    refine XS.aloadN X0.here hx rfl (hb hby d12_0) rfl rfl ?_
    show Steps p.tables e below (s₁.setTop (mkF m 1 #[.val (.ref a1), .val (.ref a2), .unset] [(.ref a2)])) _
    refine st101 _ ?_
    show Steps p.tables e below (T101.setTop (mkF m 4 #[.val (.ref a1), .val (.ref a2), .unset] [(.int (1 : Int32))])) _
    refine XS.ifNo X101.here hx rfl (hb hby d12_4) rfl ((if0 _ _).trans (feq hc4).1) ?_
    show Steps p.tables e below (T101.setTop (mkF m 7 #[.val (.ref a1), .val (.ref a2), .unset] [])) _
    refine XS.aloadN X101.here hx rfl (hb hby d12_7) rfl rfl ?_
    show Steps p.tables e below (T101.setTop (mkF m 8 #[.val (.ref a1), .val (.ref a2), .unset] [(.ref a2)])) _
    refine st102 _ ?_
    show Steps p.tables e below (T102.setTop (mkF m 11 #[.val (.ref a1), .val (.ref a2), .unset] [(.ref a2)])) _
    refine XS.astoreN X102.here hx rfl (hb hby d12_11) rfl rfl (l' := #[.val (.ref a1), .val (.ref a2), .val (.ref a2)]) rfl ?_
    show Steps p.tables e below (T102.setTop (mkF m 12 #[.val (.ref a1), .val (.ref a2), .val (.ref a2)] [])) _
    refine XS.goto X102.here hx rfl (pc0 := 12) (pc' := 17) rfl (hb hby d12_12) (by decide) (by decide) ?_
    show Steps p.tables e below (T102.setTop (mkF m 17 #[.val (.ref a1), .val (.ref a2), .val (.ref a2)] [])) _
    refine XS.aloadN X102.here hx rfl (hb hby d12_17) rfl rfl ?_
    show Steps p.tables e below (T102.setTop (mkF m 18 #[.val (.ref a1), .val (.ref a2), .val (.ref a2)] [(.ref a1)])) _
    refine st103 _ ?_
    show Steps p.tables e below (T103.setTop (mkF m 21 #[.val (.ref a1), .val (.ref a2), .val (.ref a2)] [(.ref n_a1)])) _
    refine XS.aloadN X103.here hx rfl (hb hby d12_21) rfl rfl ?_
    show Steps p.tables e below (T103.setTop (mkF m 22 #[.val (.ref a1), .val (.ref a2), .val (.ref a2)] [(.ref a2), (.ref n_a1)])) _
    refine st104 _ ?_
    show Steps p.tables e below (T104.setTop (mkF m 25 #[.val (.ref a1), .val (.ref a2), .val (.ref a2)] [(.ref n_a2), (.ref n_a1)])) _
    refine st105.trans ?_
    show Steps p.tables e below (T105.setTop (mkF m 28 #[.val (.ref a1), .val (.ref a2), .val (.ref a2)] [(.int (1 : Int32))])) _
    refine XS.ifNo X105.here hx rfl (hb hby d12_28) rfl ((if0 _ _).trans (feq hc28).1) ?_
    show Steps p.tables e below (T105.setTop (mkF m 31 #[.val (.ref a1), .val (.ref a2), .val (.ref a2)] [])) _
    refine XS.aloadN X105.here hx rfl (hb hby d12_31) rfl rfl ?_
    show Steps p.tables e below (T105.setTop (mkF m 32 #[.val (.ref a1), .val (.ref a2), .val (.ref a2)] [(.ref a1)])) _
    refine st106 _ ?_
    show Steps p.tables e below (T106.setTop (mkF m 35 #[.val (.ref a1), .val (.ref a2), .val (.ref a2)] [(.ref d_a1)])) _
    refine XS.aloadN X106.here hx rfl (hb hby d12_35) rfl rfl ?_
    show Steps p.tables e below (T106.setTop (mkF m 36 #[.val (.ref a1), .val (.ref a2), .val (.ref a2)] [(.ref a2), (.ref d_a1)])) _
    refine st107 _ ?_
    show Steps p.tables e below (T107.setTop (mkF m 39 #[.val (.ref a1), .val (.ref a2), .val (.ref a2)] [(.ref d_a2), (.ref d_a1)])) _
    refine st108.trans ?_
    show Steps p.tables e below (T108.setTop (mkF m 42 #[.val (.ref a1), .val (.ref a2), .val (.ref a2)] [(.int (1 : Int32))])) _
    refine XS.ifNo X108.here hx rfl (hb hby d12_42) rfl ((if0 _ _).trans (feq hc42).1) ?_
    show Steps p.tables e below (T108.setTop (mkF m 45 #[.val (.ref a1), .val (.ref a2), .val (.ref a2)] [])) _
    refine XS.iconst X108.here hx rfl (hb hby d12_45) ?_
    show Steps p.tables e below (T108.setTop (mkF m 46 #[.val (.ref a1), .val (.ref a2), .val (.ref a2)] [(.int (1 : Int32))])) _
    refine XS.goto X108.here hx rfl (pc0 := 46) (pc' := 50) rfl (hb hby d12_46) (by decide) (by decide) ?_
    show Steps p.tables e below (T108.setTop (mkF m 50 #[.val (.ref a1), .val (.ref a2), .val (.ref a2)] [(.int (1 : Int32))])) _
    exact retN X108 hx (t := .boolean) Bd.returns (by simp) (hb hby d12_50) hr
  · show Qs (some (.int (1 : Int32))) h0 n0 _ T108.heap _
    rw [eq108]
    exact ⟨rfl, N108, rfl⟩
set_option maxRecDepth 65536 in
set_option maxHeartbeats 40000000 in
theorem rmRSg (l : Launch) (Z : State) (a0 : Array Value) (hw : ∀ d ∈ tables_1, d.before a0 Z = true) (ws : List Jvm.Cond) (a1 : Addr) (v : Int64) (h0 : Heap) (n0 : Nat) (X00 : Old Z n0 h0) (R1 : Rat Z h0 a1 v 1) :
    MetFree l (⟨"com/example/granica/granica/Rational", "signum", "()I"⟩ : MethodName) (head1 (Jvm.Cond.code (⟨"com/example/granica/granica/Rational", "signum", "()I"⟩ : MethodName) prog_30_method_21_code 1 (some .int) :: ws) ({ frames := 1, cells := 0, slots := 0, locals := 20 } : Room)) (fun a U => a = #[(.ref a1)] ∧ Z.Warmed39 U.vm ∧ U.heap = h0) (fun _ _ _ _ _ => True) (fun _ U o U' => ∃ rv rL, o = .returned rv ∧ Qs (some (.int (own_sg v))) h0 n0 rv U'.heap rL ∧ FrameEnd U o U' rL ({ frames := 1, cells := 0, slots := 0, locals := 20 } : Room).cells ({ frames := 1, cells := 0, slots := 0, locals := 20 } : Room).slots) := by
  refine MetFree.of_bodySF (plainFor_of_name pn_13) hisR ?_
  intro p e s m args below meth c s₁ Bd hml0 hP hK
  obtain ⟨rfl, hZ, hh⟩ := hP
  have hx := Bd.exec
  have hby := Bd.bytes
  have hml : c.maxLocals = 1 := hml0
  have hown : s.vm.findClass "com/example/granica/granica/Rational" = some m.cls := findClass_of_methodNamed Bd.named
  have hnm := (name_of_methodNamed Bd.named Bd.method).1
  have X0 : Stand p l e ({ frames := 1, cells := 0, slots := 0, locals := 20 } : Room) s m #[(.ref a1)] below meth c s₁ [] 0 0 := Stand.of_body Bd
  have e0 : s₁.heap = h0 := by rw [← hh, Bd.state]; rfl
  have N0 := Fr.nil n0
  have pre0 : ∀ t, Steps p.tables e below (s₁.setTop (mkF m 0 #[.val (.ref a1)] [])) t → Steps p.tables e below (s₁.setTop (entryFrame m #[(.ref a1)] 1)) t := fun t k => castTop (ef_13 m a1) k
  obtain ⟨E_a1, n_a1, d_a1, Fn_a1, Fd_a1, Bn_a1, Bd_a1⟩ := R1
  obtain ⟨T101, X101, e101, st101⟩ := getF X0 hx hZ hown (host := "") (Or.inl (hw _ (List.mem_of_getElem? (i := 19) rfl))) Via.refl e0 Fn_a1 (g := (mkF m 1 #[.val (.ref a1)] [(.ref a1)])) rfl rfl (hb hby d13_1)
  obtain ⟨cq102, kq102, q102a, q102b, q102c⟩ := isOf hZ e101 Bn_a1.1
  obtain ⟨_, _, ⟨T102, L102, k102, n102⟩, -, X102, ⟨Lc102, hQ102, l102, y102, z102⟩, st102⟩ := X101.virtualBack hx (y := (⟨"java/math/BigInteger", "signum", "()I"⟩ : MethodName)) (z := (⟨"java/math/BigInteger", "signum", "()I"⟩ : MethodName)) hown (mvT hZ (hw _ (List.mem_of_getElem? (i := 42) rfl))) (mvT hZ (hw _ (List.mem_of_getElem? (i := 43) rfl))) (notFace_of_selects (args := #[]) (mvT hZ (hw _ (List.mem_of_getElem? (i := 45) rfl)))) (mvT hZ (hw _ (List.mem_of_getElem? (i := 45) rfl))) (mvT hZ (hw _ (List.mem_of_getElem? (i := 44) rfl))) (by decide) (backOf (W := 0) (rmSig l Z a0 hw [] n_a1 v h0 n0 X00 Bn_a1) hZ (hw _ (List.mem_of_getElem? (i := 46) rfl)) (hw _ (List.mem_of_getElem? (i := 8) rfl)) (by decide) (by decide)) q102a q102c (g := (mkF m 4 #[.val (.ref a1)] [(.ref n_a1)])) rfl (by rw [hml]; rfl) (Steps.refl _) (argsL := []) (rest := []) (lenOf pd__I rfl) rfl (by show 2 * 0 + _ ≤ _; exact Nat.le_of_eq rfl) (hb hby d13_4) (fun _ _ => ⟨rfl, e101, (by decide : 0 + 0 ≤ _), (by decide : 0 + 0 ≤ _)⟩)
  dsimp only [Pt.U, Pt.locs, Pt.cells, Pt.slots] at X102 l102 y102 z102 st102 hQ102
  subst l102 y102 z102
  obtain ⟨rfl, N102q, eq102⟩ := hQ102
  have N102 := Fr.app N0 N102q
  obtain ⟨fs, hr, hrun, hended, hW, hsame⟩ := X102.leave (v := some (.int (own_sg v))) (fun h => by rw [Bd.returns] at h; cases h)
  refine ⟨_, _, pre0 _ ?_, hrun, hended, _, _, rfl, ?_, ⟨_, rfl⟩, hW, hsame.mono (by decide) (by decide)⟩
  · show Steps p.tables e below (s₁.setTop (mkF m 0 #[.val (.ref a1)] [])) _
    refine XS.aloadN X0.here hx rfl (hb hby d13_0) rfl rfl ?_
    show Steps p.tables e below (s₁.setTop (mkF m 1 #[.val (.ref a1)] [(.ref a1)])) _
    refine st101 _ ?_
    show Steps p.tables e below (T101.setTop (mkF m 4 #[.val (.ref a1)] [(.ref n_a1)])) _
    refine st102.trans ?_
    show Steps p.tables e below (T102.setTop (mkF m 7 #[.val (.ref a1)] [(.int (own_sg v))])) _
    exact retI X102 hx Bd.returns (hb hby d13_7) hr
  · show Qs (some (.int (own_sg v))) h0 n0 _ T102.heap _
    rw [eq102]
    exact ⟨rfl, N102, rfl⟩
set_option maxRecDepth 65536 in
set_option maxHeartbeats 40000000 in
theorem rmCM_12 (l : Launch) (Z : State) (a0 : Array Value) (hw : ∀ d ∈ tables_1, d.before a0 Z = true) (ws : List Jvm.Cond) (a1 : Addr) (a2 : Addr) (t1 : Addr) (t2 : Addr) (k1 : ClassId) (k2 : ClassId) (x0 : Int32) (y0 : Int32) (y1 : Int32) (h0 : Heap) (n0 : Nat) (X00 : Old Z n0 h0) (M1 : Fld Z h0 a1 BI "mag" "[I" (.ref t1)) (M2 : Fld Z h0 a2 BI "mag" "[I" (.ref t2)) (V1 : Arv Z h0 t1 k1 .int (1 : Int32) [(.int x0)] (.int (0 : Int32))) (V2 : Arv Z h0 t2 k2 .int (2 : Int32) [(.int y0), (.int y1)] (.int (0 : Int32))) :
    MetFree l (⟨"java/math/BigInteger", "compareMagnitude", "(Ljava/math/BigInteger;)I"⟩ : MethodName) (head1 (Jvm.Cond.code (⟨"java/math/BigInteger", "compareMagnitude", "(Ljava/math/BigInteger;)I"⟩ : MethodName) jdk_2097_method_122_code 9 (some .int) :: ws) ({ frames := 0, cells := 0, slots := 0, locals := 0 } : Room)) (fun a U => a = #[(.ref a1), (.ref a2)] ∧ Z.Warmed39 U.vm ∧ U.heap = h0) (fun _ _ _ _ _ => True) (fun _ U o U' => ∃ rv rL, o = .returned rv ∧ Qs (some (.int (own_cm [x0] [y0, y1]))) h0 n0 rv U'.heap rL ∧ FrameEnd U o U' rL ({ frames := 0, cells := 0, slots := 0, locals := 0 } : Room).cells ({ frames := 0, cells := 0, slots := 0, locals := 0 } : Room).slots) := by
  refine MetFree.of_bodySF (plainFor_of_name pn_17) hisR ?_
  intro p e s m args below meth c s₁ Bd hml0 hP hK
  obtain ⟨rfl, hZ, hh⟩ := hP
  have hx := Bd.exec
  have hby := Bd.bytes
  have hml : c.maxLocals = 9 := hml0
  have hown : s.vm.findClass "java/math/BigInteger" = some m.cls := findClass_of_methodNamed Bd.named
  have hnm := (name_of_methodNamed Bd.named Bd.method).1
  have X0 : Stand p l e ({ frames := 0, cells := 0, slots := 0, locals := 0 } : Room) s m #[(.ref a1), (.ref a2)] below meth c s₁ [] 0 0 := Stand.of_body Bd
  have e0 : s₁.heap = h0 := by rw [← hh, Bd.state]; rfl
  have N0 := Fr.nil n0
  have pre0 : ∀ t, Steps p.tables e below (s₁.setTop (mkF m 0 #[.val (.ref a1), .val (.ref a2), .unset, .unset, .unset, .unset, .unset, .unset, .unset] [])) t → Steps p.tables e below (s₁.setTop (entryFrame m #[(.ref a1), (.ref a2)] 9)) t := fun t k => castTop (ef_17 m a1 a2) k
  obtain ⟨T101, X101, e101, st101⟩ := getF X0 hx hZ hown (host := "") (Or.inl (hw _ (List.mem_of_getElem? (i := 92) rfl))) Via.refl e0 M1 (g := (mkF m 1 #[.val (.ref a1), .val (.ref a2), .unset, .unset, .unset, .unset, .unset, .unset, .unset] [(.ref a1)])) rfl rfl (hb hby d17_1)
  obtain ⟨cl102, Ar102, q102, S102, M102, H102, G102⟩ := id V1
  obtain ⟨T103, X103, e103, st103⟩ := getF X101 hx hZ hown (host := "") (Or.inl (hw _ (List.mem_of_getElem? (i := 92) rfl))) Via.refl e101 M2 (g := (mkF m 9 #[.val (.ref a1), .val (.ref a2), .val (.ref t1), .val (.int (1 : Int32)), .unset, .unset, .unset, .unset, .unset] [(.ref a2)])) rfl rfl (hb hby d17_9)
  obtain ⟨cl104, Ar104, q104, S104, M104, H104, G104⟩ := id V2
  have hc22 : (1 : Int32) < (2 : Int32) := by decide
  obtain ⟨fs, hr, hrun, hended, hW, hsame⟩ := X103.leave (v := some (.int (-1 : Int32))) (fun h => by rw [Bd.returns] at h; cases h)
  refine ⟨_, _, pre0 _ ?_, hrun, hended, _, _, rfl, ?_, ⟨_, rfl⟩, hW, hsame.mono (by decide) (by decide)⟩
  · show Steps p.tables e below (s₁.setTop (mkF m 0 #[.val (.ref a1), .val (.ref a2), .unset, .unset, .unset, .unset, .unset, .unset, .unset] [])) _
    refine XS.aloadN X0.here hx rfl (hb hby d17_0) rfl rfl ?_
    show Steps p.tables e below (s₁.setTop (mkF m 1 #[.val (.ref a1), .val (.ref a2), .unset, .unset, .unset, .unset, .unset, .unset, .unset] [(.ref a1)])) _
    refine st101 _ ?_
    show Steps p.tables e below (T101.setTop (mkF m 4 #[.val (.ref a1), .val (.ref a2), .unset, .unset, .unset, .unset, .unset, .unset, .unset] [(.ref t1)])) _
    refine XS.astoreN X101.here hx rfl (hb hby d17_4) rfl rfl (l' := #[.val (.ref a1), .val (.ref a2), .val (.ref t1), .unset, .unset, .unset, .unset, .unset, .unset]) rfl ?_
    show Steps p.tables e below (T101.setTop (mkF m 5 #[.val (.ref a1), .val (.ref a2), .val (.ref t1), .unset, .unset, .unset, .unset, .unset, .unset] [])) _
    refine XS.aloadN X101.here hx rfl (hb hby d17_5) rfl rfl ?_
    show Steps p.tables e below (T101.setTop (mkF m 6 #[.val (.ref a1), .val (.ref a2), .val (.ref t1), .unset, .unset, .unset, .unset, .unset, .unset] [(.ref t1)])) _
    refine X101.arraylength hx (by rw [e101]; exact Ar102.1) (State.isArrayOf_alike hZ.alike Ar102.2.1) (g := (mkF m 6 #[.val (.ref a1), .val (.ref a2), .val (.ref t1), .unset, .unset, .unset, .unset, .unset, .unset] [(.ref t1)])) rfl rfl (hb hby d17_6) _ ?_
    rw [len_of S102 M102]
    show Steps p.tables e below (T101.setTop (mkF m 7 #[.val (.ref a1), .val (.ref a2), .val (.ref t1), .unset, .unset, .unset, .unset, .unset, .unset] [(.int (1 : Int32))])) _
    refine XS.istoreN X101.here hx rfl (hb hby d17_7) rfl (l' := #[.val (.ref a1), .val (.ref a2), .val (.ref t1), .val (.int (1 : Int32)), .unset, .unset, .unset, .unset, .unset]) rfl ?_
    show Steps p.tables e below (T101.setTop (mkF m 8 #[.val (.ref a1), .val (.ref a2), .val (.ref t1), .val (.int (1 : Int32)), .unset, .unset, .unset, .unset, .unset] [])) _
    refine XS.aloadN X101.here hx rfl (hb hby d17_8) rfl rfl ?_
    show Steps p.tables e below (T101.setTop (mkF m 9 #[.val (.ref a1), .val (.ref a2), .val (.ref t1), .val (.int (1 : Int32)), .unset, .unset, .unset, .unset, .unset] [(.ref a2)])) _
    refine st103 _ ?_
    show Steps p.tables e below (T103.setTop (mkF m 12 #[.val (.ref a1), .val (.ref a2), .val (.ref t1), .val (.int (1 : Int32)), .unset, .unset, .unset, .unset, .unset] [(.ref t2)])) _
    refine XS.astore X103.here hx rfl (hb hby d17_12) rfl rfl (l' := #[.val (.ref a1), .val (.ref a2), .val (.ref t1), .val (.int (1 : Int32)), .val (.ref t2), .unset, .unset, .unset, .unset]) rfl ?_
    show Steps p.tables e below (T103.setTop (mkF m 14 #[.val (.ref a1), .val (.ref a2), .val (.ref t1), .val (.int (1 : Int32)), .val (.ref t2), .unset, .unset, .unset, .unset] [])) _
    refine XS.aload X103.here hx rfl (hb hby d17_14) rfl rfl ?_
    show Steps p.tables e below (T103.setTop (mkF m 16 #[.val (.ref a1), .val (.ref a2), .val (.ref t1), .val (.int (1 : Int32)), .val (.ref t2), .unset, .unset, .unset, .unset] [(.ref t2)])) _
    refine X103.arraylength hx (by rw [e103]; exact Ar104.1) (State.isArrayOf_alike hZ.alike Ar104.2.1) (g := (mkF m 16 #[.val (.ref a1), .val (.ref a2), .val (.ref t1), .val (.int (1 : Int32)), .val (.ref t2), .unset, .unset, .unset, .unset] [(.ref t2)])) rfl rfl (hb hby d17_16) _ ?_
    rw [len_of S104 M104]
    show Steps p.tables e below (T103.setTop (mkF m 17 #[.val (.ref a1), .val (.ref a2), .val (.ref t1), .val (.int (1 : Int32)), .val (.ref t2), .unset, .unset, .unset, .unset] [(.int (2 : Int32))])) _
    refine XS.istore X103.here hx rfl (hb hby d17_17) rfl (l' := #[.val (.ref a1), .val (.ref a2), .val (.ref t1), .val (.int (1 : Int32)), .val (.ref t2), .val (.int (2 : Int32)), .unset, .unset, .unset]) rfl ?_
    show Steps p.tables e below (T103.setTop (mkF m 19 #[.val (.ref a1), .val (.ref a2), .val (.ref t1), .val (.int (1 : Int32)), .val (.ref t2), .val (.int (2 : Int32)), .unset, .unset, .unset] [])) _
    refine XS.iloadN X103.here hx rfl (hb hby d17_19) rfl ?_
    show Steps p.tables e below (T103.setTop (mkF m 20 #[.val (.ref a1), .val (.ref a2), .val (.ref t1), .val (.int (1 : Int32)), .val (.ref t2), .val (.int (2 : Int32)), .unset, .unset, .unset] [(.int (1 : Int32))])) _
    refine XS.iload X103.here hx rfl (hb hby d17_20) rfl ?_
    show Steps p.tables e below (T103.setTop (mkF m 22 #[.val (.ref a1), .val (.ref a2), .val (.ref t1), .val (.int (1 : Int32)), .val (.ref t2), .val (.int (2 : Int32)), .unset, .unset, .unset] [(.int (2 : Int32)), (.int (1 : Int32))])) _
    refine XS.icmpNo X103.here hx rfl (hb hby d17_22) rfl (tlt hc22).2.1 ?_
    show Steps p.tables e below (T103.setTop (mkF m 25 #[.val (.ref a1), .val (.ref a2), .val (.ref t1), .val (.int (1 : Int32)), .val (.ref t2), .val (.int (2 : Int32)), .unset, .unset, .unset] [])) _
    refine XS.iconst X103.here hx rfl (hb hby d17_25) ?_
    show Steps p.tables e below (T103.setTop (mkF m 26 #[.val (.ref a1), .val (.ref a2), .val (.ref t1), .val (.int (1 : Int32)), .val (.ref t2), .val (.int (2 : Int32)), .unset, .unset, .unset] [(.int (-1 : Int32))])) _
    exact retI X103 hx Bd.returns (hb hby d17_26) hr
  · show Qs (some (.int (own_cm [x0] [y0, y1]))) h0 n0 _ T103.heap _
    rw [e103]
    exact ⟨rfl, N0, rfl⟩
set_option maxRecDepth 65536 in
set_option maxHeartbeats 40000000 in
theorem rmCM_21 (l : Launch) (Z : State) (a0 : Array Value) (hw : ∀ d ∈ tables_1, d.before a0 Z = true) (ws : List Jvm.Cond) (a1 : Addr) (a2 : Addr) (t1 : Addr) (t2 : Addr) (k1 : ClassId) (k2 : ClassId) (x0 : Int32) (x1 : Int32) (y0 : Int32) (h0 : Heap) (n0 : Nat) (X00 : Old Z n0 h0) (M1 : Fld Z h0 a1 BI "mag" "[I" (.ref t1)) (M2 : Fld Z h0 a2 BI "mag" "[I" (.ref t2)) (V1 : Arv Z h0 t1 k1 .int (2 : Int32) [(.int x0), (.int x1)] (.int (0 : Int32))) (V2 : Arv Z h0 t2 k2 .int (1 : Int32) [(.int y0)] (.int (0 : Int32))) :
    MetFree l (⟨"java/math/BigInteger", "compareMagnitude", "(Ljava/math/BigInteger;)I"⟩ : MethodName) (head1 (Jvm.Cond.code (⟨"java/math/BigInteger", "compareMagnitude", "(Ljava/math/BigInteger;)I"⟩ : MethodName) jdk_2097_method_122_code 9 (some .int) :: ws) ({ frames := 0, cells := 0, slots := 0, locals := 0 } : Room)) (fun a U => a = #[(.ref a1), (.ref a2)] ∧ Z.Warmed39 U.vm ∧ U.heap = h0) (fun _ _ _ _ _ => True) (fun _ U o U' => ∃ rv rL, o = .returned rv ∧ Qs (some (.int (own_cm [x0, x1] [y0]))) h0 n0 rv U'.heap rL ∧ FrameEnd U o U' rL ({ frames := 0, cells := 0, slots := 0, locals := 0 } : Room).cells ({ frames := 0, cells := 0, slots := 0, locals := 0 } : Room).slots) := by
  refine MetFree.of_bodySF (plainFor_of_name pn_17) hisR ?_
  intro p e s m args below meth c s₁ Bd hml0 hP hK
  obtain ⟨rfl, hZ, hh⟩ := hP
  have hx := Bd.exec
  have hby := Bd.bytes
  have hml : c.maxLocals = 9 := hml0
  have hown : s.vm.findClass "java/math/BigInteger" = some m.cls := findClass_of_methodNamed Bd.named
  have hnm := (name_of_methodNamed Bd.named Bd.method).1
  have X0 : Stand p l e ({ frames := 0, cells := 0, slots := 0, locals := 0 } : Room) s m #[(.ref a1), (.ref a2)] below meth c s₁ [] 0 0 := Stand.of_body Bd
  have e0 : s₁.heap = h0 := by rw [← hh, Bd.state]; rfl
  have N0 := Fr.nil n0
  have pre0 : ∀ t, Steps p.tables e below (s₁.setTop (mkF m 0 #[.val (.ref a1), .val (.ref a2), .unset, .unset, .unset, .unset, .unset, .unset, .unset] [])) t → Steps p.tables e below (s₁.setTop (entryFrame m #[(.ref a1), (.ref a2)] 9)) t := fun t k => castTop (ef_17 m a1 a2) k
  obtain ⟨T101, X101, e101, st101⟩ := getF X0 hx hZ hown (host := "") (Or.inl (hw _ (List.mem_of_getElem? (i := 92) rfl))) Via.refl e0 M1 (g := (mkF m 1 #[.val (.ref a1), .val (.ref a2), .unset, .unset, .unset, .unset, .unset, .unset, .unset] [(.ref a1)])) rfl rfl (hb hby d17_1)
  obtain ⟨cl102, Ar102, q102, S102, M102, H102, G102⟩ := id V1
  obtain ⟨T103, X103, e103, st103⟩ := getF X101 hx hZ hown (host := "") (Or.inl (hw _ (List.mem_of_getElem? (i := 92) rfl))) Via.refl e101 M2 (g := (mkF m 9 #[.val (.ref a1), .val (.ref a2), .val (.ref t1), .val (.int (2 : Int32)), .unset, .unset, .unset, .unset, .unset] [(.ref a2)])) rfl rfl (hb hby d17_9)
  obtain ⟨cl104, Ar104, q104, S104, M104, H104, G104⟩ := id V2
  have hc22 : ¬ ((2 : Int32) < (1 : Int32)) := by decide
  have hc30 : (1 : Int32) < (2 : Int32) := by decide
  obtain ⟨fs, hr, hrun, hended, hW, hsame⟩ := X103.leave (v := some (.int (1 : Int32))) (fun h => by rw [Bd.returns] at h; cases h)
  refine ⟨_, _, pre0 _ ?_, hrun, hended, _, _, rfl, ?_, ⟨_, rfl⟩, hW, hsame.mono (by decide) (by decide)⟩
  · show Steps p.tables e below (s₁.setTop (mkF m 0 #[.val (.ref a1), .val (.ref a2), .unset, .unset, .unset, .unset, .unset, .unset, .unset] [])) _
    refine XS.aloadN X0.here hx rfl (hb hby d17_0) rfl rfl ?_
    show Steps p.tables e below (s₁.setTop (mkF m 1 #[.val (.ref a1), .val (.ref a2), .unset, .unset, .unset, .unset, .unset, .unset, .unset] [(.ref a1)])) _
    refine st101 _ ?_
    show Steps p.tables e below (T101.setTop (mkF m 4 #[.val (.ref a1), .val (.ref a2), .unset, .unset, .unset, .unset, .unset, .unset, .unset] [(.ref t1)])) _
    refine XS.astoreN X101.here hx rfl (hb hby d17_4) rfl rfl (l' := #[.val (.ref a1), .val (.ref a2), .val (.ref t1), .unset, .unset, .unset, .unset, .unset, .unset]) rfl ?_
    show Steps p.tables e below (T101.setTop (mkF m 5 #[.val (.ref a1), .val (.ref a2), .val (.ref t1), .unset, .unset, .unset, .unset, .unset, .unset] [])) _
    refine XS.aloadN X101.here hx rfl (hb hby d17_5) rfl rfl ?_
    show Steps p.tables e below (T101.setTop (mkF m 6 #[.val (.ref a1), .val (.ref a2), .val (.ref t1), .unset, .unset, .unset, .unset, .unset, .unset] [(.ref t1)])) _
    refine X101.arraylength hx (by rw [e101]; exact Ar102.1) (State.isArrayOf_alike hZ.alike Ar102.2.1) (g := (mkF m 6 #[.val (.ref a1), .val (.ref a2), .val (.ref t1), .unset, .unset, .unset, .unset, .unset, .unset] [(.ref t1)])) rfl rfl (hb hby d17_6) _ ?_
    rw [len_of S102 M102]
    show Steps p.tables e below (T101.setTop (mkF m 7 #[.val (.ref a1), .val (.ref a2), .val (.ref t1), .unset, .unset, .unset, .unset, .unset, .unset] [(.int (2 : Int32))])) _
    refine XS.istoreN X101.here hx rfl (hb hby d17_7) rfl (l' := #[.val (.ref a1), .val (.ref a2), .val (.ref t1), .val (.int (2 : Int32)), .unset, .unset, .unset, .unset, .unset]) rfl ?_
    show Steps p.tables e below (T101.setTop (mkF m 8 #[.val (.ref a1), .val (.ref a2), .val (.ref t1), .val (.int (2 : Int32)), .unset, .unset, .unset, .unset, .unset] [])) _
    refine XS.aloadN X101.here hx rfl (hb hby d17_8) rfl rfl ?_
    show Steps p.tables e below (T101.setTop (mkF m 9 #[.val (.ref a1), .val (.ref a2), .val (.ref t1), .val (.int (2 : Int32)), .unset, .unset, .unset, .unset, .unset] [(.ref a2)])) _
    refine st103 _ ?_
    show Steps p.tables e below (T103.setTop (mkF m 12 #[.val (.ref a1), .val (.ref a2), .val (.ref t1), .val (.int (2 : Int32)), .unset, .unset, .unset, .unset, .unset] [(.ref t2)])) _
    refine XS.astore X103.here hx rfl (hb hby d17_12) rfl rfl (l' := #[.val (.ref a1), .val (.ref a2), .val (.ref t1), .val (.int (2 : Int32)), .val (.ref t2), .unset, .unset, .unset, .unset]) rfl ?_
    show Steps p.tables e below (T103.setTop (mkF m 14 #[.val (.ref a1), .val (.ref a2), .val (.ref t1), .val (.int (2 : Int32)), .val (.ref t2), .unset, .unset, .unset, .unset] [])) _
    refine XS.aload X103.here hx rfl (hb hby d17_14) rfl rfl ?_
    show Steps p.tables e below (T103.setTop (mkF m 16 #[.val (.ref a1), .val (.ref a2), .val (.ref t1), .val (.int (2 : Int32)), .val (.ref t2), .unset, .unset, .unset, .unset] [(.ref t2)])) _
    refine X103.arraylength hx (by rw [e103]; exact Ar104.1) (State.isArrayOf_alike hZ.alike Ar104.2.1) (g := (mkF m 16 #[.val (.ref a1), .val (.ref a2), .val (.ref t1), .val (.int (2 : Int32)), .val (.ref t2), .unset, .unset, .unset, .unset] [(.ref t2)])) rfl rfl (hb hby d17_16) _ ?_
    rw [len_of S104 M104]
    show Steps p.tables e below (T103.setTop (mkF m 17 #[.val (.ref a1), .val (.ref a2), .val (.ref t1), .val (.int (2 : Int32)), .val (.ref t2), .unset, .unset, .unset, .unset] [(.int (1 : Int32))])) _
    refine XS.istore X103.here hx rfl (hb hby d17_17) rfl (l' := #[.val (.ref a1), .val (.ref a2), .val (.ref t1), .val (.int (2 : Int32)), .val (.ref t2), .val (.int (1 : Int32)), .unset, .unset, .unset]) rfl ?_
    show Steps p.tables e below (T103.setTop (mkF m 19 #[.val (.ref a1), .val (.ref a2), .val (.ref t1), .val (.int (2 : Int32)), .val (.ref t2), .val (.int (1 : Int32)), .unset, .unset, .unset] [])) _
    refine XS.iloadN X103.here hx rfl (hb hby d17_19) rfl ?_
    show Steps p.tables e below (T103.setTop (mkF m 20 #[.val (.ref a1), .val (.ref a2), .val (.ref t1), .val (.int (2 : Int32)), .val (.ref t2), .val (.int (1 : Int32)), .unset, .unset, .unset] [(.int (2 : Int32))])) _
    refine XS.iload X103.here hx rfl (hb hby d17_20) rfl ?_
    show Steps p.tables e below (T103.setTop (mkF m 22 #[.val (.ref a1), .val (.ref a2), .val (.ref t1), .val (.int (2 : Int32)), .val (.ref t2), .val (.int (1 : Int32)), .unset, .unset, .unset] [(.int (1 : Int32)), (.int (2 : Int32))])) _
    refine XS.icmpYes X103.here hx rfl (pc0 := 22) (pc' := 27) rfl (hb hby d17_22) rfl (flt hc22).2.1 (by decide) (by decide) ?_
    show Steps p.tables e below (T103.setTop (mkF m 27 #[.val (.ref a1), .val (.ref a2), .val (.ref t1), .val (.int (2 : Int32)), .val (.ref t2), .val (.int (1 : Int32)), .unset, .unset, .unset] [])) _
    refine XS.iloadN X103.here hx rfl (hb hby d17_27) rfl ?_
    show Steps p.tables e below (T103.setTop (mkF m 28 #[.val (.ref a1), .val (.ref a2), .val (.ref t1), .val (.int (2 : Int32)), .val (.ref t2), .val (.int (1 : Int32)), .unset, .unset, .unset] [(.int (2 : Int32))])) _
    refine XS.iload X103.here hx rfl (hb hby d17_28) rfl ?_
    show Steps p.tables e below (T103.setTop (mkF m 30 #[.val (.ref a1), .val (.ref a2), .val (.ref t1), .val (.int (2 : Int32)), .val (.ref t2), .val (.int (1 : Int32)), .unset, .unset, .unset] [(.int (1 : Int32)), (.int (2 : Int32))])) _
    refine XS.icmpNo X103.here hx rfl (hb hby d17_30) rfl (tlt hc30).2.2.2 ?_
    show Steps p.tables e below (T103.setTop (mkF m 33 #[.val (.ref a1), .val (.ref a2), .val (.ref t1), .val (.int (2 : Int32)), .val (.ref t2), .val (.int (1 : Int32)), .unset, .unset, .unset] [])) _
    refine XS.iconst X103.here hx rfl (hb hby d17_33) ?_
    show Steps p.tables e below (T103.setTop (mkF m 34 #[.val (.ref a1), .val (.ref a2), .val (.ref t1), .val (.int (2 : Int32)), .val (.ref t2), .val (.int (1 : Int32)), .unset, .unset, .unset] [(.int (1 : Int32))])) _
    exact retI X103 hx Bd.returns (hb hby d17_34) hr
  · show Qs (some (.int (own_cm [x0, x1] [y0]))) h0 n0 _ T103.heap _
    rw [e103]
    exact ⟨rfl, N0, rfl⟩
set_option maxRecDepth 65536 in
set_option maxHeartbeats 40000000 in
theorem rmCM_1_0_l (l : Launch) (Z : State) (a0 : Array Value) (hw : ∀ d ∈ tables_1, d.before a0 Z = true) (ws : List Jvm.Cond) (a1 : Addr) (a2 : Addr) (t1 : Addr) (t2 : Addr) (k1 : ClassId) (k2 : ClassId) (x0 : Int32) (y0 : Int32) (h0 : Heap) (n0 : Nat) (X00 : Old Z n0 h0) (M1 : Fld Z h0 a1 BI "mag" "[I" (.ref t1)) (M2 : Fld Z h0 a2 BI "mag" "[I" (.ref t2)) (V1 : Arv Z h0 t1 k1 .int (1 : Int32) [(.int x0)] (.int (0 : Int32))) (V2 : Arv Z h0 t2 k2 .int (1 : Int32) [(.int y0)] (.int (0 : Int32))) (hn : ¬ (x0 = y0)) (hl : own_ux x0 < own_ux y0) :
    MetFree l (⟨"java/math/BigInteger", "compareMagnitude", "(Ljava/math/BigInteger;)I"⟩ : MethodName) (head1 (Jvm.Cond.code (⟨"java/math/BigInteger", "compareMagnitude", "(Ljava/math/BigInteger;)I"⟩ : MethodName) jdk_2097_method_122_code 9 (some .int) :: ws) ({ frames := 0, cells := 0, slots := 0, locals := 0 } : Room)) (fun a U => a = #[(.ref a1), (.ref a2)] ∧ Z.Warmed39 U.vm ∧ U.heap = h0) (fun _ _ _ _ _ => True) (fun _ U o U' => ∃ rv rL, o = .returned rv ∧ Qs (some (.int (own_cm [x0] [y0]))) h0 n0 rv U'.heap rL ∧ FrameEnd U o U' rL ({ frames := 0, cells := 0, slots := 0, locals := 0 } : Room).cells ({ frames := 0, cells := 0, slots := 0, locals := 0 } : Room).slots) := by
  refine MetFree.of_bodySF (plainFor_of_name pn_17) hisR ?_
  intro p e s m args below meth c s₁ Bd hml0 hP hK
  obtain ⟨rfl, hZ, hh⟩ := hP
  have hx := Bd.exec
  have hby := Bd.bytes
  have hml : c.maxLocals = 9 := hml0
  have hown : s.vm.findClass "java/math/BigInteger" = some m.cls := findClass_of_methodNamed Bd.named
  have hnm := (name_of_methodNamed Bd.named Bd.method).1
  have X0 : Stand p l e ({ frames := 0, cells := 0, slots := 0, locals := 0 } : Room) s m #[(.ref a1), (.ref a2)] below meth c s₁ [] 0 0 := Stand.of_body Bd
  have e0 : s₁.heap = h0 := by rw [← hh, Bd.state]; rfl
  have N0 := Fr.nil n0
  have pre0 : ∀ t, Steps p.tables e below (s₁.setTop (mkF m 0 #[.val (.ref a1), .val (.ref a2), .unset, .unset, .unset, .unset, .unset, .unset, .unset] [])) t → Steps p.tables e below (s₁.setTop (entryFrame m #[(.ref a1), (.ref a2)] 9)) t := fun t k => castTop (ef_17 m a1 a2) k
  obtain ⟨T101, X101, e101, st101⟩ := getF X0 hx hZ hown (host := "") (Or.inl (hw _ (List.mem_of_getElem? (i := 92) rfl))) Via.refl e0 M1 (g := (mkF m 1 #[.val (.ref a1), .val (.ref a2), .unset, .unset, .unset, .unset, .unset, .unset, .unset] [(.ref a1)])) rfl rfl (hb hby d17_1)
  obtain ⟨cl102, Ar102, q102, S102, M102, H102, G102⟩ := id V1
  obtain ⟨T103, X103, e103, st103⟩ := getF X101 hx hZ hown (host := "") (Or.inl (hw _ (List.mem_of_getElem? (i := 92) rfl))) Via.refl e101 M2 (g := (mkF m 9 #[.val (.ref a1), .val (.ref a2), .val (.ref t1), .val (.int (1 : Int32)), .unset, .unset, .unset, .unset, .unset] [(.ref a2)])) rfl rfl (hb hby d17_9)
  obtain ⟨cl104, Ar104, q104, S104, M104, H104, G104⟩ := id V2
  have hc22 : ¬ ((1 : Int32) < (1 : Int32)) := by decide
  have hc30 : ¬ ((1 : Int32) < (1 : Int32)) := by decide
  have hc41 : (0 : Int32) < (1 : Int32) := by decide
  have hat105 : cl102.slots[((0 : Int32)).toNatClampNeg]? = some (.int x0) := by rw [show ((0 : Int32)).toNatClampNeg = 0 from by decide]; exact H102 0 (by rw [S102]; decide)
  have hat106 : cl104.slots[((0 : Int32)).toNatClampNeg]? = some (.int y0) := by rw [show ((0 : Int32)).toNatClampNeg = 0 from by decide]; exact H104 0 (by rw [S104]; decide)
  have hc61 : ¬ (x0 = y0) := hn
  have hc79 : (lcmpW ((x0.toInt64) &&& (4294967295 : Int64)) ((y0.toInt64) &&& (4294967295 : Int64))) < (0 : Int32) := (lw_lt _ _).mpr (own_mlt.mpr hl)
  obtain ⟨fs, hr, hrun, hended, hW, hsame⟩ := X103.leave (v := some (.int (-1 : Int32))) (fun h => by rw [Bd.returns] at h; cases h)
  refine ⟨_, _, pre0 _ ?_, hrun, hended, _, _, rfl, ?_, ⟨_, rfl⟩, hW, hsame.mono (by decide) (by decide)⟩
  · show Steps p.tables e below (s₁.setTop (mkF m 0 #[.val (.ref a1), .val (.ref a2), .unset, .unset, .unset, .unset, .unset, .unset, .unset] [])) _
    refine XS.aloadN X0.here hx rfl (hb hby d17_0) rfl rfl ?_
    show Steps p.tables e below (s₁.setTop (mkF m 1 #[.val (.ref a1), .val (.ref a2), .unset, .unset, .unset, .unset, .unset, .unset, .unset] [(.ref a1)])) _
    refine st101 _ ?_
    show Steps p.tables e below (T101.setTop (mkF m 4 #[.val (.ref a1), .val (.ref a2), .unset, .unset, .unset, .unset, .unset, .unset, .unset] [(.ref t1)])) _
    refine XS.astoreN X101.here hx rfl (hb hby d17_4) rfl rfl (l' := #[.val (.ref a1), .val (.ref a2), .val (.ref t1), .unset, .unset, .unset, .unset, .unset, .unset]) rfl ?_
    show Steps p.tables e below (T101.setTop (mkF m 5 #[.val (.ref a1), .val (.ref a2), .val (.ref t1), .unset, .unset, .unset, .unset, .unset, .unset] [])) _
    refine XS.aloadN X101.here hx rfl (hb hby d17_5) rfl rfl ?_
    show Steps p.tables e below (T101.setTop (mkF m 6 #[.val (.ref a1), .val (.ref a2), .val (.ref t1), .unset, .unset, .unset, .unset, .unset, .unset] [(.ref t1)])) _
    refine X101.arraylength hx (by rw [e101]; exact Ar102.1) (State.isArrayOf_alike hZ.alike Ar102.2.1) (g := (mkF m 6 #[.val (.ref a1), .val (.ref a2), .val (.ref t1), .unset, .unset, .unset, .unset, .unset, .unset] [(.ref t1)])) rfl rfl (hb hby d17_6) _ ?_
    rw [len_of S102 M102]
    show Steps p.tables e below (T101.setTop (mkF m 7 #[.val (.ref a1), .val (.ref a2), .val (.ref t1), .unset, .unset, .unset, .unset, .unset, .unset] [(.int (1 : Int32))])) _
    refine XS.istoreN X101.here hx rfl (hb hby d17_7) rfl (l' := #[.val (.ref a1), .val (.ref a2), .val (.ref t1), .val (.int (1 : Int32)), .unset, .unset, .unset, .unset, .unset]) rfl ?_
    show Steps p.tables e below (T101.setTop (mkF m 8 #[.val (.ref a1), .val (.ref a2), .val (.ref t1), .val (.int (1 : Int32)), .unset, .unset, .unset, .unset, .unset] [])) _
    refine XS.aloadN X101.here hx rfl (hb hby d17_8) rfl rfl ?_
    show Steps p.tables e below (T101.setTop (mkF m 9 #[.val (.ref a1), .val (.ref a2), .val (.ref t1), .val (.int (1 : Int32)), .unset, .unset, .unset, .unset, .unset] [(.ref a2)])) _
    refine st103 _ ?_
    show Steps p.tables e below (T103.setTop (mkF m 12 #[.val (.ref a1), .val (.ref a2), .val (.ref t1), .val (.int (1 : Int32)), .unset, .unset, .unset, .unset, .unset] [(.ref t2)])) _
    refine XS.astore X103.here hx rfl (hb hby d17_12) rfl rfl (l' := #[.val (.ref a1), .val (.ref a2), .val (.ref t1), .val (.int (1 : Int32)), .val (.ref t2), .unset, .unset, .unset, .unset]) rfl ?_
    show Steps p.tables e below (T103.setTop (mkF m 14 #[.val (.ref a1), .val (.ref a2), .val (.ref t1), .val (.int (1 : Int32)), .val (.ref t2), .unset, .unset, .unset, .unset] [])) _
    refine XS.aload X103.here hx rfl (hb hby d17_14) rfl rfl ?_
    show Steps p.tables e below (T103.setTop (mkF m 16 #[.val (.ref a1), .val (.ref a2), .val (.ref t1), .val (.int (1 : Int32)), .val (.ref t2), .unset, .unset, .unset, .unset] [(.ref t2)])) _
    refine X103.arraylength hx (by rw [e103]; exact Ar104.1) (State.isArrayOf_alike hZ.alike Ar104.2.1) (g := (mkF m 16 #[.val (.ref a1), .val (.ref a2), .val (.ref t1), .val (.int (1 : Int32)), .val (.ref t2), .unset, .unset, .unset, .unset] [(.ref t2)])) rfl rfl (hb hby d17_16) _ ?_
    rw [len_of S104 M104]
    show Steps p.tables e below (T103.setTop (mkF m 17 #[.val (.ref a1), .val (.ref a2), .val (.ref t1), .val (.int (1 : Int32)), .val (.ref t2), .unset, .unset, .unset, .unset] [(.int (1 : Int32))])) _
    refine XS.istore X103.here hx rfl (hb hby d17_17) rfl (l' := #[.val (.ref a1), .val (.ref a2), .val (.ref t1), .val (.int (1 : Int32)), .val (.ref t2), .val (.int (1 : Int32)), .unset, .unset, .unset]) rfl ?_
    show Steps p.tables e below (T103.setTop (mkF m 19 #[.val (.ref a1), .val (.ref a2), .val (.ref t1), .val (.int (1 : Int32)), .val (.ref t2), .val (.int (1 : Int32)), .unset, .unset, .unset] [])) _
    refine XS.iloadN X103.here hx rfl (hb hby d17_19) rfl ?_
    show Steps p.tables e below (T103.setTop (mkF m 20 #[.val (.ref a1), .val (.ref a2), .val (.ref t1), .val (.int (1 : Int32)), .val (.ref t2), .val (.int (1 : Int32)), .unset, .unset, .unset] [(.int (1 : Int32))])) _
    refine XS.iload X103.here hx rfl (hb hby d17_20) rfl ?_
    show Steps p.tables e below (T103.setTop (mkF m 22 #[.val (.ref a1), .val (.ref a2), .val (.ref t1), .val (.int (1 : Int32)), .val (.ref t2), .val (.int (1 : Int32)), .unset, .unset, .unset] [(.int (1 : Int32)), (.int (1 : Int32))])) _
    refine XS.icmpYes X103.here hx rfl (pc0 := 22) (pc' := 27) rfl (hb hby d17_22) rfl (flt hc22).2.1 (by decide) (by decide) ?_
    show Steps p.tables e below (T103.setTop (mkF m 27 #[.val (.ref a1), .val (.ref a2), .val (.ref t1), .val (.int (1 : Int32)), .val (.ref t2), .val (.int (1 : Int32)), .unset, .unset, .unset] [])) _
    refine XS.iloadN X103.here hx rfl (hb hby d17_27) rfl ?_
    show Steps p.tables e below (T103.setTop (mkF m 28 #[.val (.ref a1), .val (.ref a2), .val (.ref t1), .val (.int (1 : Int32)), .val (.ref t2), .val (.int (1 : Int32)), .unset, .unset, .unset] [(.int (1 : Int32))])) _
    refine XS.iload X103.here hx rfl (hb hby d17_28) rfl ?_
    show Steps p.tables e below (T103.setTop (mkF m 30 #[.val (.ref a1), .val (.ref a2), .val (.ref t1), .val (.int (1 : Int32)), .val (.ref t2), .val (.int (1 : Int32)), .unset, .unset, .unset] [(.int (1 : Int32)), (.int (1 : Int32))])) _
    refine XS.icmpYes X103.here hx rfl (pc0 := 30) (pc' := 35) rfl (hb hby d17_30) rfl (flt hc30).2.2.2 (by decide) (by decide) ?_
    show Steps p.tables e below (T103.setTop (mkF m 35 #[.val (.ref a1), .val (.ref a2), .val (.ref t1), .val (.int (1 : Int32)), .val (.ref t2), .val (.int (1 : Int32)), .unset, .unset, .unset] [])) _
    refine XS.iconst X103.here hx rfl (hb hby d17_35) ?_
    show Steps p.tables e below (T103.setTop (mkF m 36 #[.val (.ref a1), .val (.ref a2), .val (.ref t1), .val (.int (1 : Int32)), .val (.ref t2), .val (.int (1 : Int32)), .unset, .unset, .unset] [(.int (0 : Int32))])) _
    refine XS.istore X103.here hx rfl (hb hby d17_36) rfl (l' := #[.val (.ref a1), .val (.ref a2), .val (.ref t1), .val (.int (1 : Int32)), .val (.ref t2), .val (.int (1 : Int32)), .val (.int (0 : Int32)), .unset, .unset]) rfl ?_
    show Steps p.tables e below (T103.setTop (mkF m 38 #[.val (.ref a1), .val (.ref a2), .val (.ref t1), .val (.int (1 : Int32)), .val (.ref t2), .val (.int (1 : Int32)), .val (.int (0 : Int32)), .unset, .unset] [])) _
    refine XS.iload X103.here hx rfl (hb hby d17_38) rfl ?_
    show Steps p.tables e below (T103.setTop (mkF m 40 #[.val (.ref a1), .val (.ref a2), .val (.ref t1), .val (.int (1 : Int32)), .val (.ref t2), .val (.int (1 : Int32)), .val (.int (0 : Int32)), .unset, .unset] [(.int (0 : Int32))])) _
    refine XS.iloadN X103.here hx rfl (hb hby d17_40) rfl ?_
    show Steps p.tables e below (T103.setTop (mkF m 41 #[.val (.ref a1), .val (.ref a2), .val (.ref t1), .val (.int (1 : Int32)), .val (.ref t2), .val (.int (1 : Int32)), .val (.int (0 : Int32)), .unset, .unset] [(.int (1 : Int32)), (.int (0 : Int32))])) _
    refine XS.icmpNo X103.here hx rfl (hb hby d17_41) rfl (tlt hc41).2.1 ?_
    show Steps p.tables e below (T103.setTop (mkF m 44 #[.val (.ref a1), .val (.ref a2), .val (.ref t1), .val (.int (1 : Int32)), .val (.ref t2), .val (.int (1 : Int32)), .val (.int (0 : Int32)), .unset, .unset] [])) _
    refine XS.aloadN X103.here hx rfl (hb hby d17_44) rfl rfl ?_
    show Steps p.tables e below (T103.setTop (mkF m 45 #[.val (.ref a1), .val (.ref a2), .val (.ref t1), .val (.int (1 : Int32)), .val (.ref t2), .val (.int (1 : Int32)), .val (.int (0 : Int32)), .unset, .unset] [(.ref t1)])) _
    refine XS.iload X103.here hx rfl (hb hby d17_45) rfl ?_
    show Steps p.tables e below (T103.setTop (mkF m 47 #[.val (.ref a1), .val (.ref a2), .val (.ref t1), .val (.int (1 : Int32)), .val (.ref t2), .val (.int (1 : Int32)), .val (.int (0 : Int32)), .unset, .unset] [(.int (0 : Int32)), (.ref t1)])) _
    refine X103.iaload hx (j := (0 : Int32)) (v := (.int x0)) (by rw [e103]; exact Ar102.1) (State.isArrayOf_alike hZ.alike Ar102.2.1) Ar102.2.2 (inb_of S102 ⟨by decide, by decide⟩) hat105 (g := (mkF m 47 #[.val (.ref a1), .val (.ref a2), .val (.ref t1), .val (.int (1 : Int32)), .val (.ref t2), .val (.int (1 : Int32)), .val (.int (0 : Int32)), .unset, .unset] [(.int (0 : Int32)), (.ref t1)])) rfl rfl (hb hby d17_47) _ ?_
    show Steps p.tables e below (T103.setTop (mkF m 48 #[.val (.ref a1), .val (.ref a2), .val (.ref t1), .val (.int (1 : Int32)), .val (.ref t2), .val (.int (1 : Int32)), .val (.int (0 : Int32)), .unset, .unset] [(.int x0)])) _
    refine XS.istore X103.here hx rfl (hb hby d17_48) rfl (l' := #[.val (.ref a1), .val (.ref a2), .val (.ref t1), .val (.int (1 : Int32)), .val (.ref t2), .val (.int (1 : Int32)), .val (.int (0 : Int32)), .val (.int x0), .unset]) rfl ?_
    show Steps p.tables e below (T103.setTop (mkF m 50 #[.val (.ref a1), .val (.ref a2), .val (.ref t1), .val (.int (1 : Int32)), .val (.ref t2), .val (.int (1 : Int32)), .val (.int (0 : Int32)), .val (.int x0), .unset] [])) _
    refine XS.aload X103.here hx rfl (hb hby d17_50) rfl rfl ?_
    show Steps p.tables e below (T103.setTop (mkF m 52 #[.val (.ref a1), .val (.ref a2), .val (.ref t1), .val (.int (1 : Int32)), .val (.ref t2), .val (.int (1 : Int32)), .val (.int (0 : Int32)), .val (.int x0), .unset] [(.ref t2)])) _
    refine XS.iload X103.here hx rfl (hb hby d17_52) rfl ?_
    show Steps p.tables e below (T103.setTop (mkF m 54 #[.val (.ref a1), .val (.ref a2), .val (.ref t1), .val (.int (1 : Int32)), .val (.ref t2), .val (.int (1 : Int32)), .val (.int (0 : Int32)), .val (.int x0), .unset] [(.int (0 : Int32)), (.ref t2)])) _
    refine X103.iaload hx (j := (0 : Int32)) (v := (.int y0)) (by rw [e103]; exact Ar104.1) (State.isArrayOf_alike hZ.alike Ar104.2.1) Ar104.2.2 (inb_of S104 ⟨by decide, by decide⟩) hat106 (g := (mkF m 54 #[.val (.ref a1), .val (.ref a2), .val (.ref t1), .val (.int (1 : Int32)), .val (.ref t2), .val (.int (1 : Int32)), .val (.int (0 : Int32)), .val (.int x0), .unset] [(.int (0 : Int32)), (.ref t2)])) rfl rfl (hb hby d17_54) _ ?_
    show Steps p.tables e below (T103.setTop (mkF m 55 #[.val (.ref a1), .val (.ref a2), .val (.ref t1), .val (.int (1 : Int32)), .val (.ref t2), .val (.int (1 : Int32)), .val (.int (0 : Int32)), .val (.int x0), .unset] [(.int y0)])) _
    refine XS.istore X103.here hx rfl (hb hby d17_55) rfl (l' := #[.val (.ref a1), .val (.ref a2), .val (.ref t1), .val (.int (1 : Int32)), .val (.ref t2), .val (.int (1 : Int32)), .val (.int (0 : Int32)), .val (.int x0), .val (.int y0)]) rfl ?_
    show Steps p.tables e below (T103.setTop (mkF m 57 #[.val (.ref a1), .val (.ref a2), .val (.ref t1), .val (.int (1 : Int32)), .val (.ref t2), .val (.int (1 : Int32)), .val (.int (0 : Int32)), .val (.int x0), .val (.int y0)] [])) _
    refine XS.iload X103.here hx rfl (hb hby d17_57) rfl ?_
    show Steps p.tables e below (T103.setTop (mkF m 59 #[.val (.ref a1), .val (.ref a2), .val (.ref t1), .val (.int (1 : Int32)), .val (.ref t2), .val (.int (1 : Int32)), .val (.int (0 : Int32)), .val (.int x0), .val (.int y0)] [(.int x0)])) _
    refine XS.iload X103.here hx rfl (hb hby d17_59) rfl ?_
    show Steps p.tables e below (T103.setTop (mkF m 61 #[.val (.ref a1), .val (.ref a2), .val (.ref t1), .val (.int (1 : Int32)), .val (.ref t2), .val (.int (1 : Int32)), .val (.int (0 : Int32)), .val (.int x0), .val (.int y0)] [(.int y0), (.int x0)])) _
    refine XS.icmpNo X103.here hx rfl (hb hby d17_61) rfl (feq hc61).1 ?_
    show Steps p.tables e below (T103.setTop (mkF m 64 #[.val (.ref a1), .val (.ref a2), .val (.ref t1), .val (.int (1 : Int32)), .val (.ref t2), .val (.int (1 : Int32)), .val (.int (0 : Int32)), .val (.int x0), .val (.int y0)] [])) _
    refine XS.iload X103.here hx rfl (hb hby d17_64) rfl ?_
    show Steps p.tables e below (T103.setTop (mkF m 66 #[.val (.ref a1), .val (.ref a2), .val (.ref t1), .val (.int (1 : Int32)), .val (.ref t2), .val (.int (1 : Int32)), .val (.int (0 : Int32)), .val (.int x0), .val (.int y0)] [(.int x0)])) _
    refine XS.i2l X103.here hx rfl (hb hby d17_66) rfl ?_
    show Steps p.tables e below (T103.setTop (mkF m 67 #[.val (.ref a1), .val (.ref a2), .val (.ref t1), .val (.int (1 : Int32)), .val (.ref t2), .val (.int (1 : Int32)), .val (.int (0 : Int32)), .val (.int x0), .val (.int y0)] [(.long (x0.toInt64))])) _
    refine X103.ldc2Long hx hown (mvT hZ (hw _ (List.mem_of_getElem? (i := 94) rfl))) (g := (mkF m 67 #[.val (.ref a1), .val (.ref a2), .val (.ref t1), .val (.int (1 : Int32)), .val (.ref t2), .val (.int (1 : Int32)), .val (.int (0 : Int32)), .val (.int x0), .val (.int y0)] [(.long (x0.toInt64))])) rfl (hb hby d17_67) _ ?_
    show Steps p.tables e below (T103.setTop (mkF m 70 #[.val (.ref a1), .val (.ref a2), .val (.ref t1), .val (.int (1 : Int32)), .val (.ref t2), .val (.int (1 : Int32)), .val (.int (0 : Int32)), .val (.int x0), .val (.int y0)] [(.long (4294967295 : Int64)), (.long (x0.toInt64))])) _
    refine XS.land X103.here hx rfl (hb hby d17_70) rfl ?_
    show Steps p.tables e below (T103.setTop (mkF m 71 #[.val (.ref a1), .val (.ref a2), .val (.ref t1), .val (.int (1 : Int32)), .val (.ref t2), .val (.int (1 : Int32)), .val (.int (0 : Int32)), .val (.int x0), .val (.int y0)] [(.long ((x0.toInt64) &&& (4294967295 : Int64)))])) _
    refine XS.iload X103.here hx rfl (hb hby d17_71) rfl ?_
    show Steps p.tables e below (T103.setTop (mkF m 73 #[.val (.ref a1), .val (.ref a2), .val (.ref t1), .val (.int (1 : Int32)), .val (.ref t2), .val (.int (1 : Int32)), .val (.int (0 : Int32)), .val (.int x0), .val (.int y0)] [(.int y0), (.long ((x0.toInt64) &&& (4294967295 : Int64)))])) _
    refine XS.i2l X103.here hx rfl (hb hby d17_73) rfl ?_
    show Steps p.tables e below (T103.setTop (mkF m 74 #[.val (.ref a1), .val (.ref a2), .val (.ref t1), .val (.int (1 : Int32)), .val (.ref t2), .val (.int (1 : Int32)), .val (.int (0 : Int32)), .val (.int x0), .val (.int y0)] [(.long (y0.toInt64)), (.long ((x0.toInt64) &&& (4294967295 : Int64)))])) _
    refine X103.ldc2Long hx hown (mvT hZ (hw _ (List.mem_of_getElem? (i := 94) rfl))) (g := (mkF m 74 #[.val (.ref a1), .val (.ref a2), .val (.ref t1), .val (.int (1 : Int32)), .val (.ref t2), .val (.int (1 : Int32)), .val (.int (0 : Int32)), .val (.int x0), .val (.int y0)] [(.long (y0.toInt64)), (.long ((x0.toInt64) &&& (4294967295 : Int64)))])) rfl (hb hby d17_74) _ ?_
    show Steps p.tables e below (T103.setTop (mkF m 77 #[.val (.ref a1), .val (.ref a2), .val (.ref t1), .val (.int (1 : Int32)), .val (.ref t2), .val (.int (1 : Int32)), .val (.int (0 : Int32)), .val (.int x0), .val (.int y0)] [(.long (4294967295 : Int64)), (.long (y0.toInt64)), (.long ((x0.toInt64) &&& (4294967295 : Int64)))])) _
    refine XS.land X103.here hx rfl (hb hby d17_77) rfl ?_
    show Steps p.tables e below (T103.setTop (mkF m 78 #[.val (.ref a1), .val (.ref a2), .val (.ref t1), .val (.int (1 : Int32)), .val (.ref t2), .val (.int (1 : Int32)), .val (.int (0 : Int32)), .val (.int x0), .val (.int y0)] [(.long ((y0.toInt64) &&& (4294967295 : Int64))), (.long ((x0.toInt64) &&& (4294967295 : Int64)))])) _
    refine XS.lcmp X103.here hx rfl (hb hby d17_78) rfl ?_
    show Steps p.tables e below (T103.setTop (mkF m 79 #[.val (.ref a1), .val (.ref a2), .val (.ref t1), .val (.int (1 : Int32)), .val (.ref t2), .val (.int (1 : Int32)), .val (.int (0 : Int32)), .val (.int x0), .val (.int y0)] [(.int (lcmpW ((x0.toInt64) &&& (4294967295 : Int64)) ((y0.toInt64) &&& (4294967295 : Int64))))])) _
    refine XS.ifNo X103.here hx rfl (hb hby d17_79) rfl ((if0 _ _).trans (tlt hc79).2.1) ?_
    show Steps p.tables e below (T103.setTop (mkF m 82 #[.val (.ref a1), .val (.ref a2), .val (.ref t1), .val (.int (1 : Int32)), .val (.ref t2), .val (.int (1 : Int32)), .val (.int (0 : Int32)), .val (.int x0), .val (.int y0)] [])) _
    refine XS.iconst X103.here hx rfl (hb hby d17_82) ?_
    show Steps p.tables e below (T103.setTop (mkF m 83 #[.val (.ref a1), .val (.ref a2), .val (.ref t1), .val (.int (1 : Int32)), .val (.ref t2), .val (.int (1 : Int32)), .val (.int (0 : Int32)), .val (.int x0), .val (.int y0)] [(.int (-1 : Int32))])) _
    refine XS.goto X103.here hx rfl (pc0 := 83) (pc' := 87) rfl (hb hby d17_83) (by decide) (by decide) ?_
    show Steps p.tables e below (T103.setTop (mkF m 87 #[.val (.ref a1), .val (.ref a2), .val (.ref t1), .val (.int (1 : Int32)), .val (.ref t2), .val (.int (1 : Int32)), .val (.int (0 : Int32)), .val (.int x0), .val (.int y0)] [(.int (-1 : Int32))])) _
    exact retI X103 hx Bd.returns (hb hby d17_87) hr
  · show Qs (some (.int (own_cm [x0] [y0]))) h0 n0 _ T103.heap _
    rw [e103]
    exact ⟨by simp [own_cm, own_cm2, hn, hl], N0, rfl⟩
set_option maxRecDepth 65536 in
set_option maxHeartbeats 40000000 in
theorem rmCM_1_0_g (l : Launch) (Z : State) (a0 : Array Value) (hw : ∀ d ∈ tables_1, d.before a0 Z = true) (ws : List Jvm.Cond) (a1 : Addr) (a2 : Addr) (t1 : Addr) (t2 : Addr) (k1 : ClassId) (k2 : ClassId) (x0 : Int32) (y0 : Int32) (h0 : Heap) (n0 : Nat) (X00 : Old Z n0 h0) (M1 : Fld Z h0 a1 BI "mag" "[I" (.ref t1)) (M2 : Fld Z h0 a2 BI "mag" "[I" (.ref t2)) (V1 : Arv Z h0 t1 k1 .int (1 : Int32) [(.int x0)] (.int (0 : Int32))) (V2 : Arv Z h0 t2 k2 .int (1 : Int32) [(.int y0)] (.int (0 : Int32))) (hn : ¬ (x0 = y0)) (hl : ¬ (own_ux x0 < own_ux y0)) :
    MetFree l (⟨"java/math/BigInteger", "compareMagnitude", "(Ljava/math/BigInteger;)I"⟩ : MethodName) (head1 (Jvm.Cond.code (⟨"java/math/BigInteger", "compareMagnitude", "(Ljava/math/BigInteger;)I"⟩ : MethodName) jdk_2097_method_122_code 9 (some .int) :: ws) ({ frames := 0, cells := 0, slots := 0, locals := 0 } : Room)) (fun a U => a = #[(.ref a1), (.ref a2)] ∧ Z.Warmed39 U.vm ∧ U.heap = h0) (fun _ _ _ _ _ => True) (fun _ U o U' => ∃ rv rL, o = .returned rv ∧ Qs (some (.int (own_cm [x0] [y0]))) h0 n0 rv U'.heap rL ∧ FrameEnd U o U' rL ({ frames := 0, cells := 0, slots := 0, locals := 0 } : Room).cells ({ frames := 0, cells := 0, slots := 0, locals := 0 } : Room).slots) := by
  refine MetFree.of_bodySF (plainFor_of_name pn_17) hisR ?_
  intro p e s m args below meth c s₁ Bd hml0 hP hK
  obtain ⟨rfl, hZ, hh⟩ := hP
  have hx := Bd.exec
  have hby := Bd.bytes
  have hml : c.maxLocals = 9 := hml0
  have hown : s.vm.findClass "java/math/BigInteger" = some m.cls := findClass_of_methodNamed Bd.named
  have hnm := (name_of_methodNamed Bd.named Bd.method).1
  have X0 : Stand p l e ({ frames := 0, cells := 0, slots := 0, locals := 0 } : Room) s m #[(.ref a1), (.ref a2)] below meth c s₁ [] 0 0 := Stand.of_body Bd
  have e0 : s₁.heap = h0 := by rw [← hh, Bd.state]; rfl
  have N0 := Fr.nil n0
  have pre0 : ∀ t, Steps p.tables e below (s₁.setTop (mkF m 0 #[.val (.ref a1), .val (.ref a2), .unset, .unset, .unset, .unset, .unset, .unset, .unset] [])) t → Steps p.tables e below (s₁.setTop (entryFrame m #[(.ref a1), (.ref a2)] 9)) t := fun t k => castTop (ef_17 m a1 a2) k
  obtain ⟨T101, X101, e101, st101⟩ := getF X0 hx hZ hown (host := "") (Or.inl (hw _ (List.mem_of_getElem? (i := 92) rfl))) Via.refl e0 M1 (g := (mkF m 1 #[.val (.ref a1), .val (.ref a2), .unset, .unset, .unset, .unset, .unset, .unset, .unset] [(.ref a1)])) rfl rfl (hb hby d17_1)
  obtain ⟨cl102, Ar102, q102, S102, M102, H102, G102⟩ := id V1
  obtain ⟨T103, X103, e103, st103⟩ := getF X101 hx hZ hown (host := "") (Or.inl (hw _ (List.mem_of_getElem? (i := 92) rfl))) Via.refl e101 M2 (g := (mkF m 9 #[.val (.ref a1), .val (.ref a2), .val (.ref t1), .val (.int (1 : Int32)), .unset, .unset, .unset, .unset, .unset] [(.ref a2)])) rfl rfl (hb hby d17_9)
  obtain ⟨cl104, Ar104, q104, S104, M104, H104, G104⟩ := id V2
  have hc22 : ¬ ((1 : Int32) < (1 : Int32)) := by decide
  have hc30 : ¬ ((1 : Int32) < (1 : Int32)) := by decide
  have hc41 : (0 : Int32) < (1 : Int32) := by decide
  have hat105 : cl102.slots[((0 : Int32)).toNatClampNeg]? = some (.int x0) := by rw [show ((0 : Int32)).toNatClampNeg = 0 from by decide]; exact H102 0 (by rw [S102]; decide)
  have hat106 : cl104.slots[((0 : Int32)).toNatClampNeg]? = some (.int y0) := by rw [show ((0 : Int32)).toNatClampNeg = 0 from by decide]; exact H104 0 (by rw [S104]; decide)
  have hc61 : ¬ (x0 = y0) := hn
  have hc79 : ¬ ((lcmpW ((x0.toInt64) &&& (4294967295 : Int64)) ((y0.toInt64) &&& (4294967295 : Int64))) < (0 : Int32)) := fun q => hl (own_mlt.mp ((lw_lt _ _).mp q))
  obtain ⟨fs, hr, hrun, hended, hW, hsame⟩ := X103.leave (v := some (.int (1 : Int32))) (fun h => by rw [Bd.returns] at h; cases h)
  refine ⟨_, _, pre0 _ ?_, hrun, hended, _, _, rfl, ?_, ⟨_, rfl⟩, hW, hsame.mono (by decide) (by decide)⟩
  · show Steps p.tables e below (s₁.setTop (mkF m 0 #[.val (.ref a1), .val (.ref a2), .unset, .unset, .unset, .unset, .unset, .unset, .unset] [])) _
    refine XS.aloadN X0.here hx rfl (hb hby d17_0) rfl rfl ?_
    show Steps p.tables e below (s₁.setTop (mkF m 1 #[.val (.ref a1), .val (.ref a2), .unset, .unset, .unset, .unset, .unset, .unset, .unset] [(.ref a1)])) _
    refine st101 _ ?_
    show Steps p.tables e below (T101.setTop (mkF m 4 #[.val (.ref a1), .val (.ref a2), .unset, .unset, .unset, .unset, .unset, .unset, .unset] [(.ref t1)])) _
    refine XS.astoreN X101.here hx rfl (hb hby d17_4) rfl rfl (l' := #[.val (.ref a1), .val (.ref a2), .val (.ref t1), .unset, .unset, .unset, .unset, .unset, .unset]) rfl ?_
    show Steps p.tables e below (T101.setTop (mkF m 5 #[.val (.ref a1), .val (.ref a2), .val (.ref t1), .unset, .unset, .unset, .unset, .unset, .unset] [])) _
    refine XS.aloadN X101.here hx rfl (hb hby d17_5) rfl rfl ?_
    show Steps p.tables e below (T101.setTop (mkF m 6 #[.val (.ref a1), .val (.ref a2), .val (.ref t1), .unset, .unset, .unset, .unset, .unset, .unset] [(.ref t1)])) _
    refine X101.arraylength hx (by rw [e101]; exact Ar102.1) (State.isArrayOf_alike hZ.alike Ar102.2.1) (g := (mkF m 6 #[.val (.ref a1), .val (.ref a2), .val (.ref t1), .unset, .unset, .unset, .unset, .unset, .unset] [(.ref t1)])) rfl rfl (hb hby d17_6) _ ?_
    rw [len_of S102 M102]
    show Steps p.tables e below (T101.setTop (mkF m 7 #[.val (.ref a1), .val (.ref a2), .val (.ref t1), .unset, .unset, .unset, .unset, .unset, .unset] [(.int (1 : Int32))])) _
    refine XS.istoreN X101.here hx rfl (hb hby d17_7) rfl (l' := #[.val (.ref a1), .val (.ref a2), .val (.ref t1), .val (.int (1 : Int32)), .unset, .unset, .unset, .unset, .unset]) rfl ?_
    show Steps p.tables e below (T101.setTop (mkF m 8 #[.val (.ref a1), .val (.ref a2), .val (.ref t1), .val (.int (1 : Int32)), .unset, .unset, .unset, .unset, .unset] [])) _
    refine XS.aloadN X101.here hx rfl (hb hby d17_8) rfl rfl ?_
    show Steps p.tables e below (T101.setTop (mkF m 9 #[.val (.ref a1), .val (.ref a2), .val (.ref t1), .val (.int (1 : Int32)), .unset, .unset, .unset, .unset, .unset] [(.ref a2)])) _
    refine st103 _ ?_
    show Steps p.tables e below (T103.setTop (mkF m 12 #[.val (.ref a1), .val (.ref a2), .val (.ref t1), .val (.int (1 : Int32)), .unset, .unset, .unset, .unset, .unset] [(.ref t2)])) _
    refine XS.astore X103.here hx rfl (hb hby d17_12) rfl rfl (l' := #[.val (.ref a1), .val (.ref a2), .val (.ref t1), .val (.int (1 : Int32)), .val (.ref t2), .unset, .unset, .unset, .unset]) rfl ?_
    show Steps p.tables e below (T103.setTop (mkF m 14 #[.val (.ref a1), .val (.ref a2), .val (.ref t1), .val (.int (1 : Int32)), .val (.ref t2), .unset, .unset, .unset, .unset] [])) _
    refine XS.aload X103.here hx rfl (hb hby d17_14) rfl rfl ?_
    show Steps p.tables e below (T103.setTop (mkF m 16 #[.val (.ref a1), .val (.ref a2), .val (.ref t1), .val (.int (1 : Int32)), .val (.ref t2), .unset, .unset, .unset, .unset] [(.ref t2)])) _
    refine X103.arraylength hx (by rw [e103]; exact Ar104.1) (State.isArrayOf_alike hZ.alike Ar104.2.1) (g := (mkF m 16 #[.val (.ref a1), .val (.ref a2), .val (.ref t1), .val (.int (1 : Int32)), .val (.ref t2), .unset, .unset, .unset, .unset] [(.ref t2)])) rfl rfl (hb hby d17_16) _ ?_
    rw [len_of S104 M104]
    show Steps p.tables e below (T103.setTop (mkF m 17 #[.val (.ref a1), .val (.ref a2), .val (.ref t1), .val (.int (1 : Int32)), .val (.ref t2), .unset, .unset, .unset, .unset] [(.int (1 : Int32))])) _
    refine XS.istore X103.here hx rfl (hb hby d17_17) rfl (l' := #[.val (.ref a1), .val (.ref a2), .val (.ref t1), .val (.int (1 : Int32)), .val (.ref t2), .val (.int (1 : Int32)), .unset, .unset, .unset]) rfl ?_
    show Steps p.tables e below (T103.setTop (mkF m 19 #[.val (.ref a1), .val (.ref a2), .val (.ref t1), .val (.int (1 : Int32)), .val (.ref t2), .val (.int (1 : Int32)), .unset, .unset, .unset] [])) _
    refine XS.iloadN X103.here hx rfl (hb hby d17_19) rfl ?_
    show Steps p.tables e below (T103.setTop (mkF m 20 #[.val (.ref a1), .val (.ref a2), .val (.ref t1), .val (.int (1 : Int32)), .val (.ref t2), .val (.int (1 : Int32)), .unset, .unset, .unset] [(.int (1 : Int32))])) _
    refine XS.iload X103.here hx rfl (hb hby d17_20) rfl ?_
    show Steps p.tables e below (T103.setTop (mkF m 22 #[.val (.ref a1), .val (.ref a2), .val (.ref t1), .val (.int (1 : Int32)), .val (.ref t2), .val (.int (1 : Int32)), .unset, .unset, .unset] [(.int (1 : Int32)), (.int (1 : Int32))])) _
    refine XS.icmpYes X103.here hx rfl (pc0 := 22) (pc' := 27) rfl (hb hby d17_22) rfl (flt hc22).2.1 (by decide) (by decide) ?_
    show Steps p.tables e below (T103.setTop (mkF m 27 #[.val (.ref a1), .val (.ref a2), .val (.ref t1), .val (.int (1 : Int32)), .val (.ref t2), .val (.int (1 : Int32)), .unset, .unset, .unset] [])) _
    refine XS.iloadN X103.here hx rfl (hb hby d17_27) rfl ?_
    show Steps p.tables e below (T103.setTop (mkF m 28 #[.val (.ref a1), .val (.ref a2), .val (.ref t1), .val (.int (1 : Int32)), .val (.ref t2), .val (.int (1 : Int32)), .unset, .unset, .unset] [(.int (1 : Int32))])) _
    refine XS.iload X103.here hx rfl (hb hby d17_28) rfl ?_
    show Steps p.tables e below (T103.setTop (mkF m 30 #[.val (.ref a1), .val (.ref a2), .val (.ref t1), .val (.int (1 : Int32)), .val (.ref t2), .val (.int (1 : Int32)), .unset, .unset, .unset] [(.int (1 : Int32)), (.int (1 : Int32))])) _
    refine XS.icmpYes X103.here hx rfl (pc0 := 30) (pc' := 35) rfl (hb hby d17_30) rfl (flt hc30).2.2.2 (by decide) (by decide) ?_
    show Steps p.tables e below (T103.setTop (mkF m 35 #[.val (.ref a1), .val (.ref a2), .val (.ref t1), .val (.int (1 : Int32)), .val (.ref t2), .val (.int (1 : Int32)), .unset, .unset, .unset] [])) _
    refine XS.iconst X103.here hx rfl (hb hby d17_35) ?_
    show Steps p.tables e below (T103.setTop (mkF m 36 #[.val (.ref a1), .val (.ref a2), .val (.ref t1), .val (.int (1 : Int32)), .val (.ref t2), .val (.int (1 : Int32)), .unset, .unset, .unset] [(.int (0 : Int32))])) _
    refine XS.istore X103.here hx rfl (hb hby d17_36) rfl (l' := #[.val (.ref a1), .val (.ref a2), .val (.ref t1), .val (.int (1 : Int32)), .val (.ref t2), .val (.int (1 : Int32)), .val (.int (0 : Int32)), .unset, .unset]) rfl ?_
    show Steps p.tables e below (T103.setTop (mkF m 38 #[.val (.ref a1), .val (.ref a2), .val (.ref t1), .val (.int (1 : Int32)), .val (.ref t2), .val (.int (1 : Int32)), .val (.int (0 : Int32)), .unset, .unset] [])) _
    refine XS.iload X103.here hx rfl (hb hby d17_38) rfl ?_
    show Steps p.tables e below (T103.setTop (mkF m 40 #[.val (.ref a1), .val (.ref a2), .val (.ref t1), .val (.int (1 : Int32)), .val (.ref t2), .val (.int (1 : Int32)), .val (.int (0 : Int32)), .unset, .unset] [(.int (0 : Int32))])) _
    refine XS.iloadN X103.here hx rfl (hb hby d17_40) rfl ?_
    show Steps p.tables e below (T103.setTop (mkF m 41 #[.val (.ref a1), .val (.ref a2), .val (.ref t1), .val (.int (1 : Int32)), .val (.ref t2), .val (.int (1 : Int32)), .val (.int (0 : Int32)), .unset, .unset] [(.int (1 : Int32)), (.int (0 : Int32))])) _
    refine XS.icmpNo X103.here hx rfl (hb hby d17_41) rfl (tlt hc41).2.1 ?_
    show Steps p.tables e below (T103.setTop (mkF m 44 #[.val (.ref a1), .val (.ref a2), .val (.ref t1), .val (.int (1 : Int32)), .val (.ref t2), .val (.int (1 : Int32)), .val (.int (0 : Int32)), .unset, .unset] [])) _
    refine XS.aloadN X103.here hx rfl (hb hby d17_44) rfl rfl ?_
    show Steps p.tables e below (T103.setTop (mkF m 45 #[.val (.ref a1), .val (.ref a2), .val (.ref t1), .val (.int (1 : Int32)), .val (.ref t2), .val (.int (1 : Int32)), .val (.int (0 : Int32)), .unset, .unset] [(.ref t1)])) _
    refine XS.iload X103.here hx rfl (hb hby d17_45) rfl ?_
    show Steps p.tables e below (T103.setTop (mkF m 47 #[.val (.ref a1), .val (.ref a2), .val (.ref t1), .val (.int (1 : Int32)), .val (.ref t2), .val (.int (1 : Int32)), .val (.int (0 : Int32)), .unset, .unset] [(.int (0 : Int32)), (.ref t1)])) _
    refine X103.iaload hx (j := (0 : Int32)) (v := (.int x0)) (by rw [e103]; exact Ar102.1) (State.isArrayOf_alike hZ.alike Ar102.2.1) Ar102.2.2 (inb_of S102 ⟨by decide, by decide⟩) hat105 (g := (mkF m 47 #[.val (.ref a1), .val (.ref a2), .val (.ref t1), .val (.int (1 : Int32)), .val (.ref t2), .val (.int (1 : Int32)), .val (.int (0 : Int32)), .unset, .unset] [(.int (0 : Int32)), (.ref t1)])) rfl rfl (hb hby d17_47) _ ?_
    show Steps p.tables e below (T103.setTop (mkF m 48 #[.val (.ref a1), .val (.ref a2), .val (.ref t1), .val (.int (1 : Int32)), .val (.ref t2), .val (.int (1 : Int32)), .val (.int (0 : Int32)), .unset, .unset] [(.int x0)])) _
    refine XS.istore X103.here hx rfl (hb hby d17_48) rfl (l' := #[.val (.ref a1), .val (.ref a2), .val (.ref t1), .val (.int (1 : Int32)), .val (.ref t2), .val (.int (1 : Int32)), .val (.int (0 : Int32)), .val (.int x0), .unset]) rfl ?_
    show Steps p.tables e below (T103.setTop (mkF m 50 #[.val (.ref a1), .val (.ref a2), .val (.ref t1), .val (.int (1 : Int32)), .val (.ref t2), .val (.int (1 : Int32)), .val (.int (0 : Int32)), .val (.int x0), .unset] [])) _
    refine XS.aload X103.here hx rfl (hb hby d17_50) rfl rfl ?_
    show Steps p.tables e below (T103.setTop (mkF m 52 #[.val (.ref a1), .val (.ref a2), .val (.ref t1), .val (.int (1 : Int32)), .val (.ref t2), .val (.int (1 : Int32)), .val (.int (0 : Int32)), .val (.int x0), .unset] [(.ref t2)])) _
    refine XS.iload X103.here hx rfl (hb hby d17_52) rfl ?_
    show Steps p.tables e below (T103.setTop (mkF m 54 #[.val (.ref a1), .val (.ref a2), .val (.ref t1), .val (.int (1 : Int32)), .val (.ref t2), .val (.int (1 : Int32)), .val (.int (0 : Int32)), .val (.int x0), .unset] [(.int (0 : Int32)), (.ref t2)])) _
    refine X103.iaload hx (j := (0 : Int32)) (v := (.int y0)) (by rw [e103]; exact Ar104.1) (State.isArrayOf_alike hZ.alike Ar104.2.1) Ar104.2.2 (inb_of S104 ⟨by decide, by decide⟩) hat106 (g := (mkF m 54 #[.val (.ref a1), .val (.ref a2), .val (.ref t1), .val (.int (1 : Int32)), .val (.ref t2), .val (.int (1 : Int32)), .val (.int (0 : Int32)), .val (.int x0), .unset] [(.int (0 : Int32)), (.ref t2)])) rfl rfl (hb hby d17_54) _ ?_
    show Steps p.tables e below (T103.setTop (mkF m 55 #[.val (.ref a1), .val (.ref a2), .val (.ref t1), .val (.int (1 : Int32)), .val (.ref t2), .val (.int (1 : Int32)), .val (.int (0 : Int32)), .val (.int x0), .unset] [(.int y0)])) _
    refine XS.istore X103.here hx rfl (hb hby d17_55) rfl (l' := #[.val (.ref a1), .val (.ref a2), .val (.ref t1), .val (.int (1 : Int32)), .val (.ref t2), .val (.int (1 : Int32)), .val (.int (0 : Int32)), .val (.int x0), .val (.int y0)]) rfl ?_
    show Steps p.tables e below (T103.setTop (mkF m 57 #[.val (.ref a1), .val (.ref a2), .val (.ref t1), .val (.int (1 : Int32)), .val (.ref t2), .val (.int (1 : Int32)), .val (.int (0 : Int32)), .val (.int x0), .val (.int y0)] [])) _
    refine XS.iload X103.here hx rfl (hb hby d17_57) rfl ?_
    show Steps p.tables e below (T103.setTop (mkF m 59 #[.val (.ref a1), .val (.ref a2), .val (.ref t1), .val (.int (1 : Int32)), .val (.ref t2), .val (.int (1 : Int32)), .val (.int (0 : Int32)), .val (.int x0), .val (.int y0)] [(.int x0)])) _
    refine XS.iload X103.here hx rfl (hb hby d17_59) rfl ?_
    show Steps p.tables e below (T103.setTop (mkF m 61 #[.val (.ref a1), .val (.ref a2), .val (.ref t1), .val (.int (1 : Int32)), .val (.ref t2), .val (.int (1 : Int32)), .val (.int (0 : Int32)), .val (.int x0), .val (.int y0)] [(.int y0), (.int x0)])) _
    refine XS.icmpNo X103.here hx rfl (hb hby d17_61) rfl (feq hc61).1 ?_
    show Steps p.tables e below (T103.setTop (mkF m 64 #[.val (.ref a1), .val (.ref a2), .val (.ref t1), .val (.int (1 : Int32)), .val (.ref t2), .val (.int (1 : Int32)), .val (.int (0 : Int32)), .val (.int x0), .val (.int y0)] [])) _
    refine XS.iload X103.here hx rfl (hb hby d17_64) rfl ?_
    show Steps p.tables e below (T103.setTop (mkF m 66 #[.val (.ref a1), .val (.ref a2), .val (.ref t1), .val (.int (1 : Int32)), .val (.ref t2), .val (.int (1 : Int32)), .val (.int (0 : Int32)), .val (.int x0), .val (.int y0)] [(.int x0)])) _
    refine XS.i2l X103.here hx rfl (hb hby d17_66) rfl ?_
    show Steps p.tables e below (T103.setTop (mkF m 67 #[.val (.ref a1), .val (.ref a2), .val (.ref t1), .val (.int (1 : Int32)), .val (.ref t2), .val (.int (1 : Int32)), .val (.int (0 : Int32)), .val (.int x0), .val (.int y0)] [(.long (x0.toInt64))])) _
    refine X103.ldc2Long hx hown (mvT hZ (hw _ (List.mem_of_getElem? (i := 94) rfl))) (g := (mkF m 67 #[.val (.ref a1), .val (.ref a2), .val (.ref t1), .val (.int (1 : Int32)), .val (.ref t2), .val (.int (1 : Int32)), .val (.int (0 : Int32)), .val (.int x0), .val (.int y0)] [(.long (x0.toInt64))])) rfl (hb hby d17_67) _ ?_
    show Steps p.tables e below (T103.setTop (mkF m 70 #[.val (.ref a1), .val (.ref a2), .val (.ref t1), .val (.int (1 : Int32)), .val (.ref t2), .val (.int (1 : Int32)), .val (.int (0 : Int32)), .val (.int x0), .val (.int y0)] [(.long (4294967295 : Int64)), (.long (x0.toInt64))])) _
    refine XS.land X103.here hx rfl (hb hby d17_70) rfl ?_
    show Steps p.tables e below (T103.setTop (mkF m 71 #[.val (.ref a1), .val (.ref a2), .val (.ref t1), .val (.int (1 : Int32)), .val (.ref t2), .val (.int (1 : Int32)), .val (.int (0 : Int32)), .val (.int x0), .val (.int y0)] [(.long ((x0.toInt64) &&& (4294967295 : Int64)))])) _
    refine XS.iload X103.here hx rfl (hb hby d17_71) rfl ?_
    show Steps p.tables e below (T103.setTop (mkF m 73 #[.val (.ref a1), .val (.ref a2), .val (.ref t1), .val (.int (1 : Int32)), .val (.ref t2), .val (.int (1 : Int32)), .val (.int (0 : Int32)), .val (.int x0), .val (.int y0)] [(.int y0), (.long ((x0.toInt64) &&& (4294967295 : Int64)))])) _
    refine XS.i2l X103.here hx rfl (hb hby d17_73) rfl ?_
    show Steps p.tables e below (T103.setTop (mkF m 74 #[.val (.ref a1), .val (.ref a2), .val (.ref t1), .val (.int (1 : Int32)), .val (.ref t2), .val (.int (1 : Int32)), .val (.int (0 : Int32)), .val (.int x0), .val (.int y0)] [(.long (y0.toInt64)), (.long ((x0.toInt64) &&& (4294967295 : Int64)))])) _
    refine X103.ldc2Long hx hown (mvT hZ (hw _ (List.mem_of_getElem? (i := 94) rfl))) (g := (mkF m 74 #[.val (.ref a1), .val (.ref a2), .val (.ref t1), .val (.int (1 : Int32)), .val (.ref t2), .val (.int (1 : Int32)), .val (.int (0 : Int32)), .val (.int x0), .val (.int y0)] [(.long (y0.toInt64)), (.long ((x0.toInt64) &&& (4294967295 : Int64)))])) rfl (hb hby d17_74) _ ?_
    show Steps p.tables e below (T103.setTop (mkF m 77 #[.val (.ref a1), .val (.ref a2), .val (.ref t1), .val (.int (1 : Int32)), .val (.ref t2), .val (.int (1 : Int32)), .val (.int (0 : Int32)), .val (.int x0), .val (.int y0)] [(.long (4294967295 : Int64)), (.long (y0.toInt64)), (.long ((x0.toInt64) &&& (4294967295 : Int64)))])) _
    refine XS.land X103.here hx rfl (hb hby d17_77) rfl ?_
    show Steps p.tables e below (T103.setTop (mkF m 78 #[.val (.ref a1), .val (.ref a2), .val (.ref t1), .val (.int (1 : Int32)), .val (.ref t2), .val (.int (1 : Int32)), .val (.int (0 : Int32)), .val (.int x0), .val (.int y0)] [(.long ((y0.toInt64) &&& (4294967295 : Int64))), (.long ((x0.toInt64) &&& (4294967295 : Int64)))])) _
    refine XS.lcmp X103.here hx rfl (hb hby d17_78) rfl ?_
    show Steps p.tables e below (T103.setTop (mkF m 79 #[.val (.ref a1), .val (.ref a2), .val (.ref t1), .val (.int (1 : Int32)), .val (.ref t2), .val (.int (1 : Int32)), .val (.int (0 : Int32)), .val (.int x0), .val (.int y0)] [(.int (lcmpW ((x0.toInt64) &&& (4294967295 : Int64)) ((y0.toInt64) &&& (4294967295 : Int64))))])) _
    refine XS.ifYes X103.here hx rfl (pc0 := 79) (pc' := 86) rfl (hb hby d17_79) rfl ((if0 _ _).trans (flt hc79).2.1) (by decide) (by decide) ?_
    show Steps p.tables e below (T103.setTop (mkF m 86 #[.val (.ref a1), .val (.ref a2), .val (.ref t1), .val (.int (1 : Int32)), .val (.ref t2), .val (.int (1 : Int32)), .val (.int (0 : Int32)), .val (.int x0), .val (.int y0)] [])) _
    refine XS.iconst X103.here hx rfl (hb hby d17_86) ?_
    show Steps p.tables e below (T103.setTop (mkF m 87 #[.val (.ref a1), .val (.ref a2), .val (.ref t1), .val (.int (1 : Int32)), .val (.ref t2), .val (.int (1 : Int32)), .val (.int (0 : Int32)), .val (.int x0), .val (.int y0)] [(.int (1 : Int32))])) _
    exact retI X103 hx Bd.returns (hb hby d17_87) hr
  · show Qs (some (.int (own_cm [x0] [y0]))) h0 n0 _ T103.heap _
    rw [e103]
    exact ⟨by simp [own_cm, own_cm2, hn, hl], N0, rfl⟩
set_option maxRecDepth 65536 in
set_option maxHeartbeats 40000000 in
theorem rmCM_1_e (l : Launch) (Z : State) (a0 : Array Value) (hw : ∀ d ∈ tables_1, d.before a0 Z = true) (ws : List Jvm.Cond) (a1 : Addr) (a2 : Addr) (t1 : Addr) (t2 : Addr) (k1 : ClassId) (k2 : ClassId) (x0 : Int32) (y0 : Int32) (h0 : Heap) (n0 : Nat) (X00 : Old Z n0 h0) (M1 : Fld Z h0 a1 BI "mag" "[I" (.ref t1)) (M2 : Fld Z h0 a2 BI "mag" "[I" (.ref t2)) (V1 : Arv Z h0 t1 k1 .int (1 : Int32) [(.int x0)] (.int (0 : Int32))) (V2 : Arv Z h0 t2 k2 .int (1 : Int32) [(.int y0)] (.int (0 : Int32))) (he0 : x0 = y0) :
    MetFree l (⟨"java/math/BigInteger", "compareMagnitude", "(Ljava/math/BigInteger;)I"⟩ : MethodName) (head1 (Jvm.Cond.code (⟨"java/math/BigInteger", "compareMagnitude", "(Ljava/math/BigInteger;)I"⟩ : MethodName) jdk_2097_method_122_code 9 (some .int) :: ws) ({ frames := 0, cells := 0, slots := 0, locals := 0 } : Room)) (fun a U => a = #[(.ref a1), (.ref a2)] ∧ Z.Warmed39 U.vm ∧ U.heap = h0) (fun _ _ _ _ _ => True) (fun _ U o U' => ∃ rv rL, o = .returned rv ∧ Qs (some (.int (own_cm [x0] [y0]))) h0 n0 rv U'.heap rL ∧ FrameEnd U o U' rL ({ frames := 0, cells := 0, slots := 0, locals := 0 } : Room).cells ({ frames := 0, cells := 0, slots := 0, locals := 0 } : Room).slots) := by
  refine MetFree.of_bodySF (plainFor_of_name pn_17) hisR ?_
  intro p e s m args below meth c s₁ Bd hml0 hP hK
  obtain ⟨rfl, hZ, hh⟩ := hP
  have hx := Bd.exec
  have hby := Bd.bytes
  have hml : c.maxLocals = 9 := hml0
  have hown : s.vm.findClass "java/math/BigInteger" = some m.cls := findClass_of_methodNamed Bd.named
  have hnm := (name_of_methodNamed Bd.named Bd.method).1
  have X0 : Stand p l e ({ frames := 0, cells := 0, slots := 0, locals := 0 } : Room) s m #[(.ref a1), (.ref a2)] below meth c s₁ [] 0 0 := Stand.of_body Bd
  have e0 : s₁.heap = h0 := by rw [← hh, Bd.state]; rfl
  have N0 := Fr.nil n0
  have pre0 : ∀ t, Steps p.tables e below (s₁.setTop (mkF m 0 #[.val (.ref a1), .val (.ref a2), .unset, .unset, .unset, .unset, .unset, .unset, .unset] [])) t → Steps p.tables e below (s₁.setTop (entryFrame m #[(.ref a1), (.ref a2)] 9)) t := fun t k => castTop (ef_17 m a1 a2) k
  obtain ⟨T101, X101, e101, st101⟩ := getF X0 hx hZ hown (host := "") (Or.inl (hw _ (List.mem_of_getElem? (i := 92) rfl))) Via.refl e0 M1 (g := (mkF m 1 #[.val (.ref a1), .val (.ref a2), .unset, .unset, .unset, .unset, .unset, .unset, .unset] [(.ref a1)])) rfl rfl (hb hby d17_1)
  obtain ⟨cl102, Ar102, q102, S102, M102, H102, G102⟩ := id V1
  obtain ⟨T103, X103, e103, st103⟩ := getF X101 hx hZ hown (host := "") (Or.inl (hw _ (List.mem_of_getElem? (i := 92) rfl))) Via.refl e101 M2 (g := (mkF m 9 #[.val (.ref a1), .val (.ref a2), .val (.ref t1), .val (.int (1 : Int32)), .unset, .unset, .unset, .unset, .unset] [(.ref a2)])) rfl rfl (hb hby d17_9)
  obtain ⟨cl104, Ar104, q104, S104, M104, H104, G104⟩ := id V2
  have hc22 : ¬ ((1 : Int32) < (1 : Int32)) := by decide
  have hc30 : ¬ ((1 : Int32) < (1 : Int32)) := by decide
  have hc41 : (0 : Int32) < (1 : Int32) := by decide
  have hat105 : cl102.slots[((0 : Int32)).toNatClampNeg]? = some (.int x0) := by rw [show ((0 : Int32)).toNatClampNeg = 0 from by decide]; exact H102 0 (by rw [S102]; decide)
  have hat106 : cl104.slots[((0 : Int32)).toNatClampNeg]? = some (.int y0) := by rw [show ((0 : Int32)).toNatClampNeg = 0 from by decide]; exact H104 0 (by rw [S104]; decide)
  have hc61 : x0 = y0 := he0
  have hc41_1 : ¬ (((0 : Int32) + (1 : Int32)) < (1 : Int32)) := by decide
  obtain ⟨fs, hr, hrun, hended, hW, hsame⟩ := X103.leave (v := some (.int (0 : Int32))) (fun h => by rw [Bd.returns] at h; cases h)
  refine ⟨_, _, pre0 _ ?_, hrun, hended, _, _, rfl, ?_, ⟨_, rfl⟩, hW, hsame.mono (by decide) (by decide)⟩
  · show Steps p.tables e below (s₁.setTop (mkF m 0 #[.val (.ref a1), .val (.ref a2), .unset, .unset, .unset, .unset, .unset, .unset, .unset] [])) _
    refine XS.aloadN X0.here hx rfl (hb hby d17_0) rfl rfl ?_
    show Steps p.tables e below (s₁.setTop (mkF m 1 #[.val (.ref a1), .val (.ref a2), .unset, .unset, .unset, .unset, .unset, .unset, .unset] [(.ref a1)])) _
    refine st101 _ ?_
    show Steps p.tables e below (T101.setTop (mkF m 4 #[.val (.ref a1), .val (.ref a2), .unset, .unset, .unset, .unset, .unset, .unset, .unset] [(.ref t1)])) _
    refine XS.astoreN X101.here hx rfl (hb hby d17_4) rfl rfl (l' := #[.val (.ref a1), .val (.ref a2), .val (.ref t1), .unset, .unset, .unset, .unset, .unset, .unset]) rfl ?_
    show Steps p.tables e below (T101.setTop (mkF m 5 #[.val (.ref a1), .val (.ref a2), .val (.ref t1), .unset, .unset, .unset, .unset, .unset, .unset] [])) _
    refine XS.aloadN X101.here hx rfl (hb hby d17_5) rfl rfl ?_
    show Steps p.tables e below (T101.setTop (mkF m 6 #[.val (.ref a1), .val (.ref a2), .val (.ref t1), .unset, .unset, .unset, .unset, .unset, .unset] [(.ref t1)])) _
    refine X101.arraylength hx (by rw [e101]; exact Ar102.1) (State.isArrayOf_alike hZ.alike Ar102.2.1) (g := (mkF m 6 #[.val (.ref a1), .val (.ref a2), .val (.ref t1), .unset, .unset, .unset, .unset, .unset, .unset] [(.ref t1)])) rfl rfl (hb hby d17_6) _ ?_
    rw [len_of S102 M102]
    show Steps p.tables e below (T101.setTop (mkF m 7 #[.val (.ref a1), .val (.ref a2), .val (.ref t1), .unset, .unset, .unset, .unset, .unset, .unset] [(.int (1 : Int32))])) _
    refine XS.istoreN X101.here hx rfl (hb hby d17_7) rfl (l' := #[.val (.ref a1), .val (.ref a2), .val (.ref t1), .val (.int (1 : Int32)), .unset, .unset, .unset, .unset, .unset]) rfl ?_
    show Steps p.tables e below (T101.setTop (mkF m 8 #[.val (.ref a1), .val (.ref a2), .val (.ref t1), .val (.int (1 : Int32)), .unset, .unset, .unset, .unset, .unset] [])) _
    refine XS.aloadN X101.here hx rfl (hb hby d17_8) rfl rfl ?_
    show Steps p.tables e below (T101.setTop (mkF m 9 #[.val (.ref a1), .val (.ref a2), .val (.ref t1), .val (.int (1 : Int32)), .unset, .unset, .unset, .unset, .unset] [(.ref a2)])) _
    refine st103 _ ?_
    show Steps p.tables e below (T103.setTop (mkF m 12 #[.val (.ref a1), .val (.ref a2), .val (.ref t1), .val (.int (1 : Int32)), .unset, .unset, .unset, .unset, .unset] [(.ref t2)])) _
    refine XS.astore X103.here hx rfl (hb hby d17_12) rfl rfl (l' := #[.val (.ref a1), .val (.ref a2), .val (.ref t1), .val (.int (1 : Int32)), .val (.ref t2), .unset, .unset, .unset, .unset]) rfl ?_
    show Steps p.tables e below (T103.setTop (mkF m 14 #[.val (.ref a1), .val (.ref a2), .val (.ref t1), .val (.int (1 : Int32)), .val (.ref t2), .unset, .unset, .unset, .unset] [])) _
    refine XS.aload X103.here hx rfl (hb hby d17_14) rfl rfl ?_
    show Steps p.tables e below (T103.setTop (mkF m 16 #[.val (.ref a1), .val (.ref a2), .val (.ref t1), .val (.int (1 : Int32)), .val (.ref t2), .unset, .unset, .unset, .unset] [(.ref t2)])) _
    refine X103.arraylength hx (by rw [e103]; exact Ar104.1) (State.isArrayOf_alike hZ.alike Ar104.2.1) (g := (mkF m 16 #[.val (.ref a1), .val (.ref a2), .val (.ref t1), .val (.int (1 : Int32)), .val (.ref t2), .unset, .unset, .unset, .unset] [(.ref t2)])) rfl rfl (hb hby d17_16) _ ?_
    rw [len_of S104 M104]
    show Steps p.tables e below (T103.setTop (mkF m 17 #[.val (.ref a1), .val (.ref a2), .val (.ref t1), .val (.int (1 : Int32)), .val (.ref t2), .unset, .unset, .unset, .unset] [(.int (1 : Int32))])) _
    refine XS.istore X103.here hx rfl (hb hby d17_17) rfl (l' := #[.val (.ref a1), .val (.ref a2), .val (.ref t1), .val (.int (1 : Int32)), .val (.ref t2), .val (.int (1 : Int32)), .unset, .unset, .unset]) rfl ?_
    show Steps p.tables e below (T103.setTop (mkF m 19 #[.val (.ref a1), .val (.ref a2), .val (.ref t1), .val (.int (1 : Int32)), .val (.ref t2), .val (.int (1 : Int32)), .unset, .unset, .unset] [])) _
    refine XS.iloadN X103.here hx rfl (hb hby d17_19) rfl ?_
    show Steps p.tables e below (T103.setTop (mkF m 20 #[.val (.ref a1), .val (.ref a2), .val (.ref t1), .val (.int (1 : Int32)), .val (.ref t2), .val (.int (1 : Int32)), .unset, .unset, .unset] [(.int (1 : Int32))])) _
    refine XS.iload X103.here hx rfl (hb hby d17_20) rfl ?_
    show Steps p.tables e below (T103.setTop (mkF m 22 #[.val (.ref a1), .val (.ref a2), .val (.ref t1), .val (.int (1 : Int32)), .val (.ref t2), .val (.int (1 : Int32)), .unset, .unset, .unset] [(.int (1 : Int32)), (.int (1 : Int32))])) _
    refine XS.icmpYes X103.here hx rfl (pc0 := 22) (pc' := 27) rfl (hb hby d17_22) rfl (flt hc22).2.1 (by decide) (by decide) ?_
    show Steps p.tables e below (T103.setTop (mkF m 27 #[.val (.ref a1), .val (.ref a2), .val (.ref t1), .val (.int (1 : Int32)), .val (.ref t2), .val (.int (1 : Int32)), .unset, .unset, .unset] [])) _
    refine XS.iloadN X103.here hx rfl (hb hby d17_27) rfl ?_
    show Steps p.tables e below (T103.setTop (mkF m 28 #[.val (.ref a1), .val (.ref a2), .val (.ref t1), .val (.int (1 : Int32)), .val (.ref t2), .val (.int (1 : Int32)), .unset, .unset, .unset] [(.int (1 : Int32))])) _
    refine XS.iload X103.here hx rfl (hb hby d17_28) rfl ?_
    show Steps p.tables e below (T103.setTop (mkF m 30 #[.val (.ref a1), .val (.ref a2), .val (.ref t1), .val (.int (1 : Int32)), .val (.ref t2), .val (.int (1 : Int32)), .unset, .unset, .unset] [(.int (1 : Int32)), (.int (1 : Int32))])) _
    refine XS.icmpYes X103.here hx rfl (pc0 := 30) (pc' := 35) rfl (hb hby d17_30) rfl (flt hc30).2.2.2 (by decide) (by decide) ?_
    show Steps p.tables e below (T103.setTop (mkF m 35 #[.val (.ref a1), .val (.ref a2), .val (.ref t1), .val (.int (1 : Int32)), .val (.ref t2), .val (.int (1 : Int32)), .unset, .unset, .unset] [])) _
    refine XS.iconst X103.here hx rfl (hb hby d17_35) ?_
    show Steps p.tables e below (T103.setTop (mkF m 36 #[.val (.ref a1), .val (.ref a2), .val (.ref t1), .val (.int (1 : Int32)), .val (.ref t2), .val (.int (1 : Int32)), .unset, .unset, .unset] [(.int (0 : Int32))])) _
    refine XS.istore X103.here hx rfl (hb hby d17_36) rfl (l' := #[.val (.ref a1), .val (.ref a2), .val (.ref t1), .val (.int (1 : Int32)), .val (.ref t2), .val (.int (1 : Int32)), .val (.int (0 : Int32)), .unset, .unset]) rfl ?_
    show Steps p.tables e below (T103.setTop (mkF m 38 #[.val (.ref a1), .val (.ref a2), .val (.ref t1), .val (.int (1 : Int32)), .val (.ref t2), .val (.int (1 : Int32)), .val (.int (0 : Int32)), .unset, .unset] [])) _
    refine XS.iload X103.here hx rfl (hb hby d17_38) rfl ?_
    show Steps p.tables e below (T103.setTop (mkF m 40 #[.val (.ref a1), .val (.ref a2), .val (.ref t1), .val (.int (1 : Int32)), .val (.ref t2), .val (.int (1 : Int32)), .val (.int (0 : Int32)), .unset, .unset] [(.int (0 : Int32))])) _
    refine XS.iloadN X103.here hx rfl (hb hby d17_40) rfl ?_
    show Steps p.tables e below (T103.setTop (mkF m 41 #[.val (.ref a1), .val (.ref a2), .val (.ref t1), .val (.int (1 : Int32)), .val (.ref t2), .val (.int (1 : Int32)), .val (.int (0 : Int32)), .unset, .unset] [(.int (1 : Int32)), (.int (0 : Int32))])) _
    refine XS.icmpNo X103.here hx rfl (hb hby d17_41) rfl (tlt hc41).2.1 ?_
    show Steps p.tables e below (T103.setTop (mkF m 44 #[.val (.ref a1), .val (.ref a2), .val (.ref t1), .val (.int (1 : Int32)), .val (.ref t2), .val (.int (1 : Int32)), .val (.int (0 : Int32)), .unset, .unset] [])) _
    refine XS.aloadN X103.here hx rfl (hb hby d17_44) rfl rfl ?_
    show Steps p.tables e below (T103.setTop (mkF m 45 #[.val (.ref a1), .val (.ref a2), .val (.ref t1), .val (.int (1 : Int32)), .val (.ref t2), .val (.int (1 : Int32)), .val (.int (0 : Int32)), .unset, .unset] [(.ref t1)])) _
    refine XS.iload X103.here hx rfl (hb hby d17_45) rfl ?_
    show Steps p.tables e below (T103.setTop (mkF m 47 #[.val (.ref a1), .val (.ref a2), .val (.ref t1), .val (.int (1 : Int32)), .val (.ref t2), .val (.int (1 : Int32)), .val (.int (0 : Int32)), .unset, .unset] [(.int (0 : Int32)), (.ref t1)])) _
    refine X103.iaload hx (j := (0 : Int32)) (v := (.int x0)) (by rw [e103]; exact Ar102.1) (State.isArrayOf_alike hZ.alike Ar102.2.1) Ar102.2.2 (inb_of S102 ⟨by decide, by decide⟩) hat105 (g := (mkF m 47 #[.val (.ref a1), .val (.ref a2), .val (.ref t1), .val (.int (1 : Int32)), .val (.ref t2), .val (.int (1 : Int32)), .val (.int (0 : Int32)), .unset, .unset] [(.int (0 : Int32)), (.ref t1)])) rfl rfl (hb hby d17_47) _ ?_
    show Steps p.tables e below (T103.setTop (mkF m 48 #[.val (.ref a1), .val (.ref a2), .val (.ref t1), .val (.int (1 : Int32)), .val (.ref t2), .val (.int (1 : Int32)), .val (.int (0 : Int32)), .unset, .unset] [(.int x0)])) _
    refine XS.istore X103.here hx rfl (hb hby d17_48) rfl (l' := #[.val (.ref a1), .val (.ref a2), .val (.ref t1), .val (.int (1 : Int32)), .val (.ref t2), .val (.int (1 : Int32)), .val (.int (0 : Int32)), .val (.int x0), .unset]) rfl ?_
    show Steps p.tables e below (T103.setTop (mkF m 50 #[.val (.ref a1), .val (.ref a2), .val (.ref t1), .val (.int (1 : Int32)), .val (.ref t2), .val (.int (1 : Int32)), .val (.int (0 : Int32)), .val (.int x0), .unset] [])) _
    refine XS.aload X103.here hx rfl (hb hby d17_50) rfl rfl ?_
    show Steps p.tables e below (T103.setTop (mkF m 52 #[.val (.ref a1), .val (.ref a2), .val (.ref t1), .val (.int (1 : Int32)), .val (.ref t2), .val (.int (1 : Int32)), .val (.int (0 : Int32)), .val (.int x0), .unset] [(.ref t2)])) _
    refine XS.iload X103.here hx rfl (hb hby d17_52) rfl ?_
    show Steps p.tables e below (T103.setTop (mkF m 54 #[.val (.ref a1), .val (.ref a2), .val (.ref t1), .val (.int (1 : Int32)), .val (.ref t2), .val (.int (1 : Int32)), .val (.int (0 : Int32)), .val (.int x0), .unset] [(.int (0 : Int32)), (.ref t2)])) _
    refine X103.iaload hx (j := (0 : Int32)) (v := (.int y0)) (by rw [e103]; exact Ar104.1) (State.isArrayOf_alike hZ.alike Ar104.2.1) Ar104.2.2 (inb_of S104 ⟨by decide, by decide⟩) hat106 (g := (mkF m 54 #[.val (.ref a1), .val (.ref a2), .val (.ref t1), .val (.int (1 : Int32)), .val (.ref t2), .val (.int (1 : Int32)), .val (.int (0 : Int32)), .val (.int x0), .unset] [(.int (0 : Int32)), (.ref t2)])) rfl rfl (hb hby d17_54) _ ?_
    show Steps p.tables e below (T103.setTop (mkF m 55 #[.val (.ref a1), .val (.ref a2), .val (.ref t1), .val (.int (1 : Int32)), .val (.ref t2), .val (.int (1 : Int32)), .val (.int (0 : Int32)), .val (.int x0), .unset] [(.int y0)])) _
    refine XS.istore X103.here hx rfl (hb hby d17_55) rfl (l' := #[.val (.ref a1), .val (.ref a2), .val (.ref t1), .val (.int (1 : Int32)), .val (.ref t2), .val (.int (1 : Int32)), .val (.int (0 : Int32)), .val (.int x0), .val (.int y0)]) rfl ?_
    show Steps p.tables e below (T103.setTop (mkF m 57 #[.val (.ref a1), .val (.ref a2), .val (.ref t1), .val (.int (1 : Int32)), .val (.ref t2), .val (.int (1 : Int32)), .val (.int (0 : Int32)), .val (.int x0), .val (.int y0)] [])) _
    refine XS.iload X103.here hx rfl (hb hby d17_57) rfl ?_
    show Steps p.tables e below (T103.setTop (mkF m 59 #[.val (.ref a1), .val (.ref a2), .val (.ref t1), .val (.int (1 : Int32)), .val (.ref t2), .val (.int (1 : Int32)), .val (.int (0 : Int32)), .val (.int x0), .val (.int y0)] [(.int x0)])) _
    refine XS.iload X103.here hx rfl (hb hby d17_59) rfl ?_
    show Steps p.tables e below (T103.setTop (mkF m 61 #[.val (.ref a1), .val (.ref a2), .val (.ref t1), .val (.int (1 : Int32)), .val (.ref t2), .val (.int (1 : Int32)), .val (.int (0 : Int32)), .val (.int x0), .val (.int y0)] [(.int y0), (.int x0)])) _
    refine XS.icmpYes X103.here hx rfl (pc0 := 61) (pc' := 88) rfl (hb hby d17_61) rfl (teq hc61).1 (by decide) (by decide) ?_
    show Steps p.tables e below (T103.setTop (mkF m 88 #[.val (.ref a1), .val (.ref a2), .val (.ref t1), .val (.int (1 : Int32)), .val (.ref t2), .val (.int (1 : Int32)), .val (.int (0 : Int32)), .val (.int x0), .val (.int y0)] [])) _
    refine XS.iinc X103.here hx rfl (hb hby d17_88) rfl (l' := #[.val (.ref a1), .val (.ref a2), .val (.ref t1), .val (.int (1 : Int32)), .val (.ref t2), .val (.int (1 : Int32)), .val (.int ((0 : Int32) + (1 : Int32))), .val (.int x0), .val (.int y0)]) rfl ?_
    show Steps p.tables e below (T103.setTop (mkF m 91 #[.val (.ref a1), .val (.ref a2), .val (.ref t1), .val (.int (1 : Int32)), .val (.ref t2), .val (.int (1 : Int32)), .val (.int ((0 : Int32) + (1 : Int32))), .val (.int x0), .val (.int y0)] [])) _
    refine XS.goto X103.here hx rfl (pc0 := 91) (pc' := 38) rfl (hb hby d17_91) (by decide) (by decide) ?_
    show Steps p.tables e below (T103.setTop (mkF m 38 #[.val (.ref a1), .val (.ref a2), .val (.ref t1), .val (.int (1 : Int32)), .val (.ref t2), .val (.int (1 : Int32)), .val (.int ((0 : Int32) + (1 : Int32))), .val (.int x0), .val (.int y0)] [])) _
    refine XS.iload X103.here hx rfl (hb hby d17_38) rfl ?_
    show Steps p.tables e below (T103.setTop (mkF m 40 #[.val (.ref a1), .val (.ref a2), .val (.ref t1), .val (.int (1 : Int32)), .val (.ref t2), .val (.int (1 : Int32)), .val (.int ((0 : Int32) + (1 : Int32))), .val (.int x0), .val (.int y0)] [(.int ((0 : Int32) + (1 : Int32)))])) _
    refine XS.iloadN X103.here hx rfl (hb hby d17_40) rfl ?_
    show Steps p.tables e below (T103.setTop (mkF m 41 #[.val (.ref a1), .val (.ref a2), .val (.ref t1), .val (.int (1 : Int32)), .val (.ref t2), .val (.int (1 : Int32)), .val (.int ((0 : Int32) + (1 : Int32))), .val (.int x0), .val (.int y0)] [(.int (1 : Int32)), (.int ((0 : Int32) + (1 : Int32)))])) _
    refine XS.icmpYes X103.here hx rfl (pc0 := 41) (pc' := 94) rfl (hb hby d17_41) rfl (flt hc41_1).2.1 (by decide) (by decide) ?_
    show Steps p.tables e below (T103.setTop (mkF m 94 #[.val (.ref a1), .val (.ref a2), .val (.ref t1), .val (.int (1 : Int32)), .val (.ref t2), .val (.int (1 : Int32)), .val (.int ((0 : Int32) + (1 : Int32))), .val (.int x0), .val (.int y0)] [])) _
    refine XS.iconst X103.here hx rfl (hb hby d17_94) ?_
    show Steps p.tables e below (T103.setTop (mkF m 95 #[.val (.ref a1), .val (.ref a2), .val (.ref t1), .val (.int (1 : Int32)), .val (.ref t2), .val (.int (1 : Int32)), .val (.int ((0 : Int32) + (1 : Int32))), .val (.int x0), .val (.int y0)] [(.int (0 : Int32))])) _
    exact retI X103 hx Bd.returns (hb hby d17_95) hr
  · show Qs (some (.int (own_cm [x0] [y0]))) h0 n0 _ T103.heap _
    rw [e103]
    exact ⟨by rw [he0]; simp [own_cm, own_cm2], N0, rfl⟩
set_option maxRecDepth 65536 in
set_option maxHeartbeats 40000000 in
theorem rmCM_2_0_l (l : Launch) (Z : State) (a0 : Array Value) (hw : ∀ d ∈ tables_1, d.before a0 Z = true) (ws : List Jvm.Cond) (a1 : Addr) (a2 : Addr) (t1 : Addr) (t2 : Addr) (k1 : ClassId) (k2 : ClassId) (x0 : Int32) (x1 : Int32) (y0 : Int32) (y1 : Int32) (h0 : Heap) (n0 : Nat) (X00 : Old Z n0 h0) (M1 : Fld Z h0 a1 BI "mag" "[I" (.ref t1)) (M2 : Fld Z h0 a2 BI "mag" "[I" (.ref t2)) (V1 : Arv Z h0 t1 k1 .int (2 : Int32) [(.int x0), (.int x1)] (.int (0 : Int32))) (V2 : Arv Z h0 t2 k2 .int (2 : Int32) [(.int y0), (.int y1)] (.int (0 : Int32))) (hn : ¬ (x0 = y0)) (hl : own_ux x0 < own_ux y0) :
    MetFree l (⟨"java/math/BigInteger", "compareMagnitude", "(Ljava/math/BigInteger;)I"⟩ : MethodName) (head1 (Jvm.Cond.code (⟨"java/math/BigInteger", "compareMagnitude", "(Ljava/math/BigInteger;)I"⟩ : MethodName) jdk_2097_method_122_code 9 (some .int) :: ws) ({ frames := 0, cells := 0, slots := 0, locals := 0 } : Room)) (fun a U => a = #[(.ref a1), (.ref a2)] ∧ Z.Warmed39 U.vm ∧ U.heap = h0) (fun _ _ _ _ _ => True) (fun _ U o U' => ∃ rv rL, o = .returned rv ∧ Qs (some (.int (own_cm [x0, x1] [y0, y1]))) h0 n0 rv U'.heap rL ∧ FrameEnd U o U' rL ({ frames := 0, cells := 0, slots := 0, locals := 0 } : Room).cells ({ frames := 0, cells := 0, slots := 0, locals := 0 } : Room).slots) := by
  refine MetFree.of_bodySF (plainFor_of_name pn_17) hisR ?_
  intro p e s m args below meth c s₁ Bd hml0 hP hK
  obtain ⟨rfl, hZ, hh⟩ := hP
  have hx := Bd.exec
  have hby := Bd.bytes
  have hml : c.maxLocals = 9 := hml0
  have hown : s.vm.findClass "java/math/BigInteger" = some m.cls := findClass_of_methodNamed Bd.named
  have hnm := (name_of_methodNamed Bd.named Bd.method).1
  have X0 : Stand p l e ({ frames := 0, cells := 0, slots := 0, locals := 0 } : Room) s m #[(.ref a1), (.ref a2)] below meth c s₁ [] 0 0 := Stand.of_body Bd
  have e0 : s₁.heap = h0 := by rw [← hh, Bd.state]; rfl
  have N0 := Fr.nil n0
  have pre0 : ∀ t, Steps p.tables e below (s₁.setTop (mkF m 0 #[.val (.ref a1), .val (.ref a2), .unset, .unset, .unset, .unset, .unset, .unset, .unset] [])) t → Steps p.tables e below (s₁.setTop (entryFrame m #[(.ref a1), (.ref a2)] 9)) t := fun t k => castTop (ef_17 m a1 a2) k
  obtain ⟨T101, X101, e101, st101⟩ := getF X0 hx hZ hown (host := "") (Or.inl (hw _ (List.mem_of_getElem? (i := 92) rfl))) Via.refl e0 M1 (g := (mkF m 1 #[.val (.ref a1), .val (.ref a2), .unset, .unset, .unset, .unset, .unset, .unset, .unset] [(.ref a1)])) rfl rfl (hb hby d17_1)
  obtain ⟨cl102, Ar102, q102, S102, M102, H102, G102⟩ := id V1
  obtain ⟨T103, X103, e103, st103⟩ := getF X101 hx hZ hown (host := "") (Or.inl (hw _ (List.mem_of_getElem? (i := 92) rfl))) Via.refl e101 M2 (g := (mkF m 9 #[.val (.ref a1), .val (.ref a2), .val (.ref t1), .val (.int (2 : Int32)), .unset, .unset, .unset, .unset, .unset] [(.ref a2)])) rfl rfl (hb hby d17_9)
  obtain ⟨cl104, Ar104, q104, S104, M104, H104, G104⟩ := id V2
  have hc22 : ¬ ((2 : Int32) < (2 : Int32)) := by decide
  have hc30 : ¬ ((2 : Int32) < (2 : Int32)) := by decide
  have hc41 : (0 : Int32) < (2 : Int32) := by decide
  have hat105 : cl102.slots[((0 : Int32)).toNatClampNeg]? = some (.int x0) := by rw [show ((0 : Int32)).toNatClampNeg = 0 from by decide]; exact H102 0 (by rw [S102]; decide)
  have hat106 : cl104.slots[((0 : Int32)).toNatClampNeg]? = some (.int y0) := by rw [show ((0 : Int32)).toNatClampNeg = 0 from by decide]; exact H104 0 (by rw [S104]; decide)
  have hc61 : ¬ (x0 = y0) := hn
  have hc79 : (lcmpW ((x0.toInt64) &&& (4294967295 : Int64)) ((y0.toInt64) &&& (4294967295 : Int64))) < (0 : Int32) := (lw_lt _ _).mpr (own_mlt.mpr hl)
  obtain ⟨fs, hr, hrun, hended, hW, hsame⟩ := X103.leave (v := some (.int (-1 : Int32))) (fun h => by rw [Bd.returns] at h; cases h)
  refine ⟨_, _, pre0 _ ?_, hrun, hended, _, _, rfl, ?_, ⟨_, rfl⟩, hW, hsame.mono (by decide) (by decide)⟩
  · show Steps p.tables e below (s₁.setTop (mkF m 0 #[.val (.ref a1), .val (.ref a2), .unset, .unset, .unset, .unset, .unset, .unset, .unset] [])) _
    refine XS.aloadN X0.here hx rfl (hb hby d17_0) rfl rfl ?_
    show Steps p.tables e below (s₁.setTop (mkF m 1 #[.val (.ref a1), .val (.ref a2), .unset, .unset, .unset, .unset, .unset, .unset, .unset] [(.ref a1)])) _
    refine st101 _ ?_
    show Steps p.tables e below (T101.setTop (mkF m 4 #[.val (.ref a1), .val (.ref a2), .unset, .unset, .unset, .unset, .unset, .unset, .unset] [(.ref t1)])) _
    refine XS.astoreN X101.here hx rfl (hb hby d17_4) rfl rfl (l' := #[.val (.ref a1), .val (.ref a2), .val (.ref t1), .unset, .unset, .unset, .unset, .unset, .unset]) rfl ?_
    show Steps p.tables e below (T101.setTop (mkF m 5 #[.val (.ref a1), .val (.ref a2), .val (.ref t1), .unset, .unset, .unset, .unset, .unset, .unset] [])) _
    refine XS.aloadN X101.here hx rfl (hb hby d17_5) rfl rfl ?_
    show Steps p.tables e below (T101.setTop (mkF m 6 #[.val (.ref a1), .val (.ref a2), .val (.ref t1), .unset, .unset, .unset, .unset, .unset, .unset] [(.ref t1)])) _
    refine X101.arraylength hx (by rw [e101]; exact Ar102.1) (State.isArrayOf_alike hZ.alike Ar102.2.1) (g := (mkF m 6 #[.val (.ref a1), .val (.ref a2), .val (.ref t1), .unset, .unset, .unset, .unset, .unset, .unset] [(.ref t1)])) rfl rfl (hb hby d17_6) _ ?_
    rw [len_of S102 M102]
    show Steps p.tables e below (T101.setTop (mkF m 7 #[.val (.ref a1), .val (.ref a2), .val (.ref t1), .unset, .unset, .unset, .unset, .unset, .unset] [(.int (2 : Int32))])) _
    refine XS.istoreN X101.here hx rfl (hb hby d17_7) rfl (l' := #[.val (.ref a1), .val (.ref a2), .val (.ref t1), .val (.int (2 : Int32)), .unset, .unset, .unset, .unset, .unset]) rfl ?_
    show Steps p.tables e below (T101.setTop (mkF m 8 #[.val (.ref a1), .val (.ref a2), .val (.ref t1), .val (.int (2 : Int32)), .unset, .unset, .unset, .unset, .unset] [])) _
    refine XS.aloadN X101.here hx rfl (hb hby d17_8) rfl rfl ?_
    show Steps p.tables e below (T101.setTop (mkF m 9 #[.val (.ref a1), .val (.ref a2), .val (.ref t1), .val (.int (2 : Int32)), .unset, .unset, .unset, .unset, .unset] [(.ref a2)])) _
    refine st103 _ ?_
    show Steps p.tables e below (T103.setTop (mkF m 12 #[.val (.ref a1), .val (.ref a2), .val (.ref t1), .val (.int (2 : Int32)), .unset, .unset, .unset, .unset, .unset] [(.ref t2)])) _
    refine XS.astore X103.here hx rfl (hb hby d17_12) rfl rfl (l' := #[.val (.ref a1), .val (.ref a2), .val (.ref t1), .val (.int (2 : Int32)), .val (.ref t2), .unset, .unset, .unset, .unset]) rfl ?_
    show Steps p.tables e below (T103.setTop (mkF m 14 #[.val (.ref a1), .val (.ref a2), .val (.ref t1), .val (.int (2 : Int32)), .val (.ref t2), .unset, .unset, .unset, .unset] [])) _
    refine XS.aload X103.here hx rfl (hb hby d17_14) rfl rfl ?_
    show Steps p.tables e below (T103.setTop (mkF m 16 #[.val (.ref a1), .val (.ref a2), .val (.ref t1), .val (.int (2 : Int32)), .val (.ref t2), .unset, .unset, .unset, .unset] [(.ref t2)])) _
    refine X103.arraylength hx (by rw [e103]; exact Ar104.1) (State.isArrayOf_alike hZ.alike Ar104.2.1) (g := (mkF m 16 #[.val (.ref a1), .val (.ref a2), .val (.ref t1), .val (.int (2 : Int32)), .val (.ref t2), .unset, .unset, .unset, .unset] [(.ref t2)])) rfl rfl (hb hby d17_16) _ ?_
    rw [len_of S104 M104]
    show Steps p.tables e below (T103.setTop (mkF m 17 #[.val (.ref a1), .val (.ref a2), .val (.ref t1), .val (.int (2 : Int32)), .val (.ref t2), .unset, .unset, .unset, .unset] [(.int (2 : Int32))])) _
    refine XS.istore X103.here hx rfl (hb hby d17_17) rfl (l' := #[.val (.ref a1), .val (.ref a2), .val (.ref t1), .val (.int (2 : Int32)), .val (.ref t2), .val (.int (2 : Int32)), .unset, .unset, .unset]) rfl ?_
    show Steps p.tables e below (T103.setTop (mkF m 19 #[.val (.ref a1), .val (.ref a2), .val (.ref t1), .val (.int (2 : Int32)), .val (.ref t2), .val (.int (2 : Int32)), .unset, .unset, .unset] [])) _
    refine XS.iloadN X103.here hx rfl (hb hby d17_19) rfl ?_
    show Steps p.tables e below (T103.setTop (mkF m 20 #[.val (.ref a1), .val (.ref a2), .val (.ref t1), .val (.int (2 : Int32)), .val (.ref t2), .val (.int (2 : Int32)), .unset, .unset, .unset] [(.int (2 : Int32))])) _
    refine XS.iload X103.here hx rfl (hb hby d17_20) rfl ?_
    show Steps p.tables e below (T103.setTop (mkF m 22 #[.val (.ref a1), .val (.ref a2), .val (.ref t1), .val (.int (2 : Int32)), .val (.ref t2), .val (.int (2 : Int32)), .unset, .unset, .unset] [(.int (2 : Int32)), (.int (2 : Int32))])) _
    refine XS.icmpYes X103.here hx rfl (pc0 := 22) (pc' := 27) rfl (hb hby d17_22) rfl (flt hc22).2.1 (by decide) (by decide) ?_
    show Steps p.tables e below (T103.setTop (mkF m 27 #[.val (.ref a1), .val (.ref a2), .val (.ref t1), .val (.int (2 : Int32)), .val (.ref t2), .val (.int (2 : Int32)), .unset, .unset, .unset] [])) _
    refine XS.iloadN X103.here hx rfl (hb hby d17_27) rfl ?_
    show Steps p.tables e below (T103.setTop (mkF m 28 #[.val (.ref a1), .val (.ref a2), .val (.ref t1), .val (.int (2 : Int32)), .val (.ref t2), .val (.int (2 : Int32)), .unset, .unset, .unset] [(.int (2 : Int32))])) _
    refine XS.iload X103.here hx rfl (hb hby d17_28) rfl ?_
    show Steps p.tables e below (T103.setTop (mkF m 30 #[.val (.ref a1), .val (.ref a2), .val (.ref t1), .val (.int (2 : Int32)), .val (.ref t2), .val (.int (2 : Int32)), .unset, .unset, .unset] [(.int (2 : Int32)), (.int (2 : Int32))])) _
    refine XS.icmpYes X103.here hx rfl (pc0 := 30) (pc' := 35) rfl (hb hby d17_30) rfl (flt hc30).2.2.2 (by decide) (by decide) ?_
    show Steps p.tables e below (T103.setTop (mkF m 35 #[.val (.ref a1), .val (.ref a2), .val (.ref t1), .val (.int (2 : Int32)), .val (.ref t2), .val (.int (2 : Int32)), .unset, .unset, .unset] [])) _
    refine XS.iconst X103.here hx rfl (hb hby d17_35) ?_
    show Steps p.tables e below (T103.setTop (mkF m 36 #[.val (.ref a1), .val (.ref a2), .val (.ref t1), .val (.int (2 : Int32)), .val (.ref t2), .val (.int (2 : Int32)), .unset, .unset, .unset] [(.int (0 : Int32))])) _
    refine XS.istore X103.here hx rfl (hb hby d17_36) rfl (l' := #[.val (.ref a1), .val (.ref a2), .val (.ref t1), .val (.int (2 : Int32)), .val (.ref t2), .val (.int (2 : Int32)), .val (.int (0 : Int32)), .unset, .unset]) rfl ?_
    show Steps p.tables e below (T103.setTop (mkF m 38 #[.val (.ref a1), .val (.ref a2), .val (.ref t1), .val (.int (2 : Int32)), .val (.ref t2), .val (.int (2 : Int32)), .val (.int (0 : Int32)), .unset, .unset] [])) _
    refine XS.iload X103.here hx rfl (hb hby d17_38) rfl ?_
    show Steps p.tables e below (T103.setTop (mkF m 40 #[.val (.ref a1), .val (.ref a2), .val (.ref t1), .val (.int (2 : Int32)), .val (.ref t2), .val (.int (2 : Int32)), .val (.int (0 : Int32)), .unset, .unset] [(.int (0 : Int32))])) _
    refine XS.iloadN X103.here hx rfl (hb hby d17_40) rfl ?_
    show Steps p.tables e below (T103.setTop (mkF m 41 #[.val (.ref a1), .val (.ref a2), .val (.ref t1), .val (.int (2 : Int32)), .val (.ref t2), .val (.int (2 : Int32)), .val (.int (0 : Int32)), .unset, .unset] [(.int (2 : Int32)), (.int (0 : Int32))])) _
    refine XS.icmpNo X103.here hx rfl (hb hby d17_41) rfl (tlt hc41).2.1 ?_
    show Steps p.tables e below (T103.setTop (mkF m 44 #[.val (.ref a1), .val (.ref a2), .val (.ref t1), .val (.int (2 : Int32)), .val (.ref t2), .val (.int (2 : Int32)), .val (.int (0 : Int32)), .unset, .unset] [])) _
    refine XS.aloadN X103.here hx rfl (hb hby d17_44) rfl rfl ?_
    show Steps p.tables e below (T103.setTop (mkF m 45 #[.val (.ref a1), .val (.ref a2), .val (.ref t1), .val (.int (2 : Int32)), .val (.ref t2), .val (.int (2 : Int32)), .val (.int (0 : Int32)), .unset, .unset] [(.ref t1)])) _
    refine XS.iload X103.here hx rfl (hb hby d17_45) rfl ?_
    show Steps p.tables e below (T103.setTop (mkF m 47 #[.val (.ref a1), .val (.ref a2), .val (.ref t1), .val (.int (2 : Int32)), .val (.ref t2), .val (.int (2 : Int32)), .val (.int (0 : Int32)), .unset, .unset] [(.int (0 : Int32)), (.ref t1)])) _
    refine X103.iaload hx (j := (0 : Int32)) (v := (.int x0)) (by rw [e103]; exact Ar102.1) (State.isArrayOf_alike hZ.alike Ar102.2.1) Ar102.2.2 (inb_of S102 ⟨by decide, by decide⟩) hat105 (g := (mkF m 47 #[.val (.ref a1), .val (.ref a2), .val (.ref t1), .val (.int (2 : Int32)), .val (.ref t2), .val (.int (2 : Int32)), .val (.int (0 : Int32)), .unset, .unset] [(.int (0 : Int32)), (.ref t1)])) rfl rfl (hb hby d17_47) _ ?_
    show Steps p.tables e below (T103.setTop (mkF m 48 #[.val (.ref a1), .val (.ref a2), .val (.ref t1), .val (.int (2 : Int32)), .val (.ref t2), .val (.int (2 : Int32)), .val (.int (0 : Int32)), .unset, .unset] [(.int x0)])) _
    refine XS.istore X103.here hx rfl (hb hby d17_48) rfl (l' := #[.val (.ref a1), .val (.ref a2), .val (.ref t1), .val (.int (2 : Int32)), .val (.ref t2), .val (.int (2 : Int32)), .val (.int (0 : Int32)), .val (.int x0), .unset]) rfl ?_
    show Steps p.tables e below (T103.setTop (mkF m 50 #[.val (.ref a1), .val (.ref a2), .val (.ref t1), .val (.int (2 : Int32)), .val (.ref t2), .val (.int (2 : Int32)), .val (.int (0 : Int32)), .val (.int x0), .unset] [])) _
    refine XS.aload X103.here hx rfl (hb hby d17_50) rfl rfl ?_
    show Steps p.tables e below (T103.setTop (mkF m 52 #[.val (.ref a1), .val (.ref a2), .val (.ref t1), .val (.int (2 : Int32)), .val (.ref t2), .val (.int (2 : Int32)), .val (.int (0 : Int32)), .val (.int x0), .unset] [(.ref t2)])) _
    refine XS.iload X103.here hx rfl (hb hby d17_52) rfl ?_
    show Steps p.tables e below (T103.setTop (mkF m 54 #[.val (.ref a1), .val (.ref a2), .val (.ref t1), .val (.int (2 : Int32)), .val (.ref t2), .val (.int (2 : Int32)), .val (.int (0 : Int32)), .val (.int x0), .unset] [(.int (0 : Int32)), (.ref t2)])) _
    refine X103.iaload hx (j := (0 : Int32)) (v := (.int y0)) (by rw [e103]; exact Ar104.1) (State.isArrayOf_alike hZ.alike Ar104.2.1) Ar104.2.2 (inb_of S104 ⟨by decide, by decide⟩) hat106 (g := (mkF m 54 #[.val (.ref a1), .val (.ref a2), .val (.ref t1), .val (.int (2 : Int32)), .val (.ref t2), .val (.int (2 : Int32)), .val (.int (0 : Int32)), .val (.int x0), .unset] [(.int (0 : Int32)), (.ref t2)])) rfl rfl (hb hby d17_54) _ ?_
    show Steps p.tables e below (T103.setTop (mkF m 55 #[.val (.ref a1), .val (.ref a2), .val (.ref t1), .val (.int (2 : Int32)), .val (.ref t2), .val (.int (2 : Int32)), .val (.int (0 : Int32)), .val (.int x0), .unset] [(.int y0)])) _
    refine XS.istore X103.here hx rfl (hb hby d17_55) rfl (l' := #[.val (.ref a1), .val (.ref a2), .val (.ref t1), .val (.int (2 : Int32)), .val (.ref t2), .val (.int (2 : Int32)), .val (.int (0 : Int32)), .val (.int x0), .val (.int y0)]) rfl ?_
    show Steps p.tables e below (T103.setTop (mkF m 57 #[.val (.ref a1), .val (.ref a2), .val (.ref t1), .val (.int (2 : Int32)), .val (.ref t2), .val (.int (2 : Int32)), .val (.int (0 : Int32)), .val (.int x0), .val (.int y0)] [])) _
    refine XS.iload X103.here hx rfl (hb hby d17_57) rfl ?_
    show Steps p.tables e below (T103.setTop (mkF m 59 #[.val (.ref a1), .val (.ref a2), .val (.ref t1), .val (.int (2 : Int32)), .val (.ref t2), .val (.int (2 : Int32)), .val (.int (0 : Int32)), .val (.int x0), .val (.int y0)] [(.int x0)])) _
    refine XS.iload X103.here hx rfl (hb hby d17_59) rfl ?_
    show Steps p.tables e below (T103.setTop (mkF m 61 #[.val (.ref a1), .val (.ref a2), .val (.ref t1), .val (.int (2 : Int32)), .val (.ref t2), .val (.int (2 : Int32)), .val (.int (0 : Int32)), .val (.int x0), .val (.int y0)] [(.int y0), (.int x0)])) _
    refine XS.icmpNo X103.here hx rfl (hb hby d17_61) rfl (feq hc61).1 ?_
    show Steps p.tables e below (T103.setTop (mkF m 64 #[.val (.ref a1), .val (.ref a2), .val (.ref t1), .val (.int (2 : Int32)), .val (.ref t2), .val (.int (2 : Int32)), .val (.int (0 : Int32)), .val (.int x0), .val (.int y0)] [])) _
    refine XS.iload X103.here hx rfl (hb hby d17_64) rfl ?_
    show Steps p.tables e below (T103.setTop (mkF m 66 #[.val (.ref a1), .val (.ref a2), .val (.ref t1), .val (.int (2 : Int32)), .val (.ref t2), .val (.int (2 : Int32)), .val (.int (0 : Int32)), .val (.int x0), .val (.int y0)] [(.int x0)])) _
    refine XS.i2l X103.here hx rfl (hb hby d17_66) rfl ?_
    show Steps p.tables e below (T103.setTop (mkF m 67 #[.val (.ref a1), .val (.ref a2), .val (.ref t1), .val (.int (2 : Int32)), .val (.ref t2), .val (.int (2 : Int32)), .val (.int (0 : Int32)), .val (.int x0), .val (.int y0)] [(.long (x0.toInt64))])) _
    refine X103.ldc2Long hx hown (mvT hZ (hw _ (List.mem_of_getElem? (i := 94) rfl))) (g := (mkF m 67 #[.val (.ref a1), .val (.ref a2), .val (.ref t1), .val (.int (2 : Int32)), .val (.ref t2), .val (.int (2 : Int32)), .val (.int (0 : Int32)), .val (.int x0), .val (.int y0)] [(.long (x0.toInt64))])) rfl (hb hby d17_67) _ ?_
    show Steps p.tables e below (T103.setTop (mkF m 70 #[.val (.ref a1), .val (.ref a2), .val (.ref t1), .val (.int (2 : Int32)), .val (.ref t2), .val (.int (2 : Int32)), .val (.int (0 : Int32)), .val (.int x0), .val (.int y0)] [(.long (4294967295 : Int64)), (.long (x0.toInt64))])) _
    refine XS.land X103.here hx rfl (hb hby d17_70) rfl ?_
    show Steps p.tables e below (T103.setTop (mkF m 71 #[.val (.ref a1), .val (.ref a2), .val (.ref t1), .val (.int (2 : Int32)), .val (.ref t2), .val (.int (2 : Int32)), .val (.int (0 : Int32)), .val (.int x0), .val (.int y0)] [(.long ((x0.toInt64) &&& (4294967295 : Int64)))])) _
    refine XS.iload X103.here hx rfl (hb hby d17_71) rfl ?_
    show Steps p.tables e below (T103.setTop (mkF m 73 #[.val (.ref a1), .val (.ref a2), .val (.ref t1), .val (.int (2 : Int32)), .val (.ref t2), .val (.int (2 : Int32)), .val (.int (0 : Int32)), .val (.int x0), .val (.int y0)] [(.int y0), (.long ((x0.toInt64) &&& (4294967295 : Int64)))])) _
    refine XS.i2l X103.here hx rfl (hb hby d17_73) rfl ?_
    show Steps p.tables e below (T103.setTop (mkF m 74 #[.val (.ref a1), .val (.ref a2), .val (.ref t1), .val (.int (2 : Int32)), .val (.ref t2), .val (.int (2 : Int32)), .val (.int (0 : Int32)), .val (.int x0), .val (.int y0)] [(.long (y0.toInt64)), (.long ((x0.toInt64) &&& (4294967295 : Int64)))])) _
    refine X103.ldc2Long hx hown (mvT hZ (hw _ (List.mem_of_getElem? (i := 94) rfl))) (g := (mkF m 74 #[.val (.ref a1), .val (.ref a2), .val (.ref t1), .val (.int (2 : Int32)), .val (.ref t2), .val (.int (2 : Int32)), .val (.int (0 : Int32)), .val (.int x0), .val (.int y0)] [(.long (y0.toInt64)), (.long ((x0.toInt64) &&& (4294967295 : Int64)))])) rfl (hb hby d17_74) _ ?_
    show Steps p.tables e below (T103.setTop (mkF m 77 #[.val (.ref a1), .val (.ref a2), .val (.ref t1), .val (.int (2 : Int32)), .val (.ref t2), .val (.int (2 : Int32)), .val (.int (0 : Int32)), .val (.int x0), .val (.int y0)] [(.long (4294967295 : Int64)), (.long (y0.toInt64)), (.long ((x0.toInt64) &&& (4294967295 : Int64)))])) _
    refine XS.land X103.here hx rfl (hb hby d17_77) rfl ?_
    show Steps p.tables e below (T103.setTop (mkF m 78 #[.val (.ref a1), .val (.ref a2), .val (.ref t1), .val (.int (2 : Int32)), .val (.ref t2), .val (.int (2 : Int32)), .val (.int (0 : Int32)), .val (.int x0), .val (.int y0)] [(.long ((y0.toInt64) &&& (4294967295 : Int64))), (.long ((x0.toInt64) &&& (4294967295 : Int64)))])) _
    refine XS.lcmp X103.here hx rfl (hb hby d17_78) rfl ?_
    show Steps p.tables e below (T103.setTop (mkF m 79 #[.val (.ref a1), .val (.ref a2), .val (.ref t1), .val (.int (2 : Int32)), .val (.ref t2), .val (.int (2 : Int32)), .val (.int (0 : Int32)), .val (.int x0), .val (.int y0)] [(.int (lcmpW ((x0.toInt64) &&& (4294967295 : Int64)) ((y0.toInt64) &&& (4294967295 : Int64))))])) _
    refine XS.ifNo X103.here hx rfl (hb hby d17_79) rfl ((if0 _ _).trans (tlt hc79).2.1) ?_
    show Steps p.tables e below (T103.setTop (mkF m 82 #[.val (.ref a1), .val (.ref a2), .val (.ref t1), .val (.int (2 : Int32)), .val (.ref t2), .val (.int (2 : Int32)), .val (.int (0 : Int32)), .val (.int x0), .val (.int y0)] [])) _
    refine XS.iconst X103.here hx rfl (hb hby d17_82) ?_
    show Steps p.tables e below (T103.setTop (mkF m 83 #[.val (.ref a1), .val (.ref a2), .val (.ref t1), .val (.int (2 : Int32)), .val (.ref t2), .val (.int (2 : Int32)), .val (.int (0 : Int32)), .val (.int x0), .val (.int y0)] [(.int (-1 : Int32))])) _
    refine XS.goto X103.here hx rfl (pc0 := 83) (pc' := 87) rfl (hb hby d17_83) (by decide) (by decide) ?_
    show Steps p.tables e below (T103.setTop (mkF m 87 #[.val (.ref a1), .val (.ref a2), .val (.ref t1), .val (.int (2 : Int32)), .val (.ref t2), .val (.int (2 : Int32)), .val (.int (0 : Int32)), .val (.int x0), .val (.int y0)] [(.int (-1 : Int32))])) _
    exact retI X103 hx Bd.returns (hb hby d17_87) hr
  · show Qs (some (.int (own_cm [x0, x1] [y0, y1]))) h0 n0 _ T103.heap _
    rw [e103]
    exact ⟨by simp [own_cm, own_cm2, hn, hl], N0, rfl⟩
set_option maxRecDepth 65536 in
set_option maxHeartbeats 40000000 in
theorem rmCM_2_0_g (l : Launch) (Z : State) (a0 : Array Value) (hw : ∀ d ∈ tables_1, d.before a0 Z = true) (ws : List Jvm.Cond) (a1 : Addr) (a2 : Addr) (t1 : Addr) (t2 : Addr) (k1 : ClassId) (k2 : ClassId) (x0 : Int32) (x1 : Int32) (y0 : Int32) (y1 : Int32) (h0 : Heap) (n0 : Nat) (X00 : Old Z n0 h0) (M1 : Fld Z h0 a1 BI "mag" "[I" (.ref t1)) (M2 : Fld Z h0 a2 BI "mag" "[I" (.ref t2)) (V1 : Arv Z h0 t1 k1 .int (2 : Int32) [(.int x0), (.int x1)] (.int (0 : Int32))) (V2 : Arv Z h0 t2 k2 .int (2 : Int32) [(.int y0), (.int y1)] (.int (0 : Int32))) (hn : ¬ (x0 = y0)) (hl : ¬ (own_ux x0 < own_ux y0)) :
    MetFree l (⟨"java/math/BigInteger", "compareMagnitude", "(Ljava/math/BigInteger;)I"⟩ : MethodName) (head1 (Jvm.Cond.code (⟨"java/math/BigInteger", "compareMagnitude", "(Ljava/math/BigInteger;)I"⟩ : MethodName) jdk_2097_method_122_code 9 (some .int) :: ws) ({ frames := 0, cells := 0, slots := 0, locals := 0 } : Room)) (fun a U => a = #[(.ref a1), (.ref a2)] ∧ Z.Warmed39 U.vm ∧ U.heap = h0) (fun _ _ _ _ _ => True) (fun _ U o U' => ∃ rv rL, o = .returned rv ∧ Qs (some (.int (own_cm [x0, x1] [y0, y1]))) h0 n0 rv U'.heap rL ∧ FrameEnd U o U' rL ({ frames := 0, cells := 0, slots := 0, locals := 0 } : Room).cells ({ frames := 0, cells := 0, slots := 0, locals := 0 } : Room).slots) := by
  refine MetFree.of_bodySF (plainFor_of_name pn_17) hisR ?_
  intro p e s m args below meth c s₁ Bd hml0 hP hK
  obtain ⟨rfl, hZ, hh⟩ := hP
  have hx := Bd.exec
  have hby := Bd.bytes
  have hml : c.maxLocals = 9 := hml0
  have hown : s.vm.findClass "java/math/BigInteger" = some m.cls := findClass_of_methodNamed Bd.named
  have hnm := (name_of_methodNamed Bd.named Bd.method).1
  have X0 : Stand p l e ({ frames := 0, cells := 0, slots := 0, locals := 0 } : Room) s m #[(.ref a1), (.ref a2)] below meth c s₁ [] 0 0 := Stand.of_body Bd
  have e0 : s₁.heap = h0 := by rw [← hh, Bd.state]; rfl
  have N0 := Fr.nil n0
  have pre0 : ∀ t, Steps p.tables e below (s₁.setTop (mkF m 0 #[.val (.ref a1), .val (.ref a2), .unset, .unset, .unset, .unset, .unset, .unset, .unset] [])) t → Steps p.tables e below (s₁.setTop (entryFrame m #[(.ref a1), (.ref a2)] 9)) t := fun t k => castTop (ef_17 m a1 a2) k
  obtain ⟨T101, X101, e101, st101⟩ := getF X0 hx hZ hown (host := "") (Or.inl (hw _ (List.mem_of_getElem? (i := 92) rfl))) Via.refl e0 M1 (g := (mkF m 1 #[.val (.ref a1), .val (.ref a2), .unset, .unset, .unset, .unset, .unset, .unset, .unset] [(.ref a1)])) rfl rfl (hb hby d17_1)
  obtain ⟨cl102, Ar102, q102, S102, M102, H102, G102⟩ := id V1
  obtain ⟨T103, X103, e103, st103⟩ := getF X101 hx hZ hown (host := "") (Or.inl (hw _ (List.mem_of_getElem? (i := 92) rfl))) Via.refl e101 M2 (g := (mkF m 9 #[.val (.ref a1), .val (.ref a2), .val (.ref t1), .val (.int (2 : Int32)), .unset, .unset, .unset, .unset, .unset] [(.ref a2)])) rfl rfl (hb hby d17_9)
  obtain ⟨cl104, Ar104, q104, S104, M104, H104, G104⟩ := id V2
  have hc22 : ¬ ((2 : Int32) < (2 : Int32)) := by decide
  have hc30 : ¬ ((2 : Int32) < (2 : Int32)) := by decide
  have hc41 : (0 : Int32) < (2 : Int32) := by decide
  have hat105 : cl102.slots[((0 : Int32)).toNatClampNeg]? = some (.int x0) := by rw [show ((0 : Int32)).toNatClampNeg = 0 from by decide]; exact H102 0 (by rw [S102]; decide)
  have hat106 : cl104.slots[((0 : Int32)).toNatClampNeg]? = some (.int y0) := by rw [show ((0 : Int32)).toNatClampNeg = 0 from by decide]; exact H104 0 (by rw [S104]; decide)
  have hc61 : ¬ (x0 = y0) := hn
  have hc79 : ¬ ((lcmpW ((x0.toInt64) &&& (4294967295 : Int64)) ((y0.toInt64) &&& (4294967295 : Int64))) < (0 : Int32)) := fun q => hl (own_mlt.mp ((lw_lt _ _).mp q))
  obtain ⟨fs, hr, hrun, hended, hW, hsame⟩ := X103.leave (v := some (.int (1 : Int32))) (fun h => by rw [Bd.returns] at h; cases h)
  refine ⟨_, _, pre0 _ ?_, hrun, hended, _, _, rfl, ?_, ⟨_, rfl⟩, hW, hsame.mono (by decide) (by decide)⟩
  · show Steps p.tables e below (s₁.setTop (mkF m 0 #[.val (.ref a1), .val (.ref a2), .unset, .unset, .unset, .unset, .unset, .unset, .unset] [])) _
    refine XS.aloadN X0.here hx rfl (hb hby d17_0) rfl rfl ?_
    show Steps p.tables e below (s₁.setTop (mkF m 1 #[.val (.ref a1), .val (.ref a2), .unset, .unset, .unset, .unset, .unset, .unset, .unset] [(.ref a1)])) _
    refine st101 _ ?_
    show Steps p.tables e below (T101.setTop (mkF m 4 #[.val (.ref a1), .val (.ref a2), .unset, .unset, .unset, .unset, .unset, .unset, .unset] [(.ref t1)])) _
    refine XS.astoreN X101.here hx rfl (hb hby d17_4) rfl rfl (l' := #[.val (.ref a1), .val (.ref a2), .val (.ref t1), .unset, .unset, .unset, .unset, .unset, .unset]) rfl ?_
    show Steps p.tables e below (T101.setTop (mkF m 5 #[.val (.ref a1), .val (.ref a2), .val (.ref t1), .unset, .unset, .unset, .unset, .unset, .unset] [])) _
    refine XS.aloadN X101.here hx rfl (hb hby d17_5) rfl rfl ?_
    show Steps p.tables e below (T101.setTop (mkF m 6 #[.val (.ref a1), .val (.ref a2), .val (.ref t1), .unset, .unset, .unset, .unset, .unset, .unset] [(.ref t1)])) _
    refine X101.arraylength hx (by rw [e101]; exact Ar102.1) (State.isArrayOf_alike hZ.alike Ar102.2.1) (g := (mkF m 6 #[.val (.ref a1), .val (.ref a2), .val (.ref t1), .unset, .unset, .unset, .unset, .unset, .unset] [(.ref t1)])) rfl rfl (hb hby d17_6) _ ?_
    rw [len_of S102 M102]
    show Steps p.tables e below (T101.setTop (mkF m 7 #[.val (.ref a1), .val (.ref a2), .val (.ref t1), .unset, .unset, .unset, .unset, .unset, .unset] [(.int (2 : Int32))])) _
    refine XS.istoreN X101.here hx rfl (hb hby d17_7) rfl (l' := #[.val (.ref a1), .val (.ref a2), .val (.ref t1), .val (.int (2 : Int32)), .unset, .unset, .unset, .unset, .unset]) rfl ?_
    show Steps p.tables e below (T101.setTop (mkF m 8 #[.val (.ref a1), .val (.ref a2), .val (.ref t1), .val (.int (2 : Int32)), .unset, .unset, .unset, .unset, .unset] [])) _
    refine XS.aloadN X101.here hx rfl (hb hby d17_8) rfl rfl ?_
    show Steps p.tables e below (T101.setTop (mkF m 9 #[.val (.ref a1), .val (.ref a2), .val (.ref t1), .val (.int (2 : Int32)), .unset, .unset, .unset, .unset, .unset] [(.ref a2)])) _
    refine st103 _ ?_
    show Steps p.tables e below (T103.setTop (mkF m 12 #[.val (.ref a1), .val (.ref a2), .val (.ref t1), .val (.int (2 : Int32)), .unset, .unset, .unset, .unset, .unset] [(.ref t2)])) _
    refine XS.astore X103.here hx rfl (hb hby d17_12) rfl rfl (l' := #[.val (.ref a1), .val (.ref a2), .val (.ref t1), .val (.int (2 : Int32)), .val (.ref t2), .unset, .unset, .unset, .unset]) rfl ?_
    show Steps p.tables e below (T103.setTop (mkF m 14 #[.val (.ref a1), .val (.ref a2), .val (.ref t1), .val (.int (2 : Int32)), .val (.ref t2), .unset, .unset, .unset, .unset] [])) _
    refine XS.aload X103.here hx rfl (hb hby d17_14) rfl rfl ?_
    show Steps p.tables e below (T103.setTop (mkF m 16 #[.val (.ref a1), .val (.ref a2), .val (.ref t1), .val (.int (2 : Int32)), .val (.ref t2), .unset, .unset, .unset, .unset] [(.ref t2)])) _
    refine X103.arraylength hx (by rw [e103]; exact Ar104.1) (State.isArrayOf_alike hZ.alike Ar104.2.1) (g := (mkF m 16 #[.val (.ref a1), .val (.ref a2), .val (.ref t1), .val (.int (2 : Int32)), .val (.ref t2), .unset, .unset, .unset, .unset] [(.ref t2)])) rfl rfl (hb hby d17_16) _ ?_
    rw [len_of S104 M104]
    show Steps p.tables e below (T103.setTop (mkF m 17 #[.val (.ref a1), .val (.ref a2), .val (.ref t1), .val (.int (2 : Int32)), .val (.ref t2), .unset, .unset, .unset, .unset] [(.int (2 : Int32))])) _
    refine XS.istore X103.here hx rfl (hb hby d17_17) rfl (l' := #[.val (.ref a1), .val (.ref a2), .val (.ref t1), .val (.int (2 : Int32)), .val (.ref t2), .val (.int (2 : Int32)), .unset, .unset, .unset]) rfl ?_
    show Steps p.tables e below (T103.setTop (mkF m 19 #[.val (.ref a1), .val (.ref a2), .val (.ref t1), .val (.int (2 : Int32)), .val (.ref t2), .val (.int (2 : Int32)), .unset, .unset, .unset] [])) _
    refine XS.iloadN X103.here hx rfl (hb hby d17_19) rfl ?_
    show Steps p.tables e below (T103.setTop (mkF m 20 #[.val (.ref a1), .val (.ref a2), .val (.ref t1), .val (.int (2 : Int32)), .val (.ref t2), .val (.int (2 : Int32)), .unset, .unset, .unset] [(.int (2 : Int32))])) _
    refine XS.iload X103.here hx rfl (hb hby d17_20) rfl ?_
    show Steps p.tables e below (T103.setTop (mkF m 22 #[.val (.ref a1), .val (.ref a2), .val (.ref t1), .val (.int (2 : Int32)), .val (.ref t2), .val (.int (2 : Int32)), .unset, .unset, .unset] [(.int (2 : Int32)), (.int (2 : Int32))])) _
    refine XS.icmpYes X103.here hx rfl (pc0 := 22) (pc' := 27) rfl (hb hby d17_22) rfl (flt hc22).2.1 (by decide) (by decide) ?_
    show Steps p.tables e below (T103.setTop (mkF m 27 #[.val (.ref a1), .val (.ref a2), .val (.ref t1), .val (.int (2 : Int32)), .val (.ref t2), .val (.int (2 : Int32)), .unset, .unset, .unset] [])) _
    refine XS.iloadN X103.here hx rfl (hb hby d17_27) rfl ?_
    show Steps p.tables e below (T103.setTop (mkF m 28 #[.val (.ref a1), .val (.ref a2), .val (.ref t1), .val (.int (2 : Int32)), .val (.ref t2), .val (.int (2 : Int32)), .unset, .unset, .unset] [(.int (2 : Int32))])) _
    refine XS.iload X103.here hx rfl (hb hby d17_28) rfl ?_
    show Steps p.tables e below (T103.setTop (mkF m 30 #[.val (.ref a1), .val (.ref a2), .val (.ref t1), .val (.int (2 : Int32)), .val (.ref t2), .val (.int (2 : Int32)), .unset, .unset, .unset] [(.int (2 : Int32)), (.int (2 : Int32))])) _
    refine XS.icmpYes X103.here hx rfl (pc0 := 30) (pc' := 35) rfl (hb hby d17_30) rfl (flt hc30).2.2.2 (by decide) (by decide) ?_
    show Steps p.tables e below (T103.setTop (mkF m 35 #[.val (.ref a1), .val (.ref a2), .val (.ref t1), .val (.int (2 : Int32)), .val (.ref t2), .val (.int (2 : Int32)), .unset, .unset, .unset] [])) _
    refine XS.iconst X103.here hx rfl (hb hby d17_35) ?_
    show Steps p.tables e below (T103.setTop (mkF m 36 #[.val (.ref a1), .val (.ref a2), .val (.ref t1), .val (.int (2 : Int32)), .val (.ref t2), .val (.int (2 : Int32)), .unset, .unset, .unset] [(.int (0 : Int32))])) _
    refine XS.istore X103.here hx rfl (hb hby d17_36) rfl (l' := #[.val (.ref a1), .val (.ref a2), .val (.ref t1), .val (.int (2 : Int32)), .val (.ref t2), .val (.int (2 : Int32)), .val (.int (0 : Int32)), .unset, .unset]) rfl ?_
    show Steps p.tables e below (T103.setTop (mkF m 38 #[.val (.ref a1), .val (.ref a2), .val (.ref t1), .val (.int (2 : Int32)), .val (.ref t2), .val (.int (2 : Int32)), .val (.int (0 : Int32)), .unset, .unset] [])) _
    refine XS.iload X103.here hx rfl (hb hby d17_38) rfl ?_
    show Steps p.tables e below (T103.setTop (mkF m 40 #[.val (.ref a1), .val (.ref a2), .val (.ref t1), .val (.int (2 : Int32)), .val (.ref t2), .val (.int (2 : Int32)), .val (.int (0 : Int32)), .unset, .unset] [(.int (0 : Int32))])) _
    refine XS.iloadN X103.here hx rfl (hb hby d17_40) rfl ?_
    show Steps p.tables e below (T103.setTop (mkF m 41 #[.val (.ref a1), .val (.ref a2), .val (.ref t1), .val (.int (2 : Int32)), .val (.ref t2), .val (.int (2 : Int32)), .val (.int (0 : Int32)), .unset, .unset] [(.int (2 : Int32)), (.int (0 : Int32))])) _
    refine XS.icmpNo X103.here hx rfl (hb hby d17_41) rfl (tlt hc41).2.1 ?_
    show Steps p.tables e below (T103.setTop (mkF m 44 #[.val (.ref a1), .val (.ref a2), .val (.ref t1), .val (.int (2 : Int32)), .val (.ref t2), .val (.int (2 : Int32)), .val (.int (0 : Int32)), .unset, .unset] [])) _
    refine XS.aloadN X103.here hx rfl (hb hby d17_44) rfl rfl ?_
    show Steps p.tables e below (T103.setTop (mkF m 45 #[.val (.ref a1), .val (.ref a2), .val (.ref t1), .val (.int (2 : Int32)), .val (.ref t2), .val (.int (2 : Int32)), .val (.int (0 : Int32)), .unset, .unset] [(.ref t1)])) _
    refine XS.iload X103.here hx rfl (hb hby d17_45) rfl ?_
    show Steps p.tables e below (T103.setTop (mkF m 47 #[.val (.ref a1), .val (.ref a2), .val (.ref t1), .val (.int (2 : Int32)), .val (.ref t2), .val (.int (2 : Int32)), .val (.int (0 : Int32)), .unset, .unset] [(.int (0 : Int32)), (.ref t1)])) _
    refine X103.iaload hx (j := (0 : Int32)) (v := (.int x0)) (by rw [e103]; exact Ar102.1) (State.isArrayOf_alike hZ.alike Ar102.2.1) Ar102.2.2 (inb_of S102 ⟨by decide, by decide⟩) hat105 (g := (mkF m 47 #[.val (.ref a1), .val (.ref a2), .val (.ref t1), .val (.int (2 : Int32)), .val (.ref t2), .val (.int (2 : Int32)), .val (.int (0 : Int32)), .unset, .unset] [(.int (0 : Int32)), (.ref t1)])) rfl rfl (hb hby d17_47) _ ?_
    show Steps p.tables e below (T103.setTop (mkF m 48 #[.val (.ref a1), .val (.ref a2), .val (.ref t1), .val (.int (2 : Int32)), .val (.ref t2), .val (.int (2 : Int32)), .val (.int (0 : Int32)), .unset, .unset] [(.int x0)])) _
    refine XS.istore X103.here hx rfl (hb hby d17_48) rfl (l' := #[.val (.ref a1), .val (.ref a2), .val (.ref t1), .val (.int (2 : Int32)), .val (.ref t2), .val (.int (2 : Int32)), .val (.int (0 : Int32)), .val (.int x0), .unset]) rfl ?_
    show Steps p.tables e below (T103.setTop (mkF m 50 #[.val (.ref a1), .val (.ref a2), .val (.ref t1), .val (.int (2 : Int32)), .val (.ref t2), .val (.int (2 : Int32)), .val (.int (0 : Int32)), .val (.int x0), .unset] [])) _
    refine XS.aload X103.here hx rfl (hb hby d17_50) rfl rfl ?_
    show Steps p.tables e below (T103.setTop (mkF m 52 #[.val (.ref a1), .val (.ref a2), .val (.ref t1), .val (.int (2 : Int32)), .val (.ref t2), .val (.int (2 : Int32)), .val (.int (0 : Int32)), .val (.int x0), .unset] [(.ref t2)])) _
    refine XS.iload X103.here hx rfl (hb hby d17_52) rfl ?_
    show Steps p.tables e below (T103.setTop (mkF m 54 #[.val (.ref a1), .val (.ref a2), .val (.ref t1), .val (.int (2 : Int32)), .val (.ref t2), .val (.int (2 : Int32)), .val (.int (0 : Int32)), .val (.int x0), .unset] [(.int (0 : Int32)), (.ref t2)])) _
    refine X103.iaload hx (j := (0 : Int32)) (v := (.int y0)) (by rw [e103]; exact Ar104.1) (State.isArrayOf_alike hZ.alike Ar104.2.1) Ar104.2.2 (inb_of S104 ⟨by decide, by decide⟩) hat106 (g := (mkF m 54 #[.val (.ref a1), .val (.ref a2), .val (.ref t1), .val (.int (2 : Int32)), .val (.ref t2), .val (.int (2 : Int32)), .val (.int (0 : Int32)), .val (.int x0), .unset] [(.int (0 : Int32)), (.ref t2)])) rfl rfl (hb hby d17_54) _ ?_
    show Steps p.tables e below (T103.setTop (mkF m 55 #[.val (.ref a1), .val (.ref a2), .val (.ref t1), .val (.int (2 : Int32)), .val (.ref t2), .val (.int (2 : Int32)), .val (.int (0 : Int32)), .val (.int x0), .unset] [(.int y0)])) _
    refine XS.istore X103.here hx rfl (hb hby d17_55) rfl (l' := #[.val (.ref a1), .val (.ref a2), .val (.ref t1), .val (.int (2 : Int32)), .val (.ref t2), .val (.int (2 : Int32)), .val (.int (0 : Int32)), .val (.int x0), .val (.int y0)]) rfl ?_
    show Steps p.tables e below (T103.setTop (mkF m 57 #[.val (.ref a1), .val (.ref a2), .val (.ref t1), .val (.int (2 : Int32)), .val (.ref t2), .val (.int (2 : Int32)), .val (.int (0 : Int32)), .val (.int x0), .val (.int y0)] [])) _
    refine XS.iload X103.here hx rfl (hb hby d17_57) rfl ?_
    show Steps p.tables e below (T103.setTop (mkF m 59 #[.val (.ref a1), .val (.ref a2), .val (.ref t1), .val (.int (2 : Int32)), .val (.ref t2), .val (.int (2 : Int32)), .val (.int (0 : Int32)), .val (.int x0), .val (.int y0)] [(.int x0)])) _
    refine XS.iload X103.here hx rfl (hb hby d17_59) rfl ?_
    show Steps p.tables e below (T103.setTop (mkF m 61 #[.val (.ref a1), .val (.ref a2), .val (.ref t1), .val (.int (2 : Int32)), .val (.ref t2), .val (.int (2 : Int32)), .val (.int (0 : Int32)), .val (.int x0), .val (.int y0)] [(.int y0), (.int x0)])) _
    refine XS.icmpNo X103.here hx rfl (hb hby d17_61) rfl (feq hc61).1 ?_
    show Steps p.tables e below (T103.setTop (mkF m 64 #[.val (.ref a1), .val (.ref a2), .val (.ref t1), .val (.int (2 : Int32)), .val (.ref t2), .val (.int (2 : Int32)), .val (.int (0 : Int32)), .val (.int x0), .val (.int y0)] [])) _
    refine XS.iload X103.here hx rfl (hb hby d17_64) rfl ?_
    show Steps p.tables e below (T103.setTop (mkF m 66 #[.val (.ref a1), .val (.ref a2), .val (.ref t1), .val (.int (2 : Int32)), .val (.ref t2), .val (.int (2 : Int32)), .val (.int (0 : Int32)), .val (.int x0), .val (.int y0)] [(.int x0)])) _
    refine XS.i2l X103.here hx rfl (hb hby d17_66) rfl ?_
    show Steps p.tables e below (T103.setTop (mkF m 67 #[.val (.ref a1), .val (.ref a2), .val (.ref t1), .val (.int (2 : Int32)), .val (.ref t2), .val (.int (2 : Int32)), .val (.int (0 : Int32)), .val (.int x0), .val (.int y0)] [(.long (x0.toInt64))])) _
    refine X103.ldc2Long hx hown (mvT hZ (hw _ (List.mem_of_getElem? (i := 94) rfl))) (g := (mkF m 67 #[.val (.ref a1), .val (.ref a2), .val (.ref t1), .val (.int (2 : Int32)), .val (.ref t2), .val (.int (2 : Int32)), .val (.int (0 : Int32)), .val (.int x0), .val (.int y0)] [(.long (x0.toInt64))])) rfl (hb hby d17_67) _ ?_
    show Steps p.tables e below (T103.setTop (mkF m 70 #[.val (.ref a1), .val (.ref a2), .val (.ref t1), .val (.int (2 : Int32)), .val (.ref t2), .val (.int (2 : Int32)), .val (.int (0 : Int32)), .val (.int x0), .val (.int y0)] [(.long (4294967295 : Int64)), (.long (x0.toInt64))])) _
    refine XS.land X103.here hx rfl (hb hby d17_70) rfl ?_
    show Steps p.tables e below (T103.setTop (mkF m 71 #[.val (.ref a1), .val (.ref a2), .val (.ref t1), .val (.int (2 : Int32)), .val (.ref t2), .val (.int (2 : Int32)), .val (.int (0 : Int32)), .val (.int x0), .val (.int y0)] [(.long ((x0.toInt64) &&& (4294967295 : Int64)))])) _
    refine XS.iload X103.here hx rfl (hb hby d17_71) rfl ?_
    show Steps p.tables e below (T103.setTop (mkF m 73 #[.val (.ref a1), .val (.ref a2), .val (.ref t1), .val (.int (2 : Int32)), .val (.ref t2), .val (.int (2 : Int32)), .val (.int (0 : Int32)), .val (.int x0), .val (.int y0)] [(.int y0), (.long ((x0.toInt64) &&& (4294967295 : Int64)))])) _
    refine XS.i2l X103.here hx rfl (hb hby d17_73) rfl ?_
    show Steps p.tables e below (T103.setTop (mkF m 74 #[.val (.ref a1), .val (.ref a2), .val (.ref t1), .val (.int (2 : Int32)), .val (.ref t2), .val (.int (2 : Int32)), .val (.int (0 : Int32)), .val (.int x0), .val (.int y0)] [(.long (y0.toInt64)), (.long ((x0.toInt64) &&& (4294967295 : Int64)))])) _
    refine X103.ldc2Long hx hown (mvT hZ (hw _ (List.mem_of_getElem? (i := 94) rfl))) (g := (mkF m 74 #[.val (.ref a1), .val (.ref a2), .val (.ref t1), .val (.int (2 : Int32)), .val (.ref t2), .val (.int (2 : Int32)), .val (.int (0 : Int32)), .val (.int x0), .val (.int y0)] [(.long (y0.toInt64)), (.long ((x0.toInt64) &&& (4294967295 : Int64)))])) rfl (hb hby d17_74) _ ?_
    show Steps p.tables e below (T103.setTop (mkF m 77 #[.val (.ref a1), .val (.ref a2), .val (.ref t1), .val (.int (2 : Int32)), .val (.ref t2), .val (.int (2 : Int32)), .val (.int (0 : Int32)), .val (.int x0), .val (.int y0)] [(.long (4294967295 : Int64)), (.long (y0.toInt64)), (.long ((x0.toInt64) &&& (4294967295 : Int64)))])) _
    refine XS.land X103.here hx rfl (hb hby d17_77) rfl ?_
    show Steps p.tables e below (T103.setTop (mkF m 78 #[.val (.ref a1), .val (.ref a2), .val (.ref t1), .val (.int (2 : Int32)), .val (.ref t2), .val (.int (2 : Int32)), .val (.int (0 : Int32)), .val (.int x0), .val (.int y0)] [(.long ((y0.toInt64) &&& (4294967295 : Int64))), (.long ((x0.toInt64) &&& (4294967295 : Int64)))])) _
    refine XS.lcmp X103.here hx rfl (hb hby d17_78) rfl ?_
    show Steps p.tables e below (T103.setTop (mkF m 79 #[.val (.ref a1), .val (.ref a2), .val (.ref t1), .val (.int (2 : Int32)), .val (.ref t2), .val (.int (2 : Int32)), .val (.int (0 : Int32)), .val (.int x0), .val (.int y0)] [(.int (lcmpW ((x0.toInt64) &&& (4294967295 : Int64)) ((y0.toInt64) &&& (4294967295 : Int64))))])) _
    refine XS.ifYes X103.here hx rfl (pc0 := 79) (pc' := 86) rfl (hb hby d17_79) rfl ((if0 _ _).trans (flt hc79).2.1) (by decide) (by decide) ?_
    show Steps p.tables e below (T103.setTop (mkF m 86 #[.val (.ref a1), .val (.ref a2), .val (.ref t1), .val (.int (2 : Int32)), .val (.ref t2), .val (.int (2 : Int32)), .val (.int (0 : Int32)), .val (.int x0), .val (.int y0)] [])) _
    refine XS.iconst X103.here hx rfl (hb hby d17_86) ?_
    show Steps p.tables e below (T103.setTop (mkF m 87 #[.val (.ref a1), .val (.ref a2), .val (.ref t1), .val (.int (2 : Int32)), .val (.ref t2), .val (.int (2 : Int32)), .val (.int (0 : Int32)), .val (.int x0), .val (.int y0)] [(.int (1 : Int32))])) _
    exact retI X103 hx Bd.returns (hb hby d17_87) hr
  · show Qs (some (.int (own_cm [x0, x1] [y0, y1]))) h0 n0 _ T103.heap _
    rw [e103]
    exact ⟨by simp [own_cm, own_cm2, hn, hl], N0, rfl⟩
set_option maxRecDepth 65536 in
set_option maxHeartbeats 40000000 in
theorem rmCM_2_1_l (l : Launch) (Z : State) (a0 : Array Value) (hw : ∀ d ∈ tables_1, d.before a0 Z = true) (ws : List Jvm.Cond) (a1 : Addr) (a2 : Addr) (t1 : Addr) (t2 : Addr) (k1 : ClassId) (k2 : ClassId) (x0 : Int32) (x1 : Int32) (y0 : Int32) (y1 : Int32) (h0 : Heap) (n0 : Nat) (X00 : Old Z n0 h0) (M1 : Fld Z h0 a1 BI "mag" "[I" (.ref t1)) (M2 : Fld Z h0 a2 BI "mag" "[I" (.ref t2)) (V1 : Arv Z h0 t1 k1 .int (2 : Int32) [(.int x0), (.int x1)] (.int (0 : Int32))) (V2 : Arv Z h0 t2 k2 .int (2 : Int32) [(.int y0), (.int y1)] (.int (0 : Int32))) (he0 : x0 = y0) (hn : ¬ (x1 = y1)) (hl : own_ux x1 < own_ux y1) :
    MetFree l (⟨"java/math/BigInteger", "compareMagnitude", "(Ljava/math/BigInteger;)I"⟩ : MethodName) (head1 (Jvm.Cond.code (⟨"java/math/BigInteger", "compareMagnitude", "(Ljava/math/BigInteger;)I"⟩ : MethodName) jdk_2097_method_122_code 9 (some .int) :: ws) ({ frames := 0, cells := 0, slots := 0, locals := 0 } : Room)) (fun a U => a = #[(.ref a1), (.ref a2)] ∧ Z.Warmed39 U.vm ∧ U.heap = h0) (fun _ _ _ _ _ => True) (fun _ U o U' => ∃ rv rL, o = .returned rv ∧ Qs (some (.int (own_cm [x0, x1] [y0, y1]))) h0 n0 rv U'.heap rL ∧ FrameEnd U o U' rL ({ frames := 0, cells := 0, slots := 0, locals := 0 } : Room).cells ({ frames := 0, cells := 0, slots := 0, locals := 0 } : Room).slots) := by
  refine MetFree.of_bodySF (plainFor_of_name pn_17) hisR ?_
  intro p e s m args below meth c s₁ Bd hml0 hP hK
  obtain ⟨rfl, hZ, hh⟩ := hP
  have hx := Bd.exec
  have hby := Bd.bytes
  have hml : c.maxLocals = 9 := hml0
  have hown : s.vm.findClass "java/math/BigInteger" = some m.cls := findClass_of_methodNamed Bd.named
  have hnm := (name_of_methodNamed Bd.named Bd.method).1
  have X0 : Stand p l e ({ frames := 0, cells := 0, slots := 0, locals := 0 } : Room) s m #[(.ref a1), (.ref a2)] below meth c s₁ [] 0 0 := Stand.of_body Bd
  have e0 : s₁.heap = h0 := by rw [← hh, Bd.state]; rfl
  have N0 := Fr.nil n0
  have pre0 : ∀ t, Steps p.tables e below (s₁.setTop (mkF m 0 #[.val (.ref a1), .val (.ref a2), .unset, .unset, .unset, .unset, .unset, .unset, .unset] [])) t → Steps p.tables e below (s₁.setTop (entryFrame m #[(.ref a1), (.ref a2)] 9)) t := fun t k => castTop (ef_17 m a1 a2) k
  obtain ⟨T101, X101, e101, st101⟩ := getF X0 hx hZ hown (host := "") (Or.inl (hw _ (List.mem_of_getElem? (i := 92) rfl))) Via.refl e0 M1 (g := (mkF m 1 #[.val (.ref a1), .val (.ref a2), .unset, .unset, .unset, .unset, .unset, .unset, .unset] [(.ref a1)])) rfl rfl (hb hby d17_1)
  obtain ⟨cl102, Ar102, q102, S102, M102, H102, G102⟩ := id V1
  obtain ⟨T103, X103, e103, st103⟩ := getF X101 hx hZ hown (host := "") (Or.inl (hw _ (List.mem_of_getElem? (i := 92) rfl))) Via.refl e101 M2 (g := (mkF m 9 #[.val (.ref a1), .val (.ref a2), .val (.ref t1), .val (.int (2 : Int32)), .unset, .unset, .unset, .unset, .unset] [(.ref a2)])) rfl rfl (hb hby d17_9)
  obtain ⟨cl104, Ar104, q104, S104, M104, H104, G104⟩ := id V2
  have hc22 : ¬ ((2 : Int32) < (2 : Int32)) := by decide
  have hc30 : ¬ ((2 : Int32) < (2 : Int32)) := by decide
  have hc41 : (0 : Int32) < (2 : Int32) := by decide
  have hat105 : cl102.slots[((0 : Int32)).toNatClampNeg]? = some (.int x0) := by rw [show ((0 : Int32)).toNatClampNeg = 0 from by decide]; exact H102 0 (by rw [S102]; decide)
  have hat106 : cl104.slots[((0 : Int32)).toNatClampNeg]? = some (.int y0) := by rw [show ((0 : Int32)).toNatClampNeg = 0 from by decide]; exact H104 0 (by rw [S104]; decide)
  have hc61 : x0 = y0 := he0
  have hc41_1 : ((0 : Int32) + (1 : Int32)) < (2 : Int32) := by decide
  have hat107 : cl102.slots[(((0 : Int32) + (1 : Int32))).toNatClampNeg]? = some (.int x1) := by rw [show (((0 : Int32) + (1 : Int32))).toNatClampNeg = 1 from by decide]; exact H102 1 (by rw [S102]; decide)
  have hat108 : cl104.slots[(((0 : Int32) + (1 : Int32))).toNatClampNeg]? = some (.int y1) := by rw [show (((0 : Int32) + (1 : Int32))).toNatClampNeg = 1 from by decide]; exact H104 1 (by rw [S104]; decide)
  have hc61_1 : ¬ (x1 = y1) := hn
  have hc79 : (lcmpW ((x1.toInt64) &&& (4294967295 : Int64)) ((y1.toInt64) &&& (4294967295 : Int64))) < (0 : Int32) := (lw_lt _ _).mpr (own_mlt.mpr hl)
  obtain ⟨fs, hr, hrun, hended, hW, hsame⟩ := X103.leave (v := some (.int (-1 : Int32))) (fun h => by rw [Bd.returns] at h; cases h)
  refine ⟨_, _, pre0 _ ?_, hrun, hended, _, _, rfl, ?_, ⟨_, rfl⟩, hW, hsame.mono (by decide) (by decide)⟩
  · show Steps p.tables e below (s₁.setTop (mkF m 0 #[.val (.ref a1), .val (.ref a2), .unset, .unset, .unset, .unset, .unset, .unset, .unset] [])) _
    refine XS.aloadN X0.here hx rfl (hb hby d17_0) rfl rfl ?_
    show Steps p.tables e below (s₁.setTop (mkF m 1 #[.val (.ref a1), .val (.ref a2), .unset, .unset, .unset, .unset, .unset, .unset, .unset] [(.ref a1)])) _
    refine st101 _ ?_
    show Steps p.tables e below (T101.setTop (mkF m 4 #[.val (.ref a1), .val (.ref a2), .unset, .unset, .unset, .unset, .unset, .unset, .unset] [(.ref t1)])) _
    refine XS.astoreN X101.here hx rfl (hb hby d17_4) rfl rfl (l' := #[.val (.ref a1), .val (.ref a2), .val (.ref t1), .unset, .unset, .unset, .unset, .unset, .unset]) rfl ?_
    show Steps p.tables e below (T101.setTop (mkF m 5 #[.val (.ref a1), .val (.ref a2), .val (.ref t1), .unset, .unset, .unset, .unset, .unset, .unset] [])) _
    refine XS.aloadN X101.here hx rfl (hb hby d17_5) rfl rfl ?_
    show Steps p.tables e below (T101.setTop (mkF m 6 #[.val (.ref a1), .val (.ref a2), .val (.ref t1), .unset, .unset, .unset, .unset, .unset, .unset] [(.ref t1)])) _
    refine X101.arraylength hx (by rw [e101]; exact Ar102.1) (State.isArrayOf_alike hZ.alike Ar102.2.1) (g := (mkF m 6 #[.val (.ref a1), .val (.ref a2), .val (.ref t1), .unset, .unset, .unset, .unset, .unset, .unset] [(.ref t1)])) rfl rfl (hb hby d17_6) _ ?_
    rw [len_of S102 M102]
    show Steps p.tables e below (T101.setTop (mkF m 7 #[.val (.ref a1), .val (.ref a2), .val (.ref t1), .unset, .unset, .unset, .unset, .unset, .unset] [(.int (2 : Int32))])) _
    refine XS.istoreN X101.here hx rfl (hb hby d17_7) rfl (l' := #[.val (.ref a1), .val (.ref a2), .val (.ref t1), .val (.int (2 : Int32)), .unset, .unset, .unset, .unset, .unset]) rfl ?_
    show Steps p.tables e below (T101.setTop (mkF m 8 #[.val (.ref a1), .val (.ref a2), .val (.ref t1), .val (.int (2 : Int32)), .unset, .unset, .unset, .unset, .unset] [])) _
    refine XS.aloadN X101.here hx rfl (hb hby d17_8) rfl rfl ?_
    show Steps p.tables e below (T101.setTop (mkF m 9 #[.val (.ref a1), .val (.ref a2), .val (.ref t1), .val (.int (2 : Int32)), .unset, .unset, .unset, .unset, .unset] [(.ref a2)])) _
    refine st103 _ ?_
    show Steps p.tables e below (T103.setTop (mkF m 12 #[.val (.ref a1), .val (.ref a2), .val (.ref t1), .val (.int (2 : Int32)), .unset, .unset, .unset, .unset, .unset] [(.ref t2)])) _
    refine XS.astore X103.here hx rfl (hb hby d17_12) rfl rfl (l' := #[.val (.ref a1), .val (.ref a2), .val (.ref t1), .val (.int (2 : Int32)), .val (.ref t2), .unset, .unset, .unset, .unset]) rfl ?_
    show Steps p.tables e below (T103.setTop (mkF m 14 #[.val (.ref a1), .val (.ref a2), .val (.ref t1), .val (.int (2 : Int32)), .val (.ref t2), .unset, .unset, .unset, .unset] [])) _
    refine XS.aload X103.here hx rfl (hb hby d17_14) rfl rfl ?_
    show Steps p.tables e below (T103.setTop (mkF m 16 #[.val (.ref a1), .val (.ref a2), .val (.ref t1), .val (.int (2 : Int32)), .val (.ref t2), .unset, .unset, .unset, .unset] [(.ref t2)])) _
    refine X103.arraylength hx (by rw [e103]; exact Ar104.1) (State.isArrayOf_alike hZ.alike Ar104.2.1) (g := (mkF m 16 #[.val (.ref a1), .val (.ref a2), .val (.ref t1), .val (.int (2 : Int32)), .val (.ref t2), .unset, .unset, .unset, .unset] [(.ref t2)])) rfl rfl (hb hby d17_16) _ ?_
    rw [len_of S104 M104]
    show Steps p.tables e below (T103.setTop (mkF m 17 #[.val (.ref a1), .val (.ref a2), .val (.ref t1), .val (.int (2 : Int32)), .val (.ref t2), .unset, .unset, .unset, .unset] [(.int (2 : Int32))])) _
    refine XS.istore X103.here hx rfl (hb hby d17_17) rfl (l' := #[.val (.ref a1), .val (.ref a2), .val (.ref t1), .val (.int (2 : Int32)), .val (.ref t2), .val (.int (2 : Int32)), .unset, .unset, .unset]) rfl ?_
    show Steps p.tables e below (T103.setTop (mkF m 19 #[.val (.ref a1), .val (.ref a2), .val (.ref t1), .val (.int (2 : Int32)), .val (.ref t2), .val (.int (2 : Int32)), .unset, .unset, .unset] [])) _
    refine XS.iloadN X103.here hx rfl (hb hby d17_19) rfl ?_
    show Steps p.tables e below (T103.setTop (mkF m 20 #[.val (.ref a1), .val (.ref a2), .val (.ref t1), .val (.int (2 : Int32)), .val (.ref t2), .val (.int (2 : Int32)), .unset, .unset, .unset] [(.int (2 : Int32))])) _
    refine XS.iload X103.here hx rfl (hb hby d17_20) rfl ?_
    show Steps p.tables e below (T103.setTop (mkF m 22 #[.val (.ref a1), .val (.ref a2), .val (.ref t1), .val (.int (2 : Int32)), .val (.ref t2), .val (.int (2 : Int32)), .unset, .unset, .unset] [(.int (2 : Int32)), (.int (2 : Int32))])) _
    refine XS.icmpYes X103.here hx rfl (pc0 := 22) (pc' := 27) rfl (hb hby d17_22) rfl (flt hc22).2.1 (by decide) (by decide) ?_
    show Steps p.tables e below (T103.setTop (mkF m 27 #[.val (.ref a1), .val (.ref a2), .val (.ref t1), .val (.int (2 : Int32)), .val (.ref t2), .val (.int (2 : Int32)), .unset, .unset, .unset] [])) _
    refine XS.iloadN X103.here hx rfl (hb hby d17_27) rfl ?_
    show Steps p.tables e below (T103.setTop (mkF m 28 #[.val (.ref a1), .val (.ref a2), .val (.ref t1), .val (.int (2 : Int32)), .val (.ref t2), .val (.int (2 : Int32)), .unset, .unset, .unset] [(.int (2 : Int32))])) _
    refine XS.iload X103.here hx rfl (hb hby d17_28) rfl ?_
    show Steps p.tables e below (T103.setTop (mkF m 30 #[.val (.ref a1), .val (.ref a2), .val (.ref t1), .val (.int (2 : Int32)), .val (.ref t2), .val (.int (2 : Int32)), .unset, .unset, .unset] [(.int (2 : Int32)), (.int (2 : Int32))])) _
    refine XS.icmpYes X103.here hx rfl (pc0 := 30) (pc' := 35) rfl (hb hby d17_30) rfl (flt hc30).2.2.2 (by decide) (by decide) ?_
    show Steps p.tables e below (T103.setTop (mkF m 35 #[.val (.ref a1), .val (.ref a2), .val (.ref t1), .val (.int (2 : Int32)), .val (.ref t2), .val (.int (2 : Int32)), .unset, .unset, .unset] [])) _
    refine XS.iconst X103.here hx rfl (hb hby d17_35) ?_
    show Steps p.tables e below (T103.setTop (mkF m 36 #[.val (.ref a1), .val (.ref a2), .val (.ref t1), .val (.int (2 : Int32)), .val (.ref t2), .val (.int (2 : Int32)), .unset, .unset, .unset] [(.int (0 : Int32))])) _
    refine XS.istore X103.here hx rfl (hb hby d17_36) rfl (l' := #[.val (.ref a1), .val (.ref a2), .val (.ref t1), .val (.int (2 : Int32)), .val (.ref t2), .val (.int (2 : Int32)), .val (.int (0 : Int32)), .unset, .unset]) rfl ?_
    show Steps p.tables e below (T103.setTop (mkF m 38 #[.val (.ref a1), .val (.ref a2), .val (.ref t1), .val (.int (2 : Int32)), .val (.ref t2), .val (.int (2 : Int32)), .val (.int (0 : Int32)), .unset, .unset] [])) _
    refine XS.iload X103.here hx rfl (hb hby d17_38) rfl ?_
    show Steps p.tables e below (T103.setTop (mkF m 40 #[.val (.ref a1), .val (.ref a2), .val (.ref t1), .val (.int (2 : Int32)), .val (.ref t2), .val (.int (2 : Int32)), .val (.int (0 : Int32)), .unset, .unset] [(.int (0 : Int32))])) _
    refine XS.iloadN X103.here hx rfl (hb hby d17_40) rfl ?_
    show Steps p.tables e below (T103.setTop (mkF m 41 #[.val (.ref a1), .val (.ref a2), .val (.ref t1), .val (.int (2 : Int32)), .val (.ref t2), .val (.int (2 : Int32)), .val (.int (0 : Int32)), .unset, .unset] [(.int (2 : Int32)), (.int (0 : Int32))])) _
    refine XS.icmpNo X103.here hx rfl (hb hby d17_41) rfl (tlt hc41).2.1 ?_
    show Steps p.tables e below (T103.setTop (mkF m 44 #[.val (.ref a1), .val (.ref a2), .val (.ref t1), .val (.int (2 : Int32)), .val (.ref t2), .val (.int (2 : Int32)), .val (.int (0 : Int32)), .unset, .unset] [])) _
    refine XS.aloadN X103.here hx rfl (hb hby d17_44) rfl rfl ?_
    show Steps p.tables e below (T103.setTop (mkF m 45 #[.val (.ref a1), .val (.ref a2), .val (.ref t1), .val (.int (2 : Int32)), .val (.ref t2), .val (.int (2 : Int32)), .val (.int (0 : Int32)), .unset, .unset] [(.ref t1)])) _
    refine XS.iload X103.here hx rfl (hb hby d17_45) rfl ?_
    show Steps p.tables e below (T103.setTop (mkF m 47 #[.val (.ref a1), .val (.ref a2), .val (.ref t1), .val (.int (2 : Int32)), .val (.ref t2), .val (.int (2 : Int32)), .val (.int (0 : Int32)), .unset, .unset] [(.int (0 : Int32)), (.ref t1)])) _
    refine X103.iaload hx (j := (0 : Int32)) (v := (.int x0)) (by rw [e103]; exact Ar102.1) (State.isArrayOf_alike hZ.alike Ar102.2.1) Ar102.2.2 (inb_of S102 ⟨by decide, by decide⟩) hat105 (g := (mkF m 47 #[.val (.ref a1), .val (.ref a2), .val (.ref t1), .val (.int (2 : Int32)), .val (.ref t2), .val (.int (2 : Int32)), .val (.int (0 : Int32)), .unset, .unset] [(.int (0 : Int32)), (.ref t1)])) rfl rfl (hb hby d17_47) _ ?_
    show Steps p.tables e below (T103.setTop (mkF m 48 #[.val (.ref a1), .val (.ref a2), .val (.ref t1), .val (.int (2 : Int32)), .val (.ref t2), .val (.int (2 : Int32)), .val (.int (0 : Int32)), .unset, .unset] [(.int x0)])) _
    refine XS.istore X103.here hx rfl (hb hby d17_48) rfl (l' := #[.val (.ref a1), .val (.ref a2), .val (.ref t1), .val (.int (2 : Int32)), .val (.ref t2), .val (.int (2 : Int32)), .val (.int (0 : Int32)), .val (.int x0), .unset]) rfl ?_
    show Steps p.tables e below (T103.setTop (mkF m 50 #[.val (.ref a1), .val (.ref a2), .val (.ref t1), .val (.int (2 : Int32)), .val (.ref t2), .val (.int (2 : Int32)), .val (.int (0 : Int32)), .val (.int x0), .unset] [])) _
    refine XS.aload X103.here hx rfl (hb hby d17_50) rfl rfl ?_
    show Steps p.tables e below (T103.setTop (mkF m 52 #[.val (.ref a1), .val (.ref a2), .val (.ref t1), .val (.int (2 : Int32)), .val (.ref t2), .val (.int (2 : Int32)), .val (.int (0 : Int32)), .val (.int x0), .unset] [(.ref t2)])) _
    refine XS.iload X103.here hx rfl (hb hby d17_52) rfl ?_
    show Steps p.tables e below (T103.setTop (mkF m 54 #[.val (.ref a1), .val (.ref a2), .val (.ref t1), .val (.int (2 : Int32)), .val (.ref t2), .val (.int (2 : Int32)), .val (.int (0 : Int32)), .val (.int x0), .unset] [(.int (0 : Int32)), (.ref t2)])) _
    refine X103.iaload hx (j := (0 : Int32)) (v := (.int y0)) (by rw [e103]; exact Ar104.1) (State.isArrayOf_alike hZ.alike Ar104.2.1) Ar104.2.2 (inb_of S104 ⟨by decide, by decide⟩) hat106 (g := (mkF m 54 #[.val (.ref a1), .val (.ref a2), .val (.ref t1), .val (.int (2 : Int32)), .val (.ref t2), .val (.int (2 : Int32)), .val (.int (0 : Int32)), .val (.int x0), .unset] [(.int (0 : Int32)), (.ref t2)])) rfl rfl (hb hby d17_54) _ ?_
    show Steps p.tables e below (T103.setTop (mkF m 55 #[.val (.ref a1), .val (.ref a2), .val (.ref t1), .val (.int (2 : Int32)), .val (.ref t2), .val (.int (2 : Int32)), .val (.int (0 : Int32)), .val (.int x0), .unset] [(.int y0)])) _
    refine XS.istore X103.here hx rfl (hb hby d17_55) rfl (l' := #[.val (.ref a1), .val (.ref a2), .val (.ref t1), .val (.int (2 : Int32)), .val (.ref t2), .val (.int (2 : Int32)), .val (.int (0 : Int32)), .val (.int x0), .val (.int y0)]) rfl ?_
    show Steps p.tables e below (T103.setTop (mkF m 57 #[.val (.ref a1), .val (.ref a2), .val (.ref t1), .val (.int (2 : Int32)), .val (.ref t2), .val (.int (2 : Int32)), .val (.int (0 : Int32)), .val (.int x0), .val (.int y0)] [])) _
    refine XS.iload X103.here hx rfl (hb hby d17_57) rfl ?_
    show Steps p.tables e below (T103.setTop (mkF m 59 #[.val (.ref a1), .val (.ref a2), .val (.ref t1), .val (.int (2 : Int32)), .val (.ref t2), .val (.int (2 : Int32)), .val (.int (0 : Int32)), .val (.int x0), .val (.int y0)] [(.int x0)])) _
    refine XS.iload X103.here hx rfl (hb hby d17_59) rfl ?_
    show Steps p.tables e below (T103.setTop (mkF m 61 #[.val (.ref a1), .val (.ref a2), .val (.ref t1), .val (.int (2 : Int32)), .val (.ref t2), .val (.int (2 : Int32)), .val (.int (0 : Int32)), .val (.int x0), .val (.int y0)] [(.int y0), (.int x0)])) _
    refine XS.icmpYes X103.here hx rfl (pc0 := 61) (pc' := 88) rfl (hb hby d17_61) rfl (teq hc61).1 (by decide) (by decide) ?_
    show Steps p.tables e below (T103.setTop (mkF m 88 #[.val (.ref a1), .val (.ref a2), .val (.ref t1), .val (.int (2 : Int32)), .val (.ref t2), .val (.int (2 : Int32)), .val (.int (0 : Int32)), .val (.int x0), .val (.int y0)] [])) _
    refine XS.iinc X103.here hx rfl (hb hby d17_88) rfl (l' := #[.val (.ref a1), .val (.ref a2), .val (.ref t1), .val (.int (2 : Int32)), .val (.ref t2), .val (.int (2 : Int32)), .val (.int ((0 : Int32) + (1 : Int32))), .val (.int x0), .val (.int y0)]) rfl ?_
    show Steps p.tables e below (T103.setTop (mkF m 91 #[.val (.ref a1), .val (.ref a2), .val (.ref t1), .val (.int (2 : Int32)), .val (.ref t2), .val (.int (2 : Int32)), .val (.int ((0 : Int32) + (1 : Int32))), .val (.int x0), .val (.int y0)] [])) _
    refine XS.goto X103.here hx rfl (pc0 := 91) (pc' := 38) rfl (hb hby d17_91) (by decide) (by decide) ?_
    show Steps p.tables e below (T103.setTop (mkF m 38 #[.val (.ref a1), .val (.ref a2), .val (.ref t1), .val (.int (2 : Int32)), .val (.ref t2), .val (.int (2 : Int32)), .val (.int ((0 : Int32) + (1 : Int32))), .val (.int x0), .val (.int y0)] [])) _
    refine XS.iload X103.here hx rfl (hb hby d17_38) rfl ?_
    show Steps p.tables e below (T103.setTop (mkF m 40 #[.val (.ref a1), .val (.ref a2), .val (.ref t1), .val (.int (2 : Int32)), .val (.ref t2), .val (.int (2 : Int32)), .val (.int ((0 : Int32) + (1 : Int32))), .val (.int x0), .val (.int y0)] [(.int ((0 : Int32) + (1 : Int32)))])) _
    refine XS.iloadN X103.here hx rfl (hb hby d17_40) rfl ?_
    show Steps p.tables e below (T103.setTop (mkF m 41 #[.val (.ref a1), .val (.ref a2), .val (.ref t1), .val (.int (2 : Int32)), .val (.ref t2), .val (.int (2 : Int32)), .val (.int ((0 : Int32) + (1 : Int32))), .val (.int x0), .val (.int y0)] [(.int (2 : Int32)), (.int ((0 : Int32) + (1 : Int32)))])) _
    refine XS.icmpNo X103.here hx rfl (hb hby d17_41) rfl (tlt hc41_1).2.1 ?_
    show Steps p.tables e below (T103.setTop (mkF m 44 #[.val (.ref a1), .val (.ref a2), .val (.ref t1), .val (.int (2 : Int32)), .val (.ref t2), .val (.int (2 : Int32)), .val (.int ((0 : Int32) + (1 : Int32))), .val (.int x0), .val (.int y0)] [])) _
    refine XS.aloadN X103.here hx rfl (hb hby d17_44) rfl rfl ?_
    show Steps p.tables e below (T103.setTop (mkF m 45 #[.val (.ref a1), .val (.ref a2), .val (.ref t1), .val (.int (2 : Int32)), .val (.ref t2), .val (.int (2 : Int32)), .val (.int ((0 : Int32) + (1 : Int32))), .val (.int x0), .val (.int y0)] [(.ref t1)])) _
    refine XS.iload X103.here hx rfl (hb hby d17_45) rfl ?_
    show Steps p.tables e below (T103.setTop (mkF m 47 #[.val (.ref a1), .val (.ref a2), .val (.ref t1), .val (.int (2 : Int32)), .val (.ref t2), .val (.int (2 : Int32)), .val (.int ((0 : Int32) + (1 : Int32))), .val (.int x0), .val (.int y0)] [(.int ((0 : Int32) + (1 : Int32))), (.ref t1)])) _
    refine X103.iaload hx (j := ((0 : Int32) + (1 : Int32))) (v := (.int x1)) (by rw [e103]; exact Ar102.1) (State.isArrayOf_alike hZ.alike Ar102.2.1) Ar102.2.2 (inb_of S102 ⟨by decide, by decide⟩) hat107 (g := (mkF m 47 #[.val (.ref a1), .val (.ref a2), .val (.ref t1), .val (.int (2 : Int32)), .val (.ref t2), .val (.int (2 : Int32)), .val (.int ((0 : Int32) + (1 : Int32))), .val (.int x0), .val (.int y0)] [(.int ((0 : Int32) + (1 : Int32))), (.ref t1)])) rfl rfl (hb hby d17_47) _ ?_
    show Steps p.tables e below (T103.setTop (mkF m 48 #[.val (.ref a1), .val (.ref a2), .val (.ref t1), .val (.int (2 : Int32)), .val (.ref t2), .val (.int (2 : Int32)), .val (.int ((0 : Int32) + (1 : Int32))), .val (.int x0), .val (.int y0)] [(.int x1)])) _
    refine XS.istore X103.here hx rfl (hb hby d17_48) rfl (l' := #[.val (.ref a1), .val (.ref a2), .val (.ref t1), .val (.int (2 : Int32)), .val (.ref t2), .val (.int (2 : Int32)), .val (.int ((0 : Int32) + (1 : Int32))), .val (.int x1), .val (.int y0)]) rfl ?_
    show Steps p.tables e below (T103.setTop (mkF m 50 #[.val (.ref a1), .val (.ref a2), .val (.ref t1), .val (.int (2 : Int32)), .val (.ref t2), .val (.int (2 : Int32)), .val (.int ((0 : Int32) + (1 : Int32))), .val (.int x1), .val (.int y0)] [])) _
    refine XS.aload X103.here hx rfl (hb hby d17_50) rfl rfl ?_
    show Steps p.tables e below (T103.setTop (mkF m 52 #[.val (.ref a1), .val (.ref a2), .val (.ref t1), .val (.int (2 : Int32)), .val (.ref t2), .val (.int (2 : Int32)), .val (.int ((0 : Int32) + (1 : Int32))), .val (.int x1), .val (.int y0)] [(.ref t2)])) _
    refine XS.iload X103.here hx rfl (hb hby d17_52) rfl ?_
    show Steps p.tables e below (T103.setTop (mkF m 54 #[.val (.ref a1), .val (.ref a2), .val (.ref t1), .val (.int (2 : Int32)), .val (.ref t2), .val (.int (2 : Int32)), .val (.int ((0 : Int32) + (1 : Int32))), .val (.int x1), .val (.int y0)] [(.int ((0 : Int32) + (1 : Int32))), (.ref t2)])) _
    refine X103.iaload hx (j := ((0 : Int32) + (1 : Int32))) (v := (.int y1)) (by rw [e103]; exact Ar104.1) (State.isArrayOf_alike hZ.alike Ar104.2.1) Ar104.2.2 (inb_of S104 ⟨by decide, by decide⟩) hat108 (g := (mkF m 54 #[.val (.ref a1), .val (.ref a2), .val (.ref t1), .val (.int (2 : Int32)), .val (.ref t2), .val (.int (2 : Int32)), .val (.int ((0 : Int32) + (1 : Int32))), .val (.int x1), .val (.int y0)] [(.int ((0 : Int32) + (1 : Int32))), (.ref t2)])) rfl rfl (hb hby d17_54) _ ?_
    show Steps p.tables e below (T103.setTop (mkF m 55 #[.val (.ref a1), .val (.ref a2), .val (.ref t1), .val (.int (2 : Int32)), .val (.ref t2), .val (.int (2 : Int32)), .val (.int ((0 : Int32) + (1 : Int32))), .val (.int x1), .val (.int y0)] [(.int y1)])) _
    refine XS.istore X103.here hx rfl (hb hby d17_55) rfl (l' := #[.val (.ref a1), .val (.ref a2), .val (.ref t1), .val (.int (2 : Int32)), .val (.ref t2), .val (.int (2 : Int32)), .val (.int ((0 : Int32) + (1 : Int32))), .val (.int x1), .val (.int y1)]) rfl ?_
    show Steps p.tables e below (T103.setTop (mkF m 57 #[.val (.ref a1), .val (.ref a2), .val (.ref t1), .val (.int (2 : Int32)), .val (.ref t2), .val (.int (2 : Int32)), .val (.int ((0 : Int32) + (1 : Int32))), .val (.int x1), .val (.int y1)] [])) _
    refine XS.iload X103.here hx rfl (hb hby d17_57) rfl ?_
    show Steps p.tables e below (T103.setTop (mkF m 59 #[.val (.ref a1), .val (.ref a2), .val (.ref t1), .val (.int (2 : Int32)), .val (.ref t2), .val (.int (2 : Int32)), .val (.int ((0 : Int32) + (1 : Int32))), .val (.int x1), .val (.int y1)] [(.int x1)])) _
    refine XS.iload X103.here hx rfl (hb hby d17_59) rfl ?_
    show Steps p.tables e below (T103.setTop (mkF m 61 #[.val (.ref a1), .val (.ref a2), .val (.ref t1), .val (.int (2 : Int32)), .val (.ref t2), .val (.int (2 : Int32)), .val (.int ((0 : Int32) + (1 : Int32))), .val (.int x1), .val (.int y1)] [(.int y1), (.int x1)])) _
    refine XS.icmpNo X103.here hx rfl (hb hby d17_61) rfl (feq hc61_1).1 ?_
    show Steps p.tables e below (T103.setTop (mkF m 64 #[.val (.ref a1), .val (.ref a2), .val (.ref t1), .val (.int (2 : Int32)), .val (.ref t2), .val (.int (2 : Int32)), .val (.int ((0 : Int32) + (1 : Int32))), .val (.int x1), .val (.int y1)] [])) _
    refine XS.iload X103.here hx rfl (hb hby d17_64) rfl ?_
    show Steps p.tables e below (T103.setTop (mkF m 66 #[.val (.ref a1), .val (.ref a2), .val (.ref t1), .val (.int (2 : Int32)), .val (.ref t2), .val (.int (2 : Int32)), .val (.int ((0 : Int32) + (1 : Int32))), .val (.int x1), .val (.int y1)] [(.int x1)])) _
    refine XS.i2l X103.here hx rfl (hb hby d17_66) rfl ?_
    show Steps p.tables e below (T103.setTop (mkF m 67 #[.val (.ref a1), .val (.ref a2), .val (.ref t1), .val (.int (2 : Int32)), .val (.ref t2), .val (.int (2 : Int32)), .val (.int ((0 : Int32) + (1 : Int32))), .val (.int x1), .val (.int y1)] [(.long (x1.toInt64))])) _
    refine X103.ldc2Long hx hown (mvT hZ (hw _ (List.mem_of_getElem? (i := 94) rfl))) (g := (mkF m 67 #[.val (.ref a1), .val (.ref a2), .val (.ref t1), .val (.int (2 : Int32)), .val (.ref t2), .val (.int (2 : Int32)), .val (.int ((0 : Int32) + (1 : Int32))), .val (.int x1), .val (.int y1)] [(.long (x1.toInt64))])) rfl (hb hby d17_67) _ ?_
    show Steps p.tables e below (T103.setTop (mkF m 70 #[.val (.ref a1), .val (.ref a2), .val (.ref t1), .val (.int (2 : Int32)), .val (.ref t2), .val (.int (2 : Int32)), .val (.int ((0 : Int32) + (1 : Int32))), .val (.int x1), .val (.int y1)] [(.long (4294967295 : Int64)), (.long (x1.toInt64))])) _
    refine XS.land X103.here hx rfl (hb hby d17_70) rfl ?_
    show Steps p.tables e below (T103.setTop (mkF m 71 #[.val (.ref a1), .val (.ref a2), .val (.ref t1), .val (.int (2 : Int32)), .val (.ref t2), .val (.int (2 : Int32)), .val (.int ((0 : Int32) + (1 : Int32))), .val (.int x1), .val (.int y1)] [(.long ((x1.toInt64) &&& (4294967295 : Int64)))])) _
    refine XS.iload X103.here hx rfl (hb hby d17_71) rfl ?_
    show Steps p.tables e below (T103.setTop (mkF m 73 #[.val (.ref a1), .val (.ref a2), .val (.ref t1), .val (.int (2 : Int32)), .val (.ref t2), .val (.int (2 : Int32)), .val (.int ((0 : Int32) + (1 : Int32))), .val (.int x1), .val (.int y1)] [(.int y1), (.long ((x1.toInt64) &&& (4294967295 : Int64)))])) _
    refine XS.i2l X103.here hx rfl (hb hby d17_73) rfl ?_
    show Steps p.tables e below (T103.setTop (mkF m 74 #[.val (.ref a1), .val (.ref a2), .val (.ref t1), .val (.int (2 : Int32)), .val (.ref t2), .val (.int (2 : Int32)), .val (.int ((0 : Int32) + (1 : Int32))), .val (.int x1), .val (.int y1)] [(.long (y1.toInt64)), (.long ((x1.toInt64) &&& (4294967295 : Int64)))])) _
    refine X103.ldc2Long hx hown (mvT hZ (hw _ (List.mem_of_getElem? (i := 94) rfl))) (g := (mkF m 74 #[.val (.ref a1), .val (.ref a2), .val (.ref t1), .val (.int (2 : Int32)), .val (.ref t2), .val (.int (2 : Int32)), .val (.int ((0 : Int32) + (1 : Int32))), .val (.int x1), .val (.int y1)] [(.long (y1.toInt64)), (.long ((x1.toInt64) &&& (4294967295 : Int64)))])) rfl (hb hby d17_74) _ ?_
    show Steps p.tables e below (T103.setTop (mkF m 77 #[.val (.ref a1), .val (.ref a2), .val (.ref t1), .val (.int (2 : Int32)), .val (.ref t2), .val (.int (2 : Int32)), .val (.int ((0 : Int32) + (1 : Int32))), .val (.int x1), .val (.int y1)] [(.long (4294967295 : Int64)), (.long (y1.toInt64)), (.long ((x1.toInt64) &&& (4294967295 : Int64)))])) _
    refine XS.land X103.here hx rfl (hb hby d17_77) rfl ?_
    show Steps p.tables e below (T103.setTop (mkF m 78 #[.val (.ref a1), .val (.ref a2), .val (.ref t1), .val (.int (2 : Int32)), .val (.ref t2), .val (.int (2 : Int32)), .val (.int ((0 : Int32) + (1 : Int32))), .val (.int x1), .val (.int y1)] [(.long ((y1.toInt64) &&& (4294967295 : Int64))), (.long ((x1.toInt64) &&& (4294967295 : Int64)))])) _
    refine XS.lcmp X103.here hx rfl (hb hby d17_78) rfl ?_
    show Steps p.tables e below (T103.setTop (mkF m 79 #[.val (.ref a1), .val (.ref a2), .val (.ref t1), .val (.int (2 : Int32)), .val (.ref t2), .val (.int (2 : Int32)), .val (.int ((0 : Int32) + (1 : Int32))), .val (.int x1), .val (.int y1)] [(.int (lcmpW ((x1.toInt64) &&& (4294967295 : Int64)) ((y1.toInt64) &&& (4294967295 : Int64))))])) _
    refine XS.ifNo X103.here hx rfl (hb hby d17_79) rfl ((if0 _ _).trans (tlt hc79).2.1) ?_
    show Steps p.tables e below (T103.setTop (mkF m 82 #[.val (.ref a1), .val (.ref a2), .val (.ref t1), .val (.int (2 : Int32)), .val (.ref t2), .val (.int (2 : Int32)), .val (.int ((0 : Int32) + (1 : Int32))), .val (.int x1), .val (.int y1)] [])) _
    refine XS.iconst X103.here hx rfl (hb hby d17_82) ?_
    show Steps p.tables e below (T103.setTop (mkF m 83 #[.val (.ref a1), .val (.ref a2), .val (.ref t1), .val (.int (2 : Int32)), .val (.ref t2), .val (.int (2 : Int32)), .val (.int ((0 : Int32) + (1 : Int32))), .val (.int x1), .val (.int y1)] [(.int (-1 : Int32))])) _
    refine XS.goto X103.here hx rfl (pc0 := 83) (pc' := 87) rfl (hb hby d17_83) (by decide) (by decide) ?_
    show Steps p.tables e below (T103.setTop (mkF m 87 #[.val (.ref a1), .val (.ref a2), .val (.ref t1), .val (.int (2 : Int32)), .val (.ref t2), .val (.int (2 : Int32)), .val (.int ((0 : Int32) + (1 : Int32))), .val (.int x1), .val (.int y1)] [(.int (-1 : Int32))])) _
    exact retI X103 hx Bd.returns (hb hby d17_87) hr
  · show Qs (some (.int (own_cm [x0, x1] [y0, y1]))) h0 n0 _ T103.heap _
    rw [e103]
    exact ⟨by rw [he0]; simp [own_cm, own_cm2, hn, hl], N0, rfl⟩
set_option maxRecDepth 65536 in
set_option maxHeartbeats 40000000 in
theorem rmCM_2_1_g (l : Launch) (Z : State) (a0 : Array Value) (hw : ∀ d ∈ tables_1, d.before a0 Z = true) (ws : List Jvm.Cond) (a1 : Addr) (a2 : Addr) (t1 : Addr) (t2 : Addr) (k1 : ClassId) (k2 : ClassId) (x0 : Int32) (x1 : Int32) (y0 : Int32) (y1 : Int32) (h0 : Heap) (n0 : Nat) (X00 : Old Z n0 h0) (M1 : Fld Z h0 a1 BI "mag" "[I" (.ref t1)) (M2 : Fld Z h0 a2 BI "mag" "[I" (.ref t2)) (V1 : Arv Z h0 t1 k1 .int (2 : Int32) [(.int x0), (.int x1)] (.int (0 : Int32))) (V2 : Arv Z h0 t2 k2 .int (2 : Int32) [(.int y0), (.int y1)] (.int (0 : Int32))) (he0 : x0 = y0) (hn : ¬ (x1 = y1)) (hl : ¬ (own_ux x1 < own_ux y1)) :
    MetFree l (⟨"java/math/BigInteger", "compareMagnitude", "(Ljava/math/BigInteger;)I"⟩ : MethodName) (head1 (Jvm.Cond.code (⟨"java/math/BigInteger", "compareMagnitude", "(Ljava/math/BigInteger;)I"⟩ : MethodName) jdk_2097_method_122_code 9 (some .int) :: ws) ({ frames := 0, cells := 0, slots := 0, locals := 0 } : Room)) (fun a U => a = #[(.ref a1), (.ref a2)] ∧ Z.Warmed39 U.vm ∧ U.heap = h0) (fun _ _ _ _ _ => True) (fun _ U o U' => ∃ rv rL, o = .returned rv ∧ Qs (some (.int (own_cm [x0, x1] [y0, y1]))) h0 n0 rv U'.heap rL ∧ FrameEnd U o U' rL ({ frames := 0, cells := 0, slots := 0, locals := 0 } : Room).cells ({ frames := 0, cells := 0, slots := 0, locals := 0 } : Room).slots) := by
  refine MetFree.of_bodySF (plainFor_of_name pn_17) hisR ?_
  intro p e s m args below meth c s₁ Bd hml0 hP hK
  obtain ⟨rfl, hZ, hh⟩ := hP
  have hx := Bd.exec
  have hby := Bd.bytes
  have hml : c.maxLocals = 9 := hml0
  have hown : s.vm.findClass "java/math/BigInteger" = some m.cls := findClass_of_methodNamed Bd.named
  have hnm := (name_of_methodNamed Bd.named Bd.method).1
  have X0 : Stand p l e ({ frames := 0, cells := 0, slots := 0, locals := 0 } : Room) s m #[(.ref a1), (.ref a2)] below meth c s₁ [] 0 0 := Stand.of_body Bd
  have e0 : s₁.heap = h0 := by rw [← hh, Bd.state]; rfl
  have N0 := Fr.nil n0
  have pre0 : ∀ t, Steps p.tables e below (s₁.setTop (mkF m 0 #[.val (.ref a1), .val (.ref a2), .unset, .unset, .unset, .unset, .unset, .unset, .unset] [])) t → Steps p.tables e below (s₁.setTop (entryFrame m #[(.ref a1), (.ref a2)] 9)) t := fun t k => castTop (ef_17 m a1 a2) k
  obtain ⟨T101, X101, e101, st101⟩ := getF X0 hx hZ hown (host := "") (Or.inl (hw _ (List.mem_of_getElem? (i := 92) rfl))) Via.refl e0 M1 (g := (mkF m 1 #[.val (.ref a1), .val (.ref a2), .unset, .unset, .unset, .unset, .unset, .unset, .unset] [(.ref a1)])) rfl rfl (hb hby d17_1)
  obtain ⟨cl102, Ar102, q102, S102, M102, H102, G102⟩ := id V1
  obtain ⟨T103, X103, e103, st103⟩ := getF X101 hx hZ hown (host := "") (Or.inl (hw _ (List.mem_of_getElem? (i := 92) rfl))) Via.refl e101 M2 (g := (mkF m 9 #[.val (.ref a1), .val (.ref a2), .val (.ref t1), .val (.int (2 : Int32)), .unset, .unset, .unset, .unset, .unset] [(.ref a2)])) rfl rfl (hb hby d17_9)
  obtain ⟨cl104, Ar104, q104, S104, M104, H104, G104⟩ := id V2
  have hc22 : ¬ ((2 : Int32) < (2 : Int32)) := by decide
  have hc30 : ¬ ((2 : Int32) < (2 : Int32)) := by decide
  have hc41 : (0 : Int32) < (2 : Int32) := by decide
  have hat105 : cl102.slots[((0 : Int32)).toNatClampNeg]? = some (.int x0) := by rw [show ((0 : Int32)).toNatClampNeg = 0 from by decide]; exact H102 0 (by rw [S102]; decide)
  have hat106 : cl104.slots[((0 : Int32)).toNatClampNeg]? = some (.int y0) := by rw [show ((0 : Int32)).toNatClampNeg = 0 from by decide]; exact H104 0 (by rw [S104]; decide)
  have hc61 : x0 = y0 := he0
  have hc41_1 : ((0 : Int32) + (1 : Int32)) < (2 : Int32) := by decide
  have hat107 : cl102.slots[(((0 : Int32) + (1 : Int32))).toNatClampNeg]? = some (.int x1) := by rw [show (((0 : Int32) + (1 : Int32))).toNatClampNeg = 1 from by decide]; exact H102 1 (by rw [S102]; decide)
  have hat108 : cl104.slots[(((0 : Int32) + (1 : Int32))).toNatClampNeg]? = some (.int y1) := by rw [show (((0 : Int32) + (1 : Int32))).toNatClampNeg = 1 from by decide]; exact H104 1 (by rw [S104]; decide)
  have hc61_1 : ¬ (x1 = y1) := hn
  have hc79 : ¬ ((lcmpW ((x1.toInt64) &&& (4294967295 : Int64)) ((y1.toInt64) &&& (4294967295 : Int64))) < (0 : Int32)) := fun q => hl (own_mlt.mp ((lw_lt _ _).mp q))
  obtain ⟨fs, hr, hrun, hended, hW, hsame⟩ := X103.leave (v := some (.int (1 : Int32))) (fun h => by rw [Bd.returns] at h; cases h)
  refine ⟨_, _, pre0 _ ?_, hrun, hended, _, _, rfl, ?_, ⟨_, rfl⟩, hW, hsame.mono (by decide) (by decide)⟩
  · show Steps p.tables e below (s₁.setTop (mkF m 0 #[.val (.ref a1), .val (.ref a2), .unset, .unset, .unset, .unset, .unset, .unset, .unset] [])) _
    refine XS.aloadN X0.here hx rfl (hb hby d17_0) rfl rfl ?_
    show Steps p.tables e below (s₁.setTop (mkF m 1 #[.val (.ref a1), .val (.ref a2), .unset, .unset, .unset, .unset, .unset, .unset, .unset] [(.ref a1)])) _
    refine st101 _ ?_
    show Steps p.tables e below (T101.setTop (mkF m 4 #[.val (.ref a1), .val (.ref a2), .unset, .unset, .unset, .unset, .unset, .unset, .unset] [(.ref t1)])) _
    refine XS.astoreN X101.here hx rfl (hb hby d17_4) rfl rfl (l' := #[.val (.ref a1), .val (.ref a2), .val (.ref t1), .unset, .unset, .unset, .unset, .unset, .unset]) rfl ?_
    show Steps p.tables e below (T101.setTop (mkF m 5 #[.val (.ref a1), .val (.ref a2), .val (.ref t1), .unset, .unset, .unset, .unset, .unset, .unset] [])) _
    refine XS.aloadN X101.here hx rfl (hb hby d17_5) rfl rfl ?_
    show Steps p.tables e below (T101.setTop (mkF m 6 #[.val (.ref a1), .val (.ref a2), .val (.ref t1), .unset, .unset, .unset, .unset, .unset, .unset] [(.ref t1)])) _
    refine X101.arraylength hx (by rw [e101]; exact Ar102.1) (State.isArrayOf_alike hZ.alike Ar102.2.1) (g := (mkF m 6 #[.val (.ref a1), .val (.ref a2), .val (.ref t1), .unset, .unset, .unset, .unset, .unset, .unset] [(.ref t1)])) rfl rfl (hb hby d17_6) _ ?_
    rw [len_of S102 M102]
    show Steps p.tables e below (T101.setTop (mkF m 7 #[.val (.ref a1), .val (.ref a2), .val (.ref t1), .unset, .unset, .unset, .unset, .unset, .unset] [(.int (2 : Int32))])) _
    refine XS.istoreN X101.here hx rfl (hb hby d17_7) rfl (l' := #[.val (.ref a1), .val (.ref a2), .val (.ref t1), .val (.int (2 : Int32)), .unset, .unset, .unset, .unset, .unset]) rfl ?_
    show Steps p.tables e below (T101.setTop (mkF m 8 #[.val (.ref a1), .val (.ref a2), .val (.ref t1), .val (.int (2 : Int32)), .unset, .unset, .unset, .unset, .unset] [])) _
    refine XS.aloadN X101.here hx rfl (hb hby d17_8) rfl rfl ?_
    show Steps p.tables e below (T101.setTop (mkF m 9 #[.val (.ref a1), .val (.ref a2), .val (.ref t1), .val (.int (2 : Int32)), .unset, .unset, .unset, .unset, .unset] [(.ref a2)])) _
    refine st103 _ ?_
    show Steps p.tables e below (T103.setTop (mkF m 12 #[.val (.ref a1), .val (.ref a2), .val (.ref t1), .val (.int (2 : Int32)), .unset, .unset, .unset, .unset, .unset] [(.ref t2)])) _
    refine XS.astore X103.here hx rfl (hb hby d17_12) rfl rfl (l' := #[.val (.ref a1), .val (.ref a2), .val (.ref t1), .val (.int (2 : Int32)), .val (.ref t2), .unset, .unset, .unset, .unset]) rfl ?_
    show Steps p.tables e below (T103.setTop (mkF m 14 #[.val (.ref a1), .val (.ref a2), .val (.ref t1), .val (.int (2 : Int32)), .val (.ref t2), .unset, .unset, .unset, .unset] [])) _
    refine XS.aload X103.here hx rfl (hb hby d17_14) rfl rfl ?_
    show Steps p.tables e below (T103.setTop (mkF m 16 #[.val (.ref a1), .val (.ref a2), .val (.ref t1), .val (.int (2 : Int32)), .val (.ref t2), .unset, .unset, .unset, .unset] [(.ref t2)])) _
    refine X103.arraylength hx (by rw [e103]; exact Ar104.1) (State.isArrayOf_alike hZ.alike Ar104.2.1) (g := (mkF m 16 #[.val (.ref a1), .val (.ref a2), .val (.ref t1), .val (.int (2 : Int32)), .val (.ref t2), .unset, .unset, .unset, .unset] [(.ref t2)])) rfl rfl (hb hby d17_16) _ ?_
    rw [len_of S104 M104]
    show Steps p.tables e below (T103.setTop (mkF m 17 #[.val (.ref a1), .val (.ref a2), .val (.ref t1), .val (.int (2 : Int32)), .val (.ref t2), .unset, .unset, .unset, .unset] [(.int (2 : Int32))])) _
    refine XS.istore X103.here hx rfl (hb hby d17_17) rfl (l' := #[.val (.ref a1), .val (.ref a2), .val (.ref t1), .val (.int (2 : Int32)), .val (.ref t2), .val (.int (2 : Int32)), .unset, .unset, .unset]) rfl ?_
    show Steps p.tables e below (T103.setTop (mkF m 19 #[.val (.ref a1), .val (.ref a2), .val (.ref t1), .val (.int (2 : Int32)), .val (.ref t2), .val (.int (2 : Int32)), .unset, .unset, .unset] [])) _
    refine XS.iloadN X103.here hx rfl (hb hby d17_19) rfl ?_
    show Steps p.tables e below (T103.setTop (mkF m 20 #[.val (.ref a1), .val (.ref a2), .val (.ref t1), .val (.int (2 : Int32)), .val (.ref t2), .val (.int (2 : Int32)), .unset, .unset, .unset] [(.int (2 : Int32))])) _
    refine XS.iload X103.here hx rfl (hb hby d17_20) rfl ?_
    show Steps p.tables e below (T103.setTop (mkF m 22 #[.val (.ref a1), .val (.ref a2), .val (.ref t1), .val (.int (2 : Int32)), .val (.ref t2), .val (.int (2 : Int32)), .unset, .unset, .unset] [(.int (2 : Int32)), (.int (2 : Int32))])) _
    refine XS.icmpYes X103.here hx rfl (pc0 := 22) (pc' := 27) rfl (hb hby d17_22) rfl (flt hc22).2.1 (by decide) (by decide) ?_
    show Steps p.tables e below (T103.setTop (mkF m 27 #[.val (.ref a1), .val (.ref a2), .val (.ref t1), .val (.int (2 : Int32)), .val (.ref t2), .val (.int (2 : Int32)), .unset, .unset, .unset] [])) _
    refine XS.iloadN X103.here hx rfl (hb hby d17_27) rfl ?_
    show Steps p.tables e below (T103.setTop (mkF m 28 #[.val (.ref a1), .val (.ref a2), .val (.ref t1), .val (.int (2 : Int32)), .val (.ref t2), .val (.int (2 : Int32)), .unset, .unset, .unset] [(.int (2 : Int32))])) _
    refine XS.iload X103.here hx rfl (hb hby d17_28) rfl ?_
    show Steps p.tables e below (T103.setTop (mkF m 30 #[.val (.ref a1), .val (.ref a2), .val (.ref t1), .val (.int (2 : Int32)), .val (.ref t2), .val (.int (2 : Int32)), .unset, .unset, .unset] [(.int (2 : Int32)), (.int (2 : Int32))])) _
    refine XS.icmpYes X103.here hx rfl (pc0 := 30) (pc' := 35) rfl (hb hby d17_30) rfl (flt hc30).2.2.2 (by decide) (by decide) ?_
    show Steps p.tables e below (T103.setTop (mkF m 35 #[.val (.ref a1), .val (.ref a2), .val (.ref t1), .val (.int (2 : Int32)), .val (.ref t2), .val (.int (2 : Int32)), .unset, .unset, .unset] [])) _
    refine XS.iconst X103.here hx rfl (hb hby d17_35) ?_
    show Steps p.tables e below (T103.setTop (mkF m 36 #[.val (.ref a1), .val (.ref a2), .val (.ref t1), .val (.int (2 : Int32)), .val (.ref t2), .val (.int (2 : Int32)), .unset, .unset, .unset] [(.int (0 : Int32))])) _
    refine XS.istore X103.here hx rfl (hb hby d17_36) rfl (l' := #[.val (.ref a1), .val (.ref a2), .val (.ref t1), .val (.int (2 : Int32)), .val (.ref t2), .val (.int (2 : Int32)), .val (.int (0 : Int32)), .unset, .unset]) rfl ?_
    show Steps p.tables e below (T103.setTop (mkF m 38 #[.val (.ref a1), .val (.ref a2), .val (.ref t1), .val (.int (2 : Int32)), .val (.ref t2), .val (.int (2 : Int32)), .val (.int (0 : Int32)), .unset, .unset] [])) _
    refine XS.iload X103.here hx rfl (hb hby d17_38) rfl ?_
    show Steps p.tables e below (T103.setTop (mkF m 40 #[.val (.ref a1), .val (.ref a2), .val (.ref t1), .val (.int (2 : Int32)), .val (.ref t2), .val (.int (2 : Int32)), .val (.int (0 : Int32)), .unset, .unset] [(.int (0 : Int32))])) _
    refine XS.iloadN X103.here hx rfl (hb hby d17_40) rfl ?_
    show Steps p.tables e below (T103.setTop (mkF m 41 #[.val (.ref a1), .val (.ref a2), .val (.ref t1), .val (.int (2 : Int32)), .val (.ref t2), .val (.int (2 : Int32)), .val (.int (0 : Int32)), .unset, .unset] [(.int (2 : Int32)), (.int (0 : Int32))])) _
    refine XS.icmpNo X103.here hx rfl (hb hby d17_41) rfl (tlt hc41).2.1 ?_
    show Steps p.tables e below (T103.setTop (mkF m 44 #[.val (.ref a1), .val (.ref a2), .val (.ref t1), .val (.int (2 : Int32)), .val (.ref t2), .val (.int (2 : Int32)), .val (.int (0 : Int32)), .unset, .unset] [])) _
    refine XS.aloadN X103.here hx rfl (hb hby d17_44) rfl rfl ?_
    show Steps p.tables e below (T103.setTop (mkF m 45 #[.val (.ref a1), .val (.ref a2), .val (.ref t1), .val (.int (2 : Int32)), .val (.ref t2), .val (.int (2 : Int32)), .val (.int (0 : Int32)), .unset, .unset] [(.ref t1)])) _
    refine XS.iload X103.here hx rfl (hb hby d17_45) rfl ?_
    show Steps p.tables e below (T103.setTop (mkF m 47 #[.val (.ref a1), .val (.ref a2), .val (.ref t1), .val (.int (2 : Int32)), .val (.ref t2), .val (.int (2 : Int32)), .val (.int (0 : Int32)), .unset, .unset] [(.int (0 : Int32)), (.ref t1)])) _
    refine X103.iaload hx (j := (0 : Int32)) (v := (.int x0)) (by rw [e103]; exact Ar102.1) (State.isArrayOf_alike hZ.alike Ar102.2.1) Ar102.2.2 (inb_of S102 ⟨by decide, by decide⟩) hat105 (g := (mkF m 47 #[.val (.ref a1), .val (.ref a2), .val (.ref t1), .val (.int (2 : Int32)), .val (.ref t2), .val (.int (2 : Int32)), .val (.int (0 : Int32)), .unset, .unset] [(.int (0 : Int32)), (.ref t1)])) rfl rfl (hb hby d17_47) _ ?_
    show Steps p.tables e below (T103.setTop (mkF m 48 #[.val (.ref a1), .val (.ref a2), .val (.ref t1), .val (.int (2 : Int32)), .val (.ref t2), .val (.int (2 : Int32)), .val (.int (0 : Int32)), .unset, .unset] [(.int x0)])) _
    refine XS.istore X103.here hx rfl (hb hby d17_48) rfl (l' := #[.val (.ref a1), .val (.ref a2), .val (.ref t1), .val (.int (2 : Int32)), .val (.ref t2), .val (.int (2 : Int32)), .val (.int (0 : Int32)), .val (.int x0), .unset]) rfl ?_
    show Steps p.tables e below (T103.setTop (mkF m 50 #[.val (.ref a1), .val (.ref a2), .val (.ref t1), .val (.int (2 : Int32)), .val (.ref t2), .val (.int (2 : Int32)), .val (.int (0 : Int32)), .val (.int x0), .unset] [])) _
    refine XS.aload X103.here hx rfl (hb hby d17_50) rfl rfl ?_
    show Steps p.tables e below (T103.setTop (mkF m 52 #[.val (.ref a1), .val (.ref a2), .val (.ref t1), .val (.int (2 : Int32)), .val (.ref t2), .val (.int (2 : Int32)), .val (.int (0 : Int32)), .val (.int x0), .unset] [(.ref t2)])) _
    refine XS.iload X103.here hx rfl (hb hby d17_52) rfl ?_
    show Steps p.tables e below (T103.setTop (mkF m 54 #[.val (.ref a1), .val (.ref a2), .val (.ref t1), .val (.int (2 : Int32)), .val (.ref t2), .val (.int (2 : Int32)), .val (.int (0 : Int32)), .val (.int x0), .unset] [(.int (0 : Int32)), (.ref t2)])) _
    refine X103.iaload hx (j := (0 : Int32)) (v := (.int y0)) (by rw [e103]; exact Ar104.1) (State.isArrayOf_alike hZ.alike Ar104.2.1) Ar104.2.2 (inb_of S104 ⟨by decide, by decide⟩) hat106 (g := (mkF m 54 #[.val (.ref a1), .val (.ref a2), .val (.ref t1), .val (.int (2 : Int32)), .val (.ref t2), .val (.int (2 : Int32)), .val (.int (0 : Int32)), .val (.int x0), .unset] [(.int (0 : Int32)), (.ref t2)])) rfl rfl (hb hby d17_54) _ ?_
    show Steps p.tables e below (T103.setTop (mkF m 55 #[.val (.ref a1), .val (.ref a2), .val (.ref t1), .val (.int (2 : Int32)), .val (.ref t2), .val (.int (2 : Int32)), .val (.int (0 : Int32)), .val (.int x0), .unset] [(.int y0)])) _
    refine XS.istore X103.here hx rfl (hb hby d17_55) rfl (l' := #[.val (.ref a1), .val (.ref a2), .val (.ref t1), .val (.int (2 : Int32)), .val (.ref t2), .val (.int (2 : Int32)), .val (.int (0 : Int32)), .val (.int x0), .val (.int y0)]) rfl ?_
    show Steps p.tables e below (T103.setTop (mkF m 57 #[.val (.ref a1), .val (.ref a2), .val (.ref t1), .val (.int (2 : Int32)), .val (.ref t2), .val (.int (2 : Int32)), .val (.int (0 : Int32)), .val (.int x0), .val (.int y0)] [])) _
    refine XS.iload X103.here hx rfl (hb hby d17_57) rfl ?_
    show Steps p.tables e below (T103.setTop (mkF m 59 #[.val (.ref a1), .val (.ref a2), .val (.ref t1), .val (.int (2 : Int32)), .val (.ref t2), .val (.int (2 : Int32)), .val (.int (0 : Int32)), .val (.int x0), .val (.int y0)] [(.int x0)])) _
    refine XS.iload X103.here hx rfl (hb hby d17_59) rfl ?_
    show Steps p.tables e below (T103.setTop (mkF m 61 #[.val (.ref a1), .val (.ref a2), .val (.ref t1), .val (.int (2 : Int32)), .val (.ref t2), .val (.int (2 : Int32)), .val (.int (0 : Int32)), .val (.int x0), .val (.int y0)] [(.int y0), (.int x0)])) _
    refine XS.icmpYes X103.here hx rfl (pc0 := 61) (pc' := 88) rfl (hb hby d17_61) rfl (teq hc61).1 (by decide) (by decide) ?_
    show Steps p.tables e below (T103.setTop (mkF m 88 #[.val (.ref a1), .val (.ref a2), .val (.ref t1), .val (.int (2 : Int32)), .val (.ref t2), .val (.int (2 : Int32)), .val (.int (0 : Int32)), .val (.int x0), .val (.int y0)] [])) _
    refine XS.iinc X103.here hx rfl (hb hby d17_88) rfl (l' := #[.val (.ref a1), .val (.ref a2), .val (.ref t1), .val (.int (2 : Int32)), .val (.ref t2), .val (.int (2 : Int32)), .val (.int ((0 : Int32) + (1 : Int32))), .val (.int x0), .val (.int y0)]) rfl ?_
    show Steps p.tables e below (T103.setTop (mkF m 91 #[.val (.ref a1), .val (.ref a2), .val (.ref t1), .val (.int (2 : Int32)), .val (.ref t2), .val (.int (2 : Int32)), .val (.int ((0 : Int32) + (1 : Int32))), .val (.int x0), .val (.int y0)] [])) _
    refine XS.goto X103.here hx rfl (pc0 := 91) (pc' := 38) rfl (hb hby d17_91) (by decide) (by decide) ?_
    show Steps p.tables e below (T103.setTop (mkF m 38 #[.val (.ref a1), .val (.ref a2), .val (.ref t1), .val (.int (2 : Int32)), .val (.ref t2), .val (.int (2 : Int32)), .val (.int ((0 : Int32) + (1 : Int32))), .val (.int x0), .val (.int y0)] [])) _
    refine XS.iload X103.here hx rfl (hb hby d17_38) rfl ?_
    show Steps p.tables e below (T103.setTop (mkF m 40 #[.val (.ref a1), .val (.ref a2), .val (.ref t1), .val (.int (2 : Int32)), .val (.ref t2), .val (.int (2 : Int32)), .val (.int ((0 : Int32) + (1 : Int32))), .val (.int x0), .val (.int y0)] [(.int ((0 : Int32) + (1 : Int32)))])) _
    refine XS.iloadN X103.here hx rfl (hb hby d17_40) rfl ?_
    show Steps p.tables e below (T103.setTop (mkF m 41 #[.val (.ref a1), .val (.ref a2), .val (.ref t1), .val (.int (2 : Int32)), .val (.ref t2), .val (.int (2 : Int32)), .val (.int ((0 : Int32) + (1 : Int32))), .val (.int x0), .val (.int y0)] [(.int (2 : Int32)), (.int ((0 : Int32) + (1 : Int32)))])) _
    refine XS.icmpNo X103.here hx rfl (hb hby d17_41) rfl (tlt hc41_1).2.1 ?_
    show Steps p.tables e below (T103.setTop (mkF m 44 #[.val (.ref a1), .val (.ref a2), .val (.ref t1), .val (.int (2 : Int32)), .val (.ref t2), .val (.int (2 : Int32)), .val (.int ((0 : Int32) + (1 : Int32))), .val (.int x0), .val (.int y0)] [])) _
    refine XS.aloadN X103.here hx rfl (hb hby d17_44) rfl rfl ?_
    show Steps p.tables e below (T103.setTop (mkF m 45 #[.val (.ref a1), .val (.ref a2), .val (.ref t1), .val (.int (2 : Int32)), .val (.ref t2), .val (.int (2 : Int32)), .val (.int ((0 : Int32) + (1 : Int32))), .val (.int x0), .val (.int y0)] [(.ref t1)])) _
    refine XS.iload X103.here hx rfl (hb hby d17_45) rfl ?_
    show Steps p.tables e below (T103.setTop (mkF m 47 #[.val (.ref a1), .val (.ref a2), .val (.ref t1), .val (.int (2 : Int32)), .val (.ref t2), .val (.int (2 : Int32)), .val (.int ((0 : Int32) + (1 : Int32))), .val (.int x0), .val (.int y0)] [(.int ((0 : Int32) + (1 : Int32))), (.ref t1)])) _
    refine X103.iaload hx (j := ((0 : Int32) + (1 : Int32))) (v := (.int x1)) (by rw [e103]; exact Ar102.1) (State.isArrayOf_alike hZ.alike Ar102.2.1) Ar102.2.2 (inb_of S102 ⟨by decide, by decide⟩) hat107 (g := (mkF m 47 #[.val (.ref a1), .val (.ref a2), .val (.ref t1), .val (.int (2 : Int32)), .val (.ref t2), .val (.int (2 : Int32)), .val (.int ((0 : Int32) + (1 : Int32))), .val (.int x0), .val (.int y0)] [(.int ((0 : Int32) + (1 : Int32))), (.ref t1)])) rfl rfl (hb hby d17_47) _ ?_
    show Steps p.tables e below (T103.setTop (mkF m 48 #[.val (.ref a1), .val (.ref a2), .val (.ref t1), .val (.int (2 : Int32)), .val (.ref t2), .val (.int (2 : Int32)), .val (.int ((0 : Int32) + (1 : Int32))), .val (.int x0), .val (.int y0)] [(.int x1)])) _
    refine XS.istore X103.here hx rfl (hb hby d17_48) rfl (l' := #[.val (.ref a1), .val (.ref a2), .val (.ref t1), .val (.int (2 : Int32)), .val (.ref t2), .val (.int (2 : Int32)), .val (.int ((0 : Int32) + (1 : Int32))), .val (.int x1), .val (.int y0)]) rfl ?_
    show Steps p.tables e below (T103.setTop (mkF m 50 #[.val (.ref a1), .val (.ref a2), .val (.ref t1), .val (.int (2 : Int32)), .val (.ref t2), .val (.int (2 : Int32)), .val (.int ((0 : Int32) + (1 : Int32))), .val (.int x1), .val (.int y0)] [])) _
    refine XS.aload X103.here hx rfl (hb hby d17_50) rfl rfl ?_
    show Steps p.tables e below (T103.setTop (mkF m 52 #[.val (.ref a1), .val (.ref a2), .val (.ref t1), .val (.int (2 : Int32)), .val (.ref t2), .val (.int (2 : Int32)), .val (.int ((0 : Int32) + (1 : Int32))), .val (.int x1), .val (.int y0)] [(.ref t2)])) _
    refine XS.iload X103.here hx rfl (hb hby d17_52) rfl ?_
    show Steps p.tables e below (T103.setTop (mkF m 54 #[.val (.ref a1), .val (.ref a2), .val (.ref t1), .val (.int (2 : Int32)), .val (.ref t2), .val (.int (2 : Int32)), .val (.int ((0 : Int32) + (1 : Int32))), .val (.int x1), .val (.int y0)] [(.int ((0 : Int32) + (1 : Int32))), (.ref t2)])) _
    refine X103.iaload hx (j := ((0 : Int32) + (1 : Int32))) (v := (.int y1)) (by rw [e103]; exact Ar104.1) (State.isArrayOf_alike hZ.alike Ar104.2.1) Ar104.2.2 (inb_of S104 ⟨by decide, by decide⟩) hat108 (g := (mkF m 54 #[.val (.ref a1), .val (.ref a2), .val (.ref t1), .val (.int (2 : Int32)), .val (.ref t2), .val (.int (2 : Int32)), .val (.int ((0 : Int32) + (1 : Int32))), .val (.int x1), .val (.int y0)] [(.int ((0 : Int32) + (1 : Int32))), (.ref t2)])) rfl rfl (hb hby d17_54) _ ?_
    show Steps p.tables e below (T103.setTop (mkF m 55 #[.val (.ref a1), .val (.ref a2), .val (.ref t1), .val (.int (2 : Int32)), .val (.ref t2), .val (.int (2 : Int32)), .val (.int ((0 : Int32) + (1 : Int32))), .val (.int x1), .val (.int y0)] [(.int y1)])) _
    refine XS.istore X103.here hx rfl (hb hby d17_55) rfl (l' := #[.val (.ref a1), .val (.ref a2), .val (.ref t1), .val (.int (2 : Int32)), .val (.ref t2), .val (.int (2 : Int32)), .val (.int ((0 : Int32) + (1 : Int32))), .val (.int x1), .val (.int y1)]) rfl ?_
    show Steps p.tables e below (T103.setTop (mkF m 57 #[.val (.ref a1), .val (.ref a2), .val (.ref t1), .val (.int (2 : Int32)), .val (.ref t2), .val (.int (2 : Int32)), .val (.int ((0 : Int32) + (1 : Int32))), .val (.int x1), .val (.int y1)] [])) _
    refine XS.iload X103.here hx rfl (hb hby d17_57) rfl ?_
    show Steps p.tables e below (T103.setTop (mkF m 59 #[.val (.ref a1), .val (.ref a2), .val (.ref t1), .val (.int (2 : Int32)), .val (.ref t2), .val (.int (2 : Int32)), .val (.int ((0 : Int32) + (1 : Int32))), .val (.int x1), .val (.int y1)] [(.int x1)])) _
    refine XS.iload X103.here hx rfl (hb hby d17_59) rfl ?_
    show Steps p.tables e below (T103.setTop (mkF m 61 #[.val (.ref a1), .val (.ref a2), .val (.ref t1), .val (.int (2 : Int32)), .val (.ref t2), .val (.int (2 : Int32)), .val (.int ((0 : Int32) + (1 : Int32))), .val (.int x1), .val (.int y1)] [(.int y1), (.int x1)])) _
    refine XS.icmpNo X103.here hx rfl (hb hby d17_61) rfl (feq hc61_1).1 ?_
    show Steps p.tables e below (T103.setTop (mkF m 64 #[.val (.ref a1), .val (.ref a2), .val (.ref t1), .val (.int (2 : Int32)), .val (.ref t2), .val (.int (2 : Int32)), .val (.int ((0 : Int32) + (1 : Int32))), .val (.int x1), .val (.int y1)] [])) _
    refine XS.iload X103.here hx rfl (hb hby d17_64) rfl ?_
    show Steps p.tables e below (T103.setTop (mkF m 66 #[.val (.ref a1), .val (.ref a2), .val (.ref t1), .val (.int (2 : Int32)), .val (.ref t2), .val (.int (2 : Int32)), .val (.int ((0 : Int32) + (1 : Int32))), .val (.int x1), .val (.int y1)] [(.int x1)])) _
    refine XS.i2l X103.here hx rfl (hb hby d17_66) rfl ?_
    show Steps p.tables e below (T103.setTop (mkF m 67 #[.val (.ref a1), .val (.ref a2), .val (.ref t1), .val (.int (2 : Int32)), .val (.ref t2), .val (.int (2 : Int32)), .val (.int ((0 : Int32) + (1 : Int32))), .val (.int x1), .val (.int y1)] [(.long (x1.toInt64))])) _
    refine X103.ldc2Long hx hown (mvT hZ (hw _ (List.mem_of_getElem? (i := 94) rfl))) (g := (mkF m 67 #[.val (.ref a1), .val (.ref a2), .val (.ref t1), .val (.int (2 : Int32)), .val (.ref t2), .val (.int (2 : Int32)), .val (.int ((0 : Int32) + (1 : Int32))), .val (.int x1), .val (.int y1)] [(.long (x1.toInt64))])) rfl (hb hby d17_67) _ ?_
    show Steps p.tables e below (T103.setTop (mkF m 70 #[.val (.ref a1), .val (.ref a2), .val (.ref t1), .val (.int (2 : Int32)), .val (.ref t2), .val (.int (2 : Int32)), .val (.int ((0 : Int32) + (1 : Int32))), .val (.int x1), .val (.int y1)] [(.long (4294967295 : Int64)), (.long (x1.toInt64))])) _
    refine XS.land X103.here hx rfl (hb hby d17_70) rfl ?_
    show Steps p.tables e below (T103.setTop (mkF m 71 #[.val (.ref a1), .val (.ref a2), .val (.ref t1), .val (.int (2 : Int32)), .val (.ref t2), .val (.int (2 : Int32)), .val (.int ((0 : Int32) + (1 : Int32))), .val (.int x1), .val (.int y1)] [(.long ((x1.toInt64) &&& (4294967295 : Int64)))])) _
    refine XS.iload X103.here hx rfl (hb hby d17_71) rfl ?_
    show Steps p.tables e below (T103.setTop (mkF m 73 #[.val (.ref a1), .val (.ref a2), .val (.ref t1), .val (.int (2 : Int32)), .val (.ref t2), .val (.int (2 : Int32)), .val (.int ((0 : Int32) + (1 : Int32))), .val (.int x1), .val (.int y1)] [(.int y1), (.long ((x1.toInt64) &&& (4294967295 : Int64)))])) _
    refine XS.i2l X103.here hx rfl (hb hby d17_73) rfl ?_
    show Steps p.tables e below (T103.setTop (mkF m 74 #[.val (.ref a1), .val (.ref a2), .val (.ref t1), .val (.int (2 : Int32)), .val (.ref t2), .val (.int (2 : Int32)), .val (.int ((0 : Int32) + (1 : Int32))), .val (.int x1), .val (.int y1)] [(.long (y1.toInt64)), (.long ((x1.toInt64) &&& (4294967295 : Int64)))])) _
    refine X103.ldc2Long hx hown (mvT hZ (hw _ (List.mem_of_getElem? (i := 94) rfl))) (g := (mkF m 74 #[.val (.ref a1), .val (.ref a2), .val (.ref t1), .val (.int (2 : Int32)), .val (.ref t2), .val (.int (2 : Int32)), .val (.int ((0 : Int32) + (1 : Int32))), .val (.int x1), .val (.int y1)] [(.long (y1.toInt64)), (.long ((x1.toInt64) &&& (4294967295 : Int64)))])) rfl (hb hby d17_74) _ ?_
    show Steps p.tables e below (T103.setTop (mkF m 77 #[.val (.ref a1), .val (.ref a2), .val (.ref t1), .val (.int (2 : Int32)), .val (.ref t2), .val (.int (2 : Int32)), .val (.int ((0 : Int32) + (1 : Int32))), .val (.int x1), .val (.int y1)] [(.long (4294967295 : Int64)), (.long (y1.toInt64)), (.long ((x1.toInt64) &&& (4294967295 : Int64)))])) _
    refine XS.land X103.here hx rfl (hb hby d17_77) rfl ?_
    show Steps p.tables e below (T103.setTop (mkF m 78 #[.val (.ref a1), .val (.ref a2), .val (.ref t1), .val (.int (2 : Int32)), .val (.ref t2), .val (.int (2 : Int32)), .val (.int ((0 : Int32) + (1 : Int32))), .val (.int x1), .val (.int y1)] [(.long ((y1.toInt64) &&& (4294967295 : Int64))), (.long ((x1.toInt64) &&& (4294967295 : Int64)))])) _
    refine XS.lcmp X103.here hx rfl (hb hby d17_78) rfl ?_
    show Steps p.tables e below (T103.setTop (mkF m 79 #[.val (.ref a1), .val (.ref a2), .val (.ref t1), .val (.int (2 : Int32)), .val (.ref t2), .val (.int (2 : Int32)), .val (.int ((0 : Int32) + (1 : Int32))), .val (.int x1), .val (.int y1)] [(.int (lcmpW ((x1.toInt64) &&& (4294967295 : Int64)) ((y1.toInt64) &&& (4294967295 : Int64))))])) _
    refine XS.ifYes X103.here hx rfl (pc0 := 79) (pc' := 86) rfl (hb hby d17_79) rfl ((if0 _ _).trans (flt hc79).2.1) (by decide) (by decide) ?_
    show Steps p.tables e below (T103.setTop (mkF m 86 #[.val (.ref a1), .val (.ref a2), .val (.ref t1), .val (.int (2 : Int32)), .val (.ref t2), .val (.int (2 : Int32)), .val (.int ((0 : Int32) + (1 : Int32))), .val (.int x1), .val (.int y1)] [])) _
    refine XS.iconst X103.here hx rfl (hb hby d17_86) ?_
    show Steps p.tables e below (T103.setTop (mkF m 87 #[.val (.ref a1), .val (.ref a2), .val (.ref t1), .val (.int (2 : Int32)), .val (.ref t2), .val (.int (2 : Int32)), .val (.int ((0 : Int32) + (1 : Int32))), .val (.int x1), .val (.int y1)] [(.int (1 : Int32))])) _
    exact retI X103 hx Bd.returns (hb hby d17_87) hr
  · show Qs (some (.int (own_cm [x0, x1] [y0, y1]))) h0 n0 _ T103.heap _
    rw [e103]
    exact ⟨by rw [he0]; simp [own_cm, own_cm2, hn, hl], N0, rfl⟩
set_option maxRecDepth 65536 in
set_option maxHeartbeats 40000000 in
theorem rmCM_2_e (l : Launch) (Z : State) (a0 : Array Value) (hw : ∀ d ∈ tables_1, d.before a0 Z = true) (ws : List Jvm.Cond) (a1 : Addr) (a2 : Addr) (t1 : Addr) (t2 : Addr) (k1 : ClassId) (k2 : ClassId) (x0 : Int32) (x1 : Int32) (y0 : Int32) (y1 : Int32) (h0 : Heap) (n0 : Nat) (X00 : Old Z n0 h0) (M1 : Fld Z h0 a1 BI "mag" "[I" (.ref t1)) (M2 : Fld Z h0 a2 BI "mag" "[I" (.ref t2)) (V1 : Arv Z h0 t1 k1 .int (2 : Int32) [(.int x0), (.int x1)] (.int (0 : Int32))) (V2 : Arv Z h0 t2 k2 .int (2 : Int32) [(.int y0), (.int y1)] (.int (0 : Int32))) (he0 : x0 = y0) (he1 : x1 = y1) :
    MetFree l (⟨"java/math/BigInteger", "compareMagnitude", "(Ljava/math/BigInteger;)I"⟩ : MethodName) (head1 (Jvm.Cond.code (⟨"java/math/BigInteger", "compareMagnitude", "(Ljava/math/BigInteger;)I"⟩ : MethodName) jdk_2097_method_122_code 9 (some .int) :: ws) ({ frames := 0, cells := 0, slots := 0, locals := 0 } : Room)) (fun a U => a = #[(.ref a1), (.ref a2)] ∧ Z.Warmed39 U.vm ∧ U.heap = h0) (fun _ _ _ _ _ => True) (fun _ U o U' => ∃ rv rL, o = .returned rv ∧ Qs (some (.int (own_cm [x0, x1] [y0, y1]))) h0 n0 rv U'.heap rL ∧ FrameEnd U o U' rL ({ frames := 0, cells := 0, slots := 0, locals := 0 } : Room).cells ({ frames := 0, cells := 0, slots := 0, locals := 0 } : Room).slots) := by
  refine MetFree.of_bodySF (plainFor_of_name pn_17) hisR ?_
  intro p e s m args below meth c s₁ Bd hml0 hP hK
  obtain ⟨rfl, hZ, hh⟩ := hP
  have hx := Bd.exec
  have hby := Bd.bytes
  have hml : c.maxLocals = 9 := hml0
  have hown : s.vm.findClass "java/math/BigInteger" = some m.cls := findClass_of_methodNamed Bd.named
  have hnm := (name_of_methodNamed Bd.named Bd.method).1
  have X0 : Stand p l e ({ frames := 0, cells := 0, slots := 0, locals := 0 } : Room) s m #[(.ref a1), (.ref a2)] below meth c s₁ [] 0 0 := Stand.of_body Bd
  have e0 : s₁.heap = h0 := by rw [← hh, Bd.state]; rfl
  have N0 := Fr.nil n0
  have pre0 : ∀ t, Steps p.tables e below (s₁.setTop (mkF m 0 #[.val (.ref a1), .val (.ref a2), .unset, .unset, .unset, .unset, .unset, .unset, .unset] [])) t → Steps p.tables e below (s₁.setTop (entryFrame m #[(.ref a1), (.ref a2)] 9)) t := fun t k => castTop (ef_17 m a1 a2) k
  obtain ⟨T101, X101, e101, st101⟩ := getF X0 hx hZ hown (host := "") (Or.inl (hw _ (List.mem_of_getElem? (i := 92) rfl))) Via.refl e0 M1 (g := (mkF m 1 #[.val (.ref a1), .val (.ref a2), .unset, .unset, .unset, .unset, .unset, .unset, .unset] [(.ref a1)])) rfl rfl (hb hby d17_1)
  obtain ⟨cl102, Ar102, q102, S102, M102, H102, G102⟩ := id V1
  obtain ⟨T103, X103, e103, st103⟩ := getF X101 hx hZ hown (host := "") (Or.inl (hw _ (List.mem_of_getElem? (i := 92) rfl))) Via.refl e101 M2 (g := (mkF m 9 #[.val (.ref a1), .val (.ref a2), .val (.ref t1), .val (.int (2 : Int32)), .unset, .unset, .unset, .unset, .unset] [(.ref a2)])) rfl rfl (hb hby d17_9)
  obtain ⟨cl104, Ar104, q104, S104, M104, H104, G104⟩ := id V2
  have hc22 : ¬ ((2 : Int32) < (2 : Int32)) := by decide
  have hc30 : ¬ ((2 : Int32) < (2 : Int32)) := by decide
  have hc41 : (0 : Int32) < (2 : Int32) := by decide
  have hat105 : cl102.slots[((0 : Int32)).toNatClampNeg]? = some (.int x0) := by rw [show ((0 : Int32)).toNatClampNeg = 0 from by decide]; exact H102 0 (by rw [S102]; decide)
  have hat106 : cl104.slots[((0 : Int32)).toNatClampNeg]? = some (.int y0) := by rw [show ((0 : Int32)).toNatClampNeg = 0 from by decide]; exact H104 0 (by rw [S104]; decide)
  have hc61 : x0 = y0 := he0
  have hc41_1 : ((0 : Int32) + (1 : Int32)) < (2 : Int32) := by decide
  have hat107 : cl102.slots[(((0 : Int32) + (1 : Int32))).toNatClampNeg]? = some (.int x1) := by rw [show (((0 : Int32) + (1 : Int32))).toNatClampNeg = 1 from by decide]; exact H102 1 (by rw [S102]; decide)
  have hat108 : cl104.slots[(((0 : Int32) + (1 : Int32))).toNatClampNeg]? = some (.int y1) := by rw [show (((0 : Int32) + (1 : Int32))).toNatClampNeg = 1 from by decide]; exact H104 1 (by rw [S104]; decide)
  have hc61_1 : x1 = y1 := he1
  have hc41_2 : ¬ ((((0 : Int32) + (1 : Int32)) + (1 : Int32)) < (2 : Int32)) := by decide
  obtain ⟨fs, hr, hrun, hended, hW, hsame⟩ := X103.leave (v := some (.int (0 : Int32))) (fun h => by rw [Bd.returns] at h; cases h)
  refine ⟨_, _, pre0 _ ?_, hrun, hended, _, _, rfl, ?_, ⟨_, rfl⟩, hW, hsame.mono (by decide) (by decide)⟩
  · show Steps p.tables e below (s₁.setTop (mkF m 0 #[.val (.ref a1), .val (.ref a2), .unset, .unset, .unset, .unset, .unset, .unset, .unset] [])) _
    refine XS.aloadN X0.here hx rfl (hb hby d17_0) rfl rfl ?_
    show Steps p.tables e below (s₁.setTop (mkF m 1 #[.val (.ref a1), .val (.ref a2), .unset, .unset, .unset, .unset, .unset, .unset, .unset] [(.ref a1)])) _
    refine st101 _ ?_
    show Steps p.tables e below (T101.setTop (mkF m 4 #[.val (.ref a1), .val (.ref a2), .unset, .unset, .unset, .unset, .unset, .unset, .unset] [(.ref t1)])) _
    refine XS.astoreN X101.here hx rfl (hb hby d17_4) rfl rfl (l' := #[.val (.ref a1), .val (.ref a2), .val (.ref t1), .unset, .unset, .unset, .unset, .unset, .unset]) rfl ?_
    show Steps p.tables e below (T101.setTop (mkF m 5 #[.val (.ref a1), .val (.ref a2), .val (.ref t1), .unset, .unset, .unset, .unset, .unset, .unset] [])) _
    refine XS.aloadN X101.here hx rfl (hb hby d17_5) rfl rfl ?_
    show Steps p.tables e below (T101.setTop (mkF m 6 #[.val (.ref a1), .val (.ref a2), .val (.ref t1), .unset, .unset, .unset, .unset, .unset, .unset] [(.ref t1)])) _
    refine X101.arraylength hx (by rw [e101]; exact Ar102.1) (State.isArrayOf_alike hZ.alike Ar102.2.1) (g := (mkF m 6 #[.val (.ref a1), .val (.ref a2), .val (.ref t1), .unset, .unset, .unset, .unset, .unset, .unset] [(.ref t1)])) rfl rfl (hb hby d17_6) _ ?_
    rw [len_of S102 M102]
    show Steps p.tables e below (T101.setTop (mkF m 7 #[.val (.ref a1), .val (.ref a2), .val (.ref t1), .unset, .unset, .unset, .unset, .unset, .unset] [(.int (2 : Int32))])) _
    refine XS.istoreN X101.here hx rfl (hb hby d17_7) rfl (l' := #[.val (.ref a1), .val (.ref a2), .val (.ref t1), .val (.int (2 : Int32)), .unset, .unset, .unset, .unset, .unset]) rfl ?_
    show Steps p.tables e below (T101.setTop (mkF m 8 #[.val (.ref a1), .val (.ref a2), .val (.ref t1), .val (.int (2 : Int32)), .unset, .unset, .unset, .unset, .unset] [])) _
    refine XS.aloadN X101.here hx rfl (hb hby d17_8) rfl rfl ?_
    show Steps p.tables e below (T101.setTop (mkF m 9 #[.val (.ref a1), .val (.ref a2), .val (.ref t1), .val (.int (2 : Int32)), .unset, .unset, .unset, .unset, .unset] [(.ref a2)])) _
    refine st103 _ ?_
    show Steps p.tables e below (T103.setTop (mkF m 12 #[.val (.ref a1), .val (.ref a2), .val (.ref t1), .val (.int (2 : Int32)), .unset, .unset, .unset, .unset, .unset] [(.ref t2)])) _
    refine XS.astore X103.here hx rfl (hb hby d17_12) rfl rfl (l' := #[.val (.ref a1), .val (.ref a2), .val (.ref t1), .val (.int (2 : Int32)), .val (.ref t2), .unset, .unset, .unset, .unset]) rfl ?_
    show Steps p.tables e below (T103.setTop (mkF m 14 #[.val (.ref a1), .val (.ref a2), .val (.ref t1), .val (.int (2 : Int32)), .val (.ref t2), .unset, .unset, .unset, .unset] [])) _
    refine XS.aload X103.here hx rfl (hb hby d17_14) rfl rfl ?_
    show Steps p.tables e below (T103.setTop (mkF m 16 #[.val (.ref a1), .val (.ref a2), .val (.ref t1), .val (.int (2 : Int32)), .val (.ref t2), .unset, .unset, .unset, .unset] [(.ref t2)])) _
    refine X103.arraylength hx (by rw [e103]; exact Ar104.1) (State.isArrayOf_alike hZ.alike Ar104.2.1) (g := (mkF m 16 #[.val (.ref a1), .val (.ref a2), .val (.ref t1), .val (.int (2 : Int32)), .val (.ref t2), .unset, .unset, .unset, .unset] [(.ref t2)])) rfl rfl (hb hby d17_16) _ ?_
    rw [len_of S104 M104]
    show Steps p.tables e below (T103.setTop (mkF m 17 #[.val (.ref a1), .val (.ref a2), .val (.ref t1), .val (.int (2 : Int32)), .val (.ref t2), .unset, .unset, .unset, .unset] [(.int (2 : Int32))])) _
    refine XS.istore X103.here hx rfl (hb hby d17_17) rfl (l' := #[.val (.ref a1), .val (.ref a2), .val (.ref t1), .val (.int (2 : Int32)), .val (.ref t2), .val (.int (2 : Int32)), .unset, .unset, .unset]) rfl ?_
    show Steps p.tables e below (T103.setTop (mkF m 19 #[.val (.ref a1), .val (.ref a2), .val (.ref t1), .val (.int (2 : Int32)), .val (.ref t2), .val (.int (2 : Int32)), .unset, .unset, .unset] [])) _
    refine XS.iloadN X103.here hx rfl (hb hby d17_19) rfl ?_
    show Steps p.tables e below (T103.setTop (mkF m 20 #[.val (.ref a1), .val (.ref a2), .val (.ref t1), .val (.int (2 : Int32)), .val (.ref t2), .val (.int (2 : Int32)), .unset, .unset, .unset] [(.int (2 : Int32))])) _
    refine XS.iload X103.here hx rfl (hb hby d17_20) rfl ?_
    show Steps p.tables e below (T103.setTop (mkF m 22 #[.val (.ref a1), .val (.ref a2), .val (.ref t1), .val (.int (2 : Int32)), .val (.ref t2), .val (.int (2 : Int32)), .unset, .unset, .unset] [(.int (2 : Int32)), (.int (2 : Int32))])) _
    refine XS.icmpYes X103.here hx rfl (pc0 := 22) (pc' := 27) rfl (hb hby d17_22) rfl (flt hc22).2.1 (by decide) (by decide) ?_
    show Steps p.tables e below (T103.setTop (mkF m 27 #[.val (.ref a1), .val (.ref a2), .val (.ref t1), .val (.int (2 : Int32)), .val (.ref t2), .val (.int (2 : Int32)), .unset, .unset, .unset] [])) _
    refine XS.iloadN X103.here hx rfl (hb hby d17_27) rfl ?_
    show Steps p.tables e below (T103.setTop (mkF m 28 #[.val (.ref a1), .val (.ref a2), .val (.ref t1), .val (.int (2 : Int32)), .val (.ref t2), .val (.int (2 : Int32)), .unset, .unset, .unset] [(.int (2 : Int32))])) _
    refine XS.iload X103.here hx rfl (hb hby d17_28) rfl ?_
    show Steps p.tables e below (T103.setTop (mkF m 30 #[.val (.ref a1), .val (.ref a2), .val (.ref t1), .val (.int (2 : Int32)), .val (.ref t2), .val (.int (2 : Int32)), .unset, .unset, .unset] [(.int (2 : Int32)), (.int (2 : Int32))])) _
    refine XS.icmpYes X103.here hx rfl (pc0 := 30) (pc' := 35) rfl (hb hby d17_30) rfl (flt hc30).2.2.2 (by decide) (by decide) ?_
    show Steps p.tables e below (T103.setTop (mkF m 35 #[.val (.ref a1), .val (.ref a2), .val (.ref t1), .val (.int (2 : Int32)), .val (.ref t2), .val (.int (2 : Int32)), .unset, .unset, .unset] [])) _
    refine XS.iconst X103.here hx rfl (hb hby d17_35) ?_
    show Steps p.tables e below (T103.setTop (mkF m 36 #[.val (.ref a1), .val (.ref a2), .val (.ref t1), .val (.int (2 : Int32)), .val (.ref t2), .val (.int (2 : Int32)), .unset, .unset, .unset] [(.int (0 : Int32))])) _
    refine XS.istore X103.here hx rfl (hb hby d17_36) rfl (l' := #[.val (.ref a1), .val (.ref a2), .val (.ref t1), .val (.int (2 : Int32)), .val (.ref t2), .val (.int (2 : Int32)), .val (.int (0 : Int32)), .unset, .unset]) rfl ?_
    show Steps p.tables e below (T103.setTop (mkF m 38 #[.val (.ref a1), .val (.ref a2), .val (.ref t1), .val (.int (2 : Int32)), .val (.ref t2), .val (.int (2 : Int32)), .val (.int (0 : Int32)), .unset, .unset] [])) _
    refine XS.iload X103.here hx rfl (hb hby d17_38) rfl ?_
    show Steps p.tables e below (T103.setTop (mkF m 40 #[.val (.ref a1), .val (.ref a2), .val (.ref t1), .val (.int (2 : Int32)), .val (.ref t2), .val (.int (2 : Int32)), .val (.int (0 : Int32)), .unset, .unset] [(.int (0 : Int32))])) _
    refine XS.iloadN X103.here hx rfl (hb hby d17_40) rfl ?_
    show Steps p.tables e below (T103.setTop (mkF m 41 #[.val (.ref a1), .val (.ref a2), .val (.ref t1), .val (.int (2 : Int32)), .val (.ref t2), .val (.int (2 : Int32)), .val (.int (0 : Int32)), .unset, .unset] [(.int (2 : Int32)), (.int (0 : Int32))])) _
    refine XS.icmpNo X103.here hx rfl (hb hby d17_41) rfl (tlt hc41).2.1 ?_
    show Steps p.tables e below (T103.setTop (mkF m 44 #[.val (.ref a1), .val (.ref a2), .val (.ref t1), .val (.int (2 : Int32)), .val (.ref t2), .val (.int (2 : Int32)), .val (.int (0 : Int32)), .unset, .unset] [])) _
    refine XS.aloadN X103.here hx rfl (hb hby d17_44) rfl rfl ?_
    show Steps p.tables e below (T103.setTop (mkF m 45 #[.val (.ref a1), .val (.ref a2), .val (.ref t1), .val (.int (2 : Int32)), .val (.ref t2), .val (.int (2 : Int32)), .val (.int (0 : Int32)), .unset, .unset] [(.ref t1)])) _
    refine XS.iload X103.here hx rfl (hb hby d17_45) rfl ?_
    show Steps p.tables e below (T103.setTop (mkF m 47 #[.val (.ref a1), .val (.ref a2), .val (.ref t1), .val (.int (2 : Int32)), .val (.ref t2), .val (.int (2 : Int32)), .val (.int (0 : Int32)), .unset, .unset] [(.int (0 : Int32)), (.ref t1)])) _
    refine X103.iaload hx (j := (0 : Int32)) (v := (.int x0)) (by rw [e103]; exact Ar102.1) (State.isArrayOf_alike hZ.alike Ar102.2.1) Ar102.2.2 (inb_of S102 ⟨by decide, by decide⟩) hat105 (g := (mkF m 47 #[.val (.ref a1), .val (.ref a2), .val (.ref t1), .val (.int (2 : Int32)), .val (.ref t2), .val (.int (2 : Int32)), .val (.int (0 : Int32)), .unset, .unset] [(.int (0 : Int32)), (.ref t1)])) rfl rfl (hb hby d17_47) _ ?_
    show Steps p.tables e below (T103.setTop (mkF m 48 #[.val (.ref a1), .val (.ref a2), .val (.ref t1), .val (.int (2 : Int32)), .val (.ref t2), .val (.int (2 : Int32)), .val (.int (0 : Int32)), .unset, .unset] [(.int x0)])) _
    refine XS.istore X103.here hx rfl (hb hby d17_48) rfl (l' := #[.val (.ref a1), .val (.ref a2), .val (.ref t1), .val (.int (2 : Int32)), .val (.ref t2), .val (.int (2 : Int32)), .val (.int (0 : Int32)), .val (.int x0), .unset]) rfl ?_
    show Steps p.tables e below (T103.setTop (mkF m 50 #[.val (.ref a1), .val (.ref a2), .val (.ref t1), .val (.int (2 : Int32)), .val (.ref t2), .val (.int (2 : Int32)), .val (.int (0 : Int32)), .val (.int x0), .unset] [])) _
    refine XS.aload X103.here hx rfl (hb hby d17_50) rfl rfl ?_
    show Steps p.tables e below (T103.setTop (mkF m 52 #[.val (.ref a1), .val (.ref a2), .val (.ref t1), .val (.int (2 : Int32)), .val (.ref t2), .val (.int (2 : Int32)), .val (.int (0 : Int32)), .val (.int x0), .unset] [(.ref t2)])) _
    refine XS.iload X103.here hx rfl (hb hby d17_52) rfl ?_
    show Steps p.tables e below (T103.setTop (mkF m 54 #[.val (.ref a1), .val (.ref a2), .val (.ref t1), .val (.int (2 : Int32)), .val (.ref t2), .val (.int (2 : Int32)), .val (.int (0 : Int32)), .val (.int x0), .unset] [(.int (0 : Int32)), (.ref t2)])) _
    refine X103.iaload hx (j := (0 : Int32)) (v := (.int y0)) (by rw [e103]; exact Ar104.1) (State.isArrayOf_alike hZ.alike Ar104.2.1) Ar104.2.2 (inb_of S104 ⟨by decide, by decide⟩) hat106 (g := (mkF m 54 #[.val (.ref a1), .val (.ref a2), .val (.ref t1), .val (.int (2 : Int32)), .val (.ref t2), .val (.int (2 : Int32)), .val (.int (0 : Int32)), .val (.int x0), .unset] [(.int (0 : Int32)), (.ref t2)])) rfl rfl (hb hby d17_54) _ ?_
    show Steps p.tables e below (T103.setTop (mkF m 55 #[.val (.ref a1), .val (.ref a2), .val (.ref t1), .val (.int (2 : Int32)), .val (.ref t2), .val (.int (2 : Int32)), .val (.int (0 : Int32)), .val (.int x0), .unset] [(.int y0)])) _
    refine XS.istore X103.here hx rfl (hb hby d17_55) rfl (l' := #[.val (.ref a1), .val (.ref a2), .val (.ref t1), .val (.int (2 : Int32)), .val (.ref t2), .val (.int (2 : Int32)), .val (.int (0 : Int32)), .val (.int x0), .val (.int y0)]) rfl ?_
    show Steps p.tables e below (T103.setTop (mkF m 57 #[.val (.ref a1), .val (.ref a2), .val (.ref t1), .val (.int (2 : Int32)), .val (.ref t2), .val (.int (2 : Int32)), .val (.int (0 : Int32)), .val (.int x0), .val (.int y0)] [])) _
    refine XS.iload X103.here hx rfl (hb hby d17_57) rfl ?_
    show Steps p.tables e below (T103.setTop (mkF m 59 #[.val (.ref a1), .val (.ref a2), .val (.ref t1), .val (.int (2 : Int32)), .val (.ref t2), .val (.int (2 : Int32)), .val (.int (0 : Int32)), .val (.int x0), .val (.int y0)] [(.int x0)])) _
    refine XS.iload X103.here hx rfl (hb hby d17_59) rfl ?_
    show Steps p.tables e below (T103.setTop (mkF m 61 #[.val (.ref a1), .val (.ref a2), .val (.ref t1), .val (.int (2 : Int32)), .val (.ref t2), .val (.int (2 : Int32)), .val (.int (0 : Int32)), .val (.int x0), .val (.int y0)] [(.int y0), (.int x0)])) _
    refine XS.icmpYes X103.here hx rfl (pc0 := 61) (pc' := 88) rfl (hb hby d17_61) rfl (teq hc61).1 (by decide) (by decide) ?_
    show Steps p.tables e below (T103.setTop (mkF m 88 #[.val (.ref a1), .val (.ref a2), .val (.ref t1), .val (.int (2 : Int32)), .val (.ref t2), .val (.int (2 : Int32)), .val (.int (0 : Int32)), .val (.int x0), .val (.int y0)] [])) _
    refine XS.iinc X103.here hx rfl (hb hby d17_88) rfl (l' := #[.val (.ref a1), .val (.ref a2), .val (.ref t1), .val (.int (2 : Int32)), .val (.ref t2), .val (.int (2 : Int32)), .val (.int ((0 : Int32) + (1 : Int32))), .val (.int x0), .val (.int y0)]) rfl ?_
    show Steps p.tables e below (T103.setTop (mkF m 91 #[.val (.ref a1), .val (.ref a2), .val (.ref t1), .val (.int (2 : Int32)), .val (.ref t2), .val (.int (2 : Int32)), .val (.int ((0 : Int32) + (1 : Int32))), .val (.int x0), .val (.int y0)] [])) _
    refine XS.goto X103.here hx rfl (pc0 := 91) (pc' := 38) rfl (hb hby d17_91) (by decide) (by decide) ?_
    show Steps p.tables e below (T103.setTop (mkF m 38 #[.val (.ref a1), .val (.ref a2), .val (.ref t1), .val (.int (2 : Int32)), .val (.ref t2), .val (.int (2 : Int32)), .val (.int ((0 : Int32) + (1 : Int32))), .val (.int x0), .val (.int y0)] [])) _
    refine XS.iload X103.here hx rfl (hb hby d17_38) rfl ?_
    show Steps p.tables e below (T103.setTop (mkF m 40 #[.val (.ref a1), .val (.ref a2), .val (.ref t1), .val (.int (2 : Int32)), .val (.ref t2), .val (.int (2 : Int32)), .val (.int ((0 : Int32) + (1 : Int32))), .val (.int x0), .val (.int y0)] [(.int ((0 : Int32) + (1 : Int32)))])) _
    refine XS.iloadN X103.here hx rfl (hb hby d17_40) rfl ?_
    show Steps p.tables e below (T103.setTop (mkF m 41 #[.val (.ref a1), .val (.ref a2), .val (.ref t1), .val (.int (2 : Int32)), .val (.ref t2), .val (.int (2 : Int32)), .val (.int ((0 : Int32) + (1 : Int32))), .val (.int x0), .val (.int y0)] [(.int (2 : Int32)), (.int ((0 : Int32) + (1 : Int32)))])) _
    refine XS.icmpNo X103.here hx rfl (hb hby d17_41) rfl (tlt hc41_1).2.1 ?_
    show Steps p.tables e below (T103.setTop (mkF m 44 #[.val (.ref a1), .val (.ref a2), .val (.ref t1), .val (.int (2 : Int32)), .val (.ref t2), .val (.int (2 : Int32)), .val (.int ((0 : Int32) + (1 : Int32))), .val (.int x0), .val (.int y0)] [])) _
    refine XS.aloadN X103.here hx rfl (hb hby d17_44) rfl rfl ?_
    show Steps p.tables e below (T103.setTop (mkF m 45 #[.val (.ref a1), .val (.ref a2), .val (.ref t1), .val (.int (2 : Int32)), .val (.ref t2), .val (.int (2 : Int32)), .val (.int ((0 : Int32) + (1 : Int32))), .val (.int x0), .val (.int y0)] [(.ref t1)])) _
    refine XS.iload X103.here hx rfl (hb hby d17_45) rfl ?_
    show Steps p.tables e below (T103.setTop (mkF m 47 #[.val (.ref a1), .val (.ref a2), .val (.ref t1), .val (.int (2 : Int32)), .val (.ref t2), .val (.int (2 : Int32)), .val (.int ((0 : Int32) + (1 : Int32))), .val (.int x0), .val (.int y0)] [(.int ((0 : Int32) + (1 : Int32))), (.ref t1)])) _
    refine X103.iaload hx (j := ((0 : Int32) + (1 : Int32))) (v := (.int x1)) (by rw [e103]; exact Ar102.1) (State.isArrayOf_alike hZ.alike Ar102.2.1) Ar102.2.2 (inb_of S102 ⟨by decide, by decide⟩) hat107 (g := (mkF m 47 #[.val (.ref a1), .val (.ref a2), .val (.ref t1), .val (.int (2 : Int32)), .val (.ref t2), .val (.int (2 : Int32)), .val (.int ((0 : Int32) + (1 : Int32))), .val (.int x0), .val (.int y0)] [(.int ((0 : Int32) + (1 : Int32))), (.ref t1)])) rfl rfl (hb hby d17_47) _ ?_
    show Steps p.tables e below (T103.setTop (mkF m 48 #[.val (.ref a1), .val (.ref a2), .val (.ref t1), .val (.int (2 : Int32)), .val (.ref t2), .val (.int (2 : Int32)), .val (.int ((0 : Int32) + (1 : Int32))), .val (.int x0), .val (.int y0)] [(.int x1)])) _
    refine XS.istore X103.here hx rfl (hb hby d17_48) rfl (l' := #[.val (.ref a1), .val (.ref a2), .val (.ref t1), .val (.int (2 : Int32)), .val (.ref t2), .val (.int (2 : Int32)), .val (.int ((0 : Int32) + (1 : Int32))), .val (.int x1), .val (.int y0)]) rfl ?_
    show Steps p.tables e below (T103.setTop (mkF m 50 #[.val (.ref a1), .val (.ref a2), .val (.ref t1), .val (.int (2 : Int32)), .val (.ref t2), .val (.int (2 : Int32)), .val (.int ((0 : Int32) + (1 : Int32))), .val (.int x1), .val (.int y0)] [])) _
    refine XS.aload X103.here hx rfl (hb hby d17_50) rfl rfl ?_
    show Steps p.tables e below (T103.setTop (mkF m 52 #[.val (.ref a1), .val (.ref a2), .val (.ref t1), .val (.int (2 : Int32)), .val (.ref t2), .val (.int (2 : Int32)), .val (.int ((0 : Int32) + (1 : Int32))), .val (.int x1), .val (.int y0)] [(.ref t2)])) _
    refine XS.iload X103.here hx rfl (hb hby d17_52) rfl ?_
    show Steps p.tables e below (T103.setTop (mkF m 54 #[.val (.ref a1), .val (.ref a2), .val (.ref t1), .val (.int (2 : Int32)), .val (.ref t2), .val (.int (2 : Int32)), .val (.int ((0 : Int32) + (1 : Int32))), .val (.int x1), .val (.int y0)] [(.int ((0 : Int32) + (1 : Int32))), (.ref t2)])) _
    refine X103.iaload hx (j := ((0 : Int32) + (1 : Int32))) (v := (.int y1)) (by rw [e103]; exact Ar104.1) (State.isArrayOf_alike hZ.alike Ar104.2.1) Ar104.2.2 (inb_of S104 ⟨by decide, by decide⟩) hat108 (g := (mkF m 54 #[.val (.ref a1), .val (.ref a2), .val (.ref t1), .val (.int (2 : Int32)), .val (.ref t2), .val (.int (2 : Int32)), .val (.int ((0 : Int32) + (1 : Int32))), .val (.int x1), .val (.int y0)] [(.int ((0 : Int32) + (1 : Int32))), (.ref t2)])) rfl rfl (hb hby d17_54) _ ?_
    show Steps p.tables e below (T103.setTop (mkF m 55 #[.val (.ref a1), .val (.ref a2), .val (.ref t1), .val (.int (2 : Int32)), .val (.ref t2), .val (.int (2 : Int32)), .val (.int ((0 : Int32) + (1 : Int32))), .val (.int x1), .val (.int y0)] [(.int y1)])) _
    refine XS.istore X103.here hx rfl (hb hby d17_55) rfl (l' := #[.val (.ref a1), .val (.ref a2), .val (.ref t1), .val (.int (2 : Int32)), .val (.ref t2), .val (.int (2 : Int32)), .val (.int ((0 : Int32) + (1 : Int32))), .val (.int x1), .val (.int y1)]) rfl ?_
    show Steps p.tables e below (T103.setTop (mkF m 57 #[.val (.ref a1), .val (.ref a2), .val (.ref t1), .val (.int (2 : Int32)), .val (.ref t2), .val (.int (2 : Int32)), .val (.int ((0 : Int32) + (1 : Int32))), .val (.int x1), .val (.int y1)] [])) _
    refine XS.iload X103.here hx rfl (hb hby d17_57) rfl ?_
    show Steps p.tables e below (T103.setTop (mkF m 59 #[.val (.ref a1), .val (.ref a2), .val (.ref t1), .val (.int (2 : Int32)), .val (.ref t2), .val (.int (2 : Int32)), .val (.int ((0 : Int32) + (1 : Int32))), .val (.int x1), .val (.int y1)] [(.int x1)])) _
    refine XS.iload X103.here hx rfl (hb hby d17_59) rfl ?_
    show Steps p.tables e below (T103.setTop (mkF m 61 #[.val (.ref a1), .val (.ref a2), .val (.ref t1), .val (.int (2 : Int32)), .val (.ref t2), .val (.int (2 : Int32)), .val (.int ((0 : Int32) + (1 : Int32))), .val (.int x1), .val (.int y1)] [(.int y1), (.int x1)])) _
    refine XS.icmpYes X103.here hx rfl (pc0 := 61) (pc' := 88) rfl (hb hby d17_61) rfl (teq hc61_1).1 (by decide) (by decide) ?_
    show Steps p.tables e below (T103.setTop (mkF m 88 #[.val (.ref a1), .val (.ref a2), .val (.ref t1), .val (.int (2 : Int32)), .val (.ref t2), .val (.int (2 : Int32)), .val (.int ((0 : Int32) + (1 : Int32))), .val (.int x1), .val (.int y1)] [])) _
    refine XS.iinc X103.here hx rfl (hb hby d17_88) rfl (l' := #[.val (.ref a1), .val (.ref a2), .val (.ref t1), .val (.int (2 : Int32)), .val (.ref t2), .val (.int (2 : Int32)), .val (.int (((0 : Int32) + (1 : Int32)) + (1 : Int32))), .val (.int x1), .val (.int y1)]) rfl ?_
    show Steps p.tables e below (T103.setTop (mkF m 91 #[.val (.ref a1), .val (.ref a2), .val (.ref t1), .val (.int (2 : Int32)), .val (.ref t2), .val (.int (2 : Int32)), .val (.int (((0 : Int32) + (1 : Int32)) + (1 : Int32))), .val (.int x1), .val (.int y1)] [])) _
    refine XS.goto X103.here hx rfl (pc0 := 91) (pc' := 38) rfl (hb hby d17_91) (by decide) (by decide) ?_
    show Steps p.tables e below (T103.setTop (mkF m 38 #[.val (.ref a1), .val (.ref a2), .val (.ref t1), .val (.int (2 : Int32)), .val (.ref t2), .val (.int (2 : Int32)), .val (.int (((0 : Int32) + (1 : Int32)) + (1 : Int32))), .val (.int x1), .val (.int y1)] [])) _
    refine XS.iload X103.here hx rfl (hb hby d17_38) rfl ?_
    show Steps p.tables e below (T103.setTop (mkF m 40 #[.val (.ref a1), .val (.ref a2), .val (.ref t1), .val (.int (2 : Int32)), .val (.ref t2), .val (.int (2 : Int32)), .val (.int (((0 : Int32) + (1 : Int32)) + (1 : Int32))), .val (.int x1), .val (.int y1)] [(.int (((0 : Int32) + (1 : Int32)) + (1 : Int32)))])) _
    refine XS.iloadN X103.here hx rfl (hb hby d17_40) rfl ?_
    show Steps p.tables e below (T103.setTop (mkF m 41 #[.val (.ref a1), .val (.ref a2), .val (.ref t1), .val (.int (2 : Int32)), .val (.ref t2), .val (.int (2 : Int32)), .val (.int (((0 : Int32) + (1 : Int32)) + (1 : Int32))), .val (.int x1), .val (.int y1)] [(.int (2 : Int32)), (.int (((0 : Int32) + (1 : Int32)) + (1 : Int32)))])) _
    refine XS.icmpYes X103.here hx rfl (pc0 := 41) (pc' := 94) rfl (hb hby d17_41) rfl (flt hc41_2).2.1 (by decide) (by decide) ?_
    show Steps p.tables e below (T103.setTop (mkF m 94 #[.val (.ref a1), .val (.ref a2), .val (.ref t1), .val (.int (2 : Int32)), .val (.ref t2), .val (.int (2 : Int32)), .val (.int (((0 : Int32) + (1 : Int32)) + (1 : Int32))), .val (.int x1), .val (.int y1)] [])) _
    refine XS.iconst X103.here hx rfl (hb hby d17_94) ?_
    show Steps p.tables e below (T103.setTop (mkF m 95 #[.val (.ref a1), .val (.ref a2), .val (.ref t1), .val (.int (2 : Int32)), .val (.ref t2), .val (.int (2 : Int32)), .val (.int (((0 : Int32) + (1 : Int32)) + (1 : Int32))), .val (.int x1), .val (.int y1)] [(.int (0 : Int32))])) _
    exact retI X103 hx Bd.returns (hb hby d17_95) hr
  · show Qs (some (.int (own_cm [x0, x1] [y0, y1]))) h0 n0 _ T103.heap _
    rw [e103]
    exact ⟨by rw [he0, he1]; simp [own_cm, own_cm2], N0, rfl⟩
set_option maxRecDepth 65536 in
set_option maxHeartbeats 40000000 in
theorem rmCM (l : Launch) (Z : State) (a0 : Array Value) (hw : ∀ d ∈ tables_1, d.before a0 Z = true) (ws : List Jvm.Cond) (a1 : Addr) (a2 : Addr) (v w : Int64) (h0 : Heap) (n0 : Nat) (X00 : Old Z n0 h0) (B1 : Big Z h0 a1 v) (B2 : Big Z h0 a2 w) (hv : ¬ v = 0) (hw0 : ¬ w = 0) :
    MetFree l (⟨"java/math/BigInteger", "compareMagnitude", "(Ljava/math/BigInteger;)I"⟩ : MethodName) (head1 (Jvm.Cond.code (⟨"java/math/BigInteger", "compareMagnitude", "(Ljava/math/BigInteger;)I"⟩ : MethodName) jdk_2097_method_122_code 9 (some .int) :: ws) ({ frames := 0, cells := 0, slots := 0, locals := 0 } : Room)) (fun a U => a = #[(.ref a1), (.ref a2)] ∧ Z.Warmed39 U.vm ∧ U.heap = h0) (fun _ _ _ _ _ => True) (fun _ U o U' => ∃ rv rL, o = .returned rv ∧ Qs (some (.int (own_cm (own_mg v) (own_mg w)))) h0 n0 rv U'.heap rL ∧ FrameEnd U o U' rL ({ frames := 0, cells := 0, slots := 0, locals := 0 } : Room).cells ({ frames := 0, cells := 0, slots := 0, locals := 0 } : Room).slots) := by
  obtain ⟨-, -, t1, k1, M1, V1⟩ := B1
  obtain ⟨-, -, t2, k2, M2, V2⟩ := B2
  unfold own_mg at V1 V2 ⊢
  rw [if_neg hv] at V1 ⊢
  rw [if_neg hw0] at V2 ⊢
  by_cases c1 : own_hi (own_ab v) = 0 <;> by_cases c2 : own_hi (own_ab w) = 0
  · rw [if_pos c1] at V1 ⊢
    rw [if_pos c2] at V2 ⊢
    by_cases e : (own_ab v).toInt32 = (own_ab w).toInt32
    · exact rmCM_1_e l Z a0 hw ws a1 a2 t1 t2 k1 k2 _ _ h0 n0 X00 M1 M2 V1 V2 e
    · by_cases q : own_ux (own_ab v).toInt32 < own_ux (own_ab w).toInt32
      · exact rmCM_1_0_l l Z a0 hw ws a1 a2 t1 t2 k1 k2 _ _ h0 n0 X00 M1 M2 V1 V2 e q
      · exact rmCM_1_0_g l Z a0 hw ws a1 a2 t1 t2 k1 k2 _ _ h0 n0 X00 M1 M2 V1 V2 e q
  · rw [if_pos c1] at V1 ⊢
    rw [if_neg c2] at V2 ⊢
    exact rmCM_12 l Z a0 hw ws a1 a2 t1 t2 k1 k2 _ _ _ h0 n0 X00 M1 M2 V1 V2
  · rw [if_neg c1] at V1 ⊢
    rw [if_pos c2] at V2 ⊢
    exact rmCM_21 l Z a0 hw ws a1 a2 t1 t2 k1 k2 _ _ _ h0 n0 X00 M1 M2 V1 V2
  · rw [if_neg c1] at V1 ⊢
    rw [if_neg c2] at V2 ⊢
    by_cases e : own_hi (own_ab v) = own_hi (own_ab w)
    · by_cases f : (own_ab v).toInt32 = (own_ab w).toInt32
      · exact rmCM_2_e l Z a0 hw ws a1 a2 t1 t2 k1 k2 _ _ _ _ h0 n0 X00 M1 M2 V1 V2 e f
      · by_cases q : own_ux (own_ab v).toInt32 < own_ux (own_ab w).toInt32
        · exact rmCM_2_1_l l Z a0 hw ws a1 a2 t1 t2 k1 k2 _ _ _ _ h0 n0 X00 M1 M2 V1 V2 e f q
        · exact rmCM_2_1_g l Z a0 hw ws a1 a2 t1 t2 k1 k2 _ _ _ _ h0 n0 X00 M1 M2 V1 V2 e f q
    · by_cases q : own_ux (own_hi (own_ab v)) < own_ux (own_hi (own_ab w))
      · exact rmCM_2_0_l l Z a0 hw ws a1 a2 t1 t2 k1 k2 _ _ _ _ h0 n0 X00 M1 M2 V1 V2 e q
      · exact rmCM_2_0_g l Z a0 hw ws a1 a2 t1 t2 k1 k2 _ _ _ _ h0 n0 X00 M1 M2 V1 V2 e q
set_option maxRecDepth 65536 in
set_option maxHeartbeats 40000000 in
theorem rmCmp_p (l : Launch) (Z : State) (a0 : Array Value) (hw : ∀ d ∈ tables_1, d.before a0 Z = true) (ws : List Jvm.Cond) (a1 : Addr) (a2 : Addr) (v : Int64) (w : Int64) (h0 : Heap) (n0 : Nat) (X00 : Old Z n0 h0) (B1 : Big Z h0 a1 v) (B2 : Big Z h0 a2 w) (hv : 0 < v) (hw0 : 0 < w) (hs1 : own_sg v = 1) (hs2 : own_sg w = 1) :
    MetFree l (⟨"java/math/BigInteger", "compareTo", "(Ljava/math/BigInteger;)I"⟩ : MethodName) (head1 (Jvm.Cond.code (⟨"java/math/BigInteger", "compareTo", "(Ljava/math/BigInteger;)I"⟩ : MethodName) jdk_2097_method_121_code 2 (some .int) :: ws) ({ frames := 1, cells := 0, slots := 0, locals := 20 } : Room)) (fun a U => a = #[(.ref a1), (.ref a2)] ∧ Z.Warmed39 U.vm ∧ U.heap = h0) (fun _ _ _ _ _ => True) (fun _ U o U' => ∃ rv rL, o = .returned rv ∧ Qs (some (.int (own_cmp v w))) h0 n0 rv U'.heap rL ∧ FrameEnd U o U' rL ({ frames := 1, cells := 0, slots := 0, locals := 20 } : Room).cells ({ frames := 1, cells := 0, slots := 0, locals := 20 } : Room).slots) := by
  refine MetFree.of_bodySF (plainFor_of_name pn_16) hisR ?_
  intro p e s m args below meth c s₁ Bd hml0 hP hK
  obtain ⟨rfl, hZ, hh⟩ := hP
  have hx := Bd.exec
  have hby := Bd.bytes
  have hml : c.maxLocals = 2 := hml0
  have hown : s.vm.findClass "java/math/BigInteger" = some m.cls := findClass_of_methodNamed Bd.named
  have hnm := (name_of_methodNamed Bd.named Bd.method).1
  have X0 : Stand p l e ({ frames := 1, cells := 0, slots := 0, locals := 20 } : Room) s m #[(.ref a1), (.ref a2)] below meth c s₁ [] 0 0 := Stand.of_body Bd
  have e0 : s₁.heap = h0 := by rw [← hh, Bd.state]; rfl
  have N0 := Fr.nil n0
  have pre0 : ∀ t, Steps p.tables e below (s₁.setTop (mkF m 0 #[.val (.ref a1), .val (.ref a2)] [])) t → Steps p.tables e below (s₁.setTop (entryFrame m #[(.ref a1), (.ref a2)] 2)) t := fun t k => castTop (ef_16 m a1 a2) k
  obtain ⟨T101, X101, e101, st101⟩ := getF X0 hx hZ hown (host := "") (Or.inl (hw _ (List.mem_of_getElem? (i := 47) rfl))) Via.refl e0 B1.2.1 (g := (mkF m 1 #[.val (.ref a1), .val (.ref a2)] [(.ref a1)])) rfl rfl (hb hby d16_1)
  obtain ⟨T102, X102, e102, st102⟩ := getF X101 hx hZ hown (host := "") (Or.inl (hw _ (List.mem_of_getElem? (i := 47) rfl))) Via.refl e101 B2.2.1 (g := (mkF m 5 #[.val (.ref a1), .val (.ref a2)] [(.ref a2), (.int (own_sg v))])) rfl rfl (hb hby d16_5)
  have hc8 : (own_sg v) = (own_sg w) := hs1.trans hs2.symm
  obtain ⟨T103, X103, e103, st103⟩ := getF X102 hx hZ hown (host := "") (Or.inl (hw _ (List.mem_of_getElem? (i := 47) rfl))) Via.refl e102 B1.2.1 (g := (mkF m 12 #[.val (.ref a1), .val (.ref a2)] [(.ref a1)])) rfl rfl (hb hby d16_12)
  obtain ⟨cq104, kq104, q104a, q104b, q104c⟩ := isOf hZ e103 B1.1
  obtain ⟨_, _, ⟨T104, L104, k104, n104⟩, -, X104, ⟨Lc104, hQ104, l104, y104, z104⟩, st104⟩ := X103.virtualBack hx (y := (⟨"java/math/BigInteger", "compareMagnitude", "(Ljava/math/BigInteger;)I"⟩ : MethodName)) (z := (⟨"java/math/BigInteger", "compareMagnitude", "(Ljava/math/BigInteger;)I"⟩ : MethodName)) hown (mvT hZ (hw _ (List.mem_of_getElem? (i := 87) rfl))) (mvT hZ (hw _ (List.mem_of_getElem? (i := 88) rfl))) (notFace_of_selects (args := #[]) (mvT hZ (hw _ (List.mem_of_getElem? (i := 90) rfl)))) (mvT hZ (hw _ (List.mem_of_getElem? (i := 90) rfl))) (mvT hZ (hw _ (List.mem_of_getElem? (i := 89) rfl))) (by decide) (backOf (W := 0) (rmCM l Z a0 hw [] a1 a2 v w h0 n0 X00 B1 B2 (own_ne0 (Or.inr hv)) (own_ne0 (Or.inr hw0))) hZ (hw _ (List.mem_of_getElem? (i := 91) rfl)) (hw _ (List.mem_of_getElem? (i := 8) rfl)) (by decide) (by decide)) q104a q104c (g := (mkF m 42 #[.val (.ref a1), .val (.ref a2)] [(.ref a2), (.ref a1)])) rfl (by rw [hml]; rfl) (Steps.refl _) (argsL := [(.ref a2)]) (rest := []) (lenOf pd_Ljava_math_BigInteger__I rfl) rfl (by show 2 * 0 + _ ≤ _; exact Nat.le_of_eq rfl) (hb hby d16_42) (fun _ _ => ⟨rfl, e103, (by decide : 0 + 0 ≤ _), (by decide : 0 + 0 ≤ _)⟩)
  dsimp only [Pt.U, Pt.locs, Pt.cells, Pt.slots] at X104 l104 y104 z104 st104 hQ104
  subst l104 y104 z104
  obtain ⟨rfl, N104q, eq104⟩ := hQ104
  have N104 := Fr.app N0 N104q
  obtain ⟨fs, hr, hrun, hended, hW, hsame⟩ := X104.leave (v := some (.int (own_cm (own_mg v) (own_mg w)))) (fun h => by rw [Bd.returns] at h; cases h)
  refine ⟨_, _, pre0 _ ?_, hrun, hended, _, _, rfl, ?_, ⟨_, rfl⟩, hW, hsame.mono (by decide) (by decide)⟩
  · show Steps p.tables e below (s₁.setTop (mkF m 0 #[.val (.ref a1), .val (.ref a2)] [])) _
    refine XS.aloadN X0.here hx rfl (hb hby d16_0) rfl rfl ?_
    show Steps p.tables e below (s₁.setTop (mkF m 1 #[.val (.ref a1), .val (.ref a2)] [(.ref a1)])) _
    refine st101 _ ?_
    show Steps p.tables e below (T101.setTop (mkF m 4 #[.val (.ref a1), .val (.ref a2)] [(.int (own_sg v))])) _
    refine XS.aloadN X101.here hx rfl (hb hby d16_4) rfl rfl ?_
    show Steps p.tables e below (T101.setTop (mkF m 5 #[.val (.ref a1), .val (.ref a2)] [(.ref a2), (.int (own_sg v))])) _
    refine st102 _ ?_
    show Steps p.tables e below (T102.setTop (mkF m 8 #[.val (.ref a1), .val (.ref a2)] [(.int (own_sg w)), (.int (own_sg v))])) _
    refine XS.icmpNo X102.here hx rfl (hb hby d16_8) rfl (teq hc8).2 ?_
    show Steps p.tables e below (T102.setTop (mkF m 11 #[.val (.ref a1), .val (.ref a2)] [])) _
    refine XS.aloadN X102.here hx rfl (hb hby d16_11) rfl rfl ?_
    show Steps p.tables e below (T102.setTop (mkF m 12 #[.val (.ref a1), .val (.ref a2)] [(.ref a1)])) _
    refine st103 _ ?_
    show Steps p.tables e below (T103.setTop (mkF m 15 #[.val (.ref a1), .val (.ref a2)] [(.int (own_sg v))])) _
    refine X103.lookupswitchHit hx (g := (mkF m 15 #[.val (.ref a1), .val (.ref a2)] [(.int (own_sg v))])) rfl (k := (own_sg v)) (rest := []) rfl (hb hby d16_15) (by decide) (a := 1) (off := 25) (by rw [hs1]; decide) (by show (0 : Int) ≤ (40 : Nat); decide) _ ?_
    show Steps p.tables e below (T103.setTop (mkF m 40 #[.val (.ref a1), .val (.ref a2)] [])) _
    refine XS.aloadN X103.here hx rfl (hb hby d16_40) rfl rfl ?_
    show Steps p.tables e below (T103.setTop (mkF m 41 #[.val (.ref a1), .val (.ref a2)] [(.ref a1)])) _
    refine XS.aloadN X103.here hx rfl (hb hby d16_41) rfl rfl ?_
    show Steps p.tables e below (T103.setTop (mkF m 42 #[.val (.ref a1), .val (.ref a2)] [(.ref a2), (.ref a1)])) _
    refine st104.trans ?_
    show Steps p.tables e below (T104.setTop (mkF m 45 #[.val (.ref a1), .val (.ref a2)] [(.int (own_cm (own_mg v) (own_mg w)))])) _
    refine XS.goto X104.here hx rfl (pc0 := 45) (pc' := 57) rfl (hb hby d16_45) (by decide) (by decide) ?_
    show Steps p.tables e below (T104.setTop (mkF m 57 #[.val (.ref a1), .val (.ref a2)] [(.int (own_cm (own_mg v) (own_mg w)))])) _
    exact retI X104 hx Bd.returns (hb hby d16_57) hr
  · show Qs (some (.int (own_cmp v w))) h0 n0 _ T104.heap _
    rw [eq104]
    exact ⟨by rw [own_cmPos hv hw0], N104, rfl⟩
set_option maxRecDepth 65536 in
set_option maxHeartbeats 40000000 in
theorem rmCmp_n (l : Launch) (Z : State) (a0 : Array Value) (hw : ∀ d ∈ tables_1, d.before a0 Z = true) (ws : List Jvm.Cond) (a1 : Addr) (a2 : Addr) (v : Int64) (w : Int64) (h0 : Heap) (n0 : Nat) (X00 : Old Z n0 h0) (B1 : Big Z h0 a1 v) (B2 : Big Z h0 a2 w) (hv : v < 0) (hw0 : w < 0) (hs1 : own_sg v = -1) (hs2 : own_sg w = -1) :
    MetFree l (⟨"java/math/BigInteger", "compareTo", "(Ljava/math/BigInteger;)I"⟩ : MethodName) (head1 (Jvm.Cond.code (⟨"java/math/BigInteger", "compareTo", "(Ljava/math/BigInteger;)I"⟩ : MethodName) jdk_2097_method_121_code 2 (some .int) :: ws) ({ frames := 1, cells := 0, slots := 0, locals := 20 } : Room)) (fun a U => a = #[(.ref a1), (.ref a2)] ∧ Z.Warmed39 U.vm ∧ U.heap = h0) (fun _ _ _ _ _ => True) (fun _ U o U' => ∃ rv rL, o = .returned rv ∧ Qs (some (.int (own_cmp v w))) h0 n0 rv U'.heap rL ∧ FrameEnd U o U' rL ({ frames := 1, cells := 0, slots := 0, locals := 20 } : Room).cells ({ frames := 1, cells := 0, slots := 0, locals := 20 } : Room).slots) := by
  refine MetFree.of_bodySF (plainFor_of_name pn_16) hisR ?_
  intro p e s m args below meth c s₁ Bd hml0 hP hK
  obtain ⟨rfl, hZ, hh⟩ := hP
  have hx := Bd.exec
  have hby := Bd.bytes
  have hml : c.maxLocals = 2 := hml0
  have hown : s.vm.findClass "java/math/BigInteger" = some m.cls := findClass_of_methodNamed Bd.named
  have hnm := (name_of_methodNamed Bd.named Bd.method).1
  have X0 : Stand p l e ({ frames := 1, cells := 0, slots := 0, locals := 20 } : Room) s m #[(.ref a1), (.ref a2)] below meth c s₁ [] 0 0 := Stand.of_body Bd
  have e0 : s₁.heap = h0 := by rw [← hh, Bd.state]; rfl
  have N0 := Fr.nil n0
  have pre0 : ∀ t, Steps p.tables e below (s₁.setTop (mkF m 0 #[.val (.ref a1), .val (.ref a2)] [])) t → Steps p.tables e below (s₁.setTop (entryFrame m #[(.ref a1), (.ref a2)] 2)) t := fun t k => castTop (ef_16 m a1 a2) k
  obtain ⟨T101, X101, e101, st101⟩ := getF X0 hx hZ hown (host := "") (Or.inl (hw _ (List.mem_of_getElem? (i := 47) rfl))) Via.refl e0 B1.2.1 (g := (mkF m 1 #[.val (.ref a1), .val (.ref a2)] [(.ref a1)])) rfl rfl (hb hby d16_1)
  obtain ⟨T102, X102, e102, st102⟩ := getF X101 hx hZ hown (host := "") (Or.inl (hw _ (List.mem_of_getElem? (i := 47) rfl))) Via.refl e101 B2.2.1 (g := (mkF m 5 #[.val (.ref a1), .val (.ref a2)] [(.ref a2), (.int (own_sg v))])) rfl rfl (hb hby d16_5)
  have hc8 : (own_sg v) = (own_sg w) := hs1.trans hs2.symm
  obtain ⟨T103, X103, e103, st103⟩ := getF X102 hx hZ hown (host := "") (Or.inl (hw _ (List.mem_of_getElem? (i := 47) rfl))) Via.refl e102 B1.2.1 (g := (mkF m 12 #[.val (.ref a1), .val (.ref a2)] [(.ref a1)])) rfl rfl (hb hby d16_12)
  obtain ⟨cq104, kq104, q104a, q104b, q104c⟩ := isOf hZ e103 B2.1
  obtain ⟨_, _, ⟨T104, L104, k104, n104⟩, -, X104, ⟨Lc104, hQ104, l104, y104, z104⟩, st104⟩ := X103.virtualBack hx (y := (⟨"java/math/BigInteger", "compareMagnitude", "(Ljava/math/BigInteger;)I"⟩ : MethodName)) (z := (⟨"java/math/BigInteger", "compareMagnitude", "(Ljava/math/BigInteger;)I"⟩ : MethodName)) hown (mvT hZ (hw _ (List.mem_of_getElem? (i := 87) rfl))) (mvT hZ (hw _ (List.mem_of_getElem? (i := 88) rfl))) (notFace_of_selects (args := #[]) (mvT hZ (hw _ (List.mem_of_getElem? (i := 90) rfl)))) (mvT hZ (hw _ (List.mem_of_getElem? (i := 90) rfl))) (mvT hZ (hw _ (List.mem_of_getElem? (i := 89) rfl))) (by decide) (backOf (W := 0) (rmCM l Z a0 hw [] a2 a1 w v h0 n0 X00 B2 B1 (own_ne0 (Or.inl hw0)) (own_ne0 (Or.inl hv))) hZ (hw _ (List.mem_of_getElem? (i := 91) rfl)) (hw _ (List.mem_of_getElem? (i := 8) rfl)) (by decide) (by decide)) q104a q104c (g := (mkF m 50 #[.val (.ref a1), .val (.ref a2)] [(.ref a1), (.ref a2)])) rfl (by rw [hml]; rfl) (Steps.refl _) (argsL := [(.ref a1)]) (rest := []) (lenOf pd_Ljava_math_BigInteger__I rfl) rfl (by show 2 * 0 + _ ≤ _; exact Nat.le_of_eq rfl) (hb hby d16_50) (fun _ _ => ⟨rfl, e103, (by decide : 0 + 0 ≤ _), (by decide : 0 + 0 ≤ _)⟩)
  dsimp only [Pt.U, Pt.locs, Pt.cells, Pt.slots] at X104 l104 y104 z104 st104 hQ104
  subst l104 y104 z104
  obtain ⟨rfl, N104q, eq104⟩ := hQ104
  have N104 := Fr.app N0 N104q
  obtain ⟨fs, hr, hrun, hended, hW, hsame⟩ := X104.leave (v := some (.int (own_cm (own_mg w) (own_mg v)))) (fun h => by rw [Bd.returns] at h; cases h)
  refine ⟨_, _, pre0 _ ?_, hrun, hended, _, _, rfl, ?_, ⟨_, rfl⟩, hW, hsame.mono (by decide) (by decide)⟩
  · show Steps p.tables e below (s₁.setTop (mkF m 0 #[.val (.ref a1), .val (.ref a2)] [])) _
    refine XS.aloadN X0.here hx rfl (hb hby d16_0) rfl rfl ?_
    show Steps p.tables e below (s₁.setTop (mkF m 1 #[.val (.ref a1), .val (.ref a2)] [(.ref a1)])) _
    refine st101 _ ?_
    show Steps p.tables e below (T101.setTop (mkF m 4 #[.val (.ref a1), .val (.ref a2)] [(.int (own_sg v))])) _
    refine XS.aloadN X101.here hx rfl (hb hby d16_4) rfl rfl ?_
    show Steps p.tables e below (T101.setTop (mkF m 5 #[.val (.ref a1), .val (.ref a2)] [(.ref a2), (.int (own_sg v))])) _
    refine st102 _ ?_
    show Steps p.tables e below (T102.setTop (mkF m 8 #[.val (.ref a1), .val (.ref a2)] [(.int (own_sg w)), (.int (own_sg v))])) _
    refine XS.icmpNo X102.here hx rfl (hb hby d16_8) rfl (teq hc8).2 ?_
    show Steps p.tables e below (T102.setTop (mkF m 11 #[.val (.ref a1), .val (.ref a2)] [])) _
    refine XS.aloadN X102.here hx rfl (hb hby d16_11) rfl rfl ?_
    show Steps p.tables e below (T102.setTop (mkF m 12 #[.val (.ref a1), .val (.ref a2)] [(.ref a1)])) _
    refine st103 _ ?_
    show Steps p.tables e below (T103.setTop (mkF m 15 #[.val (.ref a1), .val (.ref a2)] [(.int (own_sg v))])) _
    refine X103.lookupswitchHit hx (g := (mkF m 15 #[.val (.ref a1), .val (.ref a2)] [(.int (own_sg v))])) rfl (k := (own_sg v)) (rest := []) rfl (hb hby d16_15) (by decide) (a := -1) (off := 33) (by rw [hs1]; decide) (by show (0 : Int) ≤ (48 : Nat); decide) _ ?_
    show Steps p.tables e below (T103.setTop (mkF m 48 #[.val (.ref a1), .val (.ref a2)] [])) _
    refine XS.aloadN X103.here hx rfl (hb hby d16_48) rfl rfl ?_
    show Steps p.tables e below (T103.setTop (mkF m 49 #[.val (.ref a1), .val (.ref a2)] [(.ref a2)])) _
    refine XS.aloadN X103.here hx rfl (hb hby d16_49) rfl rfl ?_
    show Steps p.tables e below (T103.setTop (mkF m 50 #[.val (.ref a1), .val (.ref a2)] [(.ref a1), (.ref a2)])) _
    refine st104.trans ?_
    show Steps p.tables e below (T104.setTop (mkF m 53 #[.val (.ref a1), .val (.ref a2)] [(.int (own_cm (own_mg w) (own_mg v)))])) _
    refine XS.goto X104.here hx rfl (pc0 := 53) (pc' := 57) rfl (hb hby d16_53) (by decide) (by decide) ?_
    show Steps p.tables e below (T104.setTop (mkF m 57 #[.val (.ref a1), .val (.ref a2)] [(.int (own_cm (own_mg w) (own_mg v)))])) _
    exact retI X104 hx Bd.returns (hb hby d16_57) hr
  · show Qs (some (.int (own_cmp v w))) h0 n0 _ T104.heap _
    rw [eq104]
    exact ⟨by rw [own_cmNeg hv hw0], N104, rfl⟩
set_option maxRecDepth 65536 in
set_option maxHeartbeats 40000000 in
theorem rmCmp_z (l : Launch) (Z : State) (a0 : Array Value) (hw : ∀ d ∈ tables_1, d.before a0 Z = true) (ws : List Jvm.Cond) (a1 : Addr) (a2 : Addr) (v : Int64) (w : Int64) (h0 : Heap) (n0 : Nat) (X00 : Old Z n0 h0) (B1 : Big Z h0 a1 v) (B2 : Big Z h0 a2 w) (hv : v = 0) (hw0 : w = 0) (hs1 : own_sg v = 0) (hs2 : own_sg w = 0) :
    MetFree l (⟨"java/math/BigInteger", "compareTo", "(Ljava/math/BigInteger;)I"⟩ : MethodName) (head1 (Jvm.Cond.code (⟨"java/math/BigInteger", "compareTo", "(Ljava/math/BigInteger;)I"⟩ : MethodName) jdk_2097_method_121_code 2 (some .int) :: ws) ({ frames := 1, cells := 0, slots := 0, locals := 20 } : Room)) (fun a U => a = #[(.ref a1), (.ref a2)] ∧ Z.Warmed39 U.vm ∧ U.heap = h0) (fun _ _ _ _ _ => True) (fun _ U o U' => ∃ rv rL, o = .returned rv ∧ Qs (some (.int (own_cmp v w))) h0 n0 rv U'.heap rL ∧ FrameEnd U o U' rL ({ frames := 1, cells := 0, slots := 0, locals := 20 } : Room).cells ({ frames := 1, cells := 0, slots := 0, locals := 20 } : Room).slots) := by
  refine MetFree.of_bodySF (plainFor_of_name pn_16) hisR ?_
  intro p e s m args below meth c s₁ Bd hml0 hP hK
  obtain ⟨rfl, hZ, hh⟩ := hP
  have hx := Bd.exec
  have hby := Bd.bytes
  have hml : c.maxLocals = 2 := hml0
  have hown : s.vm.findClass "java/math/BigInteger" = some m.cls := findClass_of_methodNamed Bd.named
  have hnm := (name_of_methodNamed Bd.named Bd.method).1
  have X0 : Stand p l e ({ frames := 1, cells := 0, slots := 0, locals := 20 } : Room) s m #[(.ref a1), (.ref a2)] below meth c s₁ [] 0 0 := Stand.of_body Bd
  have e0 : s₁.heap = h0 := by rw [← hh, Bd.state]; rfl
  have N0 := Fr.nil n0
  have pre0 : ∀ t, Steps p.tables e below (s₁.setTop (mkF m 0 #[.val (.ref a1), .val (.ref a2)] [])) t → Steps p.tables e below (s₁.setTop (entryFrame m #[(.ref a1), (.ref a2)] 2)) t := fun t k => castTop (ef_16 m a1 a2) k
  obtain ⟨T101, X101, e101, st101⟩ := getF X0 hx hZ hown (host := "") (Or.inl (hw _ (List.mem_of_getElem? (i := 47) rfl))) Via.refl e0 B1.2.1 (g := (mkF m 1 #[.val (.ref a1), .val (.ref a2)] [(.ref a1)])) rfl rfl (hb hby d16_1)
  obtain ⟨T102, X102, e102, st102⟩ := getF X101 hx hZ hown (host := "") (Or.inl (hw _ (List.mem_of_getElem? (i := 47) rfl))) Via.refl e101 B2.2.1 (g := (mkF m 5 #[.val (.ref a1), .val (.ref a2)] [(.ref a2), (.int (own_sg v))])) rfl rfl (hb hby d16_5)
  have hc8 : (own_sg v) = (own_sg w) := hs1.trans hs2.symm
  obtain ⟨T103, X103, e103, st103⟩ := getF X102 hx hZ hown (host := "") (Or.inl (hw _ (List.mem_of_getElem? (i := 47) rfl))) Via.refl e102 B1.2.1 (g := (mkF m 12 #[.val (.ref a1), .val (.ref a2)] [(.ref a1)])) rfl rfl (hb hby d16_12)
  obtain ⟨fs, hr, hrun, hended, hW, hsame⟩ := X103.leave (v := some (.int (0 : Int32))) (fun h => by rw [Bd.returns] at h; cases h)
  refine ⟨_, _, pre0 _ ?_, hrun, hended, _, _, rfl, ?_, ⟨_, rfl⟩, hW, hsame.mono (by decide) (by decide)⟩
  · show Steps p.tables e below (s₁.setTop (mkF m 0 #[.val (.ref a1), .val (.ref a2)] [])) _
    refine XS.aloadN X0.here hx rfl (hb hby d16_0) rfl rfl ?_
    show Steps p.tables e below (s₁.setTop (mkF m 1 #[.val (.ref a1), .val (.ref a2)] [(.ref a1)])) _
    refine st101 _ ?_
    show Steps p.tables e below (T101.setTop (mkF m 4 #[.val (.ref a1), .val (.ref a2)] [(.int (own_sg v))])) _
    refine XS.aloadN X101.here hx rfl (hb hby d16_4) rfl rfl ?_
    show Steps p.tables e below (T101.setTop (mkF m 5 #[.val (.ref a1), .val (.ref a2)] [(.ref a2), (.int (own_sg v))])) _
    refine st102 _ ?_
    show Steps p.tables e below (T102.setTop (mkF m 8 #[.val (.ref a1), .val (.ref a2)] [(.int (own_sg w)), (.int (own_sg v))])) _
    refine XS.icmpNo X102.here hx rfl (hb hby d16_8) rfl (teq hc8).2 ?_
    show Steps p.tables e below (T102.setTop (mkF m 11 #[.val (.ref a1), .val (.ref a2)] [])) _
    refine XS.aloadN X102.here hx rfl (hb hby d16_11) rfl rfl ?_
    show Steps p.tables e below (T102.setTop (mkF m 12 #[.val (.ref a1), .val (.ref a2)] [(.ref a1)])) _
    refine st103 _ ?_
    show Steps p.tables e below (T103.setTop (mkF m 15 #[.val (.ref a1), .val (.ref a2)] [(.int (own_sg v))])) _
    refine X103.lookupswitchMiss hx (g := (mkF m 15 #[.val (.ref a1), .val (.ref a2)] [(.int (own_sg v))])) rfl (k := (own_sg v)) (rest := []) rfl (hb hby d16_15) (by decide) (by rw [hs1]; decide) (by show (0 : Int) ≤ (56 : Nat); decide) _ ?_
    show Steps p.tables e below (T103.setTop (mkF m 56 #[.val (.ref a1), .val (.ref a2)] [])) _
    refine XS.iconst X103.here hx rfl (hb hby d16_56) ?_
    show Steps p.tables e below (T103.setTop (mkF m 57 #[.val (.ref a1), .val (.ref a2)] [(.int (0 : Int32))])) _
    exact retI X103 hx Bd.returns (hb hby d16_57) hr
  · show Qs (some (.int (own_cmp v w))) h0 n0 _ T103.heap _
    rw [e103]
    exact ⟨by rw [hv, hw0]; rfl, N0, rfl⟩
set_option maxRecDepth 65536 in
set_option maxHeartbeats 40000000 in
theorem rmCmp_g (l : Launch) (Z : State) (a0 : Array Value) (hw : ∀ d ∈ tables_1, d.before a0 Z = true) (ws : List Jvm.Cond) (a1 : Addr) (a2 : Addr) (v : Int64) (w : Int64) (h0 : Heap) (n0 : Nat) (X00 : Old Z n0 h0) (B1 : Big Z h0 a1 v) (B2 : Big Z h0 a2 w) (hne : ¬ (own_sg v = own_sg w)) (hg : own_sg w < own_sg v) (hcr : own_cmp v w = 1) :
    MetFree l (⟨"java/math/BigInteger", "compareTo", "(Ljava/math/BigInteger;)I"⟩ : MethodName) (head1 (Jvm.Cond.code (⟨"java/math/BigInteger", "compareTo", "(Ljava/math/BigInteger;)I"⟩ : MethodName) jdk_2097_method_121_code 2 (some .int) :: ws) ({ frames := 1, cells := 0, slots := 0, locals := 20 } : Room)) (fun a U => a = #[(.ref a1), (.ref a2)] ∧ Z.Warmed39 U.vm ∧ U.heap = h0) (fun _ _ _ _ _ => True) (fun _ U o U' => ∃ rv rL, o = .returned rv ∧ Qs (some (.int (own_cmp v w))) h0 n0 rv U'.heap rL ∧ FrameEnd U o U' rL ({ frames := 1, cells := 0, slots := 0, locals := 20 } : Room).cells ({ frames := 1, cells := 0, slots := 0, locals := 20 } : Room).slots) := by
  refine MetFree.of_bodySF (plainFor_of_name pn_16) hisR ?_
  intro p e s m args below meth c s₁ Bd hml0 hP hK
  obtain ⟨rfl, hZ, hh⟩ := hP
  have hx := Bd.exec
  have hby := Bd.bytes
  have hml : c.maxLocals = 2 := hml0
  have hown : s.vm.findClass "java/math/BigInteger" = some m.cls := findClass_of_methodNamed Bd.named
  have hnm := (name_of_methodNamed Bd.named Bd.method).1
  have X0 : Stand p l e ({ frames := 1, cells := 0, slots := 0, locals := 20 } : Room) s m #[(.ref a1), (.ref a2)] below meth c s₁ [] 0 0 := Stand.of_body Bd
  have e0 : s₁.heap = h0 := by rw [← hh, Bd.state]; rfl
  have N0 := Fr.nil n0
  have pre0 : ∀ t, Steps p.tables e below (s₁.setTop (mkF m 0 #[.val (.ref a1), .val (.ref a2)] [])) t → Steps p.tables e below (s₁.setTop (entryFrame m #[(.ref a1), (.ref a2)] 2)) t := fun t k => castTop (ef_16 m a1 a2) k
  obtain ⟨T101, X101, e101, st101⟩ := getF X0 hx hZ hown (host := "") (Or.inl (hw _ (List.mem_of_getElem? (i := 47) rfl))) Via.refl e0 B1.2.1 (g := (mkF m 1 #[.val (.ref a1), .val (.ref a2)] [(.ref a1)])) rfl rfl (hb hby d16_1)
  obtain ⟨T102, X102, e102, st102⟩ := getF X101 hx hZ hown (host := "") (Or.inl (hw _ (List.mem_of_getElem? (i := 47) rfl))) Via.refl e101 B2.2.1 (g := (mkF m 5 #[.val (.ref a1), .val (.ref a2)] [(.ref a2), (.int (own_sg v))])) rfl rfl (hb hby d16_5)
  have hc8 : ¬ ((own_sg v) = (own_sg w)) := hne
  obtain ⟨T103, X103, e103, st103⟩ := getF X102 hx hZ hown (host := "") (Or.inl (hw _ (List.mem_of_getElem? (i := 47) rfl))) Via.refl e102 B1.2.1 (g := (mkF m 59 #[.val (.ref a1), .val (.ref a2)] [(.ref a1)])) rfl rfl (hb hby d16_59)
  obtain ⟨T104, X104, e104, st104⟩ := getF X103 hx hZ hown (host := "") (Or.inl (hw _ (List.mem_of_getElem? (i := 47) rfl))) Via.refl e103 B2.2.1 (g := (mkF m 63 #[.val (.ref a1), .val (.ref a2)] [(.ref a2), (.int (own_sg v))])) rfl rfl (hb hby d16_63)
  have hc66 : (own_sg w) < (own_sg v) := hg
  obtain ⟨fs, hr, hrun, hended, hW, hsame⟩ := X104.leave (v := some (.int (1 : Int32))) (fun h => by rw [Bd.returns] at h; cases h)
  refine ⟨_, _, pre0 _ ?_, hrun, hended, _, _, rfl, ?_, ⟨_, rfl⟩, hW, hsame.mono (by decide) (by decide)⟩
  · show Steps p.tables e below (s₁.setTop (mkF m 0 #[.val (.ref a1), .val (.ref a2)] [])) _
    refine XS.aloadN X0.here hx rfl (hb hby d16_0) rfl rfl ?_
    show Steps p.tables e below (s₁.setTop (mkF m 1 #[.val (.ref a1), .val (.ref a2)] [(.ref a1)])) _
    refine st101 _ ?_
    show Steps p.tables e below (T101.setTop (mkF m 4 #[.val (.ref a1), .val (.ref a2)] [(.int (own_sg v))])) _
    refine XS.aloadN X101.here hx rfl (hb hby d16_4) rfl rfl ?_
    show Steps p.tables e below (T101.setTop (mkF m 5 #[.val (.ref a1), .val (.ref a2)] [(.ref a2), (.int (own_sg v))])) _
    refine st102 _ ?_
    show Steps p.tables e below (T102.setTop (mkF m 8 #[.val (.ref a1), .val (.ref a2)] [(.int (own_sg w)), (.int (own_sg v))])) _
    refine XS.icmpYes X102.here hx rfl (pc0 := 8) (pc' := 58) rfl (hb hby d16_8) rfl (feq hc8).2 (by decide) (by decide) ?_
    show Steps p.tables e below (T102.setTop (mkF m 58 #[.val (.ref a1), .val (.ref a2)] [])) _
    refine XS.aloadN X102.here hx rfl (hb hby d16_58) rfl rfl ?_
    show Steps p.tables e below (T102.setTop (mkF m 59 #[.val (.ref a1), .val (.ref a2)] [(.ref a1)])) _
    refine st103 _ ?_
    show Steps p.tables e below (T103.setTop (mkF m 62 #[.val (.ref a1), .val (.ref a2)] [(.int (own_sg v))])) _
    refine XS.aloadN X103.here hx rfl (hb hby d16_62) rfl rfl ?_
    show Steps p.tables e below (T103.setTop (mkF m 63 #[.val (.ref a1), .val (.ref a2)] [(.ref a2), (.int (own_sg v))])) _
    refine st104 _ ?_
    show Steps p.tables e below (T104.setTop (mkF m 66 #[.val (.ref a1), .val (.ref a2)] [(.int (own_sg w)), (.int (own_sg v))])) _
    refine XS.icmpNo X104.here hx rfl (hb hby d16_66) rfl (tlt hc66).2.2.2 ?_
    show Steps p.tables e below (T104.setTop (mkF m 69 #[.val (.ref a1), .val (.ref a2)] [])) _
    refine XS.iconst X104.here hx rfl (hb hby d16_69) ?_
    show Steps p.tables e below (T104.setTop (mkF m 70 #[.val (.ref a1), .val (.ref a2)] [(.int (1 : Int32))])) _
    refine XS.goto X104.here hx rfl (pc0 := 70) (pc' := 74) rfl (hb hby d16_70) (by decide) (by decide) ?_
    show Steps p.tables e below (T104.setTop (mkF m 74 #[.val (.ref a1), .val (.ref a2)] [(.int (1 : Int32))])) _
    exact retI X104 hx Bd.returns (hb hby d16_74) hr
  · show Qs (some (.int (own_cmp v w))) h0 n0 _ T104.heap _
    rw [e104]
    exact ⟨by rw [hcr], N0, rfl⟩
set_option maxRecDepth 65536 in
set_option maxHeartbeats 40000000 in
theorem rmCmp_l (l : Launch) (Z : State) (a0 : Array Value) (hw : ∀ d ∈ tables_1, d.before a0 Z = true) (ws : List Jvm.Cond) (a1 : Addr) (a2 : Addr) (v : Int64) (w : Int64) (h0 : Heap) (n0 : Nat) (X00 : Old Z n0 h0) (B1 : Big Z h0 a1 v) (B2 : Big Z h0 a2 w) (hne : ¬ (own_sg v = own_sg w)) (hg : ¬ (own_sg w < own_sg v)) (hcr : own_cmp v w = -1) :
    MetFree l (⟨"java/math/BigInteger", "compareTo", "(Ljava/math/BigInteger;)I"⟩ : MethodName) (head1 (Jvm.Cond.code (⟨"java/math/BigInteger", "compareTo", "(Ljava/math/BigInteger;)I"⟩ : MethodName) jdk_2097_method_121_code 2 (some .int) :: ws) ({ frames := 1, cells := 0, slots := 0, locals := 20 } : Room)) (fun a U => a = #[(.ref a1), (.ref a2)] ∧ Z.Warmed39 U.vm ∧ U.heap = h0) (fun _ _ _ _ _ => True) (fun _ U o U' => ∃ rv rL, o = .returned rv ∧ Qs (some (.int (own_cmp v w))) h0 n0 rv U'.heap rL ∧ FrameEnd U o U' rL ({ frames := 1, cells := 0, slots := 0, locals := 20 } : Room).cells ({ frames := 1, cells := 0, slots := 0, locals := 20 } : Room).slots) := by
  refine MetFree.of_bodySF (plainFor_of_name pn_16) hisR ?_
  intro p e s m args below meth c s₁ Bd hml0 hP hK
  obtain ⟨rfl, hZ, hh⟩ := hP
  have hx := Bd.exec
  have hby := Bd.bytes
  have hml : c.maxLocals = 2 := hml0
  have hown : s.vm.findClass "java/math/BigInteger" = some m.cls := findClass_of_methodNamed Bd.named
  have hnm := (name_of_methodNamed Bd.named Bd.method).1
  have X0 : Stand p l e ({ frames := 1, cells := 0, slots := 0, locals := 20 } : Room) s m #[(.ref a1), (.ref a2)] below meth c s₁ [] 0 0 := Stand.of_body Bd
  have e0 : s₁.heap = h0 := by rw [← hh, Bd.state]; rfl
  have N0 := Fr.nil n0
  have pre0 : ∀ t, Steps p.tables e below (s₁.setTop (mkF m 0 #[.val (.ref a1), .val (.ref a2)] [])) t → Steps p.tables e below (s₁.setTop (entryFrame m #[(.ref a1), (.ref a2)] 2)) t := fun t k => castTop (ef_16 m a1 a2) k
  obtain ⟨T101, X101, e101, st101⟩ := getF X0 hx hZ hown (host := "") (Or.inl (hw _ (List.mem_of_getElem? (i := 47) rfl))) Via.refl e0 B1.2.1 (g := (mkF m 1 #[.val (.ref a1), .val (.ref a2)] [(.ref a1)])) rfl rfl (hb hby d16_1)
  obtain ⟨T102, X102, e102, st102⟩ := getF X101 hx hZ hown (host := "") (Or.inl (hw _ (List.mem_of_getElem? (i := 47) rfl))) Via.refl e101 B2.2.1 (g := (mkF m 5 #[.val (.ref a1), .val (.ref a2)] [(.ref a2), (.int (own_sg v))])) rfl rfl (hb hby d16_5)
  have hc8 : ¬ ((own_sg v) = (own_sg w)) := hne
  obtain ⟨T103, X103, e103, st103⟩ := getF X102 hx hZ hown (host := "") (Or.inl (hw _ (List.mem_of_getElem? (i := 47) rfl))) Via.refl e102 B1.2.1 (g := (mkF m 59 #[.val (.ref a1), .val (.ref a2)] [(.ref a1)])) rfl rfl (hb hby d16_59)
  obtain ⟨T104, X104, e104, st104⟩ := getF X103 hx hZ hown (host := "") (Or.inl (hw _ (List.mem_of_getElem? (i := 47) rfl))) Via.refl e103 B2.2.1 (g := (mkF m 63 #[.val (.ref a1), .val (.ref a2)] [(.ref a2), (.int (own_sg v))])) rfl rfl (hb hby d16_63)
  have hc66 : ¬ ((own_sg w) < (own_sg v)) := hg
  obtain ⟨fs, hr, hrun, hended, hW, hsame⟩ := X104.leave (v := some (.int (-1 : Int32))) (fun h => by rw [Bd.returns] at h; cases h)
  refine ⟨_, _, pre0 _ ?_, hrun, hended, _, _, rfl, ?_, ⟨_, rfl⟩, hW, hsame.mono (by decide) (by decide)⟩
  · show Steps p.tables e below (s₁.setTop (mkF m 0 #[.val (.ref a1), .val (.ref a2)] [])) _
    refine XS.aloadN X0.here hx rfl (hb hby d16_0) rfl rfl ?_
    show Steps p.tables e below (s₁.setTop (mkF m 1 #[.val (.ref a1), .val (.ref a2)] [(.ref a1)])) _
    refine st101 _ ?_
    show Steps p.tables e below (T101.setTop (mkF m 4 #[.val (.ref a1), .val (.ref a2)] [(.int (own_sg v))])) _
    refine XS.aloadN X101.here hx rfl (hb hby d16_4) rfl rfl ?_
    show Steps p.tables e below (T101.setTop (mkF m 5 #[.val (.ref a1), .val (.ref a2)] [(.ref a2), (.int (own_sg v))])) _
    refine st102 _ ?_
    show Steps p.tables e below (T102.setTop (mkF m 8 #[.val (.ref a1), .val (.ref a2)] [(.int (own_sg w)), (.int (own_sg v))])) _
    refine XS.icmpYes X102.here hx rfl (pc0 := 8) (pc' := 58) rfl (hb hby d16_8) rfl (feq hc8).2 (by decide) (by decide) ?_
    show Steps p.tables e below (T102.setTop (mkF m 58 #[.val (.ref a1), .val (.ref a2)] [])) _
    refine XS.aloadN X102.here hx rfl (hb hby d16_58) rfl rfl ?_
    show Steps p.tables e below (T102.setTop (mkF m 59 #[.val (.ref a1), .val (.ref a2)] [(.ref a1)])) _
    refine st103 _ ?_
    show Steps p.tables e below (T103.setTop (mkF m 62 #[.val (.ref a1), .val (.ref a2)] [(.int (own_sg v))])) _
    refine XS.aloadN X103.here hx rfl (hb hby d16_62) rfl rfl ?_
    show Steps p.tables e below (T103.setTop (mkF m 63 #[.val (.ref a1), .val (.ref a2)] [(.ref a2), (.int (own_sg v))])) _
    refine st104 _ ?_
    show Steps p.tables e below (T104.setTop (mkF m 66 #[.val (.ref a1), .val (.ref a2)] [(.int (own_sg w)), (.int (own_sg v))])) _
    refine XS.icmpYes X104.here hx rfl (pc0 := 66) (pc' := 73) rfl (hb hby d16_66) rfl (flt hc66).2.2.2 (by decide) (by decide) ?_
    show Steps p.tables e below (T104.setTop (mkF m 73 #[.val (.ref a1), .val (.ref a2)] [])) _
    refine XS.iconst X104.here hx rfl (hb hby d16_73) ?_
    show Steps p.tables e below (T104.setTop (mkF m 74 #[.val (.ref a1), .val (.ref a2)] [(.int (-1 : Int32))])) _
    exact retI X104 hx Bd.returns (hb hby d16_74) hr
  · show Qs (some (.int (own_cmp v w))) h0 n0 _ T104.heap _
    rw [e104]
    exact ⟨by rw [hcr], N0, rfl⟩
set_option maxRecDepth 65536 in
set_option maxHeartbeats 40000000 in
theorem rmCmp (l : Launch) (Z : State) (a0 : Array Value) (hw : ∀ d ∈ tables_1, d.before a0 Z = true) (ws : List Jvm.Cond) (a1 : Addr) (a2 : Addr) (v : Int64) (w : Int64) (h0 : Heap) (n0 : Nat) (X00 : Old Z n0 h0) (B1 : Big Z h0 a1 v) (B2 : Big Z h0 a2 w) :
    MetFree l (⟨"java/math/BigInteger", "compareTo", "(Ljava/math/BigInteger;)I"⟩ : MethodName) (head1 (Jvm.Cond.code (⟨"java/math/BigInteger", "compareTo", "(Ljava/math/BigInteger;)I"⟩ : MethodName) jdk_2097_method_121_code 2 (some .int) :: ws) ({ frames := 1, cells := 0, slots := 0, locals := 20 } : Room)) (fun a U => a = #[(.ref a1), (.ref a2)] ∧ Z.Warmed39 U.vm ∧ U.heap = h0) (fun _ _ _ _ _ => True) (fun _ U o U' => ∃ rv rL, o = .returned rv ∧ Qs (some (.int (own_cmp v w))) h0 n0 rv U'.heap rL ∧ FrameEnd U o U' rL ({ frames := 1, cells := 0, slots := 0, locals := 20 } : Room).cells ({ frames := 1, cells := 0, slots := 0, locals := 20 } : Room).slots) := by
  rcases own_tri v with a | a | a <;> rcases own_tri w with b | b | b
  · exact rmCmp_n l Z a0 hw ws a1 a2 v w h0 n0 X00 B1 B2 a.1 b.1 a.2 b.2
  · exact rmCmp_l l Z a0 hw ws a1 a2 v w h0 n0 X00 B1 B2 (by rw [a.2, b.2]; decide) (by rw [a.2, b.2]; decide) (own_cmpL (by rw [b.1]; exact a.1))
  · exact rmCmp_l l Z a0 hw ws a1 a2 v w h0 n0 X00 B1 B2 (by rw [a.2, b.2]; decide) (by rw [a.2, b.2]; decide) (own_cmpL (own_ltt a.1 b.1))
  · exact rmCmp_g l Z a0 hw ws a1 a2 v w h0 n0 X00 B1 B2 (by rw [a.2, b.2]; decide) (by rw [a.2, b.2]; decide) (own_cmpG (by rw [a.1]; exact b.1))
  · exact rmCmp_z l Z a0 hw ws a1 a2 v w h0 n0 X00 B1 B2 a.1 b.1 a.2 b.2
  · exact rmCmp_l l Z a0 hw ws a1 a2 v w h0 n0 X00 B1 B2 (by rw [a.2, b.2]; decide) (by rw [a.2, b.2]; decide) (own_cmpL (by rw [a.1]; exact b.1))
  · exact rmCmp_g l Z a0 hw ws a1 a2 v w h0 n0 X00 B1 B2 (by rw [a.2, b.2]; decide) (by rw [a.2, b.2]; decide) (own_cmpG (own_ltt b.1 a.1))
  · exact rmCmp_g l Z a0 hw ws a1 a2 v w h0 n0 X00 B1 B2 (by rw [a.2, b.2]; decide) (by rw [a.2, b.2]; decide) (own_cmpG (by rw [b.1]; exact a.1))
  · exact rmCmp_p l Z a0 hw ws a1 a2 v w h0 n0 X00 B1 B2 a.1 b.1 a.2 b.2
set_option maxRecDepth 65536 in
set_option maxHeartbeats 40000000 in
theorem rmRCm (l : Launch) (Z : State) (a0 : Array Value) (hw : ∀ d ∈ tables_1, d.before a0 Z = true) (ws : List Jvm.Cond) (a1 : Addr) (a2 : Addr) (v : Int64) (w : Int64) (h0 : Heap) (n0 : Nat) (X00 : Old Z n0 h0) (R1 : Rat Z h0 a1 v 1) (R2 : Rat Z h0 a2 w 1) :
    MetFree l (⟨"com/example/granica/granica/Rational", "compareTo", "(Lcom/example/granica/granica/Rational;)I"⟩ : MethodName) (head1 (Jvm.Cond.code (⟨"com/example/granica/granica/Rational", "compareTo", "(Lcom/example/granica/granica/Rational;)I"⟩ : MethodName) prog_30_method_33_code 4 (some .int) :: ws) ({ frames := 2, cells := 0, slots := 0, locals := 40 } : Room)) (fun a U => a = #[(.ref a1), (.ref a2)] ∧ Z.Warmed39 U.vm ∧ U.heap = h0) (fun _ _ _ _ _ => True) (fun _ U o U' => ∃ rv rL, o = .returned rv ∧ Qs (some (.int (own_cmp v w))) h0 n0 rv U'.heap rL ∧ FrameEnd U o U' rL ({ frames := 2, cells := 0, slots := 0, locals := 40 } : Room).cells ({ frames := 2, cells := 0, slots := 0, locals := 40 } : Room).slots) := by
  refine MetFree.of_bodySF (plainFor_of_name pn_15) hisR ?_
  intro p e s m args below meth c s₁ Bd hml0 hP hK
  obtain ⟨rfl, hZ, hh⟩ := hP
  have hx := Bd.exec
  have hby := Bd.bytes
  have hml : c.maxLocals = 4 := hml0
  have hown : s.vm.findClass "com/example/granica/granica/Rational" = some m.cls := findClass_of_methodNamed Bd.named
  have hnm := (name_of_methodNamed Bd.named Bd.method).1
  have X0 : Stand p l e ({ frames := 2, cells := 0, slots := 0, locals := 40 } : Room) s m #[(.ref a1), (.ref a2)] below meth c s₁ [] 0 0 := Stand.of_body Bd
  have e0 : s₁.heap = h0 := by rw [← hh, Bd.state]; rfl
  have N0 := Fr.nil n0
  have pre0 : ∀ t, Steps p.tables e below (s₁.setTop (mkF m 0 #[.val (.ref a1), .val (.ref a2), .unset, .unset] [])) t → Steps p.tables e below (s₁.setTop (entryFrame m #[(.ref a1), (.ref a2)] 4)) t := fun t k => castTop (ef_15 m a1 a2) k
  obtain ⟨E_a1, n_a1, d_a1, Fn_a1, Fd_a1, Bn_a1, Bd_a1⟩ := R1
  obtain ⟨E_a2, n_a2, d_a2, Fn_a2, Fd_a2, Bn_a2, Bd_a2⟩ := R2
  obtain ⟨T101, X101, e101, st101⟩ := getF X0 hx hZ hown (host := "") (Or.inl (hw _ (List.mem_of_getElem? (i := 21) rfl))) Via.refl e0 Fd_a1 (g := (mkF m 1 #[.val (.ref a1), .val (.ref a2), .unset, .unset] [(.ref a1)])) rfl rfl (hb hby d15_1)
  obtain ⟨T102, X102, e102, st102⟩ := getF X101 hx hZ hown (host := "") (Or.inl (hw _ (List.mem_of_getElem? (i := 21) rfl))) Via.refl e101 Fd_a2 (g := (mkF m 5 #[.val (.ref a1), .val (.ref a2), .unset, .unset] [(.ref a2), (.ref d_a1)])) rfl rfl (hb hby d15_5)
  obtain ⟨cq103, kq103, q103a, q103b, q103c⟩ := isOf hZ e102 Bd_a1.1
  obtain ⟨_, _, ⟨T103, L103, k103, n103⟩, -, X103, ⟨Lc103, hQ103, l103, y103, z103⟩, st103⟩ := X102.virtualBack hx (y := (⟨"java/math/BigInteger", "equals", "(Ljava/lang/Object;)Z"⟩ : MethodName)) (z := (⟨"java/math/BigInteger", "equals", "(Ljava/lang/Object;)Z"⟩ : MethodName)) hown (mvT hZ (hw _ (List.mem_of_getElem? (i := 52) rfl))) (mvT hZ (hw _ (List.mem_of_getElem? (i := 53) rfl))) (notFace_of_selects (args := #[]) (mvT hZ (hw _ (List.mem_of_getElem? (i := 55) rfl)))) (mvT hZ (hw _ (List.mem_of_getElem? (i := 55) rfl))) (mvT hZ (hw _ (List.mem_of_getElem? (i := 54) rfl))) (by decide) (backOf (W := 0) (rmEq l Z a0 hw [] d_a1 d_a2 1 h0 n0 X00 Bd_a1 Bd_a2) hZ (hw _ (List.mem_of_getElem? (i := 56) rfl)) (hw _ (List.mem_of_getElem? (i := 8) rfl)) (by decide) (by decide)) q103a q103c (g := (mkF m 8 #[.val (.ref a1), .val (.ref a2), .unset, .unset] [(.ref d_a2), (.ref d_a1)])) rfl (by rw [hml]; rfl) (Steps.refl _) (argsL := [(.ref d_a2)]) (rest := []) (lenOf pd_Ljava_lang_Object__Z rfl) rfl (by show 2 * 0 + _ ≤ _; exact Nat.le_of_eq rfl) (hb hby d15_8) (fun _ _ => ⟨rfl, e102, (by decide : 0 + 0 ≤ _), (by decide : 0 + 0 ≤ _)⟩)
  dsimp only [Pt.U, Pt.locs, Pt.cells, Pt.slots] at X103 l103 y103 z103 st103 hQ103
  subst l103 y103 z103
  obtain ⟨rfl, N103q, eq103⟩ := hQ103
  have N103 := Fr.app N0 N103q
  have hc11 : ¬ ((1 : Int32) = (0 : Int32)) := by decide
  obtain ⟨T104, X104, e104, st104⟩ := getF X103 hx hZ hown (host := "") (Or.inl (hw _ (List.mem_of_getElem? (i := 19) rfl))) Via.refl eq103 Fn_a1 (g := (mkF m 15 #[.val (.ref a1), .val (.ref a2), .unset, .unset] [(.ref a1)])) rfl rfl (hb hby d15_15)
  obtain ⟨T105, X105, e105, st105⟩ := getF X104 hx hZ hown (host := "") (Or.inl (hw _ (List.mem_of_getElem? (i := 19) rfl))) Via.refl e104 Fn_a2 (g := (mkF m 19 #[.val (.ref a1), .val (.ref a2), .unset, .unset] [(.ref a2), (.ref n_a1)])) rfl rfl (hb hby d15_19)
  obtain ⟨cq106, kq106, q106a, q106b, q106c⟩ := isOf hZ e105 Bn_a1.1
  obtain ⟨_, _, ⟨T106, L106, k106, n106⟩, -, X106, ⟨Lc106, hQ106, l106, y106, z106⟩, st106⟩ := X105.virtualBack hx (y := (⟨"java/math/BigInteger", "compareTo", "(Ljava/math/BigInteger;)I"⟩ : MethodName)) (z := (⟨"java/math/BigInteger", "compareTo", "(Ljava/math/BigInteger;)I"⟩ : MethodName)) hown (mvT hZ (hw _ (List.mem_of_getElem? (i := 82) rfl))) (mvT hZ (hw _ (List.mem_of_getElem? (i := 83) rfl))) (notFace_of_selects (args := #[]) (mvT hZ (hw _ (List.mem_of_getElem? (i := 85) rfl)))) (mvT hZ (hw _ (List.mem_of_getElem? (i := 85) rfl))) (mvT hZ (hw _ (List.mem_of_getElem? (i := 84) rfl))) (by decide) (backOf (W := 0) (rmCmp l Z a0 hw [] n_a1 n_a2 v w h0 n0 X00 Bn_a1 Bn_a2) hZ (hw _ (List.mem_of_getElem? (i := 86) rfl)) (hw _ (List.mem_of_getElem? (i := 8) rfl)) (by decide) (by decide)) q106a q106c (g := (mkF m 22 #[.val (.ref a1), .val (.ref a2), .unset, .unset] [(.ref n_a2), (.ref n_a1)])) rfl (by rw [hml]; rfl) (Steps.refl _) (argsL := [(.ref n_a2)]) (rest := []) (lenOf pd_Ljava_math_BigInteger__I rfl) rfl (by show 2 * 0 + _ ≤ _; exact Nat.le_of_eq rfl) (hb hby d15_22) (fun _ _ => ⟨rfl, e105, (by decide : 0 + 0 ≤ _), (by decide : 0 + 0 ≤ _)⟩)
  dsimp only [Pt.U, Pt.locs, Pt.cells, Pt.slots] at X106 l106 y106 z106 st106 hQ106
  subst l106 y106 z106
  obtain ⟨rfl, N106q, eq106⟩ := hQ106
  have N106 := Fr.app N103 N106q
  obtain ⟨fs, hr, hrun, hended, hW, hsame⟩ := X106.leave (v := some (.int (own_cmp v w))) (fun h => by rw [Bd.returns] at h; cases h)
  refine ⟨_, _, pre0 _ ?_, hrun, hended, _, _, rfl, ?_, ⟨_, rfl⟩, hW, hsame.mono (by decide) (by decide)⟩
  · show Steps p.tables e below (s₁.setTop (mkF m 0 #[.val (.ref a1), .val (.ref a2), .unset, .unset] [])) _
    refine XS.aloadN X0.here hx rfl (hb hby d15_0) rfl rfl ?_
    show Steps p.tables e below (s₁.setTop (mkF m 1 #[.val (.ref a1), .val (.ref a2), .unset, .unset] [(.ref a1)])) _
    refine st101 _ ?_
    show Steps p.tables e below (T101.setTop (mkF m 4 #[.val (.ref a1), .val (.ref a2), .unset, .unset] [(.ref d_a1)])) _
    refine XS.aloadN X101.here hx rfl (hb hby d15_4) rfl rfl ?_
    show Steps p.tables e below (T101.setTop (mkF m 5 #[.val (.ref a1), .val (.ref a2), .unset, .unset] [(.ref a2), (.ref d_a1)])) _
    refine st102 _ ?_
    show Steps p.tables e below (T102.setTop (mkF m 8 #[.val (.ref a1), .val (.ref a2), .unset, .unset] [(.ref d_a2), (.ref d_a1)])) _
    refine st103.trans ?_
    show Steps p.tables e below (T103.setTop (mkF m 11 #[.val (.ref a1), .val (.ref a2), .unset, .unset] [(.int (1 : Int32))])) _
    refine XS.ifNo X103.here hx rfl (hb hby d15_11) rfl ((if0 _ _).trans (feq hc11).1) ?_
    show Steps p.tables e below (T103.setTop (mkF m 14 #[.val (.ref a1), .val (.ref a2), .unset, .unset] [])) _
    refine XS.aloadN X103.here hx rfl (hb hby d15_14) rfl rfl ?_
    show Steps p.tables e below (T103.setTop (mkF m 15 #[.val (.ref a1), .val (.ref a2), .unset, .unset] [(.ref a1)])) _
    refine st104 _ ?_
    show Steps p.tables e below (T104.setTop (mkF m 18 #[.val (.ref a1), .val (.ref a2), .unset, .unset] [(.ref n_a1)])) _
    refine XS.aloadN X104.here hx rfl (hb hby d15_18) rfl rfl ?_
    show Steps p.tables e below (T104.setTop (mkF m 19 #[.val (.ref a1), .val (.ref a2), .unset, .unset] [(.ref a2), (.ref n_a1)])) _
    refine st105 _ ?_
    show Steps p.tables e below (T105.setTop (mkF m 22 #[.val (.ref a1), .val (.ref a2), .unset, .unset] [(.ref n_a2), (.ref n_a1)])) _
    refine st106.trans ?_
    show Steps p.tables e below (T106.setTop (mkF m 25 #[.val (.ref a1), .val (.ref a2), .unset, .unset] [(.int (own_cmp v w))])) _
    refine XS.istoreN X106.here hx rfl (hb hby d15_25) rfl (l' := #[.val (.ref a1), .val (.ref a2), .val (.int (own_cmp v w)), .unset]) rfl ?_
    show Steps p.tables e below (T106.setTop (mkF m 26 #[.val (.ref a1), .val (.ref a2), .val (.int (own_cmp v w)), .unset] [])) _
    refine XS.goto X106.here hx rfl (pc0 := 26) (pc' := 57) rfl (hb hby d15_26) (by decide) (by decide) ?_
    show Steps p.tables e below (T106.setTop (mkF m 57 #[.val (.ref a1), .val (.ref a2), .val (.int (own_cmp v w)), .unset] [])) _
    refine XS.iloadN X106.here hx rfl (hb hby d15_57) rfl ?_
    show Steps p.tables e below (T106.setTop (mkF m 58 #[.val (.ref a1), .val (.ref a2), .val (.int (own_cmp v w)), .unset] [(.int (own_cmp v w))])) _
    exact retI X106 hx Bd.returns (hb hby d15_58) hr
  · show Qs (some (.int (own_cmp v w))) h0 n0 _ T106.heap _
    rw [eq106]
    exact ⟨rfl, N106, rfl⟩
set_option maxRecDepth 65536 in
set_option maxHeartbeats 40000000 in
theorem rmSgn_n (l : Launch) (Z : State) (a0 : Array Value) (hw : ∀ d ∈ tables_1, d.before a0 Z = true) (ws : List Jvm.Cond) (q1 : Int64) (h0 : Heap) (n0 : Nat) (X00 : Old Z n0 h0) (hl : q1 < 0) :
    MetFree l (⟨"com/example/granica/granica/RationalValueOfPinLaw", "sign", "(J)I"⟩ : MethodName) (head1 (Jvm.Cond.code (⟨"com/example/granica/granica/RationalValueOfPinLaw", "sign", "(J)I"⟩ : MethodName) method_2_code 2 (some .int) :: ws) ({ frames := 0, cells := 0, slots := 0, locals := 0 } : Room)) (fun a U => a = #[(.long q1)] ∧ Z.Warmed39 U.vm ∧ U.heap = h0) (fun _ _ _ _ _ => True) (fun _ U o U' => ∃ rv rL, o = .returned rv ∧ Qs (some (.int (own_sg q1))) h0 n0 rv U'.heap rL ∧ FrameEnd U o U' rL ({ frames := 0, cells := 0, slots := 0, locals := 0 } : Room).cells ({ frames := 0, cells := 0, slots := 0, locals := 0 } : Room).slots) := by
  refine MetFree.of_bodySF (plainFor_of_name pn_14) hisR ?_
  intro p e s m args below meth c s₁ Bd hml0 hP hK
  obtain ⟨rfl, hZ, hh⟩ := hP
  have hx := Bd.exec
  have hby := Bd.bytes
  have hml : c.maxLocals = 2 := hml0
  have hown : s.vm.findClass "com/example/granica/granica/RationalValueOfPinLaw" = some m.cls := findClass_of_methodNamed Bd.named
  have hnm := (name_of_methodNamed Bd.named Bd.method).1
  have X0 : Stand p l e ({ frames := 0, cells := 0, slots := 0, locals := 0 } : Room) s m #[(.long q1)] below meth c s₁ [] 0 0 := Stand.of_body Bd
  have e0 : s₁.heap = h0 := by rw [← hh, Bd.state]; rfl
  have N0 := Fr.nil n0
  have pre0 : ∀ t, Steps p.tables e below (s₁.setTop (mkF m 0 #[.val (.long q1), .second] [])) t → Steps p.tables e below (s₁.setTop (entryFrame m #[(.long q1)] 2)) t := fun t k => castTop (ef_14 m q1) k
  have hc3 : (lcmpW q1 (0 : Int64)) < (0 : Int32) := (lw_lt q1 0).mpr hl
  obtain ⟨fs, hr, hrun, hended, hW, hsame⟩ := X0.leave (v := some (.int (-1 : Int32))) (fun h => by rw [Bd.returns] at h; cases h)
  refine ⟨_, _, pre0 _ ?_, hrun, hended, _, _, rfl, ?_, ⟨_, rfl⟩, hW, hsame.mono (by decide) (by decide)⟩
  · show Steps p.tables e below (s₁.setTop (mkF m 0 #[.val (.long q1), .second] [])) _
    refine XS.lloadN X0.here hx rfl (hb hby d14_0) rfl ?_
    show Steps p.tables e below (s₁.setTop (mkF m 1 #[.val (.long q1), .second] [(.long q1)])) _
    refine XS.lconst X0.here hx rfl (hb hby d14_1) ?_
    show Steps p.tables e below (s₁.setTop (mkF m 2 #[.val (.long q1), .second] [(.long (0 : Int64)), (.long q1)])) _
    refine XS.lcmp X0.here hx rfl (hb hby d14_2) rfl ?_
    show Steps p.tables e below (s₁.setTop (mkF m 3 #[.val (.long q1), .second] [(.int (lcmpW q1 (0 : Int64)))])) _
    refine XS.ifNo X0.here hx rfl (hb hby d14_3) rfl ((if0 _ _).trans (tlt hc3).2.1) ?_
    show Steps p.tables e below (s₁.setTop (mkF m 6 #[.val (.long q1), .second] [])) _
    refine XS.iconst X0.here hx rfl (hb hby d14_6) ?_
    show Steps p.tables e below (s₁.setTop (mkF m 7 #[.val (.long q1), .second] [(.int (-1 : Int32))])) _
    exact retI X0 hx Bd.returns (hb hby d14_7) hr
  · show Qs (some (.int (own_sg q1))) h0 n0 _ s₁.heap _
    rw [e0]
    exact ⟨by rw [own_sg, if_pos hl], N0, rfl⟩
set_option maxRecDepth 65536 in
set_option maxHeartbeats 40000000 in
theorem rmSgn_p (l : Launch) (Z : State) (a0 : Array Value) (hw : ∀ d ∈ tables_1, d.before a0 Z = true) (ws : List Jvm.Cond) (q1 : Int64) (h0 : Heap) (n0 : Nat) (X00 : Old Z n0 h0) (hl : ¬ q1 < 0) (hg : 0 < q1) :
    MetFree l (⟨"com/example/granica/granica/RationalValueOfPinLaw", "sign", "(J)I"⟩ : MethodName) (head1 (Jvm.Cond.code (⟨"com/example/granica/granica/RationalValueOfPinLaw", "sign", "(J)I"⟩ : MethodName) method_2_code 2 (some .int) :: ws) ({ frames := 0, cells := 0, slots := 0, locals := 0 } : Room)) (fun a U => a = #[(.long q1)] ∧ Z.Warmed39 U.vm ∧ U.heap = h0) (fun _ _ _ _ _ => True) (fun _ U o U' => ∃ rv rL, o = .returned rv ∧ Qs (some (.int (own_sg q1))) h0 n0 rv U'.heap rL ∧ FrameEnd U o U' rL ({ frames := 0, cells := 0, slots := 0, locals := 0 } : Room).cells ({ frames := 0, cells := 0, slots := 0, locals := 0 } : Room).slots) := by
  refine MetFree.of_bodySF (plainFor_of_name pn_14) hisR ?_
  intro p e s m args below meth c s₁ Bd hml0 hP hK
  obtain ⟨rfl, hZ, hh⟩ := hP
  have hx := Bd.exec
  have hby := Bd.bytes
  have hml : c.maxLocals = 2 := hml0
  have hown : s.vm.findClass "com/example/granica/granica/RationalValueOfPinLaw" = some m.cls := findClass_of_methodNamed Bd.named
  have hnm := (name_of_methodNamed Bd.named Bd.method).1
  have X0 : Stand p l e ({ frames := 0, cells := 0, slots := 0, locals := 0 } : Room) s m #[(.long q1)] below meth c s₁ [] 0 0 := Stand.of_body Bd
  have e0 : s₁.heap = h0 := by rw [← hh, Bd.state]; rfl
  have N0 := Fr.nil n0
  have pre0 : ∀ t, Steps p.tables e below (s₁.setTop (mkF m 0 #[.val (.long q1), .second] [])) t → Steps p.tables e below (s₁.setTop (entryFrame m #[(.long q1)] 2)) t := fun t k => castTop (ef_14 m q1) k
  have hc3 : ¬ ((lcmpW q1 (0 : Int64)) < (0 : Int32)) := fun q => hl ((lw_lt q1 0).mp q)
  have hc11 : (0 : Int32) < (lcmpW q1 (0 : Int64)) := (lw_gt q1 0).mpr hg
  obtain ⟨fs, hr, hrun, hended, hW, hsame⟩ := X0.leave (v := some (.int (1 : Int32))) (fun h => by rw [Bd.returns] at h; cases h)
  refine ⟨_, _, pre0 _ ?_, hrun, hended, _, _, rfl, ?_, ⟨_, rfl⟩, hW, hsame.mono (by decide) (by decide)⟩
  · show Steps p.tables e below (s₁.setTop (mkF m 0 #[.val (.long q1), .second] [])) _
    refine XS.lloadN X0.here hx rfl (hb hby d14_0) rfl ?_
    show Steps p.tables e below (s₁.setTop (mkF m 1 #[.val (.long q1), .second] [(.long q1)])) _
    refine XS.lconst X0.here hx rfl (hb hby d14_1) ?_
    show Steps p.tables e below (s₁.setTop (mkF m 2 #[.val (.long q1), .second] [(.long (0 : Int64)), (.long q1)])) _
    refine XS.lcmp X0.here hx rfl (hb hby d14_2) rfl ?_
    show Steps p.tables e below (s₁.setTop (mkF m 3 #[.val (.long q1), .second] [(.int (lcmpW q1 (0 : Int64)))])) _
    refine XS.ifYes X0.here hx rfl (pc0 := 3) (pc' := 8) rfl (hb hby d14_3) rfl ((if0 _ _).trans (flt hc3).2.1) (by decide) (by decide) ?_
    show Steps p.tables e below (s₁.setTop (mkF m 8 #[.val (.long q1), .second] [])) _
    refine XS.lloadN X0.here hx rfl (hb hby d14_8) rfl ?_
    show Steps p.tables e below (s₁.setTop (mkF m 9 #[.val (.long q1), .second] [(.long q1)])) _
    refine XS.lconst X0.here hx rfl (hb hby d14_9) ?_
    show Steps p.tables e below (s₁.setTop (mkF m 10 #[.val (.long q1), .second] [(.long (0 : Int64)), (.long q1)])) _
    refine XS.lcmp X0.here hx rfl (hb hby d14_10) rfl ?_
    show Steps p.tables e below (s₁.setTop (mkF m 11 #[.val (.long q1), .second] [(.int (lcmpW q1 (0 : Int64)))])) _
    refine XS.ifNo X0.here hx rfl (hb hby d14_11) rfl ((if0 _ _).trans (tlt hc11).2.2.2) ?_
    show Steps p.tables e below (s₁.setTop (mkF m 14 #[.val (.long q1), .second] [])) _
    refine XS.iconst X0.here hx rfl (hb hby d14_14) ?_
    show Steps p.tables e below (s₁.setTop (mkF m 15 #[.val (.long q1), .second] [(.int (1 : Int32))])) _
    exact retI X0 hx Bd.returns (hb hby d14_15) hr
  · show Qs (some (.int (own_sg q1))) h0 n0 _ s₁.heap _
    rw [e0]
    exact ⟨by rw [own_sg, if_neg hl, if_pos hg], N0, rfl⟩
set_option maxRecDepth 65536 in
set_option maxHeartbeats 40000000 in
theorem rmSgn_z (l : Launch) (Z : State) (a0 : Array Value) (hw : ∀ d ∈ tables_1, d.before a0 Z = true) (ws : List Jvm.Cond) (q1 : Int64) (h0 : Heap) (n0 : Nat) (X00 : Old Z n0 h0) (hl : ¬ q1 < 0) (hg : ¬ 0 < q1) :
    MetFree l (⟨"com/example/granica/granica/RationalValueOfPinLaw", "sign", "(J)I"⟩ : MethodName) (head1 (Jvm.Cond.code (⟨"com/example/granica/granica/RationalValueOfPinLaw", "sign", "(J)I"⟩ : MethodName) method_2_code 2 (some .int) :: ws) ({ frames := 0, cells := 0, slots := 0, locals := 0 } : Room)) (fun a U => a = #[(.long q1)] ∧ Z.Warmed39 U.vm ∧ U.heap = h0) (fun _ _ _ _ _ => True) (fun _ U o U' => ∃ rv rL, o = .returned rv ∧ Qs (some (.int (own_sg q1))) h0 n0 rv U'.heap rL ∧ FrameEnd U o U' rL ({ frames := 0, cells := 0, slots := 0, locals := 0 } : Room).cells ({ frames := 0, cells := 0, slots := 0, locals := 0 } : Room).slots) := by
  refine MetFree.of_bodySF (plainFor_of_name pn_14) hisR ?_
  intro p e s m args below meth c s₁ Bd hml0 hP hK
  obtain ⟨rfl, hZ, hh⟩ := hP
  have hx := Bd.exec
  have hby := Bd.bytes
  have hml : c.maxLocals = 2 := hml0
  have hown : s.vm.findClass "com/example/granica/granica/RationalValueOfPinLaw" = some m.cls := findClass_of_methodNamed Bd.named
  have hnm := (name_of_methodNamed Bd.named Bd.method).1
  have X0 : Stand p l e ({ frames := 0, cells := 0, slots := 0, locals := 0 } : Room) s m #[(.long q1)] below meth c s₁ [] 0 0 := Stand.of_body Bd
  have e0 : s₁.heap = h0 := by rw [← hh, Bd.state]; rfl
  have N0 := Fr.nil n0
  have pre0 : ∀ t, Steps p.tables e below (s₁.setTop (mkF m 0 #[.val (.long q1), .second] [])) t → Steps p.tables e below (s₁.setTop (entryFrame m #[(.long q1)] 2)) t := fun t k => castTop (ef_14 m q1) k
  have hc3 : ¬ ((lcmpW q1 (0 : Int64)) < (0 : Int32)) := fun q => hl ((lw_lt q1 0).mp q)
  have hc11 : ¬ ((0 : Int32) < (lcmpW q1 (0 : Int64))) := fun q => hg ((lw_gt q1 0).mp q)
  obtain ⟨fs, hr, hrun, hended, hW, hsame⟩ := X0.leave (v := some (.int (0 : Int32))) (fun h => by rw [Bd.returns] at h; cases h)
  refine ⟨_, _, pre0 _ ?_, hrun, hended, _, _, rfl, ?_, ⟨_, rfl⟩, hW, hsame.mono (by decide) (by decide)⟩
  · show Steps p.tables e below (s₁.setTop (mkF m 0 #[.val (.long q1), .second] [])) _
    refine XS.lloadN X0.here hx rfl (hb hby d14_0) rfl ?_
    show Steps p.tables e below (s₁.setTop (mkF m 1 #[.val (.long q1), .second] [(.long q1)])) _
    refine XS.lconst X0.here hx rfl (hb hby d14_1) ?_
    show Steps p.tables e below (s₁.setTop (mkF m 2 #[.val (.long q1), .second] [(.long (0 : Int64)), (.long q1)])) _
    refine XS.lcmp X0.here hx rfl (hb hby d14_2) rfl ?_
    show Steps p.tables e below (s₁.setTop (mkF m 3 #[.val (.long q1), .second] [(.int (lcmpW q1 (0 : Int64)))])) _
    refine XS.ifYes X0.here hx rfl (pc0 := 3) (pc' := 8) rfl (hb hby d14_3) rfl ((if0 _ _).trans (flt hc3).2.1) (by decide) (by decide) ?_
    show Steps p.tables e below (s₁.setTop (mkF m 8 #[.val (.long q1), .second] [])) _
    refine XS.lloadN X0.here hx rfl (hb hby d14_8) rfl ?_
    show Steps p.tables e below (s₁.setTop (mkF m 9 #[.val (.long q1), .second] [(.long q1)])) _
    refine XS.lconst X0.here hx rfl (hb hby d14_9) ?_
    show Steps p.tables e below (s₁.setTop (mkF m 10 #[.val (.long q1), .second] [(.long (0 : Int64)), (.long q1)])) _
    refine XS.lcmp X0.here hx rfl (hb hby d14_10) rfl ?_
    show Steps p.tables e below (s₁.setTop (mkF m 11 #[.val (.long q1), .second] [(.int (lcmpW q1 (0 : Int64)))])) _
    refine XS.ifYes X0.here hx rfl (pc0 := 11) (pc' := 16) rfl (hb hby d14_11) rfl ((if0 _ _).trans (flt hc11).2.2.2) (by decide) (by decide) ?_
    show Steps p.tables e below (s₁.setTop (mkF m 16 #[.val (.long q1), .second] [])) _
    refine XS.iconst X0.here hx rfl (hb hby d14_16) ?_
    show Steps p.tables e below (s₁.setTop (mkF m 17 #[.val (.long q1), .second] [(.int (0 : Int32))])) _
    exact retI X0 hx Bd.returns (hb hby d14_17) hr
  · show Qs (some (.int (own_sg q1))) h0 n0 _ s₁.heap _
    rw [e0]
    exact ⟨by rw [own_sg, if_neg hl, if_neg hg], N0, rfl⟩
set_option maxRecDepth 65536 in
set_option maxHeartbeats 40000000 in
theorem rmSgn (l : Launch) (Z : State) (a0 : Array Value) (hw : ∀ d ∈ tables_1, d.before a0 Z = true) (ws : List Jvm.Cond) (q1 : Int64) (h0 : Heap) (n0 : Nat) (X00 : Old Z n0 h0) :
    MetFree l (⟨"com/example/granica/granica/RationalValueOfPinLaw", "sign", "(J)I"⟩ : MethodName) (head1 (Jvm.Cond.code (⟨"com/example/granica/granica/RationalValueOfPinLaw", "sign", "(J)I"⟩ : MethodName) method_2_code 2 (some .int) :: ws) ({ frames := 0, cells := 0, slots := 0, locals := 0 } : Room)) (fun a U => a = #[(.long q1)] ∧ Z.Warmed39 U.vm ∧ U.heap = h0) (fun _ _ _ _ _ => True) (fun _ U o U' => ∃ rv rL, o = .returned rv ∧ Qs (some (.int (own_sg q1))) h0 n0 rv U'.heap rL ∧ FrameEnd U o U' rL ({ frames := 0, cells := 0, slots := 0, locals := 0 } : Room).cells ({ frames := 0, cells := 0, slots := 0, locals := 0 } : Room).slots) := by
  by_cases a : q1 < 0
  · exact rmSgn_n l Z a0 hw ws q1 h0 n0 X00 a
  · by_cases b : 0 < q1
    · exact rmSgn_p l Z a0 hw ws q1 h0 n0 X00 a b
    · exact rmSgn_z l Z a0 hw ws q1 h0 n0 X00 a b
set_option maxRecDepth 65536 in
set_option maxHeartbeats 40000000 in
theorem rmCpl_n (l : Launch) (Z : State) (a0 : Array Value) (hw : ∀ d ∈ tables_1, d.before a0 Z = true) (ws : List Jvm.Cond) (q1 : Int64) (q2 : Int64) (h0 : Heap) (n0 : Nat) (X00 : Old Z n0 h0) (hl : q1 < q2) :
    MetFree l (⟨"com/example/granica/granica/RationalValueOfPinLaw", "cmp", "(JJ)I"⟩ : MethodName) (head1 (Jvm.Cond.code (⟨"com/example/granica/granica/RationalValueOfPinLaw", "cmp", "(JJ)I"⟩ : MethodName) method_3_code 4 (some .int) :: ws) ({ frames := 0, cells := 0, slots := 0, locals := 0 } : Room)) (fun a U => a = #[(.long q1), (.long q2)] ∧ Z.Warmed39 U.vm ∧ U.heap = h0) (fun _ _ _ _ _ => True) (fun _ U o U' => ∃ rv rL, o = .returned rv ∧ Qs (some (.int (own_cmp q1 q2))) h0 n0 rv U'.heap rL ∧ FrameEnd U o U' rL ({ frames := 0, cells := 0, slots := 0, locals := 0 } : Room).cells ({ frames := 0, cells := 0, slots := 0, locals := 0 } : Room).slots) := by
  refine MetFree.of_bodySF (plainFor_of_name pn_18) hisR ?_
  intro p e s m args below meth c s₁ Bd hml0 hP hK
  obtain ⟨rfl, hZ, hh⟩ := hP
  have hx := Bd.exec
  have hby := Bd.bytes
  have hml : c.maxLocals = 4 := hml0
  have hown : s.vm.findClass "com/example/granica/granica/RationalValueOfPinLaw" = some m.cls := findClass_of_methodNamed Bd.named
  have hnm := (name_of_methodNamed Bd.named Bd.method).1
  have X0 : Stand p l e ({ frames := 0, cells := 0, slots := 0, locals := 0 } : Room) s m #[(.long q1), (.long q2)] below meth c s₁ [] 0 0 := Stand.of_body Bd
  have e0 : s₁.heap = h0 := by rw [← hh, Bd.state]; rfl
  have N0 := Fr.nil n0
  have pre0 : ∀ t, Steps p.tables e below (s₁.setTop (mkF m 0 #[.val (.long q1), .second, .val (.long q2), .second] [])) t → Steps p.tables e below (s₁.setTop (entryFrame m #[(.long q1), (.long q2)] 4)) t := fun t k => castTop (ef_18 m q1 q2) k
  have hc3 : (lcmpW q1 q2) < (0 : Int32) := (lw_lt q1 q2).mpr hl
  obtain ⟨fs, hr, hrun, hended, hW, hsame⟩ := X0.leave (v := some (.int (-1 : Int32))) (fun h => by rw [Bd.returns] at h; cases h)
  refine ⟨_, _, pre0 _ ?_, hrun, hended, _, _, rfl, ?_, ⟨_, rfl⟩, hW, hsame.mono (by decide) (by decide)⟩
  · show Steps p.tables e below (s₁.setTop (mkF m 0 #[.val (.long q1), .second, .val (.long q2), .second] [])) _
    refine XS.lloadN X0.here hx rfl (hb hby d18_0) rfl ?_
    show Steps p.tables e below (s₁.setTop (mkF m 1 #[.val (.long q1), .second, .val (.long q2), .second] [(.long q1)])) _
    refine XS.lloadN X0.here hx rfl (hb hby d18_1) rfl ?_
    show Steps p.tables e below (s₁.setTop (mkF m 2 #[.val (.long q1), .second, .val (.long q2), .second] [(.long q2), (.long q1)])) _
    refine XS.lcmp X0.here hx rfl (hb hby d18_2) rfl ?_
    show Steps p.tables e below (s₁.setTop (mkF m 3 #[.val (.long q1), .second, .val (.long q2), .second] [(.int (lcmpW q1 q2))])) _
    refine XS.ifNo X0.here hx rfl (hb hby d18_3) rfl ((if0 _ _).trans (tlt hc3).2.1) ?_
    show Steps p.tables e below (s₁.setTop (mkF m 6 #[.val (.long q1), .second, .val (.long q2), .second] [])) _
    refine XS.iconst X0.here hx rfl (hb hby d18_6) ?_
    show Steps p.tables e below (s₁.setTop (mkF m 7 #[.val (.long q1), .second, .val (.long q2), .second] [(.int (-1 : Int32))])) _
    exact retI X0 hx Bd.returns (hb hby d18_7) hr
  · show Qs (some (.int (own_cmp q1 q2))) h0 n0 _ s₁.heap _
    rw [e0]
    exact ⟨by rw [own_cmp, if_pos hl], N0, rfl⟩
set_option maxRecDepth 65536 in
set_option maxHeartbeats 40000000 in
theorem rmCpl_p (l : Launch) (Z : State) (a0 : Array Value) (hw : ∀ d ∈ tables_1, d.before a0 Z = true) (ws : List Jvm.Cond) (q1 : Int64) (q2 : Int64) (h0 : Heap) (n0 : Nat) (X00 : Old Z n0 h0) (hl : ¬ q1 < q2) (hg : q2 < q1) :
    MetFree l (⟨"com/example/granica/granica/RationalValueOfPinLaw", "cmp", "(JJ)I"⟩ : MethodName) (head1 (Jvm.Cond.code (⟨"com/example/granica/granica/RationalValueOfPinLaw", "cmp", "(JJ)I"⟩ : MethodName) method_3_code 4 (some .int) :: ws) ({ frames := 0, cells := 0, slots := 0, locals := 0 } : Room)) (fun a U => a = #[(.long q1), (.long q2)] ∧ Z.Warmed39 U.vm ∧ U.heap = h0) (fun _ _ _ _ _ => True) (fun _ U o U' => ∃ rv rL, o = .returned rv ∧ Qs (some (.int (own_cmp q1 q2))) h0 n0 rv U'.heap rL ∧ FrameEnd U o U' rL ({ frames := 0, cells := 0, slots := 0, locals := 0 } : Room).cells ({ frames := 0, cells := 0, slots := 0, locals := 0 } : Room).slots) := by
  refine MetFree.of_bodySF (plainFor_of_name pn_18) hisR ?_
  intro p e s m args below meth c s₁ Bd hml0 hP hK
  obtain ⟨rfl, hZ, hh⟩ := hP
  have hx := Bd.exec
  have hby := Bd.bytes
  have hml : c.maxLocals = 4 := hml0
  have hown : s.vm.findClass "com/example/granica/granica/RationalValueOfPinLaw" = some m.cls := findClass_of_methodNamed Bd.named
  have hnm := (name_of_methodNamed Bd.named Bd.method).1
  have X0 : Stand p l e ({ frames := 0, cells := 0, slots := 0, locals := 0 } : Room) s m #[(.long q1), (.long q2)] below meth c s₁ [] 0 0 := Stand.of_body Bd
  have e0 : s₁.heap = h0 := by rw [← hh, Bd.state]; rfl
  have N0 := Fr.nil n0
  have pre0 : ∀ t, Steps p.tables e below (s₁.setTop (mkF m 0 #[.val (.long q1), .second, .val (.long q2), .second] [])) t → Steps p.tables e below (s₁.setTop (entryFrame m #[(.long q1), (.long q2)] 4)) t := fun t k => castTop (ef_18 m q1 q2) k
  have hc3 : ¬ ((lcmpW q1 q2) < (0 : Int32)) := fun q => hl ((lw_lt q1 q2).mp q)
  have hc11 : (0 : Int32) < (lcmpW q1 q2) := (lw_gt q1 q2).mpr hg
  obtain ⟨fs, hr, hrun, hended, hW, hsame⟩ := X0.leave (v := some (.int (1 : Int32))) (fun h => by rw [Bd.returns] at h; cases h)
  refine ⟨_, _, pre0 _ ?_, hrun, hended, _, _, rfl, ?_, ⟨_, rfl⟩, hW, hsame.mono (by decide) (by decide)⟩
  · show Steps p.tables e below (s₁.setTop (mkF m 0 #[.val (.long q1), .second, .val (.long q2), .second] [])) _
    refine XS.lloadN X0.here hx rfl (hb hby d18_0) rfl ?_
    show Steps p.tables e below (s₁.setTop (mkF m 1 #[.val (.long q1), .second, .val (.long q2), .second] [(.long q1)])) _
    refine XS.lloadN X0.here hx rfl (hb hby d18_1) rfl ?_
    show Steps p.tables e below (s₁.setTop (mkF m 2 #[.val (.long q1), .second, .val (.long q2), .second] [(.long q2), (.long q1)])) _
    refine XS.lcmp X0.here hx rfl (hb hby d18_2) rfl ?_
    show Steps p.tables e below (s₁.setTop (mkF m 3 #[.val (.long q1), .second, .val (.long q2), .second] [(.int (lcmpW q1 q2))])) _
    refine XS.ifYes X0.here hx rfl (pc0 := 3) (pc' := 8) rfl (hb hby d18_3) rfl ((if0 _ _).trans (flt hc3).2.1) (by decide) (by decide) ?_
    show Steps p.tables e below (s₁.setTop (mkF m 8 #[.val (.long q1), .second, .val (.long q2), .second] [])) _
    refine XS.lloadN X0.here hx rfl (hb hby d18_8) rfl ?_
    show Steps p.tables e below (s₁.setTop (mkF m 9 #[.val (.long q1), .second, .val (.long q2), .second] [(.long q1)])) _
    refine XS.lloadN X0.here hx rfl (hb hby d18_9) rfl ?_
    show Steps p.tables e below (s₁.setTop (mkF m 10 #[.val (.long q1), .second, .val (.long q2), .second] [(.long q2), (.long q1)])) _
    refine XS.lcmp X0.here hx rfl (hb hby d18_10) rfl ?_
    show Steps p.tables e below (s₁.setTop (mkF m 11 #[.val (.long q1), .second, .val (.long q2), .second] [(.int (lcmpW q1 q2))])) _
    refine XS.ifNo X0.here hx rfl (hb hby d18_11) rfl ((if0 _ _).trans (tlt hc11).2.2.2) ?_
    show Steps p.tables e below (s₁.setTop (mkF m 14 #[.val (.long q1), .second, .val (.long q2), .second] [])) _
    refine XS.iconst X0.here hx rfl (hb hby d18_14) ?_
    show Steps p.tables e below (s₁.setTop (mkF m 15 #[.val (.long q1), .second, .val (.long q2), .second] [(.int (1 : Int32))])) _
    exact retI X0 hx Bd.returns (hb hby d18_15) hr
  · show Qs (some (.int (own_cmp q1 q2))) h0 n0 _ s₁.heap _
    rw [e0]
    exact ⟨by rw [own_cmp, if_neg hl, if_pos hg], N0, rfl⟩
set_option maxRecDepth 65536 in
set_option maxHeartbeats 40000000 in
theorem rmCpl_z (l : Launch) (Z : State) (a0 : Array Value) (hw : ∀ d ∈ tables_1, d.before a0 Z = true) (ws : List Jvm.Cond) (q1 : Int64) (q2 : Int64) (h0 : Heap) (n0 : Nat) (X00 : Old Z n0 h0) (hl : ¬ q1 < q2) (hg : ¬ q2 < q1) :
    MetFree l (⟨"com/example/granica/granica/RationalValueOfPinLaw", "cmp", "(JJ)I"⟩ : MethodName) (head1 (Jvm.Cond.code (⟨"com/example/granica/granica/RationalValueOfPinLaw", "cmp", "(JJ)I"⟩ : MethodName) method_3_code 4 (some .int) :: ws) ({ frames := 0, cells := 0, slots := 0, locals := 0 } : Room)) (fun a U => a = #[(.long q1), (.long q2)] ∧ Z.Warmed39 U.vm ∧ U.heap = h0) (fun _ _ _ _ _ => True) (fun _ U o U' => ∃ rv rL, o = .returned rv ∧ Qs (some (.int (own_cmp q1 q2))) h0 n0 rv U'.heap rL ∧ FrameEnd U o U' rL ({ frames := 0, cells := 0, slots := 0, locals := 0 } : Room).cells ({ frames := 0, cells := 0, slots := 0, locals := 0 } : Room).slots) := by
  refine MetFree.of_bodySF (plainFor_of_name pn_18) hisR ?_
  intro p e s m args below meth c s₁ Bd hml0 hP hK
  obtain ⟨rfl, hZ, hh⟩ := hP
  have hx := Bd.exec
  have hby := Bd.bytes
  have hml : c.maxLocals = 4 := hml0
  have hown : s.vm.findClass "com/example/granica/granica/RationalValueOfPinLaw" = some m.cls := findClass_of_methodNamed Bd.named
  have hnm := (name_of_methodNamed Bd.named Bd.method).1
  have X0 : Stand p l e ({ frames := 0, cells := 0, slots := 0, locals := 0 } : Room) s m #[(.long q1), (.long q2)] below meth c s₁ [] 0 0 := Stand.of_body Bd
  have e0 : s₁.heap = h0 := by rw [← hh, Bd.state]; rfl
  have N0 := Fr.nil n0
  have pre0 : ∀ t, Steps p.tables e below (s₁.setTop (mkF m 0 #[.val (.long q1), .second, .val (.long q2), .second] [])) t → Steps p.tables e below (s₁.setTop (entryFrame m #[(.long q1), (.long q2)] 4)) t := fun t k => castTop (ef_18 m q1 q2) k
  have hc3 : ¬ ((lcmpW q1 q2) < (0 : Int32)) := fun q => hl ((lw_lt q1 q2).mp q)
  have hc11 : ¬ ((0 : Int32) < (lcmpW q1 q2)) := fun q => hg ((lw_gt q1 q2).mp q)
  obtain ⟨fs, hr, hrun, hended, hW, hsame⟩ := X0.leave (v := some (.int (0 : Int32))) (fun h => by rw [Bd.returns] at h; cases h)
  refine ⟨_, _, pre0 _ ?_, hrun, hended, _, _, rfl, ?_, ⟨_, rfl⟩, hW, hsame.mono (by decide) (by decide)⟩
  · show Steps p.tables e below (s₁.setTop (mkF m 0 #[.val (.long q1), .second, .val (.long q2), .second] [])) _
    refine XS.lloadN X0.here hx rfl (hb hby d18_0) rfl ?_
    show Steps p.tables e below (s₁.setTop (mkF m 1 #[.val (.long q1), .second, .val (.long q2), .second] [(.long q1)])) _
    refine XS.lloadN X0.here hx rfl (hb hby d18_1) rfl ?_
    show Steps p.tables e below (s₁.setTop (mkF m 2 #[.val (.long q1), .second, .val (.long q2), .second] [(.long q2), (.long q1)])) _
    refine XS.lcmp X0.here hx rfl (hb hby d18_2) rfl ?_
    show Steps p.tables e below (s₁.setTop (mkF m 3 #[.val (.long q1), .second, .val (.long q2), .second] [(.int (lcmpW q1 q2))])) _
    refine XS.ifYes X0.here hx rfl (pc0 := 3) (pc' := 8) rfl (hb hby d18_3) rfl ((if0 _ _).trans (flt hc3).2.1) (by decide) (by decide) ?_
    show Steps p.tables e below (s₁.setTop (mkF m 8 #[.val (.long q1), .second, .val (.long q2), .second] [])) _
    refine XS.lloadN X0.here hx rfl (hb hby d18_8) rfl ?_
    show Steps p.tables e below (s₁.setTop (mkF m 9 #[.val (.long q1), .second, .val (.long q2), .second] [(.long q1)])) _
    refine XS.lloadN X0.here hx rfl (hb hby d18_9) rfl ?_
    show Steps p.tables e below (s₁.setTop (mkF m 10 #[.val (.long q1), .second, .val (.long q2), .second] [(.long q2), (.long q1)])) _
    refine XS.lcmp X0.here hx rfl (hb hby d18_10) rfl ?_
    show Steps p.tables e below (s₁.setTop (mkF m 11 #[.val (.long q1), .second, .val (.long q2), .second] [(.int (lcmpW q1 q2))])) _
    refine XS.ifYes X0.here hx rfl (pc0 := 11) (pc' := 16) rfl (hb hby d18_11) rfl ((if0 _ _).trans (flt hc11).2.2.2) (by decide) (by decide) ?_
    show Steps p.tables e below (s₁.setTop (mkF m 16 #[.val (.long q1), .second, .val (.long q2), .second] [])) _
    refine XS.iconst X0.here hx rfl (hb hby d18_16) ?_
    show Steps p.tables e below (s₁.setTop (mkF m 17 #[.val (.long q1), .second, .val (.long q2), .second] [(.int (0 : Int32))])) _
    exact retI X0 hx Bd.returns (hb hby d18_17) hr
  · show Qs (some (.int (own_cmp q1 q2))) h0 n0 _ s₁.heap _
    rw [e0]
    exact ⟨by rw [own_cmp, if_neg hl, if_neg hg], N0, rfl⟩
set_option maxRecDepth 65536 in
set_option maxHeartbeats 40000000 in
theorem rmCpl (l : Launch) (Z : State) (a0 : Array Value) (hw : ∀ d ∈ tables_1, d.before a0 Z = true) (ws : List Jvm.Cond) (q1 : Int64) (q2 : Int64) (h0 : Heap) (n0 : Nat) (X00 : Old Z n0 h0) :
    MetFree l (⟨"com/example/granica/granica/RationalValueOfPinLaw", "cmp", "(JJ)I"⟩ : MethodName) (head1 (Jvm.Cond.code (⟨"com/example/granica/granica/RationalValueOfPinLaw", "cmp", "(JJ)I"⟩ : MethodName) method_3_code 4 (some .int) :: ws) ({ frames := 0, cells := 0, slots := 0, locals := 0 } : Room)) (fun a U => a = #[(.long q1), (.long q2)] ∧ Z.Warmed39 U.vm ∧ U.heap = h0) (fun _ _ _ _ _ => True) (fun _ U o U' => ∃ rv rL, o = .returned rv ∧ Qs (some (.int (own_cmp q1 q2))) h0 n0 rv U'.heap rL ∧ FrameEnd U o U' rL ({ frames := 0, cells := 0, slots := 0, locals := 0 } : Room).cells ({ frames := 0, cells := 0, slots := 0, locals := 0 } : Room).slots) := by
  by_cases a : q1 < q2
  · exact rmCpl_n l Z a0 hw ws q1 q2 h0 n0 X00 a
  · by_cases b : q2 < q1
    · exact rmCpl_p l Z a0 hw ws q1 q2 h0 n0 X00 a b
    · exact rmCpl_z l Z a0 hw ws q1 q2 h0 n0 X00 a b
set_option maxRecDepth 65536 in
set_option maxHeartbeats 40000000 in
theorem rm0 (l : Launch) (Z : State) (a0 : Array Value) (hw : ∀ d ∈ tables_1, d.before a0 Z = true) (ws : List Jvm.Cond) (q1 : Int64) (q2 : Int64) (wo : Addr) (h0 : Heap) (n0 : Nat) (X00 : Old Z n0 h0) (S_o : Sta Z Z.heap BI "ONE" "Ljava/math/BigInteger;" (.ref wo)) (B_o : Big Z Z.heap wo 1) (C : Cache Z) :
    MetFree l x (head1 (Jvm.Cond.code x code maxLocals ret :: ws) room_1) (fun a U => a = #[(.long q1), (.long q2)] ∧ Z.Warmed39 U.vm ∧ U.heap = h0) (fun _ _ _ _ _ => True) (fun _ U o U' => ∃ rv rL, o = .returned rv ∧ Q0 h0 n0 rv U'.heap rL ∧ ReturnedEndW U o U' rL room_1.cells room_1.slots) := by
  refine MetFree.of_bodySF (plainFor_of_name pn_0) hisR ?_
  intro p e s m args below meth c s₁ Bd hml0 hP hK
  obtain ⟨rfl, hZ, hh⟩ := hP
  have hx := Bd.exec
  have hby := Bd.bytes
  have hml : c.maxLocals = 12 := hml0
  have hown : s.vm.findClass "com/example/granica/granica/RationalValueOfPinLaw" = some m.cls := findClass_of_methodNamed Bd.named
  have hnm := (name_of_methodNamed Bd.named Bd.method).1
  have X0 : Stand p l e room_1 (s.setVm s.vm) m #[(.long q1), (.long q2)] below meth c s₁ [] 0 0 := Stand.of_body Bd
  have e0 : s₁.heap = h0 := by rw [← hh, Bd.state]; rfl
  have N0 := Fr.nil n0
  have hS0 : s.Since s.vm s.heap.size := own_since s
  have hk0 : s.heap.size ≤ h0.size := by rw [hh]; exact Nat.le_refl _
  have hstr := own_str hw
  have pre0 : ∀ t, Steps p.tables e below (s₁.setTop (mkF m 0 #[.val (.long q1), .second, .val (.long q2), .second, .unset, .unset, .unset, .unset, .unset, .unset, .unset, .unset] [])) t → Steps p.tables e below (s₁.setTop (entryFrame m #[(.long q1), (.long q2)] maxLocals)) t := fun t k => castTop (ef_0 m q1 q2) k
  obtain ⟨_, _, ⟨T101, L101, k101, n101⟩, -, X101, ⟨Lc101, hQ101, l101, y101, z101⟩, st101⟩ := Jvm.LawKit.callS X0 hx (y := (⟨"com/example/granica/granica/Rational", "valueOf", "(J)Lcom/example/granica/granica/Rational;"⟩ : MethodName)) hown (mvT hZ (hw _ (List.mem_of_getElem? (i := 0) rfl))) (mvT hZ (hw _ (List.mem_of_getElem? (i := 1) rfl))) (mvT hZ (hw _ (List.mem_of_getElem? (i := 2) rfl))) (mvT hZ (hw _ (List.mem_of_getElem? (i := 3) rfl))) (by decide) (backOf (W := 0) (rmRV l Z a0 hw [] q1 wo h0 n0 X00 S_o B_o C) hZ (hw _ (List.mem_of_getElem? (i := 3) rfl)) (hw _ (List.mem_of_getElem? (i := 2) rfl)) (by decide) (by decide)) (g := (mkF m 1 #[.val (.long q1), .second, .val (.long q2), .second, .unset, .unset, .unset, .unset, .unset, .unset, .unset, .unset] [(.long q1)])) rfl (by rw [hml]; rfl) (argsL := [(.long q1)]) (rest := []) (lenOf pd_J_Lcom_example_granica_granica_Rational_ rfl) rfl (by show 2 * 0 + _ ≤ _; exact Nat.le_of_eq rfl) (hb hby at_1) (fun _ _ => ⟨rfl, e0, (by decide : 0 + 3 ≤ _), (by decide : 0 + 10 ≤ _)⟩)
  dsimp only [Pt.U, Pt.locs, Pt.cells, Pt.slots] at X101 l101 y101 z101 st101 hQ101
  subst l101 y101 z101
  obtain ⟨r101, rfl, N101q, Kc101, B101⟩ := hQ101
  have N101 := Fr.app N0 N101q
  have y102 := (X00.keep Kc101 all0)
  obtain ⟨_, _, ⟨T103, L103, k103, n103⟩, -, X103, ⟨Lc103, hQ103, l103, y103, z103⟩, st103⟩ := Jvm.LawKit.callS X101 hx (y := (⟨"com/example/granica/granica/Rational", "valueOf", "(J)Lcom/example/granica/granica/Rational;"⟩ : MethodName)) hown (mvT hZ (hw _ (List.mem_of_getElem? (i := 0) rfl))) (mvT hZ (hw _ (List.mem_of_getElem? (i := 1) rfl))) (mvT hZ (hw _ (List.mem_of_getElem? (i := 2) rfl))) (mvT hZ (hw _ (List.mem_of_getElem? (i := 3) rfl))) (by decide) (backOf (W := 0) (rmRV l Z a0 hw [] q2 wo T101.heap n0 y102 S_o B_o C) hZ (hw _ (List.mem_of_getElem? (i := 3) rfl)) (hw _ (List.mem_of_getElem? (i := 2) rfl)) (by decide) (by decide)) (g := (mkF m 7 #[.val (.long q1), .second, .val (.long q2), .second, .val (.ref r101), .unset, .unset, .unset, .unset, .unset, .unset, .unset] [(.long q2)])) rfl (by rw [hml]; rfl) (argsL := [(.long q2)]) (rest := []) (lenOf pd_J_Lcom_example_granica_granica_Rational_ rfl) rfl (by show 2 * 0 + _ ≤ _; exact Nat.le_of_eq rfl) (hb hby at_7) (fun _ _ => ⟨rfl, rfl, (by decide : 3 + 3 ≤ _), (by decide : 10 + 10 ≤ _)⟩)
  dsimp only [Pt.U, Pt.locs, Pt.cells, Pt.slots] at X103 l103 y103 z103 st103 hQ103
  subst l103 y103 z103
  obtain ⟨r103, rfl, N103q, Kc103, B103⟩ := hQ103
  have N103 := Fr.app N101 N103q
  have y104 := (y102.keep Kc103 all0)
  obtain ⟨_, _, ⟨T105, L105, k105, n105⟩, -, X105, hs105, hg105, ⟨Lc105, hQ105, l105, y105, z105⟩, st105⟩ := callSS X103 hx (y := (⟨"com/example/granica/granica/Rational", "valueOf", "(JJ)Lcom/example/granica/granica/Rational;"⟩ : MethodName)) hown (mvT hZ (hw _ (List.mem_of_getElem? (i := 23) rfl))) (mvT hZ (hw _ (List.mem_of_getElem? (i := 24) rfl))) (mvT hZ (hw _ (List.mem_of_getElem? (i := 2) rfl))) (mvT hZ (hw _ (List.mem_of_getElem? (i := 25) rfl))) (by decide) (backOfS (W := 0) (rmVJ l Z a0 hw [] q1 wo T103.heap n0 y104 S_o B_o C) hZ (hw _ (List.mem_of_getElem? (i := 25) rfl)) (hw _ (List.mem_of_getElem? (i := 2) rfl)) (by decide) (by decide)) (g := (mkF m 14 #[.val (.long q1), .second, .val (.long q2), .second, .val (.ref r101), .val (.ref r103), .unset, .unset, .unset, .unset, .unset, .unset] [(.long (1 : Int64)), (.long q1)])) rfl (by rw [hml]; rfl) (argsL := [(.long q1), (.long (1 : Int64))]) (rest := []) (lenOf pd_JJ_Lcom_example_granica_granica_Rational_ rfl) rfl (by show 2 * 0 + _ ≤ _; exact Nat.le_of_eq rfl) (hb hby at_14) (fun _ _ => ⟨rfl, rfl, (by decide : 6 + 9 ≤ _), (by decide : 20 + 106 ≤ _)⟩)
  dsimp only [Pt.U, Pt.locs, Pt.cells, Pt.slots] at X105 l105 y105 z105 st105 hQ105 hs105 hg105
  subst l105 y105 z105
  obtain ⟨r105, rfl, N105q, Kc105, B105⟩ := hQ105
  have N105 := Fr.app N103 N105q
  have y106 := (Nat.le_trans (Nat.le_trans hk0 Kc101.1) Kc103.1)
  obtain ⟨X105r, hS105, hZ105, hown105⟩ := rebS hS0 y106 X105 hs105 hg105 hZ hown
  have y107 := (y104.keep Kc105 all0)
  have y108 := (own_ratK (own_ratK B101 Kc103) Kc105)
  have y110 := ((B101.1.keep Kc103).keep Kc105)
  obtain ⟨cq109, kq109, q109a, q109b, q109c⟩ := isOf hZ105 rfl y110
  obtain ⟨_, _, ⟨T109, L109, k109, n109⟩, -, X109, ⟨Lc109, hQ109, l109, y109, z109⟩, st109⟩ := X105r.virtualBack hx (y := (⟨"com/example/granica/granica/Rational", "isFinite", "()Z"⟩ : MethodName)) (z := (⟨"com/example/granica/granica/Rational", "isFinite", "()Z"⟩ : MethodName)) hown105 (mvT hZ105 (hw _ (List.mem_of_getElem? (i := 57) rfl))) (mvT hZ105 (hw _ (List.mem_of_getElem? (i := 58) rfl))) (notFace_of_selects (args := #[]) (mvT hZ105 (hw _ (List.mem_of_getElem? (i := 60) rfl)))) (mvT hZ105 (hw _ (List.mem_of_getElem? (i := 60) rfl))) (mvT hZ105 (hw _ (List.mem_of_getElem? (i := 59) rfl))) (by decide) (backOf (W := 0) (rmFin l Z a0 hw [] r101 q1 T105.heap n0 y107 y108) hZ105 (hw _ (List.mem_of_getElem? (i := 61) rfl)) (hw _ (List.mem_of_getElem? (i := 2) rfl)) (by decide) (by decide)) q109a q109c (g := (mkF m 21 #[.val (.long q1), .second, .val (.long q2), .second, .val (.ref r101), .val (.ref r103), .val (.ref r105), .unset, .unset, .unset, .unset, .unset] [(.ref r101)])) rfl (by rw [hml]; rfl) (Steps.refl _) (argsL := []) (rest := []) (lenOf pd__Z rfl) rfl (by show 2 * 0 + _ ≤ _; exact Nat.le_of_eq rfl) (hb hby at_21) (fun _ _ => ⟨rfl, rfl, (by decide : 15 + 0 ≤ _), (by decide : 126 + 0 ≤ _)⟩)
  dsimp only [Pt.U, Pt.locs, Pt.cells, Pt.slots] at X109 l109 y109 z109 st109 hQ109
  subst l109 y109 z109
  obtain ⟨rfl, N109q, eq109⟩ := hQ109
  have N109 := Fr.app N105 N109q
  obtain ⟨cq111, kq111, q111a, q111b, q111c⟩ := isOf hZ105 eq109 y110
  obtain ⟨_, _, ⟨T111, L111, k111, n111⟩, -, X111, ⟨Lc111, hQ111, l111, y111, z111⟩, st111⟩ := X109.virtualBack hx (y := (⟨"com/example/granica/granica/Rational", "equals", "(Ljava/lang/Object;)Z"⟩ : MethodName)) (z := (⟨"com/example/granica/granica/Rational", "equals", "(Ljava/lang/Object;)Z"⟩ : MethodName)) hown105 (mvT hZ105 (hw _ (List.mem_of_getElem? (i := 62) rfl))) (mvT hZ105 (hw _ (List.mem_of_getElem? (i := 63) rfl))) (notFace_of_selects (args := #[]) (mvT hZ105 (hw _ (List.mem_of_getElem? (i := 65) rfl)))) (mvT hZ105 (hw _ (List.mem_of_getElem? (i := 65) rfl))) (mvT hZ105 (hw _ (List.mem_of_getElem? (i := 64) rfl))) (by decide) (backOf (W := 0) (rmREq l Z a0 hw [] r101 r105 q1 T105.heap n0 y107 y108 B105) hZ105 (hw _ (List.mem_of_getElem? (i := 66) rfl)) (hw _ (List.mem_of_getElem? (i := 2) rfl)) (by decide) (by decide)) q111a q111c (g := (mkF m 30 #[.val (.long q1), .second, .val (.long q2), .second, .val (.ref r101), .val (.ref r103), .val (.ref r105), .val (.int (1 : Int32)), .unset, .unset, .unset, .unset] [(.ref r105), (.ref r101)])) rfl (by rw [hml]; rfl) (Steps.refl _) (argsL := [(.ref r105)]) (rest := []) (lenOf pd_Ljava_lang_Object__Z rfl) rfl (by show 2 * 0 + _ ≤ _; exact Nat.le_of_eq rfl) (hb hby at_30) (fun _ _ => ⟨rfl, eq109, (by decide : 15 + 0 ≤ _), (by decide : 126 + 0 ≤ _)⟩)
  dsimp only [Pt.U, Pt.locs, Pt.cells, Pt.slots] at X111 l111 y111 z111 st111 hQ111
  subst l111 y111 z111
  obtain ⟨rfl, N111q, eq111⟩ := hQ111
  have N111 := Fr.app N109 N111q
  obtain ⟨cq112, kq112, q112a, q112b, q112c⟩ := isOf hZ105 eq111 y110
  obtain ⟨_, _, ⟨T112, L112, k112, n112⟩, -, X112, ⟨Lc112, hQ112, l112, y112, z112⟩, st112⟩ := X111.virtualBack hx (y := (⟨"com/example/granica/granica/Rational", "signum", "()I"⟩ : MethodName)) (z := (⟨"com/example/granica/granica/Rational", "signum", "()I"⟩ : MethodName)) hown105 (mvT hZ105 (hw _ (List.mem_of_getElem? (i := 68) rfl))) (mvT hZ105 (hw _ (List.mem_of_getElem? (i := 69) rfl))) (notFace_of_selects (args := #[]) (mvT hZ105 (hw _ (List.mem_of_getElem? (i := 71) rfl)))) (mvT hZ105 (hw _ (List.mem_of_getElem? (i := 71) rfl))) (mvT hZ105 (hw _ (List.mem_of_getElem? (i := 70) rfl))) (by decide) (backOf (W := 0) (rmRSg l Z a0 hw [] r101 q1 T105.heap n0 y107 y108) hZ105 (hw _ (List.mem_of_getElem? (i := 72) rfl)) (hw _ (List.mem_of_getElem? (i := 2) rfl)) (by decide) (by decide)) q112a q112c (g := (mkF m 37 #[.val (.long q1), .second, .val (.long q2), .second, .val (.ref r101), .val (.ref r103), .val (.ref r105), .val (.int (1 : Int32)), .val (.int (1 : Int32)), .unset, .unset, .unset] [(.ref r101)])) rfl (by rw [hml]; rfl) (Steps.refl _) (argsL := []) (rest := []) (lenOf pd__I rfl) rfl (by show 2 * 0 + _ ≤ _; exact Nat.le_of_eq rfl) (hb hby at_37) (fun _ _ => ⟨rfl, eq111, (by decide : 15 + 0 ≤ _), (by decide : 126 + 0 ≤ _)⟩)
  dsimp only [Pt.U, Pt.locs, Pt.cells, Pt.slots] at X112 l112 y112 z112 st112 hQ112
  subst l112 y112 z112
  obtain ⟨rfl, N112q, eq112⟩ := hQ112
  have N112 := Fr.app N111 N112q
  obtain ⟨_, _, ⟨T113, L113, k113, n113⟩, -, X113, ⟨Lc113, hQ113, l113, y113, z113⟩, st113⟩ := Jvm.LawKit.callS X112 hx (y := (⟨"com/example/granica/granica/RationalValueOfPinLaw", "sign", "(J)I"⟩ : MethodName)) hown105 (mvT hZ105 (hw _ (List.mem_of_getElem? (i := 73) rfl))) (mvT hZ105 (hw _ (List.mem_of_getElem? (i := 74) rfl))) (mvT hZ105 (hw _ (List.mem_of_getElem? (i := 75) rfl))) (mvT hZ105 (hw _ (List.mem_of_getElem? (i := 76) rfl))) (by decide) (backOf (W := 1) (rmSgn l Z a0 hw [] q1 T105.heap n0 y107) hZ105 (hw _ (List.mem_of_getElem? (i := 76) rfl)) (hw _ (List.mem_of_getElem? (i := 75) rfl)) (by decide) (by decide)) (g := (mkF m 41 #[.val (.long q1), .second, .val (.long q2), .second, .val (.ref r101), .val (.ref r103), .val (.ref r105), .val (.int (1 : Int32)), .val (.int (1 : Int32)), .unset, .unset, .unset] [(.long q1), (.int (own_sg q1))])) rfl (by rw [hml]; rfl) (argsL := [(.long q1)]) (rest := [(.int (own_sg q1))]) (lenOf pd_J_I rfl) rfl (by show 2 * 0 + _ ≤ _; exact Nat.le_of_eq rfl) (hb hby at_41) (fun _ _ => ⟨rfl, eq112, (by decide : 15 + 0 ≤ _), (by decide : 126 + 0 ≤ _)⟩)
  dsimp only [Pt.U, Pt.locs, Pt.cells, Pt.slots] at X113 l113 y113 z113 st113 hQ113
  subst l113 y113 z113
  obtain ⟨rfl, N113q, eq113⟩ := hQ113
  have N113 := Fr.app N112 N113q
  have y114 := (own_ratK B103 Kc105)
  obtain ⟨cq115, kq115, q115a, q115b, q115c⟩ := isOf hZ105 eq113 y110
  obtain ⟨_, _, ⟨T115, L115, k115, n115⟩, -, X115, ⟨Lc115, hQ115, l115, y115, z115⟩, st115⟩ := X113.virtualBack hx (y := (⟨"com/example/granica/granica/Rational", "compareTo", "(Lcom/example/granica/granica/Rational;)I"⟩ : MethodName)) (z := (⟨"com/example/granica/granica/Rational", "compareTo", "(Lcom/example/granica/granica/Rational;)I"⟩ : MethodName)) hown105 (mvT hZ105 (hw _ (List.mem_of_getElem? (i := 77) rfl))) (mvT hZ105 (hw _ (List.mem_of_getElem? (i := 78) rfl))) (notFace_of_selects (args := #[]) (mvT hZ105 (hw _ (List.mem_of_getElem? (i := 80) rfl)))) (mvT hZ105 (hw _ (List.mem_of_getElem? (i := 80) rfl))) (mvT hZ105 (hw _ (List.mem_of_getElem? (i := 79) rfl))) (by decide) (backOf (W := 0) (rmRCm l Z a0 hw [] r101 r103 q1 q2 T105.heap n0 y107 y108 y114) hZ105 (hw _ (List.mem_of_getElem? (i := 81) rfl)) (hw _ (List.mem_of_getElem? (i := 2) rfl)) (by decide) (by decide)) q115a q115c (g := (mkF m 58 #[.val (.long q1), .second, .val (.long q2), .second, .val (.ref r101), .val (.ref r103), .val (.ref r105), .val (.int (1 : Int32)), .val (.int (1 : Int32)), .val (.int (1 : Int32)), .unset, .unset] [(.ref r103), (.ref r101)])) rfl (by rw [hml]; rfl) (Steps.refl _) (argsL := [(.ref r103)]) (rest := []) (lenOf pd_Lcom_example_granica_granica_Rational__I rfl) rfl (by show 2 * 0 + _ ≤ _; exact Nat.le_of_eq rfl) (hb hby at_58) (fun _ _ => ⟨rfl, eq113, (by decide : 15 + 0 ≤ _), (by decide : 126 + 0 ≤ _)⟩)
  dsimp only [Pt.U, Pt.locs, Pt.cells, Pt.slots] at X115 l115 y115 z115 st115 hQ115
  subst l115 y115 z115
  obtain ⟨rfl, N115q, eq115⟩ := hQ115
  have N115 := Fr.app N113 N115q
  obtain ⟨_, _, ⟨T116, L116, k116, n116⟩, -, X116, ⟨Lc116, hQ116, l116, y116, z116⟩, st116⟩ := Jvm.LawKit.callS X115 hx (y := (⟨"com/example/granica/granica/RationalValueOfPinLaw", "sign", "(J)I"⟩ : MethodName)) hown105 (mvT hZ105 (hw _ (List.mem_of_getElem? (i := 73) rfl))) (mvT hZ105 (hw _ (List.mem_of_getElem? (i := 74) rfl))) (mvT hZ105 (hw _ (List.mem_of_getElem? (i := 75) rfl))) (mvT hZ105 (hw _ (List.mem_of_getElem? (i := 76) rfl))) (by decide) (backOf (W := 0) (rmSgn l Z a0 hw [] ((own_cmp q1 q2).toInt64) T105.heap n0 y107) hZ105 (hw _ (List.mem_of_getElem? (i := 76) rfl)) (hw _ (List.mem_of_getElem? (i := 75) rfl)) (by decide) (by decide)) (g := (mkF m 66 #[.val (.long q1), .second, .val (.long q2), .second, .val (.ref r101), .val (.ref r103), .val (.ref r105), .val (.int (1 : Int32)), .val (.int (1 : Int32)), .val (.int (1 : Int32)), .val (.int (own_cmp q1 q2)), .unset] [(.long ((own_cmp q1 q2).toInt64))])) rfl (by rw [hml]; rfl) (argsL := [(.long ((own_cmp q1 q2).toInt64))]) (rest := []) (lenOf pd_J_I rfl) rfl (by show 2 * 0 + _ ≤ _; exact Nat.le_of_eq rfl) (hb hby at_66) (fun _ _ => ⟨rfl, eq115, (by decide : 15 + 0 ≤ _), (by decide : 126 + 0 ≤ _)⟩)
  dsimp only [Pt.U, Pt.locs, Pt.cells, Pt.slots] at X116 l116 y116 z116 st116 hQ116
  subst l116 y116 z116
  obtain ⟨rfl, N116q, eq116⟩ := hQ116
  have N116 := Fr.app N115 N116q
  obtain ⟨_, _, ⟨T117, L117, k117, n117⟩, -, X117, ⟨Lc117, hQ117, l117, y117, z117⟩, st117⟩ := Jvm.LawKit.callS X116 hx (y := (⟨"com/example/granica/granica/RationalValueOfPinLaw", "cmp", "(JJ)I"⟩ : MethodName)) hown105 (mvT hZ105 (hw _ (List.mem_of_getElem? (i := 95) rfl))) (mvT hZ105 (hw _ (List.mem_of_getElem? (i := 96) rfl))) (mvT hZ105 (hw _ (List.mem_of_getElem? (i := 75) rfl))) (mvT hZ105 (hw _ (List.mem_of_getElem? (i := 97) rfl))) (by decide) (backOf (W := 1) (rmCpl l Z a0 hw [] q1 q2 T105.heap n0 y107) hZ105 (hw _ (List.mem_of_getElem? (i := 97) rfl)) (hw _ (List.mem_of_getElem? (i := 75) rfl)) (by decide) (by decide)) (g := (mkF m 71 #[.val (.long q1), .second, .val (.long q2), .second, .val (.ref r101), .val (.ref r103), .val (.ref r105), .val (.int (1 : Int32)), .val (.int (1 : Int32)), .val (.int (1 : Int32)), .val (.int (own_cmp q1 q2)), .unset] [(.long q2), (.long q1), (.int (own_sg ((own_cmp q1 q2).toInt64)))])) rfl (by rw [hml]; rfl) (argsL := [(.long q1), (.long q2)]) (rest := [(.int (own_sg ((own_cmp q1 q2).toInt64)))]) (lenOf pd_JJ_I rfl) rfl (by show 2 * 0 + _ ≤ _; exact Nat.le_of_eq rfl) (hb hby at_71) (fun _ _ => ⟨rfl, eq116, (by decide : 15 + 0 ≤ _), (by decide : 126 + 0 ≤ _)⟩)
  dsimp only [Pt.U, Pt.locs, Pt.cells, Pt.slots] at X117 l117 y117 z117 st117 hQ117
  subst l117 y117 z117
  obtain ⟨rfl, N117q, eq117⟩ := hQ117
  have N117 := Fr.app N116 N117q
  have hc74 : (own_sg ((own_cmp q1 q2).toInt64)) = (own_cmp q1 q2) := own_sgc q1 q2
  have hc86 : ¬ ((1 : Int32) = (0 : Int32)) := by decide
  have hc91 : ¬ ((1 : Int32) = (0 : Int32)) := by decide
  have hc96 : ¬ ((1 : Int32) = (0 : Int32)) := by decide
  have hc101 : ¬ ((1 : Int32) = (0 : Int32)) := by decide
  obtain ⟨fs, hr, hrun, hended, hRW⟩ := X117.leaveW hS105 (by rw [eq117]; exact (Nat.le_refl _)) (v := some (.int (1 : Int32))) (fun h => by rw [Bd.returns] at h; cases h)
  refine ⟨_, _, pre0 _ ?_, hrun, hended, _, _, rfl, ?_, hRW.1, hRW.2.1, hRW.2.2.1, hRW.2.2.2.mono (by decide) (by decide)⟩
  · show Steps p.tables e below (s₁.setTop (mkF m 0 #[.val (.long q1), .second, .val (.long q2), .second, .unset, .unset, .unset, .unset, .unset, .unset, .unset, .unset] [])) _
    refine XS.lloadN X0.here hx rfl (hb hby at_0) rfl ?_
    show Steps p.tables e below (s₁.setTop (mkF m 1 #[.val (.long q1), .second, .val (.long q2), .second, .unset, .unset, .unset, .unset, .unset, .unset, .unset, .unset] [(.long q1)])) _
    refine st101 _ ?_
    show Steps p.tables e below (T101.setTop (mkF m 4 #[.val (.long q1), .second, .val (.long q2), .second, .unset, .unset, .unset, .unset, .unset, .unset, .unset, .unset] [(.ref r101)])) _
    refine XS.astore X101.here hx rfl (hb hby at_4) rfl rfl (l' := #[.val (.long q1), .second, .val (.long q2), .second, .val (.ref r101), .unset, .unset, .unset, .unset, .unset, .unset, .unset]) rfl ?_
    show Steps p.tables e below (T101.setTop (mkF m 6 #[.val (.long q1), .second, .val (.long q2), .second, .val (.ref r101), .unset, .unset, .unset, .unset, .unset, .unset, .unset] [])) _
    refine XS.lloadN X101.here hx rfl (hb hby at_6) rfl ?_
    show Steps p.tables e below (T101.setTop (mkF m 7 #[.val (.long q1), .second, .val (.long q2), .second, .val (.ref r101), .unset, .unset, .unset, .unset, .unset, .unset, .unset] [(.long q2)])) _
    refine st103 _ ?_
    show Steps p.tables e below (T103.setTop (mkF m 10 #[.val (.long q1), .second, .val (.long q2), .second, .val (.ref r101), .unset, .unset, .unset, .unset, .unset, .unset, .unset] [(.ref r103)])) _
    refine XS.astore X103.here hx rfl (hb hby at_10) rfl rfl (l' := #[.val (.long q1), .second, .val (.long q2), .second, .val (.ref r101), .val (.ref r103), .unset, .unset, .unset, .unset, .unset, .unset]) rfl ?_
    show Steps p.tables e below (T103.setTop (mkF m 12 #[.val (.long q1), .second, .val (.long q2), .second, .val (.ref r101), .val (.ref r103), .unset, .unset, .unset, .unset, .unset, .unset] [])) _
    refine XS.lloadN X103.here hx rfl (hb hby at_12) rfl ?_
    show Steps p.tables e below (T103.setTop (mkF m 13 #[.val (.long q1), .second, .val (.long q2), .second, .val (.ref r101), .val (.ref r103), .unset, .unset, .unset, .unset, .unset, .unset] [(.long q1)])) _
    refine XS.lconst X103.here hx rfl (hb hby at_13) ?_
    show Steps p.tables e below (T103.setTop (mkF m 14 #[.val (.long q1), .second, .val (.long q2), .second, .val (.ref r101), .val (.ref r103), .unset, .unset, .unset, .unset, .unset, .unset] [(.long (1 : Int64)), (.long q1)])) _
    refine st105.trans ?_
    show Steps p.tables e below (T105.setTop (mkF m 17 #[.val (.long q1), .second, .val (.long q2), .second, .val (.ref r101), .val (.ref r103), .unset, .unset, .unset, .unset, .unset, .unset] [(.ref r105)])) _
    refine XS.astore X105r.here hx rfl (hb hby at_17) rfl rfl (l' := #[.val (.long q1), .second, .val (.long q2), .second, .val (.ref r101), .val (.ref r103), .val (.ref r105), .unset, .unset, .unset, .unset, .unset]) rfl ?_
    show Steps p.tables e below (T105.setTop (mkF m 19 #[.val (.long q1), .second, .val (.long q2), .second, .val (.ref r101), .val (.ref r103), .val (.ref r105), .unset, .unset, .unset, .unset, .unset] [])) _
    refine XS.aload X105r.here hx rfl (hb hby at_19) rfl rfl ?_
    show Steps p.tables e below (T105.setTop (mkF m 21 #[.val (.long q1), .second, .val (.long q2), .second, .val (.ref r101), .val (.ref r103), .val (.ref r105), .unset, .unset, .unset, .unset, .unset] [(.ref r101)])) _
    refine st109.trans ?_
    show Steps p.tables e below (T109.setTop (mkF m 24 #[.val (.long q1), .second, .val (.long q2), .second, .val (.ref r101), .val (.ref r103), .val (.ref r105), .unset, .unset, .unset, .unset, .unset] [(.int (1 : Int32))])) _
    refine XS.istore X109.here hx rfl (hb hby at_24) rfl (l' := #[.val (.long q1), .second, .val (.long q2), .second, .val (.ref r101), .val (.ref r103), .val (.ref r105), .val (.int (1 : Int32)), .unset, .unset, .unset, .unset]) rfl ?_
    show Steps p.tables e below (T109.setTop (mkF m 26 #[.val (.long q1), .second, .val (.long q2), .second, .val (.ref r101), .val (.ref r103), .val (.ref r105), .val (.int (1 : Int32)), .unset, .unset, .unset, .unset] [])) _
    refine XS.aload X109.here hx rfl (hb hby at_26) rfl rfl ?_
    show Steps p.tables e below (T109.setTop (mkF m 28 #[.val (.long q1), .second, .val (.long q2), .second, .val (.ref r101), .val (.ref r103), .val (.ref r105), .val (.int (1 : Int32)), .unset, .unset, .unset, .unset] [(.ref r101)])) _
    refine XS.aload X109.here hx rfl (hb hby at_28) rfl rfl ?_
    show Steps p.tables e below (T109.setTop (mkF m 30 #[.val (.long q1), .second, .val (.long q2), .second, .val (.ref r101), .val (.ref r103), .val (.ref r105), .val (.int (1 : Int32)), .unset, .unset, .unset, .unset] [(.ref r105), (.ref r101)])) _
    refine st111.trans ?_
    show Steps p.tables e below (T111.setTop (mkF m 33 #[.val (.long q1), .second, .val (.long q2), .second, .val (.ref r101), .val (.ref r103), .val (.ref r105), .val (.int (1 : Int32)), .unset, .unset, .unset, .unset] [(.int (1 : Int32))])) _
    refine XS.istore X111.here hx rfl (hb hby at_33) rfl (l' := #[.val (.long q1), .second, .val (.long q2), .second, .val (.ref r101), .val (.ref r103), .val (.ref r105), .val (.int (1 : Int32)), .val (.int (1 : Int32)), .unset, .unset, .unset]) rfl ?_
    show Steps p.tables e below (T111.setTop (mkF m 35 #[.val (.long q1), .second, .val (.long q2), .second, .val (.ref r101), .val (.ref r103), .val (.ref r105), .val (.int (1 : Int32)), .val (.int (1 : Int32)), .unset, .unset, .unset] [])) _
    refine XS.aload X111.here hx rfl (hb hby at_35) rfl rfl ?_
    show Steps p.tables e below (T111.setTop (mkF m 37 #[.val (.long q1), .second, .val (.long q2), .second, .val (.ref r101), .val (.ref r103), .val (.ref r105), .val (.int (1 : Int32)), .val (.int (1 : Int32)), .unset, .unset, .unset] [(.ref r101)])) _
    refine st112.trans ?_
    show Steps p.tables e below (T112.setTop (mkF m 40 #[.val (.long q1), .second, .val (.long q2), .second, .val (.ref r101), .val (.ref r103), .val (.ref r105), .val (.int (1 : Int32)), .val (.int (1 : Int32)), .unset, .unset, .unset] [(.int (own_sg q1))])) _
    refine XS.lloadN X112.here hx rfl (hb hby at_40) rfl ?_
    show Steps p.tables e below (T112.setTop (mkF m 41 #[.val (.long q1), .second, .val (.long q2), .second, .val (.ref r101), .val (.ref r103), .val (.ref r105), .val (.int (1 : Int32)), .val (.int (1 : Int32)), .unset, .unset, .unset] [(.long q1), (.int (own_sg q1))])) _
    refine st113 _ ?_
    show Steps p.tables e below (T113.setTop (mkF m 44 #[.val (.long q1), .second, .val (.long q2), .second, .val (.ref r101), .val (.ref r103), .val (.ref r105), .val (.int (1 : Int32)), .val (.int (1 : Int32)), .unset, .unset, .unset] [(.int (own_sg q1)), (.int (own_sg q1))])) _
    refine XS.icmpNo X113.here hx rfl (hb hby at_44) rfl (teq (rfl : (own_sg q1) = (own_sg q1))).2 ?_
    show Steps p.tables e below (T113.setTop (mkF m 47 #[.val (.long q1), .second, .val (.long q2), .second, .val (.ref r101), .val (.ref r103), .val (.ref r105), .val (.int (1 : Int32)), .val (.int (1 : Int32)), .unset, .unset, .unset] [])) _
    refine XS.iconst X113.here hx rfl (hb hby at_47) ?_
    show Steps p.tables e below (T113.setTop (mkF m 48 #[.val (.long q1), .second, .val (.long q2), .second, .val (.ref r101), .val (.ref r103), .val (.ref r105), .val (.int (1 : Int32)), .val (.int (1 : Int32)), .unset, .unset, .unset] [(.int (1 : Int32))])) _
    refine XS.goto X113.here hx rfl (pc0 := 48) (pc' := 52) rfl (hb hby at_48) (by decide) (by decide) ?_
    show Steps p.tables e below (T113.setTop (mkF m 52 #[.val (.long q1), .second, .val (.long q2), .second, .val (.ref r101), .val (.ref r103), .val (.ref r105), .val (.int (1 : Int32)), .val (.int (1 : Int32)), .unset, .unset, .unset] [(.int (1 : Int32))])) _
    refine XS.istore X113.here hx rfl (hb hby at_52) rfl (l' := #[.val (.long q1), .second, .val (.long q2), .second, .val (.ref r101), .val (.ref r103), .val (.ref r105), .val (.int (1 : Int32)), .val (.int (1 : Int32)), .val (.int (1 : Int32)), .unset, .unset]) rfl ?_
    show Steps p.tables e below (T113.setTop (mkF m 54 #[.val (.long q1), .second, .val (.long q2), .second, .val (.ref r101), .val (.ref r103), .val (.ref r105), .val (.int (1 : Int32)), .val (.int (1 : Int32)), .val (.int (1 : Int32)), .unset, .unset] [])) _
    refine XS.aload X113.here hx rfl (hb hby at_54) rfl rfl ?_
    show Steps p.tables e below (T113.setTop (mkF m 56 #[.val (.long q1), .second, .val (.long q2), .second, .val (.ref r101), .val (.ref r103), .val (.ref r105), .val (.int (1 : Int32)), .val (.int (1 : Int32)), .val (.int (1 : Int32)), .unset, .unset] [(.ref r101)])) _
    refine XS.aload X113.here hx rfl (hb hby at_56) rfl rfl ?_
    show Steps p.tables e below (T113.setTop (mkF m 58 #[.val (.long q1), .second, .val (.long q2), .second, .val (.ref r101), .val (.ref r103), .val (.ref r105), .val (.int (1 : Int32)), .val (.int (1 : Int32)), .val (.int (1 : Int32)), .unset, .unset] [(.ref r103), (.ref r101)])) _
    refine st115.trans ?_
    show Steps p.tables e below (T115.setTop (mkF m 61 #[.val (.long q1), .second, .val (.long q2), .second, .val (.ref r101), .val (.ref r103), .val (.ref r105), .val (.int (1 : Int32)), .val (.int (1 : Int32)), .val (.int (1 : Int32)), .unset, .unset] [(.int (own_cmp q1 q2))])) _
    refine XS.istore X115.here hx rfl (hb hby at_61) rfl (l' := #[.val (.long q1), .second, .val (.long q2), .second, .val (.ref r101), .val (.ref r103), .val (.ref r105), .val (.int (1 : Int32)), .val (.int (1 : Int32)), .val (.int (1 : Int32)), .val (.int (own_cmp q1 q2)), .unset]) rfl ?_
    show Steps p.tables e below (T115.setTop (mkF m 63 #[.val (.long q1), .second, .val (.long q2), .second, .val (.ref r101), .val (.ref r103), .val (.ref r105), .val (.int (1 : Int32)), .val (.int (1 : Int32)), .val (.int (1 : Int32)), .val (.int (own_cmp q1 q2)), .unset] [])) _
    refine XS.iload X115.here hx rfl (hb hby at_63) rfl ?_
    show Steps p.tables e below (T115.setTop (mkF m 65 #[.val (.long q1), .second, .val (.long q2), .second, .val (.ref r101), .val (.ref r103), .val (.ref r105), .val (.int (1 : Int32)), .val (.int (1 : Int32)), .val (.int (1 : Int32)), .val (.int (own_cmp q1 q2)), .unset] [(.int (own_cmp q1 q2))])) _
    refine XS.i2l X115.here hx rfl (hb hby at_65) rfl ?_
    show Steps p.tables e below (T115.setTop (mkF m 66 #[.val (.long q1), .second, .val (.long q2), .second, .val (.ref r101), .val (.ref r103), .val (.ref r105), .val (.int (1 : Int32)), .val (.int (1 : Int32)), .val (.int (1 : Int32)), .val (.int (own_cmp q1 q2)), .unset] [(.long ((own_cmp q1 q2).toInt64))])) _
    refine st116 _ ?_
    show Steps p.tables e below (T116.setTop (mkF m 69 #[.val (.long q1), .second, .val (.long q2), .second, .val (.ref r101), .val (.ref r103), .val (.ref r105), .val (.int (1 : Int32)), .val (.int (1 : Int32)), .val (.int (1 : Int32)), .val (.int (own_cmp q1 q2)), .unset] [(.int (own_sg ((own_cmp q1 q2).toInt64)))])) _
    refine XS.lloadN X116.here hx rfl (hb hby at_69) rfl ?_
    show Steps p.tables e below (T116.setTop (mkF m 70 #[.val (.long q1), .second, .val (.long q2), .second, .val (.ref r101), .val (.ref r103), .val (.ref r105), .val (.int (1 : Int32)), .val (.int (1 : Int32)), .val (.int (1 : Int32)), .val (.int (own_cmp q1 q2)), .unset] [(.long q1), (.int (own_sg ((own_cmp q1 q2).toInt64)))])) _
    refine XS.lloadN X116.here hx rfl (hb hby at_70) rfl ?_
    show Steps p.tables e below (T116.setTop (mkF m 71 #[.val (.long q1), .second, .val (.long q2), .second, .val (.ref r101), .val (.ref r103), .val (.ref r105), .val (.int (1 : Int32)), .val (.int (1 : Int32)), .val (.int (1 : Int32)), .val (.int (own_cmp q1 q2)), .unset] [(.long q2), (.long q1), (.int (own_sg ((own_cmp q1 q2).toInt64)))])) _
    refine st117 _ ?_
    show Steps p.tables e below (T117.setTop (mkF m 74 #[.val (.long q1), .second, .val (.long q2), .second, .val (.ref r101), .val (.ref r103), .val (.ref r105), .val (.int (1 : Int32)), .val (.int (1 : Int32)), .val (.int (1 : Int32)), .val (.int (own_cmp q1 q2)), .unset] [(.int (own_cmp q1 q2)), (.int (own_sg ((own_cmp q1 q2).toInt64)))])) _
    refine XS.icmpNo X117.here hx rfl (hb hby at_74) rfl (teq hc74).2 ?_
    show Steps p.tables e below (T117.setTop (mkF m 77 #[.val (.long q1), .second, .val (.long q2), .second, .val (.ref r101), .val (.ref r103), .val (.ref r105), .val (.int (1 : Int32)), .val (.int (1 : Int32)), .val (.int (1 : Int32)), .val (.int (own_cmp q1 q2)), .unset] [])) _
    refine XS.iconst X117.here hx rfl (hb hby at_77) ?_
    show Steps p.tables e below (T117.setTop (mkF m 78 #[.val (.long q1), .second, .val (.long q2), .second, .val (.ref r101), .val (.ref r103), .val (.ref r105), .val (.int (1 : Int32)), .val (.int (1 : Int32)), .val (.int (1 : Int32)), .val (.int (own_cmp q1 q2)), .unset] [(.int (1 : Int32))])) _
    refine XS.goto X117.here hx rfl (pc0 := 78) (pc' := 82) rfl (hb hby at_78) (by decide) (by decide) ?_
    show Steps p.tables e below (T117.setTop (mkF m 82 #[.val (.long q1), .second, .val (.long q2), .second, .val (.ref r101), .val (.ref r103), .val (.ref r105), .val (.int (1 : Int32)), .val (.int (1 : Int32)), .val (.int (1 : Int32)), .val (.int (own_cmp q1 q2)), .unset] [(.int (1 : Int32))])) _
    refine XS.istore X117.here hx rfl (hb hby at_82) rfl (l' := #[.val (.long q1), .second, .val (.long q2), .second, .val (.ref r101), .val (.ref r103), .val (.ref r105), .val (.int (1 : Int32)), .val (.int (1 : Int32)), .val (.int (1 : Int32)), .val (.int (own_cmp q1 q2)), .val (.int (1 : Int32))]) rfl ?_
    show Steps p.tables e below (T117.setTop (mkF m 84 #[.val (.long q1), .second, .val (.long q2), .second, .val (.ref r101), .val (.ref r103), .val (.ref r105), .val (.int (1 : Int32)), .val (.int (1 : Int32)), .val (.int (1 : Int32)), .val (.int (own_cmp q1 q2)), .val (.int (1 : Int32))] [])) _
    refine XS.iload X117.here hx rfl (hb hby at_84) rfl ?_
    show Steps p.tables e below (T117.setTop (mkF m 86 #[.val (.long q1), .second, .val (.long q2), .second, .val (.ref r101), .val (.ref r103), .val (.ref r105), .val (.int (1 : Int32)), .val (.int (1 : Int32)), .val (.int (1 : Int32)), .val (.int (own_cmp q1 q2)), .val (.int (1 : Int32))] [(.int (1 : Int32))])) _
    refine XS.ifNo X117.here hx rfl (hb hby at_86) rfl ((if0 _ _).trans (feq hc86).1) ?_
    show Steps p.tables e below (T117.setTop (mkF m 89 #[.val (.long q1), .second, .val (.long q2), .second, .val (.ref r101), .val (.ref r103), .val (.ref r105), .val (.int (1 : Int32)), .val (.int (1 : Int32)), .val (.int (1 : Int32)), .val (.int (own_cmp q1 q2)), .val (.int (1 : Int32))] [])) _
    refine XS.iload X117.here hx rfl (hb hby at_89) rfl ?_
    show Steps p.tables e below (T117.setTop (mkF m 91 #[.val (.long q1), .second, .val (.long q2), .second, .val (.ref r101), .val (.ref r103), .val (.ref r105), .val (.int (1 : Int32)), .val (.int (1 : Int32)), .val (.int (1 : Int32)), .val (.int (own_cmp q1 q2)), .val (.int (1 : Int32))] [(.int (1 : Int32))])) _
    refine XS.ifNo X117.here hx rfl (hb hby at_91) rfl ((if0 _ _).trans (feq hc91).1) ?_
    show Steps p.tables e below (T117.setTop (mkF m 94 #[.val (.long q1), .second, .val (.long q2), .second, .val (.ref r101), .val (.ref r103), .val (.ref r105), .val (.int (1 : Int32)), .val (.int (1 : Int32)), .val (.int (1 : Int32)), .val (.int (own_cmp q1 q2)), .val (.int (1 : Int32))] [])) _
    refine XS.iload X117.here hx rfl (hb hby at_94) rfl ?_
    show Steps p.tables e below (T117.setTop (mkF m 96 #[.val (.long q1), .second, .val (.long q2), .second, .val (.ref r101), .val (.ref r103), .val (.ref r105), .val (.int (1 : Int32)), .val (.int (1 : Int32)), .val (.int (1 : Int32)), .val (.int (own_cmp q1 q2)), .val (.int (1 : Int32))] [(.int (1 : Int32))])) _
    refine XS.ifNo X117.here hx rfl (hb hby at_96) rfl ((if0 _ _).trans (feq hc96).1) ?_
    show Steps p.tables e below (T117.setTop (mkF m 99 #[.val (.long q1), .second, .val (.long q2), .second, .val (.ref r101), .val (.ref r103), .val (.ref r105), .val (.int (1 : Int32)), .val (.int (1 : Int32)), .val (.int (1 : Int32)), .val (.int (own_cmp q1 q2)), .val (.int (1 : Int32))] [])) _
    refine XS.iload X117.here hx rfl (hb hby at_99) rfl ?_
    show Steps p.tables e below (T117.setTop (mkF m 101 #[.val (.long q1), .second, .val (.long q2), .second, .val (.ref r101), .val (.ref r103), .val (.ref r105), .val (.int (1 : Int32)), .val (.int (1 : Int32)), .val (.int (1 : Int32)), .val (.int (own_cmp q1 q2)), .val (.int (1 : Int32))] [(.int (1 : Int32))])) _
    refine XS.ifNo X117.here hx rfl (hb hby at_101) rfl ((if0 _ _).trans (feq hc101).1) ?_
    show Steps p.tables e below (T117.setTop (mkF m 104 #[.val (.long q1), .second, .val (.long q2), .second, .val (.ref r101), .val (.ref r103), .val (.ref r105), .val (.int (1 : Int32)), .val (.int (1 : Int32)), .val (.int (1 : Int32)), .val (.int (own_cmp q1 q2)), .val (.int (1 : Int32))] [])) _
    refine XS.iconst X117.here hx rfl (hb hby at_104) ?_
    show Steps p.tables e below (T117.setTop (mkF m 105 #[.val (.long q1), .second, .val (.long q2), .second, .val (.ref r101), .val (.ref r103), .val (.ref r105), .val (.int (1 : Int32)), .val (.int (1 : Int32)), .val (.int (1 : Int32)), .val (.int (own_cmp q1 q2)), .val (.int (1 : Int32))] [(.int (1 : Int32))])) _
    refine XS.goto X117.here hx rfl (pc0 := 105) (pc' := 109) rfl (hb hby at_105) (by decide) (by decide) ?_
    show Steps p.tables e below (T117.setTop (mkF m 109 #[.val (.long q1), .second, .val (.long q2), .second, .val (.ref r101), .val (.ref r103), .val (.ref r105), .val (.int (1 : Int32)), .val (.int (1 : Int32)), .val (.int (1 : Int32)), .val (.int (own_cmp q1 q2)), .val (.int (1 : Int32))] [(.int (1 : Int32))])) _
    exact retN X117 hx (t := .boolean) Bd.returns (by simp) (hb hby at_109) hr
  · show Q0 h0 n0 _ T117.heap _
    rw [eq117]
    exact ⟨rfl, N117⟩

theorem own_len {s : State} {args : Array Value} {t : Term} {b : Addr} {c : Cell} {ty : FieldType} {z : Int32} (et : t.eval args s none [] s = some (.ref b)) (A : Arr s s.heap b c ty) (h : (Term.length t).eval args s none [] s = some (.int z)) : c.slots.size < 2 ^ 31 ∧ c.slots.size.toInt32 = z := by
  have ha : s.arrayAt? b = some c := Arr.fin (Vm.Alike.refl _) A
  by_cases q : c.slots.size < 2 ^ 31
  · refine ⟨q, ?_⟩
    have := (len_f et ha q).symm.trans h
    simpa using this
  · simp [Term.eval, et, ha, q] at h
theorem own_bigW {s : State} (hf : Fit s) {args : Array Value} {t : Term} {a : Addr} {v : Int64} {sg n : Int32} {ms : List Int32} (et : t.eval args s none [] s = some (.ref a)) (hx : (Jvm.Cond.exactly t BI).value args s none s [] = some true)
    (hsg : (Jvm.Cond.eq (.field t BI "signum" "I") (.int sg)).value args s none s [] = some true) (hma : (Jvm.Cond.arrayOf (.field t BI "mag" "[I") .int).value args s none s [] = some true) (hlen : (Jvm.Cond.eq (.length (.field t BI "mag" "[I")) (.int n)).value args s none s [] = some true)
    (hv : own_sg v = sg) (hm : own_mg v = ms) (hn : n = Int32.ofNat ms.length) (hn0 : ¬ n < 0) (hn1 : n.toNatClampNeg = ms.length) (hel : ∀ (b : Addr) (c : Cell), (Term.field t BI "mag" "[I").eval args s none [] s = some (.ref b) → s.heap[b]? = some c → HasL c 0 (ms.map Value.int)) : Big s s.heap a v := by
  have es := eqv_i (Term.int_eval sg) hsg
  rw [fld_at et] at es
  obtain ⟨b, eb⟩ := arr_v hma
  obtain ⟨c, A⟩ := Arr.start eb hma
  obtain ⟨q1, q2⟩ := own_len eb A (eqv_i (Term.int_eval n) hlen)
  have H := hel b c eb A.1
  rw [fld_at et] at eb
  refine ⟨Exa.start et hx, ?_, b, c.cls, Fld.start eb, ?_⟩
  · rw [hv]; exact Fld.start es
  · rw [hm, ← hn]; exact Arv.start hf A q1 q2 hn0 (by rw [hn1, List.length_map]) H
theorem own_big1 {s : State} (hf : Fit s) {args : Array Value} {t : Term} {a : Addr} {v : Int64} {sg x : Int32} (et : t.eval args s none [] s = some (.ref a)) (hx : (Jvm.Cond.exactly t BI).value args s none s [] = some true)
    (hsg : (Jvm.Cond.eq (.field t BI "signum" "I") (.int sg)).value args s none s [] = some true) (hma : (Jvm.Cond.arrayOf (.field t BI "mag" "[I") .int).value args s none s [] = some true) (hlen : (Jvm.Cond.eq (.length (.field t BI "mag" "[I")) (.int 1)).value args s none s [] = some true)
    (hel : (Jvm.Cond.eq (.elem (.field t BI "mag" "[I") (.int 0)) (.int x)).value args s none s [] = some true) (hv : own_sg v = sg) (hm : own_mg v = [x]) : Big s s.heap a v :=
  own_bigW hf et hx hsg hma hlen hv hm rfl (by decide) rfl (fun b c eb hc => ⟨(elem_in (eqv_i (Term.int_eval x) hel) eb (Term.int_eval 0) hc).2, trivial⟩)
theorem own_elem {s : State} {args : Array Value} {t : Term} {a : Addr} {c : Cell} {i : Int32} {n : Nat} {C : String} (et : t.eval args s none [] s = some (.ref a)) (hc : s.heap[a]? = some c) (hx : (Jvm.Cond.exactly (.elem t (.int i)) C).value args s none s [] = some true) (hi : i.toNatClampNeg = n) : ∃ r : Addr, (Term.elem t (.int i)).eval args s none [] s = some (.ref r) ∧ c.slots[n]? = some (.ref r) := by
  obtain ⟨r, er⟩ := exa_v hx
  exact ⟨r, er, hi ▸ (elem_in er et (Term.int_eval i) hc).2⟩
theorem own_in17 {c : Cell} {j : Int32} (hs : c.slots.size.toInt32 = 17) (hq : c.slots.size < 2 ^ 31) (h0 : ¬ j < 0) (h1 : j.toNatClampNeg ≤ 16) : ¬ (j < 0 ∨ c.slots.size ≤ j.toNatClampNeg) := by
  have := congrArg Int32.toInt hs
  rw [len_toInt hq] at this
  have e : (17 : Int32).toInt = 17 := by decide
  rintro (q | q)
  · exact h0 q
  · omega
theorem own_16p (v : Int64) (h1 : 0 < v) (h2 : ¬ 16 < v) : v = 1 ∨ v = 2 ∨ v = 3 ∨ v = 4 ∨ v = 5 ∨ v = 6 ∨ v = 7 ∨ v = 8 ∨ v = 9 ∨ v = 10 ∨ v = 11 ∨ v = 12 ∨ v = 13 ∨ v = 14 ∨ v = 15 ∨ v = 16 := by
  rw [own_lt64] at h1 h2
  have a : (0 : Int64).toInt = 0 := by decide
  have b : (16 : Int64).toInt = 16 := by decide
  simp only [← Int64.toInt_inj]
  have : v.toInt = 1 ∨ v.toInt = 2 ∨ v.toInt = 3 ∨ v.toInt = 4 ∨ v.toInt = 5 ∨ v.toInt = 6 ∨ v.toInt = 7 ∨ v.toInt = 8 ∨ v.toInt = 9 ∨ v.toInt = 10 ∨ v.toInt = 11 ∨ v.toInt = 12 ∨ v.toInt = 13 ∨ v.toInt = 14 ∨ v.toInt = 15 ∨ v.toInt = 16 := by omega
  exact this
theorem own_16n (v : Int64) (h1 : v < 0) (h2 : ¬ v < -16) : v = -1 ∨ v = -2 ∨ v = -3 ∨ v = -4 ∨ v = -5 ∨ v = -6 ∨ v = -7 ∨ v = -8 ∨ v = -9 ∨ v = -10 ∨ v = -11 ∨ v = -12 ∨ v = -13 ∨ v = -14 ∨ v = -15 ∨ v = -16 := by
  rw [own_lt64] at h1 h2
  have a : (0 : Int64).toInt = 0 := by decide
  have b : (-16 : Int64).toInt = -16 := by decide
  simp only [← Int64.toInt_inj]
  have : v.toInt = -1 ∨ v.toInt = -2 ∨ v.toInt = -3 ∨ v.toInt = -4 ∨ v.toInt = -5 ∨ v.toInt = -6 ∨ v.toInt = -7 ∨ v.toInt = -8 ∨ v.toInt = -9 ∨ v.toInt = -10 ∨ v.toInt = -11 ∨ v.toInt = -12 ∨ v.toInt = -13 ∨ v.toInt = -14 ∨ v.toInt = -15 ∨ v.toInt = -16 := by omega
  exact this
set_option maxRecDepth 65536 in
set_option maxHeartbeats 40000000 in
theorem comes_1 {Post : Tables → Env → Array Value → State → Outcome → State → Prop} (hpost : ∀ tb e args s v u, (limb_1_1.after args s (.returned v) u = true ∧ limb_1_2.after args s (.returned v) u = true ∧ True) → ReturnedEndW s (.returned v) u (Jvm.fieldLocs frame_1_writes args s ++ Jvm.arrayLocs frame_1_arrays args s ++ Jvm.staticLocs frame_1_statics s) 32 2240 → Post tb e args s (.returned v) u) :
    ArmFor flags0 classFile x code maxLocals ret World_1 tables_1 room_1 Calls_1 rest_1 Pre_1 Post := by
  intro l hfl _ _ p e ha hc hk s m args below hf hA hF happ hP
  obtain ⟨hcalls, hrest, hpre⟩ := hP
  obtain ⟨-, -, -, hnamed, -, -, -, hat⟩ := (Spec.applies_iff hf).mp happ
  obtain ⟨hg, hn⟩ := and_e (Cond.before_iff.mp (show (Jvm.Cond.and given_1 narrow_1).before args s = true from hpre))
  obtain ⟨g13, g14⟩ := and_e hg
  obtain ⟨g15, g16⟩ := and_e g14
  obtain ⟨w0, w1, rfl⟩ : ∃ w0 w1 : Value, args = #[w0, w1] := by
    have hs : args.size = 2 := by simpa [Cond.value, given_1] using g13
    obtain ⟨L⟩ := args
    match L, hs with
    | [w0, w1], _ => exact ⟨w0, w1, rfl⟩
  have hw := fun d (hd : d ∈ tables_1) => atoms_spec (ws := Jvm.Cond.code x code maxLocals ret :: tables_1) hat d (List.mem_cons_of_mem _ hd)
  have hfit : Fit s := fun {y c} hc i hi => by
    obtain ⟨ha, rfl⟩ := Array.getElem?_eq_some_iff.mp hc
    have q := List.all_eq_true.mp ((Array.all_eq_true_iff_forall_mem.mp hF) _ (Array.getElem_mem ha)) i (List.mem_range.mpr hi)
    simpa [Array.getElem?_eq_getElem hi] using q
  obtain ⟨hsets, hown0⟩ := atoms_of _ (rest_1_c_eq ▸ (show rest_1_c.before _ s = true from hrest))
  have hr0 := Cond.before_iff.mp hown0
  obtain ⟨i0, ei0⟩ := isL_v g15
  obtain rfl : w0 = (.long i0) := Option.some.inj ei0
  obtain ⟨i1, ei1⟩ := isL_v g16
  obtain rfl : w1 = (.long i1) := Option.some.inj ei1
  obtain ⟨wz, ez⟩ := exa_v (Cond.before_iff.mp (hsets _ (List.mem_of_getElem? (i := 224) rfl)))
  have S_z : Sta s s.heap BI "ZERO" "Ljava/math/BigInteger;" (.ref wz) := Sta.start ez (Or.inl (hsets _ (List.mem_of_getElem? (i := 223) rfl)))
  have B_z : Big s s.heap wz 0 := own_bigW hfit ez (Cond.before_iff.mp (hsets _ (List.mem_of_getElem? (i := 224) rfl))) (Cond.before_iff.mp (hsets _ (List.mem_of_getElem? (i := 225) rfl))) (Cond.before_iff.mp (hsets _ (List.mem_of_getElem? (i := 226) rfl))) (Cond.before_iff.mp (hsets _ (List.mem_of_getElem? (i := 228) rfl))) (by decide) (by decide : own_mg 0 = []) (by decide) (by decide) (by decide) (fun _ _ _ _ => trivial)
  obtain ⟨wo, eo⟩ := exa_v (Cond.before_iff.mp (hsets _ (List.mem_of_getElem? (i := 112) rfl)))
  have S_o : Sta s s.heap BI "ONE" "Ljava/math/BigInteger;" (.ref wo) := Sta.start eo (Or.inl (hsets _ (List.mem_of_getElem? (i := 3) rfl)))
  have B_o : Big s s.heap wo 1 := own_big1 hfit eo (Cond.before_iff.mp (hsets _ (List.mem_of_getElem? (i := 112) rfl))) (Cond.before_iff.mp (hsets _ (List.mem_of_getElem? (i := 113) rfl))) (Cond.before_iff.mp (hsets _ (List.mem_of_getElem? (i := 114) rfl))) (Cond.before_iff.mp (hsets _ (List.mem_of_getElem? (i := 116) rfl))) (Cond.before_iff.mp (hsets _ (List.mem_of_getElem? (i := 117) rfl))) (by decide) (by decide)
  obtain ⟨wp, ep⟩ := arr_v (Cond.before_iff.mp (hsets _ (List.mem_of_getElem? (i := 8) rfl)))
  obtain ⟨cp, A_p⟩ := Arr.start ep (Cond.before_iff.mp (hsets _ (List.mem_of_getElem? (i := 8) rfl)))
  have S_p : Sta s s.heap BI "posConst" "[Ljava/math/BigInteger;" (.ref wp) := Sta.start ep (Or.inl (hsets _ (List.mem_of_getElem? (i := 1) rfl)))
  obtain ⟨qp1, qp2⟩ := own_len ep A_p (eqv_i (Term.int_eval 17) (Cond.before_iff.mp (hsets _ (List.mem_of_getElem? (i := 10) rfl))))
  obtain ⟨rp1, erp1, hrp1⟩ := own_elem (n := 1) ep A_p.1 (Cond.before_iff.mp (hsets _ (List.mem_of_getElem? (i := 12) rfl))) (by decide)
  have Bp1 : Big s s.heap rp1 1 := own_big1 hfit erp1 (Cond.before_iff.mp (hsets _ (List.mem_of_getElem? (i := 12) rfl))) (Cond.before_iff.mp (hsets _ (List.mem_of_getElem? (i := 13) rfl))) (Cond.before_iff.mp (hsets _ (List.mem_of_getElem? (i := 14) rfl))) (Cond.before_iff.mp (hsets _ (List.mem_of_getElem? (i := 16) rfl))) (Cond.before_iff.mp (hsets _ (List.mem_of_getElem? (i := 17) rfl))) (by decide) (by decide)
  obtain ⟨rp2, erp2, hrp2⟩ := own_elem (n := 2) ep A_p.1 (Cond.before_iff.mp (hsets _ (List.mem_of_getElem? (i := 19) rfl))) (by decide)
  have Bp2 : Big s s.heap rp2 2 := own_big1 hfit erp2 (Cond.before_iff.mp (hsets _ (List.mem_of_getElem? (i := 19) rfl))) (Cond.before_iff.mp (hsets _ (List.mem_of_getElem? (i := 20) rfl))) (Cond.before_iff.mp (hsets _ (List.mem_of_getElem? (i := 21) rfl))) (Cond.before_iff.mp (hsets _ (List.mem_of_getElem? (i := 23) rfl))) (Cond.before_iff.mp (hsets _ (List.mem_of_getElem? (i := 24) rfl))) (by decide) (by decide)
  obtain ⟨rp3, erp3, hrp3⟩ := own_elem (n := 3) ep A_p.1 (Cond.before_iff.mp (hsets _ (List.mem_of_getElem? (i := 25) rfl))) (by decide)
  have Bp3 : Big s s.heap rp3 3 := own_big1 hfit erp3 (Cond.before_iff.mp (hsets _ (List.mem_of_getElem? (i := 25) rfl))) (Cond.before_iff.mp (hsets _ (List.mem_of_getElem? (i := 26) rfl))) (Cond.before_iff.mp (hsets _ (List.mem_of_getElem? (i := 27) rfl))) (Cond.before_iff.mp (hsets _ (List.mem_of_getElem? (i := 29) rfl))) (Cond.before_iff.mp (hsets _ (List.mem_of_getElem? (i := 30) rfl))) (by decide) (by decide)
  obtain ⟨rp4, erp4, hrp4⟩ := own_elem (n := 4) ep A_p.1 (Cond.before_iff.mp (hsets _ (List.mem_of_getElem? (i := 31) rfl))) (by decide)
  have Bp4 : Big s s.heap rp4 4 := own_big1 hfit erp4 (Cond.before_iff.mp (hsets _ (List.mem_of_getElem? (i := 31) rfl))) (Cond.before_iff.mp (hsets _ (List.mem_of_getElem? (i := 32) rfl))) (Cond.before_iff.mp (hsets _ (List.mem_of_getElem? (i := 33) rfl))) (Cond.before_iff.mp (hsets _ (List.mem_of_getElem? (i := 35) rfl))) (Cond.before_iff.mp (hsets _ (List.mem_of_getElem? (i := 36) rfl))) (by decide) (by decide)
  obtain ⟨rp5, erp5, hrp5⟩ := own_elem (n := 5) ep A_p.1 (Cond.before_iff.mp (hsets _ (List.mem_of_getElem? (i := 37) rfl))) (by decide)
  have Bp5 : Big s s.heap rp5 5 := own_big1 hfit erp5 (Cond.before_iff.mp (hsets _ (List.mem_of_getElem? (i := 37) rfl))) (Cond.before_iff.mp (hsets _ (List.mem_of_getElem? (i := 38) rfl))) (Cond.before_iff.mp (hsets _ (List.mem_of_getElem? (i := 39) rfl))) (Cond.before_iff.mp (hsets _ (List.mem_of_getElem? (i := 41) rfl))) (Cond.before_iff.mp (hsets _ (List.mem_of_getElem? (i := 42) rfl))) (by decide) (by decide)
  obtain ⟨rp6, erp6, hrp6⟩ := own_elem (n := 6) ep A_p.1 (Cond.before_iff.mp (hsets _ (List.mem_of_getElem? (i := 43) rfl))) (by decide)
  have Bp6 : Big s s.heap rp6 6 := own_big1 hfit erp6 (Cond.before_iff.mp (hsets _ (List.mem_of_getElem? (i := 43) rfl))) (Cond.before_iff.mp (hsets _ (List.mem_of_getElem? (i := 44) rfl))) (Cond.before_iff.mp (hsets _ (List.mem_of_getElem? (i := 45) rfl))) (Cond.before_iff.mp (hsets _ (List.mem_of_getElem? (i := 47) rfl))) (Cond.before_iff.mp (hsets _ (List.mem_of_getElem? (i := 48) rfl))) (by decide) (by decide)
  obtain ⟨rp7, erp7, hrp7⟩ := own_elem (n := 7) ep A_p.1 (Cond.before_iff.mp (hsets _ (List.mem_of_getElem? (i := 49) rfl))) (by decide)
  have Bp7 : Big s s.heap rp7 7 := own_big1 hfit erp7 (Cond.before_iff.mp (hsets _ (List.mem_of_getElem? (i := 49) rfl))) (Cond.before_iff.mp (hsets _ (List.mem_of_getElem? (i := 50) rfl))) (Cond.before_iff.mp (hsets _ (List.mem_of_getElem? (i := 51) rfl))) (Cond.before_iff.mp (hsets _ (List.mem_of_getElem? (i := 53) rfl))) (Cond.before_iff.mp (hsets _ (List.mem_of_getElem? (i := 54) rfl))) (by decide) (by decide)
  obtain ⟨rp8, erp8, hrp8⟩ := own_elem (n := 8) ep A_p.1 (Cond.before_iff.mp (hsets _ (List.mem_of_getElem? (i := 55) rfl))) (by decide)
  have Bp8 : Big s s.heap rp8 8 := own_big1 hfit erp8 (Cond.before_iff.mp (hsets _ (List.mem_of_getElem? (i := 55) rfl))) (Cond.before_iff.mp (hsets _ (List.mem_of_getElem? (i := 56) rfl))) (Cond.before_iff.mp (hsets _ (List.mem_of_getElem? (i := 57) rfl))) (Cond.before_iff.mp (hsets _ (List.mem_of_getElem? (i := 59) rfl))) (Cond.before_iff.mp (hsets _ (List.mem_of_getElem? (i := 60) rfl))) (by decide) (by decide)
  obtain ⟨rp9, erp9, hrp9⟩ := own_elem (n := 9) ep A_p.1 (Cond.before_iff.mp (hsets _ (List.mem_of_getElem? (i := 61) rfl))) (by decide)
  have Bp9 : Big s s.heap rp9 9 := own_big1 hfit erp9 (Cond.before_iff.mp (hsets _ (List.mem_of_getElem? (i := 61) rfl))) (Cond.before_iff.mp (hsets _ (List.mem_of_getElem? (i := 62) rfl))) (Cond.before_iff.mp (hsets _ (List.mem_of_getElem? (i := 63) rfl))) (Cond.before_iff.mp (hsets _ (List.mem_of_getElem? (i := 65) rfl))) (Cond.before_iff.mp (hsets _ (List.mem_of_getElem? (i := 66) rfl))) (by decide) (by decide)
  obtain ⟨rp10, erp10, hrp10⟩ := own_elem (n := 10) ep A_p.1 (Cond.before_iff.mp (hsets _ (List.mem_of_getElem? (i := 68) rfl))) (by decide)
  have Bp10 : Big s s.heap rp10 10 := own_big1 hfit erp10 (Cond.before_iff.mp (hsets _ (List.mem_of_getElem? (i := 68) rfl))) (Cond.before_iff.mp (hsets _ (List.mem_of_getElem? (i := 69) rfl))) (Cond.before_iff.mp (hsets _ (List.mem_of_getElem? (i := 70) rfl))) (Cond.before_iff.mp (hsets _ (List.mem_of_getElem? (i := 72) rfl))) (Cond.before_iff.mp (hsets _ (List.mem_of_getElem? (i := 73) rfl))) (by decide) (by decide)
  obtain ⟨rp11, erp11, hrp11⟩ := own_elem (n := 11) ep A_p.1 (Cond.before_iff.mp (hsets _ (List.mem_of_getElem? (i := 74) rfl))) (by decide)
  have Bp11 : Big s s.heap rp11 11 := own_big1 hfit erp11 (Cond.before_iff.mp (hsets _ (List.mem_of_getElem? (i := 74) rfl))) (Cond.before_iff.mp (hsets _ (List.mem_of_getElem? (i := 75) rfl))) (Cond.before_iff.mp (hsets _ (List.mem_of_getElem? (i := 76) rfl))) (Cond.before_iff.mp (hsets _ (List.mem_of_getElem? (i := 78) rfl))) (Cond.before_iff.mp (hsets _ (List.mem_of_getElem? (i := 79) rfl))) (by decide) (by decide)
  obtain ⟨rp12, erp12, hrp12⟩ := own_elem (n := 12) ep A_p.1 (Cond.before_iff.mp (hsets _ (List.mem_of_getElem? (i := 80) rfl))) (by decide)
  have Bp12 : Big s s.heap rp12 12 := own_big1 hfit erp12 (Cond.before_iff.mp (hsets _ (List.mem_of_getElem? (i := 80) rfl))) (Cond.before_iff.mp (hsets _ (List.mem_of_getElem? (i := 81) rfl))) (Cond.before_iff.mp (hsets _ (List.mem_of_getElem? (i := 82) rfl))) (Cond.before_iff.mp (hsets _ (List.mem_of_getElem? (i := 84) rfl))) (Cond.before_iff.mp (hsets _ (List.mem_of_getElem? (i := 85) rfl))) (by decide) (by decide)
  obtain ⟨rp13, erp13, hrp13⟩ := own_elem (n := 13) ep A_p.1 (Cond.before_iff.mp (hsets _ (List.mem_of_getElem? (i := 86) rfl))) (by decide)
  have Bp13 : Big s s.heap rp13 13 := own_big1 hfit erp13 (Cond.before_iff.mp (hsets _ (List.mem_of_getElem? (i := 86) rfl))) (Cond.before_iff.mp (hsets _ (List.mem_of_getElem? (i := 87) rfl))) (Cond.before_iff.mp (hsets _ (List.mem_of_getElem? (i := 88) rfl))) (Cond.before_iff.mp (hsets _ (List.mem_of_getElem? (i := 90) rfl))) (Cond.before_iff.mp (hsets _ (List.mem_of_getElem? (i := 91) rfl))) (by decide) (by decide)
  obtain ⟨rp14, erp14, hrp14⟩ := own_elem (n := 14) ep A_p.1 (Cond.before_iff.mp (hsets _ (List.mem_of_getElem? (i := 92) rfl))) (by decide)
  have Bp14 : Big s s.heap rp14 14 := own_big1 hfit erp14 (Cond.before_iff.mp (hsets _ (List.mem_of_getElem? (i := 92) rfl))) (Cond.before_iff.mp (hsets _ (List.mem_of_getElem? (i := 93) rfl))) (Cond.before_iff.mp (hsets _ (List.mem_of_getElem? (i := 94) rfl))) (Cond.before_iff.mp (hsets _ (List.mem_of_getElem? (i := 96) rfl))) (Cond.before_iff.mp (hsets _ (List.mem_of_getElem? (i := 97) rfl))) (by decide) (by decide)
  obtain ⟨rp15, erp15, hrp15⟩ := own_elem (n := 15) ep A_p.1 (Cond.before_iff.mp (hsets _ (List.mem_of_getElem? (i := 98) rfl))) (by decide)
  have Bp15 : Big s s.heap rp15 15 := own_big1 hfit erp15 (Cond.before_iff.mp (hsets _ (List.mem_of_getElem? (i := 98) rfl))) (Cond.before_iff.mp (hsets _ (List.mem_of_getElem? (i := 99) rfl))) (Cond.before_iff.mp (hsets _ (List.mem_of_getElem? (i := 100) rfl))) (Cond.before_iff.mp (hsets _ (List.mem_of_getElem? (i := 102) rfl))) (Cond.before_iff.mp (hsets _ (List.mem_of_getElem? (i := 103) rfl))) (by decide) (by decide)
  obtain ⟨rp16, erp16, hrp16⟩ := own_elem (n := 16) ep A_p.1 (Cond.before_iff.mp (hsets _ (List.mem_of_getElem? (i := 104) rfl))) (by decide)
  have Bp16 : Big s s.heap rp16 16 := own_big1 hfit erp16 (Cond.before_iff.mp (hsets _ (List.mem_of_getElem? (i := 104) rfl))) (Cond.before_iff.mp (hsets _ (List.mem_of_getElem? (i := 105) rfl))) (Cond.before_iff.mp (hsets _ (List.mem_of_getElem? (i := 106) rfl))) (Cond.before_iff.mp (hsets _ (List.mem_of_getElem? (i := 108) rfl))) (Cond.before_iff.mp (hsets _ (List.mem_of_getElem? (i := 109) rfl))) (by decide) (by decide)
  obtain ⟨wn, en⟩ := arr_v (Cond.before_iff.mp (hsets _ (List.mem_of_getElem? (i := 122) rfl)))
  obtain ⟨cn, A_n⟩ := Arr.start en (Cond.before_iff.mp (hsets _ (List.mem_of_getElem? (i := 122) rfl)))
  have S_n : Sta s s.heap BI "negConst" "[Ljava/math/BigInteger;" (.ref wn) := Sta.start en (Or.inl (hsets _ (List.mem_of_getElem? (i := 119) rfl)))
  obtain ⟨qn1, qn2⟩ := own_len en A_n (eqv_i (Term.int_eval 17) (Cond.before_iff.mp (hsets _ (List.mem_of_getElem? (i := 124) rfl))))
  obtain ⟨rn1, ern1, hrn1⟩ := own_elem (n := 1) en A_n.1 (Cond.before_iff.mp (hsets _ (List.mem_of_getElem? (i := 126) rfl))) (by decide)
  have Bn1 : Big s s.heap rn1 (-1) := own_big1 hfit ern1 (Cond.before_iff.mp (hsets _ (List.mem_of_getElem? (i := 126) rfl))) (Cond.before_iff.mp (hsets _ (List.mem_of_getElem? (i := 127) rfl))) (Cond.before_iff.mp (hsets _ (List.mem_of_getElem? (i := 128) rfl))) (Cond.before_iff.mp (hsets _ (List.mem_of_getElem? (i := 130) rfl))) (Cond.before_iff.mp (hsets _ (List.mem_of_getElem? (i := 131) rfl))) (by decide) (by decide)
  obtain ⟨rn2, ern2, hrn2⟩ := own_elem (n := 2) en A_n.1 (Cond.before_iff.mp (hsets _ (List.mem_of_getElem? (i := 132) rfl))) (by decide)
  have Bn2 : Big s s.heap rn2 (-2) := own_big1 hfit ern2 (Cond.before_iff.mp (hsets _ (List.mem_of_getElem? (i := 132) rfl))) (Cond.before_iff.mp (hsets _ (List.mem_of_getElem? (i := 133) rfl))) (Cond.before_iff.mp (hsets _ (List.mem_of_getElem? (i := 134) rfl))) (Cond.before_iff.mp (hsets _ (List.mem_of_getElem? (i := 136) rfl))) (Cond.before_iff.mp (hsets _ (List.mem_of_getElem? (i := 137) rfl))) (by decide) (by decide)
  obtain ⟨rn3, ern3, hrn3⟩ := own_elem (n := 3) en A_n.1 (Cond.before_iff.mp (hsets _ (List.mem_of_getElem? (i := 138) rfl))) (by decide)
  have Bn3 : Big s s.heap rn3 (-3) := own_big1 hfit ern3 (Cond.before_iff.mp (hsets _ (List.mem_of_getElem? (i := 138) rfl))) (Cond.before_iff.mp (hsets _ (List.mem_of_getElem? (i := 139) rfl))) (Cond.before_iff.mp (hsets _ (List.mem_of_getElem? (i := 140) rfl))) (Cond.before_iff.mp (hsets _ (List.mem_of_getElem? (i := 142) rfl))) (Cond.before_iff.mp (hsets _ (List.mem_of_getElem? (i := 143) rfl))) (by decide) (by decide)
  obtain ⟨rn4, ern4, hrn4⟩ := own_elem (n := 4) en A_n.1 (Cond.before_iff.mp (hsets _ (List.mem_of_getElem? (i := 144) rfl))) (by decide)
  have Bn4 : Big s s.heap rn4 (-4) := own_big1 hfit ern4 (Cond.before_iff.mp (hsets _ (List.mem_of_getElem? (i := 144) rfl))) (Cond.before_iff.mp (hsets _ (List.mem_of_getElem? (i := 145) rfl))) (Cond.before_iff.mp (hsets _ (List.mem_of_getElem? (i := 146) rfl))) (Cond.before_iff.mp (hsets _ (List.mem_of_getElem? (i := 148) rfl))) (Cond.before_iff.mp (hsets _ (List.mem_of_getElem? (i := 149) rfl))) (by decide) (by decide)
  obtain ⟨rn5, ern5, hrn5⟩ := own_elem (n := 5) en A_n.1 (Cond.before_iff.mp (hsets _ (List.mem_of_getElem? (i := 150) rfl))) (by decide)
  have Bn5 : Big s s.heap rn5 (-5) := own_big1 hfit ern5 (Cond.before_iff.mp (hsets _ (List.mem_of_getElem? (i := 150) rfl))) (Cond.before_iff.mp (hsets _ (List.mem_of_getElem? (i := 151) rfl))) (Cond.before_iff.mp (hsets _ (List.mem_of_getElem? (i := 152) rfl))) (Cond.before_iff.mp (hsets _ (List.mem_of_getElem? (i := 154) rfl))) (Cond.before_iff.mp (hsets _ (List.mem_of_getElem? (i := 155) rfl))) (by decide) (by decide)
  obtain ⟨rn6, ern6, hrn6⟩ := own_elem (n := 6) en A_n.1 (Cond.before_iff.mp (hsets _ (List.mem_of_getElem? (i := 156) rfl))) (by decide)
  have Bn6 : Big s s.heap rn6 (-6) := own_big1 hfit ern6 (Cond.before_iff.mp (hsets _ (List.mem_of_getElem? (i := 156) rfl))) (Cond.before_iff.mp (hsets _ (List.mem_of_getElem? (i := 157) rfl))) (Cond.before_iff.mp (hsets _ (List.mem_of_getElem? (i := 158) rfl))) (Cond.before_iff.mp (hsets _ (List.mem_of_getElem? (i := 160) rfl))) (Cond.before_iff.mp (hsets _ (List.mem_of_getElem? (i := 161) rfl))) (by decide) (by decide)
  obtain ⟨rn7, ern7, hrn7⟩ := own_elem (n := 7) en A_n.1 (Cond.before_iff.mp (hsets _ (List.mem_of_getElem? (i := 162) rfl))) (by decide)
  have Bn7 : Big s s.heap rn7 (-7) := own_big1 hfit ern7 (Cond.before_iff.mp (hsets _ (List.mem_of_getElem? (i := 162) rfl))) (Cond.before_iff.mp (hsets _ (List.mem_of_getElem? (i := 163) rfl))) (Cond.before_iff.mp (hsets _ (List.mem_of_getElem? (i := 164) rfl))) (Cond.before_iff.mp (hsets _ (List.mem_of_getElem? (i := 166) rfl))) (Cond.before_iff.mp (hsets _ (List.mem_of_getElem? (i := 167) rfl))) (by decide) (by decide)
  obtain ⟨rn8, ern8, hrn8⟩ := own_elem (n := 8) en A_n.1 (Cond.before_iff.mp (hsets _ (List.mem_of_getElem? (i := 168) rfl))) (by decide)
  have Bn8 : Big s s.heap rn8 (-8) := own_big1 hfit ern8 (Cond.before_iff.mp (hsets _ (List.mem_of_getElem? (i := 168) rfl))) (Cond.before_iff.mp (hsets _ (List.mem_of_getElem? (i := 169) rfl))) (Cond.before_iff.mp (hsets _ (List.mem_of_getElem? (i := 170) rfl))) (Cond.before_iff.mp (hsets _ (List.mem_of_getElem? (i := 172) rfl))) (Cond.before_iff.mp (hsets _ (List.mem_of_getElem? (i := 173) rfl))) (by decide) (by decide)
  obtain ⟨rn9, ern9, hrn9⟩ := own_elem (n := 9) en A_n.1 (Cond.before_iff.mp (hsets _ (List.mem_of_getElem? (i := 174) rfl))) (by decide)
  have Bn9 : Big s s.heap rn9 (-9) := own_big1 hfit ern9 (Cond.before_iff.mp (hsets _ (List.mem_of_getElem? (i := 174) rfl))) (Cond.before_iff.mp (hsets _ (List.mem_of_getElem? (i := 175) rfl))) (Cond.before_iff.mp (hsets _ (List.mem_of_getElem? (i := 176) rfl))) (Cond.before_iff.mp (hsets _ (List.mem_of_getElem? (i := 178) rfl))) (Cond.before_iff.mp (hsets _ (List.mem_of_getElem? (i := 179) rfl))) (by decide) (by decide)
  obtain ⟨rn10, ern10, hrn10⟩ := own_elem (n := 10) en A_n.1 (Cond.before_iff.mp (hsets _ (List.mem_of_getElem? (i := 180) rfl))) (by decide)
  have Bn10 : Big s s.heap rn10 (-10) := own_big1 hfit ern10 (Cond.before_iff.mp (hsets _ (List.mem_of_getElem? (i := 180) rfl))) (Cond.before_iff.mp (hsets _ (List.mem_of_getElem? (i := 181) rfl))) (Cond.before_iff.mp (hsets _ (List.mem_of_getElem? (i := 182) rfl))) (Cond.before_iff.mp (hsets _ (List.mem_of_getElem? (i := 184) rfl))) (Cond.before_iff.mp (hsets _ (List.mem_of_getElem? (i := 185) rfl))) (by decide) (by decide)
  obtain ⟨rn11, ern11, hrn11⟩ := own_elem (n := 11) en A_n.1 (Cond.before_iff.mp (hsets _ (List.mem_of_getElem? (i := 186) rfl))) (by decide)
  have Bn11 : Big s s.heap rn11 (-11) := own_big1 hfit ern11 (Cond.before_iff.mp (hsets _ (List.mem_of_getElem? (i := 186) rfl))) (Cond.before_iff.mp (hsets _ (List.mem_of_getElem? (i := 187) rfl))) (Cond.before_iff.mp (hsets _ (List.mem_of_getElem? (i := 188) rfl))) (Cond.before_iff.mp (hsets _ (List.mem_of_getElem? (i := 190) rfl))) (Cond.before_iff.mp (hsets _ (List.mem_of_getElem? (i := 191) rfl))) (by decide) (by decide)
  obtain ⟨rn12, ern12, hrn12⟩ := own_elem (n := 12) en A_n.1 (Cond.before_iff.mp (hsets _ (List.mem_of_getElem? (i := 192) rfl))) (by decide)
  have Bn12 : Big s s.heap rn12 (-12) := own_big1 hfit ern12 (Cond.before_iff.mp (hsets _ (List.mem_of_getElem? (i := 192) rfl))) (Cond.before_iff.mp (hsets _ (List.mem_of_getElem? (i := 193) rfl))) (Cond.before_iff.mp (hsets _ (List.mem_of_getElem? (i := 194) rfl))) (Cond.before_iff.mp (hsets _ (List.mem_of_getElem? (i := 196) rfl))) (Cond.before_iff.mp (hsets _ (List.mem_of_getElem? (i := 197) rfl))) (by decide) (by decide)
  obtain ⟨rn13, ern13, hrn13⟩ := own_elem (n := 13) en A_n.1 (Cond.before_iff.mp (hsets _ (List.mem_of_getElem? (i := 198) rfl))) (by decide)
  have Bn13 : Big s s.heap rn13 (-13) := own_big1 hfit ern13 (Cond.before_iff.mp (hsets _ (List.mem_of_getElem? (i := 198) rfl))) (Cond.before_iff.mp (hsets _ (List.mem_of_getElem? (i := 199) rfl))) (Cond.before_iff.mp (hsets _ (List.mem_of_getElem? (i := 200) rfl))) (Cond.before_iff.mp (hsets _ (List.mem_of_getElem? (i := 202) rfl))) (Cond.before_iff.mp (hsets _ (List.mem_of_getElem? (i := 203) rfl))) (by decide) (by decide)
  obtain ⟨rn14, ern14, hrn14⟩ := own_elem (n := 14) en A_n.1 (Cond.before_iff.mp (hsets _ (List.mem_of_getElem? (i := 204) rfl))) (by decide)
  have Bn14 : Big s s.heap rn14 (-14) := own_big1 hfit ern14 (Cond.before_iff.mp (hsets _ (List.mem_of_getElem? (i := 204) rfl))) (Cond.before_iff.mp (hsets _ (List.mem_of_getElem? (i := 205) rfl))) (Cond.before_iff.mp (hsets _ (List.mem_of_getElem? (i := 206) rfl))) (Cond.before_iff.mp (hsets _ (List.mem_of_getElem? (i := 208) rfl))) (Cond.before_iff.mp (hsets _ (List.mem_of_getElem? (i := 209) rfl))) (by decide) (by decide)
  obtain ⟨rn15, ern15, hrn15⟩ := own_elem (n := 15) en A_n.1 (Cond.before_iff.mp (hsets _ (List.mem_of_getElem? (i := 210) rfl))) (by decide)
  have Bn15 : Big s s.heap rn15 (-15) := own_big1 hfit ern15 (Cond.before_iff.mp (hsets _ (List.mem_of_getElem? (i := 210) rfl))) (Cond.before_iff.mp (hsets _ (List.mem_of_getElem? (i := 211) rfl))) (Cond.before_iff.mp (hsets _ (List.mem_of_getElem? (i := 212) rfl))) (Cond.before_iff.mp (hsets _ (List.mem_of_getElem? (i := 214) rfl))) (Cond.before_iff.mp (hsets _ (List.mem_of_getElem? (i := 215) rfl))) (by decide) (by decide)
  obtain ⟨rn16, ern16, hrn16⟩ := own_elem (n := 16) en A_n.1 (Cond.before_iff.mp (hsets _ (List.mem_of_getElem? (i := 216) rfl))) (by decide)
  have Bn16 : Big s s.heap rn16 (-16) := own_big1 hfit ern16 (Cond.before_iff.mp (hsets _ (List.mem_of_getElem? (i := 216) rfl))) (Cond.before_iff.mp (hsets _ (List.mem_of_getElem? (i := 217) rfl))) (Cond.before_iff.mp (hsets _ (List.mem_of_getElem? (i := 218) rfl))) (Cond.before_iff.mp (hsets _ (List.mem_of_getElem? (i := 220) rfl))) (Cond.before_iff.mp (hsets _ (List.mem_of_getElem? (i := 221) rfl))) (by decide) (by decide)
  have C : Cache s := by
    refine ⟨⟨wz, S_z, B_z⟩, ⟨wp, cp, S_p, A_p, fun v h1 h2 => ?_⟩, ⟨wn, cn, S_n, A_n, fun v h1 h2 => ?_⟩⟩
    · rcases own_16p v h1 h2 with rfl | rfl | rfl | rfl | rfl | rfl | rfl | rfl | rfl | rfl | rfl | rfl | rfl | rfl | rfl | rfl
      · exact ⟨own_in17 qp2 qp1 (by decide) (by decide), rp1, hrp1, Bp1⟩
      · exact ⟨own_in17 qp2 qp1 (by decide) (by decide), rp2, hrp2, Bp2⟩
      · exact ⟨own_in17 qp2 qp1 (by decide) (by decide), rp3, hrp3, Bp3⟩
      · exact ⟨own_in17 qp2 qp1 (by decide) (by decide), rp4, hrp4, Bp4⟩
      · exact ⟨own_in17 qp2 qp1 (by decide) (by decide), rp5, hrp5, Bp5⟩
      · exact ⟨own_in17 qp2 qp1 (by decide) (by decide), rp6, hrp6, Bp6⟩
      · exact ⟨own_in17 qp2 qp1 (by decide) (by decide), rp7, hrp7, Bp7⟩
      · exact ⟨own_in17 qp2 qp1 (by decide) (by decide), rp8, hrp8, Bp8⟩
      · exact ⟨own_in17 qp2 qp1 (by decide) (by decide), rp9, hrp9, Bp9⟩
      · exact ⟨own_in17 qp2 qp1 (by decide) (by decide), rp10, hrp10, Bp10⟩
      · exact ⟨own_in17 qp2 qp1 (by decide) (by decide), rp11, hrp11, Bp11⟩
      · exact ⟨own_in17 qp2 qp1 (by decide) (by decide), rp12, hrp12, Bp12⟩
      · exact ⟨own_in17 qp2 qp1 (by decide) (by decide), rp13, hrp13, Bp13⟩
      · exact ⟨own_in17 qp2 qp1 (by decide) (by decide), rp14, hrp14, Bp14⟩
      · exact ⟨own_in17 qp2 qp1 (by decide) (by decide), rp15, hrp15, Bp15⟩
      · exact ⟨own_in17 qp2 qp1 (by decide) (by decide), rp16, hrp16, Bp16⟩
    · rcases own_16n v h1 h2 with rfl | rfl | rfl | rfl | rfl | rfl | rfl | rfl | rfl | rfl | rfl | rfl | rfl | rfl | rfl | rfl
      · exact ⟨own_in17 qn2 qn1 (by decide) (by decide), rn1, hrn1, Bn1⟩
      · exact ⟨own_in17 qn2 qn1 (by decide) (by decide), rn2, hrn2, Bn2⟩
      · exact ⟨own_in17 qn2 qn1 (by decide) (by decide), rn3, hrn3, Bn3⟩
      · exact ⟨own_in17 qn2 qn1 (by decide) (by decide), rn4, hrn4, Bn4⟩
      · exact ⟨own_in17 qn2 qn1 (by decide) (by decide), rn5, hrn5, Bn5⟩
      · exact ⟨own_in17 qn2 qn1 (by decide) (by decide), rn6, hrn6, Bn6⟩
      · exact ⟨own_in17 qn2 qn1 (by decide) (by decide), rn7, hrn7, Bn7⟩
      · exact ⟨own_in17 qn2 qn1 (by decide) (by decide), rn8, hrn8, Bn8⟩
      · exact ⟨own_in17 qn2 qn1 (by decide) (by decide), rn9, hrn9, Bn9⟩
      · exact ⟨own_in17 qn2 qn1 (by decide) (by decide), rn10, hrn10, Bn10⟩
      · exact ⟨own_in17 qn2 qn1 (by decide) (by decide), rn11, hrn11, Bn11⟩
      · exact ⟨own_in17 qn2 qn1 (by decide) (by decide), rn12, hrn12, Bn12⟩
      · exact ⟨own_in17 qn2 qn1 (by decide) (by decide), rn13, hrn13, Bn13⟩
      · exact ⟨own_in17 qn2 qn1 (by decide) (by decide), rn14, hrn14, Bn14⟩
      · exact ⟨own_in17 qn2 qn1 (by decide) (by decide), rn15, hrn15, Bn15⟩
      · exact ⟨own_in17 qn2 qn1 (by decide) (by decide), rn16, hrn16, Bn16⟩
  obtain ⟨n, o, h1, h2, h3, _, L, rfl, ⟨rfl, N⟩, hq⟩ := rm0 l s _ hw tables_1 i0 i1 wo s.heap s.heap.size (Old.start s) S_o B_o C p e ha hc hk s m _ below hf ((Spec.applies_iff_loose hf).mp happ).1 ⟨rfl, State.Warmed39.refl s, rfl⟩ trivial
  refine ⟨n, _, h1, h2, h3, hpost _ _ _ _ _ _ ⟨Cond.after_iff.mpr rfl, Cond.after_iff.mpr (eq_i res_at (Term.int_eval (1)) rfl), trivial⟩ ⟨hq.1, hq.2.1, hq.2.2.1, (hq.2.2.2.sift fun y hy => Or.inr (N y hy)).mono (by decide) (by decide)⟩⟩
theorem main_1_1 : Claimed_1_1 := comes_1 fun _ _ _ _ _ _ h hF => ⟨h.1, hF⟩
theorem main_1_2 : Claimed_1_2 := comes_1 fun _ _ _ _ _ _ h hF => ⟨h.2.1, hF⟩
end Jvm.Pilot.@@N@@
namespace Jvm.Pilot.@@N@@
open Jvm Jvm.ClassFile Sem Op Lib Jvm.Free Jvm.Stand Jvm.Pilot.@@N@@.Jvm.D
/-! MADE BY PROGRAM (witnessworld.py) out of the Statement's table words and the real class files: 18 classes; the members and pool entries that the words name. The judged class is class 1, her method 3. -/
namespace start1
open Jvm.ClassFile
def u (s : String) : CpInfo := .utf8 (stringToUtf16 s)
/-- a pool by its gaps: so many unusable entries, then the entry; so many at the end -/
def gap : Nat → List CpInfo → List CpInfo
  | 0, r => r
  | n + 1, r => .unusable :: gap n r
def poolList (es : List (Nat × CpInfo)) (last : Nat) : List CpInfo := es.foldr (fun e r => gap e.1 (e.2 :: r)) (gap last [])
def pool (es : List (Nat × CpInfo)) (last : Nat) : Array CpInfo := ⟨poolList es last⟩
def fileOf (pool : Array CpInfo) (this : Nat) (attrs : Array Attribute := #[]) (ms : Array MethodInfo := #[]) (fl : Nat := 33) (sup : Nat := 0) (ifs : Array Nat := #[]) (fds : Array FieldInfo := #[]) : ClassFile where
  minorVersion := 0
  majorVersion := 65
  constantPool := pool
  accessFlags := fl
  thisClass := this
  superClass := sup
  interfaces := ifs
  fields := fds
  methods := ms
  attributes := attrs
def plain (name : String) (sup : Option ClassId) : Class where
  name := name
  kind := .ordinary
  loader := none
  accessFlags := 33
  super := sup
  interfaces := #[]
  cf := none
  fields := #[]
  methods := #[]
  instanceTypes := #[]
  staticTypes := #[]
  resolved := #[]
  callSites := []
  init := .initialized
  statics := none
  mirror := none

def pool0 : Array CpInfo := pool [(5, u "<init>"), (0, u "()V"), (1, .class_ 10), (1, u "java/lang/Object")] 113

def k0c0 : Code := { maxStack := 0, maxLocals := 1, code := object_method_1_code, exceptionTable := #[], attributes := #[] }
def k0m0 : Method := { name := "<init>", desc := "()V", sig := { parameters := [], returnType := none }, accessFlags := 1, code := some k0c0 }
/-- java/lang/Object -/
def k0 : Class := { plain "java/lang/Object" none with
  accessFlags := 33
  interfaces := #[]
  cf := some (fileOf pool0 8 #[] #[{ accessFlags := 1, nameIndex := 5, descriptorIndex := 6, attributes := #[] }] 33 0 #[] #[])
  fields := #[]
  methods := #[k0m0]
  instanceTypes := #[]
  staticTypes := #[]
  resolved := Array.replicate 124 none
  statics := none }

def pool1 : Array CpInfo := pool [(2, .class_ 4), (1, u "java/lang/Object"), (0, u "<init>"), (0, u "()V"), (0, .methodref 8 9), (0, .class_ 10), (0, .nameAndType 11 12), (0, u "com/example/granica/granica/Rational"), (0, u "valueOf"), (0, u "(J)Lcom/example/granica/granica/Rational;"), (0, .methodref 8 14), (0, .nameAndType 11 15), (0, u "(JJ)Lcom/example/granica/granica/Rational;"), (0, .methodref 8 17), (0, .nameAndType 18 19), (0, u "isFinite"), (0, u "()Z"), (0, .methodref 8 21), (0, .nameAndType 22 23), (0, u "equals"), (0, u "(Ljava/lang/Object;)Z"), (0, .methodref 8 25), (0, .nameAndType 26 27), (0, u "signum"), (0, u "()I"), (0, .methodref 29 30), (0, .class_ 31), (0, .nameAndType 32 33), (0, u "com/example/granica/granica/RationalValueOfPinLaw"), (0, u "sign"), (0, u "(J)I"), (0, .methodref 8 35), (0, .nameAndType 36 37), (0, u "compareTo"), (0, u "(Lcom/example/granica/granica/Rational;)I"), (0, .methodref 29 39), (0, .nameAndType 40 41), (0, u "cmp"), (0, u "(JJ)I"), (3, u "law"), (0, u "(JJ)Z")] 2

def k1m0 : Method := { name := "<init>", desc := "()V", sig := { parameters := [], returnType := none }, accessFlags := 1, code := none }
def k1c1 : Code := { maxStack := 4, maxLocals := 2, code := method_2_code, exceptionTable := #[], attributes := #[] }
def k1m1 : Method := { name := "sign", desc := "(J)I", sig := { parameters := [.long], returnType := some .int }, accessFlags := 10, code := some k1c1 }
def k1c2 : Code := { maxStack := 4, maxLocals := 4, code := method_3_code, exceptionTable := #[], attributes := #[] }
def k1m2 : Method := { name := "cmp", desc := "(JJ)I", sig := { parameters := [.long, .long], returnType := some .int }, accessFlags := 10, code := some k1c2 }
def k1c3 : Code := { maxStack := 5, maxLocals := 12, code := code, exceptionTable := #[], attributes := #[] }
def k1m3 : Method := { name := "law", desc := "(JJ)Z", sig := { parameters := [.long, .long], returnType := some .boolean }, accessFlags := 9, code := some k1c3 }
/-- com/example/granica/granica/RationalValueOfPinLaw -/
def k1 : Class := { plain "com/example/granica/granica/RationalValueOfPinLaw" (some 0) with
  accessFlags := 49
  interfaces := #[]
  cf := some (fileOf pool1 29 #[] #[{ accessFlags := 1, nameIndex := 5, descriptorIndex := 6, attributes := #[] }, { accessFlags := 10, nameIndex := 32, descriptorIndex := 33, attributes := #[] }, { accessFlags := 10, nameIndex := 40, descriptorIndex := 41, attributes := #[] }, { accessFlags := 9, nameIndex := 45, descriptorIndex := 46, attributes := #[] }] 49 2 #[] #[])
  fields := #[]
  methods := #[k1m0, k1m1, k1m2, k1m3]
  instanceTypes := #[]
  staticTypes := #[]
  resolved := Array.replicate 49 none
  statics := none }

def pool2 : Array CpInfo := pool [(1, .class_ 2), (0, u "java/lang/Comparable"), (0, .class_ 4), (0, u "java/lang/Object")] 7

/-- java/lang/Comparable -/
def k2 : Class := { plain "java/lang/Comparable" (some 0) with
  accessFlags := 1537
  interfaces := #[]
  cf := some (fileOf pool2 1 #[] #[] 1537 3 #[] #[])
  fields := #[]
  methods := #[]
  instanceTypes := #[]
  staticTypes := #[]
  resolved := Array.replicate 12 none
  statics := none }

def pool3 : Array CpInfo := pool [(3, .methodref 4 5), (0, .class_ 6), (0, .nameAndType 7 8), (0, u "java/lang/Object"), (0, u "<init>"), (0, u "()V"), (0, .fieldref 10 11), (0, .class_ 12), (0, .nameAndType 13 14), (0, u "com/example/granica/granica/Rational"), (0, u "numerator"), (0, u "Ljava/math/BigInteger;"), (0, .fieldref 10 16), (0, .nameAndType 17 14), (0, u "denominator"), (0, .methodref 19 20), (0, .class_ 21), (0, .nameAndType 22 23), (0, u "java/math/BigInteger"), (0, u "valueOf"), (0, u "(J)Ljava/math/BigInteger;"), (0, .fieldref 19 25), (0, .nameAndType 26 14), (0, u "ONE"), (0, .methodref 10 28), (0, .nameAndType 7 29), (0, u "(Ljava/math/BigInteger;Ljava/math/BigInteger;)V"), (2, .methodref 33 34), (0, .class_ 35), (0, .nameAndType 36 37), (0, u "java/util/Objects"), (0, u "requireNonNull"), (0, u "(Ljava/lang/Object;Ljava/lang/String;)Ljava/lang/Object;"), (0, .methodref 10 39), (0, .nameAndType 22 40), (0, u "(Ljava/math/BigInteger;Ljava/math/BigInteger;)Lcom/example/granica/granica/Rational;"), (0, .string 13), (0, .string 17), (0, .methodref 19 44), (0, .nameAndType 45 46), (0, u "signum"), (0, u "()I"), (7, u "ZERO"), (0, u "Lcom/example/granica/granica/Rational;"), (4, .methodref 10 61), (0, .nameAndType 62 40), (0, u "reduce"), (6, .nameAndType 71 72), (1, u "equals"), (0, u "(Ljava/lang/Object;)Z"), (2, u "POSITIVE_INFINITY"), (4, u "NEGATIVE_INFINITY"), (91, .methodref 19 69), (9, u "(JJ)Lcom/example/granica/granica/Rational;"), (28, u "FIVE"), (28, u "isFinite"), (0, u "()Z"), (35, u "compareTo"), (0, u "(Lcom/example/granica/granica/Rational;)I"), (0, .methodref 19 280), (0, .nameAndType 277 281), (0, u "(Ljava/math/BigInteger;)I"), (14, .class_ 297), (0, u "java/lang/Comparable"), (0, u "LONG_BITS"), (0, u "I"), (2, u "LONG_DIGITS"), (1, u "SPLIT_DIGITS"), (3, u "(J)Lcom/example/granica/granica/Rational;")] 39

def k3c0 : Code := { maxStack := 2, maxLocals := 3, code := prog_30_method_1_code, exceptionTable := #[], attributes := #[] }
def k3m0 : Method := { name := "<init>", desc := "(Ljava/math/BigInteger;Ljava/math/BigInteger;)V", sig := { parameters := [(.object "java/math/BigInteger"), (.object "java/math/BigInteger")], returnType := none }, accessFlags := 2, code := some k3c0 }
def k3c1 : Code := { maxStack := 4, maxLocals := 2, code := prog_30_method_2_code, exceptionTable := #[], attributes := #[] }
def k3m1 : Method := { name := "valueOf", desc := "(J)Lcom/example/granica/granica/Rational;", sig := { parameters := [.long], returnType := some (.object "com/example/granica/granica/Rational") }, accessFlags := 9, code := some k3c1 }
def k3c2 : Code := { maxStack := 3, maxLocals := 4, code := prog_30_method_4_code, exceptionTable := #[], attributes := #[] }
def k3m2 : Method := { name := "valueOf", desc := "(JJ)Lcom/example/granica/granica/Rational;", sig := { parameters := [.long, .long], returnType := some (.object "com/example/granica/granica/Rational") }, accessFlags := 9, code := some k3c2 }
def k3c3 : Code := { maxStack := 3, maxLocals := 2, code := prog_30_method_5_code, exceptionTable := #[], attributes := #[] }
def k3m3 : Method := { name := "valueOf", desc := "(Ljava/math/BigInteger;Ljava/math/BigInteger;)Lcom/example/granica/granica/Rational;", sig := { parameters := [(.object "java/math/BigInteger"), (.object "java/math/BigInteger")], returnType := some (.object "com/example/granica/granica/Rational") }, accessFlags := 9, code := some k3c3 }
def k3c4 : Code := { maxStack := 5, maxLocals := 4, code := prog_30_method_14_code, exceptionTable := #[], attributes := #[] }
def k3m4 : Method := { name := "reduce", desc := "(Ljava/math/BigInteger;Ljava/math/BigInteger;)Lcom/example/granica/granica/Rational;", sig := { parameters := [(.object "java/math/BigInteger"), (.object "java/math/BigInteger")], returnType := some (.object "com/example/granica/granica/Rational") }, accessFlags := 10, code := some k3c4 }
def k3c5 : Code := { maxStack := 1, maxLocals := 1, code := prog_30_method_20_code, exceptionTable := #[], attributes := #[] }
def k3m5 : Method := { name := "isFinite", desc := "()Z", sig := { parameters := [], returnType := some .boolean }, accessFlags := 1, code := some k3c5 }
def k3c6 : Code := { maxStack := 1, maxLocals := 1, code := prog_30_method_21_code, exceptionTable := #[], attributes := #[] }
def k3m6 : Method := { name := "signum", desc := "()I", sig := { parameters := [], returnType := some .int }, accessFlags := 1, code := some k3c6 }
def k3c7 : Code := { maxStack := 3, maxLocals := 4, code := prog_30_method_33_code, exceptionTable := #[], attributes := #[] }
def k3m7 : Method := { name := "compareTo", desc := "(Lcom/example/granica/granica/Rational;)I", sig := { parameters := [(.object "com/example/granica/granica/Rational")], returnType := some .int }, accessFlags := 1, code := some k3c7 }
def k3c8 : Code := { maxStack := 2, maxLocals := 3, code := prog_30_method_34_code, exceptionTable := #[], attributes := #[] }
def k3m8 : Method := { name := "equals", desc := "(Ljava/lang/Object;)Z", sig := { parameters := [(.object "java/lang/Object")], returnType := some .boolean }, accessFlags := 1, code := some k3c8 }
/-- com/example/granica/granica/Rational -/
def k3 : Class := { plain "com/example/granica/granica/Rational" (some 0) with
  accessFlags := 49
  interfaces := #[2]
  cf := some (fileOf pool3 10 #[] #[{ accessFlags := 2, nameIndex := 7, descriptorIndex := 29, attributes := #[] }, { accessFlags := 9, nameIndex := 22, descriptorIndex := 308, attributes := #[] }, { accessFlags := 9, nameIndex := 22, descriptorIndex := 182, attributes := #[] }, { accessFlags := 9, nameIndex := 22, descriptorIndex := 40, attributes := #[] }, { accessFlags := 10, nameIndex := 62, descriptorIndex := 40, attributes := #[] }, { accessFlags := 1, nameIndex := 240, descriptorIndex := 241, attributes := #[] }, { accessFlags := 1, nameIndex := 45, descriptorIndex := 46, attributes := #[] }, { accessFlags := 1, nameIndex := 277, descriptorIndex := 278, attributes := #[] }, { accessFlags := 1, nameIndex := 71, descriptorIndex := 72, attributes := #[] }] 49 4 #[296] #[{ accessFlags := 25, nameIndex := 54, descriptorIndex := 55, attributes := #[] }, { accessFlags := 25, nameIndex := 26, descriptorIndex := 55, attributes := #[] }, { accessFlags := 25, nameIndex := 75, descriptorIndex := 55, attributes := #[] }, { accessFlags := 25, nameIndex := 80, descriptorIndex := 55, attributes := #[] }, { accessFlags := 26, nameIndex := 298, descriptorIndex := 299, attributes := #[] }, { accessFlags := 26, nameIndex := 302, descriptorIndex := 299, attributes := #[] }, { accessFlags := 26, nameIndex := 304, descriptorIndex := 299, attributes := #[] }, { accessFlags := 26, nameIndex := 211, descriptorIndex := 14, attributes := #[] }, { accessFlags := 18, nameIndex := 13, descriptorIndex := 14, attributes := #[] }, { accessFlags := 18, nameIndex := 17, descriptorIndex := 14, attributes := #[] }])
  fields := #[{ name := "ZERO", type := (.object "com/example/granica/granica/Rational"), accessFlags := 25, slot := 0, constantValue := 0 }, { name := "ONE", type := (.object "com/example/granica/granica/Rational"), accessFlags := 25, slot := 1, constantValue := 0 }, { name := "POSITIVE_INFINITY", type := (.object "com/example/granica/granica/Rational"), accessFlags := 25, slot := 2, constantValue := 0 }, { name := "NEGATIVE_INFINITY", type := (.object "com/example/granica/granica/Rational"), accessFlags := 25, slot := 3, constantValue := 0 }, { name := "LONG_BITS", type := .int, accessFlags := 26, slot := 4, constantValue := 0 }, { name := "LONG_DIGITS", type := .int, accessFlags := 26, slot := 5, constantValue := 0 }, { name := "SPLIT_DIGITS", type := .int, accessFlags := 26, slot := 6, constantValue := 0 }, { name := "FIVE", type := (.object "java/math/BigInteger"), accessFlags := 26, slot := 7, constantValue := 0 }, { name := "numerator", type := (.object "java/math/BigInteger"), accessFlags := 18, slot := 0, constantValue := 0 }, { name := "denominator", type := (.object "java/math/BigInteger"), accessFlags := 18, slot := 1, constantValue := 0 }]
  methods := #[k3m0, k3m1, k3m2, k3m3, k3m4, k3m5, k3m6, k3m7, k3m8]
  instanceTypes := #[(.object "java/math/BigInteger"), (.object "java/math/BigInteger")]
  staticTypes := #[(.object "com/example/granica/granica/Rational"), (.object "com/example/granica/granica/Rational"), (.object "com/example/granica/granica/Rational"), (.object "com/example/granica/granica/Rational"), .int, .int, .int, (.object "java/math/BigInteger")]
  resolved := Array.replicate 348 none
  statics := none }

def pool4 : Array CpInfo := pool [(1, .class_ 2), (0, u "java/io/Serializable"), (0, .class_ 4), (0, u "java/lang/Object")] 2

/-- java/io/Serializable -/
def k4 : Class := { plain "java/io/Serializable" (some 0) with
  accessFlags := 1537
  interfaces := #[]
  cf := some (fileOf pool4 1 #[] #[] 1537 3 #[] #[])
  fields := #[]
  methods := #[]
  instanceTypes := #[]
  staticTypes := #[]
  resolved := Array.replicate 7 none
  statics := none }

def pool5 : Array CpInfo := pool [(1, .methodref 2 3), (0, .class_ 4), (0, .nameAndType 5 6), (0, u "java/lang/Object"), (0, u "<init>"), (0, u "()V"), (1, .class_ 10), (1, u "java/lang/Number"), (2, .class_ 14), (0, u "java/io/Serializable"), (0, u "serialVersionUID"), (0, u "J")] 20

def k5c0 : Code := { maxStack := 1, maxLocals := 1, code := jdk_18_method_1_code, exceptionTable := #[], attributes := #[] }
def k5m0 : Method := { name := "<init>", desc := "()V", sig := { parameters := [], returnType := none }, accessFlags := 1, code := some k5c0 }
/-- java/lang/Number -/
def k5 : Class := { plain "java/lang/Number" (some 0) with
  accessFlags := 1057
  interfaces := #[4]
  cf := some (fileOf pool5 8 #[] #[{ accessFlags := 1, nameIndex := 5, descriptorIndex := 6, attributes := #[] }] 1057 2 #[13] #[{ accessFlags := 26, nameIndex := 15, descriptorIndex := 16, attributes := #[] }])
  fields := #[{ name := "serialVersionUID", type := .long, accessFlags := 26, slot := 0, constantValue := 0 }]
  methods := #[k5m0]
  instanceTypes := #[]
  staticTypes := #[.long]
  resolved := Array.replicate 37 none
  statics := none }

def pool6 : Array CpInfo := pool [(3, .methodref 4 5), (0, .class_ 6), (0, .nameAndType 7 8), (0, u "java/lang/Number"), (0, u "<init>"), (0, u "()V"), (13, .fieldref 23 24), (0, .class_ 25), (0, .nameAndType 26 27), (0, u "java/math/BigInteger"), (0, u "ZERO"), (0, u "Ljava/math/BigInteger;"), (0, .fieldref 23 29), (0, .nameAndType 30 31), (0, u "mag"), (0, u "[I"), (0, .fieldref 23 33), (0, .nameAndType 34 35), (0, u "signum"), (0, u "I"), (38, u "()I"), (20, u "bitsPerDigit"), (0, u "[J"), (9, u "digitsPerInt"), (12, u "intRadix"), (10, .long 4294967295), (49, u "SMALL_PRIME_PRODUCT"), (56, u "valueOf"), (0, u "(J)Ljava/math/BigInteger;"), (21, u "ONE"), (2, u "equals"), (0, u "(Ljava/lang/Object;)Z"), (2, u "TWO"), (43, u "$assertionsDisabled"), (0, u "Z"), (24, u "compareTo"), (0, u "(Ljava/math/BigInteger;)I"), (6, .long 16), (1, .fieldref 23 348), (0, .nameAndType 349 350), (0, u "posConst"), (0, u "[Ljava/math/BigInteger;"), (0, .long 18446744073709551600), (1, .fieldref 23 354), (0, .nameAndType 355 350), (0, u "negConst"), (0, .methodref 23 357), (0, .nameAndType 7 358), (0, u "(J)V"), (6, .methodref 23 366), (0, .nameAndType 367 338), (0, u "compareMagnitude"), (104, .class_ 474), (1, u "java/math/BigInteger$RecursiveOp"), (106, u "NEGATIVE_ONE"), (91, u "bnExpModThreshTable"), (72, u "lowestSetBitPlusTwo"), (2, u "bitLengthPlusOne"), (2, u "bitCountPlusOne"), (6, u "LOG_TWO"), (0, u "D"), (2, u "logCache"), (0, u "[D"), (13, u "NUM_ZEROS"), (2, u "ZEROS"), (0, u "Ljava/lang/String;"), (9, u "longRadix"), (5, u "digitsPerLong"), (22, u "powerCache"), (0, u "[[Ljava/math/BigInteger;"), (45, u "firstNonzeroIntNumPlusTwo"), (38, .class_ 909), (1, u "java/math/BigInteger$UnsafeHolder"), (141, u "TEN"), (106, u "serialPersistentFields"), (0, u "[Ljava/io/ObjectStreamField;"), (0, .class_ 1161), (0, u "java/lang/Comparable"), (0, u "LONG_MASK"), (0, u "J"), (1, u "MAX_MAG_LENGTH"), (0, u "PRIME_SEARCH_BIT_LENGTH_LIMIT"), (1, u "KARATSUBA_THRESHOLD"), (1, u "TOOM_COOK_THRESHOLD"), (1, u "KARATSUBA_SQUARE_THRESHOLD"), (1, u "TOOM_COOK_SQUARE_THRESHOLD"), (1, u "BURNIKEL_ZIEGLER_THRESHOLD"), (0, u "BURNIKEL_ZIEGLER_OFFSET"), (1, u "SCHOENHAGE_BASE_CONVERSION_THRESHOLD"), (1, u "MULTIPLY_SQUARE_THRESHOLD"), (0, u "MONTGOMERY_INTRINSIC_THRESHOLD"), (1, u "SMALL_PRIME_THRESHOLD"), (1, u "DEFAULT_PRIME_CERTAINTY"), (1, u "MAX_CONSTANT"), (3, u "serialVersionUID"), (338, .class_ 1532), (0, u "java/math/BigInteger$RecursiveOp$RecursiveSquare"), (0, .class_ 1534), (0, u "java/math/BigInteger$RecursiveOp$RecursiveMultiply")] 7

def k6c0 : Code := { maxStack := 4, maxLocals := 2, code := jdk_2097_method_29_code, exceptionTable := #[], attributes := #[] }
def k6m0 : Method := { name := "valueOf", desc := "(J)Ljava/math/BigInteger;", sig := { parameters := [.long], returnType := some (.object "java/math/BigInteger") }, accessFlags := 9, code := some k6c0 }
def k6c1 : Code := { maxStack := 4, maxLocals := 4, code := jdk_2097_method_30_code, exceptionTable := #[], attributes := #[] }
def k6m1 : Method := { name := "<init>", desc := "(J)V", sig := { parameters := [.long], returnType := none }, accessFlags := 2, code := some k6c1 }
def k6c2 : Code := { maxStack := 1, maxLocals := 1, code := jdk_2097_method_81_code, exceptionTable := #[], attributes := #[] }
def k6m2 : Method := { name := "signum", desc := "()I", sig := { parameters := [], returnType := some .int }, accessFlags := 1, code := some k6c2 }
def k6c3 : Code := { maxStack := 2, maxLocals := 2, code := jdk_2097_method_121_code, exceptionTable := #[], attributes := #[] }
def k6m3 : Method := { name := "compareTo", desc := "(Ljava/math/BigInteger;)I", sig := { parameters := [(.object "java/math/BigInteger")], returnType := some .int }, accessFlags := 1, code := some k6c3 }
def k6c4 : Code := { maxStack := 6, maxLocals := 9, code := jdk_2097_method_122_code, exceptionTable := #[], attributes := #[] }
def k6m4 : Method := { name := "compareMagnitude", desc := "(Ljava/math/BigInteger;)I", sig := { parameters := [(.object "java/math/BigInteger")], returnType := some .int }, accessFlags := 16, code := some k6c4 }
def k6c5 : Code := { maxStack := 3, maxLocals := 7, code := jdk_2097_method_124_code, exceptionTable := #[], attributes := #[] }
def k6m5 : Method := { name := "equals", desc := "(Ljava/lang/Object;)Z", sig := { parameters := [(.object "java/lang/Object")], returnType := some .boolean }, accessFlags := 1, code := some k6c5 }
/-- java/math/BigInteger -/
def k6 : Class := { plain "java/math/BigInteger" (some 5) with
  accessFlags := 33
  interfaces := #[2]
  cf := some (fileOf pool6 23 #[.nestMembers #[907, 472, 1531, 1533]] #[{ accessFlags := 9, nameIndex := 237, descriptorIndex := 238, attributes := #[] }, { accessFlags := 2, nameIndex := 7, descriptorIndex := 358, attributes := #[] }, { accessFlags := 1, nameIndex := 34, descriptorIndex := 74, attributes := #[] }, { accessFlags := 1, nameIndex := 337, descriptorIndex := 338, attributes := #[] }, { accessFlags := 16, nameIndex := 367, descriptorIndex := 338, attributes := #[] }, { accessFlags := 1, nameIndex := 263, descriptorIndex := 264, attributes := #[] }] 33 4 #[1160] #[{ accessFlags := 16, nameIndex := 34, descriptorIndex := 35, attributes := #[] }, { accessFlags := 16, nameIndex := 30, descriptorIndex := 31, attributes := #[] }, { accessFlags := 2, nameIndex := 752, descriptorIndex := 35, attributes := #[] }, { accessFlags := 2, nameIndex := 749, descriptorIndex := 35, attributes := #[] }, { accessFlags := 2, nameIndex := 746, descriptorIndex := 35, attributes := #[] }, { accessFlags := 2, nameIndex := 868, descriptorIndex := 35, attributes := #[] }, { accessFlags := 24, nameIndex := 1162, descriptorIndex := 1163, attributes := #[] }, { accessFlags := 26, nameIndex := 1165, descriptorIndex := 35, attributes := #[] }, { accessFlags := 26, nameIndex := 1166, descriptorIndex := 35, attributes := #[] }, { accessFlags := 26, nameIndex := 1168, descriptorIndex := 35, attributes := #[] }, { accessFlags := 26, nameIndex := 1170, descriptorIndex := 35, attributes := #[] }, { accessFlags := 26, nameIndex := 1172, descriptorIndex := 35, attributes := #[] }, { accessFlags := 26, nameIndex := 1174, descriptorIndex := 35, attributes := #[] }, { accessFlags := 24, nameIndex := 1176, descriptorIndex := 35, attributes := #[] }, { accessFlags := 24, nameIndex := 1177, descriptorIndex := 35, attributes := #[] }, { accessFlags := 26, nameIndex := 1179, descriptorIndex := 35, attributes := #[] }, { accessFlags := 26, nameIndex := 1181, descriptorIndex := 35, attributes := #[] }, { accessFlags := 26, nameIndex := 1182, descriptorIndex := 35, attributes := #[] }, { accessFlags := 10, nameIndex := 95, descriptorIndex := 96, attributes := #[] }, { accessFlags := 26, nameIndex := 1184, descriptorIndex := 35, attributes := #[] }, { accessFlags := 26, nameIndex := 1186, descriptorIndex := 35, attributes := #[] }, { accessFlags := 26, nameIndex := 180, descriptorIndex := 27, attributes := #[] }, { accessFlags := 26, nameIndex := 1188, descriptorIndex := 35, attributes := #[] }, { accessFlags := 26, nameIndex := 349, descriptorIndex := 350, attributes := #[] }, { accessFlags := 26, nameIndex := 355, descriptorIndex := 350, attributes := #[] }, { accessFlags := 74, nameIndex := 821, descriptorIndex := 822, attributes := #[] }, { accessFlags := 26, nameIndex := 763, descriptorIndex := 764, attributes := #[] }, { accessFlags := 26, nameIndex := 759, descriptorIndex := 760, attributes := #[] }, { accessFlags := 25, nameIndex := 26, descriptorIndex := 27, attributes := #[] }, { accessFlags := 25, nameIndex := 260, descriptorIndex := 27, attributes := #[] }, { accessFlags := 25, nameIndex := 267, descriptorIndex := 27, attributes := #[] }, { accessFlags := 26, nameIndex := 581, descriptorIndex := 27, attributes := #[] }, { accessFlags := 25, nameIndex := 1051, descriptorIndex := 27, attributes := #[] }, { accessFlags := 8, nameIndex := 673, descriptorIndex := 31, attributes := #[] }, { accessFlags := 10, nameIndex := 778, descriptorIndex := 35, attributes := #[] }, { accessFlags := 26, nameIndex := 781, descriptorIndex := 782, attributes := #[] }, { accessFlags := 10, nameIndex := 798, descriptorIndex := 31, attributes := #[] }, { accessFlags := 10, nameIndex := 792, descriptorIndex := 350, attributes := #[] }, { accessFlags := 10, nameIndex := 106, descriptorIndex := 31, attributes := #[] }, { accessFlags := 10, nameIndex := 119, descriptorIndex := 31, attributes := #[] }, { accessFlags := 26, nameIndex := 1192, descriptorIndex := 1163, attributes := #[] }, { accessFlags := 26, nameIndex := 1158, descriptorIndex := 1159, attributes := #[] }, { accessFlags := 4120, nameIndex := 311, descriptorIndex := 312, attributes := #[] }])
  fields := #[{ name := "signum", type := .int, accessFlags := 16, slot := 0, constantValue := 0 }, { name := "mag", type := (.array .int), accessFlags := 16, slot := 1, constantValue := 0 }, { name := "bitCountPlusOne", type := .int, accessFlags := 2, slot := 2, constantValue := 0 }, { name := "bitLengthPlusOne", type := .int, accessFlags := 2, slot := 3, constantValue := 0 }, { name := "lowestSetBitPlusTwo", type := .int, accessFlags := 2, slot := 4, constantValue := 0 }, { name := "firstNonzeroIntNumPlusTwo", type := .int, accessFlags := 2, slot := 5, constantValue := 0 }, { name := "LONG_MASK", type := .long, accessFlags := 24, slot := 0, constantValue := 0 }, { name := "MAX_MAG_LENGTH", type := .int, accessFlags := 26, slot := 1, constantValue := 0 }, { name := "PRIME_SEARCH_BIT_LENGTH_LIMIT", type := .int, accessFlags := 26, slot := 2, constantValue := 0 }, { name := "KARATSUBA_THRESHOLD", type := .int, accessFlags := 26, slot := 3, constantValue := 0 }, { name := "TOOM_COOK_THRESHOLD", type := .int, accessFlags := 26, slot := 4, constantValue := 0 }, { name := "KARATSUBA_SQUARE_THRESHOLD", type := .int, accessFlags := 26, slot := 5, constantValue := 0 }, { name := "TOOM_COOK_SQUARE_THRESHOLD", type := .int, accessFlags := 26, slot := 6, constantValue := 0 }, { name := "BURNIKEL_ZIEGLER_THRESHOLD", type := .int, accessFlags := 24, slot := 7, constantValue := 0 }, { name := "BURNIKEL_ZIEGLER_OFFSET", type := .int, accessFlags := 24, slot := 8, constantValue := 0 }, { name := "SCHOENHAGE_BASE_CONVERSION_THRESHOLD", type := .int, accessFlags := 26, slot := 9, constantValue := 0 }, { name := "MULTIPLY_SQUARE_THRESHOLD", type := .int, accessFlags := 26, slot := 10, constantValue := 0 }, { name := "MONTGOMERY_INTRINSIC_THRESHOLD", type := .int, accessFlags := 26, slot := 11, constantValue := 0 }, { name := "bitsPerDigit", type := (.array .long), accessFlags := 10, slot := 12, constantValue := 0 }, { name := "SMALL_PRIME_THRESHOLD", type := .int, accessFlags := 26, slot := 13, constantValue := 0 }, { name := "DEFAULT_PRIME_CERTAINTY", type := .int, accessFlags := 26, slot := 14, constantValue := 0 }, { name := "SMALL_PRIME_PRODUCT", type := (.object "java/math/BigInteger"), accessFlags := 26, slot := 15, constantValue := 0 }, { name := "MAX_CONSTANT", type := .int, accessFlags := 26, slot := 16, constantValue := 0 }, { name := "posConst", type := (.array (.object "java/math/BigInteger")), accessFlags := 26, slot := 17, constantValue := 0 }, { name := "negConst", type := (.array (.object "java/math/BigInteger")), accessFlags := 26, slot := 18, constantValue := 0 }, { name := "powerCache", type := (.array (.array (.object "java/math/BigInteger"))), accessFlags := 74, slot := 19, constantValue := 0 }, { name := "logCache", type := (.array .double), accessFlags := 26, slot := 20, constantValue := 0 }, { name := "LOG_TWO", type := .double, accessFlags := 26, slot := 21, constantValue := 0 }, { name := "ZERO", type := (.object "java/math/BigInteger"), accessFlags := 25, slot := 22, constantValue := 0 }, { name := "ONE", type := (.object "java/math/BigInteger"), accessFlags := 25, slot := 23, constantValue := 0 }, { name := "TWO", type := (.object "java/math/BigInteger"), accessFlags := 25, slot := 24, constantValue := 0 }, { name := "NEGATIVE_ONE", type := (.object "java/math/BigInteger"), accessFlags := 26, slot := 25, constantValue := 0 }, { name := "TEN", type := (.object "java/math/BigInteger"), accessFlags := 25, slot := 26, constantValue := 0 }, { name := "bnExpModThreshTable", type := (.array .int), accessFlags := 8, slot := 27, constantValue := 0 }, { name := "NUM_ZEROS", type := .int, accessFlags := 10, slot := 28, constantValue := 0 }, { name := "ZEROS", type := (.object "java/lang/String"), accessFlags := 26, slot := 29, constantValue := 0 }, { name := "digitsPerLong", type := (.array .int), accessFlags := 10, slot := 30, constantValue := 0 }, { name := "longRadix", type := (.array (.object "java/math/BigInteger")), accessFlags := 10, slot := 31, constantValue := 0 }, { name := "digitsPerInt", type := (.array .int), accessFlags := 10, slot := 32, constantValue := 0 }, { name := "intRadix", type := (.array .int), accessFlags := 10, slot := 33, constantValue := 0 }, { name := "serialVersionUID", type := .long, accessFlags := 26, slot := 34, constantValue := 0 }, { name := "serialPersistentFields", type := (.array (.object "java/io/ObjectStreamField")), accessFlags := 26, slot := 35, constantValue := 0 }, { name := "$assertionsDisabled", type := .boolean, accessFlags := 4120, slot := 36, constantValue := 0 }]
  methods := #[k6m0, k6m1, k6m2, k6m3, k6m4, k6m5]
  instanceTypes := #[.int, (.array .int), .int, .int, .int, .int]
  staticTypes := #[.long, .int, .int, .int, .int, .int, .int, .int, .int, .int, .int, .int, (.array .long), .int, .int, (.object "java/math/BigInteger"), .int, (.array (.object "java/math/BigInteger")), (.array (.object "java/math/BigInteger")), (.array (.array (.object "java/math/BigInteger"))), (.array .double), .double, (.object "java/math/BigInteger"), (.object "java/math/BigInteger"), (.object "java/math/BigInteger"), (.object "java/math/BigInteger"), (.object "java/math/BigInteger"), (.array .int), .int, (.object "java/lang/String"), (.array .int), (.array (.object "java/math/BigInteger")), (.array .int), (.array .int), .long, (.array (.object "java/io/ObjectStreamField")), .boolean]
  resolved := Array.replicate 1542 none
  statics := some 0 }

def pool7 : Array CpInfo := pool [(2, .class_ 4), (1, u "java/lang/CharSequence"), (42, .class_ 48), (0, u "java/lang/CharSequence$1CodePointIterator"), (10, .class_ 60), (0, u "java/lang/CharSequence$1CharIterator"), (5, .class_ 67), (0, u "java/lang/Object")] 63

/-- java/lang/CharSequence -/
def k7 : Class := { plain "java/lang/CharSequence" (some 0) with
  accessFlags := 1537
  interfaces := #[]
  cf := some (fileOf pool7 2 #[.nestMembers #[47, 59]] #[] 1537 66 #[] #[])
  fields := #[]
  methods := #[]
  instanceTypes := #[]
  staticTypes := #[]
  resolved := Array.replicate 131 none
  statics := none }

def pool8 : Array CpInfo := pool [(1, .class_ 2), (0, u "java/lang/constant/Constable"), (0, .class_ 4), (0, u "java/lang/Object")] 6

/-- java/lang/constant/Constable -/
def k8 : Class := { plain "java/lang/constant/Constable" (some 0) with
  accessFlags := 1537
  interfaces := #[]
  cf := some (fileOf pool8 1 #[] #[] 1537 3 #[] #[])
  fields := #[]
  methods := #[]
  instanceTypes := #[]
  staticTypes := #[]
  resolved := Array.replicate 11 none
  statics := none }

def pool9 : Array CpInfo := pool [(1, .class_ 2), (0, u "java/lang/constant/ConstantDesc"), (0, .class_ 4), (0, u "java/lang/Object")] 32

/-- java/lang/constant/ConstantDesc -/
def k9 : Class := { plain "java/lang/constant/ConstantDesc" (some 0) with
  accessFlags := 1537
  interfaces := #[]
  cf := some (fileOf pool9 1 #[] #[] 1537 3 #[] #[])
  fields := #[]
  methods := #[]
  instanceTypes := #[]
  staticTypes := #[]
  resolved := Array.replicate 37 none
  statics := none }

def pool10 : Array CpInfo := pool [(2, .class_ 4), (1, u "java/lang/Object"), (0, u "<init>"), (0, u "()V"), (3, .class_ 12), (1, u "java/lang/String"), (0, u "value"), (0, u "[B"), (2, u "coder"), (0, u "B"), (2, u "hash"), (0, u "I"), (2, u "hashIsZero"), (0, u "Z"), (13, u "COMPACT_STRINGS"), (534, .class_ 576), (0, u "java/lang/CharSequence"), (22, u "CASE_INSENSITIVE_ORDER"), (0, u "Ljava/util/Comparator;"), (500, u "serialPersistentFields"), (0, u "[Ljava/io/ObjectStreamField;"), (0, .class_ 1104), (0, u "java/lang/String$CaseInsensitiveComparator"), (1, .class_ 1107), (0, u "java/io/Serializable"), (0, .class_ 1109), (0, u "java/lang/Comparable"), (0, .class_ 1111), (0, u "java/lang/constant/Constable"), (0, .class_ 1113), (0, u "java/lang/constant/ConstantDesc"), (2, u "serialVersionUID"), (0, u "J"), (3, u "REPL"), (0, u "C"), (2, u "LATIN1"), (1, u "UTF16")] 323

def k10m0 : Method := { name := "<init>", desc := "()V", sig := { parameters := [], returnType := none }, accessFlags := 1, code := none }
/-- java/lang/String -/
def k10 : Class := { plain "java/lang/String" (some 0) with
  accessFlags := 49
  interfaces := #[4, 2, 7, 8, 9]
  cf := some (fileOf pool10 10 #[.nestMembers #[1103]] #[{ accessFlags := 1, nameIndex := 5, descriptorIndex := 6, attributes := #[] }] 49 2 #[1106, 1108, 575, 1110, 1112] #[{ accessFlags := 18, nameIndex := 13, descriptorIndex := 14, attributes := #[] }, { accessFlags := 18, nameIndex := 17, descriptorIndex := 18, attributes := #[] }, { accessFlags := 2, nameIndex := 21, descriptorIndex := 22, attributes := #[] }, { accessFlags := 2, nameIndex := 25, descriptorIndex := 26, attributes := #[] }, { accessFlags := 26, nameIndex := 1116, descriptorIndex := 1117, attributes := #[] }, { accessFlags := 24, nameIndex := 40, descriptorIndex := 26, attributes := #[] }, { accessFlags := 26, nameIndex := 1101, descriptorIndex := 1102, attributes := #[] }, { accessFlags := 26, nameIndex := 1121, descriptorIndex := 1122, attributes := #[] }, { accessFlags := 25, nameIndex := 599, descriptorIndex := 600, attributes := #[] }, { accessFlags := 24, nameIndex := 1125, descriptorIndex := 18, attributes := #[] }, { accessFlags := 24, nameIndex := 1127, descriptorIndex := 18, attributes := #[] }])
  fields := #[{ name := "value", type := (.array .byte), accessFlags := 18, slot := 0, constantValue := 0 }, { name := "coder", type := .byte, accessFlags := 18, slot := 1, constantValue := 0 }, { name := "hash", type := .int, accessFlags := 2, slot := 2, constantValue := 0 }, { name := "hashIsZero", type := .boolean, accessFlags := 2, slot := 3, constantValue := 0 }, { name := "serialVersionUID", type := .long, accessFlags := 26, slot := 0, constantValue := 0 }, { name := "COMPACT_STRINGS", type := .boolean, accessFlags := 24, slot := 1, constantValue := 0 }, { name := "serialPersistentFields", type := (.array (.object "java/io/ObjectStreamField")), accessFlags := 26, slot := 2, constantValue := 0 }, { name := "REPL", type := .char, accessFlags := 26, slot := 3, constantValue := 0 }, { name := "CASE_INSENSITIVE_ORDER", type := (.object "java/util/Comparator"), accessFlags := 25, slot := 4, constantValue := 0 }, { name := "LATIN1", type := .byte, accessFlags := 24, slot := 5, constantValue := 0 }, { name := "UTF16", type := .byte, accessFlags := 24, slot := 6, constantValue := 0 }]
  methods := #[k10m0]
  instanceTypes := #[(.array .byte), .byte, .int, .boolean]
  staticTypes := #[.long, .boolean, (.array (.object "java/io/ObjectStreamField")), .char, (.object "java/util/Comparator"), .byte, .byte]
  resolved := Array.replicate 1451 none
  statics := none }

def pool11 : Array CpInfo := pool [(2, .class_ 4), (1, u "java/lang/Object"), (0, u "<init>"), (0, u "()V"), (35, .class_ 44), (1, u "java/util/Objects"), (0, u "requireNonNull"), (48, u "(Ljava/lang/Object;Ljava/lang/String;)Ljava/lang/Object;")] 89

def k11m0 : Method := { name := "<init>", desc := "()V", sig := { parameters := [], returnType := none }, accessFlags := 2, code := none }
def k11c1 : Code := { maxStack := 3, maxLocals := 2, code := jdk_31_method_11_code, exceptionTable := #[], attributes := #[] }
def k11m1 : Method := { name := "requireNonNull", desc := "(Ljava/lang/Object;Ljava/lang/String;)Ljava/lang/Object;", sig := { parameters := [(.object "java/lang/Object"), (.object "java/lang/String")], returnType := some (.object "java/lang/Object") }, accessFlags := 9, code := some k11c1 }
/-- java/util/Objects -/
def k11 : Class := { plain "java/util/Objects" (some 0) with
  accessFlags := 49
  interfaces := #[]
  cf := some (fileOf pool11 42 #[] #[{ accessFlags := 2, nameIndex := 5, descriptorIndex := 6, attributes := #[] }, { accessFlags := 9, nameIndex := 45, descriptorIndex := 94, attributes := #[] }] 49 2 #[] #[])
  fields := #[]
  methods := #[k11m0, k11m1]
  instanceTypes := #[]
  staticTypes := #[]
  resolved := Array.replicate 184 none
  statics := none }

def pool12 : Array CpInfo := pool [(1, u "java/lang/Cloneable"), (0, .class_ 1), (0, u "java/lang/Object"), (0, .class_ 3)] 3

/-- java/lang/Cloneable -/
def k12 : Class := { plain "java/lang/Cloneable" (some 0) with
  accessFlags := 1537
  interfaces := #[]
  cf := some (fileOf pool12 2 #[] #[] 1537 4 #[] #[])
  fields := #[]
  methods := #[]
  instanceTypes := #[]
  staticTypes := #[]
  resolved := Array.replicate 8 none
  statics := none }

/-- the primitive byte -/
def k13 : Class := { plain "byte" none with kind := .primitive 'B', accessFlags := 0x411 }
/-- [B -/
def k14 : Class := { plain "[B" (some 0) with kind := .array 13 .byte, interfaces := #[12, 4], accessFlags := 1041 }

/-- the primitive int -/
def k15 : Class := { plain "int" none with kind := .primitive 'I', accessFlags := 0x411 }
/-- [I -/
def k16 : Class := { plain "[I" (some 0) with kind := .array 15 .int, interfaces := #[12, 4], accessFlags := 1041 }

/-- [Ljava/math/BigInteger; -/
def k17 : Class := { plain "[Ljava/math/BigInteger;" (some 0) with kind := .array 6 (.object "java/math/BigInteger"), interfaces := #[12, 4], accessFlags := 1041 }

def heap : Heap := #[{ cls := 6, slots := #[.long 0, .int 0, .int 0, .int 0, .int 0, .int 0, .int 0, .int 0, .int 0, .int 0, .int 0, .int 0, .null, .int 0, .int 0, .null, .int 0, .ref 51, .ref 52, .null, .null, .double 0, .ref 2, .ref 4, .ref 7, .ref 5, .ref 31, .null, .int 0, .null, .null, .null, .null, .null, .long 0, .null, .int 0], vm := .statics 6 },
  { cls := 16, slots := #[], vm := .none },
  { cls := 6, slots := #[.int 0, .ref 1, .int 0, .int 0, .int 0, .int 0], vm := .none },
  { cls := 16, slots := #[.int 1], vm := .none },
  { cls := 6, slots := #[.int 1, .ref 3, .int 0, .int 0, .int 0, .int 0], vm := .none },
  { cls := 6, slots := #[.int (-1), .ref 3, .int 0, .int 0, .int 0, .int 0], vm := .none },
  { cls := 16, slots := #[.int 2], vm := .none },
  { cls := 6, slots := #[.int 1, .ref 6, .int 0, .int 0, .int 0, .int 0], vm := .none },
  { cls := 6, slots := #[.int (-1), .ref 6, .int 0, .int 0, .int 0, .int 0], vm := .none },
  { cls := 16, slots := #[.int 3], vm := .none },
  { cls := 6, slots := #[.int 1, .ref 9, .int 0, .int 0, .int 0, .int 0], vm := .none },
  { cls := 6, slots := #[.int (-1), .ref 9, .int 0, .int 0, .int 0, .int 0], vm := .none },
  { cls := 16, slots := #[.int 4], vm := .none },
  { cls := 6, slots := #[.int 1, .ref 12, .int 0, .int 0, .int 0, .int 0], vm := .none },
  { cls := 6, slots := #[.int (-1), .ref 12, .int 0, .int 0, .int 0, .int 0], vm := .none },
  { cls := 16, slots := #[.int 5], vm := .none },
  { cls := 6, slots := #[.int 1, .ref 15, .int 0, .int 0, .int 0, .int 0], vm := .none },
  { cls := 6, slots := #[.int (-1), .ref 15, .int 0, .int 0, .int 0, .int 0], vm := .none },
  { cls := 16, slots := #[.int 6], vm := .none },
  { cls := 6, slots := #[.int 1, .ref 18, .int 0, .int 0, .int 0, .int 0], vm := .none },
  { cls := 6, slots := #[.int (-1), .ref 18, .int 0, .int 0, .int 0, .int 0], vm := .none },
  { cls := 16, slots := #[.int 7], vm := .none },
  { cls := 6, slots := #[.int 1, .ref 21, .int 0, .int 0, .int 0, .int 0], vm := .none },
  { cls := 6, slots := #[.int (-1), .ref 21, .int 0, .int 0, .int 0, .int 0], vm := .none },
  { cls := 16, slots := #[.int 8], vm := .none },
  { cls := 6, slots := #[.int 1, .ref 24, .int 0, .int 0, .int 0, .int 0], vm := .none },
  { cls := 6, slots := #[.int (-1), .ref 24, .int 0, .int 0, .int 0, .int 0], vm := .none },
  { cls := 16, slots := #[.int 9], vm := .none },
  { cls := 6, slots := #[.int 1, .ref 27, .int 0, .int 0, .int 0, .int 0], vm := .none },
  { cls := 6, slots := #[.int (-1), .ref 27, .int 0, .int 0, .int 0, .int 0], vm := .none },
  { cls := 16, slots := #[.int 10], vm := .none },
  { cls := 6, slots := #[.int 1, .ref 30, .int 0, .int 0, .int 0, .int 0], vm := .none },
  { cls := 6, slots := #[.int (-1), .ref 30, .int 0, .int 0, .int 0, .int 0], vm := .none },
  { cls := 16, slots := #[.int 11], vm := .none },
  { cls := 6, slots := #[.int 1, .ref 33, .int 0, .int 0, .int 0, .int 0], vm := .none },
  { cls := 6, slots := #[.int (-1), .ref 33, .int 0, .int 0, .int 0, .int 0], vm := .none },
  { cls := 16, slots := #[.int 12], vm := .none },
  { cls := 6, slots := #[.int 1, .ref 36, .int 0, .int 0, .int 0, .int 0], vm := .none },
  { cls := 6, slots := #[.int (-1), .ref 36, .int 0, .int 0, .int 0, .int 0], vm := .none },
  { cls := 16, slots := #[.int 13], vm := .none },
  { cls := 6, slots := #[.int 1, .ref 39, .int 0, .int 0, .int 0, .int 0], vm := .none },
  { cls := 6, slots := #[.int (-1), .ref 39, .int 0, .int 0, .int 0, .int 0], vm := .none },
  { cls := 16, slots := #[.int 14], vm := .none },
  { cls := 6, slots := #[.int 1, .ref 42, .int 0, .int 0, .int 0, .int 0], vm := .none },
  { cls := 6, slots := #[.int (-1), .ref 42, .int 0, .int 0, .int 0, .int 0], vm := .none },
  { cls := 16, slots := #[.int 15], vm := .none },
  { cls := 6, slots := #[.int 1, .ref 45, .int 0, .int 0, .int 0, .int 0], vm := .none },
  { cls := 6, slots := #[.int (-1), .ref 45, .int 0, .int 0, .int 0, .int 0], vm := .none },
  { cls := 16, slots := #[.int 16], vm := .none },
  { cls := 6, slots := #[.int 1, .ref 48, .int 0, .int 0, .int 0, .int 0], vm := .none },
  { cls := 6, slots := #[.int (-1), .ref 48, .int 0, .int 0, .int 0, .int 0], vm := .none },
  { cls := 17, slots := #[.null, .ref 4, .ref 7, .ref 10, .ref 13, .ref 16, .ref 19, .ref 22, .ref 25, .ref 28, .ref 31, .ref 34, .ref 37, .ref 40, .ref 43, .ref 46, .ref 49], vm := .none },
  { cls := 17, slots := #[.null, .ref 5, .ref 8, .ref 11, .ref 14, .ref 17, .ref 20, .ref 23, .ref 26, .ref 29, .ref 32, .ref 35, .ref 38, .ref 41, .ref 44, .ref 47, .ref 50], vm := .none }]
def classes : Array Class := #[k0, k1, k2, k3, k4, k5, k6, k7, k8, k9, k10, k11, k12, k13, k14, k15, k16, k17]
def interned : List (Array UInt16 × Addr) := []
def slotsUsed : Nat := 285
def theMethod : MethodId := ⟨1, 3⟩
def args0 : Array Value := #[.long 5, .long 70000000000]
def aboutOver (below : List Frame) : State where
  vm := { classes := classes, interned := interned.toArray }
  heap := heap
  slotsUsed := slotsUsed
  threads := #[{ frames := .invoking theMethod args0 :: below }]
def below0 : List Frame := [.native { method := ⟨0, 0⟩, args := #[] }]
def about1 : State := aboutOver below0
def p0 : Program := .bare "" "" ""
def e0 : Env := launch0.env 0 0 0
theorem w_frames : about1.frames = Frame.invoking theMethod args0 :: below0 := rfl
set_option maxRecDepth 65536 in
theorem w_args : argsFit about1.vm theMethod args0 = true := by decide +kernel
set_option maxRecDepth 65536 in
theorem w_heap : heapFits about1 = true := by decide +kernel
set_option maxRecDepth 65536 in
theorem w_runnable : about1.curStatus? = some .runnable := by decide +kernel
set_option maxRecDepth 65536 in
theorem w_alone : about1.alone = true := by decide +kernel
set_option maxRecDepth 65536 in
theorem w_named : about1.methodNamed? x = some theMethod := by decide +kernel
set_option maxRecDepth 65536 in
theorem w_hears : about1.hears theMethod below0 = true := by decide +kernel
set_option maxRecDepth 65536 in
theorem w_ripe : about1.ripe theMethod args0 below0 = true := by decide +kernel
theorem w_running : about1.status = .running := rfl
set_option maxRecDepth 65536 in
theorem w_room : about1.hasRoom e0.platform room_1 = true :=
  launch0.hasRoom_least _ room_1 (by decide +kernel) (by decide +kernel) (by decide +kernel) (by decide +kernel) (by decide +kernel) (by decide +kernel)
theorem allAtoms_all (ts : List Jvm.Cond) (a : Array Jvm.Value) (st : Jvm.State) : (allAtoms ts).before a st = ts.all (fun c => c.before a st) := by
  induction ts with
  | nil => rfl
  | cons c t ih =>
    show (Jvm.Cond.and c (allAtoms t)).before a st = _
    rw [Jvm.Cond.before_and, ih, List.all_cons]
def words1 : List Jvm.Cond := Jvm.Cond.code x code maxLocals ret :: tables_1
/-- a 'code' word, met by the world's own term for the bytes: nothing is compared byte by byte -/
theorem code_word {y : MethodName} {bytes : ByteArray} {mx : Nat} {rt : Option FieldType} {a : Array Value} {s : State} {m : MethodId} {meth : Method} {c : Code} (h1 : s.methodNamed? y = some m) (h2 : s.vm.method? m = some meth) (h3 : meth.code = some c) (h4 : c.code = bytes)
    (h5 : (c.maxLocals == mx && c.exceptionTable.isEmpty && decide (c.maxStack ≤ mostOperands) && decide (meth.sig.returnType = rt) && !meth.locks && decide (parseMethodDescriptor y.desc = some meth.sig)) = true) : (Jvm.Cond.code y bytes mx rt).before a s = true := by
  simp only [Bool.and_eq_true, beq_iff_eq, Bool.not_eq_true', decide_eq_true_eq] at h5
  obtain ⟨⟨⟨⟨⟨g1, g2⟩, g3⟩, g4⟩, g5⟩, g6⟩ := h5
  simp [Cond.before, Cond.holds, Cond.value, h1, h2, h3, h4, g1, g2, g3, g4, g5, g6]
def isCode : Jvm.Cond → Bool
  | .code _ _ _ _ => true
  | _ => false
theorem all_split {L : List Jvm.Cond} {P : Jvm.Cond → Bool} (h1 : L.all (fun c => isCode c || P c) = true) (h2 : ∀ c ∈ L.filter isCode, P c = true) : L.all P = true := by
  refine List.all_eq_true.mpr fun c hc => ?_
  have h := List.all_eq_true.mp h1 c hc
  rcases Bool.eq_false_or_eq_true (isCode c) with hi | hi
  · exact h2 c (List.mem_filter.mpr ⟨hc, hi⟩)
  · simpa [hi] using h
set_option maxRecDepth 65536 in
theorem w_c0 : (Jvm.Cond.code x code maxLocals ret).before args0 about1 = true := code_word (m := ⟨1, 3⟩) (meth := k1m3) (c := k1c3) (by decide +kernel) rfl rfl rfl (by decide +kernel)
set_option maxRecDepth 65536 in
theorem w_c1 : (Jvm.Cond.code ({ cls := "com/example/granica/granica/Rational", name := "valueOf", desc := "(J)Lcom/example/granica/granica/Rational;" } : Jvm.MethodName) prog_30_method_2_code (2 : Nat) (Option.some (Jvm.ClassFile.FieldType.object "com/example/granica/granica/Rational"))).before args0 about1 = true := code_word (m := ⟨3, 1⟩) (meth := k3m1) (c := k3c1) (by decide +kernel) rfl rfl rfl (by decide +kernel)
set_option maxRecDepth 65536 in
theorem w_c2 : (Jvm.Cond.code ({ cls := "java/math/BigInteger", name := "valueOf", desc := "(J)Ljava/math/BigInteger;" } : Jvm.MethodName) jdk_2097_method_29_code (2 : Nat) (Option.some (Jvm.ClassFile.FieldType.object "java/math/BigInteger"))).before args0 about1 = true := code_word (m := ⟨6, 0⟩) (meth := k6m0) (c := k6c0) (by decide +kernel) rfl rfl rfl (by decide +kernel)
set_option maxRecDepth 65536 in
theorem w_c3 : (Jvm.Cond.code ({ cls := "com/example/granica/granica/Rational", name := "<init>", desc := "(Ljava/math/BigInteger;Ljava/math/BigInteger;)V" } : Jvm.MethodName) prog_30_method_1_code (3 : Nat) (Option.none : Option Jvm.ClassFile.FieldType)).before args0 about1 = true := code_word (m := ⟨3, 0⟩) (meth := k3m0) (c := k3c0) (by decide +kernel) rfl rfl rfl (by decide +kernel)
set_option maxRecDepth 65536 in
theorem w_c4 : (Jvm.Cond.code ({ cls := "java/lang/Object", name := "<init>", desc := "()V" } : Jvm.MethodName) object_method_1_code (1 : Nat) (Option.none : Option Jvm.ClassFile.FieldType)).before args0 about1 = true := code_word (m := ⟨0, 0⟩) (meth := k0m0) (c := k0c0) (by decide +kernel) rfl rfl rfl (by decide +kernel)
set_option maxRecDepth 65536 in
theorem w_c5 : (Jvm.Cond.code ({ cls := "com/example/granica/granica/Rational", name := "valueOf", desc := "(JJ)Lcom/example/granica/granica/Rational;" } : Jvm.MethodName) prog_30_method_4_code (4 : Nat) (Option.some (Jvm.ClassFile.FieldType.object "com/example/granica/granica/Rational"))).before args0 about1 = true := code_word (m := ⟨3, 2⟩) (meth := k3m2) (c := k3c2) (by decide +kernel) rfl rfl rfl (by decide +kernel)
set_option maxRecDepth 65536 in
theorem w_c6 : (Jvm.Cond.code ({ cls := "com/example/granica/granica/Rational", name := "valueOf", desc := "(Ljava/math/BigInteger;Ljava/math/BigInteger;)Lcom/example/granica/granica/Rational;" } : Jvm.MethodName) prog_30_method_5_code (2 : Nat) (Option.some (Jvm.ClassFile.FieldType.object "com/example/granica/granica/Rational"))).before args0 about1 = true := code_word (m := ⟨3, 3⟩) (meth := k3m3) (c := k3c3) (by decide +kernel) rfl rfl rfl (by decide +kernel)
set_option maxRecDepth 65536 in
theorem w_c7 : (Jvm.Cond.code ({ cls := "java/util/Objects", name := "requireNonNull", desc := "(Ljava/lang/Object;Ljava/lang/String;)Ljava/lang/Object;" } : Jvm.MethodName) jdk_31_method_11_code (2 : Nat) (Option.some (Jvm.ClassFile.FieldType.object "java/lang/Object"))).before args0 about1 = true := code_word (m := ⟨11, 1⟩) (meth := k11m1) (c := k11c1) (by decide +kernel) rfl rfl rfl (by decide +kernel)
set_option maxRecDepth 65536 in
theorem w_c8 : (Jvm.Cond.code ({ cls := "java/math/BigInteger", name := "signum", desc := "()I" } : Jvm.MethodName) jdk_2097_method_81_code (1 : Nat) (Option.some Jvm.ClassFile.FieldType.int)).before args0 about1 = true := code_word (m := ⟨6, 2⟩) (meth := k6m2) (c := k6c2) (by decide +kernel) rfl rfl rfl (by decide +kernel)
set_option maxRecDepth 65536 in
theorem w_c9 : (Jvm.Cond.code ({ cls := "com/example/granica/granica/Rational", name := "reduce", desc := "(Ljava/math/BigInteger;Ljava/math/BigInteger;)Lcom/example/granica/granica/Rational;" } : Jvm.MethodName) prog_30_method_14_code (4 : Nat) (Option.some (Jvm.ClassFile.FieldType.object "com/example/granica/granica/Rational"))).before args0 about1 = true := code_word (m := ⟨3, 4⟩) (meth := k3m4) (c := k3c4) (by decide +kernel) rfl rfl rfl (by decide +kernel)
set_option maxRecDepth 65536 in
theorem w_c10 : (Jvm.Cond.code ({ cls := "java/math/BigInteger", name := "equals", desc := "(Ljava/lang/Object;)Z" } : Jvm.MethodName) jdk_2097_method_124_code (7 : Nat) (Option.some Jvm.ClassFile.FieldType.boolean)).before args0 about1 = true := code_word (m := ⟨6, 5⟩) (meth := k6m5) (c := k6c5) (by decide +kernel) rfl rfl rfl (by decide +kernel)
set_option maxRecDepth 65536 in
theorem w_c11 : (Jvm.Cond.code ({ cls := "com/example/granica/granica/Rational", name := "isFinite", desc := "()Z" } : Jvm.MethodName) prog_30_method_20_code (1 : Nat) (Option.some Jvm.ClassFile.FieldType.boolean)).before args0 about1 = true := code_word (m := ⟨3, 5⟩) (meth := k3m5) (c := k3c5) (by decide +kernel) rfl rfl rfl (by decide +kernel)
set_option maxRecDepth 65536 in
theorem w_c12 : (Jvm.Cond.code ({ cls := "com/example/granica/granica/Rational", name := "equals", desc := "(Ljava/lang/Object;)Z" } : Jvm.MethodName) prog_30_method_34_code (3 : Nat) (Option.some Jvm.ClassFile.FieldType.boolean)).before args0 about1 = true := code_word (m := ⟨3, 8⟩) (meth := k3m8) (c := k3c8) (by decide +kernel) rfl rfl rfl (by decide +kernel)
set_option maxRecDepth 65536 in
theorem w_c13 : (Jvm.Cond.code ({ cls := "com/example/granica/granica/Rational", name := "signum", desc := "()I" } : Jvm.MethodName) prog_30_method_21_code (1 : Nat) (Option.some Jvm.ClassFile.FieldType.int)).before args0 about1 = true := code_word (m := ⟨3, 6⟩) (meth := k3m6) (c := k3c6) (by decide +kernel) rfl rfl rfl (by decide +kernel)
set_option maxRecDepth 65536 in
theorem w_c14 : (Jvm.Cond.code ({ cls := "com/example/granica/granica/RationalValueOfPinLaw", name := "sign", desc := "(J)I" } : Jvm.MethodName) method_2_code (2 : Nat) (Option.some Jvm.ClassFile.FieldType.int)).before args0 about1 = true := code_word (m := ⟨1, 1⟩) (meth := k1m1) (c := k1c1) (by decide +kernel) rfl rfl rfl (by decide +kernel)
set_option maxRecDepth 65536 in
theorem w_c15 : (Jvm.Cond.code ({ cls := "com/example/granica/granica/Rational", name := "compareTo", desc := "(Lcom/example/granica/granica/Rational;)I" } : Jvm.MethodName) prog_30_method_33_code (4 : Nat) (Option.some Jvm.ClassFile.FieldType.int)).before args0 about1 = true := code_word (m := ⟨3, 7⟩) (meth := k3m7) (c := k3c7) (by decide +kernel) rfl rfl rfl (by decide +kernel)
set_option maxRecDepth 65536 in
theorem w_c16 : (Jvm.Cond.code ({ cls := "java/math/BigInteger", name := "compareTo", desc := "(Ljava/math/BigInteger;)I" } : Jvm.MethodName) jdk_2097_method_121_code (2 : Nat) (Option.some Jvm.ClassFile.FieldType.int)).before args0 about1 = true := code_word (m := ⟨6, 3⟩) (meth := k6m3) (c := k6c3) (by decide +kernel) rfl rfl rfl (by decide +kernel)
set_option maxRecDepth 65536 in
theorem w_c17 : (Jvm.Cond.code ({ cls := "java/math/BigInteger", name := "compareMagnitude", desc := "(Ljava/math/BigInteger;)I" } : Jvm.MethodName) jdk_2097_method_122_code (9 : Nat) (Option.some Jvm.ClassFile.FieldType.int)).before args0 about1 = true := code_word (m := ⟨6, 4⟩) (meth := k6m4) (c := k6c4) (by decide +kernel) rfl rfl rfl (by decide +kernel)
set_option maxRecDepth 65536 in
theorem w_c18 : (Jvm.Cond.code ({ cls := "com/example/granica/granica/RationalValueOfPinLaw", name := "cmp", desc := "(JJ)I" } : Jvm.MethodName) method_3_code (4 : Nat) (Option.some Jvm.ClassFile.FieldType.int)).before args0 about1 = true := code_word (m := ⟨1, 2⟩) (meth := k1m2) (c := k1c2) (by decide +kernel) rfl rfl rfl (by decide +kernel)
set_option maxRecDepth 65536 in
theorem w_c19 : (Jvm.Cond.code ({ cls := "java/math/BigInteger", name := "<init>", desc := "(J)V" } : Jvm.MethodName) jdk_2097_method_30_code (4 : Nat) (Option.none : Option Jvm.ClassFile.FieldType)).before args0 about1 = true := code_word (m := ⟨6, 1⟩) (meth := k6m1) (c := k6c1) (by decide +kernel) rfl rfl rfl (by decide +kernel)
set_option maxRecDepth 65536 in
theorem w_c20 : (Jvm.Cond.code ({ cls := "java/lang/Number", name := "<init>", desc := "()V" } : Jvm.MethodName) jdk_18_method_1_code (1 : Nat) (Option.none : Option Jvm.ClassFile.FieldType)).before args0 about1 = true := code_word (m := ⟨5, 0⟩) (meth := k5m0) (c := k5c0) (by decide +kernel) rfl rfl rfl (by decide +kernel)
def codes1 : List Jvm.Cond := [Jvm.Cond.code x code maxLocals ret, Jvm.Cond.code ({ cls := "com/example/granica/granica/Rational", name := "valueOf", desc := "(J)Lcom/example/granica/granica/Rational;" } : Jvm.MethodName) prog_30_method_2_code (2 : Nat) (Option.some (Jvm.ClassFile.FieldType.object "com/example/granica/granica/Rational")), Jvm.Cond.code ({ cls := "java/math/BigInteger", name := "valueOf", desc := "(J)Ljava/math/BigInteger;" } : Jvm.MethodName) jdk_2097_method_29_code (2 : Nat) (Option.some (Jvm.ClassFile.FieldType.object "java/math/BigInteger")), Jvm.Cond.code ({ cls := "com/example/granica/granica/Rational", name := "<init>", desc := "(Ljava/math/BigInteger;Ljava/math/BigInteger;)V" } : Jvm.MethodName) prog_30_method_1_code (3 : Nat) (Option.none : Option Jvm.ClassFile.FieldType), Jvm.Cond.code ({ cls := "java/lang/Object", name := "<init>", desc := "()V" } : Jvm.MethodName) object_method_1_code (1 : Nat) (Option.none : Option Jvm.ClassFile.FieldType), Jvm.Cond.code ({ cls := "com/example/granica/granica/Rational", name := "valueOf", desc := "(JJ)Lcom/example/granica/granica/Rational;" } : Jvm.MethodName) prog_30_method_4_code (4 : Nat) (Option.some (Jvm.ClassFile.FieldType.object "com/example/granica/granica/Rational")), Jvm.Cond.code ({ cls := "com/example/granica/granica/Rational", name := "valueOf", desc := "(Ljava/math/BigInteger;Ljava/math/BigInteger;)Lcom/example/granica/granica/Rational;" } : Jvm.MethodName) prog_30_method_5_code (2 : Nat) (Option.some (Jvm.ClassFile.FieldType.object "com/example/granica/granica/Rational")), Jvm.Cond.code ({ cls := "java/util/Objects", name := "requireNonNull", desc := "(Ljava/lang/Object;Ljava/lang/String;)Ljava/lang/Object;" } : Jvm.MethodName) jdk_31_method_11_code (2 : Nat) (Option.some (Jvm.ClassFile.FieldType.object "java/lang/Object")), Jvm.Cond.code ({ cls := "java/math/BigInteger", name := "signum", desc := "()I" } : Jvm.MethodName) jdk_2097_method_81_code (1 : Nat) (Option.some Jvm.ClassFile.FieldType.int), Jvm.Cond.code ({ cls := "com/example/granica/granica/Rational", name := "reduce", desc := "(Ljava/math/BigInteger;Ljava/math/BigInteger;)Lcom/example/granica/granica/Rational;" } : Jvm.MethodName) prog_30_method_14_code (4 : Nat) (Option.some (Jvm.ClassFile.FieldType.object "com/example/granica/granica/Rational")), Jvm.Cond.code ({ cls := "java/math/BigInteger", name := "equals", desc := "(Ljava/lang/Object;)Z" } : Jvm.MethodName) jdk_2097_method_124_code (7 : Nat) (Option.some Jvm.ClassFile.FieldType.boolean), Jvm.Cond.code ({ cls := "com/example/granica/granica/Rational", name := "isFinite", desc := "()Z" } : Jvm.MethodName) prog_30_method_20_code (1 : Nat) (Option.some Jvm.ClassFile.FieldType.boolean), Jvm.Cond.code ({ cls := "com/example/granica/granica/Rational", name := "equals", desc := "(Ljava/lang/Object;)Z" } : Jvm.MethodName) prog_30_method_34_code (3 : Nat) (Option.some Jvm.ClassFile.FieldType.boolean), Jvm.Cond.code ({ cls := "com/example/granica/granica/Rational", name := "signum", desc := "()I" } : Jvm.MethodName) prog_30_method_21_code (1 : Nat) (Option.some Jvm.ClassFile.FieldType.int), Jvm.Cond.code ({ cls := "com/example/granica/granica/RationalValueOfPinLaw", name := "sign", desc := "(J)I" } : Jvm.MethodName) method_2_code (2 : Nat) (Option.some Jvm.ClassFile.FieldType.int), Jvm.Cond.code ({ cls := "com/example/granica/granica/Rational", name := "compareTo", desc := "(Lcom/example/granica/granica/Rational;)I" } : Jvm.MethodName) prog_30_method_33_code (4 : Nat) (Option.some Jvm.ClassFile.FieldType.int), Jvm.Cond.code ({ cls := "java/math/BigInteger", name := "compareTo", desc := "(Ljava/math/BigInteger;)I" } : Jvm.MethodName) jdk_2097_method_121_code (2 : Nat) (Option.some Jvm.ClassFile.FieldType.int), Jvm.Cond.code ({ cls := "java/math/BigInteger", name := "compareMagnitude", desc := "(Ljava/math/BigInteger;)I" } : Jvm.MethodName) jdk_2097_method_122_code (9 : Nat) (Option.some Jvm.ClassFile.FieldType.int), Jvm.Cond.code ({ cls := "com/example/granica/granica/RationalValueOfPinLaw", name := "cmp", desc := "(JJ)I" } : Jvm.MethodName) method_3_code (4 : Nat) (Option.some Jvm.ClassFile.FieldType.int), Jvm.Cond.code ({ cls := "java/math/BigInteger", name := "<init>", desc := "(J)V" } : Jvm.MethodName) jdk_2097_method_30_code (4 : Nat) (Option.none : Option Jvm.ClassFile.FieldType), Jvm.Cond.code ({ cls := "java/lang/Number", name := "<init>", desc := "()V" } : Jvm.MethodName) jdk_18_method_1_code (1 : Nat) (Option.none : Option Jvm.ClassFile.FieldType)]
set_option maxRecDepth 65536 in
theorem codes_eq : words1.filter isCode = codes1 := rfl
theorem w_codes : ∀ c ∈ words1.filter isCode, c.before args0 about1 = true := by
  rw [codes_eq]
  intro c hc
  simp only [codes1, List.mem_cons, List.not_mem_nil, or_false] at hc
  rcases hc with rfl | rfl | rfl | rfl | rfl | rfl | rfl | rfl | rfl | rfl | rfl | rfl | rfl | rfl | rfl | rfl | rfl | rfl | rfl | rfl | rfl
  · exact w_c0
  · exact w_c1
  · exact w_c2
  · exact w_c3
  · exact w_c4
  · exact w_c5
  · exact w_c6
  · exact w_c7
  · exact w_c8
  · exact w_c9
  · exact w_c10
  · exact w_c11
  · exact w_c12
  · exact w_c13
  · exact w_c14
  · exact w_c15
  · exact w_c16
  · exact w_c17
  · exact w_c18
  · exact w_c19
  · exact w_c20
set_option maxRecDepth 65536 in
theorem w_t1 : (words1.take 24).all (fun c => isCode c || c.before args0 about1) = true := by decide +kernel
set_option maxRecDepth 65536 in
theorem w_t2 : ((words1.drop 24).take 24).all (fun c => isCode c || c.before args0 about1) = true := by decide +kernel
set_option maxRecDepth 65536 in
theorem w_t3 : (((words1.drop 24).drop 24).take 24).all (fun c => isCode c || c.before args0 about1) = true := by decide +kernel
set_option maxRecDepth 65536 in
theorem w_t4 : ((((words1.drop 24).drop 24).drop 24).take 24).all (fun c => isCode c || c.before args0 about1) = true := by decide +kernel
set_option maxRecDepth 65536 in
theorem w_t5 : ((((words1.drop 24).drop 24).drop 24).drop 24).all (fun c => isCode c || c.before args0 about1) = true := by decide +kernel
theorem w_tables : (allAtoms (Jvm.Cond.code x code maxLocals ret :: tables_1)).before args0 about1 = true := by
  rw [allAtoms_all]
  show words1.all (fun c => c.before args0 about1) = true
  refine all_split ?_ w_codes
  rw [← List.take_append_drop 24 words1, List.all_append, w_t1, ← List.take_append_drop 24 (words1.drop 24), List.all_append, w_t2, ← List.take_append_drop 24 ((words1.drop 24).drop 24), List.all_append, w_t3, ← List.take_append_drop 24 (((words1.drop 24).drop 24).drop 24), List.all_append, w_t4, w_t5]
  rfl
set_option maxRecDepth 65536 in
theorem w_rest : rest_1_c.before args0 about1 = true := by decide +kernel
set_option maxRecDepth 65536 in
theorem w_case : (Jvm.Cond.and given_1 narrow_1).before args0 about1 = true := by decide +kernel
theorem w_applies : (headSpec (Jvm.Cond.code x code maxLocals ret :: tables_1) room_1).applies x e0.platform about1 = true :=
  (Spec.applies_iff w_frames).mpr ⟨w_running, w_runnable, w_alone, w_named, w_hears, w_ripe, w_room, w_tables⟩
theorem atStart : AtStart classFile x code maxLocals ret World_1 tables_1 room_1 Calls_1 rest_1 Pre_1 launch0 p0 e0 about1 theMethod args0 below0 :=
  ⟨lists_1, trivial, launch0.admits_env _ _ _, launch0.least_env, fairChoices_fair.cas, fairChoices_fair.clock, w_frames, w_args, w_heap, w_applies, trivial, w_rest, w_case⟩
end start1
theorem witness_1 : WitnessClaimed_1 := ⟨start1.p0, start1.e0, start1.about1, start1.theMethod, start1.args0, start1.below0, start1.atStart⟩
end Jvm.Pilot.@@N@@
