import JvmDerived
import JvmDerived.Pilot.@@N@@Statement
import JvmDerived.Pilot.@@N@@Code
set_option linter.unusedVariables false
set_option linter.unusedSimpArgs false

namespace Jvm.RoadKit
open Sem ClassFile Op Lib Jvm.Stand Jvm.Free Jvm.LawKit
section New
variable {p : Program} {l : Launch} {e : Env} {R : Room} {s : State} {m : MethodId} {args : Array Value} {below : List Frame} {meth : Method} {c : Code} {T : State} {locs : List Loc} {cells slots : Nat}
theorem retI (X : Stand p l e R s m args below meth c T locs cells slots) (hx : p.tables.exec = Jvm.exec) {pc : Nat} {Ls : Array Slot} {z : Int32} {rest : List Value} (hret : meth.sig.returnType = some .int) (hd : decode c.code pc = .ok (.ireturn, 1)) {fs : List Frame}
    (hl : ∀ (f : JFrame) (acts : List Action), f.method = m → f.locked = none → f.entered = [] → (doReturn e (T.setTop f) acts (some (.int z))).1 = T.setFrames fs) : Steps p.tables e below (T.setTop (mkF m pc Ls (.int z :: rest))) (T.setFrames fs) := by
  have hm' : T.vm.method? m = some meth := X.method'
  have hn : narrow .int (.int z) = .int z := rfl
  show Steps p.tables e below (T.setTop { method := m, pc := pc, locals := Ls, stack := _ :: rest, locked := none }) _
  jvm_step X.here [X.here.top, hx, hd, hm', hret, hn]
  first | (intro acts; rw [hl _ acts rfl rfl rfl]) | rw [hl _ _ rfl rfl rfl]
  exact Steps.refl _
end New
end Jvm.RoadKit

namespace Jvm.Pilot.@@N@@
namespace StrChars
open Jvm Sem ClassFile Op Lib Jvm.Stand Jvm.Free.XT Jvm.Free.ALB Jvm.Free.JM Jvm.Free
open Jvm.Lib.Cold (StaticIs)
def lo8 (x : Int32) : Int32 := x.toInt8.toInt32
theorem lo8_mask {x : Int32} (h0 : ¬ x < 0) (h1 : ¬ 255 < x) : lo8 x &&& 255 = x := by
  have t : ∀ k : Fin 256, lo8 (Int32.ofNat k.val) &&& 255 = Int32.ofNat k.val := by decide +kernel
  rw [Int32.lt_iff_toInt_lt] at h0 h1
  have e0 : (0 : Int32).toInt = 0 := rfl
  have e1 : (255 : Int32).toInt = 255 := rfl
  obtain ⟨k, hk⟩ : ∃ k : Nat, x.toInt = k := ⟨x.toInt.toNat, by omega⟩
  have hx : x = Int32.ofNat k := Int32.toInt_inj.mp (by rw [hk, Int32.toInt_ofNat_small (by omega)])
  rw [hx]
  exact t ⟨k, by omega⟩
end StrChars
namespace StrChars.Road
open Jvm Sem ClassFile Op Lib Jvm.Stand Jvm.Free Jvm.Free.XT
open Jvm.Lib.Cold (StaticIs)
abbrev ST : String := "java/lang/String"
end StrChars.Road
namespace StrChars
open Jvm Sem ClassFile Op Lib Jvm.Stand Jvm.Free.XT Jvm.Free.ALB Jvm.Free.JM Jvm.Free
open Jvm.Lib.Cold (StaticIs)
def hi8 (x : Int32) : Int32 := lo8 (x >>> ((8 : Int32) &&& 31))
def pairCh (u v : Int32) : Int32 := (((u &&& 255) <<< ((0 : Int32) &&& 31)) ||| ((v &&& 255) <<< ((8 : Int32) &&& 31))).toUInt32.toUInt16.toUInt32.toInt32
theorem shr0 (c : Int32) : c >>> ((0 : Int32) &&& 31) = c := by
  have e : ((0 : Int32) &&& 31) = 0 := by decide
  rw [e]
  apply Int32.toBitVec_inj.mp
  rw [Int32.toBitVec_shiftRight]
  have e1 : ((0 : Int32).toBitVec.smod 32) = 0#32 := by decide
  rw [e1, BitVec.sshiftRight_eq']
  exact BitVec.sshiftRight_zero
theorem lo8_and (x : Int32) : (lo8 x &&& 255).toBitVec.toNat = x.toBitVec.toNat % 256 := by
  have h : (lo8 x).toBitVec = (x.toBitVec.signExtend 8).signExtend 32 := by rw [lo8, Int8.toBitVec_toInt32, Int32.toBitVec_toInt8]
  rw [Int32.toBitVec_and, BitVec.toNat_and, h]
  have e : ((x.toBitVec.signExtend 8).signExtend 32).toNat % 256 = x.toBitVec.toNat % 256 := by
    rw [BitVec.toNat_signExtend]
    have hlt := x.toBitVec.isLt
    simp only [BitVec.toNat_setWidth, BitVec.toNat_signExtend]
    split <;> split <;> omega
  rw [← e]
  exact Nat.and_two_pow_sub_one_eq_mod _ 8
theorem pair_says {c : Int32} (h0 : ¬ c < 0) (h1 : ¬ 65535 < c) : pairCh (lo8 c) (hi8 c) = c := by
  rw [Int32.lt_iff_toInt_lt] at h0 h1
  have e0 : (0 : Int32).toInt = 0 := rfl
  have e1 : (65535 : Int32).toInt = 65535 := rfl
  have hc : c.toInt = c.toBitVec.toNat := by
    have := c.toBitVec.isLt
    have e : c.toInt = c.toBitVec.toInt := rfl
    rw [e] at h0 h1
    rw [e]
    rw [BitVec.toInt_eq_toNat_cond] at h0 h1 ⊢
    split at h0 <;> split <;> omega
  have hn : c.toBitVec.toNat < 65536 := by omega
  have a1 := lo8_and c
  have a2 : (hi8 c &&& 255).toBitVec.toNat = c.toBitVec.toNat / 256 := by
    rw [hi8, lo8_and]
    have e : ((8 : Int32) &&& 31) = 8 := by decide
    rw [e, Int32.toBitVec_shiftRight]
    have e2 : ((8 : Int32).toBitVec.smod 32) = 8#32 := by decide
    rw [e2, BitVec.sshiftRight_eq', BitVec.toNat_sshiftRight_of_msb_false (by rw [BitVec.msb_eq_false_iff_two_mul_lt]; omega)]
    show c.toBitVec.toNat >>> 8 % 256 = _
    rw [Nat.shiftRight_eq_div_pow]
    omega
  unfold pairCh
  apply Int32.toBitVec_inj.mp
  apply BitVec.eq_of_toNat_eq
  have f0 : ((0 : Int32) &&& 31) = 0 := by decide
  have f8 : ((8 : Int32) &&& 31) = 8 := by decide
  rw [f0, f8]
  have g : (((lo8 c &&& 255) <<< (0 : Int32)) ||| ((hi8 c &&& 255) <<< (8 : Int32))).toBitVec.toNat = c.toBitVec.toNat := by
    rw [Int32.toBitVec_or, Int32.toBitVec_shiftLeft, Int32.toBitVec_shiftLeft]
    have s0 : ((0 : Int32).toBitVec.smod 32) = 0#32 := by decide
    have s8 : ((8 : Int32).toBitVec.smod 32) = 8#32 := by decide
    rw [s0, s8, BitVec.toNat_or]
    simp only [BitVec.shiftLeft_eq', BitVec.toNat_shiftLeft, a1, a2]
    show (c.toBitVec.toNat % 256) <<< 0 % 2 ^ 32 ||| (c.toBitVec.toNat / 256) <<< 8 % 2 ^ 32 = _
    rw [Nat.shiftLeft_zero, Nat.mod_eq_of_lt (show c.toBitVec.toNat % 256 < 2 ^ 32 by omega), Nat.mod_eq_of_lt (show (c.toBitVec.toNat / 256) <<< 8 < 2 ^ 32 by rw [Nat.shiftLeft_eq]; omega), Nat.or_comm, ← Nat.shiftLeft_add_eq_or_of_lt (by omega), Nat.shiftLeft_eq]
    omega
  show BitVec.toNat (((((lo8 c &&& 255) <<< (0 : Int32)) ||| ((hi8 c &&& 255) <<< (8 : Int32))).toBitVec.setWidth 16).setWidth 32) = _
  rw [BitVec.toNat_setWidth, BitVec.toNat_setWidth, g]
  omega
end StrChars
namespace StrChars
open Jvm Sem ClassFile Op Lib Jvm.Stand Jvm.Free.XT Jvm.Free.ALB Jvm.Free.JM Jvm.Free
open Jvm.Lib.Cold (StaticIs)
theorem shr1 {n : Nat} (h : 2 * n < 2 ^ 31) : Int32.ofNat (2 * n) >>> ((1 : Int32) &&& 31) = Int32.ofNat n := by
  have e : ((1 : Int32) &&& 31) = 1 := by decide
  rw [e]
  apply Int32.toBitVec_inj.mp
  rw [Int32.toBitVec_shiftRight]
  have e1 : ((1 : Int32).toBitVec.smod 32) = 1#32 := by decide
  have hm : (BitVec.ofNat 32 (2 * n)).toNat = 2 * n := by rw [BitVec.toNat_ofNat, Nat.mod_eq_of_lt (by omega)]
  rw [e1, BitVec.sshiftRight_eq']
  apply BitVec.eq_of_toNat_eq
  show ((BitVec.ofNat 32 (2 * n)).sshiftRight 1).toNat = (BitVec.ofNat 32 n).toNat
  rw [BitVec.toNat_sshiftRight_of_msb_false (by rw [BitVec.msb_eq_false_iff_two_mul_lt, hm]; omega), hm, BitVec.toNat_ofNat, Nat.shiftRight_eq_div_pow]
  omega
def chr8 (u : Int32) : Int32 := (u &&& 255).toUInt32.toUInt16.toUInt32.toInt32
theorem chr8_lo8 {c : Int32} (h0 : ¬ c < 0) (h1 : ¬ 255 < c) : chr8 (lo8 c) = c := by
  have t : ∀ k : Fin 256, (Int32.ofNat k.val).toUInt32.toUInt16.toUInt32.toInt32 = Int32.ofNat k.val := by decide +kernel
  unfold chr8
  rw [lo8_mask h0 h1]
  rw [Int32.lt_iff_toInt_lt] at h0 h1
  have e0 : (0 : Int32).toInt = 0 := rfl
  have e1 : (255 : Int32).toInt = 255 := rfl
  obtain ⟨k, hk⟩ : ∃ k : Nat, c.toInt = k := ⟨c.toInt.toNat, by omega⟩
  have hx : c = Int32.ofNat k := Int32.toInt_inj.mp (by rw [hk, Int32.toInt_ofNat_small (by omega)])
  rw [hx]
  exact t ⟨k, by omega⟩
theorem narrow_ch {c : Int32} (h0 : ¬ c < 0) (h1 : ¬ 65535 < c) : narrow .char (.int c) = .int c := by
  have q : narrow .char (.int (pairCh (lo8 c) (hi8 c))) = .int (pairCh (lo8 c) (hi8 c)) := narrow_c _
  rwa [pair_says h0 h1] at q
def Cod (cd : Int32) (n : Nat) (f : Nat → Int32) (V : Cell) : Prop := (cd = 0 ∧ V.slots.size = n ∧ ∀ j, j < n → V.slots[j]? = some (.int (lo8 (f j))) ∧ ¬ 255 < f j) ∨ (cd = 1 ∧ V.slots.size = 2 * n ∧ (∀ j, j < n → V.slots[2 * j]? = some (.int (lo8 (f j))) ∧ V.slots[2 * j + 1]? = some (.int (hi8 (f j)))) ∧ ∃ j, j < n ∧ 255 < f j)
theorem Cod.cd {cd : Int32} {n : Nat} {f : Nat → Int32} {V : Cell} (h : Cod cd n f V) : cd = 0 ∨ cd = 1 := h.imp (fun q => q.1) fun q => q.1
theorem Cod.len {cd : Int32} {n : Nat} {f : Nat → Int32} {V : Cell} (h : Cod cd n f V) (hs : V.slots.size < 2 ^ 31) : Int32.ofNat V.slots.size >>> (cd &&& 31) = Int32.ofNat n := by
  rcases h with ⟨rfl, h, -⟩ | ⟨rfl, h, -⟩
  · rw [shr0, h]
  · rw [h, shr1 (by omega)]
def Txt (x t : Addr) (V : Cell) (cd : Int32) (n : Nat) (f : Nat → Int32) (U : State) : Prop := Exact "java/lang/String" x U ∧ Has x "java/lang/String" "value" "[B" (.ref t) U ∧ Has x "java/lang/String" "coder" "B" (.int cd) U ∧ XT.Arr .byte t V U ∧ Cod cd n f V ∧ ∀ j, j < n → ¬ f j < 0 ∧ ¬ 65535 < f j
theorem Txt.mv {x t : Addr} {V : Cell} {cd : Int32} {n : Nat} {f : Nat → Int32} {U U' : State} (h : Txt x t V cd n f U) (hal : U.vm.Alike U'.vm) (hh : U'.heap = U.heap) : Txt x t V cd n f U' := ⟨h.1.mv hal hh, h.2.1.mv hal hh, h.2.2.1.mv hal hh, h.2.2.2.1.mv hal hh, h.2.2.2.2⟩
namespace Cdr
def yN : MethodName := ⟨"java/lang/String", "coder", "()B"⟩
abbrev yB : ByteArray := jdk_42_method_152_code
theorem d0 : decode yB 0 = .ok (.getstatic 38, 3) := by decide +kernel
theorem d3 : decode yB 3 = .ok (.ifCond (.eq) 10, 3) := by decide +kernel
theorem d6 : decode yB 6 = .ok (.aload_n 0, 1) := by decide +kernel
theorem d7 : decode yB 7 = .ok (.getfield 15, 3) := by decide +kernel
theorem d10 : decode yB 10 = .ok (.goto 4, 3) := by decide +kernel
theorem d14 : decode yB 14 = .ok (.ireturn, 1) := by decide +kernel
def site : List Cond := [.fieldLink "java/lang/String" 38 "java/lang/String" "COMPACT_STRINGS" "Z", .fieldLink "java/lang/String" 15 "java/lang/String" "coder" "B"]
def tab : Cond := tabOf yN yB 1 (some .byte) site
def P (x : Addr) (cd z : Int32) (args : Array Value) (s : State) : Prop := args = #[.ref x] ∧ Has x "java/lang/String" "coder" "B" (.int cd) s ∧ (cd = 0 ∨ cd = 1) ∧ StaticIs s "java/lang/String" "COMPACT_STRINGS" "Z" (.int z) ∧ ¬ z = 0
def E (cd : Int32) (r : Option Value) (s u : State) : Prop := XT.PureE (some (.int cd)) r s u
theorem law (l : Launch) (x : Addr) (cd z : Int32) : Law l yN 1 0 0 0 yB 1 (some .byte) site (P x cd z) (E cd) [] 0 0 := by
  refine Law.of_walk (plainFor_of_name (by decide +kernel)) (by decide +kernel) (by decide +kernel) (by decide) (fun _ _ h => by rw [h.1]; rfl) (fun _ U U' hal hh h => ⟨h.1, h.2.1.mv hal hh, h.2.2.1, h.2.2.2.1.there hal hh, h.2.2.2.2⟩) (fun r U U' V V' h1 hal h2 h => XT.PureE.mv r U U' V V' h1 hal h2 h) ?_
  intro p e s m args below meth c s₁ X0 hexec hbytes hml hret hlk hnm hown hh0 W hP
  obtain ⟨rfl, hx, hc, s1, hz⟩ := hP
  have c1 : Steps p.tables e below (s₁.setTop (entryFrame m #[.ref x] 1)) (s₁.setTop (mkF m 0 #[.val (.ref x)] [])) := entry rfl
  obtain ⟨T2, X2, q2, st2⟩ := X0.sget hexec hown (wk W (.fieldLink "java/lang/String" 38 "java/lang/String" "COMPACT_STRINGS" "Z")) s1 (fun _ _ h => by rw [hh0]; exact h) (g := (mkF m 0 #[.val (.ref x)] [])) rfl (hb hbytes d0)
  have hh2 := q2.trans hh0
  have c3 : Steps p.tables e below (s₁.setTop (entryFrame m #[.ref x] 1)) (T2.setTop (mkF m 7 #[.val (.ref x)] [.ref x])) := (c1.trans (st2 _ (Steps.refl _))).trans (by
    refine XS.ifNo X2.here hexec rfl (hb hbytes d3) rfl (i0_eq_f hz) ?_
    refine XS.aloadN X2.here hexec rfl (hb hbytes d6) rfl rfl ?_
    exact Steps.refl _)
  obtain ⟨T4, X4, q4, st4⟩ := X2.hget hexec hown (wk W (.fieldLink "java/lang/String" 15 "java/lang/String" "coder" "B")) (hx.mv X2.warmed.alike hh2) (g := (mkF m 7 #[.val (.ref x)] [.ref x])) rfl (rest := []) rfl (hb hbytes d7)
  have c5 : Steps p.tables e below (s₁.setTop (entryFrame m #[.ref x] 1)) (T4.setTop (mkF m 14 #[.val (.ref x)] [.int cd])) := (c3.trans (st4 _ (Steps.refl _))).trans (by
    refine XS.goto X4.here hexec rfl (pc0 := 10) rfl (hb hbytes d10) (by decide) rfl ?_
    exact Steps.refl _)
  exact ⟨T4, some (.int cd), _, _, _, X4, rfl, rfl, rfl, (fun h => by cases h), ⟨rfl, q4.trans hh2⟩, fun fs hl => c5.trans (X4.ireturnOut hexec hret (by rcases hc with rfl | rfl <;> rfl) (Or.inr (Or.inr (Or.inl rfl))) (hb hbytes d14) hl)⟩
end Cdr
namespace Len
def yN : MethodName := ⟨"java/lang/String", "length", "()I"⟩
abbrev yB : ByteArray := jdk_42_method_54_code
theorem d0 : decode yB 0 = .ok (.aload_n 0, 1) := by decide +kernel
theorem d1 : decode yB 1 = .ok (.getfield 9, 3) := by decide +kernel
theorem d4 : decode yB 4 = .ok (.arraylength, 1) := by decide +kernel
theorem d5 : decode yB 5 = .ok (.aload_n 0, 1) := by decide +kernel
theorem d6 : decode yB 6 = .ok (.invokevirtual 335, 3) := by decide +kernel
theorem d9 : decode yB 9 = .ok (.ishr, 1) := by decide +kernel
theorem d10 : decode yB 10 = .ok (.ireturn, 1) := by decide +kernel
def site : List Cond := [.fieldLink "java/lang/String" 9 "java/lang/String" "value" "[B", Cdr.tab] ++ virtW "java/lang/String" 335 "java/lang/String" Cdr.yN Cdr.yN
def tab : Cond := tabOf yN yB 1 (some .int) site
def P (x t : Addr) (V : Cell) (cd : Int32) (n : Nat) (f : Nat → Int32) (z : Int32) (args : Array Value) (s : State) : Prop := args = #[.ref x] ∧ Txt x t V cd n f s ∧ StaticIs s "java/lang/String" "COMPACT_STRINGS" "Z" (.int z) ∧ ¬ z = 0
def E (n : Nat) (r : Option Value) (s u : State) : Prop := XT.PureE (some (.int (Int32.ofNat n))) r s u
theorem law (l : Launch) (x t : Addr) (V : Cell) (cd : Int32) (n : Nat) (f : Nat → Int32) (z : Int32) : Law l yN 1 0 1 13 yB 1 (some .int) site (P x t V cd n f z) (E n) [] 0 0 := by
  refine Law.of_walk (plainFor_of_name (by decide +kernel)) (by decide +kernel) (by decide +kernel) (by decide) (fun _ _ h => by rw [h.1]; rfl) (fun _ U U' hal hh h => ⟨h.1, h.2.1.mv hal hh, h.2.2.1.there hal hh, h.2.2.2⟩) (fun r U U' V V' h1 hal h2 h => XT.PureE.mv r U U' V V' h1 hal h2 h) ?_
  intro p e s m args below meth c s₁ X0 hexec hbytes hml hret hlk hnm hown hh0 W hP
  obtain ⟨rfl, hx, s1, hz⟩ := hP
  have v31 := hx.2.2.2.1.2.2.2
  have c1 : Steps p.tables e below (s₁.setTop (entryFrame m #[.ref x] 1)) (s₁.setTop (mkF m 1 #[.val (.ref x)] [.ref x])) := Steps.trans (entry rfl) (by
    show Steps p.tables e below (s₁.setTop (mkF m 0 #[.val (.ref x)] [])) _
    refine XS.aloadN X0.here hexec rfl (hb hbytes d0) rfl rfl ?_
    exact Steps.refl _)
  obtain ⟨T2, X2, q2, st2⟩ := X0.hget hexec hown (wk W (.fieldLink "java/lang/String" 9 "java/lang/String" "value" "[B")) (hx.mv X0.warmed.alike hh0).2.1 (g := (mkF m 1 #[.val (.ref x)] [.ref x])) rfl (rest := []) rfl (hb hbytes d1)
  have hh2 := q2.trans hh0
  have hx2 := hx.mv X2.warmed.alike hh2
  have c3 : Steps p.tables e below (s₁.setTop (entryFrame m #[.ref x] 1)) (T2.setTop (mkF m 6 #[.val (.ref x)] [.ref x, .int (Int32.ofNat V.slots.size)])) := (c1.trans (st2 _ (Steps.refl _))).trans (by
    refine X2.alen hexec hx2.2.2.2.1 rfl rfl (hb hbytes d4) ?_
    refine XS.aloadN X2.here hexec rfl (hb hbytes d5) rfl rfl ?_
    exact Steps.refl _)
  obtain ⟨v4, T4, X4, E4, g4⟩ := X2.callV hexec (Cdr.law l x cd z) hown (wks W (virtW "java/lang/String" 335 "java/lang/String" Cdr.yN Cdr.yN)) rfl (by decide) (wk W Cdr.tab) (W := 1) (Nat.le_of_ble_eq_true rfl) (Nat.le_of_ble_eq_true rfl) (Nat.le_refl _) (Nat.le_refl _) (hx2.1.fc X2.warmed.alike) hx2.1.is (g := (mkF m 6 #[.val (.ref x)] [.ref x, .int (Int32.ofNat V.slots.size)])) rfl (by rw [hml]; rfl) c3 (argsL := []) (rest := [.int (Int32.ofNat V.slots.size)]) rfl rfl (by show 2 * 0 + (1 + 0) ≤ _; decide) (hb hbytes d6) (⟨rfl, hx2.2.2.1, hx.2.2.2.2.1.cd, s1.there X2.warmed.alike hh2, hz⟩)
  obtain ⟨rfl, q4⟩ := E4
  have c5 : Steps p.tables e below (s₁.setTop (entryFrame m #[.ref x] 1)) (T4.setTop (mkF m 10 #[.val (.ref x)] [.int (Int32.ofNat V.slots.size >>> (cd &&& 31))])) := Steps.trans g4 (by
    refine ishr X4.here hexec rfl (hb hbytes d9) rfl ?_
    exact Steps.refl _)
  rw [hx.2.2.2.2.1.len v31] at c5
  exact ⟨T4, some (.int (Int32.ofNat n)), _, _, _, X4, rfl, rfl, rfl, (fun h => by cases h), ⟨rfl, q4.trans hh2⟩, fun fs hl => c5.trans (X4.ireturnOut hexec hret rfl (Or.inl rfl) (hb hbytes d10) hl)⟩
theorem pays {l : Launch} {R : Room} {p : Program} {e : Env} {below : List Frame} {s : State} {sargs : Array Value} {len W : Nat} (x t : Addr) (V : Cell) (cd : Int32) (n : Nat) (f : Nat → Int32) (z : Int32) (htab : tab.before sargs s = true) (hfr : 2 ≤ R.frames) (hlo : W + 25 ≤ R.locals) :
    Back l R p e below s sargs yN len W (fun A₁ a₁ => A₁.cells + 0 ≤ R.cells ∧ A₁.slots + 0 ≤ R.slots ∧ P x t V cd n f z a₁ A₁.U) (fun A₁ _ v₁ B₁ => E n v₁ A₁.U B₁.U ∧ B₁.locs = A₁.locs ++ [] ∧ B₁.cells = A₁.cells + 0 ∧ B₁.slots = A₁.slots + 0) :=
  (law l x t V cd n f z).pays htab hfr (by omega)
end Len
namespace IsL
def yN : MethodName := ⟨"java/lang/String", "isLatin1", "()Z"⟩
abbrev yB : ByteArray := jdk_42_method_154_code
theorem d0 : decode yB 0 = .ok (.getstatic 38, 3) := by decide +kernel
theorem d3 : decode yB 3 = .ok (.ifCond (.eq) 14, 3) := by decide +kernel
theorem d6 : decode yB 6 = .ok (.aload_n 0, 1) := by decide +kernel
theorem d7 : decode yB 7 = .ok (.getfield 15, 3) := by decide +kernel
theorem d10 : decode yB 10 = .ok (.ifCond (.ne) 7, 3) := by decide +kernel
theorem d13 : decode yB 13 = .ok (.iconst 1, 1) := by decide +kernel
theorem d14 : decode yB 14 = .ok (.goto 4, 3) := by decide +kernel
theorem d17 : decode yB 17 = .ok (.iconst 0, 1) := by decide +kernel
theorem d18 : decode yB 18 = .ok (.ireturn, 1) := by decide +kernel
def site : List Cond := [.fieldLink "java/lang/String" 38 "java/lang/String" "COMPACT_STRINGS" "Z", .fieldLink "java/lang/String" 15 "java/lang/String" "coder" "B"]
def tab : Cond := tabOf yN yB 1 (some .boolean) site
def P (x : Addr) (cd z : Int32) (args : Array Value) (s : State) : Prop := args = #[.ref x] ∧ Has x "java/lang/String" "coder" "B" (.int cd) s ∧ (cd = 0 ∨ cd = 1) ∧ StaticIs s "java/lang/String" "COMPACT_STRINGS" "Z" (.int z) ∧ ¬ z = 0
def E (cd : Int32) (r : Option Value) (s u : State) : Prop := XT.PureE (some (.int (1 - cd))) r s u
theorem law (l : Launch) (x : Addr) (cd z : Int32) : Law l yN 1 0 0 0 yB 1 (some .boolean) site (P x cd z) (E cd) [] 0 0 := by
  refine Law.of_walk (plainFor_of_name (by decide +kernel)) (by decide +kernel) (by decide +kernel) (by decide) (fun _ _ h => by rw [h.1]; rfl) (fun _ U U' hal hh h => ⟨h.1, h.2.1.mv hal hh, h.2.2.1, h.2.2.2.1.there hal hh, h.2.2.2.2⟩) (fun r U U' V V' h1 hal h2 h => XT.PureE.mv r U U' V V' h1 hal h2 h) ?_
  intro p e s m args below meth c s₁ X0 hexec hbytes hml hret hlk hnm hown hh0 W hP
  obtain ⟨rfl, hx, hc, s1, hz⟩ := hP
  have c1 : Steps p.tables e below (s₁.setTop (entryFrame m #[.ref x] 1)) (s₁.setTop (mkF m 0 #[.val (.ref x)] [])) := entry rfl
  obtain ⟨T2, X2, q2, st2⟩ := X0.sget hexec hown (wk W (.fieldLink "java/lang/String" 38 "java/lang/String" "COMPACT_STRINGS" "Z")) s1 (fun _ _ h => by rw [hh0]; exact h) (g := (mkF m 0 #[.val (.ref x)] [])) rfl (hb hbytes d0)
  have hh2 := q2.trans hh0
  have c3 : Steps p.tables e below (s₁.setTop (entryFrame m #[.ref x] 1)) (T2.setTop (mkF m 7 #[.val (.ref x)] [.ref x])) := (c1.trans (st2 _ (Steps.refl _))).trans (by
    refine XS.ifNo X2.here hexec rfl (hb hbytes d3) rfl (i0_eq_f hz) ?_
    refine XS.aloadN X2.here hexec rfl (hb hbytes d6) rfl rfl ?_
    exact Steps.refl _)
  obtain ⟨T4, X4, q4, st4⟩ := X2.hget hexec hown (wk W (.fieldLink "java/lang/String" 15 "java/lang/String" "coder" "B")) (hx.mv X2.warmed.alike hh2) (g := (mkF m 7 #[.val (.ref x)] [.ref x])) rfl (rest := []) rfl (hb hbytes d7)
  have c5 : Steps p.tables e below (s₁.setTop (entryFrame m #[.ref x] 1)) (T4.setTop (mkF m 10 #[.val (.ref x)] [.int cd])) := c3.trans (st4 _ (Steps.refl _))
  have c6 : Steps p.tables e below (s₁.setTop (entryFrame m #[.ref x] 1)) (T4.setTop (mkF m 18 #[.val (.ref x)] [.int (1 - cd)])) := by
    rcases hc with rfl | rfl
    · exact c5.trans (by
        refine XS.ifNo X4.here hexec rfl (hb hbytes d10) rfl (i0_ne_f rfl) ?_
        refine iconstV X4.here hexec rfl 1 (hb hbytes d13) (by decide) ?_
        refine XS.goto X4.here hexec rfl (pc0 := 14) rfl (hb hbytes d14) (by decide) rfl ?_
        exact Steps.refl _)
    · exact c5.trans (by
        refine XS.ifYes X4.here hexec rfl (pc0 := 10) rfl (hb hbytes d10) rfl (i0_ne_t (by decide)) (by decide) rfl ?_
        refine iconstV X4.here hexec rfl 0 (hb hbytes d17) (by decide) ?_
        exact Steps.refl _)
  exact ⟨T4, some (.int (1 - cd)), _, _, _, X4, rfl, rfl, rfl, (fun h => by cases h), ⟨rfl, q4.trans hh2⟩, fun fs hl => c6.trans (X4.ireturnOut hexec hret (by rcases hc with rfl | rfl <;> rfl) (Or.inr (Or.inl rfl)) (hb hbytes d18) hl)⟩
end IsL
namespace LChA
def yN : MethodName := ⟨"java/lang/StringLatin1", "charAt", "([BI)C"⟩
abbrev yB : ByteArray := jdk_43_method_2_code
theorem d0 : decode yB 0 = .ok (.iload_n 1, 1) := by decide +kernel
theorem d1 : decode yB 1 = .ok (.aload_n 0, 1) := by decide +kernel
theorem d2 : decode yB 2 = .ok (.arraylength, 1) := by decide +kernel
theorem d3 : decode yB 3 = .ok (.invokestatic 9, 3) := by decide +kernel
theorem d6 : decode yB 6 = .ok (.aload_n 0, 1) := by decide +kernel
theorem d7 : decode yB 7 = .ok (.iload_n 1, 1) := by decide +kernel
theorem d8 : decode yB 8 = .ok (.baload, 1) := by decide +kernel
theorem d9 : decode yB 9 = .ok (.sipush 255, 3) := by decide +kernel
theorem d12 : decode yB 12 = .ok (.iand, 1) := by decide +kernel
theorem d13 : decode yB 13 = .ok (.i2c, 1) := by decide +kernel
theorem d14 : decode yB 14 = .ok (.ireturn, 1) := by decide +kernel
def site : List Cond := [JO.Str_checkIndex.tab] ++ staticW "java/lang/StringLatin1" 9 JO.Str_checkIndex.yN
def tab : Cond := tabOf yN yB 2 (some .char) site
def P (t : Addr) (V : Cell) (i : Nat) (u : Int32) (fm : Value) (args : Array Value) (s : State) : Prop := args = #[.ref t, .int (Int32.ofNat i)] ∧ XT.Arr .byte t V s ∧ V.slots[i]? = some (.int u) ∧ (StaticIs s "jdk/internal/util/Preconditions" "SIOOBE_FORMATTER" "Ljava/util/function/BiFunction;" fm ∧ fm.isRef = true)
def E (u : Int32) (r : Option Value) (s w : State) : Prop := XT.PureE (some (.int (chr8 u))) r s w
theorem law (l : Launch) (t : Addr) (V : Cell) (i : Nat) (u : Int32) (fm : Value) : Law l yN 2 2 2 27 yB 2 (some .char) site (P t V i u fm) (E u) [] 0 0 := by
  refine Law.of_walk (plainFor_of_name (by decide +kernel)) (by decide +kernel) (by decide +kernel) (by decide) (fun _ _ h => by rw [h.1]; rfl) (fun _ U U' hal hh h => ⟨h.1, h.2.1.mv hal hh, h.2.2.1, h.2.2.2.1.there hal hh, h.2.2.2.2⟩) (fun r U U' V V' h1 hal h2 h => XT.PureE.mv r U U' V V' h1 hal h2 h) ?_
  intro p e s m args below meth c s₁ X0 hexec hbytes hml hret hlk hnm hown hh0 W hP
  obtain ⟨rfl, hV, hu, s1, rf⟩ := hP
  have v31 := hV.2.2.2
  have hi : i < V.slots.size := (Array.getElem?_eq_some_iff.mp hu).1
  have c1 : Steps p.tables e below (s₁.setTop (entryFrame m #[.ref t, .int (Int32.ofNat i)] 2)) (s₁.setTop (mkF m 0 #[.val (.ref t), .val (.int (Int32.ofNat i))] [])) := entry rfl
  have c2 : Steps p.tables e below (s₁.setTop (entryFrame m #[.ref t, .int (Int32.ofNat i)] 2)) (s₁.setTop (mkF m 3 #[.val (.ref t), .val (.int (Int32.ofNat i))] [.int (Int32.ofNat V.slots.size), .int (Int32.ofNat i)])) := c1.trans (by
    refine XS.iloadN X0.here hexec rfl (hb hbytes d0) rfl ?_
    refine XS.aloadN X0.here hexec rfl (hb hbytes d1) rfl rfl ?_
    refine X0.alen hexec (hV.mv X0.warmed.alike hh0) rfl rfl (hb hbytes d2) ?_
    exact Steps.refl _)
  obtain ⟨v3, T3, X3, E3, g3⟩ := X0.callS hexec (JO.Str_checkIndex.law l (Int32.ofNat i) (Int32.ofNat V.slots.size) fm) hown (wks W (staticW "java/lang/StringLatin1" 9 JO.Str_checkIndex.yN)) (wk W JO.Str_checkIndex.tab) (W := 0) (Nat.le_of_ble_eq_true rfl) (Nat.le_of_ble_eq_true rfl) (Nat.le_refl _) (Nat.le_refl _) (g := (mkF m 3 #[.val (.ref t), .val (.int (Int32.ofNat i))] [.int (Int32.ofNat V.slots.size), .int (Int32.ofNat i)])) rfl (by rw [hml]; rfl) c2 (argsL := [.int (Int32.ofNat i), .int (Int32.ofNat V.slots.size)]) (rest := []) rfl rfl (by show 2 * 0 + 0 ≤ _; decide) (hb hbytes d3) (⟨rfl, rf, s1.there X0.warmed.alike hh0, Int32.ofNat_not_neg (by omega), lt32 v31 hi⟩)
  obtain ⟨rfl, q3⟩ := E3
  have hh3 := q3.trans hh0
  have c4 : Steps p.tables e below (s₁.setTop (entryFrame m #[.ref t, .int (Int32.ofNat i)] 2)) (T3.setTop (mkF m 14 #[.val (.ref t), .val (.int (Int32.ofNat i))] [.int (chr8 u)])) := Steps.trans g3 (by
    refine XS.aloadN X3.here hexec rfl (hb hbytes d6) rfl rfl ?_
    refine XS.iloadN X3.here hexec rfl (hb hbytes d7) rfl ?_
    refine X3.aget hexec (hV.mv X3.warmed.alike hh3) rfl hu rfl rfl (hb hbytes d8) ?_
    refine sipushV X3.here hexec rfl 255 (hb hbytes d9) (by decide) ?_
    refine XS.iand X3.here hexec rfl (hb hbytes d12) rfl ?_
    refine i2c X3.here hexec rfl (hb hbytes d13) rfl ?_
    exact Steps.refl _)
  exact ⟨T3, some (.int (chr8 u)), _, _, _, X3, rfl, rfl, rfl, (fun h => by cases h), ⟨rfl, hh3⟩, fun fs hl => c4.trans (X3.ireturnOut hexec hret (narrow_c _) (Or.inr (Or.inr (Or.inr (Or.inl rfl)))) (hb hbytes d14) hl)⟩
end LChA
end StrChars
namespace StrChars.Road
open Jvm Sem ClassFile Op Lib Jvm.Stand Jvm.Free Jvm.Free.XT
open Jvm.Lib.Cold (StaticIs)
theorem consq {a : Array Value} {s : State} {c : Jvm.Cond} {L : List Jvm.Cond} (h0 : c.before a s = true) (h : ∀ w ∈ L, w.before a s = true) : ∀ w ∈ c :: L, w.before a s = true := fun w hw => (List.mem_cons.mp hw).elim (fun e => e ▸ h0) (h w)
abbrev wordsLen : List Jvm.Cond := [.code Len.yN Len.yB 1 (some .int), .initialized ST, .fieldLink ST 9 ST "value" "[B", .fieldLink ST 38 ST "COMPACT_STRINGS" "Z", .fieldLink ST 15 ST "coder" "B", .code Cdr.yN Cdr.yB 1 (some .byte), .methodLink ST 335 Cdr.yN, .declares Cdr.yN, .selects ST Cdr.yN Cdr.yN, .instanceMethod Cdr.yN]
theorem tabLen_of {a : Array Value} {s : State} (h : ∀ w ∈ wordsLen, w.before a s = true) : Len.tab.before a s = true := by
  have hc : Cdr.tab.before a s = true := unparts (wk h (.code Cdr.yN Cdr.yB 1 (some .byte))) (wks h (.initialized Cdr.yN.cls :: Cdr.site))
  have q := consq hc h
  exact unparts (wk q (.code Len.yN Len.yB 1 (some .int))) (wks q (.initialized Len.yN.cls :: Len.site))
theorem movedLen {Z s : State} {a0 args : Array Value} (hZ : Z.Warmed39 s.vm) (hw : ∀ d ∈ wordsLen, d.before a0 Z = true) : ∀ d ∈ wordsLen, d.before args s = true := fun d hd => by
  have q := hw d hd
  have t : ∀ d ∈ wordsLen, d = .arrayClass .byte ∨ (d.onTables && d.keepsFace) = true := by decide +kernel
  rcases t d hd with rfl | t
  · exact RoadKit.mvA hZ q
  · exact RoadKit.mv hZ q t
def wideBytes : List Int32 → List Value
  | [] => []
  | c :: cs => .int (lo8 c) :: .int (hi8 c) :: wideBytes cs
theorem wide_lo (d : Value) : ∀ (cs : List Int32) (j : Nat), j < cs.length → (wideBytes cs).getD (2 * j) d = .int (lo8 (cs.getD j 0))
  | [], j, h => absurd h (Nat.not_lt_zero j)
  | c :: cs, 0, _ => rfl
  | c :: cs, j + 1, h => by
    have q := wide_lo d cs j (by simpa using h)
    rw [show 2 * (j + 1) = 2 * j + 1 + 1 from by omega]
    simpa [wideBytes] using q
theorem wide_hi (d : Value) : ∀ (cs : List Int32) (j : Nat), j < cs.length → (wideBytes cs).getD (2 * j + 1) d = .int (hi8 (cs.getD j 0))
  | [], j, h => absurd h (Nat.not_lt_zero j)
  | c :: cs, 0, _ => rfl
  | c :: cs, j + 1, h => by
    have q := wide_hi d cs j (by simpa using h)
    rw [show 2 * (j + 1) + 1 = 2 * j + 1 + 1 + 1 from by omega]
    simpa [wideBytes] using q
theorem low_at (d : Value) (cs : List Int32) (j : Nat) (h : j < cs.length) : (cs.map fun c => Value.int (lo8 c)).getD j d = .int (lo8 (cs.getD j 0)) := by
  simp [List.getD_eq_getElem?_getD, h]
def CodA (cs : List Int32) (cd N2 : Int32) (vs : List Value) : Prop := (cd = 0 ∧ N2 = Int32.ofNat cs.length ∧ vs = (cs.map fun c => Value.int (lo8 c)) ∧ ∀ c ∈ cs, ¬ 255 < c) ∨ (cd = 1 ∧ N2 = Int32.ofNat (2 * cs.length) ∧ vs = wideBytes cs ∧ ∃ c ∈ cs, 255 < c)
theorem CodA.cod {cs : List Int32} {cd N2 : Int32} {vs : List Value} {V : Cell} (h : CodA cs cd N2 vs) (hn : 2 * cs.length < 2 ^ 31) (hs : V.slots.size = N2.toNatClampNeg) (hv : RoadKit.Has V vs (.int 0)) : Cod cd cs.length (fun j => cs.getD j 0) V := by
  rcases h with ⟨rfl, rfl, rfl, h⟩ | ⟨rfl, rfl, rfl, c, hc, hw⟩
  · rw [n32 (by omega)] at hs
    exact Or.inl ⟨rfl, hs, fun j hj => ⟨by rw [hv j (by omega), low_at _ _ _ hj], by
      have e : cs.getD j 0 = cs[j] := by simp [List.getD_eq_getElem?_getD, hj]
      show ¬ 255 < cs.getD j 0
      rw [e]; exact h _ (List.getElem_mem _)⟩⟩
  · rw [n32 (by omega)] at hs
    obtain ⟨j, hj, rfl⟩ := List.getElem_of_mem hc
    exact Or.inr ⟨rfl, hs, fun j hj => ⟨by rw [hv _ (by omega), wide_lo _ _ _ hj], by rw [hv _ (by omega), wide_hi _ _ _ hj]⟩, j, hj, by
      have e : cs.getD j 0 = cs[j] := by simp [List.getD_eq_getElem?_getD, hj]
      show 255 < cs.getD j 0
      rw [e]; exact hw⟩
theorem strObj {Z U : State} {a0 : Array Value} {kI : Nat} (wi : (Jvm.Cond.instantiable ST kI).before a0 Z = true) (al : Z.vm.Alike U.vm) {x : Addr} {v0 c0 : Value} (E : RoadKit.Exa Z U.heap x ST) (V : RoadKit.Fld Z U.heap x ST "value" "[B" v0) (C : RoadKit.Fld Z U.heap x ST "coder" "B" c0) :
    ∃ (D : Cell) (fV fC : Field), Blank ST x D U ∧ Found ST "value" "[B" fV U ∧ Found ST "coder" "B" fC U ∧ D.slots[fV.slot]? = some v0 ∧ D.slots[fC.slot]? = some c0 ∧ RoadKit.slotOf Z ST "value" "[B" = fV.slot ∧ RoadKit.slotOf Z ST "coder" "B" = fC.slot := by
  obtain ⟨D, cfV, kV, iV, fV, hD, gV, stV, knV, obV, asV, slV⟩ := V
  obtain ⟨D', cfC, kC, iC, fC, hD', gC, stC, -, -, asC, slC⟩ := C
  cases hD.symm.trans hD'
  obtain ⟨D2, kD, e1, e2, e3, e4, e5⟩ := E
  cases hD.symm.trans e1
  obtain ⟨c2, k2, i1, i2, i3, -⟩ := Cond.instantiable_spec wi
  cases e2.symm.trans i1
  cases e3.symm.trans i2
  obtain ⟨kU, u1, u2⟩ := al.2.2 _ _ e3
  exact ⟨D, fV, fC, ⟨hD, ⟨knV, fun q hq => by rw [hq] at obV; cases obV⟩, by rw [al.findClass]; exact e2, kU, u1, by rw [u2]; exact i3, by rw [u2]; exact e5 i3⟩, ⟨SBG.found_only al ⟨cfV, kV, iV, gV⟩, stV⟩, ⟨SBG.found_only al ⟨cfC, kC, iC, gC⟩, stC⟩, slV, slC, by simp [RoadKit.slotOf, gV], by simp [RoadKit.slotOf, gC]⟩
theorem sta_is {Z U : State} (al : Z.vm.Alike U.vm) {C n d : String} {v : Value} (S : RoadKit.Sta Z U.heap C n d v) : StaticIs U C n d v := by
  obtain ⟨cfS, iS, kS, fS, st, cS, t1, t2, t3, t4, t5, t6, t7⟩ := S
  exact StaticIs.there (s := { Z with heap := U.heap }) ⟨cfS, iS, kS, fS, st, cS, t1, t2, t3, t4, t5, (fun q => by rw [q] at t6; cases t6), t7⟩ al rfl
theorem lenW {p : Program} {l : Launch} {e : Env} {R : Room} {s : State} {args : Array Value} {below : List Frame} {len W : Nat} {Z : State} {a0 : Array Value} {h : Heap} (hZ : Z.Warmed39 s.vm) (hw : ∀ d ∈ wordsLen, d.before a0 Z = true) {kI : Nat} (wi : (Jvm.Cond.instantiable ST kI).before a0 Z = true)
    {x t : Addr} {kb : ClassId} {cs : List Int32} {cd N2 z : Int32} {vs : List Value} (E : RoadKit.Exa Z h x ST) (V : RoadKit.Fld Z h x ST "value" "[B" (.ref t)) (C : RoadKit.Fld Z h x ST "coder" "B" (.int cd)) (K : RoadKit.Arv Z h t kb .byte N2 vs (.int 0)) (hc : CodA cs cd N2 vs) (hb : ∀ c ∈ cs, ¬ c < 0 ∧ ¬ (65535 : Int32) < c)
    (S : RoadKit.Sta Z h ST "COMPACT_STRINGS" "Z" (.int z)) (hz : ¬ z = 0) (l2 : cs.length ≤ 4000) (hfr : 2 ≤ R.frames) (hlo : W + 25 ≤ R.locals) :
    Back l R p e below s args (⟨"java/lang/String", "length", "()I"⟩ : MethodName) len W (fun P a => a = #[.ref x] ∧ P.U.heap = h ∧ P.cells + 0 ≤ R.cells ∧ P.slots + 0 ≤ R.slots)
      (fun P _ v B => ∃ L, (v = some (.int (Int32.ofNat cs.length)) ∧ L = [] ∧ B.U.heap = h) ∧ B.locs = P.locs ++ L ∧ B.cells = P.cells + 0 ∧ B.slots = P.slots + 0) := by
  obtain ⟨A, K1, K2, K3, K4, K5, K6⟩ := K
  have hcod := hc.cod (by omega) K3 K5
  intro m meth c P g ig mk a X hg hsize hdg hW hn hp'
  obtain ⟨rfl, rfl, r1, r2⟩ := hp'
  have al : Z.vm.Alike P.U.vm := hZ.alike.trans X.warmed.alike
  obtain ⟨D, fV, fC, hB, F1, F2, g1, g2, -, -⟩ := strObj wi al E V C
  have hx : Txt x t A cd cs.length (fun j => cs.getD j 0) P.U := ⟨⟨_, hB.2.2.1, D, hB.1, rfl, by cases q : D.vm <;> first | rfl | exact absurd q (hB.2.1.2 _)⟩, Has.of hB F1 g1, Has.of hB F2 g2, ⟨K1.1, State.isArrayOf_alike al K1.2.1, K1.2.2, by rcases hcod with ⟨-, q, -⟩ | ⟨-, q, -⟩ <;> omega⟩, hcod, fun j hj => by
    have e : cs.getD j 0 = cs[j] := by simp [List.getD_eq_getElem?_getD, hj]
    show ¬ cs.getD j 0 < 0 ∧ ¬ 65535 < cs.getD j 0
    rw [e]; exact hb _ (List.getElem_mem _)⟩
  obtain ⟨v, B, X', ⟨⟨hv, hh⟩, hl, hk, hs⟩, st⟩ := Len.pays x t A cd cs.length (fun j => cs.getD j 0) z (tabLen_of (movedLen hZ hw)) hfr hlo m meth c P g ig mk _ X hg hsize hdg hW hn ⟨r1, r2, rfl, hx, sta_is al S, hz⟩
  exact ⟨v, B, X', ⟨[], ⟨hv, rfl, hh⟩, hl, hk, hs⟩, st⟩
end StrChars.Road
namespace StrChars.Road
open Jvm Sem ClassFile Op Lib Jvm.Stand Jvm.Free Jvm.Free.XT
open Jvm.Lib.Cold (StaticIs)
theorem txt_of {Z U : State} {a0 : Array Value} {kI : Nat} (wi : (Jvm.Cond.instantiable ST kI).before a0 Z = true) (al : Z.vm.Alike U.vm) {x t : Addr} {kb : ClassId} {cs : List Int32} {cd N2 : Int32} {vs : List Value} (E : RoadKit.Exa Z U.heap x ST) (V : RoadKit.Fld Z U.heap x ST "value" "[B" (.ref t)) (C : RoadKit.Fld Z U.heap x ST "coder" "B" (.int cd)) (K : RoadKit.Arv Z U.heap t kb .byte N2 vs (.int 0)) (hc : CodA cs cd N2 vs) (hb : ∀ c ∈ cs, ¬ c < 0 ∧ ¬ (65535 : Int32) < c) (l2 : cs.length ≤ 4000) :
    ∃ A, Txt x t A cd cs.length (fun j => cs.getD j 0) U := by
  obtain ⟨A, K1, K2, K3, K4, K5, K6⟩ := K
  have hcod := hc.cod (by omega) K3 K5
  obtain ⟨D, fV, fC, hB, F1, F2, g1, g2, -, -⟩ := strObj wi al E V C
  exact ⟨A, ⟨_, hB.2.2.1, D, hB.1, rfl, by cases q : D.vm <;> first | rfl | exact absurd q (hB.2.1.2 _)⟩, Has.of hB F1 g1, Has.of hB F2 g2, ⟨K1.1, State.isArrayOf_alike al K1.2.1, K1.2.2, by rcases hcod with ⟨-, q, -⟩ | ⟨-, q, -⟩ <;> omega⟩, hcod, fun j hj => by
    have e : cs.getD j 0 = cs[j] := by simp [List.getD_eq_getElem?_getD, hj]
    show ¬ cs.getD j 0 < 0 ∧ ¬ 65535 < cs.getD j 0
    rw [e]; exact hb _ (List.getElem_mem _)⟩
end StrChars.Road
namespace StrChars
open Jvm Sem ClassFile Op Lib Jvm.Stand Jvm.Free.XT Jvm.Free.ALB Jvm.Free.JM Jvm.Free
open Jvm.Lib.Cold (StaticIs)
namespace ChN
def yN : MethodName := ⟨"java/lang/String", "charAt", "(I)C"⟩
abbrev yB : ByteArray := jdk_42_method_56_code
theorem d0 : decode yB 0 = .ok (.aload_n 0, 1) := by decide +kernel
theorem d1 : decode yB 1 = .ok (.invokevirtual 492, 3) := by decide +kernel
theorem d4 : decode yB 4 = .ok (.ifCond (.eq) 12, 3) := by decide +kernel
theorem d7 : decode yB 7 = .ok (.aload_n 0, 1) := by decide +kernel
theorem d8 : decode yB 8 = .ok (.getfield 9, 3) := by decide +kernel
theorem d11 : decode yB 11 = .ok (.iload_n 1, 1) := by decide +kernel
theorem d12 : decode yB 12 = .ok (.invokestatic 495, 3) := by decide +kernel
theorem d15 : decode yB 15 = .ok (.ireturn, 1) := by decide +kernel
def site : List Cond := [.fieldLink "java/lang/String" 9 "java/lang/String" "value" "[B", IsL.tab, LChA.tab] ++ virtW "java/lang/String" 492 "java/lang/String" IsL.yN IsL.yN ++ staticW "java/lang/String" 495 LChA.yN
def tab : Cond := tabOf yN yB 2 (some .char) site
def P (x t : Addr) (V : Cell) (n : Nat) (f : Nat → Int32) (z : Int32) (fm : Value) (i : Nat) (args : Array Value) (s : State) : Prop := args = #[.ref x, .int (Int32.ofNat i)] ∧ Txt x t V 0 n f s ∧ i < n ∧ StaticIs s "java/lang/String" "COMPACT_STRINGS" "Z" (.int z) ∧ ¬ z = 0 ∧ StaticIs s "jdk/internal/util/Preconditions" "SIOOBE_FORMATTER" "Ljava/util/function/BiFunction;" fm ∧ fm.isRef = true
def E (f : Nat → Int32) (i : Nat) (r : Option Value) (s u : State) : Prop := XT.PureE (some (.int (f i))) r s u
theorem law (l : Launch) (x t : Addr) (V : Cell) (n : Nat) (f : Nat → Int32) (z : Int32) (fm : Value) (i : Nat) : Law l yN 2 1 3 40 yB 2 (some .char) site (P x t V n f z fm i) (E f i) [] 0 0 := by
  refine Law.of_walk (plainFor_of_name (by decide +kernel)) (by decide +kernel) (by decide +kernel) (by decide) (fun _ _ h => by rw [h.1]; rfl) (fun _ U U' hal hh h => ⟨h.1, h.2.1.mv hal hh, h.2.2.1, h.2.2.2.1.there hal hh, h.2.2.2.2.1, h.2.2.2.2.2.1.there hal hh, h.2.2.2.2.2.2⟩) (fun r U U' V V' h1 hal h2 h => XT.PureE.mv r U U' V V' h1 hal h2 h) ?_
  intro p e s m args below meth c s₁ X0 hexec hbytes hml hret hlk hnm hown hh0 W hP
  obtain ⟨rfl, hx, hi, s1, hz, s3, rf⟩ := hP
  have v31 := hx.2.2.2.1.2.2.2
  have hr := hx.2.2.2.2.2 i hi
  have hx0 := hx.mv X0.warmed.alike hh0
  have c1 : Steps p.tables e below (s₁.setTop (entryFrame m #[.ref x, .int (Int32.ofNat i)] 2)) (s₁.setTop (mkF m 1 #[.val (.ref x), .val (.int (Int32.ofNat i))] [.ref x])) := Steps.trans (entry rfl) (by
    show Steps p.tables e below (s₁.setTop (mkF m 0 #[.val (.ref x), .val (.int (Int32.ofNat i))] [])) _
    refine XS.aloadN X0.here hexec rfl (hb hbytes d0) rfl rfl ?_
    exact Steps.refl _)
  obtain ⟨v2, T2, X2, E2, g2⟩ := X0.callV hexec (IsL.law l x 0 z) hown (wks W (virtW "java/lang/String" 492 "java/lang/String" IsL.yN IsL.yN)) rfl (by decide) (wk W IsL.tab) (W := 0) (Nat.le_of_ble_eq_true rfl) (Nat.le_of_ble_eq_true rfl) (Nat.le_refl _) (Nat.le_refl _) (hx0.1.fc X0.warmed.alike) hx0.1.is (g := (mkF m 1 #[.val (.ref x), .val (.int (Int32.ofNat i))] [.ref x])) rfl (by rw [hml]; rfl) c1 (argsL := []) (rest := []) rfl rfl (by show 2 * 0 + 0 ≤ _; decide) (hb hbytes d1) (⟨rfl, hx0.2.2.1, hx.2.2.2.2.1.cd, s1.there X0.warmed.alike hh0, hz⟩)
  obtain ⟨rfl, q2⟩ := E2
  have hh2 := q2.trans hh0
  have hx2 := hx.mv X2.warmed.alike hh2
  obtain ⟨-, k1, k2⟩ | ⟨k0, -⟩ := hx.2.2.2.2.1
  · have c3 : Steps p.tables e below (s₁.setTop (entryFrame m #[.ref x, .int (Int32.ofNat i)] 2)) (T2.setTop (mkF m 8 #[.val (.ref x), .val (.int (Int32.ofNat i))] [.ref x])) := Steps.trans g2 (by
      refine XS.ifNo X2.here hexec rfl (hb hbytes d4) rfl (i0_eq_f (by decide)) ?_
      refine XS.aloadN X2.here hexec rfl (hb hbytes d7) rfl rfl ?_
      exact Steps.refl _)
    obtain ⟨T4, X4, q4, st4⟩ := X2.hget hexec hown (wk W (.fieldLink "java/lang/String" 9 "java/lang/String" "value" "[B")) hx2.2.1 (g := (mkF m 8 #[.val (.ref x), .val (.int (Int32.ofNat i))] [.ref x])) rfl (rest := []) rfl (hb hbytes d8)
    have hh4 := q4.trans hh2
    have c5 : Steps p.tables e below (s₁.setTop (entryFrame m #[.ref x, .int (Int32.ofNat i)] 2)) (T4.setTop (mkF m 12 #[.val (.ref x), .val (.int (Int32.ofNat i))] [.int (Int32.ofNat i), .ref t])) := (c3.trans (st4 _ (Steps.refl _))).trans (by
      refine XS.iloadN X4.here hexec rfl (hb hbytes d11) rfl ?_
      exact Steps.refl _)
    obtain ⟨v6, T6, X6, E6, g6⟩ := X4.callS hexec (LChA.law l t V i (lo8 (f i)) fm) hown (wks W (staticW "java/lang/String" 495 LChA.yN)) (wk W LChA.tab) (W := 0) (Nat.le_of_ble_eq_true rfl) (Nat.le_of_ble_eq_true rfl) (Nat.le_refl _) (Nat.le_refl _) (g := (mkF m 12 #[.val (.ref x), .val (.int (Int32.ofNat i))] [.int (Int32.ofNat i), .ref t])) rfl (by rw [hml]; rfl) c5 (argsL := [.ref t, .int (Int32.ofNat i)]) (rest := []) rfl rfl (by show 2 * 0 + 0 ≤ _; decide) (hb hbytes d12) (⟨rfl, hx.2.2.2.1.mv X4.warmed.alike hh4, (k2 i hi).1, s3.there X4.warmed.alike hh4, rf⟩)
    obtain ⟨rfl, q6⟩ := E6
    rw [chr8_lo8 hr.1 (k2 i hi).2] at g6
    exact ⟨T6, some (.int (f i)), _, _, _, X6, rfl, rfl, rfl, (fun h => by cases h), ⟨rfl, q6.trans hh4⟩, fun fs hl => Steps.trans g6 (X6.ireturnOut hexec hret (narrow_ch hr.1 hr.2) (Or.inr (Or.inr (Or.inr (Or.inl rfl)))) (hb hbytes d15) hl)⟩
  · exact absurd k0 (by decide)
theorem pays {l : Launch} {R : Room} {p : Program} {e : Env} {below : List Frame} {s : State} {sargs : Array Value} {len W : Nat} (x t : Addr) (V : Cell) (n : Nat) (f : Nat → Int32) (z : Int32) (fm : Value) (i : Nat) (htab : tab.before sargs s = true) (hfr : 4 ≤ R.frames) (hlo : W + 53 ≤ R.locals) :
    Back l R p e below s sargs yN len W (fun A₁ a₁ => A₁.cells + 0 ≤ R.cells ∧ A₁.slots + 0 ≤ R.slots ∧ P x t V n f z fm i a₁ A₁.U) (fun A₁ _ v₁ B₁ => E f i v₁ A₁.U B₁.U ∧ B₁.locs = A₁.locs ++ [] ∧ B₁.cells = A₁.cells + 0 ∧ B₁.slots = A₁.slots + 0) :=
  (law l x t V n f z fm i).pays htab hfr (by omega)
end ChN
end StrChars
namespace StrChars.Road
open Jvm Sem ClassFile Op Lib Jvm.Stand Jvm.Free Jvm.Free.XT
open Jvm.Lib.Cold (StaticIs)
abbrev wordsChN : List Jvm.Cond := [.code ChN.yN ChN.yB 2 (some .char), .initialized ST, .fieldLink ST 9 ST "value" "[B", .fieldLink ST 38 ST "COMPACT_STRINGS" "Z", .fieldLink ST 15 ST "coder" "B", .code IsL.yN IsL.yB 1 (some .boolean), .methodLink ST 492 IsL.yN, .declares IsL.yN, .selects ST IsL.yN IsL.yN, .instanceMethod IsL.yN,
  .methodLink ST 495 LChA.yN, .static LChA.yN, .code LChA.yN LChA.yB 2 (some .char), .initialized "java/lang/StringLatin1", .methodLink "java/lang/StringLatin1" 9 JO.Str_checkIndex.yN, .static JO.Str_checkIndex.yN, .code JO.Str_checkIndex.yN JO.Str_checkIndex.yB 2 none,
  .fieldLink ST 1053 "jdk/internal/util/Preconditions" "SIOOBE_FORMATTER" "Ljava/util/function/BiFunction;", .methodLink ST 1059 JC.PreCheck.yN, .static JC.PreCheck.yN, .code JC.PreCheck.yN JC.PreCheck.yB 3 (some .int), .initialized "jdk/internal/util/Preconditions"]
theorem tabChN_of {a : Array Value} {s : State} (h : ∀ w ∈ wordsChN, w.before a s = true) : ChN.tab.before a s = true := by
  have hp : JC.PreCheck.tab.before a s = true := unparts (wk h (.code JC.PreCheck.yN JC.PreCheck.yB 3 (some .int))) (wks h (.initialized JC.PreCheck.yN.cls :: JC.PreCheck.site))
  have qk := consq hp h
  have hk : JO.Str_checkIndex.tab.before a s = true := unparts (wk qk (.code JO.Str_checkIndex.yN JO.Str_checkIndex.yB 2 none)) (wks qk (.initialized JO.Str_checkIndex.yN.cls :: JO.Str_checkIndex.site))
  have ql := consq hk h
  have hl : LChA.tab.before a s = true := unparts (wk ql (.code LChA.yN LChA.yB 2 (some .char))) (wks ql (.initialized LChA.yN.cls :: LChA.site))
  have hi : IsL.tab.before a s = true := unparts (wk h (.code IsL.yN IsL.yB 1 (some .boolean))) (wks h (.initialized IsL.yN.cls :: IsL.site))
  have q := consq hi (consq hl h)
  exact unparts (wk q (.code ChN.yN ChN.yB 2 (some .char))) (wks q (.initialized ChN.yN.cls :: ChN.site))
theorem movedChN {Z s : State} {a0 args : Array Value} (hZ : Z.Warmed39 s.vm) (hw : ∀ d ∈ wordsChN, d.before a0 Z = true) : ∀ d ∈ wordsChN, d.before args s = true := fun d hd => by
  have t : ∀ d ∈ wordsChN, (d.onTables && d.keepsFace) = true := by decide +kernel
  exact RoadKit.mv hZ (hw d hd) (t d hd)
theorem chN {p : Program} {l : Launch} {e : Env} {R : Room} {s : State} {args : Array Value} {below : List Frame} {len W : Nat} {Z : State} {a0 : Array Value} {h : Heap} (hZ : Z.Warmed39 s.vm) (hw : ∀ d ∈ wordsChN, d.before a0 Z = true) {kI : Nat} (wi : (Jvm.Cond.instantiable ST kI).before a0 Z = true)
    {x t : Addr} {kb : ClassId} {cs : List Int32} {N2 z : Int32} {vs : List Value} {fm : Value} {i : Nat} {j : Int32} (E : RoadKit.Exa Z h x ST) (V : RoadKit.Fld Z h x ST "value" "[B" (.ref t)) (C : RoadKit.Fld Z h x ST "coder" "B" (.int 0)) (K : RoadKit.Arv Z h t kb .byte N2 vs (.int 0)) (hc : CodA cs 0 N2 vs) (hb : ∀ c ∈ cs, ¬ c < 0 ∧ ¬ (65535 : Int32) < c)
    (S : RoadKit.Sta Z h ST "COMPACT_STRINGS" "Z" (.int z)) (hz : ¬ z = 0) (F : RoadKit.Sta Z h "jdk/internal/util/Preconditions" "SIOOBE_FORMATTER" "Ljava/util/function/BiFunction;" fm) (rf : fm.isRef = true) (l2 : cs.length ≤ 4000) (hi : i < cs.length) (hj : j = Int32.ofNat i) (hfr : 4 ≤ R.frames) (hlo : W + 53 ≤ R.locals) :
    Back l R p e below s args (⟨"java/lang/String", "charAt", "(I)C"⟩ : MethodName) len W (fun P a => a = #[.ref x, .int j] ∧ P.U.heap = h ∧ P.cells + 0 ≤ R.cells ∧ P.slots + 0 ≤ R.slots)
      (fun P _ v B => ∃ L, (v = some (.int (cs.getD i 0)) ∧ L = [] ∧ B.U.heap = h) ∧ B.locs = P.locs ++ L ∧ B.cells = P.cells + 0 ∧ B.slots = P.slots + 0) := by
  subst hj
  intro m meth c P g ig mk a X hg hsize hdg hW hn hp'
  obtain ⟨rfl, rfl, r1, r2⟩ := hp'
  have al : Z.vm.Alike P.U.vm := hZ.alike.trans X.warmed.alike
  obtain ⟨A, hx⟩ := txt_of wi al E V C K hc hb l2
  obtain ⟨v, B, X', ⟨⟨hv, hh⟩, hl, hk, hs⟩, st⟩ := ChN.pays x t A cs.length (fun j => cs.getD j 0) z fm i (tabChN_of (movedChN hZ hw)) hfr hlo m meth c P g ig mk _ X hg hsize hdg hW hn ⟨r1, r2, rfl, hx, hi, sta_is al S, hz, sta_is al F, rf⟩
  exact ⟨v, B, X', ⟨[], ⟨hv, rfl, hh⟩, hl, hk, hs⟩, st⟩
theorem codOf {cs : List Int32} {n : Nat} (hn : cs.length = n) (hb : ∀ c ∈ cs, ¬ 255 < c) : CodA cs 0 (Int32.ofNat n) ((cs.map lo8).map Value.int) := Or.inl ⟨rfl, by rw [hn], by simp [List.map_map, Function.comp_def], hb⟩
end StrChars.Road
end Jvm.Pilot.@@N@@

namespace Jvm.Pilot.@@N@@
open Jvm Jvm.ClassFile Sem Op Lib Jvm.Free Jvm.Stand Jvm.LawKit Jvm.RoadKit Bundle Jvm.Pilot.@@N@@.Jvm.D
abbrev own_S (p : Program) (e : Env) (below : List Frame) (T : State) (f : JFrame) (t : State) : Prop := Steps p.tables e below (T.setTop f) t

theorem own_up (cs : List Int32) (h : ∀ c ∈ cs, ¬ c < 0 ∧ ¬ (255 : Int32) < c) : ∀ c ∈ cs, ¬ c < 0 ∧ ¬ (65535 : Int32) < c := fun c hc => ⟨(h c hc).1, fun q => (h c hc).2 (by rw [Int32.lt_iff_toInt_lt] at q ⊢; have e1 : (65535 : Int32).toInt = 65535 := rfl; have e2 : (255 : Int32).toInt = 255 := rfl; omega)⟩

def own_mx (p q : Int32) : Int32 := if p < q then q else p
def own_gain (p : Int32) : Int32 := if p < 0 then 0 else p
theorem own_mg (p : Int32) : own_mx p (0 : Int32) = own_gain p := by unfold own_mx own_gain; by_cases h : p < 0 <;> simp [h]
theorem own_neg (p : Int32) : (p ||| (-2147483648 : Int32)) < 0 := by
  rw [Int32.lt_iff_toInt_lt]; exact (c_orS p (-2147483648 : Int32)).2.2 (by decide)
theorem own_selP {s : State} {args : Array Value} {y z : MethodName} (hc : z.cls = y.cls) (w : (Jvm.Cond.selects z.cls z z).before args s = true) (hpriv : s.PrivateAt y) (hinst : (Jvm.Cond.instanceMethod y).before args s = true) (hy : y.cls ≠ "java/lang/invoke/MethodHandle" ∧ y.cls ≠ "java/lang/invoke/VarHandle") : (Jvm.Cond.selects y.cls y y).before args s = true := by
  obtain ⟨c2, r2, m2, -, -, q3, -, kP, hkP, hkPi⟩ := Jvm.Cond.selects_spec w
  exact Stand.selects_self_of_private (by rw [← hc]; exact findClass_of_methodNamed q3) hkP hkPi hpriv hinst hy

theorem d_jdk_29_method_65_0 : decode jdk_29_method_65_code 0 = .ok (.iload_n 0, 1) := by decide +kernel
theorem d_jdk_29_method_65_1 : decode jdk_29_method_65_code 1 = .ok (.iload_n 1, 1) := by decide +kernel
theorem d_jdk_29_method_65_2 : decode jdk_29_method_65_code 2 = .ok (.if_icmp .lt 7, 3) := by decide +kernel
theorem d_jdk_29_method_65_5 : decode jdk_29_method_65_code 5 = .ok (.iload_n 0, 1) := by decide +kernel
theorem d_jdk_29_method_65_6 : decode jdk_29_method_65_code 6 = .ok (.goto 4, 3) := by decide +kernel
theorem d_jdk_29_method_65_9 : decode jdk_29_method_65_code 9 = .ok (.iload_n 1, 1) := by decide +kernel
theorem d_jdk_29_method_65_10 : decode jdk_29_method_65_code 10 = .ok (.ireturn, 1) := by decide +kernel
theorem ef_rm5 (m : MethodId) (x0 : Int32) (x1 : Int32) : entryFrame m #[(.int x0), (.int x1)] 2 = mkF m 0 #[.val (.int x0), .val (.int x1)] [] := by first | (simp [entryFrame, mkF, argsToLocals, Value.category]; done) | rfl
def Q5 (Z : State) (p1 : Int32) (p2 : Int32) (h0 : Heap) (n0 : Nat) (v : Option Value) (h : Heap) (L : List Loc) : Prop := v = some (.int (own_mx p1 p2)) ∧ Fr n0 L ∧ h = h0
set_option maxRecDepth 65536 in
set_option maxHeartbeats 40000000 in
theorem rm5 (l : Launch) (Z : State) (a0 : Array Value) (hw : ∀ d ∈ tables_1, d.before a0 Z = true) (ws : List Jvm.Cond) (p1 : Int32) (p2 : Int32) (h0 : Heap) (n0 : Nat) (Z0 : n0 ≤ h0.size) :
    MetFree l (⟨"java/lang/Math", "max", "(II)I"⟩ : MethodName) (head1 (Jvm.Cond.code (⟨"java/lang/Math", "max", "(II)I"⟩ : MethodName) jdk_29_method_65_code 2 (some .int) :: ws) ({ frames := 0, cells := 0, slots := 0, locals := 0 } : Room)) (fun a U => a = #[(.int p1), (.int p2)] ∧ Z.Warmed39 U.vm ∧ U.heap = h0) (fun _ _ _ _ _ => True) (fun _ U o U' => ∃ v L, o = .returned v ∧ Q5 Z p1 p2 h0 n0 v U'.heap L ∧ FrameEnd U o U' L ({ frames := 0, cells := 0, slots := 0, locals := 0 } : Room).cells ({ frames := 0, cells := 0, slots := 0, locals := 0 } : Room).slots) := by
  refine MetFree.of_bodySF (Jvm.Free.JP.mathPlain rfl (by decide +kernel)) hisR ?_
  intro p e s m args below meth c s₁ Bd hml0 hP hK
  obtain ⟨rfl, hZ, hh⟩ := hP
  have hx := Bd.exec
  have hby := Bd.bytes
  have hml : c.maxLocals = 2 := hml0
  have hown : s.vm.findClass "java/lang/Math" = some m.cls := findClass_of_methodNamed Bd.named
  have hnm := (name_of_methodNamed Bd.named Bd.method).1
  have X0 : Stand p l e ({ frames := 0, cells := 0, slots := 0, locals := 0 } : Room) s m #[(.int p1), (.int p2)] below meth c s₁ [] 0 0 := Stand.of_body Bd
  have e0 : s₁.heap = h0 := by rw [← hh, Bd.state]; rfl
  have Nf0 := Fr.nil n0
  obtain ⟨Gl, hGl, kn0⟩ : ∃ Gl : State → Prop, (∀ t, Gl t → Steps p.tables e below (s₁.setTop (entryFrame m #[(.int p1), (.int p2)] 2)) t) ∧ ∀ t, own_S p e below s₁ (mkF m 0 #[.val (.int p1), .val (.int p2)] []) t → Gl t := ⟨fun t => Steps p.tables e below (s₁.setTop (entryFrame m #[(.int p1), (.int p2)] 2)) t, fun _ k => k, fun t k => castTop (ef_rm5 m p1 p2) k⟩
  have kn1 : ∀ t, own_S p e below s₁ (mkF m 2 #[.val (.int p1), .val (.int p2)] [(.int p2), (.int p1)]) t → Gl t := fun t kt => kn0 t (by
    show own_S p e below s₁ (mkF m 0 #[.val (.int p1), .val (.int p2)] []) _
    refine XS.iloadN X0.here hx rfl (hb hby d_jdk_29_method_65_0) rfl ?_
    show own_S p e below s₁ (mkF m 1 #[.val (.int p1), .val (.int p2)] [(.int p1)]) _
    refine XS.iloadN X0.here hx rfl (hb hby d_jdk_29_method_65_1) rfl ?_
    exact kt)
  by_cases hc2 : p1 < p2
  · have kn2 : ∀ t, own_S p e below s₁ (mkF m 10 #[.val (.int p1), .val (.int p2)] [(.int p2)]) t → Gl t := fun t kt => kn1 t (by
      show own_S p e below s₁ (mkF m 2 #[.val (.int p1), .val (.int p2)] [(.int p2), (.int p1)]) _
      refine XS.icmpYes X0.here hx rfl (pc0 := 2) (pc' := 9) rfl (hb hby d_jdk_29_method_65_2) rfl (tlt hc2).1 (by decide) (by decide) ?_
      show own_S p e below s₁ (mkF m 9 #[.val (.int p1), .val (.int p2)] []) _
      refine XS.iloadN X0.here hx rfl (hb hby d_jdk_29_method_65_9) rfl ?_
      exact kt)
    obtain ⟨fs, hr, hrun, hended, hW, hsame⟩ := X0.leave (v := some (.int p2)) (fun h => by rw [Bd.returns] at h; cases h)
    refine ⟨_, _, hGl _ (kn2 _ (retI X0 hx Bd.returns (hb hby d_jdk_29_method_65_10) hr)), hrun, hended, _, _, rfl, ?_, ⟨_, rfl⟩, hW, hsame.mono (by decide) (by decide)⟩
    show Q5 Z p1 p2 h0 n0 _ s₁.heap _
    rw [e0]
    exact ⟨by simp [own_mx, hc2], Nf0, rfl⟩
  · have kn3 : ∀ t, own_S p e below s₁ (mkF m 10 #[.val (.int p1), .val (.int p2)] [(.int p1)]) t → Gl t := fun t kt => kn1 t (by
      show own_S p e below s₁ (mkF m 2 #[.val (.int p1), .val (.int p2)] [(.int p2), (.int p1)]) _
      refine XS.icmpNo X0.here hx rfl (hb hby d_jdk_29_method_65_2) rfl (flt hc2).1 ?_
      show own_S p e below s₁ (mkF m 5 #[.val (.int p1), .val (.int p2)] []) _
      refine XS.iloadN X0.here hx rfl (hb hby d_jdk_29_method_65_5) rfl ?_
      show own_S p e below s₁ (mkF m 6 #[.val (.int p1), .val (.int p2)] [(.int p1)]) _
      refine XS.goto X0.here hx rfl (pc0 := 6) (pc' := 10) rfl (hb hby d_jdk_29_method_65_6) (by decide) (by decide) ?_
      exact kt)
    obtain ⟨fs, hr, hrun, hended, hW, hsame⟩ := X0.leave (v := some (.int p1)) (fun h => by rw [Bd.returns] at h; cases h)
    refine ⟨_, _, hGl _ (kn3 _ (retI X0 hx Bd.returns (hb hby d_jdk_29_method_65_10) hr)), hrun, hended, _, _, rfl, ?_, ⟨_, rfl⟩, hW, hsame.mono (by decide) (by decide)⟩
    show Q5 Z p1 p2 h0 n0 _ s₁.heap _
    rw [e0]
    exact ⟨by simp [own_mx, hc2], Nf0, rfl⟩

theorem d_jdk_33_method_47_0 : decode jdk_33_method_47_code 0 = .ok (.iload_n 0, 1) := by decide +kernel
theorem d_jdk_33_method_47_1 : decode jdk_33_method_47_code 1 = .ok (.ifCond .gt 14, 3) := by decide +kernel
theorem d_jdk_33_method_47_15 : decode jdk_33_method_47_code 15 = .ok (.bipush 31, 2) := by decide +kernel
theorem d_jdk_33_method_47_17 : decode jdk_33_method_47_code 17 = .ok (.istore_n 1, 1) := by decide +kernel
theorem d_jdk_33_method_47_18 : decode jdk_33_method_47_code 18 = .ok (.iload_n 0, 1) := by decide +kernel
theorem d_jdk_33_method_47_19 : decode jdk_33_method_47_code 19 = .ok (.ldc_w 264, 3) := by decide +kernel
theorem d_jdk_33_method_47_22 : decode jdk_33_method_47_code 22 = .ok (.if_icmp .lt 11, 3) := by decide +kernel
theorem d_jdk_33_method_47_33 : decode jdk_33_method_47_code 33 = .ok (.iload_n 0, 1) := by decide +kernel
theorem d_jdk_33_method_47_34 : decode jdk_33_method_47_code 34 = .ok (.sipush 256, 3) := by decide +kernel
theorem d_jdk_33_method_47_37 : decode jdk_33_method_47_code 37 = .ok (.if_icmp .lt 11, 3) := by decide +kernel
theorem d_jdk_33_method_47_48 : decode jdk_33_method_47_code 48 = .ok (.iload_n 0, 1) := by decide +kernel
theorem d_jdk_33_method_47_49 : decode jdk_33_method_47_code 49 = .ok (.bipush 16, 2) := by decide +kernel
theorem d_jdk_33_method_47_51 : decode jdk_33_method_47_code 51 = .ok (.if_icmp .lt 10, 3) := by decide +kernel
theorem d_jdk_33_method_47_61 : decode jdk_33_method_47_code 61 = .ok (.iload_n 0, 1) := by decide +kernel
theorem d_jdk_33_method_47_62 : decode jdk_33_method_47_code 62 = .ok (.iconst 4, 1) := by decide +kernel
theorem d_jdk_33_method_47_63 : decode jdk_33_method_47_code 63 = .ok (.if_icmp .lt 10, 3) := by decide +kernel
theorem d_jdk_33_method_47_66 : decode jdk_33_method_47_code 66 = .ok (.iinc 1 (-2), 3) := by decide +kernel
theorem d_jdk_33_method_47_69 : decode jdk_33_method_47_code 69 = .ok (.iload_n 0, 1) := by decide +kernel
theorem d_jdk_33_method_47_70 : decode jdk_33_method_47_code 70 = .ok (.iconst 2, 1) := by decide +kernel
theorem d_jdk_33_method_47_71 : decode jdk_33_method_47_code 71 = .ok (.iushr, 1) := by decide +kernel
theorem d_jdk_33_method_47_72 : decode jdk_33_method_47_code 72 = .ok (.istore_n 0, 1) := by decide +kernel
theorem d_jdk_33_method_47_73 : decode jdk_33_method_47_code 73 = .ok (.iload_n 1, 1) := by decide +kernel
theorem d_jdk_33_method_47_74 : decode jdk_33_method_47_code 74 = .ok (.iload_n 0, 1) := by decide +kernel
theorem d_jdk_33_method_47_75 : decode jdk_33_method_47_code 75 = .ok (.iconst 1, 1) := by decide +kernel
theorem d_jdk_33_method_47_76 : decode jdk_33_method_47_code 76 = .ok (.iushr, 1) := by decide +kernel
theorem d_jdk_33_method_47_77 : decode jdk_33_method_47_code 77 = .ok (.isub, 1) := by decide +kernel
theorem d_jdk_33_method_47_78 : decode jdk_33_method_47_code 78 = .ok (.ireturn, 1) := by decide +kernel
theorem pn_0 : plainName "java/lang/Integer" = true := by first | (simp [plainName, overriddenIn]; done) | decide +kernel
theorem ef_rm7 (m : MethodId)  : entryFrame m #[(.int (15 : Int32))] 2 = mkF m 0 #[.val (.int (15 : Int32)), .unset] [] := by first | (simp [entryFrame, mkF, argsToLocals, Value.category]; done) | rfl
def Q7 (Z : State)  (h0 : Heap) (n0 : Nat) (v : Option Value) (h : Heap) (L : List Loc) : Prop := v = some (.int (28 : Int32)) ∧ Fr n0 L ∧ h = h0
set_option maxRecDepth 65536 in
set_option maxHeartbeats 40000000 in
theorem rm7 (l : Launch) (Z : State) (a0 : Array Value) (hw : ∀ d ∈ tables_1, d.before a0 Z = true) (ws : List Jvm.Cond)  (h0 : Heap) (n0 : Nat) (Z0 : n0 ≤ h0.size) :
    MetFree l (⟨"java/lang/Integer", "numberOfLeadingZeros", "(I)I"⟩ : MethodName) (head1 (Jvm.Cond.code (⟨"java/lang/Integer", "numberOfLeadingZeros", "(I)I"⟩ : MethodName) jdk_33_method_47_code 2 (some .int) :: ws) ({ frames := 0, cells := 0, slots := 0, locals := 0 } : Room)) (fun a U => a = #[(.int (15 : Int32))] ∧ Z.Warmed39 U.vm ∧ U.heap = h0) (fun _ _ _ _ _ => True) (fun _ U o U' => ∃ v L, o = .returned v ∧ Q7 Z  h0 n0 v U'.heap L ∧ FrameEnd U o U' L ({ frames := 0, cells := 0, slots := 0, locals := 0 } : Room).cells ({ frames := 0, cells := 0, slots := 0, locals := 0 } : Room).slots) := by
  refine MetFree.of_bodySF (plainFor_of_name pn_0) hisR ?_
  intro p e s m args below meth c s₁ Bd hml0 hP hK
  obtain ⟨rfl, hZ, hh⟩ := hP
  have hx := Bd.exec
  have hby := Bd.bytes
  have hml : c.maxLocals = 2 := hml0
  have hown : s.vm.findClass "java/lang/Integer" = some m.cls := findClass_of_methodNamed Bd.named
  have hnm := (name_of_methodNamed Bd.named Bd.method).1
  have X0 : Stand p l e ({ frames := 0, cells := 0, slots := 0, locals := 0 } : Room) s m #[(.int (15 : Int32))] below meth c s₁ [] 0 0 := Stand.of_body Bd
  have e0 : s₁.heap = h0 := by rw [← hh, Bd.state]; rfl
  have Nf0 := Fr.nil n0
  obtain ⟨Gl, hGl, kn0⟩ : ∃ Gl : State → Prop, (∀ t, Gl t → Steps p.tables e below (s₁.setTop (entryFrame m #[(.int (15 : Int32))] 2)) t) ∧ ∀ t, own_S p e below s₁ (mkF m 0 #[.val (.int (15 : Int32)), .unset] []) t → Gl t := ⟨fun t => Steps p.tables e below (s₁.setTop (entryFrame m #[(.int (15 : Int32))] 2)) t, fun _ k => k, fun t k => castTop (ef_rm7 m ) k⟩
  have kn1 : ∀ t, own_S p e below s₁ (mkF m 78 #[.val (.int (3 : Int32)), .val (.int (29 : Int32))] [(.int (28 : Int32))]) t → Gl t := fun t kt => kn0 t (by
    show own_S p e below s₁ (mkF m 0 #[.val (.int (15 : Int32)), .unset] []) _
    refine XS.iloadN X0.here hx rfl (hb hby d_jdk_33_method_47_0) rfl ?_
    show own_S p e below s₁ (mkF m 1 #[.val (.int (15 : Int32)), .unset] [(.int (15 : Int32))]) _
    refine XS.ifYes X0.here hx rfl (pc0 := 1) (pc' := 15) rfl (hb hby d_jdk_33_method_47_1) rfl ((if0 _ _).trans (tlt (by decide : (0 : Int32) < (15 : Int32))).2.2.1) (by decide) (by decide) ?_
    show own_S p e below s₁ (mkF m 15 #[.val (.int (15 : Int32)), .unset] []) _
    refine XS.bipush X0.here hx rfl (hb hby d_jdk_33_method_47_15) ?_
    show own_S p e below s₁ (mkF m 17 #[.val (.int (15 : Int32)), .unset] [(.int (31 : Int32))]) _
    refine XS.istoreN X0.here hx rfl (hb hby d_jdk_33_method_47_17) rfl (l' := #[.val (.int (15 : Int32)), .val (.int (31 : Int32))]) rfl ?_
    show own_S p e below s₁ (mkF m 18 #[.val (.int (15 : Int32)), .val (.int (31 : Int32))] []) _
    refine XS.iloadN X0.here hx rfl (hb hby d_jdk_33_method_47_18) rfl ?_
    show own_S p e below s₁ (mkF m 19 #[.val (.int (15 : Int32)), .val (.int (31 : Int32))] [(.int (15 : Int32))]) _
    refine X0.ldcwInt hx hown (mvT hZ (hw _ (List.mem_of_getElem? (i := 39) rfl))) (g := (mkF m 19 #[.val (.int (15 : Int32)), .val (.int (31 : Int32))] [(.int (15 : Int32))])) rfl (hb hby d_jdk_33_method_47_19) _ ?_
    show own_S p e below s₁ (mkF m 22 #[.val (.int (15 : Int32)), .val (.int (31 : Int32))] [(.int (65536 : Int32)), (.int (15 : Int32))]) _
    refine XS.icmpYes X0.here hx rfl (pc0 := 22) (pc' := 33) rfl (hb hby d_jdk_33_method_47_22) rfl (tlt (by decide : (15 : Int32) < (65536 : Int32))).1 (by decide) (by decide) ?_
    show own_S p e below s₁ (mkF m 33 #[.val (.int (15 : Int32)), .val (.int (31 : Int32))] []) _
    refine XS.iloadN X0.here hx rfl (hb hby d_jdk_33_method_47_33) rfl ?_
    show own_S p e below s₁ (mkF m 34 #[.val (.int (15 : Int32)), .val (.int (31 : Int32))] [(.int (15 : Int32))]) _
    refine XS.sipush X0.here hx rfl (hb hby d_jdk_33_method_47_34) ?_
    show own_S p e below s₁ (mkF m 37 #[.val (.int (15 : Int32)), .val (.int (31 : Int32))] [(.int (256 : Int32)), (.int (15 : Int32))]) _
    refine XS.icmpYes X0.here hx rfl (pc0 := 37) (pc' := 48) rfl (hb hby d_jdk_33_method_47_37) rfl (tlt (by decide : (15 : Int32) < (256 : Int32))).1 (by decide) (by decide) ?_
    show own_S p e below s₁ (mkF m 48 #[.val (.int (15 : Int32)), .val (.int (31 : Int32))] []) _
    refine XS.iloadN X0.here hx rfl (hb hby d_jdk_33_method_47_48) rfl ?_
    show own_S p e below s₁ (mkF m 49 #[.val (.int (15 : Int32)), .val (.int (31 : Int32))] [(.int (15 : Int32))]) _
    refine XS.bipush X0.here hx rfl (hb hby d_jdk_33_method_47_49) ?_
    show own_S p e below s₁ (mkF m 51 #[.val (.int (15 : Int32)), .val (.int (31 : Int32))] [(.int (16 : Int32)), (.int (15 : Int32))]) _
    refine XS.icmpYes X0.here hx rfl (pc0 := 51) (pc' := 61) rfl (hb hby d_jdk_33_method_47_51) rfl (tlt (by decide : (15 : Int32) < (16 : Int32))).1 (by decide) (by decide) ?_
    show own_S p e below s₁ (mkF m 61 #[.val (.int (15 : Int32)), .val (.int (31 : Int32))] []) _
    refine XS.iloadN X0.here hx rfl (hb hby d_jdk_33_method_47_61) rfl ?_
    show own_S p e below s₁ (mkF m 62 #[.val (.int (15 : Int32)), .val (.int (31 : Int32))] [(.int (15 : Int32))]) _
    refine XS.iconst X0.here hx rfl (hb hby d_jdk_33_method_47_62) ?_
    show own_S p e below s₁ (mkF m 63 #[.val (.int (15 : Int32)), .val (.int (31 : Int32))] [(.int (4 : Int32)), (.int (15 : Int32))]) _
    refine XS.icmpNo X0.here hx rfl (hb hby d_jdk_33_method_47_63) rfl (flt (by decide : ¬ ((15 : Int32) < (4 : Int32)))).1 ?_
    show own_S p e below s₁ (mkF m 66 #[.val (.int (15 : Int32)), .val (.int (31 : Int32))] []) _
    refine XS.iinc X0.here hx rfl (hb hby d_jdk_33_method_47_66) rfl (l' := #[.val (.int (15 : Int32)), .val (.int ((31 : Int32) + (-2 : Int32)))]) rfl ?_
    rw [(by decide : ((31 : Int32) + (-2 : Int32)) = (29 : Int32))]
    show own_S p e below s₁ (mkF m 69 #[.val (.int (15 : Int32)), .val (.int (29 : Int32))] []) _
    refine XS.iloadN X0.here hx rfl (hb hby d_jdk_33_method_47_69) rfl ?_
    show own_S p e below s₁ (mkF m 70 #[.val (.int (15 : Int32)), .val (.int (29 : Int32))] [(.int (15 : Int32))]) _
    refine XS.iconst X0.here hx rfl (hb hby d_jdk_33_method_47_70) ?_
    show own_S p e below s₁ (mkF m 71 #[.val (.int (15 : Int32)), .val (.int (29 : Int32))] [(.int (2 : Int32)), (.int (15 : Int32))]) _
    refine XS.iushr X0.here hx rfl (hb hby d_jdk_33_method_47_71) rfl ?_
    rw [(by decide : (((15 : Int32).toUInt32 >>> ((2 : Int32) &&& 31).toUInt32).toInt32) = (3 : Int32))]
    show own_S p e below s₁ (mkF m 72 #[.val (.int (15 : Int32)), .val (.int (29 : Int32))] [(.int (3 : Int32))]) _
    refine XS.istoreN X0.here hx rfl (hb hby d_jdk_33_method_47_72) rfl (l' := #[.val (.int (3 : Int32)), .val (.int (29 : Int32))]) rfl ?_
    show own_S p e below s₁ (mkF m 73 #[.val (.int (3 : Int32)), .val (.int (29 : Int32))] []) _
    refine XS.iloadN X0.here hx rfl (hb hby d_jdk_33_method_47_73) rfl ?_
    show own_S p e below s₁ (mkF m 74 #[.val (.int (3 : Int32)), .val (.int (29 : Int32))] [(.int (29 : Int32))]) _
    refine XS.iloadN X0.here hx rfl (hb hby d_jdk_33_method_47_74) rfl ?_
    show own_S p e below s₁ (mkF m 75 #[.val (.int (3 : Int32)), .val (.int (29 : Int32))] [(.int (3 : Int32)), (.int (29 : Int32))]) _
    refine XS.iconst X0.here hx rfl (hb hby d_jdk_33_method_47_75) ?_
    show own_S p e below s₁ (mkF m 76 #[.val (.int (3 : Int32)), .val (.int (29 : Int32))] [(.int (1 : Int32)), (.int (3 : Int32)), (.int (29 : Int32))]) _
    refine XS.iushr X0.here hx rfl (hb hby d_jdk_33_method_47_76) rfl ?_
    rw [(by decide : (((3 : Int32).toUInt32 >>> ((1 : Int32) &&& 31).toUInt32).toInt32) = (1 : Int32))]
    show own_S p e below s₁ (mkF m 77 #[.val (.int (3 : Int32)), .val (.int (29 : Int32))] [(.int (1 : Int32)), (.int (29 : Int32))]) _
    refine XS.isub X0.here hx rfl (hb hby d_jdk_33_method_47_77) rfl ?_
    rw [(by decide : ((29 : Int32) - (1 : Int32)) = (28 : Int32))]
    exact kt)
  obtain ⟨fs, hr, hrun, hended, hW, hsame⟩ := X0.leave (v := some (.int (28 : Int32))) (fun h => by rw [Bd.returns] at h; cases h)
  refine ⟨_, _, hGl _ (kn1 _ (retI X0 hx Bd.returns (hb hby d_jdk_33_method_47_78) hr)), hrun, hended, _, _, rfl, ?_, ⟨_, rfl⟩, hW, hsame.mono (by decide) (by decide)⟩
  show Q7 Z  h0 n0 _ s₁.heap _
  rw [e0]
  exact ⟨rfl, Nf0, rfl⟩

theorem d_jdk_33_method_45_0 : decode jdk_33_method_45_code 0 = .ok (.iload_n 0, 1) := by decide +kernel
theorem d_jdk_33_method_45_1 : decode jdk_33_method_45_code 1 = .ok (.ldc 127, 2) := by decide +kernel
theorem d_jdk_33_method_45_3 : decode jdk_33_method_45_code 3 = .ok (.iload_n 0, 1) := by decide +kernel
theorem d_jdk_33_method_45_4 : decode jdk_33_method_45_code 4 = .ok (.invokestatic 51, 3) := by decide +kernel
theorem d_jdk_33_method_45_7 : decode jdk_33_method_45_code 7 = .ok (.iushr, 1) := by decide +kernel
theorem d_jdk_33_method_45_8 : decode jdk_33_method_45_code 8 = .ok (.iand, 1) := by decide +kernel
theorem d_jdk_33_method_45_9 : decode jdk_33_method_45_code 9 = .ok (.ireturn, 1) := by decide +kernel
theorem pd_0 : parseMethodDescriptor "(I)I" = some ⟨[.int], some .int⟩ := by decide +kernel
theorem ef_rm6 (m : MethodId)  : entryFrame m #[(.int (15 : Int32))] 1 = mkF m 0 #[.val (.int (15 : Int32))] [] := by first | (simp [entryFrame, mkF, argsToLocals, Value.category]; done) | rfl
def Q6 (Z : State)  (h0 : Heap) (n0 : Nat) (v : Option Value) (h : Heap) (L : List Loc) : Prop := v = some (.int (8 : Int32)) ∧ Fr n0 L ∧ h = h0
set_option maxRecDepth 65536 in
set_option maxHeartbeats 40000000 in
theorem rm6 (l : Launch) (Z : State) (a0 : Array Value) (hw : ∀ d ∈ tables_1, d.before a0 Z = true) (ws : List Jvm.Cond)  (h0 : Heap) (n0 : Nat) (Z0 : n0 ≤ h0.size) :
    MetFree l (⟨"java/lang/Integer", "highestOneBit", "(I)I"⟩ : MethodName) (head1 (Jvm.Cond.code (⟨"java/lang/Integer", "highestOneBit", "(I)I"⟩ : MethodName) jdk_33_method_45_code 1 (some .int) :: ws) ({ frames := 1, cells := 0, slots := 0, locals := 15 } : Room)) (fun a U => a = #[(.int (15 : Int32))] ∧ Z.Warmed39 U.vm ∧ U.heap = h0) (fun _ _ _ _ _ => True) (fun _ U o U' => ∃ v L, o = .returned v ∧ Q6 Z  h0 n0 v U'.heap L ∧ FrameEnd U o U' L ({ frames := 1, cells := 0, slots := 0, locals := 15 } : Room).cells ({ frames := 1, cells := 0, slots := 0, locals := 15 } : Room).slots) := by
  refine MetFree.of_bodySF (plainFor_of_name pn_0) hisR ?_
  intro p e s m args below meth c s₁ Bd hml0 hP hK
  obtain ⟨rfl, hZ, hh⟩ := hP
  have hx := Bd.exec
  have hby := Bd.bytes
  have hml : c.maxLocals = 1 := hml0
  have hown : s.vm.findClass "java/lang/Integer" = some m.cls := findClass_of_methodNamed Bd.named
  have hnm := (name_of_methodNamed Bd.named Bd.method).1
  have X0 : Stand p l e ({ frames := 1, cells := 0, slots := 0, locals := 15 } : Room) s m #[(.int (15 : Int32))] below meth c s₁ [] 0 0 := Stand.of_body Bd
  have e0 : s₁.heap = h0 := by rw [← hh, Bd.state]; rfl
  have Nf0 := Fr.nil n0
  obtain ⟨Gl, hGl, kn0⟩ : ∃ Gl : State → Prop, (∀ t, Gl t → Steps p.tables e below (s₁.setTop (entryFrame m #[(.int (15 : Int32))] 1)) t) ∧ ∀ t, own_S p e below s₁ (mkF m 0 #[.val (.int (15 : Int32))] []) t → Gl t := ⟨fun t => Steps p.tables e below (s₁.setTop (entryFrame m #[(.int (15 : Int32))] 1)) t, fun _ k => k, fun t k => castTop (ef_rm6 m ) k⟩
  have kn1 : ∀ t, own_S p e below s₁ (mkF m 4 #[.val (.int (15 : Int32))] [(.int (15 : Int32)), (.int (-2147483648 : Int32)), (.int (15 : Int32))]) t → Gl t := fun t kt => kn0 t (by
    show own_S p e below s₁ (mkF m 0 #[.val (.int (15 : Int32))] []) _
    refine XS.iloadN X0.here hx rfl (hb hby d_jdk_33_method_45_0) rfl ?_
    show own_S p e below s₁ (mkF m 1 #[.val (.int (15 : Int32))] [(.int (15 : Int32))]) _
    refine X0.ldcInt hx hown (mvT hZ (hw _ (List.mem_of_getElem? (i := 35) rfl))) (g := (mkF m 1 #[.val (.int (15 : Int32))] [(.int (15 : Int32))])) rfl (hb hby d_jdk_33_method_45_1) _ ?_
    show own_S p e below s₁ (mkF m 3 #[.val (.int (15 : Int32))] [(.int (-2147483648 : Int32)), (.int (15 : Int32))]) _
    refine XS.iloadN X0.here hx rfl (hb hby d_jdk_33_method_45_3) rfl ?_
    exact kt)
  obtain ⟨_, _, ⟨T2, L2, cc2, ss2⟩, -, X2, ⟨Lc2, hQ2, l2, y2, z2⟩, st2⟩ := Jvm.LawKit.callS X0 hx (y := (⟨"java/lang/Integer", "numberOfLeadingZeros", "(I)I"⟩ : MethodName)) hown (mvT hZ (hw _ (List.mem_of_getElem? (i := 36) rfl))) (mvT hZ (hw _ (List.mem_of_getElem? (i := 37) rfl))) (mvT hZ (hw _ (List.mem_of_getElem? (i := 33) rfl))) (mvT hZ (hw _ (List.mem_of_getElem? (i := 38) rfl))) (by decide) (backOf (W := 2) (rm7 l Z a0 hw []   h0 n0 Z0 ) hZ (hw _ (List.mem_of_getElem? (i := 38) rfl)) (hw _ (List.mem_of_getElem? (i := 33) rfl)) (by decide) (by decide)) (g := (mkF m 4 #[.val (.int (15 : Int32))] [(.int (15 : Int32)), (.int (-2147483648 : Int32)), (.int (15 : Int32))])) rfl (by rw [hml]; rfl) (argsL := [(.int (15 : Int32))]) (rest := [(.int (-2147483648 : Int32)), (.int (15 : Int32))]) (lenOf pd_0 rfl) rfl (by show 2 * 0 + _ ≤ _; exact Nat.le_of_eq rfl) (hb hby d_jdk_33_method_45_4) (fun _ _ => ⟨rfl, e0, (by decide : 0 + 0 ≤ _), (by decide : 0 + 0 ≤ _)⟩)
  dsimp only [Pt.U, Pt.locs, Pt.cells, Pt.slots] at X2 l2 y2 z2 st2 hQ2
  subst l2 y2 z2
  obtain ⟨rfl, Nq2, eq2⟩ := hQ2
  have Nf2 := Fr.app Nf0 Nq2
  have kn3 : ∀ t, own_S p e below T2 (mkF m 7 #[.val (.int (15 : Int32))] [(.int (28 : Int32)), (.int (-2147483648 : Int32)), (.int (15 : Int32))]) t → Gl t := fun t kt => kn1 t (st2 _ kt)
  have kn4 : ∀ t, own_S p e below T2 (mkF m 9 #[.val (.int (15 : Int32))] [(.int (8 : Int32))]) t → Gl t := fun t kt => kn3 t (by
    show own_S p e below T2 (mkF m 7 #[.val (.int (15 : Int32))] [(.int (28 : Int32)), (.int (-2147483648 : Int32)), (.int (15 : Int32))]) _
    refine XS.iushr X2.here hx rfl (hb hby d_jdk_33_method_45_7) rfl ?_
    rw [(by decide : (((-2147483648 : Int32).toUInt32 >>> ((28 : Int32) &&& 31).toUInt32).toInt32) = (8 : Int32))]
    show own_S p e below T2 (mkF m 8 #[.val (.int (15 : Int32))] [(.int (8 : Int32)), (.int (15 : Int32))]) _
    refine XS.iand X2.here hx rfl (hb hby d_jdk_33_method_45_8) rfl ?_
    rw [(by decide : ((15 : Int32) &&& (8 : Int32)) = (8 : Int32))]
    exact kt)
  obtain ⟨fs, hr, hrun, hended, hW, hsame⟩ := X2.leave (v := some (.int (8 : Int32))) (fun h => by rw [Bd.returns] at h; cases h)
  refine ⟨_, _, hGl _ (kn4 _ (retI X2 hx Bd.returns (hb hby d_jdk_33_method_45_9) hr)), hrun, hended, _, _, rfl, ?_, ⟨_, rfl⟩, hW, hsame.mono (by decide) (by decide)⟩
  show Q6 Z  h0 n0 _ T2.heap _
  rw [eq2]
  exact ⟨rfl, Nf2, rfl⟩

theorem d_prog_82_method_3_0 : decode prog_82_method_3_code 0 = .ok (.aload_n 0, 1) := by decide +kernel
theorem d_prog_82_method_3_1 : decode prog_82_method_3_code 1 = .ok (.invokespecial 15, 3) := by decide +kernel
theorem d_prog_82_method_3_4 : decode prog_82_method_3_code 4 = .ok (.iload_n 1, 1) := by decide +kernel
theorem d_prog_82_method_3_5 : decode prog_82_method_3_code 5 = .ok (.bipush 8, 2) := by decide +kernel
theorem d_prog_82_method_3_7 : decode prog_82_method_3_code 7 = .ok (.invokestatic 20, 3) := by decide +kernel
theorem d_prog_82_method_3_10 : decode prog_82_method_3_code 10 = .ok (.istore_n 3, 1) := by decide +kernel
theorem d_prog_82_method_3_11 : decode prog_82_method_3_code 11 = .ok (.aload_n 0, 1) := by decide +kernel
theorem d_prog_82_method_3_12 : decode prog_82_method_3_code 12 = .ok (.iload_n 2, 1) := by decide +kernel
theorem d_prog_82_method_3_13 : decode prog_82_method_3_code 13 = .ok (.bipush 64, 2) := by decide +kernel
theorem d_prog_82_method_3_15 : decode prog_82_method_3_code 15 = .ok (.invokestatic 20, 3) := by decide +kernel
theorem d_prog_82_method_3_18 : decode prog_82_method_3_code 18 = .ok (.newarray .byte, 2) := by decide +kernel
theorem d_prog_82_method_3_20 : decode prog_82_method_3_code 20 = .ok (.putfield 26, 3) := by decide +kernel
theorem d_prog_82_method_3_23 : decode prog_82_method_3_code 23 = .ok (.aload_n 0, 1) := by decide +kernel
theorem d_prog_82_method_3_24 : decode prog_82_method_3_code 24 = .ok (.iload_n 3, 1) := by decide +kernel
theorem d_prog_82_method_3_25 : decode prog_82_method_3_code 25 = .ok (.newarray .int, 2) := by decide +kernel
theorem d_prog_82_method_3_27 : decode prog_82_method_3_code 27 = .ok (.putfield 30, 3) := by decide +kernel
theorem d_prog_82_method_3_30 : decode prog_82_method_3_code 30 = .ok (.aload_n 0, 1) := by decide +kernel
theorem d_prog_82_method_3_31 : decode prog_82_method_3_code 31 = .ok (.iload_n 3, 1) := by decide +kernel
theorem d_prog_82_method_3_32 : decode prog_82_method_3_code 32 = .ok (.newarray .int, 2) := by decide +kernel
theorem d_prog_82_method_3_34 : decode prog_82_method_3_code 34 = .ok (.putfield 34, 3) := by decide +kernel
theorem d_prog_82_method_3_37 : decode prog_82_method_3_code 37 = .ok (.aload_n 0, 1) := by decide +kernel
theorem d_prog_82_method_3_38 : decode prog_82_method_3_code 38 = .ok (.bipush 16, 2) := by decide +kernel
theorem d_prog_82_method_3_40 : decode prog_82_method_3_code 40 = .ok (.iconst 2, 1) := by decide +kernel
theorem d_prog_82_method_3_41 : decode prog_82_method_3_code 41 = .ok (.iload_n 3, 1) := by decide +kernel
theorem d_prog_82_method_3_42 : decode prog_82_method_3_code 42 = .ok (.imul, 1) := by decide +kernel
theorem d_prog_82_method_3_43 : decode prog_82_method_3_code 43 = .ok (.iconst 1, 1) := by decide +kernel
theorem d_prog_82_method_3_44 : decode prog_82_method_3_code 44 = .ok (.isub, 1) := by decide +kernel
theorem d_prog_82_method_3_45 : decode prog_82_method_3_code 45 = .ok (.invokestatic 37, 3) := by decide +kernel
theorem d_prog_82_method_3_48 : decode prog_82_method_3_code 48 = .ok (.iconst 1, 1) := by decide +kernel
theorem d_prog_82_method_3_49 : decode prog_82_method_3_code 49 = .ok (.ishl, 1) := by decide +kernel
theorem d_prog_82_method_3_50 : decode prog_82_method_3_code 50 = .ok (.invokestatic 20, 3) := by decide +kernel
theorem d_prog_82_method_3_53 : decode prog_82_method_3_code 53 = .ok (.newarray .int, 2) := by decide +kernel
theorem d_prog_82_method_3_55 : decode prog_82_method_3_code 55 = .ok (.putfield 42, 3) := by decide +kernel
theorem d_prog_82_method_3_58 : decode prog_82_method_3_code 58 = .ok (.return_, 1) := by decide +kernel
theorem pn_1 : plainName "com/example/runs_to_scores/runstoscores/scoring/TopicDocnos" = true := by first | (simp [plainName, overriddenIn]; done) | decide +kernel
theorem pd_1 : parseMethodDescriptor "(II)I" = some ⟨[.int, .int], some .int⟩ := by decide +kernel
theorem ef_rm4 (m : MethodId) (x0 : Addr) : entryFrame m #[(.ref x0), (.int (8 : Int32)), (.int (64 : Int32))] 4 = mkF m 0 #[.val (.ref x0), .val (.int (8 : Int32)), .val (.int (64 : Int32)), .unset] [] := by first | (simp [entryFrame, mkF, argsToLocals, Value.category]; done) | rfl
def Q4 (Z : State) (a1 : Addr) (h0 : Heap) (n0 : Nat) (v : Option Value) (h : Heap) (L : List Loc) : Prop := v = none ∧ Fr n0 L ∧ ∃ (bB bE bH bS : Addr) (kB kE kH kS : ClassId), h0.size ≤ bB ∧ @LT.lt Nat _ bB bE ∧ @LT.lt Nat _ bE bH ∧ @LT.lt Nat _ bH bS ∧ Keep h0 h [a1] ∧ Exa Z h a1 "com/example/runs_to_scores/runstoscores/scoring/TopicDocnos" ∧ Fld Z h a1 "com/example/runs_to_scores/runstoscores/scoring/TopicDocnos" "bytes" "[B" (.ref bB) ∧ Fld Z h a1 "com/example/runs_to_scores/runstoscores/scoring/TopicDocnos" "ends" "[I" (.ref bE) ∧ Fld Z h a1 "com/example/runs_to_scores/runstoscores/scoring/TopicDocnos" "hashes" "[I" (.ref bH) ∧ Fld Z h a1 "com/example/runs_to_scores/runstoscores/scoring/TopicDocnos" "slots" "[I" (.ref bS) ∧ Fld Z h a1 "com/example/runs_to_scores/runstoscores/scoring/TopicDocnos" "size" "I" (.int (0 : Int32)) ∧ Arv Z h bB kB .byte (64 : Int32) ((.int (0 : Int32)) :: (.int (0 : Int32)) :: (.int (0 : Int32)) :: (.int (0 : Int32)) :: (.int (0 : Int32)) :: (.int (0 : Int32)) :: (.int (0 : Int32)) :: (.int (0 : Int32)) :: (.int (0 : Int32)) :: (.int (0 : Int32)) :: (.int (0 : Int32)) :: (.int (0 : Int32)) :: (.int (0 : Int32)) :: (.int (0 : Int32)) :: (.int (0 : Int32)) :: (.int (0 : Int32)) :: (.int (0 : Int32)) :: (.int (0 : Int32)) :: (.int (0 : Int32)) :: (.int (0 : Int32)) :: (.int (0 : Int32)) :: (.int (0 : Int32)) :: (.int (0 : Int32)) :: (.int (0 : Int32)) :: (.int (0 : Int32)) :: (.int (0 : Int32)) :: (.int (0 : Int32)) :: (.int (0 : Int32)) :: (.int (0 : Int32)) :: (.int (0 : Int32)) :: (.int (0 : Int32)) :: (.int (0 : Int32)) :: (.int (0 : Int32)) :: (.int (0 : Int32)) :: (.int (0 : Int32)) :: (.int (0 : Int32)) :: (.int (0 : Int32)) :: (.int (0 : Int32)) :: (.int (0 : Int32)) :: (.int (0 : Int32)) :: (.int (0 : Int32)) :: (.int (0 : Int32)) :: (.int (0 : Int32)) :: (.int (0 : Int32)) :: (.int (0 : Int32)) :: (.int (0 : Int32)) :: (.int (0 : Int32)) :: (.int (0 : Int32)) :: (.int (0 : Int32)) :: (.int (0 : Int32)) :: (.int (0 : Int32)) :: (.int (0 : Int32)) :: (.int (0 : Int32)) :: (.int (0 : Int32)) :: (.int (0 : Int32)) :: (.int (0 : Int32)) :: (.int (0 : Int32)) :: (.int (0 : Int32)) :: (.int (0 : Int32)) :: (.int (0 : Int32)) :: (.int (0 : Int32)) :: (.int (0 : Int32)) :: (.int (0 : Int32)) :: (.int (0 : Int32)) :: []) (.int (0 : Int32)) ∧ Arv Z h bE kE .int (8 : Int32) [(.int (0 : Int32)), (.int (0 : Int32)), (.int (0 : Int32)), (.int (0 : Int32)), (.int (0 : Int32)), (.int (0 : Int32)), (.int (0 : Int32)), (.int (0 : Int32))] (.int (0 : Int32)) ∧ Arv Z h bH kH .int (8 : Int32) [(.int (0 : Int32)), (.int (0 : Int32)), (.int (0 : Int32)), (.int (0 : Int32)), (.int (0 : Int32)), (.int (0 : Int32)), (.int (0 : Int32)), (.int (0 : Int32))] (.int (0 : Int32)) ∧ Arv Z h bS kS .int (16 : Int32) [(.int (0 : Int32)), (.int (0 : Int32)), (.int (0 : Int32)), (.int (0 : Int32)), (.int (0 : Int32)), (.int (0 : Int32)), (.int (0 : Int32)), (.int (0 : Int32)), (.int (0 : Int32)), (.int (0 : Int32)), (.int (0 : Int32)), (.int (0 : Int32)), (.int (0 : Int32)), (.int (0 : Int32)), (.int (0 : Int32)), (.int (0 : Int32))] (.int (0 : Int32))
set_option maxRecDepth 65536 in
set_option maxHeartbeats 40000000 in
theorem rm4 (l : Launch) (Z : State) (a0 : Array Value) (hw : ∀ d ∈ tables_1, d.before a0 Z = true) (ws : List Jvm.Cond) (a1 : Addr) (h0 : Heap) (n0 : Nat) (Z0 : n0 ≤ h0.size) (NL0 : Fld Z h0 a1 "com/example/runs_to_scores/runstoscores/scoring/TopicDocnos" "bytes" "[B" .null) (NL1 : Fld Z h0 a1 "com/example/runs_to_scores/runstoscores/scoring/TopicDocnos" "ends" "[I" .null) (NL2 : Fld Z h0 a1 "com/example/runs_to_scores/runstoscores/scoring/TopicDocnos" "hashes" "[I" .null) (NL3 : Fld Z h0 a1 "com/example/runs_to_scores/runstoscores/scoring/TopicDocnos" "slots" "[I" .null) (NL4 : Fld Z h0 a1 "com/example/runs_to_scores/runstoscores/scoring/TopicDocnos" "size" "I" (.int (0 : Int32))) (E1 : Exa Z h0 a1 "com/example/runs_to_scores/runstoscores/scoring/TopicDocnos") (g_a1 : n0 ≤ a1) :
    MetFree l (⟨"com/example/runs_to_scores/runstoscores/scoring/TopicDocnos", "<init>", "(II)V"⟩ : MethodName) (head1 (Jvm.Cond.code (⟨"com/example/runs_to_scores/runstoscores/scoring/TopicDocnos", "<init>", "(II)V"⟩ : MethodName) prog_82_method_3_code 4 none :: ws) ({ frames := 2, cells := 4, slots := 96, locals := 29 } : Room)) (fun a U => a = #[(.ref a1), (.int (8 : Int32)), (.int (64 : Int32))] ∧ Z.Warmed39 U.vm ∧ U.heap = h0) (fun _ _ _ _ _ => True) (fun _ U o U' => ∃ v L, o = .returned v ∧ Q4 Z a1 h0 n0 v U'.heap L ∧ FrameEnd U o U' L ({ frames := 2, cells := 4, slots := 96, locals := 29 } : Room).cells ({ frames := 2, cells := 4, slots := 96, locals := 29 } : Room).slots) := by
  refine MetFree.of_bodySF (plainFor_of_name pn_1) hisR ?_
  intro p e s m args below meth c s₁ Bd hml0 hP hK
  obtain ⟨rfl, hZ, hh⟩ := hP
  have hx := Bd.exec
  have hby := Bd.bytes
  have hml : c.maxLocals = 4 := hml0
  have hown : s.vm.findClass "com/example/runs_to_scores/runstoscores/scoring/TopicDocnos" = some m.cls := findClass_of_methodNamed Bd.named
  have hnm := (name_of_methodNamed Bd.named Bd.method).1
  have X0 : Stand p l e ({ frames := 2, cells := 4, slots := 96, locals := 29 } : Room) s m #[(.ref a1), (.int (8 : Int32)), (.int (64 : Int32))] below meth c s₁ [] 0 0 := Stand.of_body Bd
  have e0 : s₁.heap = h0 := by rw [← hh, Bd.state]; rfl
  have Nf0 := Fr.nil n0
  obtain ⟨Gl, hGl, kn0⟩ : ∃ Gl : State → Prop, (∀ t, Gl t → Steps p.tables e below (s₁.setTop (entryFrame m #[(.ref a1), (.int (8 : Int32)), (.int (64 : Int32))] 4)) t) ∧ ∀ t, own_S p e below s₁ (mkF m 0 #[.val (.ref a1), .val (.int (8 : Int32)), .val (.int (64 : Int32)), .unset] []) t → Gl t := ⟨fun t => Steps p.tables e below (s₁.setTop (entryFrame m #[(.ref a1), (.int (8 : Int32)), (.int (64 : Int32))] 4)) t, fun _ k => k, fun t k => castTop (ef_rm4 m a1) k⟩
  have kn1 : ∀ t, own_S p e below s₁ (mkF m 1 #[.val (.ref a1), .val (.int (8 : Int32)), .val (.int (64 : Int32)), .unset] [(.ref a1)]) t → Gl t := fun t kt => kn0 t (by
    show own_S p e below s₁ (mkF m 0 #[.val (.ref a1), .val (.int (8 : Int32)), .val (.int (64 : Int32)), .unset] []) _
    refine XS.aloadN X0.here hx rfl (hb hby d_prog_82_method_3_0) rfl rfl ?_
    exact kt)
  obtain ⟨T2, X2, e2, st2⟩ := initO X0 hx hZ hown (hw _ (List.mem_of_getElem? (i := 18) rfl)) (hw _ (List.mem_of_getElem? (i := 7) rfl)) (hw _ (List.mem_of_getElem? (i := 8) rfl)) e0 (g := (mkF m 1 #[.val (.ref a1), .val (.int (8 : Int32)), .val (.int (64 : Int32)), .unset] [(.ref a1)])) rfl (by rw [hml]; rfl) rfl (hb hby d_prog_82_method_3_1) (by decide) (W := 0) (by show 2 * 0 + _ ≤ _; exact Nat.le_of_eq rfl) (by decide)
  have kn3 : ∀ t, own_S p e below T2 (mkF m 4 #[.val (.ref a1), .val (.int (8 : Int32)), .val (.int (64 : Int32)), .unset] []) t → Gl t := fun t kt => kn1 t (st2 _ kt)
  have kn4 : ∀ t, own_S p e below T2 (mkF m 7 #[.val (.ref a1), .val (.int (8 : Int32)), .val (.int (64 : Int32)), .unset] [(.int (8 : Int32)), (.int (8 : Int32))]) t → Gl t := fun t kt => kn3 t (by
    show own_S p e below T2 (mkF m 4 #[.val (.ref a1), .val (.int (8 : Int32)), .val (.int (64 : Int32)), .unset] []) _
    refine XS.iloadN X2.here hx rfl (hb hby d_prog_82_method_3_4) rfl ?_
    show own_S p e below T2 (mkF m 5 #[.val (.ref a1), .val (.int (8 : Int32)), .val (.int (64 : Int32)), .unset] [(.int (8 : Int32))]) _
    refine XS.bipush X2.here hx rfl (hb hby d_prog_82_method_3_5) ?_
    exact kt)
  obtain ⟨_, _, ⟨T5, L5, cc5, ss5⟩, -, X5, ⟨Lc5, hQ5, l5, y5, z5⟩, st5⟩ := Jvm.LawKit.callS X2 hx (y := (⟨"java/lang/Math", "max", "(II)I"⟩ : MethodName)) hown (mvT hZ (hw _ (List.mem_of_getElem? (i := 19) rfl))) (mvT hZ (hw _ (List.mem_of_getElem? (i := 20) rfl))) (mvT hZ (hw _ (List.mem_of_getElem? (i := 21) rfl))) (mvT hZ (hw _ (List.mem_of_getElem? (i := 22) rfl))) (by decide) (backOf (W := 0) (rm5 l Z a0 hw [] (8 : Int32) (8 : Int32)  h0 n0 Z0 ) hZ (hw _ (List.mem_of_getElem? (i := 22) rfl)) (hw _ (List.mem_of_getElem? (i := 21) rfl)) (by decide) (by decide)) (g := (mkF m 7 #[.val (.ref a1), .val (.int (8 : Int32)), .val (.int (64 : Int32)), .unset] [(.int (8 : Int32)), (.int (8 : Int32))])) rfl (by rw [hml]; rfl) (argsL := [(.int (8 : Int32)), (.int (8 : Int32))]) (rest := []) (lenOf pd_1 rfl) rfl (by show 2 * 0 + _ ≤ _; exact Nat.le_of_eq rfl) (hb hby d_prog_82_method_3_7) (fun _ _ => ⟨rfl, e2, (by decide : 0 + 0 ≤ _), (by decide : 0 + 0 ≤ _)⟩)
  dsimp only [Pt.U, Pt.locs, Pt.cells, Pt.slots] at X5 l5 y5 z5 st5 hQ5
  subst l5 y5 z5
  obtain ⟨rfl, Nq5, eq5⟩ := hQ5
  have Nf5 := Fr.app Nf0 Nq5
  have kn6 : ∀ t, own_S p e below T5 (mkF m 10 #[.val (.ref a1), .val (.int (8 : Int32)), .val (.int (64 : Int32)), .unset] [(.int (own_mx (8 : Int32) (8 : Int32)))]) t → Gl t := fun t kt => kn4 t (st5 _ kt)
  rw [(show (own_mx (8 : Int32) (8 : Int32)) = (8 : Int32) from by decide)] at kn6
  have kn7 : ∀ t, own_S p e below T5 (mkF m 15 #[.val (.ref a1), .val (.int (8 : Int32)), .val (.int (64 : Int32)), .val (.int (8 : Int32))] [(.int (64 : Int32)), (.int (64 : Int32)), (.ref a1)]) t → Gl t := fun t kt => kn6 t (by
    show own_S p e below T5 (mkF m 10 #[.val (.ref a1), .val (.int (8 : Int32)), .val (.int (64 : Int32)), .unset] [(.int (8 : Int32))]) _
    refine XS.istoreN X5.here hx rfl (hb hby d_prog_82_method_3_10) rfl (l' := #[.val (.ref a1), .val (.int (8 : Int32)), .val (.int (64 : Int32)), .val (.int (8 : Int32))]) rfl ?_
    show own_S p e below T5 (mkF m 11 #[.val (.ref a1), .val (.int (8 : Int32)), .val (.int (64 : Int32)), .val (.int (8 : Int32))] []) _
    refine XS.aloadN X5.here hx rfl (hb hby d_prog_82_method_3_11) rfl rfl ?_
    show own_S p e below T5 (mkF m 12 #[.val (.ref a1), .val (.int (8 : Int32)), .val (.int (64 : Int32)), .val (.int (8 : Int32))] [(.ref a1)]) _
    refine XS.iloadN X5.here hx rfl (hb hby d_prog_82_method_3_12) rfl ?_
    show own_S p e below T5 (mkF m 13 #[.val (.ref a1), .val (.int (8 : Int32)), .val (.int (64 : Int32)), .val (.int (8 : Int32))] [(.int (64 : Int32)), (.ref a1)]) _
    refine XS.bipush X5.here hx rfl (hb hby d_prog_82_method_3_13) ?_
    exact kt)
  obtain ⟨_, _, ⟨T8, L8, cc8, ss8⟩, -, X8, ⟨Lc8, hQ8, l8, y8, z8⟩, st8⟩ := Jvm.LawKit.callS X5 hx (y := (⟨"java/lang/Math", "max", "(II)I"⟩ : MethodName)) hown (mvT hZ (hw _ (List.mem_of_getElem? (i := 19) rfl))) (mvT hZ (hw _ (List.mem_of_getElem? (i := 20) rfl))) (mvT hZ (hw _ (List.mem_of_getElem? (i := 21) rfl))) (mvT hZ (hw _ (List.mem_of_getElem? (i := 22) rfl))) (by decide) (backOf (W := 1) (rm5 l Z a0 hw [] (64 : Int32) (64 : Int32)  h0 n0 Z0 ) hZ (hw _ (List.mem_of_getElem? (i := 22) rfl)) (hw _ (List.mem_of_getElem? (i := 21) rfl)) (by decide) (by decide)) (g := (mkF m 15 #[.val (.ref a1), .val (.int (8 : Int32)), .val (.int (64 : Int32)), .val (.int (8 : Int32))] [(.int (64 : Int32)), (.int (64 : Int32)), (.ref a1)])) rfl (by rw [hml]; rfl) (argsL := [(.int (64 : Int32)), (.int (64 : Int32))]) (rest := [(.ref a1)]) (lenOf pd_1 rfl) rfl (by show 2 * 0 + _ ≤ _; exact Nat.le_of_eq rfl) (hb hby d_prog_82_method_3_15) (fun _ _ => ⟨rfl, eq5, (by decide : 0 + 0 ≤ _), (by decide : 0 + 0 ≤ _)⟩)
  dsimp only [Pt.U, Pt.locs, Pt.cells, Pt.slots] at X8 l8 y8 z8 st8 hQ8
  subst l8 y8 z8
  obtain ⟨rfl, Nq8, eq8⟩ := hQ8
  have Nf8 := Fr.app Nf5 Nq8
  have kn9 : ∀ t, own_S p e below T8 (mkF m 18 #[.val (.ref a1), .val (.int (8 : Int32)), .val (.int (64 : Int32)), .val (.int (8 : Int32))] [(.int (own_mx (64 : Int32) (64 : Int32))), (.ref a1)]) t → Gl t := fun t kt => kn7 t (st8 _ kt)
  rw [(show (own_mx (64 : Int32) (64 : Int32)) = (64 : Int32) from by decide)] at kn9
  obtain ⟨T10, h10, kk10, X10, e10, E10, A10, st10⟩ := newP X8 hx hZ (hw _ (List.mem_of_getElem? (i := 23) rfl)) eq8 (g := (mkF m 18 #[.val (.ref a1), .val (.int (8 : Int32)), .val (.int (64 : Int32)), .val (.int (8 : Int32))] [(.int (64 : Int32)), (.ref a1)])) rfl (hb hby d_prog_82_method_3_18) rfl (by decide) (cap := 64) (by decide) (by decide) (by decide) (by decide)
  obtain ⟨b10, g10⟩ : ∃ z, z = h0.size := ⟨_, rfl⟩
  rw [← g10] at A10 st10
  have sz_b10 : h0.size ≤ b10 := Nat.le_trans (Keep.refl h0 [a1]).1 (Nat.le_of_eq g10.symm)
  have g_b10 : n0 ≤ b10 := Nat.le_trans Z0 (Nat.le_of_eq g10.symm)
  have ne_a1_b10 : a1 ≠ b10 := Nat.ne_of_lt (Nat.lt_of_lt_of_le NL0.lt (Nat.le_of_eq g10.symm))
  have Z11 : n0 ≤ h10.size := Nat.le_trans Z0 E10.1
  have K12 : Keep h0 h10 [a1] := (Keep.refl h0 [a1]).ext E10
  have V10 : Arv Z h10 b10 kk10 .byte (64 : Int32) ((.int (0 : Int32)) :: (.int (0 : Int32)) :: (.int (0 : Int32)) :: (.int (0 : Int32)) :: (.int (0 : Int32)) :: (.int (0 : Int32)) :: (.int (0 : Int32)) :: (.int (0 : Int32)) :: (.int (0 : Int32)) :: (.int (0 : Int32)) :: (.int (0 : Int32)) :: (.int (0 : Int32)) :: (.int (0 : Int32)) :: (.int (0 : Int32)) :: (.int (0 : Int32)) :: (.int (0 : Int32)) :: (.int (0 : Int32)) :: (.int (0 : Int32)) :: (.int (0 : Int32)) :: (.int (0 : Int32)) :: (.int (0 : Int32)) :: (.int (0 : Int32)) :: (.int (0 : Int32)) :: (.int (0 : Int32)) :: (.int (0 : Int32)) :: (.int (0 : Int32)) :: (.int (0 : Int32)) :: (.int (0 : Int32)) :: (.int (0 : Int32)) :: (.int (0 : Int32)) :: (.int (0 : Int32)) :: (.int (0 : Int32)) :: (.int (0 : Int32)) :: (.int (0 : Int32)) :: (.int (0 : Int32)) :: (.int (0 : Int32)) :: (.int (0 : Int32)) :: (.int (0 : Int32)) :: (.int (0 : Int32)) :: (.int (0 : Int32)) :: (.int (0 : Int32)) :: (.int (0 : Int32)) :: (.int (0 : Int32)) :: (.int (0 : Int32)) :: (.int (0 : Int32)) :: (.int (0 : Int32)) :: (.int (0 : Int32)) :: (.int (0 : Int32)) :: (.int (0 : Int32)) :: (.int (0 : Int32)) :: (.int (0 : Int32)) :: (.int (0 : Int32)) :: (.int (0 : Int32)) :: (.int (0 : Int32)) :: (.int (0 : Int32)) :: (.int (0 : Int32)) :: (.int (0 : Int32)) :: (.int (0 : Int32)) :: (.int (0 : Int32)) :: (.int (0 : Int32)) :: (.int (0 : Int32)) :: (.int (0 : Int32)) :: (.int (0 : Int32)) :: (.int (0 : Int32)) :: []) (.int (0 : Int32)) := (Arv.new A10 (by decide)).pad (pad_rep [] (.int (0 : Int32)) 64)
  have kn13 : ∀ t, own_S p e below T10 (mkF m 20 #[.val (.ref a1), .val (.int (8 : Int32)), .val (.int (64 : Int32)), .val (.int (8 : Int32))] [(.ref b10), (.ref a1)]) t → Gl t := fun t kt => kn9 t (st10 _ kt)
  have f14 := (NL0.ext E10)
  have f15 := (E1.ext E10)
  obtain ⟨T16, h16, X16, e16, W16, st16⟩ := putF X10 hx hZ hown (host := "") (Or.inl (hw _ (List.mem_of_getElem? (i := 24) rfl))) Via.refl e10 f14 f15 (Or.inl (hw _ (List.mem_of_getElem? (i := 25) rfl))) (hw _ (List.mem_of_getElem? (i := 10) rfl)) (ty := (.array .byte)) (by decide) rfl rfl (g := (mkF m 20 #[.val (.ref a1), .val (.int (8 : Int32)), .val (.int (64 : Int32)), .val (.int (8 : Int32))] [(.ref b10), (.ref a1)])) rfl rfl (hb hby d_prog_82_method_3_20)
  have Z17 : n0 ≤ h16.size := Nat.le_trans Z11 (Keep.of_wr W16).1
  have K18 : Keep h0 h16 [a1] := K12.wr W16 (Or.inl (List.mem_of_getElem? (i := 0) rfl))
  have Fw16 := f14.same W16
  have Nf19 := Fr.snoc X16 Nf8 g_a1
  have kn20 : ∀ t, own_S p e below T16 (mkF m 23 #[.val (.ref a1), .val (.int (8 : Int32)), .val (.int (64 : Int32)), .val (.int (8 : Int32))] []) t → Gl t := fun t kt => kn13 t (st16 _ kt)
  have f21 := (V10.other W16 (Ne.symm ne_a1_b10))
  have kn22 : ∀ t, own_S p e below T16 (mkF m 25 #[.val (.ref a1), .val (.int (8 : Int32)), .val (.int (64 : Int32)), .val (.int (8 : Int32))] [(.int (8 : Int32)), (.ref a1)]) t → Gl t := fun t kt => kn20 t (by
    show own_S p e below T16 (mkF m 23 #[.val (.ref a1), .val (.int (8 : Int32)), .val (.int (64 : Int32)), .val (.int (8 : Int32))] []) _
    refine XS.aloadN X16.here hx rfl (hb hby d_prog_82_method_3_23) rfl rfl ?_
    show own_S p e below T16 (mkF m 24 #[.val (.ref a1), .val (.int (8 : Int32)), .val (.int (64 : Int32)), .val (.int (8 : Int32))] [(.ref a1)]) _
    refine XS.iloadN X16.here hx rfl (hb hby d_prog_82_method_3_24) rfl ?_
    exact kt)
  obtain ⟨T23, h23, kk23, X23, e23, E23, A23, st23⟩ := newP X16 hx hZ (hw _ (List.mem_of_getElem? (i := 26) rfl)) e16 (g := (mkF m 25 #[.val (.ref a1), .val (.int (8 : Int32)), .val (.int (64 : Int32)), .val (.int (8 : Int32))] [(.int (8 : Int32)), (.ref a1)])) rfl (hb hby d_prog_82_method_3_25) rfl (by decide) (cap := 8) (by decide) (by decide) (by decide) (by decide)
  obtain ⟨b23, g23⟩ : ∃ z, z = h16.size := ⟨_, rfl⟩
  rw [← g23] at A23 st23
  have sz_b23 : h0.size ≤ b23 := Nat.le_trans K18.1 (Nat.le_of_eq g23.symm)
  have g_b23 : n0 ≤ b23 := Nat.le_trans Z17 (Nat.le_of_eq g23.symm)
  have ne_a1_b23 : a1 ≠ b23 := Nat.ne_of_lt (Nat.lt_of_lt_of_le Fw16.lt (Nat.le_of_eq g23.symm))
  have ne_b10_b23 : b10 ≠ b23 := Nat.ne_of_lt (Nat.lt_of_lt_of_le f21.lt (Nat.le_of_eq g23.symm))
  have Z24 : n0 ≤ h23.size := Nat.le_trans Z17 E23.1
  have K25 : Keep h0 h23 [a1] := K18.ext E23
  have V23 : Arv Z h23 b23 kk23 .int (8 : Int32) [(.int (0 : Int32)), (.int (0 : Int32)), (.int (0 : Int32)), (.int (0 : Int32)), (.int (0 : Int32)), (.int (0 : Int32)), (.int (0 : Int32)), (.int (0 : Int32))] (.int (0 : Int32)) := (Arv.new A23 (by decide)).pad (pad_rep [] (.int (0 : Int32)) 8)
  have kn26 : ∀ t, own_S p e below T23 (mkF m 27 #[.val (.ref a1), .val (.int (8 : Int32)), .val (.int (64 : Int32)), .val (.int (8 : Int32))] [(.ref b23), (.ref a1)]) t → Gl t := fun t kt => kn22 t (st23 _ kt)
  have lt_b10_b23 : b10 < b23 := Nat.lt_of_lt_of_le f21.lt (Nat.le_of_eq g23.symm)
  have f27 := (((NL1.ext E10).other W16 (Or.inr (slot_ne (Or.inl (hw _ (List.mem_of_getElem? (i := 28) rfl))) (Or.inl (hw _ (List.mem_of_getElem? (i := 25) rfl))) (by decide) (t := (.array .int)) (t' := (.array .byte)) (by decide) (by decide)))).ext E23)
  have f28 := ((f15.wr W16).ext E23)
  obtain ⟨T29, h29, X29, e29, W29, st29⟩ := putF X23 hx hZ hown (host := "") (Or.inl (hw _ (List.mem_of_getElem? (i := 27) rfl))) Via.refl e23 f27 f28 (Or.inl (hw _ (List.mem_of_getElem? (i := 28) rfl))) (hw _ (List.mem_of_getElem? (i := 10) rfl)) (ty := (.array .int)) (by decide) rfl rfl (g := (mkF m 27 #[.val (.ref a1), .val (.int (8 : Int32)), .val (.int (64 : Int32)), .val (.int (8 : Int32))] [(.ref b23), (.ref a1)])) rfl rfl (hb hby d_prog_82_method_3_27)
  have Z30 : n0 ≤ h29.size := Nat.le_trans Z24 (Keep.of_wr W29).1
  have K31 : Keep h0 h29 [a1] := K25.wr W29 (Or.inl (List.mem_of_getElem? (i := 0) rfl))
  have Fw29 := f27.same W29
  have Nf32 := Fr.snoc X29 Nf19 g_a1
  have kn33 : ∀ t, own_S p e below T29 (mkF m 30 #[.val (.ref a1), .val (.int (8 : Int32)), .val (.int (64 : Int32)), .val (.int (8 : Int32))] []) t → Gl t := fun t kt => kn26 t (st29 _ kt)
  have f34 := (V23.other W29 (Ne.symm ne_a1_b23))
  have kn35 : ∀ t, own_S p e below T29 (mkF m 32 #[.val (.ref a1), .val (.int (8 : Int32)), .val (.int (64 : Int32)), .val (.int (8 : Int32))] [(.int (8 : Int32)), (.ref a1)]) t → Gl t := fun t kt => kn33 t (by
    show own_S p e below T29 (mkF m 30 #[.val (.ref a1), .val (.int (8 : Int32)), .val (.int (64 : Int32)), .val (.int (8 : Int32))] []) _
    refine XS.aloadN X29.here hx rfl (hb hby d_prog_82_method_3_30) rfl rfl ?_
    show own_S p e below T29 (mkF m 31 #[.val (.ref a1), .val (.int (8 : Int32)), .val (.int (64 : Int32)), .val (.int (8 : Int32))] [(.ref a1)]) _
    refine XS.iloadN X29.here hx rfl (hb hby d_prog_82_method_3_31) rfl ?_
    exact kt)
  obtain ⟨T36, h36, kk36, X36, e36, E36, A36, st36⟩ := newP X29 hx hZ (hw _ (List.mem_of_getElem? (i := 26) rfl)) e29 (g := (mkF m 32 #[.val (.ref a1), .val (.int (8 : Int32)), .val (.int (64 : Int32)), .val (.int (8 : Int32))] [(.int (8 : Int32)), (.ref a1)])) rfl (hb hby d_prog_82_method_3_32) rfl (by decide) (cap := 8) (by decide) (by decide) (by decide) (by decide)
  obtain ⟨b36, g36⟩ : ∃ z, z = h29.size := ⟨_, rfl⟩
  rw [← g36] at A36 st36
  have sz_b36 : h0.size ≤ b36 := Nat.le_trans K31.1 (Nat.le_of_eq g36.symm)
  have g_b36 : n0 ≤ b36 := Nat.le_trans Z30 (Nat.le_of_eq g36.symm)
  have f37 := ((Fw16.ext E23).other W29 (Or.inr (slot_ne (Or.inl (hw _ (List.mem_of_getElem? (i := 25) rfl))) (Or.inl (hw _ (List.mem_of_getElem? (i := 28) rfl))) (by decide) (t := (.array .byte)) (t' := (.array .int)) (by decide) (by decide))))
  have ne_a1_b36 : a1 ≠ b36 := Nat.ne_of_lt (Nat.lt_of_lt_of_le f37.lt (Nat.le_of_eq g36.symm))
  have f38 := ((f21.ext E23).other W29 (Ne.symm ne_a1_b10))
  have ne_b10_b36 : b10 ≠ b36 := Nat.ne_of_lt (Nat.lt_of_lt_of_le f38.lt (Nat.le_of_eq g36.symm))
  have ne_b23_b36 : b23 ≠ b36 := Nat.ne_of_lt (Nat.lt_of_lt_of_le f34.lt (Nat.le_of_eq g36.symm))
  have Z39 : n0 ≤ h36.size := Nat.le_trans Z30 E36.1
  have K40 : Keep h0 h36 [a1] := K31.ext E36
  have V36 : Arv Z h36 b36 kk36 .int (8 : Int32) [(.int (0 : Int32)), (.int (0 : Int32)), (.int (0 : Int32)), (.int (0 : Int32)), (.int (0 : Int32)), (.int (0 : Int32)), (.int (0 : Int32)), (.int (0 : Int32))] (.int (0 : Int32)) := (Arv.new A36 (by decide)).pad (pad_rep [] (.int (0 : Int32)) 8)
  have kn41 : ∀ t, own_S p e below T36 (mkF m 34 #[.val (.ref a1), .val (.int (8 : Int32)), .val (.int (64 : Int32)), .val (.int (8 : Int32))] [(.ref b36), (.ref a1)]) t → Gl t := fun t kt => kn35 t (st36 _ kt)
  have lt_b23_b36 : b23 < b36 := Nat.lt_of_lt_of_le f34.lt (Nat.le_of_eq g36.symm)
  have f42 := (((((NL2.ext E10).other W16 (Or.inr (slot_ne (Or.inl (hw _ (List.mem_of_getElem? (i := 30) rfl))) (Or.inl (hw _ (List.mem_of_getElem? (i := 25) rfl))) (by decide) (t := (.array .int)) (t' := (.array .byte)) (by decide) (by decide)))).ext E23).other W29 (Or.inr (slot_ne (Or.inl (hw _ (List.mem_of_getElem? (i := 30) rfl))) (Or.inl (hw _ (List.mem_of_getElem? (i := 28) rfl))) (by decide) (t := (.array .int)) (t' := (.array .int)) (by decide) (by decide)))).ext E36)
  have f43 := ((f28.wr W29).ext E36)
  obtain ⟨T44, h44, X44, e44, W44, st44⟩ := putF X36 hx hZ hown (host := "") (Or.inl (hw _ (List.mem_of_getElem? (i := 29) rfl))) Via.refl e36 f42 f43 (Or.inl (hw _ (List.mem_of_getElem? (i := 30) rfl))) (hw _ (List.mem_of_getElem? (i := 10) rfl)) (ty := (.array .int)) (by decide) rfl rfl (g := (mkF m 34 #[.val (.ref a1), .val (.int (8 : Int32)), .val (.int (64 : Int32)), .val (.int (8 : Int32))] [(.ref b36), (.ref a1)])) rfl rfl (hb hby d_prog_82_method_3_34)
  have Z45 : n0 ≤ h44.size := Nat.le_trans Z39 (Keep.of_wr W44).1
  have K46 : Keep h0 h44 [a1] := K40.wr W44 (Or.inl (List.mem_of_getElem? (i := 0) rfl))
  have Fw44 := f42.same W44
  have Nf47 := Fr.snoc X44 Nf32 g_a1
  have kn48 : ∀ t, own_S p e below T44 (mkF m 37 #[.val (.ref a1), .val (.int (8 : Int32)), .val (.int (64 : Int32)), .val (.int (8 : Int32))] []) t → Gl t := fun t kt => kn41 t (st44 _ kt)
  have kn49 : ∀ t, own_S p e below T44 (mkF m 45 #[.val (.ref a1), .val (.int (8 : Int32)), .val (.int (64 : Int32)), .val (.int (8 : Int32))] [(.int (15 : Int32)), (.int (16 : Int32)), (.ref a1)]) t → Gl t := fun t kt => kn48 t (by
    show own_S p e below T44 (mkF m 37 #[.val (.ref a1), .val (.int (8 : Int32)), .val (.int (64 : Int32)), .val (.int (8 : Int32))] []) _
    refine XS.aloadN X44.here hx rfl (hb hby d_prog_82_method_3_37) rfl rfl ?_
    show own_S p e below T44 (mkF m 38 #[.val (.ref a1), .val (.int (8 : Int32)), .val (.int (64 : Int32)), .val (.int (8 : Int32))] [(.ref a1)]) _
    refine XS.bipush X44.here hx rfl (hb hby d_prog_82_method_3_38) ?_
    show own_S p e below T44 (mkF m 40 #[.val (.ref a1), .val (.int (8 : Int32)), .val (.int (64 : Int32)), .val (.int (8 : Int32))] [(.int (16 : Int32)), (.ref a1)]) _
    refine XS.iconst X44.here hx rfl (hb hby d_prog_82_method_3_40) ?_
    show own_S p e below T44 (mkF m 41 #[.val (.ref a1), .val (.int (8 : Int32)), .val (.int (64 : Int32)), .val (.int (8 : Int32))] [(.int (2 : Int32)), (.int (16 : Int32)), (.ref a1)]) _
    refine XS.iloadN X44.here hx rfl (hb hby d_prog_82_method_3_41) rfl ?_
    show own_S p e below T44 (mkF m 42 #[.val (.ref a1), .val (.int (8 : Int32)), .val (.int (64 : Int32)), .val (.int (8 : Int32))] [(.int (8 : Int32)), (.int (2 : Int32)), (.int (16 : Int32)), (.ref a1)]) _
    refine XS.imul X44.here hx rfl (hb hby d_prog_82_method_3_42) rfl ?_
    rw [(by decide : ((2 : Int32) * (8 : Int32)) = (16 : Int32))]
    show own_S p e below T44 (mkF m 43 #[.val (.ref a1), .val (.int (8 : Int32)), .val (.int (64 : Int32)), .val (.int (8 : Int32))] [(.int (16 : Int32)), (.int (16 : Int32)), (.ref a1)]) _
    refine XS.iconst X44.here hx rfl (hb hby d_prog_82_method_3_43) ?_
    show own_S p e below T44 (mkF m 44 #[.val (.ref a1), .val (.int (8 : Int32)), .val (.int (64 : Int32)), .val (.int (8 : Int32))] [(.int (1 : Int32)), (.int (16 : Int32)), (.int (16 : Int32)), (.ref a1)]) _
    refine XS.isub X44.here hx rfl (hb hby d_prog_82_method_3_44) rfl ?_
    rw [(by decide : ((16 : Int32) - (1 : Int32)) = (15 : Int32))]
    exact kt)
  obtain ⟨_, _, ⟨T50, L50, cc50, ss50⟩, -, X50, ⟨Lc50, hQ50, l50, y50, z50⟩, st50⟩ := Jvm.LawKit.callS X44 hx (y := (⟨"java/lang/Integer", "highestOneBit", "(I)I"⟩ : MethodName)) hown (mvT hZ (hw _ (List.mem_of_getElem? (i := 31) rfl))) (mvT hZ (hw _ (List.mem_of_getElem? (i := 32) rfl))) (mvT hZ (hw _ (List.mem_of_getElem? (i := 33) rfl))) (mvT hZ (hw _ (List.mem_of_getElem? (i := 34) rfl))) (by decide) (backOf (W := 2) (rm6 l Z a0 hw []   h44 n0 Z45 ) hZ (hw _ (List.mem_of_getElem? (i := 34) rfl)) (hw _ (List.mem_of_getElem? (i := 33) rfl)) (by decide) (by decide)) (g := (mkF m 45 #[.val (.ref a1), .val (.int (8 : Int32)), .val (.int (64 : Int32)), .val (.int (8 : Int32))] [(.int (15 : Int32)), (.int (16 : Int32)), (.ref a1)])) rfl (by rw [hml]; rfl) (argsL := [(.int (15 : Int32))]) (rest := [(.int (16 : Int32)), (.ref a1)]) (lenOf pd_0 rfl) rfl (by show 2 * 0 + _ ≤ _; exact Nat.le_of_eq rfl) (hb hby d_prog_82_method_3_45) (fun _ _ => ⟨rfl, e44, (by decide : 3 + 0 ≤ _), (by decide : 80 + 0 ≤ _)⟩)
  dsimp only [Pt.U, Pt.locs, Pt.cells, Pt.slots] at X50 l50 y50 z50 st50 hQ50
  subst l50 y50 z50
  obtain ⟨rfl, Nq50, eq50⟩ := hQ50
  have Nf50 := Fr.app Nf47 Nq50
  have kn51 : ∀ t, own_S p e below T50 (mkF m 48 #[.val (.ref a1), .val (.int (8 : Int32)), .val (.int (64 : Int32)), .val (.int (8 : Int32))] [(.int (8 : Int32)), (.int (16 : Int32)), (.ref a1)]) t → Gl t := fun t kt => kn49 t (st50 _ kt)
  have kn52 : ∀ t, own_S p e below T50 (mkF m 50 #[.val (.ref a1), .val (.int (8 : Int32)), .val (.int (64 : Int32)), .val (.int (8 : Int32))] [(.int (16 : Int32)), (.int (16 : Int32)), (.ref a1)]) t → Gl t := fun t kt => kn51 t (by
    show own_S p e below T50 (mkF m 48 #[.val (.ref a1), .val (.int (8 : Int32)), .val (.int (64 : Int32)), .val (.int (8 : Int32))] [(.int (8 : Int32)), (.int (16 : Int32)), (.ref a1)]) _
    refine XS.iconst X50.here hx rfl (hb hby d_prog_82_method_3_48) ?_
    show own_S p e below T50 (mkF m 49 #[.val (.ref a1), .val (.int (8 : Int32)), .val (.int (64 : Int32)), .val (.int (8 : Int32))] [(.int (1 : Int32)), (.int (8 : Int32)), (.int (16 : Int32)), (.ref a1)]) _
    refine XS.ishl X50.here hx rfl (hb hby d_prog_82_method_3_49) rfl ?_
    rw [(by decide : ((8 : Int32) <<< ((1 : Int32) &&& 31)) = (16 : Int32))]
    exact kt)
  obtain ⟨_, _, ⟨T53, L53, cc53, ss53⟩, -, X53, ⟨Lc53, hQ53, l53, y53, z53⟩, st53⟩ := Jvm.LawKit.callS X50 hx (y := (⟨"java/lang/Math", "max", "(II)I"⟩ : MethodName)) hown (mvT hZ (hw _ (List.mem_of_getElem? (i := 19) rfl))) (mvT hZ (hw _ (List.mem_of_getElem? (i := 20) rfl))) (mvT hZ (hw _ (List.mem_of_getElem? (i := 21) rfl))) (mvT hZ (hw _ (List.mem_of_getElem? (i := 22) rfl))) (by decide) (backOf (W := 1) (rm5 l Z a0 hw [] (16 : Int32) (16 : Int32)  h44 n0 Z45 ) hZ (hw _ (List.mem_of_getElem? (i := 22) rfl)) (hw _ (List.mem_of_getElem? (i := 21) rfl)) (by decide) (by decide)) (g := (mkF m 50 #[.val (.ref a1), .val (.int (8 : Int32)), .val (.int (64 : Int32)), .val (.int (8 : Int32))] [(.int (16 : Int32)), (.int (16 : Int32)), (.ref a1)])) rfl (by rw [hml]; rfl) (argsL := [(.int (16 : Int32)), (.int (16 : Int32))]) (rest := [(.ref a1)]) (lenOf pd_1 rfl) rfl (by show 2 * 0 + _ ≤ _; exact Nat.le_of_eq rfl) (hb hby d_prog_82_method_3_50) (fun _ _ => ⟨rfl, eq50, (by decide : 3 + 0 ≤ _), (by decide : 80 + 0 ≤ _)⟩)
  dsimp only [Pt.U, Pt.locs, Pt.cells, Pt.slots] at X53 l53 y53 z53 st53 hQ53
  subst l53 y53 z53
  obtain ⟨rfl, Nq53, eq53⟩ := hQ53
  have Nf53 := Fr.app Nf50 Nq53
  have kn54 : ∀ t, own_S p e below T53 (mkF m 53 #[.val (.ref a1), .val (.int (8 : Int32)), .val (.int (64 : Int32)), .val (.int (8 : Int32))] [(.int (own_mx (16 : Int32) (16 : Int32))), (.ref a1)]) t → Gl t := fun t kt => kn52 t (st53 _ kt)
  rw [(show (own_mx (16 : Int32) (16 : Int32)) = (16 : Int32) from by decide)] at kn54
  have f55 := (V36.other W44 (Ne.symm ne_a1_b36))
  obtain ⟨T56, h56, kk56, X56, e56, E56, A56, st56⟩ := newP X53 hx hZ (hw _ (List.mem_of_getElem? (i := 26) rfl)) eq53 (g := (mkF m 53 #[.val (.ref a1), .val (.int (8 : Int32)), .val (.int (64 : Int32)), .val (.int (8 : Int32))] [(.int (16 : Int32)), (.ref a1)])) rfl (hb hby d_prog_82_method_3_53) rfl (by decide) (cap := 16) (by decide) (by decide) (by decide) (by decide)
  obtain ⟨b56, g56⟩ : ∃ z, z = h44.size := ⟨_, rfl⟩
  rw [← g56] at A56 st56
  have sz_b56 : h0.size ≤ b56 := Nat.le_trans K46.1 (Nat.le_of_eq g56.symm)
  have g_b56 : n0 ≤ b56 := Nat.le_trans Z45 (Nat.le_of_eq g56.symm)
  have f57 := ((f37.ext E36).other W44 (Or.inr (slot_ne (Or.inl (hw _ (List.mem_of_getElem? (i := 25) rfl))) (Or.inl (hw _ (List.mem_of_getElem? (i := 30) rfl))) (by decide) (t := (.array .byte)) (t' := (.array .int)) (by decide) (by decide))))
  have ne_a1_b56 : a1 ≠ b56 := Nat.ne_of_lt (Nat.lt_of_lt_of_le f57.lt (Nat.le_of_eq g56.symm))
  have f58 := ((f38.ext E36).other W44 (Ne.symm ne_a1_b10))
  have ne_b10_b56 : b10 ≠ b56 := Nat.ne_of_lt (Nat.lt_of_lt_of_le f58.lt (Nat.le_of_eq g56.symm))
  have f59 := ((f34.ext E36).other W44 (Ne.symm ne_a1_b23))
  have ne_b23_b56 : b23 ≠ b56 := Nat.ne_of_lt (Nat.lt_of_lt_of_le f59.lt (Nat.le_of_eq g56.symm))
  have ne_b36_b56 : b36 ≠ b56 := Nat.ne_of_lt (Nat.lt_of_lt_of_le f55.lt (Nat.le_of_eq g56.symm))
  have Z60 : n0 ≤ h56.size := Nat.le_trans Z45 E56.1
  have K61 : Keep h0 h56 [a1] := K46.ext E56
  have V56 : Arv Z h56 b56 kk56 .int (16 : Int32) [(.int (0 : Int32)), (.int (0 : Int32)), (.int (0 : Int32)), (.int (0 : Int32)), (.int (0 : Int32)), (.int (0 : Int32)), (.int (0 : Int32)), (.int (0 : Int32)), (.int (0 : Int32)), (.int (0 : Int32)), (.int (0 : Int32)), (.int (0 : Int32)), (.int (0 : Int32)), (.int (0 : Int32)), (.int (0 : Int32)), (.int (0 : Int32))] (.int (0 : Int32)) := (Arv.new A56 (by decide)).pad (pad_rep [] (.int (0 : Int32)) 16)
  have kn62 : ∀ t, own_S p e below T56 (mkF m 55 #[.val (.ref a1), .val (.int (8 : Int32)), .val (.int (64 : Int32)), .val (.int (8 : Int32))] [(.ref b56), (.ref a1)]) t → Gl t := fun t kt => kn54 t (st56 _ kt)
  have lt_b36_b56 : b36 < b56 := Nat.lt_of_lt_of_le f55.lt (Nat.le_of_eq g56.symm)
  have f63 := (((((((NL3.ext E10).other W16 (Or.inr (slot_ne (Or.inl (hw _ (List.mem_of_getElem? (i := 41) rfl))) (Or.inl (hw _ (List.mem_of_getElem? (i := 25) rfl))) (by decide) (t := (.array .int)) (t' := (.array .byte)) (by decide) (by decide)))).ext E23).other W29 (Or.inr (slot_ne (Or.inl (hw _ (List.mem_of_getElem? (i := 41) rfl))) (Or.inl (hw _ (List.mem_of_getElem? (i := 28) rfl))) (by decide) (t := (.array .int)) (t' := (.array .int)) (by decide) (by decide)))).ext E36).other W44 (Or.inr (slot_ne (Or.inl (hw _ (List.mem_of_getElem? (i := 41) rfl))) (Or.inl (hw _ (List.mem_of_getElem? (i := 30) rfl))) (by decide) (t := (.array .int)) (t' := (.array .int)) (by decide) (by decide)))).ext E56)
  have f64 := ((f43.wr W44).ext E56)
  obtain ⟨T65, h65, X65, e65, W65, st65⟩ := putF X56 hx hZ hown (host := "") (Or.inl (hw _ (List.mem_of_getElem? (i := 40) rfl))) Via.refl e56 f63 f64 (Or.inl (hw _ (List.mem_of_getElem? (i := 41) rfl))) (hw _ (List.mem_of_getElem? (i := 10) rfl)) (ty := (.array .int)) (by decide) rfl rfl (g := (mkF m 55 #[.val (.ref a1), .val (.int (8 : Int32)), .val (.int (64 : Int32)), .val (.int (8 : Int32))] [(.ref b56), (.ref a1)])) rfl rfl (hb hby d_prog_82_method_3_55)
  have Z66 : n0 ≤ h65.size := Nat.le_trans Z60 (Keep.of_wr W65).1
  have K67 : Keep h0 h65 [a1] := K61.wr W65 (Or.inl (List.mem_of_getElem? (i := 0) rfl))
  have Fw65 := f63.same W65
  have Nf68 := Fr.snoc X65 Nf53 g_a1
  have kn69 : ∀ t, own_S p e below T65 (mkF m 58 #[.val (.ref a1), .val (.int (8 : Int32)), .val (.int (64 : Int32)), .val (.int (8 : Int32))] []) t → Gl t := fun t kt => kn62 t (st65 _ kt)
  obtain ⟨fs, hr, hrun, hended, hW, hsame⟩ := X65.leave (v := none) (fun _ => rfl)
  refine ⟨_, _, hGl _ (kn69 _ (X65.returnOut hx Bd.returns (hb hby d_prog_82_method_3_58) hr)), hrun, hended, _, _, rfl, ?_, ⟨_, rfl⟩, hW, hsame.mono (by decide) (by decide)⟩
  show Q4 Z a1 h0 n0 _ T65.heap _
  rw [e65]
  have f70 := (f64.wr W65)
  have f71 := ((f57.ext E56).other W65 (Or.inr (slot_ne (Or.inl (hw _ (List.mem_of_getElem? (i := 25) rfl))) (Or.inl (hw _ (List.mem_of_getElem? (i := 41) rfl))) (by decide) (t := (.array .byte)) (t' := (.array .int)) (by decide) (by decide))))
  have f72 := ((((Fw29.ext E36).other W44 (Or.inr (slot_ne (Or.inl (hw _ (List.mem_of_getElem? (i := 28) rfl))) (Or.inl (hw _ (List.mem_of_getElem? (i := 30) rfl))) (by decide) (t := (.array .int)) (t' := (.array .int)) (by decide) (by decide)))).ext E56).other W65 (Or.inr (slot_ne (Or.inl (hw _ (List.mem_of_getElem? (i := 28) rfl))) (Or.inl (hw _ (List.mem_of_getElem? (i := 41) rfl))) (by decide) (t := (.array .int)) (t' := (.array .int)) (by decide) (by decide))))
  have f73 := ((Fw44.ext E56).other W65 (Or.inr (slot_ne (Or.inl (hw _ (List.mem_of_getElem? (i := 30) rfl))) (Or.inl (hw _ (List.mem_of_getElem? (i := 41) rfl))) (by decide) (t := (.array .int)) (t' := (.array .int)) (by decide) (by decide))))
  have f74 := ((((((((NL4.ext E10).other W16 (Or.inr (slot_ne (Or.inl (hw _ (List.mem_of_getElem? (i := 66) rfl))) (Or.inl (hw _ (List.mem_of_getElem? (i := 25) rfl))) (by decide) (t := .int) (t' := (.array .byte)) (by decide) (by decide)))).ext E23).other W29 (Or.inr (slot_ne (Or.inl (hw _ (List.mem_of_getElem? (i := 66) rfl))) (Or.inl (hw _ (List.mem_of_getElem? (i := 28) rfl))) (by decide) (t := .int) (t' := (.array .int)) (by decide) (by decide)))).ext E36).other W44 (Or.inr (slot_ne (Or.inl (hw _ (List.mem_of_getElem? (i := 66) rfl))) (Or.inl (hw _ (List.mem_of_getElem? (i := 30) rfl))) (by decide) (t := .int) (t' := (.array .int)) (by decide) (by decide)))).ext E56).other W65 (Or.inr (slot_ne (Or.inl (hw _ (List.mem_of_getElem? (i := 66) rfl))) (Or.inl (hw _ (List.mem_of_getElem? (i := 41) rfl))) (by decide) (t := .int) (t' := (.array .int)) (by decide) (by decide))))
  have f75 := ((f58.ext E56).other W65 (Ne.symm ne_a1_b10))
  have f76 := ((f59.ext E56).other W65 (Ne.symm ne_a1_b23))
  have f77 := ((f55.ext E56).other W65 (Ne.symm ne_a1_b36))
  have f78 := (V56.other W65 (Ne.symm ne_a1_b56))
  exact ⟨rfl, Nf68, b10, b23, b36, b56, _, _, _, _, sz_b10, lt_b10_b23, lt_b23_b36, lt_b36_b56, K67, f70, f71, f72, f73, Fw65, f74, f75, f76, f77, f78⟩

theorem d_prog_82_method_1_0 : decode prog_82_method_1_code 0 = .ok (.aload_n 0, 1) := by decide +kernel
theorem d_prog_82_method_1_1 : decode prog_82_method_1_code 1 = .ok (.bipush 8, 2) := by decide +kernel
theorem d_prog_82_method_1_3 : decode prog_82_method_1_code 3 = .ok (.bipush 64, 2) := by decide +kernel
theorem d_prog_82_method_1_5 : decode prog_82_method_1_code 5 = .ok (.invokespecial 3, 3) := by decide +kernel
theorem d_prog_82_method_1_8 : decode prog_82_method_1_code 8 = .ok (.return_, 1) := by decide +kernel
theorem pd_2 : parseMethodDescriptor "(II)V" = some ⟨[.int, .int], none⟩ := by decide +kernel
theorem ef_rm3 (m : MethodId) (x0 : Addr) : entryFrame m #[(.ref x0)] 1 = mkF m 0 #[.val (.ref x0)] [] := by first | (simp [entryFrame, mkF, argsToLocals, Value.category]; done) | rfl
def Q3 (Z : State) (a1 : Addr) (h0 : Heap) (n0 : Nat) (v : Option Value) (h : Heap) (L : List Loc) : Prop := v = none ∧ Fr n0 L ∧ ∃ (bB bE bH bS : Addr) (kB kE kH kS : ClassId), h0.size ≤ bB ∧ @LT.lt Nat _ bB bE ∧ @LT.lt Nat _ bE bH ∧ @LT.lt Nat _ bH bS ∧ Keep h0 h [a1] ∧ Exa Z h a1 "com/example/runs_to_scores/runstoscores/scoring/TopicDocnos" ∧ Fld Z h a1 "com/example/runs_to_scores/runstoscores/scoring/TopicDocnos" "bytes" "[B" (.ref bB) ∧ Fld Z h a1 "com/example/runs_to_scores/runstoscores/scoring/TopicDocnos" "ends" "[I" (.ref bE) ∧ Fld Z h a1 "com/example/runs_to_scores/runstoscores/scoring/TopicDocnos" "hashes" "[I" (.ref bH) ∧ Fld Z h a1 "com/example/runs_to_scores/runstoscores/scoring/TopicDocnos" "slots" "[I" (.ref bS) ∧ Fld Z h a1 "com/example/runs_to_scores/runstoscores/scoring/TopicDocnos" "size" "I" (.int (0 : Int32)) ∧ Arv Z h bB kB .byte (64 : Int32) ((.int (0 : Int32)) :: (.int (0 : Int32)) :: (.int (0 : Int32)) :: (.int (0 : Int32)) :: (.int (0 : Int32)) :: (.int (0 : Int32)) :: (.int (0 : Int32)) :: (.int (0 : Int32)) :: (.int (0 : Int32)) :: (.int (0 : Int32)) :: (.int (0 : Int32)) :: (.int (0 : Int32)) :: (.int (0 : Int32)) :: (.int (0 : Int32)) :: (.int (0 : Int32)) :: (.int (0 : Int32)) :: (.int (0 : Int32)) :: (.int (0 : Int32)) :: (.int (0 : Int32)) :: (.int (0 : Int32)) :: (.int (0 : Int32)) :: (.int (0 : Int32)) :: (.int (0 : Int32)) :: (.int (0 : Int32)) :: (.int (0 : Int32)) :: (.int (0 : Int32)) :: (.int (0 : Int32)) :: (.int (0 : Int32)) :: (.int (0 : Int32)) :: (.int (0 : Int32)) :: (.int (0 : Int32)) :: (.int (0 : Int32)) :: (.int (0 : Int32)) :: (.int (0 : Int32)) :: (.int (0 : Int32)) :: (.int (0 : Int32)) :: (.int (0 : Int32)) :: (.int (0 : Int32)) :: (.int (0 : Int32)) :: (.int (0 : Int32)) :: (.int (0 : Int32)) :: (.int (0 : Int32)) :: (.int (0 : Int32)) :: (.int (0 : Int32)) :: (.int (0 : Int32)) :: (.int (0 : Int32)) :: (.int (0 : Int32)) :: (.int (0 : Int32)) :: (.int (0 : Int32)) :: (.int (0 : Int32)) :: (.int (0 : Int32)) :: (.int (0 : Int32)) :: (.int (0 : Int32)) :: (.int (0 : Int32)) :: (.int (0 : Int32)) :: (.int (0 : Int32)) :: (.int (0 : Int32)) :: (.int (0 : Int32)) :: (.int (0 : Int32)) :: (.int (0 : Int32)) :: (.int (0 : Int32)) :: (.int (0 : Int32)) :: (.int (0 : Int32)) :: (.int (0 : Int32)) :: []) (.int (0 : Int32)) ∧ Arv Z h bE kE .int (8 : Int32) [(.int (0 : Int32)), (.int (0 : Int32)), (.int (0 : Int32)), (.int (0 : Int32)), (.int (0 : Int32)), (.int (0 : Int32)), (.int (0 : Int32)), (.int (0 : Int32))] (.int (0 : Int32)) ∧ Arv Z h bH kH .int (8 : Int32) [(.int (0 : Int32)), (.int (0 : Int32)), (.int (0 : Int32)), (.int (0 : Int32)), (.int (0 : Int32)), (.int (0 : Int32)), (.int (0 : Int32)), (.int (0 : Int32))] (.int (0 : Int32)) ∧ Arv Z h bS kS .int (16 : Int32) [(.int (0 : Int32)), (.int (0 : Int32)), (.int (0 : Int32)), (.int (0 : Int32)), (.int (0 : Int32)), (.int (0 : Int32)), (.int (0 : Int32)), (.int (0 : Int32)), (.int (0 : Int32)), (.int (0 : Int32)), (.int (0 : Int32)), (.int (0 : Int32)), (.int (0 : Int32)), (.int (0 : Int32)), (.int (0 : Int32)), (.int (0 : Int32))] (.int (0 : Int32))
set_option maxRecDepth 65536 in
set_option maxHeartbeats 40000000 in
theorem rm3 (l : Launch) (Z : State) (a0 : Array Value) (hw : ∀ d ∈ tables_1, d.before a0 Z = true) (ws : List Jvm.Cond) (a1 : Addr) (h0 : Heap) (n0 : Nat) (Z0 : n0 ≤ h0.size) (NL0 : Fld Z h0 a1 "com/example/runs_to_scores/runstoscores/scoring/TopicDocnos" "bytes" "[B" .null) (NL1 : Fld Z h0 a1 "com/example/runs_to_scores/runstoscores/scoring/TopicDocnos" "ends" "[I" .null) (NL2 : Fld Z h0 a1 "com/example/runs_to_scores/runstoscores/scoring/TopicDocnos" "hashes" "[I" .null) (NL3 : Fld Z h0 a1 "com/example/runs_to_scores/runstoscores/scoring/TopicDocnos" "slots" "[I" .null) (NL4 : Fld Z h0 a1 "com/example/runs_to_scores/runstoscores/scoring/TopicDocnos" "size" "I" (.int (0 : Int32))) (E1 : Exa Z h0 a1 "com/example/runs_to_scores/runstoscores/scoring/TopicDocnos") (g_a1 : n0 ≤ a1) :
    MetFree l (⟨"com/example/runs_to_scores/runstoscores/scoring/TopicDocnos", "<init>", "()V"⟩ : MethodName) (head1 (Jvm.Cond.code (⟨"com/example/runs_to_scores/runstoscores/scoring/TopicDocnos", "<init>", "()V"⟩ : MethodName) prog_82_method_1_code 1 none :: ws) ({ frames := 3, cells := 4, slots := 96, locals := 44 } : Room)) (fun a U => a = #[(.ref a1)] ∧ Z.Warmed39 U.vm ∧ U.heap = h0) (fun _ _ _ _ _ => True) (fun _ U o U' => ∃ v L, o = .returned v ∧ Q3 Z a1 h0 n0 v U'.heap L ∧ FrameEnd U o U' L ({ frames := 3, cells := 4, slots := 96, locals := 44 } : Room).cells ({ frames := 3, cells := 4, slots := 96, locals := 44 } : Room).slots) := by
  refine MetFree.of_bodySF (plainFor_of_name pn_1) hisR ?_
  intro p e s m args below meth c s₁ Bd hml0 hP hK
  obtain ⟨rfl, hZ, hh⟩ := hP
  have hx := Bd.exec
  have hby := Bd.bytes
  have hml : c.maxLocals = 1 := hml0
  have hown : s.vm.findClass "com/example/runs_to_scores/runstoscores/scoring/TopicDocnos" = some m.cls := findClass_of_methodNamed Bd.named
  have hnm := (name_of_methodNamed Bd.named Bd.method).1
  have X0 : Stand p l e ({ frames := 3, cells := 4, slots := 96, locals := 44 } : Room) s m #[(.ref a1)] below meth c s₁ [] 0 0 := Stand.of_body Bd
  have e0 : s₁.heap = h0 := by rw [← hh, Bd.state]; rfl
  have Nf0 := Fr.nil n0
  obtain ⟨Gl, hGl, kn0⟩ : ∃ Gl : State → Prop, (∀ t, Gl t → Steps p.tables e below (s₁.setTop (entryFrame m #[(.ref a1)] 1)) t) ∧ ∀ t, own_S p e below s₁ (mkF m 0 #[.val (.ref a1)] []) t → Gl t := ⟨fun t => Steps p.tables e below (s₁.setTop (entryFrame m #[(.ref a1)] 1)) t, fun _ k => k, fun t k => castTop (ef_rm3 m a1) k⟩
  have kn1 : ∀ t, own_S p e below s₁ (mkF m 5 #[.val (.ref a1)] [(.int (64 : Int32)), (.int (8 : Int32)), (.ref a1)]) t → Gl t := fun t kt => kn0 t (by
    show own_S p e below s₁ (mkF m 0 #[.val (.ref a1)] []) _
    refine XS.aloadN X0.here hx rfl (hb hby d_prog_82_method_1_0) rfl rfl ?_
    show own_S p e below s₁ (mkF m 1 #[.val (.ref a1)] [(.ref a1)]) _
    refine XS.bipush X0.here hx rfl (hb hby d_prog_82_method_1_1) ?_
    show own_S p e below s₁ (mkF m 3 #[.val (.ref a1)] [(.int (8 : Int32)), (.ref a1)]) _
    refine XS.bipush X0.here hx rfl (hb hby d_prog_82_method_1_3) ?_
    exact kt)
  obtain ⟨_, _, ⟨T2, L2, cc2, ss2⟩, -, X2, ⟨Lc2, hQ2, l2, y2, z2⟩, st2⟩ := X0.specialBack hx (y := (⟨"com/example/runs_to_scores/runstoscores/scoring/TopicDocnos", "<init>", "(II)V"⟩ : MethodName)) rfl hown (mvT hZ (hw _ (List.mem_of_getElem? (i := 15) rfl))) (mvT hZ (hw _ (List.mem_of_getElem? (i := 16) rfl))) (mvT hZ (hw _ (List.mem_of_getElem? (i := 17) rfl))) (by decide) (backOf (W := 0) (rm4 l Z a0 hw [] a1  h0 n0 Z0 NL0 NL1 NL2 NL3 NL4 E1 g_a1) hZ (hw _ (List.mem_of_getElem? (i := 17) rfl)) (hw _ (List.mem_of_getElem? (i := 11) rfl)) (by decide) (by decide)) (g := (mkF m 5 #[.val (.ref a1)] [(.int (64 : Int32)), (.int (8 : Int32)), (.ref a1)])) rfl (by rw [hml]; rfl) (Steps.refl _) (a := a1) (argsL := [(.int (8 : Int32)), (.int (64 : Int32))]) (rest := []) (lenOf pd_2 rfl) rfl (by show 2 * 0 + _ ≤ _; exact Nat.le_of_eq rfl) (hb hby d_prog_82_method_1_5) (fun _ _ => ⟨rfl, e0, (by decide : 0 + 4 ≤ _), (by decide : 0 + 96 ≤ _)⟩)
  dsimp only [Pt.U, Pt.locs, Pt.cells, Pt.slots] at X2 l2 y2 z2 st2 hQ2
  subst l2 y2 z2
  obtain ⟨rfl, Nq2, bB2, bE2, bH2, bS2, kB2, kE2, kH2, kS2, s1_2, s2_2, s3_2, s4_2, K2, ED_2, FD0_2, FD1_2, FD2_2, FD3_2, FD4_2, AD0_2, AD1_2, AD2_2, AD3_2⟩ := hQ2
  have Nf2 := Fr.app Nf0 Nq2
  have ne_a1_bB2 : @Ne Nat a1 bB2 := by have q1 : @LT.lt Nat _ a1 h0.size := E1.lt; omega
  have ne_a1_bE2 : @Ne Nat a1 bE2 := by have q1 : @LT.lt Nat _ a1 h0.size := E1.lt; omega
  have ne_a1_bH2 : @Ne Nat a1 bH2 := by have q1 : @LT.lt Nat _ a1 h0.size := E1.lt; omega
  have ne_a1_bS2 : @Ne Nat a1 bS2 := by have q1 : @LT.lt Nat _ a1 h0.size := E1.lt; omega
  have ne_bB2_bE2 : @Ne Nat bB2 bE2 := by omega
  have ne_bB2_bH2 : @Ne Nat bB2 bH2 := by omega
  have ne_bB2_bS2 : @Ne Nat bB2 bS2 := by omega
  have ne_bE2_bH2 : @Ne Nat bE2 bH2 := by omega
  have ne_bE2_bS2 : @Ne Nat bE2 bS2 := by omega
  have ne_bH2_bS2 : @Ne Nat bH2 bS2 := by omega
  have g_bB2 : n0 ≤ bB2 := by have q := Z0; omega
  have g_bE2 : n0 ≤ bE2 := by have q := Z0; omega
  have g_bH2 : n0 ≤ bH2 := by have q := Z0; omega
  have g_bS2 : n0 ≤ bS2 := by have q := Z0; omega
  have Z3 : n0 ≤ T2.heap.size := Nat.le_trans Z0 K2.1
  have K4 : Keep h0 T2.heap [a1] := (Keep.refl h0 [a1]).trans K2 (allS (Or.inl (List.mem_of_getElem? (i := 0) rfl)) all0)
  have kn5 : ∀ t, own_S p e below T2 (mkF m 8 #[.val (.ref a1)] []) t → Gl t := fun t kt => kn1 t (st2.trans kt)
  obtain ⟨fs, hr, hrun, hended, hW, hsame⟩ := X2.leave (v := none) (fun _ => rfl)
  refine ⟨_, _, hGl _ (kn5 _ (X2.returnOut hx Bd.returns (hb hby d_prog_82_method_1_8) hr)), hrun, hended, _, _, rfl, ?_, ⟨_, rfl⟩, hW, hsame.mono (by decide) (by decide)⟩
  show Q3 Z a1 h0 n0 _ T2.heap _
  exact ⟨rfl, Nf2, bB2, bE2, bH2, bS2, _, _, _, _, s1_2, s2_2, s3_2, s4_2, K4, ED_2, FD0_2, FD1_2, FD2_2, FD3_2, FD4_2, AD0_2, AD1_2, AD2_2, AD3_2⟩

theorem d_prog_83_method_1_0 : decode prog_83_method_1_code 0 = .ok (.aload_n 0, 1) := by decide +kernel
theorem d_prog_83_method_1_1 : decode prog_83_method_1_code 1 = .ok (.invokespecial 1, 3) := by decide +kernel
theorem d_prog_83_method_1_4 : decode prog_83_method_1_code 4 = .ok (.aload_n 0, 1) := by decide +kernel
theorem d_prog_83_method_1_5 : decode prog_83_method_1_code 5 = .ok (.new 7, 3) := by decide +kernel
theorem d_prog_83_method_1_8 : decode prog_83_method_1_code 8 = .ok (.dup, 1) := by decide +kernel
theorem d_prog_83_method_1_9 : decode prog_83_method_1_code 9 = .ok (.invokespecial 9, 3) := by decide +kernel
theorem d_prog_83_method_1_12 : decode prog_83_method_1_code 12 = .ok (.putfield 10, 3) := by decide +kernel
theorem d_prog_83_method_1_15 : decode prog_83_method_1_code 15 = .ok (.aload_n 0, 1) := by decide +kernel
theorem d_prog_83_method_1_16 : decode prog_83_method_1_code 16 = .ok (.bipush 8, 2) := by decide +kernel
theorem d_prog_83_method_1_18 : decode prog_83_method_1_code 18 = .ok (.newarray .int, 2) := by decide +kernel
theorem d_prog_83_method_1_20 : decode prog_83_method_1_code 20 = .ok (.putfield 16, 3) := by decide +kernel
theorem d_prog_83_method_1_23 : decode prog_83_method_1_code 23 = .ok (.aload_n 0, 1) := by decide +kernel
theorem d_prog_83_method_1_24 : decode prog_83_method_1_code 24 = .ok (.iload_n 1, 1) := by decide +kernel
theorem d_prog_83_method_1_25 : decode prog_83_method_1_code 25 = .ok (.putfield 20, 3) := by decide +kernel
theorem d_prog_83_method_1_28 : decode prog_83_method_1_code 28 = .ok (.return_, 1) := by decide +kernel
theorem pn_2 : plainName "com/example/runs_to_scores/runstoscores/scoring/TopicJudgments" = true := by first | (simp [plainName, overriddenIn]; done) | decide +kernel
theorem pd_3 : parseMethodDescriptor "()V" = some ⟨[], none⟩ := by decide +kernel
theorem ef_rm1 (m : MethodId) (x0 : Addr) (x1 : Int32) : entryFrame m #[(.ref x0), (.int x1)] 2 = mkF m 0 #[.val (.ref x0), .val (.int x1)] [] := by first | (simp [entryFrame, mkF, argsToLocals, Value.category]; done) | rfl
def Q1 (Z : State) (a1 : Addr) (p2 : Int32) (h0 : Heap) (n0 : Nat) (v : Option Value) (h : Heap) (L : List Loc) : Prop := v = none ∧ Fr n0 L ∧ ∃ (d bJ : Addr) (kJ : ClassId) (bB bE bH bS : Addr) (kB kE kH kS : ClassId), h0.size ≤ d ∧ @LT.lt Nat _ d bB ∧ @LT.lt Nat _ bB bE ∧ @LT.lt Nat _ bE bH ∧ @LT.lt Nat _ bH bS ∧ @LT.lt Nat _ bS bJ ∧ Keep h0 h [a1] ∧ Exa Z h a1 "com/example/runs_to_scores/runstoscores/scoring/TopicJudgments" ∧ Fld Z h a1 "com/example/runs_to_scores/runstoscores/scoring/TopicJudgments" "docnos" "Lcom/example/runs_to_scores/runstoscores/scoring/TopicDocnos;" (.ref d) ∧ Fld Z h a1 "com/example/runs_to_scores/runstoscores/scoring/TopicJudgments" "judgments" "[I" (.ref bJ) ∧ Arv Z h bJ kJ .int (8 : Int32) [(.int (0 : Int32)), (.int (0 : Int32)), (.int (0 : Int32)), (.int (0 : Int32)), (.int (0 : Int32)), (.int (0 : Int32)), (.int (0 : Int32)), (.int (0 : Int32))] (.int (0 : Int32)) ∧ Exa Z h d "com/example/runs_to_scores/runstoscores/scoring/TopicDocnos" ∧ Fld Z h d "com/example/runs_to_scores/runstoscores/scoring/TopicDocnos" "bytes" "[B" (.ref bB) ∧ Fld Z h d "com/example/runs_to_scores/runstoscores/scoring/TopicDocnos" "ends" "[I" (.ref bE) ∧ Fld Z h d "com/example/runs_to_scores/runstoscores/scoring/TopicDocnos" "hashes" "[I" (.ref bH) ∧ Fld Z h d "com/example/runs_to_scores/runstoscores/scoring/TopicDocnos" "slots" "[I" (.ref bS) ∧ Fld Z h d "com/example/runs_to_scores/runstoscores/scoring/TopicDocnos" "size" "I" (.int (0 : Int32)) ∧ Arv Z h bB kB .byte (64 : Int32) ((.int (0 : Int32)) :: (.int (0 : Int32)) :: (.int (0 : Int32)) :: (.int (0 : Int32)) :: (.int (0 : Int32)) :: (.int (0 : Int32)) :: (.int (0 : Int32)) :: (.int (0 : Int32)) :: (.int (0 : Int32)) :: (.int (0 : Int32)) :: (.int (0 : Int32)) :: (.int (0 : Int32)) :: (.int (0 : Int32)) :: (.int (0 : Int32)) :: (.int (0 : Int32)) :: (.int (0 : Int32)) :: (.int (0 : Int32)) :: (.int (0 : Int32)) :: (.int (0 : Int32)) :: (.int (0 : Int32)) :: (.int (0 : Int32)) :: (.int (0 : Int32)) :: (.int (0 : Int32)) :: (.int (0 : Int32)) :: (.int (0 : Int32)) :: (.int (0 : Int32)) :: (.int (0 : Int32)) :: (.int (0 : Int32)) :: (.int (0 : Int32)) :: (.int (0 : Int32)) :: (.int (0 : Int32)) :: (.int (0 : Int32)) :: (.int (0 : Int32)) :: (.int (0 : Int32)) :: (.int (0 : Int32)) :: (.int (0 : Int32)) :: (.int (0 : Int32)) :: (.int (0 : Int32)) :: (.int (0 : Int32)) :: (.int (0 : Int32)) :: (.int (0 : Int32)) :: (.int (0 : Int32)) :: (.int (0 : Int32)) :: (.int (0 : Int32)) :: (.int (0 : Int32)) :: (.int (0 : Int32)) :: (.int (0 : Int32)) :: (.int (0 : Int32)) :: (.int (0 : Int32)) :: (.int (0 : Int32)) :: (.int (0 : Int32)) :: (.int (0 : Int32)) :: (.int (0 : Int32)) :: (.int (0 : Int32)) :: (.int (0 : Int32)) :: (.int (0 : Int32)) :: (.int (0 : Int32)) :: (.int (0 : Int32)) :: (.int (0 : Int32)) :: (.int (0 : Int32)) :: (.int (0 : Int32)) :: (.int (0 : Int32)) :: (.int (0 : Int32)) :: (.int (0 : Int32)) :: []) (.int (0 : Int32)) ∧ Arv Z h bE kE .int (8 : Int32) [(.int (0 : Int32)), (.int (0 : Int32)), (.int (0 : Int32)), (.int (0 : Int32)), (.int (0 : Int32)), (.int (0 : Int32)), (.int (0 : Int32)), (.int (0 : Int32))] (.int (0 : Int32)) ∧ Arv Z h bH kH .int (8 : Int32) [(.int (0 : Int32)), (.int (0 : Int32)), (.int (0 : Int32)), (.int (0 : Int32)), (.int (0 : Int32)), (.int (0 : Int32)), (.int (0 : Int32)), (.int (0 : Int32))] (.int (0 : Int32)) ∧ Arv Z h bS kS .int (16 : Int32) [(.int (0 : Int32)), (.int (0 : Int32)), (.int (0 : Int32)), (.int (0 : Int32)), (.int (0 : Int32)), (.int (0 : Int32)), (.int (0 : Int32)), (.int (0 : Int32)), (.int (0 : Int32)), (.int (0 : Int32)), (.int (0 : Int32)), (.int (0 : Int32)), (.int (0 : Int32)), (.int (0 : Int32)), (.int (0 : Int32)), (.int (0 : Int32))] (.int (0 : Int32))
set_option maxRecDepth 65536 in
set_option maxHeartbeats 40000000 in
theorem rm1 (l : Launch) (Z : State) (a0 : Array Value) (hw : ∀ d ∈ tables_1, d.before a0 Z = true) (ws : List Jvm.Cond) (a1 : Addr) (p2 : Int32) (h0 : Heap) (n0 : Nat) (Z0 : n0 ≤ h0.size) (NL0 : Fld Z h0 a1 "com/example/runs_to_scores/runstoscores/scoring/TopicJudgments" "docnos" "Lcom/example/runs_to_scores/runstoscores/scoring/TopicDocnos;" .null) (NL1 : Fld Z h0 a1 "com/example/runs_to_scores/runstoscores/scoring/TopicJudgments" "judgments" "[I" .null) (NL2 : Fld Z h0 a1 "com/example/runs_to_scores/runstoscores/scoring/TopicJudgments" "relevanceLevel" "I" (.int (0 : Int32))) (E1 : Exa Z h0 a1 "com/example/runs_to_scores/runstoscores/scoring/TopicJudgments") (g_a1 : n0 ≤ a1) :
    MetFree l (⟨"com/example/runs_to_scores/runstoscores/scoring/TopicJudgments", "<init>", "(I)V"⟩ : MethodName) (head1 (Jvm.Cond.code (⟨"com/example/runs_to_scores/runstoscores/scoring/TopicJudgments", "<init>", "(I)V"⟩ : MethodName) prog_83_method_1_code 2 none :: ws) ({ frames := 4, cells := 6, slots := 109, locals := 58 } : Room)) (fun a U => a = #[(.ref a1), (.int p2)] ∧ Z.Warmed39 U.vm ∧ U.heap = h0) (fun _ _ _ _ _ => True) (fun _ U o U' => ∃ v L, o = .returned v ∧ Q1 Z a1 p2 h0 n0 v U'.heap L ∧ FrameEnd U o U' L ({ frames := 4, cells := 6, slots := 109, locals := 58 } : Room).cells ({ frames := 4, cells := 6, slots := 109, locals := 58 } : Room).slots) := by
  refine MetFree.of_bodySF (plainFor_of_name pn_2) hisR ?_
  intro p e s m args below meth c s₁ Bd hml0 hP hK
  obtain ⟨rfl, hZ, hh⟩ := hP
  have hx := Bd.exec
  have hby := Bd.bytes
  have hml : c.maxLocals = 2 := hml0
  have hown : s.vm.findClass "com/example/runs_to_scores/runstoscores/scoring/TopicJudgments" = some m.cls := findClass_of_methodNamed Bd.named
  have hnm := (name_of_methodNamed Bd.named Bd.method).1
  have X0 : Stand p l e ({ frames := 4, cells := 6, slots := 109, locals := 58 } : Room) s m #[(.ref a1), (.int p2)] below meth c s₁ [] 0 0 := Stand.of_body Bd
  have e0 : s₁.heap = h0 := by rw [← hh, Bd.state]; rfl
  have Nf0 := Fr.nil n0
  obtain ⟨Gl, hGl, kn0⟩ : ∃ Gl : State → Prop, (∀ t, Gl t → Steps p.tables e below (s₁.setTop (entryFrame m #[(.ref a1), (.int p2)] 2)) t) ∧ ∀ t, own_S p e below s₁ (mkF m 0 #[.val (.ref a1), .val (.int p2)] []) t → Gl t := ⟨fun t => Steps p.tables e below (s₁.setTop (entryFrame m #[(.ref a1), (.int p2)] 2)) t, fun _ k => k, fun t k => castTop (ef_rm1 m a1 p2) k⟩
  have kn1 : ∀ t, own_S p e below s₁ (mkF m 1 #[.val (.ref a1), .val (.int p2)] [(.ref a1)]) t → Gl t := fun t kt => kn0 t (by
    show own_S p e below s₁ (mkF m 0 #[.val (.ref a1), .val (.int p2)] []) _
    refine XS.aloadN X0.here hx rfl (hb hby d_prog_83_method_1_0) rfl rfl ?_
    exact kt)
  obtain ⟨T2, X2, e2, st2⟩ := initO X0 hx hZ hown (hw _ (List.mem_of_getElem? (i := 6) rfl)) (hw _ (List.mem_of_getElem? (i := 7) rfl)) (hw _ (List.mem_of_getElem? (i := 8) rfl)) e0 (g := (mkF m 1 #[.val (.ref a1), .val (.int p2)] [(.ref a1)])) rfl (by rw [hml]; rfl) rfl (hb hby d_prog_83_method_1_1) (by decide) (W := 0) (by show 2 * 0 + _ ≤ _; exact Nat.le_of_eq rfl) (by decide)
  have kn3 : ∀ t, own_S p e below T2 (mkF m 4 #[.val (.ref a1), .val (.int p2)] []) t → Gl t := fun t kt => kn1 t (st2 _ kt)
  have kn4 : ∀ t, own_S p e below T2 (mkF m 5 #[.val (.ref a1), .val (.int p2)] [(.ref a1)]) t → Gl t := fun t kt => kn3 t (by
    show own_S p e below T2 (mkF m 4 #[.val (.ref a1), .val (.int p2)] []) _
    refine XS.aloadN X2.here hx rfl (hb hby d_prog_83_method_1_4) rfl rfl ?_
    exact kt)
  obtain ⟨T5, h5, X5, e5, E5, A5, D5, -, st5⟩ := newO X2 hx hZ hown (hw _ (List.mem_of_getElem? (i := 9) rfl)) (hw _ (List.mem_of_getElem? (i := 10) rfl)) (hw _ (List.mem_of_getElem? (i := 11) rfl)) e2 (g := (mkF m 5 #[.val (.ref a1), .val (.int p2)] [(.ref a1)])) rfl (hb hby d_prog_83_method_1_5) (by decide) (by decide)
  obtain ⟨b5, g5⟩ : ∃ z, z = h0.size := ⟨_, rfl⟩
  rw [← g5] at A5 D5 st5
  have sz_b5 : h0.size ≤ b5 := Nat.le_trans (Keep.refl h0 [a1]).1 (Nat.le_of_eq g5.symm)
  have g_b5 : n0 ≤ b5 := Nat.le_trans Z0 (Nat.le_of_eq g5.symm)
  have ne_a1_b5 : a1 ≠ b5 := Nat.ne_of_lt (Nat.lt_of_lt_of_le NL0.lt (Nat.le_of_eq g5.symm))
  have Z6 : n0 ≤ h5.size := Nat.le_trans Z0 E5.1
  have K7 : Keep h0 h5 [a1] := (Keep.refl h0 [a1]).ext E5
  have F5_25 : Fld Z h5 b5 "com/example/runs_to_scores/runstoscores/scoring/TopicDocnos" "bytes" "[B" .null := D5 (Or.inl (hw _ (List.mem_of_getElem? (i := 25) rfl))) (ty := (.array .byte)) (by decide)
  have F5_28 : Fld Z h5 b5 "com/example/runs_to_scores/runstoscores/scoring/TopicDocnos" "ends" "[I" .null := D5 (Or.inl (hw _ (List.mem_of_getElem? (i := 28) rfl))) (ty := (.array .int)) (by decide)
  have F5_30 : Fld Z h5 b5 "com/example/runs_to_scores/runstoscores/scoring/TopicDocnos" "hashes" "[I" .null := D5 (Or.inl (hw _ (List.mem_of_getElem? (i := 30) rfl))) (ty := (.array .int)) (by decide)
  have F5_41 : Fld Z h5 b5 "com/example/runs_to_scores/runstoscores/scoring/TopicDocnos" "slots" "[I" .null := D5 (Or.inl (hw _ (List.mem_of_getElem? (i := 41) rfl))) (ty := (.array .int)) (by decide)
  have F5_66 : Fld Z h5 b5 "com/example/runs_to_scores/runstoscores/scoring/TopicDocnos" "size" "I" (.int (0 : Int32)) := D5 (Or.inl (hw _ (List.mem_of_getElem? (i := 66) rfl))) (ty := .int) (by decide)
  have kn8 : ∀ t, own_S p e below T5 (mkF m 8 #[.val (.ref a1), .val (.int p2)] [(.ref b5), (.ref a1)]) t → Gl t := fun t kt => kn4 t (st5 _ kt)
  have kn9 : ∀ t, own_S p e below T5 (mkF m 9 #[.val (.ref a1), .val (.int p2)] [(.ref b5), (.ref b5), (.ref a1)]) t → Gl t := fun t kt => kn8 t (by
    show own_S p e below T5 (mkF m 8 #[.val (.ref a1), .val (.int p2)] [(.ref b5), (.ref a1)]) _
    refine XS.dup X5.here hx rfl (hb hby d_prog_83_method_1_8) rfl rfl ?_
    exact kt)
  obtain ⟨_, _, ⟨T10, L10, cc10, ss10⟩, -, X10, ⟨Lc10, hQ10, l10, y10, z10⟩, st10⟩ := X5.specialBack hx (y := (⟨"com/example/runs_to_scores/runstoscores/scoring/TopicDocnos", "<init>", "()V"⟩ : MethodName)) rfl hown (mvT hZ (hw _ (List.mem_of_getElem? (i := 12) rfl))) (mvT hZ (hw _ (List.mem_of_getElem? (i := 13) rfl))) (mvT hZ (hw _ (List.mem_of_getElem? (i := 14) rfl))) (by decide) (backOf (W := 2) (rm3 l Z a0 hw [] b5  h5 n0 Z6 F5_25 F5_28 F5_30 F5_41 F5_66 A5 g_b5) hZ (hw _ (List.mem_of_getElem? (i := 14) rfl)) (hw _ (List.mem_of_getElem? (i := 11) rfl)) (by decide) (by decide)) (g := (mkF m 9 #[.val (.ref a1), .val (.int p2)] [(.ref b5), (.ref b5), (.ref a1)])) rfl (by rw [hml]; rfl) (Steps.refl _) (a := b5) (argsL := []) (rest := [(.ref b5), (.ref a1)]) (lenOf pd_3 rfl) rfl (by show 2 * 0 + _ ≤ _; exact Nat.le_of_eq rfl) (hb hby d_prog_83_method_1_9) (fun _ _ => ⟨rfl, e5, (by decide : 1 + 4 ≤ _), (by decide : 5 + 96 ≤ _)⟩)
  dsimp only [Pt.U, Pt.locs, Pt.cells, Pt.slots] at X10 l10 y10 z10 st10 hQ10
  subst l10 y10 z10
  obtain ⟨rfl, Nq10, bB10, bE10, bH10, bS10, kB10, kE10, kH10, kS10, s1_10, s2_10, s3_10, s4_10, K10, ED_10, FD0_10, FD1_10, FD2_10, FD3_10, FD4_10, AD0_10, AD1_10, AD2_10, AD3_10⟩ := hQ10
  have Nf10 := Fr.app Nf0 Nq10
  have f11 := (E1.ext E5)
  have ne_a1_bB10 : @Ne Nat a1 bB10 := by have q1 : @LT.lt Nat _ a1 h5.size := f11.lt; omega
  have ne_a1_bE10 : @Ne Nat a1 bE10 := by have q1 : @LT.lt Nat _ a1 h5.size := f11.lt; omega
  have ne_a1_bH10 : @Ne Nat a1 bH10 := by have q1 : @LT.lt Nat _ a1 h5.size := f11.lt; omega
  have ne_a1_bS10 : @Ne Nat a1 bS10 := by have q1 : @LT.lt Nat _ a1 h5.size := f11.lt; omega
  have ne_b5_bB10 : @Ne Nat b5 bB10 := by have q1 : @LT.lt Nat _ b5 h5.size := A5.lt; omega
  have ne_b5_bE10 : @Ne Nat b5 bE10 := by have q1 : @LT.lt Nat _ b5 h5.size := A5.lt; omega
  have ne_b5_bH10 : @Ne Nat b5 bH10 := by have q1 : @LT.lt Nat _ b5 h5.size := A5.lt; omega
  have ne_b5_bS10 : @Ne Nat b5 bS10 := by have q1 : @LT.lt Nat _ b5 h5.size := A5.lt; omega
  have ne_bB10_bE10 : @Ne Nat bB10 bE10 := by omega
  have ne_bB10_bH10 : @Ne Nat bB10 bH10 := by omega
  have ne_bB10_bS10 : @Ne Nat bB10 bS10 := by omega
  have ne_bE10_bH10 : @Ne Nat bE10 bH10 := by omega
  have ne_bE10_bS10 : @Ne Nat bE10 bS10 := by omega
  have ne_bH10_bS10 : @Ne Nat bH10 bS10 := by omega
  have g_bB10 : n0 ≤ bB10 := by have q := Z6; omega
  have g_bE10 : n0 ≤ bE10 := by have q := Z6; omega
  have g_bH10 : n0 ≤ bH10 := by have q := Z6; omega
  have g_bS10 : n0 ≤ bS10 := by have q := Z6; omega
  have Z12 : n0 ≤ T10.heap.size := Nat.le_trans Z6 K10.1
  have K13 : Keep h0 T10.heap [a1] := K7.trans K10 (allS (Or.inr sz_b5) all0)
  have kn14 : ∀ t, own_S p e below T10 (mkF m 12 #[.val (.ref a1), .val (.int p2)] [(.ref b5), (.ref a1)]) t → Gl t := fun t kt => kn9 t (st10.trans kt)
  have f15 := ((NL0.ext E5).keep K10 (ninS ne_a1_b5 nin0))
  have f16 := (f11.keep K10)
  obtain ⟨T17, h17, X17, e17, W17, st17⟩ := putF X10 hx hZ hown (host := "") (Or.inl (hw _ (List.mem_of_getElem? (i := 42) rfl))) Via.refl rfl f15 f16 (Or.inr ⟨(hw _ (List.mem_of_getElem? (i := 43) rfl)), rfl, hnm⟩) (hw _ (List.mem_of_getElem? (i := 1) rfl)) (ty := (.object "com/example/runs_to_scores/runstoscores/scoring/TopicDocnos")) (by decide) rfl rfl (g := (mkF m 12 #[.val (.ref a1), .val (.int p2)] [(.ref b5), (.ref a1)])) rfl rfl (hb hby d_prog_83_method_1_12)
  have Z18 : n0 ≤ h17.size := Nat.le_trans Z12 (Keep.of_wr W17).1
  have K19 : Keep h0 h17 [a1] := K13.wr W17 (Or.inl (List.mem_of_getElem? (i := 0) rfl))
  have Fw17 := f15.same W17
  have Nf20 := Fr.snoc X17 Nf10 g_a1
  have kn21 : ∀ t, own_S p e below T17 (mkF m 15 #[.val (.ref a1), .val (.int p2)] []) t → Gl t := fun t kt => kn14 t (st17 _ kt)
  have f22 := (AD3_10.other W17 (Ne.symm ne_a1_bS10))
  have kn23 : ∀ t, own_S p e below T17 (mkF m 18 #[.val (.ref a1), .val (.int p2)] [(.int (8 : Int32)), (.ref a1)]) t → Gl t := fun t kt => kn21 t (by
    show own_S p e below T17 (mkF m 15 #[.val (.ref a1), .val (.int p2)] []) _
    refine XS.aloadN X17.here hx rfl (hb hby d_prog_83_method_1_15) rfl rfl ?_
    show own_S p e below T17 (mkF m 16 #[.val (.ref a1), .val (.int p2)] [(.ref a1)]) _
    refine XS.bipush X17.here hx rfl (hb hby d_prog_83_method_1_16) ?_
    exact kt)
  obtain ⟨T24, h24, kk24, X24, e24, E24, A24, st24⟩ := newP X17 hx hZ (hw _ (List.mem_of_getElem? (i := 26) rfl)) e17 (g := (mkF m 18 #[.val (.ref a1), .val (.int p2)] [(.int (8 : Int32)), (.ref a1)])) rfl (hb hby d_prog_83_method_1_18) rfl (by decide) (cap := 8) (by decide) (by decide) (by decide) (by decide)
  obtain ⟨b24, g24⟩ : ∃ z, z = h17.size := ⟨_, rfl⟩
  rw [← g24] at A24 st24
  have sz_b24 : h0.size ≤ b24 := Nat.le_trans K19.1 (Nat.le_of_eq g24.symm)
  have g_b24 : n0 ≤ b24 := Nat.le_trans Z18 (Nat.le_of_eq g24.symm)
  have ne_a1_b24 : a1 ≠ b24 := Nat.ne_of_lt (Nat.lt_of_lt_of_le Fw17.lt (Nat.le_of_eq g24.symm))
  have f25 := (ED_10.wr W17)
  have ne_b5_b24 : b5 ≠ b24 := Nat.ne_of_lt (Nat.lt_of_lt_of_le f25.lt (Nat.le_of_eq g24.symm))
  have f26 := (AD0_10.other W17 (Ne.symm ne_a1_bB10))
  have ne_bB10_b24 : bB10 ≠ b24 := Nat.ne_of_lt (Nat.lt_of_lt_of_le f26.lt (Nat.le_of_eq g24.symm))
  have f27 := (AD1_10.other W17 (Ne.symm ne_a1_bE10))
  have ne_bE10_b24 : bE10 ≠ b24 := Nat.ne_of_lt (Nat.lt_of_lt_of_le f27.lt (Nat.le_of_eq g24.symm))
  have f28 := (AD2_10.other W17 (Ne.symm ne_a1_bH10))
  have ne_bH10_b24 : bH10 ≠ b24 := Nat.ne_of_lt (Nat.lt_of_lt_of_le f28.lt (Nat.le_of_eq g24.symm))
  have ne_bS10_b24 : bS10 ≠ b24 := Nat.ne_of_lt (Nat.lt_of_lt_of_le f22.lt (Nat.le_of_eq g24.symm))
  have Z29 : n0 ≤ h24.size := Nat.le_trans Z18 E24.1
  have K30 : Keep h0 h24 [a1] := K19.ext E24
  have V24 : Arv Z h24 b24 kk24 .int (8 : Int32) [(.int (0 : Int32)), (.int (0 : Int32)), (.int (0 : Int32)), (.int (0 : Int32)), (.int (0 : Int32)), (.int (0 : Int32)), (.int (0 : Int32)), (.int (0 : Int32))] (.int (0 : Int32)) := (Arv.new A24 (by decide)).pad (pad_rep [] (.int (0 : Int32)) 8)
  have kn31 : ∀ t, own_S p e below T24 (mkF m 20 #[.val (.ref a1), .val (.int p2)] [(.ref b24), (.ref a1)]) t → Gl t := fun t kt => kn23 t (st24 _ kt)
  have f32 := ((((NL1.ext E5).keep K10 (ninS ne_a1_b5 nin0)).other W17 (Or.inr (slot_ne (Or.inl (hw _ (List.mem_of_getElem? (i := 45) rfl))) (Or.inr (hw _ (List.mem_of_getElem? (i := 43) rfl))) (by decide) (t := (.array .int)) (t' := (.object "com/example/runs_to_scores/runstoscores/scoring/TopicDocnos")) (by decide) (by decide)))).ext E24)
  have f33 := ((f16.wr W17).ext E24)
  obtain ⟨T34, h34, X34, e34, W34, st34⟩ := putF X24 hx hZ hown (host := "") (Or.inl (hw _ (List.mem_of_getElem? (i := 44) rfl))) Via.refl e24 f32 f33 (Or.inl (hw _ (List.mem_of_getElem? (i := 45) rfl))) (hw _ (List.mem_of_getElem? (i := 1) rfl)) (ty := (.array .int)) (by decide) rfl rfl (g := (mkF m 20 #[.val (.ref a1), .val (.int p2)] [(.ref b24), (.ref a1)])) rfl rfl (hb hby d_prog_83_method_1_20)
  have Z35 : n0 ≤ h34.size := Nat.le_trans Z29 (Keep.of_wr W34).1
  have K36 : Keep h0 h34 [a1] := K30.wr W34 (Or.inl (List.mem_of_getElem? (i := 0) rfl))
  have Fw34 := f32.same W34
  have Nf37 := Fr.snoc X34 Nf20 g_a1
  have kn38 : ∀ t, own_S p e below T34 (mkF m 23 #[.val (.ref a1), .val (.int p2)] []) t → Gl t := fun t kt => kn31 t (st34 _ kt)
  have kn39 : ∀ t, own_S p e below T34 (mkF m 25 #[.val (.ref a1), .val (.int p2)] [(.int p2), (.ref a1)]) t → Gl t := fun t kt => kn38 t (by
    show own_S p e below T34 (mkF m 23 #[.val (.ref a1), .val (.int p2)] []) _
    refine XS.aloadN X34.here hx rfl (hb hby d_prog_83_method_1_23) rfl rfl ?_
    show own_S p e below T34 (mkF m 24 #[.val (.ref a1), .val (.int p2)] [(.ref a1)]) _
    refine XS.iloadN X34.here hx rfl (hb hby d_prog_83_method_1_24) rfl ?_
    exact kt)
  have f40 := (((((NL2.ext E5).keep K10 (ninS ne_a1_b5 nin0)).other W17 (Or.inr (slot_ne (Or.inr (hw _ (List.mem_of_getElem? (i := 47) rfl))) (Or.inr (hw _ (List.mem_of_getElem? (i := 43) rfl))) (by decide) (t := .int) (t' := (.object "com/example/runs_to_scores/runstoscores/scoring/TopicDocnos")) (by decide) (by decide)))).ext E24).other W34 (Or.inr (slot_ne (Or.inr (hw _ (List.mem_of_getElem? (i := 47) rfl))) (Or.inl (hw _ (List.mem_of_getElem? (i := 45) rfl))) (by decide) (t := .int) (t' := (.array .int)) (by decide) (by decide))))
  have f41 := (f33.wr W34)
  obtain ⟨T42, h42, X42, e42, W42, st42⟩ := putF X34 hx hZ hown (host := "") (Or.inl (hw _ (List.mem_of_getElem? (i := 46) rfl))) Via.refl e34 f40 f41 (Or.inr ⟨(hw _ (List.mem_of_getElem? (i := 47) rfl)), rfl, hnm⟩) (hw _ (List.mem_of_getElem? (i := 1) rfl)) (ty := .int) (by decide) rfl rfl (g := (mkF m 25 #[.val (.ref a1), .val (.int p2)] [(.int p2), (.ref a1)])) rfl rfl (hb hby d_prog_83_method_1_25)
  have Z43 : n0 ≤ h42.size := Nat.le_trans Z35 (Keep.of_wr W42).1
  have K44 : Keep h0 h42 [a1] := K36.wr W42 (Or.inl (List.mem_of_getElem? (i := 0) rfl))
  have Fw42 := f40.same W42
  have Nf45 := Fr.snoc X42 Nf37 g_a1
  have kn46 : ∀ t, own_S p e below T42 (mkF m 28 #[.val (.ref a1), .val (.int p2)] []) t → Gl t := fun t kt => kn39 t (st42 _ kt)
  obtain ⟨fs, hr, hrun, hended, hW, hsame⟩ := X42.leave (v := none) (fun _ => rfl)
  refine ⟨_, _, hGl _ (kn46 _ (X42.returnOut hx Bd.returns (hb hby d_prog_83_method_1_28) hr)), hrun, hended, _, _, rfl, ?_, ⟨_, rfl⟩, hW, hsame.mono (by decide) (by decide)⟩
  show Q1 Z a1 p2 h0 n0 _ T42.heap _
  rw [e42]
  have dlt : b5 < bB10 := Nat.lt_of_lt_of_le A5.lt s1_10
  have jlt : bS10 < b24 := Nat.lt_of_lt_of_le f22.lt (Nat.le_of_eq g24.symm)
  have f47 := (f41.wr W42)
  have f48 := (((Fw17.ext E24).other W34 (Or.inr (slot_ne (Or.inr (hw _ (List.mem_of_getElem? (i := 43) rfl))) (Or.inl (hw _ (List.mem_of_getElem? (i := 45) rfl))) (by decide) (t := (.object "com/example/runs_to_scores/runstoscores/scoring/TopicDocnos")) (t' := (.array .int)) (by decide) (by decide)))).other W42 (Or.inr (slot_ne (Or.inr (hw _ (List.mem_of_getElem? (i := 43) rfl))) (Or.inr (hw _ (List.mem_of_getElem? (i := 47) rfl))) (by decide) (t := (.object "com/example/runs_to_scores/runstoscores/scoring/TopicDocnos")) (t' := .int) (by decide) (by decide))))
  have f49 := (Fw34.other W42 (Or.inr (slot_ne (Or.inl (hw _ (List.mem_of_getElem? (i := 45) rfl))) (Or.inr (hw _ (List.mem_of_getElem? (i := 47) rfl))) (by decide) (t := (.array .int)) (t' := .int) (by decide) (by decide))))
  have f50 := ((V24.other W34 (Ne.symm ne_a1_b24)).other W42 (Ne.symm ne_a1_b24))
  have f51 := (((f25.ext E24).wr W34).wr W42)
  have f52 := ((((FD0_10.other W17 (Or.inl (Ne.symm ne_a1_b5))).ext E24).other W34 (Or.inl (Ne.symm ne_a1_b5))).other W42 (Or.inl (Ne.symm ne_a1_b5)))
  have f53 := ((((FD1_10.other W17 (Or.inl (Ne.symm ne_a1_b5))).ext E24).other W34 (Or.inl (Ne.symm ne_a1_b5))).other W42 (Or.inl (Ne.symm ne_a1_b5)))
  have f54 := ((((FD2_10.other W17 (Or.inl (Ne.symm ne_a1_b5))).ext E24).other W34 (Or.inl (Ne.symm ne_a1_b5))).other W42 (Or.inl (Ne.symm ne_a1_b5)))
  have f55 := ((((FD3_10.other W17 (Or.inl (Ne.symm ne_a1_b5))).ext E24).other W34 (Or.inl (Ne.symm ne_a1_b5))).other W42 (Or.inl (Ne.symm ne_a1_b5)))
  have f56 := ((((FD4_10.other W17 (Or.inl (Ne.symm ne_a1_b5))).ext E24).other W34 (Or.inl (Ne.symm ne_a1_b5))).other W42 (Or.inl (Ne.symm ne_a1_b5)))
  have f57 := (((f26.ext E24).other W34 (Ne.symm ne_a1_bB10)).other W42 (Ne.symm ne_a1_bB10))
  have f58 := (((f27.ext E24).other W34 (Ne.symm ne_a1_bE10)).other W42 (Ne.symm ne_a1_bE10))
  have f59 := (((f28.ext E24).other W34 (Ne.symm ne_a1_bH10)).other W42 (Ne.symm ne_a1_bH10))
  have f60 := (((f22.ext E24).other W34 (Ne.symm ne_a1_bS10)).other W42 (Ne.symm ne_a1_bS10))
  exact ⟨rfl, Nf45, b5, b24, _, bB10, bE10, bH10, bS10, _, _, _, _, sz_b5, dlt, s2_10, s3_10, s4_10, jlt, K44, f47, f48, f49, f50, f51, f52, f53, f54, f55, f56, f57, f58, f59, f60⟩

theorem d_prog_82_method_10_0 : decode prog_82_method_10_code 0 = .ok (.iload_n 1, 1) := by decide +kernel
theorem d_prog_82_method_10_1 : decode prog_82_method_10_code 1 = .ok (.ifCond .ne 7, 3) := by decide +kernel
theorem d_prog_82_method_10_4 : decode prog_82_method_10_code 4 = .ok (.iconst 0, 1) := by decide +kernel
theorem d_prog_82_method_10_5 : decode prog_82_method_10_code 5 = .ok (.goto 11, 3) := by decide +kernel
theorem d_prog_82_method_10_16 : decode prog_82_method_10_code 16 = .ok (.ireturn, 1) := by decide +kernel
theorem ef_rm10_0 (m : MethodId) (x0 : Addr) : entryFrame m #[(.ref x0), (.int (0 : Int32))] 2 = mkF m 0 #[.val (.ref x0), .val (.int (0 : Int32))] [] := by first | (simp [entryFrame, mkF, argsToLocals, Value.category]; done) | rfl
def Q10_0 (Z : State) (a1 : Addr) (bE : Addr) (kE : ClassId) (h0 : Heap) (n0 : Nat) (v : Option Value) (h : Heap) (L : List Loc) : Prop := v = some (.int (0 : Int32)) ∧ Fr n0 L ∧ h = h0
set_option maxRecDepth 65536 in
set_option maxHeartbeats 40000000 in
theorem rm10_0 (l : Launch) (Z : State) (a0 : Array Value) (hw : ∀ d ∈ tables_1, d.before a0 Z = true) (ws : List Jvm.Cond) (a1 : Addr) (bE : Addr) (kE : ClassId) (h0 : Heap) (n0 : Nat) (Z0 : n0 ≤ h0.size) (F1 : Fld Z h0 a1 "com/example/runs_to_scores/runstoscores/scoring/TopicDocnos" "ends" "[I" (.ref bE)) (A1 : Arv Z h0 bE kE .int (8 : Int32) [(.int (0 : Int32)), (.int (0 : Int32)), (.int (0 : Int32)), (.int (0 : Int32)), (.int (0 : Int32)), (.int (0 : Int32)), (.int (0 : Int32)), (.int (0 : Int32))] (.int (0 : Int32))) :
    MetFree l (⟨"com/example/runs_to_scores/runstoscores/scoring/TopicDocnos", "start", "(I)I"⟩ : MethodName) (head1 (Jvm.Cond.code (⟨"com/example/runs_to_scores/runstoscores/scoring/TopicDocnos", "start", "(I)I"⟩ : MethodName) prog_82_method_10_code 2 (some .int) :: ws) ({ frames := 0, cells := 0, slots := 0, locals := 0 } : Room)) (fun a U => a = #[(.ref a1), (.int (0 : Int32))] ∧ Z.Warmed39 U.vm ∧ U.heap = h0) (fun _ _ _ _ _ => True) (fun _ U o U' => ∃ v L, o = .returned v ∧ Q10_0 Z a1 bE kE h0 n0 v U'.heap L ∧ FrameEnd U o U' L ({ frames := 0, cells := 0, slots := 0, locals := 0 } : Room).cells ({ frames := 0, cells := 0, slots := 0, locals := 0 } : Room).slots) := by
  refine MetFree.of_bodySF (plainFor_of_name pn_1) hisR ?_
  intro p e s m args below meth c s₁ Bd hml0 hP hK
  obtain ⟨rfl, hZ, hh⟩ := hP
  have hx := Bd.exec
  have hby := Bd.bytes
  have hml : c.maxLocals = 2 := hml0
  have hown : s.vm.findClass "com/example/runs_to_scores/runstoscores/scoring/TopicDocnos" = some m.cls := findClass_of_methodNamed Bd.named
  have hnm := (name_of_methodNamed Bd.named Bd.method).1
  have X0 : Stand p l e ({ frames := 0, cells := 0, slots := 0, locals := 0 } : Room) s m #[(.ref a1), (.int (0 : Int32))] below meth c s₁ [] 0 0 := Stand.of_body Bd
  have e0 : s₁.heap = h0 := by rw [← hh, Bd.state]; rfl
  have Nf0 := Fr.nil n0
  obtain ⟨Gl, hGl, kn0⟩ : ∃ Gl : State → Prop, (∀ t, Gl t → Steps p.tables e below (s₁.setTop (entryFrame m #[(.ref a1), (.int (0 : Int32))] 2)) t) ∧ ∀ t, own_S p e below s₁ (mkF m 0 #[.val (.ref a1), .val (.int (0 : Int32))] []) t → Gl t := ⟨fun t => Steps p.tables e below (s₁.setTop (entryFrame m #[(.ref a1), (.int (0 : Int32))] 2)) t, fun _ k => k, fun t k => castTop (ef_rm10_0 m a1) k⟩
  have kn1 : ∀ t, own_S p e below s₁ (mkF m 16 #[.val (.ref a1), .val (.int (0 : Int32))] [(.int (0 : Int32))]) t → Gl t := fun t kt => kn0 t (by
    show own_S p e below s₁ (mkF m 0 #[.val (.ref a1), .val (.int (0 : Int32))] []) _
    refine XS.iloadN X0.here hx rfl (hb hby d_prog_82_method_10_0) rfl ?_
    show own_S p e below s₁ (mkF m 1 #[.val (.ref a1), .val (.int (0 : Int32))] [(.int (0 : Int32))]) _
    refine XS.ifNo X0.here hx rfl (hb hby d_prog_82_method_10_1) rfl ((if0 _ _).trans (teq (by decide : (0 : Int32) = (0 : Int32))).2) ?_
    show own_S p e below s₁ (mkF m 4 #[.val (.ref a1), .val (.int (0 : Int32))] []) _
    refine XS.iconst X0.here hx rfl (hb hby d_prog_82_method_10_4) ?_
    show own_S p e below s₁ (mkF m 5 #[.val (.ref a1), .val (.int (0 : Int32))] [(.int (0 : Int32))]) _
    refine XS.goto X0.here hx rfl (pc0 := 5) (pc' := 16) rfl (hb hby d_prog_82_method_10_5) (by decide) (by decide) ?_
    exact kt)
  obtain ⟨fs, hr, hrun, hended, hW, hsame⟩ := X0.leave (v := some (.int (0 : Int32))) (fun h => by rw [Bd.returns] at h; cases h)
  refine ⟨_, _, hGl _ (kn1 _ (retI X0 hx Bd.returns (hb hby d_prog_82_method_10_16) hr)), hrun, hended, _, _, rfl, ?_, ⟨_, rfl⟩, hW, hsame.mono (by decide) (by decide)⟩
  show Q10_0 Z a1 bE kE h0 n0 _ s₁.heap _
  rw [e0]
  exact ⟨rfl, Nf0, rfl⟩

theorem d_prog_82_method_10_8 : decode prog_82_method_10_code 8 = .ok (.aload_n 0, 1) := by decide +kernel
theorem d_prog_82_method_10_9 : decode prog_82_method_10_code 9 = .ok (.getfield 30, 3) := by decide +kernel
theorem d_prog_82_method_10_12 : decode prog_82_method_10_code 12 = .ok (.iload_n 1, 1) := by decide +kernel
theorem d_prog_82_method_10_13 : decode prog_82_method_10_code 13 = .ok (.iconst 1, 1) := by decide +kernel
theorem d_prog_82_method_10_14 : decode prog_82_method_10_code 14 = .ok (.isub, 1) := by decide +kernel
theorem d_prog_82_method_10_15 : decode prog_82_method_10_code 15 = .ok (.iaload, 1) := by decide +kernel
theorem ef_rm10_1 (m : MethodId) (x0 : Addr) : entryFrame m #[(.ref x0), (.int (1 : Int32))] 2 = mkF m 0 #[.val (.ref x0), .val (.int (1 : Int32))] [] := by first | (simp [entryFrame, mkF, argsToLocals, Value.category]; done) | rfl
def Q10_1 (Z : State) (a1 : Addr) (bE : Addr) (kE : ClassId) (h0 : Heap) (n0 : Nat) (v : Option Value) (h : Heap) (L : List Loc) : Prop := v = some (.int (1 : Int32)) ∧ Fr n0 L ∧ h = h0
set_option maxRecDepth 65536 in
set_option maxHeartbeats 40000000 in
theorem rm10_1 (l : Launch) (Z : State) (a0 : Array Value) (hw : ∀ d ∈ tables_1, d.before a0 Z = true) (ws : List Jvm.Cond) (a1 : Addr) (bE : Addr) (kE : ClassId) (h0 : Heap) (n0 : Nat) (Z0 : n0 ≤ h0.size) (F1 : Fld Z h0 a1 "com/example/runs_to_scores/runstoscores/scoring/TopicDocnos" "ends" "[I" (.ref bE)) (A1 : Arv Z h0 bE kE .int (8 : Int32) [(.int (1 : Int32)), (.int (0 : Int32)), (.int (0 : Int32)), (.int (0 : Int32)), (.int (0 : Int32)), (.int (0 : Int32)), (.int (0 : Int32)), (.int (0 : Int32))] (.int (0 : Int32))) :
    MetFree l (⟨"com/example/runs_to_scores/runstoscores/scoring/TopicDocnos", "start", "(I)I"⟩ : MethodName) (head1 (Jvm.Cond.code (⟨"com/example/runs_to_scores/runstoscores/scoring/TopicDocnos", "start", "(I)I"⟩ : MethodName) prog_82_method_10_code 2 (some .int) :: ws) ({ frames := 0, cells := 0, slots := 0, locals := 0 } : Room)) (fun a U => a = #[(.ref a1), (.int (1 : Int32))] ∧ Z.Warmed39 U.vm ∧ U.heap = h0) (fun _ _ _ _ _ => True) (fun _ U o U' => ∃ v L, o = .returned v ∧ Q10_1 Z a1 bE kE h0 n0 v U'.heap L ∧ FrameEnd U o U' L ({ frames := 0, cells := 0, slots := 0, locals := 0 } : Room).cells ({ frames := 0, cells := 0, slots := 0, locals := 0 } : Room).slots) := by
  refine MetFree.of_bodySF (plainFor_of_name pn_1) hisR ?_
  intro p e s m args below meth c s₁ Bd hml0 hP hK
  obtain ⟨rfl, hZ, hh⟩ := hP
  have hx := Bd.exec
  have hby := Bd.bytes
  have hml : c.maxLocals = 2 := hml0
  have hown : s.vm.findClass "com/example/runs_to_scores/runstoscores/scoring/TopicDocnos" = some m.cls := findClass_of_methodNamed Bd.named
  have hnm := (name_of_methodNamed Bd.named Bd.method).1
  have X0 : Stand p l e ({ frames := 0, cells := 0, slots := 0, locals := 0 } : Room) s m #[(.ref a1), (.int (1 : Int32))] below meth c s₁ [] 0 0 := Stand.of_body Bd
  have e0 : s₁.heap = h0 := by rw [← hh, Bd.state]; rfl
  have Nf0 := Fr.nil n0
  obtain ⟨Gl, hGl, kn0⟩ : ∃ Gl : State → Prop, (∀ t, Gl t → Steps p.tables e below (s₁.setTop (entryFrame m #[(.ref a1), (.int (1 : Int32))] 2)) t) ∧ ∀ t, own_S p e below s₁ (mkF m 0 #[.val (.ref a1), .val (.int (1 : Int32))] []) t → Gl t := ⟨fun t => Steps p.tables e below (s₁.setTop (entryFrame m #[(.ref a1), (.int (1 : Int32))] 2)) t, fun _ k => k, fun t k => castTop (ef_rm10_1 m a1) k⟩
  have kn1 : ∀ t, own_S p e below s₁ (mkF m 9 #[.val (.ref a1), .val (.int (1 : Int32))] [(.ref a1)]) t → Gl t := fun t kt => kn0 t (by
    show own_S p e below s₁ (mkF m 0 #[.val (.ref a1), .val (.int (1 : Int32))] []) _
    refine XS.iloadN X0.here hx rfl (hb hby d_prog_82_method_10_0) rfl ?_
    show own_S p e below s₁ (mkF m 1 #[.val (.ref a1), .val (.int (1 : Int32))] [(.int (1 : Int32))]) _
    refine XS.ifYes X0.here hx rfl (pc0 := 1) (pc' := 8) rfl (hb hby d_prog_82_method_10_1) rfl ((if0 _ _).trans (feq (by decide : ¬ ((1 : Int32) = (0 : Int32)))).2) (by decide) (by decide) ?_
    show own_S p e below s₁ (mkF m 8 #[.val (.ref a1), .val (.int (1 : Int32))] []) _
    refine XS.aloadN X0.here hx rfl (hb hby d_prog_82_method_10_8) rfl rfl ?_
    exact kt)
  obtain ⟨T2, X2, e2, st2⟩ := getF X0 hx hZ hown (host := "") (Or.inl (hw _ (List.mem_of_getElem? (i := 27) rfl))) Via.refl e0 F1 (g := (mkF m 9 #[.val (.ref a1), .val (.int (1 : Int32))] [(.ref a1)])) rfl rfl (hb hby d_prog_82_method_10_9)
  have kn3 : ∀ t, own_S p e below T2 (mkF m 12 #[.val (.ref a1), .val (.int (1 : Int32))] [(.ref bE)]) t → Gl t := fun t kt => kn1 t (st2 _ kt)
  have kn4 : ∀ t, own_S p e below T2 (mkF m 15 #[.val (.ref a1), .val (.int (1 : Int32))] [(.int (0 : Int32)), (.ref bE)]) t → Gl t := fun t kt => kn3 t (by
    show own_S p e below T2 (mkF m 12 #[.val (.ref a1), .val (.int (1 : Int32))] [(.ref bE)]) _
    refine XS.iloadN X2.here hx rfl (hb hby d_prog_82_method_10_12) rfl ?_
    show own_S p e below T2 (mkF m 13 #[.val (.ref a1), .val (.int (1 : Int32))] [(.int (1 : Int32)), (.ref bE)]) _
    refine XS.iconst X2.here hx rfl (hb hby d_prog_82_method_10_13) ?_
    show own_S p e below T2 (mkF m 14 #[.val (.ref a1), .val (.int (1 : Int32))] [(.int (1 : Int32)), (.int (1 : Int32)), (.ref bE)]) _
    refine XS.isub X2.here hx rfl (hb hby d_prog_82_method_10_14) rfl ?_
    rw [(by decide : ((1 : Int32) - (1 : Int32)) = (0 : Int32))]
    exact kt)
  obtain ⟨cl5, Ar5, q5, Sz5, Ng5, Hs5, Gs5⟩ := id A1
  have hin5 : ¬ ((0 : Int32) < 0 ∨ cl5.slots.size ≤ ((0 : Int32)).toNatClampNeg) := inb_of Sz5 ⟨by decide, by decide⟩
  have hat5 : cl5.slots[((0 : Int32)).toNatClampNeg]? = some (.int (1 : Int32)) := Hs5.at hin5 rfl
  have kn6 : ∀ t, own_S p e below T2 (mkF m 16 #[.val (.ref a1), .val (.int (1 : Int32))] [(.int (1 : Int32))]) t → Gl t := fun t kt => kn4 t (by
    show own_S p e below T2 (mkF m 15 #[.val (.ref a1), .val (.int (1 : Int32))] [(.int (0 : Int32)), (.ref bE)]) _
    refine X2.iaload hx (j := (0 : Int32)) (v := (.int (1 : Int32))) (by rw [e2]; exact Ar5.1) (State.isArrayOf_alike hZ.alike Ar5.2.1) Ar5.2.2 hin5 hat5 (g := (mkF m 15 #[.val (.ref a1), .val (.int (1 : Int32))] [(.int (0 : Int32)), (.ref bE)])) rfl rfl (hb hby d_prog_82_method_10_15) _ ?_
    exact kt)
  obtain ⟨fs, hr, hrun, hended, hW, hsame⟩ := X2.leave (v := some (.int (1 : Int32))) (fun h => by rw [Bd.returns] at h; cases h)
  refine ⟨_, _, hGl _ (kn6 _ (retI X2 hx Bd.returns (hb hby d_prog_82_method_10_16) hr)), hrun, hended, _, _, rfl, ?_, ⟨_, rfl⟩, hW, hsame.mono (by decide) (by decide)⟩
  show Q10_1 Z a1 bE kE h0 n0 _ T2.heap _
  rw [e2]
  exact ⟨rfl, Nf0, rfl⟩

theorem ef_rm10_2 (m : MethodId) (x0 : Addr) : entryFrame m #[(.ref x0), (.int (2 : Int32))] 2 = mkF m 0 #[.val (.ref x0), .val (.int (2 : Int32))] [] := by first | (simp [entryFrame, mkF, argsToLocals, Value.category]; done) | rfl
def Q10_2 (Z : State) (a1 : Addr) (bE : Addr) (kE : ClassId) (h0 : Heap) (n0 : Nat) (v : Option Value) (h : Heap) (L : List Loc) : Prop := v = some (.int (2 : Int32)) ∧ Fr n0 L ∧ h = h0
set_option maxRecDepth 65536 in
set_option maxHeartbeats 40000000 in
theorem rm10_2 (l : Launch) (Z : State) (a0 : Array Value) (hw : ∀ d ∈ tables_1, d.before a0 Z = true) (ws : List Jvm.Cond) (a1 : Addr) (bE : Addr) (kE : ClassId) (h0 : Heap) (n0 : Nat) (Z0 : n0 ≤ h0.size) (F1 : Fld Z h0 a1 "com/example/runs_to_scores/runstoscores/scoring/TopicDocnos" "ends" "[I" (.ref bE)) (A1 : Arv Z h0 bE kE .int (8 : Int32) [(.int (1 : Int32)), (.int (2 : Int32)), (.int (0 : Int32)), (.int (0 : Int32)), (.int (0 : Int32)), (.int (0 : Int32)), (.int (0 : Int32)), (.int (0 : Int32))] (.int (0 : Int32))) :
    MetFree l (⟨"com/example/runs_to_scores/runstoscores/scoring/TopicDocnos", "start", "(I)I"⟩ : MethodName) (head1 (Jvm.Cond.code (⟨"com/example/runs_to_scores/runstoscores/scoring/TopicDocnos", "start", "(I)I"⟩ : MethodName) prog_82_method_10_code 2 (some .int) :: ws) ({ frames := 0, cells := 0, slots := 0, locals := 0 } : Room)) (fun a U => a = #[(.ref a1), (.int (2 : Int32))] ∧ Z.Warmed39 U.vm ∧ U.heap = h0) (fun _ _ _ _ _ => True) (fun _ U o U' => ∃ v L, o = .returned v ∧ Q10_2 Z a1 bE kE h0 n0 v U'.heap L ∧ FrameEnd U o U' L ({ frames := 0, cells := 0, slots := 0, locals := 0 } : Room).cells ({ frames := 0, cells := 0, slots := 0, locals := 0 } : Room).slots) := by
  refine MetFree.of_bodySF (plainFor_of_name pn_1) hisR ?_
  intro p e s m args below meth c s₁ Bd hml0 hP hK
  obtain ⟨rfl, hZ, hh⟩ := hP
  have hx := Bd.exec
  have hby := Bd.bytes
  have hml : c.maxLocals = 2 := hml0
  have hown : s.vm.findClass "com/example/runs_to_scores/runstoscores/scoring/TopicDocnos" = some m.cls := findClass_of_methodNamed Bd.named
  have hnm := (name_of_methodNamed Bd.named Bd.method).1
  have X0 : Stand p l e ({ frames := 0, cells := 0, slots := 0, locals := 0 } : Room) s m #[(.ref a1), (.int (2 : Int32))] below meth c s₁ [] 0 0 := Stand.of_body Bd
  have e0 : s₁.heap = h0 := by rw [← hh, Bd.state]; rfl
  have Nf0 := Fr.nil n0
  obtain ⟨Gl, hGl, kn0⟩ : ∃ Gl : State → Prop, (∀ t, Gl t → Steps p.tables e below (s₁.setTop (entryFrame m #[(.ref a1), (.int (2 : Int32))] 2)) t) ∧ ∀ t, own_S p e below s₁ (mkF m 0 #[.val (.ref a1), .val (.int (2 : Int32))] []) t → Gl t := ⟨fun t => Steps p.tables e below (s₁.setTop (entryFrame m #[(.ref a1), (.int (2 : Int32))] 2)) t, fun _ k => k, fun t k => castTop (ef_rm10_2 m a1) k⟩
  have kn1 : ∀ t, own_S p e below s₁ (mkF m 9 #[.val (.ref a1), .val (.int (2 : Int32))] [(.ref a1)]) t → Gl t := fun t kt => kn0 t (by
    show own_S p e below s₁ (mkF m 0 #[.val (.ref a1), .val (.int (2 : Int32))] []) _
    refine XS.iloadN X0.here hx rfl (hb hby d_prog_82_method_10_0) rfl ?_
    show own_S p e below s₁ (mkF m 1 #[.val (.ref a1), .val (.int (2 : Int32))] [(.int (2 : Int32))]) _
    refine XS.ifYes X0.here hx rfl (pc0 := 1) (pc' := 8) rfl (hb hby d_prog_82_method_10_1) rfl ((if0 _ _).trans (feq (by decide : ¬ ((2 : Int32) = (0 : Int32)))).2) (by decide) (by decide) ?_
    show own_S p e below s₁ (mkF m 8 #[.val (.ref a1), .val (.int (2 : Int32))] []) _
    refine XS.aloadN X0.here hx rfl (hb hby d_prog_82_method_10_8) rfl rfl ?_
    exact kt)
  obtain ⟨T2, X2, e2, st2⟩ := getF X0 hx hZ hown (host := "") (Or.inl (hw _ (List.mem_of_getElem? (i := 27) rfl))) Via.refl e0 F1 (g := (mkF m 9 #[.val (.ref a1), .val (.int (2 : Int32))] [(.ref a1)])) rfl rfl (hb hby d_prog_82_method_10_9)
  have kn3 : ∀ t, own_S p e below T2 (mkF m 12 #[.val (.ref a1), .val (.int (2 : Int32))] [(.ref bE)]) t → Gl t := fun t kt => kn1 t (st2 _ kt)
  have kn4 : ∀ t, own_S p e below T2 (mkF m 15 #[.val (.ref a1), .val (.int (2 : Int32))] [(.int (1 : Int32)), (.ref bE)]) t → Gl t := fun t kt => kn3 t (by
    show own_S p e below T2 (mkF m 12 #[.val (.ref a1), .val (.int (2 : Int32))] [(.ref bE)]) _
    refine XS.iloadN X2.here hx rfl (hb hby d_prog_82_method_10_12) rfl ?_
    show own_S p e below T2 (mkF m 13 #[.val (.ref a1), .val (.int (2 : Int32))] [(.int (2 : Int32)), (.ref bE)]) _
    refine XS.iconst X2.here hx rfl (hb hby d_prog_82_method_10_13) ?_
    show own_S p e below T2 (mkF m 14 #[.val (.ref a1), .val (.int (2 : Int32))] [(.int (1 : Int32)), (.int (2 : Int32)), (.ref bE)]) _
    refine XS.isub X2.here hx rfl (hb hby d_prog_82_method_10_14) rfl ?_
    rw [(by decide : ((2 : Int32) - (1 : Int32)) = (1 : Int32))]
    exact kt)
  obtain ⟨cl5, Ar5, q5, Sz5, Ng5, Hs5, Gs5⟩ := id A1
  have hin5 : ¬ ((1 : Int32) < 0 ∨ cl5.slots.size ≤ ((1 : Int32)).toNatClampNeg) := inb_of Sz5 ⟨by decide, by decide⟩
  have hat5 : cl5.slots[((1 : Int32)).toNatClampNeg]? = some (.int (2 : Int32)) := Hs5.at hin5 rfl
  have kn6 : ∀ t, own_S p e below T2 (mkF m 16 #[.val (.ref a1), .val (.int (2 : Int32))] [(.int (2 : Int32))]) t → Gl t := fun t kt => kn4 t (by
    show own_S p e below T2 (mkF m 15 #[.val (.ref a1), .val (.int (2 : Int32))] [(.int (1 : Int32)), (.ref bE)]) _
    refine X2.iaload hx (j := (1 : Int32)) (v := (.int (2 : Int32))) (by rw [e2]; exact Ar5.1) (State.isArrayOf_alike hZ.alike Ar5.2.1) Ar5.2.2 hin5 hat5 (g := (mkF m 15 #[.val (.ref a1), .val (.int (2 : Int32))] [(.int (1 : Int32)), (.ref bE)])) rfl rfl (hb hby d_prog_82_method_10_15) _ ?_
    exact kt)
  obtain ⟨fs, hr, hrun, hended, hW, hsame⟩ := X2.leave (v := some (.int (2 : Int32))) (fun h => by rw [Bd.returns] at h; cases h)
  refine ⟨_, _, hGl _ (kn6 _ (retI X2 hx Bd.returns (hb hby d_prog_82_method_10_16) hr)), hrun, hended, _, _, rfl, ?_, ⟨_, rfl⟩, hW, hsame.mono (by decide) (by decide)⟩
  show Q10_2 Z a1 bE kE h0 n0 _ T2.heap _
  rw [e2]
  exact ⟨rfl, Nf0, rfl⟩

theorem d_prog_82_method_12_0 : decode prog_82_method_12_code 0 = .ok (.iconst 0, 1) := by decide +kernel
theorem d_prog_82_method_12_1 : decode prog_82_method_12_code 1 = .ok (.istore_n 3, 1) := by decide +kernel
theorem d_prog_82_method_12_2 : decode prog_82_method_12_code 2 = .ok (.iload_n 3, 1) := by decide +kernel
theorem d_prog_82_method_12_3 : decode prog_82_method_12_code 3 = .ok (.aload_n 0, 1) := by decide +kernel
theorem d_prog_82_method_12_4 : decode prog_82_method_12_code 4 = .ok (.invokeinterface 45 1, 5) := by decide +kernel
theorem d_prog_82_method_12_9 : decode prog_82_method_12_code 9 = .ok (.if_icmp .ge 36, 3) := by decide +kernel
theorem d_prog_82_method_12_12 : decode prog_82_method_12_code 12 = .ok (.aload_n 0, 1) := by decide +kernel
theorem d_prog_82_method_12_13 : decode prog_82_method_12_code 13 = .ok (.iload_n 3, 1) := by decide +kernel
theorem d_prog_82_method_12_14 : decode prog_82_method_12_code 14 = .ok (.invokeinterface 110 2, 5) := by decide +kernel
theorem d_prog_82_method_12_19 : decode prog_82_method_12_code 19 = .ok (.istore 4, 2) := by decide +kernel
theorem d_prog_82_method_12_21 : decode prog_82_method_12_code 21 = .ok (.iload 4, 2) := by decide +kernel
theorem d_prog_82_method_12_23 : decode prog_82_method_12_code 23 = .ok (.sipush 255, 3) := by decide +kernel
theorem d_prog_82_method_12_26 : decode prog_82_method_12_code 26 = .ok (.if_icmp .le 5, 3) := by decide +kernel
theorem d_prog_82_method_12_31 : decode prog_82_method_12_code 31 = .ok (.aload_n 1, 1) := by decide +kernel
theorem d_prog_82_method_12_32 : decode prog_82_method_12_code 32 = .ok (.iload_n 2, 1) := by decide +kernel
theorem d_prog_82_method_12_33 : decode prog_82_method_12_code 33 = .ok (.iload_n 3, 1) := by decide +kernel
theorem d_prog_82_method_12_34 : decode prog_82_method_12_code 34 = .ok (.iadd, 1) := by decide +kernel
theorem d_prog_82_method_12_35 : decode prog_82_method_12_code 35 = .ok (.iload 4, 2) := by decide +kernel
theorem d_prog_82_method_12_37 : decode prog_82_method_12_code 37 = .ok (.i2b, 1) := by decide +kernel
theorem d_prog_82_method_12_38 : decode prog_82_method_12_code 38 = .ok (.bastore, 1) := by decide +kernel
theorem d_prog_82_method_12_39 : decode prog_82_method_12_code 39 = .ok (.iinc 3 1, 3) := by decide +kernel
theorem d_prog_82_method_12_42 : decode prog_82_method_12_code 42 = .ok (.goto (-40), 3) := by decide +kernel
theorem d_prog_82_method_12_45 : decode prog_82_method_12_code 45 = .ok (.iconst 1, 1) := by decide +kernel
theorem d_prog_82_method_12_46 : decode prog_82_method_12_code 46 = .ok (.ireturn, 1) := by decide +kernel
theorem pd_4 : parseMethodDescriptor "()I" = some ⟨[], some .int⟩ := by decide +kernel
theorem pd_5 : parseMethodDescriptor "(I)C" = some ⟨[.int], some .char⟩ := by decide +kernel
theorem ef_rm13_0 (m : MethodId) (x0 : Addr) (x1 : Addr) : entryFrame m #[(.ref x0), (.ref x1), (.int (0 : Int32))] 5 = mkF m 0 #[.val (.ref x0), .val (.ref x1), .val (.int (0 : Int32)), .unset, .unset] [] := by first | (simp [entryFrame, mkF, argsToLocals, Value.category]; done) | rfl
def Q13_0 (Z : State) (x1 : Addr) (bB : Addr) (kB : ClassId) (t1 : Addr) (k1 : ClassId) (G1 : Int32) (G3 : Value) (h0 : Heap) (n0 : Nat) (v : Option Value) (h : Heap) (L : List Loc) : Prop := v = some (.int (1 : Int32)) ∧ Fr n0 L ∧ Keep h0 h [bB] ∧ Arv Z h bB kB .byte (64 : Int32) ((.int (97 : Int32)) :: (.int (0 : Int32)) :: (.int (0 : Int32)) :: (.int (0 : Int32)) :: (.int (0 : Int32)) :: (.int (0 : Int32)) :: (.int (0 : Int32)) :: (.int (0 : Int32)) :: (.int (0 : Int32)) :: (.int (0 : Int32)) :: (.int (0 : Int32)) :: (.int (0 : Int32)) :: (.int (0 : Int32)) :: (.int (0 : Int32)) :: (.int (0 : Int32)) :: (.int (0 : Int32)) :: (.int (0 : Int32)) :: (.int (0 : Int32)) :: (.int (0 : Int32)) :: (.int (0 : Int32)) :: (.int (0 : Int32)) :: (.int (0 : Int32)) :: (.int (0 : Int32)) :: (.int (0 : Int32)) :: (.int (0 : Int32)) :: (.int (0 : Int32)) :: (.int (0 : Int32)) :: (.int (0 : Int32)) :: (.int (0 : Int32)) :: (.int (0 : Int32)) :: (.int (0 : Int32)) :: (.int (0 : Int32)) :: (.int (0 : Int32)) :: (.int (0 : Int32)) :: (.int (0 : Int32)) :: (.int (0 : Int32)) :: (.int (0 : Int32)) :: (.int (0 : Int32)) :: (.int (0 : Int32)) :: (.int (0 : Int32)) :: (.int (0 : Int32)) :: (.int (0 : Int32)) :: (.int (0 : Int32)) :: (.int (0 : Int32)) :: (.int (0 : Int32)) :: (.int (0 : Int32)) :: (.int (0 : Int32)) :: (.int (0 : Int32)) :: (.int (0 : Int32)) :: (.int (0 : Int32)) :: (.int (0 : Int32)) :: (.int (0 : Int32)) :: (.int (0 : Int32)) :: (.int (0 : Int32)) :: (.int (0 : Int32)) :: (.int (0 : Int32)) :: (.int (0 : Int32)) :: (.int (0 : Int32)) :: (.int (0 : Int32)) :: (.int (0 : Int32)) :: (.int (0 : Int32)) :: (.int (0 : Int32)) :: (.int (0 : Int32)) :: (.int (0 : Int32)) :: []) (.int (0 : Int32))
set_option maxRecDepth 65536 in
set_option maxHeartbeats 40000000 in
theorem rm13_0 (l : Launch) (Z : State) (a0 : Array Value) (hw : ∀ d ∈ tables_1, d.before a0 Z = true) (ws : List Jvm.Cond) (x1 : Addr) (bB : Addr) (kB : ClassId) (t1 : Addr) (k1 : ClassId) (G1 : Int32) (G3 : Value) (h0 : Heap) (n0 : Nat) (Z0 : n0 ≤ h0.size) (E_x1 : Exa Z h0 x1 "java/lang/String") (V_x1 : Fld Z h0 x1 "java/lang/String" "value" "[B" (.ref t1)) (C_x1 : Fld Z h0 x1 "java/lang/String" "coder" "B" (.int (0 : Int32))) (K_x1 : Arv Z h0 t1 k1 .byte (1 : Int32) ((([(97 : Int32)] : List Int32).map (fun c => c.toInt8.toInt32)).map Value.int) (.int (0 : Int32))) (hp_x1 : ∀ c ∈ ([(97 : Int32)] : List Int32), ¬ c < 0 ∧ ¬ (255 : Int32) < c) (A1 : Arv Z h0 bB kB .byte (64 : Int32) ((.int (0 : Int32)) :: (.int (0 : Int32)) :: (.int (0 : Int32)) :: (.int (0 : Int32)) :: (.int (0 : Int32)) :: (.int (0 : Int32)) :: (.int (0 : Int32)) :: (.int (0 : Int32)) :: (.int (0 : Int32)) :: (.int (0 : Int32)) :: (.int (0 : Int32)) :: (.int (0 : Int32)) :: (.int (0 : Int32)) :: (.int (0 : Int32)) :: (.int (0 : Int32)) :: (.int (0 : Int32)) :: (.int (0 : Int32)) :: (.int (0 : Int32)) :: (.int (0 : Int32)) :: (.int (0 : Int32)) :: (.int (0 : Int32)) :: (.int (0 : Int32)) :: (.int (0 : Int32)) :: (.int (0 : Int32)) :: (.int (0 : Int32)) :: (.int (0 : Int32)) :: (.int (0 : Int32)) :: (.int (0 : Int32)) :: (.int (0 : Int32)) :: (.int (0 : Int32)) :: (.int (0 : Int32)) :: (.int (0 : Int32)) :: (.int (0 : Int32)) :: (.int (0 : Int32)) :: (.int (0 : Int32)) :: (.int (0 : Int32)) :: (.int (0 : Int32)) :: (.int (0 : Int32)) :: (.int (0 : Int32)) :: (.int (0 : Int32)) :: (.int (0 : Int32)) :: (.int (0 : Int32)) :: (.int (0 : Int32)) :: (.int (0 : Int32)) :: (.int (0 : Int32)) :: (.int (0 : Int32)) :: (.int (0 : Int32)) :: (.int (0 : Int32)) :: (.int (0 : Int32)) :: (.int (0 : Int32)) :: (.int (0 : Int32)) :: (.int (0 : Int32)) :: (.int (0 : Int32)) :: (.int (0 : Int32)) :: (.int (0 : Int32)) :: (.int (0 : Int32)) :: (.int (0 : Int32)) :: (.int (0 : Int32)) :: (.int (0 : Int32)) :: (.int (0 : Int32)) :: (.int (0 : Int32)) :: (.int (0 : Int32)) :: (.int (0 : Int32)) :: (.int (0 : Int32)) :: []) (.int (0 : Int32))) (g_bB : n0 ≤ bB) (nx : x1 ≠ bB) (nt : t1 ≠ bB) (O0 : Old Z n0 h0) (O2 : Sta Z Z.heap "java/lang/String" "COMPACT_STRINGS" "Z" (.int G1)) (P5 : ¬ (G1 = (0 : Int32))) (O4 : Sta Z Z.heap "jdk/internal/util/Preconditions" "SIOOBE_FORMATTER" "Ljava/util/function/BiFunction;" G3) (rG3 : G3.isRef = true) :
    MetFree l (⟨"com/example/runs_to_scores/runstoscores/scoring/TopicDocnos", "write", "(Ljava/lang/CharSequence;[BI)Z"⟩ : MethodName) (head1 (Jvm.Cond.code (⟨"com/example/runs_to_scores/runstoscores/scoring/TopicDocnos", "write", "(Ljava/lang/CharSequence;[BI)Z"⟩ : MethodName) prog_82_method_12_code 5 (some .boolean) :: ws) ({ frames := 4, cells := 0, slots := 0, locals := 53 } : Room)) (fun a U => a = #[(.ref x1), (.ref bB), (.int (0 : Int32))] ∧ Z.Warmed39 U.vm ∧ U.heap = h0) (fun _ _ _ _ _ => True) (fun _ U o U' => ∃ v L, o = .returned v ∧ Q13_0 Z x1 bB kB t1 k1 G1 G3 h0 n0 v U'.heap L ∧ FrameEnd U o U' L ({ frames := 4, cells := 0, slots := 0, locals := 53 } : Room).cells ({ frames := 4, cells := 0, slots := 0, locals := 53 } : Room).slots) := by
  refine MetFree.of_bodySF (plainFor_of_name pn_1) hisR ?_
  intro p e s m args below meth c s₁ Bd hml0 hP hK
  obtain ⟨rfl, hZ, hh⟩ := hP
  have hx := Bd.exec
  have hby := Bd.bytes
  have hml : c.maxLocals = 5 := hml0
  have hown : s.vm.findClass "com/example/runs_to_scores/runstoscores/scoring/TopicDocnos" = some m.cls := findClass_of_methodNamed Bd.named
  have hnm := (name_of_methodNamed Bd.named Bd.method).1
  have X0 : Stand p l e ({ frames := 4, cells := 0, slots := 0, locals := 53 } : Room) s m #[(.ref x1), (.ref bB), (.int (0 : Int32))] below meth c s₁ [] 0 0 := Stand.of_body Bd
  have e0 : s₁.heap = h0 := by rw [← hh, Bd.state]; rfl
  have Nf0 := Fr.nil n0
  obtain ⟨Gl, hGl, kn0⟩ : ∃ Gl : State → Prop, (∀ t, Gl t → Steps p.tables e below (s₁.setTop (entryFrame m #[(.ref x1), (.ref bB), (.int (0 : Int32))] 5)) t) ∧ ∀ t, own_S p e below s₁ (mkF m 0 #[.val (.ref x1), .val (.ref bB), .val (.int (0 : Int32)), .unset, .unset] []) t → Gl t := ⟨fun t => Steps p.tables e below (s₁.setTop (entryFrame m #[(.ref x1), (.ref bB), (.int (0 : Int32))] 5)) t, fun _ k => k, fun t k => castTop (ef_rm13_0 m x1 bB) k⟩
  have kn1 : ∀ t, own_S p e below s₁ (mkF m 4 #[.val (.ref x1), .val (.ref bB), .val (.int (0 : Int32)), .val (.int (0 : Int32)), .unset] [(.ref x1), (.int (0 : Int32))]) t → Gl t := fun t kt => kn0 t (by
    show own_S p e below s₁ (mkF m 0 #[.val (.ref x1), .val (.ref bB), .val (.int (0 : Int32)), .unset, .unset] []) _
    refine XS.iconst X0.here hx rfl (hb hby d_prog_82_method_12_0) ?_
    show own_S p e below s₁ (mkF m 1 #[.val (.ref x1), .val (.ref bB), .val (.int (0 : Int32)), .unset, .unset] [(.int (0 : Int32))]) _
    refine XS.istoreN X0.here hx rfl (hb hby d_prog_82_method_12_1) rfl (l' := #[.val (.ref x1), .val (.ref bB), .val (.int (0 : Int32)), .val (.int (0 : Int32)), .unset]) rfl ?_
    show own_S p e below s₁ (mkF m 2 #[.val (.ref x1), .val (.ref bB), .val (.int (0 : Int32)), .val (.int (0 : Int32)), .unset] []) _
    refine XS.iloadN X0.here hx rfl (hb hby d_prog_82_method_12_2) rfl ?_
    show own_S p e below s₁ (mkF m 3 #[.val (.ref x1), .val (.ref bB), .val (.int (0 : Int32)), .val (.int (0 : Int32)), .unset] [(.int (0 : Int32))]) _
    refine XS.aloadN X0.here hx rfl (hb hby d_prog_82_method_12_3) rfl rfl ?_
    exact kt)
  have hln : ∀ d ∈ StrChars.Road.wordsLen, d.before a0 Z = true := fun d hd => hw d ((by decide +kernel : ∀ d ∈ StrChars.Road.wordsLen, d ∈ tables_1) d hd)
  have hcd_x1 : StrChars.Road.CodA ([(97 : Int32)] : List Int32) 0 (1 : Int32) ((([(97 : Int32)] : List Int32).map (fun c => c.toInt8.toInt32)).map Value.int) := StrChars.Road.codOf (n := 1) rfl (fun x hx => (hp_x1 x hx).2)
  have hbd_x1 : ∀ x ∈ ([(97 : Int32)] : List Int32), ¬ x < 0 ∧ ¬ (65535 : Int32) < x := own_up _ hp_x1
  obtain ⟨cq2, kq2, qa2, qb2, qc2⟩ := isOf hZ e0 E_x1
  obtain ⟨_, _, ⟨T2, L2, cc2, ss2⟩, -, X2, ⟨Lc2, hQ2, l2, y2, z2⟩, st2⟩ := X0.interfaceBack hx (xi := (⟨"java/lang/CharSequence", "length", "()I"⟩ : MethodName)) (y := (⟨"java/lang/String", "length", "()I"⟩ : MethodName)) hown (mvT hZ (hw _ (List.mem_of_getElem? (i := 71) rfl))) (mvT hZ (hw _ (List.mem_of_getElem? (i := 72) rfl))) (mvT hZ (hw _ (List.mem_of_getElem? (i := 73) rfl))) (mvT hZ (hw _ (List.mem_of_getElem? (i := 74) rfl))) (mvT hZ (hw _ (List.mem_of_getElem? (i := 75) rfl))) (mvT hZ (hw _ (List.mem_of_getElem? (i := 76) rfl))) (mvT hZ (hw _ (List.mem_of_getElem? (i := 77) rfl))) (mvT hZ (hw _ (List.mem_of_getElem? (i := 78) rfl))) (by decide) (StrChars.Road.lenW (W := 1) hZ hln (kI := 4) (hw _ (List.mem_of_getElem? (i := 50) rfl)) E_x1 V_x1 C_x1 K_x1 hcd_x1 hbd_x1 (O2.ext O0.2) P5 (Nat.le_of_ble_eq_true rfl) (by decide) (by decide)) qa2 qb2 qc2 (g := (mkF m 4 #[.val (.ref x1), .val (.ref bB), .val (.int (0 : Int32)), .val (.int (0 : Int32)), .unset] [(.ref x1), (.int (0 : Int32))])) rfl (by rw [hml]; rfl) (Steps.refl _) (argsL := []) (rest := [(.int (0 : Int32))]) (lenOf pd_4 rfl) rfl (by show 2 * 0 + _ ≤ _; exact Nat.le_of_eq rfl) (hb hby d_prog_82_method_12_4) (fun _ _ => ⟨rfl, e0, (by decide : 0 + 0 ≤ _), (by decide : 0 + 0 ≤ _)⟩)
  dsimp only [Pt.U, Pt.locs, Pt.cells, Pt.slots] at X2 l2 y2 z2 st2 hQ2
  subst l2 y2 z2
  obtain ⟨rfl, rfl, eq2⟩ := hQ2
  have Nq2 : Fr n0 ([] : List Loc) := Fr.nil n0
  have Nf2 := Fr.app Nf0 Nq2
  have kn3 : ∀ t, own_S p e below T2 (mkF m 9 #[.val (.ref x1), .val (.ref bB), .val (.int (0 : Int32)), .val (.int (0 : Int32)), .unset] [(.int (1 : Int32)), (.int (0 : Int32))]) t → Gl t := fun t kt => kn1 t (st2.trans kt)
  have kn4 : ∀ t, own_S p e below T2 (mkF m 14 #[.val (.ref x1), .val (.ref bB), .val (.int (0 : Int32)), .val (.int (0 : Int32)), .unset] [(.int (0 : Int32)), (.ref x1)]) t → Gl t := fun t kt => kn3 t (by
    show own_S p e below T2 (mkF m 9 #[.val (.ref x1), .val (.ref bB), .val (.int (0 : Int32)), .val (.int (0 : Int32)), .unset] [(.int (1 : Int32)), (.int (0 : Int32))]) _
    refine XS.icmpNo X2.here hx rfl (hb hby d_prog_82_method_12_9) rfl (tlt (by decide : (0 : Int32) < (1 : Int32))).2.1 ?_
    show own_S p e below T2 (mkF m 12 #[.val (.ref x1), .val (.ref bB), .val (.int (0 : Int32)), .val (.int (0 : Int32)), .unset] []) _
    refine XS.aloadN X2.here hx rfl (hb hby d_prog_82_method_12_12) rfl rfl ?_
    show own_S p e below T2 (mkF m 13 #[.val (.ref x1), .val (.ref bB), .val (.int (0 : Int32)), .val (.int (0 : Int32)), .unset] [(.ref x1)]) _
    refine XS.iloadN X2.here hx rfl (hb hby d_prog_82_method_12_13) rfl ?_
    exact kt)
  have hch : ∀ d ∈ StrChars.Road.wordsChN, d.before a0 Z = true := fun d hd => hw d ((by decide +kernel : ∀ d ∈ StrChars.Road.wordsChN, d ∈ tables_1) d hd)
  obtain ⟨cq5, kq5, qa5, qb5, qc5⟩ := isOf hZ eq2 E_x1
  obtain ⟨_, _, ⟨T5, L5, cc5, ss5⟩, -, X5, ⟨Lc5, hQ5, l5, y5, z5⟩, st5⟩ := X2.interfaceBack hx (xi := (⟨"java/lang/CharSequence", "charAt", "(I)C"⟩ : MethodName)) (y := (⟨"java/lang/String", "charAt", "(I)C"⟩ : MethodName)) hown (mvT hZ (hw _ (List.mem_of_getElem? (i := 91) rfl))) (mvT hZ (hw _ (List.mem_of_getElem? (i := 92) rfl))) (mvT hZ (hw _ (List.mem_of_getElem? (i := 93) rfl))) (mvT hZ (hw _ (List.mem_of_getElem? (i := 94) rfl))) (mvT hZ (hw _ (List.mem_of_getElem? (i := 95) rfl))) (mvT hZ (hw _ (List.mem_of_getElem? (i := 96) rfl))) (mvT hZ (hw _ (List.mem_of_getElem? (i := 97) rfl))) (mvT hZ (hw _ (List.mem_of_getElem? (i := 78) rfl))) (by decide) (StrChars.Road.chN (W := 0) hZ hch (kI := 4) (hw _ (List.mem_of_getElem? (i := 50) rfl)) E_x1 V_x1 C_x1 K_x1 hcd_x1 hbd_x1 (O2.ext O0.2) P5 (O4.ext O0.2) rG3 (Nat.le_of_ble_eq_true rfl) (i := 0) (Nat.le_of_ble_eq_true rfl) (j := 0) rfl (by decide) (by decide)) qa5 qb5 qc5 (g := (mkF m 14 #[.val (.ref x1), .val (.ref bB), .val (.int (0 : Int32)), .val (.int (0 : Int32)), .unset] [(.int (0 : Int32)), (.ref x1)])) rfl (by rw [hml]; rfl) (Steps.refl _) (argsL := [(.int (0 : Int32))]) (rest := []) (lenOf pd_5 rfl) rfl (by show 2 * 0 + _ ≤ _; exact Nat.le_of_eq rfl) (hb hby d_prog_82_method_12_14) (fun _ _ => ⟨rfl, eq2, (by decide : 0 + 0 ≤ _), (by decide : 0 + 0 ≤ _)⟩)
  dsimp only [Pt.U, Pt.locs, Pt.cells, Pt.slots] at X5 l5 y5 z5 st5 hQ5
  subst l5 y5 z5
  obtain ⟨rfl, rfl, eq5⟩ := hQ5
  have Nq5 : Fr n0 ([] : List Loc) := Fr.nil n0
  have Nf5 := Fr.app Nf2 Nq5
  have kn6 : ∀ t, own_S p e below T5 (mkF m 19 #[.val (.ref x1), .val (.ref bB), .val (.int (0 : Int32)), .val (.int (0 : Int32)), .unset] [(.int (97 : Int32))]) t → Gl t := fun t kt => kn4 t (st5.trans kt)
  have kn7 : ∀ t, own_S p e below T5 (mkF m 38 #[.val (.ref x1), .val (.ref bB), .val (.int (0 : Int32)), .val (.int (0 : Int32)), .val (.int (97 : Int32))] [(.int (97 : Int32)), (.int (0 : Int32)), (.ref bB)]) t → Gl t := fun t kt => kn6 t (by
    show own_S p e below T5 (mkF m 19 #[.val (.ref x1), .val (.ref bB), .val (.int (0 : Int32)), .val (.int (0 : Int32)), .unset] [(.int (97 : Int32))]) _
    refine XS.istore X5.here hx rfl (hb hby d_prog_82_method_12_19) rfl (l' := #[.val (.ref x1), .val (.ref bB), .val (.int (0 : Int32)), .val (.int (0 : Int32)), .val (.int (97 : Int32))]) rfl ?_
    show own_S p e below T5 (mkF m 21 #[.val (.ref x1), .val (.ref bB), .val (.int (0 : Int32)), .val (.int (0 : Int32)), .val (.int (97 : Int32))] []) _
    refine XS.iload X5.here hx rfl (hb hby d_prog_82_method_12_21) rfl ?_
    show own_S p e below T5 (mkF m 23 #[.val (.ref x1), .val (.ref bB), .val (.int (0 : Int32)), .val (.int (0 : Int32)), .val (.int (97 : Int32))] [(.int (97 : Int32))]) _
    refine XS.sipush X5.here hx rfl (hb hby d_prog_82_method_12_23) ?_
    show own_S p e below T5 (mkF m 26 #[.val (.ref x1), .val (.ref bB), .val (.int (0 : Int32)), .val (.int (0 : Int32)), .val (.int (97 : Int32))] [(.int (255 : Int32)), (.int (97 : Int32))]) _
    refine XS.icmpYes X5.here hx rfl (pc0 := 26) (pc' := 31) rfl (hb hby d_prog_82_method_12_26) rfl (flt (by decide : ¬ ((255 : Int32) < (97 : Int32)))).2.2.2 (by decide) (by decide) ?_
    show own_S p e below T5 (mkF m 31 #[.val (.ref x1), .val (.ref bB), .val (.int (0 : Int32)), .val (.int (0 : Int32)), .val (.int (97 : Int32))] []) _
    refine XS.aloadN X5.here hx rfl (hb hby d_prog_82_method_12_31) rfl rfl ?_
    show own_S p e below T5 (mkF m 32 #[.val (.ref x1), .val (.ref bB), .val (.int (0 : Int32)), .val (.int (0 : Int32)), .val (.int (97 : Int32))] [(.ref bB)]) _
    refine XS.iloadN X5.here hx rfl (hb hby d_prog_82_method_12_32) rfl ?_
    show own_S p e below T5 (mkF m 33 #[.val (.ref x1), .val (.ref bB), .val (.int (0 : Int32)), .val (.int (0 : Int32)), .val (.int (97 : Int32))] [(.int (0 : Int32)), (.ref bB)]) _
    refine XS.iloadN X5.here hx rfl (hb hby d_prog_82_method_12_33) rfl ?_
    show own_S p e below T5 (mkF m 34 #[.val (.ref x1), .val (.ref bB), .val (.int (0 : Int32)), .val (.int (0 : Int32)), .val (.int (97 : Int32))] [(.int (0 : Int32)), (.int (0 : Int32)), (.ref bB)]) _
    refine XS.iadd X5.here hx rfl (hb hby d_prog_82_method_12_34) rfl ?_
    rw [(by decide : ((0 : Int32) + (0 : Int32)) = (0 : Int32))]
    show own_S p e below T5 (mkF m 35 #[.val (.ref x1), .val (.ref bB), .val (.int (0 : Int32)), .val (.int (0 : Int32)), .val (.int (97 : Int32))] [(.int (0 : Int32)), (.ref bB)]) _
    refine XS.iload X5.here hx rfl (hb hby d_prog_82_method_12_35) rfl ?_
    show own_S p e below T5 (mkF m 37 #[.val (.ref x1), .val (.ref bB), .val (.int (0 : Int32)), .val (.int (0 : Int32)), .val (.int (97 : Int32))] [(.int (97 : Int32)), (.int (0 : Int32)), (.ref bB)]) _
    refine XS.i2b X5.here hx rfl (hb hby d_prog_82_method_12_37) rfl ?_
    rw [(by decide : ((97 : Int32).toInt8.toInt32) = (97 : Int32))]
    exact kt)
  obtain ⟨cl8, Ar8, q8, Sz8, Ng8, Hs8, Gs8⟩ := id A1
  have hin8 : ¬ ((0 : Int32) < 0 ∨ cl8.slots.size ≤ ((0 : Int32)).toNatClampNeg) := inb_of Sz8 ⟨by decide, by decide⟩
  obtain ⟨T8, h8, X8, e8, W8, st8⟩ := stB X5 hx hZ eq5 Ar8 (j := (0 : Int32)) hin8 (g := (mkF m 38 #[.val (.ref x1), .val (.ref bB), .val (.int (0 : Int32)), .val (.int (0 : Int32)), .val (.int (97 : Int32))] [(.int (97 : Int32)), (.int (0 : Int32)), (.ref bB)])) rfl rfl (hb hby d_prog_82_method_12_38)
  have Z9 : n0 ≤ h8.size := Nat.le_trans Z0 (Keep.of_wr W8).1
  have O10 : Old Z n0 h8 := O0.wr W8 g_bB
  have K11 : Keep h0 h8 [bB] := (Keep.refl h0 [bB]).wr W8 (Or.inl (List.mem_of_getElem? (i := 0) rfl))
  have V8 : Arv Z h8 bB kB .byte (64 : Int32) ((.int ((97 : Int32).toInt8.toInt32)) :: (.int (0 : Int32)) :: (.int (0 : Int32)) :: (.int (0 : Int32)) :: (.int (0 : Int32)) :: (.int (0 : Int32)) :: (.int (0 : Int32)) :: (.int (0 : Int32)) :: (.int (0 : Int32)) :: (.int (0 : Int32)) :: (.int (0 : Int32)) :: (.int (0 : Int32)) :: (.int (0 : Int32)) :: (.int (0 : Int32)) :: (.int (0 : Int32)) :: (.int (0 : Int32)) :: (.int (0 : Int32)) :: (.int (0 : Int32)) :: (.int (0 : Int32)) :: (.int (0 : Int32)) :: (.int (0 : Int32)) :: (.int (0 : Int32)) :: (.int (0 : Int32)) :: (.int (0 : Int32)) :: (.int (0 : Int32)) :: (.int (0 : Int32)) :: (.int (0 : Int32)) :: (.int (0 : Int32)) :: (.int (0 : Int32)) :: (.int (0 : Int32)) :: (.int (0 : Int32)) :: (.int (0 : Int32)) :: (.int (0 : Int32)) :: (.int (0 : Int32)) :: (.int (0 : Int32)) :: (.int (0 : Int32)) :: (.int (0 : Int32)) :: (.int (0 : Int32)) :: (.int (0 : Int32)) :: (.int (0 : Int32)) :: (.int (0 : Int32)) :: (.int (0 : Int32)) :: (.int (0 : Int32)) :: (.int (0 : Int32)) :: (.int (0 : Int32)) :: (.int (0 : Int32)) :: (.int (0 : Int32)) :: (.int (0 : Int32)) :: (.int (0 : Int32)) :: (.int (0 : Int32)) :: (.int (0 : Int32)) :: (.int (0 : Int32)) :: (.int (0 : Int32)) :: (.int (0 : Int32)) :: (.int (0 : Int32)) :: (.int (0 : Int32)) :: (.int (0 : Int32)) :: (.int (0 : Int32)) :: (.int (0 : Int32)) :: (.int (0 : Int32)) :: (.int (0 : Int32)) :: (.int (0 : Int32)) :: (.int (0 : Int32)) :: (.int (0 : Int32)) :: []) (.int (0 : Int32)) := Arv.set Ar8 q8 Sz8 Ng8 Hs8 Gs8 (fits_nar_byte _) W8 0 rfl (Nat.le_of_ble_eq_true rfl)
  rw [(show ((97 : Int32).toInt8.toInt32) = (97 : Int32) from by decide)] at V8
  have Nf12 := Fr.snoc X8 Nf5 g_bB
  have kn13 : ∀ t, own_S p e below T8 (mkF m 39 #[.val (.ref x1), .val (.ref bB), .val (.int (0 : Int32)), .val (.int (0 : Int32)), .val (.int (97 : Int32))] []) t → Gl t := fun t kt => kn7 t (st8 _ kt)
  have kn14 : ∀ t, own_S p e below T8 (mkF m 4 #[.val (.ref x1), .val (.ref bB), .val (.int (0 : Int32)), .val (.int (1 : Int32)), .val (.int (97 : Int32))] [(.ref x1), (.int (1 : Int32))]) t → Gl t := fun t kt => kn13 t (by
    show own_S p e below T8 (mkF m 39 #[.val (.ref x1), .val (.ref bB), .val (.int (0 : Int32)), .val (.int (0 : Int32)), .val (.int (97 : Int32))] []) _
    refine XS.iinc X8.here hx rfl (hb hby d_prog_82_method_12_39) rfl (l' := #[.val (.ref x1), .val (.ref bB), .val (.int (0 : Int32)), .val (.int ((0 : Int32) + (1 : Int32))), .val (.int (97 : Int32))]) rfl ?_
    rw [(by decide : ((0 : Int32) + (1 : Int32)) = (1 : Int32))]
    show own_S p e below T8 (mkF m 42 #[.val (.ref x1), .val (.ref bB), .val (.int (0 : Int32)), .val (.int (1 : Int32)), .val (.int (97 : Int32))] []) _
    refine XS.goto X8.here hx rfl (pc0 := 42) (pc' := 2) rfl (hb hby d_prog_82_method_12_42) (by decide) (by decide) ?_
    show own_S p e below T8 (mkF m 2 #[.val (.ref x1), .val (.ref bB), .val (.int (0 : Int32)), .val (.int (1 : Int32)), .val (.int (97 : Int32))] []) _
    refine XS.iloadN X8.here hx rfl (hb hby d_prog_82_method_12_2) rfl ?_
    show own_S p e below T8 (mkF m 3 #[.val (.ref x1), .val (.ref bB), .val (.int (0 : Int32)), .val (.int (1 : Int32)), .val (.int (97 : Int32))] [(.int (1 : Int32))]) _
    refine XS.aloadN X8.here hx rfl (hb hby d_prog_82_method_12_3) rfl rfl ?_
    exact kt)
  have f16 := (E_x1.wr W8)
  have f17 := (V_x1.other W8 (Or.inl nx))
  have f18 := (C_x1.other W8 (Or.inl nx))
  have f19 := (K_x1.other W8 nt)
  obtain ⟨cq15, kq15, qa15, qb15, qc15⟩ := isOf hZ e8 f16
  obtain ⟨_, _, ⟨T15, L15, cc15, ss15⟩, -, X15, ⟨Lc15, hQ15, l15, y15, z15⟩, st15⟩ := X8.interfaceBack hx (xi := (⟨"java/lang/CharSequence", "length", "()I"⟩ : MethodName)) (y := (⟨"java/lang/String", "length", "()I"⟩ : MethodName)) hown (mvT hZ (hw _ (List.mem_of_getElem? (i := 71) rfl))) (mvT hZ (hw _ (List.mem_of_getElem? (i := 72) rfl))) (mvT hZ (hw _ (List.mem_of_getElem? (i := 73) rfl))) (mvT hZ (hw _ (List.mem_of_getElem? (i := 74) rfl))) (mvT hZ (hw _ (List.mem_of_getElem? (i := 75) rfl))) (mvT hZ (hw _ (List.mem_of_getElem? (i := 76) rfl))) (mvT hZ (hw _ (List.mem_of_getElem? (i := 77) rfl))) (mvT hZ (hw _ (List.mem_of_getElem? (i := 78) rfl))) (by decide) (StrChars.Road.lenW (W := 1) hZ hln (kI := 4) (hw _ (List.mem_of_getElem? (i := 50) rfl)) f16 f17 f18 f19 hcd_x1 hbd_x1 (O2.ext O10.2) P5 (Nat.le_of_ble_eq_true rfl) (by decide) (by decide)) qa15 qb15 qc15 (g := (mkF m 4 #[.val (.ref x1), .val (.ref bB), .val (.int (0 : Int32)), .val (.int (1 : Int32)), .val (.int (97 : Int32))] [(.ref x1), (.int (1 : Int32))])) rfl (by rw [hml]; rfl) (Steps.refl _) (argsL := []) (rest := [(.int (1 : Int32))]) (lenOf pd_4 rfl) rfl (by show 2 * 0 + _ ≤ _; exact Nat.le_of_eq rfl) (hb hby d_prog_82_method_12_4) (fun _ _ => ⟨rfl, e8, (by decide : 0 + 0 ≤ _), (by decide : 0 + 0 ≤ _)⟩)
  dsimp only [Pt.U, Pt.locs, Pt.cells, Pt.slots] at X15 l15 y15 z15 st15 hQ15
  subst l15 y15 z15
  obtain ⟨rfl, rfl, eq15⟩ := hQ15
  have Nq15 : Fr n0 ([] : List Loc) := Fr.nil n0
  have Nf15 := Fr.app Nf12 Nq15
  have kn20 : ∀ t, own_S p e below T15 (mkF m 9 #[.val (.ref x1), .val (.ref bB), .val (.int (0 : Int32)), .val (.int (1 : Int32)), .val (.int (97 : Int32))] [(.int (1 : Int32)), (.int (1 : Int32))]) t → Gl t := fun t kt => kn14 t (st15.trans kt)
  have kn21 : ∀ t, own_S p e below T15 (mkF m 46 #[.val (.ref x1), .val (.ref bB), .val (.int (0 : Int32)), .val (.int (1 : Int32)), .val (.int (97 : Int32))] [(.int (1 : Int32))]) t → Gl t := fun t kt => kn20 t (by
    show own_S p e below T15 (mkF m 9 #[.val (.ref x1), .val (.ref bB), .val (.int (0 : Int32)), .val (.int (1 : Int32)), .val (.int (97 : Int32))] [(.int (1 : Int32)), (.int (1 : Int32))]) _
    refine XS.icmpYes X15.here hx rfl (pc0 := 9) (pc' := 45) rfl (hb hby d_prog_82_method_12_9) rfl (flt (by decide : ¬ ((1 : Int32) < (1 : Int32)))).2.1 (by decide) (by decide) ?_
    show own_S p e below T15 (mkF m 45 #[.val (.ref x1), .val (.ref bB), .val (.int (0 : Int32)), .val (.int (1 : Int32)), .val (.int (97 : Int32))] []) _
    refine XS.iconst X15.here hx rfl (hb hby d_prog_82_method_12_45) ?_
    exact kt)
  obtain ⟨fs, hr, hrun, hended, hW, hsame⟩ := X15.leave (v := some (.int (1 : Int32))) (fun h => by rw [Bd.returns] at h; cases h)
  refine ⟨_, _, hGl _ (kn21 _ (retN X15 hx (t := .boolean) Bd.returns (by simp) (hb hby d_prog_82_method_12_46) hr)), hrun, hended, _, _, rfl, ?_, ⟨_, rfl⟩, hW, hsame.mono (by decide) (by decide)⟩
  show Q13_0 Z x1 bB kB t1 k1 G1 G3 h0 n0 _ T15.heap _
  rw [eq15]
  exact ⟨rfl, Nf15, K11, V8⟩

theorem d_prog_82_method_13_0 : decode prog_82_method_13_code 0 = .ok (.iconst 0, 1) := by decide +kernel
theorem d_prog_82_method_13_1 : decode prog_82_method_13_code 1 = .ok (.istore_n 3, 1) := by decide +kernel
theorem d_prog_82_method_13_2 : decode prog_82_method_13_code 2 = .ok (.iload_n 1, 1) := by decide +kernel
theorem d_prog_82_method_13_3 : decode prog_82_method_13_code 3 = .ok (.istore 4, 2) := by decide +kernel
theorem d_prog_82_method_13_5 : decode prog_82_method_13_code 5 = .ok (.iload 4, 2) := by decide +kernel
theorem d_prog_82_method_13_7 : decode prog_82_method_13_code 7 = .ok (.iload_n 2, 1) := by decide +kernel
theorem d_prog_82_method_13_8 : decode prog_82_method_13_code 8 = .ok (.if_icmp .ge 19, 3) := by decide +kernel
theorem d_prog_82_method_13_11 : decode prog_82_method_13_code 11 = .ok (.bipush 31, 2) := by decide +kernel
theorem d_prog_82_method_13_13 : decode prog_82_method_13_code 13 = .ok (.iload_n 3, 1) := by decide +kernel
theorem d_prog_82_method_13_14 : decode prog_82_method_13_code 14 = .ok (.imul, 1) := by decide +kernel
theorem d_prog_82_method_13_15 : decode prog_82_method_13_code 15 = .ok (.aload_n 0, 1) := by decide +kernel
theorem d_prog_82_method_13_16 : decode prog_82_method_13_code 16 = .ok (.iload 4, 2) := by decide +kernel
theorem d_prog_82_method_13_18 : decode prog_82_method_13_code 18 = .ok (.baload, 1) := by decide +kernel
theorem d_prog_82_method_13_19 : decode prog_82_method_13_code 19 = .ok (.iadd, 1) := by decide +kernel
theorem d_prog_82_method_13_20 : decode prog_82_method_13_code 20 = .ok (.istore_n 3, 1) := by decide +kernel
theorem d_prog_82_method_13_21 : decode prog_82_method_13_code 21 = .ok (.iinc 4 1, 3) := by decide +kernel
theorem d_prog_82_method_13_24 : decode prog_82_method_13_code 24 = .ok (.goto (-19), 3) := by decide +kernel
theorem d_prog_82_method_13_27 : decode prog_82_method_13_code 27 = .ok (.iload_n 3, 1) := by decide +kernel
theorem d_prog_82_method_13_28 : decode prog_82_method_13_code 28 = .ok (.ireturn, 1) := by decide +kernel
theorem ef_rm19_0 (m : MethodId) (x0 : Addr) : entryFrame m #[(.ref x0), (.int (0 : Int32)), (.int (1 : Int32))] 5 = mkF m 0 #[.val (.ref x0), .val (.int (0 : Int32)), .val (.int (1 : Int32)), .unset, .unset] [] := by first | (simp [entryFrame, mkF, argsToLocals, Value.category]; done) | rfl
def Q19_0 (Z : State) (bB : Addr) (kB : ClassId) (h0 : Heap) (n0 : Nat) (v : Option Value) (h : Heap) (L : List Loc) : Prop := v = some (.int (97 : Int32)) ∧ Fr n0 L ∧ h = h0
set_option maxRecDepth 65536 in
set_option maxHeartbeats 40000000 in
theorem rm19_0 (l : Launch) (Z : State) (a0 : Array Value) (hw : ∀ d ∈ tables_1, d.before a0 Z = true) (ws : List Jvm.Cond) (bB : Addr) (kB : ClassId) (h0 : Heap) (n0 : Nat) (Z0 : n0 ≤ h0.size) (A1 : Arv Z h0 bB kB .byte (64 : Int32) ((.int (97 : Int32)) :: (.int (0 : Int32)) :: (.int (0 : Int32)) :: (.int (0 : Int32)) :: (.int (0 : Int32)) :: (.int (0 : Int32)) :: (.int (0 : Int32)) :: (.int (0 : Int32)) :: (.int (0 : Int32)) :: (.int (0 : Int32)) :: (.int (0 : Int32)) :: (.int (0 : Int32)) :: (.int (0 : Int32)) :: (.int (0 : Int32)) :: (.int (0 : Int32)) :: (.int (0 : Int32)) :: (.int (0 : Int32)) :: (.int (0 : Int32)) :: (.int (0 : Int32)) :: (.int (0 : Int32)) :: (.int (0 : Int32)) :: (.int (0 : Int32)) :: (.int (0 : Int32)) :: (.int (0 : Int32)) :: (.int (0 : Int32)) :: (.int (0 : Int32)) :: (.int (0 : Int32)) :: (.int (0 : Int32)) :: (.int (0 : Int32)) :: (.int (0 : Int32)) :: (.int (0 : Int32)) :: (.int (0 : Int32)) :: (.int (0 : Int32)) :: (.int (0 : Int32)) :: (.int (0 : Int32)) :: (.int (0 : Int32)) :: (.int (0 : Int32)) :: (.int (0 : Int32)) :: (.int (0 : Int32)) :: (.int (0 : Int32)) :: (.int (0 : Int32)) :: (.int (0 : Int32)) :: (.int (0 : Int32)) :: (.int (0 : Int32)) :: (.int (0 : Int32)) :: (.int (0 : Int32)) :: (.int (0 : Int32)) :: (.int (0 : Int32)) :: (.int (0 : Int32)) :: (.int (0 : Int32)) :: (.int (0 : Int32)) :: (.int (0 : Int32)) :: (.int (0 : Int32)) :: (.int (0 : Int32)) :: (.int (0 : Int32)) :: (.int (0 : Int32)) :: (.int (0 : Int32)) :: (.int (0 : Int32)) :: (.int (0 : Int32)) :: (.int (0 : Int32)) :: (.int (0 : Int32)) :: (.int (0 : Int32)) :: (.int (0 : Int32)) :: (.int (0 : Int32)) :: []) (.int (0 : Int32))) :
    MetFree l (⟨"com/example/runs_to_scores/runstoscores/scoring/TopicDocnos", "hash", "([BII)I"⟩ : MethodName) (head1 (Jvm.Cond.code (⟨"com/example/runs_to_scores/runstoscores/scoring/TopicDocnos", "hash", "([BII)I"⟩ : MethodName) prog_82_method_13_code 5 (some .int) :: ws) ({ frames := 0, cells := 0, slots := 0, locals := 0 } : Room)) (fun a U => a = #[(.ref bB), (.int (0 : Int32)), (.int (1 : Int32))] ∧ Z.Warmed39 U.vm ∧ U.heap = h0) (fun _ _ _ _ _ => True) (fun _ U o U' => ∃ v L, o = .returned v ∧ Q19_0 Z bB kB h0 n0 v U'.heap L ∧ FrameEnd U o U' L ({ frames := 0, cells := 0, slots := 0, locals := 0 } : Room).cells ({ frames := 0, cells := 0, slots := 0, locals := 0 } : Room).slots) := by
  refine MetFree.of_bodySF (plainFor_of_name pn_1) hisR ?_
  intro p e s m args below meth c s₁ Bd hml0 hP hK
  obtain ⟨rfl, hZ, hh⟩ := hP
  have hx := Bd.exec
  have hby := Bd.bytes
  have hml : c.maxLocals = 5 := hml0
  have hown : s.vm.findClass "com/example/runs_to_scores/runstoscores/scoring/TopicDocnos" = some m.cls := findClass_of_methodNamed Bd.named
  have hnm := (name_of_methodNamed Bd.named Bd.method).1
  have X0 : Stand p l e ({ frames := 0, cells := 0, slots := 0, locals := 0 } : Room) s m #[(.ref bB), (.int (0 : Int32)), (.int (1 : Int32))] below meth c s₁ [] 0 0 := Stand.of_body Bd
  have e0 : s₁.heap = h0 := by rw [← hh, Bd.state]; rfl
  have Nf0 := Fr.nil n0
  obtain ⟨Gl, hGl, kn0⟩ : ∃ Gl : State → Prop, (∀ t, Gl t → Steps p.tables e below (s₁.setTop (entryFrame m #[(.ref bB), (.int (0 : Int32)), (.int (1 : Int32))] 5)) t) ∧ ∀ t, own_S p e below s₁ (mkF m 0 #[.val (.ref bB), .val (.int (0 : Int32)), .val (.int (1 : Int32)), .unset, .unset] []) t → Gl t := ⟨fun t => Steps p.tables e below (s₁.setTop (entryFrame m #[(.ref bB), (.int (0 : Int32)), (.int (1 : Int32))] 5)) t, fun _ k => k, fun t k => castTop (ef_rm19_0 m bB) k⟩
  have kn1 : ∀ t, own_S p e below s₁ (mkF m 18 #[.val (.ref bB), .val (.int (0 : Int32)), .val (.int (1 : Int32)), .val (.int (0 : Int32)), .val (.int (0 : Int32))] [(.int (0 : Int32)), (.ref bB), (.int (0 : Int32))]) t → Gl t := fun t kt => kn0 t (by
    show own_S p e below s₁ (mkF m 0 #[.val (.ref bB), .val (.int (0 : Int32)), .val (.int (1 : Int32)), .unset, .unset] []) _
    refine XS.iconst X0.here hx rfl (hb hby d_prog_82_method_13_0) ?_
    show own_S p e below s₁ (mkF m 1 #[.val (.ref bB), .val (.int (0 : Int32)), .val (.int (1 : Int32)), .unset, .unset] [(.int (0 : Int32))]) _
    refine XS.istoreN X0.here hx rfl (hb hby d_prog_82_method_13_1) rfl (l' := #[.val (.ref bB), .val (.int (0 : Int32)), .val (.int (1 : Int32)), .val (.int (0 : Int32)), .unset]) rfl ?_
    show own_S p e below s₁ (mkF m 2 #[.val (.ref bB), .val (.int (0 : Int32)), .val (.int (1 : Int32)), .val (.int (0 : Int32)), .unset] []) _
    refine XS.iloadN X0.here hx rfl (hb hby d_prog_82_method_13_2) rfl ?_
    show own_S p e below s₁ (mkF m 3 #[.val (.ref bB), .val (.int (0 : Int32)), .val (.int (1 : Int32)), .val (.int (0 : Int32)), .unset] [(.int (0 : Int32))]) _
    refine XS.istore X0.here hx rfl (hb hby d_prog_82_method_13_3) rfl (l' := #[.val (.ref bB), .val (.int (0 : Int32)), .val (.int (1 : Int32)), .val (.int (0 : Int32)), .val (.int (0 : Int32))]) rfl ?_
    show own_S p e below s₁ (mkF m 5 #[.val (.ref bB), .val (.int (0 : Int32)), .val (.int (1 : Int32)), .val (.int (0 : Int32)), .val (.int (0 : Int32))] []) _
    refine XS.iload X0.here hx rfl (hb hby d_prog_82_method_13_5) rfl ?_
    show own_S p e below s₁ (mkF m 7 #[.val (.ref bB), .val (.int (0 : Int32)), .val (.int (1 : Int32)), .val (.int (0 : Int32)), .val (.int (0 : Int32))] [(.int (0 : Int32))]) _
    refine XS.iloadN X0.here hx rfl (hb hby d_prog_82_method_13_7) rfl ?_
    show own_S p e below s₁ (mkF m 8 #[.val (.ref bB), .val (.int (0 : Int32)), .val (.int (1 : Int32)), .val (.int (0 : Int32)), .val (.int (0 : Int32))] [(.int (1 : Int32)), (.int (0 : Int32))]) _
    refine XS.icmpNo X0.here hx rfl (hb hby d_prog_82_method_13_8) rfl (tlt (by decide : (0 : Int32) < (1 : Int32))).2.1 ?_
    show own_S p e below s₁ (mkF m 11 #[.val (.ref bB), .val (.int (0 : Int32)), .val (.int (1 : Int32)), .val (.int (0 : Int32)), .val (.int (0 : Int32))] []) _
    refine XS.bipush X0.here hx rfl (hb hby d_prog_82_method_13_11) ?_
    show own_S p e below s₁ (mkF m 13 #[.val (.ref bB), .val (.int (0 : Int32)), .val (.int (1 : Int32)), .val (.int (0 : Int32)), .val (.int (0 : Int32))] [(.int (31 : Int32))]) _
    refine XS.iloadN X0.here hx rfl (hb hby d_prog_82_method_13_13) rfl ?_
    show own_S p e below s₁ (mkF m 14 #[.val (.ref bB), .val (.int (0 : Int32)), .val (.int (1 : Int32)), .val (.int (0 : Int32)), .val (.int (0 : Int32))] [(.int (0 : Int32)), (.int (31 : Int32))]) _
    refine XS.imul X0.here hx rfl (hb hby d_prog_82_method_13_14) rfl ?_
    rw [(by decide : ((31 : Int32) * (0 : Int32)) = (0 : Int32))]
    show own_S p e below s₁ (mkF m 15 #[.val (.ref bB), .val (.int (0 : Int32)), .val (.int (1 : Int32)), .val (.int (0 : Int32)), .val (.int (0 : Int32))] [(.int (0 : Int32))]) _
    refine XS.aloadN X0.here hx rfl (hb hby d_prog_82_method_13_15) rfl rfl ?_
    show own_S p e below s₁ (mkF m 16 #[.val (.ref bB), .val (.int (0 : Int32)), .val (.int (1 : Int32)), .val (.int (0 : Int32)), .val (.int (0 : Int32))] [(.ref bB), (.int (0 : Int32))]) _
    refine XS.iload X0.here hx rfl (hb hby d_prog_82_method_13_16) rfl ?_
    exact kt)
  obtain ⟨cl2, Ar2, q2, Sz2, Ng2, Hs2, Gs2⟩ := id A1
  have hin2 : ¬ ((0 : Int32) < 0 ∨ cl2.slots.size ≤ ((0 : Int32)).toNatClampNeg) := inb_of Sz2 ⟨by decide, by decide⟩
  have hat2 : cl2.slots[((0 : Int32)).toNatClampNeg]? = some (.int (97 : Int32)) := Hs2.at hin2 rfl
  have kn3 : ∀ t, own_S p e below s₁ (mkF m 28 #[.val (.ref bB), .val (.int (0 : Int32)), .val (.int (1 : Int32)), .val (.int (97 : Int32)), .val (.int (1 : Int32))] [(.int (97 : Int32))]) t → Gl t := fun t kt => kn1 t (by
    show own_S p e below s₁ (mkF m 18 #[.val (.ref bB), .val (.int (0 : Int32)), .val (.int (1 : Int32)), .val (.int (0 : Int32)), .val (.int (0 : Int32))] [(.int (0 : Int32)), (.ref bB), (.int (0 : Int32))]) _
    refine X0.baloadBytes hx (j := (0 : Int32)) (v := (.int (97 : Int32))) (by rw [e0]; exact Ar2.1) (State.isArrayOf_alike hZ.alike Ar2.2.1) Ar2.2.2 hin2 hat2 (g := (mkF m 18 #[.val (.ref bB), .val (.int (0 : Int32)), .val (.int (1 : Int32)), .val (.int (0 : Int32)), .val (.int (0 : Int32))] [(.int (0 : Int32)), (.ref bB), (.int (0 : Int32))])) rfl rfl (hb hby d_prog_82_method_13_18) _ ?_
    show own_S p e below s₁ (mkF m 19 #[.val (.ref bB), .val (.int (0 : Int32)), .val (.int (1 : Int32)), .val (.int (0 : Int32)), .val (.int (0 : Int32))] [(.int (97 : Int32)), (.int (0 : Int32))]) _
    refine XS.iadd X0.here hx rfl (hb hby d_prog_82_method_13_19) rfl ?_
    rw [(by decide : ((0 : Int32) + (97 : Int32)) = (97 : Int32))]
    show own_S p e below s₁ (mkF m 20 #[.val (.ref bB), .val (.int (0 : Int32)), .val (.int (1 : Int32)), .val (.int (0 : Int32)), .val (.int (0 : Int32))] [(.int (97 : Int32))]) _
    refine XS.istoreN X0.here hx rfl (hb hby d_prog_82_method_13_20) rfl (l' := #[.val (.ref bB), .val (.int (0 : Int32)), .val (.int (1 : Int32)), .val (.int (97 : Int32)), .val (.int (0 : Int32))]) rfl ?_
    show own_S p e below s₁ (mkF m 21 #[.val (.ref bB), .val (.int (0 : Int32)), .val (.int (1 : Int32)), .val (.int (97 : Int32)), .val (.int (0 : Int32))] []) _
    refine XS.iinc X0.here hx rfl (hb hby d_prog_82_method_13_21) rfl (l' := #[.val (.ref bB), .val (.int (0 : Int32)), .val (.int (1 : Int32)), .val (.int (97 : Int32)), .val (.int ((0 : Int32) + (1 : Int32)))]) rfl ?_
    rw [(by decide : ((0 : Int32) + (1 : Int32)) = (1 : Int32))]
    show own_S p e below s₁ (mkF m 24 #[.val (.ref bB), .val (.int (0 : Int32)), .val (.int (1 : Int32)), .val (.int (97 : Int32)), .val (.int (1 : Int32))] []) _
    refine XS.goto X0.here hx rfl (pc0 := 24) (pc' := 5) rfl (hb hby d_prog_82_method_13_24) (by decide) (by decide) ?_
    show own_S p e below s₁ (mkF m 5 #[.val (.ref bB), .val (.int (0 : Int32)), .val (.int (1 : Int32)), .val (.int (97 : Int32)), .val (.int (1 : Int32))] []) _
    refine XS.iload X0.here hx rfl (hb hby d_prog_82_method_13_5) rfl ?_
    show own_S p e below s₁ (mkF m 7 #[.val (.ref bB), .val (.int (0 : Int32)), .val (.int (1 : Int32)), .val (.int (97 : Int32)), .val (.int (1 : Int32))] [(.int (1 : Int32))]) _
    refine XS.iloadN X0.here hx rfl (hb hby d_prog_82_method_13_7) rfl ?_
    show own_S p e below s₁ (mkF m 8 #[.val (.ref bB), .val (.int (0 : Int32)), .val (.int (1 : Int32)), .val (.int (97 : Int32)), .val (.int (1 : Int32))] [(.int (1 : Int32)), (.int (1 : Int32))]) _
    refine XS.icmpYes X0.here hx rfl (pc0 := 8) (pc' := 27) rfl (hb hby d_prog_82_method_13_8) rfl (flt (by decide : ¬ ((1 : Int32) < (1 : Int32)))).2.1 (by decide) (by decide) ?_
    show own_S p e below s₁ (mkF m 27 #[.val (.ref bB), .val (.int (0 : Int32)), .val (.int (1 : Int32)), .val (.int (97 : Int32)), .val (.int (1 : Int32))] []) _
    refine XS.iloadN X0.here hx rfl (hb hby d_prog_82_method_13_27) rfl ?_
    exact kt)
  obtain ⟨fs, hr, hrun, hended, hW, hsame⟩ := X0.leave (v := some (.int (97 : Int32))) (fun h => by rw [Bd.returns] at h; cases h)
  refine ⟨_, _, hGl _ (kn3 _ (retI X0 hx Bd.returns (hb hby d_prog_82_method_13_28) hr)), hrun, hended, _, _, rfl, ?_, ⟨_, rfl⟩, hW, hsame.mono (by decide) (by decide)⟩
  show Q19_0 Z bB kB h0 n0 _ s₁.heap _
  rw [e0]
  exact ⟨rfl, Nf0, rfl⟩

theorem d_prog_82_method_14_0 : decode prog_82_method_14_code 0 = .ok (.iload_n 0, 1) := by decide +kernel
theorem d_prog_82_method_14_1 : decode prog_82_method_14_code 1 = .ok (.iload_n 0, 1) := by decide +kernel
theorem d_prog_82_method_14_2 : decode prog_82_method_14_code 2 = .ok (.bipush 16, 2) := by decide +kernel
theorem d_prog_82_method_14_4 : decode prog_82_method_14_code 4 = .ok (.iushr, 1) := by decide +kernel
theorem d_prog_82_method_14_5 : decode prog_82_method_14_code 5 = .ok (.ixor, 1) := by decide +kernel
theorem d_prog_82_method_14_6 : decode prog_82_method_14_code 6 = .ok (.ireturn, 1) := by decide +kernel
theorem ef_rm21_0 (m : MethodId)  : entryFrame m #[(.int (97 : Int32))] 1 = mkF m 0 #[.val (.int (97 : Int32))] [] := by first | (simp [entryFrame, mkF, argsToLocals, Value.category]; done) | rfl
def Q21_0 (Z : State)  (h0 : Heap) (n0 : Nat) (v : Option Value) (h : Heap) (L : List Loc) : Prop := v = some (.int (97 : Int32)) ∧ Fr n0 L ∧ h = h0
set_option maxRecDepth 65536 in
set_option maxHeartbeats 40000000 in
theorem rm21_0 (l : Launch) (Z : State) (a0 : Array Value) (hw : ∀ d ∈ tables_1, d.before a0 Z = true) (ws : List Jvm.Cond)  (h0 : Heap) (n0 : Nat) (Z0 : n0 ≤ h0.size) :
    MetFree l (⟨"com/example/runs_to_scores/runstoscores/scoring/TopicDocnos", "spread", "(I)I"⟩ : MethodName) (head1 (Jvm.Cond.code (⟨"com/example/runs_to_scores/runstoscores/scoring/TopicDocnos", "spread", "(I)I"⟩ : MethodName) prog_82_method_14_code 1 (some .int) :: ws) ({ frames := 0, cells := 0, slots := 0, locals := 0 } : Room)) (fun a U => a = #[(.int (97 : Int32))] ∧ Z.Warmed39 U.vm ∧ U.heap = h0) (fun _ _ _ _ _ => True) (fun _ U o U' => ∃ v L, o = .returned v ∧ Q21_0 Z  h0 n0 v U'.heap L ∧ FrameEnd U o U' L ({ frames := 0, cells := 0, slots := 0, locals := 0 } : Room).cells ({ frames := 0, cells := 0, slots := 0, locals := 0 } : Room).slots) := by
  refine MetFree.of_bodySF (plainFor_of_name pn_1) hisR ?_
  intro p e s m args below meth c s₁ Bd hml0 hP hK
  obtain ⟨rfl, hZ, hh⟩ := hP
  have hx := Bd.exec
  have hby := Bd.bytes
  have hml : c.maxLocals = 1 := hml0
  have hown : s.vm.findClass "com/example/runs_to_scores/runstoscores/scoring/TopicDocnos" = some m.cls := findClass_of_methodNamed Bd.named
  have hnm := (name_of_methodNamed Bd.named Bd.method).1
  have X0 : Stand p l e ({ frames := 0, cells := 0, slots := 0, locals := 0 } : Room) s m #[(.int (97 : Int32))] below meth c s₁ [] 0 0 := Stand.of_body Bd
  have e0 : s₁.heap = h0 := by rw [← hh, Bd.state]; rfl
  have Nf0 := Fr.nil n0
  obtain ⟨Gl, hGl, kn0⟩ : ∃ Gl : State → Prop, (∀ t, Gl t → Steps p.tables e below (s₁.setTop (entryFrame m #[(.int (97 : Int32))] 1)) t) ∧ ∀ t, own_S p e below s₁ (mkF m 0 #[.val (.int (97 : Int32))] []) t → Gl t := ⟨fun t => Steps p.tables e below (s₁.setTop (entryFrame m #[(.int (97 : Int32))] 1)) t, fun _ k => k, fun t k => castTop (ef_rm21_0 m ) k⟩
  have kn1 : ∀ t, own_S p e below s₁ (mkF m 6 #[.val (.int (97 : Int32))] [(.int (97 : Int32))]) t → Gl t := fun t kt => kn0 t (by
    show own_S p e below s₁ (mkF m 0 #[.val (.int (97 : Int32))] []) _
    refine XS.iloadN X0.here hx rfl (hb hby d_prog_82_method_14_0) rfl ?_
    show own_S p e below s₁ (mkF m 1 #[.val (.int (97 : Int32))] [(.int (97 : Int32))]) _
    refine XS.iloadN X0.here hx rfl (hb hby d_prog_82_method_14_1) rfl ?_
    show own_S p e below s₁ (mkF m 2 #[.val (.int (97 : Int32))] [(.int (97 : Int32)), (.int (97 : Int32))]) _
    refine XS.bipush X0.here hx rfl (hb hby d_prog_82_method_14_2) ?_
    show own_S p e below s₁ (mkF m 4 #[.val (.int (97 : Int32))] [(.int (16 : Int32)), (.int (97 : Int32)), (.int (97 : Int32))]) _
    refine XS.iushr X0.here hx rfl (hb hby d_prog_82_method_14_4) rfl ?_
    rw [(by decide : (((97 : Int32).toUInt32 >>> ((16 : Int32) &&& 31).toUInt32).toInt32) = (0 : Int32))]
    show own_S p e below s₁ (mkF m 5 #[.val (.int (97 : Int32))] [(.int (0 : Int32)), (.int (97 : Int32))]) _
    refine XS.ixor X0.here hx rfl (hb hby d_prog_82_method_14_5) rfl ?_
    rw [(by decide : ((97 : Int32) ^^^ (0 : Int32)) = (97 : Int32))]
    exact kt)
  obtain ⟨fs, hr, hrun, hended, hW, hsame⟩ := X0.leave (v := some (.int (97 : Int32))) (fun h => by rw [Bd.returns] at h; cases h)
  refine ⟨_, _, hGl _ (kn1 _ (retI X0 hx Bd.returns (hb hby d_prog_82_method_14_6) hr)), hrun, hended, _, _, rfl, ?_, ⟨_, rfl⟩, hW, hsame.mono (by decide) (by decide)⟩
  show Q21_0 Z  h0 n0 _ s₁.heap _
  rw [e0]
  exact ⟨rfl, Nf0, rfl⟩

theorem d_prog_82_method_11_0 : decode prog_82_method_11_code 0 = .ok (.aload_n 0, 1) := by decide +kernel
theorem d_prog_82_method_11_1 : decode prog_82_method_11_code 1 = .ok (.getfield 42, 3) := by decide +kernel
theorem d_prog_82_method_11_4 : decode prog_82_method_11_code 4 = .ok (.arraylength, 1) := by decide +kernel
theorem d_prog_82_method_11_5 : decode prog_82_method_11_code 5 = .ok (.iconst 1, 1) := by decide +kernel
theorem d_prog_82_method_11_6 : decode prog_82_method_11_code 6 = .ok (.isub, 1) := by decide +kernel
theorem d_prog_82_method_11_7 : decode prog_82_method_11_code 7 = .ok (.istore 5, 2) := by decide +kernel
theorem d_prog_82_method_11_9 : decode prog_82_method_11_code 9 = .ok (.iload 4, 2) := by decide +kernel
theorem d_prog_82_method_11_11 : decode prog_82_method_11_code 11 = .ok (.invokestatic 103, 3) := by decide +kernel
theorem d_prog_82_method_11_14 : decode prog_82_method_11_code 14 = .ok (.iload 5, 2) := by decide +kernel
theorem d_prog_82_method_11_16 : decode prog_82_method_11_code 16 = .ok (.iand, 1) := by decide +kernel
theorem d_prog_82_method_11_17 : decode prog_82_method_11_code 17 = .ok (.istore 6, 2) := by decide +kernel
theorem d_prog_82_method_11_19 : decode prog_82_method_11_code 19 = .ok (.aload_n 0, 1) := by decide +kernel
theorem d_prog_82_method_11_20 : decode prog_82_method_11_code 20 = .ok (.getfield 42, 3) := by decide +kernel
theorem d_prog_82_method_11_23 : decode prog_82_method_11_code 23 = .ok (.iload 6, 2) := by decide +kernel
theorem d_prog_82_method_11_25 : decode prog_82_method_11_code 25 = .ok (.iaload, 1) := by decide +kernel
theorem d_prog_82_method_11_26 : decode prog_82_method_11_code 26 = .ok (.ifCond .eq 67, 3) := by decide +kernel
theorem d_prog_82_method_11_93 : decode prog_82_method_11_code 93 = .ok (.iload 6, 2) := by decide +kernel
theorem d_prog_82_method_11_95 : decode prog_82_method_11_code 95 = .ok (.ireturn, 1) := by decide +kernel
theorem ef_rm20_0 (m : MethodId) (x0 : Addr) (x1 : Addr) : entryFrame m #[(.ref x0), (.ref x1), (.int (0 : Int32)), (.int (1 : Int32)), (.int (97 : Int32))] 8 = mkF m 0 #[.val (.ref x0), .val (.ref x1), .val (.int (0 : Int32)), .val (.int (1 : Int32)), .val (.int (97 : Int32)), .unset, .unset, .unset] [] := by first | (simp [entryFrame, mkF, argsToLocals, Value.category]; done) | rfl
def Q20_0 (Z : State) (a1 : Addr) (bB : Addr) (bS : Addr) (kS : ClassId) (h0 : Heap) (n0 : Nat) (v : Option Value) (h : Heap) (L : List Loc) : Prop := v = some (.int (1 : Int32)) ∧ Fr n0 L ∧ h = h0
set_option maxRecDepth 65536 in
set_option maxHeartbeats 40000000 in
theorem rm20_0 (l : Launch) (Z : State) (a0 : Array Value) (hw : ∀ d ∈ tables_1, d.before a0 Z = true) (ws : List Jvm.Cond) (a1 : Addr) (bB : Addr) (bS : Addr) (kS : ClassId) (h0 : Heap) (n0 : Nat) (Z0 : n0 ≤ h0.size) (F1 : Fld Z h0 a1 "com/example/runs_to_scores/runstoscores/scoring/TopicDocnos" "slots" "[I" (.ref bS)) (A1 : Arv Z h0 bS kS .int (16 : Int32) [(.int (0 : Int32)), (.int (0 : Int32)), (.int (0 : Int32)), (.int (0 : Int32)), (.int (0 : Int32)), (.int (0 : Int32)), (.int (0 : Int32)), (.int (0 : Int32)), (.int (0 : Int32)), (.int (0 : Int32)), (.int (0 : Int32)), (.int (0 : Int32)), (.int (0 : Int32)), (.int (0 : Int32)), (.int (0 : Int32)), (.int (0 : Int32))] (.int (0 : Int32))) :
    MetFree l (⟨"com/example/runs_to_scores/runstoscores/scoring/TopicDocnos", "slotOf", "([BIII)I"⟩ : MethodName) (head1 (Jvm.Cond.code (⟨"com/example/runs_to_scores/runstoscores/scoring/TopicDocnos", "slotOf", "([BIII)I"⟩ : MethodName) prog_82_method_11_code 8 (some .int) :: ws) ({ frames := 1, cells := 0, slots := 0, locals := 12 } : Room)) (fun a U => a = #[(.ref a1), (.ref bB), (.int (0 : Int32)), (.int (1 : Int32)), (.int (97 : Int32))] ∧ Z.Warmed39 U.vm ∧ U.heap = h0) (fun _ _ _ _ _ => True) (fun _ U o U' => ∃ v L, o = .returned v ∧ Q20_0 Z a1 bB bS kS h0 n0 v U'.heap L ∧ FrameEnd U o U' L ({ frames := 1, cells := 0, slots := 0, locals := 12 } : Room).cells ({ frames := 1, cells := 0, slots := 0, locals := 12 } : Room).slots) := by
  refine MetFree.of_bodySF (plainFor_of_name pn_1) hisR ?_
  intro p e s m args below meth c s₁ Bd hml0 hP hK
  obtain ⟨rfl, hZ, hh⟩ := hP
  have hx := Bd.exec
  have hby := Bd.bytes
  have hml : c.maxLocals = 8 := hml0
  have hown : s.vm.findClass "com/example/runs_to_scores/runstoscores/scoring/TopicDocnos" = some m.cls := findClass_of_methodNamed Bd.named
  have hnm := (name_of_methodNamed Bd.named Bd.method).1
  have X0 : Stand p l e ({ frames := 1, cells := 0, slots := 0, locals := 12 } : Room) s m #[(.ref a1), (.ref bB), (.int (0 : Int32)), (.int (1 : Int32)), (.int (97 : Int32))] below meth c s₁ [] 0 0 := Stand.of_body Bd
  have e0 : s₁.heap = h0 := by rw [← hh, Bd.state]; rfl
  have Nf0 := Fr.nil n0
  obtain ⟨Gl, hGl, kn0⟩ : ∃ Gl : State → Prop, (∀ t, Gl t → Steps p.tables e below (s₁.setTop (entryFrame m #[(.ref a1), (.ref bB), (.int (0 : Int32)), (.int (1 : Int32)), (.int (97 : Int32))] 8)) t) ∧ ∀ t, own_S p e below s₁ (mkF m 0 #[.val (.ref a1), .val (.ref bB), .val (.int (0 : Int32)), .val (.int (1 : Int32)), .val (.int (97 : Int32)), .unset, .unset, .unset] []) t → Gl t := ⟨fun t => Steps p.tables e below (s₁.setTop (entryFrame m #[(.ref a1), (.ref bB), (.int (0 : Int32)), (.int (1 : Int32)), (.int (97 : Int32))] 8)) t, fun _ k => k, fun t k => castTop (ef_rm20_0 m a1 bB) k⟩
  have kn1 : ∀ t, own_S p e below s₁ (mkF m 1 #[.val (.ref a1), .val (.ref bB), .val (.int (0 : Int32)), .val (.int (1 : Int32)), .val (.int (97 : Int32)), .unset, .unset, .unset] [(.ref a1)]) t → Gl t := fun t kt => kn0 t (by
    show own_S p e below s₁ (mkF m 0 #[.val (.ref a1), .val (.ref bB), .val (.int (0 : Int32)), .val (.int (1 : Int32)), .val (.int (97 : Int32)), .unset, .unset, .unset] []) _
    refine XS.aloadN X0.here hx rfl (hb hby d_prog_82_method_11_0) rfl rfl ?_
    exact kt)
  obtain ⟨T2, X2, e2, st2⟩ := getF X0 hx hZ hown (host := "") (Or.inl (hw _ (List.mem_of_getElem? (i := 40) rfl))) Via.refl e0 F1 (g := (mkF m 1 #[.val (.ref a1), .val (.ref bB), .val (.int (0 : Int32)), .val (.int (1 : Int32)), .val (.int (97 : Int32)), .unset, .unset, .unset] [(.ref a1)])) rfl rfl (hb hby d_prog_82_method_11_1)
  have kn3 : ∀ t, own_S p e below T2 (mkF m 4 #[.val (.ref a1), .val (.ref bB), .val (.int (0 : Int32)), .val (.int (1 : Int32)), .val (.int (97 : Int32)), .unset, .unset, .unset] [(.ref bS)]) t → Gl t := fun t kt => kn1 t (st2 _ kt)
  obtain ⟨cl4, Ar4, -, Sz4, Ng4, -, -⟩ := id A1
  have kn5 : ∀ t, own_S p e below T2 (mkF m 11 #[.val (.ref a1), .val (.ref bB), .val (.int (0 : Int32)), .val (.int (1 : Int32)), .val (.int (97 : Int32)), .val (.int (15 : Int32)), .unset, .unset] [(.int (97 : Int32))]) t → Gl t := fun t kt => kn3 t (by
    show own_S p e below T2 (mkF m 4 #[.val (.ref a1), .val (.ref bB), .val (.int (0 : Int32)), .val (.int (1 : Int32)), .val (.int (97 : Int32)), .unset, .unset, .unset] [(.ref bS)]) _
    refine X2.arraylength hx (by rw [e2]; exact Ar4.1) (State.isArrayOf_alike hZ.alike Ar4.2.1) (g := (mkF m 4 #[.val (.ref a1), .val (.ref bB), .val (.int (0 : Int32)), .val (.int (1 : Int32)), .val (.int (97 : Int32)), .unset, .unset, .unset] [(.ref bS)])) rfl rfl (hb hby d_prog_82_method_11_4) _ ?_
    rw [len_of Sz4 Ng4]
    show own_S p e below T2 (mkF m 5 #[.val (.ref a1), .val (.ref bB), .val (.int (0 : Int32)), .val (.int (1 : Int32)), .val (.int (97 : Int32)), .unset, .unset, .unset] [(.int (16 : Int32))]) _
    refine XS.iconst X2.here hx rfl (hb hby d_prog_82_method_11_5) ?_
    show own_S p e below T2 (mkF m 6 #[.val (.ref a1), .val (.ref bB), .val (.int (0 : Int32)), .val (.int (1 : Int32)), .val (.int (97 : Int32)), .unset, .unset, .unset] [(.int (1 : Int32)), (.int (16 : Int32))]) _
    refine XS.isub X2.here hx rfl (hb hby d_prog_82_method_11_6) rfl ?_
    rw [(by decide : ((16 : Int32) - (1 : Int32)) = (15 : Int32))]
    show own_S p e below T2 (mkF m 7 #[.val (.ref a1), .val (.ref bB), .val (.int (0 : Int32)), .val (.int (1 : Int32)), .val (.int (97 : Int32)), .unset, .unset, .unset] [(.int (15 : Int32))]) _
    refine XS.istore X2.here hx rfl (hb hby d_prog_82_method_11_7) rfl (l' := #[.val (.ref a1), .val (.ref bB), .val (.int (0 : Int32)), .val (.int (1 : Int32)), .val (.int (97 : Int32)), .val (.int (15 : Int32)), .unset, .unset]) rfl ?_
    show own_S p e below T2 (mkF m 9 #[.val (.ref a1), .val (.ref bB), .val (.int (0 : Int32)), .val (.int (1 : Int32)), .val (.int (97 : Int32)), .val (.int (15 : Int32)), .unset, .unset] []) _
    refine XS.iload X2.here hx rfl (hb hby d_prog_82_method_11_9) rfl ?_
    exact kt)
  obtain ⟨_, _, ⟨T6, L6, cc6, ss6⟩, -, X6, ⟨Lc6, hQ6, l6, y6, z6⟩, st6⟩ := Jvm.LawKit.callS X2 hx (y := (⟨"com/example/runs_to_scores/runstoscores/scoring/TopicDocnos", "spread", "(I)I"⟩ : MethodName)) hown (mvT hZ (hw _ (List.mem_of_getElem? (i := 123) rfl))) (mvT hZ (hw _ (List.mem_of_getElem? (i := 124) rfl))) (mvT hZ (hw _ (List.mem_of_getElem? (i := 11) rfl))) (mvT hZ (hw _ (List.mem_of_getElem? (i := 125) rfl))) (by decide) (backOf (W := 0) (rm21_0 l Z a0 hw []   h0 n0 Z0 ) hZ (hw _ (List.mem_of_getElem? (i := 125) rfl)) (hw _ (List.mem_of_getElem? (i := 11) rfl)) (by decide) (by decide)) (g := (mkF m 11 #[.val (.ref a1), .val (.ref bB), .val (.int (0 : Int32)), .val (.int (1 : Int32)), .val (.int (97 : Int32)), .val (.int (15 : Int32)), .unset, .unset] [(.int (97 : Int32))])) rfl (by rw [hml]; rfl) (argsL := [(.int (97 : Int32))]) (rest := []) (lenOf pd_0 rfl) rfl (by show 2 * 0 + _ ≤ _; exact Nat.le_of_eq rfl) (hb hby d_prog_82_method_11_11) (fun _ _ => ⟨rfl, e2, (by decide : 0 + 0 ≤ _), (by decide : 0 + 0 ≤ _)⟩)
  dsimp only [Pt.U, Pt.locs, Pt.cells, Pt.slots] at X6 l6 y6 z6 st6 hQ6
  subst l6 y6 z6
  obtain ⟨rfl, Nq6, eq6⟩ := hQ6
  have Nf6 := Fr.app Nf0 Nq6
  have kn7 : ∀ t, own_S p e below T6 (mkF m 14 #[.val (.ref a1), .val (.ref bB), .val (.int (0 : Int32)), .val (.int (1 : Int32)), .val (.int (97 : Int32)), .val (.int (15 : Int32)), .unset, .unset] [(.int (97 : Int32))]) t → Gl t := fun t kt => kn5 t (st6 _ kt)
  have kn8 : ∀ t, own_S p e below T6 (mkF m 20 #[.val (.ref a1), .val (.ref bB), .val (.int (0 : Int32)), .val (.int (1 : Int32)), .val (.int (97 : Int32)), .val (.int (15 : Int32)), .val (.int (1 : Int32)), .unset] [(.ref a1)]) t → Gl t := fun t kt => kn7 t (by
    show own_S p e below T6 (mkF m 14 #[.val (.ref a1), .val (.ref bB), .val (.int (0 : Int32)), .val (.int (1 : Int32)), .val (.int (97 : Int32)), .val (.int (15 : Int32)), .unset, .unset] [(.int (97 : Int32))]) _
    refine XS.iload X6.here hx rfl (hb hby d_prog_82_method_11_14) rfl ?_
    show own_S p e below T6 (mkF m 16 #[.val (.ref a1), .val (.ref bB), .val (.int (0 : Int32)), .val (.int (1 : Int32)), .val (.int (97 : Int32)), .val (.int (15 : Int32)), .unset, .unset] [(.int (15 : Int32)), (.int (97 : Int32))]) _
    refine XS.iand X6.here hx rfl (hb hby d_prog_82_method_11_16) rfl ?_
    rw [(by decide : ((97 : Int32) &&& (15 : Int32)) = (1 : Int32))]
    show own_S p e below T6 (mkF m 17 #[.val (.ref a1), .val (.ref bB), .val (.int (0 : Int32)), .val (.int (1 : Int32)), .val (.int (97 : Int32)), .val (.int (15 : Int32)), .unset, .unset] [(.int (1 : Int32))]) _
    refine XS.istore X6.here hx rfl (hb hby d_prog_82_method_11_17) rfl (l' := #[.val (.ref a1), .val (.ref bB), .val (.int (0 : Int32)), .val (.int (1 : Int32)), .val (.int (97 : Int32)), .val (.int (15 : Int32)), .val (.int (1 : Int32)), .unset]) rfl ?_
    show own_S p e below T6 (mkF m 19 #[.val (.ref a1), .val (.ref bB), .val (.int (0 : Int32)), .val (.int (1 : Int32)), .val (.int (97 : Int32)), .val (.int (15 : Int32)), .val (.int (1 : Int32)), .unset] []) _
    refine XS.aloadN X6.here hx rfl (hb hby d_prog_82_method_11_19) rfl rfl ?_
    exact kt)
  obtain ⟨T9, X9, e9, st9⟩ := getF X6 hx hZ hown (host := "") (Or.inl (hw _ (List.mem_of_getElem? (i := 40) rfl))) Via.refl eq6 F1 (g := (mkF m 20 #[.val (.ref a1), .val (.ref bB), .val (.int (0 : Int32)), .val (.int (1 : Int32)), .val (.int (97 : Int32)), .val (.int (15 : Int32)), .val (.int (1 : Int32)), .unset] [(.ref a1)])) rfl rfl (hb hby d_prog_82_method_11_20)
  have kn10 : ∀ t, own_S p e below T9 (mkF m 23 #[.val (.ref a1), .val (.ref bB), .val (.int (0 : Int32)), .val (.int (1 : Int32)), .val (.int (97 : Int32)), .val (.int (15 : Int32)), .val (.int (1 : Int32)), .unset] [(.ref bS)]) t → Gl t := fun t kt => kn8 t (st9 _ kt)
  have kn11 : ∀ t, own_S p e below T9 (mkF m 25 #[.val (.ref a1), .val (.ref bB), .val (.int (0 : Int32)), .val (.int (1 : Int32)), .val (.int (97 : Int32)), .val (.int (15 : Int32)), .val (.int (1 : Int32)), .unset] [(.int (1 : Int32)), (.ref bS)]) t → Gl t := fun t kt => kn10 t (by
    show own_S p e below T9 (mkF m 23 #[.val (.ref a1), .val (.ref bB), .val (.int (0 : Int32)), .val (.int (1 : Int32)), .val (.int (97 : Int32)), .val (.int (15 : Int32)), .val (.int (1 : Int32)), .unset] [(.ref bS)]) _
    refine XS.iload X9.here hx rfl (hb hby d_prog_82_method_11_23) rfl ?_
    exact kt)
  obtain ⟨cl12, Ar12, q12, Sz12, Ng12, Hs12, Gs12⟩ := id A1
  have hin12 : ¬ ((1 : Int32) < 0 ∨ cl12.slots.size ≤ ((1 : Int32)).toNatClampNeg) := inb_of Sz12 ⟨by decide, by decide⟩
  have hat12 : cl12.slots[((1 : Int32)).toNatClampNeg]? = some (.int (0 : Int32)) := Hs12.at hin12 rfl
  have kn13 : ∀ t, own_S p e below T9 (mkF m 95 #[.val (.ref a1), .val (.ref bB), .val (.int (0 : Int32)), .val (.int (1 : Int32)), .val (.int (97 : Int32)), .val (.int (15 : Int32)), .val (.int (1 : Int32)), .unset] [(.int (1 : Int32))]) t → Gl t := fun t kt => kn11 t (by
    show own_S p e below T9 (mkF m 25 #[.val (.ref a1), .val (.ref bB), .val (.int (0 : Int32)), .val (.int (1 : Int32)), .val (.int (97 : Int32)), .val (.int (15 : Int32)), .val (.int (1 : Int32)), .unset] [(.int (1 : Int32)), (.ref bS)]) _
    refine X9.iaload hx (j := (1 : Int32)) (v := (.int (0 : Int32))) (by rw [e9]; exact Ar12.1) (State.isArrayOf_alike hZ.alike Ar12.2.1) Ar12.2.2 hin12 hat12 (g := (mkF m 25 #[.val (.ref a1), .val (.ref bB), .val (.int (0 : Int32)), .val (.int (1 : Int32)), .val (.int (97 : Int32)), .val (.int (15 : Int32)), .val (.int (1 : Int32)), .unset] [(.int (1 : Int32)), (.ref bS)])) rfl rfl (hb hby d_prog_82_method_11_25) _ ?_
    show own_S p e below T9 (mkF m 26 #[.val (.ref a1), .val (.ref bB), .val (.int (0 : Int32)), .val (.int (1 : Int32)), .val (.int (97 : Int32)), .val (.int (15 : Int32)), .val (.int (1 : Int32)), .unset] [(.int (0 : Int32))]) _
    refine XS.ifYes X9.here hx rfl (pc0 := 26) (pc' := 93) rfl (hb hby d_prog_82_method_11_26) rfl ((if0 _ _).trans (teq (by decide : (0 : Int32) = (0 : Int32))).1) (by decide) (by decide) ?_
    show own_S p e below T9 (mkF m 93 #[.val (.ref a1), .val (.ref bB), .val (.int (0 : Int32)), .val (.int (1 : Int32)), .val (.int (97 : Int32)), .val (.int (15 : Int32)), .val (.int (1 : Int32)), .unset] []) _
    refine XS.iload X9.here hx rfl (hb hby d_prog_82_method_11_93) rfl ?_
    exact kt)
  obtain ⟨fs, hr, hrun, hended, hW, hsame⟩ := X9.leave (v := some (.int (1 : Int32))) (fun h => by rw [Bd.returns] at h; cases h)
  refine ⟨_, _, hGl _ (kn13 _ (retI X9 hx Bd.returns (hb hby d_prog_82_method_11_95) hr)), hrun, hended, _, _, rfl, ?_, ⟨_, rfl⟩, hW, hsame.mono (by decide) (by decide)⟩
  show Q20_0 Z a1 bB bS kS h0 n0 _ T9.heap _
  rw [e9]
  exact ⟨rfl, Nf6, rfl⟩

theorem ef_rm13_1 (m : MethodId) (x0 : Addr) (x1 : Addr) : entryFrame m #[(.ref x0), (.ref x1), (.int (1 : Int32))] 5 = mkF m 0 #[.val (.ref x0), .val (.ref x1), .val (.int (1 : Int32)), .unset, .unset] [] := by first | (simp [entryFrame, mkF, argsToLocals, Value.category]; done) | rfl
def Q13_1 (Z : State) (x1 : Addr) (bB : Addr) (kB : ClassId) (t1 : Addr) (k1 : ClassId) (G1 : Int32) (G3 : Value) (h0 : Heap) (n0 : Nat) (v : Option Value) (h : Heap) (L : List Loc) : Prop := v = some (.int (1 : Int32)) ∧ Fr n0 L ∧ Keep h0 h [bB] ∧ Arv Z h bB kB .byte (64 : Int32) ((.int (97 : Int32)) :: (.int (98 : Int32)) :: (.int (0 : Int32)) :: (.int (0 : Int32)) :: (.int (0 : Int32)) :: (.int (0 : Int32)) :: (.int (0 : Int32)) :: (.int (0 : Int32)) :: (.int (0 : Int32)) :: (.int (0 : Int32)) :: (.int (0 : Int32)) :: (.int (0 : Int32)) :: (.int (0 : Int32)) :: (.int (0 : Int32)) :: (.int (0 : Int32)) :: (.int (0 : Int32)) :: (.int (0 : Int32)) :: (.int (0 : Int32)) :: (.int (0 : Int32)) :: (.int (0 : Int32)) :: (.int (0 : Int32)) :: (.int (0 : Int32)) :: (.int (0 : Int32)) :: (.int (0 : Int32)) :: (.int (0 : Int32)) :: (.int (0 : Int32)) :: (.int (0 : Int32)) :: (.int (0 : Int32)) :: (.int (0 : Int32)) :: (.int (0 : Int32)) :: (.int (0 : Int32)) :: (.int (0 : Int32)) :: (.int (0 : Int32)) :: (.int (0 : Int32)) :: (.int (0 : Int32)) :: (.int (0 : Int32)) :: (.int (0 : Int32)) :: (.int (0 : Int32)) :: (.int (0 : Int32)) :: (.int (0 : Int32)) :: (.int (0 : Int32)) :: (.int (0 : Int32)) :: (.int (0 : Int32)) :: (.int (0 : Int32)) :: (.int (0 : Int32)) :: (.int (0 : Int32)) :: (.int (0 : Int32)) :: (.int (0 : Int32)) :: (.int (0 : Int32)) :: (.int (0 : Int32)) :: (.int (0 : Int32)) :: (.int (0 : Int32)) :: (.int (0 : Int32)) :: (.int (0 : Int32)) :: (.int (0 : Int32)) :: (.int (0 : Int32)) :: (.int (0 : Int32)) :: (.int (0 : Int32)) :: (.int (0 : Int32)) :: (.int (0 : Int32)) :: (.int (0 : Int32)) :: (.int (0 : Int32)) :: (.int (0 : Int32)) :: (.int (0 : Int32)) :: []) (.int (0 : Int32))
set_option maxRecDepth 65536 in
set_option maxHeartbeats 40000000 in
theorem rm13_1 (l : Launch) (Z : State) (a0 : Array Value) (hw : ∀ d ∈ tables_1, d.before a0 Z = true) (ws : List Jvm.Cond) (x1 : Addr) (bB : Addr) (kB : ClassId) (t1 : Addr) (k1 : ClassId) (G1 : Int32) (G3 : Value) (h0 : Heap) (n0 : Nat) (Z0 : n0 ≤ h0.size) (E_x1 : Exa Z h0 x1 "java/lang/String") (V_x1 : Fld Z h0 x1 "java/lang/String" "value" "[B" (.ref t1)) (C_x1 : Fld Z h0 x1 "java/lang/String" "coder" "B" (.int (0 : Int32))) (K_x1 : Arv Z h0 t1 k1 .byte (1 : Int32) ((([(98 : Int32)] : List Int32).map (fun c => c.toInt8.toInt32)).map Value.int) (.int (0 : Int32))) (hp_x1 : ∀ c ∈ ([(98 : Int32)] : List Int32), ¬ c < 0 ∧ ¬ (255 : Int32) < c) (A1 : Arv Z h0 bB kB .byte (64 : Int32) ((.int (97 : Int32)) :: (.int (0 : Int32)) :: (.int (0 : Int32)) :: (.int (0 : Int32)) :: (.int (0 : Int32)) :: (.int (0 : Int32)) :: (.int (0 : Int32)) :: (.int (0 : Int32)) :: (.int (0 : Int32)) :: (.int (0 : Int32)) :: (.int (0 : Int32)) :: (.int (0 : Int32)) :: (.int (0 : Int32)) :: (.int (0 : Int32)) :: (.int (0 : Int32)) :: (.int (0 : Int32)) :: (.int (0 : Int32)) :: (.int (0 : Int32)) :: (.int (0 : Int32)) :: (.int (0 : Int32)) :: (.int (0 : Int32)) :: (.int (0 : Int32)) :: (.int (0 : Int32)) :: (.int (0 : Int32)) :: (.int (0 : Int32)) :: (.int (0 : Int32)) :: (.int (0 : Int32)) :: (.int (0 : Int32)) :: (.int (0 : Int32)) :: (.int (0 : Int32)) :: (.int (0 : Int32)) :: (.int (0 : Int32)) :: (.int (0 : Int32)) :: (.int (0 : Int32)) :: (.int (0 : Int32)) :: (.int (0 : Int32)) :: (.int (0 : Int32)) :: (.int (0 : Int32)) :: (.int (0 : Int32)) :: (.int (0 : Int32)) :: (.int (0 : Int32)) :: (.int (0 : Int32)) :: (.int (0 : Int32)) :: (.int (0 : Int32)) :: (.int (0 : Int32)) :: (.int (0 : Int32)) :: (.int (0 : Int32)) :: (.int (0 : Int32)) :: (.int (0 : Int32)) :: (.int (0 : Int32)) :: (.int (0 : Int32)) :: (.int (0 : Int32)) :: (.int (0 : Int32)) :: (.int (0 : Int32)) :: (.int (0 : Int32)) :: (.int (0 : Int32)) :: (.int (0 : Int32)) :: (.int (0 : Int32)) :: (.int (0 : Int32)) :: (.int (0 : Int32)) :: (.int (0 : Int32)) :: (.int (0 : Int32)) :: (.int (0 : Int32)) :: (.int (0 : Int32)) :: []) (.int (0 : Int32))) (g_bB : n0 ≤ bB) (nx : x1 ≠ bB) (nt : t1 ≠ bB) (O0 : Old Z n0 h0) (O2 : Sta Z Z.heap "java/lang/String" "COMPACT_STRINGS" "Z" (.int G1)) (P5 : ¬ (G1 = (0 : Int32))) (O4 : Sta Z Z.heap "jdk/internal/util/Preconditions" "SIOOBE_FORMATTER" "Ljava/util/function/BiFunction;" G3) (rG3 : G3.isRef = true) :
    MetFree l (⟨"com/example/runs_to_scores/runstoscores/scoring/TopicDocnos", "write", "(Ljava/lang/CharSequence;[BI)Z"⟩ : MethodName) (head1 (Jvm.Cond.code (⟨"com/example/runs_to_scores/runstoscores/scoring/TopicDocnos", "write", "(Ljava/lang/CharSequence;[BI)Z"⟩ : MethodName) prog_82_method_12_code 5 (some .boolean) :: ws) ({ frames := 4, cells := 0, slots := 0, locals := 53 } : Room)) (fun a U => a = #[(.ref x1), (.ref bB), (.int (1 : Int32))] ∧ Z.Warmed39 U.vm ∧ U.heap = h0) (fun _ _ _ _ _ => True) (fun _ U o U' => ∃ v L, o = .returned v ∧ Q13_1 Z x1 bB kB t1 k1 G1 G3 h0 n0 v U'.heap L ∧ FrameEnd U o U' L ({ frames := 4, cells := 0, slots := 0, locals := 53 } : Room).cells ({ frames := 4, cells := 0, slots := 0, locals := 53 } : Room).slots) := by
  refine MetFree.of_bodySF (plainFor_of_name pn_1) hisR ?_
  intro p e s m args below meth c s₁ Bd hml0 hP hK
  obtain ⟨rfl, hZ, hh⟩ := hP
  have hx := Bd.exec
  have hby := Bd.bytes
  have hml : c.maxLocals = 5 := hml0
  have hown : s.vm.findClass "com/example/runs_to_scores/runstoscores/scoring/TopicDocnos" = some m.cls := findClass_of_methodNamed Bd.named
  have hnm := (name_of_methodNamed Bd.named Bd.method).1
  have X0 : Stand p l e ({ frames := 4, cells := 0, slots := 0, locals := 53 } : Room) s m #[(.ref x1), (.ref bB), (.int (1 : Int32))] below meth c s₁ [] 0 0 := Stand.of_body Bd
  have e0 : s₁.heap = h0 := by rw [← hh, Bd.state]; rfl
  have Nf0 := Fr.nil n0
  obtain ⟨Gl, hGl, kn0⟩ : ∃ Gl : State → Prop, (∀ t, Gl t → Steps p.tables e below (s₁.setTop (entryFrame m #[(.ref x1), (.ref bB), (.int (1 : Int32))] 5)) t) ∧ ∀ t, own_S p e below s₁ (mkF m 0 #[.val (.ref x1), .val (.ref bB), .val (.int (1 : Int32)), .unset, .unset] []) t → Gl t := ⟨fun t => Steps p.tables e below (s₁.setTop (entryFrame m #[(.ref x1), (.ref bB), (.int (1 : Int32))] 5)) t, fun _ k => k, fun t k => castTop (ef_rm13_1 m x1 bB) k⟩
  have kn1 : ∀ t, own_S p e below s₁ (mkF m 4 #[.val (.ref x1), .val (.ref bB), .val (.int (1 : Int32)), .val (.int (0 : Int32)), .unset] [(.ref x1), (.int (0 : Int32))]) t → Gl t := fun t kt => kn0 t (by
    show own_S p e below s₁ (mkF m 0 #[.val (.ref x1), .val (.ref bB), .val (.int (1 : Int32)), .unset, .unset] []) _
    refine XS.iconst X0.here hx rfl (hb hby d_prog_82_method_12_0) ?_
    show own_S p e below s₁ (mkF m 1 #[.val (.ref x1), .val (.ref bB), .val (.int (1 : Int32)), .unset, .unset] [(.int (0 : Int32))]) _
    refine XS.istoreN X0.here hx rfl (hb hby d_prog_82_method_12_1) rfl (l' := #[.val (.ref x1), .val (.ref bB), .val (.int (1 : Int32)), .val (.int (0 : Int32)), .unset]) rfl ?_
    show own_S p e below s₁ (mkF m 2 #[.val (.ref x1), .val (.ref bB), .val (.int (1 : Int32)), .val (.int (0 : Int32)), .unset] []) _
    refine XS.iloadN X0.here hx rfl (hb hby d_prog_82_method_12_2) rfl ?_
    show own_S p e below s₁ (mkF m 3 #[.val (.ref x1), .val (.ref bB), .val (.int (1 : Int32)), .val (.int (0 : Int32)), .unset] [(.int (0 : Int32))]) _
    refine XS.aloadN X0.here hx rfl (hb hby d_prog_82_method_12_3) rfl rfl ?_
    exact kt)
  have hln : ∀ d ∈ StrChars.Road.wordsLen, d.before a0 Z = true := fun d hd => hw d ((by decide +kernel : ∀ d ∈ StrChars.Road.wordsLen, d ∈ tables_1) d hd)
  have hcd_x1 : StrChars.Road.CodA ([(98 : Int32)] : List Int32) 0 (1 : Int32) ((([(98 : Int32)] : List Int32).map (fun c => c.toInt8.toInt32)).map Value.int) := StrChars.Road.codOf (n := 1) rfl (fun x hx => (hp_x1 x hx).2)
  have hbd_x1 : ∀ x ∈ ([(98 : Int32)] : List Int32), ¬ x < 0 ∧ ¬ (65535 : Int32) < x := own_up _ hp_x1
  obtain ⟨cq2, kq2, qa2, qb2, qc2⟩ := isOf hZ e0 E_x1
  obtain ⟨_, _, ⟨T2, L2, cc2, ss2⟩, -, X2, ⟨Lc2, hQ2, l2, y2, z2⟩, st2⟩ := X0.interfaceBack hx (xi := (⟨"java/lang/CharSequence", "length", "()I"⟩ : MethodName)) (y := (⟨"java/lang/String", "length", "()I"⟩ : MethodName)) hown (mvT hZ (hw _ (List.mem_of_getElem? (i := 71) rfl))) (mvT hZ (hw _ (List.mem_of_getElem? (i := 72) rfl))) (mvT hZ (hw _ (List.mem_of_getElem? (i := 73) rfl))) (mvT hZ (hw _ (List.mem_of_getElem? (i := 74) rfl))) (mvT hZ (hw _ (List.mem_of_getElem? (i := 75) rfl))) (mvT hZ (hw _ (List.mem_of_getElem? (i := 76) rfl))) (mvT hZ (hw _ (List.mem_of_getElem? (i := 77) rfl))) (mvT hZ (hw _ (List.mem_of_getElem? (i := 78) rfl))) (by decide) (StrChars.Road.lenW (W := 1) hZ hln (kI := 4) (hw _ (List.mem_of_getElem? (i := 50) rfl)) E_x1 V_x1 C_x1 K_x1 hcd_x1 hbd_x1 (O2.ext O0.2) P5 (Nat.le_of_ble_eq_true rfl) (by decide) (by decide)) qa2 qb2 qc2 (g := (mkF m 4 #[.val (.ref x1), .val (.ref bB), .val (.int (1 : Int32)), .val (.int (0 : Int32)), .unset] [(.ref x1), (.int (0 : Int32))])) rfl (by rw [hml]; rfl) (Steps.refl _) (argsL := []) (rest := [(.int (0 : Int32))]) (lenOf pd_4 rfl) rfl (by show 2 * 0 + _ ≤ _; exact Nat.le_of_eq rfl) (hb hby d_prog_82_method_12_4) (fun _ _ => ⟨rfl, e0, (by decide : 0 + 0 ≤ _), (by decide : 0 + 0 ≤ _)⟩)
  dsimp only [Pt.U, Pt.locs, Pt.cells, Pt.slots] at X2 l2 y2 z2 st2 hQ2
  subst l2 y2 z2
  obtain ⟨rfl, rfl, eq2⟩ := hQ2
  have Nq2 : Fr n0 ([] : List Loc) := Fr.nil n0
  have Nf2 := Fr.app Nf0 Nq2
  have kn3 : ∀ t, own_S p e below T2 (mkF m 9 #[.val (.ref x1), .val (.ref bB), .val (.int (1 : Int32)), .val (.int (0 : Int32)), .unset] [(.int (1 : Int32)), (.int (0 : Int32))]) t → Gl t := fun t kt => kn1 t (st2.trans kt)
  have kn4 : ∀ t, own_S p e below T2 (mkF m 14 #[.val (.ref x1), .val (.ref bB), .val (.int (1 : Int32)), .val (.int (0 : Int32)), .unset] [(.int (0 : Int32)), (.ref x1)]) t → Gl t := fun t kt => kn3 t (by
    show own_S p e below T2 (mkF m 9 #[.val (.ref x1), .val (.ref bB), .val (.int (1 : Int32)), .val (.int (0 : Int32)), .unset] [(.int (1 : Int32)), (.int (0 : Int32))]) _
    refine XS.icmpNo X2.here hx rfl (hb hby d_prog_82_method_12_9) rfl (tlt (by decide : (0 : Int32) < (1 : Int32))).2.1 ?_
    show own_S p e below T2 (mkF m 12 #[.val (.ref x1), .val (.ref bB), .val (.int (1 : Int32)), .val (.int (0 : Int32)), .unset] []) _
    refine XS.aloadN X2.here hx rfl (hb hby d_prog_82_method_12_12) rfl rfl ?_
    show own_S p e below T2 (mkF m 13 #[.val (.ref x1), .val (.ref bB), .val (.int (1 : Int32)), .val (.int (0 : Int32)), .unset] [(.ref x1)]) _
    refine XS.iloadN X2.here hx rfl (hb hby d_prog_82_method_12_13) rfl ?_
    exact kt)
  have hch : ∀ d ∈ StrChars.Road.wordsChN, d.before a0 Z = true := fun d hd => hw d ((by decide +kernel : ∀ d ∈ StrChars.Road.wordsChN, d ∈ tables_1) d hd)
  obtain ⟨cq5, kq5, qa5, qb5, qc5⟩ := isOf hZ eq2 E_x1
  obtain ⟨_, _, ⟨T5, L5, cc5, ss5⟩, -, X5, ⟨Lc5, hQ5, l5, y5, z5⟩, st5⟩ := X2.interfaceBack hx (xi := (⟨"java/lang/CharSequence", "charAt", "(I)C"⟩ : MethodName)) (y := (⟨"java/lang/String", "charAt", "(I)C"⟩ : MethodName)) hown (mvT hZ (hw _ (List.mem_of_getElem? (i := 91) rfl))) (mvT hZ (hw _ (List.mem_of_getElem? (i := 92) rfl))) (mvT hZ (hw _ (List.mem_of_getElem? (i := 93) rfl))) (mvT hZ (hw _ (List.mem_of_getElem? (i := 94) rfl))) (mvT hZ (hw _ (List.mem_of_getElem? (i := 95) rfl))) (mvT hZ (hw _ (List.mem_of_getElem? (i := 96) rfl))) (mvT hZ (hw _ (List.mem_of_getElem? (i := 97) rfl))) (mvT hZ (hw _ (List.mem_of_getElem? (i := 78) rfl))) (by decide) (StrChars.Road.chN (W := 0) hZ hch (kI := 4) (hw _ (List.mem_of_getElem? (i := 50) rfl)) E_x1 V_x1 C_x1 K_x1 hcd_x1 hbd_x1 (O2.ext O0.2) P5 (O4.ext O0.2) rG3 (Nat.le_of_ble_eq_true rfl) (i := 0) (Nat.le_of_ble_eq_true rfl) (j := 0) rfl (by decide) (by decide)) qa5 qb5 qc5 (g := (mkF m 14 #[.val (.ref x1), .val (.ref bB), .val (.int (1 : Int32)), .val (.int (0 : Int32)), .unset] [(.int (0 : Int32)), (.ref x1)])) rfl (by rw [hml]; rfl) (Steps.refl _) (argsL := [(.int (0 : Int32))]) (rest := []) (lenOf pd_5 rfl) rfl (by show 2 * 0 + _ ≤ _; exact Nat.le_of_eq rfl) (hb hby d_prog_82_method_12_14) (fun _ _ => ⟨rfl, eq2, (by decide : 0 + 0 ≤ _), (by decide : 0 + 0 ≤ _)⟩)
  dsimp only [Pt.U, Pt.locs, Pt.cells, Pt.slots] at X5 l5 y5 z5 st5 hQ5
  subst l5 y5 z5
  obtain ⟨rfl, rfl, eq5⟩ := hQ5
  have Nq5 : Fr n0 ([] : List Loc) := Fr.nil n0
  have Nf5 := Fr.app Nf2 Nq5
  have kn6 : ∀ t, own_S p e below T5 (mkF m 19 #[.val (.ref x1), .val (.ref bB), .val (.int (1 : Int32)), .val (.int (0 : Int32)), .unset] [(.int (98 : Int32))]) t → Gl t := fun t kt => kn4 t (st5.trans kt)
  have kn7 : ∀ t, own_S p e below T5 (mkF m 38 #[.val (.ref x1), .val (.ref bB), .val (.int (1 : Int32)), .val (.int (0 : Int32)), .val (.int (98 : Int32))] [(.int (98 : Int32)), (.int (1 : Int32)), (.ref bB)]) t → Gl t := fun t kt => kn6 t (by
    show own_S p e below T5 (mkF m 19 #[.val (.ref x1), .val (.ref bB), .val (.int (1 : Int32)), .val (.int (0 : Int32)), .unset] [(.int (98 : Int32))]) _
    refine XS.istore X5.here hx rfl (hb hby d_prog_82_method_12_19) rfl (l' := #[.val (.ref x1), .val (.ref bB), .val (.int (1 : Int32)), .val (.int (0 : Int32)), .val (.int (98 : Int32))]) rfl ?_
    show own_S p e below T5 (mkF m 21 #[.val (.ref x1), .val (.ref bB), .val (.int (1 : Int32)), .val (.int (0 : Int32)), .val (.int (98 : Int32))] []) _
    refine XS.iload X5.here hx rfl (hb hby d_prog_82_method_12_21) rfl ?_
    show own_S p e below T5 (mkF m 23 #[.val (.ref x1), .val (.ref bB), .val (.int (1 : Int32)), .val (.int (0 : Int32)), .val (.int (98 : Int32))] [(.int (98 : Int32))]) _
    refine XS.sipush X5.here hx rfl (hb hby d_prog_82_method_12_23) ?_
    show own_S p e below T5 (mkF m 26 #[.val (.ref x1), .val (.ref bB), .val (.int (1 : Int32)), .val (.int (0 : Int32)), .val (.int (98 : Int32))] [(.int (255 : Int32)), (.int (98 : Int32))]) _
    refine XS.icmpYes X5.here hx rfl (pc0 := 26) (pc' := 31) rfl (hb hby d_prog_82_method_12_26) rfl (flt (by decide : ¬ ((255 : Int32) < (98 : Int32)))).2.2.2 (by decide) (by decide) ?_
    show own_S p e below T5 (mkF m 31 #[.val (.ref x1), .val (.ref bB), .val (.int (1 : Int32)), .val (.int (0 : Int32)), .val (.int (98 : Int32))] []) _
    refine XS.aloadN X5.here hx rfl (hb hby d_prog_82_method_12_31) rfl rfl ?_
    show own_S p e below T5 (mkF m 32 #[.val (.ref x1), .val (.ref bB), .val (.int (1 : Int32)), .val (.int (0 : Int32)), .val (.int (98 : Int32))] [(.ref bB)]) _
    refine XS.iloadN X5.here hx rfl (hb hby d_prog_82_method_12_32) rfl ?_
    show own_S p e below T5 (mkF m 33 #[.val (.ref x1), .val (.ref bB), .val (.int (1 : Int32)), .val (.int (0 : Int32)), .val (.int (98 : Int32))] [(.int (1 : Int32)), (.ref bB)]) _
    refine XS.iloadN X5.here hx rfl (hb hby d_prog_82_method_12_33) rfl ?_
    show own_S p e below T5 (mkF m 34 #[.val (.ref x1), .val (.ref bB), .val (.int (1 : Int32)), .val (.int (0 : Int32)), .val (.int (98 : Int32))] [(.int (0 : Int32)), (.int (1 : Int32)), (.ref bB)]) _
    refine XS.iadd X5.here hx rfl (hb hby d_prog_82_method_12_34) rfl ?_
    rw [(by decide : ((1 : Int32) + (0 : Int32)) = (1 : Int32))]
    show own_S p e below T5 (mkF m 35 #[.val (.ref x1), .val (.ref bB), .val (.int (1 : Int32)), .val (.int (0 : Int32)), .val (.int (98 : Int32))] [(.int (1 : Int32)), (.ref bB)]) _
    refine XS.iload X5.here hx rfl (hb hby d_prog_82_method_12_35) rfl ?_
    show own_S p e below T5 (mkF m 37 #[.val (.ref x1), .val (.ref bB), .val (.int (1 : Int32)), .val (.int (0 : Int32)), .val (.int (98 : Int32))] [(.int (98 : Int32)), (.int (1 : Int32)), (.ref bB)]) _
    refine XS.i2b X5.here hx rfl (hb hby d_prog_82_method_12_37) rfl ?_
    rw [(by decide : ((98 : Int32).toInt8.toInt32) = (98 : Int32))]
    exact kt)
  obtain ⟨cl8, Ar8, q8, Sz8, Ng8, Hs8, Gs8⟩ := id A1
  have hin8 : ¬ ((1 : Int32) < 0 ∨ cl8.slots.size ≤ ((1 : Int32)).toNatClampNeg) := inb_of Sz8 ⟨by decide, by decide⟩
  obtain ⟨T8, h8, X8, e8, W8, st8⟩ := stB X5 hx hZ eq5 Ar8 (j := (1 : Int32)) hin8 (g := (mkF m 38 #[.val (.ref x1), .val (.ref bB), .val (.int (1 : Int32)), .val (.int (0 : Int32)), .val (.int (98 : Int32))] [(.int (98 : Int32)), (.int (1 : Int32)), (.ref bB)])) rfl rfl (hb hby d_prog_82_method_12_38)
  have Z9 : n0 ≤ h8.size := Nat.le_trans Z0 (Keep.of_wr W8).1
  have O10 : Old Z n0 h8 := O0.wr W8 g_bB
  have K11 : Keep h0 h8 [bB] := (Keep.refl h0 [bB]).wr W8 (Or.inl (List.mem_of_getElem? (i := 0) rfl))
  have V8 : Arv Z h8 bB kB .byte (64 : Int32) ((.int (97 : Int32)) :: (.int ((98 : Int32).toInt8.toInt32)) :: (.int (0 : Int32)) :: (.int (0 : Int32)) :: (.int (0 : Int32)) :: (.int (0 : Int32)) :: (.int (0 : Int32)) :: (.int (0 : Int32)) :: (.int (0 : Int32)) :: (.int (0 : Int32)) :: (.int (0 : Int32)) :: (.int (0 : Int32)) :: (.int (0 : Int32)) :: (.int (0 : Int32)) :: (.int (0 : Int32)) :: (.int (0 : Int32)) :: (.int (0 : Int32)) :: (.int (0 : Int32)) :: (.int (0 : Int32)) :: (.int (0 : Int32)) :: (.int (0 : Int32)) :: (.int (0 : Int32)) :: (.int (0 : Int32)) :: (.int (0 : Int32)) :: (.int (0 : Int32)) :: (.int (0 : Int32)) :: (.int (0 : Int32)) :: (.int (0 : Int32)) :: (.int (0 : Int32)) :: (.int (0 : Int32)) :: (.int (0 : Int32)) :: (.int (0 : Int32)) :: (.int (0 : Int32)) :: (.int (0 : Int32)) :: (.int (0 : Int32)) :: (.int (0 : Int32)) :: (.int (0 : Int32)) :: (.int (0 : Int32)) :: (.int (0 : Int32)) :: (.int (0 : Int32)) :: (.int (0 : Int32)) :: (.int (0 : Int32)) :: (.int (0 : Int32)) :: (.int (0 : Int32)) :: (.int (0 : Int32)) :: (.int (0 : Int32)) :: (.int (0 : Int32)) :: (.int (0 : Int32)) :: (.int (0 : Int32)) :: (.int (0 : Int32)) :: (.int (0 : Int32)) :: (.int (0 : Int32)) :: (.int (0 : Int32)) :: (.int (0 : Int32)) :: (.int (0 : Int32)) :: (.int (0 : Int32)) :: (.int (0 : Int32)) :: (.int (0 : Int32)) :: (.int (0 : Int32)) :: (.int (0 : Int32)) :: (.int (0 : Int32)) :: (.int (0 : Int32)) :: (.int (0 : Int32)) :: (.int (0 : Int32)) :: []) (.int (0 : Int32)) := Arv.set Ar8 q8 Sz8 Ng8 Hs8 Gs8 (fits_nar_byte _) W8 1 rfl (Nat.le_of_ble_eq_true rfl)
  rw [(show ((98 : Int32).toInt8.toInt32) = (98 : Int32) from by decide)] at V8
  have Nf12 := Fr.snoc X8 Nf5 g_bB
  have kn13 : ∀ t, own_S p e below T8 (mkF m 39 #[.val (.ref x1), .val (.ref bB), .val (.int (1 : Int32)), .val (.int (0 : Int32)), .val (.int (98 : Int32))] []) t → Gl t := fun t kt => kn7 t (st8 _ kt)
  have kn14 : ∀ t, own_S p e below T8 (mkF m 4 #[.val (.ref x1), .val (.ref bB), .val (.int (1 : Int32)), .val (.int (1 : Int32)), .val (.int (98 : Int32))] [(.ref x1), (.int (1 : Int32))]) t → Gl t := fun t kt => kn13 t (by
    show own_S p e below T8 (mkF m 39 #[.val (.ref x1), .val (.ref bB), .val (.int (1 : Int32)), .val (.int (0 : Int32)), .val (.int (98 : Int32))] []) _
    refine XS.iinc X8.here hx rfl (hb hby d_prog_82_method_12_39) rfl (l' := #[.val (.ref x1), .val (.ref bB), .val (.int (1 : Int32)), .val (.int ((0 : Int32) + (1 : Int32))), .val (.int (98 : Int32))]) rfl ?_
    rw [(by decide : ((0 : Int32) + (1 : Int32)) = (1 : Int32))]
    show own_S p e below T8 (mkF m 42 #[.val (.ref x1), .val (.ref bB), .val (.int (1 : Int32)), .val (.int (1 : Int32)), .val (.int (98 : Int32))] []) _
    refine XS.goto X8.here hx rfl (pc0 := 42) (pc' := 2) rfl (hb hby d_prog_82_method_12_42) (by decide) (by decide) ?_
    show own_S p e below T8 (mkF m 2 #[.val (.ref x1), .val (.ref bB), .val (.int (1 : Int32)), .val (.int (1 : Int32)), .val (.int (98 : Int32))] []) _
    refine XS.iloadN X8.here hx rfl (hb hby d_prog_82_method_12_2) rfl ?_
    show own_S p e below T8 (mkF m 3 #[.val (.ref x1), .val (.ref bB), .val (.int (1 : Int32)), .val (.int (1 : Int32)), .val (.int (98 : Int32))] [(.int (1 : Int32))]) _
    refine XS.aloadN X8.here hx rfl (hb hby d_prog_82_method_12_3) rfl rfl ?_
    exact kt)
  have f16 := (E_x1.wr W8)
  have f17 := (V_x1.other W8 (Or.inl nx))
  have f18 := (C_x1.other W8 (Or.inl nx))
  have f19 := (K_x1.other W8 nt)
  obtain ⟨cq15, kq15, qa15, qb15, qc15⟩ := isOf hZ e8 f16
  obtain ⟨_, _, ⟨T15, L15, cc15, ss15⟩, -, X15, ⟨Lc15, hQ15, l15, y15, z15⟩, st15⟩ := X8.interfaceBack hx (xi := (⟨"java/lang/CharSequence", "length", "()I"⟩ : MethodName)) (y := (⟨"java/lang/String", "length", "()I"⟩ : MethodName)) hown (mvT hZ (hw _ (List.mem_of_getElem? (i := 71) rfl))) (mvT hZ (hw _ (List.mem_of_getElem? (i := 72) rfl))) (mvT hZ (hw _ (List.mem_of_getElem? (i := 73) rfl))) (mvT hZ (hw _ (List.mem_of_getElem? (i := 74) rfl))) (mvT hZ (hw _ (List.mem_of_getElem? (i := 75) rfl))) (mvT hZ (hw _ (List.mem_of_getElem? (i := 76) rfl))) (mvT hZ (hw _ (List.mem_of_getElem? (i := 77) rfl))) (mvT hZ (hw _ (List.mem_of_getElem? (i := 78) rfl))) (by decide) (StrChars.Road.lenW (W := 1) hZ hln (kI := 4) (hw _ (List.mem_of_getElem? (i := 50) rfl)) f16 f17 f18 f19 hcd_x1 hbd_x1 (O2.ext O10.2) P5 (Nat.le_of_ble_eq_true rfl) (by decide) (by decide)) qa15 qb15 qc15 (g := (mkF m 4 #[.val (.ref x1), .val (.ref bB), .val (.int (1 : Int32)), .val (.int (1 : Int32)), .val (.int (98 : Int32))] [(.ref x1), (.int (1 : Int32))])) rfl (by rw [hml]; rfl) (Steps.refl _) (argsL := []) (rest := [(.int (1 : Int32))]) (lenOf pd_4 rfl) rfl (by show 2 * 0 + _ ≤ _; exact Nat.le_of_eq rfl) (hb hby d_prog_82_method_12_4) (fun _ _ => ⟨rfl, e8, (by decide : 0 + 0 ≤ _), (by decide : 0 + 0 ≤ _)⟩)
  dsimp only [Pt.U, Pt.locs, Pt.cells, Pt.slots] at X15 l15 y15 z15 st15 hQ15
  subst l15 y15 z15
  obtain ⟨rfl, rfl, eq15⟩ := hQ15
  have Nq15 : Fr n0 ([] : List Loc) := Fr.nil n0
  have Nf15 := Fr.app Nf12 Nq15
  have kn20 : ∀ t, own_S p e below T15 (mkF m 9 #[.val (.ref x1), .val (.ref bB), .val (.int (1 : Int32)), .val (.int (1 : Int32)), .val (.int (98 : Int32))] [(.int (1 : Int32)), (.int (1 : Int32))]) t → Gl t := fun t kt => kn14 t (st15.trans kt)
  have kn21 : ∀ t, own_S p e below T15 (mkF m 46 #[.val (.ref x1), .val (.ref bB), .val (.int (1 : Int32)), .val (.int (1 : Int32)), .val (.int (98 : Int32))] [(.int (1 : Int32))]) t → Gl t := fun t kt => kn20 t (by
    show own_S p e below T15 (mkF m 9 #[.val (.ref x1), .val (.ref bB), .val (.int (1 : Int32)), .val (.int (1 : Int32)), .val (.int (98 : Int32))] [(.int (1 : Int32)), (.int (1 : Int32))]) _
    refine XS.icmpYes X15.here hx rfl (pc0 := 9) (pc' := 45) rfl (hb hby d_prog_82_method_12_9) rfl (flt (by decide : ¬ ((1 : Int32) < (1 : Int32)))).2.1 (by decide) (by decide) ?_
    show own_S p e below T15 (mkF m 45 #[.val (.ref x1), .val (.ref bB), .val (.int (1 : Int32)), .val (.int (1 : Int32)), .val (.int (98 : Int32))] []) _
    refine XS.iconst X15.here hx rfl (hb hby d_prog_82_method_12_45) ?_
    exact kt)
  obtain ⟨fs, hr, hrun, hended, hW, hsame⟩ := X15.leave (v := some (.int (1 : Int32))) (fun h => by rw [Bd.returns] at h; cases h)
  refine ⟨_, _, hGl _ (kn21 _ (retN X15 hx (t := .boolean) Bd.returns (by simp) (hb hby d_prog_82_method_12_46) hr)), hrun, hended, _, _, rfl, ?_, ⟨_, rfl⟩, hW, hsame.mono (by decide) (by decide)⟩
  show Q13_1 Z x1 bB kB t1 k1 G1 G3 h0 n0 _ T15.heap _
  rw [eq15]
  exact ⟨rfl, Nf15, K11, V8⟩

theorem ef_rm19_1 (m : MethodId) (x0 : Addr) : entryFrame m #[(.ref x0), (.int (1 : Int32)), (.int (2 : Int32))] 5 = mkF m 0 #[.val (.ref x0), .val (.int (1 : Int32)), .val (.int (2 : Int32)), .unset, .unset] [] := by first | (simp [entryFrame, mkF, argsToLocals, Value.category]; done) | rfl
def Q19_1 (Z : State) (bB : Addr) (kB : ClassId) (h0 : Heap) (n0 : Nat) (v : Option Value) (h : Heap) (L : List Loc) : Prop := v = some (.int (98 : Int32)) ∧ Fr n0 L ∧ h = h0
set_option maxRecDepth 65536 in
set_option maxHeartbeats 40000000 in
theorem rm19_1 (l : Launch) (Z : State) (a0 : Array Value) (hw : ∀ d ∈ tables_1, d.before a0 Z = true) (ws : List Jvm.Cond) (bB : Addr) (kB : ClassId) (h0 : Heap) (n0 : Nat) (Z0 : n0 ≤ h0.size) (A1 : Arv Z h0 bB kB .byte (64 : Int32) ((.int (97 : Int32)) :: (.int (98 : Int32)) :: (.int (0 : Int32)) :: (.int (0 : Int32)) :: (.int (0 : Int32)) :: (.int (0 : Int32)) :: (.int (0 : Int32)) :: (.int (0 : Int32)) :: (.int (0 : Int32)) :: (.int (0 : Int32)) :: (.int (0 : Int32)) :: (.int (0 : Int32)) :: (.int (0 : Int32)) :: (.int (0 : Int32)) :: (.int (0 : Int32)) :: (.int (0 : Int32)) :: (.int (0 : Int32)) :: (.int (0 : Int32)) :: (.int (0 : Int32)) :: (.int (0 : Int32)) :: (.int (0 : Int32)) :: (.int (0 : Int32)) :: (.int (0 : Int32)) :: (.int (0 : Int32)) :: (.int (0 : Int32)) :: (.int (0 : Int32)) :: (.int (0 : Int32)) :: (.int (0 : Int32)) :: (.int (0 : Int32)) :: (.int (0 : Int32)) :: (.int (0 : Int32)) :: (.int (0 : Int32)) :: (.int (0 : Int32)) :: (.int (0 : Int32)) :: (.int (0 : Int32)) :: (.int (0 : Int32)) :: (.int (0 : Int32)) :: (.int (0 : Int32)) :: (.int (0 : Int32)) :: (.int (0 : Int32)) :: (.int (0 : Int32)) :: (.int (0 : Int32)) :: (.int (0 : Int32)) :: (.int (0 : Int32)) :: (.int (0 : Int32)) :: (.int (0 : Int32)) :: (.int (0 : Int32)) :: (.int (0 : Int32)) :: (.int (0 : Int32)) :: (.int (0 : Int32)) :: (.int (0 : Int32)) :: (.int (0 : Int32)) :: (.int (0 : Int32)) :: (.int (0 : Int32)) :: (.int (0 : Int32)) :: (.int (0 : Int32)) :: (.int (0 : Int32)) :: (.int (0 : Int32)) :: (.int (0 : Int32)) :: (.int (0 : Int32)) :: (.int (0 : Int32)) :: (.int (0 : Int32)) :: (.int (0 : Int32)) :: (.int (0 : Int32)) :: []) (.int (0 : Int32))) :
    MetFree l (⟨"com/example/runs_to_scores/runstoscores/scoring/TopicDocnos", "hash", "([BII)I"⟩ : MethodName) (head1 (Jvm.Cond.code (⟨"com/example/runs_to_scores/runstoscores/scoring/TopicDocnos", "hash", "([BII)I"⟩ : MethodName) prog_82_method_13_code 5 (some .int) :: ws) ({ frames := 0, cells := 0, slots := 0, locals := 0 } : Room)) (fun a U => a = #[(.ref bB), (.int (1 : Int32)), (.int (2 : Int32))] ∧ Z.Warmed39 U.vm ∧ U.heap = h0) (fun _ _ _ _ _ => True) (fun _ U o U' => ∃ v L, o = .returned v ∧ Q19_1 Z bB kB h0 n0 v U'.heap L ∧ FrameEnd U o U' L ({ frames := 0, cells := 0, slots := 0, locals := 0 } : Room).cells ({ frames := 0, cells := 0, slots := 0, locals := 0 } : Room).slots) := by
  refine MetFree.of_bodySF (plainFor_of_name pn_1) hisR ?_
  intro p e s m args below meth c s₁ Bd hml0 hP hK
  obtain ⟨rfl, hZ, hh⟩ := hP
  have hx := Bd.exec
  have hby := Bd.bytes
  have hml : c.maxLocals = 5 := hml0
  have hown : s.vm.findClass "com/example/runs_to_scores/runstoscores/scoring/TopicDocnos" = some m.cls := findClass_of_methodNamed Bd.named
  have hnm := (name_of_methodNamed Bd.named Bd.method).1
  have X0 : Stand p l e ({ frames := 0, cells := 0, slots := 0, locals := 0 } : Room) s m #[(.ref bB), (.int (1 : Int32)), (.int (2 : Int32))] below meth c s₁ [] 0 0 := Stand.of_body Bd
  have e0 : s₁.heap = h0 := by rw [← hh, Bd.state]; rfl
  have Nf0 := Fr.nil n0
  obtain ⟨Gl, hGl, kn0⟩ : ∃ Gl : State → Prop, (∀ t, Gl t → Steps p.tables e below (s₁.setTop (entryFrame m #[(.ref bB), (.int (1 : Int32)), (.int (2 : Int32))] 5)) t) ∧ ∀ t, own_S p e below s₁ (mkF m 0 #[.val (.ref bB), .val (.int (1 : Int32)), .val (.int (2 : Int32)), .unset, .unset] []) t → Gl t := ⟨fun t => Steps p.tables e below (s₁.setTop (entryFrame m #[(.ref bB), (.int (1 : Int32)), (.int (2 : Int32))] 5)) t, fun _ k => k, fun t k => castTop (ef_rm19_1 m bB) k⟩
  have kn1 : ∀ t, own_S p e below s₁ (mkF m 18 #[.val (.ref bB), .val (.int (1 : Int32)), .val (.int (2 : Int32)), .val (.int (0 : Int32)), .val (.int (1 : Int32))] [(.int (1 : Int32)), (.ref bB), (.int (0 : Int32))]) t → Gl t := fun t kt => kn0 t (by
    show own_S p e below s₁ (mkF m 0 #[.val (.ref bB), .val (.int (1 : Int32)), .val (.int (2 : Int32)), .unset, .unset] []) _
    refine XS.iconst X0.here hx rfl (hb hby d_prog_82_method_13_0) ?_
    show own_S p e below s₁ (mkF m 1 #[.val (.ref bB), .val (.int (1 : Int32)), .val (.int (2 : Int32)), .unset, .unset] [(.int (0 : Int32))]) _
    refine XS.istoreN X0.here hx rfl (hb hby d_prog_82_method_13_1) rfl (l' := #[.val (.ref bB), .val (.int (1 : Int32)), .val (.int (2 : Int32)), .val (.int (0 : Int32)), .unset]) rfl ?_
    show own_S p e below s₁ (mkF m 2 #[.val (.ref bB), .val (.int (1 : Int32)), .val (.int (2 : Int32)), .val (.int (0 : Int32)), .unset] []) _
    refine XS.iloadN X0.here hx rfl (hb hby d_prog_82_method_13_2) rfl ?_
    show own_S p e below s₁ (mkF m 3 #[.val (.ref bB), .val (.int (1 : Int32)), .val (.int (2 : Int32)), .val (.int (0 : Int32)), .unset] [(.int (1 : Int32))]) _
    refine XS.istore X0.here hx rfl (hb hby d_prog_82_method_13_3) rfl (l' := #[.val (.ref bB), .val (.int (1 : Int32)), .val (.int (2 : Int32)), .val (.int (0 : Int32)), .val (.int (1 : Int32))]) rfl ?_
    show own_S p e below s₁ (mkF m 5 #[.val (.ref bB), .val (.int (1 : Int32)), .val (.int (2 : Int32)), .val (.int (0 : Int32)), .val (.int (1 : Int32))] []) _
    refine XS.iload X0.here hx rfl (hb hby d_prog_82_method_13_5) rfl ?_
    show own_S p e below s₁ (mkF m 7 #[.val (.ref bB), .val (.int (1 : Int32)), .val (.int (2 : Int32)), .val (.int (0 : Int32)), .val (.int (1 : Int32))] [(.int (1 : Int32))]) _
    refine XS.iloadN X0.here hx rfl (hb hby d_prog_82_method_13_7) rfl ?_
    show own_S p e below s₁ (mkF m 8 #[.val (.ref bB), .val (.int (1 : Int32)), .val (.int (2 : Int32)), .val (.int (0 : Int32)), .val (.int (1 : Int32))] [(.int (2 : Int32)), (.int (1 : Int32))]) _
    refine XS.icmpNo X0.here hx rfl (hb hby d_prog_82_method_13_8) rfl (tlt (by decide : (1 : Int32) < (2 : Int32))).2.1 ?_
    show own_S p e below s₁ (mkF m 11 #[.val (.ref bB), .val (.int (1 : Int32)), .val (.int (2 : Int32)), .val (.int (0 : Int32)), .val (.int (1 : Int32))] []) _
    refine XS.bipush X0.here hx rfl (hb hby d_prog_82_method_13_11) ?_
    show own_S p e below s₁ (mkF m 13 #[.val (.ref bB), .val (.int (1 : Int32)), .val (.int (2 : Int32)), .val (.int (0 : Int32)), .val (.int (1 : Int32))] [(.int (31 : Int32))]) _
    refine XS.iloadN X0.here hx rfl (hb hby d_prog_82_method_13_13) rfl ?_
    show own_S p e below s₁ (mkF m 14 #[.val (.ref bB), .val (.int (1 : Int32)), .val (.int (2 : Int32)), .val (.int (0 : Int32)), .val (.int (1 : Int32))] [(.int (0 : Int32)), (.int (31 : Int32))]) _
    refine XS.imul X0.here hx rfl (hb hby d_prog_82_method_13_14) rfl ?_
    rw [(by decide : ((31 : Int32) * (0 : Int32)) = (0 : Int32))]
    show own_S p e below s₁ (mkF m 15 #[.val (.ref bB), .val (.int (1 : Int32)), .val (.int (2 : Int32)), .val (.int (0 : Int32)), .val (.int (1 : Int32))] [(.int (0 : Int32))]) _
    refine XS.aloadN X0.here hx rfl (hb hby d_prog_82_method_13_15) rfl rfl ?_
    show own_S p e below s₁ (mkF m 16 #[.val (.ref bB), .val (.int (1 : Int32)), .val (.int (2 : Int32)), .val (.int (0 : Int32)), .val (.int (1 : Int32))] [(.ref bB), (.int (0 : Int32))]) _
    refine XS.iload X0.here hx rfl (hb hby d_prog_82_method_13_16) rfl ?_
    exact kt)
  obtain ⟨cl2, Ar2, q2, Sz2, Ng2, Hs2, Gs2⟩ := id A1
  have hin2 : ¬ ((1 : Int32) < 0 ∨ cl2.slots.size ≤ ((1 : Int32)).toNatClampNeg) := inb_of Sz2 ⟨by decide, by decide⟩
  have hat2 : cl2.slots[((1 : Int32)).toNatClampNeg]? = some (.int (98 : Int32)) := Hs2.at hin2 rfl
  have kn3 : ∀ t, own_S p e below s₁ (mkF m 28 #[.val (.ref bB), .val (.int (1 : Int32)), .val (.int (2 : Int32)), .val (.int (98 : Int32)), .val (.int (2 : Int32))] [(.int (98 : Int32))]) t → Gl t := fun t kt => kn1 t (by
    show own_S p e below s₁ (mkF m 18 #[.val (.ref bB), .val (.int (1 : Int32)), .val (.int (2 : Int32)), .val (.int (0 : Int32)), .val (.int (1 : Int32))] [(.int (1 : Int32)), (.ref bB), (.int (0 : Int32))]) _
    refine X0.baloadBytes hx (j := (1 : Int32)) (v := (.int (98 : Int32))) (by rw [e0]; exact Ar2.1) (State.isArrayOf_alike hZ.alike Ar2.2.1) Ar2.2.2 hin2 hat2 (g := (mkF m 18 #[.val (.ref bB), .val (.int (1 : Int32)), .val (.int (2 : Int32)), .val (.int (0 : Int32)), .val (.int (1 : Int32))] [(.int (1 : Int32)), (.ref bB), (.int (0 : Int32))])) rfl rfl (hb hby d_prog_82_method_13_18) _ ?_
    show own_S p e below s₁ (mkF m 19 #[.val (.ref bB), .val (.int (1 : Int32)), .val (.int (2 : Int32)), .val (.int (0 : Int32)), .val (.int (1 : Int32))] [(.int (98 : Int32)), (.int (0 : Int32))]) _
    refine XS.iadd X0.here hx rfl (hb hby d_prog_82_method_13_19) rfl ?_
    rw [(by decide : ((0 : Int32) + (98 : Int32)) = (98 : Int32))]
    show own_S p e below s₁ (mkF m 20 #[.val (.ref bB), .val (.int (1 : Int32)), .val (.int (2 : Int32)), .val (.int (0 : Int32)), .val (.int (1 : Int32))] [(.int (98 : Int32))]) _
    refine XS.istoreN X0.here hx rfl (hb hby d_prog_82_method_13_20) rfl (l' := #[.val (.ref bB), .val (.int (1 : Int32)), .val (.int (2 : Int32)), .val (.int (98 : Int32)), .val (.int (1 : Int32))]) rfl ?_
    show own_S p e below s₁ (mkF m 21 #[.val (.ref bB), .val (.int (1 : Int32)), .val (.int (2 : Int32)), .val (.int (98 : Int32)), .val (.int (1 : Int32))] []) _
    refine XS.iinc X0.here hx rfl (hb hby d_prog_82_method_13_21) rfl (l' := #[.val (.ref bB), .val (.int (1 : Int32)), .val (.int (2 : Int32)), .val (.int (98 : Int32)), .val (.int ((1 : Int32) + (1 : Int32)))]) rfl ?_
    rw [(by decide : ((1 : Int32) + (1 : Int32)) = (2 : Int32))]
    show own_S p e below s₁ (mkF m 24 #[.val (.ref bB), .val (.int (1 : Int32)), .val (.int (2 : Int32)), .val (.int (98 : Int32)), .val (.int (2 : Int32))] []) _
    refine XS.goto X0.here hx rfl (pc0 := 24) (pc' := 5) rfl (hb hby d_prog_82_method_13_24) (by decide) (by decide) ?_
    show own_S p e below s₁ (mkF m 5 #[.val (.ref bB), .val (.int (1 : Int32)), .val (.int (2 : Int32)), .val (.int (98 : Int32)), .val (.int (2 : Int32))] []) _
    refine XS.iload X0.here hx rfl (hb hby d_prog_82_method_13_5) rfl ?_
    show own_S p e below s₁ (mkF m 7 #[.val (.ref bB), .val (.int (1 : Int32)), .val (.int (2 : Int32)), .val (.int (98 : Int32)), .val (.int (2 : Int32))] [(.int (2 : Int32))]) _
    refine XS.iloadN X0.here hx rfl (hb hby d_prog_82_method_13_7) rfl ?_
    show own_S p e below s₁ (mkF m 8 #[.val (.ref bB), .val (.int (1 : Int32)), .val (.int (2 : Int32)), .val (.int (98 : Int32)), .val (.int (2 : Int32))] [(.int (2 : Int32)), (.int (2 : Int32))]) _
    refine XS.icmpYes X0.here hx rfl (pc0 := 8) (pc' := 27) rfl (hb hby d_prog_82_method_13_8) rfl (flt (by decide : ¬ ((2 : Int32) < (2 : Int32)))).2.1 (by decide) (by decide) ?_
    show own_S p e below s₁ (mkF m 27 #[.val (.ref bB), .val (.int (1 : Int32)), .val (.int (2 : Int32)), .val (.int (98 : Int32)), .val (.int (2 : Int32))] []) _
    refine XS.iloadN X0.here hx rfl (hb hby d_prog_82_method_13_27) rfl ?_
    exact kt)
  obtain ⟨fs, hr, hrun, hended, hW, hsame⟩ := X0.leave (v := some (.int (98 : Int32))) (fun h => by rw [Bd.returns] at h; cases h)
  refine ⟨_, _, hGl _ (kn3 _ (retI X0 hx Bd.returns (hb hby d_prog_82_method_13_28) hr)), hrun, hended, _, _, rfl, ?_, ⟨_, rfl⟩, hW, hsame.mono (by decide) (by decide)⟩
  show Q19_1 Z bB kB h0 n0 _ s₁.heap _
  rw [e0]
  exact ⟨rfl, Nf0, rfl⟩

theorem ef_rm21_1 (m : MethodId)  : entryFrame m #[(.int (98 : Int32))] 1 = mkF m 0 #[.val (.int (98 : Int32))] [] := by first | (simp [entryFrame, mkF, argsToLocals, Value.category]; done) | rfl
def Q21_1 (Z : State)  (h0 : Heap) (n0 : Nat) (v : Option Value) (h : Heap) (L : List Loc) : Prop := v = some (.int (98 : Int32)) ∧ Fr n0 L ∧ h = h0
set_option maxRecDepth 65536 in
set_option maxHeartbeats 40000000 in
theorem rm21_1 (l : Launch) (Z : State) (a0 : Array Value) (hw : ∀ d ∈ tables_1, d.before a0 Z = true) (ws : List Jvm.Cond)  (h0 : Heap) (n0 : Nat) (Z0 : n0 ≤ h0.size) :
    MetFree l (⟨"com/example/runs_to_scores/runstoscores/scoring/TopicDocnos", "spread", "(I)I"⟩ : MethodName) (head1 (Jvm.Cond.code (⟨"com/example/runs_to_scores/runstoscores/scoring/TopicDocnos", "spread", "(I)I"⟩ : MethodName) prog_82_method_14_code 1 (some .int) :: ws) ({ frames := 0, cells := 0, slots := 0, locals := 0 } : Room)) (fun a U => a = #[(.int (98 : Int32))] ∧ Z.Warmed39 U.vm ∧ U.heap = h0) (fun _ _ _ _ _ => True) (fun _ U o U' => ∃ v L, o = .returned v ∧ Q21_1 Z  h0 n0 v U'.heap L ∧ FrameEnd U o U' L ({ frames := 0, cells := 0, slots := 0, locals := 0 } : Room).cells ({ frames := 0, cells := 0, slots := 0, locals := 0 } : Room).slots) := by
  refine MetFree.of_bodySF (plainFor_of_name pn_1) hisR ?_
  intro p e s m args below meth c s₁ Bd hml0 hP hK
  obtain ⟨rfl, hZ, hh⟩ := hP
  have hx := Bd.exec
  have hby := Bd.bytes
  have hml : c.maxLocals = 1 := hml0
  have hown : s.vm.findClass "com/example/runs_to_scores/runstoscores/scoring/TopicDocnos" = some m.cls := findClass_of_methodNamed Bd.named
  have hnm := (name_of_methodNamed Bd.named Bd.method).1
  have X0 : Stand p l e ({ frames := 0, cells := 0, slots := 0, locals := 0 } : Room) s m #[(.int (98 : Int32))] below meth c s₁ [] 0 0 := Stand.of_body Bd
  have e0 : s₁.heap = h0 := by rw [← hh, Bd.state]; rfl
  have Nf0 := Fr.nil n0
  obtain ⟨Gl, hGl, kn0⟩ : ∃ Gl : State → Prop, (∀ t, Gl t → Steps p.tables e below (s₁.setTop (entryFrame m #[(.int (98 : Int32))] 1)) t) ∧ ∀ t, own_S p e below s₁ (mkF m 0 #[.val (.int (98 : Int32))] []) t → Gl t := ⟨fun t => Steps p.tables e below (s₁.setTop (entryFrame m #[(.int (98 : Int32))] 1)) t, fun _ k => k, fun t k => castTop (ef_rm21_1 m ) k⟩
  have kn1 : ∀ t, own_S p e below s₁ (mkF m 6 #[.val (.int (98 : Int32))] [(.int (98 : Int32))]) t → Gl t := fun t kt => kn0 t (by
    show own_S p e below s₁ (mkF m 0 #[.val (.int (98 : Int32))] []) _
    refine XS.iloadN X0.here hx rfl (hb hby d_prog_82_method_14_0) rfl ?_
    show own_S p e below s₁ (mkF m 1 #[.val (.int (98 : Int32))] [(.int (98 : Int32))]) _
    refine XS.iloadN X0.here hx rfl (hb hby d_prog_82_method_14_1) rfl ?_
    show own_S p e below s₁ (mkF m 2 #[.val (.int (98 : Int32))] [(.int (98 : Int32)), (.int (98 : Int32))]) _
    refine XS.bipush X0.here hx rfl (hb hby d_prog_82_method_14_2) ?_
    show own_S p e below s₁ (mkF m 4 #[.val (.int (98 : Int32))] [(.int (16 : Int32)), (.int (98 : Int32)), (.int (98 : Int32))]) _
    refine XS.iushr X0.here hx rfl (hb hby d_prog_82_method_14_4) rfl ?_
    rw [(by decide : (((98 : Int32).toUInt32 >>> ((16 : Int32) &&& 31).toUInt32).toInt32) = (0 : Int32))]
    show own_S p e below s₁ (mkF m 5 #[.val (.int (98 : Int32))] [(.int (0 : Int32)), (.int (98 : Int32))]) _
    refine XS.ixor X0.here hx rfl (hb hby d_prog_82_method_14_5) rfl ?_
    rw [(by decide : ((98 : Int32) ^^^ (0 : Int32)) = (98 : Int32))]
    exact kt)
  obtain ⟨fs, hr, hrun, hended, hW, hsame⟩ := X0.leave (v := some (.int (98 : Int32))) (fun h => by rw [Bd.returns] at h; cases h)
  refine ⟨_, _, hGl _ (kn1 _ (retI X0 hx Bd.returns (hb hby d_prog_82_method_14_6) hr)), hrun, hended, _, _, rfl, ?_, ⟨_, rfl⟩, hW, hsame.mono (by decide) (by decide)⟩
  show Q21_1 Z  h0 n0 _ s₁.heap _
  rw [e0]
  exact ⟨rfl, Nf0, rfl⟩

theorem ef_rm20_1 (m : MethodId) (x0 : Addr) (x1 : Addr) : entryFrame m #[(.ref x0), (.ref x1), (.int (1 : Int32)), (.int (2 : Int32)), (.int (98 : Int32))] 8 = mkF m 0 #[.val (.ref x0), .val (.ref x1), .val (.int (1 : Int32)), .val (.int (2 : Int32)), .val (.int (98 : Int32)), .unset, .unset, .unset] [] := by first | (simp [entryFrame, mkF, argsToLocals, Value.category]; done) | rfl
def Q20_1 (Z : State) (a1 : Addr) (bB : Addr) (bS : Addr) (kS : ClassId) (h0 : Heap) (n0 : Nat) (v : Option Value) (h : Heap) (L : List Loc) : Prop := v = some (.int (2 : Int32)) ∧ Fr n0 L ∧ h = h0
set_option maxRecDepth 65536 in
set_option maxHeartbeats 40000000 in
theorem rm20_1 (l : Launch) (Z : State) (a0 : Array Value) (hw : ∀ d ∈ tables_1, d.before a0 Z = true) (ws : List Jvm.Cond) (a1 : Addr) (bB : Addr) (bS : Addr) (kS : ClassId) (h0 : Heap) (n0 : Nat) (Z0 : n0 ≤ h0.size) (F1 : Fld Z h0 a1 "com/example/runs_to_scores/runstoscores/scoring/TopicDocnos" "slots" "[I" (.ref bS)) (A1 : Arv Z h0 bS kS .int (16 : Int32) [(.int (0 : Int32)), (.int (1 : Int32)), (.int (0 : Int32)), (.int (0 : Int32)), (.int (0 : Int32)), (.int (0 : Int32)), (.int (0 : Int32)), (.int (0 : Int32)), (.int (0 : Int32)), (.int (0 : Int32)), (.int (0 : Int32)), (.int (0 : Int32)), (.int (0 : Int32)), (.int (0 : Int32)), (.int (0 : Int32)), (.int (0 : Int32))] (.int (0 : Int32))) :
    MetFree l (⟨"com/example/runs_to_scores/runstoscores/scoring/TopicDocnos", "slotOf", "([BIII)I"⟩ : MethodName) (head1 (Jvm.Cond.code (⟨"com/example/runs_to_scores/runstoscores/scoring/TopicDocnos", "slotOf", "([BIII)I"⟩ : MethodName) prog_82_method_11_code 8 (some .int) :: ws) ({ frames := 1, cells := 0, slots := 0, locals := 12 } : Room)) (fun a U => a = #[(.ref a1), (.ref bB), (.int (1 : Int32)), (.int (2 : Int32)), (.int (98 : Int32))] ∧ Z.Warmed39 U.vm ∧ U.heap = h0) (fun _ _ _ _ _ => True) (fun _ U o U' => ∃ v L, o = .returned v ∧ Q20_1 Z a1 bB bS kS h0 n0 v U'.heap L ∧ FrameEnd U o U' L ({ frames := 1, cells := 0, slots := 0, locals := 12 } : Room).cells ({ frames := 1, cells := 0, slots := 0, locals := 12 } : Room).slots) := by
  refine MetFree.of_bodySF (plainFor_of_name pn_1) hisR ?_
  intro p e s m args below meth c s₁ Bd hml0 hP hK
  obtain ⟨rfl, hZ, hh⟩ := hP
  have hx := Bd.exec
  have hby := Bd.bytes
  have hml : c.maxLocals = 8 := hml0
  have hown : s.vm.findClass "com/example/runs_to_scores/runstoscores/scoring/TopicDocnos" = some m.cls := findClass_of_methodNamed Bd.named
  have hnm := (name_of_methodNamed Bd.named Bd.method).1
  have X0 : Stand p l e ({ frames := 1, cells := 0, slots := 0, locals := 12 } : Room) s m #[(.ref a1), (.ref bB), (.int (1 : Int32)), (.int (2 : Int32)), (.int (98 : Int32))] below meth c s₁ [] 0 0 := Stand.of_body Bd
  have e0 : s₁.heap = h0 := by rw [← hh, Bd.state]; rfl
  have Nf0 := Fr.nil n0
  obtain ⟨Gl, hGl, kn0⟩ : ∃ Gl : State → Prop, (∀ t, Gl t → Steps p.tables e below (s₁.setTop (entryFrame m #[(.ref a1), (.ref bB), (.int (1 : Int32)), (.int (2 : Int32)), (.int (98 : Int32))] 8)) t) ∧ ∀ t, own_S p e below s₁ (mkF m 0 #[.val (.ref a1), .val (.ref bB), .val (.int (1 : Int32)), .val (.int (2 : Int32)), .val (.int (98 : Int32)), .unset, .unset, .unset] []) t → Gl t := ⟨fun t => Steps p.tables e below (s₁.setTop (entryFrame m #[(.ref a1), (.ref bB), (.int (1 : Int32)), (.int (2 : Int32)), (.int (98 : Int32))] 8)) t, fun _ k => k, fun t k => castTop (ef_rm20_1 m a1 bB) k⟩
  have kn1 : ∀ t, own_S p e below s₁ (mkF m 1 #[.val (.ref a1), .val (.ref bB), .val (.int (1 : Int32)), .val (.int (2 : Int32)), .val (.int (98 : Int32)), .unset, .unset, .unset] [(.ref a1)]) t → Gl t := fun t kt => kn0 t (by
    show own_S p e below s₁ (mkF m 0 #[.val (.ref a1), .val (.ref bB), .val (.int (1 : Int32)), .val (.int (2 : Int32)), .val (.int (98 : Int32)), .unset, .unset, .unset] []) _
    refine XS.aloadN X0.here hx rfl (hb hby d_prog_82_method_11_0) rfl rfl ?_
    exact kt)
  obtain ⟨T2, X2, e2, st2⟩ := getF X0 hx hZ hown (host := "") (Or.inl (hw _ (List.mem_of_getElem? (i := 40) rfl))) Via.refl e0 F1 (g := (mkF m 1 #[.val (.ref a1), .val (.ref bB), .val (.int (1 : Int32)), .val (.int (2 : Int32)), .val (.int (98 : Int32)), .unset, .unset, .unset] [(.ref a1)])) rfl rfl (hb hby d_prog_82_method_11_1)
  have kn3 : ∀ t, own_S p e below T2 (mkF m 4 #[.val (.ref a1), .val (.ref bB), .val (.int (1 : Int32)), .val (.int (2 : Int32)), .val (.int (98 : Int32)), .unset, .unset, .unset] [(.ref bS)]) t → Gl t := fun t kt => kn1 t (st2 _ kt)
  obtain ⟨cl4, Ar4, -, Sz4, Ng4, -, -⟩ := id A1
  have kn5 : ∀ t, own_S p e below T2 (mkF m 11 #[.val (.ref a1), .val (.ref bB), .val (.int (1 : Int32)), .val (.int (2 : Int32)), .val (.int (98 : Int32)), .val (.int (15 : Int32)), .unset, .unset] [(.int (98 : Int32))]) t → Gl t := fun t kt => kn3 t (by
    show own_S p e below T2 (mkF m 4 #[.val (.ref a1), .val (.ref bB), .val (.int (1 : Int32)), .val (.int (2 : Int32)), .val (.int (98 : Int32)), .unset, .unset, .unset] [(.ref bS)]) _
    refine X2.arraylength hx (by rw [e2]; exact Ar4.1) (State.isArrayOf_alike hZ.alike Ar4.2.1) (g := (mkF m 4 #[.val (.ref a1), .val (.ref bB), .val (.int (1 : Int32)), .val (.int (2 : Int32)), .val (.int (98 : Int32)), .unset, .unset, .unset] [(.ref bS)])) rfl rfl (hb hby d_prog_82_method_11_4) _ ?_
    rw [len_of Sz4 Ng4]
    show own_S p e below T2 (mkF m 5 #[.val (.ref a1), .val (.ref bB), .val (.int (1 : Int32)), .val (.int (2 : Int32)), .val (.int (98 : Int32)), .unset, .unset, .unset] [(.int (16 : Int32))]) _
    refine XS.iconst X2.here hx rfl (hb hby d_prog_82_method_11_5) ?_
    show own_S p e below T2 (mkF m 6 #[.val (.ref a1), .val (.ref bB), .val (.int (1 : Int32)), .val (.int (2 : Int32)), .val (.int (98 : Int32)), .unset, .unset, .unset] [(.int (1 : Int32)), (.int (16 : Int32))]) _
    refine XS.isub X2.here hx rfl (hb hby d_prog_82_method_11_6) rfl ?_
    rw [(by decide : ((16 : Int32) - (1 : Int32)) = (15 : Int32))]
    show own_S p e below T2 (mkF m 7 #[.val (.ref a1), .val (.ref bB), .val (.int (1 : Int32)), .val (.int (2 : Int32)), .val (.int (98 : Int32)), .unset, .unset, .unset] [(.int (15 : Int32))]) _
    refine XS.istore X2.here hx rfl (hb hby d_prog_82_method_11_7) rfl (l' := #[.val (.ref a1), .val (.ref bB), .val (.int (1 : Int32)), .val (.int (2 : Int32)), .val (.int (98 : Int32)), .val (.int (15 : Int32)), .unset, .unset]) rfl ?_
    show own_S p e below T2 (mkF m 9 #[.val (.ref a1), .val (.ref bB), .val (.int (1 : Int32)), .val (.int (2 : Int32)), .val (.int (98 : Int32)), .val (.int (15 : Int32)), .unset, .unset] []) _
    refine XS.iload X2.here hx rfl (hb hby d_prog_82_method_11_9) rfl ?_
    exact kt)
  obtain ⟨_, _, ⟨T6, L6, cc6, ss6⟩, -, X6, ⟨Lc6, hQ6, l6, y6, z6⟩, st6⟩ := Jvm.LawKit.callS X2 hx (y := (⟨"com/example/runs_to_scores/runstoscores/scoring/TopicDocnos", "spread", "(I)I"⟩ : MethodName)) hown (mvT hZ (hw _ (List.mem_of_getElem? (i := 123) rfl))) (mvT hZ (hw _ (List.mem_of_getElem? (i := 124) rfl))) (mvT hZ (hw _ (List.mem_of_getElem? (i := 11) rfl))) (mvT hZ (hw _ (List.mem_of_getElem? (i := 125) rfl))) (by decide) (backOf (W := 0) (rm21_1 l Z a0 hw []   h0 n0 Z0 ) hZ (hw _ (List.mem_of_getElem? (i := 125) rfl)) (hw _ (List.mem_of_getElem? (i := 11) rfl)) (by decide) (by decide)) (g := (mkF m 11 #[.val (.ref a1), .val (.ref bB), .val (.int (1 : Int32)), .val (.int (2 : Int32)), .val (.int (98 : Int32)), .val (.int (15 : Int32)), .unset, .unset] [(.int (98 : Int32))])) rfl (by rw [hml]; rfl) (argsL := [(.int (98 : Int32))]) (rest := []) (lenOf pd_0 rfl) rfl (by show 2 * 0 + _ ≤ _; exact Nat.le_of_eq rfl) (hb hby d_prog_82_method_11_11) (fun _ _ => ⟨rfl, e2, (by decide : 0 + 0 ≤ _), (by decide : 0 + 0 ≤ _)⟩)
  dsimp only [Pt.U, Pt.locs, Pt.cells, Pt.slots] at X6 l6 y6 z6 st6 hQ6
  subst l6 y6 z6
  obtain ⟨rfl, Nq6, eq6⟩ := hQ6
  have Nf6 := Fr.app Nf0 Nq6
  have kn7 : ∀ t, own_S p e below T6 (mkF m 14 #[.val (.ref a1), .val (.ref bB), .val (.int (1 : Int32)), .val (.int (2 : Int32)), .val (.int (98 : Int32)), .val (.int (15 : Int32)), .unset, .unset] [(.int (98 : Int32))]) t → Gl t := fun t kt => kn5 t (st6 _ kt)
  have kn8 : ∀ t, own_S p e below T6 (mkF m 20 #[.val (.ref a1), .val (.ref bB), .val (.int (1 : Int32)), .val (.int (2 : Int32)), .val (.int (98 : Int32)), .val (.int (15 : Int32)), .val (.int (2 : Int32)), .unset] [(.ref a1)]) t → Gl t := fun t kt => kn7 t (by
    show own_S p e below T6 (mkF m 14 #[.val (.ref a1), .val (.ref bB), .val (.int (1 : Int32)), .val (.int (2 : Int32)), .val (.int (98 : Int32)), .val (.int (15 : Int32)), .unset, .unset] [(.int (98 : Int32))]) _
    refine XS.iload X6.here hx rfl (hb hby d_prog_82_method_11_14) rfl ?_
    show own_S p e below T6 (mkF m 16 #[.val (.ref a1), .val (.ref bB), .val (.int (1 : Int32)), .val (.int (2 : Int32)), .val (.int (98 : Int32)), .val (.int (15 : Int32)), .unset, .unset] [(.int (15 : Int32)), (.int (98 : Int32))]) _
    refine XS.iand X6.here hx rfl (hb hby d_prog_82_method_11_16) rfl ?_
    rw [(by decide : ((98 : Int32) &&& (15 : Int32)) = (2 : Int32))]
    show own_S p e below T6 (mkF m 17 #[.val (.ref a1), .val (.ref bB), .val (.int (1 : Int32)), .val (.int (2 : Int32)), .val (.int (98 : Int32)), .val (.int (15 : Int32)), .unset, .unset] [(.int (2 : Int32))]) _
    refine XS.istore X6.here hx rfl (hb hby d_prog_82_method_11_17) rfl (l' := #[.val (.ref a1), .val (.ref bB), .val (.int (1 : Int32)), .val (.int (2 : Int32)), .val (.int (98 : Int32)), .val (.int (15 : Int32)), .val (.int (2 : Int32)), .unset]) rfl ?_
    show own_S p e below T6 (mkF m 19 #[.val (.ref a1), .val (.ref bB), .val (.int (1 : Int32)), .val (.int (2 : Int32)), .val (.int (98 : Int32)), .val (.int (15 : Int32)), .val (.int (2 : Int32)), .unset] []) _
    refine XS.aloadN X6.here hx rfl (hb hby d_prog_82_method_11_19) rfl rfl ?_
    exact kt)
  obtain ⟨T9, X9, e9, st9⟩ := getF X6 hx hZ hown (host := "") (Or.inl (hw _ (List.mem_of_getElem? (i := 40) rfl))) Via.refl eq6 F1 (g := (mkF m 20 #[.val (.ref a1), .val (.ref bB), .val (.int (1 : Int32)), .val (.int (2 : Int32)), .val (.int (98 : Int32)), .val (.int (15 : Int32)), .val (.int (2 : Int32)), .unset] [(.ref a1)])) rfl rfl (hb hby d_prog_82_method_11_20)
  have kn10 : ∀ t, own_S p e below T9 (mkF m 23 #[.val (.ref a1), .val (.ref bB), .val (.int (1 : Int32)), .val (.int (2 : Int32)), .val (.int (98 : Int32)), .val (.int (15 : Int32)), .val (.int (2 : Int32)), .unset] [(.ref bS)]) t → Gl t := fun t kt => kn8 t (st9 _ kt)
  have kn11 : ∀ t, own_S p e below T9 (mkF m 25 #[.val (.ref a1), .val (.ref bB), .val (.int (1 : Int32)), .val (.int (2 : Int32)), .val (.int (98 : Int32)), .val (.int (15 : Int32)), .val (.int (2 : Int32)), .unset] [(.int (2 : Int32)), (.ref bS)]) t → Gl t := fun t kt => kn10 t (by
    show own_S p e below T9 (mkF m 23 #[.val (.ref a1), .val (.ref bB), .val (.int (1 : Int32)), .val (.int (2 : Int32)), .val (.int (98 : Int32)), .val (.int (15 : Int32)), .val (.int (2 : Int32)), .unset] [(.ref bS)]) _
    refine XS.iload X9.here hx rfl (hb hby d_prog_82_method_11_23) rfl ?_
    exact kt)
  obtain ⟨cl12, Ar12, q12, Sz12, Ng12, Hs12, Gs12⟩ := id A1
  have hin12 : ¬ ((2 : Int32) < 0 ∨ cl12.slots.size ≤ ((2 : Int32)).toNatClampNeg) := inb_of Sz12 ⟨by decide, by decide⟩
  have hat12 : cl12.slots[((2 : Int32)).toNatClampNeg]? = some (.int (0 : Int32)) := Hs12.at hin12 rfl
  have kn13 : ∀ t, own_S p e below T9 (mkF m 95 #[.val (.ref a1), .val (.ref bB), .val (.int (1 : Int32)), .val (.int (2 : Int32)), .val (.int (98 : Int32)), .val (.int (15 : Int32)), .val (.int (2 : Int32)), .unset] [(.int (2 : Int32))]) t → Gl t := fun t kt => kn11 t (by
    show own_S p e below T9 (mkF m 25 #[.val (.ref a1), .val (.ref bB), .val (.int (1 : Int32)), .val (.int (2 : Int32)), .val (.int (98 : Int32)), .val (.int (15 : Int32)), .val (.int (2 : Int32)), .unset] [(.int (2 : Int32)), (.ref bS)]) _
    refine X9.iaload hx (j := (2 : Int32)) (v := (.int (0 : Int32))) (by rw [e9]; exact Ar12.1) (State.isArrayOf_alike hZ.alike Ar12.2.1) Ar12.2.2 hin12 hat12 (g := (mkF m 25 #[.val (.ref a1), .val (.ref bB), .val (.int (1 : Int32)), .val (.int (2 : Int32)), .val (.int (98 : Int32)), .val (.int (15 : Int32)), .val (.int (2 : Int32)), .unset] [(.int (2 : Int32)), (.ref bS)])) rfl rfl (hb hby d_prog_82_method_11_25) _ ?_
    show own_S p e below T9 (mkF m 26 #[.val (.ref a1), .val (.ref bB), .val (.int (1 : Int32)), .val (.int (2 : Int32)), .val (.int (98 : Int32)), .val (.int (15 : Int32)), .val (.int (2 : Int32)), .unset] [(.int (0 : Int32))]) _
    refine XS.ifYes X9.here hx rfl (pc0 := 26) (pc' := 93) rfl (hb hby d_prog_82_method_11_26) rfl ((if0 _ _).trans (teq (by decide : (0 : Int32) = (0 : Int32))).1) (by decide) (by decide) ?_
    show own_S p e below T9 (mkF m 93 #[.val (.ref a1), .val (.ref bB), .val (.int (1 : Int32)), .val (.int (2 : Int32)), .val (.int (98 : Int32)), .val (.int (15 : Int32)), .val (.int (2 : Int32)), .unset] []) _
    refine XS.iload X9.here hx rfl (hb hby d_prog_82_method_11_93) rfl ?_
    exact kt)
  obtain ⟨fs, hr, hrun, hended, hW, hsame⟩ := X9.leave (v := some (.int (2 : Int32))) (fun h => by rw [Bd.returns] at h; cases h)
  refine ⟨_, _, hGl _ (kn13 _ (retI X9 hx Bd.returns (hb hby d_prog_82_method_11_95) hr)), hrun, hended, _, _, rfl, ?_, ⟨_, rfl⟩, hW, hsame.mono (by decide) (by decide)⟩
  show Q20_1 Z a1 bB bS kS h0 n0 _ T9.heap _
  rw [e9]
  exact ⟨rfl, Nf6, rfl⟩

theorem ef_rm13_2 (m : MethodId) (x0 : Addr) (x1 : Addr) : entryFrame m #[(.ref x0), (.ref x1), (.int (2 : Int32))] 5 = mkF m 0 #[.val (.ref x0), .val (.ref x1), .val (.int (2 : Int32)), .unset, .unset] [] := by first | (simp [entryFrame, mkF, argsToLocals, Value.category]; done) | rfl
def Q13_2 (Z : State) (x1 : Addr) (bB : Addr) (kB : ClassId) (t1 : Addr) (k1 : ClassId) (G1 : Int32) (G3 : Value) (h0 : Heap) (n0 : Nat) (v : Option Value) (h : Heap) (L : List Loc) : Prop := v = some (.int (1 : Int32)) ∧ Fr n0 L ∧ Keep h0 h [bB] ∧ Arv Z h bB kB .byte (64 : Int32) ((.int (97 : Int32)) :: (.int (98 : Int32)) :: (.int (99 : Int32)) :: (.int (0 : Int32)) :: (.int (0 : Int32)) :: (.int (0 : Int32)) :: (.int (0 : Int32)) :: (.int (0 : Int32)) :: (.int (0 : Int32)) :: (.int (0 : Int32)) :: (.int (0 : Int32)) :: (.int (0 : Int32)) :: (.int (0 : Int32)) :: (.int (0 : Int32)) :: (.int (0 : Int32)) :: (.int (0 : Int32)) :: (.int (0 : Int32)) :: (.int (0 : Int32)) :: (.int (0 : Int32)) :: (.int (0 : Int32)) :: (.int (0 : Int32)) :: (.int (0 : Int32)) :: (.int (0 : Int32)) :: (.int (0 : Int32)) :: (.int (0 : Int32)) :: (.int (0 : Int32)) :: (.int (0 : Int32)) :: (.int (0 : Int32)) :: (.int (0 : Int32)) :: (.int (0 : Int32)) :: (.int (0 : Int32)) :: (.int (0 : Int32)) :: (.int (0 : Int32)) :: (.int (0 : Int32)) :: (.int (0 : Int32)) :: (.int (0 : Int32)) :: (.int (0 : Int32)) :: (.int (0 : Int32)) :: (.int (0 : Int32)) :: (.int (0 : Int32)) :: (.int (0 : Int32)) :: (.int (0 : Int32)) :: (.int (0 : Int32)) :: (.int (0 : Int32)) :: (.int (0 : Int32)) :: (.int (0 : Int32)) :: (.int (0 : Int32)) :: (.int (0 : Int32)) :: (.int (0 : Int32)) :: (.int (0 : Int32)) :: (.int (0 : Int32)) :: (.int (0 : Int32)) :: (.int (0 : Int32)) :: (.int (0 : Int32)) :: (.int (0 : Int32)) :: (.int (0 : Int32)) :: (.int (0 : Int32)) :: (.int (0 : Int32)) :: (.int (0 : Int32)) :: (.int (0 : Int32)) :: (.int (0 : Int32)) :: (.int (0 : Int32)) :: (.int (0 : Int32)) :: (.int (0 : Int32)) :: []) (.int (0 : Int32))
set_option maxRecDepth 65536 in
set_option maxHeartbeats 40000000 in
theorem rm13_2 (l : Launch) (Z : State) (a0 : Array Value) (hw : ∀ d ∈ tables_1, d.before a0 Z = true) (ws : List Jvm.Cond) (x1 : Addr) (bB : Addr) (kB : ClassId) (t1 : Addr) (k1 : ClassId) (G1 : Int32) (G3 : Value) (h0 : Heap) (n0 : Nat) (Z0 : n0 ≤ h0.size) (E_x1 : Exa Z h0 x1 "java/lang/String") (V_x1 : Fld Z h0 x1 "java/lang/String" "value" "[B" (.ref t1)) (C_x1 : Fld Z h0 x1 "java/lang/String" "coder" "B" (.int (0 : Int32))) (K_x1 : Arv Z h0 t1 k1 .byte (1 : Int32) ((([(99 : Int32)] : List Int32).map (fun c => c.toInt8.toInt32)).map Value.int) (.int (0 : Int32))) (hp_x1 : ∀ c ∈ ([(99 : Int32)] : List Int32), ¬ c < 0 ∧ ¬ (255 : Int32) < c) (A1 : Arv Z h0 bB kB .byte (64 : Int32) ((.int (97 : Int32)) :: (.int (98 : Int32)) :: (.int (0 : Int32)) :: (.int (0 : Int32)) :: (.int (0 : Int32)) :: (.int (0 : Int32)) :: (.int (0 : Int32)) :: (.int (0 : Int32)) :: (.int (0 : Int32)) :: (.int (0 : Int32)) :: (.int (0 : Int32)) :: (.int (0 : Int32)) :: (.int (0 : Int32)) :: (.int (0 : Int32)) :: (.int (0 : Int32)) :: (.int (0 : Int32)) :: (.int (0 : Int32)) :: (.int (0 : Int32)) :: (.int (0 : Int32)) :: (.int (0 : Int32)) :: (.int (0 : Int32)) :: (.int (0 : Int32)) :: (.int (0 : Int32)) :: (.int (0 : Int32)) :: (.int (0 : Int32)) :: (.int (0 : Int32)) :: (.int (0 : Int32)) :: (.int (0 : Int32)) :: (.int (0 : Int32)) :: (.int (0 : Int32)) :: (.int (0 : Int32)) :: (.int (0 : Int32)) :: (.int (0 : Int32)) :: (.int (0 : Int32)) :: (.int (0 : Int32)) :: (.int (0 : Int32)) :: (.int (0 : Int32)) :: (.int (0 : Int32)) :: (.int (0 : Int32)) :: (.int (0 : Int32)) :: (.int (0 : Int32)) :: (.int (0 : Int32)) :: (.int (0 : Int32)) :: (.int (0 : Int32)) :: (.int (0 : Int32)) :: (.int (0 : Int32)) :: (.int (0 : Int32)) :: (.int (0 : Int32)) :: (.int (0 : Int32)) :: (.int (0 : Int32)) :: (.int (0 : Int32)) :: (.int (0 : Int32)) :: (.int (0 : Int32)) :: (.int (0 : Int32)) :: (.int (0 : Int32)) :: (.int (0 : Int32)) :: (.int (0 : Int32)) :: (.int (0 : Int32)) :: (.int (0 : Int32)) :: (.int (0 : Int32)) :: (.int (0 : Int32)) :: (.int (0 : Int32)) :: (.int (0 : Int32)) :: (.int (0 : Int32)) :: []) (.int (0 : Int32))) (g_bB : n0 ≤ bB) (nx : x1 ≠ bB) (nt : t1 ≠ bB) (O0 : Old Z n0 h0) (O2 : Sta Z Z.heap "java/lang/String" "COMPACT_STRINGS" "Z" (.int G1)) (P5 : ¬ (G1 = (0 : Int32))) (O4 : Sta Z Z.heap "jdk/internal/util/Preconditions" "SIOOBE_FORMATTER" "Ljava/util/function/BiFunction;" G3) (rG3 : G3.isRef = true) :
    MetFree l (⟨"com/example/runs_to_scores/runstoscores/scoring/TopicDocnos", "write", "(Ljava/lang/CharSequence;[BI)Z"⟩ : MethodName) (head1 (Jvm.Cond.code (⟨"com/example/runs_to_scores/runstoscores/scoring/TopicDocnos", "write", "(Ljava/lang/CharSequence;[BI)Z"⟩ : MethodName) prog_82_method_12_code 5 (some .boolean) :: ws) ({ frames := 4, cells := 0, slots := 0, locals := 53 } : Room)) (fun a U => a = #[(.ref x1), (.ref bB), (.int (2 : Int32))] ∧ Z.Warmed39 U.vm ∧ U.heap = h0) (fun _ _ _ _ _ => True) (fun _ U o U' => ∃ v L, o = .returned v ∧ Q13_2 Z x1 bB kB t1 k1 G1 G3 h0 n0 v U'.heap L ∧ FrameEnd U o U' L ({ frames := 4, cells := 0, slots := 0, locals := 53 } : Room).cells ({ frames := 4, cells := 0, slots := 0, locals := 53 } : Room).slots) := by
  refine MetFree.of_bodySF (plainFor_of_name pn_1) hisR ?_
  intro p e s m args below meth c s₁ Bd hml0 hP hK
  obtain ⟨rfl, hZ, hh⟩ := hP
  have hx := Bd.exec
  have hby := Bd.bytes
  have hml : c.maxLocals = 5 := hml0
  have hown : s.vm.findClass "com/example/runs_to_scores/runstoscores/scoring/TopicDocnos" = some m.cls := findClass_of_methodNamed Bd.named
  have hnm := (name_of_methodNamed Bd.named Bd.method).1
  have X0 : Stand p l e ({ frames := 4, cells := 0, slots := 0, locals := 53 } : Room) s m #[(.ref x1), (.ref bB), (.int (2 : Int32))] below meth c s₁ [] 0 0 := Stand.of_body Bd
  have e0 : s₁.heap = h0 := by rw [← hh, Bd.state]; rfl
  have Nf0 := Fr.nil n0
  obtain ⟨Gl, hGl, kn0⟩ : ∃ Gl : State → Prop, (∀ t, Gl t → Steps p.tables e below (s₁.setTop (entryFrame m #[(.ref x1), (.ref bB), (.int (2 : Int32))] 5)) t) ∧ ∀ t, own_S p e below s₁ (mkF m 0 #[.val (.ref x1), .val (.ref bB), .val (.int (2 : Int32)), .unset, .unset] []) t → Gl t := ⟨fun t => Steps p.tables e below (s₁.setTop (entryFrame m #[(.ref x1), (.ref bB), (.int (2 : Int32))] 5)) t, fun _ k => k, fun t k => castTop (ef_rm13_2 m x1 bB) k⟩
  have kn1 : ∀ t, own_S p e below s₁ (mkF m 4 #[.val (.ref x1), .val (.ref bB), .val (.int (2 : Int32)), .val (.int (0 : Int32)), .unset] [(.ref x1), (.int (0 : Int32))]) t → Gl t := fun t kt => kn0 t (by
    show own_S p e below s₁ (mkF m 0 #[.val (.ref x1), .val (.ref bB), .val (.int (2 : Int32)), .unset, .unset] []) _
    refine XS.iconst X0.here hx rfl (hb hby d_prog_82_method_12_0) ?_
    show own_S p e below s₁ (mkF m 1 #[.val (.ref x1), .val (.ref bB), .val (.int (2 : Int32)), .unset, .unset] [(.int (0 : Int32))]) _
    refine XS.istoreN X0.here hx rfl (hb hby d_prog_82_method_12_1) rfl (l' := #[.val (.ref x1), .val (.ref bB), .val (.int (2 : Int32)), .val (.int (0 : Int32)), .unset]) rfl ?_
    show own_S p e below s₁ (mkF m 2 #[.val (.ref x1), .val (.ref bB), .val (.int (2 : Int32)), .val (.int (0 : Int32)), .unset] []) _
    refine XS.iloadN X0.here hx rfl (hb hby d_prog_82_method_12_2) rfl ?_
    show own_S p e below s₁ (mkF m 3 #[.val (.ref x1), .val (.ref bB), .val (.int (2 : Int32)), .val (.int (0 : Int32)), .unset] [(.int (0 : Int32))]) _
    refine XS.aloadN X0.here hx rfl (hb hby d_prog_82_method_12_3) rfl rfl ?_
    exact kt)
  have hln : ∀ d ∈ StrChars.Road.wordsLen, d.before a0 Z = true := fun d hd => hw d ((by decide +kernel : ∀ d ∈ StrChars.Road.wordsLen, d ∈ tables_1) d hd)
  have hcd_x1 : StrChars.Road.CodA ([(99 : Int32)] : List Int32) 0 (1 : Int32) ((([(99 : Int32)] : List Int32).map (fun c => c.toInt8.toInt32)).map Value.int) := StrChars.Road.codOf (n := 1) rfl (fun x hx => (hp_x1 x hx).2)
  have hbd_x1 : ∀ x ∈ ([(99 : Int32)] : List Int32), ¬ x < 0 ∧ ¬ (65535 : Int32) < x := own_up _ hp_x1
  obtain ⟨cq2, kq2, qa2, qb2, qc2⟩ := isOf hZ e0 E_x1
  obtain ⟨_, _, ⟨T2, L2, cc2, ss2⟩, -, X2, ⟨Lc2, hQ2, l2, y2, z2⟩, st2⟩ := X0.interfaceBack hx (xi := (⟨"java/lang/CharSequence", "length", "()I"⟩ : MethodName)) (y := (⟨"java/lang/String", "length", "()I"⟩ : MethodName)) hown (mvT hZ (hw _ (List.mem_of_getElem? (i := 71) rfl))) (mvT hZ (hw _ (List.mem_of_getElem? (i := 72) rfl))) (mvT hZ (hw _ (List.mem_of_getElem? (i := 73) rfl))) (mvT hZ (hw _ (List.mem_of_getElem? (i := 74) rfl))) (mvT hZ (hw _ (List.mem_of_getElem? (i := 75) rfl))) (mvT hZ (hw _ (List.mem_of_getElem? (i := 76) rfl))) (mvT hZ (hw _ (List.mem_of_getElem? (i := 77) rfl))) (mvT hZ (hw _ (List.mem_of_getElem? (i := 78) rfl))) (by decide) (StrChars.Road.lenW (W := 1) hZ hln (kI := 4) (hw _ (List.mem_of_getElem? (i := 50) rfl)) E_x1 V_x1 C_x1 K_x1 hcd_x1 hbd_x1 (O2.ext O0.2) P5 (Nat.le_of_ble_eq_true rfl) (by decide) (by decide)) qa2 qb2 qc2 (g := (mkF m 4 #[.val (.ref x1), .val (.ref bB), .val (.int (2 : Int32)), .val (.int (0 : Int32)), .unset] [(.ref x1), (.int (0 : Int32))])) rfl (by rw [hml]; rfl) (Steps.refl _) (argsL := []) (rest := [(.int (0 : Int32))]) (lenOf pd_4 rfl) rfl (by show 2 * 0 + _ ≤ _; exact Nat.le_of_eq rfl) (hb hby d_prog_82_method_12_4) (fun _ _ => ⟨rfl, e0, (by decide : 0 + 0 ≤ _), (by decide : 0 + 0 ≤ _)⟩)
  dsimp only [Pt.U, Pt.locs, Pt.cells, Pt.slots] at X2 l2 y2 z2 st2 hQ2
  subst l2 y2 z2
  obtain ⟨rfl, rfl, eq2⟩ := hQ2
  have Nq2 : Fr n0 ([] : List Loc) := Fr.nil n0
  have Nf2 := Fr.app Nf0 Nq2
  have kn3 : ∀ t, own_S p e below T2 (mkF m 9 #[.val (.ref x1), .val (.ref bB), .val (.int (2 : Int32)), .val (.int (0 : Int32)), .unset] [(.int (1 : Int32)), (.int (0 : Int32))]) t → Gl t := fun t kt => kn1 t (st2.trans kt)
  have kn4 : ∀ t, own_S p e below T2 (mkF m 14 #[.val (.ref x1), .val (.ref bB), .val (.int (2 : Int32)), .val (.int (0 : Int32)), .unset] [(.int (0 : Int32)), (.ref x1)]) t → Gl t := fun t kt => kn3 t (by
    show own_S p e below T2 (mkF m 9 #[.val (.ref x1), .val (.ref bB), .val (.int (2 : Int32)), .val (.int (0 : Int32)), .unset] [(.int (1 : Int32)), (.int (0 : Int32))]) _
    refine XS.icmpNo X2.here hx rfl (hb hby d_prog_82_method_12_9) rfl (tlt (by decide : (0 : Int32) < (1 : Int32))).2.1 ?_
    show own_S p e below T2 (mkF m 12 #[.val (.ref x1), .val (.ref bB), .val (.int (2 : Int32)), .val (.int (0 : Int32)), .unset] []) _
    refine XS.aloadN X2.here hx rfl (hb hby d_prog_82_method_12_12) rfl rfl ?_
    show own_S p e below T2 (mkF m 13 #[.val (.ref x1), .val (.ref bB), .val (.int (2 : Int32)), .val (.int (0 : Int32)), .unset] [(.ref x1)]) _
    refine XS.iloadN X2.here hx rfl (hb hby d_prog_82_method_12_13) rfl ?_
    exact kt)
  have hch : ∀ d ∈ StrChars.Road.wordsChN, d.before a0 Z = true := fun d hd => hw d ((by decide +kernel : ∀ d ∈ StrChars.Road.wordsChN, d ∈ tables_1) d hd)
  obtain ⟨cq5, kq5, qa5, qb5, qc5⟩ := isOf hZ eq2 E_x1
  obtain ⟨_, _, ⟨T5, L5, cc5, ss5⟩, -, X5, ⟨Lc5, hQ5, l5, y5, z5⟩, st5⟩ := X2.interfaceBack hx (xi := (⟨"java/lang/CharSequence", "charAt", "(I)C"⟩ : MethodName)) (y := (⟨"java/lang/String", "charAt", "(I)C"⟩ : MethodName)) hown (mvT hZ (hw _ (List.mem_of_getElem? (i := 91) rfl))) (mvT hZ (hw _ (List.mem_of_getElem? (i := 92) rfl))) (mvT hZ (hw _ (List.mem_of_getElem? (i := 93) rfl))) (mvT hZ (hw _ (List.mem_of_getElem? (i := 94) rfl))) (mvT hZ (hw _ (List.mem_of_getElem? (i := 95) rfl))) (mvT hZ (hw _ (List.mem_of_getElem? (i := 96) rfl))) (mvT hZ (hw _ (List.mem_of_getElem? (i := 97) rfl))) (mvT hZ (hw _ (List.mem_of_getElem? (i := 78) rfl))) (by decide) (StrChars.Road.chN (W := 0) hZ hch (kI := 4) (hw _ (List.mem_of_getElem? (i := 50) rfl)) E_x1 V_x1 C_x1 K_x1 hcd_x1 hbd_x1 (O2.ext O0.2) P5 (O4.ext O0.2) rG3 (Nat.le_of_ble_eq_true rfl) (i := 0) (Nat.le_of_ble_eq_true rfl) (j := 0) rfl (by decide) (by decide)) qa5 qb5 qc5 (g := (mkF m 14 #[.val (.ref x1), .val (.ref bB), .val (.int (2 : Int32)), .val (.int (0 : Int32)), .unset] [(.int (0 : Int32)), (.ref x1)])) rfl (by rw [hml]; rfl) (Steps.refl _) (argsL := [(.int (0 : Int32))]) (rest := []) (lenOf pd_5 rfl) rfl (by show 2 * 0 + _ ≤ _; exact Nat.le_of_eq rfl) (hb hby d_prog_82_method_12_14) (fun _ _ => ⟨rfl, eq2, (by decide : 0 + 0 ≤ _), (by decide : 0 + 0 ≤ _)⟩)
  dsimp only [Pt.U, Pt.locs, Pt.cells, Pt.slots] at X5 l5 y5 z5 st5 hQ5
  subst l5 y5 z5
  obtain ⟨rfl, rfl, eq5⟩ := hQ5
  have Nq5 : Fr n0 ([] : List Loc) := Fr.nil n0
  have Nf5 := Fr.app Nf2 Nq5
  have kn6 : ∀ t, own_S p e below T5 (mkF m 19 #[.val (.ref x1), .val (.ref bB), .val (.int (2 : Int32)), .val (.int (0 : Int32)), .unset] [(.int (99 : Int32))]) t → Gl t := fun t kt => kn4 t (st5.trans kt)
  have kn7 : ∀ t, own_S p e below T5 (mkF m 38 #[.val (.ref x1), .val (.ref bB), .val (.int (2 : Int32)), .val (.int (0 : Int32)), .val (.int (99 : Int32))] [(.int (99 : Int32)), (.int (2 : Int32)), (.ref bB)]) t → Gl t := fun t kt => kn6 t (by
    show own_S p e below T5 (mkF m 19 #[.val (.ref x1), .val (.ref bB), .val (.int (2 : Int32)), .val (.int (0 : Int32)), .unset] [(.int (99 : Int32))]) _
    refine XS.istore X5.here hx rfl (hb hby d_prog_82_method_12_19) rfl (l' := #[.val (.ref x1), .val (.ref bB), .val (.int (2 : Int32)), .val (.int (0 : Int32)), .val (.int (99 : Int32))]) rfl ?_
    show own_S p e below T5 (mkF m 21 #[.val (.ref x1), .val (.ref bB), .val (.int (2 : Int32)), .val (.int (0 : Int32)), .val (.int (99 : Int32))] []) _
    refine XS.iload X5.here hx rfl (hb hby d_prog_82_method_12_21) rfl ?_
    show own_S p e below T5 (mkF m 23 #[.val (.ref x1), .val (.ref bB), .val (.int (2 : Int32)), .val (.int (0 : Int32)), .val (.int (99 : Int32))] [(.int (99 : Int32))]) _
    refine XS.sipush X5.here hx rfl (hb hby d_prog_82_method_12_23) ?_
    show own_S p e below T5 (mkF m 26 #[.val (.ref x1), .val (.ref bB), .val (.int (2 : Int32)), .val (.int (0 : Int32)), .val (.int (99 : Int32))] [(.int (255 : Int32)), (.int (99 : Int32))]) _
    refine XS.icmpYes X5.here hx rfl (pc0 := 26) (pc' := 31) rfl (hb hby d_prog_82_method_12_26) rfl (flt (by decide : ¬ ((255 : Int32) < (99 : Int32)))).2.2.2 (by decide) (by decide) ?_
    show own_S p e below T5 (mkF m 31 #[.val (.ref x1), .val (.ref bB), .val (.int (2 : Int32)), .val (.int (0 : Int32)), .val (.int (99 : Int32))] []) _
    refine XS.aloadN X5.here hx rfl (hb hby d_prog_82_method_12_31) rfl rfl ?_
    show own_S p e below T5 (mkF m 32 #[.val (.ref x1), .val (.ref bB), .val (.int (2 : Int32)), .val (.int (0 : Int32)), .val (.int (99 : Int32))] [(.ref bB)]) _
    refine XS.iloadN X5.here hx rfl (hb hby d_prog_82_method_12_32) rfl ?_
    show own_S p e below T5 (mkF m 33 #[.val (.ref x1), .val (.ref bB), .val (.int (2 : Int32)), .val (.int (0 : Int32)), .val (.int (99 : Int32))] [(.int (2 : Int32)), (.ref bB)]) _
    refine XS.iloadN X5.here hx rfl (hb hby d_prog_82_method_12_33) rfl ?_
    show own_S p e below T5 (mkF m 34 #[.val (.ref x1), .val (.ref bB), .val (.int (2 : Int32)), .val (.int (0 : Int32)), .val (.int (99 : Int32))] [(.int (0 : Int32)), (.int (2 : Int32)), (.ref bB)]) _
    refine XS.iadd X5.here hx rfl (hb hby d_prog_82_method_12_34) rfl ?_
    rw [(by decide : ((2 : Int32) + (0 : Int32)) = (2 : Int32))]
    show own_S p e below T5 (mkF m 35 #[.val (.ref x1), .val (.ref bB), .val (.int (2 : Int32)), .val (.int (0 : Int32)), .val (.int (99 : Int32))] [(.int (2 : Int32)), (.ref bB)]) _
    refine XS.iload X5.here hx rfl (hb hby d_prog_82_method_12_35) rfl ?_
    show own_S p e below T5 (mkF m 37 #[.val (.ref x1), .val (.ref bB), .val (.int (2 : Int32)), .val (.int (0 : Int32)), .val (.int (99 : Int32))] [(.int (99 : Int32)), (.int (2 : Int32)), (.ref bB)]) _
    refine XS.i2b X5.here hx rfl (hb hby d_prog_82_method_12_37) rfl ?_
    rw [(by decide : ((99 : Int32).toInt8.toInt32) = (99 : Int32))]
    exact kt)
  obtain ⟨cl8, Ar8, q8, Sz8, Ng8, Hs8, Gs8⟩ := id A1
  have hin8 : ¬ ((2 : Int32) < 0 ∨ cl8.slots.size ≤ ((2 : Int32)).toNatClampNeg) := inb_of Sz8 ⟨by decide, by decide⟩
  obtain ⟨T8, h8, X8, e8, W8, st8⟩ := stB X5 hx hZ eq5 Ar8 (j := (2 : Int32)) hin8 (g := (mkF m 38 #[.val (.ref x1), .val (.ref bB), .val (.int (2 : Int32)), .val (.int (0 : Int32)), .val (.int (99 : Int32))] [(.int (99 : Int32)), (.int (2 : Int32)), (.ref bB)])) rfl rfl (hb hby d_prog_82_method_12_38)
  have Z9 : n0 ≤ h8.size := Nat.le_trans Z0 (Keep.of_wr W8).1
  have O10 : Old Z n0 h8 := O0.wr W8 g_bB
  have K11 : Keep h0 h8 [bB] := (Keep.refl h0 [bB]).wr W8 (Or.inl (List.mem_of_getElem? (i := 0) rfl))
  have V8 : Arv Z h8 bB kB .byte (64 : Int32) ((.int (97 : Int32)) :: (.int (98 : Int32)) :: (.int ((99 : Int32).toInt8.toInt32)) :: (.int (0 : Int32)) :: (.int (0 : Int32)) :: (.int (0 : Int32)) :: (.int (0 : Int32)) :: (.int (0 : Int32)) :: (.int (0 : Int32)) :: (.int (0 : Int32)) :: (.int (0 : Int32)) :: (.int (0 : Int32)) :: (.int (0 : Int32)) :: (.int (0 : Int32)) :: (.int (0 : Int32)) :: (.int (0 : Int32)) :: (.int (0 : Int32)) :: (.int (0 : Int32)) :: (.int (0 : Int32)) :: (.int (0 : Int32)) :: (.int (0 : Int32)) :: (.int (0 : Int32)) :: (.int (0 : Int32)) :: (.int (0 : Int32)) :: (.int (0 : Int32)) :: (.int (0 : Int32)) :: (.int (0 : Int32)) :: (.int (0 : Int32)) :: (.int (0 : Int32)) :: (.int (0 : Int32)) :: (.int (0 : Int32)) :: (.int (0 : Int32)) :: (.int (0 : Int32)) :: (.int (0 : Int32)) :: (.int (0 : Int32)) :: (.int (0 : Int32)) :: (.int (0 : Int32)) :: (.int (0 : Int32)) :: (.int (0 : Int32)) :: (.int (0 : Int32)) :: (.int (0 : Int32)) :: (.int (0 : Int32)) :: (.int (0 : Int32)) :: (.int (0 : Int32)) :: (.int (0 : Int32)) :: (.int (0 : Int32)) :: (.int (0 : Int32)) :: (.int (0 : Int32)) :: (.int (0 : Int32)) :: (.int (0 : Int32)) :: (.int (0 : Int32)) :: (.int (0 : Int32)) :: (.int (0 : Int32)) :: (.int (0 : Int32)) :: (.int (0 : Int32)) :: (.int (0 : Int32)) :: (.int (0 : Int32)) :: (.int (0 : Int32)) :: (.int (0 : Int32)) :: (.int (0 : Int32)) :: (.int (0 : Int32)) :: (.int (0 : Int32)) :: (.int (0 : Int32)) :: (.int (0 : Int32)) :: []) (.int (0 : Int32)) := Arv.set Ar8 q8 Sz8 Ng8 Hs8 Gs8 (fits_nar_byte _) W8 2 rfl (Nat.le_of_ble_eq_true rfl)
  rw [(show ((99 : Int32).toInt8.toInt32) = (99 : Int32) from by decide)] at V8
  have Nf12 := Fr.snoc X8 Nf5 g_bB
  have kn13 : ∀ t, own_S p e below T8 (mkF m 39 #[.val (.ref x1), .val (.ref bB), .val (.int (2 : Int32)), .val (.int (0 : Int32)), .val (.int (99 : Int32))] []) t → Gl t := fun t kt => kn7 t (st8 _ kt)
  have kn14 : ∀ t, own_S p e below T8 (mkF m 4 #[.val (.ref x1), .val (.ref bB), .val (.int (2 : Int32)), .val (.int (1 : Int32)), .val (.int (99 : Int32))] [(.ref x1), (.int (1 : Int32))]) t → Gl t := fun t kt => kn13 t (by
    show own_S p e below T8 (mkF m 39 #[.val (.ref x1), .val (.ref bB), .val (.int (2 : Int32)), .val (.int (0 : Int32)), .val (.int (99 : Int32))] []) _
    refine XS.iinc X8.here hx rfl (hb hby d_prog_82_method_12_39) rfl (l' := #[.val (.ref x1), .val (.ref bB), .val (.int (2 : Int32)), .val (.int ((0 : Int32) + (1 : Int32))), .val (.int (99 : Int32))]) rfl ?_
    rw [(by decide : ((0 : Int32) + (1 : Int32)) = (1 : Int32))]
    show own_S p e below T8 (mkF m 42 #[.val (.ref x1), .val (.ref bB), .val (.int (2 : Int32)), .val (.int (1 : Int32)), .val (.int (99 : Int32))] []) _
    refine XS.goto X8.here hx rfl (pc0 := 42) (pc' := 2) rfl (hb hby d_prog_82_method_12_42) (by decide) (by decide) ?_
    show own_S p e below T8 (mkF m 2 #[.val (.ref x1), .val (.ref bB), .val (.int (2 : Int32)), .val (.int (1 : Int32)), .val (.int (99 : Int32))] []) _
    refine XS.iloadN X8.here hx rfl (hb hby d_prog_82_method_12_2) rfl ?_
    show own_S p e below T8 (mkF m 3 #[.val (.ref x1), .val (.ref bB), .val (.int (2 : Int32)), .val (.int (1 : Int32)), .val (.int (99 : Int32))] [(.int (1 : Int32))]) _
    refine XS.aloadN X8.here hx rfl (hb hby d_prog_82_method_12_3) rfl rfl ?_
    exact kt)
  have f16 := (E_x1.wr W8)
  have f17 := (V_x1.other W8 (Or.inl nx))
  have f18 := (C_x1.other W8 (Or.inl nx))
  have f19 := (K_x1.other W8 nt)
  obtain ⟨cq15, kq15, qa15, qb15, qc15⟩ := isOf hZ e8 f16
  obtain ⟨_, _, ⟨T15, L15, cc15, ss15⟩, -, X15, ⟨Lc15, hQ15, l15, y15, z15⟩, st15⟩ := X8.interfaceBack hx (xi := (⟨"java/lang/CharSequence", "length", "()I"⟩ : MethodName)) (y := (⟨"java/lang/String", "length", "()I"⟩ : MethodName)) hown (mvT hZ (hw _ (List.mem_of_getElem? (i := 71) rfl))) (mvT hZ (hw _ (List.mem_of_getElem? (i := 72) rfl))) (mvT hZ (hw _ (List.mem_of_getElem? (i := 73) rfl))) (mvT hZ (hw _ (List.mem_of_getElem? (i := 74) rfl))) (mvT hZ (hw _ (List.mem_of_getElem? (i := 75) rfl))) (mvT hZ (hw _ (List.mem_of_getElem? (i := 76) rfl))) (mvT hZ (hw _ (List.mem_of_getElem? (i := 77) rfl))) (mvT hZ (hw _ (List.mem_of_getElem? (i := 78) rfl))) (by decide) (StrChars.Road.lenW (W := 1) hZ hln (kI := 4) (hw _ (List.mem_of_getElem? (i := 50) rfl)) f16 f17 f18 f19 hcd_x1 hbd_x1 (O2.ext O10.2) P5 (Nat.le_of_ble_eq_true rfl) (by decide) (by decide)) qa15 qb15 qc15 (g := (mkF m 4 #[.val (.ref x1), .val (.ref bB), .val (.int (2 : Int32)), .val (.int (1 : Int32)), .val (.int (99 : Int32))] [(.ref x1), (.int (1 : Int32))])) rfl (by rw [hml]; rfl) (Steps.refl _) (argsL := []) (rest := [(.int (1 : Int32))]) (lenOf pd_4 rfl) rfl (by show 2 * 0 + _ ≤ _; exact Nat.le_of_eq rfl) (hb hby d_prog_82_method_12_4) (fun _ _ => ⟨rfl, e8, (by decide : 0 + 0 ≤ _), (by decide : 0 + 0 ≤ _)⟩)
  dsimp only [Pt.U, Pt.locs, Pt.cells, Pt.slots] at X15 l15 y15 z15 st15 hQ15
  subst l15 y15 z15
  obtain ⟨rfl, rfl, eq15⟩ := hQ15
  have Nq15 : Fr n0 ([] : List Loc) := Fr.nil n0
  have Nf15 := Fr.app Nf12 Nq15
  have kn20 : ∀ t, own_S p e below T15 (mkF m 9 #[.val (.ref x1), .val (.ref bB), .val (.int (2 : Int32)), .val (.int (1 : Int32)), .val (.int (99 : Int32))] [(.int (1 : Int32)), (.int (1 : Int32))]) t → Gl t := fun t kt => kn14 t (st15.trans kt)
  have kn21 : ∀ t, own_S p e below T15 (mkF m 46 #[.val (.ref x1), .val (.ref bB), .val (.int (2 : Int32)), .val (.int (1 : Int32)), .val (.int (99 : Int32))] [(.int (1 : Int32))]) t → Gl t := fun t kt => kn20 t (by
    show own_S p e below T15 (mkF m 9 #[.val (.ref x1), .val (.ref bB), .val (.int (2 : Int32)), .val (.int (1 : Int32)), .val (.int (99 : Int32))] [(.int (1 : Int32)), (.int (1 : Int32))]) _
    refine XS.icmpYes X15.here hx rfl (pc0 := 9) (pc' := 45) rfl (hb hby d_prog_82_method_12_9) rfl (flt (by decide : ¬ ((1 : Int32) < (1 : Int32)))).2.1 (by decide) (by decide) ?_
    show own_S p e below T15 (mkF m 45 #[.val (.ref x1), .val (.ref bB), .val (.int (2 : Int32)), .val (.int (1 : Int32)), .val (.int (99 : Int32))] []) _
    refine XS.iconst X15.here hx rfl (hb hby d_prog_82_method_12_45) ?_
    exact kt)
  obtain ⟨fs, hr, hrun, hended, hW, hsame⟩ := X15.leave (v := some (.int (1 : Int32))) (fun h => by rw [Bd.returns] at h; cases h)
  refine ⟨_, _, hGl _ (kn21 _ (retN X15 hx (t := .boolean) Bd.returns (by simp) (hb hby d_prog_82_method_12_46) hr)), hrun, hended, _, _, rfl, ?_, ⟨_, rfl⟩, hW, hsame.mono (by decide) (by decide)⟩
  show Q13_2 Z x1 bB kB t1 k1 G1 G3 h0 n0 _ T15.heap _
  rw [eq15]
  exact ⟨rfl, Nf15, K11, V8⟩

theorem ef_rm19_2 (m : MethodId) (x0 : Addr) : entryFrame m #[(.ref x0), (.int (2 : Int32)), (.int (3 : Int32))] 5 = mkF m 0 #[.val (.ref x0), .val (.int (2 : Int32)), .val (.int (3 : Int32)), .unset, .unset] [] := by first | (simp [entryFrame, mkF, argsToLocals, Value.category]; done) | rfl
def Q19_2 (Z : State) (bB : Addr) (kB : ClassId) (h0 : Heap) (n0 : Nat) (v : Option Value) (h : Heap) (L : List Loc) : Prop := v = some (.int (99 : Int32)) ∧ Fr n0 L ∧ h = h0
set_option maxRecDepth 65536 in
set_option maxHeartbeats 40000000 in
theorem rm19_2 (l : Launch) (Z : State) (a0 : Array Value) (hw : ∀ d ∈ tables_1, d.before a0 Z = true) (ws : List Jvm.Cond) (bB : Addr) (kB : ClassId) (h0 : Heap) (n0 : Nat) (Z0 : n0 ≤ h0.size) (A1 : Arv Z h0 bB kB .byte (64 : Int32) ((.int (97 : Int32)) :: (.int (98 : Int32)) :: (.int (99 : Int32)) :: (.int (0 : Int32)) :: (.int (0 : Int32)) :: (.int (0 : Int32)) :: (.int (0 : Int32)) :: (.int (0 : Int32)) :: (.int (0 : Int32)) :: (.int (0 : Int32)) :: (.int (0 : Int32)) :: (.int (0 : Int32)) :: (.int (0 : Int32)) :: (.int (0 : Int32)) :: (.int (0 : Int32)) :: (.int (0 : Int32)) :: (.int (0 : Int32)) :: (.int (0 : Int32)) :: (.int (0 : Int32)) :: (.int (0 : Int32)) :: (.int (0 : Int32)) :: (.int (0 : Int32)) :: (.int (0 : Int32)) :: (.int (0 : Int32)) :: (.int (0 : Int32)) :: (.int (0 : Int32)) :: (.int (0 : Int32)) :: (.int (0 : Int32)) :: (.int (0 : Int32)) :: (.int (0 : Int32)) :: (.int (0 : Int32)) :: (.int (0 : Int32)) :: (.int (0 : Int32)) :: (.int (0 : Int32)) :: (.int (0 : Int32)) :: (.int (0 : Int32)) :: (.int (0 : Int32)) :: (.int (0 : Int32)) :: (.int (0 : Int32)) :: (.int (0 : Int32)) :: (.int (0 : Int32)) :: (.int (0 : Int32)) :: (.int (0 : Int32)) :: (.int (0 : Int32)) :: (.int (0 : Int32)) :: (.int (0 : Int32)) :: (.int (0 : Int32)) :: (.int (0 : Int32)) :: (.int (0 : Int32)) :: (.int (0 : Int32)) :: (.int (0 : Int32)) :: (.int (0 : Int32)) :: (.int (0 : Int32)) :: (.int (0 : Int32)) :: (.int (0 : Int32)) :: (.int (0 : Int32)) :: (.int (0 : Int32)) :: (.int (0 : Int32)) :: (.int (0 : Int32)) :: (.int (0 : Int32)) :: (.int (0 : Int32)) :: (.int (0 : Int32)) :: (.int (0 : Int32)) :: (.int (0 : Int32)) :: []) (.int (0 : Int32))) :
    MetFree l (⟨"com/example/runs_to_scores/runstoscores/scoring/TopicDocnos", "hash", "([BII)I"⟩ : MethodName) (head1 (Jvm.Cond.code (⟨"com/example/runs_to_scores/runstoscores/scoring/TopicDocnos", "hash", "([BII)I"⟩ : MethodName) prog_82_method_13_code 5 (some .int) :: ws) ({ frames := 0, cells := 0, slots := 0, locals := 0 } : Room)) (fun a U => a = #[(.ref bB), (.int (2 : Int32)), (.int (3 : Int32))] ∧ Z.Warmed39 U.vm ∧ U.heap = h0) (fun _ _ _ _ _ => True) (fun _ U o U' => ∃ v L, o = .returned v ∧ Q19_2 Z bB kB h0 n0 v U'.heap L ∧ FrameEnd U o U' L ({ frames := 0, cells := 0, slots := 0, locals := 0 } : Room).cells ({ frames := 0, cells := 0, slots := 0, locals := 0 } : Room).slots) := by
  refine MetFree.of_bodySF (plainFor_of_name pn_1) hisR ?_
  intro p e s m args below meth c s₁ Bd hml0 hP hK
  obtain ⟨rfl, hZ, hh⟩ := hP
  have hx := Bd.exec
  have hby := Bd.bytes
  have hml : c.maxLocals = 5 := hml0
  have hown : s.vm.findClass "com/example/runs_to_scores/runstoscores/scoring/TopicDocnos" = some m.cls := findClass_of_methodNamed Bd.named
  have hnm := (name_of_methodNamed Bd.named Bd.method).1
  have X0 : Stand p l e ({ frames := 0, cells := 0, slots := 0, locals := 0 } : Room) s m #[(.ref bB), (.int (2 : Int32)), (.int (3 : Int32))] below meth c s₁ [] 0 0 := Stand.of_body Bd
  have e0 : s₁.heap = h0 := by rw [← hh, Bd.state]; rfl
  have Nf0 := Fr.nil n0
  obtain ⟨Gl, hGl, kn0⟩ : ∃ Gl : State → Prop, (∀ t, Gl t → Steps p.tables e below (s₁.setTop (entryFrame m #[(.ref bB), (.int (2 : Int32)), (.int (3 : Int32))] 5)) t) ∧ ∀ t, own_S p e below s₁ (mkF m 0 #[.val (.ref bB), .val (.int (2 : Int32)), .val (.int (3 : Int32)), .unset, .unset] []) t → Gl t := ⟨fun t => Steps p.tables e below (s₁.setTop (entryFrame m #[(.ref bB), (.int (2 : Int32)), (.int (3 : Int32))] 5)) t, fun _ k => k, fun t k => castTop (ef_rm19_2 m bB) k⟩
  have kn1 : ∀ t, own_S p e below s₁ (mkF m 18 #[.val (.ref bB), .val (.int (2 : Int32)), .val (.int (3 : Int32)), .val (.int (0 : Int32)), .val (.int (2 : Int32))] [(.int (2 : Int32)), (.ref bB), (.int (0 : Int32))]) t → Gl t := fun t kt => kn0 t (by
    show own_S p e below s₁ (mkF m 0 #[.val (.ref bB), .val (.int (2 : Int32)), .val (.int (3 : Int32)), .unset, .unset] []) _
    refine XS.iconst X0.here hx rfl (hb hby d_prog_82_method_13_0) ?_
    show own_S p e below s₁ (mkF m 1 #[.val (.ref bB), .val (.int (2 : Int32)), .val (.int (3 : Int32)), .unset, .unset] [(.int (0 : Int32))]) _
    refine XS.istoreN X0.here hx rfl (hb hby d_prog_82_method_13_1) rfl (l' := #[.val (.ref bB), .val (.int (2 : Int32)), .val (.int (3 : Int32)), .val (.int (0 : Int32)), .unset]) rfl ?_
    show own_S p e below s₁ (mkF m 2 #[.val (.ref bB), .val (.int (2 : Int32)), .val (.int (3 : Int32)), .val (.int (0 : Int32)), .unset] []) _
    refine XS.iloadN X0.here hx rfl (hb hby d_prog_82_method_13_2) rfl ?_
    show own_S p e below s₁ (mkF m 3 #[.val (.ref bB), .val (.int (2 : Int32)), .val (.int (3 : Int32)), .val (.int (0 : Int32)), .unset] [(.int (2 : Int32))]) _
    refine XS.istore X0.here hx rfl (hb hby d_prog_82_method_13_3) rfl (l' := #[.val (.ref bB), .val (.int (2 : Int32)), .val (.int (3 : Int32)), .val (.int (0 : Int32)), .val (.int (2 : Int32))]) rfl ?_
    show own_S p e below s₁ (mkF m 5 #[.val (.ref bB), .val (.int (2 : Int32)), .val (.int (3 : Int32)), .val (.int (0 : Int32)), .val (.int (2 : Int32))] []) _
    refine XS.iload X0.here hx rfl (hb hby d_prog_82_method_13_5) rfl ?_
    show own_S p e below s₁ (mkF m 7 #[.val (.ref bB), .val (.int (2 : Int32)), .val (.int (3 : Int32)), .val (.int (0 : Int32)), .val (.int (2 : Int32))] [(.int (2 : Int32))]) _
    refine XS.iloadN X0.here hx rfl (hb hby d_prog_82_method_13_7) rfl ?_
    show own_S p e below s₁ (mkF m 8 #[.val (.ref bB), .val (.int (2 : Int32)), .val (.int (3 : Int32)), .val (.int (0 : Int32)), .val (.int (2 : Int32))] [(.int (3 : Int32)), (.int (2 : Int32))]) _
    refine XS.icmpNo X0.here hx rfl (hb hby d_prog_82_method_13_8) rfl (tlt (by decide : (2 : Int32) < (3 : Int32))).2.1 ?_
    show own_S p e below s₁ (mkF m 11 #[.val (.ref bB), .val (.int (2 : Int32)), .val (.int (3 : Int32)), .val (.int (0 : Int32)), .val (.int (2 : Int32))] []) _
    refine XS.bipush X0.here hx rfl (hb hby d_prog_82_method_13_11) ?_
    show own_S p e below s₁ (mkF m 13 #[.val (.ref bB), .val (.int (2 : Int32)), .val (.int (3 : Int32)), .val (.int (0 : Int32)), .val (.int (2 : Int32))] [(.int (31 : Int32))]) _
    refine XS.iloadN X0.here hx rfl (hb hby d_prog_82_method_13_13) rfl ?_
    show own_S p e below s₁ (mkF m 14 #[.val (.ref bB), .val (.int (2 : Int32)), .val (.int (3 : Int32)), .val (.int (0 : Int32)), .val (.int (2 : Int32))] [(.int (0 : Int32)), (.int (31 : Int32))]) _
    refine XS.imul X0.here hx rfl (hb hby d_prog_82_method_13_14) rfl ?_
    rw [(by decide : ((31 : Int32) * (0 : Int32)) = (0 : Int32))]
    show own_S p e below s₁ (mkF m 15 #[.val (.ref bB), .val (.int (2 : Int32)), .val (.int (3 : Int32)), .val (.int (0 : Int32)), .val (.int (2 : Int32))] [(.int (0 : Int32))]) _
    refine XS.aloadN X0.here hx rfl (hb hby d_prog_82_method_13_15) rfl rfl ?_
    show own_S p e below s₁ (mkF m 16 #[.val (.ref bB), .val (.int (2 : Int32)), .val (.int (3 : Int32)), .val (.int (0 : Int32)), .val (.int (2 : Int32))] [(.ref bB), (.int (0 : Int32))]) _
    refine XS.iload X0.here hx rfl (hb hby d_prog_82_method_13_16) rfl ?_
    exact kt)
  obtain ⟨cl2, Ar2, q2, Sz2, Ng2, Hs2, Gs2⟩ := id A1
  have hin2 : ¬ ((2 : Int32) < 0 ∨ cl2.slots.size ≤ ((2 : Int32)).toNatClampNeg) := inb_of Sz2 ⟨by decide, by decide⟩
  have hat2 : cl2.slots[((2 : Int32)).toNatClampNeg]? = some (.int (99 : Int32)) := Hs2.at hin2 rfl
  have kn3 : ∀ t, own_S p e below s₁ (mkF m 28 #[.val (.ref bB), .val (.int (2 : Int32)), .val (.int (3 : Int32)), .val (.int (99 : Int32)), .val (.int (3 : Int32))] [(.int (99 : Int32))]) t → Gl t := fun t kt => kn1 t (by
    show own_S p e below s₁ (mkF m 18 #[.val (.ref bB), .val (.int (2 : Int32)), .val (.int (3 : Int32)), .val (.int (0 : Int32)), .val (.int (2 : Int32))] [(.int (2 : Int32)), (.ref bB), (.int (0 : Int32))]) _
    refine X0.baloadBytes hx (j := (2 : Int32)) (v := (.int (99 : Int32))) (by rw [e0]; exact Ar2.1) (State.isArrayOf_alike hZ.alike Ar2.2.1) Ar2.2.2 hin2 hat2 (g := (mkF m 18 #[.val (.ref bB), .val (.int (2 : Int32)), .val (.int (3 : Int32)), .val (.int (0 : Int32)), .val (.int (2 : Int32))] [(.int (2 : Int32)), (.ref bB), (.int (0 : Int32))])) rfl rfl (hb hby d_prog_82_method_13_18) _ ?_
    show own_S p e below s₁ (mkF m 19 #[.val (.ref bB), .val (.int (2 : Int32)), .val (.int (3 : Int32)), .val (.int (0 : Int32)), .val (.int (2 : Int32))] [(.int (99 : Int32)), (.int (0 : Int32))]) _
    refine XS.iadd X0.here hx rfl (hb hby d_prog_82_method_13_19) rfl ?_
    rw [(by decide : ((0 : Int32) + (99 : Int32)) = (99 : Int32))]
    show own_S p e below s₁ (mkF m 20 #[.val (.ref bB), .val (.int (2 : Int32)), .val (.int (3 : Int32)), .val (.int (0 : Int32)), .val (.int (2 : Int32))] [(.int (99 : Int32))]) _
    refine XS.istoreN X0.here hx rfl (hb hby d_prog_82_method_13_20) rfl (l' := #[.val (.ref bB), .val (.int (2 : Int32)), .val (.int (3 : Int32)), .val (.int (99 : Int32)), .val (.int (2 : Int32))]) rfl ?_
    show own_S p e below s₁ (mkF m 21 #[.val (.ref bB), .val (.int (2 : Int32)), .val (.int (3 : Int32)), .val (.int (99 : Int32)), .val (.int (2 : Int32))] []) _
    refine XS.iinc X0.here hx rfl (hb hby d_prog_82_method_13_21) rfl (l' := #[.val (.ref bB), .val (.int (2 : Int32)), .val (.int (3 : Int32)), .val (.int (99 : Int32)), .val (.int ((2 : Int32) + (1 : Int32)))]) rfl ?_
    rw [(by decide : ((2 : Int32) + (1 : Int32)) = (3 : Int32))]
    show own_S p e below s₁ (mkF m 24 #[.val (.ref bB), .val (.int (2 : Int32)), .val (.int (3 : Int32)), .val (.int (99 : Int32)), .val (.int (3 : Int32))] []) _
    refine XS.goto X0.here hx rfl (pc0 := 24) (pc' := 5) rfl (hb hby d_prog_82_method_13_24) (by decide) (by decide) ?_
    show own_S p e below s₁ (mkF m 5 #[.val (.ref bB), .val (.int (2 : Int32)), .val (.int (3 : Int32)), .val (.int (99 : Int32)), .val (.int (3 : Int32))] []) _
    refine XS.iload X0.here hx rfl (hb hby d_prog_82_method_13_5) rfl ?_
    show own_S p e below s₁ (mkF m 7 #[.val (.ref bB), .val (.int (2 : Int32)), .val (.int (3 : Int32)), .val (.int (99 : Int32)), .val (.int (3 : Int32))] [(.int (3 : Int32))]) _
    refine XS.iloadN X0.here hx rfl (hb hby d_prog_82_method_13_7) rfl ?_
    show own_S p e below s₁ (mkF m 8 #[.val (.ref bB), .val (.int (2 : Int32)), .val (.int (3 : Int32)), .val (.int (99 : Int32)), .val (.int (3 : Int32))] [(.int (3 : Int32)), (.int (3 : Int32))]) _
    refine XS.icmpYes X0.here hx rfl (pc0 := 8) (pc' := 27) rfl (hb hby d_prog_82_method_13_8) rfl (flt (by decide : ¬ ((3 : Int32) < (3 : Int32)))).2.1 (by decide) (by decide) ?_
    show own_S p e below s₁ (mkF m 27 #[.val (.ref bB), .val (.int (2 : Int32)), .val (.int (3 : Int32)), .val (.int (99 : Int32)), .val (.int (3 : Int32))] []) _
    refine XS.iloadN X0.here hx rfl (hb hby d_prog_82_method_13_27) rfl ?_
    exact kt)
  obtain ⟨fs, hr, hrun, hended, hW, hsame⟩ := X0.leave (v := some (.int (99 : Int32))) (fun h => by rw [Bd.returns] at h; cases h)
  refine ⟨_, _, hGl _ (kn3 _ (retI X0 hx Bd.returns (hb hby d_prog_82_method_13_28) hr)), hrun, hended, _, _, rfl, ?_, ⟨_, rfl⟩, hW, hsame.mono (by decide) (by decide)⟩
  show Q19_2 Z bB kB h0 n0 _ s₁.heap _
  rw [e0]
  exact ⟨rfl, Nf0, rfl⟩

theorem ef_rm21_2 (m : MethodId)  : entryFrame m #[(.int (99 : Int32))] 1 = mkF m 0 #[.val (.int (99 : Int32))] [] := by first | (simp [entryFrame, mkF, argsToLocals, Value.category]; done) | rfl
def Q21_2 (Z : State)  (h0 : Heap) (n0 : Nat) (v : Option Value) (h : Heap) (L : List Loc) : Prop := v = some (.int (99 : Int32)) ∧ Fr n0 L ∧ h = h0
set_option maxRecDepth 65536 in
set_option maxHeartbeats 40000000 in
theorem rm21_2 (l : Launch) (Z : State) (a0 : Array Value) (hw : ∀ d ∈ tables_1, d.before a0 Z = true) (ws : List Jvm.Cond)  (h0 : Heap) (n0 : Nat) (Z0 : n0 ≤ h0.size) :
    MetFree l (⟨"com/example/runs_to_scores/runstoscores/scoring/TopicDocnos", "spread", "(I)I"⟩ : MethodName) (head1 (Jvm.Cond.code (⟨"com/example/runs_to_scores/runstoscores/scoring/TopicDocnos", "spread", "(I)I"⟩ : MethodName) prog_82_method_14_code 1 (some .int) :: ws) ({ frames := 0, cells := 0, slots := 0, locals := 0 } : Room)) (fun a U => a = #[(.int (99 : Int32))] ∧ Z.Warmed39 U.vm ∧ U.heap = h0) (fun _ _ _ _ _ => True) (fun _ U o U' => ∃ v L, o = .returned v ∧ Q21_2 Z  h0 n0 v U'.heap L ∧ FrameEnd U o U' L ({ frames := 0, cells := 0, slots := 0, locals := 0 } : Room).cells ({ frames := 0, cells := 0, slots := 0, locals := 0 } : Room).slots) := by
  refine MetFree.of_bodySF (plainFor_of_name pn_1) hisR ?_
  intro p e s m args below meth c s₁ Bd hml0 hP hK
  obtain ⟨rfl, hZ, hh⟩ := hP
  have hx := Bd.exec
  have hby := Bd.bytes
  have hml : c.maxLocals = 1 := hml0
  have hown : s.vm.findClass "com/example/runs_to_scores/runstoscores/scoring/TopicDocnos" = some m.cls := findClass_of_methodNamed Bd.named
  have hnm := (name_of_methodNamed Bd.named Bd.method).1
  have X0 : Stand p l e ({ frames := 0, cells := 0, slots := 0, locals := 0 } : Room) s m #[(.int (99 : Int32))] below meth c s₁ [] 0 0 := Stand.of_body Bd
  have e0 : s₁.heap = h0 := by rw [← hh, Bd.state]; rfl
  have Nf0 := Fr.nil n0
  obtain ⟨Gl, hGl, kn0⟩ : ∃ Gl : State → Prop, (∀ t, Gl t → Steps p.tables e below (s₁.setTop (entryFrame m #[(.int (99 : Int32))] 1)) t) ∧ ∀ t, own_S p e below s₁ (mkF m 0 #[.val (.int (99 : Int32))] []) t → Gl t := ⟨fun t => Steps p.tables e below (s₁.setTop (entryFrame m #[(.int (99 : Int32))] 1)) t, fun _ k => k, fun t k => castTop (ef_rm21_2 m ) k⟩
  have kn1 : ∀ t, own_S p e below s₁ (mkF m 6 #[.val (.int (99 : Int32))] [(.int (99 : Int32))]) t → Gl t := fun t kt => kn0 t (by
    show own_S p e below s₁ (mkF m 0 #[.val (.int (99 : Int32))] []) _
    refine XS.iloadN X0.here hx rfl (hb hby d_prog_82_method_14_0) rfl ?_
    show own_S p e below s₁ (mkF m 1 #[.val (.int (99 : Int32))] [(.int (99 : Int32))]) _
    refine XS.iloadN X0.here hx rfl (hb hby d_prog_82_method_14_1) rfl ?_
    show own_S p e below s₁ (mkF m 2 #[.val (.int (99 : Int32))] [(.int (99 : Int32)), (.int (99 : Int32))]) _
    refine XS.bipush X0.here hx rfl (hb hby d_prog_82_method_14_2) ?_
    show own_S p e below s₁ (mkF m 4 #[.val (.int (99 : Int32))] [(.int (16 : Int32)), (.int (99 : Int32)), (.int (99 : Int32))]) _
    refine XS.iushr X0.here hx rfl (hb hby d_prog_82_method_14_4) rfl ?_
    rw [(by decide : (((99 : Int32).toUInt32 >>> ((16 : Int32) &&& 31).toUInt32).toInt32) = (0 : Int32))]
    show own_S p e below s₁ (mkF m 5 #[.val (.int (99 : Int32))] [(.int (0 : Int32)), (.int (99 : Int32))]) _
    refine XS.ixor X0.here hx rfl (hb hby d_prog_82_method_14_5) rfl ?_
    rw [(by decide : ((99 : Int32) ^^^ (0 : Int32)) = (99 : Int32))]
    exact kt)
  obtain ⟨fs, hr, hrun, hended, hW, hsame⟩ := X0.leave (v := some (.int (99 : Int32))) (fun h => by rw [Bd.returns] at h; cases h)
  refine ⟨_, _, hGl _ (kn1 _ (retI X0 hx Bd.returns (hb hby d_prog_82_method_14_6) hr)), hrun, hended, _, _, rfl, ?_, ⟨_, rfl⟩, hW, hsame.mono (by decide) (by decide)⟩
  show Q21_2 Z  h0 n0 _ s₁.heap _
  rw [e0]
  exact ⟨rfl, Nf0, rfl⟩

theorem ef_rm20_2 (m : MethodId) (x0 : Addr) (x1 : Addr) : entryFrame m #[(.ref x0), (.ref x1), (.int (2 : Int32)), (.int (3 : Int32)), (.int (99 : Int32))] 8 = mkF m 0 #[.val (.ref x0), .val (.ref x1), .val (.int (2 : Int32)), .val (.int (3 : Int32)), .val (.int (99 : Int32)), .unset, .unset, .unset] [] := by first | (simp [entryFrame, mkF, argsToLocals, Value.category]; done) | rfl
def Q20_2 (Z : State) (a1 : Addr) (bB : Addr) (bS : Addr) (kS : ClassId) (h0 : Heap) (n0 : Nat) (v : Option Value) (h : Heap) (L : List Loc) : Prop := v = some (.int (3 : Int32)) ∧ Fr n0 L ∧ h = h0
set_option maxRecDepth 65536 in
set_option maxHeartbeats 40000000 in
theorem rm20_2 (l : Launch) (Z : State) (a0 : Array Value) (hw : ∀ d ∈ tables_1, d.before a0 Z = true) (ws : List Jvm.Cond) (a1 : Addr) (bB : Addr) (bS : Addr) (kS : ClassId) (h0 : Heap) (n0 : Nat) (Z0 : n0 ≤ h0.size) (F1 : Fld Z h0 a1 "com/example/runs_to_scores/runstoscores/scoring/TopicDocnos" "slots" "[I" (.ref bS)) (A1 : Arv Z h0 bS kS .int (16 : Int32) [(.int (0 : Int32)), (.int (1 : Int32)), (.int (2 : Int32)), (.int (0 : Int32)), (.int (0 : Int32)), (.int (0 : Int32)), (.int (0 : Int32)), (.int (0 : Int32)), (.int (0 : Int32)), (.int (0 : Int32)), (.int (0 : Int32)), (.int (0 : Int32)), (.int (0 : Int32)), (.int (0 : Int32)), (.int (0 : Int32)), (.int (0 : Int32))] (.int (0 : Int32))) :
    MetFree l (⟨"com/example/runs_to_scores/runstoscores/scoring/TopicDocnos", "slotOf", "([BIII)I"⟩ : MethodName) (head1 (Jvm.Cond.code (⟨"com/example/runs_to_scores/runstoscores/scoring/TopicDocnos", "slotOf", "([BIII)I"⟩ : MethodName) prog_82_method_11_code 8 (some .int) :: ws) ({ frames := 1, cells := 0, slots := 0, locals := 12 } : Room)) (fun a U => a = #[(.ref a1), (.ref bB), (.int (2 : Int32)), (.int (3 : Int32)), (.int (99 : Int32))] ∧ Z.Warmed39 U.vm ∧ U.heap = h0) (fun _ _ _ _ _ => True) (fun _ U o U' => ∃ v L, o = .returned v ∧ Q20_2 Z a1 bB bS kS h0 n0 v U'.heap L ∧ FrameEnd U o U' L ({ frames := 1, cells := 0, slots := 0, locals := 12 } : Room).cells ({ frames := 1, cells := 0, slots := 0, locals := 12 } : Room).slots) := by
  refine MetFree.of_bodySF (plainFor_of_name pn_1) hisR ?_
  intro p e s m args below meth c s₁ Bd hml0 hP hK
  obtain ⟨rfl, hZ, hh⟩ := hP
  have hx := Bd.exec
  have hby := Bd.bytes
  have hml : c.maxLocals = 8 := hml0
  have hown : s.vm.findClass "com/example/runs_to_scores/runstoscores/scoring/TopicDocnos" = some m.cls := findClass_of_methodNamed Bd.named
  have hnm := (name_of_methodNamed Bd.named Bd.method).1
  have X0 : Stand p l e ({ frames := 1, cells := 0, slots := 0, locals := 12 } : Room) s m #[(.ref a1), (.ref bB), (.int (2 : Int32)), (.int (3 : Int32)), (.int (99 : Int32))] below meth c s₁ [] 0 0 := Stand.of_body Bd
  have e0 : s₁.heap = h0 := by rw [← hh, Bd.state]; rfl
  have Nf0 := Fr.nil n0
  obtain ⟨Gl, hGl, kn0⟩ : ∃ Gl : State → Prop, (∀ t, Gl t → Steps p.tables e below (s₁.setTop (entryFrame m #[(.ref a1), (.ref bB), (.int (2 : Int32)), (.int (3 : Int32)), (.int (99 : Int32))] 8)) t) ∧ ∀ t, own_S p e below s₁ (mkF m 0 #[.val (.ref a1), .val (.ref bB), .val (.int (2 : Int32)), .val (.int (3 : Int32)), .val (.int (99 : Int32)), .unset, .unset, .unset] []) t → Gl t := ⟨fun t => Steps p.tables e below (s₁.setTop (entryFrame m #[(.ref a1), (.ref bB), (.int (2 : Int32)), (.int (3 : Int32)), (.int (99 : Int32))] 8)) t, fun _ k => k, fun t k => castTop (ef_rm20_2 m a1 bB) k⟩
  have kn1 : ∀ t, own_S p e below s₁ (mkF m 1 #[.val (.ref a1), .val (.ref bB), .val (.int (2 : Int32)), .val (.int (3 : Int32)), .val (.int (99 : Int32)), .unset, .unset, .unset] [(.ref a1)]) t → Gl t := fun t kt => kn0 t (by
    show own_S p e below s₁ (mkF m 0 #[.val (.ref a1), .val (.ref bB), .val (.int (2 : Int32)), .val (.int (3 : Int32)), .val (.int (99 : Int32)), .unset, .unset, .unset] []) _
    refine XS.aloadN X0.here hx rfl (hb hby d_prog_82_method_11_0) rfl rfl ?_
    exact kt)
  obtain ⟨T2, X2, e2, st2⟩ := getF X0 hx hZ hown (host := "") (Or.inl (hw _ (List.mem_of_getElem? (i := 40) rfl))) Via.refl e0 F1 (g := (mkF m 1 #[.val (.ref a1), .val (.ref bB), .val (.int (2 : Int32)), .val (.int (3 : Int32)), .val (.int (99 : Int32)), .unset, .unset, .unset] [(.ref a1)])) rfl rfl (hb hby d_prog_82_method_11_1)
  have kn3 : ∀ t, own_S p e below T2 (mkF m 4 #[.val (.ref a1), .val (.ref bB), .val (.int (2 : Int32)), .val (.int (3 : Int32)), .val (.int (99 : Int32)), .unset, .unset, .unset] [(.ref bS)]) t → Gl t := fun t kt => kn1 t (st2 _ kt)
  obtain ⟨cl4, Ar4, -, Sz4, Ng4, -, -⟩ := id A1
  have kn5 : ∀ t, own_S p e below T2 (mkF m 11 #[.val (.ref a1), .val (.ref bB), .val (.int (2 : Int32)), .val (.int (3 : Int32)), .val (.int (99 : Int32)), .val (.int (15 : Int32)), .unset, .unset] [(.int (99 : Int32))]) t → Gl t := fun t kt => kn3 t (by
    show own_S p e below T2 (mkF m 4 #[.val (.ref a1), .val (.ref bB), .val (.int (2 : Int32)), .val (.int (3 : Int32)), .val (.int (99 : Int32)), .unset, .unset, .unset] [(.ref bS)]) _
    refine X2.arraylength hx (by rw [e2]; exact Ar4.1) (State.isArrayOf_alike hZ.alike Ar4.2.1) (g := (mkF m 4 #[.val (.ref a1), .val (.ref bB), .val (.int (2 : Int32)), .val (.int (3 : Int32)), .val (.int (99 : Int32)), .unset, .unset, .unset] [(.ref bS)])) rfl rfl (hb hby d_prog_82_method_11_4) _ ?_
    rw [len_of Sz4 Ng4]
    show own_S p e below T2 (mkF m 5 #[.val (.ref a1), .val (.ref bB), .val (.int (2 : Int32)), .val (.int (3 : Int32)), .val (.int (99 : Int32)), .unset, .unset, .unset] [(.int (16 : Int32))]) _
    refine XS.iconst X2.here hx rfl (hb hby d_prog_82_method_11_5) ?_
    show own_S p e below T2 (mkF m 6 #[.val (.ref a1), .val (.ref bB), .val (.int (2 : Int32)), .val (.int (3 : Int32)), .val (.int (99 : Int32)), .unset, .unset, .unset] [(.int (1 : Int32)), (.int (16 : Int32))]) _
    refine XS.isub X2.here hx rfl (hb hby d_prog_82_method_11_6) rfl ?_
    rw [(by decide : ((16 : Int32) - (1 : Int32)) = (15 : Int32))]
    show own_S p e below T2 (mkF m 7 #[.val (.ref a1), .val (.ref bB), .val (.int (2 : Int32)), .val (.int (3 : Int32)), .val (.int (99 : Int32)), .unset, .unset, .unset] [(.int (15 : Int32))]) _
    refine XS.istore X2.here hx rfl (hb hby d_prog_82_method_11_7) rfl (l' := #[.val (.ref a1), .val (.ref bB), .val (.int (2 : Int32)), .val (.int (3 : Int32)), .val (.int (99 : Int32)), .val (.int (15 : Int32)), .unset, .unset]) rfl ?_
    show own_S p e below T2 (mkF m 9 #[.val (.ref a1), .val (.ref bB), .val (.int (2 : Int32)), .val (.int (3 : Int32)), .val (.int (99 : Int32)), .val (.int (15 : Int32)), .unset, .unset] []) _
    refine XS.iload X2.here hx rfl (hb hby d_prog_82_method_11_9) rfl ?_
    exact kt)
  obtain ⟨_, _, ⟨T6, L6, cc6, ss6⟩, -, X6, ⟨Lc6, hQ6, l6, y6, z6⟩, st6⟩ := Jvm.LawKit.callS X2 hx (y := (⟨"com/example/runs_to_scores/runstoscores/scoring/TopicDocnos", "spread", "(I)I"⟩ : MethodName)) hown (mvT hZ (hw _ (List.mem_of_getElem? (i := 123) rfl))) (mvT hZ (hw _ (List.mem_of_getElem? (i := 124) rfl))) (mvT hZ (hw _ (List.mem_of_getElem? (i := 11) rfl))) (mvT hZ (hw _ (List.mem_of_getElem? (i := 125) rfl))) (by decide) (backOf (W := 0) (rm21_2 l Z a0 hw []   h0 n0 Z0 ) hZ (hw _ (List.mem_of_getElem? (i := 125) rfl)) (hw _ (List.mem_of_getElem? (i := 11) rfl)) (by decide) (by decide)) (g := (mkF m 11 #[.val (.ref a1), .val (.ref bB), .val (.int (2 : Int32)), .val (.int (3 : Int32)), .val (.int (99 : Int32)), .val (.int (15 : Int32)), .unset, .unset] [(.int (99 : Int32))])) rfl (by rw [hml]; rfl) (argsL := [(.int (99 : Int32))]) (rest := []) (lenOf pd_0 rfl) rfl (by show 2 * 0 + _ ≤ _; exact Nat.le_of_eq rfl) (hb hby d_prog_82_method_11_11) (fun _ _ => ⟨rfl, e2, (by decide : 0 + 0 ≤ _), (by decide : 0 + 0 ≤ _)⟩)
  dsimp only [Pt.U, Pt.locs, Pt.cells, Pt.slots] at X6 l6 y6 z6 st6 hQ6
  subst l6 y6 z6
  obtain ⟨rfl, Nq6, eq6⟩ := hQ6
  have Nf6 := Fr.app Nf0 Nq6
  have kn7 : ∀ t, own_S p e below T6 (mkF m 14 #[.val (.ref a1), .val (.ref bB), .val (.int (2 : Int32)), .val (.int (3 : Int32)), .val (.int (99 : Int32)), .val (.int (15 : Int32)), .unset, .unset] [(.int (99 : Int32))]) t → Gl t := fun t kt => kn5 t (st6 _ kt)
  have kn8 : ∀ t, own_S p e below T6 (mkF m 20 #[.val (.ref a1), .val (.ref bB), .val (.int (2 : Int32)), .val (.int (3 : Int32)), .val (.int (99 : Int32)), .val (.int (15 : Int32)), .val (.int (3 : Int32)), .unset] [(.ref a1)]) t → Gl t := fun t kt => kn7 t (by
    show own_S p e below T6 (mkF m 14 #[.val (.ref a1), .val (.ref bB), .val (.int (2 : Int32)), .val (.int (3 : Int32)), .val (.int (99 : Int32)), .val (.int (15 : Int32)), .unset, .unset] [(.int (99 : Int32))]) _
    refine XS.iload X6.here hx rfl (hb hby d_prog_82_method_11_14) rfl ?_
    show own_S p e below T6 (mkF m 16 #[.val (.ref a1), .val (.ref bB), .val (.int (2 : Int32)), .val (.int (3 : Int32)), .val (.int (99 : Int32)), .val (.int (15 : Int32)), .unset, .unset] [(.int (15 : Int32)), (.int (99 : Int32))]) _
    refine XS.iand X6.here hx rfl (hb hby d_prog_82_method_11_16) rfl ?_
    rw [(by decide : ((99 : Int32) &&& (15 : Int32)) = (3 : Int32))]
    show own_S p e below T6 (mkF m 17 #[.val (.ref a1), .val (.ref bB), .val (.int (2 : Int32)), .val (.int (3 : Int32)), .val (.int (99 : Int32)), .val (.int (15 : Int32)), .unset, .unset] [(.int (3 : Int32))]) _
    refine XS.istore X6.here hx rfl (hb hby d_prog_82_method_11_17) rfl (l' := #[.val (.ref a1), .val (.ref bB), .val (.int (2 : Int32)), .val (.int (3 : Int32)), .val (.int (99 : Int32)), .val (.int (15 : Int32)), .val (.int (3 : Int32)), .unset]) rfl ?_
    show own_S p e below T6 (mkF m 19 #[.val (.ref a1), .val (.ref bB), .val (.int (2 : Int32)), .val (.int (3 : Int32)), .val (.int (99 : Int32)), .val (.int (15 : Int32)), .val (.int (3 : Int32)), .unset] []) _
    refine XS.aloadN X6.here hx rfl (hb hby d_prog_82_method_11_19) rfl rfl ?_
    exact kt)
  obtain ⟨T9, X9, e9, st9⟩ := getF X6 hx hZ hown (host := "") (Or.inl (hw _ (List.mem_of_getElem? (i := 40) rfl))) Via.refl eq6 F1 (g := (mkF m 20 #[.val (.ref a1), .val (.ref bB), .val (.int (2 : Int32)), .val (.int (3 : Int32)), .val (.int (99 : Int32)), .val (.int (15 : Int32)), .val (.int (3 : Int32)), .unset] [(.ref a1)])) rfl rfl (hb hby d_prog_82_method_11_20)
  have kn10 : ∀ t, own_S p e below T9 (mkF m 23 #[.val (.ref a1), .val (.ref bB), .val (.int (2 : Int32)), .val (.int (3 : Int32)), .val (.int (99 : Int32)), .val (.int (15 : Int32)), .val (.int (3 : Int32)), .unset] [(.ref bS)]) t → Gl t := fun t kt => kn8 t (st9 _ kt)
  have kn11 : ∀ t, own_S p e below T9 (mkF m 25 #[.val (.ref a1), .val (.ref bB), .val (.int (2 : Int32)), .val (.int (3 : Int32)), .val (.int (99 : Int32)), .val (.int (15 : Int32)), .val (.int (3 : Int32)), .unset] [(.int (3 : Int32)), (.ref bS)]) t → Gl t := fun t kt => kn10 t (by
    show own_S p e below T9 (mkF m 23 #[.val (.ref a1), .val (.ref bB), .val (.int (2 : Int32)), .val (.int (3 : Int32)), .val (.int (99 : Int32)), .val (.int (15 : Int32)), .val (.int (3 : Int32)), .unset] [(.ref bS)]) _
    refine XS.iload X9.here hx rfl (hb hby d_prog_82_method_11_23) rfl ?_
    exact kt)
  obtain ⟨cl12, Ar12, q12, Sz12, Ng12, Hs12, Gs12⟩ := id A1
  have hin12 : ¬ ((3 : Int32) < 0 ∨ cl12.slots.size ≤ ((3 : Int32)).toNatClampNeg) := inb_of Sz12 ⟨by decide, by decide⟩
  have hat12 : cl12.slots[((3 : Int32)).toNatClampNeg]? = some (.int (0 : Int32)) := Hs12.at hin12 rfl
  have kn13 : ∀ t, own_S p e below T9 (mkF m 95 #[.val (.ref a1), .val (.ref bB), .val (.int (2 : Int32)), .val (.int (3 : Int32)), .val (.int (99 : Int32)), .val (.int (15 : Int32)), .val (.int (3 : Int32)), .unset] [(.int (3 : Int32))]) t → Gl t := fun t kt => kn11 t (by
    show own_S p e below T9 (mkF m 25 #[.val (.ref a1), .val (.ref bB), .val (.int (2 : Int32)), .val (.int (3 : Int32)), .val (.int (99 : Int32)), .val (.int (15 : Int32)), .val (.int (3 : Int32)), .unset] [(.int (3 : Int32)), (.ref bS)]) _
    refine X9.iaload hx (j := (3 : Int32)) (v := (.int (0 : Int32))) (by rw [e9]; exact Ar12.1) (State.isArrayOf_alike hZ.alike Ar12.2.1) Ar12.2.2 hin12 hat12 (g := (mkF m 25 #[.val (.ref a1), .val (.ref bB), .val (.int (2 : Int32)), .val (.int (3 : Int32)), .val (.int (99 : Int32)), .val (.int (15 : Int32)), .val (.int (3 : Int32)), .unset] [(.int (3 : Int32)), (.ref bS)])) rfl rfl (hb hby d_prog_82_method_11_25) _ ?_
    show own_S p e below T9 (mkF m 26 #[.val (.ref a1), .val (.ref bB), .val (.int (2 : Int32)), .val (.int (3 : Int32)), .val (.int (99 : Int32)), .val (.int (15 : Int32)), .val (.int (3 : Int32)), .unset] [(.int (0 : Int32))]) _
    refine XS.ifYes X9.here hx rfl (pc0 := 26) (pc' := 93) rfl (hb hby d_prog_82_method_11_26) rfl ((if0 _ _).trans (teq (by decide : (0 : Int32) = (0 : Int32))).1) (by decide) (by decide) ?_
    show own_S p e below T9 (mkF m 93 #[.val (.ref a1), .val (.ref bB), .val (.int (2 : Int32)), .val (.int (3 : Int32)), .val (.int (99 : Int32)), .val (.int (15 : Int32)), .val (.int (3 : Int32)), .unset] []) _
    refine XS.iload X9.here hx rfl (hb hby d_prog_82_method_11_93) rfl ?_
    exact kt)
  obtain ⟨fs, hr, hrun, hended, hW, hsame⟩ := X9.leave (v := some (.int (3 : Int32))) (fun h => by rw [Bd.returns] at h; cases h)
  refine ⟨_, _, hGl _ (kn13 _ (retI X9 hx Bd.returns (hb hby d_prog_82_method_11_95) hr)), hrun, hended, _, _, rfl, ?_, ⟨_, rfl⟩, hW, hsame.mono (by decide) (by decide)⟩
  show Q20_2 Z a1 bB bS kS h0 n0 _ T9.heap _
  rw [e9]
  exact ⟨rfl, Nf6, rfl⟩

theorem d_prog_82_method_4_0 : decode prog_82_method_4_code 0 = .ok (.aload_n 0, 1) := by decide +kernel
theorem d_prog_82_method_4_1 : decode prog_82_method_4_code 1 = .ok (.aload_n 0, 1) := by decide +kernel
theorem d_prog_82_method_4_2 : decode prog_82_method_4_code 2 = .ok (.getfield 7, 3) := by decide +kernel
theorem d_prog_82_method_4_5 : decode prog_82_method_4_code 5 = .ok (.invokevirtual 11, 3) := by decide +kernel
theorem d_prog_82_method_4_8 : decode prog_82_method_4_code 8 = .ok (.istore_n 2, 1) := by decide +kernel
theorem d_prog_82_method_4_9 : decode prog_82_method_4_code 9 = .ok (.iload_n 2, 1) := by decide +kernel
theorem d_prog_82_method_4_10 : decode prog_82_method_4_code 10 = .ok (.aload_n 1, 1) := by decide +kernel
theorem d_prog_82_method_4_11 : decode prog_82_method_4_code 11 = .ok (.invokeinterface 45 1, 5) := by decide +kernel
theorem d_prog_82_method_4_16 : decode prog_82_method_4_code 16 = .ok (.iadd, 1) := by decide +kernel
theorem d_prog_82_method_4_17 : decode prog_82_method_4_code 17 = .ok (.istore_n 3, 1) := by decide +kernel
theorem d_prog_82_method_4_18 : decode prog_82_method_4_code 18 = .ok (.iload_n 3, 1) := by decide +kernel
theorem d_prog_82_method_4_19 : decode prog_82_method_4_code 19 = .ok (.aload_n 0, 1) := by decide +kernel
theorem d_prog_82_method_4_20 : decode prog_82_method_4_code 20 = .ok (.getfield 26, 3) := by decide +kernel
theorem d_prog_82_method_4_23 : decode prog_82_method_4_code 23 = .ok (.arraylength, 1) := by decide +kernel
theorem d_prog_82_method_4_24 : decode prog_82_method_4_code 24 = .ok (.if_icmp .le 25, 3) := by decide +kernel
theorem d_prog_82_method_4_49 : decode prog_82_method_4_code 49 = .ok (.aload_n 1, 1) := by decide +kernel
theorem d_prog_82_method_4_50 : decode prog_82_method_4_code 50 = .ok (.aload_n 0, 1) := by decide +kernel
theorem d_prog_82_method_4_51 : decode prog_82_method_4_code 51 = .ok (.getfield 26, 3) := by decide +kernel
theorem d_prog_82_method_4_54 : decode prog_82_method_4_code 54 = .ok (.iload_n 2, 1) := by decide +kernel
theorem d_prog_82_method_4_55 : decode prog_82_method_4_code 55 = .ok (.invokestatic 57, 3) := by decide +kernel
theorem d_prog_82_method_4_58 : decode prog_82_method_4_code 58 = .ok (.ifCond .ne 20, 3) := by decide +kernel
theorem d_prog_82_method_4_78 : decode prog_82_method_4_code 78 = .ok (.aload_n 0, 1) := by decide +kernel
theorem d_prog_82_method_4_79 : decode prog_82_method_4_code 79 = .ok (.getfield 26, 3) := by decide +kernel
theorem d_prog_82_method_4_82 : decode prog_82_method_4_code 82 = .ok (.iload_n 2, 1) := by decide +kernel
theorem d_prog_82_method_4_83 : decode prog_82_method_4_code 83 = .ok (.iload_n 3, 1) := by decide +kernel
theorem d_prog_82_method_4_84 : decode prog_82_method_4_code 84 = .ok (.invokestatic 76, 3) := by decide +kernel
theorem d_prog_82_method_4_87 : decode prog_82_method_4_code 87 = .ok (.istore 4, 2) := by decide +kernel
theorem d_prog_82_method_4_89 : decode prog_82_method_4_code 89 = .ok (.aload_n 0, 1) := by decide +kernel
theorem d_prog_82_method_4_90 : decode prog_82_method_4_code 90 = .ok (.aload_n 0, 1) := by decide +kernel
theorem d_prog_82_method_4_91 : decode prog_82_method_4_code 91 = .ok (.getfield 26, 3) := by decide +kernel
theorem d_prog_82_method_4_94 : decode prog_82_method_4_code 94 = .ok (.iload_n 2, 1) := by decide +kernel
theorem d_prog_82_method_4_95 : decode prog_82_method_4_code 95 = .ok (.iload_n 3, 1) := by decide +kernel
theorem d_prog_82_method_4_96 : decode prog_82_method_4_code 96 = .ok (.iload 4, 2) := by decide +kernel
theorem d_prog_82_method_4_98 : decode prog_82_method_4_code 98 = .ok (.invokevirtual 80, 3) := by decide +kernel
theorem d_prog_82_method_4_101 : decode prog_82_method_4_code 101 = .ok (.istore 5, 2) := by decide +kernel
theorem d_prog_82_method_4_103 : decode prog_82_method_4_code 103 = .ok (.aload_n 0, 1) := by decide +kernel
theorem d_prog_82_method_4_104 : decode prog_82_method_4_code 104 = .ok (.getfield 42, 3) := by decide +kernel
theorem d_prog_82_method_4_107 : decode prog_82_method_4_code 107 = .ok (.iload 5, 2) := by decide +kernel
theorem d_prog_82_method_4_109 : decode prog_82_method_4_code 109 = .ok (.iaload, 1) := by decide +kernel
theorem d_prog_82_method_4_110 : decode prog_82_method_4_code 110 = .ok (.ifCond .eq 5, 3) := by decide +kernel
theorem d_prog_82_method_4_115 : decode prog_82_method_4_code 115 = .ok (.aload_n 0, 1) := by decide +kernel
theorem d_prog_82_method_4_116 : decode prog_82_method_4_code 116 = .ok (.getfield 7, 3) := by decide +kernel
theorem d_prog_82_method_4_119 : decode prog_82_method_4_code 119 = .ok (.aload_n 0, 1) := by decide +kernel
theorem d_prog_82_method_4_120 : decode prog_82_method_4_code 120 = .ok (.getfield 30, 3) := by decide +kernel
theorem d_prog_82_method_4_123 : decode prog_82_method_4_code 123 = .ok (.arraylength, 1) := by decide +kernel
theorem d_prog_82_method_4_124 : decode prog_82_method_4_code 124 = .ok (.if_icmp .ne 37, 3) := by decide +kernel
theorem d_prog_82_method_4_161 : decode prog_82_method_4_code 161 = .ok (.aload_n 0, 1) := by decide +kernel
theorem d_prog_82_method_4_162 : decode prog_82_method_4_code 162 = .ok (.getfield 30, 3) := by decide +kernel
theorem d_prog_82_method_4_165 : decode prog_82_method_4_code 165 = .ok (.aload_n 0, 1) := by decide +kernel
theorem d_prog_82_method_4_166 : decode prog_82_method_4_code 166 = .ok (.getfield 7, 3) := by decide +kernel
theorem d_prog_82_method_4_169 : decode prog_82_method_4_code 169 = .ok (.iload_n 3, 1) := by decide +kernel
theorem d_prog_82_method_4_170 : decode prog_82_method_4_code 170 = .ok (.iastore, 1) := by decide +kernel
theorem d_prog_82_method_4_171 : decode prog_82_method_4_code 171 = .ok (.aload_n 0, 1) := by decide +kernel
theorem d_prog_82_method_4_172 : decode prog_82_method_4_code 172 = .ok (.getfield 34, 3) := by decide +kernel
theorem d_prog_82_method_4_175 : decode prog_82_method_4_code 175 = .ok (.aload_n 0, 1) := by decide +kernel
theorem d_prog_82_method_4_176 : decode prog_82_method_4_code 176 = .ok (.getfield 7, 3) := by decide +kernel
theorem d_prog_82_method_4_179 : decode prog_82_method_4_code 179 = .ok (.iload 4, 2) := by decide +kernel
theorem d_prog_82_method_4_181 : decode prog_82_method_4_code 181 = .ok (.iastore, 1) := by decide +kernel
theorem d_prog_82_method_4_182 : decode prog_82_method_4_code 182 = .ok (.aload_n 0, 1) := by decide +kernel
theorem d_prog_82_method_4_183 : decode prog_82_method_4_code 183 = .ok (.dup, 1) := by decide +kernel
theorem d_prog_82_method_4_184 : decode prog_82_method_4_code 184 = .ok (.getfield 7, 3) := by decide +kernel
theorem d_prog_82_method_4_187 : decode prog_82_method_4_code 187 = .ok (.iconst 1, 1) := by decide +kernel
theorem d_prog_82_method_4_188 : decode prog_82_method_4_code 188 = .ok (.iadd, 1) := by decide +kernel
theorem d_prog_82_method_4_189 : decode prog_82_method_4_code 189 = .ok (.putfield 7, 3) := by decide +kernel
theorem d_prog_82_method_4_192 : decode prog_82_method_4_code 192 = .ok (.aload_n 0, 1) := by decide +kernel
theorem d_prog_82_method_4_193 : decode prog_82_method_4_code 193 = .ok (.getfield 42, 3) := by decide +kernel
theorem d_prog_82_method_4_196 : decode prog_82_method_4_code 196 = .ok (.iload 5, 2) := by decide +kernel
theorem d_prog_82_method_4_198 : decode prog_82_method_4_code 198 = .ok (.aload_n 0, 1) := by decide +kernel
theorem d_prog_82_method_4_199 : decode prog_82_method_4_code 199 = .ok (.getfield 7, 3) := by decide +kernel
theorem d_prog_82_method_4_202 : decode prog_82_method_4_code 202 = .ok (.iastore, 1) := by decide +kernel
theorem d_prog_82_method_4_203 : decode prog_82_method_4_code 203 = .ok (.aload_n 0, 1) := by decide +kernel
theorem d_prog_82_method_4_204 : decode prog_82_method_4_code 204 = .ok (.getfield 7, 3) := by decide +kernel
theorem d_prog_82_method_4_207 : decode prog_82_method_4_code 207 = .ok (.iconst 2, 1) := by decide +kernel
theorem d_prog_82_method_4_208 : decode prog_82_method_4_code 208 = .ok (.imul, 1) := by decide +kernel
theorem d_prog_82_method_4_209 : decode prog_82_method_4_code 209 = .ok (.aload_n 0, 1) := by decide +kernel
theorem d_prog_82_method_4_210 : decode prog_82_method_4_code 210 = .ok (.getfield 42, 3) := by decide +kernel
theorem d_prog_82_method_4_213 : decode prog_82_method_4_code 213 = .ok (.arraylength, 1) := by decide +kernel
theorem d_prog_82_method_4_214 : decode prog_82_method_4_code 214 = .ok (.if_icmp .le 7, 3) := by decide +kernel
theorem d_prog_82_method_4_221 : decode prog_82_method_4_code 221 = .ok (.aload_n 0, 1) := by decide +kernel
theorem d_prog_82_method_4_222 : decode prog_82_method_4_code 222 = .ok (.getfield 7, 3) := by decide +kernel
theorem d_prog_82_method_4_225 : decode prog_82_method_4_code 225 = .ok (.iconst 1, 1) := by decide +kernel
theorem d_prog_82_method_4_226 : decode prog_82_method_4_code 226 = .ok (.isub, 1) := by decide +kernel
theorem d_prog_82_method_4_227 : decode prog_82_method_4_code 227 = .ok (.ireturn, 1) := by decide +kernel
theorem pd_6 : parseMethodDescriptor "(Ljava/lang/CharSequence;[BI)Z" = some ⟨[(.object "java/lang/CharSequence"), (.array .byte), .int], some .boolean⟩ := by decide +kernel
theorem pd_7 : parseMethodDescriptor "([BII)I" = some ⟨[(.array .byte), .int, .int], some .int⟩ := by decide +kernel
theorem pd_8 : parseMethodDescriptor "([BIII)I" = some ⟨[(.array .byte), .int, .int, .int], some .int⟩ := by decide +kernel
theorem ef_rm9_0 (m : MethodId) (x0 : Addr) (x1 : Addr) : entryFrame m #[(.ref x0), (.ref x1)] 6 = mkF m 0 #[.val (.ref x0), .val (.ref x1), .unset, .unset, .unset, .unset] [] := by first | (simp [entryFrame, mkF, argsToLocals, Value.category]; done) | rfl
def Q9_0 (Z : State) (d1 : Addr) (x1 : Addr) (bB : Addr) (bE : Addr) (bH : Addr) (bS : Addr) (kB : ClassId) (kE : ClassId) (kH : ClassId) (kS : ClassId) (t1 : Addr) (k1 : ClassId) (G1 : Int32) (G3 : Value) (h0 : Heap) (n0 : Nat) (v : Option Value) (h : Heap) (L : List Loc) : Prop := v = some (.int (0 : Int32)) ∧ Fr n0 L ∧ Keep h0 h [d1, bB, bE, bH, bS] ∧ Exa Z h d1 "com/example/runs_to_scores/runstoscores/scoring/TopicDocnos" ∧ Fld Z h d1 "com/example/runs_to_scores/runstoscores/scoring/TopicDocnos" "bytes" "[B" (.ref bB) ∧ Fld Z h d1 "com/example/runs_to_scores/runstoscores/scoring/TopicDocnos" "ends" "[I" (.ref bE) ∧ Fld Z h d1 "com/example/runs_to_scores/runstoscores/scoring/TopicDocnos" "hashes" "[I" (.ref bH) ∧ Fld Z h d1 "com/example/runs_to_scores/runstoscores/scoring/TopicDocnos" "slots" "[I" (.ref bS) ∧ Fld Z h d1 "com/example/runs_to_scores/runstoscores/scoring/TopicDocnos" "size" "I" (.int (1 : Int32)) ∧ Arv Z h bB kB .byte (64 : Int32) ((.int (97 : Int32)) :: (.int (0 : Int32)) :: (.int (0 : Int32)) :: (.int (0 : Int32)) :: (.int (0 : Int32)) :: (.int (0 : Int32)) :: (.int (0 : Int32)) :: (.int (0 : Int32)) :: (.int (0 : Int32)) :: (.int (0 : Int32)) :: (.int (0 : Int32)) :: (.int (0 : Int32)) :: (.int (0 : Int32)) :: (.int (0 : Int32)) :: (.int (0 : Int32)) :: (.int (0 : Int32)) :: (.int (0 : Int32)) :: (.int (0 : Int32)) :: (.int (0 : Int32)) :: (.int (0 : Int32)) :: (.int (0 : Int32)) :: (.int (0 : Int32)) :: (.int (0 : Int32)) :: (.int (0 : Int32)) :: (.int (0 : Int32)) :: (.int (0 : Int32)) :: (.int (0 : Int32)) :: (.int (0 : Int32)) :: (.int (0 : Int32)) :: (.int (0 : Int32)) :: (.int (0 : Int32)) :: (.int (0 : Int32)) :: (.int (0 : Int32)) :: (.int (0 : Int32)) :: (.int (0 : Int32)) :: (.int (0 : Int32)) :: (.int (0 : Int32)) :: (.int (0 : Int32)) :: (.int (0 : Int32)) :: (.int (0 : Int32)) :: (.int (0 : Int32)) :: (.int (0 : Int32)) :: (.int (0 : Int32)) :: (.int (0 : Int32)) :: (.int (0 : Int32)) :: (.int (0 : Int32)) :: (.int (0 : Int32)) :: (.int (0 : Int32)) :: (.int (0 : Int32)) :: (.int (0 : Int32)) :: (.int (0 : Int32)) :: (.int (0 : Int32)) :: (.int (0 : Int32)) :: (.int (0 : Int32)) :: (.int (0 : Int32)) :: (.int (0 : Int32)) :: (.int (0 : Int32)) :: (.int (0 : Int32)) :: (.int (0 : Int32)) :: (.int (0 : Int32)) :: (.int (0 : Int32)) :: (.int (0 : Int32)) :: (.int (0 : Int32)) :: (.int (0 : Int32)) :: []) (.int (0 : Int32)) ∧ Arv Z h bE kE .int (8 : Int32) [(.int (1 : Int32)), (.int (0 : Int32)), (.int (0 : Int32)), (.int (0 : Int32)), (.int (0 : Int32)), (.int (0 : Int32)), (.int (0 : Int32)), (.int (0 : Int32))] (.int (0 : Int32)) ∧ Arv Z h bH kH .int (8 : Int32) [(.int (97 : Int32)), (.int (0 : Int32)), (.int (0 : Int32)), (.int (0 : Int32)), (.int (0 : Int32)), (.int (0 : Int32)), (.int (0 : Int32)), (.int (0 : Int32))] (.int (0 : Int32)) ∧ Arv Z h bS kS .int (16 : Int32) [(.int (0 : Int32)), (.int (1 : Int32)), (.int (0 : Int32)), (.int (0 : Int32)), (.int (0 : Int32)), (.int (0 : Int32)), (.int (0 : Int32)), (.int (0 : Int32)), (.int (0 : Int32)), (.int (0 : Int32)), (.int (0 : Int32)), (.int (0 : Int32)), (.int (0 : Int32)), (.int (0 : Int32)), (.int (0 : Int32)), (.int (0 : Int32))] (.int (0 : Int32))
set_option maxRecDepth 65536 in
set_option maxHeartbeats 40000000 in
theorem rm9_0 (l : Launch) (Z : State) (a0 : Array Value) (hw : ∀ d ∈ tables_1, d.before a0 Z = true) (ws : List Jvm.Cond) (d1 : Addr) (x1 : Addr) (bB : Addr) (bE : Addr) (bH : Addr) (bS : Addr) (kB : ClassId) (kE : ClassId) (kH : ClassId) (kS : ClassId) (t1 : Addr) (k1 : ClassId) (G1 : Int32) (G3 : Value) (h0 : Heap) (n0 : Nat) (Z0 : n0 ≤ h0.size) (ED : Exa Z h0 d1 "com/example/runs_to_scores/runstoscores/scoring/TopicDocnos") (FD0 : Fld Z h0 d1 "com/example/runs_to_scores/runstoscores/scoring/TopicDocnos" "bytes" "[B" (.ref bB)) (FD1 : Fld Z h0 d1 "com/example/runs_to_scores/runstoscores/scoring/TopicDocnos" "ends" "[I" (.ref bE)) (FD2 : Fld Z h0 d1 "com/example/runs_to_scores/runstoscores/scoring/TopicDocnos" "hashes" "[I" (.ref bH)) (FD3 : Fld Z h0 d1 "com/example/runs_to_scores/runstoscores/scoring/TopicDocnos" "slots" "[I" (.ref bS)) (FD4 : Fld Z h0 d1 "com/example/runs_to_scores/runstoscores/scoring/TopicDocnos" "size" "I" (.int (0 : Int32))) (AD0 : Arv Z h0 bB kB .byte (64 : Int32) ((.int (0 : Int32)) :: (.int (0 : Int32)) :: (.int (0 : Int32)) :: (.int (0 : Int32)) :: (.int (0 : Int32)) :: (.int (0 : Int32)) :: (.int (0 : Int32)) :: (.int (0 : Int32)) :: (.int (0 : Int32)) :: (.int (0 : Int32)) :: (.int (0 : Int32)) :: (.int (0 : Int32)) :: (.int (0 : Int32)) :: (.int (0 : Int32)) :: (.int (0 : Int32)) :: (.int (0 : Int32)) :: (.int (0 : Int32)) :: (.int (0 : Int32)) :: (.int (0 : Int32)) :: (.int (0 : Int32)) :: (.int (0 : Int32)) :: (.int (0 : Int32)) :: (.int (0 : Int32)) :: (.int (0 : Int32)) :: (.int (0 : Int32)) :: (.int (0 : Int32)) :: (.int (0 : Int32)) :: (.int (0 : Int32)) :: (.int (0 : Int32)) :: (.int (0 : Int32)) :: (.int (0 : Int32)) :: (.int (0 : Int32)) :: (.int (0 : Int32)) :: (.int (0 : Int32)) :: (.int (0 : Int32)) :: (.int (0 : Int32)) :: (.int (0 : Int32)) :: (.int (0 : Int32)) :: (.int (0 : Int32)) :: (.int (0 : Int32)) :: (.int (0 : Int32)) :: (.int (0 : Int32)) :: (.int (0 : Int32)) :: (.int (0 : Int32)) :: (.int (0 : Int32)) :: (.int (0 : Int32)) :: (.int (0 : Int32)) :: (.int (0 : Int32)) :: (.int (0 : Int32)) :: (.int (0 : Int32)) :: (.int (0 : Int32)) :: (.int (0 : Int32)) :: (.int (0 : Int32)) :: (.int (0 : Int32)) :: (.int (0 : Int32)) :: (.int (0 : Int32)) :: (.int (0 : Int32)) :: (.int (0 : Int32)) :: (.int (0 : Int32)) :: (.int (0 : Int32)) :: (.int (0 : Int32)) :: (.int (0 : Int32)) :: (.int (0 : Int32)) :: (.int (0 : Int32)) :: []) (.int (0 : Int32))) (AD1 : Arv Z h0 bE kE .int (8 : Int32) [(.int (0 : Int32)), (.int (0 : Int32)), (.int (0 : Int32)), (.int (0 : Int32)), (.int (0 : Int32)), (.int (0 : Int32)), (.int (0 : Int32)), (.int (0 : Int32))] (.int (0 : Int32))) (AD2 : Arv Z h0 bH kH .int (8 : Int32) [(.int (0 : Int32)), (.int (0 : Int32)), (.int (0 : Int32)), (.int (0 : Int32)), (.int (0 : Int32)), (.int (0 : Int32)), (.int (0 : Int32)), (.int (0 : Int32))] (.int (0 : Int32))) (AD3 : Arv Z h0 bS kS .int (16 : Int32) [(.int (0 : Int32)), (.int (0 : Int32)), (.int (0 : Int32)), (.int (0 : Int32)), (.int (0 : Int32)), (.int (0 : Int32)), (.int (0 : Int32)), (.int (0 : Int32)), (.int (0 : Int32)), (.int (0 : Int32)), (.int (0 : Int32)), (.int (0 : Int32)), (.int (0 : Int32)), (.int (0 : Int32)), (.int (0 : Int32)), (.int (0 : Int32))] (.int (0 : Int32))) (o1 : @LT.lt Nat _ d1 bB) (o2 : @LT.lt Nat _ bB bE) (o3 : @LT.lt Nat _ bE bH) (o4 : @LT.lt Nat _ bH bS) (g_d1 : n0 ≤ d1) (E_x1 : Exa Z h0 x1 "java/lang/String") (V_x1 : Fld Z h0 x1 "java/lang/String" "value" "[B" (.ref t1)) (C_x1 : Fld Z h0 x1 "java/lang/String" "coder" "B" (.int (0 : Int32))) (K_x1 : Arv Z h0 t1 k1 .byte (1 : Int32) ((([(97 : Int32)] : List Int32).map (fun c => c.toInt8.toInt32)).map Value.int) (.int (0 : Int32))) (hp_x1 : ∀ c ∈ ([(97 : Int32)] : List Int32), ¬ c < 0 ∧ ¬ (255 : Int32) < c) (nx : x1 ≠ bB) (nt : t1 ≠ bB) (O0 : Old Z n0 h0) (O2 : Sta Z Z.heap "java/lang/String" "COMPACT_STRINGS" "Z" (.int G1)) (P5 : ¬ (G1 = (0 : Int32))) (O4 : Sta Z Z.heap "jdk/internal/util/Preconditions" "SIOOBE_FORMATTER" "Ljava/util/function/BiFunction;" G3) (rG3 : G3.isRef = true) :
    MetFree l (⟨"com/example/runs_to_scores/runstoscores/scoring/TopicDocnos", "add", "(Ljava/lang/CharSequence;)I"⟩ : MethodName) (head1 (Jvm.Cond.code (⟨"com/example/runs_to_scores/runstoscores/scoring/TopicDocnos", "add", "(Ljava/lang/CharSequence;)I"⟩ : MethodName) prog_82_method_4_code 6 (some .int) :: ws) ({ frames := 5, cells := 0, slots := 0, locals := 69 } : Room)) (fun a U => a = #[(.ref d1), (.ref x1)] ∧ Z.Warmed39 U.vm ∧ U.heap = h0) (fun _ _ _ _ _ => True) (fun _ U o U' => ∃ v L, o = .returned v ∧ Q9_0 Z d1 x1 bB bE bH bS kB kE kH kS t1 k1 G1 G3 h0 n0 v U'.heap L ∧ FrameEnd U o U' L ({ frames := 5, cells := 0, slots := 0, locals := 69 } : Room).cells ({ frames := 5, cells := 0, slots := 0, locals := 69 } : Room).slots) := by
  refine MetFree.of_bodySF (plainFor_of_name pn_1) hisR ?_
  intro p e s m args below meth c s₁ Bd hml0 hP hK
  obtain ⟨rfl, hZ, hh⟩ := hP
  have hx := Bd.exec
  have hby := Bd.bytes
  have hml : c.maxLocals = 6 := hml0
  have hown : s.vm.findClass "com/example/runs_to_scores/runstoscores/scoring/TopicDocnos" = some m.cls := findClass_of_methodNamed Bd.named
  have hnm := (name_of_methodNamed Bd.named Bd.method).1
  have X0 : Stand p l e ({ frames := 5, cells := 0, slots := 0, locals := 69 } : Room) s m #[(.ref d1), (.ref x1)] below meth c s₁ [] 0 0 := Stand.of_body Bd
  have e0 : s₁.heap = h0 := by rw [← hh, Bd.state]; rfl
  have Nf0 := Fr.nil n0
  obtain ⟨Gl, hGl, kn0⟩ : ∃ Gl : State → Prop, (∀ t, Gl t → Steps p.tables e below (s₁.setTop (entryFrame m #[(.ref d1), (.ref x1)] 6)) t) ∧ ∀ t, own_S p e below s₁ (mkF m 0 #[.val (.ref d1), .val (.ref x1), .unset, .unset, .unset, .unset] []) t → Gl t := ⟨fun t => Steps p.tables e below (s₁.setTop (entryFrame m #[(.ref d1), (.ref x1)] 6)) t, fun _ k => k, fun t k => castTop (ef_rm9_0 m d1 x1) k⟩
  have ne_d1_bB : @Ne Nat d1 bB := by omega
  have ne_d1_bE : @Ne Nat d1 bE := by omega
  have ne_d1_bH : @Ne Nat d1 bH := by omega
  have ne_d1_bS : @Ne Nat d1 bS := by omega
  have ne_bB_bE : @Ne Nat bB bE := by omega
  have ne_bB_bH : @Ne Nat bB bH := by omega
  have ne_bB_bS : @Ne Nat bB bS := by omega
  have ne_bE_bH : @Ne Nat bE bH := by omega
  have ne_bE_bS : @Ne Nat bE bS := by omega
  have ne_bH_bS : @Ne Nat bH bS := by omega
  have g_bB : n0 ≤ bB := by omega
  have g_bE : n0 ≤ bE := by omega
  have g_bH : n0 ≤ bH := by omega
  have g_bS : n0 ≤ bS := by omega
  have kn1 : ∀ t, own_S p e below s₁ (mkF m 2 #[.val (.ref d1), .val (.ref x1), .unset, .unset, .unset, .unset] [(.ref d1), (.ref d1)]) t → Gl t := fun t kt => kn0 t (by
    show own_S p e below s₁ (mkF m 0 #[.val (.ref d1), .val (.ref x1), .unset, .unset, .unset, .unset] []) _
    refine XS.aloadN X0.here hx rfl (hb hby d_prog_82_method_4_0) rfl rfl ?_
    show own_S p e below s₁ (mkF m 1 #[.val (.ref d1), .val (.ref x1), .unset, .unset, .unset, .unset] [(.ref d1)]) _
    refine XS.aloadN X0.here hx rfl (hb hby d_prog_82_method_4_1) rfl rfl ?_
    exact kt)
  obtain ⟨T2, X2, e2, st2⟩ := getF X0 hx hZ hown (host := "") (Or.inl (hw _ (List.mem_of_getElem? (i := 65) rfl))) Via.refl e0 FD4 (g := (mkF m 2 #[.val (.ref d1), .val (.ref x1), .unset, .unset, .unset, .unset] [(.ref d1), (.ref d1)])) rfl rfl (hb hby d_prog_82_method_4_2)
  have kn3 : ∀ t, own_S p e below T2 (mkF m 5 #[.val (.ref d1), .val (.ref x1), .unset, .unset, .unset, .unset] [(.int (0 : Int32)), (.ref d1)]) t → Gl t := fun t kt => kn1 t (st2 _ kt)
  obtain ⟨cq4, qa4, qb4⟩ := ED.cell
  obtain ⟨_, _, ⟨T4, L4, cc4, ss4⟩, -, X4, ⟨Lc4, hQ4, l4, y4, z4⟩, st4⟩ := X2.privateBack hx (y := (⟨"com/example/runs_to_scores/runstoscores/scoring/TopicDocnos", "start", "(I)I"⟩ : MethodName)) hown (mvT hZ (hw _ (List.mem_of_getElem? (i := 67) rfl))) (mvT hZ (hw _ (List.mem_of_getElem? (i := 68) rfl))) (own_selP (z := (⟨"com/example/runs_to_scores/runstoscores/scoring/TopicDocnos", "add", "(Ljava/lang/CharSequence;)I"⟩ : MethodName)) rfl (mvT hZ (hw _ (List.mem_of_getElem? (i := 63) rfl))) (Cond.privateMethod_at (mvP hZ (hw _ (List.mem_of_getElem? (i := 69) rfl)) (args := #[]))) (mvT hZ (hw _ (List.mem_of_getElem? (i := 68) rfl))) (by decide)) (Cond.privateMethod_at (mvP hZ (hw _ (List.mem_of_getElem? (i := 69) rfl)) (args := #[]))) (mvT hZ (hw _ (List.mem_of_getElem? (i := 70) rfl))) (by decide) (backOf (W := 0) (rm10_0 l Z a0 hw [] d1 bE kE h0 n0 Z0 FD1 AD1) hZ (hw _ (List.mem_of_getElem? (i := 70) rfl)) (hw _ (List.mem_of_getElem? (i := 11) rfl)) (by decide) (by decide)) (g := (mkF m 5 #[.val (.ref d1), .val (.ref x1), .unset, .unset, .unset, .unset] [(.int (0 : Int32)), (.ref d1)])) rfl (by rw [hml]; rfl) (Steps.refl _) (a := d1) (by rw [e2]; exact qa4) qb4 (argsL := [(.int (0 : Int32))]) (rest := []) (lenOf pd_0 rfl) rfl (by show 2 * 0 + _ ≤ _; exact Nat.le_of_eq rfl) (hb hby d_prog_82_method_4_5) (fun _ _ => ⟨rfl, e2, (by decide : 0 + 0 ≤ _), (by decide : 0 + 0 ≤ _)⟩)
  dsimp only [Pt.U, Pt.locs, Pt.cells, Pt.slots] at X4 l4 y4 z4 st4 hQ4
  subst l4 y4 z4
  obtain ⟨rfl, Nq4, eq4⟩ := hQ4
  have Nf4 := Fr.app Nf0 Nq4
  have kn5 : ∀ t, own_S p e below T4 (mkF m 8 #[.val (.ref d1), .val (.ref x1), .unset, .unset, .unset, .unset] [(.int (0 : Int32))]) t → Gl t := fun t kt => kn3 t (st4.trans kt)
  have kn6 : ∀ t, own_S p e below T4 (mkF m 11 #[.val (.ref d1), .val (.ref x1), .val (.int (0 : Int32)), .unset, .unset, .unset] [(.ref x1), (.int (0 : Int32))]) t → Gl t := fun t kt => kn5 t (by
    show own_S p e below T4 (mkF m 8 #[.val (.ref d1), .val (.ref x1), .unset, .unset, .unset, .unset] [(.int (0 : Int32))]) _
    refine XS.istoreN X4.here hx rfl (hb hby d_prog_82_method_4_8) rfl (l' := #[.val (.ref d1), .val (.ref x1), .val (.int (0 : Int32)), .unset, .unset, .unset]) rfl ?_
    show own_S p e below T4 (mkF m 9 #[.val (.ref d1), .val (.ref x1), .val (.int (0 : Int32)), .unset, .unset, .unset] []) _
    refine XS.iloadN X4.here hx rfl (hb hby d_prog_82_method_4_9) rfl ?_
    show own_S p e below T4 (mkF m 10 #[.val (.ref d1), .val (.ref x1), .val (.int (0 : Int32)), .unset, .unset, .unset] [(.int (0 : Int32))]) _
    refine XS.aloadN X4.here hx rfl (hb hby d_prog_82_method_4_10) rfl rfl ?_
    exact kt)
  have hln : ∀ d ∈ StrChars.Road.wordsLen, d.before a0 Z = true := fun d hd => hw d ((by decide +kernel : ∀ d ∈ StrChars.Road.wordsLen, d ∈ tables_1) d hd)
  have hcd_x1 : StrChars.Road.CodA ([(97 : Int32)] : List Int32) 0 (1 : Int32) ((([(97 : Int32)] : List Int32).map (fun c => c.toInt8.toInt32)).map Value.int) := StrChars.Road.codOf (n := 1) rfl (fun x hx => (hp_x1 x hx).2)
  have hbd_x1 : ∀ x ∈ ([(97 : Int32)] : List Int32), ¬ x < 0 ∧ ¬ (65535 : Int32) < x := own_up _ hp_x1
  obtain ⟨cq7, kq7, qa7, qb7, qc7⟩ := isOf hZ eq4 E_x1
  obtain ⟨_, _, ⟨T7, L7, cc7, ss7⟩, -, X7, ⟨Lc7, hQ7, l7, y7, z7⟩, st7⟩ := X4.interfaceBack hx (xi := (⟨"java/lang/CharSequence", "length", "()I"⟩ : MethodName)) (y := (⟨"java/lang/String", "length", "()I"⟩ : MethodName)) hown (mvT hZ (hw _ (List.mem_of_getElem? (i := 71) rfl))) (mvT hZ (hw _ (List.mem_of_getElem? (i := 72) rfl))) (mvT hZ (hw _ (List.mem_of_getElem? (i := 73) rfl))) (mvT hZ (hw _ (List.mem_of_getElem? (i := 74) rfl))) (mvT hZ (hw _ (List.mem_of_getElem? (i := 75) rfl))) (mvT hZ (hw _ (List.mem_of_getElem? (i := 76) rfl))) (mvT hZ (hw _ (List.mem_of_getElem? (i := 77) rfl))) (mvT hZ (hw _ (List.mem_of_getElem? (i := 78) rfl))) (by decide) (StrChars.Road.lenW (W := 1) hZ hln (kI := 4) (hw _ (List.mem_of_getElem? (i := 50) rfl)) E_x1 V_x1 C_x1 K_x1 hcd_x1 hbd_x1 (O2.ext O0.2) P5 (Nat.le_of_ble_eq_true rfl) (by decide) (by decide)) qa7 qb7 qc7 (g := (mkF m 11 #[.val (.ref d1), .val (.ref x1), .val (.int (0 : Int32)), .unset, .unset, .unset] [(.ref x1), (.int (0 : Int32))])) rfl (by rw [hml]; rfl) (Steps.refl _) (argsL := []) (rest := [(.int (0 : Int32))]) (lenOf pd_4 rfl) rfl (by show 2 * 0 + _ ≤ _; exact Nat.le_of_eq rfl) (hb hby d_prog_82_method_4_11) (fun _ _ => ⟨rfl, eq4, (by decide : 0 + 0 ≤ _), (by decide : 0 + 0 ≤ _)⟩)
  dsimp only [Pt.U, Pt.locs, Pt.cells, Pt.slots] at X7 l7 y7 z7 st7 hQ7
  subst l7 y7 z7
  obtain ⟨rfl, rfl, eq7⟩ := hQ7
  have Nq7 : Fr n0 ([] : List Loc) := Fr.nil n0
  have Nf7 := Fr.app Nf4 Nq7
  have kn8 : ∀ t, own_S p e below T7 (mkF m 16 #[.val (.ref d1), .val (.ref x1), .val (.int (0 : Int32)), .unset, .unset, .unset] [(.int (1 : Int32)), (.int (0 : Int32))]) t → Gl t := fun t kt => kn6 t (st7.trans kt)
  have kn9 : ∀ t, own_S p e below T7 (mkF m 20 #[.val (.ref d1), .val (.ref x1), .val (.int (0 : Int32)), .val (.int (1 : Int32)), .unset, .unset] [(.ref d1), (.int (1 : Int32))]) t → Gl t := fun t kt => kn8 t (by
    show own_S p e below T7 (mkF m 16 #[.val (.ref d1), .val (.ref x1), .val (.int (0 : Int32)), .unset, .unset, .unset] [(.int (1 : Int32)), (.int (0 : Int32))]) _
    refine XS.iadd X7.here hx rfl (hb hby d_prog_82_method_4_16) rfl ?_
    rw [(by decide : ((0 : Int32) + (1 : Int32)) = (1 : Int32))]
    show own_S p e below T7 (mkF m 17 #[.val (.ref d1), .val (.ref x1), .val (.int (0 : Int32)), .unset, .unset, .unset] [(.int (1 : Int32))]) _
    refine XS.istoreN X7.here hx rfl (hb hby d_prog_82_method_4_17) rfl (l' := #[.val (.ref d1), .val (.ref x1), .val (.int (0 : Int32)), .val (.int (1 : Int32)), .unset, .unset]) rfl ?_
    show own_S p e below T7 (mkF m 18 #[.val (.ref d1), .val (.ref x1), .val (.int (0 : Int32)), .val (.int (1 : Int32)), .unset, .unset] []) _
    refine XS.iloadN X7.here hx rfl (hb hby d_prog_82_method_4_18) rfl ?_
    show own_S p e below T7 (mkF m 19 #[.val (.ref d1), .val (.ref x1), .val (.int (0 : Int32)), .val (.int (1 : Int32)), .unset, .unset] [(.int (1 : Int32))]) _
    refine XS.aloadN X7.here hx rfl (hb hby d_prog_82_method_4_19) rfl rfl ?_
    exact kt)
  obtain ⟨T10, X10, e10, st10⟩ := getF X7 hx hZ hown (host := "") (Or.inl (hw _ (List.mem_of_getElem? (i := 24) rfl))) Via.refl eq7 FD0 (g := (mkF m 20 #[.val (.ref d1), .val (.ref x1), .val (.int (0 : Int32)), .val (.int (1 : Int32)), .unset, .unset] [(.ref d1), (.int (1 : Int32))])) rfl rfl (hb hby d_prog_82_method_4_20)
  have kn11 : ∀ t, own_S p e below T10 (mkF m 23 #[.val (.ref d1), .val (.ref x1), .val (.int (0 : Int32)), .val (.int (1 : Int32)), .unset, .unset] [(.ref bB), (.int (1 : Int32))]) t → Gl t := fun t kt => kn9 t (st10 _ kt)
  obtain ⟨cl12, Ar12, -, Sz12, Ng12, -, -⟩ := id AD0
  have kn13 : ∀ t, own_S p e below T10 (mkF m 51 #[.val (.ref d1), .val (.ref x1), .val (.int (0 : Int32)), .val (.int (1 : Int32)), .unset, .unset] [(.ref d1), (.ref x1)]) t → Gl t := fun t kt => kn11 t (by
    show own_S p e below T10 (mkF m 23 #[.val (.ref d1), .val (.ref x1), .val (.int (0 : Int32)), .val (.int (1 : Int32)), .unset, .unset] [(.ref bB), (.int (1 : Int32))]) _
    refine X10.arraylength hx (by rw [e10]; exact Ar12.1) (State.isArrayOf_alike hZ.alike Ar12.2.1) (g := (mkF m 23 #[.val (.ref d1), .val (.ref x1), .val (.int (0 : Int32)), .val (.int (1 : Int32)), .unset, .unset] [(.ref bB), (.int (1 : Int32))])) rfl rfl (hb hby d_prog_82_method_4_23) _ ?_
    rw [len_of Sz12 Ng12]
    show own_S p e below T10 (mkF m 24 #[.val (.ref d1), .val (.ref x1), .val (.int (0 : Int32)), .val (.int (1 : Int32)), .unset, .unset] [(.int (64 : Int32)), (.int (1 : Int32))]) _
    refine XS.icmpYes X10.here hx rfl (pc0 := 24) (pc' := 49) rfl (hb hby d_prog_82_method_4_24) rfl (flt (by decide : ¬ ((64 : Int32) < (1 : Int32)))).2.2.2 (by decide) (by decide) ?_
    show own_S p e below T10 (mkF m 49 #[.val (.ref d1), .val (.ref x1), .val (.int (0 : Int32)), .val (.int (1 : Int32)), .unset, .unset] []) _
    refine XS.aloadN X10.here hx rfl (hb hby d_prog_82_method_4_49) rfl rfl ?_
    show own_S p e below T10 (mkF m 50 #[.val (.ref d1), .val (.ref x1), .val (.int (0 : Int32)), .val (.int (1 : Int32)), .unset, .unset] [(.ref x1)]) _
    refine XS.aloadN X10.here hx rfl (hb hby d_prog_82_method_4_50) rfl rfl ?_
    exact kt)
  obtain ⟨T14, X14, e14, st14⟩ := getF X10 hx hZ hown (host := "") (Or.inl (hw _ (List.mem_of_getElem? (i := 24) rfl))) Via.refl e10 FD0 (g := (mkF m 51 #[.val (.ref d1), .val (.ref x1), .val (.int (0 : Int32)), .val (.int (1 : Int32)), .unset, .unset] [(.ref d1), (.ref x1)])) rfl rfl (hb hby d_prog_82_method_4_51)
  have kn15 : ∀ t, own_S p e below T14 (mkF m 54 #[.val (.ref d1), .val (.ref x1), .val (.int (0 : Int32)), .val (.int (1 : Int32)), .unset, .unset] [(.ref bB), (.ref x1)]) t → Gl t := fun t kt => kn13 t (st14 _ kt)
  have kn16 : ∀ t, own_S p e below T14 (mkF m 55 #[.val (.ref d1), .val (.ref x1), .val (.int (0 : Int32)), .val (.int (1 : Int32)), .unset, .unset] [(.int (0 : Int32)), (.ref bB), (.ref x1)]) t → Gl t := fun t kt => kn15 t (by
    show own_S p e below T14 (mkF m 54 #[.val (.ref d1), .val (.ref x1), .val (.int (0 : Int32)), .val (.int (1 : Int32)), .unset, .unset] [(.ref bB), (.ref x1)]) _
    refine XS.iloadN X14.here hx rfl (hb hby d_prog_82_method_4_54) rfl ?_
    exact kt)
  obtain ⟨_, _, ⟨T17, L17, cc17, ss17⟩, -, X17, ⟨Lc17, hQ17, l17, y17, z17⟩, st17⟩ := Jvm.LawKit.callS X14 hx (y := (⟨"com/example/runs_to_scores/runstoscores/scoring/TopicDocnos", "write", "(Ljava/lang/CharSequence;[BI)Z"⟩ : MethodName)) hown (mvT hZ (hw _ (List.mem_of_getElem? (i := 88) rfl))) (mvT hZ (hw _ (List.mem_of_getElem? (i := 89) rfl))) (mvT hZ (hw _ (List.mem_of_getElem? (i := 11) rfl))) (mvT hZ (hw _ (List.mem_of_getElem? (i := 90) rfl))) (by decide) (backOf (W := 0) (rm13_0 l Z a0 hw [] x1 bB kB t1 k1 G1 G3 h0 n0 Z0 E_x1 V_x1 C_x1 K_x1 hp_x1 AD0 g_bB nx nt O0 O2 P5 O4 rG3) hZ (hw _ (List.mem_of_getElem? (i := 90) rfl)) (hw _ (List.mem_of_getElem? (i := 11) rfl)) (by decide) (by decide)) (g := (mkF m 55 #[.val (.ref d1), .val (.ref x1), .val (.int (0 : Int32)), .val (.int (1 : Int32)), .unset, .unset] [(.int (0 : Int32)), (.ref bB), (.ref x1)])) rfl (by rw [hml]; rfl) (argsL := [(.ref x1), (.ref bB), (.int (0 : Int32))]) (rest := []) (lenOf pd_6 rfl) rfl (by show 2 * 0 + _ ≤ _; exact Nat.le_of_eq rfl) (hb hby d_prog_82_method_4_55) (fun _ _ => ⟨rfl, e14, (by decide : 0 + 0 ≤ _), (by decide : 0 + 0 ≤ _)⟩)
  dsimp only [Pt.U, Pt.locs, Pt.cells, Pt.slots] at X17 l17 y17 z17 st17 hQ17
  subst l17 y17 z17
  obtain ⟨rfl, Nq17, K17, Vb17⟩ := hQ17
  have Nf17 := Fr.app Nf7 Nq17
  have Z18 : n0 ≤ T17.heap.size := Nat.le_trans Z0 K17.1
  have O19 : Old Z n0 T17.heap := O0.keep K17 (allS g_bB all0)
  have K20 : Keep h0 T17.heap [d1, bB, bE, bH, bS] := (Keep.refl h0 [d1, bB, bE, bH, bS]).trans K17 (allS (Or.inl (List.mem_of_getElem? (i := 1) rfl)) all0)
  have kn21 : ∀ t, own_S p e below T17 (mkF m 58 #[.val (.ref d1), .val (.ref x1), .val (.int (0 : Int32)), .val (.int (1 : Int32)), .unset, .unset] [(.int (1 : Int32))]) t → Gl t := fun t kt => kn16 t (st17 _ kt)
  have kn22 : ∀ t, own_S p e below T17 (mkF m 79 #[.val (.ref d1), .val (.ref x1), .val (.int (0 : Int32)), .val (.int (1 : Int32)), .unset, .unset] [(.ref d1)]) t → Gl t := fun t kt => kn21 t (by
    show own_S p e below T17 (mkF m 58 #[.val (.ref d1), .val (.ref x1), .val (.int (0 : Int32)), .val (.int (1 : Int32)), .unset, .unset] [(.int (1 : Int32))]) _
    refine XS.ifYes X17.here hx rfl (pc0 := 58) (pc' := 78) rfl (hb hby d_prog_82_method_4_58) rfl ((if0 _ _).trans (feq (by decide : ¬ ((1 : Int32) = (0 : Int32)))).2) (by decide) (by decide) ?_
    show own_S p e below T17 (mkF m 78 #[.val (.ref d1), .val (.ref x1), .val (.int (0 : Int32)), .val (.int (1 : Int32)), .unset, .unset] []) _
    refine XS.aloadN X17.here hx rfl (hb hby d_prog_82_method_4_78) rfl rfl ?_
    exact kt)
  have f23 := (FD0.keep K17 (ninS ne_d1_bB nin0))
  obtain ⟨T24, X24, e24, st24⟩ := getF X17 hx hZ hown (host := "") (Or.inl (hw _ (List.mem_of_getElem? (i := 24) rfl))) Via.refl rfl f23 (g := (mkF m 79 #[.val (.ref d1), .val (.ref x1), .val (.int (0 : Int32)), .val (.int (1 : Int32)), .unset, .unset] [(.ref d1)])) rfl rfl (hb hby d_prog_82_method_4_79)
  have kn25 : ∀ t, own_S p e below T24 (mkF m 82 #[.val (.ref d1), .val (.ref x1), .val (.int (0 : Int32)), .val (.int (1 : Int32)), .unset, .unset] [(.ref bB)]) t → Gl t := fun t kt => kn22 t (st24 _ kt)
  have kn26 : ∀ t, own_S p e below T24 (mkF m 84 #[.val (.ref d1), .val (.ref x1), .val (.int (0 : Int32)), .val (.int (1 : Int32)), .unset, .unset] [(.int (1 : Int32)), (.int (0 : Int32)), (.ref bB)]) t → Gl t := fun t kt => kn25 t (by
    show own_S p e below T24 (mkF m 82 #[.val (.ref d1), .val (.ref x1), .val (.int (0 : Int32)), .val (.int (1 : Int32)), .unset, .unset] [(.ref bB)]) _
    refine XS.iloadN X24.here hx rfl (hb hby d_prog_82_method_4_82) rfl ?_
    show own_S p e below T24 (mkF m 83 #[.val (.ref d1), .val (.ref x1), .val (.int (0 : Int32)), .val (.int (1 : Int32)), .unset, .unset] [(.int (0 : Int32)), (.ref bB)]) _
    refine XS.iloadN X24.here hx rfl (hb hby d_prog_82_method_4_83) rfl ?_
    exact kt)
  obtain ⟨_, _, ⟨T27, L27, cc27, ss27⟩, -, X27, ⟨Lc27, hQ27, l27, y27, z27⟩, st27⟩ := Jvm.LawKit.callS X24 hx (y := (⟨"com/example/runs_to_scores/runstoscores/scoring/TopicDocnos", "hash", "([BII)I"⟩ : MethodName)) hown (mvT hZ (hw _ (List.mem_of_getElem? (i := 116) rfl))) (mvT hZ (hw _ (List.mem_of_getElem? (i := 117) rfl))) (mvT hZ (hw _ (List.mem_of_getElem? (i := 11) rfl))) (mvT hZ (hw _ (List.mem_of_getElem? (i := 118) rfl))) (by decide) (backOf (W := 0) (rm19_0 l Z a0 hw [] bB kB T17.heap n0 Z18 Vb17) hZ (hw _ (List.mem_of_getElem? (i := 118) rfl)) (hw _ (List.mem_of_getElem? (i := 11) rfl)) (by decide) (by decide)) (g := (mkF m 84 #[.val (.ref d1), .val (.ref x1), .val (.int (0 : Int32)), .val (.int (1 : Int32)), .unset, .unset] [(.int (1 : Int32)), (.int (0 : Int32)), (.ref bB)])) rfl (by rw [hml]; rfl) (argsL := [(.ref bB), (.int (0 : Int32)), (.int (1 : Int32))]) (rest := []) (lenOf pd_7 rfl) rfl (by show 2 * 0 + _ ≤ _; exact Nat.le_of_eq rfl) (hb hby d_prog_82_method_4_84) (fun _ _ => ⟨rfl, e24, (by decide : 0 + 0 ≤ _), (by decide : 0 + 0 ≤ _)⟩)
  dsimp only [Pt.U, Pt.locs, Pt.cells, Pt.slots] at X27 l27 y27 z27 st27 hQ27
  subst l27 y27 z27
  obtain ⟨rfl, Nq27, eq27⟩ := hQ27
  have Nf27 := Fr.app Nf17 Nq27
  have kn28 : ∀ t, own_S p e below T27 (mkF m 87 #[.val (.ref d1), .val (.ref x1), .val (.int (0 : Int32)), .val (.int (1 : Int32)), .unset, .unset] [(.int (97 : Int32))]) t → Gl t := fun t kt => kn26 t (st27 _ kt)
  have kn29 : ∀ t, own_S p e below T27 (mkF m 91 #[.val (.ref d1), .val (.ref x1), .val (.int (0 : Int32)), .val (.int (1 : Int32)), .val (.int (97 : Int32)), .unset] [(.ref d1), (.ref d1)]) t → Gl t := fun t kt => kn28 t (by
    show own_S p e below T27 (mkF m 87 #[.val (.ref d1), .val (.ref x1), .val (.int (0 : Int32)), .val (.int (1 : Int32)), .unset, .unset] [(.int (97 : Int32))]) _
    refine XS.istore X27.here hx rfl (hb hby d_prog_82_method_4_87) rfl (l' := #[.val (.ref d1), .val (.ref x1), .val (.int (0 : Int32)), .val (.int (1 : Int32)), .val (.int (97 : Int32)), .unset]) rfl ?_
    show own_S p e below T27 (mkF m 89 #[.val (.ref d1), .val (.ref x1), .val (.int (0 : Int32)), .val (.int (1 : Int32)), .val (.int (97 : Int32)), .unset] []) _
    refine XS.aloadN X27.here hx rfl (hb hby d_prog_82_method_4_89) rfl rfl ?_
    show own_S p e below T27 (mkF m 90 #[.val (.ref d1), .val (.ref x1), .val (.int (0 : Int32)), .val (.int (1 : Int32)), .val (.int (97 : Int32)), .unset] [(.ref d1)]) _
    refine XS.aloadN X27.here hx rfl (hb hby d_prog_82_method_4_90) rfl rfl ?_
    exact kt)
  obtain ⟨T30, X30, e30, st30⟩ := getF X27 hx hZ hown (host := "") (Or.inl (hw _ (List.mem_of_getElem? (i := 24) rfl))) Via.refl eq27 f23 (g := (mkF m 91 #[.val (.ref d1), .val (.ref x1), .val (.int (0 : Int32)), .val (.int (1 : Int32)), .val (.int (97 : Int32)), .unset] [(.ref d1), (.ref d1)])) rfl rfl (hb hby d_prog_82_method_4_91)
  have kn31 : ∀ t, own_S p e below T30 (mkF m 94 #[.val (.ref d1), .val (.ref x1), .val (.int (0 : Int32)), .val (.int (1 : Int32)), .val (.int (97 : Int32)), .unset] [(.ref bB), (.ref d1)]) t → Gl t := fun t kt => kn29 t (st30 _ kt)
  have kn32 : ∀ t, own_S p e below T30 (mkF m 98 #[.val (.ref d1), .val (.ref x1), .val (.int (0 : Int32)), .val (.int (1 : Int32)), .val (.int (97 : Int32)), .unset] [(.int (97 : Int32)), (.int (1 : Int32)), (.int (0 : Int32)), (.ref bB), (.ref d1)]) t → Gl t := fun t kt => kn31 t (by
    show own_S p e below T30 (mkF m 94 #[.val (.ref d1), .val (.ref x1), .val (.int (0 : Int32)), .val (.int (1 : Int32)), .val (.int (97 : Int32)), .unset] [(.ref bB), (.ref d1)]) _
    refine XS.iloadN X30.here hx rfl (hb hby d_prog_82_method_4_94) rfl ?_
    show own_S p e below T30 (mkF m 95 #[.val (.ref d1), .val (.ref x1), .val (.int (0 : Int32)), .val (.int (1 : Int32)), .val (.int (97 : Int32)), .unset] [(.int (0 : Int32)), (.ref bB), (.ref d1)]) _
    refine XS.iloadN X30.here hx rfl (hb hby d_prog_82_method_4_95) rfl ?_
    show own_S p e below T30 (mkF m 96 #[.val (.ref d1), .val (.ref x1), .val (.int (0 : Int32)), .val (.int (1 : Int32)), .val (.int (97 : Int32)), .unset] [(.int (1 : Int32)), (.int (0 : Int32)), (.ref bB), (.ref d1)]) _
    refine XS.iload X30.here hx rfl (hb hby d_prog_82_method_4_96) rfl ?_
    exact kt)
  have f34 := (FD3.keep K17 (ninS ne_d1_bB nin0))
  have f35 := (AD3.keep K17 (ninS (Ne.symm ne_bB_bS) nin0))
  have f36 := (ED.keep K17)
  obtain ⟨cq33, qa33, qb33⟩ := f36.cell
  obtain ⟨_, _, ⟨T33, L33, cc33, ss33⟩, -, X33, ⟨Lc33, hQ33, l33, y33, z33⟩, st33⟩ := X30.privateBack hx (y := (⟨"com/example/runs_to_scores/runstoscores/scoring/TopicDocnos", "slotOf", "([BIII)I"⟩ : MethodName)) hown (mvT hZ (hw _ (List.mem_of_getElem? (i := 119) rfl))) (mvT hZ (hw _ (List.mem_of_getElem? (i := 120) rfl))) (own_selP (z := (⟨"com/example/runs_to_scores/runstoscores/scoring/TopicDocnos", "add", "(Ljava/lang/CharSequence;)I"⟩ : MethodName)) rfl (mvT hZ (hw _ (List.mem_of_getElem? (i := 63) rfl))) (Cond.privateMethod_at (mvP hZ (hw _ (List.mem_of_getElem? (i := 121) rfl)) (args := #[]))) (mvT hZ (hw _ (List.mem_of_getElem? (i := 120) rfl))) (by decide)) (Cond.privateMethod_at (mvP hZ (hw _ (List.mem_of_getElem? (i := 121) rfl)) (args := #[]))) (mvT hZ (hw _ (List.mem_of_getElem? (i := 122) rfl))) (by decide) (backOf (W := 0) (rm20_0 l Z a0 hw [] d1 bB bS kS T17.heap n0 Z18 f34 f35) hZ (hw _ (List.mem_of_getElem? (i := 122) rfl)) (hw _ (List.mem_of_getElem? (i := 11) rfl)) (by decide) (by decide)) (g := (mkF m 98 #[.val (.ref d1), .val (.ref x1), .val (.int (0 : Int32)), .val (.int (1 : Int32)), .val (.int (97 : Int32)), .unset] [(.int (97 : Int32)), (.int (1 : Int32)), (.int (0 : Int32)), (.ref bB), (.ref d1)])) rfl (by rw [hml]; rfl) (Steps.refl _) (a := d1) (by rw [e30]; exact qa33) qb33 (argsL := [(.ref bB), (.int (0 : Int32)), (.int (1 : Int32)), (.int (97 : Int32))]) (rest := []) (lenOf pd_8 rfl) rfl (by show 2 * 0 + _ ≤ _; exact Nat.le_of_eq rfl) (hb hby d_prog_82_method_4_98) (fun _ _ => ⟨rfl, e30, (by decide : 0 + 0 ≤ _), (by decide : 0 + 0 ≤ _)⟩)
  dsimp only [Pt.U, Pt.locs, Pt.cells, Pt.slots] at X33 l33 y33 z33 st33 hQ33
  subst l33 y33 z33
  obtain ⟨rfl, Nq33, eq33⟩ := hQ33
  have Nf33 := Fr.app Nf27 Nq33
  have kn37 : ∀ t, own_S p e below T33 (mkF m 101 #[.val (.ref d1), .val (.ref x1), .val (.int (0 : Int32)), .val (.int (1 : Int32)), .val (.int (97 : Int32)), .unset] [(.int (1 : Int32))]) t → Gl t := fun t kt => kn32 t (st33.trans kt)
  have kn38 : ∀ t, own_S p e below T33 (mkF m 104 #[.val (.ref d1), .val (.ref x1), .val (.int (0 : Int32)), .val (.int (1 : Int32)), .val (.int (97 : Int32)), .val (.int (1 : Int32))] [(.ref d1)]) t → Gl t := fun t kt => kn37 t (by
    show own_S p e below T33 (mkF m 101 #[.val (.ref d1), .val (.ref x1), .val (.int (0 : Int32)), .val (.int (1 : Int32)), .val (.int (97 : Int32)), .unset] [(.int (1 : Int32))]) _
    refine XS.istore X33.here hx rfl (hb hby d_prog_82_method_4_101) rfl (l' := #[.val (.ref d1), .val (.ref x1), .val (.int (0 : Int32)), .val (.int (1 : Int32)), .val (.int (97 : Int32)), .val (.int (1 : Int32))]) rfl ?_
    show own_S p e below T33 (mkF m 103 #[.val (.ref d1), .val (.ref x1), .val (.int (0 : Int32)), .val (.int (1 : Int32)), .val (.int (97 : Int32)), .val (.int (1 : Int32))] []) _
    refine XS.aloadN X33.here hx rfl (hb hby d_prog_82_method_4_103) rfl rfl ?_
    exact kt)
  obtain ⟨T39, X39, e39, st39⟩ := getF X33 hx hZ hown (host := "") (Or.inl (hw _ (List.mem_of_getElem? (i := 40) rfl))) Via.refl eq33 f34 (g := (mkF m 104 #[.val (.ref d1), .val (.ref x1), .val (.int (0 : Int32)), .val (.int (1 : Int32)), .val (.int (97 : Int32)), .val (.int (1 : Int32))] [(.ref d1)])) rfl rfl (hb hby d_prog_82_method_4_104)
  have kn40 : ∀ t, own_S p e below T39 (mkF m 107 #[.val (.ref d1), .val (.ref x1), .val (.int (0 : Int32)), .val (.int (1 : Int32)), .val (.int (97 : Int32)), .val (.int (1 : Int32))] [(.ref bS)]) t → Gl t := fun t kt => kn38 t (st39 _ kt)
  have kn41 : ∀ t, own_S p e below T39 (mkF m 109 #[.val (.ref d1), .val (.ref x1), .val (.int (0 : Int32)), .val (.int (1 : Int32)), .val (.int (97 : Int32)), .val (.int (1 : Int32))] [(.int (1 : Int32)), (.ref bS)]) t → Gl t := fun t kt => kn40 t (by
    show own_S p e below T39 (mkF m 107 #[.val (.ref d1), .val (.ref x1), .val (.int (0 : Int32)), .val (.int (1 : Int32)), .val (.int (97 : Int32)), .val (.int (1 : Int32))] [(.ref bS)]) _
    refine XS.iload X39.here hx rfl (hb hby d_prog_82_method_4_107) rfl ?_
    exact kt)
  obtain ⟨cl42, Ar42, q42, Sz42, Ng42, Hs42, Gs42⟩ := id f35
  have hin42 : ¬ ((1 : Int32) < 0 ∨ cl42.slots.size ≤ ((1 : Int32)).toNatClampNeg) := inb_of Sz42 ⟨by decide, by decide⟩
  have hat42 : cl42.slots[((1 : Int32)).toNatClampNeg]? = some (.int (0 : Int32)) := Hs42.at hin42 rfl
  have kn43 : ∀ t, own_S p e below T39 (mkF m 116 #[.val (.ref d1), .val (.ref x1), .val (.int (0 : Int32)), .val (.int (1 : Int32)), .val (.int (97 : Int32)), .val (.int (1 : Int32))] [(.ref d1)]) t → Gl t := fun t kt => kn41 t (by
    show own_S p e below T39 (mkF m 109 #[.val (.ref d1), .val (.ref x1), .val (.int (0 : Int32)), .val (.int (1 : Int32)), .val (.int (97 : Int32)), .val (.int (1 : Int32))] [(.int (1 : Int32)), (.ref bS)]) _
    refine X39.iaload hx (j := (1 : Int32)) (v := (.int (0 : Int32))) (by rw [e39]; exact Ar42.1) (State.isArrayOf_alike hZ.alike Ar42.2.1) Ar42.2.2 hin42 hat42 (g := (mkF m 109 #[.val (.ref d1), .val (.ref x1), .val (.int (0 : Int32)), .val (.int (1 : Int32)), .val (.int (97 : Int32)), .val (.int (1 : Int32))] [(.int (1 : Int32)), (.ref bS)])) rfl rfl (hb hby d_prog_82_method_4_109) _ ?_
    show own_S p e below T39 (mkF m 110 #[.val (.ref d1), .val (.ref x1), .val (.int (0 : Int32)), .val (.int (1 : Int32)), .val (.int (97 : Int32)), .val (.int (1 : Int32))] [(.int (0 : Int32))]) _
    refine XS.ifYes X39.here hx rfl (pc0 := 110) (pc' := 115) rfl (hb hby d_prog_82_method_4_110) rfl ((if0 _ _).trans (teq (by decide : (0 : Int32) = (0 : Int32))).1) (by decide) (by decide) ?_
    show own_S p e below T39 (mkF m 115 #[.val (.ref d1), .val (.ref x1), .val (.int (0 : Int32)), .val (.int (1 : Int32)), .val (.int (97 : Int32)), .val (.int (1 : Int32))] []) _
    refine XS.aloadN X39.here hx rfl (hb hby d_prog_82_method_4_115) rfl rfl ?_
    exact kt)
  have f44 := (FD4.keep K17 (ninS ne_d1_bB nin0))
  obtain ⟨T45, X45, e45, st45⟩ := getF X39 hx hZ hown (host := "") (Or.inl (hw _ (List.mem_of_getElem? (i := 65) rfl))) Via.refl e39 f44 (g := (mkF m 116 #[.val (.ref d1), .val (.ref x1), .val (.int (0 : Int32)), .val (.int (1 : Int32)), .val (.int (97 : Int32)), .val (.int (1 : Int32))] [(.ref d1)])) rfl rfl (hb hby d_prog_82_method_4_116)
  have kn46 : ∀ t, own_S p e below T45 (mkF m 119 #[.val (.ref d1), .val (.ref x1), .val (.int (0 : Int32)), .val (.int (1 : Int32)), .val (.int (97 : Int32)), .val (.int (1 : Int32))] [(.int (0 : Int32))]) t → Gl t := fun t kt => kn43 t (st45 _ kt)
  have kn47 : ∀ t, own_S p e below T45 (mkF m 120 #[.val (.ref d1), .val (.ref x1), .val (.int (0 : Int32)), .val (.int (1 : Int32)), .val (.int (97 : Int32)), .val (.int (1 : Int32))] [(.ref d1), (.int (0 : Int32))]) t → Gl t := fun t kt => kn46 t (by
    show own_S p e below T45 (mkF m 119 #[.val (.ref d1), .val (.ref x1), .val (.int (0 : Int32)), .val (.int (1 : Int32)), .val (.int (97 : Int32)), .val (.int (1 : Int32))] [(.int (0 : Int32))]) _
    refine XS.aloadN X45.here hx rfl (hb hby d_prog_82_method_4_119) rfl rfl ?_
    exact kt)
  have f48 := (FD1.keep K17 (ninS ne_d1_bB nin0))
  obtain ⟨T49, X49, e49, st49⟩ := getF X45 hx hZ hown (host := "") (Or.inl (hw _ (List.mem_of_getElem? (i := 27) rfl))) Via.refl e45 f48 (g := (mkF m 120 #[.val (.ref d1), .val (.ref x1), .val (.int (0 : Int32)), .val (.int (1 : Int32)), .val (.int (97 : Int32)), .val (.int (1 : Int32))] [(.ref d1), (.int (0 : Int32))])) rfl rfl (hb hby d_prog_82_method_4_120)
  have kn50 : ∀ t, own_S p e below T49 (mkF m 123 #[.val (.ref d1), .val (.ref x1), .val (.int (0 : Int32)), .val (.int (1 : Int32)), .val (.int (97 : Int32)), .val (.int (1 : Int32))] [(.ref bE), (.int (0 : Int32))]) t → Gl t := fun t kt => kn47 t (st49 _ kt)
  have f51 := (AD1.keep K17 (ninS (Ne.symm ne_bB_bE) nin0))
  obtain ⟨cl52, Ar52, -, Sz52, Ng52, -, -⟩ := id f51
  have kn53 : ∀ t, own_S p e below T49 (mkF m 162 #[.val (.ref d1), .val (.ref x1), .val (.int (0 : Int32)), .val (.int (1 : Int32)), .val (.int (97 : Int32)), .val (.int (1 : Int32))] [(.ref d1)]) t → Gl t := fun t kt => kn50 t (by
    show own_S p e below T49 (mkF m 123 #[.val (.ref d1), .val (.ref x1), .val (.int (0 : Int32)), .val (.int (1 : Int32)), .val (.int (97 : Int32)), .val (.int (1 : Int32))] [(.ref bE), (.int (0 : Int32))]) _
    refine X49.arraylength hx (by rw [e49]; exact Ar52.1) (State.isArrayOf_alike hZ.alike Ar52.2.1) (g := (mkF m 123 #[.val (.ref d1), .val (.ref x1), .val (.int (0 : Int32)), .val (.int (1 : Int32)), .val (.int (97 : Int32)), .val (.int (1 : Int32))] [(.ref bE), (.int (0 : Int32))])) rfl rfl (hb hby d_prog_82_method_4_123) _ ?_
    rw [len_of Sz52 Ng52]
    show own_S p e below T49 (mkF m 124 #[.val (.ref d1), .val (.ref x1), .val (.int (0 : Int32)), .val (.int (1 : Int32)), .val (.int (97 : Int32)), .val (.int (1 : Int32))] [(.int (8 : Int32)), (.int (0 : Int32))]) _
    refine XS.icmpYes X49.here hx rfl (pc0 := 124) (pc' := 161) rfl (hb hby d_prog_82_method_4_124) rfl (feq (by decide : ¬ ((0 : Int32) = (8 : Int32)))).2 (by decide) (by decide) ?_
    show own_S p e below T49 (mkF m 161 #[.val (.ref d1), .val (.ref x1), .val (.int (0 : Int32)), .val (.int (1 : Int32)), .val (.int (97 : Int32)), .val (.int (1 : Int32))] []) _
    refine XS.aloadN X49.here hx rfl (hb hby d_prog_82_method_4_161) rfl rfl ?_
    exact kt)
  obtain ⟨T54, X54, e54, st54⟩ := getF X49 hx hZ hown (host := "") (Or.inl (hw _ (List.mem_of_getElem? (i := 27) rfl))) Via.refl e49 f48 (g := (mkF m 162 #[.val (.ref d1), .val (.ref x1), .val (.int (0 : Int32)), .val (.int (1 : Int32)), .val (.int (97 : Int32)), .val (.int (1 : Int32))] [(.ref d1)])) rfl rfl (hb hby d_prog_82_method_4_162)
  have kn55 : ∀ t, own_S p e below T54 (mkF m 165 #[.val (.ref d1), .val (.ref x1), .val (.int (0 : Int32)), .val (.int (1 : Int32)), .val (.int (97 : Int32)), .val (.int (1 : Int32))] [(.ref bE)]) t → Gl t := fun t kt => kn53 t (st54 _ kt)
  have kn56 : ∀ t, own_S p e below T54 (mkF m 166 #[.val (.ref d1), .val (.ref x1), .val (.int (0 : Int32)), .val (.int (1 : Int32)), .val (.int (97 : Int32)), .val (.int (1 : Int32))] [(.ref d1), (.ref bE)]) t → Gl t := fun t kt => kn55 t (by
    show own_S p e below T54 (mkF m 165 #[.val (.ref d1), .val (.ref x1), .val (.int (0 : Int32)), .val (.int (1 : Int32)), .val (.int (97 : Int32)), .val (.int (1 : Int32))] [(.ref bE)]) _
    refine XS.aloadN X54.here hx rfl (hb hby d_prog_82_method_4_165) rfl rfl ?_
    exact kt)
  obtain ⟨T57, X57, e57, st57⟩ := getF X54 hx hZ hown (host := "") (Or.inl (hw _ (List.mem_of_getElem? (i := 65) rfl))) Via.refl e54 f44 (g := (mkF m 166 #[.val (.ref d1), .val (.ref x1), .val (.int (0 : Int32)), .val (.int (1 : Int32)), .val (.int (97 : Int32)), .val (.int (1 : Int32))] [(.ref d1), (.ref bE)])) rfl rfl (hb hby d_prog_82_method_4_166)
  have kn58 : ∀ t, own_S p e below T57 (mkF m 169 #[.val (.ref d1), .val (.ref x1), .val (.int (0 : Int32)), .val (.int (1 : Int32)), .val (.int (97 : Int32)), .val (.int (1 : Int32))] [(.int (0 : Int32)), (.ref bE)]) t → Gl t := fun t kt => kn56 t (st57 _ kt)
  have kn59 : ∀ t, own_S p e below T57 (mkF m 170 #[.val (.ref d1), .val (.ref x1), .val (.int (0 : Int32)), .val (.int (1 : Int32)), .val (.int (97 : Int32)), .val (.int (1 : Int32))] [(.int (1 : Int32)), (.int (0 : Int32)), (.ref bE)]) t → Gl t := fun t kt => kn58 t (by
    show own_S p e below T57 (mkF m 169 #[.val (.ref d1), .val (.ref x1), .val (.int (0 : Int32)), .val (.int (1 : Int32)), .val (.int (97 : Int32)), .val (.int (1 : Int32))] [(.int (0 : Int32)), (.ref bE)]) _
    refine XS.iloadN X57.here hx rfl (hb hby d_prog_82_method_4_169) rfl ?_
    exact kt)
  obtain ⟨cl60, Ar60, q60, Sz60, Ng60, Hs60, Gs60⟩ := id f51
  have hin60 : ¬ ((0 : Int32) < 0 ∨ cl60.slots.size ≤ ((0 : Int32)).toNatClampNeg) := inb_of Sz60 ⟨by decide, by decide⟩
  obtain ⟨T60, h60, X60, e60, W60, st60⟩ := stI X57 hx hZ e57 Ar60 (j := (0 : Int32)) hin60 (g := (mkF m 170 #[.val (.ref d1), .val (.ref x1), .val (.int (0 : Int32)), .val (.int (1 : Int32)), .val (.int (97 : Int32)), .val (.int (1 : Int32))] [(.int (1 : Int32)), (.int (0 : Int32)), (.ref bE)])) rfl rfl (hb hby d_prog_82_method_4_170)
  have Z61 : n0 ≤ h60.size := Nat.le_trans Z18 (Keep.of_wr W60).1
  have O62 : Old Z n0 h60 := O19.wr W60 g_bE
  have K63 : Keep h0 h60 [d1, bB, bE, bH, bS] := K20.wr W60 (Or.inl (List.mem_of_getElem? (i := 2) rfl))
  have V60 : Arv Z h60 bE kE .int (8 : Int32) [(.int (1 : Int32)), (.int (0 : Int32)), (.int (0 : Int32)), (.int (0 : Int32)), (.int (0 : Int32)), (.int (0 : Int32)), (.int (0 : Int32)), (.int (0 : Int32))] (.int (0 : Int32)) := Arv.set Ar60 q60 Sz60 Ng60 Hs60 Gs60 rfl W60 0 rfl (Nat.le_of_ble_eq_true rfl)
  have Nf64 := Fr.snoc X60 Nf33 g_bE
  have kn65 : ∀ t, own_S p e below T60 (mkF m 171 #[.val (.ref d1), .val (.ref x1), .val (.int (0 : Int32)), .val (.int (1 : Int32)), .val (.int (97 : Int32)), .val (.int (1 : Int32))] []) t → Gl t := fun t kt => kn59 t (st60 _ kt)
  have kn66 : ∀ t, own_S p e below T60 (mkF m 172 #[.val (.ref d1), .val (.ref x1), .val (.int (0 : Int32)), .val (.int (1 : Int32)), .val (.int (97 : Int32)), .val (.int (1 : Int32))] [(.ref d1)]) t → Gl t := fun t kt => kn65 t (by
    show own_S p e below T60 (mkF m 171 #[.val (.ref d1), .val (.ref x1), .val (.int (0 : Int32)), .val (.int (1 : Int32)), .val (.int (97 : Int32)), .val (.int (1 : Int32))] []) _
    refine XS.aloadN X60.here hx rfl (hb hby d_prog_82_method_4_171) rfl rfl ?_
    exact kt)
  have f67 := ((FD2.keep K17 (ninS ne_d1_bB nin0)).other W60 (Or.inl ne_d1_bE))
  obtain ⟨T68, X68, e68, st68⟩ := getF X60 hx hZ hown (host := "") (Or.inl (hw _ (List.mem_of_getElem? (i := 29) rfl))) Via.refl e60 f67 (g := (mkF m 172 #[.val (.ref d1), .val (.ref x1), .val (.int (0 : Int32)), .val (.int (1 : Int32)), .val (.int (97 : Int32)), .val (.int (1 : Int32))] [(.ref d1)])) rfl rfl (hb hby d_prog_82_method_4_172)
  have kn69 : ∀ t, own_S p e below T68 (mkF m 175 #[.val (.ref d1), .val (.ref x1), .val (.int (0 : Int32)), .val (.int (1 : Int32)), .val (.int (97 : Int32)), .val (.int (1 : Int32))] [(.ref bH)]) t → Gl t := fun t kt => kn66 t (st68 _ kt)
  have kn70 : ∀ t, own_S p e below T68 (mkF m 176 #[.val (.ref d1), .val (.ref x1), .val (.int (0 : Int32)), .val (.int (1 : Int32)), .val (.int (97 : Int32)), .val (.int (1 : Int32))] [(.ref d1), (.ref bH)]) t → Gl t := fun t kt => kn69 t (by
    show own_S p e below T68 (mkF m 175 #[.val (.ref d1), .val (.ref x1), .val (.int (0 : Int32)), .val (.int (1 : Int32)), .val (.int (97 : Int32)), .val (.int (1 : Int32))] [(.ref bH)]) _
    refine XS.aloadN X68.here hx rfl (hb hby d_prog_82_method_4_175) rfl rfl ?_
    exact kt)
  have f71 := (f44.other W60 (Or.inl ne_d1_bE))
  obtain ⟨T72, X72, e72, st72⟩ := getF X68 hx hZ hown (host := "") (Or.inl (hw _ (List.mem_of_getElem? (i := 65) rfl))) Via.refl e68 f71 (g := (mkF m 176 #[.val (.ref d1), .val (.ref x1), .val (.int (0 : Int32)), .val (.int (1 : Int32)), .val (.int (97 : Int32)), .val (.int (1 : Int32))] [(.ref d1), (.ref bH)])) rfl rfl (hb hby d_prog_82_method_4_176)
  have kn73 : ∀ t, own_S p e below T72 (mkF m 179 #[.val (.ref d1), .val (.ref x1), .val (.int (0 : Int32)), .val (.int (1 : Int32)), .val (.int (97 : Int32)), .val (.int (1 : Int32))] [(.int (0 : Int32)), (.ref bH)]) t → Gl t := fun t kt => kn70 t (st72 _ kt)
  have kn74 : ∀ t, own_S p e below T72 (mkF m 181 #[.val (.ref d1), .val (.ref x1), .val (.int (0 : Int32)), .val (.int (1 : Int32)), .val (.int (97 : Int32)), .val (.int (1 : Int32))] [(.int (97 : Int32)), (.int (0 : Int32)), (.ref bH)]) t → Gl t := fun t kt => kn73 t (by
    show own_S p e below T72 (mkF m 179 #[.val (.ref d1), .val (.ref x1), .val (.int (0 : Int32)), .val (.int (1 : Int32)), .val (.int (97 : Int32)), .val (.int (1 : Int32))] [(.int (0 : Int32)), (.ref bH)]) _
    refine XS.iload X72.here hx rfl (hb hby d_prog_82_method_4_179) rfl ?_
    exact kt)
  have f75 := ((AD2.keep K17 (ninS (Ne.symm ne_bB_bH) nin0)).other W60 (Ne.symm ne_bE_bH))
  obtain ⟨cl76, Ar76, q76, Sz76, Ng76, Hs76, Gs76⟩ := id f75
  have hin76 : ¬ ((0 : Int32) < 0 ∨ cl76.slots.size ≤ ((0 : Int32)).toNatClampNeg) := inb_of Sz76 ⟨by decide, by decide⟩
  obtain ⟨T76, h76, X76, e76, W76, st76⟩ := stI X72 hx hZ e72 Ar76 (j := (0 : Int32)) hin76 (g := (mkF m 181 #[.val (.ref d1), .val (.ref x1), .val (.int (0 : Int32)), .val (.int (1 : Int32)), .val (.int (97 : Int32)), .val (.int (1 : Int32))] [(.int (97 : Int32)), (.int (0 : Int32)), (.ref bH)])) rfl rfl (hb hby d_prog_82_method_4_181)
  have Z77 : n0 ≤ h76.size := Nat.le_trans Z61 (Keep.of_wr W76).1
  have O78 : Old Z n0 h76 := O62.wr W76 g_bH
  have K79 : Keep h0 h76 [d1, bB, bE, bH, bS] := K63.wr W76 (Or.inl (List.mem_of_getElem? (i := 3) rfl))
  have V76 : Arv Z h76 bH kH .int (8 : Int32) [(.int (97 : Int32)), (.int (0 : Int32)), (.int (0 : Int32)), (.int (0 : Int32)), (.int (0 : Int32)), (.int (0 : Int32)), (.int (0 : Int32)), (.int (0 : Int32))] (.int (0 : Int32)) := Arv.set Ar76 q76 Sz76 Ng76 Hs76 Gs76 rfl W76 0 rfl (Nat.le_of_ble_eq_true rfl)
  have Nf80 := Fr.snoc X76 Nf64 g_bH
  have kn81 : ∀ t, own_S p e below T76 (mkF m 182 #[.val (.ref d1), .val (.ref x1), .val (.int (0 : Int32)), .val (.int (1 : Int32)), .val (.int (97 : Int32)), .val (.int (1 : Int32))] []) t → Gl t := fun t kt => kn74 t (st76 _ kt)
  have kn82 : ∀ t, own_S p e below T76 (mkF m 184 #[.val (.ref d1), .val (.ref x1), .val (.int (0 : Int32)), .val (.int (1 : Int32)), .val (.int (97 : Int32)), .val (.int (1 : Int32))] [(.ref d1), (.ref d1)]) t → Gl t := fun t kt => kn81 t (by
    show own_S p e below T76 (mkF m 182 #[.val (.ref d1), .val (.ref x1), .val (.int (0 : Int32)), .val (.int (1 : Int32)), .val (.int (97 : Int32)), .val (.int (1 : Int32))] []) _
    refine XS.aloadN X76.here hx rfl (hb hby d_prog_82_method_4_182) rfl rfl ?_
    show own_S p e below T76 (mkF m 183 #[.val (.ref d1), .val (.ref x1), .val (.int (0 : Int32)), .val (.int (1 : Int32)), .val (.int (97 : Int32)), .val (.int (1 : Int32))] [(.ref d1)]) _
    refine XS.dup X76.here hx rfl (hb hby d_prog_82_method_4_183) rfl rfl ?_
    exact kt)
  have f83 := (f71.other W76 (Or.inl ne_d1_bH))
  obtain ⟨T84, X84, e84, st84⟩ := getF X76 hx hZ hown (host := "") (Or.inl (hw _ (List.mem_of_getElem? (i := 65) rfl))) Via.refl e76 f83 (g := (mkF m 184 #[.val (.ref d1), .val (.ref x1), .val (.int (0 : Int32)), .val (.int (1 : Int32)), .val (.int (97 : Int32)), .val (.int (1 : Int32))] [(.ref d1), (.ref d1)])) rfl rfl (hb hby d_prog_82_method_4_184)
  have kn85 : ∀ t, own_S p e below T84 (mkF m 187 #[.val (.ref d1), .val (.ref x1), .val (.int (0 : Int32)), .val (.int (1 : Int32)), .val (.int (97 : Int32)), .val (.int (1 : Int32))] [(.int (0 : Int32)), (.ref d1)]) t → Gl t := fun t kt => kn82 t (st84 _ kt)
  have kn86 : ∀ t, own_S p e below T84 (mkF m 189 #[.val (.ref d1), .val (.ref x1), .val (.int (0 : Int32)), .val (.int (1 : Int32)), .val (.int (97 : Int32)), .val (.int (1 : Int32))] [(.int (1 : Int32)), (.ref d1)]) t → Gl t := fun t kt => kn85 t (by
    show own_S p e below T84 (mkF m 187 #[.val (.ref d1), .val (.ref x1), .val (.int (0 : Int32)), .val (.int (1 : Int32)), .val (.int (97 : Int32)), .val (.int (1 : Int32))] [(.int (0 : Int32)), (.ref d1)]) _
    refine XS.iconst X84.here hx rfl (hb hby d_prog_82_method_4_187) ?_
    show own_S p e below T84 (mkF m 188 #[.val (.ref d1), .val (.ref x1), .val (.int (0 : Int32)), .val (.int (1 : Int32)), .val (.int (97 : Int32)), .val (.int (1 : Int32))] [(.int (1 : Int32)), (.int (0 : Int32)), (.ref d1)]) _
    refine XS.iadd X84.here hx rfl (hb hby d_prog_82_method_4_188) rfl ?_
    rw [(by decide : ((0 : Int32) + (1 : Int32)) = (1 : Int32))]
    exact kt)
  have f87 := ((f36.wr W60).wr W76)
  obtain ⟨T88, h88, X88, e88, W88, st88⟩ := putF X84 hx hZ hown (host := "") (Or.inl (hw _ (List.mem_of_getElem? (i := 65) rfl))) Via.refl e84 f83 f87 (Or.inl (hw _ (List.mem_of_getElem? (i := 66) rfl))) (hw _ (List.mem_of_getElem? (i := 10) rfl)) (ty := .int) (by decide) rfl rfl (g := (mkF m 189 #[.val (.ref d1), .val (.ref x1), .val (.int (0 : Int32)), .val (.int (1 : Int32)), .val (.int (97 : Int32)), .val (.int (1 : Int32))] [(.int (1 : Int32)), (.ref d1)])) rfl rfl (hb hby d_prog_82_method_4_189)
  have Z89 : n0 ≤ h88.size := Nat.le_trans Z77 (Keep.of_wr W88).1
  have O90 : Old Z n0 h88 := O78.wr W88 g_d1
  have K91 : Keep h0 h88 [d1, bB, bE, bH, bS] := K79.wr W88 (Or.inl (List.mem_of_getElem? (i := 0) rfl))
  have Fw88 := f83.same W88
  have Nf92 := Fr.snoc X88 Nf80 g_d1
  have kn93 : ∀ t, own_S p e below T88 (mkF m 192 #[.val (.ref d1), .val (.ref x1), .val (.int (0 : Int32)), .val (.int (1 : Int32)), .val (.int (97 : Int32)), .val (.int (1 : Int32))] []) t → Gl t := fun t kt => kn86 t (st88 _ kt)
  have kn94 : ∀ t, own_S p e below T88 (mkF m 193 #[.val (.ref d1), .val (.ref x1), .val (.int (0 : Int32)), .val (.int (1 : Int32)), .val (.int (97 : Int32)), .val (.int (1 : Int32))] [(.ref d1)]) t → Gl t := fun t kt => kn93 t (by
    show own_S p e below T88 (mkF m 192 #[.val (.ref d1), .val (.ref x1), .val (.int (0 : Int32)), .val (.int (1 : Int32)), .val (.int (97 : Int32)), .val (.int (1 : Int32))] []) _
    refine XS.aloadN X88.here hx rfl (hb hby d_prog_82_method_4_192) rfl rfl ?_
    exact kt)
  have f95 := (((f34.other W60 (Or.inl ne_d1_bE)).other W76 (Or.inl ne_d1_bH)).other W88 (Or.inr (slot_ne (Or.inl (hw _ (List.mem_of_getElem? (i := 41) rfl))) (Or.inl (hw _ (List.mem_of_getElem? (i := 66) rfl))) (by decide) (t := (.array .int)) (t' := .int) (by decide) (by decide))))
  obtain ⟨T96, X96, e96, st96⟩ := getF X88 hx hZ hown (host := "") (Or.inl (hw _ (List.mem_of_getElem? (i := 40) rfl))) Via.refl e88 f95 (g := (mkF m 193 #[.val (.ref d1), .val (.ref x1), .val (.int (0 : Int32)), .val (.int (1 : Int32)), .val (.int (97 : Int32)), .val (.int (1 : Int32))] [(.ref d1)])) rfl rfl (hb hby d_prog_82_method_4_193)
  have kn97 : ∀ t, own_S p e below T96 (mkF m 196 #[.val (.ref d1), .val (.ref x1), .val (.int (0 : Int32)), .val (.int (1 : Int32)), .val (.int (97 : Int32)), .val (.int (1 : Int32))] [(.ref bS)]) t → Gl t := fun t kt => kn94 t (st96 _ kt)
  have kn98 : ∀ t, own_S p e below T96 (mkF m 199 #[.val (.ref d1), .val (.ref x1), .val (.int (0 : Int32)), .val (.int (1 : Int32)), .val (.int (97 : Int32)), .val (.int (1 : Int32))] [(.ref d1), (.int (1 : Int32)), (.ref bS)]) t → Gl t := fun t kt => kn97 t (by
    show own_S p e below T96 (mkF m 196 #[.val (.ref d1), .val (.ref x1), .val (.int (0 : Int32)), .val (.int (1 : Int32)), .val (.int (97 : Int32)), .val (.int (1 : Int32))] [(.ref bS)]) _
    refine XS.iload X96.here hx rfl (hb hby d_prog_82_method_4_196) rfl ?_
    show own_S p e below T96 (mkF m 198 #[.val (.ref d1), .val (.ref x1), .val (.int (0 : Int32)), .val (.int (1 : Int32)), .val (.int (97 : Int32)), .val (.int (1 : Int32))] [(.int (1 : Int32)), (.ref bS)]) _
    refine XS.aloadN X96.here hx rfl (hb hby d_prog_82_method_4_198) rfl rfl ?_
    exact kt)
  obtain ⟨T99, X99, e99, st99⟩ := getF X96 hx hZ hown (host := "") (Or.inl (hw _ (List.mem_of_getElem? (i := 65) rfl))) Via.refl e96 Fw88 (g := (mkF m 199 #[.val (.ref d1), .val (.ref x1), .val (.int (0 : Int32)), .val (.int (1 : Int32)), .val (.int (97 : Int32)), .val (.int (1 : Int32))] [(.ref d1), (.int (1 : Int32)), (.ref bS)])) rfl rfl (hb hby d_prog_82_method_4_199)
  have kn100 : ∀ t, own_S p e below T99 (mkF m 202 #[.val (.ref d1), .val (.ref x1), .val (.int (0 : Int32)), .val (.int (1 : Int32)), .val (.int (97 : Int32)), .val (.int (1 : Int32))] [(.int (1 : Int32)), (.int (1 : Int32)), (.ref bS)]) t → Gl t := fun t kt => kn98 t (st99 _ kt)
  have f101 := (((f35.other W60 (Ne.symm ne_bE_bS)).other W76 (Ne.symm ne_bH_bS)).other W88 (Ne.symm ne_d1_bS))
  obtain ⟨cl102, Ar102, q102, Sz102, Ng102, Hs102, Gs102⟩ := id f101
  have hin102 : ¬ ((1 : Int32) < 0 ∨ cl102.slots.size ≤ ((1 : Int32)).toNatClampNeg) := inb_of Sz102 ⟨by decide, by decide⟩
  obtain ⟨T102, h102, X102, e102, W102, st102⟩ := stI X99 hx hZ e99 Ar102 (j := (1 : Int32)) hin102 (g := (mkF m 202 #[.val (.ref d1), .val (.ref x1), .val (.int (0 : Int32)), .val (.int (1 : Int32)), .val (.int (97 : Int32)), .val (.int (1 : Int32))] [(.int (1 : Int32)), (.int (1 : Int32)), (.ref bS)])) rfl rfl (hb hby d_prog_82_method_4_202)
  have Z103 : n0 ≤ h102.size := Nat.le_trans Z89 (Keep.of_wr W102).1
  have O104 : Old Z n0 h102 := O90.wr W102 g_bS
  have K105 : Keep h0 h102 [d1, bB, bE, bH, bS] := K91.wr W102 (Or.inl (List.mem_of_getElem? (i := 4) rfl))
  have V102 : Arv Z h102 bS kS .int (16 : Int32) [(.int (0 : Int32)), (.int (1 : Int32)), (.int (0 : Int32)), (.int (0 : Int32)), (.int (0 : Int32)), (.int (0 : Int32)), (.int (0 : Int32)), (.int (0 : Int32)), (.int (0 : Int32)), (.int (0 : Int32)), (.int (0 : Int32)), (.int (0 : Int32)), (.int (0 : Int32)), (.int (0 : Int32)), (.int (0 : Int32)), (.int (0 : Int32))] (.int (0 : Int32)) := Arv.set Ar102 q102 Sz102 Ng102 Hs102 Gs102 rfl W102 1 rfl (Nat.le_of_ble_eq_true rfl)
  have Nf106 := Fr.snoc X102 Nf92 g_bS
  have kn107 : ∀ t, own_S p e below T102 (mkF m 203 #[.val (.ref d1), .val (.ref x1), .val (.int (0 : Int32)), .val (.int (1 : Int32)), .val (.int (97 : Int32)), .val (.int (1 : Int32))] []) t → Gl t := fun t kt => kn100 t (st102 _ kt)
  have kn108 : ∀ t, own_S p e below T102 (mkF m 204 #[.val (.ref d1), .val (.ref x1), .val (.int (0 : Int32)), .val (.int (1 : Int32)), .val (.int (97 : Int32)), .val (.int (1 : Int32))] [(.ref d1)]) t → Gl t := fun t kt => kn107 t (by
    show own_S p e below T102 (mkF m 203 #[.val (.ref d1), .val (.ref x1), .val (.int (0 : Int32)), .val (.int (1 : Int32)), .val (.int (97 : Int32)), .val (.int (1 : Int32))] []) _
    refine XS.aloadN X102.here hx rfl (hb hby d_prog_82_method_4_203) rfl rfl ?_
    exact kt)
  have f109 := (Fw88.other W102 (Or.inl ne_d1_bS))
  obtain ⟨T110, X110, e110, st110⟩ := getF X102 hx hZ hown (host := "") (Or.inl (hw _ (List.mem_of_getElem? (i := 65) rfl))) Via.refl e102 f109 (g := (mkF m 204 #[.val (.ref d1), .val (.ref x1), .val (.int (0 : Int32)), .val (.int (1 : Int32)), .val (.int (97 : Int32)), .val (.int (1 : Int32))] [(.ref d1)])) rfl rfl (hb hby d_prog_82_method_4_204)
  have kn111 : ∀ t, own_S p e below T110 (mkF m 207 #[.val (.ref d1), .val (.ref x1), .val (.int (0 : Int32)), .val (.int (1 : Int32)), .val (.int (97 : Int32)), .val (.int (1 : Int32))] [(.int (1 : Int32))]) t → Gl t := fun t kt => kn108 t (st110 _ kt)
  have kn112 : ∀ t, own_S p e below T110 (mkF m 210 #[.val (.ref d1), .val (.ref x1), .val (.int (0 : Int32)), .val (.int (1 : Int32)), .val (.int (97 : Int32)), .val (.int (1 : Int32))] [(.ref d1), (.int (2 : Int32))]) t → Gl t := fun t kt => kn111 t (by
    show own_S p e below T110 (mkF m 207 #[.val (.ref d1), .val (.ref x1), .val (.int (0 : Int32)), .val (.int (1 : Int32)), .val (.int (97 : Int32)), .val (.int (1 : Int32))] [(.int (1 : Int32))]) _
    refine XS.iconst X110.here hx rfl (hb hby d_prog_82_method_4_207) ?_
    show own_S p e below T110 (mkF m 208 #[.val (.ref d1), .val (.ref x1), .val (.int (0 : Int32)), .val (.int (1 : Int32)), .val (.int (97 : Int32)), .val (.int (1 : Int32))] [(.int (2 : Int32)), (.int (1 : Int32))]) _
    refine XS.imul X110.here hx rfl (hb hby d_prog_82_method_4_208) rfl ?_
    rw [(by decide : ((1 : Int32) * (2 : Int32)) = (2 : Int32))]
    show own_S p e below T110 (mkF m 209 #[.val (.ref d1), .val (.ref x1), .val (.int (0 : Int32)), .val (.int (1 : Int32)), .val (.int (97 : Int32)), .val (.int (1 : Int32))] [(.int (2 : Int32))]) _
    refine XS.aloadN X110.here hx rfl (hb hby d_prog_82_method_4_209) rfl rfl ?_
    exact kt)
  have f113 := (f95.other W102 (Or.inl ne_d1_bS))
  obtain ⟨T114, X114, e114, st114⟩ := getF X110 hx hZ hown (host := "") (Or.inl (hw _ (List.mem_of_getElem? (i := 40) rfl))) Via.refl e110 f113 (g := (mkF m 210 #[.val (.ref d1), .val (.ref x1), .val (.int (0 : Int32)), .val (.int (1 : Int32)), .val (.int (97 : Int32)), .val (.int (1 : Int32))] [(.ref d1), (.int (2 : Int32))])) rfl rfl (hb hby d_prog_82_method_4_210)
  have kn115 : ∀ t, own_S p e below T114 (mkF m 213 #[.val (.ref d1), .val (.ref x1), .val (.int (0 : Int32)), .val (.int (1 : Int32)), .val (.int (97 : Int32)), .val (.int (1 : Int32))] [(.ref bS), (.int (2 : Int32))]) t → Gl t := fun t kt => kn112 t (st114 _ kt)
  obtain ⟨cl116, Ar116, -, Sz116, Ng116, -, -⟩ := id V102
  have kn117 : ∀ t, own_S p e below T114 (mkF m 222 #[.val (.ref d1), .val (.ref x1), .val (.int (0 : Int32)), .val (.int (1 : Int32)), .val (.int (97 : Int32)), .val (.int (1 : Int32))] [(.ref d1)]) t → Gl t := fun t kt => kn115 t (by
    show own_S p e below T114 (mkF m 213 #[.val (.ref d1), .val (.ref x1), .val (.int (0 : Int32)), .val (.int (1 : Int32)), .val (.int (97 : Int32)), .val (.int (1 : Int32))] [(.ref bS), (.int (2 : Int32))]) _
    refine X114.arraylength hx (by rw [e114]; exact Ar116.1) (State.isArrayOf_alike hZ.alike Ar116.2.1) (g := (mkF m 213 #[.val (.ref d1), .val (.ref x1), .val (.int (0 : Int32)), .val (.int (1 : Int32)), .val (.int (97 : Int32)), .val (.int (1 : Int32))] [(.ref bS), (.int (2 : Int32))])) rfl rfl (hb hby d_prog_82_method_4_213) _ ?_
    rw [len_of Sz116 Ng116]
    show own_S p e below T114 (mkF m 214 #[.val (.ref d1), .val (.ref x1), .val (.int (0 : Int32)), .val (.int (1 : Int32)), .val (.int (97 : Int32)), .val (.int (1 : Int32))] [(.int (16 : Int32)), (.int (2 : Int32))]) _
    refine XS.icmpYes X114.here hx rfl (pc0 := 214) (pc' := 221) rfl (hb hby d_prog_82_method_4_214) rfl (flt (by decide : ¬ ((16 : Int32) < (2 : Int32)))).2.2.2 (by decide) (by decide) ?_
    show own_S p e below T114 (mkF m 221 #[.val (.ref d1), .val (.ref x1), .val (.int (0 : Int32)), .val (.int (1 : Int32)), .val (.int (97 : Int32)), .val (.int (1 : Int32))] []) _
    refine XS.aloadN X114.here hx rfl (hb hby d_prog_82_method_4_221) rfl rfl ?_
    exact kt)
  obtain ⟨T118, X118, e118, st118⟩ := getF X114 hx hZ hown (host := "") (Or.inl (hw _ (List.mem_of_getElem? (i := 65) rfl))) Via.refl e114 f109 (g := (mkF m 222 #[.val (.ref d1), .val (.ref x1), .val (.int (0 : Int32)), .val (.int (1 : Int32)), .val (.int (97 : Int32)), .val (.int (1 : Int32))] [(.ref d1)])) rfl rfl (hb hby d_prog_82_method_4_222)
  have kn119 : ∀ t, own_S p e below T118 (mkF m 225 #[.val (.ref d1), .val (.ref x1), .val (.int (0 : Int32)), .val (.int (1 : Int32)), .val (.int (97 : Int32)), .val (.int (1 : Int32))] [(.int (1 : Int32))]) t → Gl t := fun t kt => kn117 t (st118 _ kt)
  have kn120 : ∀ t, own_S p e below T118 (mkF m 227 #[.val (.ref d1), .val (.ref x1), .val (.int (0 : Int32)), .val (.int (1 : Int32)), .val (.int (97 : Int32)), .val (.int (1 : Int32))] [(.int (0 : Int32))]) t → Gl t := fun t kt => kn119 t (by
    show own_S p e below T118 (mkF m 225 #[.val (.ref d1), .val (.ref x1), .val (.int (0 : Int32)), .val (.int (1 : Int32)), .val (.int (97 : Int32)), .val (.int (1 : Int32))] [(.int (1 : Int32))]) _
    refine XS.iconst X118.here hx rfl (hb hby d_prog_82_method_4_225) ?_
    show own_S p e below T118 (mkF m 226 #[.val (.ref d1), .val (.ref x1), .val (.int (0 : Int32)), .val (.int (1 : Int32)), .val (.int (97 : Int32)), .val (.int (1 : Int32))] [(.int (1 : Int32)), (.int (1 : Int32))]) _
    refine XS.isub X118.here hx rfl (hb hby d_prog_82_method_4_226) rfl ?_
    rw [(by decide : ((1 : Int32) - (1 : Int32)) = (0 : Int32))]
    exact kt)
  obtain ⟨fs, hr, hrun, hended, hW, hsame⟩ := X118.leave (v := some (.int (0 : Int32))) (fun h => by rw [Bd.returns] at h; cases h)
  refine ⟨_, _, hGl _ (kn120 _ (retI X118 hx Bd.returns (hb hby d_prog_82_method_4_227) hr)), hrun, hended, _, _, rfl, ?_, ⟨_, rfl⟩, hW, hsame.mono (by decide) (by decide)⟩
  show Q9_0 Z d1 x1 bB bE bH bS kB kE kH kS t1 k1 G1 G3 h0 n0 _ T118.heap _
  rw [e118]
  have f121 := ((f87.wr W88).wr W102)
  have f122 := ((((f23.other W60 (Or.inl ne_d1_bE)).other W76 (Or.inl ne_d1_bH)).other W88 (Or.inr (slot_ne (Or.inl (hw _ (List.mem_of_getElem? (i := 25) rfl))) (Or.inl (hw _ (List.mem_of_getElem? (i := 66) rfl))) (by decide) (t := (.array .byte)) (t' := .int) (by decide) (by decide)))).other W102 (Or.inl ne_d1_bS))
  have f123 := ((((f48.other W60 (Or.inl ne_d1_bE)).other W76 (Or.inl ne_d1_bH)).other W88 (Or.inr (slot_ne (Or.inl (hw _ (List.mem_of_getElem? (i := 28) rfl))) (Or.inl (hw _ (List.mem_of_getElem? (i := 66) rfl))) (by decide) (t := (.array .int)) (t' := .int) (by decide) (by decide)))).other W102 (Or.inl ne_d1_bS))
  have f124 := (((f67.other W76 (Or.inl ne_d1_bH)).other W88 (Or.inr (slot_ne (Or.inl (hw _ (List.mem_of_getElem? (i := 30) rfl))) (Or.inl (hw _ (List.mem_of_getElem? (i := 66) rfl))) (by decide) (t := (.array .int)) (t' := .int) (by decide) (by decide)))).other W102 (Or.inl ne_d1_bS))
  have f125 := ((((Vb17.other W60 ne_bB_bE).other W76 ne_bB_bH).other W88 (Ne.symm ne_d1_bB)).other W102 ne_bB_bS)
  have f126 := (((V60.other W76 ne_bE_bH).other W88 (Ne.symm ne_d1_bE)).other W102 ne_bE_bS)
  have f127 := ((V76.other W88 (Ne.symm ne_d1_bH)).other W102 ne_bH_bS)
  exact ⟨rfl, Nf106, K105, f121, f122, f123, f124, f113, f109, f125, f126, f127, V102⟩

theorem ef_rm9_1 (m : MethodId) (x0 : Addr) (x1 : Addr) : entryFrame m #[(.ref x0), (.ref x1)] 6 = mkF m 0 #[.val (.ref x0), .val (.ref x1), .unset, .unset, .unset, .unset] [] := by first | (simp [entryFrame, mkF, argsToLocals, Value.category]; done) | rfl
def Q9_1 (Z : State) (d1 : Addr) (x1 : Addr) (bB : Addr) (bE : Addr) (bH : Addr) (bS : Addr) (kB : ClassId) (kE : ClassId) (kH : ClassId) (kS : ClassId) (t1 : Addr) (k1 : ClassId) (G1 : Int32) (G3 : Value) (h0 : Heap) (n0 : Nat) (v : Option Value) (h : Heap) (L : List Loc) : Prop := v = some (.int (1 : Int32)) ∧ Fr n0 L ∧ Keep h0 h [d1, bB, bE, bH, bS] ∧ Exa Z h d1 "com/example/runs_to_scores/runstoscores/scoring/TopicDocnos" ∧ Fld Z h d1 "com/example/runs_to_scores/runstoscores/scoring/TopicDocnos" "bytes" "[B" (.ref bB) ∧ Fld Z h d1 "com/example/runs_to_scores/runstoscores/scoring/TopicDocnos" "ends" "[I" (.ref bE) ∧ Fld Z h d1 "com/example/runs_to_scores/runstoscores/scoring/TopicDocnos" "hashes" "[I" (.ref bH) ∧ Fld Z h d1 "com/example/runs_to_scores/runstoscores/scoring/TopicDocnos" "slots" "[I" (.ref bS) ∧ Fld Z h d1 "com/example/runs_to_scores/runstoscores/scoring/TopicDocnos" "size" "I" (.int (2 : Int32)) ∧ Arv Z h bB kB .byte (64 : Int32) ((.int (97 : Int32)) :: (.int (98 : Int32)) :: (.int (0 : Int32)) :: (.int (0 : Int32)) :: (.int (0 : Int32)) :: (.int (0 : Int32)) :: (.int (0 : Int32)) :: (.int (0 : Int32)) :: (.int (0 : Int32)) :: (.int (0 : Int32)) :: (.int (0 : Int32)) :: (.int (0 : Int32)) :: (.int (0 : Int32)) :: (.int (0 : Int32)) :: (.int (0 : Int32)) :: (.int (0 : Int32)) :: (.int (0 : Int32)) :: (.int (0 : Int32)) :: (.int (0 : Int32)) :: (.int (0 : Int32)) :: (.int (0 : Int32)) :: (.int (0 : Int32)) :: (.int (0 : Int32)) :: (.int (0 : Int32)) :: (.int (0 : Int32)) :: (.int (0 : Int32)) :: (.int (0 : Int32)) :: (.int (0 : Int32)) :: (.int (0 : Int32)) :: (.int (0 : Int32)) :: (.int (0 : Int32)) :: (.int (0 : Int32)) :: (.int (0 : Int32)) :: (.int (0 : Int32)) :: (.int (0 : Int32)) :: (.int (0 : Int32)) :: (.int (0 : Int32)) :: (.int (0 : Int32)) :: (.int (0 : Int32)) :: (.int (0 : Int32)) :: (.int (0 : Int32)) :: (.int (0 : Int32)) :: (.int (0 : Int32)) :: (.int (0 : Int32)) :: (.int (0 : Int32)) :: (.int (0 : Int32)) :: (.int (0 : Int32)) :: (.int (0 : Int32)) :: (.int (0 : Int32)) :: (.int (0 : Int32)) :: (.int (0 : Int32)) :: (.int (0 : Int32)) :: (.int (0 : Int32)) :: (.int (0 : Int32)) :: (.int (0 : Int32)) :: (.int (0 : Int32)) :: (.int (0 : Int32)) :: (.int (0 : Int32)) :: (.int (0 : Int32)) :: (.int (0 : Int32)) :: (.int (0 : Int32)) :: (.int (0 : Int32)) :: (.int (0 : Int32)) :: (.int (0 : Int32)) :: []) (.int (0 : Int32)) ∧ Arv Z h bE kE .int (8 : Int32) [(.int (1 : Int32)), (.int (2 : Int32)), (.int (0 : Int32)), (.int (0 : Int32)), (.int (0 : Int32)), (.int (0 : Int32)), (.int (0 : Int32)), (.int (0 : Int32))] (.int (0 : Int32)) ∧ Arv Z h bH kH .int (8 : Int32) [(.int (97 : Int32)), (.int (98 : Int32)), (.int (0 : Int32)), (.int (0 : Int32)), (.int (0 : Int32)), (.int (0 : Int32)), (.int (0 : Int32)), (.int (0 : Int32))] (.int (0 : Int32)) ∧ Arv Z h bS kS .int (16 : Int32) [(.int (0 : Int32)), (.int (1 : Int32)), (.int (2 : Int32)), (.int (0 : Int32)), (.int (0 : Int32)), (.int (0 : Int32)), (.int (0 : Int32)), (.int (0 : Int32)), (.int (0 : Int32)), (.int (0 : Int32)), (.int (0 : Int32)), (.int (0 : Int32)), (.int (0 : Int32)), (.int (0 : Int32)), (.int (0 : Int32)), (.int (0 : Int32))] (.int (0 : Int32))
set_option maxRecDepth 65536 in
set_option maxHeartbeats 40000000 in
theorem rm9_1 (l : Launch) (Z : State) (a0 : Array Value) (hw : ∀ d ∈ tables_1, d.before a0 Z = true) (ws : List Jvm.Cond) (d1 : Addr) (x1 : Addr) (bB : Addr) (bE : Addr) (bH : Addr) (bS : Addr) (kB : ClassId) (kE : ClassId) (kH : ClassId) (kS : ClassId) (t1 : Addr) (k1 : ClassId) (G1 : Int32) (G3 : Value) (h0 : Heap) (n0 : Nat) (Z0 : n0 ≤ h0.size) (ED : Exa Z h0 d1 "com/example/runs_to_scores/runstoscores/scoring/TopicDocnos") (FD0 : Fld Z h0 d1 "com/example/runs_to_scores/runstoscores/scoring/TopicDocnos" "bytes" "[B" (.ref bB)) (FD1 : Fld Z h0 d1 "com/example/runs_to_scores/runstoscores/scoring/TopicDocnos" "ends" "[I" (.ref bE)) (FD2 : Fld Z h0 d1 "com/example/runs_to_scores/runstoscores/scoring/TopicDocnos" "hashes" "[I" (.ref bH)) (FD3 : Fld Z h0 d1 "com/example/runs_to_scores/runstoscores/scoring/TopicDocnos" "slots" "[I" (.ref bS)) (FD4 : Fld Z h0 d1 "com/example/runs_to_scores/runstoscores/scoring/TopicDocnos" "size" "I" (.int (1 : Int32))) (AD0 : Arv Z h0 bB kB .byte (64 : Int32) ((.int (97 : Int32)) :: (.int (0 : Int32)) :: (.int (0 : Int32)) :: (.int (0 : Int32)) :: (.int (0 : Int32)) :: (.int (0 : Int32)) :: (.int (0 : Int32)) :: (.int (0 : Int32)) :: (.int (0 : Int32)) :: (.int (0 : Int32)) :: (.int (0 : Int32)) :: (.int (0 : Int32)) :: (.int (0 : Int32)) :: (.int (0 : Int32)) :: (.int (0 : Int32)) :: (.int (0 : Int32)) :: (.int (0 : Int32)) :: (.int (0 : Int32)) :: (.int (0 : Int32)) :: (.int (0 : Int32)) :: (.int (0 : Int32)) :: (.int (0 : Int32)) :: (.int (0 : Int32)) :: (.int (0 : Int32)) :: (.int (0 : Int32)) :: (.int (0 : Int32)) :: (.int (0 : Int32)) :: (.int (0 : Int32)) :: (.int (0 : Int32)) :: (.int (0 : Int32)) :: (.int (0 : Int32)) :: (.int (0 : Int32)) :: (.int (0 : Int32)) :: (.int (0 : Int32)) :: (.int (0 : Int32)) :: (.int (0 : Int32)) :: (.int (0 : Int32)) :: (.int (0 : Int32)) :: (.int (0 : Int32)) :: (.int (0 : Int32)) :: (.int (0 : Int32)) :: (.int (0 : Int32)) :: (.int (0 : Int32)) :: (.int (0 : Int32)) :: (.int (0 : Int32)) :: (.int (0 : Int32)) :: (.int (0 : Int32)) :: (.int (0 : Int32)) :: (.int (0 : Int32)) :: (.int (0 : Int32)) :: (.int (0 : Int32)) :: (.int (0 : Int32)) :: (.int (0 : Int32)) :: (.int (0 : Int32)) :: (.int (0 : Int32)) :: (.int (0 : Int32)) :: (.int (0 : Int32)) :: (.int (0 : Int32)) :: (.int (0 : Int32)) :: (.int (0 : Int32)) :: (.int (0 : Int32)) :: (.int (0 : Int32)) :: (.int (0 : Int32)) :: (.int (0 : Int32)) :: []) (.int (0 : Int32))) (AD1 : Arv Z h0 bE kE .int (8 : Int32) [(.int (1 : Int32)), (.int (0 : Int32)), (.int (0 : Int32)), (.int (0 : Int32)), (.int (0 : Int32)), (.int (0 : Int32)), (.int (0 : Int32)), (.int (0 : Int32))] (.int (0 : Int32))) (AD2 : Arv Z h0 bH kH .int (8 : Int32) [(.int (97 : Int32)), (.int (0 : Int32)), (.int (0 : Int32)), (.int (0 : Int32)), (.int (0 : Int32)), (.int (0 : Int32)), (.int (0 : Int32)), (.int (0 : Int32))] (.int (0 : Int32))) (AD3 : Arv Z h0 bS kS .int (16 : Int32) [(.int (0 : Int32)), (.int (1 : Int32)), (.int (0 : Int32)), (.int (0 : Int32)), (.int (0 : Int32)), (.int (0 : Int32)), (.int (0 : Int32)), (.int (0 : Int32)), (.int (0 : Int32)), (.int (0 : Int32)), (.int (0 : Int32)), (.int (0 : Int32)), (.int (0 : Int32)), (.int (0 : Int32)), (.int (0 : Int32)), (.int (0 : Int32))] (.int (0 : Int32))) (o1 : @LT.lt Nat _ d1 bB) (o2 : @LT.lt Nat _ bB bE) (o3 : @LT.lt Nat _ bE bH) (o4 : @LT.lt Nat _ bH bS) (g_d1 : n0 ≤ d1) (E_x1 : Exa Z h0 x1 "java/lang/String") (V_x1 : Fld Z h0 x1 "java/lang/String" "value" "[B" (.ref t1)) (C_x1 : Fld Z h0 x1 "java/lang/String" "coder" "B" (.int (0 : Int32))) (K_x1 : Arv Z h0 t1 k1 .byte (1 : Int32) ((([(98 : Int32)] : List Int32).map (fun c => c.toInt8.toInt32)).map Value.int) (.int (0 : Int32))) (hp_x1 : ∀ c ∈ ([(98 : Int32)] : List Int32), ¬ c < 0 ∧ ¬ (255 : Int32) < c) (nx : x1 ≠ bB) (nt : t1 ≠ bB) (O0 : Old Z n0 h0) (O2 : Sta Z Z.heap "java/lang/String" "COMPACT_STRINGS" "Z" (.int G1)) (P5 : ¬ (G1 = (0 : Int32))) (O4 : Sta Z Z.heap "jdk/internal/util/Preconditions" "SIOOBE_FORMATTER" "Ljava/util/function/BiFunction;" G3) (rG3 : G3.isRef = true) :
    MetFree l (⟨"com/example/runs_to_scores/runstoscores/scoring/TopicDocnos", "add", "(Ljava/lang/CharSequence;)I"⟩ : MethodName) (head1 (Jvm.Cond.code (⟨"com/example/runs_to_scores/runstoscores/scoring/TopicDocnos", "add", "(Ljava/lang/CharSequence;)I"⟩ : MethodName) prog_82_method_4_code 6 (some .int) :: ws) ({ frames := 5, cells := 0, slots := 0, locals := 69 } : Room)) (fun a U => a = #[(.ref d1), (.ref x1)] ∧ Z.Warmed39 U.vm ∧ U.heap = h0) (fun _ _ _ _ _ => True) (fun _ U o U' => ∃ v L, o = .returned v ∧ Q9_1 Z d1 x1 bB bE bH bS kB kE kH kS t1 k1 G1 G3 h0 n0 v U'.heap L ∧ FrameEnd U o U' L ({ frames := 5, cells := 0, slots := 0, locals := 69 } : Room).cells ({ frames := 5, cells := 0, slots := 0, locals := 69 } : Room).slots) := by
  refine MetFree.of_bodySF (plainFor_of_name pn_1) hisR ?_
  intro p e s m args below meth c s₁ Bd hml0 hP hK
  obtain ⟨rfl, hZ, hh⟩ := hP
  have hx := Bd.exec
  have hby := Bd.bytes
  have hml : c.maxLocals = 6 := hml0
  have hown : s.vm.findClass "com/example/runs_to_scores/runstoscores/scoring/TopicDocnos" = some m.cls := findClass_of_methodNamed Bd.named
  have hnm := (name_of_methodNamed Bd.named Bd.method).1
  have X0 : Stand p l e ({ frames := 5, cells := 0, slots := 0, locals := 69 } : Room) s m #[(.ref d1), (.ref x1)] below meth c s₁ [] 0 0 := Stand.of_body Bd
  have e0 : s₁.heap = h0 := by rw [← hh, Bd.state]; rfl
  have Nf0 := Fr.nil n0
  obtain ⟨Gl, hGl, kn0⟩ : ∃ Gl : State → Prop, (∀ t, Gl t → Steps p.tables e below (s₁.setTop (entryFrame m #[(.ref d1), (.ref x1)] 6)) t) ∧ ∀ t, own_S p e below s₁ (mkF m 0 #[.val (.ref d1), .val (.ref x1), .unset, .unset, .unset, .unset] []) t → Gl t := ⟨fun t => Steps p.tables e below (s₁.setTop (entryFrame m #[(.ref d1), (.ref x1)] 6)) t, fun _ k => k, fun t k => castTop (ef_rm9_1 m d1 x1) k⟩
  have ne_d1_bB : @Ne Nat d1 bB := by omega
  have ne_d1_bE : @Ne Nat d1 bE := by omega
  have ne_d1_bH : @Ne Nat d1 bH := by omega
  have ne_d1_bS : @Ne Nat d1 bS := by omega
  have ne_bB_bE : @Ne Nat bB bE := by omega
  have ne_bB_bH : @Ne Nat bB bH := by omega
  have ne_bB_bS : @Ne Nat bB bS := by omega
  have ne_bE_bH : @Ne Nat bE bH := by omega
  have ne_bE_bS : @Ne Nat bE bS := by omega
  have ne_bH_bS : @Ne Nat bH bS := by omega
  have g_bB : n0 ≤ bB := by omega
  have g_bE : n0 ≤ bE := by omega
  have g_bH : n0 ≤ bH := by omega
  have g_bS : n0 ≤ bS := by omega
  have kn1 : ∀ t, own_S p e below s₁ (mkF m 2 #[.val (.ref d1), .val (.ref x1), .unset, .unset, .unset, .unset] [(.ref d1), (.ref d1)]) t → Gl t := fun t kt => kn0 t (by
    show own_S p e below s₁ (mkF m 0 #[.val (.ref d1), .val (.ref x1), .unset, .unset, .unset, .unset] []) _
    refine XS.aloadN X0.here hx rfl (hb hby d_prog_82_method_4_0) rfl rfl ?_
    show own_S p e below s₁ (mkF m 1 #[.val (.ref d1), .val (.ref x1), .unset, .unset, .unset, .unset] [(.ref d1)]) _
    refine XS.aloadN X0.here hx rfl (hb hby d_prog_82_method_4_1) rfl rfl ?_
    exact kt)
  obtain ⟨T2, X2, e2, st2⟩ := getF X0 hx hZ hown (host := "") (Or.inl (hw _ (List.mem_of_getElem? (i := 65) rfl))) Via.refl e0 FD4 (g := (mkF m 2 #[.val (.ref d1), .val (.ref x1), .unset, .unset, .unset, .unset] [(.ref d1), (.ref d1)])) rfl rfl (hb hby d_prog_82_method_4_2)
  have kn3 : ∀ t, own_S p e below T2 (mkF m 5 #[.val (.ref d1), .val (.ref x1), .unset, .unset, .unset, .unset] [(.int (1 : Int32)), (.ref d1)]) t → Gl t := fun t kt => kn1 t (st2 _ kt)
  obtain ⟨cq4, qa4, qb4⟩ := ED.cell
  obtain ⟨_, _, ⟨T4, L4, cc4, ss4⟩, -, X4, ⟨Lc4, hQ4, l4, y4, z4⟩, st4⟩ := X2.privateBack hx (y := (⟨"com/example/runs_to_scores/runstoscores/scoring/TopicDocnos", "start", "(I)I"⟩ : MethodName)) hown (mvT hZ (hw _ (List.mem_of_getElem? (i := 67) rfl))) (mvT hZ (hw _ (List.mem_of_getElem? (i := 68) rfl))) (own_selP (z := (⟨"com/example/runs_to_scores/runstoscores/scoring/TopicDocnos", "add", "(Ljava/lang/CharSequence;)I"⟩ : MethodName)) rfl (mvT hZ (hw _ (List.mem_of_getElem? (i := 63) rfl))) (Cond.privateMethod_at (mvP hZ (hw _ (List.mem_of_getElem? (i := 69) rfl)) (args := #[]))) (mvT hZ (hw _ (List.mem_of_getElem? (i := 68) rfl))) (by decide)) (Cond.privateMethod_at (mvP hZ (hw _ (List.mem_of_getElem? (i := 69) rfl)) (args := #[]))) (mvT hZ (hw _ (List.mem_of_getElem? (i := 70) rfl))) (by decide) (backOf (W := 0) (rm10_1 l Z a0 hw [] d1 bE kE h0 n0 Z0 FD1 AD1) hZ (hw _ (List.mem_of_getElem? (i := 70) rfl)) (hw _ (List.mem_of_getElem? (i := 11) rfl)) (by decide) (by decide)) (g := (mkF m 5 #[.val (.ref d1), .val (.ref x1), .unset, .unset, .unset, .unset] [(.int (1 : Int32)), (.ref d1)])) rfl (by rw [hml]; rfl) (Steps.refl _) (a := d1) (by rw [e2]; exact qa4) qb4 (argsL := [(.int (1 : Int32))]) (rest := []) (lenOf pd_0 rfl) rfl (by show 2 * 0 + _ ≤ _; exact Nat.le_of_eq rfl) (hb hby d_prog_82_method_4_5) (fun _ _ => ⟨rfl, e2, (by decide : 0 + 0 ≤ _), (by decide : 0 + 0 ≤ _)⟩)
  dsimp only [Pt.U, Pt.locs, Pt.cells, Pt.slots] at X4 l4 y4 z4 st4 hQ4
  subst l4 y4 z4
  obtain ⟨rfl, Nq4, eq4⟩ := hQ4
  have Nf4 := Fr.app Nf0 Nq4
  have kn5 : ∀ t, own_S p e below T4 (mkF m 8 #[.val (.ref d1), .val (.ref x1), .unset, .unset, .unset, .unset] [(.int (1 : Int32))]) t → Gl t := fun t kt => kn3 t (st4.trans kt)
  have kn6 : ∀ t, own_S p e below T4 (mkF m 11 #[.val (.ref d1), .val (.ref x1), .val (.int (1 : Int32)), .unset, .unset, .unset] [(.ref x1), (.int (1 : Int32))]) t → Gl t := fun t kt => kn5 t (by
    show own_S p e below T4 (mkF m 8 #[.val (.ref d1), .val (.ref x1), .unset, .unset, .unset, .unset] [(.int (1 : Int32))]) _
    refine XS.istoreN X4.here hx rfl (hb hby d_prog_82_method_4_8) rfl (l' := #[.val (.ref d1), .val (.ref x1), .val (.int (1 : Int32)), .unset, .unset, .unset]) rfl ?_
    show own_S p e below T4 (mkF m 9 #[.val (.ref d1), .val (.ref x1), .val (.int (1 : Int32)), .unset, .unset, .unset] []) _
    refine XS.iloadN X4.here hx rfl (hb hby d_prog_82_method_4_9) rfl ?_
    show own_S p e below T4 (mkF m 10 #[.val (.ref d1), .val (.ref x1), .val (.int (1 : Int32)), .unset, .unset, .unset] [(.int (1 : Int32))]) _
    refine XS.aloadN X4.here hx rfl (hb hby d_prog_82_method_4_10) rfl rfl ?_
    exact kt)
  have hln : ∀ d ∈ StrChars.Road.wordsLen, d.before a0 Z = true := fun d hd => hw d ((by decide +kernel : ∀ d ∈ StrChars.Road.wordsLen, d ∈ tables_1) d hd)
  have hcd_x1 : StrChars.Road.CodA ([(98 : Int32)] : List Int32) 0 (1 : Int32) ((([(98 : Int32)] : List Int32).map (fun c => c.toInt8.toInt32)).map Value.int) := StrChars.Road.codOf (n := 1) rfl (fun x hx => (hp_x1 x hx).2)
  have hbd_x1 : ∀ x ∈ ([(98 : Int32)] : List Int32), ¬ x < 0 ∧ ¬ (65535 : Int32) < x := own_up _ hp_x1
  obtain ⟨cq7, kq7, qa7, qb7, qc7⟩ := isOf hZ eq4 E_x1
  obtain ⟨_, _, ⟨T7, L7, cc7, ss7⟩, -, X7, ⟨Lc7, hQ7, l7, y7, z7⟩, st7⟩ := X4.interfaceBack hx (xi := (⟨"java/lang/CharSequence", "length", "()I"⟩ : MethodName)) (y := (⟨"java/lang/String", "length", "()I"⟩ : MethodName)) hown (mvT hZ (hw _ (List.mem_of_getElem? (i := 71) rfl))) (mvT hZ (hw _ (List.mem_of_getElem? (i := 72) rfl))) (mvT hZ (hw _ (List.mem_of_getElem? (i := 73) rfl))) (mvT hZ (hw _ (List.mem_of_getElem? (i := 74) rfl))) (mvT hZ (hw _ (List.mem_of_getElem? (i := 75) rfl))) (mvT hZ (hw _ (List.mem_of_getElem? (i := 76) rfl))) (mvT hZ (hw _ (List.mem_of_getElem? (i := 77) rfl))) (mvT hZ (hw _ (List.mem_of_getElem? (i := 78) rfl))) (by decide) (StrChars.Road.lenW (W := 1) hZ hln (kI := 4) (hw _ (List.mem_of_getElem? (i := 50) rfl)) E_x1 V_x1 C_x1 K_x1 hcd_x1 hbd_x1 (O2.ext O0.2) P5 (Nat.le_of_ble_eq_true rfl) (by decide) (by decide)) qa7 qb7 qc7 (g := (mkF m 11 #[.val (.ref d1), .val (.ref x1), .val (.int (1 : Int32)), .unset, .unset, .unset] [(.ref x1), (.int (1 : Int32))])) rfl (by rw [hml]; rfl) (Steps.refl _) (argsL := []) (rest := [(.int (1 : Int32))]) (lenOf pd_4 rfl) rfl (by show 2 * 0 + _ ≤ _; exact Nat.le_of_eq rfl) (hb hby d_prog_82_method_4_11) (fun _ _ => ⟨rfl, eq4, (by decide : 0 + 0 ≤ _), (by decide : 0 + 0 ≤ _)⟩)
  dsimp only [Pt.U, Pt.locs, Pt.cells, Pt.slots] at X7 l7 y7 z7 st7 hQ7
  subst l7 y7 z7
  obtain ⟨rfl, rfl, eq7⟩ := hQ7
  have Nq7 : Fr n0 ([] : List Loc) := Fr.nil n0
  have Nf7 := Fr.app Nf4 Nq7
  have kn8 : ∀ t, own_S p e below T7 (mkF m 16 #[.val (.ref d1), .val (.ref x1), .val (.int (1 : Int32)), .unset, .unset, .unset] [(.int (1 : Int32)), (.int (1 : Int32))]) t → Gl t := fun t kt => kn6 t (st7.trans kt)
  have kn9 : ∀ t, own_S p e below T7 (mkF m 20 #[.val (.ref d1), .val (.ref x1), .val (.int (1 : Int32)), .val (.int (2 : Int32)), .unset, .unset] [(.ref d1), (.int (2 : Int32))]) t → Gl t := fun t kt => kn8 t (by
    show own_S p e below T7 (mkF m 16 #[.val (.ref d1), .val (.ref x1), .val (.int (1 : Int32)), .unset, .unset, .unset] [(.int (1 : Int32)), (.int (1 : Int32))]) _
    refine XS.iadd X7.here hx rfl (hb hby d_prog_82_method_4_16) rfl ?_
    rw [(by decide : ((1 : Int32) + (1 : Int32)) = (2 : Int32))]
    show own_S p e below T7 (mkF m 17 #[.val (.ref d1), .val (.ref x1), .val (.int (1 : Int32)), .unset, .unset, .unset] [(.int (2 : Int32))]) _
    refine XS.istoreN X7.here hx rfl (hb hby d_prog_82_method_4_17) rfl (l' := #[.val (.ref d1), .val (.ref x1), .val (.int (1 : Int32)), .val (.int (2 : Int32)), .unset, .unset]) rfl ?_
    show own_S p e below T7 (mkF m 18 #[.val (.ref d1), .val (.ref x1), .val (.int (1 : Int32)), .val (.int (2 : Int32)), .unset, .unset] []) _
    refine XS.iloadN X7.here hx rfl (hb hby d_prog_82_method_4_18) rfl ?_
    show own_S p e below T7 (mkF m 19 #[.val (.ref d1), .val (.ref x1), .val (.int (1 : Int32)), .val (.int (2 : Int32)), .unset, .unset] [(.int (2 : Int32))]) _
    refine XS.aloadN X7.here hx rfl (hb hby d_prog_82_method_4_19) rfl rfl ?_
    exact kt)
  obtain ⟨T10, X10, e10, st10⟩ := getF X7 hx hZ hown (host := "") (Or.inl (hw _ (List.mem_of_getElem? (i := 24) rfl))) Via.refl eq7 FD0 (g := (mkF m 20 #[.val (.ref d1), .val (.ref x1), .val (.int (1 : Int32)), .val (.int (2 : Int32)), .unset, .unset] [(.ref d1), (.int (2 : Int32))])) rfl rfl (hb hby d_prog_82_method_4_20)
  have kn11 : ∀ t, own_S p e below T10 (mkF m 23 #[.val (.ref d1), .val (.ref x1), .val (.int (1 : Int32)), .val (.int (2 : Int32)), .unset, .unset] [(.ref bB), (.int (2 : Int32))]) t → Gl t := fun t kt => kn9 t (st10 _ kt)
  obtain ⟨cl12, Ar12, -, Sz12, Ng12, -, -⟩ := id AD0
  have kn13 : ∀ t, own_S p e below T10 (mkF m 51 #[.val (.ref d1), .val (.ref x1), .val (.int (1 : Int32)), .val (.int (2 : Int32)), .unset, .unset] [(.ref d1), (.ref x1)]) t → Gl t := fun t kt => kn11 t (by
    show own_S p e below T10 (mkF m 23 #[.val (.ref d1), .val (.ref x1), .val (.int (1 : Int32)), .val (.int (2 : Int32)), .unset, .unset] [(.ref bB), (.int (2 : Int32))]) _
    refine X10.arraylength hx (by rw [e10]; exact Ar12.1) (State.isArrayOf_alike hZ.alike Ar12.2.1) (g := (mkF m 23 #[.val (.ref d1), .val (.ref x1), .val (.int (1 : Int32)), .val (.int (2 : Int32)), .unset, .unset] [(.ref bB), (.int (2 : Int32))])) rfl rfl (hb hby d_prog_82_method_4_23) _ ?_
    rw [len_of Sz12 Ng12]
    show own_S p e below T10 (mkF m 24 #[.val (.ref d1), .val (.ref x1), .val (.int (1 : Int32)), .val (.int (2 : Int32)), .unset, .unset] [(.int (64 : Int32)), (.int (2 : Int32))]) _
    refine XS.icmpYes X10.here hx rfl (pc0 := 24) (pc' := 49) rfl (hb hby d_prog_82_method_4_24) rfl (flt (by decide : ¬ ((64 : Int32) < (2 : Int32)))).2.2.2 (by decide) (by decide) ?_
    show own_S p e below T10 (mkF m 49 #[.val (.ref d1), .val (.ref x1), .val (.int (1 : Int32)), .val (.int (2 : Int32)), .unset, .unset] []) _
    refine XS.aloadN X10.here hx rfl (hb hby d_prog_82_method_4_49) rfl rfl ?_
    show own_S p e below T10 (mkF m 50 #[.val (.ref d1), .val (.ref x1), .val (.int (1 : Int32)), .val (.int (2 : Int32)), .unset, .unset] [(.ref x1)]) _
    refine XS.aloadN X10.here hx rfl (hb hby d_prog_82_method_4_50) rfl rfl ?_
    exact kt)
  obtain ⟨T14, X14, e14, st14⟩ := getF X10 hx hZ hown (host := "") (Or.inl (hw _ (List.mem_of_getElem? (i := 24) rfl))) Via.refl e10 FD0 (g := (mkF m 51 #[.val (.ref d1), .val (.ref x1), .val (.int (1 : Int32)), .val (.int (2 : Int32)), .unset, .unset] [(.ref d1), (.ref x1)])) rfl rfl (hb hby d_prog_82_method_4_51)
  have kn15 : ∀ t, own_S p e below T14 (mkF m 54 #[.val (.ref d1), .val (.ref x1), .val (.int (1 : Int32)), .val (.int (2 : Int32)), .unset, .unset] [(.ref bB), (.ref x1)]) t → Gl t := fun t kt => kn13 t (st14 _ kt)
  have kn16 : ∀ t, own_S p e below T14 (mkF m 55 #[.val (.ref d1), .val (.ref x1), .val (.int (1 : Int32)), .val (.int (2 : Int32)), .unset, .unset] [(.int (1 : Int32)), (.ref bB), (.ref x1)]) t → Gl t := fun t kt => kn15 t (by
    show own_S p e below T14 (mkF m 54 #[.val (.ref d1), .val (.ref x1), .val (.int (1 : Int32)), .val (.int (2 : Int32)), .unset, .unset] [(.ref bB), (.ref x1)]) _
    refine XS.iloadN X14.here hx rfl (hb hby d_prog_82_method_4_54) rfl ?_
    exact kt)
  obtain ⟨_, _, ⟨T17, L17, cc17, ss17⟩, -, X17, ⟨Lc17, hQ17, l17, y17, z17⟩, st17⟩ := Jvm.LawKit.callS X14 hx (y := (⟨"com/example/runs_to_scores/runstoscores/scoring/TopicDocnos", "write", "(Ljava/lang/CharSequence;[BI)Z"⟩ : MethodName)) hown (mvT hZ (hw _ (List.mem_of_getElem? (i := 88) rfl))) (mvT hZ (hw _ (List.mem_of_getElem? (i := 89) rfl))) (mvT hZ (hw _ (List.mem_of_getElem? (i := 11) rfl))) (mvT hZ (hw _ (List.mem_of_getElem? (i := 90) rfl))) (by decide) (backOf (W := 0) (rm13_1 l Z a0 hw [] x1 bB kB t1 k1 G1 G3 h0 n0 Z0 E_x1 V_x1 C_x1 K_x1 hp_x1 AD0 g_bB nx nt O0 O2 P5 O4 rG3) hZ (hw _ (List.mem_of_getElem? (i := 90) rfl)) (hw _ (List.mem_of_getElem? (i := 11) rfl)) (by decide) (by decide)) (g := (mkF m 55 #[.val (.ref d1), .val (.ref x1), .val (.int (1 : Int32)), .val (.int (2 : Int32)), .unset, .unset] [(.int (1 : Int32)), (.ref bB), (.ref x1)])) rfl (by rw [hml]; rfl) (argsL := [(.ref x1), (.ref bB), (.int (1 : Int32))]) (rest := []) (lenOf pd_6 rfl) rfl (by show 2 * 0 + _ ≤ _; exact Nat.le_of_eq rfl) (hb hby d_prog_82_method_4_55) (fun _ _ => ⟨rfl, e14, (by decide : 0 + 0 ≤ _), (by decide : 0 + 0 ≤ _)⟩)
  dsimp only [Pt.U, Pt.locs, Pt.cells, Pt.slots] at X17 l17 y17 z17 st17 hQ17
  subst l17 y17 z17
  obtain ⟨rfl, Nq17, K17, Vb17⟩ := hQ17
  have Nf17 := Fr.app Nf7 Nq17
  have Z18 : n0 ≤ T17.heap.size := Nat.le_trans Z0 K17.1
  have O19 : Old Z n0 T17.heap := O0.keep K17 (allS g_bB all0)
  have K20 : Keep h0 T17.heap [d1, bB, bE, bH, bS] := (Keep.refl h0 [d1, bB, bE, bH, bS]).trans K17 (allS (Or.inl (List.mem_of_getElem? (i := 1) rfl)) all0)
  have kn21 : ∀ t, own_S p e below T17 (mkF m 58 #[.val (.ref d1), .val (.ref x1), .val (.int (1 : Int32)), .val (.int (2 : Int32)), .unset, .unset] [(.int (1 : Int32))]) t → Gl t := fun t kt => kn16 t (st17 _ kt)
  have kn22 : ∀ t, own_S p e below T17 (mkF m 79 #[.val (.ref d1), .val (.ref x1), .val (.int (1 : Int32)), .val (.int (2 : Int32)), .unset, .unset] [(.ref d1)]) t → Gl t := fun t kt => kn21 t (by
    show own_S p e below T17 (mkF m 58 #[.val (.ref d1), .val (.ref x1), .val (.int (1 : Int32)), .val (.int (2 : Int32)), .unset, .unset] [(.int (1 : Int32))]) _
    refine XS.ifYes X17.here hx rfl (pc0 := 58) (pc' := 78) rfl (hb hby d_prog_82_method_4_58) rfl ((if0 _ _).trans (feq (by decide : ¬ ((1 : Int32) = (0 : Int32)))).2) (by decide) (by decide) ?_
    show own_S p e below T17 (mkF m 78 #[.val (.ref d1), .val (.ref x1), .val (.int (1 : Int32)), .val (.int (2 : Int32)), .unset, .unset] []) _
    refine XS.aloadN X17.here hx rfl (hb hby d_prog_82_method_4_78) rfl rfl ?_
    exact kt)
  have f23 := (FD0.keep K17 (ninS ne_d1_bB nin0))
  obtain ⟨T24, X24, e24, st24⟩ := getF X17 hx hZ hown (host := "") (Or.inl (hw _ (List.mem_of_getElem? (i := 24) rfl))) Via.refl rfl f23 (g := (mkF m 79 #[.val (.ref d1), .val (.ref x1), .val (.int (1 : Int32)), .val (.int (2 : Int32)), .unset, .unset] [(.ref d1)])) rfl rfl (hb hby d_prog_82_method_4_79)
  have kn25 : ∀ t, own_S p e below T24 (mkF m 82 #[.val (.ref d1), .val (.ref x1), .val (.int (1 : Int32)), .val (.int (2 : Int32)), .unset, .unset] [(.ref bB)]) t → Gl t := fun t kt => kn22 t (st24 _ kt)
  have kn26 : ∀ t, own_S p e below T24 (mkF m 84 #[.val (.ref d1), .val (.ref x1), .val (.int (1 : Int32)), .val (.int (2 : Int32)), .unset, .unset] [(.int (2 : Int32)), (.int (1 : Int32)), (.ref bB)]) t → Gl t := fun t kt => kn25 t (by
    show own_S p e below T24 (mkF m 82 #[.val (.ref d1), .val (.ref x1), .val (.int (1 : Int32)), .val (.int (2 : Int32)), .unset, .unset] [(.ref bB)]) _
    refine XS.iloadN X24.here hx rfl (hb hby d_prog_82_method_4_82) rfl ?_
    show own_S p e below T24 (mkF m 83 #[.val (.ref d1), .val (.ref x1), .val (.int (1 : Int32)), .val (.int (2 : Int32)), .unset, .unset] [(.int (1 : Int32)), (.ref bB)]) _
    refine XS.iloadN X24.here hx rfl (hb hby d_prog_82_method_4_83) rfl ?_
    exact kt)
  obtain ⟨_, _, ⟨T27, L27, cc27, ss27⟩, -, X27, ⟨Lc27, hQ27, l27, y27, z27⟩, st27⟩ := Jvm.LawKit.callS X24 hx (y := (⟨"com/example/runs_to_scores/runstoscores/scoring/TopicDocnos", "hash", "([BII)I"⟩ : MethodName)) hown (mvT hZ (hw _ (List.mem_of_getElem? (i := 116) rfl))) (mvT hZ (hw _ (List.mem_of_getElem? (i := 117) rfl))) (mvT hZ (hw _ (List.mem_of_getElem? (i := 11) rfl))) (mvT hZ (hw _ (List.mem_of_getElem? (i := 118) rfl))) (by decide) (backOf (W := 0) (rm19_1 l Z a0 hw [] bB kB T17.heap n0 Z18 Vb17) hZ (hw _ (List.mem_of_getElem? (i := 118) rfl)) (hw _ (List.mem_of_getElem? (i := 11) rfl)) (by decide) (by decide)) (g := (mkF m 84 #[.val (.ref d1), .val (.ref x1), .val (.int (1 : Int32)), .val (.int (2 : Int32)), .unset, .unset] [(.int (2 : Int32)), (.int (1 : Int32)), (.ref bB)])) rfl (by rw [hml]; rfl) (argsL := [(.ref bB), (.int (1 : Int32)), (.int (2 : Int32))]) (rest := []) (lenOf pd_7 rfl) rfl (by show 2 * 0 + _ ≤ _; exact Nat.le_of_eq rfl) (hb hby d_prog_82_method_4_84) (fun _ _ => ⟨rfl, e24, (by decide : 0 + 0 ≤ _), (by decide : 0 + 0 ≤ _)⟩)
  dsimp only [Pt.U, Pt.locs, Pt.cells, Pt.slots] at X27 l27 y27 z27 st27 hQ27
  subst l27 y27 z27
  obtain ⟨rfl, Nq27, eq27⟩ := hQ27
  have Nf27 := Fr.app Nf17 Nq27
  have kn28 : ∀ t, own_S p e below T27 (mkF m 87 #[.val (.ref d1), .val (.ref x1), .val (.int (1 : Int32)), .val (.int (2 : Int32)), .unset, .unset] [(.int (98 : Int32))]) t → Gl t := fun t kt => kn26 t (st27 _ kt)
  have kn29 : ∀ t, own_S p e below T27 (mkF m 91 #[.val (.ref d1), .val (.ref x1), .val (.int (1 : Int32)), .val (.int (2 : Int32)), .val (.int (98 : Int32)), .unset] [(.ref d1), (.ref d1)]) t → Gl t := fun t kt => kn28 t (by
    show own_S p e below T27 (mkF m 87 #[.val (.ref d1), .val (.ref x1), .val (.int (1 : Int32)), .val (.int (2 : Int32)), .unset, .unset] [(.int (98 : Int32))]) _
    refine XS.istore X27.here hx rfl (hb hby d_prog_82_method_4_87) rfl (l' := #[.val (.ref d1), .val (.ref x1), .val (.int (1 : Int32)), .val (.int (2 : Int32)), .val (.int (98 : Int32)), .unset]) rfl ?_
    show own_S p e below T27 (mkF m 89 #[.val (.ref d1), .val (.ref x1), .val (.int (1 : Int32)), .val (.int (2 : Int32)), .val (.int (98 : Int32)), .unset] []) _
    refine XS.aloadN X27.here hx rfl (hb hby d_prog_82_method_4_89) rfl rfl ?_
    show own_S p e below T27 (mkF m 90 #[.val (.ref d1), .val (.ref x1), .val (.int (1 : Int32)), .val (.int (2 : Int32)), .val (.int (98 : Int32)), .unset] [(.ref d1)]) _
    refine XS.aloadN X27.here hx rfl (hb hby d_prog_82_method_4_90) rfl rfl ?_
    exact kt)
  obtain ⟨T30, X30, e30, st30⟩ := getF X27 hx hZ hown (host := "") (Or.inl (hw _ (List.mem_of_getElem? (i := 24) rfl))) Via.refl eq27 f23 (g := (mkF m 91 #[.val (.ref d1), .val (.ref x1), .val (.int (1 : Int32)), .val (.int (2 : Int32)), .val (.int (98 : Int32)), .unset] [(.ref d1), (.ref d1)])) rfl rfl (hb hby d_prog_82_method_4_91)
  have kn31 : ∀ t, own_S p e below T30 (mkF m 94 #[.val (.ref d1), .val (.ref x1), .val (.int (1 : Int32)), .val (.int (2 : Int32)), .val (.int (98 : Int32)), .unset] [(.ref bB), (.ref d1)]) t → Gl t := fun t kt => kn29 t (st30 _ kt)
  have kn32 : ∀ t, own_S p e below T30 (mkF m 98 #[.val (.ref d1), .val (.ref x1), .val (.int (1 : Int32)), .val (.int (2 : Int32)), .val (.int (98 : Int32)), .unset] [(.int (98 : Int32)), (.int (2 : Int32)), (.int (1 : Int32)), (.ref bB), (.ref d1)]) t → Gl t := fun t kt => kn31 t (by
    show own_S p e below T30 (mkF m 94 #[.val (.ref d1), .val (.ref x1), .val (.int (1 : Int32)), .val (.int (2 : Int32)), .val (.int (98 : Int32)), .unset] [(.ref bB), (.ref d1)]) _
    refine XS.iloadN X30.here hx rfl (hb hby d_prog_82_method_4_94) rfl ?_
    show own_S p e below T30 (mkF m 95 #[.val (.ref d1), .val (.ref x1), .val (.int (1 : Int32)), .val (.int (2 : Int32)), .val (.int (98 : Int32)), .unset] [(.int (1 : Int32)), (.ref bB), (.ref d1)]) _
    refine XS.iloadN X30.here hx rfl (hb hby d_prog_82_method_4_95) rfl ?_
    show own_S p e below T30 (mkF m 96 #[.val (.ref d1), .val (.ref x1), .val (.int (1 : Int32)), .val (.int (2 : Int32)), .val (.int (98 : Int32)), .unset] [(.int (2 : Int32)), (.int (1 : Int32)), (.ref bB), (.ref d1)]) _
    refine XS.iload X30.here hx rfl (hb hby d_prog_82_method_4_96) rfl ?_
    exact kt)
  have f34 := (FD3.keep K17 (ninS ne_d1_bB nin0))
  have f35 := (AD3.keep K17 (ninS (Ne.symm ne_bB_bS) nin0))
  have f36 := (ED.keep K17)
  obtain ⟨cq33, qa33, qb33⟩ := f36.cell
  obtain ⟨_, _, ⟨T33, L33, cc33, ss33⟩, -, X33, ⟨Lc33, hQ33, l33, y33, z33⟩, st33⟩ := X30.privateBack hx (y := (⟨"com/example/runs_to_scores/runstoscores/scoring/TopicDocnos", "slotOf", "([BIII)I"⟩ : MethodName)) hown (mvT hZ (hw _ (List.mem_of_getElem? (i := 119) rfl))) (mvT hZ (hw _ (List.mem_of_getElem? (i := 120) rfl))) (own_selP (z := (⟨"com/example/runs_to_scores/runstoscores/scoring/TopicDocnos", "add", "(Ljava/lang/CharSequence;)I"⟩ : MethodName)) rfl (mvT hZ (hw _ (List.mem_of_getElem? (i := 63) rfl))) (Cond.privateMethod_at (mvP hZ (hw _ (List.mem_of_getElem? (i := 121) rfl)) (args := #[]))) (mvT hZ (hw _ (List.mem_of_getElem? (i := 120) rfl))) (by decide)) (Cond.privateMethod_at (mvP hZ (hw _ (List.mem_of_getElem? (i := 121) rfl)) (args := #[]))) (mvT hZ (hw _ (List.mem_of_getElem? (i := 122) rfl))) (by decide) (backOf (W := 0) (rm20_1 l Z a0 hw [] d1 bB bS kS T17.heap n0 Z18 f34 f35) hZ (hw _ (List.mem_of_getElem? (i := 122) rfl)) (hw _ (List.mem_of_getElem? (i := 11) rfl)) (by decide) (by decide)) (g := (mkF m 98 #[.val (.ref d1), .val (.ref x1), .val (.int (1 : Int32)), .val (.int (2 : Int32)), .val (.int (98 : Int32)), .unset] [(.int (98 : Int32)), (.int (2 : Int32)), (.int (1 : Int32)), (.ref bB), (.ref d1)])) rfl (by rw [hml]; rfl) (Steps.refl _) (a := d1) (by rw [e30]; exact qa33) qb33 (argsL := [(.ref bB), (.int (1 : Int32)), (.int (2 : Int32)), (.int (98 : Int32))]) (rest := []) (lenOf pd_8 rfl) rfl (by show 2 * 0 + _ ≤ _; exact Nat.le_of_eq rfl) (hb hby d_prog_82_method_4_98) (fun _ _ => ⟨rfl, e30, (by decide : 0 + 0 ≤ _), (by decide : 0 + 0 ≤ _)⟩)
  dsimp only [Pt.U, Pt.locs, Pt.cells, Pt.slots] at X33 l33 y33 z33 st33 hQ33
  subst l33 y33 z33
  obtain ⟨rfl, Nq33, eq33⟩ := hQ33
  have Nf33 := Fr.app Nf27 Nq33
  have kn37 : ∀ t, own_S p e below T33 (mkF m 101 #[.val (.ref d1), .val (.ref x1), .val (.int (1 : Int32)), .val (.int (2 : Int32)), .val (.int (98 : Int32)), .unset] [(.int (2 : Int32))]) t → Gl t := fun t kt => kn32 t (st33.trans kt)
  have kn38 : ∀ t, own_S p e below T33 (mkF m 104 #[.val (.ref d1), .val (.ref x1), .val (.int (1 : Int32)), .val (.int (2 : Int32)), .val (.int (98 : Int32)), .val (.int (2 : Int32))] [(.ref d1)]) t → Gl t := fun t kt => kn37 t (by
    show own_S p e below T33 (mkF m 101 #[.val (.ref d1), .val (.ref x1), .val (.int (1 : Int32)), .val (.int (2 : Int32)), .val (.int (98 : Int32)), .unset] [(.int (2 : Int32))]) _
    refine XS.istore X33.here hx rfl (hb hby d_prog_82_method_4_101) rfl (l' := #[.val (.ref d1), .val (.ref x1), .val (.int (1 : Int32)), .val (.int (2 : Int32)), .val (.int (98 : Int32)), .val (.int (2 : Int32))]) rfl ?_
    show own_S p e below T33 (mkF m 103 #[.val (.ref d1), .val (.ref x1), .val (.int (1 : Int32)), .val (.int (2 : Int32)), .val (.int (98 : Int32)), .val (.int (2 : Int32))] []) _
    refine XS.aloadN X33.here hx rfl (hb hby d_prog_82_method_4_103) rfl rfl ?_
    exact kt)
  obtain ⟨T39, X39, e39, st39⟩ := getF X33 hx hZ hown (host := "") (Or.inl (hw _ (List.mem_of_getElem? (i := 40) rfl))) Via.refl eq33 f34 (g := (mkF m 104 #[.val (.ref d1), .val (.ref x1), .val (.int (1 : Int32)), .val (.int (2 : Int32)), .val (.int (98 : Int32)), .val (.int (2 : Int32))] [(.ref d1)])) rfl rfl (hb hby d_prog_82_method_4_104)
  have kn40 : ∀ t, own_S p e below T39 (mkF m 107 #[.val (.ref d1), .val (.ref x1), .val (.int (1 : Int32)), .val (.int (2 : Int32)), .val (.int (98 : Int32)), .val (.int (2 : Int32))] [(.ref bS)]) t → Gl t := fun t kt => kn38 t (st39 _ kt)
  have kn41 : ∀ t, own_S p e below T39 (mkF m 109 #[.val (.ref d1), .val (.ref x1), .val (.int (1 : Int32)), .val (.int (2 : Int32)), .val (.int (98 : Int32)), .val (.int (2 : Int32))] [(.int (2 : Int32)), (.ref bS)]) t → Gl t := fun t kt => kn40 t (by
    show own_S p e below T39 (mkF m 107 #[.val (.ref d1), .val (.ref x1), .val (.int (1 : Int32)), .val (.int (2 : Int32)), .val (.int (98 : Int32)), .val (.int (2 : Int32))] [(.ref bS)]) _
    refine XS.iload X39.here hx rfl (hb hby d_prog_82_method_4_107) rfl ?_
    exact kt)
  obtain ⟨cl42, Ar42, q42, Sz42, Ng42, Hs42, Gs42⟩ := id f35
  have hin42 : ¬ ((2 : Int32) < 0 ∨ cl42.slots.size ≤ ((2 : Int32)).toNatClampNeg) := inb_of Sz42 ⟨by decide, by decide⟩
  have hat42 : cl42.slots[((2 : Int32)).toNatClampNeg]? = some (.int (0 : Int32)) := Hs42.at hin42 rfl
  have kn43 : ∀ t, own_S p e below T39 (mkF m 116 #[.val (.ref d1), .val (.ref x1), .val (.int (1 : Int32)), .val (.int (2 : Int32)), .val (.int (98 : Int32)), .val (.int (2 : Int32))] [(.ref d1)]) t → Gl t := fun t kt => kn41 t (by
    show own_S p e below T39 (mkF m 109 #[.val (.ref d1), .val (.ref x1), .val (.int (1 : Int32)), .val (.int (2 : Int32)), .val (.int (98 : Int32)), .val (.int (2 : Int32))] [(.int (2 : Int32)), (.ref bS)]) _
    refine X39.iaload hx (j := (2 : Int32)) (v := (.int (0 : Int32))) (by rw [e39]; exact Ar42.1) (State.isArrayOf_alike hZ.alike Ar42.2.1) Ar42.2.2 hin42 hat42 (g := (mkF m 109 #[.val (.ref d1), .val (.ref x1), .val (.int (1 : Int32)), .val (.int (2 : Int32)), .val (.int (98 : Int32)), .val (.int (2 : Int32))] [(.int (2 : Int32)), (.ref bS)])) rfl rfl (hb hby d_prog_82_method_4_109) _ ?_
    show own_S p e below T39 (mkF m 110 #[.val (.ref d1), .val (.ref x1), .val (.int (1 : Int32)), .val (.int (2 : Int32)), .val (.int (98 : Int32)), .val (.int (2 : Int32))] [(.int (0 : Int32))]) _
    refine XS.ifYes X39.here hx rfl (pc0 := 110) (pc' := 115) rfl (hb hby d_prog_82_method_4_110) rfl ((if0 _ _).trans (teq (by decide : (0 : Int32) = (0 : Int32))).1) (by decide) (by decide) ?_
    show own_S p e below T39 (mkF m 115 #[.val (.ref d1), .val (.ref x1), .val (.int (1 : Int32)), .val (.int (2 : Int32)), .val (.int (98 : Int32)), .val (.int (2 : Int32))] []) _
    refine XS.aloadN X39.here hx rfl (hb hby d_prog_82_method_4_115) rfl rfl ?_
    exact kt)
  have f44 := (FD4.keep K17 (ninS ne_d1_bB nin0))
  obtain ⟨T45, X45, e45, st45⟩ := getF X39 hx hZ hown (host := "") (Or.inl (hw _ (List.mem_of_getElem? (i := 65) rfl))) Via.refl e39 f44 (g := (mkF m 116 #[.val (.ref d1), .val (.ref x1), .val (.int (1 : Int32)), .val (.int (2 : Int32)), .val (.int (98 : Int32)), .val (.int (2 : Int32))] [(.ref d1)])) rfl rfl (hb hby d_prog_82_method_4_116)
  have kn46 : ∀ t, own_S p e below T45 (mkF m 119 #[.val (.ref d1), .val (.ref x1), .val (.int (1 : Int32)), .val (.int (2 : Int32)), .val (.int (98 : Int32)), .val (.int (2 : Int32))] [(.int (1 : Int32))]) t → Gl t := fun t kt => kn43 t (st45 _ kt)
  have kn47 : ∀ t, own_S p e below T45 (mkF m 120 #[.val (.ref d1), .val (.ref x1), .val (.int (1 : Int32)), .val (.int (2 : Int32)), .val (.int (98 : Int32)), .val (.int (2 : Int32))] [(.ref d1), (.int (1 : Int32))]) t → Gl t := fun t kt => kn46 t (by
    show own_S p e below T45 (mkF m 119 #[.val (.ref d1), .val (.ref x1), .val (.int (1 : Int32)), .val (.int (2 : Int32)), .val (.int (98 : Int32)), .val (.int (2 : Int32))] [(.int (1 : Int32))]) _
    refine XS.aloadN X45.here hx rfl (hb hby d_prog_82_method_4_119) rfl rfl ?_
    exact kt)
  have f48 := (FD1.keep K17 (ninS ne_d1_bB nin0))
  obtain ⟨T49, X49, e49, st49⟩ := getF X45 hx hZ hown (host := "") (Or.inl (hw _ (List.mem_of_getElem? (i := 27) rfl))) Via.refl e45 f48 (g := (mkF m 120 #[.val (.ref d1), .val (.ref x1), .val (.int (1 : Int32)), .val (.int (2 : Int32)), .val (.int (98 : Int32)), .val (.int (2 : Int32))] [(.ref d1), (.int (1 : Int32))])) rfl rfl (hb hby d_prog_82_method_4_120)
  have kn50 : ∀ t, own_S p e below T49 (mkF m 123 #[.val (.ref d1), .val (.ref x1), .val (.int (1 : Int32)), .val (.int (2 : Int32)), .val (.int (98 : Int32)), .val (.int (2 : Int32))] [(.ref bE), (.int (1 : Int32))]) t → Gl t := fun t kt => kn47 t (st49 _ kt)
  have f51 := (AD1.keep K17 (ninS (Ne.symm ne_bB_bE) nin0))
  obtain ⟨cl52, Ar52, -, Sz52, Ng52, -, -⟩ := id f51
  have kn53 : ∀ t, own_S p e below T49 (mkF m 162 #[.val (.ref d1), .val (.ref x1), .val (.int (1 : Int32)), .val (.int (2 : Int32)), .val (.int (98 : Int32)), .val (.int (2 : Int32))] [(.ref d1)]) t → Gl t := fun t kt => kn50 t (by
    show own_S p e below T49 (mkF m 123 #[.val (.ref d1), .val (.ref x1), .val (.int (1 : Int32)), .val (.int (2 : Int32)), .val (.int (98 : Int32)), .val (.int (2 : Int32))] [(.ref bE), (.int (1 : Int32))]) _
    refine X49.arraylength hx (by rw [e49]; exact Ar52.1) (State.isArrayOf_alike hZ.alike Ar52.2.1) (g := (mkF m 123 #[.val (.ref d1), .val (.ref x1), .val (.int (1 : Int32)), .val (.int (2 : Int32)), .val (.int (98 : Int32)), .val (.int (2 : Int32))] [(.ref bE), (.int (1 : Int32))])) rfl rfl (hb hby d_prog_82_method_4_123) _ ?_
    rw [len_of Sz52 Ng52]
    show own_S p e below T49 (mkF m 124 #[.val (.ref d1), .val (.ref x1), .val (.int (1 : Int32)), .val (.int (2 : Int32)), .val (.int (98 : Int32)), .val (.int (2 : Int32))] [(.int (8 : Int32)), (.int (1 : Int32))]) _
    refine XS.icmpYes X49.here hx rfl (pc0 := 124) (pc' := 161) rfl (hb hby d_prog_82_method_4_124) rfl (feq (by decide : ¬ ((1 : Int32) = (8 : Int32)))).2 (by decide) (by decide) ?_
    show own_S p e below T49 (mkF m 161 #[.val (.ref d1), .val (.ref x1), .val (.int (1 : Int32)), .val (.int (2 : Int32)), .val (.int (98 : Int32)), .val (.int (2 : Int32))] []) _
    refine XS.aloadN X49.here hx rfl (hb hby d_prog_82_method_4_161) rfl rfl ?_
    exact kt)
  obtain ⟨T54, X54, e54, st54⟩ := getF X49 hx hZ hown (host := "") (Or.inl (hw _ (List.mem_of_getElem? (i := 27) rfl))) Via.refl e49 f48 (g := (mkF m 162 #[.val (.ref d1), .val (.ref x1), .val (.int (1 : Int32)), .val (.int (2 : Int32)), .val (.int (98 : Int32)), .val (.int (2 : Int32))] [(.ref d1)])) rfl rfl (hb hby d_prog_82_method_4_162)
  have kn55 : ∀ t, own_S p e below T54 (mkF m 165 #[.val (.ref d1), .val (.ref x1), .val (.int (1 : Int32)), .val (.int (2 : Int32)), .val (.int (98 : Int32)), .val (.int (2 : Int32))] [(.ref bE)]) t → Gl t := fun t kt => kn53 t (st54 _ kt)
  have kn56 : ∀ t, own_S p e below T54 (mkF m 166 #[.val (.ref d1), .val (.ref x1), .val (.int (1 : Int32)), .val (.int (2 : Int32)), .val (.int (98 : Int32)), .val (.int (2 : Int32))] [(.ref d1), (.ref bE)]) t → Gl t := fun t kt => kn55 t (by
    show own_S p e below T54 (mkF m 165 #[.val (.ref d1), .val (.ref x1), .val (.int (1 : Int32)), .val (.int (2 : Int32)), .val (.int (98 : Int32)), .val (.int (2 : Int32))] [(.ref bE)]) _
    refine XS.aloadN X54.here hx rfl (hb hby d_prog_82_method_4_165) rfl rfl ?_
    exact kt)
  obtain ⟨T57, X57, e57, st57⟩ := getF X54 hx hZ hown (host := "") (Or.inl (hw _ (List.mem_of_getElem? (i := 65) rfl))) Via.refl e54 f44 (g := (mkF m 166 #[.val (.ref d1), .val (.ref x1), .val (.int (1 : Int32)), .val (.int (2 : Int32)), .val (.int (98 : Int32)), .val (.int (2 : Int32))] [(.ref d1), (.ref bE)])) rfl rfl (hb hby d_prog_82_method_4_166)
  have kn58 : ∀ t, own_S p e below T57 (mkF m 169 #[.val (.ref d1), .val (.ref x1), .val (.int (1 : Int32)), .val (.int (2 : Int32)), .val (.int (98 : Int32)), .val (.int (2 : Int32))] [(.int (1 : Int32)), (.ref bE)]) t → Gl t := fun t kt => kn56 t (st57 _ kt)
  have kn59 : ∀ t, own_S p e below T57 (mkF m 170 #[.val (.ref d1), .val (.ref x1), .val (.int (1 : Int32)), .val (.int (2 : Int32)), .val (.int (98 : Int32)), .val (.int (2 : Int32))] [(.int (2 : Int32)), (.int (1 : Int32)), (.ref bE)]) t → Gl t := fun t kt => kn58 t (by
    show own_S p e below T57 (mkF m 169 #[.val (.ref d1), .val (.ref x1), .val (.int (1 : Int32)), .val (.int (2 : Int32)), .val (.int (98 : Int32)), .val (.int (2 : Int32))] [(.int (1 : Int32)), (.ref bE)]) _
    refine XS.iloadN X57.here hx rfl (hb hby d_prog_82_method_4_169) rfl ?_
    exact kt)
  obtain ⟨cl60, Ar60, q60, Sz60, Ng60, Hs60, Gs60⟩ := id f51
  have hin60 : ¬ ((1 : Int32) < 0 ∨ cl60.slots.size ≤ ((1 : Int32)).toNatClampNeg) := inb_of Sz60 ⟨by decide, by decide⟩
  obtain ⟨T60, h60, X60, e60, W60, st60⟩ := stI X57 hx hZ e57 Ar60 (j := (1 : Int32)) hin60 (g := (mkF m 170 #[.val (.ref d1), .val (.ref x1), .val (.int (1 : Int32)), .val (.int (2 : Int32)), .val (.int (98 : Int32)), .val (.int (2 : Int32))] [(.int (2 : Int32)), (.int (1 : Int32)), (.ref bE)])) rfl rfl (hb hby d_prog_82_method_4_170)
  have Z61 : n0 ≤ h60.size := Nat.le_trans Z18 (Keep.of_wr W60).1
  have O62 : Old Z n0 h60 := O19.wr W60 g_bE
  have K63 : Keep h0 h60 [d1, bB, bE, bH, bS] := K20.wr W60 (Or.inl (List.mem_of_getElem? (i := 2) rfl))
  have V60 : Arv Z h60 bE kE .int (8 : Int32) [(.int (1 : Int32)), (.int (2 : Int32)), (.int (0 : Int32)), (.int (0 : Int32)), (.int (0 : Int32)), (.int (0 : Int32)), (.int (0 : Int32)), (.int (0 : Int32))] (.int (0 : Int32)) := Arv.set Ar60 q60 Sz60 Ng60 Hs60 Gs60 rfl W60 1 rfl (Nat.le_of_ble_eq_true rfl)
  have Nf64 := Fr.snoc X60 Nf33 g_bE
  have kn65 : ∀ t, own_S p e below T60 (mkF m 171 #[.val (.ref d1), .val (.ref x1), .val (.int (1 : Int32)), .val (.int (2 : Int32)), .val (.int (98 : Int32)), .val (.int (2 : Int32))] []) t → Gl t := fun t kt => kn59 t (st60 _ kt)
  have kn66 : ∀ t, own_S p e below T60 (mkF m 172 #[.val (.ref d1), .val (.ref x1), .val (.int (1 : Int32)), .val (.int (2 : Int32)), .val (.int (98 : Int32)), .val (.int (2 : Int32))] [(.ref d1)]) t → Gl t := fun t kt => kn65 t (by
    show own_S p e below T60 (mkF m 171 #[.val (.ref d1), .val (.ref x1), .val (.int (1 : Int32)), .val (.int (2 : Int32)), .val (.int (98 : Int32)), .val (.int (2 : Int32))] []) _
    refine XS.aloadN X60.here hx rfl (hb hby d_prog_82_method_4_171) rfl rfl ?_
    exact kt)
  have f67 := ((FD2.keep K17 (ninS ne_d1_bB nin0)).other W60 (Or.inl ne_d1_bE))
  obtain ⟨T68, X68, e68, st68⟩ := getF X60 hx hZ hown (host := "") (Or.inl (hw _ (List.mem_of_getElem? (i := 29) rfl))) Via.refl e60 f67 (g := (mkF m 172 #[.val (.ref d1), .val (.ref x1), .val (.int (1 : Int32)), .val (.int (2 : Int32)), .val (.int (98 : Int32)), .val (.int (2 : Int32))] [(.ref d1)])) rfl rfl (hb hby d_prog_82_method_4_172)
  have kn69 : ∀ t, own_S p e below T68 (mkF m 175 #[.val (.ref d1), .val (.ref x1), .val (.int (1 : Int32)), .val (.int (2 : Int32)), .val (.int (98 : Int32)), .val (.int (2 : Int32))] [(.ref bH)]) t → Gl t := fun t kt => kn66 t (st68 _ kt)
  have kn70 : ∀ t, own_S p e below T68 (mkF m 176 #[.val (.ref d1), .val (.ref x1), .val (.int (1 : Int32)), .val (.int (2 : Int32)), .val (.int (98 : Int32)), .val (.int (2 : Int32))] [(.ref d1), (.ref bH)]) t → Gl t := fun t kt => kn69 t (by
    show own_S p e below T68 (mkF m 175 #[.val (.ref d1), .val (.ref x1), .val (.int (1 : Int32)), .val (.int (2 : Int32)), .val (.int (98 : Int32)), .val (.int (2 : Int32))] [(.ref bH)]) _
    refine XS.aloadN X68.here hx rfl (hb hby d_prog_82_method_4_175) rfl rfl ?_
    exact kt)
  have f71 := (f44.other W60 (Or.inl ne_d1_bE))
  obtain ⟨T72, X72, e72, st72⟩ := getF X68 hx hZ hown (host := "") (Or.inl (hw _ (List.mem_of_getElem? (i := 65) rfl))) Via.refl e68 f71 (g := (mkF m 176 #[.val (.ref d1), .val (.ref x1), .val (.int (1 : Int32)), .val (.int (2 : Int32)), .val (.int (98 : Int32)), .val (.int (2 : Int32))] [(.ref d1), (.ref bH)])) rfl rfl (hb hby d_prog_82_method_4_176)
  have kn73 : ∀ t, own_S p e below T72 (mkF m 179 #[.val (.ref d1), .val (.ref x1), .val (.int (1 : Int32)), .val (.int (2 : Int32)), .val (.int (98 : Int32)), .val (.int (2 : Int32))] [(.int (1 : Int32)), (.ref bH)]) t → Gl t := fun t kt => kn70 t (st72 _ kt)
  have kn74 : ∀ t, own_S p e below T72 (mkF m 181 #[.val (.ref d1), .val (.ref x1), .val (.int (1 : Int32)), .val (.int (2 : Int32)), .val (.int (98 : Int32)), .val (.int (2 : Int32))] [(.int (98 : Int32)), (.int (1 : Int32)), (.ref bH)]) t → Gl t := fun t kt => kn73 t (by
    show own_S p e below T72 (mkF m 179 #[.val (.ref d1), .val (.ref x1), .val (.int (1 : Int32)), .val (.int (2 : Int32)), .val (.int (98 : Int32)), .val (.int (2 : Int32))] [(.int (1 : Int32)), (.ref bH)]) _
    refine XS.iload X72.here hx rfl (hb hby d_prog_82_method_4_179) rfl ?_
    exact kt)
  have f75 := ((AD2.keep K17 (ninS (Ne.symm ne_bB_bH) nin0)).other W60 (Ne.symm ne_bE_bH))
  obtain ⟨cl76, Ar76, q76, Sz76, Ng76, Hs76, Gs76⟩ := id f75
  have hin76 : ¬ ((1 : Int32) < 0 ∨ cl76.slots.size ≤ ((1 : Int32)).toNatClampNeg) := inb_of Sz76 ⟨by decide, by decide⟩
  obtain ⟨T76, h76, X76, e76, W76, st76⟩ := stI X72 hx hZ e72 Ar76 (j := (1 : Int32)) hin76 (g := (mkF m 181 #[.val (.ref d1), .val (.ref x1), .val (.int (1 : Int32)), .val (.int (2 : Int32)), .val (.int (98 : Int32)), .val (.int (2 : Int32))] [(.int (98 : Int32)), (.int (1 : Int32)), (.ref bH)])) rfl rfl (hb hby d_prog_82_method_4_181)
  have Z77 : n0 ≤ h76.size := Nat.le_trans Z61 (Keep.of_wr W76).1
  have O78 : Old Z n0 h76 := O62.wr W76 g_bH
  have K79 : Keep h0 h76 [d1, bB, bE, bH, bS] := K63.wr W76 (Or.inl (List.mem_of_getElem? (i := 3) rfl))
  have V76 : Arv Z h76 bH kH .int (8 : Int32) [(.int (97 : Int32)), (.int (98 : Int32)), (.int (0 : Int32)), (.int (0 : Int32)), (.int (0 : Int32)), (.int (0 : Int32)), (.int (0 : Int32)), (.int (0 : Int32))] (.int (0 : Int32)) := Arv.set Ar76 q76 Sz76 Ng76 Hs76 Gs76 rfl W76 1 rfl (Nat.le_of_ble_eq_true rfl)
  have Nf80 := Fr.snoc X76 Nf64 g_bH
  have kn81 : ∀ t, own_S p e below T76 (mkF m 182 #[.val (.ref d1), .val (.ref x1), .val (.int (1 : Int32)), .val (.int (2 : Int32)), .val (.int (98 : Int32)), .val (.int (2 : Int32))] []) t → Gl t := fun t kt => kn74 t (st76 _ kt)
  have kn82 : ∀ t, own_S p e below T76 (mkF m 184 #[.val (.ref d1), .val (.ref x1), .val (.int (1 : Int32)), .val (.int (2 : Int32)), .val (.int (98 : Int32)), .val (.int (2 : Int32))] [(.ref d1), (.ref d1)]) t → Gl t := fun t kt => kn81 t (by
    show own_S p e below T76 (mkF m 182 #[.val (.ref d1), .val (.ref x1), .val (.int (1 : Int32)), .val (.int (2 : Int32)), .val (.int (98 : Int32)), .val (.int (2 : Int32))] []) _
    refine XS.aloadN X76.here hx rfl (hb hby d_prog_82_method_4_182) rfl rfl ?_
    show own_S p e below T76 (mkF m 183 #[.val (.ref d1), .val (.ref x1), .val (.int (1 : Int32)), .val (.int (2 : Int32)), .val (.int (98 : Int32)), .val (.int (2 : Int32))] [(.ref d1)]) _
    refine XS.dup X76.here hx rfl (hb hby d_prog_82_method_4_183) rfl rfl ?_
    exact kt)
  have f83 := (f71.other W76 (Or.inl ne_d1_bH))
  obtain ⟨T84, X84, e84, st84⟩ := getF X76 hx hZ hown (host := "") (Or.inl (hw _ (List.mem_of_getElem? (i := 65) rfl))) Via.refl e76 f83 (g := (mkF m 184 #[.val (.ref d1), .val (.ref x1), .val (.int (1 : Int32)), .val (.int (2 : Int32)), .val (.int (98 : Int32)), .val (.int (2 : Int32))] [(.ref d1), (.ref d1)])) rfl rfl (hb hby d_prog_82_method_4_184)
  have kn85 : ∀ t, own_S p e below T84 (mkF m 187 #[.val (.ref d1), .val (.ref x1), .val (.int (1 : Int32)), .val (.int (2 : Int32)), .val (.int (98 : Int32)), .val (.int (2 : Int32))] [(.int (1 : Int32)), (.ref d1)]) t → Gl t := fun t kt => kn82 t (st84 _ kt)
  have kn86 : ∀ t, own_S p e below T84 (mkF m 189 #[.val (.ref d1), .val (.ref x1), .val (.int (1 : Int32)), .val (.int (2 : Int32)), .val (.int (98 : Int32)), .val (.int (2 : Int32))] [(.int (2 : Int32)), (.ref d1)]) t → Gl t := fun t kt => kn85 t (by
    show own_S p e below T84 (mkF m 187 #[.val (.ref d1), .val (.ref x1), .val (.int (1 : Int32)), .val (.int (2 : Int32)), .val (.int (98 : Int32)), .val (.int (2 : Int32))] [(.int (1 : Int32)), (.ref d1)]) _
    refine XS.iconst X84.here hx rfl (hb hby d_prog_82_method_4_187) ?_
    show own_S p e below T84 (mkF m 188 #[.val (.ref d1), .val (.ref x1), .val (.int (1 : Int32)), .val (.int (2 : Int32)), .val (.int (98 : Int32)), .val (.int (2 : Int32))] [(.int (1 : Int32)), (.int (1 : Int32)), (.ref d1)]) _
    refine XS.iadd X84.here hx rfl (hb hby d_prog_82_method_4_188) rfl ?_
    rw [(by decide : ((1 : Int32) + (1 : Int32)) = (2 : Int32))]
    exact kt)
  have f87 := ((f36.wr W60).wr W76)
  obtain ⟨T88, h88, X88, e88, W88, st88⟩ := putF X84 hx hZ hown (host := "") (Or.inl (hw _ (List.mem_of_getElem? (i := 65) rfl))) Via.refl e84 f83 f87 (Or.inl (hw _ (List.mem_of_getElem? (i := 66) rfl))) (hw _ (List.mem_of_getElem? (i := 10) rfl)) (ty := .int) (by decide) rfl rfl (g := (mkF m 189 #[.val (.ref d1), .val (.ref x1), .val (.int (1 : Int32)), .val (.int (2 : Int32)), .val (.int (98 : Int32)), .val (.int (2 : Int32))] [(.int (2 : Int32)), (.ref d1)])) rfl rfl (hb hby d_prog_82_method_4_189)
  have Z89 : n0 ≤ h88.size := Nat.le_trans Z77 (Keep.of_wr W88).1
  have O90 : Old Z n0 h88 := O78.wr W88 g_d1
  have K91 : Keep h0 h88 [d1, bB, bE, bH, bS] := K79.wr W88 (Or.inl (List.mem_of_getElem? (i := 0) rfl))
  have Fw88 := f83.same W88
  have Nf92 := Fr.snoc X88 Nf80 g_d1
  have kn93 : ∀ t, own_S p e below T88 (mkF m 192 #[.val (.ref d1), .val (.ref x1), .val (.int (1 : Int32)), .val (.int (2 : Int32)), .val (.int (98 : Int32)), .val (.int (2 : Int32))] []) t → Gl t := fun t kt => kn86 t (st88 _ kt)
  have kn94 : ∀ t, own_S p e below T88 (mkF m 193 #[.val (.ref d1), .val (.ref x1), .val (.int (1 : Int32)), .val (.int (2 : Int32)), .val (.int (98 : Int32)), .val (.int (2 : Int32))] [(.ref d1)]) t → Gl t := fun t kt => kn93 t (by
    show own_S p e below T88 (mkF m 192 #[.val (.ref d1), .val (.ref x1), .val (.int (1 : Int32)), .val (.int (2 : Int32)), .val (.int (98 : Int32)), .val (.int (2 : Int32))] []) _
    refine XS.aloadN X88.here hx rfl (hb hby d_prog_82_method_4_192) rfl rfl ?_
    exact kt)
  have f95 := (((f34.other W60 (Or.inl ne_d1_bE)).other W76 (Or.inl ne_d1_bH)).other W88 (Or.inr (slot_ne (Or.inl (hw _ (List.mem_of_getElem? (i := 41) rfl))) (Or.inl (hw _ (List.mem_of_getElem? (i := 66) rfl))) (by decide) (t := (.array .int)) (t' := .int) (by decide) (by decide))))
  obtain ⟨T96, X96, e96, st96⟩ := getF X88 hx hZ hown (host := "") (Or.inl (hw _ (List.mem_of_getElem? (i := 40) rfl))) Via.refl e88 f95 (g := (mkF m 193 #[.val (.ref d1), .val (.ref x1), .val (.int (1 : Int32)), .val (.int (2 : Int32)), .val (.int (98 : Int32)), .val (.int (2 : Int32))] [(.ref d1)])) rfl rfl (hb hby d_prog_82_method_4_193)
  have kn97 : ∀ t, own_S p e below T96 (mkF m 196 #[.val (.ref d1), .val (.ref x1), .val (.int (1 : Int32)), .val (.int (2 : Int32)), .val (.int (98 : Int32)), .val (.int (2 : Int32))] [(.ref bS)]) t → Gl t := fun t kt => kn94 t (st96 _ kt)
  have kn98 : ∀ t, own_S p e below T96 (mkF m 199 #[.val (.ref d1), .val (.ref x1), .val (.int (1 : Int32)), .val (.int (2 : Int32)), .val (.int (98 : Int32)), .val (.int (2 : Int32))] [(.ref d1), (.int (2 : Int32)), (.ref bS)]) t → Gl t := fun t kt => kn97 t (by
    show own_S p e below T96 (mkF m 196 #[.val (.ref d1), .val (.ref x1), .val (.int (1 : Int32)), .val (.int (2 : Int32)), .val (.int (98 : Int32)), .val (.int (2 : Int32))] [(.ref bS)]) _
    refine XS.iload X96.here hx rfl (hb hby d_prog_82_method_4_196) rfl ?_
    show own_S p e below T96 (mkF m 198 #[.val (.ref d1), .val (.ref x1), .val (.int (1 : Int32)), .val (.int (2 : Int32)), .val (.int (98 : Int32)), .val (.int (2 : Int32))] [(.int (2 : Int32)), (.ref bS)]) _
    refine XS.aloadN X96.here hx rfl (hb hby d_prog_82_method_4_198) rfl rfl ?_
    exact kt)
  obtain ⟨T99, X99, e99, st99⟩ := getF X96 hx hZ hown (host := "") (Or.inl (hw _ (List.mem_of_getElem? (i := 65) rfl))) Via.refl e96 Fw88 (g := (mkF m 199 #[.val (.ref d1), .val (.ref x1), .val (.int (1 : Int32)), .val (.int (2 : Int32)), .val (.int (98 : Int32)), .val (.int (2 : Int32))] [(.ref d1), (.int (2 : Int32)), (.ref bS)])) rfl rfl (hb hby d_prog_82_method_4_199)
  have kn100 : ∀ t, own_S p e below T99 (mkF m 202 #[.val (.ref d1), .val (.ref x1), .val (.int (1 : Int32)), .val (.int (2 : Int32)), .val (.int (98 : Int32)), .val (.int (2 : Int32))] [(.int (2 : Int32)), (.int (2 : Int32)), (.ref bS)]) t → Gl t := fun t kt => kn98 t (st99 _ kt)
  have f101 := (((f35.other W60 (Ne.symm ne_bE_bS)).other W76 (Ne.symm ne_bH_bS)).other W88 (Ne.symm ne_d1_bS))
  obtain ⟨cl102, Ar102, q102, Sz102, Ng102, Hs102, Gs102⟩ := id f101
  have hin102 : ¬ ((2 : Int32) < 0 ∨ cl102.slots.size ≤ ((2 : Int32)).toNatClampNeg) := inb_of Sz102 ⟨by decide, by decide⟩
  obtain ⟨T102, h102, X102, e102, W102, st102⟩ := stI X99 hx hZ e99 Ar102 (j := (2 : Int32)) hin102 (g := (mkF m 202 #[.val (.ref d1), .val (.ref x1), .val (.int (1 : Int32)), .val (.int (2 : Int32)), .val (.int (98 : Int32)), .val (.int (2 : Int32))] [(.int (2 : Int32)), (.int (2 : Int32)), (.ref bS)])) rfl rfl (hb hby d_prog_82_method_4_202)
  have Z103 : n0 ≤ h102.size := Nat.le_trans Z89 (Keep.of_wr W102).1
  have O104 : Old Z n0 h102 := O90.wr W102 g_bS
  have K105 : Keep h0 h102 [d1, bB, bE, bH, bS] := K91.wr W102 (Or.inl (List.mem_of_getElem? (i := 4) rfl))
  have V102 : Arv Z h102 bS kS .int (16 : Int32) [(.int (0 : Int32)), (.int (1 : Int32)), (.int (2 : Int32)), (.int (0 : Int32)), (.int (0 : Int32)), (.int (0 : Int32)), (.int (0 : Int32)), (.int (0 : Int32)), (.int (0 : Int32)), (.int (0 : Int32)), (.int (0 : Int32)), (.int (0 : Int32)), (.int (0 : Int32)), (.int (0 : Int32)), (.int (0 : Int32)), (.int (0 : Int32))] (.int (0 : Int32)) := Arv.set Ar102 q102 Sz102 Ng102 Hs102 Gs102 rfl W102 2 rfl (Nat.le_of_ble_eq_true rfl)
  have Nf106 := Fr.snoc X102 Nf92 g_bS
  have kn107 : ∀ t, own_S p e below T102 (mkF m 203 #[.val (.ref d1), .val (.ref x1), .val (.int (1 : Int32)), .val (.int (2 : Int32)), .val (.int (98 : Int32)), .val (.int (2 : Int32))] []) t → Gl t := fun t kt => kn100 t (st102 _ kt)
  have kn108 : ∀ t, own_S p e below T102 (mkF m 204 #[.val (.ref d1), .val (.ref x1), .val (.int (1 : Int32)), .val (.int (2 : Int32)), .val (.int (98 : Int32)), .val (.int (2 : Int32))] [(.ref d1)]) t → Gl t := fun t kt => kn107 t (by
    show own_S p e below T102 (mkF m 203 #[.val (.ref d1), .val (.ref x1), .val (.int (1 : Int32)), .val (.int (2 : Int32)), .val (.int (98 : Int32)), .val (.int (2 : Int32))] []) _
    refine XS.aloadN X102.here hx rfl (hb hby d_prog_82_method_4_203) rfl rfl ?_
    exact kt)
  have f109 := (Fw88.other W102 (Or.inl ne_d1_bS))
  obtain ⟨T110, X110, e110, st110⟩ := getF X102 hx hZ hown (host := "") (Or.inl (hw _ (List.mem_of_getElem? (i := 65) rfl))) Via.refl e102 f109 (g := (mkF m 204 #[.val (.ref d1), .val (.ref x1), .val (.int (1 : Int32)), .val (.int (2 : Int32)), .val (.int (98 : Int32)), .val (.int (2 : Int32))] [(.ref d1)])) rfl rfl (hb hby d_prog_82_method_4_204)
  have kn111 : ∀ t, own_S p e below T110 (mkF m 207 #[.val (.ref d1), .val (.ref x1), .val (.int (1 : Int32)), .val (.int (2 : Int32)), .val (.int (98 : Int32)), .val (.int (2 : Int32))] [(.int (2 : Int32))]) t → Gl t := fun t kt => kn108 t (st110 _ kt)
  have kn112 : ∀ t, own_S p e below T110 (mkF m 210 #[.val (.ref d1), .val (.ref x1), .val (.int (1 : Int32)), .val (.int (2 : Int32)), .val (.int (98 : Int32)), .val (.int (2 : Int32))] [(.ref d1), (.int (4 : Int32))]) t → Gl t := fun t kt => kn111 t (by
    show own_S p e below T110 (mkF m 207 #[.val (.ref d1), .val (.ref x1), .val (.int (1 : Int32)), .val (.int (2 : Int32)), .val (.int (98 : Int32)), .val (.int (2 : Int32))] [(.int (2 : Int32))]) _
    refine XS.iconst X110.here hx rfl (hb hby d_prog_82_method_4_207) ?_
    show own_S p e below T110 (mkF m 208 #[.val (.ref d1), .val (.ref x1), .val (.int (1 : Int32)), .val (.int (2 : Int32)), .val (.int (98 : Int32)), .val (.int (2 : Int32))] [(.int (2 : Int32)), (.int (2 : Int32))]) _
    refine XS.imul X110.here hx rfl (hb hby d_prog_82_method_4_208) rfl ?_
    rw [(by decide : ((2 : Int32) * (2 : Int32)) = (4 : Int32))]
    show own_S p e below T110 (mkF m 209 #[.val (.ref d1), .val (.ref x1), .val (.int (1 : Int32)), .val (.int (2 : Int32)), .val (.int (98 : Int32)), .val (.int (2 : Int32))] [(.int (4 : Int32))]) _
    refine XS.aloadN X110.here hx rfl (hb hby d_prog_82_method_4_209) rfl rfl ?_
    exact kt)
  have f113 := (f95.other W102 (Or.inl ne_d1_bS))
  obtain ⟨T114, X114, e114, st114⟩ := getF X110 hx hZ hown (host := "") (Or.inl (hw _ (List.mem_of_getElem? (i := 40) rfl))) Via.refl e110 f113 (g := (mkF m 210 #[.val (.ref d1), .val (.ref x1), .val (.int (1 : Int32)), .val (.int (2 : Int32)), .val (.int (98 : Int32)), .val (.int (2 : Int32))] [(.ref d1), (.int (4 : Int32))])) rfl rfl (hb hby d_prog_82_method_4_210)
  have kn115 : ∀ t, own_S p e below T114 (mkF m 213 #[.val (.ref d1), .val (.ref x1), .val (.int (1 : Int32)), .val (.int (2 : Int32)), .val (.int (98 : Int32)), .val (.int (2 : Int32))] [(.ref bS), (.int (4 : Int32))]) t → Gl t := fun t kt => kn112 t (st114 _ kt)
  obtain ⟨cl116, Ar116, -, Sz116, Ng116, -, -⟩ := id V102
  have kn117 : ∀ t, own_S p e below T114 (mkF m 222 #[.val (.ref d1), .val (.ref x1), .val (.int (1 : Int32)), .val (.int (2 : Int32)), .val (.int (98 : Int32)), .val (.int (2 : Int32))] [(.ref d1)]) t → Gl t := fun t kt => kn115 t (by
    show own_S p e below T114 (mkF m 213 #[.val (.ref d1), .val (.ref x1), .val (.int (1 : Int32)), .val (.int (2 : Int32)), .val (.int (98 : Int32)), .val (.int (2 : Int32))] [(.ref bS), (.int (4 : Int32))]) _
    refine X114.arraylength hx (by rw [e114]; exact Ar116.1) (State.isArrayOf_alike hZ.alike Ar116.2.1) (g := (mkF m 213 #[.val (.ref d1), .val (.ref x1), .val (.int (1 : Int32)), .val (.int (2 : Int32)), .val (.int (98 : Int32)), .val (.int (2 : Int32))] [(.ref bS), (.int (4 : Int32))])) rfl rfl (hb hby d_prog_82_method_4_213) _ ?_
    rw [len_of Sz116 Ng116]
    show own_S p e below T114 (mkF m 214 #[.val (.ref d1), .val (.ref x1), .val (.int (1 : Int32)), .val (.int (2 : Int32)), .val (.int (98 : Int32)), .val (.int (2 : Int32))] [(.int (16 : Int32)), (.int (4 : Int32))]) _
    refine XS.icmpYes X114.here hx rfl (pc0 := 214) (pc' := 221) rfl (hb hby d_prog_82_method_4_214) rfl (flt (by decide : ¬ ((16 : Int32) < (4 : Int32)))).2.2.2 (by decide) (by decide) ?_
    show own_S p e below T114 (mkF m 221 #[.val (.ref d1), .val (.ref x1), .val (.int (1 : Int32)), .val (.int (2 : Int32)), .val (.int (98 : Int32)), .val (.int (2 : Int32))] []) _
    refine XS.aloadN X114.here hx rfl (hb hby d_prog_82_method_4_221) rfl rfl ?_
    exact kt)
  obtain ⟨T118, X118, e118, st118⟩ := getF X114 hx hZ hown (host := "") (Or.inl (hw _ (List.mem_of_getElem? (i := 65) rfl))) Via.refl e114 f109 (g := (mkF m 222 #[.val (.ref d1), .val (.ref x1), .val (.int (1 : Int32)), .val (.int (2 : Int32)), .val (.int (98 : Int32)), .val (.int (2 : Int32))] [(.ref d1)])) rfl rfl (hb hby d_prog_82_method_4_222)
  have kn119 : ∀ t, own_S p e below T118 (mkF m 225 #[.val (.ref d1), .val (.ref x1), .val (.int (1 : Int32)), .val (.int (2 : Int32)), .val (.int (98 : Int32)), .val (.int (2 : Int32))] [(.int (2 : Int32))]) t → Gl t := fun t kt => kn117 t (st118 _ kt)
  have kn120 : ∀ t, own_S p e below T118 (mkF m 227 #[.val (.ref d1), .val (.ref x1), .val (.int (1 : Int32)), .val (.int (2 : Int32)), .val (.int (98 : Int32)), .val (.int (2 : Int32))] [(.int (1 : Int32))]) t → Gl t := fun t kt => kn119 t (by
    show own_S p e below T118 (mkF m 225 #[.val (.ref d1), .val (.ref x1), .val (.int (1 : Int32)), .val (.int (2 : Int32)), .val (.int (98 : Int32)), .val (.int (2 : Int32))] [(.int (2 : Int32))]) _
    refine XS.iconst X118.here hx rfl (hb hby d_prog_82_method_4_225) ?_
    show own_S p e below T118 (mkF m 226 #[.val (.ref d1), .val (.ref x1), .val (.int (1 : Int32)), .val (.int (2 : Int32)), .val (.int (98 : Int32)), .val (.int (2 : Int32))] [(.int (1 : Int32)), (.int (2 : Int32))]) _
    refine XS.isub X118.here hx rfl (hb hby d_prog_82_method_4_226) rfl ?_
    rw [(by decide : ((2 : Int32) - (1 : Int32)) = (1 : Int32))]
    exact kt)
  obtain ⟨fs, hr, hrun, hended, hW, hsame⟩ := X118.leave (v := some (.int (1 : Int32))) (fun h => by rw [Bd.returns] at h; cases h)
  refine ⟨_, _, hGl _ (kn120 _ (retI X118 hx Bd.returns (hb hby d_prog_82_method_4_227) hr)), hrun, hended, _, _, rfl, ?_, ⟨_, rfl⟩, hW, hsame.mono (by decide) (by decide)⟩
  show Q9_1 Z d1 x1 bB bE bH bS kB kE kH kS t1 k1 G1 G3 h0 n0 _ T118.heap _
  rw [e118]
  have f121 := ((f87.wr W88).wr W102)
  have f122 := ((((f23.other W60 (Or.inl ne_d1_bE)).other W76 (Or.inl ne_d1_bH)).other W88 (Or.inr (slot_ne (Or.inl (hw _ (List.mem_of_getElem? (i := 25) rfl))) (Or.inl (hw _ (List.mem_of_getElem? (i := 66) rfl))) (by decide) (t := (.array .byte)) (t' := .int) (by decide) (by decide)))).other W102 (Or.inl ne_d1_bS))
  have f123 := ((((f48.other W60 (Or.inl ne_d1_bE)).other W76 (Or.inl ne_d1_bH)).other W88 (Or.inr (slot_ne (Or.inl (hw _ (List.mem_of_getElem? (i := 28) rfl))) (Or.inl (hw _ (List.mem_of_getElem? (i := 66) rfl))) (by decide) (t := (.array .int)) (t' := .int) (by decide) (by decide)))).other W102 (Or.inl ne_d1_bS))
  have f124 := (((f67.other W76 (Or.inl ne_d1_bH)).other W88 (Or.inr (slot_ne (Or.inl (hw _ (List.mem_of_getElem? (i := 30) rfl))) (Or.inl (hw _ (List.mem_of_getElem? (i := 66) rfl))) (by decide) (t := (.array .int)) (t' := .int) (by decide) (by decide)))).other W102 (Or.inl ne_d1_bS))
  have f125 := ((((Vb17.other W60 ne_bB_bE).other W76 ne_bB_bH).other W88 (Ne.symm ne_d1_bB)).other W102 ne_bB_bS)
  have f126 := (((V60.other W76 ne_bE_bH).other W88 (Ne.symm ne_d1_bE)).other W102 ne_bE_bS)
  have f127 := ((V76.other W88 (Ne.symm ne_d1_bH)).other W102 ne_bH_bS)
  exact ⟨rfl, Nf106, K105, f121, f122, f123, f124, f113, f109, f125, f126, f127, V102⟩

theorem ef_rm9_2 (m : MethodId) (x0 : Addr) (x1 : Addr) : entryFrame m #[(.ref x0), (.ref x1)] 6 = mkF m 0 #[.val (.ref x0), .val (.ref x1), .unset, .unset, .unset, .unset] [] := by first | (simp [entryFrame, mkF, argsToLocals, Value.category]; done) | rfl
def Q9_2 (Z : State) (d1 : Addr) (x1 : Addr) (bB : Addr) (bE : Addr) (bH : Addr) (bS : Addr) (kB : ClassId) (kE : ClassId) (kH : ClassId) (kS : ClassId) (t1 : Addr) (k1 : ClassId) (G1 : Int32) (G3 : Value) (h0 : Heap) (n0 : Nat) (v : Option Value) (h : Heap) (L : List Loc) : Prop := v = some (.int (2 : Int32)) ∧ Fr n0 L ∧ Keep h0 h [d1, bB, bE, bH, bS] ∧ Exa Z h d1 "com/example/runs_to_scores/runstoscores/scoring/TopicDocnos" ∧ Fld Z h d1 "com/example/runs_to_scores/runstoscores/scoring/TopicDocnos" "bytes" "[B" (.ref bB) ∧ Fld Z h d1 "com/example/runs_to_scores/runstoscores/scoring/TopicDocnos" "ends" "[I" (.ref bE) ∧ Fld Z h d1 "com/example/runs_to_scores/runstoscores/scoring/TopicDocnos" "hashes" "[I" (.ref bH) ∧ Fld Z h d1 "com/example/runs_to_scores/runstoscores/scoring/TopicDocnos" "slots" "[I" (.ref bS) ∧ Fld Z h d1 "com/example/runs_to_scores/runstoscores/scoring/TopicDocnos" "size" "I" (.int (3 : Int32)) ∧ Arv Z h bB kB .byte (64 : Int32) ((.int (97 : Int32)) :: (.int (98 : Int32)) :: (.int (99 : Int32)) :: (.int (0 : Int32)) :: (.int (0 : Int32)) :: (.int (0 : Int32)) :: (.int (0 : Int32)) :: (.int (0 : Int32)) :: (.int (0 : Int32)) :: (.int (0 : Int32)) :: (.int (0 : Int32)) :: (.int (0 : Int32)) :: (.int (0 : Int32)) :: (.int (0 : Int32)) :: (.int (0 : Int32)) :: (.int (0 : Int32)) :: (.int (0 : Int32)) :: (.int (0 : Int32)) :: (.int (0 : Int32)) :: (.int (0 : Int32)) :: (.int (0 : Int32)) :: (.int (0 : Int32)) :: (.int (0 : Int32)) :: (.int (0 : Int32)) :: (.int (0 : Int32)) :: (.int (0 : Int32)) :: (.int (0 : Int32)) :: (.int (0 : Int32)) :: (.int (0 : Int32)) :: (.int (0 : Int32)) :: (.int (0 : Int32)) :: (.int (0 : Int32)) :: (.int (0 : Int32)) :: (.int (0 : Int32)) :: (.int (0 : Int32)) :: (.int (0 : Int32)) :: (.int (0 : Int32)) :: (.int (0 : Int32)) :: (.int (0 : Int32)) :: (.int (0 : Int32)) :: (.int (0 : Int32)) :: (.int (0 : Int32)) :: (.int (0 : Int32)) :: (.int (0 : Int32)) :: (.int (0 : Int32)) :: (.int (0 : Int32)) :: (.int (0 : Int32)) :: (.int (0 : Int32)) :: (.int (0 : Int32)) :: (.int (0 : Int32)) :: (.int (0 : Int32)) :: (.int (0 : Int32)) :: (.int (0 : Int32)) :: (.int (0 : Int32)) :: (.int (0 : Int32)) :: (.int (0 : Int32)) :: (.int (0 : Int32)) :: (.int (0 : Int32)) :: (.int (0 : Int32)) :: (.int (0 : Int32)) :: (.int (0 : Int32)) :: (.int (0 : Int32)) :: (.int (0 : Int32)) :: (.int (0 : Int32)) :: []) (.int (0 : Int32)) ∧ Arv Z h bE kE .int (8 : Int32) [(.int (1 : Int32)), (.int (2 : Int32)), (.int (3 : Int32)), (.int (0 : Int32)), (.int (0 : Int32)), (.int (0 : Int32)), (.int (0 : Int32)), (.int (0 : Int32))] (.int (0 : Int32)) ∧ Arv Z h bH kH .int (8 : Int32) [(.int (97 : Int32)), (.int (98 : Int32)), (.int (99 : Int32)), (.int (0 : Int32)), (.int (0 : Int32)), (.int (0 : Int32)), (.int (0 : Int32)), (.int (0 : Int32))] (.int (0 : Int32)) ∧ Arv Z h bS kS .int (16 : Int32) [(.int (0 : Int32)), (.int (1 : Int32)), (.int (2 : Int32)), (.int (3 : Int32)), (.int (0 : Int32)), (.int (0 : Int32)), (.int (0 : Int32)), (.int (0 : Int32)), (.int (0 : Int32)), (.int (0 : Int32)), (.int (0 : Int32)), (.int (0 : Int32)), (.int (0 : Int32)), (.int (0 : Int32)), (.int (0 : Int32)), (.int (0 : Int32))] (.int (0 : Int32))
set_option maxRecDepth 65536 in
set_option maxHeartbeats 40000000 in
theorem rm9_2 (l : Launch) (Z : State) (a0 : Array Value) (hw : ∀ d ∈ tables_1, d.before a0 Z = true) (ws : List Jvm.Cond) (d1 : Addr) (x1 : Addr) (bB : Addr) (bE : Addr) (bH : Addr) (bS : Addr) (kB : ClassId) (kE : ClassId) (kH : ClassId) (kS : ClassId) (t1 : Addr) (k1 : ClassId) (G1 : Int32) (G3 : Value) (h0 : Heap) (n0 : Nat) (Z0 : n0 ≤ h0.size) (ED : Exa Z h0 d1 "com/example/runs_to_scores/runstoscores/scoring/TopicDocnos") (FD0 : Fld Z h0 d1 "com/example/runs_to_scores/runstoscores/scoring/TopicDocnos" "bytes" "[B" (.ref bB)) (FD1 : Fld Z h0 d1 "com/example/runs_to_scores/runstoscores/scoring/TopicDocnos" "ends" "[I" (.ref bE)) (FD2 : Fld Z h0 d1 "com/example/runs_to_scores/runstoscores/scoring/TopicDocnos" "hashes" "[I" (.ref bH)) (FD3 : Fld Z h0 d1 "com/example/runs_to_scores/runstoscores/scoring/TopicDocnos" "slots" "[I" (.ref bS)) (FD4 : Fld Z h0 d1 "com/example/runs_to_scores/runstoscores/scoring/TopicDocnos" "size" "I" (.int (2 : Int32))) (AD0 : Arv Z h0 bB kB .byte (64 : Int32) ((.int (97 : Int32)) :: (.int (98 : Int32)) :: (.int (0 : Int32)) :: (.int (0 : Int32)) :: (.int (0 : Int32)) :: (.int (0 : Int32)) :: (.int (0 : Int32)) :: (.int (0 : Int32)) :: (.int (0 : Int32)) :: (.int (0 : Int32)) :: (.int (0 : Int32)) :: (.int (0 : Int32)) :: (.int (0 : Int32)) :: (.int (0 : Int32)) :: (.int (0 : Int32)) :: (.int (0 : Int32)) :: (.int (0 : Int32)) :: (.int (0 : Int32)) :: (.int (0 : Int32)) :: (.int (0 : Int32)) :: (.int (0 : Int32)) :: (.int (0 : Int32)) :: (.int (0 : Int32)) :: (.int (0 : Int32)) :: (.int (0 : Int32)) :: (.int (0 : Int32)) :: (.int (0 : Int32)) :: (.int (0 : Int32)) :: (.int (0 : Int32)) :: (.int (0 : Int32)) :: (.int (0 : Int32)) :: (.int (0 : Int32)) :: (.int (0 : Int32)) :: (.int (0 : Int32)) :: (.int (0 : Int32)) :: (.int (0 : Int32)) :: (.int (0 : Int32)) :: (.int (0 : Int32)) :: (.int (0 : Int32)) :: (.int (0 : Int32)) :: (.int (0 : Int32)) :: (.int (0 : Int32)) :: (.int (0 : Int32)) :: (.int (0 : Int32)) :: (.int (0 : Int32)) :: (.int (0 : Int32)) :: (.int (0 : Int32)) :: (.int (0 : Int32)) :: (.int (0 : Int32)) :: (.int (0 : Int32)) :: (.int (0 : Int32)) :: (.int (0 : Int32)) :: (.int (0 : Int32)) :: (.int (0 : Int32)) :: (.int (0 : Int32)) :: (.int (0 : Int32)) :: (.int (0 : Int32)) :: (.int (0 : Int32)) :: (.int (0 : Int32)) :: (.int (0 : Int32)) :: (.int (0 : Int32)) :: (.int (0 : Int32)) :: (.int (0 : Int32)) :: (.int (0 : Int32)) :: []) (.int (0 : Int32))) (AD1 : Arv Z h0 bE kE .int (8 : Int32) [(.int (1 : Int32)), (.int (2 : Int32)), (.int (0 : Int32)), (.int (0 : Int32)), (.int (0 : Int32)), (.int (0 : Int32)), (.int (0 : Int32)), (.int (0 : Int32))] (.int (0 : Int32))) (AD2 : Arv Z h0 bH kH .int (8 : Int32) [(.int (97 : Int32)), (.int (98 : Int32)), (.int (0 : Int32)), (.int (0 : Int32)), (.int (0 : Int32)), (.int (0 : Int32)), (.int (0 : Int32)), (.int (0 : Int32))] (.int (0 : Int32))) (AD3 : Arv Z h0 bS kS .int (16 : Int32) [(.int (0 : Int32)), (.int (1 : Int32)), (.int (2 : Int32)), (.int (0 : Int32)), (.int (0 : Int32)), (.int (0 : Int32)), (.int (0 : Int32)), (.int (0 : Int32)), (.int (0 : Int32)), (.int (0 : Int32)), (.int (0 : Int32)), (.int (0 : Int32)), (.int (0 : Int32)), (.int (0 : Int32)), (.int (0 : Int32)), (.int (0 : Int32))] (.int (0 : Int32))) (o1 : @LT.lt Nat _ d1 bB) (o2 : @LT.lt Nat _ bB bE) (o3 : @LT.lt Nat _ bE bH) (o4 : @LT.lt Nat _ bH bS) (g_d1 : n0 ≤ d1) (E_x1 : Exa Z h0 x1 "java/lang/String") (V_x1 : Fld Z h0 x1 "java/lang/String" "value" "[B" (.ref t1)) (C_x1 : Fld Z h0 x1 "java/lang/String" "coder" "B" (.int (0 : Int32))) (K_x1 : Arv Z h0 t1 k1 .byte (1 : Int32) ((([(99 : Int32)] : List Int32).map (fun c => c.toInt8.toInt32)).map Value.int) (.int (0 : Int32))) (hp_x1 : ∀ c ∈ ([(99 : Int32)] : List Int32), ¬ c < 0 ∧ ¬ (255 : Int32) < c) (nx : x1 ≠ bB) (nt : t1 ≠ bB) (O0 : Old Z n0 h0) (O2 : Sta Z Z.heap "java/lang/String" "COMPACT_STRINGS" "Z" (.int G1)) (P5 : ¬ (G1 = (0 : Int32))) (O4 : Sta Z Z.heap "jdk/internal/util/Preconditions" "SIOOBE_FORMATTER" "Ljava/util/function/BiFunction;" G3) (rG3 : G3.isRef = true) :
    MetFree l (⟨"com/example/runs_to_scores/runstoscores/scoring/TopicDocnos", "add", "(Ljava/lang/CharSequence;)I"⟩ : MethodName) (head1 (Jvm.Cond.code (⟨"com/example/runs_to_scores/runstoscores/scoring/TopicDocnos", "add", "(Ljava/lang/CharSequence;)I"⟩ : MethodName) prog_82_method_4_code 6 (some .int) :: ws) ({ frames := 5, cells := 0, slots := 0, locals := 69 } : Room)) (fun a U => a = #[(.ref d1), (.ref x1)] ∧ Z.Warmed39 U.vm ∧ U.heap = h0) (fun _ _ _ _ _ => True) (fun _ U o U' => ∃ v L, o = .returned v ∧ Q9_2 Z d1 x1 bB bE bH bS kB kE kH kS t1 k1 G1 G3 h0 n0 v U'.heap L ∧ FrameEnd U o U' L ({ frames := 5, cells := 0, slots := 0, locals := 69 } : Room).cells ({ frames := 5, cells := 0, slots := 0, locals := 69 } : Room).slots) := by
  refine MetFree.of_bodySF (plainFor_of_name pn_1) hisR ?_
  intro p e s m args below meth c s₁ Bd hml0 hP hK
  obtain ⟨rfl, hZ, hh⟩ := hP
  have hx := Bd.exec
  have hby := Bd.bytes
  have hml : c.maxLocals = 6 := hml0
  have hown : s.vm.findClass "com/example/runs_to_scores/runstoscores/scoring/TopicDocnos" = some m.cls := findClass_of_methodNamed Bd.named
  have hnm := (name_of_methodNamed Bd.named Bd.method).1
  have X0 : Stand p l e ({ frames := 5, cells := 0, slots := 0, locals := 69 } : Room) s m #[(.ref d1), (.ref x1)] below meth c s₁ [] 0 0 := Stand.of_body Bd
  have e0 : s₁.heap = h0 := by rw [← hh, Bd.state]; rfl
  have Nf0 := Fr.nil n0
  obtain ⟨Gl, hGl, kn0⟩ : ∃ Gl : State → Prop, (∀ t, Gl t → Steps p.tables e below (s₁.setTop (entryFrame m #[(.ref d1), (.ref x1)] 6)) t) ∧ ∀ t, own_S p e below s₁ (mkF m 0 #[.val (.ref d1), .val (.ref x1), .unset, .unset, .unset, .unset] []) t → Gl t := ⟨fun t => Steps p.tables e below (s₁.setTop (entryFrame m #[(.ref d1), (.ref x1)] 6)) t, fun _ k => k, fun t k => castTop (ef_rm9_2 m d1 x1) k⟩
  have ne_d1_bB : @Ne Nat d1 bB := by omega
  have ne_d1_bE : @Ne Nat d1 bE := by omega
  have ne_d1_bH : @Ne Nat d1 bH := by omega
  have ne_d1_bS : @Ne Nat d1 bS := by omega
  have ne_bB_bE : @Ne Nat bB bE := by omega
  have ne_bB_bH : @Ne Nat bB bH := by omega
  have ne_bB_bS : @Ne Nat bB bS := by omega
  have ne_bE_bH : @Ne Nat bE bH := by omega
  have ne_bE_bS : @Ne Nat bE bS := by omega
  have ne_bH_bS : @Ne Nat bH bS := by omega
  have g_bB : n0 ≤ bB := by omega
  have g_bE : n0 ≤ bE := by omega
  have g_bH : n0 ≤ bH := by omega
  have g_bS : n0 ≤ bS := by omega
  have kn1 : ∀ t, own_S p e below s₁ (mkF m 2 #[.val (.ref d1), .val (.ref x1), .unset, .unset, .unset, .unset] [(.ref d1), (.ref d1)]) t → Gl t := fun t kt => kn0 t (by
    show own_S p e below s₁ (mkF m 0 #[.val (.ref d1), .val (.ref x1), .unset, .unset, .unset, .unset] []) _
    refine XS.aloadN X0.here hx rfl (hb hby d_prog_82_method_4_0) rfl rfl ?_
    show own_S p e below s₁ (mkF m 1 #[.val (.ref d1), .val (.ref x1), .unset, .unset, .unset, .unset] [(.ref d1)]) _
    refine XS.aloadN X0.here hx rfl (hb hby d_prog_82_method_4_1) rfl rfl ?_
    exact kt)
  obtain ⟨T2, X2, e2, st2⟩ := getF X0 hx hZ hown (host := "") (Or.inl (hw _ (List.mem_of_getElem? (i := 65) rfl))) Via.refl e0 FD4 (g := (mkF m 2 #[.val (.ref d1), .val (.ref x1), .unset, .unset, .unset, .unset] [(.ref d1), (.ref d1)])) rfl rfl (hb hby d_prog_82_method_4_2)
  have kn3 : ∀ t, own_S p e below T2 (mkF m 5 #[.val (.ref d1), .val (.ref x1), .unset, .unset, .unset, .unset] [(.int (2 : Int32)), (.ref d1)]) t → Gl t := fun t kt => kn1 t (st2 _ kt)
  obtain ⟨cq4, qa4, qb4⟩ := ED.cell
  obtain ⟨_, _, ⟨T4, L4, cc4, ss4⟩, -, X4, ⟨Lc4, hQ4, l4, y4, z4⟩, st4⟩ := X2.privateBack hx (y := (⟨"com/example/runs_to_scores/runstoscores/scoring/TopicDocnos", "start", "(I)I"⟩ : MethodName)) hown (mvT hZ (hw _ (List.mem_of_getElem? (i := 67) rfl))) (mvT hZ (hw _ (List.mem_of_getElem? (i := 68) rfl))) (own_selP (z := (⟨"com/example/runs_to_scores/runstoscores/scoring/TopicDocnos", "add", "(Ljava/lang/CharSequence;)I"⟩ : MethodName)) rfl (mvT hZ (hw _ (List.mem_of_getElem? (i := 63) rfl))) (Cond.privateMethod_at (mvP hZ (hw _ (List.mem_of_getElem? (i := 69) rfl)) (args := #[]))) (mvT hZ (hw _ (List.mem_of_getElem? (i := 68) rfl))) (by decide)) (Cond.privateMethod_at (mvP hZ (hw _ (List.mem_of_getElem? (i := 69) rfl)) (args := #[]))) (mvT hZ (hw _ (List.mem_of_getElem? (i := 70) rfl))) (by decide) (backOf (W := 0) (rm10_2 l Z a0 hw [] d1 bE kE h0 n0 Z0 FD1 AD1) hZ (hw _ (List.mem_of_getElem? (i := 70) rfl)) (hw _ (List.mem_of_getElem? (i := 11) rfl)) (by decide) (by decide)) (g := (mkF m 5 #[.val (.ref d1), .val (.ref x1), .unset, .unset, .unset, .unset] [(.int (2 : Int32)), (.ref d1)])) rfl (by rw [hml]; rfl) (Steps.refl _) (a := d1) (by rw [e2]; exact qa4) qb4 (argsL := [(.int (2 : Int32))]) (rest := []) (lenOf pd_0 rfl) rfl (by show 2 * 0 + _ ≤ _; exact Nat.le_of_eq rfl) (hb hby d_prog_82_method_4_5) (fun _ _ => ⟨rfl, e2, (by decide : 0 + 0 ≤ _), (by decide : 0 + 0 ≤ _)⟩)
  dsimp only [Pt.U, Pt.locs, Pt.cells, Pt.slots] at X4 l4 y4 z4 st4 hQ4
  subst l4 y4 z4
  obtain ⟨rfl, Nq4, eq4⟩ := hQ4
  have Nf4 := Fr.app Nf0 Nq4
  have kn5 : ∀ t, own_S p e below T4 (mkF m 8 #[.val (.ref d1), .val (.ref x1), .unset, .unset, .unset, .unset] [(.int (2 : Int32))]) t → Gl t := fun t kt => kn3 t (st4.trans kt)
  have kn6 : ∀ t, own_S p e below T4 (mkF m 11 #[.val (.ref d1), .val (.ref x1), .val (.int (2 : Int32)), .unset, .unset, .unset] [(.ref x1), (.int (2 : Int32))]) t → Gl t := fun t kt => kn5 t (by
    show own_S p e below T4 (mkF m 8 #[.val (.ref d1), .val (.ref x1), .unset, .unset, .unset, .unset] [(.int (2 : Int32))]) _
    refine XS.istoreN X4.here hx rfl (hb hby d_prog_82_method_4_8) rfl (l' := #[.val (.ref d1), .val (.ref x1), .val (.int (2 : Int32)), .unset, .unset, .unset]) rfl ?_
    show own_S p e below T4 (mkF m 9 #[.val (.ref d1), .val (.ref x1), .val (.int (2 : Int32)), .unset, .unset, .unset] []) _
    refine XS.iloadN X4.here hx rfl (hb hby d_prog_82_method_4_9) rfl ?_
    show own_S p e below T4 (mkF m 10 #[.val (.ref d1), .val (.ref x1), .val (.int (2 : Int32)), .unset, .unset, .unset] [(.int (2 : Int32))]) _
    refine XS.aloadN X4.here hx rfl (hb hby d_prog_82_method_4_10) rfl rfl ?_
    exact kt)
  have hln : ∀ d ∈ StrChars.Road.wordsLen, d.before a0 Z = true := fun d hd => hw d ((by decide +kernel : ∀ d ∈ StrChars.Road.wordsLen, d ∈ tables_1) d hd)
  have hcd_x1 : StrChars.Road.CodA ([(99 : Int32)] : List Int32) 0 (1 : Int32) ((([(99 : Int32)] : List Int32).map (fun c => c.toInt8.toInt32)).map Value.int) := StrChars.Road.codOf (n := 1) rfl (fun x hx => (hp_x1 x hx).2)
  have hbd_x1 : ∀ x ∈ ([(99 : Int32)] : List Int32), ¬ x < 0 ∧ ¬ (65535 : Int32) < x := own_up _ hp_x1
  obtain ⟨cq7, kq7, qa7, qb7, qc7⟩ := isOf hZ eq4 E_x1
  obtain ⟨_, _, ⟨T7, L7, cc7, ss7⟩, -, X7, ⟨Lc7, hQ7, l7, y7, z7⟩, st7⟩ := X4.interfaceBack hx (xi := (⟨"java/lang/CharSequence", "length", "()I"⟩ : MethodName)) (y := (⟨"java/lang/String", "length", "()I"⟩ : MethodName)) hown (mvT hZ (hw _ (List.mem_of_getElem? (i := 71) rfl))) (mvT hZ (hw _ (List.mem_of_getElem? (i := 72) rfl))) (mvT hZ (hw _ (List.mem_of_getElem? (i := 73) rfl))) (mvT hZ (hw _ (List.mem_of_getElem? (i := 74) rfl))) (mvT hZ (hw _ (List.mem_of_getElem? (i := 75) rfl))) (mvT hZ (hw _ (List.mem_of_getElem? (i := 76) rfl))) (mvT hZ (hw _ (List.mem_of_getElem? (i := 77) rfl))) (mvT hZ (hw _ (List.mem_of_getElem? (i := 78) rfl))) (by decide) (StrChars.Road.lenW (W := 1) hZ hln (kI := 4) (hw _ (List.mem_of_getElem? (i := 50) rfl)) E_x1 V_x1 C_x1 K_x1 hcd_x1 hbd_x1 (O2.ext O0.2) P5 (Nat.le_of_ble_eq_true rfl) (by decide) (by decide)) qa7 qb7 qc7 (g := (mkF m 11 #[.val (.ref d1), .val (.ref x1), .val (.int (2 : Int32)), .unset, .unset, .unset] [(.ref x1), (.int (2 : Int32))])) rfl (by rw [hml]; rfl) (Steps.refl _) (argsL := []) (rest := [(.int (2 : Int32))]) (lenOf pd_4 rfl) rfl (by show 2 * 0 + _ ≤ _; exact Nat.le_of_eq rfl) (hb hby d_prog_82_method_4_11) (fun _ _ => ⟨rfl, eq4, (by decide : 0 + 0 ≤ _), (by decide : 0 + 0 ≤ _)⟩)
  dsimp only [Pt.U, Pt.locs, Pt.cells, Pt.slots] at X7 l7 y7 z7 st7 hQ7
  subst l7 y7 z7
  obtain ⟨rfl, rfl, eq7⟩ := hQ7
  have Nq7 : Fr n0 ([] : List Loc) := Fr.nil n0
  have Nf7 := Fr.app Nf4 Nq7
  have kn8 : ∀ t, own_S p e below T7 (mkF m 16 #[.val (.ref d1), .val (.ref x1), .val (.int (2 : Int32)), .unset, .unset, .unset] [(.int (1 : Int32)), (.int (2 : Int32))]) t → Gl t := fun t kt => kn6 t (st7.trans kt)
  have kn9 : ∀ t, own_S p e below T7 (mkF m 20 #[.val (.ref d1), .val (.ref x1), .val (.int (2 : Int32)), .val (.int (3 : Int32)), .unset, .unset] [(.ref d1), (.int (3 : Int32))]) t → Gl t := fun t kt => kn8 t (by
    show own_S p e below T7 (mkF m 16 #[.val (.ref d1), .val (.ref x1), .val (.int (2 : Int32)), .unset, .unset, .unset] [(.int (1 : Int32)), (.int (2 : Int32))]) _
    refine XS.iadd X7.here hx rfl (hb hby d_prog_82_method_4_16) rfl ?_
    rw [(by decide : ((2 : Int32) + (1 : Int32)) = (3 : Int32))]
    show own_S p e below T7 (mkF m 17 #[.val (.ref d1), .val (.ref x1), .val (.int (2 : Int32)), .unset, .unset, .unset] [(.int (3 : Int32))]) _
    refine XS.istoreN X7.here hx rfl (hb hby d_prog_82_method_4_17) rfl (l' := #[.val (.ref d1), .val (.ref x1), .val (.int (2 : Int32)), .val (.int (3 : Int32)), .unset, .unset]) rfl ?_
    show own_S p e below T7 (mkF m 18 #[.val (.ref d1), .val (.ref x1), .val (.int (2 : Int32)), .val (.int (3 : Int32)), .unset, .unset] []) _
    refine XS.iloadN X7.here hx rfl (hb hby d_prog_82_method_4_18) rfl ?_
    show own_S p e below T7 (mkF m 19 #[.val (.ref d1), .val (.ref x1), .val (.int (2 : Int32)), .val (.int (3 : Int32)), .unset, .unset] [(.int (3 : Int32))]) _
    refine XS.aloadN X7.here hx rfl (hb hby d_prog_82_method_4_19) rfl rfl ?_
    exact kt)
  obtain ⟨T10, X10, e10, st10⟩ := getF X7 hx hZ hown (host := "") (Or.inl (hw _ (List.mem_of_getElem? (i := 24) rfl))) Via.refl eq7 FD0 (g := (mkF m 20 #[.val (.ref d1), .val (.ref x1), .val (.int (2 : Int32)), .val (.int (3 : Int32)), .unset, .unset] [(.ref d1), (.int (3 : Int32))])) rfl rfl (hb hby d_prog_82_method_4_20)
  have kn11 : ∀ t, own_S p e below T10 (mkF m 23 #[.val (.ref d1), .val (.ref x1), .val (.int (2 : Int32)), .val (.int (3 : Int32)), .unset, .unset] [(.ref bB), (.int (3 : Int32))]) t → Gl t := fun t kt => kn9 t (st10 _ kt)
  obtain ⟨cl12, Ar12, -, Sz12, Ng12, -, -⟩ := id AD0
  have kn13 : ∀ t, own_S p e below T10 (mkF m 51 #[.val (.ref d1), .val (.ref x1), .val (.int (2 : Int32)), .val (.int (3 : Int32)), .unset, .unset] [(.ref d1), (.ref x1)]) t → Gl t := fun t kt => kn11 t (by
    show own_S p e below T10 (mkF m 23 #[.val (.ref d1), .val (.ref x1), .val (.int (2 : Int32)), .val (.int (3 : Int32)), .unset, .unset] [(.ref bB), (.int (3 : Int32))]) _
    refine X10.arraylength hx (by rw [e10]; exact Ar12.1) (State.isArrayOf_alike hZ.alike Ar12.2.1) (g := (mkF m 23 #[.val (.ref d1), .val (.ref x1), .val (.int (2 : Int32)), .val (.int (3 : Int32)), .unset, .unset] [(.ref bB), (.int (3 : Int32))])) rfl rfl (hb hby d_prog_82_method_4_23) _ ?_
    rw [len_of Sz12 Ng12]
    show own_S p e below T10 (mkF m 24 #[.val (.ref d1), .val (.ref x1), .val (.int (2 : Int32)), .val (.int (3 : Int32)), .unset, .unset] [(.int (64 : Int32)), (.int (3 : Int32))]) _
    refine XS.icmpYes X10.here hx rfl (pc0 := 24) (pc' := 49) rfl (hb hby d_prog_82_method_4_24) rfl (flt (by decide : ¬ ((64 : Int32) < (3 : Int32)))).2.2.2 (by decide) (by decide) ?_
    show own_S p e below T10 (mkF m 49 #[.val (.ref d1), .val (.ref x1), .val (.int (2 : Int32)), .val (.int (3 : Int32)), .unset, .unset] []) _
    refine XS.aloadN X10.here hx rfl (hb hby d_prog_82_method_4_49) rfl rfl ?_
    show own_S p e below T10 (mkF m 50 #[.val (.ref d1), .val (.ref x1), .val (.int (2 : Int32)), .val (.int (3 : Int32)), .unset, .unset] [(.ref x1)]) _
    refine XS.aloadN X10.here hx rfl (hb hby d_prog_82_method_4_50) rfl rfl ?_
    exact kt)
  obtain ⟨T14, X14, e14, st14⟩ := getF X10 hx hZ hown (host := "") (Or.inl (hw _ (List.mem_of_getElem? (i := 24) rfl))) Via.refl e10 FD0 (g := (mkF m 51 #[.val (.ref d1), .val (.ref x1), .val (.int (2 : Int32)), .val (.int (3 : Int32)), .unset, .unset] [(.ref d1), (.ref x1)])) rfl rfl (hb hby d_prog_82_method_4_51)
  have kn15 : ∀ t, own_S p e below T14 (mkF m 54 #[.val (.ref d1), .val (.ref x1), .val (.int (2 : Int32)), .val (.int (3 : Int32)), .unset, .unset] [(.ref bB), (.ref x1)]) t → Gl t := fun t kt => kn13 t (st14 _ kt)
  have kn16 : ∀ t, own_S p e below T14 (mkF m 55 #[.val (.ref d1), .val (.ref x1), .val (.int (2 : Int32)), .val (.int (3 : Int32)), .unset, .unset] [(.int (2 : Int32)), (.ref bB), (.ref x1)]) t → Gl t := fun t kt => kn15 t (by
    show own_S p e below T14 (mkF m 54 #[.val (.ref d1), .val (.ref x1), .val (.int (2 : Int32)), .val (.int (3 : Int32)), .unset, .unset] [(.ref bB), (.ref x1)]) _
    refine XS.iloadN X14.here hx rfl (hb hby d_prog_82_method_4_54) rfl ?_
    exact kt)
  obtain ⟨_, _, ⟨T17, L17, cc17, ss17⟩, -, X17, ⟨Lc17, hQ17, l17, y17, z17⟩, st17⟩ := Jvm.LawKit.callS X14 hx (y := (⟨"com/example/runs_to_scores/runstoscores/scoring/TopicDocnos", "write", "(Ljava/lang/CharSequence;[BI)Z"⟩ : MethodName)) hown (mvT hZ (hw _ (List.mem_of_getElem? (i := 88) rfl))) (mvT hZ (hw _ (List.mem_of_getElem? (i := 89) rfl))) (mvT hZ (hw _ (List.mem_of_getElem? (i := 11) rfl))) (mvT hZ (hw _ (List.mem_of_getElem? (i := 90) rfl))) (by decide) (backOf (W := 0) (rm13_2 l Z a0 hw [] x1 bB kB t1 k1 G1 G3 h0 n0 Z0 E_x1 V_x1 C_x1 K_x1 hp_x1 AD0 g_bB nx nt O0 O2 P5 O4 rG3) hZ (hw _ (List.mem_of_getElem? (i := 90) rfl)) (hw _ (List.mem_of_getElem? (i := 11) rfl)) (by decide) (by decide)) (g := (mkF m 55 #[.val (.ref d1), .val (.ref x1), .val (.int (2 : Int32)), .val (.int (3 : Int32)), .unset, .unset] [(.int (2 : Int32)), (.ref bB), (.ref x1)])) rfl (by rw [hml]; rfl) (argsL := [(.ref x1), (.ref bB), (.int (2 : Int32))]) (rest := []) (lenOf pd_6 rfl) rfl (by show 2 * 0 + _ ≤ _; exact Nat.le_of_eq rfl) (hb hby d_prog_82_method_4_55) (fun _ _ => ⟨rfl, e14, (by decide : 0 + 0 ≤ _), (by decide : 0 + 0 ≤ _)⟩)
  dsimp only [Pt.U, Pt.locs, Pt.cells, Pt.slots] at X17 l17 y17 z17 st17 hQ17
  subst l17 y17 z17
  obtain ⟨rfl, Nq17, K17, Vb17⟩ := hQ17
  have Nf17 := Fr.app Nf7 Nq17
  have Z18 : n0 ≤ T17.heap.size := Nat.le_trans Z0 K17.1
  have O19 : Old Z n0 T17.heap := O0.keep K17 (allS g_bB all0)
  have K20 : Keep h0 T17.heap [d1, bB, bE, bH, bS] := (Keep.refl h0 [d1, bB, bE, bH, bS]).trans K17 (allS (Or.inl (List.mem_of_getElem? (i := 1) rfl)) all0)
  have kn21 : ∀ t, own_S p e below T17 (mkF m 58 #[.val (.ref d1), .val (.ref x1), .val (.int (2 : Int32)), .val (.int (3 : Int32)), .unset, .unset] [(.int (1 : Int32))]) t → Gl t := fun t kt => kn16 t (st17 _ kt)
  have kn22 : ∀ t, own_S p e below T17 (mkF m 79 #[.val (.ref d1), .val (.ref x1), .val (.int (2 : Int32)), .val (.int (3 : Int32)), .unset, .unset] [(.ref d1)]) t → Gl t := fun t kt => kn21 t (by
    show own_S p e below T17 (mkF m 58 #[.val (.ref d1), .val (.ref x1), .val (.int (2 : Int32)), .val (.int (3 : Int32)), .unset, .unset] [(.int (1 : Int32))]) _
    refine XS.ifYes X17.here hx rfl (pc0 := 58) (pc' := 78) rfl (hb hby d_prog_82_method_4_58) rfl ((if0 _ _).trans (feq (by decide : ¬ ((1 : Int32) = (0 : Int32)))).2) (by decide) (by decide) ?_
    show own_S p e below T17 (mkF m 78 #[.val (.ref d1), .val (.ref x1), .val (.int (2 : Int32)), .val (.int (3 : Int32)), .unset, .unset] []) _
    refine XS.aloadN X17.here hx rfl (hb hby d_prog_82_method_4_78) rfl rfl ?_
    exact kt)
  have f23 := (FD0.keep K17 (ninS ne_d1_bB nin0))
  obtain ⟨T24, X24, e24, st24⟩ := getF X17 hx hZ hown (host := "") (Or.inl (hw _ (List.mem_of_getElem? (i := 24) rfl))) Via.refl rfl f23 (g := (mkF m 79 #[.val (.ref d1), .val (.ref x1), .val (.int (2 : Int32)), .val (.int (3 : Int32)), .unset, .unset] [(.ref d1)])) rfl rfl (hb hby d_prog_82_method_4_79)
  have kn25 : ∀ t, own_S p e below T24 (mkF m 82 #[.val (.ref d1), .val (.ref x1), .val (.int (2 : Int32)), .val (.int (3 : Int32)), .unset, .unset] [(.ref bB)]) t → Gl t := fun t kt => kn22 t (st24 _ kt)
  have kn26 : ∀ t, own_S p e below T24 (mkF m 84 #[.val (.ref d1), .val (.ref x1), .val (.int (2 : Int32)), .val (.int (3 : Int32)), .unset, .unset] [(.int (3 : Int32)), (.int (2 : Int32)), (.ref bB)]) t → Gl t := fun t kt => kn25 t (by
    show own_S p e below T24 (mkF m 82 #[.val (.ref d1), .val (.ref x1), .val (.int (2 : Int32)), .val (.int (3 : Int32)), .unset, .unset] [(.ref bB)]) _
    refine XS.iloadN X24.here hx rfl (hb hby d_prog_82_method_4_82) rfl ?_
    show own_S p e below T24 (mkF m 83 #[.val (.ref d1), .val (.ref x1), .val (.int (2 : Int32)), .val (.int (3 : Int32)), .unset, .unset] [(.int (2 : Int32)), (.ref bB)]) _
    refine XS.iloadN X24.here hx rfl (hb hby d_prog_82_method_4_83) rfl ?_
    exact kt)
  obtain ⟨_, _, ⟨T27, L27, cc27, ss27⟩, -, X27, ⟨Lc27, hQ27, l27, y27, z27⟩, st27⟩ := Jvm.LawKit.callS X24 hx (y := (⟨"com/example/runs_to_scores/runstoscores/scoring/TopicDocnos", "hash", "([BII)I"⟩ : MethodName)) hown (mvT hZ (hw _ (List.mem_of_getElem? (i := 116) rfl))) (mvT hZ (hw _ (List.mem_of_getElem? (i := 117) rfl))) (mvT hZ (hw _ (List.mem_of_getElem? (i := 11) rfl))) (mvT hZ (hw _ (List.mem_of_getElem? (i := 118) rfl))) (by decide) (backOf (W := 0) (rm19_2 l Z a0 hw [] bB kB T17.heap n0 Z18 Vb17) hZ (hw _ (List.mem_of_getElem? (i := 118) rfl)) (hw _ (List.mem_of_getElem? (i := 11) rfl)) (by decide) (by decide)) (g := (mkF m 84 #[.val (.ref d1), .val (.ref x1), .val (.int (2 : Int32)), .val (.int (3 : Int32)), .unset, .unset] [(.int (3 : Int32)), (.int (2 : Int32)), (.ref bB)])) rfl (by rw [hml]; rfl) (argsL := [(.ref bB), (.int (2 : Int32)), (.int (3 : Int32))]) (rest := []) (lenOf pd_7 rfl) rfl (by show 2 * 0 + _ ≤ _; exact Nat.le_of_eq rfl) (hb hby d_prog_82_method_4_84) (fun _ _ => ⟨rfl, e24, (by decide : 0 + 0 ≤ _), (by decide : 0 + 0 ≤ _)⟩)
  dsimp only [Pt.U, Pt.locs, Pt.cells, Pt.slots] at X27 l27 y27 z27 st27 hQ27
  subst l27 y27 z27
  obtain ⟨rfl, Nq27, eq27⟩ := hQ27
  have Nf27 := Fr.app Nf17 Nq27
  have kn28 : ∀ t, own_S p e below T27 (mkF m 87 #[.val (.ref d1), .val (.ref x1), .val (.int (2 : Int32)), .val (.int (3 : Int32)), .unset, .unset] [(.int (99 : Int32))]) t → Gl t := fun t kt => kn26 t (st27 _ kt)
  have kn29 : ∀ t, own_S p e below T27 (mkF m 91 #[.val (.ref d1), .val (.ref x1), .val (.int (2 : Int32)), .val (.int (3 : Int32)), .val (.int (99 : Int32)), .unset] [(.ref d1), (.ref d1)]) t → Gl t := fun t kt => kn28 t (by
    show own_S p e below T27 (mkF m 87 #[.val (.ref d1), .val (.ref x1), .val (.int (2 : Int32)), .val (.int (3 : Int32)), .unset, .unset] [(.int (99 : Int32))]) _
    refine XS.istore X27.here hx rfl (hb hby d_prog_82_method_4_87) rfl (l' := #[.val (.ref d1), .val (.ref x1), .val (.int (2 : Int32)), .val (.int (3 : Int32)), .val (.int (99 : Int32)), .unset]) rfl ?_
    show own_S p e below T27 (mkF m 89 #[.val (.ref d1), .val (.ref x1), .val (.int (2 : Int32)), .val (.int (3 : Int32)), .val (.int (99 : Int32)), .unset] []) _
    refine XS.aloadN X27.here hx rfl (hb hby d_prog_82_method_4_89) rfl rfl ?_
    show own_S p e below T27 (mkF m 90 #[.val (.ref d1), .val (.ref x1), .val (.int (2 : Int32)), .val (.int (3 : Int32)), .val (.int (99 : Int32)), .unset] [(.ref d1)]) _
    refine XS.aloadN X27.here hx rfl (hb hby d_prog_82_method_4_90) rfl rfl ?_
    exact kt)
  obtain ⟨T30, X30, e30, st30⟩ := getF X27 hx hZ hown (host := "") (Or.inl (hw _ (List.mem_of_getElem? (i := 24) rfl))) Via.refl eq27 f23 (g := (mkF m 91 #[.val (.ref d1), .val (.ref x1), .val (.int (2 : Int32)), .val (.int (3 : Int32)), .val (.int (99 : Int32)), .unset] [(.ref d1), (.ref d1)])) rfl rfl (hb hby d_prog_82_method_4_91)
  have kn31 : ∀ t, own_S p e below T30 (mkF m 94 #[.val (.ref d1), .val (.ref x1), .val (.int (2 : Int32)), .val (.int (3 : Int32)), .val (.int (99 : Int32)), .unset] [(.ref bB), (.ref d1)]) t → Gl t := fun t kt => kn29 t (st30 _ kt)
  have kn32 : ∀ t, own_S p e below T30 (mkF m 98 #[.val (.ref d1), .val (.ref x1), .val (.int (2 : Int32)), .val (.int (3 : Int32)), .val (.int (99 : Int32)), .unset] [(.int (99 : Int32)), (.int (3 : Int32)), (.int (2 : Int32)), (.ref bB), (.ref d1)]) t → Gl t := fun t kt => kn31 t (by
    show own_S p e below T30 (mkF m 94 #[.val (.ref d1), .val (.ref x1), .val (.int (2 : Int32)), .val (.int (3 : Int32)), .val (.int (99 : Int32)), .unset] [(.ref bB), (.ref d1)]) _
    refine XS.iloadN X30.here hx rfl (hb hby d_prog_82_method_4_94) rfl ?_
    show own_S p e below T30 (mkF m 95 #[.val (.ref d1), .val (.ref x1), .val (.int (2 : Int32)), .val (.int (3 : Int32)), .val (.int (99 : Int32)), .unset] [(.int (2 : Int32)), (.ref bB), (.ref d1)]) _
    refine XS.iloadN X30.here hx rfl (hb hby d_prog_82_method_4_95) rfl ?_
    show own_S p e below T30 (mkF m 96 #[.val (.ref d1), .val (.ref x1), .val (.int (2 : Int32)), .val (.int (3 : Int32)), .val (.int (99 : Int32)), .unset] [(.int (3 : Int32)), (.int (2 : Int32)), (.ref bB), (.ref d1)]) _
    refine XS.iload X30.here hx rfl (hb hby d_prog_82_method_4_96) rfl ?_
    exact kt)
  have f34 := (FD3.keep K17 (ninS ne_d1_bB nin0))
  have f35 := (AD3.keep K17 (ninS (Ne.symm ne_bB_bS) nin0))
  have f36 := (ED.keep K17)
  obtain ⟨cq33, qa33, qb33⟩ := f36.cell
  obtain ⟨_, _, ⟨T33, L33, cc33, ss33⟩, -, X33, ⟨Lc33, hQ33, l33, y33, z33⟩, st33⟩ := X30.privateBack hx (y := (⟨"com/example/runs_to_scores/runstoscores/scoring/TopicDocnos", "slotOf", "([BIII)I"⟩ : MethodName)) hown (mvT hZ (hw _ (List.mem_of_getElem? (i := 119) rfl))) (mvT hZ (hw _ (List.mem_of_getElem? (i := 120) rfl))) (own_selP (z := (⟨"com/example/runs_to_scores/runstoscores/scoring/TopicDocnos", "add", "(Ljava/lang/CharSequence;)I"⟩ : MethodName)) rfl (mvT hZ (hw _ (List.mem_of_getElem? (i := 63) rfl))) (Cond.privateMethod_at (mvP hZ (hw _ (List.mem_of_getElem? (i := 121) rfl)) (args := #[]))) (mvT hZ (hw _ (List.mem_of_getElem? (i := 120) rfl))) (by decide)) (Cond.privateMethod_at (mvP hZ (hw _ (List.mem_of_getElem? (i := 121) rfl)) (args := #[]))) (mvT hZ (hw _ (List.mem_of_getElem? (i := 122) rfl))) (by decide) (backOf (W := 0) (rm20_2 l Z a0 hw [] d1 bB bS kS T17.heap n0 Z18 f34 f35) hZ (hw _ (List.mem_of_getElem? (i := 122) rfl)) (hw _ (List.mem_of_getElem? (i := 11) rfl)) (by decide) (by decide)) (g := (mkF m 98 #[.val (.ref d1), .val (.ref x1), .val (.int (2 : Int32)), .val (.int (3 : Int32)), .val (.int (99 : Int32)), .unset] [(.int (99 : Int32)), (.int (3 : Int32)), (.int (2 : Int32)), (.ref bB), (.ref d1)])) rfl (by rw [hml]; rfl) (Steps.refl _) (a := d1) (by rw [e30]; exact qa33) qb33 (argsL := [(.ref bB), (.int (2 : Int32)), (.int (3 : Int32)), (.int (99 : Int32))]) (rest := []) (lenOf pd_8 rfl) rfl (by show 2 * 0 + _ ≤ _; exact Nat.le_of_eq rfl) (hb hby d_prog_82_method_4_98) (fun _ _ => ⟨rfl, e30, (by decide : 0 + 0 ≤ _), (by decide : 0 + 0 ≤ _)⟩)
  dsimp only [Pt.U, Pt.locs, Pt.cells, Pt.slots] at X33 l33 y33 z33 st33 hQ33
  subst l33 y33 z33
  obtain ⟨rfl, Nq33, eq33⟩ := hQ33
  have Nf33 := Fr.app Nf27 Nq33
  have kn37 : ∀ t, own_S p e below T33 (mkF m 101 #[.val (.ref d1), .val (.ref x1), .val (.int (2 : Int32)), .val (.int (3 : Int32)), .val (.int (99 : Int32)), .unset] [(.int (3 : Int32))]) t → Gl t := fun t kt => kn32 t (st33.trans kt)
  have kn38 : ∀ t, own_S p e below T33 (mkF m 104 #[.val (.ref d1), .val (.ref x1), .val (.int (2 : Int32)), .val (.int (3 : Int32)), .val (.int (99 : Int32)), .val (.int (3 : Int32))] [(.ref d1)]) t → Gl t := fun t kt => kn37 t (by
    show own_S p e below T33 (mkF m 101 #[.val (.ref d1), .val (.ref x1), .val (.int (2 : Int32)), .val (.int (3 : Int32)), .val (.int (99 : Int32)), .unset] [(.int (3 : Int32))]) _
    refine XS.istore X33.here hx rfl (hb hby d_prog_82_method_4_101) rfl (l' := #[.val (.ref d1), .val (.ref x1), .val (.int (2 : Int32)), .val (.int (3 : Int32)), .val (.int (99 : Int32)), .val (.int (3 : Int32))]) rfl ?_
    show own_S p e below T33 (mkF m 103 #[.val (.ref d1), .val (.ref x1), .val (.int (2 : Int32)), .val (.int (3 : Int32)), .val (.int (99 : Int32)), .val (.int (3 : Int32))] []) _
    refine XS.aloadN X33.here hx rfl (hb hby d_prog_82_method_4_103) rfl rfl ?_
    exact kt)
  obtain ⟨T39, X39, e39, st39⟩ := getF X33 hx hZ hown (host := "") (Or.inl (hw _ (List.mem_of_getElem? (i := 40) rfl))) Via.refl eq33 f34 (g := (mkF m 104 #[.val (.ref d1), .val (.ref x1), .val (.int (2 : Int32)), .val (.int (3 : Int32)), .val (.int (99 : Int32)), .val (.int (3 : Int32))] [(.ref d1)])) rfl rfl (hb hby d_prog_82_method_4_104)
  have kn40 : ∀ t, own_S p e below T39 (mkF m 107 #[.val (.ref d1), .val (.ref x1), .val (.int (2 : Int32)), .val (.int (3 : Int32)), .val (.int (99 : Int32)), .val (.int (3 : Int32))] [(.ref bS)]) t → Gl t := fun t kt => kn38 t (st39 _ kt)
  have kn41 : ∀ t, own_S p e below T39 (mkF m 109 #[.val (.ref d1), .val (.ref x1), .val (.int (2 : Int32)), .val (.int (3 : Int32)), .val (.int (99 : Int32)), .val (.int (3 : Int32))] [(.int (3 : Int32)), (.ref bS)]) t → Gl t := fun t kt => kn40 t (by
    show own_S p e below T39 (mkF m 107 #[.val (.ref d1), .val (.ref x1), .val (.int (2 : Int32)), .val (.int (3 : Int32)), .val (.int (99 : Int32)), .val (.int (3 : Int32))] [(.ref bS)]) _
    refine XS.iload X39.here hx rfl (hb hby d_prog_82_method_4_107) rfl ?_
    exact kt)
  obtain ⟨cl42, Ar42, q42, Sz42, Ng42, Hs42, Gs42⟩ := id f35
  have hin42 : ¬ ((3 : Int32) < 0 ∨ cl42.slots.size ≤ ((3 : Int32)).toNatClampNeg) := inb_of Sz42 ⟨by decide, by decide⟩
  have hat42 : cl42.slots[((3 : Int32)).toNatClampNeg]? = some (.int (0 : Int32)) := Hs42.at hin42 rfl
  have kn43 : ∀ t, own_S p e below T39 (mkF m 116 #[.val (.ref d1), .val (.ref x1), .val (.int (2 : Int32)), .val (.int (3 : Int32)), .val (.int (99 : Int32)), .val (.int (3 : Int32))] [(.ref d1)]) t → Gl t := fun t kt => kn41 t (by
    show own_S p e below T39 (mkF m 109 #[.val (.ref d1), .val (.ref x1), .val (.int (2 : Int32)), .val (.int (3 : Int32)), .val (.int (99 : Int32)), .val (.int (3 : Int32))] [(.int (3 : Int32)), (.ref bS)]) _
    refine X39.iaload hx (j := (3 : Int32)) (v := (.int (0 : Int32))) (by rw [e39]; exact Ar42.1) (State.isArrayOf_alike hZ.alike Ar42.2.1) Ar42.2.2 hin42 hat42 (g := (mkF m 109 #[.val (.ref d1), .val (.ref x1), .val (.int (2 : Int32)), .val (.int (3 : Int32)), .val (.int (99 : Int32)), .val (.int (3 : Int32))] [(.int (3 : Int32)), (.ref bS)])) rfl rfl (hb hby d_prog_82_method_4_109) _ ?_
    show own_S p e below T39 (mkF m 110 #[.val (.ref d1), .val (.ref x1), .val (.int (2 : Int32)), .val (.int (3 : Int32)), .val (.int (99 : Int32)), .val (.int (3 : Int32))] [(.int (0 : Int32))]) _
    refine XS.ifYes X39.here hx rfl (pc0 := 110) (pc' := 115) rfl (hb hby d_prog_82_method_4_110) rfl ((if0 _ _).trans (teq (by decide : (0 : Int32) = (0 : Int32))).1) (by decide) (by decide) ?_
    show own_S p e below T39 (mkF m 115 #[.val (.ref d1), .val (.ref x1), .val (.int (2 : Int32)), .val (.int (3 : Int32)), .val (.int (99 : Int32)), .val (.int (3 : Int32))] []) _
    refine XS.aloadN X39.here hx rfl (hb hby d_prog_82_method_4_115) rfl rfl ?_
    exact kt)
  have f44 := (FD4.keep K17 (ninS ne_d1_bB nin0))
  obtain ⟨T45, X45, e45, st45⟩ := getF X39 hx hZ hown (host := "") (Or.inl (hw _ (List.mem_of_getElem? (i := 65) rfl))) Via.refl e39 f44 (g := (mkF m 116 #[.val (.ref d1), .val (.ref x1), .val (.int (2 : Int32)), .val (.int (3 : Int32)), .val (.int (99 : Int32)), .val (.int (3 : Int32))] [(.ref d1)])) rfl rfl (hb hby d_prog_82_method_4_116)
  have kn46 : ∀ t, own_S p e below T45 (mkF m 119 #[.val (.ref d1), .val (.ref x1), .val (.int (2 : Int32)), .val (.int (3 : Int32)), .val (.int (99 : Int32)), .val (.int (3 : Int32))] [(.int (2 : Int32))]) t → Gl t := fun t kt => kn43 t (st45 _ kt)
  have kn47 : ∀ t, own_S p e below T45 (mkF m 120 #[.val (.ref d1), .val (.ref x1), .val (.int (2 : Int32)), .val (.int (3 : Int32)), .val (.int (99 : Int32)), .val (.int (3 : Int32))] [(.ref d1), (.int (2 : Int32))]) t → Gl t := fun t kt => kn46 t (by
    show own_S p e below T45 (mkF m 119 #[.val (.ref d1), .val (.ref x1), .val (.int (2 : Int32)), .val (.int (3 : Int32)), .val (.int (99 : Int32)), .val (.int (3 : Int32))] [(.int (2 : Int32))]) _
    refine XS.aloadN X45.here hx rfl (hb hby d_prog_82_method_4_119) rfl rfl ?_
    exact kt)
  have f48 := (FD1.keep K17 (ninS ne_d1_bB nin0))
  obtain ⟨T49, X49, e49, st49⟩ := getF X45 hx hZ hown (host := "") (Or.inl (hw _ (List.mem_of_getElem? (i := 27) rfl))) Via.refl e45 f48 (g := (mkF m 120 #[.val (.ref d1), .val (.ref x1), .val (.int (2 : Int32)), .val (.int (3 : Int32)), .val (.int (99 : Int32)), .val (.int (3 : Int32))] [(.ref d1), (.int (2 : Int32))])) rfl rfl (hb hby d_prog_82_method_4_120)
  have kn50 : ∀ t, own_S p e below T49 (mkF m 123 #[.val (.ref d1), .val (.ref x1), .val (.int (2 : Int32)), .val (.int (3 : Int32)), .val (.int (99 : Int32)), .val (.int (3 : Int32))] [(.ref bE), (.int (2 : Int32))]) t → Gl t := fun t kt => kn47 t (st49 _ kt)
  have f51 := (AD1.keep K17 (ninS (Ne.symm ne_bB_bE) nin0))
  obtain ⟨cl52, Ar52, -, Sz52, Ng52, -, -⟩ := id f51
  have kn53 : ∀ t, own_S p e below T49 (mkF m 162 #[.val (.ref d1), .val (.ref x1), .val (.int (2 : Int32)), .val (.int (3 : Int32)), .val (.int (99 : Int32)), .val (.int (3 : Int32))] [(.ref d1)]) t → Gl t := fun t kt => kn50 t (by
    show own_S p e below T49 (mkF m 123 #[.val (.ref d1), .val (.ref x1), .val (.int (2 : Int32)), .val (.int (3 : Int32)), .val (.int (99 : Int32)), .val (.int (3 : Int32))] [(.ref bE), (.int (2 : Int32))]) _
    refine X49.arraylength hx (by rw [e49]; exact Ar52.1) (State.isArrayOf_alike hZ.alike Ar52.2.1) (g := (mkF m 123 #[.val (.ref d1), .val (.ref x1), .val (.int (2 : Int32)), .val (.int (3 : Int32)), .val (.int (99 : Int32)), .val (.int (3 : Int32))] [(.ref bE), (.int (2 : Int32))])) rfl rfl (hb hby d_prog_82_method_4_123) _ ?_
    rw [len_of Sz52 Ng52]
    show own_S p e below T49 (mkF m 124 #[.val (.ref d1), .val (.ref x1), .val (.int (2 : Int32)), .val (.int (3 : Int32)), .val (.int (99 : Int32)), .val (.int (3 : Int32))] [(.int (8 : Int32)), (.int (2 : Int32))]) _
    refine XS.icmpYes X49.here hx rfl (pc0 := 124) (pc' := 161) rfl (hb hby d_prog_82_method_4_124) rfl (feq (by decide : ¬ ((2 : Int32) = (8 : Int32)))).2 (by decide) (by decide) ?_
    show own_S p e below T49 (mkF m 161 #[.val (.ref d1), .val (.ref x1), .val (.int (2 : Int32)), .val (.int (3 : Int32)), .val (.int (99 : Int32)), .val (.int (3 : Int32))] []) _
    refine XS.aloadN X49.here hx rfl (hb hby d_prog_82_method_4_161) rfl rfl ?_
    exact kt)
  obtain ⟨T54, X54, e54, st54⟩ := getF X49 hx hZ hown (host := "") (Or.inl (hw _ (List.mem_of_getElem? (i := 27) rfl))) Via.refl e49 f48 (g := (mkF m 162 #[.val (.ref d1), .val (.ref x1), .val (.int (2 : Int32)), .val (.int (3 : Int32)), .val (.int (99 : Int32)), .val (.int (3 : Int32))] [(.ref d1)])) rfl rfl (hb hby d_prog_82_method_4_162)
  have kn55 : ∀ t, own_S p e below T54 (mkF m 165 #[.val (.ref d1), .val (.ref x1), .val (.int (2 : Int32)), .val (.int (3 : Int32)), .val (.int (99 : Int32)), .val (.int (3 : Int32))] [(.ref bE)]) t → Gl t := fun t kt => kn53 t (st54 _ kt)
  have kn56 : ∀ t, own_S p e below T54 (mkF m 166 #[.val (.ref d1), .val (.ref x1), .val (.int (2 : Int32)), .val (.int (3 : Int32)), .val (.int (99 : Int32)), .val (.int (3 : Int32))] [(.ref d1), (.ref bE)]) t → Gl t := fun t kt => kn55 t (by
    show own_S p e below T54 (mkF m 165 #[.val (.ref d1), .val (.ref x1), .val (.int (2 : Int32)), .val (.int (3 : Int32)), .val (.int (99 : Int32)), .val (.int (3 : Int32))] [(.ref bE)]) _
    refine XS.aloadN X54.here hx rfl (hb hby d_prog_82_method_4_165) rfl rfl ?_
    exact kt)
  obtain ⟨T57, X57, e57, st57⟩ := getF X54 hx hZ hown (host := "") (Or.inl (hw _ (List.mem_of_getElem? (i := 65) rfl))) Via.refl e54 f44 (g := (mkF m 166 #[.val (.ref d1), .val (.ref x1), .val (.int (2 : Int32)), .val (.int (3 : Int32)), .val (.int (99 : Int32)), .val (.int (3 : Int32))] [(.ref d1), (.ref bE)])) rfl rfl (hb hby d_prog_82_method_4_166)
  have kn58 : ∀ t, own_S p e below T57 (mkF m 169 #[.val (.ref d1), .val (.ref x1), .val (.int (2 : Int32)), .val (.int (3 : Int32)), .val (.int (99 : Int32)), .val (.int (3 : Int32))] [(.int (2 : Int32)), (.ref bE)]) t → Gl t := fun t kt => kn56 t (st57 _ kt)
  have kn59 : ∀ t, own_S p e below T57 (mkF m 170 #[.val (.ref d1), .val (.ref x1), .val (.int (2 : Int32)), .val (.int (3 : Int32)), .val (.int (99 : Int32)), .val (.int (3 : Int32))] [(.int (3 : Int32)), (.int (2 : Int32)), (.ref bE)]) t → Gl t := fun t kt => kn58 t (by
    show own_S p e below T57 (mkF m 169 #[.val (.ref d1), .val (.ref x1), .val (.int (2 : Int32)), .val (.int (3 : Int32)), .val (.int (99 : Int32)), .val (.int (3 : Int32))] [(.int (2 : Int32)), (.ref bE)]) _
    refine XS.iloadN X57.here hx rfl (hb hby d_prog_82_method_4_169) rfl ?_
    exact kt)
  obtain ⟨cl60, Ar60, q60, Sz60, Ng60, Hs60, Gs60⟩ := id f51
  have hin60 : ¬ ((2 : Int32) < 0 ∨ cl60.slots.size ≤ ((2 : Int32)).toNatClampNeg) := inb_of Sz60 ⟨by decide, by decide⟩
  obtain ⟨T60, h60, X60, e60, W60, st60⟩ := stI X57 hx hZ e57 Ar60 (j := (2 : Int32)) hin60 (g := (mkF m 170 #[.val (.ref d1), .val (.ref x1), .val (.int (2 : Int32)), .val (.int (3 : Int32)), .val (.int (99 : Int32)), .val (.int (3 : Int32))] [(.int (3 : Int32)), (.int (2 : Int32)), (.ref bE)])) rfl rfl (hb hby d_prog_82_method_4_170)
  have Z61 : n0 ≤ h60.size := Nat.le_trans Z18 (Keep.of_wr W60).1
  have O62 : Old Z n0 h60 := O19.wr W60 g_bE
  have K63 : Keep h0 h60 [d1, bB, bE, bH, bS] := K20.wr W60 (Or.inl (List.mem_of_getElem? (i := 2) rfl))
  have V60 : Arv Z h60 bE kE .int (8 : Int32) [(.int (1 : Int32)), (.int (2 : Int32)), (.int (3 : Int32)), (.int (0 : Int32)), (.int (0 : Int32)), (.int (0 : Int32)), (.int (0 : Int32)), (.int (0 : Int32))] (.int (0 : Int32)) := Arv.set Ar60 q60 Sz60 Ng60 Hs60 Gs60 rfl W60 2 rfl (Nat.le_of_ble_eq_true rfl)
  have Nf64 := Fr.snoc X60 Nf33 g_bE
  have kn65 : ∀ t, own_S p e below T60 (mkF m 171 #[.val (.ref d1), .val (.ref x1), .val (.int (2 : Int32)), .val (.int (3 : Int32)), .val (.int (99 : Int32)), .val (.int (3 : Int32))] []) t → Gl t := fun t kt => kn59 t (st60 _ kt)
  have kn66 : ∀ t, own_S p e below T60 (mkF m 172 #[.val (.ref d1), .val (.ref x1), .val (.int (2 : Int32)), .val (.int (3 : Int32)), .val (.int (99 : Int32)), .val (.int (3 : Int32))] [(.ref d1)]) t → Gl t := fun t kt => kn65 t (by
    show own_S p e below T60 (mkF m 171 #[.val (.ref d1), .val (.ref x1), .val (.int (2 : Int32)), .val (.int (3 : Int32)), .val (.int (99 : Int32)), .val (.int (3 : Int32))] []) _
    refine XS.aloadN X60.here hx rfl (hb hby d_prog_82_method_4_171) rfl rfl ?_
    exact kt)
  have f67 := ((FD2.keep K17 (ninS ne_d1_bB nin0)).other W60 (Or.inl ne_d1_bE))
  obtain ⟨T68, X68, e68, st68⟩ := getF X60 hx hZ hown (host := "") (Or.inl (hw _ (List.mem_of_getElem? (i := 29) rfl))) Via.refl e60 f67 (g := (mkF m 172 #[.val (.ref d1), .val (.ref x1), .val (.int (2 : Int32)), .val (.int (3 : Int32)), .val (.int (99 : Int32)), .val (.int (3 : Int32))] [(.ref d1)])) rfl rfl (hb hby d_prog_82_method_4_172)
  have kn69 : ∀ t, own_S p e below T68 (mkF m 175 #[.val (.ref d1), .val (.ref x1), .val (.int (2 : Int32)), .val (.int (3 : Int32)), .val (.int (99 : Int32)), .val (.int (3 : Int32))] [(.ref bH)]) t → Gl t := fun t kt => kn66 t (st68 _ kt)
  have kn70 : ∀ t, own_S p e below T68 (mkF m 176 #[.val (.ref d1), .val (.ref x1), .val (.int (2 : Int32)), .val (.int (3 : Int32)), .val (.int (99 : Int32)), .val (.int (3 : Int32))] [(.ref d1), (.ref bH)]) t → Gl t := fun t kt => kn69 t (by
    show own_S p e below T68 (mkF m 175 #[.val (.ref d1), .val (.ref x1), .val (.int (2 : Int32)), .val (.int (3 : Int32)), .val (.int (99 : Int32)), .val (.int (3 : Int32))] [(.ref bH)]) _
    refine XS.aloadN X68.here hx rfl (hb hby d_prog_82_method_4_175) rfl rfl ?_
    exact kt)
  have f71 := (f44.other W60 (Or.inl ne_d1_bE))
  obtain ⟨T72, X72, e72, st72⟩ := getF X68 hx hZ hown (host := "") (Or.inl (hw _ (List.mem_of_getElem? (i := 65) rfl))) Via.refl e68 f71 (g := (mkF m 176 #[.val (.ref d1), .val (.ref x1), .val (.int (2 : Int32)), .val (.int (3 : Int32)), .val (.int (99 : Int32)), .val (.int (3 : Int32))] [(.ref d1), (.ref bH)])) rfl rfl (hb hby d_prog_82_method_4_176)
  have kn73 : ∀ t, own_S p e below T72 (mkF m 179 #[.val (.ref d1), .val (.ref x1), .val (.int (2 : Int32)), .val (.int (3 : Int32)), .val (.int (99 : Int32)), .val (.int (3 : Int32))] [(.int (2 : Int32)), (.ref bH)]) t → Gl t := fun t kt => kn70 t (st72 _ kt)
  have kn74 : ∀ t, own_S p e below T72 (mkF m 181 #[.val (.ref d1), .val (.ref x1), .val (.int (2 : Int32)), .val (.int (3 : Int32)), .val (.int (99 : Int32)), .val (.int (3 : Int32))] [(.int (99 : Int32)), (.int (2 : Int32)), (.ref bH)]) t → Gl t := fun t kt => kn73 t (by
    show own_S p e below T72 (mkF m 179 #[.val (.ref d1), .val (.ref x1), .val (.int (2 : Int32)), .val (.int (3 : Int32)), .val (.int (99 : Int32)), .val (.int (3 : Int32))] [(.int (2 : Int32)), (.ref bH)]) _
    refine XS.iload X72.here hx rfl (hb hby d_prog_82_method_4_179) rfl ?_
    exact kt)
  have f75 := ((AD2.keep K17 (ninS (Ne.symm ne_bB_bH) nin0)).other W60 (Ne.symm ne_bE_bH))
  obtain ⟨cl76, Ar76, q76, Sz76, Ng76, Hs76, Gs76⟩ := id f75
  have hin76 : ¬ ((2 : Int32) < 0 ∨ cl76.slots.size ≤ ((2 : Int32)).toNatClampNeg) := inb_of Sz76 ⟨by decide, by decide⟩
  obtain ⟨T76, h76, X76, e76, W76, st76⟩ := stI X72 hx hZ e72 Ar76 (j := (2 : Int32)) hin76 (g := (mkF m 181 #[.val (.ref d1), .val (.ref x1), .val (.int (2 : Int32)), .val (.int (3 : Int32)), .val (.int (99 : Int32)), .val (.int (3 : Int32))] [(.int (99 : Int32)), (.int (2 : Int32)), (.ref bH)])) rfl rfl (hb hby d_prog_82_method_4_181)
  have Z77 : n0 ≤ h76.size := Nat.le_trans Z61 (Keep.of_wr W76).1
  have O78 : Old Z n0 h76 := O62.wr W76 g_bH
  have K79 : Keep h0 h76 [d1, bB, bE, bH, bS] := K63.wr W76 (Or.inl (List.mem_of_getElem? (i := 3) rfl))
  have V76 : Arv Z h76 bH kH .int (8 : Int32) [(.int (97 : Int32)), (.int (98 : Int32)), (.int (99 : Int32)), (.int (0 : Int32)), (.int (0 : Int32)), (.int (0 : Int32)), (.int (0 : Int32)), (.int (0 : Int32))] (.int (0 : Int32)) := Arv.set Ar76 q76 Sz76 Ng76 Hs76 Gs76 rfl W76 2 rfl (Nat.le_of_ble_eq_true rfl)
  have Nf80 := Fr.snoc X76 Nf64 g_bH
  have kn81 : ∀ t, own_S p e below T76 (mkF m 182 #[.val (.ref d1), .val (.ref x1), .val (.int (2 : Int32)), .val (.int (3 : Int32)), .val (.int (99 : Int32)), .val (.int (3 : Int32))] []) t → Gl t := fun t kt => kn74 t (st76 _ kt)
  have kn82 : ∀ t, own_S p e below T76 (mkF m 184 #[.val (.ref d1), .val (.ref x1), .val (.int (2 : Int32)), .val (.int (3 : Int32)), .val (.int (99 : Int32)), .val (.int (3 : Int32))] [(.ref d1), (.ref d1)]) t → Gl t := fun t kt => kn81 t (by
    show own_S p e below T76 (mkF m 182 #[.val (.ref d1), .val (.ref x1), .val (.int (2 : Int32)), .val (.int (3 : Int32)), .val (.int (99 : Int32)), .val (.int (3 : Int32))] []) _
    refine XS.aloadN X76.here hx rfl (hb hby d_prog_82_method_4_182) rfl rfl ?_
    show own_S p e below T76 (mkF m 183 #[.val (.ref d1), .val (.ref x1), .val (.int (2 : Int32)), .val (.int (3 : Int32)), .val (.int (99 : Int32)), .val (.int (3 : Int32))] [(.ref d1)]) _
    refine XS.dup X76.here hx rfl (hb hby d_prog_82_method_4_183) rfl rfl ?_
    exact kt)
  have f83 := (f71.other W76 (Or.inl ne_d1_bH))
  obtain ⟨T84, X84, e84, st84⟩ := getF X76 hx hZ hown (host := "") (Or.inl (hw _ (List.mem_of_getElem? (i := 65) rfl))) Via.refl e76 f83 (g := (mkF m 184 #[.val (.ref d1), .val (.ref x1), .val (.int (2 : Int32)), .val (.int (3 : Int32)), .val (.int (99 : Int32)), .val (.int (3 : Int32))] [(.ref d1), (.ref d1)])) rfl rfl (hb hby d_prog_82_method_4_184)
  have kn85 : ∀ t, own_S p e below T84 (mkF m 187 #[.val (.ref d1), .val (.ref x1), .val (.int (2 : Int32)), .val (.int (3 : Int32)), .val (.int (99 : Int32)), .val (.int (3 : Int32))] [(.int (2 : Int32)), (.ref d1)]) t → Gl t := fun t kt => kn82 t (st84 _ kt)
  have kn86 : ∀ t, own_S p e below T84 (mkF m 189 #[.val (.ref d1), .val (.ref x1), .val (.int (2 : Int32)), .val (.int (3 : Int32)), .val (.int (99 : Int32)), .val (.int (3 : Int32))] [(.int (3 : Int32)), (.ref d1)]) t → Gl t := fun t kt => kn85 t (by
    show own_S p e below T84 (mkF m 187 #[.val (.ref d1), .val (.ref x1), .val (.int (2 : Int32)), .val (.int (3 : Int32)), .val (.int (99 : Int32)), .val (.int (3 : Int32))] [(.int (2 : Int32)), (.ref d1)]) _
    refine XS.iconst X84.here hx rfl (hb hby d_prog_82_method_4_187) ?_
    show own_S p e below T84 (mkF m 188 #[.val (.ref d1), .val (.ref x1), .val (.int (2 : Int32)), .val (.int (3 : Int32)), .val (.int (99 : Int32)), .val (.int (3 : Int32))] [(.int (1 : Int32)), (.int (2 : Int32)), (.ref d1)]) _
    refine XS.iadd X84.here hx rfl (hb hby d_prog_82_method_4_188) rfl ?_
    rw [(by decide : ((2 : Int32) + (1 : Int32)) = (3 : Int32))]
    exact kt)
  have f87 := ((f36.wr W60).wr W76)
  obtain ⟨T88, h88, X88, e88, W88, st88⟩ := putF X84 hx hZ hown (host := "") (Or.inl (hw _ (List.mem_of_getElem? (i := 65) rfl))) Via.refl e84 f83 f87 (Or.inl (hw _ (List.mem_of_getElem? (i := 66) rfl))) (hw _ (List.mem_of_getElem? (i := 10) rfl)) (ty := .int) (by decide) rfl rfl (g := (mkF m 189 #[.val (.ref d1), .val (.ref x1), .val (.int (2 : Int32)), .val (.int (3 : Int32)), .val (.int (99 : Int32)), .val (.int (3 : Int32))] [(.int (3 : Int32)), (.ref d1)])) rfl rfl (hb hby d_prog_82_method_4_189)
  have Z89 : n0 ≤ h88.size := Nat.le_trans Z77 (Keep.of_wr W88).1
  have O90 : Old Z n0 h88 := O78.wr W88 g_d1
  have K91 : Keep h0 h88 [d1, bB, bE, bH, bS] := K79.wr W88 (Or.inl (List.mem_of_getElem? (i := 0) rfl))
  have Fw88 := f83.same W88
  have Nf92 := Fr.snoc X88 Nf80 g_d1
  have kn93 : ∀ t, own_S p e below T88 (mkF m 192 #[.val (.ref d1), .val (.ref x1), .val (.int (2 : Int32)), .val (.int (3 : Int32)), .val (.int (99 : Int32)), .val (.int (3 : Int32))] []) t → Gl t := fun t kt => kn86 t (st88 _ kt)
  have kn94 : ∀ t, own_S p e below T88 (mkF m 193 #[.val (.ref d1), .val (.ref x1), .val (.int (2 : Int32)), .val (.int (3 : Int32)), .val (.int (99 : Int32)), .val (.int (3 : Int32))] [(.ref d1)]) t → Gl t := fun t kt => kn93 t (by
    show own_S p e below T88 (mkF m 192 #[.val (.ref d1), .val (.ref x1), .val (.int (2 : Int32)), .val (.int (3 : Int32)), .val (.int (99 : Int32)), .val (.int (3 : Int32))] []) _
    refine XS.aloadN X88.here hx rfl (hb hby d_prog_82_method_4_192) rfl rfl ?_
    exact kt)
  have f95 := (((f34.other W60 (Or.inl ne_d1_bE)).other W76 (Or.inl ne_d1_bH)).other W88 (Or.inr (slot_ne (Or.inl (hw _ (List.mem_of_getElem? (i := 41) rfl))) (Or.inl (hw _ (List.mem_of_getElem? (i := 66) rfl))) (by decide) (t := (.array .int)) (t' := .int) (by decide) (by decide))))
  obtain ⟨T96, X96, e96, st96⟩ := getF X88 hx hZ hown (host := "") (Or.inl (hw _ (List.mem_of_getElem? (i := 40) rfl))) Via.refl e88 f95 (g := (mkF m 193 #[.val (.ref d1), .val (.ref x1), .val (.int (2 : Int32)), .val (.int (3 : Int32)), .val (.int (99 : Int32)), .val (.int (3 : Int32))] [(.ref d1)])) rfl rfl (hb hby d_prog_82_method_4_193)
  have kn97 : ∀ t, own_S p e below T96 (mkF m 196 #[.val (.ref d1), .val (.ref x1), .val (.int (2 : Int32)), .val (.int (3 : Int32)), .val (.int (99 : Int32)), .val (.int (3 : Int32))] [(.ref bS)]) t → Gl t := fun t kt => kn94 t (st96 _ kt)
  have kn98 : ∀ t, own_S p e below T96 (mkF m 199 #[.val (.ref d1), .val (.ref x1), .val (.int (2 : Int32)), .val (.int (3 : Int32)), .val (.int (99 : Int32)), .val (.int (3 : Int32))] [(.ref d1), (.int (3 : Int32)), (.ref bS)]) t → Gl t := fun t kt => kn97 t (by
    show own_S p e below T96 (mkF m 196 #[.val (.ref d1), .val (.ref x1), .val (.int (2 : Int32)), .val (.int (3 : Int32)), .val (.int (99 : Int32)), .val (.int (3 : Int32))] [(.ref bS)]) _
    refine XS.iload X96.here hx rfl (hb hby d_prog_82_method_4_196) rfl ?_
    show own_S p e below T96 (mkF m 198 #[.val (.ref d1), .val (.ref x1), .val (.int (2 : Int32)), .val (.int (3 : Int32)), .val (.int (99 : Int32)), .val (.int (3 : Int32))] [(.int (3 : Int32)), (.ref bS)]) _
    refine XS.aloadN X96.here hx rfl (hb hby d_prog_82_method_4_198) rfl rfl ?_
    exact kt)
  obtain ⟨T99, X99, e99, st99⟩ := getF X96 hx hZ hown (host := "") (Or.inl (hw _ (List.mem_of_getElem? (i := 65) rfl))) Via.refl e96 Fw88 (g := (mkF m 199 #[.val (.ref d1), .val (.ref x1), .val (.int (2 : Int32)), .val (.int (3 : Int32)), .val (.int (99 : Int32)), .val (.int (3 : Int32))] [(.ref d1), (.int (3 : Int32)), (.ref bS)])) rfl rfl (hb hby d_prog_82_method_4_199)
  have kn100 : ∀ t, own_S p e below T99 (mkF m 202 #[.val (.ref d1), .val (.ref x1), .val (.int (2 : Int32)), .val (.int (3 : Int32)), .val (.int (99 : Int32)), .val (.int (3 : Int32))] [(.int (3 : Int32)), (.int (3 : Int32)), (.ref bS)]) t → Gl t := fun t kt => kn98 t (st99 _ kt)
  have f101 := (((f35.other W60 (Ne.symm ne_bE_bS)).other W76 (Ne.symm ne_bH_bS)).other W88 (Ne.symm ne_d1_bS))
  obtain ⟨cl102, Ar102, q102, Sz102, Ng102, Hs102, Gs102⟩ := id f101
  have hin102 : ¬ ((3 : Int32) < 0 ∨ cl102.slots.size ≤ ((3 : Int32)).toNatClampNeg) := inb_of Sz102 ⟨by decide, by decide⟩
  obtain ⟨T102, h102, X102, e102, W102, st102⟩ := stI X99 hx hZ e99 Ar102 (j := (3 : Int32)) hin102 (g := (mkF m 202 #[.val (.ref d1), .val (.ref x1), .val (.int (2 : Int32)), .val (.int (3 : Int32)), .val (.int (99 : Int32)), .val (.int (3 : Int32))] [(.int (3 : Int32)), (.int (3 : Int32)), (.ref bS)])) rfl rfl (hb hby d_prog_82_method_4_202)
  have Z103 : n0 ≤ h102.size := Nat.le_trans Z89 (Keep.of_wr W102).1
  have O104 : Old Z n0 h102 := O90.wr W102 g_bS
  have K105 : Keep h0 h102 [d1, bB, bE, bH, bS] := K91.wr W102 (Or.inl (List.mem_of_getElem? (i := 4) rfl))
  have V102 : Arv Z h102 bS kS .int (16 : Int32) [(.int (0 : Int32)), (.int (1 : Int32)), (.int (2 : Int32)), (.int (3 : Int32)), (.int (0 : Int32)), (.int (0 : Int32)), (.int (0 : Int32)), (.int (0 : Int32)), (.int (0 : Int32)), (.int (0 : Int32)), (.int (0 : Int32)), (.int (0 : Int32)), (.int (0 : Int32)), (.int (0 : Int32)), (.int (0 : Int32)), (.int (0 : Int32))] (.int (0 : Int32)) := Arv.set Ar102 q102 Sz102 Ng102 Hs102 Gs102 rfl W102 3 rfl (Nat.le_of_ble_eq_true rfl)
  have Nf106 := Fr.snoc X102 Nf92 g_bS
  have kn107 : ∀ t, own_S p e below T102 (mkF m 203 #[.val (.ref d1), .val (.ref x1), .val (.int (2 : Int32)), .val (.int (3 : Int32)), .val (.int (99 : Int32)), .val (.int (3 : Int32))] []) t → Gl t := fun t kt => kn100 t (st102 _ kt)
  have kn108 : ∀ t, own_S p e below T102 (mkF m 204 #[.val (.ref d1), .val (.ref x1), .val (.int (2 : Int32)), .val (.int (3 : Int32)), .val (.int (99 : Int32)), .val (.int (3 : Int32))] [(.ref d1)]) t → Gl t := fun t kt => kn107 t (by
    show own_S p e below T102 (mkF m 203 #[.val (.ref d1), .val (.ref x1), .val (.int (2 : Int32)), .val (.int (3 : Int32)), .val (.int (99 : Int32)), .val (.int (3 : Int32))] []) _
    refine XS.aloadN X102.here hx rfl (hb hby d_prog_82_method_4_203) rfl rfl ?_
    exact kt)
  have f109 := (Fw88.other W102 (Or.inl ne_d1_bS))
  obtain ⟨T110, X110, e110, st110⟩ := getF X102 hx hZ hown (host := "") (Or.inl (hw _ (List.mem_of_getElem? (i := 65) rfl))) Via.refl e102 f109 (g := (mkF m 204 #[.val (.ref d1), .val (.ref x1), .val (.int (2 : Int32)), .val (.int (3 : Int32)), .val (.int (99 : Int32)), .val (.int (3 : Int32))] [(.ref d1)])) rfl rfl (hb hby d_prog_82_method_4_204)
  have kn111 : ∀ t, own_S p e below T110 (mkF m 207 #[.val (.ref d1), .val (.ref x1), .val (.int (2 : Int32)), .val (.int (3 : Int32)), .val (.int (99 : Int32)), .val (.int (3 : Int32))] [(.int (3 : Int32))]) t → Gl t := fun t kt => kn108 t (st110 _ kt)
  have kn112 : ∀ t, own_S p e below T110 (mkF m 210 #[.val (.ref d1), .val (.ref x1), .val (.int (2 : Int32)), .val (.int (3 : Int32)), .val (.int (99 : Int32)), .val (.int (3 : Int32))] [(.ref d1), (.int (6 : Int32))]) t → Gl t := fun t kt => kn111 t (by
    show own_S p e below T110 (mkF m 207 #[.val (.ref d1), .val (.ref x1), .val (.int (2 : Int32)), .val (.int (3 : Int32)), .val (.int (99 : Int32)), .val (.int (3 : Int32))] [(.int (3 : Int32))]) _
    refine XS.iconst X110.here hx rfl (hb hby d_prog_82_method_4_207) ?_
    show own_S p e below T110 (mkF m 208 #[.val (.ref d1), .val (.ref x1), .val (.int (2 : Int32)), .val (.int (3 : Int32)), .val (.int (99 : Int32)), .val (.int (3 : Int32))] [(.int (2 : Int32)), (.int (3 : Int32))]) _
    refine XS.imul X110.here hx rfl (hb hby d_prog_82_method_4_208) rfl ?_
    rw [(by decide : ((3 : Int32) * (2 : Int32)) = (6 : Int32))]
    show own_S p e below T110 (mkF m 209 #[.val (.ref d1), .val (.ref x1), .val (.int (2 : Int32)), .val (.int (3 : Int32)), .val (.int (99 : Int32)), .val (.int (3 : Int32))] [(.int (6 : Int32))]) _
    refine XS.aloadN X110.here hx rfl (hb hby d_prog_82_method_4_209) rfl rfl ?_
    exact kt)
  have f113 := (f95.other W102 (Or.inl ne_d1_bS))
  obtain ⟨T114, X114, e114, st114⟩ := getF X110 hx hZ hown (host := "") (Or.inl (hw _ (List.mem_of_getElem? (i := 40) rfl))) Via.refl e110 f113 (g := (mkF m 210 #[.val (.ref d1), .val (.ref x1), .val (.int (2 : Int32)), .val (.int (3 : Int32)), .val (.int (99 : Int32)), .val (.int (3 : Int32))] [(.ref d1), (.int (6 : Int32))])) rfl rfl (hb hby d_prog_82_method_4_210)
  have kn115 : ∀ t, own_S p e below T114 (mkF m 213 #[.val (.ref d1), .val (.ref x1), .val (.int (2 : Int32)), .val (.int (3 : Int32)), .val (.int (99 : Int32)), .val (.int (3 : Int32))] [(.ref bS), (.int (6 : Int32))]) t → Gl t := fun t kt => kn112 t (st114 _ kt)
  obtain ⟨cl116, Ar116, -, Sz116, Ng116, -, -⟩ := id V102
  have kn117 : ∀ t, own_S p e below T114 (mkF m 222 #[.val (.ref d1), .val (.ref x1), .val (.int (2 : Int32)), .val (.int (3 : Int32)), .val (.int (99 : Int32)), .val (.int (3 : Int32))] [(.ref d1)]) t → Gl t := fun t kt => kn115 t (by
    show own_S p e below T114 (mkF m 213 #[.val (.ref d1), .val (.ref x1), .val (.int (2 : Int32)), .val (.int (3 : Int32)), .val (.int (99 : Int32)), .val (.int (3 : Int32))] [(.ref bS), (.int (6 : Int32))]) _
    refine X114.arraylength hx (by rw [e114]; exact Ar116.1) (State.isArrayOf_alike hZ.alike Ar116.2.1) (g := (mkF m 213 #[.val (.ref d1), .val (.ref x1), .val (.int (2 : Int32)), .val (.int (3 : Int32)), .val (.int (99 : Int32)), .val (.int (3 : Int32))] [(.ref bS), (.int (6 : Int32))])) rfl rfl (hb hby d_prog_82_method_4_213) _ ?_
    rw [len_of Sz116 Ng116]
    show own_S p e below T114 (mkF m 214 #[.val (.ref d1), .val (.ref x1), .val (.int (2 : Int32)), .val (.int (3 : Int32)), .val (.int (99 : Int32)), .val (.int (3 : Int32))] [(.int (16 : Int32)), (.int (6 : Int32))]) _
    refine XS.icmpYes X114.here hx rfl (pc0 := 214) (pc' := 221) rfl (hb hby d_prog_82_method_4_214) rfl (flt (by decide : ¬ ((16 : Int32) < (6 : Int32)))).2.2.2 (by decide) (by decide) ?_
    show own_S p e below T114 (mkF m 221 #[.val (.ref d1), .val (.ref x1), .val (.int (2 : Int32)), .val (.int (3 : Int32)), .val (.int (99 : Int32)), .val (.int (3 : Int32))] []) _
    refine XS.aloadN X114.here hx rfl (hb hby d_prog_82_method_4_221) rfl rfl ?_
    exact kt)
  obtain ⟨T118, X118, e118, st118⟩ := getF X114 hx hZ hown (host := "") (Or.inl (hw _ (List.mem_of_getElem? (i := 65) rfl))) Via.refl e114 f109 (g := (mkF m 222 #[.val (.ref d1), .val (.ref x1), .val (.int (2 : Int32)), .val (.int (3 : Int32)), .val (.int (99 : Int32)), .val (.int (3 : Int32))] [(.ref d1)])) rfl rfl (hb hby d_prog_82_method_4_222)
  have kn119 : ∀ t, own_S p e below T118 (mkF m 225 #[.val (.ref d1), .val (.ref x1), .val (.int (2 : Int32)), .val (.int (3 : Int32)), .val (.int (99 : Int32)), .val (.int (3 : Int32))] [(.int (3 : Int32))]) t → Gl t := fun t kt => kn117 t (st118 _ kt)
  have kn120 : ∀ t, own_S p e below T118 (mkF m 227 #[.val (.ref d1), .val (.ref x1), .val (.int (2 : Int32)), .val (.int (3 : Int32)), .val (.int (99 : Int32)), .val (.int (3 : Int32))] [(.int (2 : Int32))]) t → Gl t := fun t kt => kn119 t (by
    show own_S p e below T118 (mkF m 225 #[.val (.ref d1), .val (.ref x1), .val (.int (2 : Int32)), .val (.int (3 : Int32)), .val (.int (99 : Int32)), .val (.int (3 : Int32))] [(.int (3 : Int32))]) _
    refine XS.iconst X118.here hx rfl (hb hby d_prog_82_method_4_225) ?_
    show own_S p e below T118 (mkF m 226 #[.val (.ref d1), .val (.ref x1), .val (.int (2 : Int32)), .val (.int (3 : Int32)), .val (.int (99 : Int32)), .val (.int (3 : Int32))] [(.int (1 : Int32)), (.int (3 : Int32))]) _
    refine XS.isub X118.here hx rfl (hb hby d_prog_82_method_4_226) rfl ?_
    rw [(by decide : ((3 : Int32) - (1 : Int32)) = (2 : Int32))]
    exact kt)
  obtain ⟨fs, hr, hrun, hended, hW, hsame⟩ := X118.leave (v := some (.int (2 : Int32))) (fun h => by rw [Bd.returns] at h; cases h)
  refine ⟨_, _, hGl _ (kn120 _ (retI X118 hx Bd.returns (hb hby d_prog_82_method_4_227) hr)), hrun, hended, _, _, rfl, ?_, ⟨_, rfl⟩, hW, hsame.mono (by decide) (by decide)⟩
  show Q9_2 Z d1 x1 bB bE bH bS kB kE kH kS t1 k1 G1 G3 h0 n0 _ T118.heap _
  rw [e118]
  have f121 := ((f87.wr W88).wr W102)
  have f122 := ((((f23.other W60 (Or.inl ne_d1_bE)).other W76 (Or.inl ne_d1_bH)).other W88 (Or.inr (slot_ne (Or.inl (hw _ (List.mem_of_getElem? (i := 25) rfl))) (Or.inl (hw _ (List.mem_of_getElem? (i := 66) rfl))) (by decide) (t := (.array .byte)) (t' := .int) (by decide) (by decide)))).other W102 (Or.inl ne_d1_bS))
  have f123 := ((((f48.other W60 (Or.inl ne_d1_bE)).other W76 (Or.inl ne_d1_bH)).other W88 (Or.inr (slot_ne (Or.inl (hw _ (List.mem_of_getElem? (i := 28) rfl))) (Or.inl (hw _ (List.mem_of_getElem? (i := 66) rfl))) (by decide) (t := (.array .int)) (t' := .int) (by decide) (by decide)))).other W102 (Or.inl ne_d1_bS))
  have f124 := (((f67.other W76 (Or.inl ne_d1_bH)).other W88 (Or.inr (slot_ne (Or.inl (hw _ (List.mem_of_getElem? (i := 30) rfl))) (Or.inl (hw _ (List.mem_of_getElem? (i := 66) rfl))) (by decide) (t := (.array .int)) (t' := .int) (by decide) (by decide)))).other W102 (Or.inl ne_d1_bS))
  have f125 := ((((Vb17.other W60 ne_bB_bE).other W76 ne_bB_bH).other W88 (Ne.symm ne_d1_bB)).other W102 ne_bB_bS)
  have f126 := (((V60.other W76 ne_bE_bH).other W88 (Ne.symm ne_d1_bE)).other W102 ne_bE_bS)
  have f127 := ((V76.other W88 (Ne.symm ne_d1_bH)).other W102 ne_bH_bS)
  exact ⟨rfl, Nf106, K105, f121, f122, f123, f124, f113, f109, f125, f126, f127, V102⟩

theorem d_prog_83_method_2_0 : decode prog_83_method_2_code 0 = .ok (.aload_n 0, 1) := by decide +kernel
theorem d_prog_83_method_2_1 : decode prog_83_method_2_code 1 = .ok (.getfield 10, 3) := by decide +kernel
theorem d_prog_83_method_2_4 : decode prog_83_method_2_code 4 = .ok (.aload_n 1, 1) := by decide +kernel
theorem d_prog_83_method_2_5 : decode prog_83_method_2_code 5 = .ok (.invokevirtual 24, 3) := by decide +kernel
theorem d_prog_83_method_2_8 : decode prog_83_method_2_code 8 = .ok (.istore_n 3, 1) := by decide +kernel
theorem d_prog_83_method_2_9 : decode prog_83_method_2_code 9 = .ok (.iload_n 3, 1) := by decide +kernel
theorem d_prog_83_method_2_10 : decode prog_83_method_2_code 10 = .ok (.ifCond .ge 5, 3) := by decide +kernel
theorem d_prog_83_method_2_15 : decode prog_83_method_2_code 15 = .ok (.iload_n 3, 1) := by decide +kernel
theorem d_prog_83_method_2_16 : decode prog_83_method_2_code 16 = .ok (.aload_n 0, 1) := by decide +kernel
theorem d_prog_83_method_2_17 : decode prog_83_method_2_code 17 = .ok (.getfield 16, 3) := by decide +kernel
theorem d_prog_83_method_2_20 : decode prog_83_method_2_code 20 = .ok (.arraylength, 1) := by decide +kernel
theorem d_prog_83_method_2_21 : decode prog_83_method_2_code 21 = .ok (.if_icmp .ne 17, 3) := by decide +kernel
theorem d_prog_83_method_2_38 : decode prog_83_method_2_code 38 = .ok (.aload_n 0, 1) := by decide +kernel
theorem d_prog_83_method_2_39 : decode prog_83_method_2_code 39 = .ok (.getfield 16, 3) := by decide +kernel
theorem d_prog_83_method_2_42 : decode prog_83_method_2_code 42 = .ok (.iload_n 3, 1) := by decide +kernel
theorem d_prog_83_method_2_43 : decode prog_83_method_2_code 43 = .ok (.iload_n 2, 1) := by decide +kernel
theorem d_prog_83_method_2_44 : decode prog_83_method_2_code 44 = .ok (.iastore, 1) := by decide +kernel
theorem d_prog_83_method_2_45 : decode prog_83_method_2_code 45 = .ok (.iconst 1, 1) := by decide +kernel
theorem d_prog_83_method_2_46 : decode prog_83_method_2_code 46 = .ok (.ireturn, 1) := by decide +kernel
theorem pd_9 : parseMethodDescriptor "(Ljava/lang/CharSequence;)I" = some ⟨[(.object "java/lang/CharSequence")], some .int⟩ := by decide +kernel
theorem ef_rm8_0 (m : MethodId) (x0 : Addr) (x1 : Addr) (x2 : Int32) : entryFrame m #[(.ref x0), (.ref x1), (.int x2)] 4 = mkF m 0 #[.val (.ref x0), .val (.ref x1), .val (.int x2), .unset] [] := by first | (simp [entryFrame, mkF, argsToLocals, Value.category]; done) | rfl
def Q8_0 (Z : State) (a1 : Addr) (x1 : Addr) (p3 : Int32) (d1 : Addr) (bB : Addr) (bE : Addr) (bH : Addr) (bS : Addr) (kB : ClassId) (kE : ClassId) (kH : ClassId) (kS : ClassId) (bJ : Addr) (kJ : ClassId) (t1 : Addr) (k1 : ClassId) (G1 : Int32) (G3 : Value) (h0 : Heap) (n0 : Nat) (v : Option Value) (h : Heap) (L : List Loc) : Prop := v = some (.int (1 : Int32)) ∧ Fr n0 L ∧ Keep h0 h [d1, bB, bE, bH, bS, bJ] ∧ Arv Z h bJ kJ .int (8 : Int32) [(.int p3), (.int (0 : Int32)), (.int (0 : Int32)), (.int (0 : Int32)), (.int (0 : Int32)), (.int (0 : Int32)), (.int (0 : Int32)), (.int (0 : Int32))] (.int (0 : Int32)) ∧ Exa Z h d1 "com/example/runs_to_scores/runstoscores/scoring/TopicDocnos" ∧ Fld Z h d1 "com/example/runs_to_scores/runstoscores/scoring/TopicDocnos" "bytes" "[B" (.ref bB) ∧ Fld Z h d1 "com/example/runs_to_scores/runstoscores/scoring/TopicDocnos" "ends" "[I" (.ref bE) ∧ Fld Z h d1 "com/example/runs_to_scores/runstoscores/scoring/TopicDocnos" "hashes" "[I" (.ref bH) ∧ Fld Z h d1 "com/example/runs_to_scores/runstoscores/scoring/TopicDocnos" "slots" "[I" (.ref bS) ∧ Fld Z h d1 "com/example/runs_to_scores/runstoscores/scoring/TopicDocnos" "size" "I" (.int (1 : Int32)) ∧ Arv Z h bB kB .byte (64 : Int32) ((.int (97 : Int32)) :: (.int (0 : Int32)) :: (.int (0 : Int32)) :: (.int (0 : Int32)) :: (.int (0 : Int32)) :: (.int (0 : Int32)) :: (.int (0 : Int32)) :: (.int (0 : Int32)) :: (.int (0 : Int32)) :: (.int (0 : Int32)) :: (.int (0 : Int32)) :: (.int (0 : Int32)) :: (.int (0 : Int32)) :: (.int (0 : Int32)) :: (.int (0 : Int32)) :: (.int (0 : Int32)) :: (.int (0 : Int32)) :: (.int (0 : Int32)) :: (.int (0 : Int32)) :: (.int (0 : Int32)) :: (.int (0 : Int32)) :: (.int (0 : Int32)) :: (.int (0 : Int32)) :: (.int (0 : Int32)) :: (.int (0 : Int32)) :: (.int (0 : Int32)) :: (.int (0 : Int32)) :: (.int (0 : Int32)) :: (.int (0 : Int32)) :: (.int (0 : Int32)) :: (.int (0 : Int32)) :: (.int (0 : Int32)) :: (.int (0 : Int32)) :: (.int (0 : Int32)) :: (.int (0 : Int32)) :: (.int (0 : Int32)) :: (.int (0 : Int32)) :: (.int (0 : Int32)) :: (.int (0 : Int32)) :: (.int (0 : Int32)) :: (.int (0 : Int32)) :: (.int (0 : Int32)) :: (.int (0 : Int32)) :: (.int (0 : Int32)) :: (.int (0 : Int32)) :: (.int (0 : Int32)) :: (.int (0 : Int32)) :: (.int (0 : Int32)) :: (.int (0 : Int32)) :: (.int (0 : Int32)) :: (.int (0 : Int32)) :: (.int (0 : Int32)) :: (.int (0 : Int32)) :: (.int (0 : Int32)) :: (.int (0 : Int32)) :: (.int (0 : Int32)) :: (.int (0 : Int32)) :: (.int (0 : Int32)) :: (.int (0 : Int32)) :: (.int (0 : Int32)) :: (.int (0 : Int32)) :: (.int (0 : Int32)) :: (.int (0 : Int32)) :: (.int (0 : Int32)) :: []) (.int (0 : Int32)) ∧ Arv Z h bE kE .int (8 : Int32) [(.int (1 : Int32)), (.int (0 : Int32)), (.int (0 : Int32)), (.int (0 : Int32)), (.int (0 : Int32)), (.int (0 : Int32)), (.int (0 : Int32)), (.int (0 : Int32))] (.int (0 : Int32)) ∧ Arv Z h bH kH .int (8 : Int32) [(.int (97 : Int32)), (.int (0 : Int32)), (.int (0 : Int32)), (.int (0 : Int32)), (.int (0 : Int32)), (.int (0 : Int32)), (.int (0 : Int32)), (.int (0 : Int32))] (.int (0 : Int32)) ∧ Arv Z h bS kS .int (16 : Int32) [(.int (0 : Int32)), (.int (1 : Int32)), (.int (0 : Int32)), (.int (0 : Int32)), (.int (0 : Int32)), (.int (0 : Int32)), (.int (0 : Int32)), (.int (0 : Int32)), (.int (0 : Int32)), (.int (0 : Int32)), (.int (0 : Int32)), (.int (0 : Int32)), (.int (0 : Int32)), (.int (0 : Int32)), (.int (0 : Int32)), (.int (0 : Int32))] (.int (0 : Int32))
set_option maxRecDepth 65536 in
set_option maxHeartbeats 40000000 in
theorem rm8_0 (l : Launch) (Z : State) (a0 : Array Value) (hw : ∀ d ∈ tables_1, d.before a0 Z = true) (ws : List Jvm.Cond) (a1 : Addr) (x1 : Addr) (p3 : Int32) (d1 : Addr) (bB : Addr) (bE : Addr) (bH : Addr) (bS : Addr) (kB : ClassId) (kE : ClassId) (kH : ClassId) (kS : ClassId) (bJ : Addr) (kJ : ClassId) (t1 : Addr) (k1 : ClassId) (G1 : Int32) (G3 : Value) (h0 : Heap) (n0 : Nat) (Z0 : n0 ≤ h0.size) (FJ0 : Fld Z h0 a1 "com/example/runs_to_scores/runstoscores/scoring/TopicJudgments" "docnos" "Lcom/example/runs_to_scores/runstoscores/scoring/TopicDocnos;" (.ref d1)) (FJ1 : Fld Z h0 a1 "com/example/runs_to_scores/runstoscores/scoring/TopicJudgments" "judgments" "[I" (.ref bJ)) (AJ : Arv Z h0 bJ kJ .int (8 : Int32) [(.int (0 : Int32)), (.int (0 : Int32)), (.int (0 : Int32)), (.int (0 : Int32)), (.int (0 : Int32)), (.int (0 : Int32)), (.int (0 : Int32)), (.int (0 : Int32))] (.int (0 : Int32))) (ED : Exa Z h0 d1 "com/example/runs_to_scores/runstoscores/scoring/TopicDocnos") (FD0 : Fld Z h0 d1 "com/example/runs_to_scores/runstoscores/scoring/TopicDocnos" "bytes" "[B" (.ref bB)) (FD1 : Fld Z h0 d1 "com/example/runs_to_scores/runstoscores/scoring/TopicDocnos" "ends" "[I" (.ref bE)) (FD2 : Fld Z h0 d1 "com/example/runs_to_scores/runstoscores/scoring/TopicDocnos" "hashes" "[I" (.ref bH)) (FD3 : Fld Z h0 d1 "com/example/runs_to_scores/runstoscores/scoring/TopicDocnos" "slots" "[I" (.ref bS)) (FD4 : Fld Z h0 d1 "com/example/runs_to_scores/runstoscores/scoring/TopicDocnos" "size" "I" (.int (0 : Int32))) (AD0 : Arv Z h0 bB kB .byte (64 : Int32) ((.int (0 : Int32)) :: (.int (0 : Int32)) :: (.int (0 : Int32)) :: (.int (0 : Int32)) :: (.int (0 : Int32)) :: (.int (0 : Int32)) :: (.int (0 : Int32)) :: (.int (0 : Int32)) :: (.int (0 : Int32)) :: (.int (0 : Int32)) :: (.int (0 : Int32)) :: (.int (0 : Int32)) :: (.int (0 : Int32)) :: (.int (0 : Int32)) :: (.int (0 : Int32)) :: (.int (0 : Int32)) :: (.int (0 : Int32)) :: (.int (0 : Int32)) :: (.int (0 : Int32)) :: (.int (0 : Int32)) :: (.int (0 : Int32)) :: (.int (0 : Int32)) :: (.int (0 : Int32)) :: (.int (0 : Int32)) :: (.int (0 : Int32)) :: (.int (0 : Int32)) :: (.int (0 : Int32)) :: (.int (0 : Int32)) :: (.int (0 : Int32)) :: (.int (0 : Int32)) :: (.int (0 : Int32)) :: (.int (0 : Int32)) :: (.int (0 : Int32)) :: (.int (0 : Int32)) :: (.int (0 : Int32)) :: (.int (0 : Int32)) :: (.int (0 : Int32)) :: (.int (0 : Int32)) :: (.int (0 : Int32)) :: (.int (0 : Int32)) :: (.int (0 : Int32)) :: (.int (0 : Int32)) :: (.int (0 : Int32)) :: (.int (0 : Int32)) :: (.int (0 : Int32)) :: (.int (0 : Int32)) :: (.int (0 : Int32)) :: (.int (0 : Int32)) :: (.int (0 : Int32)) :: (.int (0 : Int32)) :: (.int (0 : Int32)) :: (.int (0 : Int32)) :: (.int (0 : Int32)) :: (.int (0 : Int32)) :: (.int (0 : Int32)) :: (.int (0 : Int32)) :: (.int (0 : Int32)) :: (.int (0 : Int32)) :: (.int (0 : Int32)) :: (.int (0 : Int32)) :: (.int (0 : Int32)) :: (.int (0 : Int32)) :: (.int (0 : Int32)) :: (.int (0 : Int32)) :: []) (.int (0 : Int32))) (AD1 : Arv Z h0 bE kE .int (8 : Int32) [(.int (0 : Int32)), (.int (0 : Int32)), (.int (0 : Int32)), (.int (0 : Int32)), (.int (0 : Int32)), (.int (0 : Int32)), (.int (0 : Int32)), (.int (0 : Int32))] (.int (0 : Int32))) (AD2 : Arv Z h0 bH kH .int (8 : Int32) [(.int (0 : Int32)), (.int (0 : Int32)), (.int (0 : Int32)), (.int (0 : Int32)), (.int (0 : Int32)), (.int (0 : Int32)), (.int (0 : Int32)), (.int (0 : Int32))] (.int (0 : Int32))) (AD3 : Arv Z h0 bS kS .int (16 : Int32) [(.int (0 : Int32)), (.int (0 : Int32)), (.int (0 : Int32)), (.int (0 : Int32)), (.int (0 : Int32)), (.int (0 : Int32)), (.int (0 : Int32)), (.int (0 : Int32)), (.int (0 : Int32)), (.int (0 : Int32)), (.int (0 : Int32)), (.int (0 : Int32)), (.int (0 : Int32)), (.int (0 : Int32)), (.int (0 : Int32)), (.int (0 : Int32))] (.int (0 : Int32))) (o0 : @LT.lt Nat _ a1 d1) (o1 : @LT.lt Nat _ d1 bB) (o2 : @LT.lt Nat _ bB bE) (o3 : @LT.lt Nat _ bE bH) (o4 : @LT.lt Nat _ bH bS) (o5 : @LT.lt Nat _ bS bJ) (g_d1 : n0 ≤ d1) (E_x1 : Exa Z h0 x1 "java/lang/String") (V_x1 : Fld Z h0 x1 "java/lang/String" "value" "[B" (.ref t1)) (C_x1 : Fld Z h0 x1 "java/lang/String" "coder" "B" (.int (0 : Int32))) (K_x1 : Arv Z h0 t1 k1 .byte (1 : Int32) ((([(97 : Int32)] : List Int32).map (fun c => c.toInt8.toInt32)).map Value.int) (.int (0 : Int32))) (hp_x1 : ∀ c ∈ ([(97 : Int32)] : List Int32), ¬ c < 0 ∧ ¬ (255 : Int32) < c) (nx : x1 ≠ bB) (nt : t1 ≠ bB) (O0 : Old Z n0 h0) (O2 : Sta Z Z.heap "java/lang/String" "COMPACT_STRINGS" "Z" (.int G1)) (P5 : ¬ (G1 = (0 : Int32))) (O4 : Sta Z Z.heap "jdk/internal/util/Preconditions" "SIOOBE_FORMATTER" "Ljava/util/function/BiFunction;" G3) (rG3 : G3.isRef = true) :
    MetFree l (⟨"com/example/runs_to_scores/runstoscores/scoring/TopicJudgments", "addOnce", "(Ljava/lang/CharSequence;I)Z"⟩ : MethodName) (head1 (Jvm.Cond.code (⟨"com/example/runs_to_scores/runstoscores/scoring/TopicJudgments", "addOnce", "(Ljava/lang/CharSequence;I)Z"⟩ : MethodName) prog_83_method_2_code 4 (some .boolean) :: ws) ({ frames := 6, cells := 0, slots := 0, locals := 86 } : Room)) (fun a U => a = #[(.ref a1), (.ref x1), (.int p3)] ∧ Z.Warmed39 U.vm ∧ U.heap = h0) (fun _ _ _ _ _ => True) (fun _ U o U' => ∃ v L, o = .returned v ∧ Q8_0 Z a1 x1 p3 d1 bB bE bH bS kB kE kH kS bJ kJ t1 k1 G1 G3 h0 n0 v U'.heap L ∧ FrameEnd U o U' L ({ frames := 6, cells := 0, slots := 0, locals := 86 } : Room).cells ({ frames := 6, cells := 0, slots := 0, locals := 86 } : Room).slots) := by
  refine MetFree.of_bodySF (plainFor_of_name pn_2) hisR ?_
  intro p e s m args below meth c s₁ Bd hml0 hP hK
  obtain ⟨rfl, hZ, hh⟩ := hP
  have hx := Bd.exec
  have hby := Bd.bytes
  have hml : c.maxLocals = 4 := hml0
  have hown : s.vm.findClass "com/example/runs_to_scores/runstoscores/scoring/TopicJudgments" = some m.cls := findClass_of_methodNamed Bd.named
  have hnm := (name_of_methodNamed Bd.named Bd.method).1
  have X0 : Stand p l e ({ frames := 6, cells := 0, slots := 0, locals := 86 } : Room) s m #[(.ref a1), (.ref x1), (.int p3)] below meth c s₁ [] 0 0 := Stand.of_body Bd
  have e0 : s₁.heap = h0 := by rw [← hh, Bd.state]; rfl
  have Nf0 := Fr.nil n0
  obtain ⟨Gl, hGl, kn0⟩ : ∃ Gl : State → Prop, (∀ t, Gl t → Steps p.tables e below (s₁.setTop (entryFrame m #[(.ref a1), (.ref x1), (.int p3)] 4)) t) ∧ ∀ t, own_S p e below s₁ (mkF m 0 #[.val (.ref a1), .val (.ref x1), .val (.int p3), .unset] []) t → Gl t := ⟨fun t => Steps p.tables e below (s₁.setTop (entryFrame m #[(.ref a1), (.ref x1), (.int p3)] 4)) t, fun _ k => k, fun t k => castTop (ef_rm8_0 m a1 x1 p3) k⟩
  have ne_a1_d1 : @Ne Nat a1 d1 := by omega
  have ne_a1_bB : @Ne Nat a1 bB := by omega
  have ne_a1_bE : @Ne Nat a1 bE := by omega
  have ne_a1_bH : @Ne Nat a1 bH := by omega
  have ne_a1_bS : @Ne Nat a1 bS := by omega
  have ne_a1_bJ : @Ne Nat a1 bJ := by omega
  have ne_d1_bB : @Ne Nat d1 bB := by omega
  have ne_d1_bE : @Ne Nat d1 bE := by omega
  have ne_d1_bH : @Ne Nat d1 bH := by omega
  have ne_d1_bS : @Ne Nat d1 bS := by omega
  have ne_d1_bJ : @Ne Nat d1 bJ := by omega
  have ne_bB_bE : @Ne Nat bB bE := by omega
  have ne_bB_bH : @Ne Nat bB bH := by omega
  have ne_bB_bS : @Ne Nat bB bS := by omega
  have ne_bB_bJ : @Ne Nat bB bJ := by omega
  have ne_bE_bH : @Ne Nat bE bH := by omega
  have ne_bE_bS : @Ne Nat bE bS := by omega
  have ne_bE_bJ : @Ne Nat bE bJ := by omega
  have ne_bH_bS : @Ne Nat bH bS := by omega
  have ne_bH_bJ : @Ne Nat bH bJ := by omega
  have ne_bS_bJ : @Ne Nat bS bJ := by omega
  have g_bB : n0 ≤ bB := by omega
  have g_bE : n0 ≤ bE := by omega
  have g_bH : n0 ≤ bH := by omega
  have g_bS : n0 ≤ bS := by omega
  have g_bJ : n0 ≤ bJ := by omega
  have kn1 : ∀ t, own_S p e below s₁ (mkF m 1 #[.val (.ref a1), .val (.ref x1), .val (.int p3), .unset] [(.ref a1)]) t → Gl t := fun t kt => kn0 t (by
    show own_S p e below s₁ (mkF m 0 #[.val (.ref a1), .val (.ref x1), .val (.int p3), .unset] []) _
    refine XS.aloadN X0.here hx rfl (hb hby d_prog_83_method_2_0) rfl rfl ?_
    exact kt)
  obtain ⟨T2, X2, e2, st2⟩ := getF X0 hx hZ hown (host := "") (Or.inl (hw _ (List.mem_of_getElem? (i := 42) rfl))) Via.refl e0 FJ0 (g := (mkF m 1 #[.val (.ref a1), .val (.ref x1), .val (.int p3), .unset] [(.ref a1)])) rfl rfl (hb hby d_prog_83_method_2_1)
  have kn3 : ∀ t, own_S p e below T2 (mkF m 4 #[.val (.ref a1), .val (.ref x1), .val (.int p3), .unset] [(.ref d1)]) t → Gl t := fun t kt => kn1 t (st2 _ kt)
  have kn4 : ∀ t, own_S p e below T2 (mkF m 5 #[.val (.ref a1), .val (.ref x1), .val (.int p3), .unset] [(.ref x1), (.ref d1)]) t → Gl t := fun t kt => kn3 t (by
    show own_S p e below T2 (mkF m 4 #[.val (.ref a1), .val (.ref x1), .val (.int p3), .unset] [(.ref d1)]) _
    refine XS.aloadN X2.here hx rfl (hb hby d_prog_83_method_2_4) rfl rfl ?_
    exact kt)
  obtain ⟨cq5, kq5, qa5, qb5, qc5⟩ := isOf hZ e2 ED
  obtain ⟨_, _, ⟨T5, L5, cc5, ss5⟩, -, X5, ⟨Lc5, hQ5, l5, y5, z5⟩, st5⟩ := X2.virtualBack hx (y := (⟨"com/example/runs_to_scores/runstoscores/scoring/TopicDocnos", "add", "(Ljava/lang/CharSequence;)I"⟩ : MethodName)) (z := (⟨"com/example/runs_to_scores/runstoscores/scoring/TopicDocnos", "add", "(Ljava/lang/CharSequence;)I"⟩ : MethodName)) hown (mvT hZ (hw _ (List.mem_of_getElem? (i := 60) rfl))) (mvT hZ (hw _ (List.mem_of_getElem? (i := 61) rfl))) (notFace_of_selects (args := #[]) (mvT hZ (hw _ (List.mem_of_getElem? (i := 63) rfl)))) (mvT hZ (hw _ (List.mem_of_getElem? (i := 63) rfl))) (mvT hZ (hw _ (List.mem_of_getElem? (i := 62) rfl))) (by decide) (backOf (W := 0) (rm9_0 l Z a0 hw [] d1 x1 bB bE bH bS kB kE kH kS t1 k1 G1 G3 h0 n0 Z0 ED FD0 FD1 FD2 FD3 FD4 AD0 AD1 AD2 AD3 o1 o2 o3 o4 g_d1 E_x1 V_x1 C_x1 K_x1 hp_x1 nx nt O0 O2 P5 O4 rG3) hZ (hw _ (List.mem_of_getElem? (i := 64) rfl)) (hw _ (List.mem_of_getElem? (i := 11) rfl)) (by decide) (by decide)) qa5 qc5 (g := (mkF m 5 #[.val (.ref a1), .val (.ref x1), .val (.int p3), .unset] [(.ref x1), (.ref d1)])) rfl (by rw [hml]; rfl) (Steps.refl _) (argsL := [(.ref x1)]) (rest := []) (lenOf pd_9 rfl) rfl (by show 2 * 0 + _ ≤ _; exact Nat.le_of_eq rfl) (hb hby d_prog_83_method_2_5) (fun _ _ => ⟨rfl, e2, (by decide : 0 + 0 ≤ _), (by decide : 0 + 0 ≤ _)⟩)
  dsimp only [Pt.U, Pt.locs, Pt.cells, Pt.slots] at X5 l5 y5 z5 st5 hQ5
  subst l5 y5 z5
  obtain ⟨rfl, Nq5, K5, ED_5, FD0_5, FD1_5, FD2_5, FD3_5, FD4_5, AD0_5, AD1_5, AD2_5, AD3_5⟩ := hQ5
  have Nf5 := Fr.app Nf0 Nq5
  have Z6 : n0 ≤ T5.heap.size := Nat.le_trans Z0 K5.1
  have O7 : Old Z n0 T5.heap := O0.keep K5 (allS g_d1 (allS g_bB (allS g_bE (allS g_bH (allS g_bS all0)))))
  have K8 : Keep h0 T5.heap [d1, bB, bE, bH, bS, bJ] := (Keep.refl h0 [d1, bB, bE, bH, bS, bJ]).trans K5 (fun x hx => Or.inl (by simp only [List.mem_cons, List.not_mem_nil, or_false] at hx ⊢; rcases hx with h | h | h | h | h <;> simp [h]))
  have kn9 : ∀ t, own_S p e below T5 (mkF m 8 #[.val (.ref a1), .val (.ref x1), .val (.int p3), .unset] [(.int (0 : Int32))]) t → Gl t := fun t kt => kn4 t (st5.trans kt)
  have kn10 : ∀ t, own_S p e below T5 (mkF m 17 #[.val (.ref a1), .val (.ref x1), .val (.int p3), .val (.int (0 : Int32))] [(.ref a1), (.int (0 : Int32))]) t → Gl t := fun t kt => kn9 t (by
    show own_S p e below T5 (mkF m 8 #[.val (.ref a1), .val (.ref x1), .val (.int p3), .unset] [(.int (0 : Int32))]) _
    refine XS.istoreN X5.here hx rfl (hb hby d_prog_83_method_2_8) rfl (l' := #[.val (.ref a1), .val (.ref x1), .val (.int p3), .val (.int (0 : Int32))]) rfl ?_
    show own_S p e below T5 (mkF m 9 #[.val (.ref a1), .val (.ref x1), .val (.int p3), .val (.int (0 : Int32))] []) _
    refine XS.iloadN X5.here hx rfl (hb hby d_prog_83_method_2_9) rfl ?_
    show own_S p e below T5 (mkF m 10 #[.val (.ref a1), .val (.ref x1), .val (.int p3), .val (.int (0 : Int32))] [(.int (0 : Int32))]) _
    refine XS.ifYes X5.here hx rfl (pc0 := 10) (pc' := 15) rfl (hb hby d_prog_83_method_2_10) rfl ((if0 _ _).trans (flt (by decide : ¬ ((0 : Int32) < (0 : Int32)))).2.1) (by decide) (by decide) ?_
    show own_S p e below T5 (mkF m 15 #[.val (.ref a1), .val (.ref x1), .val (.int p3), .val (.int (0 : Int32))] []) _
    refine XS.iloadN X5.here hx rfl (hb hby d_prog_83_method_2_15) rfl ?_
    show own_S p e below T5 (mkF m 16 #[.val (.ref a1), .val (.ref x1), .val (.int p3), .val (.int (0 : Int32))] [(.int (0 : Int32))]) _
    refine XS.aloadN X5.here hx rfl (hb hby d_prog_83_method_2_16) rfl rfl ?_
    exact kt)
  have f11 := (FJ1.keep K5 (ninS ne_a1_d1 (ninS ne_a1_bB (ninS ne_a1_bE (ninS ne_a1_bH (ninS ne_a1_bS nin0))))))
  obtain ⟨T12, X12, e12, st12⟩ := getF X5 hx hZ hown (host := "") (Or.inl (hw _ (List.mem_of_getElem? (i := 44) rfl))) Via.refl rfl f11 (g := (mkF m 17 #[.val (.ref a1), .val (.ref x1), .val (.int p3), .val (.int (0 : Int32))] [(.ref a1), (.int (0 : Int32))])) rfl rfl (hb hby d_prog_83_method_2_17)
  have kn13 : ∀ t, own_S p e below T12 (mkF m 20 #[.val (.ref a1), .val (.ref x1), .val (.int p3), .val (.int (0 : Int32))] [(.ref bJ), (.int (0 : Int32))]) t → Gl t := fun t kt => kn10 t (st12 _ kt)
  have f14 := (AJ.keep K5 (ninS (Ne.symm ne_d1_bJ) (ninS (Ne.symm ne_bB_bJ) (ninS (Ne.symm ne_bE_bJ) (ninS (Ne.symm ne_bH_bJ) (ninS (Ne.symm ne_bS_bJ) nin0))))))
  obtain ⟨cl15, Ar15, -, Sz15, Ng15, -, -⟩ := id f14
  have kn16 : ∀ t, own_S p e below T12 (mkF m 39 #[.val (.ref a1), .val (.ref x1), .val (.int p3), .val (.int (0 : Int32))] [(.ref a1)]) t → Gl t := fun t kt => kn13 t (by
    show own_S p e below T12 (mkF m 20 #[.val (.ref a1), .val (.ref x1), .val (.int p3), .val (.int (0 : Int32))] [(.ref bJ), (.int (0 : Int32))]) _
    refine X12.arraylength hx (by rw [e12]; exact Ar15.1) (State.isArrayOf_alike hZ.alike Ar15.2.1) (g := (mkF m 20 #[.val (.ref a1), .val (.ref x1), .val (.int p3), .val (.int (0 : Int32))] [(.ref bJ), (.int (0 : Int32))])) rfl rfl (hb hby d_prog_83_method_2_20) _ ?_
    rw [len_of Sz15 Ng15]
    show own_S p e below T12 (mkF m 21 #[.val (.ref a1), .val (.ref x1), .val (.int p3), .val (.int (0 : Int32))] [(.int (8 : Int32)), (.int (0 : Int32))]) _
    refine XS.icmpYes X12.here hx rfl (pc0 := 21) (pc' := 38) rfl (hb hby d_prog_83_method_2_21) rfl (feq (by decide : ¬ ((0 : Int32) = (8 : Int32)))).2 (by decide) (by decide) ?_
    show own_S p e below T12 (mkF m 38 #[.val (.ref a1), .val (.ref x1), .val (.int p3), .val (.int (0 : Int32))] []) _
    refine XS.aloadN X12.here hx rfl (hb hby d_prog_83_method_2_38) rfl rfl ?_
    exact kt)
  obtain ⟨T17, X17, e17, st17⟩ := getF X12 hx hZ hown (host := "") (Or.inl (hw _ (List.mem_of_getElem? (i := 44) rfl))) Via.refl e12 f11 (g := (mkF m 39 #[.val (.ref a1), .val (.ref x1), .val (.int p3), .val (.int (0 : Int32))] [(.ref a1)])) rfl rfl (hb hby d_prog_83_method_2_39)
  have kn18 : ∀ t, own_S p e below T17 (mkF m 42 #[.val (.ref a1), .val (.ref x1), .val (.int p3), .val (.int (0 : Int32))] [(.ref bJ)]) t → Gl t := fun t kt => kn16 t (st17 _ kt)
  have kn19 : ∀ t, own_S p e below T17 (mkF m 44 #[.val (.ref a1), .val (.ref x1), .val (.int p3), .val (.int (0 : Int32))] [(.int p3), (.int (0 : Int32)), (.ref bJ)]) t → Gl t := fun t kt => kn18 t (by
    show own_S p e below T17 (mkF m 42 #[.val (.ref a1), .val (.ref x1), .val (.int p3), .val (.int (0 : Int32))] [(.ref bJ)]) _
    refine XS.iloadN X17.here hx rfl (hb hby d_prog_83_method_2_42) rfl ?_
    show own_S p e below T17 (mkF m 43 #[.val (.ref a1), .val (.ref x1), .val (.int p3), .val (.int (0 : Int32))] [(.int (0 : Int32)), (.ref bJ)]) _
    refine XS.iloadN X17.here hx rfl (hb hby d_prog_83_method_2_43) rfl ?_
    exact kt)
  obtain ⟨cl20, Ar20, q20, Sz20, Ng20, Hs20, Gs20⟩ := id f14
  have hin20 : ¬ ((0 : Int32) < 0 ∨ cl20.slots.size ≤ ((0 : Int32)).toNatClampNeg) := inb_of Sz20 ⟨by decide, by decide⟩
  obtain ⟨T20, h20, X20, e20, W20, st20⟩ := stI X17 hx hZ e17 Ar20 (j := (0 : Int32)) hin20 (g := (mkF m 44 #[.val (.ref a1), .val (.ref x1), .val (.int p3), .val (.int (0 : Int32))] [(.int p3), (.int (0 : Int32)), (.ref bJ)])) rfl rfl (hb hby d_prog_83_method_2_44)
  have Z21 : n0 ≤ h20.size := Nat.le_trans Z6 (Keep.of_wr W20).1
  have O22 : Old Z n0 h20 := O7.wr W20 g_bJ
  have K23 : Keep h0 h20 [d1, bB, bE, bH, bS, bJ] := K8.wr W20 (Or.inl (List.mem_of_getElem? (i := 5) rfl))
  have V20 : Arv Z h20 bJ kJ .int (8 : Int32) [(.int p3), (.int (0 : Int32)), (.int (0 : Int32)), (.int (0 : Int32)), (.int (0 : Int32)), (.int (0 : Int32)), (.int (0 : Int32)), (.int (0 : Int32))] (.int (0 : Int32)) := Arv.set Ar20 q20 Sz20 Ng20 Hs20 Gs20 rfl W20 0 rfl (Nat.le_of_ble_eq_true rfl)
  have Nf24 := Fr.snoc X20 Nf5 g_bJ
  have kn25 : ∀ t, own_S p e below T20 (mkF m 45 #[.val (.ref a1), .val (.ref x1), .val (.int p3), .val (.int (0 : Int32))] []) t → Gl t := fun t kt => kn19 t (st20 _ kt)
  have kn26 : ∀ t, own_S p e below T20 (mkF m 46 #[.val (.ref a1), .val (.ref x1), .val (.int p3), .val (.int (0 : Int32))] [(.int (1 : Int32))]) t → Gl t := fun t kt => kn25 t (by
    show own_S p e below T20 (mkF m 45 #[.val (.ref a1), .val (.ref x1), .val (.int p3), .val (.int (0 : Int32))] []) _
    refine XS.iconst X20.here hx rfl (hb hby d_prog_83_method_2_45) ?_
    exact kt)
  obtain ⟨fs, hr, hrun, hended, hW, hsame⟩ := X20.leave (v := some (.int (1 : Int32))) (fun h => by rw [Bd.returns] at h; cases h)
  refine ⟨_, _, hGl _ (kn26 _ (retN X20 hx (t := .boolean) Bd.returns (by simp) (hb hby d_prog_83_method_2_46) hr)), hrun, hended, _, _, rfl, ?_, ⟨_, rfl⟩, hW, hsame.mono (by decide) (by decide)⟩
  show Q8_0 Z a1 x1 p3 d1 bB bE bH bS kB kE kH kS bJ kJ t1 k1 G1 G3 h0 n0 _ T20.heap _
  rw [e20]
  have f27 := (ED_5.wr W20)
  have f28 := (FD0_5.other W20 (Or.inl ne_d1_bJ))
  have f29 := (FD1_5.other W20 (Or.inl ne_d1_bJ))
  have f30 := (FD2_5.other W20 (Or.inl ne_d1_bJ))
  have f31 := (FD3_5.other W20 (Or.inl ne_d1_bJ))
  have f32 := (FD4_5.other W20 (Or.inl ne_d1_bJ))
  have f33 := (AD0_5.other W20 ne_bB_bJ)
  have f34 := (AD1_5.other W20 ne_bE_bJ)
  have f35 := (AD2_5.other W20 ne_bH_bJ)
  have f36 := (AD3_5.other W20 ne_bS_bJ)
  exact ⟨rfl, Nf24, K23, V20, f27, f28, f29, f30, f31, f32, f33, f34, f35, f36⟩

theorem ef_rm8_1 (m : MethodId) (x0 : Addr) (x1 : Addr) (x2 : Int32) : entryFrame m #[(.ref x0), (.ref x1), (.int x2)] 4 = mkF m 0 #[.val (.ref x0), .val (.ref x1), .val (.int x2), .unset] [] := by first | (simp [entryFrame, mkF, argsToLocals, Value.category]; done) | rfl
def Q8_1 (Z : State) (a1 : Addr) (x1 : Addr) (p3 : Int32) (d1 : Addr) (bB : Addr) (bE : Addr) (bH : Addr) (bS : Addr) (kB : ClassId) (kE : ClassId) (kH : ClassId) (kS : ClassId) (bJ : Addr) (kJ : ClassId) (u0 : Int32) (t1 : Addr) (k1 : ClassId) (G1 : Int32) (G3 : Value) (h0 : Heap) (n0 : Nat) (v : Option Value) (h : Heap) (L : List Loc) : Prop := v = some (.int (1 : Int32)) ∧ Fr n0 L ∧ Keep h0 h [d1, bB, bE, bH, bS, bJ] ∧ Arv Z h bJ kJ .int (8 : Int32) [(.int u0), (.int p3), (.int (0 : Int32)), (.int (0 : Int32)), (.int (0 : Int32)), (.int (0 : Int32)), (.int (0 : Int32)), (.int (0 : Int32))] (.int (0 : Int32)) ∧ Exa Z h d1 "com/example/runs_to_scores/runstoscores/scoring/TopicDocnos" ∧ Fld Z h d1 "com/example/runs_to_scores/runstoscores/scoring/TopicDocnos" "bytes" "[B" (.ref bB) ∧ Fld Z h d1 "com/example/runs_to_scores/runstoscores/scoring/TopicDocnos" "ends" "[I" (.ref bE) ∧ Fld Z h d1 "com/example/runs_to_scores/runstoscores/scoring/TopicDocnos" "hashes" "[I" (.ref bH) ∧ Fld Z h d1 "com/example/runs_to_scores/runstoscores/scoring/TopicDocnos" "slots" "[I" (.ref bS) ∧ Fld Z h d1 "com/example/runs_to_scores/runstoscores/scoring/TopicDocnos" "size" "I" (.int (2 : Int32)) ∧ Arv Z h bB kB .byte (64 : Int32) ((.int (97 : Int32)) :: (.int (98 : Int32)) :: (.int (0 : Int32)) :: (.int (0 : Int32)) :: (.int (0 : Int32)) :: (.int (0 : Int32)) :: (.int (0 : Int32)) :: (.int (0 : Int32)) :: (.int (0 : Int32)) :: (.int (0 : Int32)) :: (.int (0 : Int32)) :: (.int (0 : Int32)) :: (.int (0 : Int32)) :: (.int (0 : Int32)) :: (.int (0 : Int32)) :: (.int (0 : Int32)) :: (.int (0 : Int32)) :: (.int (0 : Int32)) :: (.int (0 : Int32)) :: (.int (0 : Int32)) :: (.int (0 : Int32)) :: (.int (0 : Int32)) :: (.int (0 : Int32)) :: (.int (0 : Int32)) :: (.int (0 : Int32)) :: (.int (0 : Int32)) :: (.int (0 : Int32)) :: (.int (0 : Int32)) :: (.int (0 : Int32)) :: (.int (0 : Int32)) :: (.int (0 : Int32)) :: (.int (0 : Int32)) :: (.int (0 : Int32)) :: (.int (0 : Int32)) :: (.int (0 : Int32)) :: (.int (0 : Int32)) :: (.int (0 : Int32)) :: (.int (0 : Int32)) :: (.int (0 : Int32)) :: (.int (0 : Int32)) :: (.int (0 : Int32)) :: (.int (0 : Int32)) :: (.int (0 : Int32)) :: (.int (0 : Int32)) :: (.int (0 : Int32)) :: (.int (0 : Int32)) :: (.int (0 : Int32)) :: (.int (0 : Int32)) :: (.int (0 : Int32)) :: (.int (0 : Int32)) :: (.int (0 : Int32)) :: (.int (0 : Int32)) :: (.int (0 : Int32)) :: (.int (0 : Int32)) :: (.int (0 : Int32)) :: (.int (0 : Int32)) :: (.int (0 : Int32)) :: (.int (0 : Int32)) :: (.int (0 : Int32)) :: (.int (0 : Int32)) :: (.int (0 : Int32)) :: (.int (0 : Int32)) :: (.int (0 : Int32)) :: (.int (0 : Int32)) :: []) (.int (0 : Int32)) ∧ Arv Z h bE kE .int (8 : Int32) [(.int (1 : Int32)), (.int (2 : Int32)), (.int (0 : Int32)), (.int (0 : Int32)), (.int (0 : Int32)), (.int (0 : Int32)), (.int (0 : Int32)), (.int (0 : Int32))] (.int (0 : Int32)) ∧ Arv Z h bH kH .int (8 : Int32) [(.int (97 : Int32)), (.int (98 : Int32)), (.int (0 : Int32)), (.int (0 : Int32)), (.int (0 : Int32)), (.int (0 : Int32)), (.int (0 : Int32)), (.int (0 : Int32))] (.int (0 : Int32)) ∧ Arv Z h bS kS .int (16 : Int32) [(.int (0 : Int32)), (.int (1 : Int32)), (.int (2 : Int32)), (.int (0 : Int32)), (.int (0 : Int32)), (.int (0 : Int32)), (.int (0 : Int32)), (.int (0 : Int32)), (.int (0 : Int32)), (.int (0 : Int32)), (.int (0 : Int32)), (.int (0 : Int32)), (.int (0 : Int32)), (.int (0 : Int32)), (.int (0 : Int32)), (.int (0 : Int32))] (.int (0 : Int32))
set_option maxRecDepth 65536 in
set_option maxHeartbeats 40000000 in
theorem rm8_1 (l : Launch) (Z : State) (a0 : Array Value) (hw : ∀ d ∈ tables_1, d.before a0 Z = true) (ws : List Jvm.Cond) (a1 : Addr) (x1 : Addr) (p3 : Int32) (d1 : Addr) (bB : Addr) (bE : Addr) (bH : Addr) (bS : Addr) (kB : ClassId) (kE : ClassId) (kH : ClassId) (kS : ClassId) (bJ : Addr) (kJ : ClassId) (u0 : Int32) (t1 : Addr) (k1 : ClassId) (G1 : Int32) (G3 : Value) (h0 : Heap) (n0 : Nat) (Z0 : n0 ≤ h0.size) (FJ0 : Fld Z h0 a1 "com/example/runs_to_scores/runstoscores/scoring/TopicJudgments" "docnos" "Lcom/example/runs_to_scores/runstoscores/scoring/TopicDocnos;" (.ref d1)) (FJ1 : Fld Z h0 a1 "com/example/runs_to_scores/runstoscores/scoring/TopicJudgments" "judgments" "[I" (.ref bJ)) (AJ : Arv Z h0 bJ kJ .int (8 : Int32) [(.int u0), (.int (0 : Int32)), (.int (0 : Int32)), (.int (0 : Int32)), (.int (0 : Int32)), (.int (0 : Int32)), (.int (0 : Int32)), (.int (0 : Int32))] (.int (0 : Int32))) (ED : Exa Z h0 d1 "com/example/runs_to_scores/runstoscores/scoring/TopicDocnos") (FD0 : Fld Z h0 d1 "com/example/runs_to_scores/runstoscores/scoring/TopicDocnos" "bytes" "[B" (.ref bB)) (FD1 : Fld Z h0 d1 "com/example/runs_to_scores/runstoscores/scoring/TopicDocnos" "ends" "[I" (.ref bE)) (FD2 : Fld Z h0 d1 "com/example/runs_to_scores/runstoscores/scoring/TopicDocnos" "hashes" "[I" (.ref bH)) (FD3 : Fld Z h0 d1 "com/example/runs_to_scores/runstoscores/scoring/TopicDocnos" "slots" "[I" (.ref bS)) (FD4 : Fld Z h0 d1 "com/example/runs_to_scores/runstoscores/scoring/TopicDocnos" "size" "I" (.int (1 : Int32))) (AD0 : Arv Z h0 bB kB .byte (64 : Int32) ((.int (97 : Int32)) :: (.int (0 : Int32)) :: (.int (0 : Int32)) :: (.int (0 : Int32)) :: (.int (0 : Int32)) :: (.int (0 : Int32)) :: (.int (0 : Int32)) :: (.int (0 : Int32)) :: (.int (0 : Int32)) :: (.int (0 : Int32)) :: (.int (0 : Int32)) :: (.int (0 : Int32)) :: (.int (0 : Int32)) :: (.int (0 : Int32)) :: (.int (0 : Int32)) :: (.int (0 : Int32)) :: (.int (0 : Int32)) :: (.int (0 : Int32)) :: (.int (0 : Int32)) :: (.int (0 : Int32)) :: (.int (0 : Int32)) :: (.int (0 : Int32)) :: (.int (0 : Int32)) :: (.int (0 : Int32)) :: (.int (0 : Int32)) :: (.int (0 : Int32)) :: (.int (0 : Int32)) :: (.int (0 : Int32)) :: (.int (0 : Int32)) :: (.int (0 : Int32)) :: (.int (0 : Int32)) :: (.int (0 : Int32)) :: (.int (0 : Int32)) :: (.int (0 : Int32)) :: (.int (0 : Int32)) :: (.int (0 : Int32)) :: (.int (0 : Int32)) :: (.int (0 : Int32)) :: (.int (0 : Int32)) :: (.int (0 : Int32)) :: (.int (0 : Int32)) :: (.int (0 : Int32)) :: (.int (0 : Int32)) :: (.int (0 : Int32)) :: (.int (0 : Int32)) :: (.int (0 : Int32)) :: (.int (0 : Int32)) :: (.int (0 : Int32)) :: (.int (0 : Int32)) :: (.int (0 : Int32)) :: (.int (0 : Int32)) :: (.int (0 : Int32)) :: (.int (0 : Int32)) :: (.int (0 : Int32)) :: (.int (0 : Int32)) :: (.int (0 : Int32)) :: (.int (0 : Int32)) :: (.int (0 : Int32)) :: (.int (0 : Int32)) :: (.int (0 : Int32)) :: (.int (0 : Int32)) :: (.int (0 : Int32)) :: (.int (0 : Int32)) :: (.int (0 : Int32)) :: []) (.int (0 : Int32))) (AD1 : Arv Z h0 bE kE .int (8 : Int32) [(.int (1 : Int32)), (.int (0 : Int32)), (.int (0 : Int32)), (.int (0 : Int32)), (.int (0 : Int32)), (.int (0 : Int32)), (.int (0 : Int32)), (.int (0 : Int32))] (.int (0 : Int32))) (AD2 : Arv Z h0 bH kH .int (8 : Int32) [(.int (97 : Int32)), (.int (0 : Int32)), (.int (0 : Int32)), (.int (0 : Int32)), (.int (0 : Int32)), (.int (0 : Int32)), (.int (0 : Int32)), (.int (0 : Int32))] (.int (0 : Int32))) (AD3 : Arv Z h0 bS kS .int (16 : Int32) [(.int (0 : Int32)), (.int (1 : Int32)), (.int (0 : Int32)), (.int (0 : Int32)), (.int (0 : Int32)), (.int (0 : Int32)), (.int (0 : Int32)), (.int (0 : Int32)), (.int (0 : Int32)), (.int (0 : Int32)), (.int (0 : Int32)), (.int (0 : Int32)), (.int (0 : Int32)), (.int (0 : Int32)), (.int (0 : Int32)), (.int (0 : Int32))] (.int (0 : Int32))) (o0 : @LT.lt Nat _ a1 d1) (o1 : @LT.lt Nat _ d1 bB) (o2 : @LT.lt Nat _ bB bE) (o3 : @LT.lt Nat _ bE bH) (o4 : @LT.lt Nat _ bH bS) (o5 : @LT.lt Nat _ bS bJ) (g_d1 : n0 ≤ d1) (E_x1 : Exa Z h0 x1 "java/lang/String") (V_x1 : Fld Z h0 x1 "java/lang/String" "value" "[B" (.ref t1)) (C_x1 : Fld Z h0 x1 "java/lang/String" "coder" "B" (.int (0 : Int32))) (K_x1 : Arv Z h0 t1 k1 .byte (1 : Int32) ((([(98 : Int32)] : List Int32).map (fun c => c.toInt8.toInt32)).map Value.int) (.int (0 : Int32))) (hp_x1 : ∀ c ∈ ([(98 : Int32)] : List Int32), ¬ c < 0 ∧ ¬ (255 : Int32) < c) (nx : x1 ≠ bB) (nt : t1 ≠ bB) (O0 : Old Z n0 h0) (O2 : Sta Z Z.heap "java/lang/String" "COMPACT_STRINGS" "Z" (.int G1)) (P5 : ¬ (G1 = (0 : Int32))) (O4 : Sta Z Z.heap "jdk/internal/util/Preconditions" "SIOOBE_FORMATTER" "Ljava/util/function/BiFunction;" G3) (rG3 : G3.isRef = true) :
    MetFree l (⟨"com/example/runs_to_scores/runstoscores/scoring/TopicJudgments", "addOnce", "(Ljava/lang/CharSequence;I)Z"⟩ : MethodName) (head1 (Jvm.Cond.code (⟨"com/example/runs_to_scores/runstoscores/scoring/TopicJudgments", "addOnce", "(Ljava/lang/CharSequence;I)Z"⟩ : MethodName) prog_83_method_2_code 4 (some .boolean) :: ws) ({ frames := 6, cells := 0, slots := 0, locals := 86 } : Room)) (fun a U => a = #[(.ref a1), (.ref x1), (.int p3)] ∧ Z.Warmed39 U.vm ∧ U.heap = h0) (fun _ _ _ _ _ => True) (fun _ U o U' => ∃ v L, o = .returned v ∧ Q8_1 Z a1 x1 p3 d1 bB bE bH bS kB kE kH kS bJ kJ u0 t1 k1 G1 G3 h0 n0 v U'.heap L ∧ FrameEnd U o U' L ({ frames := 6, cells := 0, slots := 0, locals := 86 } : Room).cells ({ frames := 6, cells := 0, slots := 0, locals := 86 } : Room).slots) := by
  refine MetFree.of_bodySF (plainFor_of_name pn_2) hisR ?_
  intro p e s m args below meth c s₁ Bd hml0 hP hK
  obtain ⟨rfl, hZ, hh⟩ := hP
  have hx := Bd.exec
  have hby := Bd.bytes
  have hml : c.maxLocals = 4 := hml0
  have hown : s.vm.findClass "com/example/runs_to_scores/runstoscores/scoring/TopicJudgments" = some m.cls := findClass_of_methodNamed Bd.named
  have hnm := (name_of_methodNamed Bd.named Bd.method).1
  have X0 : Stand p l e ({ frames := 6, cells := 0, slots := 0, locals := 86 } : Room) s m #[(.ref a1), (.ref x1), (.int p3)] below meth c s₁ [] 0 0 := Stand.of_body Bd
  have e0 : s₁.heap = h0 := by rw [← hh, Bd.state]; rfl
  have Nf0 := Fr.nil n0
  obtain ⟨Gl, hGl, kn0⟩ : ∃ Gl : State → Prop, (∀ t, Gl t → Steps p.tables e below (s₁.setTop (entryFrame m #[(.ref a1), (.ref x1), (.int p3)] 4)) t) ∧ ∀ t, own_S p e below s₁ (mkF m 0 #[.val (.ref a1), .val (.ref x1), .val (.int p3), .unset] []) t → Gl t := ⟨fun t => Steps p.tables e below (s₁.setTop (entryFrame m #[(.ref a1), (.ref x1), (.int p3)] 4)) t, fun _ k => k, fun t k => castTop (ef_rm8_1 m a1 x1 p3) k⟩
  have ne_a1_d1 : @Ne Nat a1 d1 := by omega
  have ne_a1_bB : @Ne Nat a1 bB := by omega
  have ne_a1_bE : @Ne Nat a1 bE := by omega
  have ne_a1_bH : @Ne Nat a1 bH := by omega
  have ne_a1_bS : @Ne Nat a1 bS := by omega
  have ne_a1_bJ : @Ne Nat a1 bJ := by omega
  have ne_d1_bB : @Ne Nat d1 bB := by omega
  have ne_d1_bE : @Ne Nat d1 bE := by omega
  have ne_d1_bH : @Ne Nat d1 bH := by omega
  have ne_d1_bS : @Ne Nat d1 bS := by omega
  have ne_d1_bJ : @Ne Nat d1 bJ := by omega
  have ne_bB_bE : @Ne Nat bB bE := by omega
  have ne_bB_bH : @Ne Nat bB bH := by omega
  have ne_bB_bS : @Ne Nat bB bS := by omega
  have ne_bB_bJ : @Ne Nat bB bJ := by omega
  have ne_bE_bH : @Ne Nat bE bH := by omega
  have ne_bE_bS : @Ne Nat bE bS := by omega
  have ne_bE_bJ : @Ne Nat bE bJ := by omega
  have ne_bH_bS : @Ne Nat bH bS := by omega
  have ne_bH_bJ : @Ne Nat bH bJ := by omega
  have ne_bS_bJ : @Ne Nat bS bJ := by omega
  have g_bB : n0 ≤ bB := by omega
  have g_bE : n0 ≤ bE := by omega
  have g_bH : n0 ≤ bH := by omega
  have g_bS : n0 ≤ bS := by omega
  have g_bJ : n0 ≤ bJ := by omega
  have kn1 : ∀ t, own_S p e below s₁ (mkF m 1 #[.val (.ref a1), .val (.ref x1), .val (.int p3), .unset] [(.ref a1)]) t → Gl t := fun t kt => kn0 t (by
    show own_S p e below s₁ (mkF m 0 #[.val (.ref a1), .val (.ref x1), .val (.int p3), .unset] []) _
    refine XS.aloadN X0.here hx rfl (hb hby d_prog_83_method_2_0) rfl rfl ?_
    exact kt)
  obtain ⟨T2, X2, e2, st2⟩ := getF X0 hx hZ hown (host := "") (Or.inl (hw _ (List.mem_of_getElem? (i := 42) rfl))) Via.refl e0 FJ0 (g := (mkF m 1 #[.val (.ref a1), .val (.ref x1), .val (.int p3), .unset] [(.ref a1)])) rfl rfl (hb hby d_prog_83_method_2_1)
  have kn3 : ∀ t, own_S p e below T2 (mkF m 4 #[.val (.ref a1), .val (.ref x1), .val (.int p3), .unset] [(.ref d1)]) t → Gl t := fun t kt => kn1 t (st2 _ kt)
  have kn4 : ∀ t, own_S p e below T2 (mkF m 5 #[.val (.ref a1), .val (.ref x1), .val (.int p3), .unset] [(.ref x1), (.ref d1)]) t → Gl t := fun t kt => kn3 t (by
    show own_S p e below T2 (mkF m 4 #[.val (.ref a1), .val (.ref x1), .val (.int p3), .unset] [(.ref d1)]) _
    refine XS.aloadN X2.here hx rfl (hb hby d_prog_83_method_2_4) rfl rfl ?_
    exact kt)
  obtain ⟨cq5, kq5, qa5, qb5, qc5⟩ := isOf hZ e2 ED
  obtain ⟨_, _, ⟨T5, L5, cc5, ss5⟩, -, X5, ⟨Lc5, hQ5, l5, y5, z5⟩, st5⟩ := X2.virtualBack hx (y := (⟨"com/example/runs_to_scores/runstoscores/scoring/TopicDocnos", "add", "(Ljava/lang/CharSequence;)I"⟩ : MethodName)) (z := (⟨"com/example/runs_to_scores/runstoscores/scoring/TopicDocnos", "add", "(Ljava/lang/CharSequence;)I"⟩ : MethodName)) hown (mvT hZ (hw _ (List.mem_of_getElem? (i := 60) rfl))) (mvT hZ (hw _ (List.mem_of_getElem? (i := 61) rfl))) (notFace_of_selects (args := #[]) (mvT hZ (hw _ (List.mem_of_getElem? (i := 63) rfl)))) (mvT hZ (hw _ (List.mem_of_getElem? (i := 63) rfl))) (mvT hZ (hw _ (List.mem_of_getElem? (i := 62) rfl))) (by decide) (backOf (W := 0) (rm9_1 l Z a0 hw [] d1 x1 bB bE bH bS kB kE kH kS t1 k1 G1 G3 h0 n0 Z0 ED FD0 FD1 FD2 FD3 FD4 AD0 AD1 AD2 AD3 o1 o2 o3 o4 g_d1 E_x1 V_x1 C_x1 K_x1 hp_x1 nx nt O0 O2 P5 O4 rG3) hZ (hw _ (List.mem_of_getElem? (i := 64) rfl)) (hw _ (List.mem_of_getElem? (i := 11) rfl)) (by decide) (by decide)) qa5 qc5 (g := (mkF m 5 #[.val (.ref a1), .val (.ref x1), .val (.int p3), .unset] [(.ref x1), (.ref d1)])) rfl (by rw [hml]; rfl) (Steps.refl _) (argsL := [(.ref x1)]) (rest := []) (lenOf pd_9 rfl) rfl (by show 2 * 0 + _ ≤ _; exact Nat.le_of_eq rfl) (hb hby d_prog_83_method_2_5) (fun _ _ => ⟨rfl, e2, (by decide : 0 + 0 ≤ _), (by decide : 0 + 0 ≤ _)⟩)
  dsimp only [Pt.U, Pt.locs, Pt.cells, Pt.slots] at X5 l5 y5 z5 st5 hQ5
  subst l5 y5 z5
  obtain ⟨rfl, Nq5, K5, ED_5, FD0_5, FD1_5, FD2_5, FD3_5, FD4_5, AD0_5, AD1_5, AD2_5, AD3_5⟩ := hQ5
  have Nf5 := Fr.app Nf0 Nq5
  have Z6 : n0 ≤ T5.heap.size := Nat.le_trans Z0 K5.1
  have O7 : Old Z n0 T5.heap := O0.keep K5 (allS g_d1 (allS g_bB (allS g_bE (allS g_bH (allS g_bS all0)))))
  have K8 : Keep h0 T5.heap [d1, bB, bE, bH, bS, bJ] := (Keep.refl h0 [d1, bB, bE, bH, bS, bJ]).trans K5 (fun x hx => Or.inl (by simp only [List.mem_cons, List.not_mem_nil, or_false] at hx ⊢; rcases hx with h | h | h | h | h <;> simp [h]))
  have kn9 : ∀ t, own_S p e below T5 (mkF m 8 #[.val (.ref a1), .val (.ref x1), .val (.int p3), .unset] [(.int (1 : Int32))]) t → Gl t := fun t kt => kn4 t (st5.trans kt)
  have kn10 : ∀ t, own_S p e below T5 (mkF m 17 #[.val (.ref a1), .val (.ref x1), .val (.int p3), .val (.int (1 : Int32))] [(.ref a1), (.int (1 : Int32))]) t → Gl t := fun t kt => kn9 t (by
    show own_S p e below T5 (mkF m 8 #[.val (.ref a1), .val (.ref x1), .val (.int p3), .unset] [(.int (1 : Int32))]) _
    refine XS.istoreN X5.here hx rfl (hb hby d_prog_83_method_2_8) rfl (l' := #[.val (.ref a1), .val (.ref x1), .val (.int p3), .val (.int (1 : Int32))]) rfl ?_
    show own_S p e below T5 (mkF m 9 #[.val (.ref a1), .val (.ref x1), .val (.int p3), .val (.int (1 : Int32))] []) _
    refine XS.iloadN X5.here hx rfl (hb hby d_prog_83_method_2_9) rfl ?_
    show own_S p e below T5 (mkF m 10 #[.val (.ref a1), .val (.ref x1), .val (.int p3), .val (.int (1 : Int32))] [(.int (1 : Int32))]) _
    refine XS.ifYes X5.here hx rfl (pc0 := 10) (pc' := 15) rfl (hb hby d_prog_83_method_2_10) rfl ((if0 _ _).trans (flt (by decide : ¬ ((1 : Int32) < (0 : Int32)))).2.1) (by decide) (by decide) ?_
    show own_S p e below T5 (mkF m 15 #[.val (.ref a1), .val (.ref x1), .val (.int p3), .val (.int (1 : Int32))] []) _
    refine XS.iloadN X5.here hx rfl (hb hby d_prog_83_method_2_15) rfl ?_
    show own_S p e below T5 (mkF m 16 #[.val (.ref a1), .val (.ref x1), .val (.int p3), .val (.int (1 : Int32))] [(.int (1 : Int32))]) _
    refine XS.aloadN X5.here hx rfl (hb hby d_prog_83_method_2_16) rfl rfl ?_
    exact kt)
  have f11 := (FJ1.keep K5 (ninS ne_a1_d1 (ninS ne_a1_bB (ninS ne_a1_bE (ninS ne_a1_bH (ninS ne_a1_bS nin0))))))
  obtain ⟨T12, X12, e12, st12⟩ := getF X5 hx hZ hown (host := "") (Or.inl (hw _ (List.mem_of_getElem? (i := 44) rfl))) Via.refl rfl f11 (g := (mkF m 17 #[.val (.ref a1), .val (.ref x1), .val (.int p3), .val (.int (1 : Int32))] [(.ref a1), (.int (1 : Int32))])) rfl rfl (hb hby d_prog_83_method_2_17)
  have kn13 : ∀ t, own_S p e below T12 (mkF m 20 #[.val (.ref a1), .val (.ref x1), .val (.int p3), .val (.int (1 : Int32))] [(.ref bJ), (.int (1 : Int32))]) t → Gl t := fun t kt => kn10 t (st12 _ kt)
  have f14 := (AJ.keep K5 (ninS (Ne.symm ne_d1_bJ) (ninS (Ne.symm ne_bB_bJ) (ninS (Ne.symm ne_bE_bJ) (ninS (Ne.symm ne_bH_bJ) (ninS (Ne.symm ne_bS_bJ) nin0))))))
  obtain ⟨cl15, Ar15, -, Sz15, Ng15, -, -⟩ := id f14
  have kn16 : ∀ t, own_S p e below T12 (mkF m 39 #[.val (.ref a1), .val (.ref x1), .val (.int p3), .val (.int (1 : Int32))] [(.ref a1)]) t → Gl t := fun t kt => kn13 t (by
    show own_S p e below T12 (mkF m 20 #[.val (.ref a1), .val (.ref x1), .val (.int p3), .val (.int (1 : Int32))] [(.ref bJ), (.int (1 : Int32))]) _
    refine X12.arraylength hx (by rw [e12]; exact Ar15.1) (State.isArrayOf_alike hZ.alike Ar15.2.1) (g := (mkF m 20 #[.val (.ref a1), .val (.ref x1), .val (.int p3), .val (.int (1 : Int32))] [(.ref bJ), (.int (1 : Int32))])) rfl rfl (hb hby d_prog_83_method_2_20) _ ?_
    rw [len_of Sz15 Ng15]
    show own_S p e below T12 (mkF m 21 #[.val (.ref a1), .val (.ref x1), .val (.int p3), .val (.int (1 : Int32))] [(.int (8 : Int32)), (.int (1 : Int32))]) _
    refine XS.icmpYes X12.here hx rfl (pc0 := 21) (pc' := 38) rfl (hb hby d_prog_83_method_2_21) rfl (feq (by decide : ¬ ((1 : Int32) = (8 : Int32)))).2 (by decide) (by decide) ?_
    show own_S p e below T12 (mkF m 38 #[.val (.ref a1), .val (.ref x1), .val (.int p3), .val (.int (1 : Int32))] []) _
    refine XS.aloadN X12.here hx rfl (hb hby d_prog_83_method_2_38) rfl rfl ?_
    exact kt)
  obtain ⟨T17, X17, e17, st17⟩ := getF X12 hx hZ hown (host := "") (Or.inl (hw _ (List.mem_of_getElem? (i := 44) rfl))) Via.refl e12 f11 (g := (mkF m 39 #[.val (.ref a1), .val (.ref x1), .val (.int p3), .val (.int (1 : Int32))] [(.ref a1)])) rfl rfl (hb hby d_prog_83_method_2_39)
  have kn18 : ∀ t, own_S p e below T17 (mkF m 42 #[.val (.ref a1), .val (.ref x1), .val (.int p3), .val (.int (1 : Int32))] [(.ref bJ)]) t → Gl t := fun t kt => kn16 t (st17 _ kt)
  have kn19 : ∀ t, own_S p e below T17 (mkF m 44 #[.val (.ref a1), .val (.ref x1), .val (.int p3), .val (.int (1 : Int32))] [(.int p3), (.int (1 : Int32)), (.ref bJ)]) t → Gl t := fun t kt => kn18 t (by
    show own_S p e below T17 (mkF m 42 #[.val (.ref a1), .val (.ref x1), .val (.int p3), .val (.int (1 : Int32))] [(.ref bJ)]) _
    refine XS.iloadN X17.here hx rfl (hb hby d_prog_83_method_2_42) rfl ?_
    show own_S p e below T17 (mkF m 43 #[.val (.ref a1), .val (.ref x1), .val (.int p3), .val (.int (1 : Int32))] [(.int (1 : Int32)), (.ref bJ)]) _
    refine XS.iloadN X17.here hx rfl (hb hby d_prog_83_method_2_43) rfl ?_
    exact kt)
  obtain ⟨cl20, Ar20, q20, Sz20, Ng20, Hs20, Gs20⟩ := id f14
  have hin20 : ¬ ((1 : Int32) < 0 ∨ cl20.slots.size ≤ ((1 : Int32)).toNatClampNeg) := inb_of Sz20 ⟨by decide, by decide⟩
  obtain ⟨T20, h20, X20, e20, W20, st20⟩ := stI X17 hx hZ e17 Ar20 (j := (1 : Int32)) hin20 (g := (mkF m 44 #[.val (.ref a1), .val (.ref x1), .val (.int p3), .val (.int (1 : Int32))] [(.int p3), (.int (1 : Int32)), (.ref bJ)])) rfl rfl (hb hby d_prog_83_method_2_44)
  have Z21 : n0 ≤ h20.size := Nat.le_trans Z6 (Keep.of_wr W20).1
  have O22 : Old Z n0 h20 := O7.wr W20 g_bJ
  have K23 : Keep h0 h20 [d1, bB, bE, bH, bS, bJ] := K8.wr W20 (Or.inl (List.mem_of_getElem? (i := 5) rfl))
  have V20 : Arv Z h20 bJ kJ .int (8 : Int32) [(.int u0), (.int p3), (.int (0 : Int32)), (.int (0 : Int32)), (.int (0 : Int32)), (.int (0 : Int32)), (.int (0 : Int32)), (.int (0 : Int32))] (.int (0 : Int32)) := Arv.set Ar20 q20 Sz20 Ng20 Hs20 Gs20 rfl W20 1 rfl (Nat.le_of_ble_eq_true rfl)
  have Nf24 := Fr.snoc X20 Nf5 g_bJ
  have kn25 : ∀ t, own_S p e below T20 (mkF m 45 #[.val (.ref a1), .val (.ref x1), .val (.int p3), .val (.int (1 : Int32))] []) t → Gl t := fun t kt => kn19 t (st20 _ kt)
  have kn26 : ∀ t, own_S p e below T20 (mkF m 46 #[.val (.ref a1), .val (.ref x1), .val (.int p3), .val (.int (1 : Int32))] [(.int (1 : Int32))]) t → Gl t := fun t kt => kn25 t (by
    show own_S p e below T20 (mkF m 45 #[.val (.ref a1), .val (.ref x1), .val (.int p3), .val (.int (1 : Int32))] []) _
    refine XS.iconst X20.here hx rfl (hb hby d_prog_83_method_2_45) ?_
    exact kt)
  obtain ⟨fs, hr, hrun, hended, hW, hsame⟩ := X20.leave (v := some (.int (1 : Int32))) (fun h => by rw [Bd.returns] at h; cases h)
  refine ⟨_, _, hGl _ (kn26 _ (retN X20 hx (t := .boolean) Bd.returns (by simp) (hb hby d_prog_83_method_2_46) hr)), hrun, hended, _, _, rfl, ?_, ⟨_, rfl⟩, hW, hsame.mono (by decide) (by decide)⟩
  show Q8_1 Z a1 x1 p3 d1 bB bE bH bS kB kE kH kS bJ kJ u0 t1 k1 G1 G3 h0 n0 _ T20.heap _
  rw [e20]
  have f27 := (ED_5.wr W20)
  have f28 := (FD0_5.other W20 (Or.inl ne_d1_bJ))
  have f29 := (FD1_5.other W20 (Or.inl ne_d1_bJ))
  have f30 := (FD2_5.other W20 (Or.inl ne_d1_bJ))
  have f31 := (FD3_5.other W20 (Or.inl ne_d1_bJ))
  have f32 := (FD4_5.other W20 (Or.inl ne_d1_bJ))
  have f33 := (AD0_5.other W20 ne_bB_bJ)
  have f34 := (AD1_5.other W20 ne_bE_bJ)
  have f35 := (AD2_5.other W20 ne_bH_bJ)
  have f36 := (AD3_5.other W20 ne_bS_bJ)
  exact ⟨rfl, Nf24, K23, V20, f27, f28, f29, f30, f31, f32, f33, f34, f35, f36⟩

theorem ef_rm8_2 (m : MethodId) (x0 : Addr) (x1 : Addr) (x2 : Int32) : entryFrame m #[(.ref x0), (.ref x1), (.int x2)] 4 = mkF m 0 #[.val (.ref x0), .val (.ref x1), .val (.int x2), .unset] [] := by first | (simp [entryFrame, mkF, argsToLocals, Value.category]; done) | rfl
def Q8_2 (Z : State) (a1 : Addr) (x1 : Addr) (p3 : Int32) (d1 : Addr) (bB : Addr) (bE : Addr) (bH : Addr) (bS : Addr) (kB : ClassId) (kE : ClassId) (kH : ClassId) (kS : ClassId) (bJ : Addr) (kJ : ClassId) (u0 : Int32) (u1 : Int32) (t1 : Addr) (k1 : ClassId) (G1 : Int32) (G3 : Value) (h0 : Heap) (n0 : Nat) (v : Option Value) (h : Heap) (L : List Loc) : Prop := v = some (.int (1 : Int32)) ∧ Fr n0 L ∧ Keep h0 h [d1, bB, bE, bH, bS, bJ] ∧ Arv Z h bJ kJ .int (8 : Int32) [(.int u0), (.int u1), (.int p3), (.int (0 : Int32)), (.int (0 : Int32)), (.int (0 : Int32)), (.int (0 : Int32)), (.int (0 : Int32))] (.int (0 : Int32)) ∧ Exa Z h d1 "com/example/runs_to_scores/runstoscores/scoring/TopicDocnos" ∧ Fld Z h d1 "com/example/runs_to_scores/runstoscores/scoring/TopicDocnos" "bytes" "[B" (.ref bB) ∧ Fld Z h d1 "com/example/runs_to_scores/runstoscores/scoring/TopicDocnos" "ends" "[I" (.ref bE) ∧ Fld Z h d1 "com/example/runs_to_scores/runstoscores/scoring/TopicDocnos" "hashes" "[I" (.ref bH) ∧ Fld Z h d1 "com/example/runs_to_scores/runstoscores/scoring/TopicDocnos" "slots" "[I" (.ref bS) ∧ Fld Z h d1 "com/example/runs_to_scores/runstoscores/scoring/TopicDocnos" "size" "I" (.int (3 : Int32)) ∧ Arv Z h bB kB .byte (64 : Int32) ((.int (97 : Int32)) :: (.int (98 : Int32)) :: (.int (99 : Int32)) :: (.int (0 : Int32)) :: (.int (0 : Int32)) :: (.int (0 : Int32)) :: (.int (0 : Int32)) :: (.int (0 : Int32)) :: (.int (0 : Int32)) :: (.int (0 : Int32)) :: (.int (0 : Int32)) :: (.int (0 : Int32)) :: (.int (0 : Int32)) :: (.int (0 : Int32)) :: (.int (0 : Int32)) :: (.int (0 : Int32)) :: (.int (0 : Int32)) :: (.int (0 : Int32)) :: (.int (0 : Int32)) :: (.int (0 : Int32)) :: (.int (0 : Int32)) :: (.int (0 : Int32)) :: (.int (0 : Int32)) :: (.int (0 : Int32)) :: (.int (0 : Int32)) :: (.int (0 : Int32)) :: (.int (0 : Int32)) :: (.int (0 : Int32)) :: (.int (0 : Int32)) :: (.int (0 : Int32)) :: (.int (0 : Int32)) :: (.int (0 : Int32)) :: (.int (0 : Int32)) :: (.int (0 : Int32)) :: (.int (0 : Int32)) :: (.int (0 : Int32)) :: (.int (0 : Int32)) :: (.int (0 : Int32)) :: (.int (0 : Int32)) :: (.int (0 : Int32)) :: (.int (0 : Int32)) :: (.int (0 : Int32)) :: (.int (0 : Int32)) :: (.int (0 : Int32)) :: (.int (0 : Int32)) :: (.int (0 : Int32)) :: (.int (0 : Int32)) :: (.int (0 : Int32)) :: (.int (0 : Int32)) :: (.int (0 : Int32)) :: (.int (0 : Int32)) :: (.int (0 : Int32)) :: (.int (0 : Int32)) :: (.int (0 : Int32)) :: (.int (0 : Int32)) :: (.int (0 : Int32)) :: (.int (0 : Int32)) :: (.int (0 : Int32)) :: (.int (0 : Int32)) :: (.int (0 : Int32)) :: (.int (0 : Int32)) :: (.int (0 : Int32)) :: (.int (0 : Int32)) :: (.int (0 : Int32)) :: []) (.int (0 : Int32)) ∧ Arv Z h bE kE .int (8 : Int32) [(.int (1 : Int32)), (.int (2 : Int32)), (.int (3 : Int32)), (.int (0 : Int32)), (.int (0 : Int32)), (.int (0 : Int32)), (.int (0 : Int32)), (.int (0 : Int32))] (.int (0 : Int32)) ∧ Arv Z h bH kH .int (8 : Int32) [(.int (97 : Int32)), (.int (98 : Int32)), (.int (99 : Int32)), (.int (0 : Int32)), (.int (0 : Int32)), (.int (0 : Int32)), (.int (0 : Int32)), (.int (0 : Int32))] (.int (0 : Int32)) ∧ Arv Z h bS kS .int (16 : Int32) [(.int (0 : Int32)), (.int (1 : Int32)), (.int (2 : Int32)), (.int (3 : Int32)), (.int (0 : Int32)), (.int (0 : Int32)), (.int (0 : Int32)), (.int (0 : Int32)), (.int (0 : Int32)), (.int (0 : Int32)), (.int (0 : Int32)), (.int (0 : Int32)), (.int (0 : Int32)), (.int (0 : Int32)), (.int (0 : Int32)), (.int (0 : Int32))] (.int (0 : Int32))
set_option maxRecDepth 65536 in
set_option maxHeartbeats 40000000 in
theorem rm8_2 (l : Launch) (Z : State) (a0 : Array Value) (hw : ∀ d ∈ tables_1, d.before a0 Z = true) (ws : List Jvm.Cond) (a1 : Addr) (x1 : Addr) (p3 : Int32) (d1 : Addr) (bB : Addr) (bE : Addr) (bH : Addr) (bS : Addr) (kB : ClassId) (kE : ClassId) (kH : ClassId) (kS : ClassId) (bJ : Addr) (kJ : ClassId) (u0 : Int32) (u1 : Int32) (t1 : Addr) (k1 : ClassId) (G1 : Int32) (G3 : Value) (h0 : Heap) (n0 : Nat) (Z0 : n0 ≤ h0.size) (FJ0 : Fld Z h0 a1 "com/example/runs_to_scores/runstoscores/scoring/TopicJudgments" "docnos" "Lcom/example/runs_to_scores/runstoscores/scoring/TopicDocnos;" (.ref d1)) (FJ1 : Fld Z h0 a1 "com/example/runs_to_scores/runstoscores/scoring/TopicJudgments" "judgments" "[I" (.ref bJ)) (AJ : Arv Z h0 bJ kJ .int (8 : Int32) [(.int u0), (.int u1), (.int (0 : Int32)), (.int (0 : Int32)), (.int (0 : Int32)), (.int (0 : Int32)), (.int (0 : Int32)), (.int (0 : Int32))] (.int (0 : Int32))) (ED : Exa Z h0 d1 "com/example/runs_to_scores/runstoscores/scoring/TopicDocnos") (FD0 : Fld Z h0 d1 "com/example/runs_to_scores/runstoscores/scoring/TopicDocnos" "bytes" "[B" (.ref bB)) (FD1 : Fld Z h0 d1 "com/example/runs_to_scores/runstoscores/scoring/TopicDocnos" "ends" "[I" (.ref bE)) (FD2 : Fld Z h0 d1 "com/example/runs_to_scores/runstoscores/scoring/TopicDocnos" "hashes" "[I" (.ref bH)) (FD3 : Fld Z h0 d1 "com/example/runs_to_scores/runstoscores/scoring/TopicDocnos" "slots" "[I" (.ref bS)) (FD4 : Fld Z h0 d1 "com/example/runs_to_scores/runstoscores/scoring/TopicDocnos" "size" "I" (.int (2 : Int32))) (AD0 : Arv Z h0 bB kB .byte (64 : Int32) ((.int (97 : Int32)) :: (.int (98 : Int32)) :: (.int (0 : Int32)) :: (.int (0 : Int32)) :: (.int (0 : Int32)) :: (.int (0 : Int32)) :: (.int (0 : Int32)) :: (.int (0 : Int32)) :: (.int (0 : Int32)) :: (.int (0 : Int32)) :: (.int (0 : Int32)) :: (.int (0 : Int32)) :: (.int (0 : Int32)) :: (.int (0 : Int32)) :: (.int (0 : Int32)) :: (.int (0 : Int32)) :: (.int (0 : Int32)) :: (.int (0 : Int32)) :: (.int (0 : Int32)) :: (.int (0 : Int32)) :: (.int (0 : Int32)) :: (.int (0 : Int32)) :: (.int (0 : Int32)) :: (.int (0 : Int32)) :: (.int (0 : Int32)) :: (.int (0 : Int32)) :: (.int (0 : Int32)) :: (.int (0 : Int32)) :: (.int (0 : Int32)) :: (.int (0 : Int32)) :: (.int (0 : Int32)) :: (.int (0 : Int32)) :: (.int (0 : Int32)) :: (.int (0 : Int32)) :: (.int (0 : Int32)) :: (.int (0 : Int32)) :: (.int (0 : Int32)) :: (.int (0 : Int32)) :: (.int (0 : Int32)) :: (.int (0 : Int32)) :: (.int (0 : Int32)) :: (.int (0 : Int32)) :: (.int (0 : Int32)) :: (.int (0 : Int32)) :: (.int (0 : Int32)) :: (.int (0 : Int32)) :: (.int (0 : Int32)) :: (.int (0 : Int32)) :: (.int (0 : Int32)) :: (.int (0 : Int32)) :: (.int (0 : Int32)) :: (.int (0 : Int32)) :: (.int (0 : Int32)) :: (.int (0 : Int32)) :: (.int (0 : Int32)) :: (.int (0 : Int32)) :: (.int (0 : Int32)) :: (.int (0 : Int32)) :: (.int (0 : Int32)) :: (.int (0 : Int32)) :: (.int (0 : Int32)) :: (.int (0 : Int32)) :: (.int (0 : Int32)) :: (.int (0 : Int32)) :: []) (.int (0 : Int32))) (AD1 : Arv Z h0 bE kE .int (8 : Int32) [(.int (1 : Int32)), (.int (2 : Int32)), (.int (0 : Int32)), (.int (0 : Int32)), (.int (0 : Int32)), (.int (0 : Int32)), (.int (0 : Int32)), (.int (0 : Int32))] (.int (0 : Int32))) (AD2 : Arv Z h0 bH kH .int (8 : Int32) [(.int (97 : Int32)), (.int (98 : Int32)), (.int (0 : Int32)), (.int (0 : Int32)), (.int (0 : Int32)), (.int (0 : Int32)), (.int (0 : Int32)), (.int (0 : Int32))] (.int (0 : Int32))) (AD3 : Arv Z h0 bS kS .int (16 : Int32) [(.int (0 : Int32)), (.int (1 : Int32)), (.int (2 : Int32)), (.int (0 : Int32)), (.int (0 : Int32)), (.int (0 : Int32)), (.int (0 : Int32)), (.int (0 : Int32)), (.int (0 : Int32)), (.int (0 : Int32)), (.int (0 : Int32)), (.int (0 : Int32)), (.int (0 : Int32)), (.int (0 : Int32)), (.int (0 : Int32)), (.int (0 : Int32))] (.int (0 : Int32))) (o0 : @LT.lt Nat _ a1 d1) (o1 : @LT.lt Nat _ d1 bB) (o2 : @LT.lt Nat _ bB bE) (o3 : @LT.lt Nat _ bE bH) (o4 : @LT.lt Nat _ bH bS) (o5 : @LT.lt Nat _ bS bJ) (g_d1 : n0 ≤ d1) (E_x1 : Exa Z h0 x1 "java/lang/String") (V_x1 : Fld Z h0 x1 "java/lang/String" "value" "[B" (.ref t1)) (C_x1 : Fld Z h0 x1 "java/lang/String" "coder" "B" (.int (0 : Int32))) (K_x1 : Arv Z h0 t1 k1 .byte (1 : Int32) ((([(99 : Int32)] : List Int32).map (fun c => c.toInt8.toInt32)).map Value.int) (.int (0 : Int32))) (hp_x1 : ∀ c ∈ ([(99 : Int32)] : List Int32), ¬ c < 0 ∧ ¬ (255 : Int32) < c) (nx : x1 ≠ bB) (nt : t1 ≠ bB) (O0 : Old Z n0 h0) (O2 : Sta Z Z.heap "java/lang/String" "COMPACT_STRINGS" "Z" (.int G1)) (P5 : ¬ (G1 = (0 : Int32))) (O4 : Sta Z Z.heap "jdk/internal/util/Preconditions" "SIOOBE_FORMATTER" "Ljava/util/function/BiFunction;" G3) (rG3 : G3.isRef = true) :
    MetFree l (⟨"com/example/runs_to_scores/runstoscores/scoring/TopicJudgments", "addOnce", "(Ljava/lang/CharSequence;I)Z"⟩ : MethodName) (head1 (Jvm.Cond.code (⟨"com/example/runs_to_scores/runstoscores/scoring/TopicJudgments", "addOnce", "(Ljava/lang/CharSequence;I)Z"⟩ : MethodName) prog_83_method_2_code 4 (some .boolean) :: ws) ({ frames := 6, cells := 0, slots := 0, locals := 86 } : Room)) (fun a U => a = #[(.ref a1), (.ref x1), (.int p3)] ∧ Z.Warmed39 U.vm ∧ U.heap = h0) (fun _ _ _ _ _ => True) (fun _ U o U' => ∃ v L, o = .returned v ∧ Q8_2 Z a1 x1 p3 d1 bB bE bH bS kB kE kH kS bJ kJ u0 u1 t1 k1 G1 G3 h0 n0 v U'.heap L ∧ FrameEnd U o U' L ({ frames := 6, cells := 0, slots := 0, locals := 86 } : Room).cells ({ frames := 6, cells := 0, slots := 0, locals := 86 } : Room).slots) := by
  refine MetFree.of_bodySF (plainFor_of_name pn_2) hisR ?_
  intro p e s m args below meth c s₁ Bd hml0 hP hK
  obtain ⟨rfl, hZ, hh⟩ := hP
  have hx := Bd.exec
  have hby := Bd.bytes
  have hml : c.maxLocals = 4 := hml0
  have hown : s.vm.findClass "com/example/runs_to_scores/runstoscores/scoring/TopicJudgments" = some m.cls := findClass_of_methodNamed Bd.named
  have hnm := (name_of_methodNamed Bd.named Bd.method).1
  have X0 : Stand p l e ({ frames := 6, cells := 0, slots := 0, locals := 86 } : Room) s m #[(.ref a1), (.ref x1), (.int p3)] below meth c s₁ [] 0 0 := Stand.of_body Bd
  have e0 : s₁.heap = h0 := by rw [← hh, Bd.state]; rfl
  have Nf0 := Fr.nil n0
  obtain ⟨Gl, hGl, kn0⟩ : ∃ Gl : State → Prop, (∀ t, Gl t → Steps p.tables e below (s₁.setTop (entryFrame m #[(.ref a1), (.ref x1), (.int p3)] 4)) t) ∧ ∀ t, own_S p e below s₁ (mkF m 0 #[.val (.ref a1), .val (.ref x1), .val (.int p3), .unset] []) t → Gl t := ⟨fun t => Steps p.tables e below (s₁.setTop (entryFrame m #[(.ref a1), (.ref x1), (.int p3)] 4)) t, fun _ k => k, fun t k => castTop (ef_rm8_2 m a1 x1 p3) k⟩
  have ne_a1_d1 : @Ne Nat a1 d1 := by omega
  have ne_a1_bB : @Ne Nat a1 bB := by omega
  have ne_a1_bE : @Ne Nat a1 bE := by omega
  have ne_a1_bH : @Ne Nat a1 bH := by omega
  have ne_a1_bS : @Ne Nat a1 bS := by omega
  have ne_a1_bJ : @Ne Nat a1 bJ := by omega
  have ne_d1_bB : @Ne Nat d1 bB := by omega
  have ne_d1_bE : @Ne Nat d1 bE := by omega
  have ne_d1_bH : @Ne Nat d1 bH := by omega
  have ne_d1_bS : @Ne Nat d1 bS := by omega
  have ne_d1_bJ : @Ne Nat d1 bJ := by omega
  have ne_bB_bE : @Ne Nat bB bE := by omega
  have ne_bB_bH : @Ne Nat bB bH := by omega
  have ne_bB_bS : @Ne Nat bB bS := by omega
  have ne_bB_bJ : @Ne Nat bB bJ := by omega
  have ne_bE_bH : @Ne Nat bE bH := by omega
  have ne_bE_bS : @Ne Nat bE bS := by omega
  have ne_bE_bJ : @Ne Nat bE bJ := by omega
  have ne_bH_bS : @Ne Nat bH bS := by omega
  have ne_bH_bJ : @Ne Nat bH bJ := by omega
  have ne_bS_bJ : @Ne Nat bS bJ := by omega
  have g_bB : n0 ≤ bB := by omega
  have g_bE : n0 ≤ bE := by omega
  have g_bH : n0 ≤ bH := by omega
  have g_bS : n0 ≤ bS := by omega
  have g_bJ : n0 ≤ bJ := by omega
  have kn1 : ∀ t, own_S p e below s₁ (mkF m 1 #[.val (.ref a1), .val (.ref x1), .val (.int p3), .unset] [(.ref a1)]) t → Gl t := fun t kt => kn0 t (by
    show own_S p e below s₁ (mkF m 0 #[.val (.ref a1), .val (.ref x1), .val (.int p3), .unset] []) _
    refine XS.aloadN X0.here hx rfl (hb hby d_prog_83_method_2_0) rfl rfl ?_
    exact kt)
  obtain ⟨T2, X2, e2, st2⟩ := getF X0 hx hZ hown (host := "") (Or.inl (hw _ (List.mem_of_getElem? (i := 42) rfl))) Via.refl e0 FJ0 (g := (mkF m 1 #[.val (.ref a1), .val (.ref x1), .val (.int p3), .unset] [(.ref a1)])) rfl rfl (hb hby d_prog_83_method_2_1)
  have kn3 : ∀ t, own_S p e below T2 (mkF m 4 #[.val (.ref a1), .val (.ref x1), .val (.int p3), .unset] [(.ref d1)]) t → Gl t := fun t kt => kn1 t (st2 _ kt)
  have kn4 : ∀ t, own_S p e below T2 (mkF m 5 #[.val (.ref a1), .val (.ref x1), .val (.int p3), .unset] [(.ref x1), (.ref d1)]) t → Gl t := fun t kt => kn3 t (by
    show own_S p e below T2 (mkF m 4 #[.val (.ref a1), .val (.ref x1), .val (.int p3), .unset] [(.ref d1)]) _
    refine XS.aloadN X2.here hx rfl (hb hby d_prog_83_method_2_4) rfl rfl ?_
    exact kt)
  obtain ⟨cq5, kq5, qa5, qb5, qc5⟩ := isOf hZ e2 ED
  obtain ⟨_, _, ⟨T5, L5, cc5, ss5⟩, -, X5, ⟨Lc5, hQ5, l5, y5, z5⟩, st5⟩ := X2.virtualBack hx (y := (⟨"com/example/runs_to_scores/runstoscores/scoring/TopicDocnos", "add", "(Ljava/lang/CharSequence;)I"⟩ : MethodName)) (z := (⟨"com/example/runs_to_scores/runstoscores/scoring/TopicDocnos", "add", "(Ljava/lang/CharSequence;)I"⟩ : MethodName)) hown (mvT hZ (hw _ (List.mem_of_getElem? (i := 60) rfl))) (mvT hZ (hw _ (List.mem_of_getElem? (i := 61) rfl))) (notFace_of_selects (args := #[]) (mvT hZ (hw _ (List.mem_of_getElem? (i := 63) rfl)))) (mvT hZ (hw _ (List.mem_of_getElem? (i := 63) rfl))) (mvT hZ (hw _ (List.mem_of_getElem? (i := 62) rfl))) (by decide) (backOf (W := 0) (rm9_2 l Z a0 hw [] d1 x1 bB bE bH bS kB kE kH kS t1 k1 G1 G3 h0 n0 Z0 ED FD0 FD1 FD2 FD3 FD4 AD0 AD1 AD2 AD3 o1 o2 o3 o4 g_d1 E_x1 V_x1 C_x1 K_x1 hp_x1 nx nt O0 O2 P5 O4 rG3) hZ (hw _ (List.mem_of_getElem? (i := 64) rfl)) (hw _ (List.mem_of_getElem? (i := 11) rfl)) (by decide) (by decide)) qa5 qc5 (g := (mkF m 5 #[.val (.ref a1), .val (.ref x1), .val (.int p3), .unset] [(.ref x1), (.ref d1)])) rfl (by rw [hml]; rfl) (Steps.refl _) (argsL := [(.ref x1)]) (rest := []) (lenOf pd_9 rfl) rfl (by show 2 * 0 + _ ≤ _; exact Nat.le_of_eq rfl) (hb hby d_prog_83_method_2_5) (fun _ _ => ⟨rfl, e2, (by decide : 0 + 0 ≤ _), (by decide : 0 + 0 ≤ _)⟩)
  dsimp only [Pt.U, Pt.locs, Pt.cells, Pt.slots] at X5 l5 y5 z5 st5 hQ5
  subst l5 y5 z5
  obtain ⟨rfl, Nq5, K5, ED_5, FD0_5, FD1_5, FD2_5, FD3_5, FD4_5, AD0_5, AD1_5, AD2_5, AD3_5⟩ := hQ5
  have Nf5 := Fr.app Nf0 Nq5
  have Z6 : n0 ≤ T5.heap.size := Nat.le_trans Z0 K5.1
  have O7 : Old Z n0 T5.heap := O0.keep K5 (allS g_d1 (allS g_bB (allS g_bE (allS g_bH (allS g_bS all0)))))
  have K8 : Keep h0 T5.heap [d1, bB, bE, bH, bS, bJ] := (Keep.refl h0 [d1, bB, bE, bH, bS, bJ]).trans K5 (fun x hx => Or.inl (by simp only [List.mem_cons, List.not_mem_nil, or_false] at hx ⊢; rcases hx with h | h | h | h | h <;> simp [h]))
  have kn9 : ∀ t, own_S p e below T5 (mkF m 8 #[.val (.ref a1), .val (.ref x1), .val (.int p3), .unset] [(.int (2 : Int32))]) t → Gl t := fun t kt => kn4 t (st5.trans kt)
  have kn10 : ∀ t, own_S p e below T5 (mkF m 17 #[.val (.ref a1), .val (.ref x1), .val (.int p3), .val (.int (2 : Int32))] [(.ref a1), (.int (2 : Int32))]) t → Gl t := fun t kt => kn9 t (by
    show own_S p e below T5 (mkF m 8 #[.val (.ref a1), .val (.ref x1), .val (.int p3), .unset] [(.int (2 : Int32))]) _
    refine XS.istoreN X5.here hx rfl (hb hby d_prog_83_method_2_8) rfl (l' := #[.val (.ref a1), .val (.ref x1), .val (.int p3), .val (.int (2 : Int32))]) rfl ?_
    show own_S p e below T5 (mkF m 9 #[.val (.ref a1), .val (.ref x1), .val (.int p3), .val (.int (2 : Int32))] []) _
    refine XS.iloadN X5.here hx rfl (hb hby d_prog_83_method_2_9) rfl ?_
    show own_S p e below T5 (mkF m 10 #[.val (.ref a1), .val (.ref x1), .val (.int p3), .val (.int (2 : Int32))] [(.int (2 : Int32))]) _
    refine XS.ifYes X5.here hx rfl (pc0 := 10) (pc' := 15) rfl (hb hby d_prog_83_method_2_10) rfl ((if0 _ _).trans (flt (by decide : ¬ ((2 : Int32) < (0 : Int32)))).2.1) (by decide) (by decide) ?_
    show own_S p e below T5 (mkF m 15 #[.val (.ref a1), .val (.ref x1), .val (.int p3), .val (.int (2 : Int32))] []) _
    refine XS.iloadN X5.here hx rfl (hb hby d_prog_83_method_2_15) rfl ?_
    show own_S p e below T5 (mkF m 16 #[.val (.ref a1), .val (.ref x1), .val (.int p3), .val (.int (2 : Int32))] [(.int (2 : Int32))]) _
    refine XS.aloadN X5.here hx rfl (hb hby d_prog_83_method_2_16) rfl rfl ?_
    exact kt)
  have f11 := (FJ1.keep K5 (ninS ne_a1_d1 (ninS ne_a1_bB (ninS ne_a1_bE (ninS ne_a1_bH (ninS ne_a1_bS nin0))))))
  obtain ⟨T12, X12, e12, st12⟩ := getF X5 hx hZ hown (host := "") (Or.inl (hw _ (List.mem_of_getElem? (i := 44) rfl))) Via.refl rfl f11 (g := (mkF m 17 #[.val (.ref a1), .val (.ref x1), .val (.int p3), .val (.int (2 : Int32))] [(.ref a1), (.int (2 : Int32))])) rfl rfl (hb hby d_prog_83_method_2_17)
  have kn13 : ∀ t, own_S p e below T12 (mkF m 20 #[.val (.ref a1), .val (.ref x1), .val (.int p3), .val (.int (2 : Int32))] [(.ref bJ), (.int (2 : Int32))]) t → Gl t := fun t kt => kn10 t (st12 _ kt)
  have f14 := (AJ.keep K5 (ninS (Ne.symm ne_d1_bJ) (ninS (Ne.symm ne_bB_bJ) (ninS (Ne.symm ne_bE_bJ) (ninS (Ne.symm ne_bH_bJ) (ninS (Ne.symm ne_bS_bJ) nin0))))))
  obtain ⟨cl15, Ar15, -, Sz15, Ng15, -, -⟩ := id f14
  have kn16 : ∀ t, own_S p e below T12 (mkF m 39 #[.val (.ref a1), .val (.ref x1), .val (.int p3), .val (.int (2 : Int32))] [(.ref a1)]) t → Gl t := fun t kt => kn13 t (by
    show own_S p e below T12 (mkF m 20 #[.val (.ref a1), .val (.ref x1), .val (.int p3), .val (.int (2 : Int32))] [(.ref bJ), (.int (2 : Int32))]) _
    refine X12.arraylength hx (by rw [e12]; exact Ar15.1) (State.isArrayOf_alike hZ.alike Ar15.2.1) (g := (mkF m 20 #[.val (.ref a1), .val (.ref x1), .val (.int p3), .val (.int (2 : Int32))] [(.ref bJ), (.int (2 : Int32))])) rfl rfl (hb hby d_prog_83_method_2_20) _ ?_
    rw [len_of Sz15 Ng15]
    show own_S p e below T12 (mkF m 21 #[.val (.ref a1), .val (.ref x1), .val (.int p3), .val (.int (2 : Int32))] [(.int (8 : Int32)), (.int (2 : Int32))]) _
    refine XS.icmpYes X12.here hx rfl (pc0 := 21) (pc' := 38) rfl (hb hby d_prog_83_method_2_21) rfl (feq (by decide : ¬ ((2 : Int32) = (8 : Int32)))).2 (by decide) (by decide) ?_
    show own_S p e below T12 (mkF m 38 #[.val (.ref a1), .val (.ref x1), .val (.int p3), .val (.int (2 : Int32))] []) _
    refine XS.aloadN X12.here hx rfl (hb hby d_prog_83_method_2_38) rfl rfl ?_
    exact kt)
  obtain ⟨T17, X17, e17, st17⟩ := getF X12 hx hZ hown (host := "") (Or.inl (hw _ (List.mem_of_getElem? (i := 44) rfl))) Via.refl e12 f11 (g := (mkF m 39 #[.val (.ref a1), .val (.ref x1), .val (.int p3), .val (.int (2 : Int32))] [(.ref a1)])) rfl rfl (hb hby d_prog_83_method_2_39)
  have kn18 : ∀ t, own_S p e below T17 (mkF m 42 #[.val (.ref a1), .val (.ref x1), .val (.int p3), .val (.int (2 : Int32))] [(.ref bJ)]) t → Gl t := fun t kt => kn16 t (st17 _ kt)
  have kn19 : ∀ t, own_S p e below T17 (mkF m 44 #[.val (.ref a1), .val (.ref x1), .val (.int p3), .val (.int (2 : Int32))] [(.int p3), (.int (2 : Int32)), (.ref bJ)]) t → Gl t := fun t kt => kn18 t (by
    show own_S p e below T17 (mkF m 42 #[.val (.ref a1), .val (.ref x1), .val (.int p3), .val (.int (2 : Int32))] [(.ref bJ)]) _
    refine XS.iloadN X17.here hx rfl (hb hby d_prog_83_method_2_42) rfl ?_
    show own_S p e below T17 (mkF m 43 #[.val (.ref a1), .val (.ref x1), .val (.int p3), .val (.int (2 : Int32))] [(.int (2 : Int32)), (.ref bJ)]) _
    refine XS.iloadN X17.here hx rfl (hb hby d_prog_83_method_2_43) rfl ?_
    exact kt)
  obtain ⟨cl20, Ar20, q20, Sz20, Ng20, Hs20, Gs20⟩ := id f14
  have hin20 : ¬ ((2 : Int32) < 0 ∨ cl20.slots.size ≤ ((2 : Int32)).toNatClampNeg) := inb_of Sz20 ⟨by decide, by decide⟩
  obtain ⟨T20, h20, X20, e20, W20, st20⟩ := stI X17 hx hZ e17 Ar20 (j := (2 : Int32)) hin20 (g := (mkF m 44 #[.val (.ref a1), .val (.ref x1), .val (.int p3), .val (.int (2 : Int32))] [(.int p3), (.int (2 : Int32)), (.ref bJ)])) rfl rfl (hb hby d_prog_83_method_2_44)
  have Z21 : n0 ≤ h20.size := Nat.le_trans Z6 (Keep.of_wr W20).1
  have O22 : Old Z n0 h20 := O7.wr W20 g_bJ
  have K23 : Keep h0 h20 [d1, bB, bE, bH, bS, bJ] := K8.wr W20 (Or.inl (List.mem_of_getElem? (i := 5) rfl))
  have V20 : Arv Z h20 bJ kJ .int (8 : Int32) [(.int u0), (.int u1), (.int p3), (.int (0 : Int32)), (.int (0 : Int32)), (.int (0 : Int32)), (.int (0 : Int32)), (.int (0 : Int32))] (.int (0 : Int32)) := Arv.set Ar20 q20 Sz20 Ng20 Hs20 Gs20 rfl W20 2 rfl (Nat.le_of_ble_eq_true rfl)
  have Nf24 := Fr.snoc X20 Nf5 g_bJ
  have kn25 : ∀ t, own_S p e below T20 (mkF m 45 #[.val (.ref a1), .val (.ref x1), .val (.int p3), .val (.int (2 : Int32))] []) t → Gl t := fun t kt => kn19 t (st20 _ kt)
  have kn26 : ∀ t, own_S p e below T20 (mkF m 46 #[.val (.ref a1), .val (.ref x1), .val (.int p3), .val (.int (2 : Int32))] [(.int (1 : Int32))]) t → Gl t := fun t kt => kn25 t (by
    show own_S p e below T20 (mkF m 45 #[.val (.ref a1), .val (.ref x1), .val (.int p3), .val (.int (2 : Int32))] []) _
    refine XS.iconst X20.here hx rfl (hb hby d_prog_83_method_2_45) ?_
    exact kt)
  obtain ⟨fs, hr, hrun, hended, hW, hsame⟩ := X20.leave (v := some (.int (1 : Int32))) (fun h => by rw [Bd.returns] at h; cases h)
  refine ⟨_, _, hGl _ (kn26 _ (retN X20 hx (t := .boolean) Bd.returns (by simp) (hb hby d_prog_83_method_2_46) hr)), hrun, hended, _, _, rfl, ?_, ⟨_, rfl⟩, hW, hsame.mono (by decide) (by decide)⟩
  show Q8_2 Z a1 x1 p3 d1 bB bE bH bS kB kE kH kS bJ kJ u0 u1 t1 k1 G1 G3 h0 n0 _ T20.heap _
  rw [e20]
  have f27 := (ED_5.wr W20)
  have f28 := (FD0_5.other W20 (Or.inl ne_d1_bJ))
  have f29 := (FD1_5.other W20 (Or.inl ne_d1_bJ))
  have f30 := (FD2_5.other W20 (Or.inl ne_d1_bJ))
  have f31 := (FD3_5.other W20 (Or.inl ne_d1_bJ))
  have f32 := (FD4_5.other W20 (Or.inl ne_d1_bJ))
  have f33 := (AD0_5.other W20 ne_bB_bJ)
  have f34 := (AD1_5.other W20 ne_bE_bJ)
  have f35 := (AD2_5.other W20 ne_bH_bJ)
  have f36 := (AD3_5.other W20 ne_bS_bJ)
  exact ⟨rfl, Nf24, K23, V20, f27, f28, f29, f30, f31, f32, f33, f34, f35, f36⟩

theorem d_prog_83_method_6_0 : decode prog_83_method_6_code 0 = .ok (.iload_n 1, 1) := by decide +kernel
theorem d_prog_83_method_6_1 : decode prog_83_method_6_code 1 = .ok (.ifCond .ge 7, 3) := by decide +kernel
theorem d_prog_83_method_6_8 : decode prog_83_method_6_code 8 = .ok (.aload_n 0, 1) := by decide +kernel
theorem d_prog_83_method_6_9 : decode prog_83_method_6_code 9 = .ok (.getfield 16, 3) := by decide +kernel
theorem d_prog_83_method_6_12 : decode prog_83_method_6_code 12 = .ok (.iload_n 1, 1) := by decide +kernel
theorem d_prog_83_method_6_13 : decode prog_83_method_6_code 13 = .ok (.iaload, 1) := by decide +kernel
theorem d_prog_83_method_6_14 : decode prog_83_method_6_code 14 = .ok (.iconst 0, 1) := by decide +kernel
theorem d_prog_83_method_6_15 : decode prog_83_method_6_code 15 = .ok (.invokestatic 52, 3) := by decide +kernel
theorem d_prog_83_method_6_18 : decode prog_83_method_6_code 18 = .ok (.ireturn, 1) := by decide +kernel
theorem ef_rm22_0 (m : MethodId) (x0 : Addr) : entryFrame m #[(.ref x0), (.int (0 : Int32))] 2 = mkF m 0 #[.val (.ref x0), .val (.int (0 : Int32))] [] := by first | (simp [entryFrame, mkF, argsToLocals, Value.category]; done) | rfl
def Q22_0 (Z : State) (a1 : Addr) (bJ : Addr) (kJ : ClassId) (u0 : Int32) (u1 : Int32) (u2 : Int32) (h0 : Heap) (n0 : Nat) (v : Option Value) (h : Heap) (L : List Loc) : Prop := v = some (.int (own_mx u0 (0 : Int32))) ∧ Fr n0 L ∧ h = h0
set_option maxRecDepth 65536 in
set_option maxHeartbeats 40000000 in
theorem rm22_0 (l : Launch) (Z : State) (a0 : Array Value) (hw : ∀ d ∈ tables_1, d.before a0 Z = true) (ws : List Jvm.Cond) (a1 : Addr) (bJ : Addr) (kJ : ClassId) (u0 : Int32) (u1 : Int32) (u2 : Int32) (h0 : Heap) (n0 : Nat) (Z0 : n0 ≤ h0.size) (F1 : Fld Z h0 a1 "com/example/runs_to_scores/runstoscores/scoring/TopicJudgments" "judgments" "[I" (.ref bJ)) (A1 : Arv Z h0 bJ kJ .int (8 : Int32) [(.int u0), (.int u1), (.int u2), (.int (0 : Int32)), (.int (0 : Int32)), (.int (0 : Int32)), (.int (0 : Int32)), (.int (0 : Int32))] (.int (0 : Int32))) :
    MetFree l (⟨"com/example/runs_to_scores/runstoscores/scoring/TopicJudgments", "gainAt", "(I)I"⟩ : MethodName) (head1 (Jvm.Cond.code (⟨"com/example/runs_to_scores/runstoscores/scoring/TopicJudgments", "gainAt", "(I)I"⟩ : MethodName) prog_83_method_6_code 2 (some .int) :: ws) ({ frames := 1, cells := 0, slots := 0, locals := 13 } : Room)) (fun a U => a = #[(.ref a1), (.int (0 : Int32))] ∧ Z.Warmed39 U.vm ∧ U.heap = h0) (fun _ _ _ _ _ => True) (fun _ U o U' => ∃ v L, o = .returned v ∧ Q22_0 Z a1 bJ kJ u0 u1 u2 h0 n0 v U'.heap L ∧ FrameEnd U o U' L ({ frames := 1, cells := 0, slots := 0, locals := 13 } : Room).cells ({ frames := 1, cells := 0, slots := 0, locals := 13 } : Room).slots) := by
  refine MetFree.of_bodySF (plainFor_of_name pn_2) hisR ?_
  intro p e s m args below meth c s₁ Bd hml0 hP hK
  obtain ⟨rfl, hZ, hh⟩ := hP
  have hx := Bd.exec
  have hby := Bd.bytes
  have hml : c.maxLocals = 2 := hml0
  have hown : s.vm.findClass "com/example/runs_to_scores/runstoscores/scoring/TopicJudgments" = some m.cls := findClass_of_methodNamed Bd.named
  have hnm := (name_of_methodNamed Bd.named Bd.method).1
  have X0 : Stand p l e ({ frames := 1, cells := 0, slots := 0, locals := 13 } : Room) s m #[(.ref a1), (.int (0 : Int32))] below meth c s₁ [] 0 0 := Stand.of_body Bd
  have e0 : s₁.heap = h0 := by rw [← hh, Bd.state]; rfl
  have Nf0 := Fr.nil n0
  obtain ⟨Gl, hGl, kn0⟩ : ∃ Gl : State → Prop, (∀ t, Gl t → Steps p.tables e below (s₁.setTop (entryFrame m #[(.ref a1), (.int (0 : Int32))] 2)) t) ∧ ∀ t, own_S p e below s₁ (mkF m 0 #[.val (.ref a1), .val (.int (0 : Int32))] []) t → Gl t := ⟨fun t => Steps p.tables e below (s₁.setTop (entryFrame m #[(.ref a1), (.int (0 : Int32))] 2)) t, fun _ k => k, fun t k => castTop (ef_rm22_0 m a1) k⟩
  have kn1 : ∀ t, own_S p e below s₁ (mkF m 9 #[.val (.ref a1), .val (.int (0 : Int32))] [(.ref a1)]) t → Gl t := fun t kt => kn0 t (by
    show own_S p e below s₁ (mkF m 0 #[.val (.ref a1), .val (.int (0 : Int32))] []) _
    refine XS.iloadN X0.here hx rfl (hb hby d_prog_83_method_6_0) rfl ?_
    show own_S p e below s₁ (mkF m 1 #[.val (.ref a1), .val (.int (0 : Int32))] [(.int (0 : Int32))]) _
    refine XS.ifYes X0.here hx rfl (pc0 := 1) (pc' := 8) rfl (hb hby d_prog_83_method_6_1) rfl ((if0 _ _).trans (flt (by decide : ¬ ((0 : Int32) < (0 : Int32)))).2.1) (by decide) (by decide) ?_
    show own_S p e below s₁ (mkF m 8 #[.val (.ref a1), .val (.int (0 : Int32))] []) _
    refine XS.aloadN X0.here hx rfl (hb hby d_prog_83_method_6_8) rfl rfl ?_
    exact kt)
  obtain ⟨T2, X2, e2, st2⟩ := getF X0 hx hZ hown (host := "") (Or.inl (hw _ (List.mem_of_getElem? (i := 44) rfl))) Via.refl e0 F1 (g := (mkF m 9 #[.val (.ref a1), .val (.int (0 : Int32))] [(.ref a1)])) rfl rfl (hb hby d_prog_83_method_6_9)
  have kn3 : ∀ t, own_S p e below T2 (mkF m 12 #[.val (.ref a1), .val (.int (0 : Int32))] [(.ref bJ)]) t → Gl t := fun t kt => kn1 t (st2 _ kt)
  have kn4 : ∀ t, own_S p e below T2 (mkF m 13 #[.val (.ref a1), .val (.int (0 : Int32))] [(.int (0 : Int32)), (.ref bJ)]) t → Gl t := fun t kt => kn3 t (by
    show own_S p e below T2 (mkF m 12 #[.val (.ref a1), .val (.int (0 : Int32))] [(.ref bJ)]) _
    refine XS.iloadN X2.here hx rfl (hb hby d_prog_83_method_6_12) rfl ?_
    exact kt)
  obtain ⟨cl5, Ar5, q5, Sz5, Ng5, Hs5, Gs5⟩ := id A1
  have hin5 : ¬ ((0 : Int32) < 0 ∨ cl5.slots.size ≤ ((0 : Int32)).toNatClampNeg) := inb_of Sz5 ⟨by decide, by decide⟩
  have hat5 : cl5.slots[((0 : Int32)).toNatClampNeg]? = some (.int u0) := Hs5.at hin5 rfl
  have kn6 : ∀ t, own_S p e below T2 (mkF m 15 #[.val (.ref a1), .val (.int (0 : Int32))] [(.int (0 : Int32)), (.int u0)]) t → Gl t := fun t kt => kn4 t (by
    show own_S p e below T2 (mkF m 13 #[.val (.ref a1), .val (.int (0 : Int32))] [(.int (0 : Int32)), (.ref bJ)]) _
    refine X2.iaload hx (j := (0 : Int32)) (v := (.int u0)) (by rw [e2]; exact Ar5.1) (State.isArrayOf_alike hZ.alike Ar5.2.1) Ar5.2.2 hin5 hat5 (g := (mkF m 13 #[.val (.ref a1), .val (.int (0 : Int32))] [(.int (0 : Int32)), (.ref bJ)])) rfl rfl (hb hby d_prog_83_method_6_13) _ ?_
    show own_S p e below T2 (mkF m 14 #[.val (.ref a1), .val (.int (0 : Int32))] [(.int u0)]) _
    refine XS.iconst X2.here hx rfl (hb hby d_prog_83_method_6_14) ?_
    exact kt)
  obtain ⟨_, _, ⟨T7, L7, cc7, ss7⟩, -, X7, ⟨Lc7, hQ7, l7, y7, z7⟩, st7⟩ := Jvm.LawKit.callS X2 hx (y := (⟨"java/lang/Math", "max", "(II)I"⟩ : MethodName)) hown (mvT hZ (hw _ (List.mem_of_getElem? (i := 134) rfl))) (mvT hZ (hw _ (List.mem_of_getElem? (i := 20) rfl))) (mvT hZ (hw _ (List.mem_of_getElem? (i := 21) rfl))) (mvT hZ (hw _ (List.mem_of_getElem? (i := 22) rfl))) (by decide) (backOf (W := 0) (rm5 l Z a0 hw [] u0 (0 : Int32)  h0 n0 Z0 ) hZ (hw _ (List.mem_of_getElem? (i := 22) rfl)) (hw _ (List.mem_of_getElem? (i := 21) rfl)) (by decide) (by decide)) (g := (mkF m 15 #[.val (.ref a1), .val (.int (0 : Int32))] [(.int (0 : Int32)), (.int u0)])) rfl (by rw [hml]; rfl) (argsL := [(.int u0), (.int (0 : Int32))]) (rest := []) (lenOf pd_1 rfl) rfl (by show 2 * 0 + _ ≤ _; exact Nat.le_of_eq rfl) (hb hby d_prog_83_method_6_15) (fun _ _ => ⟨rfl, e2, (by decide : 0 + 0 ≤ _), (by decide : 0 + 0 ≤ _)⟩)
  dsimp only [Pt.U, Pt.locs, Pt.cells, Pt.slots] at X7 l7 y7 z7 st7 hQ7
  subst l7 y7 z7
  obtain ⟨rfl, Nq7, eq7⟩ := hQ7
  have Nf7 := Fr.app Nf0 Nq7
  have kn8 : ∀ t, own_S p e below T7 (mkF m 18 #[.val (.ref a1), .val (.int (0 : Int32))] [(.int (own_mx u0 (0 : Int32)))]) t → Gl t := fun t kt => kn6 t (st7 _ kt)
  obtain ⟨fs, hr, hrun, hended, hW, hsame⟩ := X7.leave (v := some (.int (own_mx u0 (0 : Int32)))) (fun h => by rw [Bd.returns] at h; cases h)
  refine ⟨_, _, hGl _ (kn8 _ (retI X7 hx Bd.returns (hb hby d_prog_83_method_6_18) hr)), hrun, hended, _, _, rfl, ?_, ⟨_, rfl⟩, hW, hsame.mono (by decide) (by decide)⟩
  show Q22_0 Z a1 bJ kJ u0 u1 u2 h0 n0 _ T7.heap _
  rw [eq7]
  exact ⟨rfl, Nf7, rfl⟩

theorem ef_rm22_1 (m : MethodId) (x0 : Addr) : entryFrame m #[(.ref x0), (.int (1 : Int32))] 2 = mkF m 0 #[.val (.ref x0), .val (.int (1 : Int32))] [] := by first | (simp [entryFrame, mkF, argsToLocals, Value.category]; done) | rfl
def Q22_1 (Z : State) (a1 : Addr) (bJ : Addr) (kJ : ClassId) (u0 : Int32) (u1 : Int32) (u2 : Int32) (h0 : Heap) (n0 : Nat) (v : Option Value) (h : Heap) (L : List Loc) : Prop := v = some (.int (own_mx u1 (0 : Int32))) ∧ Fr n0 L ∧ h = h0
set_option maxRecDepth 65536 in
set_option maxHeartbeats 40000000 in
theorem rm22_1 (l : Launch) (Z : State) (a0 : Array Value) (hw : ∀ d ∈ tables_1, d.before a0 Z = true) (ws : List Jvm.Cond) (a1 : Addr) (bJ : Addr) (kJ : ClassId) (u0 : Int32) (u1 : Int32) (u2 : Int32) (h0 : Heap) (n0 : Nat) (Z0 : n0 ≤ h0.size) (F1 : Fld Z h0 a1 "com/example/runs_to_scores/runstoscores/scoring/TopicJudgments" "judgments" "[I" (.ref bJ)) (A1 : Arv Z h0 bJ kJ .int (8 : Int32) [(.int u0), (.int u1), (.int u2), (.int (0 : Int32)), (.int (0 : Int32)), (.int (0 : Int32)), (.int (0 : Int32)), (.int (0 : Int32))] (.int (0 : Int32))) :
    MetFree l (⟨"com/example/runs_to_scores/runstoscores/scoring/TopicJudgments", "gainAt", "(I)I"⟩ : MethodName) (head1 (Jvm.Cond.code (⟨"com/example/runs_to_scores/runstoscores/scoring/TopicJudgments", "gainAt", "(I)I"⟩ : MethodName) prog_83_method_6_code 2 (some .int) :: ws) ({ frames := 1, cells := 0, slots := 0, locals := 13 } : Room)) (fun a U => a = #[(.ref a1), (.int (1 : Int32))] ∧ Z.Warmed39 U.vm ∧ U.heap = h0) (fun _ _ _ _ _ => True) (fun _ U o U' => ∃ v L, o = .returned v ∧ Q22_1 Z a1 bJ kJ u0 u1 u2 h0 n0 v U'.heap L ∧ FrameEnd U o U' L ({ frames := 1, cells := 0, slots := 0, locals := 13 } : Room).cells ({ frames := 1, cells := 0, slots := 0, locals := 13 } : Room).slots) := by
  refine MetFree.of_bodySF (plainFor_of_name pn_2) hisR ?_
  intro p e s m args below meth c s₁ Bd hml0 hP hK
  obtain ⟨rfl, hZ, hh⟩ := hP
  have hx := Bd.exec
  have hby := Bd.bytes
  have hml : c.maxLocals = 2 := hml0
  have hown : s.vm.findClass "com/example/runs_to_scores/runstoscores/scoring/TopicJudgments" = some m.cls := findClass_of_methodNamed Bd.named
  have hnm := (name_of_methodNamed Bd.named Bd.method).1
  have X0 : Stand p l e ({ frames := 1, cells := 0, slots := 0, locals := 13 } : Room) s m #[(.ref a1), (.int (1 : Int32))] below meth c s₁ [] 0 0 := Stand.of_body Bd
  have e0 : s₁.heap = h0 := by rw [← hh, Bd.state]; rfl
  have Nf0 := Fr.nil n0
  obtain ⟨Gl, hGl, kn0⟩ : ∃ Gl : State → Prop, (∀ t, Gl t → Steps p.tables e below (s₁.setTop (entryFrame m #[(.ref a1), (.int (1 : Int32))] 2)) t) ∧ ∀ t, own_S p e below s₁ (mkF m 0 #[.val (.ref a1), .val (.int (1 : Int32))] []) t → Gl t := ⟨fun t => Steps p.tables e below (s₁.setTop (entryFrame m #[(.ref a1), (.int (1 : Int32))] 2)) t, fun _ k => k, fun t k => castTop (ef_rm22_1 m a1) k⟩
  have kn1 : ∀ t, own_S p e below s₁ (mkF m 9 #[.val (.ref a1), .val (.int (1 : Int32))] [(.ref a1)]) t → Gl t := fun t kt => kn0 t (by
    show own_S p e below s₁ (mkF m 0 #[.val (.ref a1), .val (.int (1 : Int32))] []) _
    refine XS.iloadN X0.here hx rfl (hb hby d_prog_83_method_6_0) rfl ?_
    show own_S p e below s₁ (mkF m 1 #[.val (.ref a1), .val (.int (1 : Int32))] [(.int (1 : Int32))]) _
    refine XS.ifYes X0.here hx rfl (pc0 := 1) (pc' := 8) rfl (hb hby d_prog_83_method_6_1) rfl ((if0 _ _).trans (flt (by decide : ¬ ((1 : Int32) < (0 : Int32)))).2.1) (by decide) (by decide) ?_
    show own_S p e below s₁ (mkF m 8 #[.val (.ref a1), .val (.int (1 : Int32))] []) _
    refine XS.aloadN X0.here hx rfl (hb hby d_prog_83_method_6_8) rfl rfl ?_
    exact kt)
  obtain ⟨T2, X2, e2, st2⟩ := getF X0 hx hZ hown (host := "") (Or.inl (hw _ (List.mem_of_getElem? (i := 44) rfl))) Via.refl e0 F1 (g := (mkF m 9 #[.val (.ref a1), .val (.int (1 : Int32))] [(.ref a1)])) rfl rfl (hb hby d_prog_83_method_6_9)
  have kn3 : ∀ t, own_S p e below T2 (mkF m 12 #[.val (.ref a1), .val (.int (1 : Int32))] [(.ref bJ)]) t → Gl t := fun t kt => kn1 t (st2 _ kt)
  have kn4 : ∀ t, own_S p e below T2 (mkF m 13 #[.val (.ref a1), .val (.int (1 : Int32))] [(.int (1 : Int32)), (.ref bJ)]) t → Gl t := fun t kt => kn3 t (by
    show own_S p e below T2 (mkF m 12 #[.val (.ref a1), .val (.int (1 : Int32))] [(.ref bJ)]) _
    refine XS.iloadN X2.here hx rfl (hb hby d_prog_83_method_6_12) rfl ?_
    exact kt)
  obtain ⟨cl5, Ar5, q5, Sz5, Ng5, Hs5, Gs5⟩ := id A1
  have hin5 : ¬ ((1 : Int32) < 0 ∨ cl5.slots.size ≤ ((1 : Int32)).toNatClampNeg) := inb_of Sz5 ⟨by decide, by decide⟩
  have hat5 : cl5.slots[((1 : Int32)).toNatClampNeg]? = some (.int u1) := Hs5.at hin5 rfl
  have kn6 : ∀ t, own_S p e below T2 (mkF m 15 #[.val (.ref a1), .val (.int (1 : Int32))] [(.int (0 : Int32)), (.int u1)]) t → Gl t := fun t kt => kn4 t (by
    show own_S p e below T2 (mkF m 13 #[.val (.ref a1), .val (.int (1 : Int32))] [(.int (1 : Int32)), (.ref bJ)]) _
    refine X2.iaload hx (j := (1 : Int32)) (v := (.int u1)) (by rw [e2]; exact Ar5.1) (State.isArrayOf_alike hZ.alike Ar5.2.1) Ar5.2.2 hin5 hat5 (g := (mkF m 13 #[.val (.ref a1), .val (.int (1 : Int32))] [(.int (1 : Int32)), (.ref bJ)])) rfl rfl (hb hby d_prog_83_method_6_13) _ ?_
    show own_S p e below T2 (mkF m 14 #[.val (.ref a1), .val (.int (1 : Int32))] [(.int u1)]) _
    refine XS.iconst X2.here hx rfl (hb hby d_prog_83_method_6_14) ?_
    exact kt)
  obtain ⟨_, _, ⟨T7, L7, cc7, ss7⟩, -, X7, ⟨Lc7, hQ7, l7, y7, z7⟩, st7⟩ := Jvm.LawKit.callS X2 hx (y := (⟨"java/lang/Math", "max", "(II)I"⟩ : MethodName)) hown (mvT hZ (hw _ (List.mem_of_getElem? (i := 134) rfl))) (mvT hZ (hw _ (List.mem_of_getElem? (i := 20) rfl))) (mvT hZ (hw _ (List.mem_of_getElem? (i := 21) rfl))) (mvT hZ (hw _ (List.mem_of_getElem? (i := 22) rfl))) (by decide) (backOf (W := 0) (rm5 l Z a0 hw [] u1 (0 : Int32)  h0 n0 Z0 ) hZ (hw _ (List.mem_of_getElem? (i := 22) rfl)) (hw _ (List.mem_of_getElem? (i := 21) rfl)) (by decide) (by decide)) (g := (mkF m 15 #[.val (.ref a1), .val (.int (1 : Int32))] [(.int (0 : Int32)), (.int u1)])) rfl (by rw [hml]; rfl) (argsL := [(.int u1), (.int (0 : Int32))]) (rest := []) (lenOf pd_1 rfl) rfl (by show 2 * 0 + _ ≤ _; exact Nat.le_of_eq rfl) (hb hby d_prog_83_method_6_15) (fun _ _ => ⟨rfl, e2, (by decide : 0 + 0 ≤ _), (by decide : 0 + 0 ≤ _)⟩)
  dsimp only [Pt.U, Pt.locs, Pt.cells, Pt.slots] at X7 l7 y7 z7 st7 hQ7
  subst l7 y7 z7
  obtain ⟨rfl, Nq7, eq7⟩ := hQ7
  have Nf7 := Fr.app Nf0 Nq7
  have kn8 : ∀ t, own_S p e below T7 (mkF m 18 #[.val (.ref a1), .val (.int (1 : Int32))] [(.int (own_mx u1 (0 : Int32)))]) t → Gl t := fun t kt => kn6 t (st7 _ kt)
  obtain ⟨fs, hr, hrun, hended, hW, hsame⟩ := X7.leave (v := some (.int (own_mx u1 (0 : Int32)))) (fun h => by rw [Bd.returns] at h; cases h)
  refine ⟨_, _, hGl _ (kn8 _ (retI X7 hx Bd.returns (hb hby d_prog_83_method_6_18) hr)), hrun, hended, _, _, rfl, ?_, ⟨_, rfl⟩, hW, hsame.mono (by decide) (by decide)⟩
  show Q22_1 Z a1 bJ kJ u0 u1 u2 h0 n0 _ T7.heap _
  rw [eq7]
  exact ⟨rfl, Nf7, rfl⟩

theorem ef_rm22_2 (m : MethodId) (x0 : Addr) : entryFrame m #[(.ref x0), (.int (2 : Int32))] 2 = mkF m 0 #[.val (.ref x0), .val (.int (2 : Int32))] [] := by first | (simp [entryFrame, mkF, argsToLocals, Value.category]; done) | rfl
def Q22_2 (Z : State) (a1 : Addr) (bJ : Addr) (kJ : ClassId) (u0 : Int32) (u1 : Int32) (u2 : Int32) (h0 : Heap) (n0 : Nat) (v : Option Value) (h : Heap) (L : List Loc) : Prop := v = some (.int (own_mx u2 (0 : Int32))) ∧ Fr n0 L ∧ h = h0
set_option maxRecDepth 65536 in
set_option maxHeartbeats 40000000 in
theorem rm22_2 (l : Launch) (Z : State) (a0 : Array Value) (hw : ∀ d ∈ tables_1, d.before a0 Z = true) (ws : List Jvm.Cond) (a1 : Addr) (bJ : Addr) (kJ : ClassId) (u0 : Int32) (u1 : Int32) (u2 : Int32) (h0 : Heap) (n0 : Nat) (Z0 : n0 ≤ h0.size) (F1 : Fld Z h0 a1 "com/example/runs_to_scores/runstoscores/scoring/TopicJudgments" "judgments" "[I" (.ref bJ)) (A1 : Arv Z h0 bJ kJ .int (8 : Int32) [(.int u0), (.int u1), (.int u2), (.int (0 : Int32)), (.int (0 : Int32)), (.int (0 : Int32)), (.int (0 : Int32)), (.int (0 : Int32))] (.int (0 : Int32))) :
    MetFree l (⟨"com/example/runs_to_scores/runstoscores/scoring/TopicJudgments", "gainAt", "(I)I"⟩ : MethodName) (head1 (Jvm.Cond.code (⟨"com/example/runs_to_scores/runstoscores/scoring/TopicJudgments", "gainAt", "(I)I"⟩ : MethodName) prog_83_method_6_code 2 (some .int) :: ws) ({ frames := 1, cells := 0, slots := 0, locals := 13 } : Room)) (fun a U => a = #[(.ref a1), (.int (2 : Int32))] ∧ Z.Warmed39 U.vm ∧ U.heap = h0) (fun _ _ _ _ _ => True) (fun _ U o U' => ∃ v L, o = .returned v ∧ Q22_2 Z a1 bJ kJ u0 u1 u2 h0 n0 v U'.heap L ∧ FrameEnd U o U' L ({ frames := 1, cells := 0, slots := 0, locals := 13 } : Room).cells ({ frames := 1, cells := 0, slots := 0, locals := 13 } : Room).slots) := by
  refine MetFree.of_bodySF (plainFor_of_name pn_2) hisR ?_
  intro p e s m args below meth c s₁ Bd hml0 hP hK
  obtain ⟨rfl, hZ, hh⟩ := hP
  have hx := Bd.exec
  have hby := Bd.bytes
  have hml : c.maxLocals = 2 := hml0
  have hown : s.vm.findClass "com/example/runs_to_scores/runstoscores/scoring/TopicJudgments" = some m.cls := findClass_of_methodNamed Bd.named
  have hnm := (name_of_methodNamed Bd.named Bd.method).1
  have X0 : Stand p l e ({ frames := 1, cells := 0, slots := 0, locals := 13 } : Room) s m #[(.ref a1), (.int (2 : Int32))] below meth c s₁ [] 0 0 := Stand.of_body Bd
  have e0 : s₁.heap = h0 := by rw [← hh, Bd.state]; rfl
  have Nf0 := Fr.nil n0
  obtain ⟨Gl, hGl, kn0⟩ : ∃ Gl : State → Prop, (∀ t, Gl t → Steps p.tables e below (s₁.setTop (entryFrame m #[(.ref a1), (.int (2 : Int32))] 2)) t) ∧ ∀ t, own_S p e below s₁ (mkF m 0 #[.val (.ref a1), .val (.int (2 : Int32))] []) t → Gl t := ⟨fun t => Steps p.tables e below (s₁.setTop (entryFrame m #[(.ref a1), (.int (2 : Int32))] 2)) t, fun _ k => k, fun t k => castTop (ef_rm22_2 m a1) k⟩
  have kn1 : ∀ t, own_S p e below s₁ (mkF m 9 #[.val (.ref a1), .val (.int (2 : Int32))] [(.ref a1)]) t → Gl t := fun t kt => kn0 t (by
    show own_S p e below s₁ (mkF m 0 #[.val (.ref a1), .val (.int (2 : Int32))] []) _
    refine XS.iloadN X0.here hx rfl (hb hby d_prog_83_method_6_0) rfl ?_
    show own_S p e below s₁ (mkF m 1 #[.val (.ref a1), .val (.int (2 : Int32))] [(.int (2 : Int32))]) _
    refine XS.ifYes X0.here hx rfl (pc0 := 1) (pc' := 8) rfl (hb hby d_prog_83_method_6_1) rfl ((if0 _ _).trans (flt (by decide : ¬ ((2 : Int32) < (0 : Int32)))).2.1) (by decide) (by decide) ?_
    show own_S p e below s₁ (mkF m 8 #[.val (.ref a1), .val (.int (2 : Int32))] []) _
    refine XS.aloadN X0.here hx rfl (hb hby d_prog_83_method_6_8) rfl rfl ?_
    exact kt)
  obtain ⟨T2, X2, e2, st2⟩ := getF X0 hx hZ hown (host := "") (Or.inl (hw _ (List.mem_of_getElem? (i := 44) rfl))) Via.refl e0 F1 (g := (mkF m 9 #[.val (.ref a1), .val (.int (2 : Int32))] [(.ref a1)])) rfl rfl (hb hby d_prog_83_method_6_9)
  have kn3 : ∀ t, own_S p e below T2 (mkF m 12 #[.val (.ref a1), .val (.int (2 : Int32))] [(.ref bJ)]) t → Gl t := fun t kt => kn1 t (st2 _ kt)
  have kn4 : ∀ t, own_S p e below T2 (mkF m 13 #[.val (.ref a1), .val (.int (2 : Int32))] [(.int (2 : Int32)), (.ref bJ)]) t → Gl t := fun t kt => kn3 t (by
    show own_S p e below T2 (mkF m 12 #[.val (.ref a1), .val (.int (2 : Int32))] [(.ref bJ)]) _
    refine XS.iloadN X2.here hx rfl (hb hby d_prog_83_method_6_12) rfl ?_
    exact kt)
  obtain ⟨cl5, Ar5, q5, Sz5, Ng5, Hs5, Gs5⟩ := id A1
  have hin5 : ¬ ((2 : Int32) < 0 ∨ cl5.slots.size ≤ ((2 : Int32)).toNatClampNeg) := inb_of Sz5 ⟨by decide, by decide⟩
  have hat5 : cl5.slots[((2 : Int32)).toNatClampNeg]? = some (.int u2) := Hs5.at hin5 rfl
  have kn6 : ∀ t, own_S p e below T2 (mkF m 15 #[.val (.ref a1), .val (.int (2 : Int32))] [(.int (0 : Int32)), (.int u2)]) t → Gl t := fun t kt => kn4 t (by
    show own_S p e below T2 (mkF m 13 #[.val (.ref a1), .val (.int (2 : Int32))] [(.int (2 : Int32)), (.ref bJ)]) _
    refine X2.iaload hx (j := (2 : Int32)) (v := (.int u2)) (by rw [e2]; exact Ar5.1) (State.isArrayOf_alike hZ.alike Ar5.2.1) Ar5.2.2 hin5 hat5 (g := (mkF m 13 #[.val (.ref a1), .val (.int (2 : Int32))] [(.int (2 : Int32)), (.ref bJ)])) rfl rfl (hb hby d_prog_83_method_6_13) _ ?_
    show own_S p e below T2 (mkF m 14 #[.val (.ref a1), .val (.int (2 : Int32))] [(.int u2)]) _
    refine XS.iconst X2.here hx rfl (hb hby d_prog_83_method_6_14) ?_
    exact kt)
  obtain ⟨_, _, ⟨T7, L7, cc7, ss7⟩, -, X7, ⟨Lc7, hQ7, l7, y7, z7⟩, st7⟩ := Jvm.LawKit.callS X2 hx (y := (⟨"java/lang/Math", "max", "(II)I"⟩ : MethodName)) hown (mvT hZ (hw _ (List.mem_of_getElem? (i := 134) rfl))) (mvT hZ (hw _ (List.mem_of_getElem? (i := 20) rfl))) (mvT hZ (hw _ (List.mem_of_getElem? (i := 21) rfl))) (mvT hZ (hw _ (List.mem_of_getElem? (i := 22) rfl))) (by decide) (backOf (W := 0) (rm5 l Z a0 hw [] u2 (0 : Int32)  h0 n0 Z0 ) hZ (hw _ (List.mem_of_getElem? (i := 22) rfl)) (hw _ (List.mem_of_getElem? (i := 21) rfl)) (by decide) (by decide)) (g := (mkF m 15 #[.val (.ref a1), .val (.int (2 : Int32))] [(.int (0 : Int32)), (.int u2)])) rfl (by rw [hml]; rfl) (argsL := [(.int u2), (.int (0 : Int32))]) (rest := []) (lenOf pd_1 rfl) rfl (by show 2 * 0 + _ ≤ _; exact Nat.le_of_eq rfl) (hb hby d_prog_83_method_6_15) (fun _ _ => ⟨rfl, e2, (by decide : 0 + 0 ≤ _), (by decide : 0 + 0 ≤ _)⟩)
  dsimp only [Pt.U, Pt.locs, Pt.cells, Pt.slots] at X7 l7 y7 z7 st7 hQ7
  subst l7 y7 z7
  obtain ⟨rfl, Nq7, eq7⟩ := hQ7
  have Nf7 := Fr.app Nf0 Nq7
  have kn8 : ∀ t, own_S p e below T7 (mkF m 18 #[.val (.ref a1), .val (.int (2 : Int32))] [(.int (own_mx u2 (0 : Int32)))]) t → Gl t := fun t kt => kn6 t (st7 _ kt)
  obtain ⟨fs, hr, hrun, hended, hW, hsame⟩ := X7.leave (v := some (.int (own_mx u2 (0 : Int32)))) (fun h => by rw [Bd.returns] at h; cases h)
  refine ⟨_, _, hGl _ (kn8 _ (retI X7 hx Bd.returns (hb hby d_prog_83_method_6_18) hr)), hrun, hended, _, _, rfl, ?_, ⟨_, rfl⟩, hW, hsame.mono (by decide) (by decide)⟩
  show Q22_2 Z a1 bJ kJ u0 u1 u2 h0 n0 _ T7.heap _
  rw [eq7]
  exact ⟨rfl, Nf7, rfl⟩

theorem d_prog_83_method_6_4 : decode prog_83_method_6_code 4 = .ok (.iconst 0, 1) := by decide +kernel
theorem d_prog_83_method_6_5 : decode prog_83_method_6_code 5 = .ok (.goto 13, 3) := by decide +kernel
theorem ef_rm22_n (m : MethodId) (x0 : Addr) (x1 : Int32) : entryFrame m #[(.ref x0), (.int x1)] 2 = mkF m 0 #[.val (.ref x0), .val (.int x1)] [] := by first | (simp [entryFrame, mkF, argsToLocals, Value.category]; done) | rfl
def Q22_n (Z : State) (a1 : Addr) (p2 : Int32) (h0 : Heap) (n0 : Nat) (v : Option Value) (h : Heap) (L : List Loc) : Prop := v = some (.int (0 : Int32)) ∧ Fr n0 L ∧ h = h0
set_option maxRecDepth 65536 in
set_option maxHeartbeats 40000000 in
theorem rm22_n (l : Launch) (Z : State) (a0 : Array Value) (hw : ∀ d ∈ tables_1, d.before a0 Z = true) (ws : List Jvm.Cond) (a1 : Addr) (p2 : Int32) (h0 : Heap) (n0 : Nat) (Z0 : n0 ≤ h0.size) (hneg : p2 < 0) :
    MetFree l (⟨"com/example/runs_to_scores/runstoscores/scoring/TopicJudgments", "gainAt", "(I)I"⟩ : MethodName) (head1 (Jvm.Cond.code (⟨"com/example/runs_to_scores/runstoscores/scoring/TopicJudgments", "gainAt", "(I)I"⟩ : MethodName) prog_83_method_6_code 2 (some .int) :: ws) ({ frames := 0, cells := 0, slots := 0, locals := 0 } : Room)) (fun a U => a = #[(.ref a1), (.int p2)] ∧ Z.Warmed39 U.vm ∧ U.heap = h0) (fun _ _ _ _ _ => True) (fun _ U o U' => ∃ v L, o = .returned v ∧ Q22_n Z a1 p2 h0 n0 v U'.heap L ∧ FrameEnd U o U' L ({ frames := 0, cells := 0, slots := 0, locals := 0 } : Room).cells ({ frames := 0, cells := 0, slots := 0, locals := 0 } : Room).slots) := by
  refine MetFree.of_bodySF (plainFor_of_name pn_2) hisR ?_
  intro p e s m args below meth c s₁ Bd hml0 hP hK
  obtain ⟨rfl, hZ, hh⟩ := hP
  have hx := Bd.exec
  have hby := Bd.bytes
  have hml : c.maxLocals = 2 := hml0
  have hown : s.vm.findClass "com/example/runs_to_scores/runstoscores/scoring/TopicJudgments" = some m.cls := findClass_of_methodNamed Bd.named
  have hnm := (name_of_methodNamed Bd.named Bd.method).1
  have X0 : Stand p l e ({ frames := 0, cells := 0, slots := 0, locals := 0 } : Room) s m #[(.ref a1), (.int p2)] below meth c s₁ [] 0 0 := Stand.of_body Bd
  have e0 : s₁.heap = h0 := by rw [← hh, Bd.state]; rfl
  have Nf0 := Fr.nil n0
  obtain ⟨Gl, hGl, kn0⟩ : ∃ Gl : State → Prop, (∀ t, Gl t → Steps p.tables e below (s₁.setTop (entryFrame m #[(.ref a1), (.int p2)] 2)) t) ∧ ∀ t, own_S p e below s₁ (mkF m 0 #[.val (.ref a1), .val (.int p2)] []) t → Gl t := ⟨fun t => Steps p.tables e below (s₁.setTop (entryFrame m #[(.ref a1), (.int p2)] 2)) t, fun _ k => k, fun t k => castTop (ef_rm22_n m a1 p2) k⟩
  have kn1 : ∀ t, own_S p e below s₁ (mkF m 1 #[.val (.ref a1), .val (.int p2)] [(.int p2)]) t → Gl t := fun t kt => kn0 t (by
    show own_S p e below s₁ (mkF m 0 #[.val (.ref a1), .val (.int p2)] []) _
    refine XS.iloadN X0.here hx rfl (hb hby d_prog_83_method_6_0) rfl ?_
    exact kt)
  have hc1_2 : p2 < (0 : Int32) := hneg
  have kn3 : ∀ t, own_S p e below s₁ (mkF m 18 #[.val (.ref a1), .val (.int p2)] [(.int (0 : Int32))]) t → Gl t := fun t kt => kn1 t (by
    show own_S p e below s₁ (mkF m 1 #[.val (.ref a1), .val (.int p2)] [(.int p2)]) _
    refine XS.ifNo X0.here hx rfl (hb hby d_prog_83_method_6_1) rfl ((if0 _ _).trans (tlt hc1_2).2.1) ?_
    show own_S p e below s₁ (mkF m 4 #[.val (.ref a1), .val (.int p2)] []) _
    refine XS.iconst X0.here hx rfl (hb hby d_prog_83_method_6_4) ?_
    show own_S p e below s₁ (mkF m 5 #[.val (.ref a1), .val (.int p2)] [(.int (0 : Int32))]) _
    refine XS.goto X0.here hx rfl (pc0 := 5) (pc' := 18) rfl (hb hby d_prog_83_method_6_5) (by decide) (by decide) ?_
    exact kt)
  obtain ⟨fs, hr, hrun, hended, hW, hsame⟩ := X0.leave (v := some (.int (0 : Int32))) (fun h => by rw [Bd.returns] at h; cases h)
  refine ⟨_, _, hGl _ (kn3 _ (retI X0 hx Bd.returns (hb hby d_prog_83_method_6_18) hr)), hrun, hended, _, _, rfl, ?_, ⟨_, rfl⟩, hW, hsame.mono (by decide) (by decide)⟩
  show Q22_n Z a1 p2 h0 n0 _ s₁.heap _
  rw [e0]
  exact ⟨rfl, Nf0, rfl⟩

theorem d_method_2_0 : decode method_2_code 0 = .ok (.iload_n 0, 1) := by decide +kernel
theorem d_method_2_1 : decode method_2_code 1 = .ok (.ifCond .ge 5, 3) := by decide +kernel
theorem d_method_2_4 : decode method_2_code 4 = .ok (.iconst 0, 1) := by decide +kernel
theorem d_method_2_5 : decode method_2_code 5 = .ok (.ireturn, 1) := by decide +kernel
theorem d_method_2_6 : decode method_2_code 6 = .ok (.iload_n 0, 1) := by decide +kernel
theorem d_method_2_7 : decode method_2_code 7 = .ok (.ireturn, 1) := by decide +kernel
theorem pn_3 : plainName "com/example/runs_to_scores/runstoscores/scoring/TopicJudgmentsGainAtPinLaw" = true := by first | (simp [plainName, overriddenIn]; done) | decide +kernel
theorem ef_rm23 (m : MethodId) (x0 : Int32) : entryFrame m #[(.int x0)] 1 = mkF m 0 #[.val (.int x0)] [] := by first | (simp [entryFrame, mkF, argsToLocals, Value.category]; done) | rfl
def Q23 (Z : State) (p1 : Int32) (h0 : Heap) (n0 : Nat) (v : Option Value) (h : Heap) (L : List Loc) : Prop := v = some (.int (own_gain p1)) ∧ Fr n0 L ∧ h = h0
set_option maxRecDepth 65536 in
set_option maxHeartbeats 40000000 in
theorem rm23 (l : Launch) (Z : State) (a0 : Array Value) (hw : ∀ d ∈ tables_1, d.before a0 Z = true) (ws : List Jvm.Cond) (p1 : Int32) (h0 : Heap) (n0 : Nat) (Z0 : n0 ≤ h0.size) :
    MetFree l (⟨"com/example/runs_to_scores/runstoscores/scoring/TopicJudgmentsGainAtPinLaw", "gain", "(I)I"⟩ : MethodName) (head1 (Jvm.Cond.code (⟨"com/example/runs_to_scores/runstoscores/scoring/TopicJudgmentsGainAtPinLaw", "gain", "(I)I"⟩ : MethodName) method_2_code 1 (some .int) :: ws) ({ frames := 0, cells := 0, slots := 0, locals := 0 } : Room)) (fun a U => a = #[(.int p1)] ∧ Z.Warmed39 U.vm ∧ U.heap = h0) (fun _ _ _ _ _ => True) (fun _ U o U' => ∃ v L, o = .returned v ∧ Q23 Z p1 h0 n0 v U'.heap L ∧ FrameEnd U o U' L ({ frames := 0, cells := 0, slots := 0, locals := 0 } : Room).cells ({ frames := 0, cells := 0, slots := 0, locals := 0 } : Room).slots) := by
  refine MetFree.of_bodySF (plainFor_of_name pn_3) hisR ?_
  intro p e s m args below meth c s₁ Bd hml0 hP hK
  obtain ⟨rfl, hZ, hh⟩ := hP
  have hx := Bd.exec
  have hby := Bd.bytes
  have hml : c.maxLocals = 1 := hml0
  have hown : s.vm.findClass "com/example/runs_to_scores/runstoscores/scoring/TopicJudgmentsGainAtPinLaw" = some m.cls := findClass_of_methodNamed Bd.named
  have hnm := (name_of_methodNamed Bd.named Bd.method).1
  have X0 : Stand p l e ({ frames := 0, cells := 0, slots := 0, locals := 0 } : Room) s m #[(.int p1)] below meth c s₁ [] 0 0 := Stand.of_body Bd
  have e0 : s₁.heap = h0 := by rw [← hh, Bd.state]; rfl
  have Nf0 := Fr.nil n0
  obtain ⟨Gl, hGl, kn0⟩ : ∃ Gl : State → Prop, (∀ t, Gl t → Steps p.tables e below (s₁.setTop (entryFrame m #[(.int p1)] 1)) t) ∧ ∀ t, own_S p e below s₁ (mkF m 0 #[.val (.int p1)] []) t → Gl t := ⟨fun t => Steps p.tables e below (s₁.setTop (entryFrame m #[(.int p1)] 1)) t, fun _ k => k, fun t k => castTop (ef_rm23 m p1) k⟩
  have kn1 : ∀ t, own_S p e below s₁ (mkF m 1 #[.val (.int p1)] [(.int p1)]) t → Gl t := fun t kt => kn0 t (by
    show own_S p e below s₁ (mkF m 0 #[.val (.int p1)] []) _
    refine XS.iloadN X0.here hx rfl (hb hby d_method_2_0) rfl ?_
    exact kt)
  by_cases hc1 : p1 < (0 : Int32)
  · have kn2 : ∀ t, own_S p e below s₁ (mkF m 5 #[.val (.int p1)] [(.int (0 : Int32))]) t → Gl t := fun t kt => kn1 t (by
      show own_S p e below s₁ (mkF m 1 #[.val (.int p1)] [(.int p1)]) _
      refine XS.ifNo X0.here hx rfl (hb hby d_method_2_1) rfl ((if0 _ _).trans (tlt hc1).2.1) ?_
      show own_S p e below s₁ (mkF m 4 #[.val (.int p1)] []) _
      refine XS.iconst X0.here hx rfl (hb hby d_method_2_4) ?_
      exact kt)
    obtain ⟨fs, hr, hrun, hended, hW, hsame⟩ := X0.leave (v := some (.int (0 : Int32))) (fun h => by rw [Bd.returns] at h; cases h)
    refine ⟨_, _, hGl _ (kn2 _ (retI X0 hx Bd.returns (hb hby d_method_2_5) hr)), hrun, hended, _, _, rfl, ?_, ⟨_, rfl⟩, hW, hsame.mono (by decide) (by decide)⟩
    show Q23 Z p1 h0 n0 _ s₁.heap _
    rw [e0]
    exact ⟨by simp [own_gain, hc1], Nf0, rfl⟩
  · have kn3 : ∀ t, own_S p e below s₁ (mkF m 7 #[.val (.int p1)] [(.int p1)]) t → Gl t := fun t kt => kn1 t (by
      show own_S p e below s₁ (mkF m 1 #[.val (.int p1)] [(.int p1)]) _
      refine XS.ifYes X0.here hx rfl (pc0 := 1) (pc' := 6) rfl (hb hby d_method_2_1) rfl ((if0 _ _).trans (flt hc1).2.1) (by decide) (by decide) ?_
      show own_S p e below s₁ (mkF m 6 #[.val (.int p1)] []) _
      refine XS.iloadN X0.here hx rfl (hb hby d_method_2_6) rfl ?_
      exact kt)
    obtain ⟨fs, hr, hrun, hended, hW, hsame⟩ := X0.leave (v := some (.int p1)) (fun h => by rw [Bd.returns] at h; cases h)
    refine ⟨_, _, hGl _ (kn3 _ (retI X0 hx Bd.returns (hb hby d_method_2_7) hr)), hrun, hended, _, _, rfl, ?_, ⟨_, rfl⟩, hW, hsame.mono (by decide) (by decide)⟩
    show Q23 Z p1 h0 n0 _ s₁.heap _
    rw [e0]
    exact ⟨by simp [own_gain, hc1], Nf0, rfl⟩

theorem pd_10 : parseMethodDescriptor "(I)V" = some ⟨[.int], none⟩ := by decide +kernel
theorem pd_11 : parseMethodDescriptor "(Ljava/lang/CharSequence;I)Z" = some ⟨[(.object "java/lang/CharSequence"), .int], some .boolean⟩ := by decide +kernel
theorem ef_rm0 (m : MethodId) (x0 : Int32) (x1 : Int32) (x2 : Int32) (x3 : Int32) (x4 : Int32) : entryFrame m #[(.int x0), (.int x1), (.int x2), (.int x3), (.int x4)] maxLocals = mkF m 0 #[.val (.int x0), .val (.int x1), .val (.int x2), .val (.int x3), .val (.int x4), .unset, .unset, .unset, .unset, .unset, .unset] [] := by first | (simp [entryFrame, mkF, argsToLocals, Value.category, maxLocals]; done) | rfl
def Q0 (Z : State) (p1 : Int32) (p2 : Int32) (p3 : Int32) (p4 : Int32) (p5 : Int32) (G1 : Int32) (G3 : Value) (h0 : Heap) (n0 : Nat) (v : Option Value) (h : Heap) (L : List Loc) : Prop := v = some (.int (1 : Int32)) ∧ Fr n0 L
set_option maxRecDepth 65536 in
set_option maxHeartbeats 40000000 in
theorem rm0 (l : Launch) (Z : State) (a0 : Array Value) (hw : ∀ d ∈ tables_1, d.before a0 Z = true) (ws : List Jvm.Cond) (p1 : Int32) (p2 : Int32) (p3 : Int32) (p4 : Int32) (p5 : Int32) (G1 : Int32) (G3 : Value) (h0 : Heap) (n0 : Nat) (Z0 : n0 ≤ h0.size) (O0 : Old Z n0 h0) (O2 : Sta Z Z.heap "java/lang/String" "COMPACT_STRINGS" "Z" (.int G1)) (P5 : ¬ (G1 = (0 : Int32))) (O4 : Sta Z Z.heap "jdk/internal/util/Preconditions" "SIOOBE_FORMATTER" "Ljava/util/function/BiFunction;" G3) (rG3 : G3.isRef = true) (hn0 : n0 = h0.size) (hz0 : h0 = Z.heap) (HC : ∀ p ∈ consts_1, Jvm.Lit.constHeld Z p.1 p.2) (hcw : Jvm.Lit.compactW.before a0 Z = true) :
    MetFree l x (head1 (Jvm.Cond.code x code maxLocals ret :: ws) room_1) (fun a U => a = #[(.int p1), (.int p2), (.int p3), (.int p4), (.int p5)] ∧ Z.Warmed39 U.vm ∧ U.heap = h0 ∧ U.vm = Z.vm) (fun _ _ _ _ _ => True) (fun _ U o U' => ∃ v L, o = .returned v ∧ Q0 Z p1 p2 p3 p4 p5 G1 G3 h0 n0 v U'.heap L ∧ ReturnedEndW U o U' L 32 3392) := by
  refine MetFree.of_bodySF (plainFor_of_name pn_3) hisR ?_
  intro p e s m args below meth c s₁ Bd hml0 hP hK
  obtain ⟨rfl, hZ, hh, hvz⟩ := hP
  have hx := Bd.exec
  have hby := Bd.bytes
  have hml : c.maxLocals = 11 := hml0
  have hown : s.vm.findClass "com/example/runs_to_scores/runstoscores/scoring/TopicJudgmentsGainAtPinLaw" = some m.cls := findClass_of_methodNamed Bd.named
  have hnm := (name_of_methodNamed Bd.named Bd.method).1
  have X0 : Stand p l e room_1 s m #[(.int p1), (.int p2), (.int p3), (.int p4), (.int p5)] below meth c s₁ [] 0 0 := Stand.of_body Bd
  have e0 : s₁.heap = h0 := by rw [← hh, Bd.state]; rfl
  have Nf0 := Fr.nil n0
  obtain ⟨Gl, hGl, kn0⟩ : ∃ Gl : State → Prop, (∀ t, Gl t → Steps p.tables e below (s₁.setTop (entryFrame m #[(.int p1), (.int p2), (.int p3), (.int p4), (.int p5)] maxLocals)) t) ∧ ∀ t, own_S p e below s₁ (mkF m 0 #[.val (.int p1), .val (.int p2), .val (.int p3), .val (.int p4), .val (.int p5), .unset, .unset, .unset, .unset, .unset, .unset] []) t → Gl t := ⟨fun t => Steps p.tables e below (s₁.setTop (entryFrame m #[(.int p1), (.int p2), (.int p3), (.int p4), (.int p5)] maxLocals)) t, fun _ k => k, fun t k => castTop (ef_rm0 m p1 p2 p3 p4 p5) k⟩
  obtain ⟨T1, h1, X1, e1, E1, A1, D1, -, st1⟩ := newO X0 hx hZ hown (hw _ (List.mem_of_getElem? (i := 0) rfl)) (hw _ (List.mem_of_getElem? (i := 1) rfl)) (hw _ (List.mem_of_getElem? (i := 2) rfl)) e0 (g := (mkF m 0 #[.val (.int p1), .val (.int p2), .val (.int p3), .val (.int p4), .val (.int p5), .unset, .unset, .unset, .unset, .unset, .unset] [])) rfl (hb hby at_0) (by decide) (by decide)
  obtain ⟨b1, g1⟩ : ∃ z, z = h0.size := ⟨_, rfl⟩
  rw [← g1] at A1 D1 st1
  have g_b1 : n0 ≤ b1 := Nat.le_trans Z0 (Nat.le_of_eq g1.symm)
  have Z2 : n0 ≤ h1.size := Nat.le_trans Z0 E1.1
  have O3 : Old Z n0 h1 := O0.ext E1
  have F1_43 : Fld Z h1 b1 "com/example/runs_to_scores/runstoscores/scoring/TopicJudgments" "docnos" "Lcom/example/runs_to_scores/runstoscores/scoring/TopicDocnos;" .null := D1 (Or.inr (hw _ (List.mem_of_getElem? (i := 43) rfl))) (ty := (.object "com/example/runs_to_scores/runstoscores/scoring/TopicDocnos")) (by decide)
  have F1_45 : Fld Z h1 b1 "com/example/runs_to_scores/runstoscores/scoring/TopicJudgments" "judgments" "[I" .null := D1 (Or.inl (hw _ (List.mem_of_getElem? (i := 45) rfl))) (ty := (.array .int)) (by decide)
  have F1_47 : Fld Z h1 b1 "com/example/runs_to_scores/runstoscores/scoring/TopicJudgments" "relevanceLevel" "I" (.int (0 : Int32)) := D1 (Or.inr (hw _ (List.mem_of_getElem? (i := 47) rfl))) (ty := .int) (by decide)
  have kn4 : ∀ t, own_S p e below T1 (mkF m 3 #[.val (.int p1), .val (.int p2), .val (.int p3), .val (.int p4), .val (.int p5), .unset, .unset, .unset, .unset, .unset, .unset] [(.ref b1)]) t → Gl t := fun t kt => kn0 t (st1 _ kt)
  have kn5 : ∀ t, own_S p e below T1 (mkF m 5 #[.val (.int p1), .val (.int p2), .val (.int p3), .val (.int p4), .val (.int p5), .unset, .unset, .unset, .unset, .unset, .unset] [(.int p1), (.ref b1), (.ref b1)]) t → Gl t := fun t kt => kn4 t (by
    show own_S p e below T1 (mkF m 3 #[.val (.int p1), .val (.int p2), .val (.int p3), .val (.int p4), .val (.int p5), .unset, .unset, .unset, .unset, .unset, .unset] [(.ref b1)]) _
    refine XS.dup X1.here hx rfl (hb hby at_3) rfl rfl ?_
    show own_S p e below T1 (mkF m 4 #[.val (.int p1), .val (.int p2), .val (.int p3), .val (.int p4), .val (.int p5), .unset, .unset, .unset, .unset, .unset, .unset] [(.ref b1), (.ref b1)]) _
    refine XS.iloadN X1.here hx rfl (hb hby at_4) rfl ?_
    exact kt)
  obtain ⟨_, _, ⟨T6, L6, cc6, ss6⟩, -, X6, ⟨Lc6, hQ6, l6, y6, z6⟩, st6⟩ := X1.specialBack hx (y := (⟨"com/example/runs_to_scores/runstoscores/scoring/TopicJudgments", "<init>", "(I)V"⟩ : MethodName)) rfl hown (mvT hZ (hw _ (List.mem_of_getElem? (i := 3) rfl))) (mvT hZ (hw _ (List.mem_of_getElem? (i := 4) rfl))) (mvT hZ (hw _ (List.mem_of_getElem? (i := 5) rfl))) (by decide) (backOf (W := 1) (rm1 l Z a0 hw [] b1 p1  h1 n0 Z2 F1_43 F1_45 F1_47 A1 g_b1) hZ (hw _ (List.mem_of_getElem? (i := 5) rfl)) (hw _ (List.mem_of_getElem? (i := 2) rfl)) (by decide) (by decide)) (g := (mkF m 5 #[.val (.int p1), .val (.int p2), .val (.int p3), .val (.int p4), .val (.int p5), .unset, .unset, .unset, .unset, .unset, .unset] [(.int p1), (.ref b1), (.ref b1)])) rfl (by rw [hml]; rfl) (Steps.refl _) (a := b1) (argsL := [(.int p1)]) (rest := [(.ref b1)]) (lenOf pd_10 rfl) rfl (by show 2 * 0 + _ ≤ _; exact Nat.le_of_eq rfl) (hb hby at_5) (fun _ _ => ⟨rfl, e1, (by decide : 1 + 6 ≤ _), (by decide : 3 + 109 ≤ _)⟩)
  dsimp only [Pt.U, Pt.locs, Pt.cells, Pt.slots] at X6 l6 y6 z6 st6 hQ6
  subst l6 y6 z6
  obtain ⟨rfl, Nq6, d6, bJ6, kJ6, bB6, bE6, bH6, bS6, kB6, kE6, kH6, kS6, s1_6, s2_6, s3_6, s4_6, s5_6, s6_6, K6, Ex6, FA6, FB6, AJ6, ED_6, FD0_6, FD1_6, FD2_6, FD3_6, FD4_6, AD0_6, AD1_6, AD2_6, AD3_6⟩ := hQ6
  have Nf6 := Fr.app Nf0 Nq6
  have s0_6 : @LT.lt Nat _ b1 d6 := Nat.lt_of_lt_of_le A1.lt s1_6
  have ne_b1_d6 : @Ne Nat b1 d6 := by omega
  have ne_b1_bB6 : @Ne Nat b1 bB6 := by omega
  have ne_b1_bE6 : @Ne Nat b1 bE6 := by omega
  have ne_b1_bH6 : @Ne Nat b1 bH6 := by omega
  have ne_b1_bS6 : @Ne Nat b1 bS6 := by omega
  have ne_b1_bJ6 : @Ne Nat b1 bJ6 := by omega
  have ne_d6_bB6 : @Ne Nat d6 bB6 := by omega
  have ne_d6_bE6 : @Ne Nat d6 bE6 := by omega
  have ne_d6_bH6 : @Ne Nat d6 bH6 := by omega
  have ne_d6_bS6 : @Ne Nat d6 bS6 := by omega
  have ne_d6_bJ6 : @Ne Nat d6 bJ6 := by omega
  have ne_bB6_bE6 : @Ne Nat bB6 bE6 := by omega
  have ne_bB6_bH6 : @Ne Nat bB6 bH6 := by omega
  have ne_bB6_bS6 : @Ne Nat bB6 bS6 := by omega
  have ne_bB6_bJ6 : @Ne Nat bB6 bJ6 := by omega
  have ne_bE6_bH6 : @Ne Nat bE6 bH6 := by omega
  have ne_bE6_bS6 : @Ne Nat bE6 bS6 := by omega
  have ne_bE6_bJ6 : @Ne Nat bE6 bJ6 := by omega
  have ne_bH6_bS6 : @Ne Nat bH6 bS6 := by omega
  have ne_bH6_bJ6 : @Ne Nat bH6 bJ6 := by omega
  have ne_bS6_bJ6 : @Ne Nat bS6 bJ6 := by omega
  have g_d6 : n0 ≤ d6 := by have q := g_b1; omega
  have g_bB6 : n0 ≤ bB6 := by have q := g_b1; omega
  have g_bE6 : n0 ≤ bE6 := by have q := g_b1; omega
  have g_bH6 : n0 ≤ bH6 := by have q := g_b1; omega
  have g_bS6 : n0 ≤ bS6 := by have q := g_b1; omega
  have g_bJ6 : n0 ≤ bJ6 := by have q := g_b1; omega
  have Z7 : n0 ≤ T6.heap.size := Nat.le_trans Z2 K6.1
  have O8 : Old Z n0 T6.heap := O3.keep K6 (allS g_b1 all0)
  have kn9 : ∀ t, own_S p e below T6 (mkF m 8 #[.val (.int p1), .val (.int p2), .val (.int p3), .val (.int p4), .val (.int p5), .unset, .unset, .unset, .unset, .unset, .unset] [(.ref b1)]) t → Gl t := fun t kt => kn5 t (st6.trans kt)
  have kn10 : ∀ t, own_S p e below T6 (mkF m 12 #[.val (.int p1), .val (.int p2), .val (.int p3), .val (.int p4), .val (.int p5), .val (.ref b1), .unset, .unset, .unset, .unset, .unset] [(.ref b1)]) t → Gl t := fun t kt => kn9 t (by
    show own_S p e below T6 (mkF m 8 #[.val (.int p1), .val (.int p2), .val (.int p3), .val (.int p4), .val (.int p5), .unset, .unset, .unset, .unset, .unset, .unset] [(.ref b1)]) _
    refine XS.astore X6.here hx rfl (hb hby at_8) rfl rfl (l' := #[.val (.int p1), .val (.int p2), .val (.int p3), .val (.int p4), .val (.int p5), .val (.ref b1), .unset, .unset, .unset, .unset, .unset]) rfl ?_
    show own_S p e below T6 (mkF m 10 #[.val (.int p1), .val (.int p2), .val (.int p3), .val (.int p4), .val (.int p5), .val (.ref b1), .unset, .unset, .unset, .unset, .unset] []) _
    refine XS.aload X6.here hx rfl (hb hby at_10) rfl rfl ?_
    exact kt)
  have hS11 : s.Since s.vm 0 := (State.WarmedH.refl s).since 0
  have I11 : IB Z s.vm [] := by rw [show s.vm = Z.vm from hvz]; exact IB.start
  have hsz : s.heap.size = n0 := by rw [hn0, ← hh]
  have hkp : ∀ (b : Addr) (cl : Cell), Z.heap[b]? = some cl → s.heap[b]? = some cl := fun b cl q => by rw [hh, hz0]; exact q
  have wS : ∀ a ∈ Bundle.stringAtoms, a.before a0 Z = true := fun d hd => hw d ((by decide +kernel : ∀ d ∈ Bundle.stringAtoms, d ∈ tables_1) d hd)
  obtain ⟨a11, T11, h11, kc11, t11, kk11, X11, e11, E11, hSn11, hkn11, hZ, hown, Ex11, Co11, Va11, Ar11, la11, lb11, I11, Lt11, dj11, st11⟩ := ldcSVd (vm0 := s.vm) X6 hx hZ hown (hw _ (List.mem_of_getElem? (i := 48) rfl)) wS rfl hS11 (Nat.zero_le _) (hsz ▸ Nf6) hkp I11 (by decide) (HC _ (List.mem_of_getElem? (i := 0) rfl)) hcw (vs := [(.int (97 : Int32))]) (z := (1 : Int32)) ⟨by decide, by decide⟩ (by decide) rfl (g := (mkF m 12 #[.val (.int p1), .val (.int p2), .val (.int p3), .val (.int p4), .val (.int p5), .val (.ref b1), .unset, .unset, .unset, .unset, .unset] [(.ref b1)])) rfl (hb hby at_12) (n := 4) (by decide) (by decide) (by decide) (by decide)
  have ne_b1_a11 : @Ne Nat b1 a11 := by have q1 : @LT.lt Nat _ b1 T6.heap.size := Ex6.lt; have q2 := g_b1; have q3 : (@LT.lt Nat _ a11 s.heap.size ∧ @LT.lt Nat _ t11 s.heap.size) ∨ (T6.heap.size ≤ a11 ∧ T6.heap.size ≤ t11) := dj11; omega
  have ne_b1_t11 : @Ne Nat b1 t11 := by have q1 : @LT.lt Nat _ b1 T6.heap.size := Ex6.lt; have q2 := g_b1; have q3 : (@LT.lt Nat _ a11 s.heap.size ∧ @LT.lt Nat _ t11 s.heap.size) ∨ (T6.heap.size ≤ a11 ∧ T6.heap.size ≤ t11) := dj11; omega
  have ne_bJ6_a11 : @Ne Nat bJ6 a11 := by have q1 : @LT.lt Nat _ bJ6 T6.heap.size := AJ6.lt; have q2 := g_bJ6; have q3 : (@LT.lt Nat _ a11 s.heap.size ∧ @LT.lt Nat _ t11 s.heap.size) ∨ (T6.heap.size ≤ a11 ∧ T6.heap.size ≤ t11) := dj11; omega
  have ne_bJ6_t11 : @Ne Nat bJ6 t11 := by have q1 : @LT.lt Nat _ bJ6 T6.heap.size := AJ6.lt; have q2 := g_bJ6; have q3 : (@LT.lt Nat _ a11 s.heap.size ∧ @LT.lt Nat _ t11 s.heap.size) ∨ (T6.heap.size ≤ a11 ∧ T6.heap.size ≤ t11) := dj11; omega
  have ne_d6_a11 : @Ne Nat d6 a11 := by have q1 : @LT.lt Nat _ d6 T6.heap.size := ED_6.lt; have q2 := g_d6; have q3 : (@LT.lt Nat _ a11 s.heap.size ∧ @LT.lt Nat _ t11 s.heap.size) ∨ (T6.heap.size ≤ a11 ∧ T6.heap.size ≤ t11) := dj11; omega
  have ne_d6_t11 : @Ne Nat d6 t11 := by have q1 : @LT.lt Nat _ d6 T6.heap.size := ED_6.lt; have q2 := g_d6; have q3 : (@LT.lt Nat _ a11 s.heap.size ∧ @LT.lt Nat _ t11 s.heap.size) ∨ (T6.heap.size ≤ a11 ∧ T6.heap.size ≤ t11) := dj11; omega
  have ne_bB6_a11 : @Ne Nat bB6 a11 := by have q1 : @LT.lt Nat _ bB6 T6.heap.size := AD0_6.lt; have q2 := g_bB6; have q3 : (@LT.lt Nat _ a11 s.heap.size ∧ @LT.lt Nat _ t11 s.heap.size) ∨ (T6.heap.size ≤ a11 ∧ T6.heap.size ≤ t11) := dj11; omega
  have ne_bB6_t11 : @Ne Nat bB6 t11 := by have q1 : @LT.lt Nat _ bB6 T6.heap.size := AD0_6.lt; have q2 := g_bB6; have q3 : (@LT.lt Nat _ a11 s.heap.size ∧ @LT.lt Nat _ t11 s.heap.size) ∨ (T6.heap.size ≤ a11 ∧ T6.heap.size ≤ t11) := dj11; omega
  have ne_bE6_a11 : @Ne Nat bE6 a11 := by have q1 : @LT.lt Nat _ bE6 T6.heap.size := AD1_6.lt; have q2 := g_bE6; have q3 : (@LT.lt Nat _ a11 s.heap.size ∧ @LT.lt Nat _ t11 s.heap.size) ∨ (T6.heap.size ≤ a11 ∧ T6.heap.size ≤ t11) := dj11; omega
  have ne_bE6_t11 : @Ne Nat bE6 t11 := by have q1 : @LT.lt Nat _ bE6 T6.heap.size := AD1_6.lt; have q2 := g_bE6; have q3 : (@LT.lt Nat _ a11 s.heap.size ∧ @LT.lt Nat _ t11 s.heap.size) ∨ (T6.heap.size ≤ a11 ∧ T6.heap.size ≤ t11) := dj11; omega
  have ne_bH6_a11 : @Ne Nat bH6 a11 := by have q1 : @LT.lt Nat _ bH6 T6.heap.size := AD2_6.lt; have q2 := g_bH6; have q3 : (@LT.lt Nat _ a11 s.heap.size ∧ @LT.lt Nat _ t11 s.heap.size) ∨ (T6.heap.size ≤ a11 ∧ T6.heap.size ≤ t11) := dj11; omega
  have ne_bH6_t11 : @Ne Nat bH6 t11 := by have q1 : @LT.lt Nat _ bH6 T6.heap.size := AD2_6.lt; have q2 := g_bH6; have q3 : (@LT.lt Nat _ a11 s.heap.size ∧ @LT.lt Nat _ t11 s.heap.size) ∨ (T6.heap.size ≤ a11 ∧ T6.heap.size ≤ t11) := dj11; omega
  have ne_bS6_a11 : @Ne Nat bS6 a11 := by have q1 : @LT.lt Nat _ bS6 T6.heap.size := AD3_6.lt; have q2 := g_bS6; have q3 : (@LT.lt Nat _ a11 s.heap.size ∧ @LT.lt Nat _ t11 s.heap.size) ∨ (T6.heap.size ≤ a11 ∧ T6.heap.size ≤ t11) := dj11; omega
  have ne_bS6_t11 : @Ne Nat bS6 t11 := by have q1 : @LT.lt Nat _ bS6 T6.heap.size := AD3_6.lt; have q2 := g_bS6; have q3 : (@LT.lt Nat _ a11 s.heap.size ∧ @LT.lt Nat _ t11 s.heap.size) ∨ (T6.heap.size ≤ a11 ∧ T6.heap.size ≤ t11) := dj11; omega
  have Z12 : n0 ≤ h11.size := Nat.le_trans Z7 E11.1
  have O13 : Old Z n0 h11 := O8.ext E11
  have hp11 : ∀ c ∈ ([(97 : Int32)] : List Int32), ¬ c < 0 ∧ ¬ (255 : Int32) < c := by decide
  have kn14 : ∀ t, own_S p e below T11 (mkF m 14 #[.val (.int p1), .val (.int p2), .val (.int p3), .val (.int p4), .val (.int p5), .val (.ref b1), .unset, .unset, .unset, .unset, .unset] [(.ref a11), (.ref b1)]) t → Gl t := fun t kt => kn10 t (st11 _ kt)
  have kn15 : ∀ t, own_S p e below T11 (mkF m 15 #[.val (.int p1), .val (.int p2), .val (.int p3), .val (.int p4), .val (.int p5), .val (.ref b1), .unset, .unset, .unset, .unset, .unset] [(.int p2), (.ref a11), (.ref b1)]) t → Gl t := fun t kt => kn14 t (by
    show own_S p e below T11 (mkF m 14 #[.val (.int p1), .val (.int p2), .val (.int p3), .val (.int p4), .val (.int p5), .val (.ref b1), .unset, .unset, .unset, .unset, .unset] [(.ref a11), (.ref b1)]) _
    refine XS.iloadN X11.here hx rfl (hb hby at_14) rfl ?_
    exact kt)
  have f17 := (FA6.ext E11)
  have f18 := (FB6.ext E11)
  have f19 := (AJ6.ext E11)
  have f20 := (ED_6.ext E11)
  have f21 := (FD0_6.ext E11)
  have f22 := (FD1_6.ext E11)
  have f23 := (FD2_6.ext E11)
  have f24 := (FD3_6.ext E11)
  have f25 := (FD4_6.ext E11)
  have f26 := (AD0_6.ext E11)
  have f27 := (AD1_6.ext E11)
  have f28 := (AD2_6.ext E11)
  have f29 := (AD3_6.ext E11)
  have f30 := (Ex6.ext E11)
  obtain ⟨cq16, kq16, qa16, qb16, qc16⟩ := isOf hZ e11 f30
  obtain ⟨_, _, ⟨T16, L16, cc16, ss16⟩, -, X16, ⟨Lc16, hQ16, l16, y16, z16⟩, st16⟩ := X11.virtualBack hx (y := (⟨"com/example/runs_to_scores/runstoscores/scoring/TopicJudgments", "addOnce", "(Ljava/lang/CharSequence;I)Z"⟩ : MethodName)) (z := (⟨"com/example/runs_to_scores/runstoscores/scoring/TopicJudgments", "addOnce", "(Ljava/lang/CharSequence;I)Z"⟩ : MethodName)) hown (mvT hZ (hw _ (List.mem_of_getElem? (i := 55) rfl))) (mvT hZ (hw _ (List.mem_of_getElem? (i := 56) rfl))) (notFace_of_selects (args := #[]) (mvT hZ (hw _ (List.mem_of_getElem? (i := 58) rfl)))) (mvT hZ (hw _ (List.mem_of_getElem? (i := 58) rfl))) (mvT hZ (hw _ (List.mem_of_getElem? (i := 57) rfl))) (by decide) (backOf (W := 0) (rm8_0 l Z a0 hw [] b1 a11 p2 d6 bB6 bE6 bH6 bS6 kB6 kE6 kH6 kS6 bJ6 kJ6 t11 kk11 G1 G3 h11 n0 Z12 f17 f18 f19 f20 f21 f22 f23 f24 f25 f26 f27 f28 f29 s0_6 s2_6 s3_6 s4_6 s5_6 s6_6 g_d6 Ex11 Va11 Co11 Ar11 hp11 (Ne.symm ne_bB6_a11) (Ne.symm ne_bB6_t11) O13 O2 P5 O4 rG3) hZ (hw _ (List.mem_of_getElem? (i := 59) rfl)) (hw _ (List.mem_of_getElem? (i := 2) rfl)) (by decide) (by decide)) qa16 qc16 (g := (mkF m 15 #[.val (.int p1), .val (.int p2), .val (.int p3), .val (.int p4), .val (.int p5), .val (.ref b1), .unset, .unset, .unset, .unset, .unset] [(.int p2), (.ref a11), (.ref b1)])) rfl (by rw [hml]; rfl) (Steps.refl _) (argsL := [(.ref a11), (.int p2)]) (rest := []) (lenOf pd_11 rfl) rfl (by show 2 * 0 + _ ≤ _; exact Nat.le_of_eq rfl) (hb hby at_15) (fun _ _ => ⟨rfl, e11, (by decide : 9 + 0 ≤ _), (by decide : 120 + 0 ≤ _)⟩)
  dsimp only [Pt.U, Pt.locs, Pt.cells, Pt.slots] at X16 l16 y16 z16 st16 hQ16
  subst l16 y16 z16
  obtain ⟨rfl, Nq16, K16, AJ16, ED_16, FD0_16, FD1_16, FD2_16, FD3_16, FD4_16, AD0_16, AD1_16, AD2_16, AD3_16⟩ := hQ16
  have Nf16 := Fr.app Nf6 Nq16
  have Z31 : n0 ≤ T16.heap.size := Nat.le_trans Z12 K16.1
  have hk32 := Nat.le_trans hkn11 K16.1
  have O33 : Old Z n0 T16.heap := O13.keep K16 (allS g_d6 (allS g_bB6 (allS g_bE6 (allS g_bH6 (allS g_bS6 (allS g_bJ6 all0))))))
  have kn34 : ∀ t, own_S p e below T16 (mkF m 18 #[.val (.int p1), .val (.int p2), .val (.int p3), .val (.int p4), .val (.int p5), .val (.ref b1), .unset, .unset, .unset, .unset, .unset] [(.int (1 : Int32))]) t → Gl t := fun t kt => kn15 t (st16.trans kt)
  have kn35 : ∀ t, own_S p e below T16 (mkF m 21 #[.val (.int p1), .val (.int p2), .val (.int p3), .val (.int p4), .val (.int p5), .val (.ref b1), .unset, .unset, .unset, .unset, .unset] [(.ref b1)]) t → Gl t := fun t kt => kn34 t (by
    show own_S p e below T16 (mkF m 18 #[.val (.int p1), .val (.int p2), .val (.int p3), .val (.int p4), .val (.int p5), .val (.ref b1), .unset, .unset, .unset, .unset, .unset] [(.int (1 : Int32))]) _
    refine XS.pop X16.here hx rfl (hb hby at_18) rfl rfl ?_
    show own_S p e below T16 (mkF m 19 #[.val (.int p1), .val (.int p2), .val (.int p3), .val (.int p4), .val (.int p5), .val (.ref b1), .unset, .unset, .unset, .unset, .unset] []) _
    refine XS.aload X16.here hx rfl (hb hby at_19) rfl rfl ?_
    exact kt)
  obtain ⟨a36, T36, h36, kc36, t36, kk36, X36, e36, E36, hSn36, hkn36, hZ, hown, Ex36, Co36, Va36, Ar36, la36, lb36, I36, Lt36, dj36, st36⟩ := ldcSVd (vm0 := T11.vm) X16 hx hZ hown (hw _ (List.mem_of_getElem? (i := 126) rfl)) wS rfl hSn11 hk32 (hsz ▸ Nf16) hkp I11 (by decide) (HC _ (List.mem_of_getElem? (i := 1) rfl)) hcw (vs := [(.int (98 : Int32))]) (z := (1 : Int32)) ⟨by decide, by decide⟩ (by decide) rfl (g := (mkF m 21 #[.val (.int p1), .val (.int p2), .val (.int p3), .val (.int p4), .val (.int p5), .val (.ref b1), .unset, .unset, .unset, .unset, .unset] [(.ref b1)])) rfl (hb hby at_21) (n := 4) (by decide) (by decide) (by decide) (by decide)
  have f37 := (f30.keep K16)
  have ne_b1_a36 : @Ne Nat b1 a36 := by have q1 : @LT.lt Nat _ b1 T16.heap.size := f37.lt; have q2 := g_b1; have q3 : (@LT.lt Nat _ a36 s.heap.size ∧ @LT.lt Nat _ t36 s.heap.size) ∨ (T16.heap.size ≤ a36 ∧ T16.heap.size ≤ t36) := dj36; omega
  have ne_b1_t36 : @Ne Nat b1 t36 := by have q1 : @LT.lt Nat _ b1 T16.heap.size := f37.lt; have q2 := g_b1; have q3 : (@LT.lt Nat _ a36 s.heap.size ∧ @LT.lt Nat _ t36 s.heap.size) ∨ (T16.heap.size ≤ a36 ∧ T16.heap.size ≤ t36) := dj36; omega
  have ne_bJ6_a36 : @Ne Nat bJ6 a36 := by have q1 : @LT.lt Nat _ bJ6 T16.heap.size := AJ16.lt; have q2 := g_bJ6; have q3 : (@LT.lt Nat _ a36 s.heap.size ∧ @LT.lt Nat _ t36 s.heap.size) ∨ (T16.heap.size ≤ a36 ∧ T16.heap.size ≤ t36) := dj36; omega
  have ne_bJ6_t36 : @Ne Nat bJ6 t36 := by have q1 : @LT.lt Nat _ bJ6 T16.heap.size := AJ16.lt; have q2 := g_bJ6; have q3 : (@LT.lt Nat _ a36 s.heap.size ∧ @LT.lt Nat _ t36 s.heap.size) ∨ (T16.heap.size ≤ a36 ∧ T16.heap.size ≤ t36) := dj36; omega
  have ne_d6_a36 : @Ne Nat d6 a36 := by have q1 : @LT.lt Nat _ d6 T16.heap.size := ED_16.lt; have q2 := g_d6; have q3 : (@LT.lt Nat _ a36 s.heap.size ∧ @LT.lt Nat _ t36 s.heap.size) ∨ (T16.heap.size ≤ a36 ∧ T16.heap.size ≤ t36) := dj36; omega
  have ne_d6_t36 : @Ne Nat d6 t36 := by have q1 : @LT.lt Nat _ d6 T16.heap.size := ED_16.lt; have q2 := g_d6; have q3 : (@LT.lt Nat _ a36 s.heap.size ∧ @LT.lt Nat _ t36 s.heap.size) ∨ (T16.heap.size ≤ a36 ∧ T16.heap.size ≤ t36) := dj36; omega
  have ne_bB6_a36 : @Ne Nat bB6 a36 := by have q1 : @LT.lt Nat _ bB6 T16.heap.size := AD0_16.lt; have q2 := g_bB6; have q3 : (@LT.lt Nat _ a36 s.heap.size ∧ @LT.lt Nat _ t36 s.heap.size) ∨ (T16.heap.size ≤ a36 ∧ T16.heap.size ≤ t36) := dj36; omega
  have ne_bB6_t36 : @Ne Nat bB6 t36 := by have q1 : @LT.lt Nat _ bB6 T16.heap.size := AD0_16.lt; have q2 := g_bB6; have q3 : (@LT.lt Nat _ a36 s.heap.size ∧ @LT.lt Nat _ t36 s.heap.size) ∨ (T16.heap.size ≤ a36 ∧ T16.heap.size ≤ t36) := dj36; omega
  have ne_bE6_a36 : @Ne Nat bE6 a36 := by have q1 : @LT.lt Nat _ bE6 T16.heap.size := AD1_16.lt; have q2 := g_bE6; have q3 : (@LT.lt Nat _ a36 s.heap.size ∧ @LT.lt Nat _ t36 s.heap.size) ∨ (T16.heap.size ≤ a36 ∧ T16.heap.size ≤ t36) := dj36; omega
  have ne_bE6_t36 : @Ne Nat bE6 t36 := by have q1 : @LT.lt Nat _ bE6 T16.heap.size := AD1_16.lt; have q2 := g_bE6; have q3 : (@LT.lt Nat _ a36 s.heap.size ∧ @LT.lt Nat _ t36 s.heap.size) ∨ (T16.heap.size ≤ a36 ∧ T16.heap.size ≤ t36) := dj36; omega
  have ne_bH6_a36 : @Ne Nat bH6 a36 := by have q1 : @LT.lt Nat _ bH6 T16.heap.size := AD2_16.lt; have q2 := g_bH6; have q3 : (@LT.lt Nat _ a36 s.heap.size ∧ @LT.lt Nat _ t36 s.heap.size) ∨ (T16.heap.size ≤ a36 ∧ T16.heap.size ≤ t36) := dj36; omega
  have ne_bH6_t36 : @Ne Nat bH6 t36 := by have q1 : @LT.lt Nat _ bH6 T16.heap.size := AD2_16.lt; have q2 := g_bH6; have q3 : (@LT.lt Nat _ a36 s.heap.size ∧ @LT.lt Nat _ t36 s.heap.size) ∨ (T16.heap.size ≤ a36 ∧ T16.heap.size ≤ t36) := dj36; omega
  have ne_bS6_a36 : @Ne Nat bS6 a36 := by have q1 : @LT.lt Nat _ bS6 T16.heap.size := AD3_16.lt; have q2 := g_bS6; have q3 : (@LT.lt Nat _ a36 s.heap.size ∧ @LT.lt Nat _ t36 s.heap.size) ∨ (T16.heap.size ≤ a36 ∧ T16.heap.size ≤ t36) := dj36; omega
  have ne_bS6_t36 : @Ne Nat bS6 t36 := by have q1 : @LT.lt Nat _ bS6 T16.heap.size := AD3_16.lt; have q2 := g_bS6; have q3 : (@LT.lt Nat _ a36 s.heap.size ∧ @LT.lt Nat _ t36 s.heap.size) ∨ (T16.heap.size ≤ a36 ∧ T16.heap.size ≤ t36) := dj36; omega
  have Z38 : n0 ≤ h36.size := Nat.le_trans Z31 E36.1
  have hk39 := Nat.le_trans hk32 E36.1
  have O40 : Old Z n0 h36 := O33.ext E36
  have hp36 : ∀ c ∈ ([(98 : Int32)] : List Int32), ¬ c < 0 ∧ ¬ (255 : Int32) < c := by decide
  have kn41 : ∀ t, own_S p e below T36 (mkF m 23 #[.val (.int p1), .val (.int p2), .val (.int p3), .val (.int p4), .val (.int p5), .val (.ref b1), .unset, .unset, .unset, .unset, .unset] [(.ref a36), (.ref b1)]) t → Gl t := fun t kt => kn35 t (st36 _ kt)
  have kn42 : ∀ t, own_S p e below T36 (mkF m 24 #[.val (.int p1), .val (.int p2), .val (.int p3), .val (.int p4), .val (.int p5), .val (.ref b1), .unset, .unset, .unset, .unset, .unset] [(.int p3), (.ref a36), (.ref b1)]) t → Gl t := fun t kt => kn41 t (by
    show own_S p e below T36 (mkF m 23 #[.val (.int p1), .val (.int p2), .val (.int p3), .val (.int p4), .val (.int p5), .val (.ref b1), .unset, .unset, .unset, .unset, .unset] [(.ref a36), (.ref b1)]) _
    refine XS.iloadN X36.here hx rfl (hb hby at_23) rfl ?_
    exact kt)
  have f44 := ((f17.keep K16 (ninS ne_b1_d6 (ninS ne_b1_bB6 (ninS ne_b1_bE6 (ninS ne_b1_bH6 (ninS ne_b1_bS6 (ninS ne_b1_bJ6 nin0))))))).ext E36)
  have f45 := ((f18.keep K16 (ninS ne_b1_d6 (ninS ne_b1_bB6 (ninS ne_b1_bE6 (ninS ne_b1_bH6 (ninS ne_b1_bS6 (ninS ne_b1_bJ6 nin0))))))).ext E36)
  have f46 := (AJ16.ext E36)
  have f47 := (ED_16.ext E36)
  have f48 := (FD0_16.ext E36)
  have f49 := (FD1_16.ext E36)
  have f50 := (FD2_16.ext E36)
  have f51 := (FD3_16.ext E36)
  have f52 := (FD4_16.ext E36)
  have f53 := (AD0_16.ext E36)
  have f54 := (AD1_16.ext E36)
  have f55 := (AD2_16.ext E36)
  have f56 := (AD3_16.ext E36)
  have f57 := (f37.ext E36)
  obtain ⟨cq43, kq43, qa43, qb43, qc43⟩ := isOf hZ e36 f57
  obtain ⟨_, _, ⟨T43, L43, cc43, ss43⟩, -, X43, ⟨Lc43, hQ43, l43, y43, z43⟩, st43⟩ := X36.virtualBack hx (y := (⟨"com/example/runs_to_scores/runstoscores/scoring/TopicJudgments", "addOnce", "(Ljava/lang/CharSequence;I)Z"⟩ : MethodName)) (z := (⟨"com/example/runs_to_scores/runstoscores/scoring/TopicJudgments", "addOnce", "(Ljava/lang/CharSequence;I)Z"⟩ : MethodName)) hown (mvT hZ (hw _ (List.mem_of_getElem? (i := 55) rfl))) (mvT hZ (hw _ (List.mem_of_getElem? (i := 56) rfl))) (notFace_of_selects (args := #[]) (mvT hZ (hw _ (List.mem_of_getElem? (i := 58) rfl)))) (mvT hZ (hw _ (List.mem_of_getElem? (i := 58) rfl))) (mvT hZ (hw _ (List.mem_of_getElem? (i := 57) rfl))) (by decide) (backOf (W := 0) (rm8_1 l Z a0 hw [] b1 a36 p3 d6 bB6 bE6 bH6 bS6 kB6 kE6 kH6 kS6 bJ6 kJ6 p2 t36 kk36 G1 G3 h36 n0 Z38 f44 f45 f46 f47 f48 f49 f50 f51 f52 f53 f54 f55 f56 s0_6 s2_6 s3_6 s4_6 s5_6 s6_6 g_d6 Ex36 Va36 Co36 Ar36 hp36 (Ne.symm ne_bB6_a36) (Ne.symm ne_bB6_t36) O40 O2 P5 O4 rG3) hZ (hw _ (List.mem_of_getElem? (i := 59) rfl)) (hw _ (List.mem_of_getElem? (i := 2) rfl)) (by decide) (by decide)) qa43 qc43 (g := (mkF m 24 #[.val (.int p1), .val (.int p2), .val (.int p3), .val (.int p4), .val (.int p5), .val (.ref b1), .unset, .unset, .unset, .unset, .unset] [(.int p3), (.ref a36), (.ref b1)])) rfl (by rw [hml]; rfl) (Steps.refl _) (argsL := [(.ref a36), (.int p3)]) (rest := []) (lenOf pd_11 rfl) rfl (by show 2 * 0 + _ ≤ _; exact Nat.le_of_eq rfl) (hb hby at_24) (fun _ _ => ⟨rfl, e36, (by decide : 11 + 0 ≤ _), (by decide : 128 + 0 ≤ _)⟩)
  dsimp only [Pt.U, Pt.locs, Pt.cells, Pt.slots] at X43 l43 y43 z43 st43 hQ43
  subst l43 y43 z43
  obtain ⟨rfl, Nq43, K43, AJ43, ED_43, FD0_43, FD1_43, FD2_43, FD3_43, FD4_43, AD0_43, AD1_43, AD2_43, AD3_43⟩ := hQ43
  have Nf43 := Fr.app Nf16 Nq43
  have Z58 : n0 ≤ T43.heap.size := Nat.le_trans Z38 K43.1
  have hk59 := Nat.le_trans hkn36 K43.1
  have O60 : Old Z n0 T43.heap := O40.keep K43 (allS g_d6 (allS g_bB6 (allS g_bE6 (allS g_bH6 (allS g_bS6 (allS g_bJ6 all0))))))
  have kn61 : ∀ t, own_S p e below T43 (mkF m 27 #[.val (.int p1), .val (.int p2), .val (.int p3), .val (.int p4), .val (.int p5), .val (.ref b1), .unset, .unset, .unset, .unset, .unset] [(.int (1 : Int32))]) t → Gl t := fun t kt => kn42 t (st43.trans kt)
  have kn62 : ∀ t, own_S p e below T43 (mkF m 30 #[.val (.int p1), .val (.int p2), .val (.int p3), .val (.int p4), .val (.int p5), .val (.ref b1), .unset, .unset, .unset, .unset, .unset] [(.ref b1)]) t → Gl t := fun t kt => kn61 t (by
    show own_S p e below T43 (mkF m 27 #[.val (.int p1), .val (.int p2), .val (.int p3), .val (.int p4), .val (.int p5), .val (.ref b1), .unset, .unset, .unset, .unset, .unset] [(.int (1 : Int32))]) _
    refine XS.pop X43.here hx rfl (hb hby at_27) rfl rfl ?_
    show own_S p e below T43 (mkF m 28 #[.val (.int p1), .val (.int p2), .val (.int p3), .val (.int p4), .val (.int p5), .val (.ref b1), .unset, .unset, .unset, .unset, .unset] []) _
    refine XS.aload X43.here hx rfl (hb hby at_28) rfl rfl ?_
    exact kt)
  obtain ⟨a63, T63, h63, kc63, t63, kk63, X63, e63, E63, hSn63, hkn63, hZ, hown, Ex63, Co63, Va63, Ar63, la63, lb63, I63, Lt63, dj63, st63⟩ := ldcSVd (vm0 := T36.vm) X43 hx hZ hown (hw _ (List.mem_of_getElem? (i := 127) rfl)) wS rfl hSn36 hk59 (hsz ▸ Nf43) hkp I36 (by decide) (HC _ (List.mem_of_getElem? (i := 2) rfl)) hcw (vs := [(.int (99 : Int32))]) (z := (1 : Int32)) ⟨by decide, by decide⟩ (by decide) rfl (g := (mkF m 30 #[.val (.int p1), .val (.int p2), .val (.int p3), .val (.int p4), .val (.int p5), .val (.ref b1), .unset, .unset, .unset, .unset, .unset] [(.ref b1)])) rfl (hb hby at_30) (n := 4) (by decide) (by decide) (by decide) (by decide)
  have f64 := (f57.keep K43)
  have ne_b1_a63 : @Ne Nat b1 a63 := by have q1 : @LT.lt Nat _ b1 T43.heap.size := f64.lt; have q2 := g_b1; have q3 : (@LT.lt Nat _ a63 s.heap.size ∧ @LT.lt Nat _ t63 s.heap.size) ∨ (T43.heap.size ≤ a63 ∧ T43.heap.size ≤ t63) := dj63; omega
  have ne_b1_t63 : @Ne Nat b1 t63 := by have q1 : @LT.lt Nat _ b1 T43.heap.size := f64.lt; have q2 := g_b1; have q3 : (@LT.lt Nat _ a63 s.heap.size ∧ @LT.lt Nat _ t63 s.heap.size) ∨ (T43.heap.size ≤ a63 ∧ T43.heap.size ≤ t63) := dj63; omega
  have ne_bJ6_a63 : @Ne Nat bJ6 a63 := by have q1 : @LT.lt Nat _ bJ6 T43.heap.size := AJ43.lt; have q2 := g_bJ6; have q3 : (@LT.lt Nat _ a63 s.heap.size ∧ @LT.lt Nat _ t63 s.heap.size) ∨ (T43.heap.size ≤ a63 ∧ T43.heap.size ≤ t63) := dj63; omega
  have ne_bJ6_t63 : @Ne Nat bJ6 t63 := by have q1 : @LT.lt Nat _ bJ6 T43.heap.size := AJ43.lt; have q2 := g_bJ6; have q3 : (@LT.lt Nat _ a63 s.heap.size ∧ @LT.lt Nat _ t63 s.heap.size) ∨ (T43.heap.size ≤ a63 ∧ T43.heap.size ≤ t63) := dj63; omega
  have ne_d6_a63 : @Ne Nat d6 a63 := by have q1 : @LT.lt Nat _ d6 T43.heap.size := ED_43.lt; have q2 := g_d6; have q3 : (@LT.lt Nat _ a63 s.heap.size ∧ @LT.lt Nat _ t63 s.heap.size) ∨ (T43.heap.size ≤ a63 ∧ T43.heap.size ≤ t63) := dj63; omega
  have ne_d6_t63 : @Ne Nat d6 t63 := by have q1 : @LT.lt Nat _ d6 T43.heap.size := ED_43.lt; have q2 := g_d6; have q3 : (@LT.lt Nat _ a63 s.heap.size ∧ @LT.lt Nat _ t63 s.heap.size) ∨ (T43.heap.size ≤ a63 ∧ T43.heap.size ≤ t63) := dj63; omega
  have ne_bB6_a63 : @Ne Nat bB6 a63 := by have q1 : @LT.lt Nat _ bB6 T43.heap.size := AD0_43.lt; have q2 := g_bB6; have q3 : (@LT.lt Nat _ a63 s.heap.size ∧ @LT.lt Nat _ t63 s.heap.size) ∨ (T43.heap.size ≤ a63 ∧ T43.heap.size ≤ t63) := dj63; omega
  have ne_bB6_t63 : @Ne Nat bB6 t63 := by have q1 : @LT.lt Nat _ bB6 T43.heap.size := AD0_43.lt; have q2 := g_bB6; have q3 : (@LT.lt Nat _ a63 s.heap.size ∧ @LT.lt Nat _ t63 s.heap.size) ∨ (T43.heap.size ≤ a63 ∧ T43.heap.size ≤ t63) := dj63; omega
  have ne_bE6_a63 : @Ne Nat bE6 a63 := by have q1 : @LT.lt Nat _ bE6 T43.heap.size := AD1_43.lt; have q2 := g_bE6; have q3 : (@LT.lt Nat _ a63 s.heap.size ∧ @LT.lt Nat _ t63 s.heap.size) ∨ (T43.heap.size ≤ a63 ∧ T43.heap.size ≤ t63) := dj63; omega
  have ne_bE6_t63 : @Ne Nat bE6 t63 := by have q1 : @LT.lt Nat _ bE6 T43.heap.size := AD1_43.lt; have q2 := g_bE6; have q3 : (@LT.lt Nat _ a63 s.heap.size ∧ @LT.lt Nat _ t63 s.heap.size) ∨ (T43.heap.size ≤ a63 ∧ T43.heap.size ≤ t63) := dj63; omega
  have ne_bH6_a63 : @Ne Nat bH6 a63 := by have q1 : @LT.lt Nat _ bH6 T43.heap.size := AD2_43.lt; have q2 := g_bH6; have q3 : (@LT.lt Nat _ a63 s.heap.size ∧ @LT.lt Nat _ t63 s.heap.size) ∨ (T43.heap.size ≤ a63 ∧ T43.heap.size ≤ t63) := dj63; omega
  have ne_bH6_t63 : @Ne Nat bH6 t63 := by have q1 : @LT.lt Nat _ bH6 T43.heap.size := AD2_43.lt; have q2 := g_bH6; have q3 : (@LT.lt Nat _ a63 s.heap.size ∧ @LT.lt Nat _ t63 s.heap.size) ∨ (T43.heap.size ≤ a63 ∧ T43.heap.size ≤ t63) := dj63; omega
  have ne_bS6_a63 : @Ne Nat bS6 a63 := by have q1 : @LT.lt Nat _ bS6 T43.heap.size := AD3_43.lt; have q2 := g_bS6; have q3 : (@LT.lt Nat _ a63 s.heap.size ∧ @LT.lt Nat _ t63 s.heap.size) ∨ (T43.heap.size ≤ a63 ∧ T43.heap.size ≤ t63) := dj63; omega
  have ne_bS6_t63 : @Ne Nat bS6 t63 := by have q1 : @LT.lt Nat _ bS6 T43.heap.size := AD3_43.lt; have q2 := g_bS6; have q3 : (@LT.lt Nat _ a63 s.heap.size ∧ @LT.lt Nat _ t63 s.heap.size) ∨ (T43.heap.size ≤ a63 ∧ T43.heap.size ≤ t63) := dj63; omega
  have Z65 : n0 ≤ h63.size := Nat.le_trans Z58 E63.1
  have hk66 := Nat.le_trans hk59 E63.1
  have O67 : Old Z n0 h63 := O60.ext E63
  have hp63 : ∀ c ∈ ([(99 : Int32)] : List Int32), ¬ c < 0 ∧ ¬ (255 : Int32) < c := by decide
  have kn68 : ∀ t, own_S p e below T63 (mkF m 32 #[.val (.int p1), .val (.int p2), .val (.int p3), .val (.int p4), .val (.int p5), .val (.ref b1), .unset, .unset, .unset, .unset, .unset] [(.ref a63), (.ref b1)]) t → Gl t := fun t kt => kn62 t (st63 _ kt)
  have kn69 : ∀ t, own_S p e below T63 (mkF m 33 #[.val (.int p1), .val (.int p2), .val (.int p3), .val (.int p4), .val (.int p5), .val (.ref b1), .unset, .unset, .unset, .unset, .unset] [(.int p4), (.ref a63), (.ref b1)]) t → Gl t := fun t kt => kn68 t (by
    show own_S p e below T63 (mkF m 32 #[.val (.int p1), .val (.int p2), .val (.int p3), .val (.int p4), .val (.int p5), .val (.ref b1), .unset, .unset, .unset, .unset, .unset] [(.ref a63), (.ref b1)]) _
    refine XS.iloadN X63.here hx rfl (hb hby at_32) rfl ?_
    exact kt)
  have f71 := ((f44.keep K43 (ninS ne_b1_d6 (ninS ne_b1_bB6 (ninS ne_b1_bE6 (ninS ne_b1_bH6 (ninS ne_b1_bS6 (ninS ne_b1_bJ6 nin0))))))).ext E63)
  have f72 := ((f45.keep K43 (ninS ne_b1_d6 (ninS ne_b1_bB6 (ninS ne_b1_bE6 (ninS ne_b1_bH6 (ninS ne_b1_bS6 (ninS ne_b1_bJ6 nin0))))))).ext E63)
  have f73 := (AJ43.ext E63)
  have f74 := (ED_43.ext E63)
  have f75 := (FD0_43.ext E63)
  have f76 := (FD1_43.ext E63)
  have f77 := (FD2_43.ext E63)
  have f78 := (FD3_43.ext E63)
  have f79 := (FD4_43.ext E63)
  have f80 := (AD0_43.ext E63)
  have f81 := (AD1_43.ext E63)
  have f82 := (AD2_43.ext E63)
  have f83 := (AD3_43.ext E63)
  have f84 := (f64.ext E63)
  obtain ⟨cq70, kq70, qa70, qb70, qc70⟩ := isOf hZ e63 f84
  obtain ⟨_, _, ⟨T70, L70, cc70, ss70⟩, -, X70, ⟨Lc70, hQ70, l70, y70, z70⟩, st70⟩ := X63.virtualBack hx (y := (⟨"com/example/runs_to_scores/runstoscores/scoring/TopicJudgments", "addOnce", "(Ljava/lang/CharSequence;I)Z"⟩ : MethodName)) (z := (⟨"com/example/runs_to_scores/runstoscores/scoring/TopicJudgments", "addOnce", "(Ljava/lang/CharSequence;I)Z"⟩ : MethodName)) hown (mvT hZ (hw _ (List.mem_of_getElem? (i := 55) rfl))) (mvT hZ (hw _ (List.mem_of_getElem? (i := 56) rfl))) (notFace_of_selects (args := #[]) (mvT hZ (hw _ (List.mem_of_getElem? (i := 58) rfl)))) (mvT hZ (hw _ (List.mem_of_getElem? (i := 58) rfl))) (mvT hZ (hw _ (List.mem_of_getElem? (i := 57) rfl))) (by decide) (backOf (W := 0) (rm8_2 l Z a0 hw [] b1 a63 p4 d6 bB6 bE6 bH6 bS6 kB6 kE6 kH6 kS6 bJ6 kJ6 p2 p3 t63 kk63 G1 G3 h63 n0 Z65 f71 f72 f73 f74 f75 f76 f77 f78 f79 f80 f81 f82 f83 s0_6 s2_6 s3_6 s4_6 s5_6 s6_6 g_d6 Ex63 Va63 Co63 Ar63 hp63 (Ne.symm ne_bB6_a63) (Ne.symm ne_bB6_t63) O67 O2 P5 O4 rG3) hZ (hw _ (List.mem_of_getElem? (i := 59) rfl)) (hw _ (List.mem_of_getElem? (i := 2) rfl)) (by decide) (by decide)) qa70 qc70 (g := (mkF m 33 #[.val (.int p1), .val (.int p2), .val (.int p3), .val (.int p4), .val (.int p5), .val (.ref b1), .unset, .unset, .unset, .unset, .unset] [(.int p4), (.ref a63), (.ref b1)])) rfl (by rw [hml]; rfl) (Steps.refl _) (argsL := [(.ref a63), (.int p4)]) (rest := []) (lenOf pd_11 rfl) rfl (by show 2 * 0 + _ ≤ _; exact Nat.le_of_eq rfl) (hb hby at_33) (fun _ _ => ⟨rfl, e63, (by decide : 13 + 0 ≤ _), (by decide : 136 + 0 ≤ _)⟩)
  dsimp only [Pt.U, Pt.locs, Pt.cells, Pt.slots] at X70 l70 y70 z70 st70 hQ70
  subst l70 y70 z70
  obtain ⟨rfl, Nq70, K70, AJ70, ED_70, FD0_70, FD1_70, FD2_70, FD3_70, FD4_70, AD0_70, AD1_70, AD2_70, AD3_70⟩ := hQ70
  have Nf70 := Fr.app Nf43 Nq70
  have Z85 : n0 ≤ T70.heap.size := Nat.le_trans Z65 K70.1
  have hk86 := Nat.le_trans hkn63 K70.1
  have O87 : Old Z n0 T70.heap := O67.keep K70 (allS g_d6 (allS g_bB6 (allS g_bE6 (allS g_bH6 (allS g_bS6 (allS g_bJ6 all0))))))
  have kn88 : ∀ t, own_S p e below T70 (mkF m 36 #[.val (.int p1), .val (.int p2), .val (.int p3), .val (.int p4), .val (.int p5), .val (.ref b1), .unset, .unset, .unset, .unset, .unset] [(.int (1 : Int32))]) t → Gl t := fun t kt => kn69 t (st70.trans kt)
  have kn89 : ∀ t, own_S p e below T70 (mkF m 47 #[.val (.int p1), .val (.int p2), .val (.int p3), .val (.int p4), .val (.int p5), .val (.ref b1), .val (.int (p5 ||| (-2147483648 : Int32))), .unset, .unset, .unset, .unset] [(.int (0 : Int32)), (.ref b1)]) t → Gl t := fun t kt => kn88 t (by
    show own_S p e below T70 (mkF m 36 #[.val (.int p1), .val (.int p2), .val (.int p3), .val (.int p4), .val (.int p5), .val (.ref b1), .unset, .unset, .unset, .unset, .unset] [(.int (1 : Int32))]) _
    refine XS.pop X70.here hx rfl (hb hby at_36) rfl rfl ?_
    show own_S p e below T70 (mkF m 37 #[.val (.int p1), .val (.int p2), .val (.int p3), .val (.int p4), .val (.int p5), .val (.ref b1), .unset, .unset, .unset, .unset, .unset] []) _
    refine XS.iload X70.here hx rfl (hb hby at_37) rfl ?_
    show own_S p e below T70 (mkF m 39 #[.val (.int p1), .val (.int p2), .val (.int p3), .val (.int p4), .val (.int p5), .val (.ref b1), .unset, .unset, .unset, .unset, .unset] [(.int p5)]) _
    refine X70.ldcInt hx hown (mvT hZ (hw _ (List.mem_of_getElem? (i := 128) rfl))) (g := (mkF m 39 #[.val (.int p1), .val (.int p2), .val (.int p3), .val (.int p4), .val (.int p5), .val (.ref b1), .unset, .unset, .unset, .unset, .unset] [(.int p5)])) rfl (hb hby at_39) _ ?_
    show own_S p e below T70 (mkF m 41 #[.val (.int p1), .val (.int p2), .val (.int p3), .val (.int p4), .val (.int p5), .val (.ref b1), .unset, .unset, .unset, .unset, .unset] [(.int (-2147483648 : Int32)), (.int p5)]) _
    refine XS.ior X70.here hx rfl (hb hby at_41) rfl ?_
    show own_S p e below T70 (mkF m 42 #[.val (.int p1), .val (.int p2), .val (.int p3), .val (.int p4), .val (.int p5), .val (.ref b1), .unset, .unset, .unset, .unset, .unset] [(.int (p5 ||| (-2147483648 : Int32)))]) _
    refine XS.istore X70.here hx rfl (hb hby at_42) rfl (l' := #[.val (.int p1), .val (.int p2), .val (.int p3), .val (.int p4), .val (.int p5), .val (.ref b1), .val (.int (p5 ||| (-2147483648 : Int32))), .unset, .unset, .unset, .unset]) rfl ?_
    show own_S p e below T70 (mkF m 44 #[.val (.int p1), .val (.int p2), .val (.int p3), .val (.int p4), .val (.int p5), .val (.ref b1), .val (.int (p5 ||| (-2147483648 : Int32))), .unset, .unset, .unset, .unset] []) _
    refine XS.aload X70.here hx rfl (hb hby at_44) rfl rfl ?_
    show own_S p e below T70 (mkF m 46 #[.val (.int p1), .val (.int p2), .val (.int p3), .val (.int p4), .val (.int p5), .val (.ref b1), .val (.int (p5 ||| (-2147483648 : Int32))), .unset, .unset, .unset, .unset] [(.ref b1)]) _
    refine XS.iconst X70.here hx rfl (hb hby at_46) ?_
    exact kt)
  have f91 := (f72.keep K70 (ninS ne_b1_d6 (ninS ne_b1_bB6 (ninS ne_b1_bE6 (ninS ne_b1_bH6 (ninS ne_b1_bS6 (ninS ne_b1_bJ6 nin0)))))))
  have f92 := (f84.keep K70)
  obtain ⟨cq90, kq90, qa90, qb90, qc90⟩ := isOf hZ rfl f92
  obtain ⟨_, _, ⟨T90, L90, cc90, ss90⟩, -, X90, ⟨Lc90, hQ90, l90, y90, z90⟩, st90⟩ := X70.virtualBack hx (y := (⟨"com/example/runs_to_scores/runstoscores/scoring/TopicJudgments", "gainAt", "(I)I"⟩ : MethodName)) (z := (⟨"com/example/runs_to_scores/runstoscores/scoring/TopicJudgments", "gainAt", "(I)I"⟩ : MethodName)) hown (mvT hZ (hw _ (List.mem_of_getElem? (i := 129) rfl))) (mvT hZ (hw _ (List.mem_of_getElem? (i := 130) rfl))) (notFace_of_selects (args := #[]) (mvT hZ (hw _ (List.mem_of_getElem? (i := 132) rfl)))) (mvT hZ (hw _ (List.mem_of_getElem? (i := 132) rfl))) (mvT hZ (hw _ (List.mem_of_getElem? (i := 131) rfl))) (by decide) (backOf (W := 0) (rm22_0 l Z a0 hw [] b1 bJ6 kJ6 p2 p3 p4 T70.heap n0 Z85 f91 AJ70) hZ (hw _ (List.mem_of_getElem? (i := 133) rfl)) (hw _ (List.mem_of_getElem? (i := 2) rfl)) (by decide) (by decide)) qa90 qc90 (g := (mkF m 47 #[.val (.int p1), .val (.int p2), .val (.int p3), .val (.int p4), .val (.int p5), .val (.ref b1), .val (.int (p5 ||| (-2147483648 : Int32))), .unset, .unset, .unset, .unset] [(.int (0 : Int32)), (.ref b1)])) rfl (by rw [hml]; rfl) (Steps.refl _) (argsL := [(.int (0 : Int32))]) (rest := []) (lenOf pd_0 rfl) rfl (by show 2 * 0 + _ ≤ _; exact Nat.le_of_eq rfl) (hb hby at_47) (fun _ _ => ⟨rfl, rfl, (by decide : 13 + 0 ≤ _), (by decide : 136 + 0 ≤ _)⟩)
  dsimp only [Pt.U, Pt.locs, Pt.cells, Pt.slots] at X90 l90 y90 z90 st90 hQ90
  subst l90 y90 z90
  obtain ⟨rfl, Nq90, eq90⟩ := hQ90
  have Nf90 := Fr.app Nf70 Nq90
  have kn93 : ∀ t, own_S p e below T90 (mkF m 50 #[.val (.int p1), .val (.int p2), .val (.int p3), .val (.int p4), .val (.int p5), .val (.ref b1), .val (.int (p5 ||| (-2147483648 : Int32))), .unset, .unset, .unset, .unset] [(.int (own_mx p2 (0 : Int32)))]) t → Gl t := fun t kt => kn89 t (st90.trans kt)
  have kn94 : ∀ t, own_S p e below T90 (mkF m 51 #[.val (.int p1), .val (.int p2), .val (.int p3), .val (.int p4), .val (.int p5), .val (.ref b1), .val (.int (p5 ||| (-2147483648 : Int32))), .unset, .unset, .unset, .unset] [(.int p2), (.int (own_mx p2 (0 : Int32)))]) t → Gl t := fun t kt => kn93 t (by
    show own_S p e below T90 (mkF m 50 #[.val (.int p1), .val (.int p2), .val (.int p3), .val (.int p4), .val (.int p5), .val (.ref b1), .val (.int (p5 ||| (-2147483648 : Int32))), .unset, .unset, .unset, .unset] [(.int (own_mx p2 (0 : Int32)))]) _
    refine XS.iloadN X90.here hx rfl (hb hby at_50) rfl ?_
    exact kt)
  obtain ⟨_, _, ⟨T95, L95, cc95, ss95⟩, -, X95, ⟨Lc95, hQ95, l95, y95, z95⟩, st95⟩ := Jvm.LawKit.callS X90 hx (y := (⟨"com/example/runs_to_scores/runstoscores/scoring/TopicJudgmentsGainAtPinLaw", "gain", "(I)I"⟩ : MethodName)) hown (mvT hZ (hw _ (List.mem_of_getElem? (i := 135) rfl))) (mvT hZ (hw _ (List.mem_of_getElem? (i := 136) rfl))) (mvT hZ (hw _ (List.mem_of_getElem? (i := 137) rfl))) (mvT hZ (hw _ (List.mem_of_getElem? (i := 138) rfl))) (by decide) (backOf (W := 1) (rm23 l Z a0 hw [] p2  T70.heap n0 Z85 ) hZ (hw _ (List.mem_of_getElem? (i := 138) rfl)) (hw _ (List.mem_of_getElem? (i := 137) rfl)) (by decide) (by decide)) (g := (mkF m 51 #[.val (.int p1), .val (.int p2), .val (.int p3), .val (.int p4), .val (.int p5), .val (.ref b1), .val (.int (p5 ||| (-2147483648 : Int32))), .unset, .unset, .unset, .unset] [(.int p2), (.int (own_mx p2 (0 : Int32)))])) rfl (by rw [hml]; rfl) (argsL := [(.int p2)]) (rest := [(.int (own_mx p2 (0 : Int32)))]) (lenOf pd_0 rfl) rfl (by show 2 * 0 + _ ≤ _; exact Nat.le_of_eq rfl) (hb hby at_51) (fun _ _ => ⟨rfl, eq90, (by decide : 13 + 0 ≤ _), (by decide : 136 + 0 ≤ _)⟩)
  dsimp only [Pt.U, Pt.locs, Pt.cells, Pt.slots] at X95 l95 y95 z95 st95 hQ95
  subst l95 y95 z95
  obtain ⟨rfl, Nq95, eq95⟩ := hQ95
  have Nf95 := Fr.app Nf90 Nq95
  have kn96 : ∀ t, own_S p e below T95 (mkF m 54 #[.val (.int p1), .val (.int p2), .val (.int p3), .val (.int p4), .val (.int p5), .val (.ref b1), .val (.int (p5 ||| (-2147483648 : Int32))), .unset, .unset, .unset, .unset] [(.int (own_gain p2)), (.int (own_mx p2 (0 : Int32)))]) t → Gl t := fun t kt => kn94 t (st95 _ kt)
  have hc54_97 : (own_mx p2 (0 : Int32)) = (own_gain p2) := own_mg _
  have kn98 : ∀ t, own_S p e below T95 (mkF m 67 #[.val (.int p1), .val (.int p2), .val (.int p3), .val (.int p4), .val (.int p5), .val (.ref b1), .val (.int (p5 ||| (-2147483648 : Int32))), .val (.int (1 : Int32)), .unset, .unset, .unset] [(.int (1 : Int32)), (.ref b1)]) t → Gl t := fun t kt => kn96 t (by
    show own_S p e below T95 (mkF m 54 #[.val (.int p1), .val (.int p2), .val (.int p3), .val (.int p4), .val (.int p5), .val (.ref b1), .val (.int (p5 ||| (-2147483648 : Int32))), .unset, .unset, .unset, .unset] [(.int (own_gain p2)), (.int (own_mx p2 (0 : Int32)))]) _
    refine XS.icmpNo X95.here hx rfl (hb hby at_54) rfl (teq hc54_97).2 ?_
    show own_S p e below T95 (mkF m 57 #[.val (.int p1), .val (.int p2), .val (.int p3), .val (.int p4), .val (.int p5), .val (.ref b1), .val (.int (p5 ||| (-2147483648 : Int32))), .unset, .unset, .unset, .unset] []) _
    refine XS.iconst X95.here hx rfl (hb hby at_57) ?_
    show own_S p e below T95 (mkF m 58 #[.val (.int p1), .val (.int p2), .val (.int p3), .val (.int p4), .val (.int p5), .val (.ref b1), .val (.int (p5 ||| (-2147483648 : Int32))), .unset, .unset, .unset, .unset] [(.int (1 : Int32))]) _
    refine XS.goto X95.here hx rfl (pc0 := 58) (pc' := 62) rfl (hb hby at_58) (by decide) (by decide) ?_
    show own_S p e below T95 (mkF m 62 #[.val (.int p1), .val (.int p2), .val (.int p3), .val (.int p4), .val (.int p5), .val (.ref b1), .val (.int (p5 ||| (-2147483648 : Int32))), .unset, .unset, .unset, .unset] [(.int (1 : Int32))]) _
    refine XS.istore X95.here hx rfl (hb hby at_62) rfl (l' := #[.val (.int p1), .val (.int p2), .val (.int p3), .val (.int p4), .val (.int p5), .val (.ref b1), .val (.int (p5 ||| (-2147483648 : Int32))), .val (.int (1 : Int32)), .unset, .unset, .unset]) rfl ?_
    show own_S p e below T95 (mkF m 64 #[.val (.int p1), .val (.int p2), .val (.int p3), .val (.int p4), .val (.int p5), .val (.ref b1), .val (.int (p5 ||| (-2147483648 : Int32))), .val (.int (1 : Int32)), .unset, .unset, .unset] []) _
    refine XS.aload X95.here hx rfl (hb hby at_64) rfl rfl ?_
    show own_S p e below T95 (mkF m 66 #[.val (.int p1), .val (.int p2), .val (.int p3), .val (.int p4), .val (.int p5), .val (.ref b1), .val (.int (p5 ||| (-2147483648 : Int32))), .val (.int (1 : Int32)), .unset, .unset, .unset] [(.ref b1)]) _
    refine XS.iconst X95.here hx rfl (hb hby at_66) ?_
    exact kt)
  obtain ⟨cq99, kq99, qa99, qb99, qc99⟩ := isOf hZ eq95 f92
  obtain ⟨_, _, ⟨T99, L99, cc99, ss99⟩, -, X99, ⟨Lc99, hQ99, l99, y99, z99⟩, st99⟩ := X95.virtualBack hx (y := (⟨"com/example/runs_to_scores/runstoscores/scoring/TopicJudgments", "gainAt", "(I)I"⟩ : MethodName)) (z := (⟨"com/example/runs_to_scores/runstoscores/scoring/TopicJudgments", "gainAt", "(I)I"⟩ : MethodName)) hown (mvT hZ (hw _ (List.mem_of_getElem? (i := 129) rfl))) (mvT hZ (hw _ (List.mem_of_getElem? (i := 130) rfl))) (notFace_of_selects (args := #[]) (mvT hZ (hw _ (List.mem_of_getElem? (i := 132) rfl)))) (mvT hZ (hw _ (List.mem_of_getElem? (i := 132) rfl))) (mvT hZ (hw _ (List.mem_of_getElem? (i := 131) rfl))) (by decide) (backOf (W := 0) (rm22_1 l Z a0 hw [] b1 bJ6 kJ6 p2 p3 p4 T70.heap n0 Z85 f91 AJ70) hZ (hw _ (List.mem_of_getElem? (i := 133) rfl)) (hw _ (List.mem_of_getElem? (i := 2) rfl)) (by decide) (by decide)) qa99 qc99 (g := (mkF m 67 #[.val (.int p1), .val (.int p2), .val (.int p3), .val (.int p4), .val (.int p5), .val (.ref b1), .val (.int (p5 ||| (-2147483648 : Int32))), .val (.int (1 : Int32)), .unset, .unset, .unset] [(.int (1 : Int32)), (.ref b1)])) rfl (by rw [hml]; rfl) (Steps.refl _) (argsL := [(.int (1 : Int32))]) (rest := []) (lenOf pd_0 rfl) rfl (by show 2 * 0 + _ ≤ _; exact Nat.le_of_eq rfl) (hb hby at_67) (fun _ _ => ⟨rfl, eq95, (by decide : 13 + 0 ≤ _), (by decide : 136 + 0 ≤ _)⟩)
  dsimp only [Pt.U, Pt.locs, Pt.cells, Pt.slots] at X99 l99 y99 z99 st99 hQ99
  subst l99 y99 z99
  obtain ⟨rfl, Nq99, eq99⟩ := hQ99
  have Nf99 := Fr.app Nf95 Nq99
  have kn100 : ∀ t, own_S p e below T99 (mkF m 70 #[.val (.int p1), .val (.int p2), .val (.int p3), .val (.int p4), .val (.int p5), .val (.ref b1), .val (.int (p5 ||| (-2147483648 : Int32))), .val (.int (1 : Int32)), .unset, .unset, .unset] [(.int (own_mx p3 (0 : Int32)))]) t → Gl t := fun t kt => kn98 t (st99.trans kt)
  have kn101 : ∀ t, own_S p e below T99 (mkF m 71 #[.val (.int p1), .val (.int p2), .val (.int p3), .val (.int p4), .val (.int p5), .val (.ref b1), .val (.int (p5 ||| (-2147483648 : Int32))), .val (.int (1 : Int32)), .unset, .unset, .unset] [(.int p3), (.int (own_mx p3 (0 : Int32)))]) t → Gl t := fun t kt => kn100 t (by
    show own_S p e below T99 (mkF m 70 #[.val (.int p1), .val (.int p2), .val (.int p3), .val (.int p4), .val (.int p5), .val (.ref b1), .val (.int (p5 ||| (-2147483648 : Int32))), .val (.int (1 : Int32)), .unset, .unset, .unset] [(.int (own_mx p3 (0 : Int32)))]) _
    refine XS.iloadN X99.here hx rfl (hb hby at_70) rfl ?_
    exact kt)
  obtain ⟨_, _, ⟨T102, L102, cc102, ss102⟩, -, X102, ⟨Lc102, hQ102, l102, y102, z102⟩, st102⟩ := Jvm.LawKit.callS X99 hx (y := (⟨"com/example/runs_to_scores/runstoscores/scoring/TopicJudgmentsGainAtPinLaw", "gain", "(I)I"⟩ : MethodName)) hown (mvT hZ (hw _ (List.mem_of_getElem? (i := 135) rfl))) (mvT hZ (hw _ (List.mem_of_getElem? (i := 136) rfl))) (mvT hZ (hw _ (List.mem_of_getElem? (i := 137) rfl))) (mvT hZ (hw _ (List.mem_of_getElem? (i := 138) rfl))) (by decide) (backOf (W := 1) (rm23 l Z a0 hw [] p3  T70.heap n0 Z85 ) hZ (hw _ (List.mem_of_getElem? (i := 138) rfl)) (hw _ (List.mem_of_getElem? (i := 137) rfl)) (by decide) (by decide)) (g := (mkF m 71 #[.val (.int p1), .val (.int p2), .val (.int p3), .val (.int p4), .val (.int p5), .val (.ref b1), .val (.int (p5 ||| (-2147483648 : Int32))), .val (.int (1 : Int32)), .unset, .unset, .unset] [(.int p3), (.int (own_mx p3 (0 : Int32)))])) rfl (by rw [hml]; rfl) (argsL := [(.int p3)]) (rest := [(.int (own_mx p3 (0 : Int32)))]) (lenOf pd_0 rfl) rfl (by show 2 * 0 + _ ≤ _; exact Nat.le_of_eq rfl) (hb hby at_71) (fun _ _ => ⟨rfl, eq99, (by decide : 13 + 0 ≤ _), (by decide : 136 + 0 ≤ _)⟩)
  dsimp only [Pt.U, Pt.locs, Pt.cells, Pt.slots] at X102 l102 y102 z102 st102 hQ102
  subst l102 y102 z102
  obtain ⟨rfl, Nq102, eq102⟩ := hQ102
  have Nf102 := Fr.app Nf99 Nq102
  have kn103 : ∀ t, own_S p e below T102 (mkF m 74 #[.val (.int p1), .val (.int p2), .val (.int p3), .val (.int p4), .val (.int p5), .val (.ref b1), .val (.int (p5 ||| (-2147483648 : Int32))), .val (.int (1 : Int32)), .unset, .unset, .unset] [(.int (own_gain p3)), (.int (own_mx p3 (0 : Int32)))]) t → Gl t := fun t kt => kn101 t (st102 _ kt)
  have hc74_104 : (own_mx p3 (0 : Int32)) = (own_gain p3) := own_mg _
  have kn105 : ∀ t, own_S p e below T102 (mkF m 87 #[.val (.int p1), .val (.int p2), .val (.int p3), .val (.int p4), .val (.int p5), .val (.ref b1), .val (.int (p5 ||| (-2147483648 : Int32))), .val (.int (1 : Int32)), .val (.int (1 : Int32)), .unset, .unset] [(.int (2 : Int32)), (.ref b1)]) t → Gl t := fun t kt => kn103 t (by
    show own_S p e below T102 (mkF m 74 #[.val (.int p1), .val (.int p2), .val (.int p3), .val (.int p4), .val (.int p5), .val (.ref b1), .val (.int (p5 ||| (-2147483648 : Int32))), .val (.int (1 : Int32)), .unset, .unset, .unset] [(.int (own_gain p3)), (.int (own_mx p3 (0 : Int32)))]) _
    refine XS.icmpNo X102.here hx rfl (hb hby at_74) rfl (teq hc74_104).2 ?_
    show own_S p e below T102 (mkF m 77 #[.val (.int p1), .val (.int p2), .val (.int p3), .val (.int p4), .val (.int p5), .val (.ref b1), .val (.int (p5 ||| (-2147483648 : Int32))), .val (.int (1 : Int32)), .unset, .unset, .unset] []) _
    refine XS.iconst X102.here hx rfl (hb hby at_77) ?_
    show own_S p e below T102 (mkF m 78 #[.val (.int p1), .val (.int p2), .val (.int p3), .val (.int p4), .val (.int p5), .val (.ref b1), .val (.int (p5 ||| (-2147483648 : Int32))), .val (.int (1 : Int32)), .unset, .unset, .unset] [(.int (1 : Int32))]) _
    refine XS.goto X102.here hx rfl (pc0 := 78) (pc' := 82) rfl (hb hby at_78) (by decide) (by decide) ?_
    show own_S p e below T102 (mkF m 82 #[.val (.int p1), .val (.int p2), .val (.int p3), .val (.int p4), .val (.int p5), .val (.ref b1), .val (.int (p5 ||| (-2147483648 : Int32))), .val (.int (1 : Int32)), .unset, .unset, .unset] [(.int (1 : Int32))]) _
    refine XS.istore X102.here hx rfl (hb hby at_82) rfl (l' := #[.val (.int p1), .val (.int p2), .val (.int p3), .val (.int p4), .val (.int p5), .val (.ref b1), .val (.int (p5 ||| (-2147483648 : Int32))), .val (.int (1 : Int32)), .val (.int (1 : Int32)), .unset, .unset]) rfl ?_
    show own_S p e below T102 (mkF m 84 #[.val (.int p1), .val (.int p2), .val (.int p3), .val (.int p4), .val (.int p5), .val (.ref b1), .val (.int (p5 ||| (-2147483648 : Int32))), .val (.int (1 : Int32)), .val (.int (1 : Int32)), .unset, .unset] []) _
    refine XS.aload X102.here hx rfl (hb hby at_84) rfl rfl ?_
    show own_S p e below T102 (mkF m 86 #[.val (.int p1), .val (.int p2), .val (.int p3), .val (.int p4), .val (.int p5), .val (.ref b1), .val (.int (p5 ||| (-2147483648 : Int32))), .val (.int (1 : Int32)), .val (.int (1 : Int32)), .unset, .unset] [(.ref b1)]) _
    refine XS.iconst X102.here hx rfl (hb hby at_86) ?_
    exact kt)
  obtain ⟨cq106, kq106, qa106, qb106, qc106⟩ := isOf hZ eq102 f92
  obtain ⟨_, _, ⟨T106, L106, cc106, ss106⟩, -, X106, ⟨Lc106, hQ106, l106, y106, z106⟩, st106⟩ := X102.virtualBack hx (y := (⟨"com/example/runs_to_scores/runstoscores/scoring/TopicJudgments", "gainAt", "(I)I"⟩ : MethodName)) (z := (⟨"com/example/runs_to_scores/runstoscores/scoring/TopicJudgments", "gainAt", "(I)I"⟩ : MethodName)) hown (mvT hZ (hw _ (List.mem_of_getElem? (i := 129) rfl))) (mvT hZ (hw _ (List.mem_of_getElem? (i := 130) rfl))) (notFace_of_selects (args := #[]) (mvT hZ (hw _ (List.mem_of_getElem? (i := 132) rfl)))) (mvT hZ (hw _ (List.mem_of_getElem? (i := 132) rfl))) (mvT hZ (hw _ (List.mem_of_getElem? (i := 131) rfl))) (by decide) (backOf (W := 0) (rm22_2 l Z a0 hw [] b1 bJ6 kJ6 p2 p3 p4 T70.heap n0 Z85 f91 AJ70) hZ (hw _ (List.mem_of_getElem? (i := 133) rfl)) (hw _ (List.mem_of_getElem? (i := 2) rfl)) (by decide) (by decide)) qa106 qc106 (g := (mkF m 87 #[.val (.int p1), .val (.int p2), .val (.int p3), .val (.int p4), .val (.int p5), .val (.ref b1), .val (.int (p5 ||| (-2147483648 : Int32))), .val (.int (1 : Int32)), .val (.int (1 : Int32)), .unset, .unset] [(.int (2 : Int32)), (.ref b1)])) rfl (by rw [hml]; rfl) (Steps.refl _) (argsL := [(.int (2 : Int32))]) (rest := []) (lenOf pd_0 rfl) rfl (by show 2 * 0 + _ ≤ _; exact Nat.le_of_eq rfl) (hb hby at_87) (fun _ _ => ⟨rfl, eq102, (by decide : 13 + 0 ≤ _), (by decide : 136 + 0 ≤ _)⟩)
  dsimp only [Pt.U, Pt.locs, Pt.cells, Pt.slots] at X106 l106 y106 z106 st106 hQ106
  subst l106 y106 z106
  obtain ⟨rfl, Nq106, eq106⟩ := hQ106
  have Nf106 := Fr.app Nf102 Nq106
  have kn107 : ∀ t, own_S p e below T106 (mkF m 90 #[.val (.int p1), .val (.int p2), .val (.int p3), .val (.int p4), .val (.int p5), .val (.ref b1), .val (.int (p5 ||| (-2147483648 : Int32))), .val (.int (1 : Int32)), .val (.int (1 : Int32)), .unset, .unset] [(.int (own_mx p4 (0 : Int32)))]) t → Gl t := fun t kt => kn105 t (st106.trans kt)
  have kn108 : ∀ t, own_S p e below T106 (mkF m 91 #[.val (.int p1), .val (.int p2), .val (.int p3), .val (.int p4), .val (.int p5), .val (.ref b1), .val (.int (p5 ||| (-2147483648 : Int32))), .val (.int (1 : Int32)), .val (.int (1 : Int32)), .unset, .unset] [(.int p4), (.int (own_mx p4 (0 : Int32)))]) t → Gl t := fun t kt => kn107 t (by
    show own_S p e below T106 (mkF m 90 #[.val (.int p1), .val (.int p2), .val (.int p3), .val (.int p4), .val (.int p5), .val (.ref b1), .val (.int (p5 ||| (-2147483648 : Int32))), .val (.int (1 : Int32)), .val (.int (1 : Int32)), .unset, .unset] [(.int (own_mx p4 (0 : Int32)))]) _
    refine XS.iloadN X106.here hx rfl (hb hby at_90) rfl ?_
    exact kt)
  obtain ⟨_, _, ⟨T109, L109, cc109, ss109⟩, -, X109, ⟨Lc109, hQ109, l109, y109, z109⟩, st109⟩ := Jvm.LawKit.callS X106 hx (y := (⟨"com/example/runs_to_scores/runstoscores/scoring/TopicJudgmentsGainAtPinLaw", "gain", "(I)I"⟩ : MethodName)) hown (mvT hZ (hw _ (List.mem_of_getElem? (i := 135) rfl))) (mvT hZ (hw _ (List.mem_of_getElem? (i := 136) rfl))) (mvT hZ (hw _ (List.mem_of_getElem? (i := 137) rfl))) (mvT hZ (hw _ (List.mem_of_getElem? (i := 138) rfl))) (by decide) (backOf (W := 1) (rm23 l Z a0 hw [] p4  T70.heap n0 Z85 ) hZ (hw _ (List.mem_of_getElem? (i := 138) rfl)) (hw _ (List.mem_of_getElem? (i := 137) rfl)) (by decide) (by decide)) (g := (mkF m 91 #[.val (.int p1), .val (.int p2), .val (.int p3), .val (.int p4), .val (.int p5), .val (.ref b1), .val (.int (p5 ||| (-2147483648 : Int32))), .val (.int (1 : Int32)), .val (.int (1 : Int32)), .unset, .unset] [(.int p4), (.int (own_mx p4 (0 : Int32)))])) rfl (by rw [hml]; rfl) (argsL := [(.int p4)]) (rest := [(.int (own_mx p4 (0 : Int32)))]) (lenOf pd_0 rfl) rfl (by show 2 * 0 + _ ≤ _; exact Nat.le_of_eq rfl) (hb hby at_91) (fun _ _ => ⟨rfl, eq106, (by decide : 13 + 0 ≤ _), (by decide : 136 + 0 ≤ _)⟩)
  dsimp only [Pt.U, Pt.locs, Pt.cells, Pt.slots] at X109 l109 y109 z109 st109 hQ109
  subst l109 y109 z109
  obtain ⟨rfl, Nq109, eq109⟩ := hQ109
  have Nf109 := Fr.app Nf106 Nq109
  have kn110 : ∀ t, own_S p e below T109 (mkF m 94 #[.val (.int p1), .val (.int p2), .val (.int p3), .val (.int p4), .val (.int p5), .val (.ref b1), .val (.int (p5 ||| (-2147483648 : Int32))), .val (.int (1 : Int32)), .val (.int (1 : Int32)), .unset, .unset] [(.int (own_gain p4)), (.int (own_mx p4 (0 : Int32)))]) t → Gl t := fun t kt => kn108 t (st109 _ kt)
  have hc94_111 : (own_mx p4 (0 : Int32)) = (own_gain p4) := own_mg _
  have kn112 : ∀ t, own_S p e below T109 (mkF m 108 #[.val (.int p1), .val (.int p2), .val (.int p3), .val (.int p4), .val (.int p5), .val (.ref b1), .val (.int (p5 ||| (-2147483648 : Int32))), .val (.int (1 : Int32)), .val (.int (1 : Int32)), .val (.int (1 : Int32)), .unset] [(.int (p5 ||| (-2147483648 : Int32))), (.ref b1)]) t → Gl t := fun t kt => kn110 t (by
    show own_S p e below T109 (mkF m 94 #[.val (.int p1), .val (.int p2), .val (.int p3), .val (.int p4), .val (.int p5), .val (.ref b1), .val (.int (p5 ||| (-2147483648 : Int32))), .val (.int (1 : Int32)), .val (.int (1 : Int32)), .unset, .unset] [(.int (own_gain p4)), (.int (own_mx p4 (0 : Int32)))]) _
    refine XS.icmpNo X109.here hx rfl (hb hby at_94) rfl (teq hc94_111).2 ?_
    show own_S p e below T109 (mkF m 97 #[.val (.int p1), .val (.int p2), .val (.int p3), .val (.int p4), .val (.int p5), .val (.ref b1), .val (.int (p5 ||| (-2147483648 : Int32))), .val (.int (1 : Int32)), .val (.int (1 : Int32)), .unset, .unset] []) _
    refine XS.iconst X109.here hx rfl (hb hby at_97) ?_
    show own_S p e below T109 (mkF m 98 #[.val (.int p1), .val (.int p2), .val (.int p3), .val (.int p4), .val (.int p5), .val (.ref b1), .val (.int (p5 ||| (-2147483648 : Int32))), .val (.int (1 : Int32)), .val (.int (1 : Int32)), .unset, .unset] [(.int (1 : Int32))]) _
    refine XS.goto X109.here hx rfl (pc0 := 98) (pc' := 102) rfl (hb hby at_98) (by decide) (by decide) ?_
    show own_S p e below T109 (mkF m 102 #[.val (.int p1), .val (.int p2), .val (.int p3), .val (.int p4), .val (.int p5), .val (.ref b1), .val (.int (p5 ||| (-2147483648 : Int32))), .val (.int (1 : Int32)), .val (.int (1 : Int32)), .unset, .unset] [(.int (1 : Int32))]) _
    refine XS.istore X109.here hx rfl (hb hby at_102) rfl (l' := #[.val (.int p1), .val (.int p2), .val (.int p3), .val (.int p4), .val (.int p5), .val (.ref b1), .val (.int (p5 ||| (-2147483648 : Int32))), .val (.int (1 : Int32)), .val (.int (1 : Int32)), .val (.int (1 : Int32)), .unset]) rfl ?_
    show own_S p e below T109 (mkF m 104 #[.val (.int p1), .val (.int p2), .val (.int p3), .val (.int p4), .val (.int p5), .val (.ref b1), .val (.int (p5 ||| (-2147483648 : Int32))), .val (.int (1 : Int32)), .val (.int (1 : Int32)), .val (.int (1 : Int32)), .unset] []) _
    refine XS.aload X109.here hx rfl (hb hby at_104) rfl rfl ?_
    show own_S p e below T109 (mkF m 106 #[.val (.int p1), .val (.int p2), .val (.int p3), .val (.int p4), .val (.int p5), .val (.ref b1), .val (.int (p5 ||| (-2147483648 : Int32))), .val (.int (1 : Int32)), .val (.int (1 : Int32)), .val (.int (1 : Int32)), .unset] [(.ref b1)]) _
    refine XS.iload X109.here hx rfl (hb hby at_106) rfl ?_
    exact kt)
  obtain ⟨cq113, kq113, qa113, qb113, qc113⟩ := isOf hZ eq109 f92
  obtain ⟨_, _, ⟨T113, L113, cc113, ss113⟩, -, X113, ⟨Lc113, hQ113, l113, y113, z113⟩, st113⟩ := X109.virtualBack hx (y := (⟨"com/example/runs_to_scores/runstoscores/scoring/TopicJudgments", "gainAt", "(I)I"⟩ : MethodName)) (z := (⟨"com/example/runs_to_scores/runstoscores/scoring/TopicJudgments", "gainAt", "(I)I"⟩ : MethodName)) hown (mvT hZ (hw _ (List.mem_of_getElem? (i := 129) rfl))) (mvT hZ (hw _ (List.mem_of_getElem? (i := 130) rfl))) (notFace_of_selects (args := #[]) (mvT hZ (hw _ (List.mem_of_getElem? (i := 132) rfl)))) (mvT hZ (hw _ (List.mem_of_getElem? (i := 132) rfl))) (mvT hZ (hw _ (List.mem_of_getElem? (i := 131) rfl))) (by decide) (backOf (W := 0) (rm22_n l Z a0 hw [] b1 (p5 ||| (-2147483648 : Int32))  T70.heap n0 Z85 (own_neg _)) hZ (hw _ (List.mem_of_getElem? (i := 133) rfl)) (hw _ (List.mem_of_getElem? (i := 2) rfl)) (by decide) (by decide)) qa113 qc113 (g := (mkF m 108 #[.val (.int p1), .val (.int p2), .val (.int p3), .val (.int p4), .val (.int p5), .val (.ref b1), .val (.int (p5 ||| (-2147483648 : Int32))), .val (.int (1 : Int32)), .val (.int (1 : Int32)), .val (.int (1 : Int32)), .unset] [(.int (p5 ||| (-2147483648 : Int32))), (.ref b1)])) rfl (by rw [hml]; rfl) (Steps.refl _) (argsL := [(.int (p5 ||| (-2147483648 : Int32)))]) (rest := []) (lenOf pd_0 rfl) rfl (by show 2 * 0 + _ ≤ _; exact Nat.le_of_eq rfl) (hb hby at_108) (fun _ _ => ⟨rfl, eq109, (by decide : 13 + 0 ≤ _), (by decide : 136 + 0 ≤ _)⟩)
  dsimp only [Pt.U, Pt.locs, Pt.cells, Pt.slots] at X113 l113 y113 z113 st113 hQ113
  subst l113 y113 z113
  obtain ⟨rfl, Nq113, eq113⟩ := hQ113
  have Nf113 := Fr.app Nf109 Nq113
  have kn114 : ∀ t, own_S p e below T113 (mkF m 111 #[.val (.int p1), .val (.int p2), .val (.int p3), .val (.int p4), .val (.int p5), .val (.ref b1), .val (.int (p5 ||| (-2147483648 : Int32))), .val (.int (1 : Int32)), .val (.int (1 : Int32)), .val (.int (1 : Int32)), .unset] [(.int (0 : Int32))]) t → Gl t := fun t kt => kn112 t (st113.trans kt)
  have kn115 : ∀ t, own_S p e below T113 (mkF m 146 #[.val (.int p1), .val (.int p2), .val (.int p3), .val (.int p4), .val (.int p5), .val (.ref b1), .val (.int (p5 ||| (-2147483648 : Int32))), .val (.int (1 : Int32)), .val (.int (1 : Int32)), .val (.int (1 : Int32)), .val (.int (1 : Int32))] [(.int (1 : Int32))]) t → Gl t := fun t kt => kn114 t (by
    show own_S p e below T113 (mkF m 111 #[.val (.int p1), .val (.int p2), .val (.int p3), .val (.int p4), .val (.int p5), .val (.ref b1), .val (.int (p5 ||| (-2147483648 : Int32))), .val (.int (1 : Int32)), .val (.int (1 : Int32)), .val (.int (1 : Int32)), .unset] [(.int (0 : Int32))]) _
    refine XS.ifNo X113.here hx rfl (hb hby at_111) rfl ((if0 _ _).trans (teq (by decide : (0 : Int32) = (0 : Int32))).2) ?_
    show own_S p e below T113 (mkF m 114 #[.val (.int p1), .val (.int p2), .val (.int p3), .val (.int p4), .val (.int p5), .val (.ref b1), .val (.int (p5 ||| (-2147483648 : Int32))), .val (.int (1 : Int32)), .val (.int (1 : Int32)), .val (.int (1 : Int32)), .unset] []) _
    refine XS.iconst X113.here hx rfl (hb hby at_114) ?_
    show own_S p e below T113 (mkF m 115 #[.val (.int p1), .val (.int p2), .val (.int p3), .val (.int p4), .val (.int p5), .val (.ref b1), .val (.int (p5 ||| (-2147483648 : Int32))), .val (.int (1 : Int32)), .val (.int (1 : Int32)), .val (.int (1 : Int32)), .unset] [(.int (1 : Int32))]) _
    refine XS.goto X113.here hx rfl (pc0 := 115) (pc' := 119) rfl (hb hby at_115) (by decide) (by decide) ?_
    show own_S p e below T113 (mkF m 119 #[.val (.int p1), .val (.int p2), .val (.int p3), .val (.int p4), .val (.int p5), .val (.ref b1), .val (.int (p5 ||| (-2147483648 : Int32))), .val (.int (1 : Int32)), .val (.int (1 : Int32)), .val (.int (1 : Int32)), .unset] [(.int (1 : Int32))]) _
    refine XS.istore X113.here hx rfl (hb hby at_119) rfl (l' := #[.val (.int p1), .val (.int p2), .val (.int p3), .val (.int p4), .val (.int p5), .val (.ref b1), .val (.int (p5 ||| (-2147483648 : Int32))), .val (.int (1 : Int32)), .val (.int (1 : Int32)), .val (.int (1 : Int32)), .val (.int (1 : Int32))]) rfl ?_
    show own_S p e below T113 (mkF m 121 #[.val (.int p1), .val (.int p2), .val (.int p3), .val (.int p4), .val (.int p5), .val (.ref b1), .val (.int (p5 ||| (-2147483648 : Int32))), .val (.int (1 : Int32)), .val (.int (1 : Int32)), .val (.int (1 : Int32)), .val (.int (1 : Int32))] []) _
    refine XS.iload X113.here hx rfl (hb hby at_121) rfl ?_
    show own_S p e below T113 (mkF m 123 #[.val (.int p1), .val (.int p2), .val (.int p3), .val (.int p4), .val (.int p5), .val (.ref b1), .val (.int (p5 ||| (-2147483648 : Int32))), .val (.int (1 : Int32)), .val (.int (1 : Int32)), .val (.int (1 : Int32)), .val (.int (1 : Int32))] [(.int (1 : Int32))]) _
    refine XS.ifNo X113.here hx rfl (hb hby at_123) rfl ((if0 _ _).trans (feq (by decide : ¬ ((1 : Int32) = (0 : Int32)))).1) ?_
    show own_S p e below T113 (mkF m 126 #[.val (.int p1), .val (.int p2), .val (.int p3), .val (.int p4), .val (.int p5), .val (.ref b1), .val (.int (p5 ||| (-2147483648 : Int32))), .val (.int (1 : Int32)), .val (.int (1 : Int32)), .val (.int (1 : Int32)), .val (.int (1 : Int32))] []) _
    refine XS.iload X113.here hx rfl (hb hby at_126) rfl ?_
    show own_S p e below T113 (mkF m 128 #[.val (.int p1), .val (.int p2), .val (.int p3), .val (.int p4), .val (.int p5), .val (.ref b1), .val (.int (p5 ||| (-2147483648 : Int32))), .val (.int (1 : Int32)), .val (.int (1 : Int32)), .val (.int (1 : Int32)), .val (.int (1 : Int32))] [(.int (1 : Int32))]) _
    refine XS.ifNo X113.here hx rfl (hb hby at_128) rfl ((if0 _ _).trans (feq (by decide : ¬ ((1 : Int32) = (0 : Int32)))).1) ?_
    show own_S p e below T113 (mkF m 131 #[.val (.int p1), .val (.int p2), .val (.int p3), .val (.int p4), .val (.int p5), .val (.ref b1), .val (.int (p5 ||| (-2147483648 : Int32))), .val (.int (1 : Int32)), .val (.int (1 : Int32)), .val (.int (1 : Int32)), .val (.int (1 : Int32))] []) _
    refine XS.iload X113.here hx rfl (hb hby at_131) rfl ?_
    show own_S p e below T113 (mkF m 133 #[.val (.int p1), .val (.int p2), .val (.int p3), .val (.int p4), .val (.int p5), .val (.ref b1), .val (.int (p5 ||| (-2147483648 : Int32))), .val (.int (1 : Int32)), .val (.int (1 : Int32)), .val (.int (1 : Int32)), .val (.int (1 : Int32))] [(.int (1 : Int32))]) _
    refine XS.ifNo X113.here hx rfl (hb hby at_133) rfl ((if0 _ _).trans (feq (by decide : ¬ ((1 : Int32) = (0 : Int32)))).1) ?_
    show own_S p e below T113 (mkF m 136 #[.val (.int p1), .val (.int p2), .val (.int p3), .val (.int p4), .val (.int p5), .val (.ref b1), .val (.int (p5 ||| (-2147483648 : Int32))), .val (.int (1 : Int32)), .val (.int (1 : Int32)), .val (.int (1 : Int32)), .val (.int (1 : Int32))] []) _
    refine XS.iload X113.here hx rfl (hb hby at_136) rfl ?_
    show own_S p e below T113 (mkF m 138 #[.val (.int p1), .val (.int p2), .val (.int p3), .val (.int p4), .val (.int p5), .val (.ref b1), .val (.int (p5 ||| (-2147483648 : Int32))), .val (.int (1 : Int32)), .val (.int (1 : Int32)), .val (.int (1 : Int32)), .val (.int (1 : Int32))] [(.int (1 : Int32))]) _
    refine XS.ifNo X113.here hx rfl (hb hby at_138) rfl ((if0 _ _).trans (feq (by decide : ¬ ((1 : Int32) = (0 : Int32)))).1) ?_
    show own_S p e below T113 (mkF m 141 #[.val (.int p1), .val (.int p2), .val (.int p3), .val (.int p4), .val (.int p5), .val (.ref b1), .val (.int (p5 ||| (-2147483648 : Int32))), .val (.int (1 : Int32)), .val (.int (1 : Int32)), .val (.int (1 : Int32)), .val (.int (1 : Int32))] []) _
    refine XS.iconst X113.here hx rfl (hb hby at_141) ?_
    show own_S p e below T113 (mkF m 142 #[.val (.int p1), .val (.int p2), .val (.int p3), .val (.int p4), .val (.int p5), .val (.ref b1), .val (.int (p5 ||| (-2147483648 : Int32))), .val (.int (1 : Int32)), .val (.int (1 : Int32)), .val (.int (1 : Int32)), .val (.int (1 : Int32))] [(.int (1 : Int32))]) _
    refine XS.goto X113.here hx rfl (pc0 := 142) (pc' := 146) rfl (hb hby at_142) (by decide) (by decide) ?_
    exact kt)
  obtain ⟨fs, hr, hrun, hended, hRW⟩ := X113.leaveW hSn63 (by rw [eq113]; exact hk86) (v := some (.int (1 : Int32))) (fun h => by rw [Bd.returns] at h; cases h)
  refine ⟨_, _, hGl _ (kn115 _ (retN X113 hx (t := .boolean) Bd.returns (by simp) (hb hby at_146) hr)), hrun, hended, _, _, rfl, ?_, ⟨hRW.1, hRW.2.1, hRW.2.2.1, hRW.2.2.2.mono (by decide) (by decide)⟩⟩
  show Q0 Z p1 p2 p3 p4 p5 G1 G3 h0 n0 _ T113.heap _
  rw [eq113]
  exact ⟨rfl, Nf113⟩

set_option maxRecDepth 65536 in
set_option maxHeartbeats 40000000 in
theorem comes_1 {Post : Tables → Env → Array Value → State → Outcome → State → Prop} (hpost : ∀ tb e args s v u, (limb_1_1.after args s (.returned v) u = true ∧ limb_1_2.after args s (.returned v) u = true ∧ True) → ReturnedEndW s (.returned v) u (Jvm.fieldLocs frame_1_writes args s ++ Jvm.arrayLocs frame_1_arrays args s ++ Jvm.staticLocs frame_1_statics s) 32 3392 → Post tb e args s (.returned v) u) :
    ArmFor flags0 classFile x code maxLocals ret World_1 tables_1 room_1 Calls_1 rest_1 Pre_1 Post := by
  intro l hfl _ _ p e ha hc hk s m args below hf hA hF happ hP
  obtain ⟨hcalls, hrest, hpre⟩ := hP
  obtain ⟨-, -, -, hnamed, -, -, -, hat⟩ := (Spec.applies_iff hf).mp happ
  obtain ⟨hg, hn⟩ := and_e (Cond.before_iff.mp (show (Jvm.Cond.and given_1 narrow_1).before args s = true from hpre))
  obtain ⟨gc, gr0⟩ := and_e hg
  obtain ⟨ga0, gr1⟩ := and_e gr0
  obtain ⟨ga1, gr2⟩ := and_e gr1
  obtain ⟨ga2, gr3⟩ := and_e gr2
  obtain ⟨ga3, gr4⟩ := and_e gr3
  obtain ⟨w0, w1, w2, w3, w4, rfl⟩ : ∃ w0 w1 w2 w3 w4 : Value, args = #[w0, w1, w2, w3, w4] := by
    have hs : args.size = 5 := by simpa [Cond.value, given_1] using gc
    obtain ⟨L⟩ := args
    match L, hs with
    | [w0, w1, w2, w3, w4], _ => exact ⟨w0, w1, w2, w3, w4, rfl⟩
  have hw := fun d (hd : d ∈ tables_1) => atoms_spec (ws := Jvm.Cond.code x code maxLocals ret :: tables_1) hat d (List.mem_cons_of_mem _ hd)
  have hfit : Fit s := fun {y c} hc i hi => by
    obtain ⟨ha, rfl⟩ := Array.getElem?_eq_some_iff.mp hc
    have q := List.all_eq_true.mp ((Array.all_eq_true_iff_forall_mem.mp hF) _ (Array.getElem_mem ha)) i (List.mem_range.mpr hi)
    simpa [Array.getElem?_eq_getElem hi] using q
  obtain ⟨hsets, hown0⟩ := atoms_of _ (rest_1_c_eq ▸ (show rest_1_c.before _ s = true from hrest))
  have hr0 := Cond.before_iff.mp hown0
  obtain ⟨i0, ei0⟩ := is_v ga0
  obtain rfl : w0 = (.int i0) := Option.some.inj ei0
  obtain ⟨i1, ei1⟩ := is_v ga1
  obtain rfl : w1 = (.int i1) := Option.some.inj ei1
  obtain ⟨i2, ei2⟩ := is_v ga2
  obtain rfl : w2 = (.int i2) := Option.some.inj ei2
  obtain ⟨i3, ei3⟩ := is_v ga3
  obtain rfl : w3 = (.int i3) := Option.some.inj ei3
  obtain ⟨i4, ei4⟩ := is_v gr4
  obtain rfl : w4 = (.int i4) := Option.some.inj ei4
  have n5 := not_v (Cond.before_iff.mp (hsets _ (List.mem_of_getElem? (i := 2) rfl)))
  obtain ⟨G1, e10⟩ := is_v (Cond.before_iff.mp (hsets _ (List.mem_of_getElem? (i := 1) rfl)))
  have S12 : Sta s s.heap "java/lang/String" "COMPACT_STRINGS" "Z" (.int G1) := Sta.start e10 (Or.inl (hsets _ (List.mem_of_getElem? (i := 0) rfl)))
  have c17 : ¬ (G1 = (0 : Int32)) := gotF (Cond.eq_ints e10 (Term.int_eval (0))) n5
  obtain ⟨G3, e14, r15⟩ := isR_v (Cond.before_iff.mp (hsets _ (List.mem_of_getElem? (i := 8) rfl)))
  have S16 : Sta s s.heap "jdk/internal/util/Preconditions" "SIOOBE_FORMATTER" "Ljava/util/function/BiFunction;" G3 := Sta.start e14 (Or.inl (hsets _ (List.mem_of_getElem? (i := 7) rfl)))
  obtain ⟨n, o, h1, h2, h3, _, L, rfl, ⟨rfl, N⟩, hq⟩ := rm0 l s _ hw tables_1 i0 i1 i2 i3 i4 G1 G3 s.heap s.heap.size (Nat.le_refl _) (Old.start s) S12 c17 S16 r15 rfl rfl hcalls.1 (hsets _ (List.mem_of_getElem? (i := 2) rfl)) p e ha hc hk s m _ below hf ((Spec.applies_iff_loose hf).mp happ).1 ⟨rfl, State.Warmed39.refl s, rfl, rfl⟩ trivial
  refine ⟨n, _, h1, h2, h3, hpost _ _ _ _ _ _ ⟨Cond.after_iff.mpr rfl, Cond.after_iff.mpr (eq_i res_at (Term.int_eval (1)) rfl), trivial⟩ ⟨hq.1, hq.2.1, hq.2.2.1, (hq.2.2.2.sift fun y hy => Or.inr (N y hy)).mono (by decide) (by decide)⟩⟩
theorem main_1_1 : Claimed_1_1 := comes_1 fun _ _ _ _ _ _ h hF => ⟨h.1, hF⟩
theorem main_1_2 : Claimed_1_2 := comes_1 fun _ _ _ _ _ _ h hF => ⟨h.2.1, hF⟩

end Jvm.Pilot.@@N@@
namespace Jvm.Pilot.@@N@@
open Jvm Jvm.ClassFile Sem Op Lib Jvm.Free Jvm.Stand Jvm.Pilot.@@N@@.Jvm.D
/-! MADE BY PROGRAM (witnessworld.py) out of the Statement's table words and the real class files: 21 classes; the members and pool entries that the words name. The judged class is class 1, her method 2. -/
namespace start1
open Jvm.ClassFile
def u (s : String) : CpInfo := .utf8 (stringToUtf16 s)
/-- a pool by its gaps: so many unusable entries, then the entry; so many at the end -/
def gap : Nat → List CpInfo → List CpInfo
  | 0, r => r
  | n + 1, r => .unusable :: gap n r
def poolList (es : List (Nat × CpInfo)) (last : Nat) : List CpInfo := es.foldr (fun e r => gap e.1 (e.2 :: r)) (gap last [])
def pool (es : List (Nat × CpInfo)) (last : Nat) : Array CpInfo := ⟨poolList es last⟩
def fileOf (pool : Array CpInfo) (this : Nat) (attrs : Array Attribute := #[]) (ms : Array MethodInfo := #[]) (fl : Nat := 33) (sup : Nat := 0) (ifs : Array Nat := #[]) (fds : Array FieldInfo := #[]) : ClassFile where
  minorVersion := 0
  majorVersion := 65
  constantPool := pool
  accessFlags := fl
  thisClass := this
  superClass := sup
  interfaces := ifs
  fields := fds
  methods := ms
  attributes := attrs
def plain (name : String) (sup : Option ClassId) : Class where
  name := name
  kind := .ordinary
  loader := none
  accessFlags := 33
  super := sup
  interfaces := #[]
  cf := none
  fields := #[]
  methods := #[]
  instanceTypes := #[]
  staticTypes := #[]
  resolved := #[]
  callSites := []
  init := .initialized
  statics := none
  mirror := none

def pool0 : Array CpInfo := pool [(5, u "<init>"), (0, u "()V"), (1, .class_ 10), (1, u "java/lang/Object")] 113

def k0c0 : Code := { maxStack := 0, maxLocals := 1, code := object_method_1_code, exceptionTable := #[], attributes := #[] }
def k0m0 : Method := { name := "<init>", desc := "()V", sig := { parameters := [], returnType := none }, accessFlags := 1, code := some k0c0 }
/-- java/lang/Object -/
def k0 : Class := { plain "java/lang/Object" none with
  accessFlags := 33
  interfaces := #[]
  cf := some (fileOf pool0 8 #[] #[{ accessFlags := 1, nameIndex := 5, descriptorIndex := 6, attributes := #[] }] 33 0 #[] #[])
  fields := #[]
  methods := #[k0m0]
  instanceTypes := #[]
  staticTypes := #[]
  resolved := Array.replicate 124 none
  statics := none }

def pool1 : Array CpInfo := pool [(2, .class_ 4), (1, u "java/lang/Object"), (0, u "<init>"), (0, u "()V"), (0, .class_ 8), (0, u "com/example/runs_to_scores/runstoscores/scoring/TopicJudgments"), (0, .methodref 7 10), (0, .nameAndType 5 11), (0, u "(I)V"), (0, .string 13), (0, u "a"), (0, .methodref 7 15), (0, .nameAndType 16 17), (0, u "addOnce"), (0, u "(Ljava/lang/CharSequence;I)Z"), (0, .string 19), (0, u "b"), (0, .string 21), (0, u "c"), (2, .integer 2147483648), (0, .methodref 7 26), (0, .nameAndType 27 28), (0, u "gainAt"), (0, u "(I)I"), (0, .methodref 30 31), (0, .class_ 32), (0, .nameAndType 33 28), (0, u "com/example/runs_to_scores/runstoscores/scoring/TopicJudgmentsGainAtPinLaw"), (0, u "gain"), (3, u "law"), (0, u "(IIIII)Z")] 2

def k1m0 : Method := { name := "<init>", desc := "()V", sig := { parameters := [], returnType := none }, accessFlags := 2, code := none }
def k1c1 : Code := { maxStack := 1, maxLocals := 1, code := method_2_code, exceptionTable := #[], attributes := #[] }
def k1m1 : Method := { name := "gain", desc := "(I)I", sig := { parameters := [.int], returnType := some .int }, accessFlags := 10, code := some k1c1 }
def k1c2 : Code := { maxStack := 3, maxLocals := 11, code := code, exceptionTable := #[], attributes := #[] }
def k1m2 : Method := { name := "law", desc := "(IIIII)Z", sig := { parameters := [.int, .int, .int, .int, .int], returnType := some .boolean }, accessFlags := 9, code := some k1c2 }
/-- com/example/runs_to_scores/runstoscores/scoring/TopicJudgmentsGainAtPinLaw -/
def k1 : Class := { plain "com/example/runs_to_scores/runstoscores/scoring/TopicJudgmentsGainAtPinLaw" (some 0) with
  accessFlags := 49
  interfaces := #[]
  cf := some (fileOf pool1 30 #[] #[{ accessFlags := 2, nameIndex := 5, descriptorIndex := 6, attributes := #[] }, { accessFlags := 10, nameIndex := 33, descriptorIndex := 28, attributes := #[] }, { accessFlags := 9, nameIndex := 37, descriptorIndex := 38, attributes := #[] }] 49 2 #[] #[])
  fields := #[]
  methods := #[k1m0, k1m1, k1m2]
  instanceTypes := #[]
  staticTypes := #[]
  resolved := Array.replicate 41 none
  statics := none }

def pool2 : Array CpInfo := pool [(1, .methodref 2 3), (0, .class_ 4), (0, .nameAndType 5 6), (0, u "java/lang/Object"), (0, u "<init>"), (0, u "()V"), (0, .class_ 8), (0, u "com/example/runs_to_scores/runstoscores/scoring/TopicDocnos"), (0, .methodref 7 3), (0, .fieldref 11 12), (0, .class_ 13), (0, .nameAndType 14 15), (0, u "com/example/runs_to_scores/runstoscores/scoring/TopicJudgments"), (0, u "docnos"), (0, u "Lcom/example/runs_to_scores/runstoscores/scoring/TopicDocnos;"), (0, .fieldref 11 17), (0, .nameAndType 18 19), (0, u "judgments"), (0, u "[I"), (0, .fieldref 11 21), (0, .nameAndType 22 23), (0, u "relevanceLevel"), (0, u "I"), (0, .methodref 7 25), (0, .nameAndType 26 27), (0, u "add"), (0, u "(Ljava/lang/CharSequence;)I"), (24, .methodref 53 54), (0, .class_ 55), (0, .nameAndType 56 57), (0, u "java/lang/Math"), (0, u "max"), (0, u "(II)I"), (6, u "gainAt"), (0, u "(I)I"), (4, u "INITIAL_CAPACITY"), (2, u "(I)V"), (2, u "addOnce"), (0, u "(Ljava/lang/CharSequence;I)Z")] 9

def k2c0 : Code := { maxStack := 3, maxLocals := 2, code := prog_83_method_1_code, exceptionTable := #[], attributes := #[] }
def k2m0 : Method := { name := "<init>", desc := "(I)V", sig := { parameters := [.int], returnType := none }, accessFlags := 0, code := some k2c0 }
def k2c1 : Code := { maxStack := 4, maxLocals := 4, code := prog_83_method_2_code, exceptionTable := #[], attributes := #[] }
def k2m1 : Method := { name := "addOnce", desc := "(Ljava/lang/CharSequence;I)Z", sig := { parameters := [(.object "java/lang/CharSequence"), .int], returnType := some .boolean }, accessFlags := 0, code := some k2c1 }
def k2c2 : Code := { maxStack := 2, maxLocals := 2, code := prog_83_method_6_code, exceptionTable := #[], attributes := #[] }
def k2m2 : Method := { name := "gainAt", desc := "(I)I", sig := { parameters := [.int], returnType := some .int }, accessFlags := 0, code := some k2c2 }
/-- com/example/runs_to_scores/runstoscores/scoring/TopicJudgments -/
def k2 : Class := { plain "com/example/runs_to_scores/runstoscores/scoring/TopicJudgments" (some 0) with
  accessFlags := 48
  interfaces := #[]
  cf := some (fileOf pool2 11 #[] #[{ accessFlags := 0, nameIndex := 5, descriptorIndex := 73, attributes := #[] }, { accessFlags := 0, nameIndex := 76, descriptorIndex := 77, attributes := #[] }, { accessFlags := 0, nameIndex := 64, descriptorIndex := 65, attributes := #[] }] 48 2 #[] #[{ accessFlags := 26, nameIndex := 70, descriptorIndex := 23, attributes := #[] }, { accessFlags := 18, nameIndex := 22, descriptorIndex := 23, attributes := #[] }, { accessFlags := 18, nameIndex := 14, descriptorIndex := 15, attributes := #[] }, { accessFlags := 2, nameIndex := 18, descriptorIndex := 19, attributes := #[] }])
  fields := #[{ name := "INITIAL_CAPACITY", type := .int, accessFlags := 26, slot := 0, constantValue := 0 }, { name := "relevanceLevel", type := .int, accessFlags := 18, slot := 0, constantValue := 0 }, { name := "docnos", type := (.object "com/example/runs_to_scores/runstoscores/scoring/TopicDocnos"), accessFlags := 18, slot := 1, constantValue := 0 }, { name := "judgments", type := (.array .int), accessFlags := 2, slot := 2, constantValue := 0 }]
  methods := #[k2m0, k2m1, k2m2]
  instanceTypes := #[.int, (.object "com/example/runs_to_scores/runstoscores/scoring/TopicDocnos"), (.array .int)]
  staticTypes := #[.int]
  resolved := Array.replicate 87 none
  statics := none }

def pool3 : Array CpInfo := pool [(1, .class_ 2), (0, u "com/example/runs_to_scores/runstoscores/scoring/TopicDocnos"), (0, .methodref 1 4), (0, .nameAndType 5 6), (0, u "<init>"), (0, u "(II)V"), (0, .fieldref 1 8), (0, .nameAndType 9 10), (0, u "size"), (0, u "I"), (0, .methodref 1 12), (0, .nameAndType 13 14), (0, u "start"), (0, u "(I)I"), (0, .methodref 16 17), (0, .class_ 18), (0, .nameAndType 5 19), (0, u "java/lang/Object"), (0, u "()V"), (0, .methodref 21 22), (0, .class_ 23), (0, .nameAndType 24 25), (0, u "java/lang/Math"), (0, u "max"), (0, u "(II)I"), (0, .fieldref 1 27), (0, .nameAndType 28 29), (0, u "bytes"), (0, u "[B"), (0, .fieldref 1 31), (0, .nameAndType 32 33), (0, u "ends"), (0, u "[I"), (0, .fieldref 1 35), (0, .nameAndType 36 33), (0, u "hashes"), (0, .methodref 38 39), (0, .class_ 40), (0, .nameAndType 41 14), (0, u "java/lang/Integer"), (0, u "highestOneBit"), (0, .fieldref 1 43), (0, .nameAndType 44 33), (0, u "slots"), (0, .interfaceMethodref 46 47), (0, .class_ 48), (0, .nameAndType 49 50), (0, u "java/lang/CharSequence"), (0, u "length"), (0, u "()I"), (6, .methodref 1 58), (0, .nameAndType 59 60), (0, u "write"), (0, u "(Ljava/lang/CharSequence;[BI)Z"), (15, .methodref 1 77), (0, .nameAndType 78 79), (0, u "hash"), (0, u "([BII)I"), (0, .methodref 1 81), (0, .nameAndType 82 83), (0, u "slotOf"), (0, u "([BIII)I"), (19, .methodref 1 104), (0, .nameAndType 105 14), (0, u "spread"), (4, .interfaceMethodref 46 111), (0, .nameAndType 112 113), (0, u "charAt"), (0, u "(I)C"), (0, u "INITIAL_CAPACITY"), (2, u "INITIAL_BYTES"), (1, u "INITIAL_SLOTS"), (1, u "HIGHEST_BYTE_CHARACTER"), (4, u "add"), (0, u "(Ljava/lang/CharSequence;)I")] 24

def k3c0 : Code := { maxStack := 3, maxLocals := 1, code := prog_82_method_1_code, exceptionTable := #[], attributes := #[] }
def k3m0 : Method := { name := "<init>", desc := "()V", sig := { parameters := [], returnType := none }, accessFlags := 0, code := some k3c0 }
def k3c1 : Code := { maxStack := 4, maxLocals := 4, code := prog_82_method_3_code, exceptionTable := #[], attributes := #[] }
def k3m1 : Method := { name := "<init>", desc := "(II)V", sig := { parameters := [.int, .int], returnType := none }, accessFlags := 2, code := some k3c1 }
def k3c2 : Code := { maxStack := 5, maxLocals := 6, code := prog_82_method_4_code, exceptionTable := #[], attributes := #[] }
def k3m2 : Method := { name := "add", desc := "(Ljava/lang/CharSequence;)I", sig := { parameters := [(.object "java/lang/CharSequence")], returnType := some .int }, accessFlags := 0, code := some k3c2 }
def k3c3 : Code := { maxStack := 3, maxLocals := 2, code := prog_82_method_10_code, exceptionTable := #[], attributes := #[] }
def k3m3 : Method := { name := "start", desc := "(I)I", sig := { parameters := [.int], returnType := some .int }, accessFlags := 2, code := some k3c3 }
def k3c4 : Code := { maxStack := 6, maxLocals := 8, code := prog_82_method_11_code, exceptionTable := #[], attributes := #[] }
def k3m4 : Method := { name := "slotOf", desc := "([BIII)I", sig := { parameters := [(.array .byte), .int, .int, .int], returnType := some .int }, accessFlags := 2, code := some k3c4 }
def k3c5 : Code := { maxStack := 3, maxLocals := 5, code := prog_82_method_12_code, exceptionTable := #[], attributes := #[] }
def k3m5 : Method := { name := "write", desc := "(Ljava/lang/CharSequence;[BI)Z", sig := { parameters := [(.object "java/lang/CharSequence"), (.array .byte), .int], returnType := some .boolean }, accessFlags := 10, code := some k3c5 }
def k3c6 : Code := { maxStack := 3, maxLocals := 5, code := prog_82_method_13_code, exceptionTable := #[], attributes := #[] }
def k3m6 : Method := { name := "hash", desc := "([BII)I", sig := { parameters := [(.array .byte), .int, .int], returnType := some .int }, accessFlags := 10, code := some k3c6 }
def k3c7 : Code := { maxStack := 3, maxLocals := 1, code := prog_82_method_14_code, exceptionTable := #[], attributes := #[] }
def k3m7 : Method := { name := "spread", desc := "(I)I", sig := { parameters := [.int], returnType := some .int }, accessFlags := 10, code := some k3c7 }
/-- com/example/runs_to_scores/runstoscores/scoring/TopicDocnos -/
def k3 : Class := { plain "com/example/runs_to_scores/runstoscores/scoring/TopicDocnos" (some 0) with
  accessFlags := 48
  interfaces := #[]
  cf := some (fileOf pool3 1 #[] #[{ accessFlags := 0, nameIndex := 5, descriptorIndex := 19, attributes := #[] }, { accessFlags := 2, nameIndex := 5, descriptorIndex := 6, attributes := #[] }, { accessFlags := 0, nameIndex := 126, descriptorIndex := 127, attributes := #[] }, { accessFlags := 2, nameIndex := 13, descriptorIndex := 14, attributes := #[] }, { accessFlags := 2, nameIndex := 82, descriptorIndex := 83, attributes := #[] }, { accessFlags := 10, nameIndex := 59, descriptorIndex := 60, attributes := #[] }, { accessFlags := 10, nameIndex := 78, descriptorIndex := 79, attributes := #[] }, { accessFlags := 10, nameIndex := 105, descriptorIndex := 14, attributes := #[] }] 48 16 #[] #[{ accessFlags := 26, nameIndex := 114, descriptorIndex := 10, attributes := #[] }, { accessFlags := 26, nameIndex := 117, descriptorIndex := 10, attributes := #[] }, { accessFlags := 26, nameIndex := 119, descriptorIndex := 10, attributes := #[] }, { accessFlags := 26, nameIndex := 121, descriptorIndex := 10, attributes := #[] }, { accessFlags := 2, nameIndex := 28, descriptorIndex := 29, attributes := #[] }, { accessFlags := 2, nameIndex := 32, descriptorIndex := 33, attributes := #[] }, { accessFlags := 2, nameIndex := 36, descriptorIndex := 33, attributes := #[] }, { accessFlags := 2, nameIndex := 9, descriptorIndex := 10, attributes := #[] }, { accessFlags := 2, nameIndex := 44, descriptorIndex := 33, attributes := #[] }])
  fields := #[{ name := "INITIAL_CAPACITY", type := .int, accessFlags := 26, slot := 0, constantValue := 0 }, { name := "INITIAL_BYTES", type := .int, accessFlags := 26, slot := 1, constantValue := 0 }, { name := "INITIAL_SLOTS", type := .int, accessFlags := 26, slot := 2, constantValue := 0 }, { name := "HIGHEST_BYTE_CHARACTER", type := .int, accessFlags := 26, slot := 3, constantValue := 0 }, { name := "bytes", type := (.array .byte), accessFlags := 2, slot := 0, constantValue := 0 }, { name := "ends", type := (.array .int), accessFlags := 2, slot := 1, constantValue := 0 }, { name := "hashes", type := (.array .int), accessFlags := 2, slot := 2, constantValue := 0 }, { name := "size", type := .int, accessFlags := 2, slot := 3, constantValue := 0 }, { name := "slots", type := (.array .int), accessFlags := 2, slot := 4, constantValue := 0 }]
  methods := #[k3m0, k3m1, k3m2, k3m3, k3m4, k3m5, k3m6, k3m7]
  instanceTypes := #[(.array .byte), (.array .int), (.array .int), .int, (.array .int)]
  staticTypes := #[.int, .int, .int, .int]
  resolved := Array.replicate 152 none
  statics := none }

def pool4 : Array CpInfo := pool [(1, .class_ 2), (0, u "java/lang/Math"), (1, .class_ 6), (1, u "java/lang/Object"), (0, u "<init>"), (0, u "()V"), (89, .class_ 100), (1, u "java/lang/Math$RandomNumberGeneratorHolder"), (71, u "negativeZeroFloatBits"), (0, u "J"), (2, u "negativeZeroDoubleBits"), (21, u "max"), (46, u "$assertionsDisabled"), (0, u "Z"), (88, u "(II)I"), (2, u "twoToTheDoubleScaleDown"), (0, u "D"), (4, u "twoToTheDoubleScaleUp"), (9, u "E"), (3, u "PI"), (2, u "TAU"), (2, u "DEGREES_TO_RADIANS"), (0, u "RADIANS_TO_DEGREES")] 94

def k4m0 : Method := { name := "<init>", desc := "()V", sig := { parameters := [], returnType := none }, accessFlags := 2, code := none }
def k4c1 : Code := { maxStack := 2, maxLocals := 2, code := jdk_29_method_65_code, exceptionTable := #[], attributes := #[] }
def k4m1 : Method := { name := "max", desc := "(II)I", sig := { parameters := [.int, .int], returnType := some .int }, accessFlags := 9, code := some k4c1 }
/-- java/lang/Math -/
def k4 : Class := { plain "java/lang/Math" (some 0) with
  accessFlags := 49
  interfaces := #[]
  cf := some (fileOf pool4 1 #[.nestMembers #[98]] #[{ accessFlags := 2, nameIndex := 7, descriptorIndex := 8, attributes := #[] }, { accessFlags := 9, nameIndex := 198, descriptorIndex := 335, attributes := #[] }] 49 4 #[] #[{ accessFlags := 25, nameIndex := 354, descriptorIndex := 339, attributes := #[] }, { accessFlags := 25, nameIndex := 358, descriptorIndex := 339, attributes := #[] }, { accessFlags := 25, nameIndex := 361, descriptorIndex := 339, attributes := #[] }, { accessFlags := 26, nameIndex := 364, descriptorIndex := 339, attributes := #[] }, { accessFlags := 26, nameIndex := 365, descriptorIndex := 339, attributes := #[] }, { accessFlags := 26, nameIndex := 172, descriptorIndex := 173, attributes := #[] }, { accessFlags := 26, nameIndex := 176, descriptorIndex := 173, attributes := #[] }, { accessFlags := 8, nameIndex := 344, descriptorIndex := 339, attributes := #[] }, { accessFlags := 8, nameIndex := 338, descriptorIndex := 339, attributes := #[] }, { accessFlags := 4120, nameIndex := 245, descriptorIndex := 246, attributes := #[] }])
  fields := #[{ name := "E", type := .double, accessFlags := 25, slot := 0, constantValue := 0 }, { name := "PI", type := .double, accessFlags := 25, slot := 1, constantValue := 0 }, { name := "TAU", type := .double, accessFlags := 25, slot := 2, constantValue := 0 }, { name := "DEGREES_TO_RADIANS", type := .double, accessFlags := 26, slot := 3, constantValue := 0 }, { name := "RADIANS_TO_DEGREES", type := .double, accessFlags := 26, slot := 4, constantValue := 0 }, { name := "negativeZeroFloatBits", type := .long, accessFlags := 26, slot := 5, constantValue := 0 }, { name := "negativeZeroDoubleBits", type := .long, accessFlags := 26, slot := 6, constantValue := 0 }, { name := "twoToTheDoubleScaleUp", type := .double, accessFlags := 8, slot := 7, constantValue := 0 }, { name := "twoToTheDoubleScaleDown", type := .double, accessFlags := 8, slot := 8, constantValue := 0 }, { name := "$assertionsDisabled", type := .boolean, accessFlags := 4120, slot := 9, constantValue := 0 }]
  methods := #[k4m0, k4m1]
  instanceTypes := #[]
  staticTypes := #[.double, .double, .double, .double, .double, .long, .long, .double, .double, .boolean]
  resolved := Array.replicate 460 none
  statics := none }

def pool5 : Array CpInfo := pool [(1, .class_ 2), (0, u "java/io/Serializable"), (0, .class_ 4), (0, u "java/lang/Object")] 2

/-- java/io/Serializable -/
def k5 : Class := { plain "java/io/Serializable" (some 0) with
  accessFlags := 1537
  interfaces := #[]
  cf := some (fileOf pool5 1 #[] #[] 1537 3 #[] #[])
  fields := #[]
  methods := #[]
  instanceTypes := #[]
  staticTypes := #[]
  resolved := Array.replicate 7 none
  statics := none }

def pool6 : Array CpInfo := pool [(2, .class_ 4), (1, u "java/lang/Object"), (0, u "<init>"), (0, u "()V"), (1, .class_ 10), (1, u "java/lang/Number"), (2, .class_ 14), (0, u "java/io/Serializable"), (0, u "serialVersionUID"), (0, u "J")] 20

def k6m0 : Method := { name := "<init>", desc := "()V", sig := { parameters := [], returnType := none }, accessFlags := 1, code := none }
/-- java/lang/Number -/
def k6 : Class := { plain "java/lang/Number" (some 0) with
  accessFlags := 1057
  interfaces := #[5]
  cf := some (fileOf pool6 8 #[] #[{ accessFlags := 1, nameIndex := 5, descriptorIndex := 6, attributes := #[] }] 1057 2 #[13] #[{ accessFlags := 26, nameIndex := 15, descriptorIndex := 16, attributes := #[] }])
  fields := #[{ name := "serialVersionUID", type := .long, accessFlags := 26, slot := 0, constantValue := 0 }]
  methods := #[k6m0]
  instanceTypes := #[]
  staticTypes := #[.long]
  resolved := Array.replicate 37 none
  statics := none }

def pool7 : Array CpInfo := pool [(1, .class_ 2), (0, u "java/lang/Comparable"), (0, .class_ 4), (0, u "java/lang/Object")] 7

/-- java/lang/Comparable -/
def k7 : Class := { plain "java/lang/Comparable" (some 0) with
  accessFlags := 1537
  interfaces := #[]
  cf := some (fileOf pool7 1 #[] #[] 1537 3 #[] #[])
  fields := #[]
  methods := #[]
  instanceTypes := #[]
  staticTypes := #[]
  resolved := Array.replicate 12 none
  statics := none }

def pool8 : Array CpInfo := pool [(1, .class_ 2), (0, u "java/lang/constant/Constable"), (0, .class_ 4), (0, u "java/lang/Object")] 6

/-- java/lang/constant/Constable -/
def k8 : Class := { plain "java/lang/constant/Constable" (some 0) with
  accessFlags := 1537
  interfaces := #[]
  cf := some (fileOf pool8 1 #[] #[] 1537 3 #[] #[])
  fields := #[]
  methods := #[]
  instanceTypes := #[]
  staticTypes := #[]
  resolved := Array.replicate 11 none
  statics := none }

def pool9 : Array CpInfo := pool [(1, .class_ 2), (0, u "java/lang/constant/ConstantDesc"), (0, .class_ 4), (0, u "java/lang/Object")] 32

/-- java/lang/constant/ConstantDesc -/
def k9 : Class := { plain "java/lang/constant/ConstantDesc" (some 0) with
  accessFlags := 1537
  interfaces := #[]
  cf := some (fileOf pool9 1 #[] #[] 1537 3 #[] #[])
  fields := #[]
  methods := #[]
  instanceTypes := #[]
  staticTypes := #[]
  resolved := Array.replicate 37 none
  statics := none }

def pool10 : Array CpInfo := pool [(1, .class_ 2), (0, u "java/lang/Integer"), (16, u "digits"), (0, u "[C"), (30, .methodref 1 52), (0, .nameAndType 53 54), (0, u "numberOfLeadingZeros"), (0, u "(I)I"), (30, u "DigitOnes"), (0, u "[B"), (2, u "DigitTens"), (37, .integer 2147483648), (61, .class_ 190), (0, u "java/lang/Integer$IntegerCache"), (3, u "I"), (8, .class_ 204), (0, u "java/lang/Number"), (2, u "value"), (56, .integer 65536), (37, u "TYPE"), (0, u "Ljava/lang/Class;"), (0, .class_ 305), (0, u "java/lang/Comparable"), (0, .class_ 307), (0, u "java/lang/constant/Constable"), (0, .class_ 309), (0, u "java/lang/constant/ConstantDesc"), (0, u "MIN_VALUE"), (1, u "MAX_VALUE"), (3, u "SIZE"), (1, u "BYTES"), (1, u "serialVersionUID"), (0, u "J"), (81, u "highestOneBit")] 49

def k10c0 : Code := { maxStack := 3, maxLocals := 1, code := jdk_33_method_45_code, exceptionTable := #[], attributes := #[] }
def k10m0 : Method := { name := "highestOneBit", desc := "(I)I", sig := { parameters := [.int], returnType := some .int }, accessFlags := 9, code := some k10c0 }
def k10c1 : Code := { maxStack := 3, maxLocals := 2, code := jdk_33_method_47_code, exceptionTable := #[], attributes := #[] }
def k10m1 : Method := { name := "numberOfLeadingZeros", desc := "(I)I", sig := { parameters := [.int], returnType := some .int }, accessFlags := 9, code := some k10c1 }
/-- java/lang/Integer -/
def k10 : Class := { plain "java/lang/Integer" (some 6) with
  accessFlags := 49
  interfaces := #[7, 8, 9]
  cf := some (fileOf pool10 1 #[.nestMembers #[189]] #[{ accessFlags := 9, nameIndex := 403, descriptorIndex := 54, attributes := #[] }, { accessFlags := 9, nameIndex := 53, descriptorIndex := 54, attributes := #[] }] 49 203 #[304, 306, 308] #[{ accessFlags := 25, nameIndex := 310, descriptorIndex := 194, attributes := #[] }, { accessFlags := 25, nameIndex := 312, descriptorIndex := 194, attributes := #[] }, { accessFlags := 25, nameIndex := 302, descriptorIndex := 303, attributes := #[] }, { accessFlags := 24, nameIndex := 19, descriptorIndex := 20, attributes := #[] }, { accessFlags := 24, nameIndex := 89, descriptorIndex := 86, attributes := #[] }, { accessFlags := 24, nameIndex := 85, descriptorIndex := 86, attributes := #[] }, { accessFlags := 18, nameIndex := 207, descriptorIndex := 194, attributes := #[] }, { accessFlags := 25, nameIndex := 316, descriptorIndex := 194, attributes := #[] }, { accessFlags := 25, nameIndex := 318, descriptorIndex := 194, attributes := #[] }, { accessFlags := 26, nameIndex := 320, descriptorIndex := 321, attributes := #[] }])
  fields := #[{ name := "MIN_VALUE", type := .int, accessFlags := 25, slot := 0, constantValue := 0 }, { name := "MAX_VALUE", type := .int, accessFlags := 25, slot := 1, constantValue := 0 }, { name := "TYPE", type := (.object "java/lang/Class"), accessFlags := 25, slot := 2, constantValue := 0 }, { name := "digits", type := (.array .char), accessFlags := 24, slot := 3, constantValue := 0 }, { name := "DigitTens", type := (.array .byte), accessFlags := 24, slot := 4, constantValue := 0 }, { name := "DigitOnes", type := (.array .byte), accessFlags := 24, slot := 5, constantValue := 0 }, { name := "value", type := .int, accessFlags := 18, slot := 0, constantValue := 0 }, { name := "SIZE", type := .int, accessFlags := 25, slot := 6, constantValue := 0 }, { name := "BYTES", type := .int, accessFlags := 25, slot := 7, constantValue := 0 }, { name := "serialVersionUID", type := .long, accessFlags := 26, slot := 8, constantValue := 0 }]
  methods := #[k10m0, k10m1]
  instanceTypes := #[.int]
  staticTypes := #[.int, .int, (.object "java/lang/Class"), (.array .char), (.array .byte), (.array .byte), .int, .int, .long]
  resolved := Array.replicate 453 none
  statics := none }

def pool11 : Array CpInfo := pool [(2, .class_ 4), (1, u "java/lang/CharSequence"), (0, u "length"), (0, u "()I"), (38, u "charAt"), (0, u "(I)C"), (0, .class_ 48), (0, u "java/lang/CharSequence$1CodePointIterator"), (10, .class_ 60), (0, u "java/lang/CharSequence$1CharIterator"), (5, .class_ 67), (0, u "java/lang/Object")] 63

def k11m0 : Method := { name := "length", desc := "()I", sig := { parameters := [], returnType := some .int }, accessFlags := 1025, code := none }
def k11m1 : Method := { name := "charAt", desc := "(I)C", sig := { parameters := [.int], returnType := some .char }, accessFlags := 1025, code := none }
/-- java/lang/CharSequence -/
def k11 : Class := { plain "java/lang/CharSequence" (some 0) with
  accessFlags := 1537
  interfaces := #[]
  cf := some (fileOf pool11 2 #[.nestMembers #[47, 59]] #[{ accessFlags := 1025, nameIndex := 5, descriptorIndex := 6, attributes := #[] }, { accessFlags := 1025, nameIndex := 45, descriptorIndex := 46, attributes := #[] }] 1537 66 #[] #[])
  fields := #[]
  methods := #[k11m0, k11m1]
  instanceTypes := #[]
  staticTypes := #[]
  resolved := Array.replicate 131 none
  statics := none }

def pool12 : Array CpInfo := pool [(2, .class_ 4), (1, u "java/lang/Object"), (0, u "<init>"), (0, u "()V"), (2, .fieldref 10 11), (0, .class_ 12), (0, .nameAndType 13 14), (0, u "java/lang/String"), (0, u "value"), (0, u "[B"), (0, .fieldref 10 16), (0, .nameAndType 17 18), (0, u "coder"), (0, u "B"), (2, u "hash"), (0, u "I"), (2, u "hashIsZero"), (0, u "Z"), (11, .fieldref 10 39), (0, .nameAndType 40 26), (0, u "COMPACT_STRINGS"), (66, .class_ 109), (1, u "java/lang/StringLatin1"), (32, u "()Z"), (191, u "()I"), (0, .methodref 10 336), (0, .nameAndType 17 337), (0, u "()B"), (25, u "([BI)C"), (27, u "(II)V"), (35, u "(I)C"), (64, .methodref 10 493), (0, .nameAndType 494 142), (0, u "isLatin1"), (0, .methodref 107 496), (0, .nameAndType 497 363), (0, u "charAt"), (3, u "checkIndex"), (5, u "length"), (67, .class_ 576), (0, u "java/lang/CharSequence"), (22, u "CASE_INSENSITIVE_ORDER"), (0, u "Ljava/util/Comparator;"), (452, .fieldref 1054 1055), (0, .class_ 1056), (0, .nameAndType 1057 1058), (0, u "jdk/internal/util/Preconditions"), (0, u "SIOOBE_FORMATTER"), (0, u "Ljava/util/function/BiFunction;"), (0, .methodref 1054 1060), (0, .nameAndType 501 1061), (0, u "(IILjava/util/function/BiFunction;)I"), (39, u "serialPersistentFields"), (0, u "[Ljava/io/ObjectStreamField;"), (0, .class_ 1104), (0, u "java/lang/String$CaseInsensitiveComparator"), (1, .class_ 1107), (0, u "java/io/Serializable"), (0, .class_ 1109), (0, u "java/lang/Comparable"), (0, .class_ 1111), (0, u "java/lang/constant/Constable"), (0, .class_ 1113), (0, u "java/lang/constant/ConstantDesc"), (2, u "serialVersionUID"), (0, u "J"), (3, u "REPL"), (0, u "C"), (2, u "LATIN1"), (1, u "UTF16")] 323

def k12m0 : Method := { name := "<init>", desc := "()V", sig := { parameters := [], returnType := none }, accessFlags := 1, code := none }
def k12c1 : Code := { maxStack := 2, maxLocals := 1, code := jdk_42_method_54_code, exceptionTable := #[], attributes := #[] }
def k12m1 : Method := { name := "length", desc := "()I", sig := { parameters := [], returnType := some .int }, accessFlags := 1, code := some k12c1 }
def k12c2 : Code := { maxStack := 2, maxLocals := 2, code := jdk_42_method_56_code, exceptionTable := #[], attributes := #[] }
def k12m2 : Method := { name := "charAt", desc := "(I)C", sig := { parameters := [.int], returnType := some .char }, accessFlags := 1, code := some k12c2 }
def k12c3 : Code := { maxStack := 1, maxLocals := 1, code := jdk_42_method_152_code, exceptionTable := #[], attributes := #[] }
def k12m3 : Method := { name := "coder", desc := "()B", sig := { parameters := [], returnType := some .byte }, accessFlags := 0, code := some k12c3 }
def k12c4 : Code := { maxStack := 1, maxLocals := 1, code := jdk_42_method_154_code, exceptionTable := #[], attributes := #[] }
def k12m4 : Method := { name := "isLatin1", desc := "()Z", sig := { parameters := [], returnType := some .boolean }, accessFlags := 0, code := some k12c4 }
def k12c5 : Code := { maxStack := 3, maxLocals := 2, code := jdk_42_method_155_code, exceptionTable := #[], attributes := #[] }
def k12m5 : Method := { name := "checkIndex", desc := "(II)V", sig := { parameters := [.int, .int], returnType := none }, accessFlags := 8, code := some k12c5 }
/-- java/lang/String -/
def k12 : Class := { plain "java/lang/String" (some 0) with
  accessFlags := 49
  interfaces := #[5, 7, 11, 8, 9]
  cf := some (fileOf pool12 10 #[.nestMembers #[1103]] #[{ accessFlags := 1, nameIndex := 5, descriptorIndex := 6, attributes := #[] }, { accessFlags := 1, nameIndex := 507, descriptorIndex := 334, attributes := #[] }, { accessFlags := 1, nameIndex := 497, descriptorIndex := 427, attributes := #[] }, { accessFlags := 0, nameIndex := 17, descriptorIndex := 337, attributes := #[] }, { accessFlags := 0, nameIndex := 494, descriptorIndex := 142, attributes := #[] }, { accessFlags := 8, nameIndex := 501, descriptorIndex := 391, attributes := #[] }] 49 2 #[1106, 1108, 575, 1110, 1112] #[{ accessFlags := 18, nameIndex := 13, descriptorIndex := 14, attributes := #[] }, { accessFlags := 18, nameIndex := 17, descriptorIndex := 18, attributes := #[] }, { accessFlags := 2, nameIndex := 21, descriptorIndex := 22, attributes := #[] }, { accessFlags := 2, nameIndex := 25, descriptorIndex := 26, attributes := #[] }, { accessFlags := 26, nameIndex := 1116, descriptorIndex := 1117, attributes := #[] }, { accessFlags := 24, nameIndex := 40, descriptorIndex := 26, attributes := #[] }, { accessFlags := 26, nameIndex := 1101, descriptorIndex := 1102, attributes := #[] }, { accessFlags := 26, nameIndex := 1121, descriptorIndex := 1122, attributes := #[] }, { accessFlags := 25, nameIndex := 599, descriptorIndex := 600, attributes := #[] }, { accessFlags := 24, nameIndex := 1125, descriptorIndex := 18, attributes := #[] }, { accessFlags := 24, nameIndex := 1127, descriptorIndex := 18, attributes := #[] }])
  fields := #[{ name := "value", type := (.array .byte), accessFlags := 18, slot := 0, constantValue := 0 }, { name := "coder", type := .byte, accessFlags := 18, slot := 1, constantValue := 0 }, { name := "hash", type := .int, accessFlags := 2, slot := 2, constantValue := 0 }, { name := "hashIsZero", type := .boolean, accessFlags := 2, slot := 3, constantValue := 0 }, { name := "serialVersionUID", type := .long, accessFlags := 26, slot := 0, constantValue := 0 }, { name := "COMPACT_STRINGS", type := .boolean, accessFlags := 24, slot := 1, constantValue := 0 }, { name := "serialPersistentFields", type := (.array (.object "java/io/ObjectStreamField")), accessFlags := 26, slot := 2, constantValue := 0 }, { name := "REPL", type := .char, accessFlags := 26, slot := 3, constantValue := 0 }, { name := "CASE_INSENSITIVE_ORDER", type := (.object "java/util/Comparator"), accessFlags := 25, slot := 4, constantValue := 0 }, { name := "LATIN1", type := .byte, accessFlags := 24, slot := 5, constantValue := 0 }, { name := "UTF16", type := .byte, accessFlags := 24, slot := 6, constantValue := 0 }]
  methods := #[k12m0, k12m1, k12m2, k12m3, k12m4, k12m5]
  instanceTypes := #[(.array .byte), .byte, .int, .boolean]
  staticTypes := #[.long, .boolean, (.array (.object "java/io/ObjectStreamField")), .char, (.object "java/util/Comparator"), .byte, .byte]
  resolved := Array.replicate 1451 none
  statics := some 0 }

def pool13 : Array CpInfo := pool [(1, .class_ 2), (0, u "java/lang/String"), (1, .class_ 6), (1, u "java/lang/Object"), (0, u "<init>"), (0, u "()V"), (0, .methodref 1 10), (0, .nameAndType 11 12), (0, u "checkIndex"), (0, u "(II)V"), (1, .class_ 16), (1, u "java/lang/StringLatin1"), (36, u "([BI)C"), (67, u "$assertionsDisabled"), (0, u "Z"), (98, .class_ 223), (1, u "java/lang/StringLatin1$LinesSpliterator"), (28, u "charAt"), (137, .class_ 391), (0, u "java/lang/StringLatin1$CharsSpliterator")] 3

def k13m0 : Method := { name := "<init>", desc := "()V", sig := { parameters := [], returnType := none }, accessFlags := 0, code := none }
def k13c1 : Code := { maxStack := 2, maxLocals := 2, code := jdk_43_method_2_code, exceptionTable := #[], attributes := #[] }
def k13m1 : Method := { name := "charAt", desc := "([BI)C", sig := { parameters := [(.array .byte), .int], returnType := some .char }, accessFlags := 9, code := some k13c1 }
/-- java/lang/StringLatin1 -/
def k13 : Class := { plain "java/lang/StringLatin1" (some 0) with
  accessFlags := 48
  interfaces := #[]
  cf := some (fileOf pool13 14 #[.nestMembers #[390, 221]] #[{ accessFlags := 0, nameIndex := 7, descriptorIndex := 8, attributes := #[] }, { accessFlags := 9, nameIndex := 252, descriptorIndex := 53, attributes := #[] }] 48 4 #[] #[{ accessFlags := 4120, nameIndex := 121, descriptorIndex := 122, attributes := #[] }])
  fields := #[{ name := "$assertionsDisabled", type := .boolean, accessFlags := 4120, slot := 0, constantValue := 0 }]
  methods := #[k13m0, k13m1]
  instanceTypes := #[]
  staticTypes := #[.boolean]
  resolved := Array.replicate 395 none
  statics := none }

def pool14 : Array CpInfo := pool [(2, .class_ 4), (1, u "java/lang/Object"), (0, u "<init>"), (0, u "()V"), (17, .class_ 26), (1, u "jdk/internal/util/Preconditions"), (6, u "checkIndex"), (21, .class_ 56), (0, u "jdk/internal/util/Preconditions$4"), (57, .class_ 115), (0, u "jdk/internal/util/Preconditions$1"), (7, u "SIOOBE_FORMATTER"), (0, u "Ljava/util/function/BiFunction;"), (0, .class_ 126), (0, u "jdk/internal/util/Preconditions$2"), (3, u "AIOOBE_FORMATTER"), (0, .class_ 132), (0, u "jdk/internal/util/Preconditions$3"), (3, u "IOOBE_FORMATTER"), (41, u "(IILjava/util/function/BiFunction;)I")] 15

def k14m0 : Method := { name := "<init>", desc := "()V", sig := { parameters := [], returnType := none }, accessFlags := 1, code := none }
def k14c1 : Code := { maxStack := 3, maxLocals := 3, code := jdk_41_method_11_code, exceptionTable := #[], attributes := #[] }
def k14m1 : Method := { name := "checkIndex", desc := "(IILjava/util/function/BiFunction;)I", sig := { parameters := [.int, .int, (.object "java/util/function/BiFunction")], returnType := some .int }, accessFlags := 9, code := some k14c1 }
/-- jdk/internal/util/Preconditions -/
def k14 : Class := { plain "jdk/internal/util/Preconditions" (some 0) with
  accessFlags := 33
  interfaces := #[]
  cf := some (fileOf pool14 24 #[.nestMembers #[55, 131, 125, 114]] #[{ accessFlags := 1, nameIndex := 5, descriptorIndex := 6, attributes := #[] }, { accessFlags := 9, nameIndex := 33, descriptorIndex := 178, attributes := #[] }] 33 2 #[] #[{ accessFlags := 25, nameIndex := 123, descriptorIndex := 124, attributes := #[] }, { accessFlags := 25, nameIndex := 130, descriptorIndex := 124, attributes := #[] }, { accessFlags := 25, nameIndex := 136, descriptorIndex := 124, attributes := #[] }])
  fields := #[{ name := "SIOOBE_FORMATTER", type := (.object "java/util/function/BiFunction"), accessFlags := 25, slot := 0, constantValue := 0 }, { name := "AIOOBE_FORMATTER", type := (.object "java/util/function/BiFunction"), accessFlags := 25, slot := 1, constantValue := 0 }, { name := "IOOBE_FORMATTER", type := (.object "java/util/function/BiFunction"), accessFlags := 25, slot := 2, constantValue := 0 }]
  methods := #[k14m0, k14m1]
  instanceTypes := #[]
  staticTypes := #[(.object "java/util/function/BiFunction"), (.object "java/util/function/BiFunction"), (.object "java/util/function/BiFunction")]
  resolved := Array.replicate 194 none
  statics := some 1 }

def pool15 : Array CpInfo := pool [(9, u "<init>"), (6, .class_ 18), (1, u "java/lang/Object"), (0, u "()V"), (1, .class_ 23), (1, u "jdk/internal/util/ArraysSupport"), (0, u "LOG2_ARRAY_LONG_INDEX_SCALE"), (0, u "I"), (2, u "U"), (0, u "Ljdk/internal/misc/Unsafe;"), (8, u "BIG_ENDIAN"), (0, u "Z"), (8, u "LOG2_BYTE_BIT_SIZE"), (4, u "LOG2_ARRAY_INT_INDEX_SCALE"), (54, u "JLA"), (0, u "Ljdk/internal/access/JavaLangAccess;"), (11, u "LOG2_ARRAY_BOOLEAN_INDEX_SCALE"), (9, u "LOG2_ARRAY_BYTE_INDEX_SCALE"), (5, u "LOG2_ARRAY_CHAR_INDEX_SCALE"), (5, u "LOG2_ARRAY_SHORT_INDEX_SCALE"), (18, u "LOG2_ARRAY_FLOAT_INDEX_SCALE"), (24, u "LOG2_ARRAY_DOUBLE_INDEX_SCALE"), (89, u "T_BOOLEAN"), (2, u "T_CHAR"), (1, u "T_FLOAT"), (1, u "T_DOUBLE"), (1, u "T_BYTE"), (1, u "T_SHORT"), (1, u "T_INT"), (1, u "T_LONG"), (1, u "SOFT_MAX_ARRAY_LENGTH")] 83

def k15m0 : Method := { name := "<init>", desc := "()V", sig := { parameters := [], returnType := none }, accessFlags := 2, code := none }
/-- jdk/internal/util/ArraysSupport -/
def k15 : Class := { plain "jdk/internal/util/ArraysSupport" (some 0) with
  accessFlags := 33
  interfaces := #[]
  cf := some (fileOf pool15 21 #[] #[{ accessFlags := 2, nameIndex := 9, descriptorIndex := 19, attributes := #[] }] 33 16 #[] #[{ accessFlags := 24, nameIndex := 28, descriptorIndex := 29, attributes := #[] }, { accessFlags := 26, nameIndex := 38, descriptorIndex := 39, attributes := #[] }, { accessFlags := 25, nameIndex := 121, descriptorIndex := 25, attributes := #[] }, { accessFlags := 25, nameIndex := 131, descriptorIndex := 25, attributes := #[] }, { accessFlags := 25, nameIndex := 137, descriptorIndex := 25, attributes := #[] }, { accessFlags := 25, nameIndex := 143, descriptorIndex := 25, attributes := #[] }, { accessFlags := 25, nameIndex := 53, descriptorIndex := 25, attributes := #[] }, { accessFlags := 25, nameIndex := 24, descriptorIndex := 25, attributes := #[] }, { accessFlags := 25, nameIndex := 162, descriptorIndex := 25, attributes := #[] }, { accessFlags := 25, nameIndex := 187, descriptorIndex := 25, attributes := #[] }, { accessFlags := 26, nameIndex := 48, descriptorIndex := 25, attributes := #[] }, { accessFlags := 25, nameIndex := 277, descriptorIndex := 25, attributes := #[] }, { accessFlags := 25, nameIndex := 280, descriptorIndex := 25, attributes := #[] }, { accessFlags := 25, nameIndex := 282, descriptorIndex := 25, attributes := #[] }, { accessFlags := 25, nameIndex := 284, descriptorIndex := 25, attributes := #[] }, { accessFlags := 25, nameIndex := 286, descriptorIndex := 25, attributes := #[] }, { accessFlags := 25, nameIndex := 288, descriptorIndex := 25, attributes := #[] }, { accessFlags := 25, nameIndex := 290, descriptorIndex := 25, attributes := #[] }, { accessFlags := 25, nameIndex := 292, descriptorIndex := 25, attributes := #[] }, { accessFlags := 26, nameIndex := 108, descriptorIndex := 109, attributes := #[] }, { accessFlags := 25, nameIndex := 294, descriptorIndex := 25, attributes := #[] }])
  fields := #[{ name := "U", type := (.object "jdk/internal/misc/Unsafe"), accessFlags := 24, slot := 0, constantValue := 0 }, { name := "BIG_ENDIAN", type := .boolean, accessFlags := 26, slot := 1, constantValue := 0 }, { name := "LOG2_ARRAY_BOOLEAN_INDEX_SCALE", type := .int, accessFlags := 25, slot := 2, constantValue := 0 }, { name := "LOG2_ARRAY_BYTE_INDEX_SCALE", type := .int, accessFlags := 25, slot := 3, constantValue := 0 }, { name := "LOG2_ARRAY_CHAR_INDEX_SCALE", type := .int, accessFlags := 25, slot := 4, constantValue := 0 }, { name := "LOG2_ARRAY_SHORT_INDEX_SCALE", type := .int, accessFlags := 25, slot := 5, constantValue := 0 }, { name := "LOG2_ARRAY_INT_INDEX_SCALE", type := .int, accessFlags := 25, slot := 6, constantValue := 0 }, { name := "LOG2_ARRAY_LONG_INDEX_SCALE", type := .int, accessFlags := 25, slot := 7, constantValue := 0 }, { name := "LOG2_ARRAY_FLOAT_INDEX_SCALE", type := .int, accessFlags := 25, slot := 8, constantValue := 0 }, { name := "LOG2_ARRAY_DOUBLE_INDEX_SCALE", type := .int, accessFlags := 25, slot := 9, constantValue := 0 }, { name := "LOG2_BYTE_BIT_SIZE", type := .int, accessFlags := 26, slot := 10, constantValue := 0 }, { name := "T_BOOLEAN", type := .int, accessFlags := 25, slot := 11, constantValue := 0 }, { name := "T_CHAR", type := .int, accessFlags := 25, slot := 12, constantValue := 0 }, { name := "T_FLOAT", type := .int, accessFlags := 25, slot := 13, constantValue := 0 }, { name := "T_DOUBLE", type := .int, accessFlags := 25, slot := 14, constantValue := 0 }, { name := "T_BYTE", type := .int, accessFlags := 25, slot := 15, constantValue := 0 }, { name := "T_SHORT", type := .int, accessFlags := 25, slot := 16, constantValue := 0 }, { name := "T_INT", type := .int, accessFlags := 25, slot := 17, constantValue := 0 }, { name := "T_LONG", type := .int, accessFlags := 25, slot := 18, constantValue := 0 }, { name := "JLA", type := (.object "jdk/internal/access/JavaLangAccess"), accessFlags := 26, slot := 19, constantValue := 0 }, { name := "SOFT_MAX_ARRAY_LENGTH", type := .int, accessFlags := 25, slot := 20, constantValue := 0 }]
  methods := #[k15m0]
  instanceTypes := #[]
  staticTypes := #[(.object "jdk/internal/misc/Unsafe"), .boolean, .int, .int, .int, .int, .int, .int, .int, .int, .int, .int, .int, .int, .int, .int, .int, .int, .int, (.object "jdk/internal/access/JavaLangAccess"), .int]
  resolved := Array.replicate 378 none
  statics := none }

def pool16 : Array CpInfo := pool [(1, u "java/lang/Cloneable"), (0, .class_ 1), (0, u "java/lang/Object"), (0, .class_ 3)] 3

/-- java/lang/Cloneable -/
def k16 : Class := { plain "java/lang/Cloneable" (some 0) with
  accessFlags := 1537
  interfaces := #[]
  cf := some (fileOf pool16 2 #[] #[] 1537 4 #[] #[])
  fields := #[]
  methods := #[]
  instanceTypes := #[]
  staticTypes := #[]
  resolved := Array.replicate 8 none
  statics := none }

/-- the primitive byte -/
def k17 : Class := { plain "byte" none with kind := .primitive 'B', accessFlags := 0x411 }
/-- [B -/
def k18 : Class := { plain "[B" (some 0) with kind := .array 17 .byte, interfaces := #[16, 5], accessFlags := 1041 }

/-- the primitive int -/
def k19 : Class := { plain "int" none with kind := .primitive 'I', accessFlags := 0x411 }
/-- [I -/
def k20 : Class := { plain "[I" (some 0) with kind := .array 19 .int, interfaces := #[16, 5], accessFlags := 1041 }

def heap : Heap := #[{ cls := 12, slots := #[.long 0, .int 1, .null, .int 0, .null, .int 0, .int 0], vm := .statics 12 },
  { cls := 14, slots := #[.null, .null, .null], vm := .statics 14 }]
def classes : Array Class := #[k0, k1, k2, k3, k4, k5, k6, k7, k8, k9, k10, k11, k12, k13, k14, k15, k16, k17, k18, k19, k20]
def interned : List (Array UInt16 × Addr) := []
def slotsUsed : Nat := 10
def theMethod : MethodId := ⟨1, 2⟩
def args0 : Array Value := #[.int 1, .int 2, .int 3, .int 4, .int 5]
def aboutOver (below : List Frame) : State where
  vm := { classes := classes, interned := interned.toArray }
  heap := heap
  slotsUsed := slotsUsed
  threads := #[{ frames := .invoking theMethod args0 :: below }]
def below0 : List Frame := [.native { method := ⟨0, 0⟩, args := #[] }]
def about1 : State := aboutOver below0
def p0 : Program := .bare "" "" ""
def e0 : Env := launch0.env 0 0 0
theorem w_frames : about1.frames = Frame.invoking theMethod args0 :: below0 := rfl
set_option maxRecDepth 65536 in
theorem w_args : argsFit about1.vm theMethod args0 = true := by decide +kernel
set_option maxRecDepth 65536 in
theorem w_heap : heapFits about1 = true := by decide +kernel
set_option maxRecDepth 65536 in
theorem w_runnable : about1.curStatus? = some .runnable := by decide +kernel
set_option maxRecDepth 65536 in
theorem w_alone : about1.alone = true := by decide +kernel
set_option maxRecDepth 65536 in
theorem w_named : about1.methodNamed? x = some theMethod := by decide +kernel
set_option maxRecDepth 65536 in
theorem w_hears : about1.hears theMethod below0 = true := by decide +kernel
set_option maxRecDepth 65536 in
theorem w_ripe : about1.ripe theMethod args0 below0 = true := by decide +kernel
theorem w_running : about1.status = .running := rfl
set_option maxRecDepth 65536 in
theorem w_room : about1.hasRoom e0.platform room_1 = true :=
  launch0.hasRoom_least _ room_1 (by decide +kernel) (by decide +kernel) (by decide +kernel) (by decide +kernel) (by decide +kernel) (by decide +kernel)
theorem allAtoms_all (ts : List Jvm.Cond) (a : Array Jvm.Value) (st : Jvm.State) : (allAtoms ts).before a st = ts.all (fun c => c.before a st) := by
  induction ts with
  | nil => rfl
  | cons c t ih =>
    show (Jvm.Cond.and c (allAtoms t)).before a st = _
    rw [Jvm.Cond.before_and, ih, List.all_cons]
def words1 : List Jvm.Cond := Jvm.Cond.code x code maxLocals ret :: tables_1
/-- a 'code' word, met by the world's own term for the bytes: nothing is compared byte by byte -/
theorem code_word {y : MethodName} {bytes : ByteArray} {mx : Nat} {rt : Option FieldType} {a : Array Value} {s : State} {m : MethodId} {meth : Method} {c : Code} (h1 : s.methodNamed? y = some m) (h2 : s.vm.method? m = some meth) (h3 : meth.code = some c) (h4 : c.code = bytes)
    (h5 : (c.maxLocals == mx && c.exceptionTable.isEmpty && decide (c.maxStack ≤ mostOperands) && decide (meth.sig.returnType = rt) && !meth.locks && decide (parseMethodDescriptor y.desc = some meth.sig)) = true) : (Jvm.Cond.code y bytes mx rt).before a s = true := by
  simp only [Bool.and_eq_true, beq_iff_eq, Bool.not_eq_true', decide_eq_true_eq] at h5
  obtain ⟨⟨⟨⟨⟨g1, g2⟩, g3⟩, g4⟩, g5⟩, g6⟩ := h5
  simp [Cond.before, Cond.holds, Cond.value, h1, h2, h3, h4, g1, g2, g3, g4, g5, g6]
def isCode : Jvm.Cond → Bool
  | .code _ _ _ _ => true
  | _ => false
theorem all_split {L : List Jvm.Cond} {P : Jvm.Cond → Bool} (h1 : L.all (fun c => isCode c || P c) = true) (h2 : ∀ c ∈ L.filter isCode, P c = true) : L.all P = true := by
  refine List.all_eq_true.mpr fun c hc => ?_
  have h := List.all_eq_true.mp h1 c hc
  rcases Bool.eq_false_or_eq_true (isCode c) with hi | hi
  · exact h2 c (List.mem_filter.mpr ⟨hc, hi⟩)
  · simpa [hi] using h
set_option maxRecDepth 65536 in
theorem w_c0 : (Jvm.Cond.code x code maxLocals ret).before args0 about1 = true := code_word (m := ⟨1, 2⟩) (meth := k1m2) (c := k1c2) (by decide +kernel) rfl rfl rfl (by decide +kernel)
set_option maxRecDepth 65536 in
theorem w_c1 : (Jvm.Cond.code ({ cls := "com/example/runs_to_scores/runstoscores/scoring/TopicJudgments", name := "<init>", desc := "(I)V" } : Jvm.MethodName) prog_83_method_1_code (2 : Nat) (Option.none : Option Jvm.ClassFile.FieldType)).before args0 about1 = true := code_word (m := ⟨2, 0⟩) (meth := k2m0) (c := k2c0) (by decide +kernel) rfl rfl rfl (by decide +kernel)
set_option maxRecDepth 65536 in
theorem w_c2 : (Jvm.Cond.code ({ cls := "java/lang/Object", name := "<init>", desc := "()V" } : Jvm.MethodName) object_method_1_code (1 : Nat) (Option.none : Option Jvm.ClassFile.FieldType)).before args0 about1 = true := code_word (m := ⟨0, 0⟩) (meth := k0m0) (c := k0c0) (by decide +kernel) rfl rfl rfl (by decide +kernel)
set_option maxRecDepth 65536 in
theorem w_c3 : (Jvm.Cond.code ({ cls := "com/example/runs_to_scores/runstoscores/scoring/TopicDocnos", name := "<init>", desc := "()V" } : Jvm.MethodName) prog_82_method_1_code (1 : Nat) (Option.none : Option Jvm.ClassFile.FieldType)).before args0 about1 = true := code_word (m := ⟨3, 0⟩) (meth := k3m0) (c := k3c0) (by decide +kernel) rfl rfl rfl (by decide +kernel)
set_option maxRecDepth 65536 in
theorem w_c4 : (Jvm.Cond.code ({ cls := "com/example/runs_to_scores/runstoscores/scoring/TopicDocnos", name := "<init>", desc := "(II)V" } : Jvm.MethodName) prog_82_method_3_code (4 : Nat) (Option.none : Option Jvm.ClassFile.FieldType)).before args0 about1 = true := code_word (m := ⟨3, 1⟩) (meth := k3m1) (c := k3c1) (by decide +kernel) rfl rfl rfl (by decide +kernel)
set_option maxRecDepth 65536 in
theorem w_c5 : (Jvm.Cond.code ({ cls := "java/lang/Math", name := "max", desc := "(II)I" } : Jvm.MethodName) jdk_29_method_65_code (2 : Nat) (Option.some Jvm.ClassFile.FieldType.int)).before args0 about1 = true := code_word (m := ⟨4, 1⟩) (meth := k4m1) (c := k4c1) (by decide +kernel) rfl rfl rfl (by decide +kernel)
set_option maxRecDepth 65536 in
theorem w_c6 : (Jvm.Cond.code ({ cls := "java/lang/Integer", name := "highestOneBit", desc := "(I)I" } : Jvm.MethodName) jdk_33_method_45_code (1 : Nat) (Option.some Jvm.ClassFile.FieldType.int)).before args0 about1 = true := code_word (m := ⟨10, 0⟩) (meth := k10m0) (c := k10c0) (by decide +kernel) rfl rfl rfl (by decide +kernel)
set_option maxRecDepth 65536 in
theorem w_c7 : (Jvm.Cond.code ({ cls := "java/lang/Integer", name := "numberOfLeadingZeros", desc := "(I)I" } : Jvm.MethodName) jdk_33_method_47_code (2 : Nat) (Option.some Jvm.ClassFile.FieldType.int)).before args0 about1 = true := code_word (m := ⟨10, 1⟩) (meth := k10m1) (c := k10c1) (by decide +kernel) rfl rfl rfl (by decide +kernel)
set_option maxRecDepth 65536 in
theorem w_c8 : (Jvm.Cond.code ({ cls := "com/example/runs_to_scores/runstoscores/scoring/TopicJudgments", name := "addOnce", desc := "(Ljava/lang/CharSequence;I)Z" } : Jvm.MethodName) prog_83_method_2_code (4 : Nat) (Option.some Jvm.ClassFile.FieldType.boolean)).before args0 about1 = true := code_word (m := ⟨2, 1⟩) (meth := k2m1) (c := k2c1) (by decide +kernel) rfl rfl rfl (by decide +kernel)
set_option maxRecDepth 65536 in
theorem w_c9 : (Jvm.Cond.code ({ cls := "com/example/runs_to_scores/runstoscores/scoring/TopicDocnos", name := "add", desc := "(Ljava/lang/CharSequence;)I" } : Jvm.MethodName) prog_82_method_4_code (6 : Nat) (Option.some Jvm.ClassFile.FieldType.int)).before args0 about1 = true := code_word (m := ⟨3, 2⟩) (meth := k3m2) (c := k3c2) (by decide +kernel) rfl rfl rfl (by decide +kernel)
set_option maxRecDepth 65536 in
theorem w_c10 : (Jvm.Cond.code ({ cls := "com/example/runs_to_scores/runstoscores/scoring/TopicDocnos", name := "start", desc := "(I)I" } : Jvm.MethodName) prog_82_method_10_code (2 : Nat) (Option.some Jvm.ClassFile.FieldType.int)).before args0 about1 = true := code_word (m := ⟨3, 3⟩) (meth := k3m3) (c := k3c3) (by decide +kernel) rfl rfl rfl (by decide +kernel)
set_option maxRecDepth 65536 in
theorem w_c11 : (Jvm.Cond.code ({ cls := "java/lang/String", name := "length", desc := "()I" } : Jvm.MethodName) jdk_42_method_54_code (1 : Nat) (Option.some Jvm.ClassFile.FieldType.int)).before args0 about1 = true := code_word (m := ⟨12, 1⟩) (meth := k12m1) (c := k12c1) (by decide +kernel) rfl rfl rfl (by decide +kernel)
set_option maxRecDepth 65536 in
theorem w_c12 : (Jvm.Cond.code ({ cls := "java/lang/String", name := "coder", desc := "()B" } : Jvm.MethodName) jdk_42_method_152_code (1 : Nat) (Option.some Jvm.ClassFile.FieldType.byte)).before args0 about1 = true := code_word (m := ⟨12, 3⟩) (meth := k12m3) (c := k12c3) (by decide +kernel) rfl rfl rfl (by decide +kernel)
set_option maxRecDepth 65536 in
theorem w_c13 : (Jvm.Cond.code ({ cls := "com/example/runs_to_scores/runstoscores/scoring/TopicDocnos", name := "write", desc := "(Ljava/lang/CharSequence;[BI)Z" } : Jvm.MethodName) prog_82_method_12_code (5 : Nat) (Option.some Jvm.ClassFile.FieldType.boolean)).before args0 about1 = true := code_word (m := ⟨3, 5⟩) (meth := k3m5) (c := k3c5) (by decide +kernel) rfl rfl rfl (by decide +kernel)
set_option maxRecDepth 65536 in
theorem w_c14 : (Jvm.Cond.code ({ cls := "java/lang/String", name := "charAt", desc := "(I)C" } : Jvm.MethodName) jdk_42_method_56_code (2 : Nat) (Option.some Jvm.ClassFile.FieldType.char)).before args0 about1 = true := code_word (m := ⟨12, 2⟩) (meth := k12m2) (c := k12c2) (by decide +kernel) rfl rfl rfl (by decide +kernel)
set_option maxRecDepth 65536 in
theorem w_c15 : (Jvm.Cond.code ({ cls := "java/lang/String", name := "isLatin1", desc := "()Z" } : Jvm.MethodName) jdk_42_method_154_code (1 : Nat) (Option.some Jvm.ClassFile.FieldType.boolean)).before args0 about1 = true := code_word (m := ⟨12, 4⟩) (meth := k12m4) (c := k12c4) (by decide +kernel) rfl rfl rfl (by decide +kernel)
set_option maxRecDepth 65536 in
theorem w_c16 : (Jvm.Cond.code ({ cls := "java/lang/StringLatin1", name := "charAt", desc := "([BI)C" } : Jvm.MethodName) jdk_43_method_2_code (2 : Nat) (Option.some Jvm.ClassFile.FieldType.char)).before args0 about1 = true := code_word (m := ⟨13, 1⟩) (meth := k13m1) (c := k13c1) (by decide +kernel) rfl rfl rfl (by decide +kernel)
set_option maxRecDepth 65536 in
theorem w_c17 : (Jvm.Cond.code ({ cls := "java/lang/String", name := "checkIndex", desc := "(II)V" } : Jvm.MethodName) jdk_42_method_155_code (2 : Nat) (Option.none : Option Jvm.ClassFile.FieldType)).before args0 about1 = true := code_word (m := ⟨12, 5⟩) (meth := k12m5) (c := k12c5) (by decide +kernel) rfl rfl rfl (by decide +kernel)
set_option maxRecDepth 65536 in
theorem w_c18 : (Jvm.Cond.code ({ cls := "jdk/internal/util/Preconditions", name := "checkIndex", desc := "(IILjava/util/function/BiFunction;)I" } : Jvm.MethodName) jdk_41_method_11_code (3 : Nat) (Option.some Jvm.ClassFile.FieldType.int)).before args0 about1 = true := code_word (m := ⟨14, 1⟩) (meth := k14m1) (c := k14c1) (by decide +kernel) rfl rfl rfl (by decide +kernel)
set_option maxRecDepth 65536 in
theorem w_c19 : (Jvm.Cond.code ({ cls := "com/example/runs_to_scores/runstoscores/scoring/TopicDocnos", name := "hash", desc := "([BII)I" } : Jvm.MethodName) prog_82_method_13_code (5 : Nat) (Option.some Jvm.ClassFile.FieldType.int)).before args0 about1 = true := code_word (m := ⟨3, 6⟩) (meth := k3m6) (c := k3c6) (by decide +kernel) rfl rfl rfl (by decide +kernel)
set_option maxRecDepth 65536 in
theorem w_c20 : (Jvm.Cond.code ({ cls := "com/example/runs_to_scores/runstoscores/scoring/TopicDocnos", name := "slotOf", desc := "([BIII)I" } : Jvm.MethodName) prog_82_method_11_code (8 : Nat) (Option.some Jvm.ClassFile.FieldType.int)).before args0 about1 = true := code_word (m := ⟨3, 4⟩) (meth := k3m4) (c := k3c4) (by decide +kernel) rfl rfl rfl (by decide +kernel)
set_option maxRecDepth 65536 in
theorem w_c21 : (Jvm.Cond.code ({ cls := "com/example/runs_to_scores/runstoscores/scoring/TopicDocnos", name := "spread", desc := "(I)I" } : Jvm.MethodName) prog_82_method_14_code (1 : Nat) (Option.some Jvm.ClassFile.FieldType.int)).before args0 about1 = true := code_word (m := ⟨3, 7⟩) (meth := k3m7) (c := k3c7) (by decide +kernel) rfl rfl rfl (by decide +kernel)
set_option maxRecDepth 65536 in
theorem w_c22 : (Jvm.Cond.code ({ cls := "com/example/runs_to_scores/runstoscores/scoring/TopicJudgments", name := "gainAt", desc := "(I)I" } : Jvm.MethodName) prog_83_method_6_code (2 : Nat) (Option.some Jvm.ClassFile.FieldType.int)).before args0 about1 = true := code_word (m := ⟨2, 2⟩) (meth := k2m2) (c := k2c2) (by decide +kernel) rfl rfl rfl (by decide +kernel)
set_option maxRecDepth 65536 in
theorem w_c23 : (Jvm.Cond.code ({ cls := "com/example/runs_to_scores/runstoscores/scoring/TopicJudgmentsGainAtPinLaw", name := "gain", desc := "(I)I" } : Jvm.MethodName) method_2_code (1 : Nat) (Option.some Jvm.ClassFile.FieldType.int)).before args0 about1 = true := code_word (m := ⟨1, 1⟩) (meth := k1m1) (c := k1c1) (by decide +kernel) rfl rfl rfl (by decide +kernel)
def codes1 : List Jvm.Cond := [Jvm.Cond.code x code maxLocals ret, Jvm.Cond.code ({ cls := "com/example/runs_to_scores/runstoscores/scoring/TopicJudgments", name := "<init>", desc := "(I)V" } : Jvm.MethodName) prog_83_method_1_code (2 : Nat) (Option.none : Option Jvm.ClassFile.FieldType), Jvm.Cond.code ({ cls := "java/lang/Object", name := "<init>", desc := "()V" } : Jvm.MethodName) object_method_1_code (1 : Nat) (Option.none : Option Jvm.ClassFile.FieldType), Jvm.Cond.code ({ cls := "com/example/runs_to_scores/runstoscores/scoring/TopicDocnos", name := "<init>", desc := "()V" } : Jvm.MethodName) prog_82_method_1_code (1 : Nat) (Option.none : Option Jvm.ClassFile.FieldType), Jvm.Cond.code ({ cls := "com/example/runs_to_scores/runstoscores/scoring/TopicDocnos", name := "<init>", desc := "(II)V" } : Jvm.MethodName) prog_82_method_3_code (4 : Nat) (Option.none : Option Jvm.ClassFile.FieldType), Jvm.Cond.code ({ cls := "java/lang/Math", name := "max", desc := "(II)I" } : Jvm.MethodName) jdk_29_method_65_code (2 : Nat) (Option.some Jvm.ClassFile.FieldType.int), Jvm.Cond.code ({ cls := "java/lang/Integer", name := "highestOneBit", desc := "(I)I" } : Jvm.MethodName) jdk_33_method_45_code (1 : Nat) (Option.some Jvm.ClassFile.FieldType.int), Jvm.Cond.code ({ cls := "java/lang/Integer", name := "numberOfLeadingZeros", desc := "(I)I" } : Jvm.MethodName) jdk_33_method_47_code (2 : Nat) (Option.some Jvm.ClassFile.FieldType.int), Jvm.Cond.code ({ cls := "com/example/runs_to_scores/runstoscores/scoring/TopicJudgments", name := "addOnce", desc := "(Ljava/lang/CharSequence;I)Z" } : Jvm.MethodName) prog_83_method_2_code (4 : Nat) (Option.some Jvm.ClassFile.FieldType.boolean), Jvm.Cond.code ({ cls := "com/example/runs_to_scores/runstoscores/scoring/TopicDocnos", name := "add", desc := "(Ljava/lang/CharSequence;)I" } : Jvm.MethodName) prog_82_method_4_code (6 : Nat) (Option.some Jvm.ClassFile.FieldType.int), Jvm.Cond.code ({ cls := "com/example/runs_to_scores/runstoscores/scoring/TopicDocnos", name := "start", desc := "(I)I" } : Jvm.MethodName) prog_82_method_10_code (2 : Nat) (Option.some Jvm.ClassFile.FieldType.int), Jvm.Cond.code ({ cls := "java/lang/String", name := "length", desc := "()I" } : Jvm.MethodName) jdk_42_method_54_code (1 : Nat) (Option.some Jvm.ClassFile.FieldType.int), Jvm.Cond.code ({ cls := "java/lang/String", name := "coder", desc := "()B" } : Jvm.MethodName) jdk_42_method_152_code (1 : Nat) (Option.some Jvm.ClassFile.FieldType.byte), Jvm.Cond.code ({ cls := "com/example/runs_to_scores/runstoscores/scoring/TopicDocnos", name := "write", desc := "(Ljava/lang/CharSequence;[BI)Z" } : Jvm.MethodName) prog_82_method_12_code (5 : Nat) (Option.some Jvm.ClassFile.FieldType.boolean), Jvm.Cond.code ({ cls := "java/lang/String", name := "charAt", desc := "(I)C" } : Jvm.MethodName) jdk_42_method_56_code (2 : Nat) (Option.some Jvm.ClassFile.FieldType.char), Jvm.Cond.code ({ cls := "java/lang/String", name := "isLatin1", desc := "()Z" } : Jvm.MethodName) jdk_42_method_154_code (1 : Nat) (Option.some Jvm.ClassFile.FieldType.boolean), Jvm.Cond.code ({ cls := "java/lang/StringLatin1", name := "charAt", desc := "([BI)C" } : Jvm.MethodName) jdk_43_method_2_code (2 : Nat) (Option.some Jvm.ClassFile.FieldType.char), Jvm.Cond.code ({ cls := "java/lang/String", name := "checkIndex", desc := "(II)V" } : Jvm.MethodName) jdk_42_method_155_code (2 : Nat) (Option.none : Option Jvm.ClassFile.FieldType), Jvm.Cond.code ({ cls := "jdk/internal/util/Preconditions", name := "checkIndex", desc := "(IILjava/util/function/BiFunction;)I" } : Jvm.MethodName) jdk_41_method_11_code (3 : Nat) (Option.some Jvm.ClassFile.FieldType.int), Jvm.Cond.code ({ cls := "com/example/runs_to_scores/runstoscores/scoring/TopicDocnos", name := "hash", desc := "([BII)I" } : Jvm.MethodName) prog_82_method_13_code (5 : Nat) (Option.some Jvm.ClassFile.FieldType.int), Jvm.Cond.code ({ cls := "com/example/runs_to_scores/runstoscores/scoring/TopicDocnos", name := "slotOf", desc := "([BIII)I" } : Jvm.MethodName) prog_82_method_11_code (8 : Nat) (Option.some Jvm.ClassFile.FieldType.int), Jvm.Cond.code ({ cls := "com/example/runs_to_scores/runstoscores/scoring/TopicDocnos", name := "spread", desc := "(I)I" } : Jvm.MethodName) prog_82_method_14_code (1 : Nat) (Option.some Jvm.ClassFile.FieldType.int), Jvm.Cond.code ({ cls := "com/example/runs_to_scores/runstoscores/scoring/TopicJudgments", name := "gainAt", desc := "(I)I" } : Jvm.MethodName) prog_83_method_6_code (2 : Nat) (Option.some Jvm.ClassFile.FieldType.int), Jvm.Cond.code ({ cls := "com/example/runs_to_scores/runstoscores/scoring/TopicJudgmentsGainAtPinLaw", name := "gain", desc := "(I)I" } : Jvm.MethodName) method_2_code (1 : Nat) (Option.some Jvm.ClassFile.FieldType.int)]
set_option maxRecDepth 65536 in
theorem codes_eq : words1.filter isCode = codes1 := rfl
theorem w_codes : ∀ c ∈ words1.filter isCode, c.before args0 about1 = true := by
  rw [codes_eq]
  intro c hc
  simp only [codes1, List.mem_cons, List.not_mem_nil, or_false] at hc
  rcases hc with rfl | rfl | rfl | rfl | rfl | rfl | rfl | rfl | rfl | rfl | rfl | rfl | rfl | rfl | rfl | rfl | rfl | rfl | rfl | rfl | rfl | rfl | rfl | rfl
  · exact w_c0
  · exact w_c1
  · exact w_c2
  · exact w_c3
  · exact w_c4
  · exact w_c5
  · exact w_c6
  · exact w_c7
  · exact w_c8
  · exact w_c9
  · exact w_c10
  · exact w_c11
  · exact w_c12
  · exact w_c13
  · exact w_c14
  · exact w_c15
  · exact w_c16
  · exact w_c17
  · exact w_c18
  · exact w_c19
  · exact w_c20
  · exact w_c21
  · exact w_c22
  · exact w_c23
set_option maxRecDepth 65536 in
theorem w_t1 : (words1.take 24).all (fun c => isCode c || c.before args0 about1) = true := by decide +kernel
set_option maxRecDepth 65536 in
theorem w_t2 : ((words1.drop 24).take 24).all (fun c => isCode c || c.before args0 about1) = true := by decide +kernel
set_option maxRecDepth 65536 in
theorem w_t3 : (((words1.drop 24).drop 24).take 24).all (fun c => isCode c || c.before args0 about1) = true := by decide +kernel
set_option maxRecDepth 65536 in
theorem w_t4 : ((((words1.drop 24).drop 24).drop 24).take 24).all (fun c => isCode c || c.before args0 about1) = true := by decide +kernel
set_option maxRecDepth 65536 in
theorem w_t5 : (((((words1.drop 24).drop 24).drop 24).drop 24).take 24).all (fun c => isCode c || c.before args0 about1) = true := by decide +kernel
set_option maxRecDepth 65536 in
theorem w_t6 : (((((words1.drop 24).drop 24).drop 24).drop 24).drop 24).all (fun c => isCode c || c.before args0 about1) = true := by decide +kernel
theorem w_tables : (allAtoms (Jvm.Cond.code x code maxLocals ret :: tables_1)).before args0 about1 = true := by
  rw [allAtoms_all]
  show words1.all (fun c => c.before args0 about1) = true
  refine all_split ?_ w_codes
  rw [← List.take_append_drop 24 words1, List.all_append, w_t1, ← List.take_append_drop 24 (words1.drop 24), List.all_append, w_t2, ← List.take_append_drop 24 ((words1.drop 24).drop 24), List.all_append, w_t3, ← List.take_append_drop 24 (((words1.drop 24).drop 24).drop 24), List.all_append, w_t4, ← List.take_append_drop 24 ((((words1.drop 24).drop 24).drop 24).drop 24), List.all_append, w_t5, w_t6]
  rfl
set_option maxRecDepth 65536 in
theorem w_rest : rest_1_c.before args0 about1 = true := by decide +kernel
set_option maxRecDepth 65536 in
theorem w_case : (Jvm.Cond.and given_1 narrow_1).before args0 about1 = true := by decide +kernel
set_option maxRecDepth 65536 in
theorem w_consts : constsHeld consts_1 about1 := Jvm.Lit.constsHeldB_iff.mp (by decide +kernel)
theorem w_applies : (headSpec (Jvm.Cond.code x code maxLocals ret :: tables_1) room_1).applies x e0.platform about1 = true :=
  (Spec.applies_iff w_frames).mpr ⟨w_running, w_runnable, w_alone, w_named, w_hears, w_ripe, w_room, w_tables⟩
theorem atStart : AtStart classFile x code maxLocals ret World_1 tables_1 room_1 Calls_1 rest_1 Pre_1 launch0 p0 e0 about1 theMethod args0 below0 :=
  ⟨lists_1, trivial, launch0.admits_env _ _ _, launch0.least_env, fairChoices_fair.cas, fairChoices_fair.clock, w_frames, w_args, w_heap, w_applies, ⟨w_consts, trivial⟩, w_rest, w_case⟩
end start1
theorem witness_1 : WitnessClaimed_1 := ⟨start1.p0, start1.e0, start1.about1, start1.theMethod, start1.args0, start1.below0, start1.atStart⟩
end Jvm.Pilot.@@N@@
