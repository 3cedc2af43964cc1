import JvmDerived
import JvmDerived.Pilot.@@N@@Statement
import JvmDerived.Pilot.@@N@@Code
set_option linter.unusedVariables false
set_option linter.unusedSimpArgs false

namespace Jvm.RoadKit
open Sem ClassFile Op Lib Jvm.Stand Jvm.Free Jvm.LawKit
section New
variable {p : Program} {l : Launch} {e : Env} {R : Room} {s : State} {m : MethodId} {args : Array Value} {below : List Frame} {meth : Method} {c : Code} {T : State} {locs : List Loc} {cells slots : Nat}
theorem retI (X : Stand p l e R s m args below meth c T locs cells slots) (hx : p.tables.exec = Jvm.exec) {pc : Nat} {Ls : Array Slot} {z : Int32} {rest : List Value} (hret : meth.sig.returnType = some .int) (hd : decode c.code pc = .ok (.ireturn, 1)) {fs : List Frame}
    (hl : ∀ (f : JFrame) (acts : List Action), f.method = m → f.locked = none → f.entered = [] → (doReturn e (T.setTop f) acts (some (.int z))).1 = T.setFrames fs) : Steps p.tables e below (T.setTop (mkF m pc Ls (.int z :: rest))) (T.setFrames fs) := by
  have hm' : T.vm.method? m = some meth := X.method'
  have hn : narrow .int (.int z) = .int z := rfl
  show Steps p.tables e below (T.setTop { method := m, pc := pc, locals := Ls, stack := _ :: rest, locked := none }) _
  jvm_step X.here [X.here.top, hx, hd, hm', hret, hn]
  first | (intro acts; rw [hl _ acts rfl rfl rfl]) | rw [hl _ _ rfl rfl rfl]
  exact Steps.refl _
end New
end Jvm.RoadKit

namespace Jvm.Pilot.@@N@@
namespace StrChars
open Jvm Sem ClassFile Op Lib Jvm.Stand Jvm.Free.XT Jvm.Free.ALB Jvm.Free.JM Jvm.Free
open Jvm.Lib.Cold (StaticIs)
/-- a char array whose places are chars -/
def Ch (a : Addr) (A : Cell) (U : State) : Prop := Arr .char a A U ∧ Typed .char A
theorem Ch.mv {a : Addr} {A : Cell} {U U' : State} (h : Ch a A U) (hal : U.vm.Alike U'.vm) (hh : U'.heap = U.heap) : Ch a A U' := ⟨h.1.mv hal hh, h.2⟩
theorem Ch.keep {a : Addr} {A : Cell} {U U' : State} (h : Ch a A U) (hal : U.vm.Alike U'.vm) (hk : U'.heap[a]? = some A) : Ch a A U' := ⟨h.1.keep hal hk, h.2⟩
/-- what place i of a char[]'s cell holds -/
def cv (A : Cell) (i : Nat) : Int32 := match A.slots[i]? with | some (.int x) => x | _ => 0
theorem Ch.get {a : Addr} {A : Cell} {U : State} (h : Ch a A U) {i : Nat} (hi : i < A.slots.size) : A.slots[i]? = some (.int (cv A i)) := by
  have e := Array.getElem?_eq_getElem hi
  have f := h.2 i _ e
  unfold cv; rw [e]
  generalize A.slots[i] = v at f
  cases v <;> simp [fits] at f ⊢
/-- the byte that i2b leaves of a char -/
def lo8 (x : Int32) : Int32 := x.toInt8.toInt32
theorem fits_lo8 (y : Int32) : fits .byte (.int (lo8 y)) = true := by
  have h1 := y.toInt8.le_toInt
  have h2 := y.toInt8.toInt_lt
  simp only [lo8, fits, Bool.and_eq_true, decide_eq_true_eq, Int32.le_iff_toInt_le, Int8.toInt_toInt32, show (-128 : Int32).toInt = -128 from by decide, show (127 : Int32).toInt = 127 from by decide]
  omega
/-- A' is A but that each place j of lo .. hi - 1 holds f j -/
def Laid (A A' : Cell) (lo hi : Nat) (f : Nat → Value) : Prop := A'.cls = A.cls ∧ A'.vm = A.vm ∧ A'.slots.size = A.slots.size ∧ ∀ i, A'.slots[i]? = if lo ≤ i ∧ i < hi then some (f i) else A.slots[i]?
theorem Laid.zero (A : Cell) (lo : Nat) (f : Nat → Value) : Laid A A lo (lo + 0) f := ⟨rfl, rfl, rfl, fun i => by rw [if_neg (by omega)]⟩
theorem Laid.step {A Ak : Cell} {lo k : Nat} {f : Nat → Value} {v : Value} (h : Laid A Ak lo k f) (hlo : lo ≤ k) (hk : k < Ak.slots.size) (hv : v = f k) : Laid A (Ak.setSlot k v) lo (k + 1) f := by
  refine ⟨h.1, h.2.1, by simpa [Cell.setSlot] using h.2.2.1, fun i => ?_⟩
  by_cases e : k = i
  · subst e; rw [Cell.slots_setSlot_self v hk, if_pos (by omega), hv]
  · rw [Cell.slots_setSlot_ne v e, h.2.2.2 i]
    by_cases q : lo ≤ i ∧ i < k
    · rw [if_pos q, if_pos (by omega)]
    · rw [if_neg q, if_neg (by omega)]
def U16 : String := "java/lang/StringUTF16"
namespace Cmp5
def yN : MethodName := ⟨"java/lang/StringUTF16", "compress", "([CI[BII)I"⟩
abbrev yB : ByteArray := jdk_52_method_21_code
theorem d0 : decode yB 0 = .ok (.iconst 0, 1) := by decide +kernel
theorem d1 : decode yB 1 = .ok (.istore 5, 2) := by decide +kernel
theorem d3 : decode yB 3 = .ok (.iload 5, 2) := by decide +kernel
theorem d5 : decode yB 5 = .ok (.iload 4, 2) := by decide +kernel
theorem d7 : decode yB 7 = .ok (.if_icmp (.ge) 37, 3) := by decide +kernel
theorem d10 : decode yB 10 = .ok (.aload_n 0, 1) := by decide +kernel
theorem d11 : decode yB 11 = .ok (.iload_n 1, 1) := by decide +kernel
theorem d12 : decode yB 12 = .ok (.caload, 1) := by decide +kernel
theorem d13 : decode yB 13 = .ok (.istore 6, 2) := by decide +kernel
theorem d15 : decode yB 15 = .ok (.iload 6, 2) := by decide +kernel
theorem d17 : decode yB 17 = .ok (.sipush 255, 3) := by decide +kernel
theorem d20 : decode yB 20 = .ok (.if_icmp (.le) 6, 3) := by decide +kernel
theorem d26 : decode yB 26 = .ok (.aload_n 2, 1) := by decide +kernel
theorem d27 : decode yB 27 = .ok (.iload_n 3, 1) := by decide +kernel
theorem d28 : decode yB 28 = .ok (.iload 6, 2) := by decide +kernel
theorem d30 : decode yB 30 = .ok (.i2b, 1) := by decide +kernel
theorem d31 : decode yB 31 = .ok (.bastore, 1) := by decide +kernel
theorem d32 : decode yB 32 = .ok (.iinc 1 1, 3) := by decide +kernel
theorem d35 : decode yB 35 = .ok (.iinc 3 1, 3) := by decide +kernel
theorem d38 : decode yB 38 = .ok (.iinc 5 1, 3) := by decide +kernel
theorem d41 : decode yB 41 = .ok (.goto (-38), 3) := by decide +kernel
theorem d44 : decode yB 44 = .ok (.iload 4, 2) := by decide +kernel
theorem d46 : decode yB 46 = .ok (.ireturn, 1) := by decide +kernel
def site : List Cond := []
def tab : Cond := tabOf yN yB 7 (some .int) site
def P (b : Addr) (A : Cell) (d : Addr) (B : Cell) (o q len : Nat) (args : Array Value) (s : State) : Prop := args = #[.ref b, .int (Int32.ofNat o), .ref d, .int (Int32.ofNat q), .int (Int32.ofNat len)] ∧ Ch b A s ∧ Arr .byte d B s ∧ b ≠ d ∧ o + len ≤ A.slots.size ∧ q + len ≤ B.slots.size ∧ ∀ i, i < len → ¬ 255 < cv A (o + i)
def E (b : Addr) (A : Cell) (d : Addr) (B : Cell) (o q len : Nat) (r : Option Value) (s u : State) : Prop := r = some (.int (Int32.ofNat len)) ∧ ∃ B', Put d B' s u ∧ Laid B B' q (q + len) (fun j => Value.int (lo8 (cv A (o + (j - q)))))
/-- no char of the range above 255: len; the places written hold each char's low byte -/
theorem law (l : Launch) (b : Addr) (A : Cell) (d : Addr) (B : Cell) (o q len : Nat) : Law l yN 5 5 0 0 yB 7 (some .int) site (P b A d B o q len) (E b A d B o q len) (copyLocs d q len) 0 0 := by
  refine Law.of_walk (plainFor_of_name (by decide +kernel)) (by decide +kernel) (by decide +kernel) (by decide) (fun _ _ h => by rw [h.1]; rfl) (fun _ U U' hal hh h => ⟨h.1, h.2.1.mv hal hh, h.2.2.1.mv hal hh, h.2.2.2⟩) (fun r U U' V V' h1 hal h2 h => ⟨h.1, h.2.elim fun B' q => ⟨B', q.1.mv h1 h2, q.2⟩⟩) ?_
  intro p e s m args below meth c s₁ X0 hexec hbytes hml hret hlk hnm hown hh0 W hP
  obtain ⟨rfl, hA, hB, hne, l1, l2, hp⟩ := hP
  have c1 : Steps p.tables e below (s₁.setTop (entryFrame m #[.ref b, .int (Int32.ofNat o), .ref d, .int (Int32.ofNat q), .int (Int32.ofNat len)] 7)) (s₁.setTop (mkF m 0 #[.val (.ref b), .val (.int (Int32.ofNat o)), .val (.ref d), .val (.int (Int32.ofNat q)), .val (.int (Int32.ofNat len)), .unset, .unset] [])) := entry rfl
  have hA0 := hA.1.mv X0.warmed.alike hh0
  have hB0 := hB.mv X0.warmed.alike hh0
  have a31 := hA.1.2.2.2
  have c2 : Steps p.tables e below (s₁.setTop (entryFrame m #[.ref b, .int (Int32.ofNat o), .ref d, .int (Int32.ofNat q), .int (Int32.ofNat len)] 7)) (s₁.setTop (mkF m 3 #[.val (.ref b), .val (.int (Int32.ofNat o)), .val (.ref d), .val (.int (Int32.ofNat q)), .val (.int (Int32.ofNat len)), .val (.int 0), .unset] [])) := c1.trans (by
    refine iconstV X0.here hexec rfl 0 (hb hbytes d0) (by decide) ?_
    refine XS.istore X0.here hexec rfl (hb hbytes d1) rfl rfl ?_
    exact Steps.refl _)
  have loop : ∀ (r i : Nat), i + r = len → ∀ (z : Slot), (z = .unset ∨ ∃ w, z = .val w ∧ w.category = 1) → ∀ (Tl : State) (Bk : Cell), Stand p l e { frames := 0, locals := 0, cells := 0, slots := 0 } s m #[.ref b, .int (Int32.ofNat o), .ref d, .int (Int32.ofNat q), .int (Int32.ofNat len)] below meth c Tl ([] ++ copyLocs d q i) 0 0 → Put d Bk s₁ Tl → Laid B Bk q (q + i) (fun j => Value.int (lo8 (cv A (o + (j - q))))) →
      Steps p.tables e below (s₁.setTop (entryFrame m #[.ref b, .int (Int32.ofNat o), .ref d, .int (Int32.ofNat q), .int (Int32.ofNat len)] 7)) (Tl.setTop (mkF m 3 #[.val (.ref b), .val (.int (Int32.ofNat (o + i))), .val (.ref d), .val (.int (Int32.ofNat (q + i))), .val (.int (Int32.ofNat len)), .val (.int (Int32.ofNat i)), z] [])) → ∃ (T' : State) (B' : Cell) (z' : Slot), Stand p l e { frames := 0, locals := 0, cells := 0, slots := 0 } s m #[.ref b, .int (Int32.ofNat o), .ref d, .int (Int32.ofNat q), .int (Int32.ofNat len)] below meth c T' ([] ++ copyLocs d q len) 0 0 ∧ Put d B' s₁ T' ∧ Laid B B' q (q + len) (fun j => Value.int (lo8 (cv A (o + (j - q))))) ∧
      Steps p.tables e below (s₁.setTop (entryFrame m #[.ref b, .int (Int32.ofNat o), .ref d, .int (Int32.ofNat q), .int (Int32.ofNat len)] 7)) (T'.setTop (mkF m 3 #[.val (.ref b), .val (.int (Int32.ofNat (o + len))), .val (.ref d), .val (.int (Int32.ofNat (q + len))), .val (.int (Int32.ofNat len)), .val (.int (Int32.ofNat len)), z'] [])) := by
    intro r
    induction r with
    | zero =>
      intro i hi z hz Tl Bk Xl pl fl cl
      have hil : i = len := by omega
      rw [hil] at Xl fl cl
      exact ⟨Tl, Bk, z, Xl, pl, fl, cl⟩
    | succ r ih =>
      intro i hi z hz Tl Bk Xl pl fl cl
      have all := X0.warmed.alike.symm.trans Xl.warmed.alike
      have hAl := hA0.keep all (pl.other hne hA0.1)
      have hBk := hB0.like all pl.1 fl.1 fl.2.1 fl.2.2.1
      have hlt : q + i < Bk.slots.size := by rw [fl.2.2.1]; omega
      have c3 : Steps p.tables e below (s₁.setTop (entryFrame m #[.ref b, .int (Int32.ofNat o), .ref d, .int (Int32.ofNat q), .int (Int32.ofNat len)] 7)) (Tl.setTop (mkF m 12 #[.val (.ref b), .val (.int (Int32.ofNat (o + i))), .val (.ref d), .val (.int (Int32.ofNat (q + i))), .val (.int (Int32.ofNat len)), .val (.int (Int32.ofNat i)), z] [.int (Int32.ofNat (o + i)), .ref b])) := cl.trans (by
        refine XS.iload Xl.here hexec rfl (hb hbytes d3) rfl ?_
        refine XS.iload Xl.here hexec rfl (hb hbytes d5) rfl ?_
        refine XS.icmpNo Xl.here hexec rfl (hb hbytes d7) rfl (ii_ge_f (lt32 (by omega) (by omega))) ?_
        refine XS.aloadN Xl.here hexec rfl (hb hbytes d10) rfl rfl ?_
        refine XS.iloadN Xl.here hexec rfl (hb hbytes d11) rfl ?_
        exact Steps.refl _)
      have c4 : Steps p.tables e below (s₁.setTop (entryFrame m #[.ref b, .int (Int32.ofNat o), .ref d, .int (Int32.ofNat q), .int (Int32.ofNat len)] 7)) (Tl.setTop (mkF m 13 #[.val (.ref b), .val (.int (Int32.ofNat (o + i))), .val (.ref d), .val (.int (Int32.ofNat (q + i))), .val (.int (Int32.ofNat len)), .val (.int (Int32.ofNat i)), z] [.int (cv A (o + i))])) := c3.trans (by
        refine Xl.aget hexec hAl rfl (hA.get (i := o + i) (by omega)) rfl rfl (hb hbytes d12) ?_
        exact Steps.refl _)
      have c5 : Steps p.tables e below (s₁.setTop (entryFrame m #[.ref b, .int (Int32.ofNat o), .ref d, .int (Int32.ofNat q), .int (Int32.ofNat len)] 7)) (Tl.setTop (mkF m 15 #[.val (.ref b), .val (.int (Int32.ofNat (o + i))), .val (.ref d), .val (.int (Int32.ofNat (q + i))), .val (.int (Int32.ofNat len)), .val (.int (Int32.ofNat i)), .val (.int (cv A (o + i)))] [])) := c4.trans (by
        refine XS.istoreS Xl.here hexec rfl (hb hbytes d13) rfl rfl hz ?_
        exact Steps.refl _)
      have c6 : Steps p.tables e below (s₁.setTop (entryFrame m #[.ref b, .int (Int32.ofNat o), .ref d, .int (Int32.ofNat q), .int (Int32.ofNat len)] 7)) (Tl.setTop (mkF m 31 #[.val (.ref b), .val (.int (Int32.ofNat (o + i))), .val (.ref d), .val (.int (Int32.ofNat (q + i))), .val (.int (Int32.ofNat len)), .val (.int (Int32.ofNat i)), .val (.int (cv A (o + i)))] [.int (lo8 (cv A (o + i))), .int (Int32.ofNat (q + i)), .ref d])) := c5.trans (by
        refine XS.iload Xl.here hexec rfl (hb hbytes d15) rfl ?_
        refine sipushV Xl.here hexec rfl 255 (hb hbytes d17) (by decide) ?_
        refine XS.icmpYes Xl.here hexec rfl (pc0 := 20) rfl (hb hbytes d20) rfl (ii_le_t (hp i (by omega))) (by decide) rfl ?_
        refine XS.aloadN Xl.here hexec rfl (hb hbytes d26) rfl rfl ?_
        refine XS.iloadN Xl.here hexec rfl (hb hbytes d27) rfl ?_
        refine XS.iload Xl.here hexec rfl (hb hbytes d28) rfl ?_
        refine i2b Xl.here hexec rfl (hb hbytes d30) rfl ?_
        exact Steps.refl _)
      obtain ⟨T7, X7, p7, st7⟩ := Xl.aput hexec hBk rfl hlt rfl (fits_lo8 (cv A (o + i))) (g := (mkF m 31 #[.val (.ref b), .val (.int (Int32.ofNat (o + i))), .val (.ref d), .val (.int (Int32.ofNat (q + i))), .val (.int (Int32.ofNat len)), .val (.int (Int32.ofNat i)), .val (.int (cv A (o + i)))] [.int (lo8 (cv A (o + i))), .int (Int32.ofNat (q + i)), .ref d])) rfl (rest := []) rfl (hb hbytes d31)
      have c8 : Steps p.tables e below (s₁.setTop (entryFrame m #[.ref b, .int (Int32.ofNat o), .ref d, .int (Int32.ofNat q), .int (Int32.ofNat len)] 7)) (T7.setTop (mkF m 32 #[.val (.ref b), .val (.int (Int32.ofNat (o + i))), .val (.ref d), .val (.int (Int32.ofNat (q + i))), .val (.int (Int32.ofNat len)), .val (.int (Int32.ofNat i)), .val (.int (cv A (o + i)))] [])) := c6.trans (st7 _ (Steps.refl _))
      have c9 : Steps p.tables e below (s₁.setTop (entryFrame m #[.ref b, .int (Int32.ofNat o), .ref d, .int (Int32.ofNat q), .int (Int32.ofNat len)] 7)) (T7.setTop (mkF m 3 #[.val (.ref b), .val (.int (Int32.ofNat (o + i) + 1)), .val (.ref d), .val (.int (Int32.ofNat (q + i) + 1)), .val (.int (Int32.ofNat len)), .val (.int (Int32.ofNat i + 1)), .val (.int (cv A (o + i)))] [])) := c8.trans (by
        refine iincV X7.here hexec rfl 1 (hb hbytes d32) (by decide) rfl rfl ?_
        refine iincV X7.here hexec rfl 1 (hb hbytes d35) (by decide) rfl rfl ?_
        refine iincV X7.here hexec rfl 1 (hb hbytes d38) (by decide) rfl rfl ?_
        refine XS.goto X7.here hexec rfl (pc0 := 41) rfl (hb hbytes d41) (by decide) rfl ?_
        exact Steps.refl _)
      have c10 : Steps p.tables e below (s₁.setTop (entryFrame m #[.ref b, .int (Int32.ofNat o), .ref d, .int (Int32.ofNat q), .int (Int32.ofNat len)] 7)) (T7.setTop (mkF m 3 #[.val (.ref b), .val (.int (Int32.ofNat (o + (i + 1)))), .val (.ref d), .val (.int (Int32.ofNat (q + (i + 1)))), .val (.int (Int32.ofNat len)), .val (.int (Int32.ofNat (i + 1))), .val (.int (cv A (o + i)))] [])) := by
        have := c9
        rw [succ32, succ32, succ32] at this
        exact this
      exact ih (i + 1) (by omega) _ (Or.inr ⟨_, rfl, rfl⟩) T7 _ (by rw [copyLocs_step, ← List.append_assoc]; exact X7) (pl.trans p7) (fl.step (by omega) hlt (by simp)) c10
  obtain ⟨T9, B9, z9, X9, p9, f9, g9⟩ := loop len 0 (by omega) .unset (Or.inl rfl) s₁ B (by simpa [copyLocs] using X0) ⟨hB0.1, fun _ _ => rfl, rfl⟩ (Laid.zero _ _ _) c2
  have c11 : Steps p.tables e below (s₁.setTop (entryFrame m #[.ref b, .int (Int32.ofNat o), .ref d, .int (Int32.ofNat q), .int (Int32.ofNat len)] 7)) (T9.setTop (mkF m 46 #[.val (.ref b), .val (.int (Int32.ofNat (o + len))), .val (.ref d), .val (.int (Int32.ofNat (q + len))), .val (.int (Int32.ofNat len)), .val (.int (Int32.ofNat len)), z9] [.int (Int32.ofNat len)])) := g9.trans (by
    refine XS.iload X9.here hexec rfl (hb hbytes d3) rfl ?_
    refine XS.iload X9.here hexec rfl (hb hbytes d5) rfl ?_
    refine XS.icmpYes X9.here hexec rfl (pc0 := 7) rfl (hb hbytes d7) rfl (ii_ge_t (nlt32 (by omega) (Nat.le_refl _))) (by decide) rfl ?_
    refine XS.iload X9.here hexec rfl (hb hbytes d44) rfl ?_
    exact Steps.refl _)
  exact ⟨T9, some (.int (Int32.ofNat len)), _, _, _, X9, by simp, rfl, rfl, (fun h => by cases h), ⟨rfl, B9, p9.from hh0, f9⟩, fun fs hl => c11.trans (X9.ireturnOut hexec hret rfl (Or.inl rfl) (hb hbytes d46) hl)⟩
end Cmp5
namespace Cmp3
def yN : MethodName := ⟨"java/lang/StringUTF16", "compress", "([CII)[B"⟩
abbrev yB : ByteArray := jdk_52_method_16_code
theorem d0 : decode yB 0 = .ok (.iload_n 2, 1) := by decide +kernel
theorem d1 : decode yB 1 = .ok (.newarray .byte, 2) := by decide +kernel
theorem d3 : decode yB 3 = .ok (.astore_n 3, 1) := by decide +kernel
theorem d4 : decode yB 4 = .ok (.aload_n 0, 1) := by decide +kernel
theorem d5 : decode yB 5 = .ok (.iload_n 1, 1) := by decide +kernel
theorem d6 : decode yB 6 = .ok (.aload_n 3, 1) := by decide +kernel
theorem d7 : decode yB 7 = .ok (.iconst 0, 1) := by decide +kernel
theorem d8 : decode yB 8 = .ok (.iload_n 2, 1) := by decide +kernel
theorem d9 : decode yB 9 = .ok (.invokestatic 115, 3) := by decide +kernel
theorem d12 : decode yB 12 = .ok (.istore 4, 2) := by decide +kernel
theorem d14 : decode yB 14 = .ok (.iload 4, 2) := by decide +kernel
theorem d16 : decode yB 16 = .ok (.iload_n 2, 1) := by decide +kernel
theorem d17 : decode yB 17 = .ok (.if_icmp (.eq) 40, 3) := by decide +kernel
theorem d57 : decode yB 57 = .ok (.aload_n 3, 1) := by decide +kernel
theorem d58 : decode yB 58 = .ok (.areturn, 1) := by decide +kernel
def site : List Cond := [.arrayClass .byte, Cmp5.tab] ++ staticW U16 115 Cmp5.yN
def tab : Cond := tabOf yN yB 6 (some (.array .byte)) site
def P (b : Addr) (A : Cell) (o len : Nat) (args : Array Value) (s : State) : Prop := args = #[.ref b, .int (Int32.ofNat o), .int (Int32.ofNat len)] ∧ Ch b A s ∧ o + len ≤ A.slots.size ∧ len ≤ 536870912 ∧ ∀ i, i < len → ¬ 255 < cv A (o + i)
def E (b : Addr) (A : Cell) (o len : Nat) (r : Option Value) (s u : State) : Prop := NewArr .byte "[B" len (fun j => .int (lo8 (cv A (o + j)))) r s u ∧ u.heap.size = s.heap.size + 1
/-- no char of the range above 255: a new byte[] of their low bytes -/
theorem law (l : Launch) (b : Addr) (A : Cell) (o len : Nat) : Law l yN 3 3 1 18 yB 6 (some (.array .byte)) site (P b A o len) (E b A o len) [] 1 len := by
  refine Law.of_walk (plainFor_of_name (by decide +kernel)) (by decide +kernel) (by decide +kernel) (by decide) (fun _ _ h => by rw [h.1]; rfl) (fun _ U U' hal hh h => ⟨h.1, h.2.1.mv hal hh, h.2.2⟩) (fun r U U' V V' h1 hal h2 h => ⟨NewArr.mv r U U' V V' h1 hal h2 h.1, by rw [h1, h2]; exact h.2⟩) ?_
  intro p e s m args below meth c s₁ X0 hexec hbytes hml hret hlk hnm hown hh0 W hP
  obtain ⟨rfl, hA, l1, l2, hp⟩ := hP
  have a31 := hA.1.2.2.2
  have c1 : Steps p.tables e below (s₁.setTop (entryFrame m #[.ref b, .int (Int32.ofNat o), .int (Int32.ofNat len)] 6)) (s₁.setTop (mkF m 0 #[.val (.ref b), .val (.int (Int32.ofNat o)), .val (.int (Int32.ofNat len)), .unset, .unset, .unset] [])) := entry rfl
  have c2 : Steps p.tables e below (s₁.setTop (entryFrame m #[.ref b, .int (Int32.ofNat o), .int (Int32.ofNat len)] 6)) (s₁.setTop (mkF m 1 #[.val (.ref b), .val (.int (Int32.ofNat o)), .val (.int (Int32.ofNat len)), .unset, .unset, .unset] [.int (Int32.ofNat len)])) := c1.trans (by
    refine XS.iloadN X0.here hexec rfl (hb hbytes d0) rfl ?_
    exact Steps.refl _)
  obtain ⟨T3, B3, X3, ba3, bs3, bv3, bh3, bf3, st3⟩ := X0.anew hexec (atype := .byte) (wk W (.arrayClass .byte)) rfl (by show len * 1 ≤ _; omega) (by omega) (g := (mkF m 1 #[.val (.ref b), .val (.int (Int32.ofNat o)), .val (.int (Int32.ofNat len)), .unset, .unset, .unset] [.int (Int32.ofNat len)])) rfl (hb hbytes d1) (rest := []) rfl (Nat.le_refl _) (by show 0 + len ≤ len; omega)
  rw [hh0] at ba3 st3
  have kp3 : XT.Kept s T3 := (XT.Kept.of_eq hh0).push bh3
  have hA3 := hA.keep X3.warmed.alike (kp3 _ _ hA.1.1)
  have hne : b ≠ s.heap.size := hA.1.ne
  have c4 : Steps p.tables e below (s₁.setTop (entryFrame m #[.ref b, .int (Int32.ofNat o), .int (Int32.ofNat len)] 6)) (T3.setTop (mkF m 3 #[.val (.ref b), .val (.int (Int32.ofNat o)), .val (.int (Int32.ofNat len)), .unset, .unset, .unset] [.ref s.heap.size])) := c2.trans (st3 _ (Steps.refl _))
  have c5 : Steps p.tables e below (s₁.setTop (entryFrame m #[.ref b, .int (Int32.ofNat o), .int (Int32.ofNat len)] 6)) (T3.setTop (mkF m 9 #[.val (.ref b), .val (.int (Int32.ofNat o)), .val (.int (Int32.ofNat len)), .val (.ref s.heap.size), .unset, .unset] [.int (Int32.ofNat len), .int 0, .ref s.heap.size, .int (Int32.ofNat o), .ref b])) := c4.trans (by
    refine XS.astoreN X3.here hexec rfl (hb hbytes d3) rfl rfl rfl ?_
    refine XS.aloadN X3.here hexec rfl (hb hbytes d4) rfl rfl ?_
    refine XS.iloadN X3.here hexec rfl (hb hbytes d5) rfl ?_
    refine XS.aloadN X3.here hexec rfl (hb hbytes d6) rfl rfl ?_
    refine iconstV X3.here hexec rfl 0 (hb hbytes d7) (by decide) ?_
    refine XS.iloadN X3.here hexec rfl (hb hbytes d8) rfl ?_
    exact Steps.refl _)
  obtain ⟨v6, T6, X6, E6, g6⟩ := X3.callS hexec (Cmp5.law l b A s.heap.size B3 o 0 len) hown (wks W (staticW U16 115 Cmp5.yN)) (wk W Cmp5.tab) (W := 0) (Nat.le_of_ble_eq_true rfl) (Nat.le_of_ble_eq_true rfl) (Nat.le_refl _) (by show 0 + len + 0 ≤ len; omega) (g := (mkF m 9 #[.val (.ref b), .val (.int (Int32.ofNat o)), .val (.int (Int32.ofNat len)), .val (.ref s.heap.size), .unset, .unset] [.int (Int32.ofNat len), .int (Int32.ofNat 0), .ref s.heap.size, .int (Int32.ofNat o), .ref b])) rfl (by rw [hml]; rfl) c5 (argsL := [.ref b, .int (Int32.ofNat o), .ref s.heap.size, .int (Int32.ofNat 0), .int (Int32.ofNat len)]) (rest := []) rfl rfl (by show 2 * 0 + 0 ≤ _; decide) (hb hbytes d9) (⟨rfl, hA3, ba3, hne, l1, by rw [bs3]; simp, hp⟩)
  obtain ⟨rfl, B6, p6, f6⟩ := E6
  have c7 : Steps p.tables e below (s₁.setTop (entryFrame m #[.ref b, .int (Int32.ofNat o), .int (Int32.ofNat len)] 6)) (T6.setTop (mkF m 12 #[.val (.ref b), .val (.int (Int32.ofNat o)), .val (.int (Int32.ofNat len)), .val (.ref s.heap.size), .unset, .unset] [.int (Int32.ofNat len)])) := g6
  have c8 : Steps p.tables e below (s₁.setTop (entryFrame m #[.ref b, .int (Int32.ofNat o), .int (Int32.ofNat len)] 6)) (T6.setTop (mkF m 58 #[.val (.ref b), .val (.int (Int32.ofNat o)), .val (.int (Int32.ofNat len)), .val (.ref s.heap.size), .val (.int (Int32.ofNat len)), .unset] [.ref s.heap.size])) := c7.trans (by
    refine XS.istore X6.here hexec rfl (hb hbytes d12) rfl rfl ?_
    refine XS.iload X6.here hexec rfl (hb hbytes d14) rfl ?_
    refine XS.iloadN X6.here hexec rfl (hb hbytes d16) rfl ?_
    refine XS.icmpYes X6.here hexec rfl (pc0 := 17) rfl (hb hbytes d17) rfl (ii_eq_t rfl) (by decide) rfl ?_
    refine XS.aloadN X6.here hexec rfl (hb hbytes d57) rfl rfl ?_
    exact Steps.refl _)
  have X8 := X6.wide (L' := []) (cells' := 1) (slots' := len) (fun x hx hlt => by
    simp only [List.nil_append, copyLocs, List.mem_map, List.mem_range] at hx
    obtain ⟨i, -, rfl⟩ := hx
    exact absurd hlt (Nat.lt_irrefl _)) (Nat.le_refl _) (by omega)
  exact ⟨T6, some (.ref s.heap.size), _, _, _, X8, rfl, rfl, rfl, (fun h => by cases h), ⟨⟨rfl, B6, ba3.like (X3.warmed.alike.symm.trans X6.warmed.alike) p6.1 f6.1 f6.2.1 f6.2.2.1, f6.2.1.trans bv3, by rw [X6.warmed.alike.findClass, f6.1]; exact bf3, by rw [f6.2.2.1, bs3]; simp, fun j hj => by rw [f6.2.2.2 j, if_pos (by omega)]; rfl, kp3.put p6 (Nat.le_refl _)⟩, by rw [p6.2.2, bh3, hh0]; simp⟩, fun fs hl => c8.trans (X8.areturnOut hexec rfl hret rfl (hb hbytes d58) hl)⟩
end Cmp3
namespace CodL
def yN : MethodName := ⟨"java/lang/StringUTF16", "coderFromArrayLen", "([BI)B"⟩
abbrev yB : ByteArray := jdk_52_method_15_code
theorem d0 : decode yB 0 = .ok (.iload_n 1, 1) := by decide +kernel
theorem d1 : decode yB 1 = .ok (.aload_n 0, 1) := by decide +kernel
theorem d2 : decode yB 2 = .ok (.arraylength, 1) := by decide +kernel
theorem d3 : decode yB 3 = .ok (.isub, 1) := by decide +kernel
theorem d4 : decode yB 4 = .ok (.bipush 31, 2) := by decide +kernel
theorem d6 : decode yB 6 = .ok (.iushr, 1) := by decide +kernel
theorem d7 : decode yB 7 = .ok (.i2b, 1) := by decide +kernel
theorem d8 : decode yB 8 = .ok (.ireturn, 1) := by decide +kernel
def site : List Cond := []
def tab : Cond := tabOf yN yB 2 (some .byte) site
def P (d : Addr) (B : Cell) (args : Array Value) (s : State) : Prop := args = #[.ref d, .int (Int32.ofNat B.slots.size)] ∧ Arr .byte d B s
def E (r : Option Value) (s u : State) : Prop := XT.PureE (some (.int 0)) r s u
/-- an array as long as the number of chars: LATIN1 -/
theorem law (l : Launch) (d : Addr) (B : Cell) : Law l yN 2 2 0 0 yB 2 (some .byte) site (P d B) E [] 0 0 := by
  refine Law.of_walk (plainFor_of_name (by decide +kernel)) (by decide +kernel) (by decide +kernel) (by decide) (fun _ _ h => by rw [h.1]; rfl) (fun _ U U' hal hh h => ⟨h.1, h.2.mv hal hh⟩) (fun r U U' V V' h1 hal h2 h => XT.PureE.mv r U U' V V' h1 hal h2 h) ?_
  intro p e s m args below meth c s₁ X0 hexec hbytes hml hret hlk hnm hown hh0 W hP
  obtain ⟨rfl, hB⟩ := hP
  have hB0 := hB.mv X0.warmed.alike hh0
  have c1 : Steps p.tables e below (s₁.setTop (entryFrame m #[.ref d, .int (Int32.ofNat B.slots.size)] 2)) (s₁.setTop (mkF m 0 #[.val (.ref d), .val (.int (Int32.ofNat B.slots.size))] [])) := entry rfl
  have c2 : Steps p.tables e below (s₁.setTop (entryFrame m #[.ref d, .int (Int32.ofNat B.slots.size)] 2)) (s₁.setTop (mkF m 2 #[.val (.ref d), .val (.int (Int32.ofNat B.slots.size))] [.ref d, .int (Int32.ofNat B.slots.size)])) := c1.trans (by
    refine XS.iloadN X0.here hexec rfl (hb hbytes d0) rfl ?_
    refine XS.aloadN X0.here hexec rfl (hb hbytes d1) rfl rfl ?_
    exact Steps.refl _)
  have c3 : Steps p.tables e below (s₁.setTop (entryFrame m #[.ref d, .int (Int32.ofNat B.slots.size)] 2)) (s₁.setTop (mkF m 8 #[.val (.ref d), .val (.int (Int32.ofNat B.slots.size))] [.int (lo8 (ushr (Int32.ofNat B.slots.size - Int32.ofNat B.slots.size) 31))])) := c2.trans (by
    refine X0.alen hexec hB0 rfl rfl (hb hbytes d2) ?_
    refine XS.isub X0.here hexec rfl (hb hbytes d3) rfl ?_
    refine bipushV X0.here hexec rfl 31 (hb hbytes d4) (by decide) ?_
    refine iushr X0.here hexec rfl (hb hbytes d6) rfl ?_
    refine i2b X0.here hexec rfl (hb hbytes d7) rfl ?_
    exact Steps.refl _)
  have e0 : lo8 (ushr (Int32.ofNat B.slots.size - Int32.ofNat B.slots.size) 31) = 0 := by rw [Int32.sub_self]; decide
  rw [e0] at c3
  exact ⟨s₁, some (.int 0), _, _, _, X0, rfl, rfl, rfl, (fun h => by cases h), ⟨rfl, hh0⟩, fun fs hl => c3.trans (X0.ireturnOut hexec hret rfl (Or.inr (Or.inr (Or.inl rfl))) (hb hbytes d8) hl)⟩
end CodL
/-- the String at a is Latin-1 over a new byte[] (the heap's one new cell): the low bytes of the len chars of A from o on; every cell but a is kept -/
def Got (a : Addr) (D : Cell) (fV fC : Field) (A : Cell) (o len : Nat) (r : Option Value) (s u : State) : Prop := r = none ∧ ∃ D' V : Cell, Blank "java/lang/String" a D' u ∧ Same D D' [fV.slot, fC.slot] ∧ D'.slots[fV.slot]? = some (.ref s.heap.size) ∧ D'.slots[fC.slot]? = some (.int 0) ∧ Arr .byte s.heap.size V u ∧ V.vm = .none ∧ u.vm.findClass "[B" = some V.cls ∧ V.slots.size = len ∧ (∀ j, j < len → V.slots[j]? = some (.int (lo8 (cv A (o + j))))) ∧ (∀ (y : Addr) (c : Cell), y ≠ a → s.heap[y]? = some c → u.heap[y]? = some c) ∧ u.heap.size = s.heap.size + 1
theorem Got.mv {a : Addr} {D A : Cell} {fV fC : Field} {o len : Nat} : ∀ r (U U' V V' : State), U'.heap = U.heap → V.vm.Alike V'.vm → V'.heap = V.heap → Got a D fV fC A o len r U V → Got a D fV fC A o len r U' V' :=
  fun r U U' V V' h1 hal h2 ⟨e0, D', X, a1, a2, a3, a4, a5, a6, a7, a8, a9, a10, a11⟩ => ⟨e0, D', X, a1.mv hal h2, a2, by rw [h1]; exact a3, a4, by rw [h1]; exact a5.mv hal h2, a6, by rw [hal.findClass]; exact a7, a8, a9, by rw [h1, h2]; exact a10, by rw [h1, h2]; exact a11⟩
namespace New4
def yN : MethodName := ⟨"java/lang/String", "<init>", "([CIILjava/lang/Void;)V"⟩
abbrev yB : ByteArray := jdk_42_method_149_code
theorem d0 : decode yB 0 = .ok (.aload_n 0, 1) := by decide +kernel
theorem d1 : decode yB 1 = .ok (.invokespecial 1, 3) := by decide +kernel
theorem d4 : decode yB 4 = .ok (.iload_n 3, 1) := by decide +kernel
theorem d5 : decode yB 5 = .ok (.ifCond (.ne) 22, 3) := by decide +kernel
theorem d27 : decode yB 27 = .ok (.getstatic 38, 3) := by decide +kernel
theorem d30 : decode yB 30 = .ok (.ifCond (.eq) 28, 3) := by decide +kernel
theorem d33 : decode yB 33 = .ok (.aload_n 1, 1) := by decide +kernel
theorem d34 : decode yB 34 = .ok (.iload_n 2, 1) := by decide +kernel
theorem d35 : decode yB 35 = .ok (.iload_n 3, 1) := by decide +kernel
theorem d36 : decode yB 36 = .ok (.invokestatic 177, 3) := by decide +kernel
theorem d39 : decode yB 39 = .ok (.astore 5, 2) := by decide +kernel
theorem d41 : decode yB 41 = .ok (.aload_n 0, 1) := by decide +kernel
theorem d42 : decode yB 42 = .ok (.aload 5, 2) := by decide +kernel
theorem d44 : decode yB 44 = .ok (.iload_n 3, 1) := by decide +kernel
theorem d45 : decode yB 45 = .ok (.invokestatic 47, 3) := by decide +kernel
theorem d48 : decode yB 48 = .ok (.putfield 15, 3) := by decide +kernel
theorem d51 : decode yB 51 = .ok (.aload_n 0, 1) := by decide +kernel
theorem d52 : decode yB 52 = .ok (.aload 5, 2) := by decide +kernel
theorem d54 : decode yB 54 = .ok (.putfield 9, 3) := by decide +kernel
theorem d57 : decode yB 57 = .ok (.return_, 1) := by decide +kernel
def site : List Cond := [.fieldLink "java/lang/String" 38 "java/lang/String" "COMPACT_STRINGS" "Z", Cmp3.tab, CodL.tab, .laysFinal "java/lang/String" "java/lang/String" "value" "[B", .fieldLink "java/lang/String" 9 "java/lang/String" "value" "[B", .laysFinal "java/lang/String" "java/lang/String" "coder" "B", .fieldLink "java/lang/String" 15 "java/lang/String" "coder" "B"] ++ objW "java/lang/String" 1 ++ staticW "java/lang/String" 177 Cmp3.yN ++ staticW "java/lang/String" 47 CodL.yN
def tab : Cond := tabOf yN yB 6 none site
def P (a : Addr) (D : Cell) (fV fC : Field) (b : Addr) (A : Cell) (z : Int32) (o len : Nat) (args : Array Value) (s : State) : Prop := args = #[.ref a, .ref b, .int (Int32.ofNat o), .int (Int32.ofNat len), .null] ∧ Blank "java/lang/String" a D s ∧ Found "java/lang/String" "value" "[B" fV s ∧ Found "java/lang/String" "coder" "B" fC s ∧ Ch b A s ∧ StaticIs s "java/lang/String" "COMPACT_STRINGS" "Z" (.int z) ∧ ¬ z = 0 ∧ 0 < len ∧ o + len ≤ A.slots.size ∧ len ≤ 536870912 ∧ ∀ i, i < len → ¬ 255 < cv A (o + i)
def E (a : Addr) (D : Cell) (fV fC : Field) (A : Cell) (o len : Nat) (r : Option Value) (s u : State) : Prop := Got a D fV fC A o len r s u
/-- len > 0, no char of the range above 255: a Latin-1 String of their low bytes -/
theorem law (l : Launch) (a : Addr) (D : Cell) (fV fC : Field) (b : Addr) (A : Cell) (z : Int32) (o len : Nat) : Law l yN 5 4 2 35 yB 6 none site (P a D fV fC b A z o len) (E a D fV fC A o len) [⟨a, fC.slot⟩, ⟨a, fV.slot⟩] 1 len := by
  refine Law.of_walk (plainFor_of_name (by decide +kernel)) (by decide +kernel) (by decide +kernel) (by decide) (fun _ _ h => by rw [h.1]; rfl) (fun _ U U' hal hh h => ⟨h.1, h.2.1.mv hal hh, h.2.2.1.al hal, h.2.2.2.1.al hal, h.2.2.2.2.1.mv hal hh, h.2.2.2.2.2.1.there hal hh, h.2.2.2.2.2.2⟩) (fun r U U' V V' h1 hal h2 h => Got.mv r U U' V V' h1 hal h2 h) ?_
  intro p e s m args below meth c s₁ X0 hexec hbytes hml hret hlk hnm hown hh0 W hP
  obtain ⟨rfl, hB, f1, f2, hA, s1, hz, l0, l1, l2, hp⟩ := hP
  have a31 := hA.1.2.2.2
  have c1 : Steps p.tables e below (s₁.setTop (entryFrame m #[.ref a, .ref b, .int (Int32.ofNat o), .int (Int32.ofNat len), .null] 6)) (s₁.setTop (mkF m 0 #[.val (.ref a), .val (.ref b), .val (.int (Int32.ofNat o)), .val (.int (Int32.ofNat len)), .val .null, .unset] [])) := entry rfl
  have c2 : Steps p.tables e below (s₁.setTop (entryFrame m #[.ref a, .ref b, .int (Int32.ofNat o), .int (Int32.ofNat len), .null] 6)) (s₁.setTop (mkF m 1 #[.val (.ref a), .val (.ref b), .val (.int (Int32.ofNat o)), .val (.int (Int32.ofNat len)), .val .null, .unset] [.ref a])) := c1.trans (by
    refine XS.aloadN X0.here hexec rfl (hb hbytes d0) rfl rfl ?_
    exact Steps.refl _)
  obtain ⟨T3, X3, q3, st3⟩ := X0.oinit hexec hown (wks W (objW "java/lang/String" 1)) (g := (mkF m 1 #[.val (.ref a), .val (.ref b), .val (.int (Int32.ofNat o)), .val (.int (Int32.ofNat len)), .val .null, .unset] [.ref a])) rfl (by rw [hml]; rfl) (rest := []) rfl (hb hbytes d1) (W := 0) (by show 2 * 0 + 0 ≤ _; decide) (Nat.le_of_ble_eq_true rfl) (Nat.le_of_ble_eq_true rfl)
  have hh3 := q3.trans hh0
  have c4 : Steps p.tables e below (s₁.setTop (entryFrame m #[.ref a, .ref b, .int (Int32.ofNat o), .int (Int32.ofNat len), .null] 6)) (T3.setTop (mkF m 27 #[.val (.ref a), .val (.ref b), .val (.int (Int32.ofNat o)), .val (.int (Int32.ofNat len)), .val .null, .unset] [])) := (c2.trans (st3 _ (Steps.refl _))).trans (by
    refine XS.iloadN X3.here hexec rfl (hb hbytes d4) rfl ?_
    refine XS.ifYes X3.here hexec rfl (pc0 := 5) rfl (hb hbytes d5) rfl (i0_ne_t (nz32 (by omega) l0)) (by decide) rfl ?_
    exact Steps.refl _)
  obtain ⟨T5, X5, q5, st5⟩ := X3.sget hexec hown (wk W (.fieldLink "java/lang/String" 38 "java/lang/String" "COMPACT_STRINGS" "Z")) s1 (fun _ _ h => by rw [hh3]; exact h) (g := (mkF m 27 #[.val (.ref a), .val (.ref b), .val (.int (Int32.ofNat o)), .val (.int (Int32.ofNat len)), .val .null, .unset] [])) rfl (hb hbytes d27)
  have hh5 := q5.trans hh3
  have c6 : Steps p.tables e below (s₁.setTop (entryFrame m #[.ref a, .ref b, .int (Int32.ofNat o), .int (Int32.ofNat len), .null] 6)) (T5.setTop (mkF m 30 #[.val (.ref a), .val (.ref b), .val (.int (Int32.ofNat o)), .val (.int (Int32.ofNat len)), .val .null, .unset] [.int z])) := c4.trans (st5 _ (Steps.refl _))
  have c7 : Steps p.tables e below (s₁.setTop (entryFrame m #[.ref a, .ref b, .int (Int32.ofNat o), .int (Int32.ofNat len), .null] 6)) (T5.setTop (mkF m 36 #[.val (.ref a), .val (.ref b), .val (.int (Int32.ofNat o)), .val (.int (Int32.ofNat len)), .val .null, .unset] [.int (Int32.ofNat len), .int (Int32.ofNat o), .ref b])) := c6.trans (by
    refine XS.ifNo X5.here hexec rfl (hb hbytes d30) rfl (i0_eq_f hz) ?_
    refine XS.aloadN X5.here hexec rfl (hb hbytes d33) rfl rfl ?_
    refine XS.iloadN X5.here hexec rfl (hb hbytes d34) rfl ?_
    refine XS.iloadN X5.here hexec rfl (hb hbytes d35) rfl ?_
    exact Steps.refl _)
  obtain ⟨v8, T8, X8, E8, g8⟩ := X5.callS hexec (Cmp3.law l b A o len) hown (wks W (staticW "java/lang/String" 177 Cmp3.yN)) (wk W Cmp3.tab) (W := 0) (Nat.le_of_ble_eq_true rfl) (Nat.le_of_ble_eq_true rfl) (Nat.le_refl _) (by show 0 + len ≤ len; omega) (g := (mkF m 36 #[.val (.ref a), .val (.ref b), .val (.int (Int32.ofNat o)), .val (.int (Int32.ofNat len)), .val .null, .unset] [.int (Int32.ofNat len), .int (Int32.ofNat o), .ref b])) rfl (by rw [hml]; rfl) c7 (argsL := [.ref b, .int (Int32.ofNat o), .int (Int32.ofNat len)]) (rest := []) rfl rfl (by show 2 * 0 + 0 ≤ _; decide) (hb hbytes d36) (⟨rfl, hA.mv X5.warmed.alike hh5, l1, l2, hp⟩)
  obtain ⟨e8, z8⟩ := E8
  obtain ⟨rfl, N, n1, n2, n3, n4, n5, n6⟩ := NewArr.mv _ T5 s _ _ hh5.symm (Vm.Alike.refl _) rfl e8
  rw [hh5] at z8
  have hB1 := hB.keep X8.warmed.alike (n6 _ _ hB.1)
  have hne : s.heap.size ≠ a := (Nat.ne_of_lt (Array.getElem?_eq_some_iff.mp hB.1).1).symm
  have c9 : Steps p.tables e below (s₁.setTop (entryFrame m #[.ref a, .ref b, .int (Int32.ofNat o), .int (Int32.ofNat len), .null] 6)) (T8.setTop (mkF m 39 #[.val (.ref a), .val (.ref b), .val (.int (Int32.ofNat o)), .val (.int (Int32.ofNat len)), .val .null, .unset] [.ref s.heap.size])) := g8
  have c10 : Steps p.tables e below (s₁.setTop (entryFrame m #[.ref a, .ref b, .int (Int32.ofNat o), .int (Int32.ofNat len), .null] 6)) (T8.setTop (mkF m 45 #[.val (.ref a), .val (.ref b), .val (.int (Int32.ofNat o)), .val (.int (Int32.ofNat len)), .val .null, .val (.ref s.heap.size)] [.int (Int32.ofNat N.slots.size), .ref s.heap.size, .ref a])) := by
    have hc : Steps p.tables e below (s₁.setTop (entryFrame m #[.ref a, .ref b, .int (Int32.ofNat o), .int (Int32.ofNat len), .null] 6)) (T8.setTop (mkF m 45 #[.val (.ref a), .val (.ref b), .val (.int (Int32.ofNat o)), .val (.int (Int32.ofNat len)), .val .null, .val (.ref s.heap.size)] [.int (Int32.ofNat len), .ref s.heap.size, .ref a])) := c9.trans (by
      refine XS.astore X8.here hexec rfl (hb hbytes d39) rfl rfl rfl ?_
      refine XS.aloadN X8.here hexec rfl (hb hbytes d41) rfl rfl ?_
      refine XS.aload X8.here hexec rfl (hb hbytes d42) rfl rfl ?_
      refine XS.iloadN X8.here hexec rfl (hb hbytes d44) rfl ?_
      exact Steps.refl _)
    rw [n4]; exact hc
  obtain ⟨v11, T11, X11, E11, g11⟩ := X8.callS hexec (CodL.law l s.heap.size N) hown (wks W (staticW "java/lang/String" 47 CodL.yN)) (wk W CodL.tab) (W := 1) (Nat.le_of_ble_eq_true rfl) (Nat.le_of_ble_eq_true rfl) (Nat.le_refl _) (by show 0 + len + 0 ≤ len; omega) (g := (mkF m 45 #[.val (.ref a), .val (.ref b), .val (.int (Int32.ofNat o)), .val (.int (Int32.ofNat len)), .val .null, .val (.ref s.heap.size)] [.int (Int32.ofNat N.slots.size), .ref s.heap.size, .ref a])) rfl (by rw [hml]; rfl) c10 (argsL := [.ref s.heap.size, .int (Int32.ofNat N.slots.size)]) (rest := [.ref a]) rfl rfl (by show 2 * 0 + (1 + 0) ≤ _; decide) (hb hbytes d45) (⟨rfl, n1⟩)
  obtain ⟨rfl, q11⟩ := E11
  have hB11 := hB1.mv (X8.warmed.alike.symm.trans X11.warmed.alike) q11
  have c12 : Steps p.tables e below (s₁.setTop (entryFrame m #[.ref a, .ref b, .int (Int32.ofNat o), .int (Int32.ofNat len), .null] 6)) (T11.setTop (mkF m 48 #[.val (.ref a), .val (.ref b), .val (.int (Int32.ofNat o)), .val (.int (Int32.ofNat len)), .val .null, .val (.ref s.heap.size)] [.int 0, .ref a])) := g11
  obtain ⟨T13, X13, p13, bl13, sl13, st13⟩ := X11.finit hexec hown (wk W (.fieldLink "java/lang/String" 15 "java/lang/String" "coder" "B")) (Or.inr ⟨_, (wk W (.laysFinal "java/lang/String" "java/lang/String" "coder" "B"))⟩) (Or.inl ⟨rfl, hnm⟩) f2 (Or.inl rfl) hB11 (t := .byte) (by decide +kernel) rfl (g := (mkF m 48 #[.val (.ref a), .val (.ref b), .val (.int (Int32.ofNat o)), .val (.int (Int32.ofNat len)), .val .null, .val (.ref s.heap.size)] [.int 0, .ref a])) rfl (rest := []) rfl (hb hbytes d48)
  have c14 : Steps p.tables e below (s₁.setTop (entryFrame m #[.ref a, .ref b, .int (Int32.ofNat o), .int (Int32.ofNat len), .null] 6)) (T13.setTop (mkF m 54 #[.val (.ref a), .val (.ref b), .val (.int (Int32.ofNat o)), .val (.int (Int32.ofNat len)), .val .null, .val (.ref s.heap.size)] [.ref s.heap.size, .ref a])) := (c12.trans (st13 _ (Steps.refl _))).trans (by
    refine XS.aloadN X13.here hexec rfl (hb hbytes d51) rfl rfl ?_
    refine XS.aload X13.here hexec rfl (hb hbytes d52) rfl rfl ?_
    exact Steps.refl _)
  obtain ⟨T15, X15, p15, bl15, sl15, st15⟩ := X13.finit hexec hown (wk W (.fieldLink "java/lang/String" 9 "java/lang/String" "value" "[B")) (Or.inr ⟨_, (wk W (.laysFinal "java/lang/String" "java/lang/String" "value" "[B"))⟩) (Or.inl ⟨rfl, hnm⟩) f1 (Or.inl rfl) bl13 (t := (.array .byte)) (by decide +kernel) rfl (g := (mkF m 54 #[.val (.ref a), .val (.ref b), .val (.int (Int32.ofNat o)), .val (.int (Int32.ofNat len)), .val .null, .val (.ref s.heap.size)] [.ref s.heap.size, .ref a])) rfl (rest := []) rfl (hb hbytes d54)
  have c16 : Steps p.tables e below (s₁.setTop (entryFrame m #[.ref a, .ref b, .int (Int32.ofNat o), .int (Int32.ofNat len), .null] 6)) (T15.setTop (mkF m 57 #[.val (.ref a), .val (.ref b), .val (.int (Int32.ofNat o)), .val (.int (Int32.ofNat len)), .val .null, .val (.ref s.heap.size)] [])) := c14.trans (st15 _ (Steps.refl _))
  have ap := apart (Or.inr ⟨_, (wk W (.laysFinal "java/lang/String" "java/lang/String" "value" "[B"))⟩) (Or.inr ⟨_, (wk W (.laysFinal "java/lang/String" "java/lang/String" "coder" "B"))⟩) f1 f2 (t₁ := .array .byte) (t₂ := .byte) (by decide +kernel) (by decide +kernel) (by decide)
  have al := X8.warmed.alike.symm.trans X15.warmed.alike
  have n7 : T11.heap[s.heap.size]? = some N := by rw [q11]; exact n1.1
  exact ⟨T15, none, _, _, _, X15, by simp, rfl, by omega, (fun _ => rfl), ⟨rfl, _, N, bl15, ((Same.refl D _).set _ (by simp)).set _ (by simp), sl15, (Cell.slots_setSlot_ne _ ap).trans sl13, n1.keep al (p15.other hne (p13.other hne n7)), n2, by rw [al.findClass]; exact n3, n4, n5, fun y c h1 h2 => p15.other h1 (p13.other h1 (by rw [q11]; exact n6 y c h2)), by rw [p15.2.2, p13.2.2, q11]; exact z8⟩, fun fs hl => c16.trans (X15.returnOut hexec hret (hb hbytes d57) hl)⟩
end New4
namespace New1
def yN : MethodName := ⟨"java/lang/String", "<init>", "([C)V"⟩
abbrev yB : ByteArray := jdk_42_method_3_code
theorem d0 : decode yB 0 = .ok (.aload_n 0, 1) := by decide +kernel
theorem d1 : decode yB 1 = .ok (.aload_n 1, 1) := by decide +kernel
theorem d2 : decode yB 2 = .ok (.iconst 0, 1) := by decide +kernel
theorem d3 : decode yB 3 = .ok (.aload_n 1, 1) := by decide +kernel
theorem d4 : decode yB 4 = .ok (.arraylength, 1) := by decide +kernel
theorem d5 : decode yB 5 = .ok (.aconst_null, 1) := by decide +kernel
theorem d6 : decode yB 6 = .ok (.invokespecial 27, 3) := by decide +kernel
theorem d9 : decode yB 9 = .ok (.return_, 1) := by decide +kernel
def site : List Cond := [New4.tab] ++ initW "java/lang/String" 27 New4.yN
def tab : Cond := tabOf yN yB 2 none site
def P (a : Addr) (D : Cell) (fV fC : Field) (b : Addr) (A : Cell) (z : Int32) (args : Array Value) (s : State) : Prop := args = #[.ref a, .ref b] ∧ Blank "java/lang/String" a D s ∧ Found "java/lang/String" "value" "[B" fV s ∧ Found "java/lang/String" "coder" "B" fC s ∧ Ch b A s ∧ StaticIs s "java/lang/String" "COMPACT_STRINGS" "Z" (.int z) ∧ ¬ z = 0 ∧ 0 < A.slots.size ∧ A.slots.size ≤ 536870912 ∧ ∀ i, i < A.slots.size → ¬ 255 < cv A i
def E (a : Addr) (D : Cell) (fV fC : Field) (A : Cell) (r : Option Value) (s u : State) : Prop := Got a D fV fC A 0 A.slots.size r s u
/-- new String(chars), not empty, no char above 255: a Latin-1 String of their low bytes -/
theorem law (l : Launch) (a : Addr) (D : Cell) (fV fC : Field) (b : Addr) (A : Cell) (z : Int32) : Law l yN 2 1 3 52 yB 2 none site (P a D fV fC b A z) (E a D fV fC A) [⟨a, fC.slot⟩, ⟨a, fV.slot⟩] 1 A.slots.size := by
  refine Law.of_walk (plainFor_of_name (by decide +kernel)) (by decide +kernel) (by decide +kernel) (by decide) (fun _ _ h => by rw [h.1]; rfl) (fun _ U U' hal hh h => ⟨h.1, h.2.1.mv hal hh, h.2.2.1.al hal, h.2.2.2.1.al hal, h.2.2.2.2.1.mv hal hh, h.2.2.2.2.2.1.there hal hh, h.2.2.2.2.2.2⟩) (fun r U U' V V' h1 hal h2 h => Got.mv r U U' V V' h1 hal h2 h) ?_
  intro p e s m args below meth c s₁ X0 hexec hbytes hml hret hlk hnm hown hh0 W hP
  obtain ⟨rfl, hB, f1, f2, hA, s1, hz, l0, l2, hp⟩ := hP
  have c1 : Steps p.tables e below (s₁.setTop (entryFrame m #[.ref a, .ref b] 2)) (s₁.setTop (mkF m 0 #[.val (.ref a), .val (.ref b)] [])) := entry rfl
  have c2 : Steps p.tables e below (s₁.setTop (entryFrame m #[.ref a, .ref b] 2)) (s₁.setTop (mkF m 6 #[.val (.ref a), .val (.ref b)] [.null, .int (Int32.ofNat A.slots.size), .int 0, .ref b, .ref a])) := c1.trans (by
    refine XS.aloadN X0.here hexec rfl (hb hbytes d0) rfl rfl ?_
    refine XS.aloadN X0.here hexec rfl (hb hbytes d1) rfl rfl ?_
    refine iconstV X0.here hexec rfl 0 (hb hbytes d2) (by decide) ?_
    refine XS.aloadN X0.here hexec rfl (hb hbytes d3) rfl rfl ?_
    refine X0.alen hexec (hA.1.mv X0.warmed.alike hh0) rfl rfl (hb hbytes d4) ?_
    refine XS.aconstNull X0.here hexec rfl (hb hbytes d5) ?_
    exact Steps.refl _)
  obtain ⟨v3, T3, X3, E3, g3⟩ := X0.callN hexec (New4.law l a D fV fC b A z 0 A.slots.size) rfl hown (wks W (initW "java/lang/String" 27 New4.yN)) (W New4.tab (by simp only [site, List.mem_cons, List.mem_append, true_or, or_true])) (W := 0) (Nat.le_of_ble_eq_true rfl) (Nat.le_of_ble_eq_true rfl) (Nat.le_refl _) (by show 0 + A.slots.size ≤ A.slots.size; omega) (g := (mkF m 6 #[.val (.ref a), .val (.ref b)] [.null, .int (Int32.ofNat A.slots.size), .int (Int32.ofNat 0), .ref b, .ref a])) rfl (by rw [hml]; rfl) c2 (argsL := [.ref b, .int (Int32.ofNat 0), .int (Int32.ofNat A.slots.size), .null]) (rest := []) rfl rfl (by show 2 * 0 + 0 ≤ _; decide) (hb hbytes d6) (⟨rfl, hB.mv X0.warmed.alike hh0, f1.al X0.warmed.alike, f2.al X0.warmed.alike, hA.mv X0.warmed.alike hh0, s1.there X0.warmed.alike hh0, hz, l0, by omega, l2, fun i hi => by rw [Nat.zero_add]; exact hp i hi⟩)
  have e0 := Got.mv _ s₁ s _ _ hh0.symm (Vm.Alike.refl _) rfl E3
  obtain rfl := e0.1
  have c4 : Steps p.tables e below (s₁.setTop (entryFrame m #[.ref a, .ref b] 2)) (T3.setTop (mkF m 9 #[.val (.ref a), .val (.ref b)] [])) := g3
  exact ⟨T3, none, _, _, _, X3, by simp, rfl, by omega, (fun _ => rfl), e0, fun fs hl => c4.trans (X3.returnOut hexec hret (hb hbytes d9) hl)⟩
theorem pays {l : Launch} {R : Room} {p : Program} {e : Env} {below : List Frame} {s : State} {sargs : Array Value} {len W : Nat} (a : Addr) (D : Cell) (fV fC : Field) (b : Addr) (A : Cell) (z : Int32) (htab : tab.before sargs s = true) (hfr : 4 ≤ R.frames) (hlo : W + 65 ≤ R.locals) :
    Back l R p e below s sargs yN len W (fun A₁ a₁ => A₁.cells + 1 ≤ R.cells ∧ A₁.slots + A.slots.size ≤ R.slots ∧ P a D fV fC b A z a₁ A₁.U) (fun A₁ _ v₁ B₁ => E a D fV fC A v₁ A₁.U B₁.U ∧ B₁.locs = A₁.locs ++ [⟨a, fC.slot⟩, ⟨a, fV.slot⟩] ∧ B₁.cells = A₁.cells + 1 ∧ B₁.slots = A₁.slots + A.slots.size) :=
  (law l a D fV fC b A z).pays htab hfr (by omega)
end New1
end StrChars
namespace StrChars.Road
open Jvm Sem ClassFile Op Lib Jvm.Stand Jvm.Free Jvm.Free.XT
open Jvm.Lib.Cold (StaticIs)
abbrev ST : String := "java/lang/String"
/-- every table word that New1's law asks, flat -/
abbrev words : List Jvm.Cond := [.code New1.yN New1.yB 2 none, .initialized ST, .methodLink ST 27 New4.yN, .instanceMethod New4.yN,
  .code New4.yN New4.yB 6 none, .fieldLink ST 38 ST "COMPACT_STRINGS" "Z", .laysFinal ST ST "value" "[B", .fieldLink ST 9 ST "value" "[B", .laysFinal ST ST "coder" "B", .fieldLink ST 15 ST "coder" "B",
  .methodLink ST 1 Lib.objectInit, .instanceMethod Lib.objectInit, .code Lib.objectInit ⟨#[0xb1]⟩ 1 none, .methodLink ST 177 Cmp3.yN, .static Cmp3.yN, .methodLink ST 47 CodL.yN, .static CodL.yN,
  .code Cmp3.yN Cmp3.yB 6 (some (.array .byte)), .initialized U16, .arrayClass .byte, .methodLink U16 115 Cmp5.yN, .static Cmp5.yN, .code Cmp5.yN Cmp5.yB 7 (some .int), .code CodL.yN CodL.yB 2 (some .byte)]
theorem tab_of {a : Array Value} {s : State} (h : ∀ w ∈ words, w.before a s = true) : New1.tab.before a s = true := by
  have h5 : Cmp5.tab.before a s = true := unparts (wk h (.code Cmp5.yN Cmp5.yB 7 (some .int))) (wks h (.initialized Cmp5.yN.cls :: Cmp5.site))
  have hc : CodL.tab.before a s = true := unparts (wk h (.code CodL.yN CodL.yB 2 (some .byte))) (wks h (.initialized CodL.yN.cls :: CodL.site))
  have q5 : ∀ w ∈ Cmp5.tab :: words, w.before a s = true := fun w hw => (List.mem_cons.mp hw).elim (fun e => e ▸ h5) (h w)
  have h3 : Cmp3.tab.before a s = true := unparts (wk q5 (.code Cmp3.yN Cmp3.yB 6 (some (.array .byte)))) (wks q5 (.initialized Cmp3.yN.cls :: Cmp3.site))
  have q3 : ∀ w ∈ Cmp3.tab :: CodL.tab :: words, w.before a s = true := fun w hw => (List.mem_cons.mp hw).elim (fun e => e ▸ h3) fun hw => (List.mem_cons.mp hw).elim (fun e => e ▸ hc) (h w)
  have h4 : New4.tab.before a s = true := unparts (wk q3 (.code New4.yN New4.yB 6 none)) (wks q3 (.initialized New4.yN.cls :: New4.site))
  have q4 : ∀ w ∈ New4.tab :: words, w.before a s = true := fun w hw => (List.mem_cons.mp hw).elim (fun e => e ▸ h4) (h w)
  exact unparts (wk q4 (.code New1.yN New1.yB 2 none)) (wks q4 (.initialized New1.yN.cls :: New1.site))
/-- the words ride from the start Z to the walk's own state -/
theorem moved {Z s : State} {a0 args : Array Value} (hZ : Z.Warmed39 s.vm) (hw : ∀ d ∈ words, d.before a0 Z = true) : ∀ d ∈ words, d.before args s = true := fun d hd => by
  have q := hw d hd
  have t : ∀ d ∈ words, d = .arrayClass .byte ∨ (d.onTables && d.keepsFace) = true := by decide +kernel
  rcases t d hd with rfl | t
  · exact RoadKit.mvA hZ q
  · exact RoadKit.mv hZ q t
/-- WHAT COMES BACK, over the tables of the start Z: h the heap at the call, h' behind it -/
def Q (Z : State) (x : Addr) (A : Cell) (h : Heap) (v : Option Value) (h' : Heap) (L : List Loc) : Prop := v = none ∧ (∀ y ∈ L, y.base = x) ∧ RoadKit.Keep h h' [x] ∧ h'.size = h.size + 1 ∧ RoadKit.Exa Z h' x ST ∧ RoadKit.Fld Z h' x ST "value" "[B" (.ref h.size) ∧ RoadKit.Fld Z h' x ST "coder" "B" (.int 0) ∧
  (∃ V : Cell, RoadKit.Arr Z h' h.size V .byte ∧ V.vm = .none ∧ Z.vm.findClass "[B" = some V.cls ∧ V.slots.size = A.slots.size ∧ ∀ j, j < A.slots.size → V.slots[j]? = some (.int (lo8 (cv A j)))) ∧
  ∀ (O n d : String) (w : Value), RoadKit.Fld Z h x O n d w → RoadKit.slotOf Z O n d ≠ RoadKit.slotOf Z ST "value" "[B" → RoadKit.slotOf Z O n d ≠ RoadKit.slotOf Z ST "coder" "B" → RoadKit.Fld Z h' x O n d w
/-- **new String(chars) AT A CALL, IN THE ROAD'S FORM**: for specialBack behind newO: x the fresh String, b the char[] with the cell A -/
theorem back {p : Program} {l : Launch} {e : Env} {R : Room} {s : State} {args : Array Value} {below : List Frame} {len W : Nat} {Z : State} {a0 : Array Value} {h : Heap} (hZ : Z.Warmed39 s.vm) (hw : ∀ d ∈ words, d.before a0 Z = true) {kI : Nat} (wi : (Jvm.Cond.instantiable ST kI).before a0 Z = true)
    {x b : Addr} {A : Cell} {z : Int32} {v0 c0 : Value} (E : RoadKit.Exa Z h x ST) (V : RoadKit.Fld Z h x ST "value" "[B" v0) (C : RoadKit.Fld Z h x ST "coder" "B" c0) (K : RoadKit.Arr Z h b A .char) (hty : Typed .char A) (S : RoadKit.Sta Z h ST "COMPACT_STRINGS" "Z" (.int z)) (hz : ¬ z = 0)
    (l0 : 0 < A.slots.size) (l2 : A.slots.size ≤ 536870912) (hp : ∀ i, i < A.slots.size → ¬ 255 < cv A i) (hfr : 4 ≤ R.frames) (hlo : W + 65 ≤ R.locals) :
    Back l R p e below s args New1.yN len W (fun P a => a = #[.ref x, .ref b] ∧ P.U.heap = h ∧ P.cells + 1 ≤ R.cells ∧ P.slots + A.slots.size ≤ R.slots)
      (fun P _ v B => ∃ L, Q Z x A h v B.U.heap L ∧ B.locs = P.locs ++ L ∧ B.cells = P.cells + 1 ∧ B.slots = P.slots + A.slots.size) := by
  intro m meth c P g ig mk a X hg hsize hdg hW hn hp'
  obtain ⟨rfl, rfl, r1, r2⟩ := hp'
  have al : Z.vm.Alike P.U.vm := hZ.alike.trans X.warmed.alike
  obtain ⟨D, cfV, kV, iV, fV, hD, gV, stV, knV, obV, asV, slV⟩ := id V
  obtain ⟨D', cfC, kC, iC, fC, hD', gC, stC, -, -, asC, slC⟩ := id C
  cases hD.symm.trans hD'
  obtain ⟨D2, kD, e1, e2, e3, e4, e5⟩ := id E
  cases hD.symm.trans e1
  obtain ⟨c2, k2, i1, i2, i3, -⟩ := Cond.instantiable_spec wi
  cases e2.symm.trans i1
  cases e3.symm.trans i2
  obtain ⟨kU, u1, u2⟩ := al.2.2 _ _ e3
  have hB : Blank ST x D P.U := ⟨hD, ⟨knV, fun q hq => by rw [hq] at obV; cases obV⟩, by rw [al.findClass]; exact e2, kU, u1, by rw [u2]; exact i3, by rw [u2]; exact e5 i3⟩
  have F1 : Found ST "value" "[B" fV P.U := ⟨SBG.found_only al ⟨cfV, kV, iV, gV⟩, stV⟩
  have F2 : Found ST "coder" "B" fC P.U := ⟨SBG.found_only al ⟨cfC, kC, iC, gC⟩, stC⟩
  have hA : Ch b A P.U := ⟨⟨K.1, State.isArrayOf_alike al K.2.1, K.2.2, by omega⟩, hty⟩
  have hS : StaticIs P.U ST "COMPACT_STRINGS" "Z" (.int z) := by
    obtain ⟨cfS, iS, kS, fS, st, cS, t1, t2, t3, t4, t5, t6, t7⟩ := S
    exact StaticIs.there (s := { Z with heap := P.U.heap }) ⟨cfS, iS, kS, fS, st, cS, t1, t2, t3, t4, t5, (fun q => by rw [q] at t6; cases t6), t7⟩ al rfl
  obtain ⟨v, B, X', ⟨⟨hv, E', V', q1, q2, q3, q4, q5, q6, q7, q8, q9, q10, q11⟩, hl, hc, hs⟩, st⟩ := New1.pays x D fV fC b A z (tab_of (moved hZ hw)) hfr hlo m meth c P g ig mk _ X hg hsize hdg hW hn ⟨r1, r2, rfl, hB, F1, F2, hA, hS, hz, l0, l2, hp⟩
  have al' : Z.vm.Alike B.U.vm := hZ.alike.trans X'.warmed.alike
  have hsz : E'.slots.size = D.slots.size := by
    obtain ⟨-, -, -, kB, w1, w2, w3⟩ := q1
    obtain ⟨kB', y1, y2⟩ := al'.2.2 _ _ e3
    rw [q2.2.1] at w1
    cases w1.symm.trans y1
    rw [w3, e5 i3, y2]
  refine ⟨v, B, X', ⟨_, ⟨hv, ?_, ⟨by omega, fun y cy hy hn' => q10 y cy (by simpa using hn') hy, fun y cy hy => ?_⟩, q11, ⟨E', _, q1.1, by rw [q2.2.1]; exact e2, by rw [q2.2.1]; exact e3, by rw [q2.1]; exact obV, fun _ => by rw [hsz]; exact e5 i3⟩,
    ⟨E', cfV, kV, iV, fV, q1.1, gV, stV, by rw [q2.1]; exact knV, by rw [q2.1]; exact obV, by rw [q2.2.1]; exact asV, q3⟩, ⟨E', cfC, kC, iC, fC, q1.1, gC, stC, by rw [q2.1]; exact knV, by rw [q2.1]; exact obV, by rw [q2.2.1]; exact asC, q4⟩,
    ⟨V', ⟨q5.1, State.isArrayOf_alike al'.symm q5.2.1, q5.2.2.1⟩, q6, by rw [← al'.findClass]; exact q7, q8, fun j hj => by have := q9 j hj; rwa [Nat.zero_add] at this⟩, fun O n d w F n1 n2 => ?_⟩, hl, hc, hs⟩, st⟩
  · intro y hy
    simp only [List.mem_cons, List.not_mem_nil, or_false] at hy
    rcases hy with rfl | rfl <;> rfl
  · by_cases q : y = x
    · subst q
      cases hD.symm.trans hy
      exact ⟨E', q1.1, q2.2.1, q2.1, hsz⟩
    · exact ⟨cy, q10 y cy q hy, rfl, rfl, rfl⟩
  · obtain ⟨D3, cf, k, i, f, g1, g2, g3, g4, g5, g6, g7⟩ := F
    cases hD.symm.trans g1
    simp only [RoadKit.slotOf, g2, gV, gC, Option.map_some, Option.getD_some] at n1 n2
    exact ⟨E', cf, k, i, f, q1.1, g2, g3, by rw [q2.1]; exact g4, by rw [q2.1]; exact g5, by rw [q2.2.1]; exact g6, by rw [q2.2.2 f.slot (by simp [n1, n2])]; exact g7⟩
end StrChars.Road
namespace StrChars.Road
open Jvm Sem ClassFile Op Lib Jvm.Stand Jvm.Free Jvm.Free.XT
/-- WHAT COMES BACK, the byte[] as a list of values -/
def QA (Z : State) (x : Addr) (zn : Int32) (cs : List Int32) (h : Heap) (v : Option Value) (h' : Heap) (L : List Loc) : Prop := v = none ∧ (∀ y ∈ L, y.base = x) ∧ RoadKit.Keep h h' [x] ∧ h'.size = h.size + 1 ∧ RoadKit.Exa Z h' x ST ∧ RoadKit.Fld Z h' x ST "value" "[B" (.ref h.size) ∧ RoadKit.Fld Z h' x ST "coder" "B" (.int 0) ∧
  (∃ kb, Z.vm.findClass "[B" = some kb ∧ RoadKit.Arv Z h' h.size kb .byte zn (cs.map fun c => .int (lo8 c)) (.int 0)) ∧
  ∀ (O n d : String) (w : Value), RoadKit.Fld Z h x O n d w → RoadKit.slotOf Z O n d ≠ RoadKit.slotOf Z ST "value" "[B" → RoadKit.slotOf Z O n d ≠ RoadKit.slotOf Z ST "coder" "B" → RoadKit.Fld Z h' x O n d w
/-- **new String(chars) AT A CALL, THE ARRAYS AS LISTS**: the char[] at b holds cs, not empty, no char above 255 -/
theorem backArv {p : Program} {l : Launch} {e : Env} {R : Room} {s : State} {args : Array Value} {below : List Frame} {len W : Nat} {Z : State} {a0 : Array Value} {h : Heap} (hZ : Z.Warmed39 s.vm) (hw : ∀ d ∈ words, d.before a0 Z = true) {kI : Nat} (wi : (Jvm.Cond.instantiable ST kI).before a0 Z = true)
    {x b : Addr} {k : ClassId} {zn z : Int32} {cs : List Int32} {dv v0 c0 : Value} (E : RoadKit.Exa Z h x ST) (V : RoadKit.Fld Z h x ST "value" "[B" v0) (C : RoadKit.Fld Z h x ST "coder" "B" c0) (K : RoadKit.Arv Z h b k .char zn (cs.map Value.int) dv) (S : RoadKit.Sta Z h ST "COMPACT_STRINGS" "Z" (.int z)) (hz : ¬ z = 0)
    (hlen : zn.toNatClampNeg = cs.length) (h0 : 0 < cs.length) (hbig : cs.length ≤ 536870912) (hall : ∀ c ∈ cs, ¬ 255 < c) (hfr : 4 ≤ R.frames) (hlo : W + 65 ≤ R.locals) :
    Back l R p e below s args New1.yN len W (fun P a => a = #[.ref x, .ref b] ∧ P.U.heap = h ∧ P.cells + 1 ≤ R.cells ∧ P.slots + cs.length ≤ R.slots)
      (fun P _ v B => ∃ L, QA Z x zn cs h v B.U.heap L ∧ B.locs = P.locs ++ L ∧ B.cells = P.cells + 1 ∧ B.slots = P.slots + cs.length) := by
  obtain ⟨A, K1, K2, K3, K4, K5, K6⟩ := K
  have e : A.slots.size = cs.length := K3.trans hlen
  have hat : ∀ (i : Nat) (hi : i < cs.length), A.slots[i]? = some (.int cs[i]) := fun i hi => by rw [K5 i (by omega)]; simp [List.getD_eq_getElem?_getD, hi]
  have hcv : ∀ (i : Nat) (hi : i < cs.length), cv A i = cs[i] := fun i hi => by unfold cv; rw [hat i hi]
  have hty : Typed .char A := fun i v hv => by
    have hi : i < A.slots.size := (Array.getElem?_eq_some_iff.mp hv).1
    have q := K5 i hi
    rw [hv] at q
    rw [Option.some.inj q]
    exact K6 i hi
  refine Back.mono (back hZ hw wi E V C K1 hty S hz (by omega) (by omega) (fun i hi => by rw [hcv i (by omega)]; exact hall _ (List.getElem_mem _)) hfr hlo) (fun P a hp => ⟨hp.1, hp.2.1, hp.2.2.1, by rw [e]; exact hp.2.2.2⟩) (fun P a v B hp hq => ?_)
  obtain ⟨L, ⟨q1, q2, q3, q4, q5, q6, q7, ⟨V', v1, v2, v3, v4, v5⟩, q9⟩, hl, hc, hs⟩ := hq
  refine ⟨L, ⟨q1, q2, q3, q4, q5, q6, q7, ⟨V'.cls, v3, V', v1, rfl, by rw [v4, e, hlen], K4, fun i hi => ?_, fun i hi => ?_⟩, q9⟩, hl, hc, by rw [hs, e]⟩
  · have hi' : i < cs.length := by omega
    rw [v5 i (by omega), hcv i hi']; simp [List.getD_eq_getElem?_getD, hi']
  · have hi' : i < cs.length := by omega
    simp only [List.getD_eq_getElem?_getD, List.getElem?_map, List.getElem?_eq_getElem hi', Option.map_some, Option.getD_some]
    exact fits_lo8 _
end StrChars.Road
namespace StrChars.Road
open Jvm Sem ClassFile Op Lib Jvm.Stand Jvm.Free Jvm.Free.XT
/-- WHAT COMES BACK, in the writer's own shape -/
def QV (Z : State) (x : Addr) (N : Int32) (bs : List Int32) (h : Heap) (n0 : Nat) (v : Option Value) (h' : Heap) (L : List Loc) : Prop := v = none ∧ RoadKit.Fr n0 L ∧ RoadKit.Keep h h' [x] ∧ RoadKit.Exa Z h' x ST ∧ RoadKit.Fld Z h' x ST "coder" "B" (.int 0) ∧
  ∃ (t : Addr) (kb : ClassId), n0 ≤ t ∧ h.size ≤ t ∧ ¬ t = x ∧ RoadKit.Fld Z h' x ST "value" "[B" (.ref t) ∧ RoadKit.Arv Z h' t kb .byte N (bs.map Value.int) (.int 0)
/-- **new String(chars) AT A CALL, FOR THE WRITER**: a char[] of n known ints, each 0 to 255 -/
theorem backV {p : Program} {l : Launch} {e : Env} {R : Room} {s : State} {args : Array Value} {below : List Frame} {len W : Nat} {Z : State} {a0 : Array Value} {h : Heap} (hZ : Z.Warmed39 s.vm) (hw : ∀ d ∈ words, d.before a0 Z = true) {kI : Nat} (wi : (Jvm.Cond.instantiable ST kI).before a0 Z = true)
    {x b : Addr} {kC : ClassId} {cs bs : List Int32} {d v0 c0 : Value} {z N : Int32} {n n0 : Nat} (hx0 : n0 ≤ x) (hh0 : n0 ≤ h.size) (E : RoadKit.Exa Z h x ST) (V : RoadKit.Fld Z h x ST "value" "[B" v0) (C : RoadKit.Fld Z h x ST "coder" "B" c0) (K : RoadKit.Arv Z h b kC .char N (cs.map Value.int) d) (S : RoadKit.Sta Z h ST "COMPACT_STRINGS" "Z" (.int z)) (hz : ¬ z = 0)
    (hn : cs.length = n) (hN : N = Int32.ofNat n) (l0 : 0 < n) (l2 : n ≤ 4000) (hp : ∀ c ∈ cs, ¬ c < 0 ∧ ¬ (255 : Int32) < c) (hb : bs = cs.map (fun c => c.toInt8.toInt32)) (hfr : 4 ≤ R.frames) (hlo : W + 65 ≤ R.locals) :
    Back l R p e below s args (⟨"java/lang/String", "<init>", "([C)V"⟩ : MethodName) len W (fun P a => a = #[.ref x, .ref b] ∧ P.U.heap = h ∧ P.cells + 1 ≤ R.cells ∧ P.slots + n ≤ R.slots)
      (fun P _ v B => ∃ L, QV Z x N bs h n0 v B.U.heap L ∧ B.locs = P.locs ++ L ∧ B.cells = P.cells + 1 ∧ B.slots = P.slots + n) := by
  subst hn hN hb
  refine Back.mono (backArv hZ hw wi E V C K S hz (n32 (by omega)) l0 (by omega) (fun c hc => (hp c hc).2) hfr hlo) (fun P a hp => hp) (fun P a v B hp hq => ?_)
  obtain ⟨L, ⟨q1, q2, q3, q4, q5, q6, q7, ⟨kb, v1, v2⟩, q9⟩, hl, hc, hs⟩ := hq
  exact ⟨L, ⟨q1, fun y hy => by rw [q2 y hy]; exact hx0, q3, q5, q7, h.size, kb, hh0, Nat.le_refl _, Nat.ne_of_gt E.lt, q6, by rw [List.map_map]; exact v2⟩, hl, hc, hs⟩
end StrChars.Road
end Jvm.Pilot.@@N@@

namespace Jvm.Pilot.@@N@@
open Jvm Jvm.ClassFile Sem Op Lib Jvm.Free Jvm.Stand Jvm.LawKit Jvm.RoadKit Bundle Jvm.Pilot.@@N@@.Jvm.D
abbrev own_S (p : Program) (e : Env) (below : List Frame) (T : State) (f : JFrame) (t : State) : Prop := Steps p.tables e below (T.setTop f) t

abbrev own_c (p : Int32) : Int32 := (p.toUInt32.toUInt16.toUInt32.toInt32)
theorem own_ci (p : Int32) : ((own_c p).toInt - p.toInt) % 65536 = 0 ∧ 0 ≤ (own_c p).toInt ∧ (own_c p).toInt < 65536 := c_i2c p
theorem own_cc (p : Int32) : own_c (own_c p) = own_c p := by
  apply Int32.toInt_inj.mp
  have h1 := own_ci p
  have h2 := own_ci (own_c p)
  omega
theorem own_255 (x : Int32) : ¬ own_c (x &&& (255 : Int32)) < 0 ∧ ¬ (255 : Int32) < own_c (x &&& (255 : Int32)) := by
  have h1 := own_ci (x &&& (255 : Int32))
  have h2 := c_and x (255 : Int32) (by decide)
  have e : (255 : Int32).toInt = 255 := by decide
  rw [e] at h2
  constructor
  · rw [Int32.lt_iff_toInt_lt]; have : (0 : Int32).toInt = 0 := by decide
    omega
  · rw [Int32.lt_iff_toInt_lt, e]; omega
theorem own_4095 (x : Int32) : ¬ (x &&& (4095 : Int32)) < 0 ∧ (x &&& (4095 : Int32)) < (4096 : Int32) := by
  have h2 := c_and x (4095 : Int32) (by decide)
  have e : (4095 : Int32).toInt = 4095 := by decide
  have e2 : (4096 : Int32).toInt = 4096 := by decide
  have e0 : (0 : Int32).toInt = 0 := by decide
  rw [e] at h2
  exact ⟨by rw [Int32.lt_iff_toInt_lt, e0]; omega, by rw [Int32.lt_iff_toInt_lt, e2]; omega⟩

theorem d_method_2_0 : decode method_2_code 0 = .ok (.iconst 2, 1) := by decide +kernel
theorem d_method_2_1 : decode method_2_code 1 = .ok (.newarray .char, 2) := by decide +kernel
theorem d_method_2_3 : decode method_2_code 3 = .ok (.astore_n 1, 1) := by decide +kernel
theorem d_method_2_4 : decode method_2_code 4 = .ok (.aload_n 1, 1) := by decide +kernel
theorem d_method_2_5 : decode method_2_code 5 = .ok (.iconst 0, 1) := by decide +kernel
theorem d_method_2_6 : decode method_2_code 6 = .ok (.iload_n 0, 1) := by decide +kernel
theorem d_method_2_7 : decode method_2_code 7 = .ok (.sipush 255, 3) := by decide +kernel
theorem d_method_2_10 : decode method_2_code 10 = .ok (.iand, 1) := by decide +kernel
theorem d_method_2_11 : decode method_2_code 11 = .ok (.i2c, 1) := by decide +kernel
theorem d_method_2_12 : decode method_2_code 12 = .ok (.castore, 1) := by decide +kernel
theorem d_method_2_13 : decode method_2_code 13 = .ok (.aload_n 1, 1) := by decide +kernel
theorem d_method_2_14 : decode method_2_code 14 = .ok (.iconst 1, 1) := by decide +kernel
theorem d_method_2_15 : decode method_2_code 15 = .ok (.iload_n 0, 1) := by decide +kernel
theorem d_method_2_16 : decode method_2_code 16 = .ok (.bipush 8, 2) := by decide +kernel
theorem d_method_2_18 : decode method_2_code 18 = .ok (.iushr, 1) := by decide +kernel
theorem d_method_2_19 : decode method_2_code 19 = .ok (.sipush 255, 3) := by decide +kernel
theorem d_method_2_22 : decode method_2_code 22 = .ok (.iand, 1) := by decide +kernel
theorem d_method_2_23 : decode method_2_code 23 = .ok (.i2c, 1) := by decide +kernel
theorem d_method_2_24 : decode method_2_code 24 = .ok (.castore, 1) := by decide +kernel
theorem d_method_2_25 : decode method_2_code 25 = .ok (.new 7, 3) := by decide +kernel
theorem d_method_2_28 : decode method_2_code 28 = .ok (.dup, 1) := by decide +kernel
theorem d_method_2_29 : decode method_2_code 29 = .ok (.aload_n 1, 1) := by decide +kernel
theorem d_method_2_30 : decode method_2_code 30 = .ok (.invokespecial 9, 3) := by decide +kernel
theorem d_method_2_33 : decode method_2_code 33 = .ok (.areturn, 1) := by decide +kernel
theorem pn_0 : plainName "com/example/pricecollar/pricecollar/tape/ColumnsKeepUnnumberedPinLaw" = true := by first | (simp [plainName, overriddenIn]; done) | decide +kernel
theorem pd_0 : parseMethodDescriptor "([C)V" = some ⟨[(.array .char)], none⟩ := by decide +kernel
theorem ef_rm1 (m : MethodId) (x0 : Int32) : entryFrame m #[(.int x0)] 2 = mkF m 0 #[.val (.int x0), .unset] [] := by first | (simp [entryFrame, mkF, argsToLocals, Value.category]; done) | rfl
def Q1 (Z : State) (p1 : Int32) (G1 : Int32) (h0 : Heap) (n0 : Nat) (v : Option Value) (h : Heap) (L : List Loc) : Prop := ∃ b : Addr, v = some (.ref b) ∧ Fr n0 L ∧ n0 ≤ b ∧ h0.size ≤ b ∧ Keep h0 h [] ∧ Exa Z h b "java/lang/String"
set_option maxRecDepth 65536 in
set_option maxHeartbeats 40000000 in
theorem rm1 (l : Launch) (Z : State) (a0 : Array Value) (hw : ∀ d ∈ tables_1, d.before a0 Z = true) (ws : List Jvm.Cond) (p1 : Int32) (G1 : Int32) (h0 : Heap) (n0 : Nat) (Z0 : n0 ≤ h0.size) (O0 : Old Z n0 h0) (O2 : Sta Z Z.heap "java/lang/String" "COMPACT_STRINGS" "Z" (.int G1)) (P5 : ¬ (G1 = (0 : Int32))) :
    MetFree l (⟨"com/example/pricecollar/pricecollar/tape/ColumnsKeepUnnumberedPinLaw", "text", "(I)Ljava/lang/String;"⟩ : MethodName) (head1 (Jvm.Cond.code (⟨"com/example/pricecollar/pricecollar/tape/ColumnsKeepUnnumberedPinLaw", "text", "(I)Ljava/lang/String;"⟩ : MethodName) method_2_code 2 (some (.object "java/lang/String")) :: ws) ({ frames := 4, cells := 3, slots := 8, locals := 66 } : Room)) (fun a U => a = #[(.int p1)] ∧ Z.Warmed39 U.vm ∧ U.heap = h0) (fun _ _ _ _ _ => True) (fun _ U o U' => ∃ v L, o = .returned v ∧ Q1 Z p1 G1 h0 n0 v U'.heap L ∧ FrameEnd U o U' L ({ frames := 4, cells := 3, slots := 8, locals := 66 } : Room).cells ({ frames := 4, cells := 3, slots := 8, locals := 66 } : Room).slots) := by
  refine MetFree.of_bodySF (plainFor_of_name pn_0) hisR ?_
  intro p e s m args below meth c s₁ Bd hml0 hP hK
  obtain ⟨rfl, hZ, hh⟩ := hP
  have hx := Bd.exec
  have hby := Bd.bytes
  have hml : c.maxLocals = 2 := hml0
  have hown : s.vm.findClass "com/example/pricecollar/pricecollar/tape/ColumnsKeepUnnumberedPinLaw" = some m.cls := findClass_of_methodNamed Bd.named
  have hnm := (name_of_methodNamed Bd.named Bd.method).1
  have X0 : Stand p l e ({ frames := 4, cells := 3, slots := 8, locals := 66 } : Room) s m #[(.int p1)] below meth c s₁ [] 0 0 := Stand.of_body Bd
  have e0 : s₁.heap = h0 := by rw [← hh, Bd.state]; rfl
  have N0 := Fr.nil n0
  obtain ⟨Gl, hGl, k0⟩ : ∃ Gl : State → Prop, (∀ t, Gl t → Steps p.tables e below (s₁.setTop (entryFrame m #[(.int p1)] 2)) t) ∧ ∀ t, own_S p e below s₁ (mkF m 0 #[.val (.int p1), .unset] []) t → Gl t := ⟨fun t => Steps p.tables e below (s₁.setTop (entryFrame m #[(.int p1)] 2)) t, fun _ k => k, fun t k => castTop (ef_rm1 m p1) k⟩
  have k1 : ∀ t, own_S p e below s₁ (mkF m 1 #[.val (.int p1), .unset] [(.int (2 : Int32))]) t → Gl t := fun t kt => k0 t (by
    show own_S p e below s₁ (mkF m 0 #[.val (.int p1), .unset] []) _
    refine XS.iconst X0.here hx rfl (hb hby d_method_2_0) ?_
    exact kt)
  obtain ⟨T2, h2, kk2, X2, e2, E2, A2, st2⟩ := newP X0 hx hZ (hw _ (List.mem_of_getElem? (i := 4) rfl)) e0 (g := (mkF m 1 #[.val (.int p1), .unset] [(.int (2 : Int32))])) rfl (hb hby d_method_2_1) rfl (by decide) (cap := 2) (by decide) (by decide) (by decide) (by decide)
  obtain ⟨b2, g2⟩ : ∃ z, z = h0.size := ⟨_, rfl⟩
  rw [← g2] at A2 st2
  have sz_b2 : h0.size ≤ b2 := Nat.le_trans (Keep.refl h0 []).1 (Nat.le_of_eq g2.symm)
  have g_b2 : n0 ≤ b2 := Nat.le_trans Z0 (Nat.le_of_eq g2.symm)
  have Z3 : n0 ≤ h2.size := Nat.le_trans Z0 E2.1
  have O4 : Old Z n0 h2 := O0.ext E2
  have K5 : Keep h0 h2 [] := (Keep.refl h0 []).ext E2
  have V2 : Arv Z h2 b2 kk2 .char (2 : Int32) [(.int (0 : Int32)), (.int (0 : Int32))] (.int (0 : Int32)) := (Arv.new A2 (by decide)).pad (pad_rep [] (.int (0 : Int32)) 2)
  have k6 : ∀ t, own_S p e below T2 (mkF m 3 #[.val (.int p1), .unset] [(.ref b2)]) t → Gl t := fun t kt => k1 t (st2 _ kt)
  have k7 : ∀ t, own_S p e below T2 (mkF m 12 #[.val (.int p1), .val (.ref b2)] [(.int ((p1 &&& (255 : Int32)).toUInt32.toUInt16.toUInt32.toInt32)), (.int (0 : Int32)), (.ref b2)]) t → Gl t := fun t kt => k6 t (by
    show own_S p e below T2 (mkF m 3 #[.val (.int p1), .unset] [(.ref b2)]) _
    refine XS.astoreN X2.here hx rfl (hb hby d_method_2_3) rfl rfl (l' := #[.val (.int p1), .val (.ref b2)]) rfl ?_
    show own_S p e below T2 (mkF m 4 #[.val (.int p1), .val (.ref b2)] []) _
    refine XS.aloadN X2.here hx rfl (hb hby d_method_2_4) rfl rfl ?_
    show own_S p e below T2 (mkF m 5 #[.val (.int p1), .val (.ref b2)] [(.ref b2)]) _
    refine XS.iconst X2.here hx rfl (hb hby d_method_2_5) ?_
    show own_S p e below T2 (mkF m 6 #[.val (.int p1), .val (.ref b2)] [(.int (0 : Int32)), (.ref b2)]) _
    refine XS.iloadN X2.here hx rfl (hb hby d_method_2_6) rfl ?_
    show own_S p e below T2 (mkF m 7 #[.val (.int p1), .val (.ref b2)] [(.int p1), (.int (0 : Int32)), (.ref b2)]) _
    refine XS.sipush X2.here hx rfl (hb hby d_method_2_7) ?_
    show own_S p e below T2 (mkF m 10 #[.val (.int p1), .val (.ref b2)] [(.int (255 : Int32)), (.int p1), (.int (0 : Int32)), (.ref b2)]) _
    refine XS.iand X2.here hx rfl (hb hby d_method_2_10) rfl ?_
    show own_S p e below T2 (mkF m 11 #[.val (.int p1), .val (.ref b2)] [(.int (p1 &&& (255 : Int32))), (.int (0 : Int32)), (.ref b2)]) _
    refine XS.i2c X2.here hx rfl (hb hby d_method_2_11) rfl ?_
    exact kt)
  obtain ⟨cl8, Ar8, q8, Sz8, Ng8, Hs8, Gs8⟩ := id V2
  have hin8 : ¬ ((0 : Int32) < 0 ∨ cl8.slots.size ≤ ((0 : Int32)).toNatClampNeg) := inb_of Sz8 ⟨by decide, by decide⟩
  obtain ⟨T8, h8, X8, e8, W8, st8⟩ := stC X2 hx hZ e2 Ar8 (j := (0 : Int32)) hin8 (g := (mkF m 12 #[.val (.int p1), .val (.ref b2)] [(.int ((p1 &&& (255 : Int32)).toUInt32.toUInt16.toUInt32.toInt32)), (.int (0 : Int32)), (.ref b2)])) rfl rfl (hb hby d_method_2_12)
  have Z9 : n0 ≤ h8.size := Nat.le_trans Z3 (Keep.of_wr W8).1
  have O10 : Old Z n0 h8 := O4.wr W8 g_b2
  have K11 : Keep h0 h8 [] := K5.wr W8 (Or.inr sz_b2)
  have V8 : Arv Z h8 b2 kk2 .char (2 : Int32) [(.int (((p1 &&& (255 : Int32)).toUInt32.toUInt16.toUInt32.toInt32).toUInt32.toUInt16.toUInt32.toInt32)), (.int (0 : Int32))] (.int (0 : Int32)) := Arv.set Ar8 q8 Sz8 Ng8 Hs8 Gs8 (fits_nar_char _) W8 0 rfl (Nat.le_of_ble_eq_true rfl)
  rw [(show (((p1 &&& (255 : Int32)).toUInt32.toUInt16.toUInt32.toInt32).toUInt32.toUInt16.toUInt32.toInt32) = ((p1 &&& (255 : Int32)).toUInt32.toUInt16.toUInt32.toInt32) from own_cc _)] at V8
  have N12 := Fr.snoc X8 N0 g_b2
  have k13 : ∀ t, own_S p e below T8 (mkF m 13 #[.val (.int p1), .val (.ref b2)] []) t → Gl t := fun t kt => k7 t (st8 _ kt)
  have k14 : ∀ t, own_S p e below T8 (mkF m 24 #[.val (.int p1), .val (.ref b2)] [(.int ((((p1.toUInt32 >>> ((8 : Int32) &&& 31).toUInt32).toInt32) &&& (255 : Int32)).toUInt32.toUInt16.toUInt32.toInt32)), (.int (1 : Int32)), (.ref b2)]) t → Gl t := fun t kt => k13 t (by
    show own_S p e below T8 (mkF m 13 #[.val (.int p1), .val (.ref b2)] []) _
    refine XS.aloadN X8.here hx rfl (hb hby d_method_2_13) rfl rfl ?_
    show own_S p e below T8 (mkF m 14 #[.val (.int p1), .val (.ref b2)] [(.ref b2)]) _
    refine XS.iconst X8.here hx rfl (hb hby d_method_2_14) ?_
    show own_S p e below T8 (mkF m 15 #[.val (.int p1), .val (.ref b2)] [(.int (1 : Int32)), (.ref b2)]) _
    refine XS.iloadN X8.here hx rfl (hb hby d_method_2_15) rfl ?_
    show own_S p e below T8 (mkF m 16 #[.val (.int p1), .val (.ref b2)] [(.int p1), (.int (1 : Int32)), (.ref b2)]) _
    refine XS.bipush X8.here hx rfl (hb hby d_method_2_16) ?_
    show own_S p e below T8 (mkF m 18 #[.val (.int p1), .val (.ref b2)] [(.int (8 : Int32)), (.int p1), (.int (1 : Int32)), (.ref b2)]) _
    refine XS.iushr X8.here hx rfl (hb hby d_method_2_18) rfl ?_
    show own_S p e below T8 (mkF m 19 #[.val (.int p1), .val (.ref b2)] [(.int ((p1.toUInt32 >>> ((8 : Int32) &&& 31).toUInt32).toInt32)), (.int (1 : Int32)), (.ref b2)]) _
    refine XS.sipush X8.here hx rfl (hb hby d_method_2_19) ?_
    show own_S p e below T8 (mkF m 22 #[.val (.int p1), .val (.ref b2)] [(.int (255 : Int32)), (.int ((p1.toUInt32 >>> ((8 : Int32) &&& 31).toUInt32).toInt32)), (.int (1 : Int32)), (.ref b2)]) _
    refine XS.iand X8.here hx rfl (hb hby d_method_2_22) rfl ?_
    show own_S p e below T8 (mkF m 23 #[.val (.int p1), .val (.ref b2)] [(.int (((p1.toUInt32 >>> ((8 : Int32) &&& 31).toUInt32).toInt32) &&& (255 : Int32))), (.int (1 : Int32)), (.ref b2)]) _
    refine XS.i2c X8.here hx rfl (hb hby d_method_2_23) rfl ?_
    exact kt)
  obtain ⟨cl15, Ar15, q15, Sz15, Ng15, Hs15, Gs15⟩ := id V8
  have hin15 : ¬ ((1 : Int32) < 0 ∨ cl15.slots.size ≤ ((1 : Int32)).toNatClampNeg) := inb_of Sz15 ⟨by decide, by decide⟩
  obtain ⟨T15, h15, X15, e15, W15, st15⟩ := stC X8 hx hZ e8 Ar15 (j := (1 : Int32)) hin15 (g := (mkF m 24 #[.val (.int p1), .val (.ref b2)] [(.int ((((p1.toUInt32 >>> ((8 : Int32) &&& 31).toUInt32).toInt32) &&& (255 : Int32)).toUInt32.toUInt16.toUInt32.toInt32)), (.int (1 : Int32)), (.ref b2)])) rfl rfl (hb hby d_method_2_24)
  have Z16 : n0 ≤ h15.size := Nat.le_trans Z9 (Keep.of_wr W15).1
  have O17 : Old Z n0 h15 := O10.wr W15 g_b2
  have K18 : Keep h0 h15 [] := K11.wr W15 (Or.inr sz_b2)
  have V15 : Arv Z h15 b2 kk2 .char (2 : Int32) [(.int ((p1 &&& (255 : Int32)).toUInt32.toUInt16.toUInt32.toInt32)), (.int (((((p1.toUInt32 >>> ((8 : Int32) &&& 31).toUInt32).toInt32) &&& (255 : Int32)).toUInt32.toUInt16.toUInt32.toInt32).toUInt32.toUInt16.toUInt32.toInt32))] (.int (0 : Int32)) := Arv.set Ar15 q15 Sz15 Ng15 Hs15 Gs15 (fits_nar_char _) W15 1 rfl (Nat.le_of_ble_eq_true rfl)
  rw [(show (((((p1.toUInt32 >>> ((8 : Int32) &&& 31).toUInt32).toInt32) &&& (255 : Int32)).toUInt32.toUInt16.toUInt32.toInt32).toUInt32.toUInt16.toUInt32.toInt32) = ((((p1.toUInt32 >>> ((8 : Int32) &&& 31).toUInt32).toInt32) &&& (255 : Int32)).toUInt32.toUInt16.toUInt32.toInt32) from own_cc _)] at V15
  have N19 := Fr.snoc X15 N12 g_b2
  have k20 : ∀ t, own_S p e below T15 (mkF m 25 #[.val (.int p1), .val (.ref b2)] []) t → Gl t := fun t kt => k14 t (st15 _ kt)
  obtain ⟨T21, h21, X21, e21, E21, A21, D21, -, st21⟩ := newO X15 hx hZ hown (hw _ (List.mem_of_getElem? (i := 5) rfl)) (hw _ (List.mem_of_getElem? (i := 6) rfl)) (hw _ (List.mem_of_getElem? (i := 7) rfl)) e15 (g := (mkF m 25 #[.val (.int p1), .val (.ref b2)] [])) rfl (hb hby d_method_2_25) (by decide) (by decide)
  obtain ⟨b21, g21⟩ : ∃ z, z = h15.size := ⟨_, rfl⟩
  rw [← g21] at A21 D21 st21
  have sz_b21 : h0.size ≤ b21 := Nat.le_trans K18.1 (Nat.le_of_eq g21.symm)
  have g_b21 : n0 ≤ b21 := Nat.le_trans Z16 (Nat.le_of_eq g21.symm)
  have ne_b2_b21 : b2 ≠ b21 := Nat.ne_of_lt (Nat.lt_of_lt_of_le V15.lt (Nat.le_of_eq g21.symm))
  have Z22 : n0 ≤ h21.size := Nat.le_trans Z16 E21.1
  have O23 : Old Z n0 h21 := O17.ext E21
  have K24 : Keep h0 h21 [] := K18.ext E21
  have F21_31 : Fld Z h21 b21 "java/lang/String" "coder" "B" (.int (0 : Int32)) := D21 (Or.inr (hw _ (List.mem_of_getElem? (i := 31) rfl))) (ty := .byte) (by decide)
  have F21_33 : Fld Z h21 b21 "java/lang/String" "value" "[B" .null := D21 (Or.inr (hw _ (List.mem_of_getElem? (i := 33) rfl))) (ty := (.array .byte)) (by decide)
  have k25 : ∀ t, own_S p e below T21 (mkF m 28 #[.val (.int p1), .val (.ref b2)] [(.ref b21)]) t → Gl t := fun t kt => k20 t (st21 _ kt)
  have k26 : ∀ t, own_S p e below T21 (mkF m 30 #[.val (.int p1), .val (.ref b2)] [(.ref b2), (.ref b21), (.ref b21)]) t → Gl t := fun t kt => k25 t (by
    show own_S p e below T21 (mkF m 28 #[.val (.int p1), .val (.ref b2)] [(.ref b21)]) _
    refine XS.dup X21.here hx rfl (hb hby d_method_2_28) rfl rfl ?_
    show own_S p e below T21 (mkF m 29 #[.val (.int p1), .val (.ref b2)] [(.ref b21), (.ref b21)]) _
    refine XS.aloadN X21.here hx rfl (hb hby d_method_2_29) rfl rfl ?_
    exact kt)
  have hws : ∀ d ∈ StrChars.Road.words, d.before a0 Z = true := fun d hd => hw d ((by decide +kernel : ∀ d ∈ StrChars.Road.words, d ∈ tables_1) d hd)
  have hp28 : ∀ c ∈ ([((p1 &&& (255 : Int32)).toUInt32.toUInt16.toUInt32.toInt32), ((((p1.toUInt32 >>> ((8 : Int32) &&& 31).toUInt32).toInt32) &&& (255 : Int32)).toUInt32.toUInt16.toUInt32.toInt32)] : List Int32), ¬ c < 0 ∧ ¬ (255 : Int32) < c := by
    intro c hc
    simp only [List.mem_cons, List.not_mem_nil, or_false] at hc
    rcases hc with rfl | rfl <;> exact own_255 _
  have f29 := (V15.ext E21)
  obtain ⟨_, _, ⟨T27, L27, cc27, ss27⟩, -, X27, ⟨Lc27, hQ27, l27, y27, z27⟩, st27⟩ := X21.specialBack hx (y := (⟨"java/lang/String", "<init>", "([C)V"⟩ : MethodName)) rfl hown (mvT hZ (hw _ (List.mem_of_getElem? (i := 8) rfl))) (mvT hZ (hw _ (List.mem_of_getElem? (i := 9) rfl))) (mvT hZ (hw _ (List.mem_of_getElem? (i := 10) rfl))) (by decide) (StrChars.Road.backV (W := 1) hZ hws (kI := 4) (hw _ (List.mem_of_getElem? (i := 6) rfl)) (cs := ([((p1 &&& (255 : Int32)).toUInt32.toUInt16.toUInt32.toInt32), ((((p1.toUInt32 >>> ((8 : Int32) &&& 31).toUInt32).toInt32) &&& (255 : Int32)).toUInt32.toUInt16.toUInt32.toInt32)] : List Int32)) (bs := ([((p1 &&& (255 : Int32)).toUInt32.toUInt16.toUInt32.toInt32), ((((p1.toUInt32 >>> ((8 : Int32) &&& 31).toUInt32).toInt32) &&& (255 : Int32)).toUInt32.toUInt16.toUInt32.toInt32)] : List Int32).map (fun c => c.toInt8.toInt32)) (n := 2) g_b21 Z22 A21 F21_33 F21_31 f29 (O2.ext O23.2) P5 rfl rfl (by decide) (by decide) hp28 rfl (by decide) (by decide)) (g := (mkF m 30 #[.val (.int p1), .val (.ref b2)] [(.ref b2), (.ref b21), (.ref b21)])) rfl (by rw [hml]; rfl) (Steps.refl _) (a := b21) (argsL := [(.ref b2)]) (rest := [(.ref b21)]) (lenOf pd_0 rfl) rfl (by show 2 * 0 + _ ≤ _; exact Nat.le_of_eq rfl) (hb hby d_method_2_30) (fun _ _ => ⟨rfl, e21, (by decide : 2 + 1 ≤ _), (by decide : 6 + 2 ≤ _)⟩)
  dsimp only [Pt.U, Pt.locs, Pt.cells, Pt.slots] at X27 l27 y27 z27 st27 hQ27
  subst l27 y27 z27
  obtain ⟨rfl, Nq27, K27, Ex27, Co27, t27, kb27, ga27, sa27, nx27, Va27, Ar27⟩ := hQ27
  have N27 := Fr.app N19 Nq27
  have Z30 : n0 ≤ T27.heap.size := Nat.le_trans Z22 K27.1
  have O31 : Old Z n0 T27.heap := O23.keep K27 (allS g_b21 all0)
  have K32 : Keep h0 T27.heap [] := K24.trans K27 (allS (Or.inr sz_b21) all0)
  have k33 : ∀ t, own_S p e below T27 (mkF m 33 #[.val (.int p1), .val (.ref b2)] [(.ref b21)]) t → Gl t := fun t kt => k26 t (st27.trans kt)
  obtain ⟨fs, hr, hrun, hended, hW, hsame⟩ := X27.leave (v := some (.ref b21)) (fun h => by rw [Bd.returns] at h; cases h)
  refine ⟨_, _, hGl _ (k33 _ (by
      show own_S p e below T27 (mkF m 33 #[.val (.int p1), .val (.ref b2)] [(.ref b21)]) _
      jvm_step X27.here [X27.here.top, hx, (hb hby d_method_2_33), X27.method', Bd.returns, Value.isRef, FieldType.isReference]
      first | (intro acts; rw [hr _ acts rfl rfl rfl]) | rw [hr _ _ rfl rfl rfl]
      exact Steps.refl _)), hrun, hended, _, _, rfl, ?_, ⟨_, rfl⟩, hW, hsame.mono (by decide) (by decide)⟩
  show Q1 Z p1 G1 h0 n0 _ T27.heap _
  exact ⟨_, rfl, N27, g_b21, sz_b21, K32, Ex27⟩

theorem d_prog_69_method_1_0 : decode prog_69_method_1_code 0 = .ok (.aload_n 0, 1) := by decide +kernel
theorem d_prog_69_method_1_1 : decode prog_69_method_1_code 1 = .ok (.invokespecial 3, 3) := by decide +kernel
theorem d_prog_69_method_1_4 : decode prog_69_method_1_code 4 = .ok (.aload_n 0, 1) := by decide +kernel
theorem d_prog_69_method_1_5 : decode prog_69_method_1_code 5 = .ok (.sipush 4096, 3) := by decide +kernel
theorem d_prog_69_method_1_8 : decode prog_69_method_1_code 8 = .ok (.newarray .long, 2) := by decide +kernel
theorem d_prog_69_method_1_10 : decode prog_69_method_1_code 10 = .ok (.putfield 9, 3) := by decide +kernel
theorem d_prog_69_method_1_13 : decode prog_69_method_1_code 13 = .ok (.aload_n 0, 1) := by decide +kernel
theorem d_prog_69_method_1_14 : decode prog_69_method_1_code 14 = .ok (.iconst 2, 1) := by decide +kernel
theorem d_prog_69_method_1_15 : decode prog_69_method_1_code 15 = .ok (.newarray .int, 2) := by decide +kernel
theorem d_prog_69_method_1_17 : decode prog_69_method_1_code 17 = .ok (.putfield 15, 3) := by decide +kernel
theorem d_prog_69_method_1_20 : decode prog_69_method_1_code 20 = .ok (.aload_n 0, 1) := by decide +kernel
theorem d_prog_69_method_1_21 : decode prog_69_method_1_code 21 = .ok (.iconst 2, 1) := by decide +kernel
theorem d_prog_69_method_1_22 : decode prog_69_method_1_code 22 = .ok (.newarray .int, 2) := by decide +kernel
theorem d_prog_69_method_1_24 : decode prog_69_method_1_code 24 = .ok (.putfield 19, 3) := by decide +kernel
theorem d_prog_69_method_1_27 : decode prog_69_method_1_code 27 = .ok (.aload_n 0, 1) := by decide +kernel
theorem d_prog_69_method_1_28 : decode prog_69_method_1_code 28 = .ok (.iconst 2, 1) := by decide +kernel
theorem d_prog_69_method_1_29 : decode prog_69_method_1_code 29 = .ok (.newarray .long, 2) := by decide +kernel
theorem d_prog_69_method_1_31 : decode prog_69_method_1_code 31 = .ok (.putfield 22, 3) := by decide +kernel
theorem d_prog_69_method_1_34 : decode prog_69_method_1_code 34 = .ok (.return_, 1) := by decide +kernel
theorem pn_1 : plainName "com/example/pricecollar/pricecollar/tape/Tape$Batch" = true := by first | (simp [plainName, overriddenIn]; done) | decide +kernel
theorem ef_rm9 (m : MethodId) (x0 : Addr) : entryFrame m #[(.ref x0)] 1 = mkF m 0 #[.val (.ref x0)] [] := by first | (simp [entryFrame, mkF, argsToLocals, Value.category]; done) | rfl
def Q9 (Z : State) (a1 : Addr) (h0 : Heap) (n0 : Nat) (v : Option Value) (h : Heap) (L : List Loc) : Prop := v = none ∧ Fr n0 L ∧ Keep h0 h [a1] ∧ Exa Z h a1 "com/example/pricecollar/pricecollar/tape/TradeTape$Columns" ∧ Fld Z h a1 "com/example/pricecollar/pricecollar/tape/TradeTape$Columns" "symbolKeys" "[J" .null ∧ Fld Z h a1 "com/example/pricecollar/pricecollar/tape/TradeTape$Columns" "exchanges" "[C" .null ∧ Fld Z h a1 "com/example/pricecollar/pricecollar/tape/TradeTape$Columns" "conditionsNumbers" "[I" .null ∧ Fld Z h a1 "com/example/pricecollar/pricecollar/tape/TradeTape$Columns" "sizes" "[J" .null ∧ Fld Z h a1 "com/example/pricecollar/pricecollar/tape/TradeTape$Columns" "prices" "[J" .null ∧ Fld Z h a1 "com/example/pricecollar/pricecollar/tape/TradeTape$Columns" "corrections" "[I" .null ∧ Fld Z h a1 "com/example/pricecollar/pricecollar/tape/TradeTape$Columns" "unnumberedSymbols" "[Ljava/lang/String;" .null ∧ Fld Z h a1 "com/example/pricecollar/pricecollar/tape/TradeTape$Columns" "unnumberedConditions" "[Ljava/lang/String;" .null
set_option maxRecDepth 65536 in
set_option maxHeartbeats 40000000 in
theorem rm9 (l : Launch) (Z : State) (a0 : Array Value) (hw : ∀ d ∈ tables_1, d.before a0 Z = true) (ws : List Jvm.Cond) (a1 : Addr) (h0 : Heap) (n0 : Nat) (Z0 : n0 ≤ h0.size) (F0 : Fld Z h0 a1 "com/example/pricecollar/pricecollar/tape/Tape$Batch" "times" "[J" .null) (F1 : Fld Z h0 a1 "com/example/pricecollar/pricecollar/tape/Tape$Batch" "runRows" "[I" .null) (F2 : Fld Z h0 a1 "com/example/pricecollar/pricecollar/tape/Tape$Batch" "runFiles" "[I" .null) (F3 : Fld Z h0 a1 "com/example/pricecollar/pricecollar/tape/Tape$Batch" "runLines" "[J" .null) (F4 : Fld Z h0 a1 "com/example/pricecollar/pricecollar/tape/TradeTape$Columns" "symbolKeys" "[J" .null) (F5 : Fld Z h0 a1 "com/example/pricecollar/pricecollar/tape/TradeTape$Columns" "exchanges" "[C" .null) (F6 : Fld Z h0 a1 "com/example/pricecollar/pricecollar/tape/TradeTape$Columns" "conditionsNumbers" "[I" .null) (F7 : Fld Z h0 a1 "com/example/pricecollar/pricecollar/tape/TradeTape$Columns" "sizes" "[J" .null) (F8 : Fld Z h0 a1 "com/example/pricecollar/pricecollar/tape/TradeTape$Columns" "prices" "[J" .null) (F9 : Fld Z h0 a1 "com/example/pricecollar/pricecollar/tape/TradeTape$Columns" "corrections" "[I" .null) (F10 : Fld Z h0 a1 "com/example/pricecollar/pricecollar/tape/TradeTape$Columns" "unnumberedSymbols" "[Ljava/lang/String;" .null) (F11 : Fld Z h0 a1 "com/example/pricecollar/pricecollar/tape/TradeTape$Columns" "unnumberedConditions" "[Ljava/lang/String;" .null) (E1 : Exa Z h0 a1 "com/example/pricecollar/pricecollar/tape/TradeTape$Columns") (g_a1 : n0 ≤ a1) :
    MetFree l (⟨"com/example/pricecollar/pricecollar/tape/Tape$Batch", "<init>", "()V"⟩ : MethodName) (head1 (Jvm.Cond.code (⟨"com/example/pricecollar/pricecollar/tape/Tape$Batch", "<init>", "()V"⟩ : MethodName) prog_69_method_1_code 1 none :: ws) ({ frames := 1, cells := 4, slots := 4102, locals := 12 } : Room)) (fun a U => a = #[(.ref a1)] ∧ Z.Warmed39 U.vm ∧ U.heap = h0) (fun _ _ _ _ _ => True) (fun _ U o U' => ∃ v L, o = .returned v ∧ Q9 Z a1 h0 n0 v U'.heap L ∧ FrameEnd U o U' L ({ frames := 1, cells := 4, slots := 4102, locals := 12 } : Room).cells ({ frames := 1, cells := 4, slots := 4102, locals := 12 } : Room).slots) := by
  refine MetFree.of_bodySF (plainFor_of_name pn_1) hisR ?_
  intro p e s m args below meth c s₁ Bd hml0 hP hK
  obtain ⟨rfl, hZ, hh⟩ := hP
  have hx := Bd.exec
  have hby := Bd.bytes
  have hml : c.maxLocals = 1 := hml0
  have hown : s.vm.findClass "com/example/pricecollar/pricecollar/tape/Tape$Batch" = some m.cls := findClass_of_methodNamed Bd.named
  have hnm := (name_of_methodNamed Bd.named Bd.method).1
  have X0 : Stand p l e ({ frames := 1, cells := 4, slots := 4102, locals := 12 } : Room) s m #[(.ref a1)] below meth c s₁ [] 0 0 := Stand.of_body Bd
  have e0 : s₁.heap = h0 := by rw [← hh, Bd.state]; rfl
  have N0 := Fr.nil n0
  obtain ⟨Gl, hGl, k0⟩ : ∃ Gl : State → Prop, (∀ t, Gl t → Steps p.tables e below (s₁.setTop (entryFrame m #[(.ref a1)] 1)) t) ∧ ∀ t, own_S p e below s₁ (mkF m 0 #[.val (.ref a1)] []) t → Gl t := ⟨fun t => Steps p.tables e below (s₁.setTop (entryFrame m #[(.ref a1)] 1)) t, fun _ k => k, fun t k => castTop (ef_rm9 m a1) k⟩
  have k1 : ∀ t, own_S p e below s₁ (mkF m 1 #[.val (.ref a1)] [(.ref a1)]) t → Gl t := fun t kt => k0 t (by
    show own_S p e below s₁ (mkF m 0 #[.val (.ref a1)] []) _
    refine XS.aloadN X0.here hx rfl (hb hby d_prog_69_method_1_0) rfl rfl ?_
    exact kt)
  obtain ⟨T2, X2, e2, st2⟩ := initO X0 hx hZ hown (hw _ (List.mem_of_getElem? (i := 45) rfl)) (hw _ (List.mem_of_getElem? (i := 16) rfl)) (hw _ (List.mem_of_getElem? (i := 17) rfl)) e0 (g := (mkF m 1 #[.val (.ref a1)] [(.ref a1)])) rfl (by rw [hml]; rfl) rfl (hb hby d_prog_69_method_1_1) (by decide) (W := 0) (by show 2 * 0 + _ ≤ _; exact Nat.le_of_eq rfl) (by decide)
  have k3 : ∀ t, own_S p e below T2 (mkF m 4 #[.val (.ref a1)] []) t → Gl t := fun t kt => k1 t (st2 _ kt)
  have k4 : ∀ t, own_S p e below T2 (mkF m 8 #[.val (.ref a1)] [(.int (4096 : Int32)), (.ref a1)]) t → Gl t := fun t kt => k3 t (by
    show own_S p e below T2 (mkF m 4 #[.val (.ref a1)] []) _
    refine XS.aloadN X2.here hx rfl (hb hby d_prog_69_method_1_4) rfl rfl ?_
    show own_S p e below T2 (mkF m 5 #[.val (.ref a1)] [(.ref a1)]) _
    refine XS.sipush X2.here hx rfl (hb hby d_prog_69_method_1_5) ?_
    exact kt)
  obtain ⟨T5, h5, kk5, X5, e5, E5, A5, st5⟩ := newP X2 hx hZ (hw _ (List.mem_of_getElem? (i := 46) rfl)) e2 (g := (mkF m 8 #[.val (.ref a1)] [(.int (4096 : Int32)), (.ref a1)])) rfl (hb hby d_prog_69_method_1_8) rfl (by decide) (cap := 4096) (by decide) (by decide) (by decide) (by decide)
  obtain ⟨b5, g5⟩ : ∃ z, z = h0.size := ⟨_, rfl⟩
  rw [← g5] at A5 st5
  have sz_b5 : h0.size ≤ b5 := Nat.le_trans (Keep.refl h0 [a1]).1 (Nat.le_of_eq g5.symm)
  have g_b5 : n0 ≤ b5 := Nat.le_trans Z0 (Nat.le_of_eq g5.symm)
  have ne_a1_b5 : a1 ≠ b5 := Nat.ne_of_lt (Nat.lt_of_lt_of_le F0.lt (Nat.le_of_eq g5.symm))
  have Z6 : n0 ≤ h5.size := Nat.le_trans Z0 E5.1
  have K7 : Keep h0 h5 [a1] := (Keep.refl h0 [a1]).ext E5
  have V5 : Arh Z h5 b5 kk5 .long (4096 : Int32) [] [] (.long (0 : Int64)) := (Arv.new A5 (by decide)).arh
  have k8 : ∀ t, own_S p e below T5 (mkF m 10 #[.val (.ref a1)] [(.ref b5), (.ref a1)]) t → Gl t := fun t kt => k4 t (st5 _ kt)
  have f9 := (F0.ext E5)
  have f10 := (E1.ext E5)
  obtain ⟨T11, h11, X11, e11, W11, st11⟩ := putF X5 hx hZ hown (host := "") (Or.inl (hw _ (List.mem_of_getElem? (i := 47) rfl))) Via.refl e5 f9 f10 (Or.inr ⟨(hw _ (List.mem_of_getElem? (i := 48) rfl)), rfl, hnm⟩) (hw _ (List.mem_of_getElem? (i := 35) rfl)) (ty := (.array .long)) (by decide) rfl rfl (g := (mkF m 10 #[.val (.ref a1)] [(.ref b5), (.ref a1)])) rfl rfl (hb hby d_prog_69_method_1_10)
  have Z12 : n0 ≤ h11.size := Nat.le_trans Z6 (Keep.of_wr W11).1
  have K13 : Keep h0 h11 [a1] := K7.wr W11 (Or.inl (List.mem_of_getElem? (i := 0) rfl))
  have Fw11 := f9.same W11
  have N14 := Fr.snoc X11 N0 g_a1
  have k15 : ∀ t, own_S p e below T11 (mkF m 13 #[.val (.ref a1)] []) t → Gl t := fun t kt => k8 t (st11 _ kt)
  have k16 : ∀ t, own_S p e below T11 (mkF m 15 #[.val (.ref a1)] [(.int (2 : Int32)), (.ref a1)]) t → Gl t := fun t kt => k15 t (by
    show own_S p e below T11 (mkF m 13 #[.val (.ref a1)] []) _
    refine XS.aloadN X11.here hx rfl (hb hby d_prog_69_method_1_13) rfl rfl ?_
    show own_S p e below T11 (mkF m 14 #[.val (.ref a1)] [(.ref a1)]) _
    refine XS.iconst X11.here hx rfl (hb hby d_prog_69_method_1_14) ?_
    exact kt)
  obtain ⟨T17, h17, kk17, X17, e17, E17, A17, st17⟩ := newP X11 hx hZ (hw _ (List.mem_of_getElem? (i := 49) rfl)) e11 (g := (mkF m 15 #[.val (.ref a1)] [(.int (2 : Int32)), (.ref a1)])) rfl (hb hby d_prog_69_method_1_15) rfl (by decide) (cap := 2) (by decide) (by decide) (by decide) (by decide)
  obtain ⟨b17, g17⟩ : ∃ z, z = h11.size := ⟨_, rfl⟩
  rw [← g17] at A17 st17
  have sz_b17 : h0.size ≤ b17 := Nat.le_trans K13.1 (Nat.le_of_eq g17.symm)
  have g_b17 : n0 ≤ b17 := Nat.le_trans Z12 (Nat.le_of_eq g17.symm)
  have ne_a1_b17 : a1 ≠ b17 := Nat.ne_of_lt (Nat.lt_of_lt_of_le Fw11.lt (Nat.le_of_eq g17.symm))
  have f18 := (V5.other W11 (Ne.symm ne_a1_b5))
  have ne_b5_b17 : b5 ≠ b17 := Nat.ne_of_lt (Nat.lt_of_lt_of_le f18.lt (Nat.le_of_eq g17.symm))
  have Z19 : n0 ≤ h17.size := Nat.le_trans Z12 E17.1
  have K20 : Keep h0 h17 [a1] := K13.ext E17
  have V17 : Arv Z h17 b17 kk17 .int (2 : Int32) [(.int (0 : Int32)), (.int (0 : Int32))] (.int (0 : Int32)) := (Arv.new A17 (by decide)).pad (pad_rep [] (.int (0 : Int32)) 2)
  have k21 : ∀ t, own_S p e below T17 (mkF m 17 #[.val (.ref a1)] [(.ref b17), (.ref a1)]) t → Gl t := fun t kt => k16 t (st17 _ kt)
  have f22 := (((F1.ext E5).other W11 (Or.inr (slot_ne (Or.inl (hw _ (List.mem_of_getElem? (i := 51) rfl))) (Or.inr (hw _ (List.mem_of_getElem? (i := 48) rfl))) (by decide) (t := (.array .int)) (t' := (.array .long)) (by decide) (by decide)))).ext E17)
  have f23 := ((f10.wr W11).ext E17)
  obtain ⟨T24, h24, X24, e24, W24, st24⟩ := putF X17 hx hZ hown (host := "") (Or.inl (hw _ (List.mem_of_getElem? (i := 50) rfl))) Via.refl e17 f22 f23 (Or.inl (hw _ (List.mem_of_getElem? (i := 51) rfl))) (hw _ (List.mem_of_getElem? (i := 35) rfl)) (ty := (.array .int)) (by decide) rfl rfl (g := (mkF m 17 #[.val (.ref a1)] [(.ref b17), (.ref a1)])) rfl rfl (hb hby d_prog_69_method_1_17)
  have Z25 : n0 ≤ h24.size := Nat.le_trans Z19 (Keep.of_wr W24).1
  have K26 : Keep h0 h24 [a1] := K20.wr W24 (Or.inl (List.mem_of_getElem? (i := 0) rfl))
  have Fw24 := f22.same W24
  have N27 := Fr.snoc X24 N14 g_a1
  have k28 : ∀ t, own_S p e below T24 (mkF m 20 #[.val (.ref a1)] []) t → Gl t := fun t kt => k21 t (st24 _ kt)
  have k29 : ∀ t, own_S p e below T24 (mkF m 22 #[.val (.ref a1)] [(.int (2 : Int32)), (.ref a1)]) t → Gl t := fun t kt => k28 t (by
    show own_S p e below T24 (mkF m 20 #[.val (.ref a1)] []) _
    refine XS.aloadN X24.here hx rfl (hb hby d_prog_69_method_1_20) rfl rfl ?_
    show own_S p e below T24 (mkF m 21 #[.val (.ref a1)] [(.ref a1)]) _
    refine XS.iconst X24.here hx rfl (hb hby d_prog_69_method_1_21) ?_
    exact kt)
  obtain ⟨T30, h30, kk30, X30, e30, E30, A30, st30⟩ := newP X24 hx hZ (hw _ (List.mem_of_getElem? (i := 49) rfl)) e24 (g := (mkF m 22 #[.val (.ref a1)] [(.int (2 : Int32)), (.ref a1)])) rfl (hb hby d_prog_69_method_1_22) rfl (by decide) (cap := 2) (by decide) (by decide) (by decide) (by decide)
  obtain ⟨b30, g30⟩ : ∃ z, z = h24.size := ⟨_, rfl⟩
  rw [← g30] at A30 st30
  have sz_b30 : h0.size ≤ b30 := Nat.le_trans K26.1 (Nat.le_of_eq g30.symm)
  have g_b30 : n0 ≤ b30 := Nat.le_trans Z25 (Nat.le_of_eq g30.symm)
  have f31 := ((Fw11.ext E17).other W24 (Or.inr (slot_ne (Or.inr (hw _ (List.mem_of_getElem? (i := 48) rfl))) (Or.inl (hw _ (List.mem_of_getElem? (i := 51) rfl))) (by decide) (t := (.array .long)) (t' := (.array .int)) (by decide) (by decide))))
  have ne_a1_b30 : a1 ≠ b30 := Nat.ne_of_lt (Nat.lt_of_lt_of_le f31.lt (Nat.le_of_eq g30.symm))
  have f32 := ((f18.ext E17).other W24 (Ne.symm ne_a1_b5))
  have ne_b5_b30 : b5 ≠ b30 := Nat.ne_of_lt (Nat.lt_of_lt_of_le f32.lt (Nat.le_of_eq g30.symm))
  have f33 := (V17.other W24 (Ne.symm ne_a1_b17))
  have ne_b17_b30 : b17 ≠ b30 := Nat.ne_of_lt (Nat.lt_of_lt_of_le f33.lt (Nat.le_of_eq g30.symm))
  have Z34 : n0 ≤ h30.size := Nat.le_trans Z25 E30.1
  have K35 : Keep h0 h30 [a1] := K26.ext E30
  have V30 : Arv Z h30 b30 kk30 .int (2 : Int32) [(.int (0 : Int32)), (.int (0 : Int32))] (.int (0 : Int32)) := (Arv.new A30 (by decide)).pad (pad_rep [] (.int (0 : Int32)) 2)
  have k36 : ∀ t, own_S p e below T30 (mkF m 24 #[.val (.ref a1)] [(.ref b30), (.ref a1)]) t → Gl t := fun t kt => k29 t (st30 _ kt)
  have f37 := (((((F2.ext E5).other W11 (Or.inr (slot_ne (Or.inl (hw _ (List.mem_of_getElem? (i := 53) rfl))) (Or.inr (hw _ (List.mem_of_getElem? (i := 48) rfl))) (by decide) (t := (.array .int)) (t' := (.array .long)) (by decide) (by decide)))).ext E17).other W24 (Or.inr (slot_ne (Or.inl (hw _ (List.mem_of_getElem? (i := 53) rfl))) (Or.inl (hw _ (List.mem_of_getElem? (i := 51) rfl))) (by decide) (t := (.array .int)) (t' := (.array .int)) (by decide) (by decide)))).ext E30)
  have f38 := ((f23.wr W24).ext E30)
  obtain ⟨T39, h39, X39, e39, W39, st39⟩ := putF X30 hx hZ hown (host := "") (Or.inl (hw _ (List.mem_of_getElem? (i := 52) rfl))) Via.refl e30 f37 f38 (Or.inl (hw _ (List.mem_of_getElem? (i := 53) rfl))) (hw _ (List.mem_of_getElem? (i := 35) rfl)) (ty := (.array .int)) (by decide) rfl rfl (g := (mkF m 24 #[.val (.ref a1)] [(.ref b30), (.ref a1)])) rfl rfl (hb hby d_prog_69_method_1_24)
  have Z40 : n0 ≤ h39.size := Nat.le_trans Z34 (Keep.of_wr W39).1
  have K41 : Keep h0 h39 [a1] := K35.wr W39 (Or.inl (List.mem_of_getElem? (i := 0) rfl))
  have Fw39 := f37.same W39
  have N42 := Fr.snoc X39 N27 g_a1
  have k43 : ∀ t, own_S p e below T39 (mkF m 27 #[.val (.ref a1)] []) t → Gl t := fun t kt => k36 t (st39 _ kt)
  have k44 : ∀ t, own_S p e below T39 (mkF m 29 #[.val (.ref a1)] [(.int (2 : Int32)), (.ref a1)]) t → Gl t := fun t kt => k43 t (by
    show own_S p e below T39 (mkF m 27 #[.val (.ref a1)] []) _
    refine XS.aloadN X39.here hx rfl (hb hby d_prog_69_method_1_27) rfl rfl ?_
    show own_S p e below T39 (mkF m 28 #[.val (.ref a1)] [(.ref a1)]) _
    refine XS.iconst X39.here hx rfl (hb hby d_prog_69_method_1_28) ?_
    exact kt)
  obtain ⟨T45, h45, kk45, X45, e45, E45, A45, st45⟩ := newP X39 hx hZ (hw _ (List.mem_of_getElem? (i := 46) rfl)) e39 (g := (mkF m 29 #[.val (.ref a1)] [(.int (2 : Int32)), (.ref a1)])) rfl (hb hby d_prog_69_method_1_29) rfl (by decide) (cap := 2) (by decide) (by decide) (by decide) (by decide)
  obtain ⟨b45, g45⟩ : ∃ z, z = h39.size := ⟨_, rfl⟩
  rw [← g45] at A45 st45
  have sz_b45 : h0.size ≤ b45 := Nat.le_trans K41.1 (Nat.le_of_eq g45.symm)
  have g_b45 : n0 ≤ b45 := Nat.le_trans Z40 (Nat.le_of_eq g45.symm)
  have f46 := ((f31.ext E30).other W39 (Or.inr (slot_ne (Or.inr (hw _ (List.mem_of_getElem? (i := 48) rfl))) (Or.inl (hw _ (List.mem_of_getElem? (i := 53) rfl))) (by decide) (t := (.array .long)) (t' := (.array .int)) (by decide) (by decide))))
  have ne_a1_b45 : a1 ≠ b45 := Nat.ne_of_lt (Nat.lt_of_lt_of_le f46.lt (Nat.le_of_eq g45.symm))
  have f47 := ((f32.ext E30).other W39 (Ne.symm ne_a1_b5))
  have ne_b5_b45 : b5 ≠ b45 := Nat.ne_of_lt (Nat.lt_of_lt_of_le f47.lt (Nat.le_of_eq g45.symm))
  have f48 := ((f33.ext E30).other W39 (Ne.symm ne_a1_b17))
  have ne_b17_b45 : b17 ≠ b45 := Nat.ne_of_lt (Nat.lt_of_lt_of_le f48.lt (Nat.le_of_eq g45.symm))
  have f49 := (V30.other W39 (Ne.symm ne_a1_b30))
  have ne_b30_b45 : b30 ≠ b45 := Nat.ne_of_lt (Nat.lt_of_lt_of_le f49.lt (Nat.le_of_eq g45.symm))
  have Z50 : n0 ≤ h45.size := Nat.le_trans Z40 E45.1
  have K51 : Keep h0 h45 [a1] := K41.ext E45
  have V45 : Arv Z h45 b45 kk45 .long (2 : Int32) [(.long (0 : Int64)), (.long (0 : Int64))] (.long (0 : Int64)) := (Arv.new A45 (by decide)).pad (pad_rep [] (.long (0 : Int64)) 2)
  have k52 : ∀ t, own_S p e below T45 (mkF m 31 #[.val (.ref a1)] [(.ref b45), (.ref a1)]) t → Gl t := fun t kt => k44 t (st45 _ kt)
  have f53 := (((((((F3.ext E5).other W11 (Or.inr (slot_ne (Or.inl (hw _ (List.mem_of_getElem? (i := 55) rfl))) (Or.inr (hw _ (List.mem_of_getElem? (i := 48) rfl))) (by decide) (t := (.array .long)) (t' := (.array .long)) (by decide) (by decide)))).ext E17).other W24 (Or.inr (slot_ne (Or.inl (hw _ (List.mem_of_getElem? (i := 55) rfl))) (Or.inl (hw _ (List.mem_of_getElem? (i := 51) rfl))) (by decide) (t := (.array .long)) (t' := (.array .int)) (by decide) (by decide)))).ext E30).other W39 (Or.inr (slot_ne (Or.inl (hw _ (List.mem_of_getElem? (i := 55) rfl))) (Or.inl (hw _ (List.mem_of_getElem? (i := 53) rfl))) (by decide) (t := (.array .long)) (t' := (.array .int)) (by decide) (by decide)))).ext E45)
  have f54 := ((f38.wr W39).ext E45)
  obtain ⟨T55, h55, X55, e55, W55, st55⟩ := putF X45 hx hZ hown (host := "") (Or.inl (hw _ (List.mem_of_getElem? (i := 54) rfl))) Via.refl e45 f53 f54 (Or.inl (hw _ (List.mem_of_getElem? (i := 55) rfl))) (hw _ (List.mem_of_getElem? (i := 35) rfl)) (ty := (.array .long)) (by decide) rfl rfl (g := (mkF m 31 #[.val (.ref a1)] [(.ref b45), (.ref a1)])) rfl rfl (hb hby d_prog_69_method_1_31)
  have Z56 : n0 ≤ h55.size := Nat.le_trans Z50 (Keep.of_wr W55).1
  have K57 : Keep h0 h55 [a1] := K51.wr W55 (Or.inl (List.mem_of_getElem? (i := 0) rfl))
  have Fw55 := f53.same W55
  have N58 := Fr.snoc X55 N42 g_a1
  have k59 : ∀ t, own_S p e below T55 (mkF m 34 #[.val (.ref a1)] []) t → Gl t := fun t kt => k52 t (st55 _ kt)
  obtain ⟨fs, hr, hrun, hended, hW, hsame⟩ := X55.leave (v := none) (fun _ => rfl)
  refine ⟨_, _, hGl _ (k59 _ (X55.returnOut hx Bd.returns (hb hby d_prog_69_method_1_34) hr)), hrun, hended, _, _, rfl, ?_, ⟨_, rfl⟩, hW, hsame.mono (by decide) (by decide)⟩
  show Q9 Z a1 h0 n0 _ T55.heap _
  rw [e55]
  have f60 := (f54.wr W55)
  have f61 := ((((((((F4.ext E5).other W11 (Or.inr (slot_ne (Or.inr (hw _ (List.mem_of_getElem? (i := 57) rfl))) (Or.inr (hw _ (List.mem_of_getElem? (i := 48) rfl))) (by decide) (t := (.array .long)) (t' := (.array .long)) (by decide) (by decide)))).ext E17).other W24 (Or.inr (slot_ne (Or.inr (hw _ (List.mem_of_getElem? (i := 57) rfl))) (Or.inl (hw _ (List.mem_of_getElem? (i := 51) rfl))) (by decide) (t := (.array .long)) (t' := (.array .int)) (by decide) (by decide)))).ext E30).other W39 (Or.inr (slot_ne (Or.inr (hw _ (List.mem_of_getElem? (i := 57) rfl))) (Or.inl (hw _ (List.mem_of_getElem? (i := 53) rfl))) (by decide) (t := (.array .long)) (t' := (.array .int)) (by decide) (by decide)))).ext E45).other W55 (Or.inr (slot_ne (Or.inr (hw _ (List.mem_of_getElem? (i := 57) rfl))) (Or.inl (hw _ (List.mem_of_getElem? (i := 55) rfl))) (by decide) (t := (.array .long)) (t' := (.array .long)) (by decide) (by decide))))
  have f62 := ((((((((F5.ext E5).other W11 (Or.inr (slot_ne (Or.inr (hw _ (List.mem_of_getElem? (i := 59) rfl))) (Or.inr (hw _ (List.mem_of_getElem? (i := 48) rfl))) (by decide) (t := (.array .char)) (t' := (.array .long)) (by decide) (by decide)))).ext E17).other W24 (Or.inr (slot_ne (Or.inr (hw _ (List.mem_of_getElem? (i := 59) rfl))) (Or.inl (hw _ (List.mem_of_getElem? (i := 51) rfl))) (by decide) (t := (.array .char)) (t' := (.array .int)) (by decide) (by decide)))).ext E30).other W39 (Or.inr (slot_ne (Or.inr (hw _ (List.mem_of_getElem? (i := 59) rfl))) (Or.inl (hw _ (List.mem_of_getElem? (i := 53) rfl))) (by decide) (t := (.array .char)) (t' := (.array .int)) (by decide) (by decide)))).ext E45).other W55 (Or.inr (slot_ne (Or.inr (hw _ (List.mem_of_getElem? (i := 59) rfl))) (Or.inl (hw _ (List.mem_of_getElem? (i := 55) rfl))) (by decide) (t := (.array .char)) (t' := (.array .long)) (by decide) (by decide))))
  have f63 := ((((((((F6.ext E5).other W11 (Or.inr (slot_ne (Or.inr (hw _ (List.mem_of_getElem? (i := 61) rfl))) (Or.inr (hw _ (List.mem_of_getElem? (i := 48) rfl))) (by decide) (t := (.array .int)) (t' := (.array .long)) (by decide) (by decide)))).ext E17).other W24 (Or.inr (slot_ne (Or.inr (hw _ (List.mem_of_getElem? (i := 61) rfl))) (Or.inl (hw _ (List.mem_of_getElem? (i := 51) rfl))) (by decide) (t := (.array .int)) (t' := (.array .int)) (by decide) (by decide)))).ext E30).other W39 (Or.inr (slot_ne (Or.inr (hw _ (List.mem_of_getElem? (i := 61) rfl))) (Or.inl (hw _ (List.mem_of_getElem? (i := 53) rfl))) (by decide) (t := (.array .int)) (t' := (.array .int)) (by decide) (by decide)))).ext E45).other W55 (Or.inr (slot_ne (Or.inr (hw _ (List.mem_of_getElem? (i := 61) rfl))) (Or.inl (hw _ (List.mem_of_getElem? (i := 55) rfl))) (by decide) (t := (.array .int)) (t' := (.array .long)) (by decide) (by decide))))
  have f64 := ((((((((F7.ext E5).other W11 (Or.inr (slot_ne (Or.inr (hw _ (List.mem_of_getElem? (i := 63) rfl))) (Or.inr (hw _ (List.mem_of_getElem? (i := 48) rfl))) (by decide) (t := (.array .long)) (t' := (.array .long)) (by decide) (by decide)))).ext E17).other W24 (Or.inr (slot_ne (Or.inr (hw _ (List.mem_of_getElem? (i := 63) rfl))) (Or.inl (hw _ (List.mem_of_getElem? (i := 51) rfl))) (by decide) (t := (.array .long)) (t' := (.array .int)) (by decide) (by decide)))).ext E30).other W39 (Or.inr (slot_ne (Or.inr (hw _ (List.mem_of_getElem? (i := 63) rfl))) (Or.inl (hw _ (List.mem_of_getElem? (i := 53) rfl))) (by decide) (t := (.array .long)) (t' := (.array .int)) (by decide) (by decide)))).ext E45).other W55 (Or.inr (slot_ne (Or.inr (hw _ (List.mem_of_getElem? (i := 63) rfl))) (Or.inl (hw _ (List.mem_of_getElem? (i := 55) rfl))) (by decide) (t := (.array .long)) (t' := (.array .long)) (by decide) (by decide))))
  have f65 := ((((((((F8.ext E5).other W11 (Or.inr (slot_ne (Or.inr (hw _ (List.mem_of_getElem? (i := 65) rfl))) (Or.inr (hw _ (List.mem_of_getElem? (i := 48) rfl))) (by decide) (t := (.array .long)) (t' := (.array .long)) (by decide) (by decide)))).ext E17).other W24 (Or.inr (slot_ne (Or.inr (hw _ (List.mem_of_getElem? (i := 65) rfl))) (Or.inl (hw _ (List.mem_of_getElem? (i := 51) rfl))) (by decide) (t := (.array .long)) (t' := (.array .int)) (by decide) (by decide)))).ext E30).other W39 (Or.inr (slot_ne (Or.inr (hw _ (List.mem_of_getElem? (i := 65) rfl))) (Or.inl (hw _ (List.mem_of_getElem? (i := 53) rfl))) (by decide) (t := (.array .long)) (t' := (.array .int)) (by decide) (by decide)))).ext E45).other W55 (Or.inr (slot_ne (Or.inr (hw _ (List.mem_of_getElem? (i := 65) rfl))) (Or.inl (hw _ (List.mem_of_getElem? (i := 55) rfl))) (by decide) (t := (.array .long)) (t' := (.array .long)) (by decide) (by decide))))
  have f66 := ((((((((F9.ext E5).other W11 (Or.inr (slot_ne (Or.inr (hw _ (List.mem_of_getElem? (i := 67) rfl))) (Or.inr (hw _ (List.mem_of_getElem? (i := 48) rfl))) (by decide) (t := (.array .int)) (t' := (.array .long)) (by decide) (by decide)))).ext E17).other W24 (Or.inr (slot_ne (Or.inr (hw _ (List.mem_of_getElem? (i := 67) rfl))) (Or.inl (hw _ (List.mem_of_getElem? (i := 51) rfl))) (by decide) (t := (.array .int)) (t' := (.array .int)) (by decide) (by decide)))).ext E30).other W39 (Or.inr (slot_ne (Or.inr (hw _ (List.mem_of_getElem? (i := 67) rfl))) (Or.inl (hw _ (List.mem_of_getElem? (i := 53) rfl))) (by decide) (t := (.array .int)) (t' := (.array .int)) (by decide) (by decide)))).ext E45).other W55 (Or.inr (slot_ne (Or.inr (hw _ (List.mem_of_getElem? (i := 67) rfl))) (Or.inl (hw _ (List.mem_of_getElem? (i := 55) rfl))) (by decide) (t := (.array .int)) (t' := (.array .long)) (by decide) (by decide))))
  have f67 := ((((((((F10.ext E5).other W11 (Or.inr (slot_ne (Or.inl (hw _ (List.mem_of_getElem? (i := 75) rfl))) (Or.inr (hw _ (List.mem_of_getElem? (i := 48) rfl))) (by decide) (t := (.array (.object "java/lang/String"))) (t' := (.array .long)) (by decide) (by decide)))).ext E17).other W24 (Or.inr (slot_ne (Or.inl (hw _ (List.mem_of_getElem? (i := 75) rfl))) (Or.inl (hw _ (List.mem_of_getElem? (i := 51) rfl))) (by decide) (t := (.array (.object "java/lang/String"))) (t' := (.array .int)) (by decide) (by decide)))).ext E30).other W39 (Or.inr (slot_ne (Or.inl (hw _ (List.mem_of_getElem? (i := 75) rfl))) (Or.inl (hw _ (List.mem_of_getElem? (i := 53) rfl))) (by decide) (t := (.array (.object "java/lang/String"))) (t' := (.array .int)) (by decide) (by decide)))).ext E45).other W55 (Or.inr (slot_ne (Or.inl (hw _ (List.mem_of_getElem? (i := 75) rfl))) (Or.inl (hw _ (List.mem_of_getElem? (i := 55) rfl))) (by decide) (t := (.array (.object "java/lang/String"))) (t' := (.array .long)) (by decide) (by decide))))
  have f68 := ((((((((F11.ext E5).other W11 (Or.inr (slot_ne (Or.inl (hw _ (List.mem_of_getElem? (i := 79) rfl))) (Or.inr (hw _ (List.mem_of_getElem? (i := 48) rfl))) (by decide) (t := (.array (.object "java/lang/String"))) (t' := (.array .long)) (by decide) (by decide)))).ext E17).other W24 (Or.inr (slot_ne (Or.inl (hw _ (List.mem_of_getElem? (i := 79) rfl))) (Or.inl (hw _ (List.mem_of_getElem? (i := 51) rfl))) (by decide) (t := (.array (.object "java/lang/String"))) (t' := (.array .int)) (by decide) (by decide)))).ext E30).other W39 (Or.inr (slot_ne (Or.inl (hw _ (List.mem_of_getElem? (i := 79) rfl))) (Or.inl (hw _ (List.mem_of_getElem? (i := 53) rfl))) (by decide) (t := (.array (.object "java/lang/String"))) (t' := (.array .int)) (by decide) (by decide)))).ext E45).other W55 (Or.inr (slot_ne (Or.inl (hw _ (List.mem_of_getElem? (i := 79) rfl))) (Or.inl (hw _ (List.mem_of_getElem? (i := 55) rfl))) (by decide) (t := (.array (.object "java/lang/String"))) (t' := (.array .long)) (by decide) (by decide))))
  exact ⟨rfl, N58, K57, f60, f61, f62, f63, f64, f65, f66, f67, f68⟩

theorem d_prog_74_method_1_0 : decode prog_74_method_1_code 0 = .ok (.aload_n 0, 1) := by decide +kernel
theorem d_prog_74_method_1_1 : decode prog_74_method_1_code 1 = .ok (.invokespecial 3, 3) := by decide +kernel
theorem d_prog_74_method_1_4 : decode prog_74_method_1_code 4 = .ok (.aload_n 0, 1) := by decide +kernel
theorem d_prog_74_method_1_5 : decode prog_74_method_1_code 5 = .ok (.sipush 4096, 3) := by decide +kernel
theorem d_prog_74_method_1_8 : decode prog_74_method_1_code 8 = .ok (.newarray .long, 2) := by decide +kernel
theorem d_prog_74_method_1_10 : decode prog_74_method_1_code 10 = .ok (.putfield 9, 3) := by decide +kernel
theorem d_prog_74_method_1_13 : decode prog_74_method_1_code 13 = .ok (.aload_n 0, 1) := by decide +kernel
theorem d_prog_74_method_1_14 : decode prog_74_method_1_code 14 = .ok (.sipush 4096, 3) := by decide +kernel
theorem d_prog_74_method_1_17 : decode prog_74_method_1_code 17 = .ok (.newarray .char, 2) := by decide +kernel
theorem d_prog_74_method_1_19 : decode prog_74_method_1_code 19 = .ok (.putfield 15, 3) := by decide +kernel
theorem d_prog_74_method_1_22 : decode prog_74_method_1_code 22 = .ok (.aload_n 0, 1) := by decide +kernel
theorem d_prog_74_method_1_23 : decode prog_74_method_1_code 23 = .ok (.sipush 4096, 3) := by decide +kernel
theorem d_prog_74_method_1_26 : decode prog_74_method_1_code 26 = .ok (.newarray .int, 2) := by decide +kernel
theorem d_prog_74_method_1_28 : decode prog_74_method_1_code 28 = .ok (.putfield 19, 3) := by decide +kernel
theorem d_prog_74_method_1_31 : decode prog_74_method_1_code 31 = .ok (.aload_n 0, 1) := by decide +kernel
theorem d_prog_74_method_1_32 : decode prog_74_method_1_code 32 = .ok (.sipush 4096, 3) := by decide +kernel
theorem d_prog_74_method_1_35 : decode prog_74_method_1_code 35 = .ok (.newarray .long, 2) := by decide +kernel
theorem d_prog_74_method_1_37 : decode prog_74_method_1_code 37 = .ok (.putfield 23, 3) := by decide +kernel
theorem d_prog_74_method_1_40 : decode prog_74_method_1_code 40 = .ok (.aload_n 0, 1) := by decide +kernel
theorem d_prog_74_method_1_41 : decode prog_74_method_1_code 41 = .ok (.sipush 4096, 3) := by decide +kernel
theorem d_prog_74_method_1_44 : decode prog_74_method_1_code 44 = .ok (.newarray .long, 2) := by decide +kernel
theorem d_prog_74_method_1_46 : decode prog_74_method_1_code 46 = .ok (.putfield 26, 3) := by decide +kernel
theorem d_prog_74_method_1_49 : decode prog_74_method_1_code 49 = .ok (.aload_n 0, 1) := by decide +kernel
theorem d_prog_74_method_1_50 : decode prog_74_method_1_code 50 = .ok (.sipush 4096, 3) := by decide +kernel
theorem d_prog_74_method_1_53 : decode prog_74_method_1_code 53 = .ok (.newarray .int, 2) := by decide +kernel
theorem d_prog_74_method_1_55 : decode prog_74_method_1_code 55 = .ok (.putfield 29, 3) := by decide +kernel
theorem d_prog_74_method_1_58 : decode prog_74_method_1_code 58 = .ok (.return_, 1) := by decide +kernel
theorem pn_2 : plainName "com/example/pricecollar/pricecollar/tape/TradeTape$Columns" = true := by first | (simp [plainName, overriddenIn]; done) | decide +kernel
theorem pd_1 : parseMethodDescriptor "()V" = some ⟨[], none⟩ := by decide +kernel
theorem ef_rm8 (m : MethodId) (x0 : Addr) : entryFrame m #[(.ref x0)] 1 = mkF m 0 #[.val (.ref x0)] [] := by first | (simp [entryFrame, mkF, argsToLocals, Value.category]; done) | rfl
def Q8 (Z : State) (a1 : Addr) (h0 : Heap) (n0 : Nat) (v : Option Value) (h : Heap) (L : List Loc) : Prop := v = none ∧ Fr n0 L ∧ ∃ (b : Addr) (kk : ClassId), n0 ≤ b ∧ a1 ≠ b ∧ Keep h0 h [a1] ∧ Exa Z h a1 "com/example/pricecollar/pricecollar/tape/TradeTape$Columns" ∧ Fld Z h a1 "com/example/pricecollar/pricecollar/tape/TradeTape$Columns" "conditionsNumbers" "[I" (.ref b) ∧ Arh Z h b kk .int (4096 : Int32) [] [] (.int (0 : Int32)) ∧ Fld Z h a1 "com/example/pricecollar/pricecollar/tape/TradeTape$Columns" "unnumberedSymbols" "[Ljava/lang/String;" .null ∧ Fld Z h a1 "com/example/pricecollar/pricecollar/tape/TradeTape$Columns" "unnumberedConditions" "[Ljava/lang/String;" .null
set_option maxRecDepth 65536 in
set_option maxHeartbeats 40000000 in
theorem rm8 (l : Launch) (Z : State) (a0 : Array Value) (hw : ∀ d ∈ tables_1, d.before a0 Z = true) (ws : List Jvm.Cond) (a1 : Addr) (h0 : Heap) (n0 : Nat) (Z0 : n0 ≤ h0.size) (F0 : Fld Z h0 a1 "com/example/pricecollar/pricecollar/tape/Tape$Batch" "times" "[J" .null) (F1 : Fld Z h0 a1 "com/example/pricecollar/pricecollar/tape/Tape$Batch" "runRows" "[I" .null) (F2 : Fld Z h0 a1 "com/example/pricecollar/pricecollar/tape/Tape$Batch" "runFiles" "[I" .null) (F3 : Fld Z h0 a1 "com/example/pricecollar/pricecollar/tape/Tape$Batch" "runLines" "[J" .null) (F4 : Fld Z h0 a1 "com/example/pricecollar/pricecollar/tape/TradeTape$Columns" "symbolKeys" "[J" .null) (F5 : Fld Z h0 a1 "com/example/pricecollar/pricecollar/tape/TradeTape$Columns" "exchanges" "[C" .null) (F6 : Fld Z h0 a1 "com/example/pricecollar/pricecollar/tape/TradeTape$Columns" "conditionsNumbers" "[I" .null) (F7 : Fld Z h0 a1 "com/example/pricecollar/pricecollar/tape/TradeTape$Columns" "sizes" "[J" .null) (F8 : Fld Z h0 a1 "com/example/pricecollar/pricecollar/tape/TradeTape$Columns" "prices" "[J" .null) (F9 : Fld Z h0 a1 "com/example/pricecollar/pricecollar/tape/TradeTape$Columns" "corrections" "[I" .null) (F10 : Fld Z h0 a1 "com/example/pricecollar/pricecollar/tape/TradeTape$Columns" "unnumberedSymbols" "[Ljava/lang/String;" .null) (F11 : Fld Z h0 a1 "com/example/pricecollar/pricecollar/tape/TradeTape$Columns" "unnumberedConditions" "[Ljava/lang/String;" .null) (E1 : Exa Z h0 a1 "com/example/pricecollar/pricecollar/tape/TradeTape$Columns") (g_a1 : n0 ≤ a1) :
    MetFree l (⟨"com/example/pricecollar/pricecollar/tape/TradeTape$Columns", "<init>", "()V"⟩ : MethodName) (head1 (Jvm.Cond.code (⟨"com/example/pricecollar/pricecollar/tape/TradeTape$Columns", "<init>", "()V"⟩ : MethodName) prog_74_method_1_code 1 none :: ws) ({ frames := 2, cells := 10, slots := 28678, locals := 24 } : Room)) (fun a U => a = #[(.ref a1)] ∧ Z.Warmed39 U.vm ∧ U.heap = h0) (fun _ _ _ _ _ => True) (fun _ U o U' => ∃ v L, o = .returned v ∧ Q8 Z a1 h0 n0 v U'.heap L ∧ FrameEnd U o U' L ({ frames := 2, cells := 10, slots := 28678, locals := 24 } : Room).cells ({ frames := 2, cells := 10, slots := 28678, locals := 24 } : Room).slots) := by
  refine MetFree.of_bodySF (plainFor_of_name pn_2) hisR ?_
  intro p e s m args below meth c s₁ Bd hml0 hP hK
  obtain ⟨rfl, hZ, hh⟩ := hP
  have hx := Bd.exec
  have hby := Bd.bytes
  have hml : c.maxLocals = 1 := hml0
  have hown : s.vm.findClass "com/example/pricecollar/pricecollar/tape/TradeTape$Columns" = some m.cls := findClass_of_methodNamed Bd.named
  have hnm := (name_of_methodNamed Bd.named Bd.method).1
  have X0 : Stand p l e ({ frames := 2, cells := 10, slots := 28678, locals := 24 } : Room) s m #[(.ref a1)] below meth c s₁ [] 0 0 := Stand.of_body Bd
  have e0 : s₁.heap = h0 := by rw [← hh, Bd.state]; rfl
  have N0 := Fr.nil n0
  obtain ⟨Gl, hGl, k0⟩ : ∃ Gl : State → Prop, (∀ t, Gl t → Steps p.tables e below (s₁.setTop (entryFrame m #[(.ref a1)] 1)) t) ∧ ∀ t, own_S p e below s₁ (mkF m 0 #[.val (.ref a1)] []) t → Gl t := ⟨fun t => Steps p.tables e below (s₁.setTop (entryFrame m #[(.ref a1)] 1)) t, fun _ k => k, fun t k => castTop (ef_rm8 m a1) k⟩
  have k1 : ∀ t, own_S p e below s₁ (mkF m 1 #[.val (.ref a1)] [(.ref a1)]) t → Gl t := fun t kt => k0 t (by
    show own_S p e below s₁ (mkF m 0 #[.val (.ref a1)] []) _
    refine XS.aloadN X0.here hx rfl (hb hby d_prog_74_method_1_0) rfl rfl ?_
    exact kt)
  obtain ⟨_, _, ⟨T2, L2, cc2, ss2⟩, -, X2, ⟨Lc2, hQ2, l2, y2, z2⟩, st2⟩ := X0.specialBack hx (y := (⟨"com/example/pricecollar/pricecollar/tape/Tape$Batch", "<init>", "()V"⟩ : MethodName)) rfl hown (mvT hZ (hw _ (List.mem_of_getElem? (i := 40) rfl))) (mvT hZ (hw _ (List.mem_of_getElem? (i := 41) rfl))) (mvT hZ (hw _ (List.mem_of_getElem? (i := 44) rfl))) (by decide) (backOf (W := 0) (rm9 l Z a0 hw [] a1  h0 n0 Z0 F0 F1 F2 F3 F4 F5 F6 F7 F8 F9 F10 F11 E1 g_a1) hZ (hw _ (List.mem_of_getElem? (i := 44) rfl)) (hw _ (List.mem_of_getElem? (i := 43) rfl)) (by decide) (by decide)) (g := (mkF m 1 #[.val (.ref a1)] [(.ref a1)])) rfl (by rw [hml]; rfl) (Steps.refl _) (a := a1) (argsL := []) (rest := []) (lenOf pd_1 rfl) rfl (by show 2 * 0 + _ ≤ _; exact Nat.le_of_eq rfl) (hb hby d_prog_74_method_1_1) (fun _ _ => ⟨rfl, e0, (by decide : 0 + 4 ≤ _), (by decide : 0 + 4102 ≤ _)⟩)
  dsimp only [Pt.U, Pt.locs, Pt.cells, Pt.slots] at X2 l2 y2 z2 st2 hQ2
  subst l2 y2 z2
  obtain ⟨rfl, Nq2, K2, Ex2, Fl2_4, Fl2_5, Fl2_6, Fl2_7, Fl2_8, Fl2_9, Fl2_10, Fl2_11⟩ := hQ2
  have N2 := Fr.app N0 Nq2
  have Z3 : n0 ≤ T2.heap.size := Nat.le_trans Z0 K2.1
  have K4 : Keep h0 T2.heap [a1] := (Keep.refl h0 [a1]).trans K2 (allS (Or.inl (List.mem_of_getElem? (i := 0) rfl)) all0)
  have k5 : ∀ t, own_S p e below T2 (mkF m 4 #[.val (.ref a1)] []) t → Gl t := fun t kt => k1 t (st2.trans kt)
  have k6 : ∀ t, own_S p e below T2 (mkF m 8 #[.val (.ref a1)] [(.int (4096 : Int32)), (.ref a1)]) t → Gl t := fun t kt => k5 t (by
    show own_S p e below T2 (mkF m 4 #[.val (.ref a1)] []) _
    refine XS.aloadN X2.here hx rfl (hb hby d_prog_74_method_1_4) rfl rfl ?_
    show own_S p e below T2 (mkF m 5 #[.val (.ref a1)] [(.ref a1)]) _
    refine XS.sipush X2.here hx rfl (hb hby d_prog_74_method_1_5) ?_
    exact kt)
  obtain ⟨T7, h7, kk7, X7, e7, E7, A7, st7⟩ := newP X2 hx hZ (hw _ (List.mem_of_getElem? (i := 46) rfl)) rfl (g := (mkF m 8 #[.val (.ref a1)] [(.int (4096 : Int32)), (.ref a1)])) rfl (hb hby d_prog_74_method_1_8) rfl (by decide) (cap := 4096) (by decide) (by decide) (by decide) (by decide)
  obtain ⟨b7, g7⟩ : ∃ z, z = T2.heap.size := ⟨_, rfl⟩
  rw [← g7] at A7 st7
  have sz_b7 : h0.size ≤ b7 := Nat.le_trans K4.1 (Nat.le_of_eq g7.symm)
  have g_b7 : n0 ≤ b7 := Nat.le_trans Z3 (Nat.le_of_eq g7.symm)
  have ne_a1_b7 : a1 ≠ b7 := Nat.ne_of_lt (Nat.lt_of_lt_of_le Fl2_4.lt (Nat.le_of_eq g7.symm))
  have Z8 : n0 ≤ h7.size := Nat.le_trans Z3 E7.1
  have K9 : Keep h0 h7 [a1] := K4.ext E7
  have V7 : Arh Z h7 b7 kk7 .long (4096 : Int32) [] [] (.long (0 : Int64)) := (Arv.new A7 (by decide)).arh
  have k10 : ∀ t, own_S p e below T7 (mkF m 10 #[.val (.ref a1)] [(.ref b7), (.ref a1)]) t → Gl t := fun t kt => k6 t (st7 _ kt)
  have f11 := (Fl2_4.ext E7)
  have f12 := (Ex2.ext E7)
  obtain ⟨T13, h13, X13, e13, W13, st13⟩ := putF X7 hx hZ hown (host := "") (Or.inl (hw _ (List.mem_of_getElem? (i := 56) rfl))) Via.refl e7 f11 f12 (Or.inr ⟨(hw _ (List.mem_of_getElem? (i := 57) rfl)), rfl, hnm⟩) (hw _ (List.mem_of_getElem? (i := 35) rfl)) (ty := (.array .long)) (by decide) rfl rfl (g := (mkF m 10 #[.val (.ref a1)] [(.ref b7), (.ref a1)])) rfl rfl (hb hby d_prog_74_method_1_10)
  have Z14 : n0 ≤ h13.size := Nat.le_trans Z8 (Keep.of_wr W13).1
  have K15 : Keep h0 h13 [a1] := K9.wr W13 (Or.inl (List.mem_of_getElem? (i := 0) rfl))
  have Fw13 := f11.same W13
  have N16 := Fr.snoc X13 N2 g_a1
  have k17 : ∀ t, own_S p e below T13 (mkF m 13 #[.val (.ref a1)] []) t → Gl t := fun t kt => k10 t (st13 _ kt)
  have k18 : ∀ t, own_S p e below T13 (mkF m 17 #[.val (.ref a1)] [(.int (4096 : Int32)), (.ref a1)]) t → Gl t := fun t kt => k17 t (by
    show own_S p e below T13 (mkF m 13 #[.val (.ref a1)] []) _
    refine XS.aloadN X13.here hx rfl (hb hby d_prog_74_method_1_13) rfl rfl ?_
    show own_S p e below T13 (mkF m 14 #[.val (.ref a1)] [(.ref a1)]) _
    refine XS.sipush X13.here hx rfl (hb hby d_prog_74_method_1_14) ?_
    exact kt)
  obtain ⟨T19, h19, kk19, X19, e19, E19, A19, st19⟩ := newP X13 hx hZ (hw _ (List.mem_of_getElem? (i := 4) rfl)) e13 (g := (mkF m 17 #[.val (.ref a1)] [(.int (4096 : Int32)), (.ref a1)])) rfl (hb hby d_prog_74_method_1_17) rfl (by decide) (cap := 4096) (by decide) (by decide) (by decide) (by decide)
  obtain ⟨b19, g19⟩ : ∃ z, z = h13.size := ⟨_, rfl⟩
  rw [← g19] at A19 st19
  have sz_b19 : h0.size ≤ b19 := Nat.le_trans K15.1 (Nat.le_of_eq g19.symm)
  have g_b19 : n0 ≤ b19 := Nat.le_trans Z14 (Nat.le_of_eq g19.symm)
  have ne_a1_b19 : a1 ≠ b19 := Nat.ne_of_lt (Nat.lt_of_lt_of_le Fw13.lt (Nat.le_of_eq g19.symm))
  have f20 := (V7.other W13 (Ne.symm ne_a1_b7))
  have ne_b7_b19 : b7 ≠ b19 := Nat.ne_of_lt (Nat.lt_of_lt_of_le f20.lt (Nat.le_of_eq g19.symm))
  have Z21 : n0 ≤ h19.size := Nat.le_trans Z14 E19.1
  have K22 : Keep h0 h19 [a1] := K15.ext E19
  have V19 : Arh Z h19 b19 kk19 .char (4096 : Int32) [] [] (.int (0 : Int32)) := (Arv.new A19 (by decide)).arh
  have k23 : ∀ t, own_S p e below T19 (mkF m 19 #[.val (.ref a1)] [(.ref b19), (.ref a1)]) t → Gl t := fun t kt => k18 t (st19 _ kt)
  have f24 := (((Fl2_5.ext E7).other W13 (Or.inr (slot_ne (Or.inr (hw _ (List.mem_of_getElem? (i := 59) rfl))) (Or.inr (hw _ (List.mem_of_getElem? (i := 57) rfl))) (by decide) (t := (.array .char)) (t' := (.array .long)) (by decide) (by decide)))).ext E19)
  have f25 := ((f12.wr W13).ext E19)
  obtain ⟨T26, h26, X26, e26, W26, st26⟩ := putF X19 hx hZ hown (host := "") (Or.inl (hw _ (List.mem_of_getElem? (i := 58) rfl))) Via.refl e19 f24 f25 (Or.inr ⟨(hw _ (List.mem_of_getElem? (i := 59) rfl)), rfl, hnm⟩) (hw _ (List.mem_of_getElem? (i := 35) rfl)) (ty := (.array .char)) (by decide) rfl rfl (g := (mkF m 19 #[.val (.ref a1)] [(.ref b19), (.ref a1)])) rfl rfl (hb hby d_prog_74_method_1_19)
  have Z27 : n0 ≤ h26.size := Nat.le_trans Z21 (Keep.of_wr W26).1
  have K28 : Keep h0 h26 [a1] := K22.wr W26 (Or.inl (List.mem_of_getElem? (i := 0) rfl))
  have Fw26 := f24.same W26
  have N29 := Fr.snoc X26 N16 g_a1
  have k30 : ∀ t, own_S p e below T26 (mkF m 22 #[.val (.ref a1)] []) t → Gl t := fun t kt => k23 t (st26 _ kt)
  have k31 : ∀ t, own_S p e below T26 (mkF m 26 #[.val (.ref a1)] [(.int (4096 : Int32)), (.ref a1)]) t → Gl t := fun t kt => k30 t (by
    show own_S p e below T26 (mkF m 22 #[.val (.ref a1)] []) _
    refine XS.aloadN X26.here hx rfl (hb hby d_prog_74_method_1_22) rfl rfl ?_
    show own_S p e below T26 (mkF m 23 #[.val (.ref a1)] [(.ref a1)]) _
    refine XS.sipush X26.here hx rfl (hb hby d_prog_74_method_1_23) ?_
    exact kt)
  obtain ⟨T32, h32, kk32, X32, e32, E32, A32, st32⟩ := newP X26 hx hZ (hw _ (List.mem_of_getElem? (i := 49) rfl)) e26 (g := (mkF m 26 #[.val (.ref a1)] [(.int (4096 : Int32)), (.ref a1)])) rfl (hb hby d_prog_74_method_1_26) rfl (by decide) (cap := 4096) (by decide) (by decide) (by decide) (by decide)
  obtain ⟨b32, g32⟩ : ∃ z, z = h26.size := ⟨_, rfl⟩
  rw [← g32] at A32 st32
  have sz_b32 : h0.size ≤ b32 := Nat.le_trans K28.1 (Nat.le_of_eq g32.symm)
  have g_b32 : n0 ≤ b32 := Nat.le_trans Z27 (Nat.le_of_eq g32.symm)
  have f33 := ((Fw13.ext E19).other W26 (Or.inr (slot_ne (Or.inr (hw _ (List.mem_of_getElem? (i := 57) rfl))) (Or.inr (hw _ (List.mem_of_getElem? (i := 59) rfl))) (by decide) (t := (.array .long)) (t' := (.array .char)) (by decide) (by decide))))
  have ne_a1_b32 : a1 ≠ b32 := Nat.ne_of_lt (Nat.lt_of_lt_of_le f33.lt (Nat.le_of_eq g32.symm))
  have f34 := ((f20.ext E19).other W26 (Ne.symm ne_a1_b7))
  have ne_b7_b32 : b7 ≠ b32 := Nat.ne_of_lt (Nat.lt_of_lt_of_le f34.lt (Nat.le_of_eq g32.symm))
  have f35 := (V19.other W26 (Ne.symm ne_a1_b19))
  have ne_b19_b32 : b19 ≠ b32 := Nat.ne_of_lt (Nat.lt_of_lt_of_le f35.lt (Nat.le_of_eq g32.symm))
  have Z36 : n0 ≤ h32.size := Nat.le_trans Z27 E32.1
  have K37 : Keep h0 h32 [a1] := K28.ext E32
  have V32 : Arh Z h32 b32 kk32 .int (4096 : Int32) [] [] (.int (0 : Int32)) := (Arv.new A32 (by decide)).arh
  have k38 : ∀ t, own_S p e below T32 (mkF m 28 #[.val (.ref a1)] [(.ref b32), (.ref a1)]) t → Gl t := fun t kt => k31 t (st32 _ kt)
  have f39 := (((((Fl2_6.ext E7).other W13 (Or.inr (slot_ne (Or.inr (hw _ (List.mem_of_getElem? (i := 61) rfl))) (Or.inr (hw _ (List.mem_of_getElem? (i := 57) rfl))) (by decide) (t := (.array .int)) (t' := (.array .long)) (by decide) (by decide)))).ext E19).other W26 (Or.inr (slot_ne (Or.inr (hw _ (List.mem_of_getElem? (i := 61) rfl))) (Or.inr (hw _ (List.mem_of_getElem? (i := 59) rfl))) (by decide) (t := (.array .int)) (t' := (.array .char)) (by decide) (by decide)))).ext E32)
  have f40 := ((f25.wr W26).ext E32)
  obtain ⟨T41, h41, X41, e41, W41, st41⟩ := putF X32 hx hZ hown (host := "") (Or.inl (hw _ (List.mem_of_getElem? (i := 60) rfl))) Via.refl e32 f39 f40 (Or.inr ⟨(hw _ (List.mem_of_getElem? (i := 61) rfl)), rfl, hnm⟩) (hw _ (List.mem_of_getElem? (i := 35) rfl)) (ty := (.array .int)) (by decide) rfl rfl (g := (mkF m 28 #[.val (.ref a1)] [(.ref b32), (.ref a1)])) rfl rfl (hb hby d_prog_74_method_1_28)
  have Z42 : n0 ≤ h41.size := Nat.le_trans Z36 (Keep.of_wr W41).1
  have K43 : Keep h0 h41 [a1] := K37.wr W41 (Or.inl (List.mem_of_getElem? (i := 0) rfl))
  have Fw41 := f39.same W41
  have N44 := Fr.snoc X41 N29 g_a1
  have k45 : ∀ t, own_S p e below T41 (mkF m 31 #[.val (.ref a1)] []) t → Gl t := fun t kt => k38 t (st41 _ kt)
  have k46 : ∀ t, own_S p e below T41 (mkF m 35 #[.val (.ref a1)] [(.int (4096 : Int32)), (.ref a1)]) t → Gl t := fun t kt => k45 t (by
    show own_S p e below T41 (mkF m 31 #[.val (.ref a1)] []) _
    refine XS.aloadN X41.here hx rfl (hb hby d_prog_74_method_1_31) rfl rfl ?_
    show own_S p e below T41 (mkF m 32 #[.val (.ref a1)] [(.ref a1)]) _
    refine XS.sipush X41.here hx rfl (hb hby d_prog_74_method_1_32) ?_
    exact kt)
  obtain ⟨T47, h47, kk47, X47, e47, E47, A47, st47⟩ := newP X41 hx hZ (hw _ (List.mem_of_getElem? (i := 46) rfl)) e41 (g := (mkF m 35 #[.val (.ref a1)] [(.int (4096 : Int32)), (.ref a1)])) rfl (hb hby d_prog_74_method_1_35) rfl (by decide) (cap := 4096) (by decide) (by decide) (by decide) (by decide)
  obtain ⟨b47, g47⟩ : ∃ z, z = h41.size := ⟨_, rfl⟩
  rw [← g47] at A47 st47
  have sz_b47 : h0.size ≤ b47 := Nat.le_trans K43.1 (Nat.le_of_eq g47.symm)
  have g_b47 : n0 ≤ b47 := Nat.le_trans Z42 (Nat.le_of_eq g47.symm)
  have f48 := ((f33.ext E32).other W41 (Or.inr (slot_ne (Or.inr (hw _ (List.mem_of_getElem? (i := 57) rfl))) (Or.inr (hw _ (List.mem_of_getElem? (i := 61) rfl))) (by decide) (t := (.array .long)) (t' := (.array .int)) (by decide) (by decide))))
  have ne_a1_b47 : a1 ≠ b47 := Nat.ne_of_lt (Nat.lt_of_lt_of_le f48.lt (Nat.le_of_eq g47.symm))
  have f49 := ((f34.ext E32).other W41 (Ne.symm ne_a1_b7))
  have ne_b7_b47 : b7 ≠ b47 := Nat.ne_of_lt (Nat.lt_of_lt_of_le f49.lt (Nat.le_of_eq g47.symm))
  have f50 := ((f35.ext E32).other W41 (Ne.symm ne_a1_b19))
  have ne_b19_b47 : b19 ≠ b47 := Nat.ne_of_lt (Nat.lt_of_lt_of_le f50.lt (Nat.le_of_eq g47.symm))
  have f51 := (V32.other W41 (Ne.symm ne_a1_b32))
  have ne_b32_b47 : b32 ≠ b47 := Nat.ne_of_lt (Nat.lt_of_lt_of_le f51.lt (Nat.le_of_eq g47.symm))
  have Z52 : n0 ≤ h47.size := Nat.le_trans Z42 E47.1
  have K53 : Keep h0 h47 [a1] := K43.ext E47
  have V47 : Arh Z h47 b47 kk47 .long (4096 : Int32) [] [] (.long (0 : Int64)) := (Arv.new A47 (by decide)).arh
  have k54 : ∀ t, own_S p e below T47 (mkF m 37 #[.val (.ref a1)] [(.ref b47), (.ref a1)]) t → Gl t := fun t kt => k46 t (st47 _ kt)
  have f55 := (((((((Fl2_7.ext E7).other W13 (Or.inr (slot_ne (Or.inr (hw _ (List.mem_of_getElem? (i := 63) rfl))) (Or.inr (hw _ (List.mem_of_getElem? (i := 57) rfl))) (by decide) (t := (.array .long)) (t' := (.array .long)) (by decide) (by decide)))).ext E19).other W26 (Or.inr (slot_ne (Or.inr (hw _ (List.mem_of_getElem? (i := 63) rfl))) (Or.inr (hw _ (List.mem_of_getElem? (i := 59) rfl))) (by decide) (t := (.array .long)) (t' := (.array .char)) (by decide) (by decide)))).ext E32).other W41 (Or.inr (slot_ne (Or.inr (hw _ (List.mem_of_getElem? (i := 63) rfl))) (Or.inr (hw _ (List.mem_of_getElem? (i := 61) rfl))) (by decide) (t := (.array .long)) (t' := (.array .int)) (by decide) (by decide)))).ext E47)
  have f56 := ((f40.wr W41).ext E47)
  obtain ⟨T57, h57, X57, e57, W57, st57⟩ := putF X47 hx hZ hown (host := "") (Or.inl (hw _ (List.mem_of_getElem? (i := 62) rfl))) Via.refl e47 f55 f56 (Or.inr ⟨(hw _ (List.mem_of_getElem? (i := 63) rfl)), rfl, hnm⟩) (hw _ (List.mem_of_getElem? (i := 35) rfl)) (ty := (.array .long)) (by decide) rfl rfl (g := (mkF m 37 #[.val (.ref a1)] [(.ref b47), (.ref a1)])) rfl rfl (hb hby d_prog_74_method_1_37)
  have Z58 : n0 ≤ h57.size := Nat.le_trans Z52 (Keep.of_wr W57).1
  have K59 : Keep h0 h57 [a1] := K53.wr W57 (Or.inl (List.mem_of_getElem? (i := 0) rfl))
  have Fw57 := f55.same W57
  have N60 := Fr.snoc X57 N44 g_a1
  have k61 : ∀ t, own_S p e below T57 (mkF m 40 #[.val (.ref a1)] []) t → Gl t := fun t kt => k54 t (st57 _ kt)
  have k62 : ∀ t, own_S p e below T57 (mkF m 44 #[.val (.ref a1)] [(.int (4096 : Int32)), (.ref a1)]) t → Gl t := fun t kt => k61 t (by
    show own_S p e below T57 (mkF m 40 #[.val (.ref a1)] []) _
    refine XS.aloadN X57.here hx rfl (hb hby d_prog_74_method_1_40) rfl rfl ?_
    show own_S p e below T57 (mkF m 41 #[.val (.ref a1)] [(.ref a1)]) _
    refine XS.sipush X57.here hx rfl (hb hby d_prog_74_method_1_41) ?_
    exact kt)
  obtain ⟨T63, h63, kk63, X63, e63, E63, A63, st63⟩ := newP X57 hx hZ (hw _ (List.mem_of_getElem? (i := 46) rfl)) e57 (g := (mkF m 44 #[.val (.ref a1)] [(.int (4096 : Int32)), (.ref a1)])) rfl (hb hby d_prog_74_method_1_44) rfl (by decide) (cap := 4096) (by decide) (by decide) (by decide) (by decide)
  obtain ⟨b63, g63⟩ : ∃ z, z = h57.size := ⟨_, rfl⟩
  rw [← g63] at A63 st63
  have sz_b63 : h0.size ≤ b63 := Nat.le_trans K59.1 (Nat.le_of_eq g63.symm)
  have g_b63 : n0 ≤ b63 := Nat.le_trans Z58 (Nat.le_of_eq g63.symm)
  have f64 := ((f48.ext E47).other W57 (Or.inr (slot_ne (Or.inr (hw _ (List.mem_of_getElem? (i := 57) rfl))) (Or.inr (hw _ (List.mem_of_getElem? (i := 63) rfl))) (by decide) (t := (.array .long)) (t' := (.array .long)) (by decide) (by decide))))
  have ne_a1_b63 : a1 ≠ b63 := Nat.ne_of_lt (Nat.lt_of_lt_of_le f64.lt (Nat.le_of_eq g63.symm))
  have f65 := ((f49.ext E47).other W57 (Ne.symm ne_a1_b7))
  have ne_b7_b63 : b7 ≠ b63 := Nat.ne_of_lt (Nat.lt_of_lt_of_le f65.lt (Nat.le_of_eq g63.symm))
  have f66 := ((f50.ext E47).other W57 (Ne.symm ne_a1_b19))
  have ne_b19_b63 : b19 ≠ b63 := Nat.ne_of_lt (Nat.lt_of_lt_of_le f66.lt (Nat.le_of_eq g63.symm))
  have f67 := ((f51.ext E47).other W57 (Ne.symm ne_a1_b32))
  have ne_b32_b63 : b32 ≠ b63 := Nat.ne_of_lt (Nat.lt_of_lt_of_le f67.lt (Nat.le_of_eq g63.symm))
  have f68 := (V47.other W57 (Ne.symm ne_a1_b47))
  have ne_b47_b63 : b47 ≠ b63 := Nat.ne_of_lt (Nat.lt_of_lt_of_le f68.lt (Nat.le_of_eq g63.symm))
  have Z69 : n0 ≤ h63.size := Nat.le_trans Z58 E63.1
  have K70 : Keep h0 h63 [a1] := K59.ext E63
  have V63 : Arh Z h63 b63 kk63 .long (4096 : Int32) [] [] (.long (0 : Int64)) := (Arv.new A63 (by decide)).arh
  have k71 : ∀ t, own_S p e below T63 (mkF m 46 #[.val (.ref a1)] [(.ref b63), (.ref a1)]) t → Gl t := fun t kt => k62 t (st63 _ kt)
  have f72 := (((((((((Fl2_8.ext E7).other W13 (Or.inr (slot_ne (Or.inr (hw _ (List.mem_of_getElem? (i := 65) rfl))) (Or.inr (hw _ (List.mem_of_getElem? (i := 57) rfl))) (by decide) (t := (.array .long)) (t' := (.array .long)) (by decide) (by decide)))).ext E19).other W26 (Or.inr (slot_ne (Or.inr (hw _ (List.mem_of_getElem? (i := 65) rfl))) (Or.inr (hw _ (List.mem_of_getElem? (i := 59) rfl))) (by decide) (t := (.array .long)) (t' := (.array .char)) (by decide) (by decide)))).ext E32).other W41 (Or.inr (slot_ne (Or.inr (hw _ (List.mem_of_getElem? (i := 65) rfl))) (Or.inr (hw _ (List.mem_of_getElem? (i := 61) rfl))) (by decide) (t := (.array .long)) (t' := (.array .int)) (by decide) (by decide)))).ext E47).other W57 (Or.inr (slot_ne (Or.inr (hw _ (List.mem_of_getElem? (i := 65) rfl))) (Or.inr (hw _ (List.mem_of_getElem? (i := 63) rfl))) (by decide) (t := (.array .long)) (t' := (.array .long)) (by decide) (by decide)))).ext E63)
  have f73 := ((f56.wr W57).ext E63)
  obtain ⟨T74, h74, X74, e74, W74, st74⟩ := putF X63 hx hZ hown (host := "") (Or.inl (hw _ (List.mem_of_getElem? (i := 64) rfl))) Via.refl e63 f72 f73 (Or.inr ⟨(hw _ (List.mem_of_getElem? (i := 65) rfl)), rfl, hnm⟩) (hw _ (List.mem_of_getElem? (i := 35) rfl)) (ty := (.array .long)) (by decide) rfl rfl (g := (mkF m 46 #[.val (.ref a1)] [(.ref b63), (.ref a1)])) rfl rfl (hb hby d_prog_74_method_1_46)
  have Z75 : n0 ≤ h74.size := Nat.le_trans Z69 (Keep.of_wr W74).1
  have K76 : Keep h0 h74 [a1] := K70.wr W74 (Or.inl (List.mem_of_getElem? (i := 0) rfl))
  have Fw74 := f72.same W74
  have N77 := Fr.snoc X74 N60 g_a1
  have k78 : ∀ t, own_S p e below T74 (mkF m 49 #[.val (.ref a1)] []) t → Gl t := fun t kt => k71 t (st74 _ kt)
  have k79 : ∀ t, own_S p e below T74 (mkF m 53 #[.val (.ref a1)] [(.int (4096 : Int32)), (.ref a1)]) t → Gl t := fun t kt => k78 t (by
    show own_S p e below T74 (mkF m 49 #[.val (.ref a1)] []) _
    refine XS.aloadN X74.here hx rfl (hb hby d_prog_74_method_1_49) rfl rfl ?_
    show own_S p e below T74 (mkF m 50 #[.val (.ref a1)] [(.ref a1)]) _
    refine XS.sipush X74.here hx rfl (hb hby d_prog_74_method_1_50) ?_
    exact kt)
  obtain ⟨T80, h80, kk80, X80, e80, E80, A80, st80⟩ := newP X74 hx hZ (hw _ (List.mem_of_getElem? (i := 49) rfl)) e74 (g := (mkF m 53 #[.val (.ref a1)] [(.int (4096 : Int32)), (.ref a1)])) rfl (hb hby d_prog_74_method_1_53) rfl (by decide) (cap := 4096) (by decide) (by decide) (by decide) (by decide)
  obtain ⟨b80, g80⟩ : ∃ z, z = h74.size := ⟨_, rfl⟩
  rw [← g80] at A80 st80
  have sz_b80 : h0.size ≤ b80 := Nat.le_trans K76.1 (Nat.le_of_eq g80.symm)
  have g_b80 : n0 ≤ b80 := Nat.le_trans Z75 (Nat.le_of_eq g80.symm)
  have f81 := ((f64.ext E63).other W74 (Or.inr (slot_ne (Or.inr (hw _ (List.mem_of_getElem? (i := 57) rfl))) (Or.inr (hw _ (List.mem_of_getElem? (i := 65) rfl))) (by decide) (t := (.array .long)) (t' := (.array .long)) (by decide) (by decide))))
  have ne_a1_b80 : a1 ≠ b80 := Nat.ne_of_lt (Nat.lt_of_lt_of_le f81.lt (Nat.le_of_eq g80.symm))
  have f82 := ((f65.ext E63).other W74 (Ne.symm ne_a1_b7))
  have ne_b7_b80 : b7 ≠ b80 := Nat.ne_of_lt (Nat.lt_of_lt_of_le f82.lt (Nat.le_of_eq g80.symm))
  have f83 := ((f66.ext E63).other W74 (Ne.symm ne_a1_b19))
  have ne_b19_b80 : b19 ≠ b80 := Nat.ne_of_lt (Nat.lt_of_lt_of_le f83.lt (Nat.le_of_eq g80.symm))
  have f84 := ((f67.ext E63).other W74 (Ne.symm ne_a1_b32))
  have ne_b32_b80 : b32 ≠ b80 := Nat.ne_of_lt (Nat.lt_of_lt_of_le f84.lt (Nat.le_of_eq g80.symm))
  have f85 := ((f68.ext E63).other W74 (Ne.symm ne_a1_b47))
  have ne_b47_b80 : b47 ≠ b80 := Nat.ne_of_lt (Nat.lt_of_lt_of_le f85.lt (Nat.le_of_eq g80.symm))
  have f86 := (V63.other W74 (Ne.symm ne_a1_b63))
  have ne_b63_b80 : b63 ≠ b80 := Nat.ne_of_lt (Nat.lt_of_lt_of_le f86.lt (Nat.le_of_eq g80.symm))
  have Z87 : n0 ≤ h80.size := Nat.le_trans Z75 E80.1
  have K88 : Keep h0 h80 [a1] := K76.ext E80
  have V80 : Arh Z h80 b80 kk80 .int (4096 : Int32) [] [] (.int (0 : Int32)) := (Arv.new A80 (by decide)).arh
  have k89 : ∀ t, own_S p e below T80 (mkF m 55 #[.val (.ref a1)] [(.ref b80), (.ref a1)]) t → Gl t := fun t kt => k79 t (st80 _ kt)
  have f90 := (((((((((((Fl2_9.ext E7).other W13 (Or.inr (slot_ne (Or.inr (hw _ (List.mem_of_getElem? (i := 67) rfl))) (Or.inr (hw _ (List.mem_of_getElem? (i := 57) rfl))) (by decide) (t := (.array .int)) (t' := (.array .long)) (by decide) (by decide)))).ext E19).other W26 (Or.inr (slot_ne (Or.inr (hw _ (List.mem_of_getElem? (i := 67) rfl))) (Or.inr (hw _ (List.mem_of_getElem? (i := 59) rfl))) (by decide) (t := (.array .int)) (t' := (.array .char)) (by decide) (by decide)))).ext E32).other W41 (Or.inr (slot_ne (Or.inr (hw _ (List.mem_of_getElem? (i := 67) rfl))) (Or.inr (hw _ (List.mem_of_getElem? (i := 61) rfl))) (by decide) (t := (.array .int)) (t' := (.array .int)) (by decide) (by decide)))).ext E47).other W57 (Or.inr (slot_ne (Or.inr (hw _ (List.mem_of_getElem? (i := 67) rfl))) (Or.inr (hw _ (List.mem_of_getElem? (i := 63) rfl))) (by decide) (t := (.array .int)) (t' := (.array .long)) (by decide) (by decide)))).ext E63).other W74 (Or.inr (slot_ne (Or.inr (hw _ (List.mem_of_getElem? (i := 67) rfl))) (Or.inr (hw _ (List.mem_of_getElem? (i := 65) rfl))) (by decide) (t := (.array .int)) (t' := (.array .long)) (by decide) (by decide)))).ext E80)
  have f91 := ((f73.wr W74).ext E80)
  obtain ⟨T92, h92, X92, e92, W92, st92⟩ := putF X80 hx hZ hown (host := "") (Or.inl (hw _ (List.mem_of_getElem? (i := 66) rfl))) Via.refl e80 f90 f91 (Or.inr ⟨(hw _ (List.mem_of_getElem? (i := 67) rfl)), rfl, hnm⟩) (hw _ (List.mem_of_getElem? (i := 35) rfl)) (ty := (.array .int)) (by decide) rfl rfl (g := (mkF m 55 #[.val (.ref a1)] [(.ref b80), (.ref a1)])) rfl rfl (hb hby d_prog_74_method_1_55)
  have Z93 : n0 ≤ h92.size := Nat.le_trans Z87 (Keep.of_wr W92).1
  have K94 : Keep h0 h92 [a1] := K88.wr W92 (Or.inl (List.mem_of_getElem? (i := 0) rfl))
  have Fw92 := f90.same W92
  have N95 := Fr.snoc X92 N77 g_a1
  have k96 : ∀ t, own_S p e below T92 (mkF m 58 #[.val (.ref a1)] []) t → Gl t := fun t kt => k89 t (st92 _ kt)
  obtain ⟨fs, hr, hrun, hended, hW, hsame⟩ := X92.leave (v := none) (fun _ => rfl)
  refine ⟨_, _, hGl _ (k96 _ (X92.returnOut hx Bd.returns (hb hby d_prog_74_method_1_58) hr)), hrun, hended, _, _, rfl, ?_, ⟨_, rfl⟩, hW, hsame.mono (by decide) (by decide)⟩
  show Q8 Z a1 h0 n0 _ T92.heap _
  rw [e92]
  have f97 := (f91.wr W92)
  have f98 := ((((((Fw41.ext E47).other W57 (Or.inr (slot_ne (Or.inr (hw _ (List.mem_of_getElem? (i := 61) rfl))) (Or.inr (hw _ (List.mem_of_getElem? (i := 63) rfl))) (by decide) (t := (.array .int)) (t' := (.array .long)) (by decide) (by decide)))).ext E63).other W74 (Or.inr (slot_ne (Or.inr (hw _ (List.mem_of_getElem? (i := 61) rfl))) (Or.inr (hw _ (List.mem_of_getElem? (i := 65) rfl))) (by decide) (t := (.array .int)) (t' := (.array .long)) (by decide) (by decide)))).ext E80).other W92 (Or.inr (slot_ne (Or.inr (hw _ (List.mem_of_getElem? (i := 61) rfl))) (Or.inr (hw _ (List.mem_of_getElem? (i := 67) rfl))) (by decide) (t := (.array .int)) (t' := (.array .int)) (by decide) (by decide))))
  have f99 := ((f84.ext E80).other W92 (Ne.symm ne_a1_b32))
  have f100 := ((((((((((((Fl2_10.ext E7).other W13 (Or.inr (slot_ne (Or.inl (hw _ (List.mem_of_getElem? (i := 75) rfl))) (Or.inr (hw _ (List.mem_of_getElem? (i := 57) rfl))) (by decide) (t := (.array (.object "java/lang/String"))) (t' := (.array .long)) (by decide) (by decide)))).ext E19).other W26 (Or.inr (slot_ne (Or.inl (hw _ (List.mem_of_getElem? (i := 75) rfl))) (Or.inr (hw _ (List.mem_of_getElem? (i := 59) rfl))) (by decide) (t := (.array (.object "java/lang/String"))) (t' := (.array .char)) (by decide) (by decide)))).ext E32).other W41 (Or.inr (slot_ne (Or.inl (hw _ (List.mem_of_getElem? (i := 75) rfl))) (Or.inr (hw _ (List.mem_of_getElem? (i := 61) rfl))) (by decide) (t := (.array (.object "java/lang/String"))) (t' := (.array .int)) (by decide) (by decide)))).ext E47).other W57 (Or.inr (slot_ne (Or.inl (hw _ (List.mem_of_getElem? (i := 75) rfl))) (Or.inr (hw _ (List.mem_of_getElem? (i := 63) rfl))) (by decide) (t := (.array (.object "java/lang/String"))) (t' := (.array .long)) (by decide) (by decide)))).ext E63).other W74 (Or.inr (slot_ne (Or.inl (hw _ (List.mem_of_getElem? (i := 75) rfl))) (Or.inr (hw _ (List.mem_of_getElem? (i := 65) rfl))) (by decide) (t := (.array (.object "java/lang/String"))) (t' := (.array .long)) (by decide) (by decide)))).ext E80).other W92 (Or.inr (slot_ne (Or.inl (hw _ (List.mem_of_getElem? (i := 75) rfl))) (Or.inr (hw _ (List.mem_of_getElem? (i := 67) rfl))) (by decide) (t := (.array (.object "java/lang/String"))) (t' := (.array .int)) (by decide) (by decide))))
  have f101 := ((((((((((((Fl2_11.ext E7).other W13 (Or.inr (slot_ne (Or.inl (hw _ (List.mem_of_getElem? (i := 79) rfl))) (Or.inr (hw _ (List.mem_of_getElem? (i := 57) rfl))) (by decide) (t := (.array (.object "java/lang/String"))) (t' := (.array .long)) (by decide) (by decide)))).ext E19).other W26 (Or.inr (slot_ne (Or.inl (hw _ (List.mem_of_getElem? (i := 79) rfl))) (Or.inr (hw _ (List.mem_of_getElem? (i := 59) rfl))) (by decide) (t := (.array (.object "java/lang/String"))) (t' := (.array .char)) (by decide) (by decide)))).ext E32).other W41 (Or.inr (slot_ne (Or.inl (hw _ (List.mem_of_getElem? (i := 79) rfl))) (Or.inr (hw _ (List.mem_of_getElem? (i := 61) rfl))) (by decide) (t := (.array (.object "java/lang/String"))) (t' := (.array .int)) (by decide) (by decide)))).ext E47).other W57 (Or.inr (slot_ne (Or.inl (hw _ (List.mem_of_getElem? (i := 79) rfl))) (Or.inr (hw _ (List.mem_of_getElem? (i := 63) rfl))) (by decide) (t := (.array (.object "java/lang/String"))) (t' := (.array .long)) (by decide) (by decide)))).ext E63).other W74 (Or.inr (slot_ne (Or.inl (hw _ (List.mem_of_getElem? (i := 79) rfl))) (Or.inr (hw _ (List.mem_of_getElem? (i := 65) rfl))) (by decide) (t := (.array (.object "java/lang/String"))) (t' := (.array .long)) (by decide) (by decide)))).ext E80).other W92 (Or.inr (slot_ne (Or.inl (hw _ (List.mem_of_getElem? (i := 79) rfl))) (Or.inr (hw _ (List.mem_of_getElem? (i := 67) rfl))) (by decide) (t := (.array (.object "java/lang/String"))) (t' := (.array .int)) (by decide) (by decide))))
  exact ⟨rfl, N95, b32, _, g_b32, ne_a1_b32, K94, f97, f98, f99, f100, f101⟩

theorem d_prog_74_method_2_0 : decode prog_74_method_2_code 0 = .ok (.aload_n 0, 1) := by decide +kernel
theorem d_prog_74_method_2_1 : decode prog_74_method_2_code 1 = .ok (.getfield 32, 3) := by decide +kernel
theorem d_prog_74_method_2_4 : decode prog_74_method_2_code 4 = .ok (.ifnonnull 23, 3) := by decide +kernel
theorem d_prog_74_method_2_7 : decode prog_74_method_2_code 7 = .ok (.aload_n 0, 1) := by decide +kernel
theorem d_prog_74_method_2_8 : decode prog_74_method_2_code 8 = .ok (.sipush 4096, 3) := by decide +kernel
theorem d_prog_74_method_2_11 : decode prog_74_method_2_code 11 = .ok (.anewarray 36, 3) := by decide +kernel
theorem d_prog_74_method_2_14 : decode prog_74_method_2_code 14 = .ok (.putfield 32, 3) := by decide +kernel
theorem d_prog_74_method_2_17 : decode prog_74_method_2_code 17 = .ok (.aload_n 0, 1) := by decide +kernel
theorem d_prog_74_method_2_18 : decode prog_74_method_2_code 18 = .ok (.sipush 4096, 3) := by decide +kernel
theorem d_prog_74_method_2_21 : decode prog_74_method_2_code 21 = .ok (.anewarray 36, 3) := by decide +kernel
theorem d_prog_74_method_2_24 : decode prog_74_method_2_code 24 = .ok (.putfield 38, 3) := by decide +kernel
theorem d_prog_74_method_2_27 : decode prog_74_method_2_code 27 = .ok (.aload_n 0, 1) := by decide +kernel
theorem d_prog_74_method_2_28 : decode prog_74_method_2_code 28 = .ok (.getfield 32, 3) := by decide +kernel
theorem d_prog_74_method_2_31 : decode prog_74_method_2_code 31 = .ok (.iload_n 1, 1) := by decide +kernel
theorem d_prog_74_method_2_32 : decode prog_74_method_2_code 32 = .ok (.aload_n 2, 1) := by decide +kernel
theorem d_prog_74_method_2_33 : decode prog_74_method_2_code 33 = .ok (.aastore, 1) := by decide +kernel
theorem d_prog_74_method_2_34 : decode prog_74_method_2_code 34 = .ok (.aload_n 0, 1) := by decide +kernel
theorem d_prog_74_method_2_35 : decode prog_74_method_2_code 35 = .ok (.getfield 38, 3) := by decide +kernel
theorem d_prog_74_method_2_38 : decode prog_74_method_2_code 38 = .ok (.iload_n 1, 1) := by decide +kernel
theorem d_prog_74_method_2_39 : decode prog_74_method_2_code 39 = .ok (.aload_n 3, 1) := by decide +kernel
theorem d_prog_74_method_2_40 : decode prog_74_method_2_code 40 = .ok (.aastore, 1) := by decide +kernel
theorem d_prog_74_method_2_41 : decode prog_74_method_2_code 41 = .ok (.return_, 1) := by decide +kernel
theorem ef_rm10a (m : MethodId) (x0 : Addr) (x1 : Int32) (x2 : Addr) (x3 : Addr) : entryFrame m #[(.ref x0), (.int x1), (.ref x2), (.ref x3)] 4 = mkF m 0 #[.val (.ref x0), .val (.int x1), .val (.ref x2), .val (.ref x3)] [] := by first | (simp [entryFrame, mkF, argsToLocals, Value.category]; done) | rfl
def Q10a (Z : State) (a1 : Addr) (p2 : Int32) (s3 : Addr) (s4 : Addr) (bN : Addr) (h0 : Heap) (n0 : Nat) (v : Option Value) (h : Heap) (L : List Loc) : Prop := v = none ∧ Fr n0 L ∧ ∃ (bS bC : Addr) (kS kC : ClassId), n0 ≤ bS ∧ n0 ≤ bC ∧ h0.size ≤ bS ∧ h0.size ≤ bC ∧ bS ≠ bC ∧ Keep h0 h [a1] ∧ Exa Z h a1 "com/example/pricecollar/pricecollar/tape/TradeTape$Columns" ∧ Fld Z h a1 "com/example/pricecollar/pricecollar/tape/TradeTape$Columns" "conditionsNumbers" "[I" (.ref bN) ∧ Fld Z h a1 "com/example/pricecollar/pricecollar/tape/TradeTape$Columns" "unnumberedSymbols" "[Ljava/lang/String;" (.ref bS) ∧ Fld Z h a1 "com/example/pricecollar/pricecollar/tape/TradeTape$Columns" "unnumberedConditions" "[Ljava/lang/String;" (.ref bC) ∧ Arh Z h bS kS (.object "java/lang/String") (4096 : Int32) [(p2, (.ref s3))] [] .null ∧ Arh Z h bC kC (.object "java/lang/String") (4096 : Int32) [(p2, (.ref s4))] [] .null ∧ Ovr Z kS "java/lang/String" ∧ Ovr Z kC "java/lang/String"
set_option maxRecDepth 65536 in
set_option maxHeartbeats 40000000 in
theorem rm10a (l : Launch) (Z : State) (a0 : Array Value) (hw : ∀ d ∈ tables_1, d.before a0 Z = true) (ws : List Jvm.Cond) (a1 : Addr) (p2 : Int32) (s3 : Addr) (s4 : Addr) (bN : Addr) (h0 : Heap) (n0 : Nat) (Z0 : n0 ≤ h0.size) (F0 : Fld Z h0 a1 "com/example/pricecollar/pricecollar/tape/TradeTape$Columns" "conditionsNumbers" "[I" (.ref bN)) (F1 : Fld Z h0 a1 "com/example/pricecollar/pricecollar/tape/TradeTape$Columns" "unnumberedSymbols" "[Ljava/lang/String;" .null) (F2 : Fld Z h0 a1 "com/example/pricecollar/pricecollar/tape/TradeTape$Columns" "unnumberedConditions" "[Ljava/lang/String;" .null) (E1 : Exa Z h0 a1 "com/example/pricecollar/pricecollar/tape/TradeTape$Columns") (g_a1 : n0 ≤ a1) (E_s3 : Exa Z h0 s3 "java/lang/String") (E_s4 : Exa Z h0 s4 "java/lang/String") (hb2 : ¬ p2 < 0 ∧ p2 < (4096 : Int32)) :
    MetFree l (⟨"com/example/pricecollar/pricecollar/tape/TradeTape$Columns", "keepUnnumbered", "(ILjava/lang/String;Ljava/lang/String;)V"⟩ : MethodName) (head1 (Jvm.Cond.code (⟨"com/example/pricecollar/pricecollar/tape/TradeTape$Columns", "keepUnnumbered", "(ILjava/lang/String;Ljava/lang/String;)V"⟩ : MethodName) prog_74_method_2_code 4 none :: ws) ({ frames := 0, cells := 2, slots := 8192, locals := 0 } : Room)) (fun a U => a = #[(.ref a1), (.int p2), (.ref s3), (.ref s4)] ∧ Z.Warmed39 U.vm ∧ U.heap = h0) (fun _ _ _ _ _ => True) (fun _ U o U' => ∃ v L, o = .returned v ∧ Q10a Z a1 p2 s3 s4 bN h0 n0 v U'.heap L ∧ FrameEnd U o U' L ({ frames := 0, cells := 2, slots := 8192, locals := 0 } : Room).cells ({ frames := 0, cells := 2, slots := 8192, locals := 0 } : Room).slots) := by
  refine MetFree.of_bodySF (plainFor_of_name pn_2) hisR ?_
  intro p e s m args below meth c s₁ Bd hml0 hP hK
  obtain ⟨rfl, hZ, hh⟩ := hP
  have hx := Bd.exec
  have hby := Bd.bytes
  have hml : c.maxLocals = 4 := hml0
  have hown : s.vm.findClass "com/example/pricecollar/pricecollar/tape/TradeTape$Columns" = some m.cls := findClass_of_methodNamed Bd.named
  have hnm := (name_of_methodNamed Bd.named Bd.method).1
  have X0 : Stand p l e ({ frames := 0, cells := 2, slots := 8192, locals := 0 } : Room) s m #[(.ref a1), (.int p2), (.ref s3), (.ref s4)] below meth c s₁ [] 0 0 := Stand.of_body Bd
  have e0 : s₁.heap = h0 := by rw [← hh, Bd.state]; rfl
  have N0 := Fr.nil n0
  obtain ⟨Gl, hGl, k0⟩ : ∃ Gl : State → Prop, (∀ t, Gl t → Steps p.tables e below (s₁.setTop (entryFrame m #[(.ref a1), (.int p2), (.ref s3), (.ref s4)] 4)) t) ∧ ∀ t, own_S p e below s₁ (mkF m 0 #[.val (.ref a1), .val (.int p2), .val (.ref s3), .val (.ref s4)] []) t → Gl t := ⟨fun t => Steps p.tables e below (s₁.setTop (entryFrame m #[(.ref a1), (.int p2), (.ref s3), (.ref s4)] 4)) t, fun _ k => k, fun t k => castTop (ef_rm10a m a1 p2 s3 s4) k⟩
  have k1 : ∀ t, own_S p e below s₁ (mkF m 1 #[.val (.ref a1), .val (.int p2), .val (.ref s3), .val (.ref s4)] [(.ref a1)]) t → Gl t := fun t kt => k0 t (by
    show own_S p e below s₁ (mkF m 0 #[.val (.ref a1), .val (.int p2), .val (.ref s3), .val (.ref s4)] []) _
    refine XS.aloadN X0.here hx rfl (hb hby d_prog_74_method_2_0) rfl rfl ?_
    exact kt)
  obtain ⟨T2, X2, e2, st2⟩ := getF X0 hx hZ hown (host := "") (Or.inl (hw _ (List.mem_of_getElem? (i := 74) rfl))) Via.refl e0 F1 (g := (mkF m 1 #[.val (.ref a1), .val (.int p2), .val (.ref s3), .val (.ref s4)] [(.ref a1)])) rfl rfl (hb hby d_prog_74_method_2_1)
  have k3 : ∀ t, own_S p e below T2 (mkF m 4 #[.val (.ref a1), .val (.int p2), .val (.ref s3), .val (.ref s4)] [.null]) t → Gl t := fun t kt => k1 t (st2 _ kt)
  have k4 : ∀ t, own_S p e below T2 (mkF m 11 #[.val (.ref a1), .val (.int p2), .val (.ref s3), .val (.ref s4)] [(.int (4096 : Int32)), (.ref a1)]) t → Gl t := fun t kt => k3 t (by
    show own_S p e below T2 (mkF m 4 #[.val (.ref a1), .val (.int p2), .val (.ref s3), .val (.ref s4)] [.null]) _
    refine XS.ifnonnullNo X2.here hx rfl (hb hby d_prog_74_method_2_4) rfl ?_
    show own_S p e below T2 (mkF m 7 #[.val (.ref a1), .val (.int p2), .val (.ref s3), .val (.ref s4)] []) _
    refine XS.aloadN X2.here hx rfl (hb hby d_prog_74_method_2_7) rfl rfl ?_
    show own_S p e below T2 (mkF m 8 #[.val (.ref a1), .val (.int p2), .val (.ref s3), .val (.ref s4)] [(.ref a1)]) _
    refine XS.sipush X2.here hx rfl (hb hby d_prog_74_method_2_8) ?_
    exact kt)
  obtain ⟨T5, h5, kk5, X5, e5, E5, A5, O5, st5⟩ := newR X2 hx hZ hown (hw _ (List.mem_of_getElem? (i := 76) rfl)) (hw _ (List.mem_of_getElem? (i := 77) rfl)) e2 (g := (mkF m 11 #[.val (.ref a1), .val (.int p2), .val (.ref s3), .val (.ref s4)] [(.int (4096 : Int32)), (.ref a1)])) rfl (hb hby d_prog_74_method_2_11) rfl (by decide) (cap := 4096) (by decide) (by decide) (by decide) (by decide)
  obtain ⟨b5, g5⟩ : ∃ z, z = h0.size := ⟨_, rfl⟩
  rw [← g5] at A5 st5
  have sz_b5 : h0.size ≤ b5 := Nat.le_trans (Keep.refl h0 [a1]).1 (Nat.le_of_eq g5.symm)
  have g_b5 : n0 ≤ b5 := Nat.le_trans Z0 (Nat.le_of_eq g5.symm)
  have ne_a1_b5 : a1 ≠ b5 := Nat.ne_of_lt (Nat.lt_of_lt_of_le F0.lt (Nat.le_of_eq g5.symm))
  have ne_s3_b5 : s3 ≠ b5 := Nat.ne_of_lt (Nat.lt_of_lt_of_le E_s3.lt (Nat.le_of_eq g5.symm))
  have ne_s4_b5 : s4 ≠ b5 := Nat.ne_of_lt (Nat.lt_of_lt_of_le E_s4.lt (Nat.le_of_eq g5.symm))
  have Z6 : n0 ≤ h5.size := Nat.le_trans Z0 E5.1
  have K7 : Keep h0 h5 [a1] := (Keep.refl h0 [a1]).ext E5
  have V5 : Arh Z h5 b5 kk5 (.object "java/lang/String") (4096 : Int32) [] [] .null := (Arv.new A5 (by decide)).arh
  have k8 : ∀ t, own_S p e below T5 (mkF m 14 #[.val (.ref a1), .val (.int p2), .val (.ref s3), .val (.ref s4)] [(.ref b5), (.ref a1)]) t → Gl t := fun t kt => k4 t (st5 _ kt)
  have f9 := (F1.ext E5)
  have f10 := (E1.ext E5)
  obtain ⟨T11, h11, X11, e11, W11, st11⟩ := putF X5 hx hZ hown (host := "") (Or.inl (hw _ (List.mem_of_getElem? (i := 74) rfl))) Via.refl e5 f9 f10 (Or.inl (hw _ (List.mem_of_getElem? (i := 75) rfl))) (hw _ (List.mem_of_getElem? (i := 35) rfl)) (ty := (.array (.object "java/lang/String"))) (by decide) rfl rfl (g := (mkF m 14 #[.val (.ref a1), .val (.int p2), .val (.ref s3), .val (.ref s4)] [(.ref b5), (.ref a1)])) rfl rfl (hb hby d_prog_74_method_2_14)
  have Z12 : n0 ≤ h11.size := Nat.le_trans Z6 (Keep.of_wr W11).1
  have K13 : Keep h0 h11 [a1] := K7.wr W11 (Or.inl (List.mem_of_getElem? (i := 0) rfl))
  have Fw11 := f9.same W11
  have N14 := Fr.snoc X11 N0 g_a1
  have k15 : ∀ t, own_S p e below T11 (mkF m 17 #[.val (.ref a1), .val (.int p2), .val (.ref s3), .val (.ref s4)] []) t → Gl t := fun t kt => k8 t (st11 _ kt)
  have k16 : ∀ t, own_S p e below T11 (mkF m 21 #[.val (.ref a1), .val (.int p2), .val (.ref s3), .val (.ref s4)] [(.int (4096 : Int32)), (.ref a1)]) t → Gl t := fun t kt => k15 t (by
    show own_S p e below T11 (mkF m 17 #[.val (.ref a1), .val (.int p2), .val (.ref s3), .val (.ref s4)] []) _
    refine XS.aloadN X11.here hx rfl (hb hby d_prog_74_method_2_17) rfl rfl ?_
    show own_S p e below T11 (mkF m 18 #[.val (.ref a1), .val (.int p2), .val (.ref s3), .val (.ref s4)] [(.ref a1)]) _
    refine XS.sipush X11.here hx rfl (hb hby d_prog_74_method_2_18) ?_
    exact kt)
  obtain ⟨T17, h17, kk17, X17, e17, E17, A17, O17, st17⟩ := newR X11 hx hZ hown (hw _ (List.mem_of_getElem? (i := 76) rfl)) (hw _ (List.mem_of_getElem? (i := 77) rfl)) e11 (g := (mkF m 21 #[.val (.ref a1), .val (.int p2), .val (.ref s3), .val (.ref s4)] [(.int (4096 : Int32)), (.ref a1)])) rfl (hb hby d_prog_74_method_2_21) rfl (by decide) (cap := 4096) (by decide) (by decide) (by decide) (by decide)
  obtain ⟨b17, g17⟩ : ∃ z, z = h11.size := ⟨_, rfl⟩
  rw [← g17] at A17 st17
  have sz_b17 : h0.size ≤ b17 := Nat.le_trans K13.1 (Nat.le_of_eq g17.symm)
  have g_b17 : n0 ≤ b17 := Nat.le_trans Z12 (Nat.le_of_eq g17.symm)
  have f18 := ((F0.ext E5).other W11 (Or.inr (slot_ne (Or.inr (hw _ (List.mem_of_getElem? (i := 61) rfl))) (Or.inl (hw _ (List.mem_of_getElem? (i := 75) rfl))) (by decide) (t := (.array .int)) (t' := (.array (.object "java/lang/String"))) (by decide) (by decide))))
  have ne_a1_b17 : a1 ≠ b17 := Nat.ne_of_lt (Nat.lt_of_lt_of_le f18.lt (Nat.le_of_eq g17.symm))
  have f19 := ((E_s3.ext E5).wr W11)
  have ne_s3_b17 : s3 ≠ b17 := Nat.ne_of_lt (Nat.lt_of_lt_of_le f19.lt (Nat.le_of_eq g17.symm))
  have f20 := ((E_s4.ext E5).wr W11)
  have ne_s4_b17 : s4 ≠ b17 := Nat.ne_of_lt (Nat.lt_of_lt_of_le f20.lt (Nat.le_of_eq g17.symm))
  have f21 := (V5.other W11 (Ne.symm ne_a1_b5))
  have ne_b5_b17 : b5 ≠ b17 := Nat.ne_of_lt (Nat.lt_of_lt_of_le f21.lt (Nat.le_of_eq g17.symm))
  have Z22 : n0 ≤ h17.size := Nat.le_trans Z12 E17.1
  have K23 : Keep h0 h17 [a1] := K13.ext E17
  have V17 : Arh Z h17 b17 kk17 (.object "java/lang/String") (4096 : Int32) [] [] .null := (Arv.new A17 (by decide)).arh
  have k24 : ∀ t, own_S p e below T17 (mkF m 24 #[.val (.ref a1), .val (.int p2), .val (.ref s3), .val (.ref s4)] [(.ref b17), (.ref a1)]) t → Gl t := fun t kt => k16 t (st17 _ kt)
  have f25 := (((F2.ext E5).other W11 (Or.inr (slot_ne (Or.inl (hw _ (List.mem_of_getElem? (i := 79) rfl))) (Or.inl (hw _ (List.mem_of_getElem? (i := 75) rfl))) (by decide) (t := (.array (.object "java/lang/String"))) (t' := (.array (.object "java/lang/String"))) (by decide) (by decide)))).ext E17)
  have f26 := ((f10.wr W11).ext E17)
  obtain ⟨T27, h27, X27, e27, W27, st27⟩ := putF X17 hx hZ hown (host := "") (Or.inl (hw _ (List.mem_of_getElem? (i := 78) rfl))) Via.refl e17 f25 f26 (Or.inl (hw _ (List.mem_of_getElem? (i := 79) rfl))) (hw _ (List.mem_of_getElem? (i := 35) rfl)) (ty := (.array (.object "java/lang/String"))) (by decide) rfl rfl (g := (mkF m 24 #[.val (.ref a1), .val (.int p2), .val (.ref s3), .val (.ref s4)] [(.ref b17), (.ref a1)])) rfl rfl (hb hby d_prog_74_method_2_24)
  have Z28 : n0 ≤ h27.size := Nat.le_trans Z22 (Keep.of_wr W27).1
  have K29 : Keep h0 h27 [a1] := K23.wr W27 (Or.inl (List.mem_of_getElem? (i := 0) rfl))
  have Fw27 := f25.same W27
  have N30 := Fr.snoc X27 N14 g_a1
  have k31 : ∀ t, own_S p e below T27 (mkF m 27 #[.val (.ref a1), .val (.int p2), .val (.ref s3), .val (.ref s4)] []) t → Gl t := fun t kt => k24 t (st27 _ kt)
  have k32 : ∀ t, own_S p e below T27 (mkF m 28 #[.val (.ref a1), .val (.int p2), .val (.ref s3), .val (.ref s4)] [(.ref a1)]) t → Gl t := fun t kt => k31 t (by
    show own_S p e below T27 (mkF m 27 #[.val (.ref a1), .val (.int p2), .val (.ref s3), .val (.ref s4)] []) _
    refine XS.aloadN X27.here hx rfl (hb hby d_prog_74_method_2_27) rfl rfl ?_
    exact kt)
  have f33 := ((Fw11.ext E17).other W27 (Or.inr (slot_ne (Or.inl (hw _ (List.mem_of_getElem? (i := 75) rfl))) (Or.inl (hw _ (List.mem_of_getElem? (i := 79) rfl))) (by decide) (t := (.array (.object "java/lang/String"))) (t' := (.array (.object "java/lang/String"))) (by decide) (by decide))))
  obtain ⟨T34, X34, e34, st34⟩ := getF X27 hx hZ hown (host := "") (Or.inl (hw _ (List.mem_of_getElem? (i := 74) rfl))) Via.refl e27 f33 (g := (mkF m 28 #[.val (.ref a1), .val (.int p2), .val (.ref s3), .val (.ref s4)] [(.ref a1)])) rfl rfl (hb hby d_prog_74_method_2_28)
  have k35 : ∀ t, own_S p e below T34 (mkF m 31 #[.val (.ref a1), .val (.int p2), .val (.ref s3), .val (.ref s4)] [(.ref b5)]) t → Gl t := fun t kt => k32 t (st34 _ kt)
  have k36 : ∀ t, own_S p e below T34 (mkF m 33 #[.val (.ref a1), .val (.int p2), .val (.ref s3), .val (.ref s4)] [(.ref s3), (.int p2), (.ref b5)]) t → Gl t := fun t kt => k35 t (by
    show own_S p e below T34 (mkF m 31 #[.val (.ref a1), .val (.int p2), .val (.ref s3), .val (.ref s4)] [(.ref b5)]) _
    refine XS.iloadN X34.here hx rfl (hb hby d_prog_74_method_2_31) rfl ?_
    show own_S p e below T34 (mkF m 32 #[.val (.ref a1), .val (.int p2), .val (.ref s3), .val (.ref s4)] [(.int p2), (.ref b5)]) _
    refine XS.aloadN X34.here hx rfl (hb hby d_prog_74_method_2_32) rfl rfl ?_
    exact kt)
  have f37 := ((f21.ext E17).other W27 (Ne.symm ne_a1_b5))
  obtain ⟨cl38, Ar38, q38, Sz38, Ng38, Hs38, Gs38⟩ := id f37
  have hin38 : ¬ (p2 < 0 ∨ cl38.slots.size ≤ (p2).toNatClampNeg) := inb_of Sz38 hb2
  have f39 := ((f19.ext E17).wr W27)
  obtain ⟨T38, h38, X38, e38, W38, st38⟩ := stR X34 hx hZ e34 Ar38 (j := p2) hin38 rfl (Sto.ofV Ar38 q38 O5 (Ins.self f39)) (g := (mkF m 33 #[.val (.ref a1), .val (.int p2), .val (.ref s3), .val (.ref s4)] [(.ref s3), (.int p2), (.ref b5)])) rfl rfl (hb hby d_prog_74_method_2_33)
  have Z40 : n0 ≤ h38.size := Nat.le_trans Z28 (Keep.of_wr W38).1
  have K41 : Keep h0 h38 [a1] := K29.wr W38 (Or.inr sz_b5)
  have V38 : Arh Z h38 b5 kk5 (.object "java/lang/String") (4096 : Int32) [(p2, (.ref s3))] [] .null := Arh.push Ar38 q38 Sz38 Ng38 Hs38 Gs38 rfl W38 hin38
  have N42 := Fr.snoc X38 N30 g_b5
  have k43 : ∀ t, own_S p e below T38 (mkF m 34 #[.val (.ref a1), .val (.int p2), .val (.ref s3), .val (.ref s4)] []) t → Gl t := fun t kt => k36 t (st38 _ kt)
  have k44 : ∀ t, own_S p e below T38 (mkF m 35 #[.val (.ref a1), .val (.int p2), .val (.ref s3), .val (.ref s4)] [(.ref a1)]) t → Gl t := fun t kt => k43 t (by
    show own_S p e below T38 (mkF m 34 #[.val (.ref a1), .val (.int p2), .val (.ref s3), .val (.ref s4)] []) _
    refine XS.aloadN X38.here hx rfl (hb hby d_prog_74_method_2_34) rfl rfl ?_
    exact kt)
  have f45 := (Fw27.other W38 (Or.inl ne_a1_b5))
  obtain ⟨T46, X46, e46, st46⟩ := getF X38 hx hZ hown (host := "") (Or.inl (hw _ (List.mem_of_getElem? (i := 78) rfl))) Via.refl e38 f45 (g := (mkF m 35 #[.val (.ref a1), .val (.int p2), .val (.ref s3), .val (.ref s4)] [(.ref a1)])) rfl rfl (hb hby d_prog_74_method_2_35)
  have k47 : ∀ t, own_S p e below T46 (mkF m 38 #[.val (.ref a1), .val (.int p2), .val (.ref s3), .val (.ref s4)] [(.ref b17)]) t → Gl t := fun t kt => k44 t (st46 _ kt)
  have k48 : ∀ t, own_S p e below T46 (mkF m 40 #[.val (.ref a1), .val (.int p2), .val (.ref s3), .val (.ref s4)] [(.ref s4), (.int p2), (.ref b17)]) t → Gl t := fun t kt => k47 t (by
    show own_S p e below T46 (mkF m 38 #[.val (.ref a1), .val (.int p2), .val (.ref s3), .val (.ref s4)] [(.ref b17)]) _
    refine XS.iloadN X46.here hx rfl (hb hby d_prog_74_method_2_38) rfl ?_
    show own_S p e below T46 (mkF m 39 #[.val (.ref a1), .val (.int p2), .val (.ref s3), .val (.ref s4)] [(.int p2), (.ref b17)]) _
    refine XS.aloadN X46.here hx rfl (hb hby d_prog_74_method_2_39) rfl rfl ?_
    exact kt)
  have f49 := ((V17.other W27 (Ne.symm ne_a1_b17)).other W38 (Ne.symm ne_b5_b17))
  obtain ⟨cl50, Ar50, q50, Sz50, Ng50, Hs50, Gs50⟩ := id f49
  have hin50 : ¬ (p2 < 0 ∨ cl50.slots.size ≤ (p2).toNatClampNeg) := inb_of Sz50 hb2
  have f51 := (((f20.ext E17).wr W27).wr W38)
  obtain ⟨T50, h50, X50, e50, W50, st50⟩ := stR X46 hx hZ e46 Ar50 (j := p2) hin50 rfl (Sto.ofV Ar50 q50 O17 (Ins.self f51)) (g := (mkF m 40 #[.val (.ref a1), .val (.int p2), .val (.ref s3), .val (.ref s4)] [(.ref s4), (.int p2), (.ref b17)])) rfl rfl (hb hby d_prog_74_method_2_40)
  have Z52 : n0 ≤ h50.size := Nat.le_trans Z40 (Keep.of_wr W50).1
  have K53 : Keep h0 h50 [a1] := K41.wr W50 (Or.inr sz_b17)
  have V50 : Arh Z h50 b17 kk17 (.object "java/lang/String") (4096 : Int32) [(p2, (.ref s4))] [] .null := Arh.push Ar50 q50 Sz50 Ng50 Hs50 Gs50 rfl W50 hin50
  have N54 := Fr.snoc X50 N42 g_b17
  have k55 : ∀ t, own_S p e below T50 (mkF m 41 #[.val (.ref a1), .val (.int p2), .val (.ref s3), .val (.ref s4)] []) t → Gl t := fun t kt => k48 t (st50 _ kt)
  obtain ⟨fs, hr, hrun, hended, hW, hsame⟩ := X50.leave (v := none) (fun _ => rfl)
  refine ⟨_, _, hGl _ (k55 _ (X50.returnOut hx Bd.returns (hb hby d_prog_74_method_2_41) hr)), hrun, hended, _, _, rfl, ?_, ⟨_, rfl⟩, hW, hsame.mono (by decide) (by decide)⟩
  show Q10a Z a1 p2 s3 s4 bN h0 n0 _ T50.heap _
  rw [e50]
  have f56 := (((f26.wr W27).wr W38).wr W50)
  have f57 := ((((f18.ext E17).other W27 (Or.inr (slot_ne (Or.inr (hw _ (List.mem_of_getElem? (i := 61) rfl))) (Or.inl (hw _ (List.mem_of_getElem? (i := 79) rfl))) (by decide) (t := (.array .int)) (t' := (.array (.object "java/lang/String"))) (by decide) (by decide)))).other W38 (Or.inl ne_a1_b5)).other W50 (Or.inl ne_a1_b17))
  have f58 := ((f33.other W38 (Or.inl ne_a1_b5)).other W50 (Or.inl ne_a1_b17))
  have f59 := (f45.other W50 (Or.inl ne_a1_b17))
  have f60 := (V38.other W50 ne_b5_b17)
  exact ⟨rfl, N54, b5, b17, _, _, g_b5, g_b17, sz_b5, sz_b17, ne_b5_b17, K53, f56, f57, f58, f59, f60, V50, O5, O17⟩

theorem ef_rm10b (m : MethodId) (x0 : Addr) (x1 : Int32) (x2 : Addr) (x3 : Addr) : entryFrame m #[(.ref x0), (.int x1), (.ref x2), (.ref x3)] 4 = mkF m 0 #[.val (.ref x0), .val (.int x1), .val (.ref x2), .val (.ref x3)] [] := by first | (simp [entryFrame, mkF, argsToLocals, Value.category]; done) | rfl
def Q10b (Z : State) (a1 : Addr) (p2 : Int32) (s3 : Addr) (s4 : Addr) (bS : Addr) (bC : Addr) (kS : ClassId) (kC : ClassId) (hsS : List (Int32 × Value)) (hsC : List (Int32 × Value)) (h0 : Heap) (n0 : Nat) (v : Option Value) (h : Heap) (L : List Loc) : Prop := v = none ∧ Fr n0 L ∧ Keep h0 h [bS, bC] ∧ Arh Z h bC kC (.object "java/lang/String") (4096 : Int32) ((p2, (.ref s4)) :: hsC) [] .null
set_option maxRecDepth 65536 in
set_option maxHeartbeats 40000000 in
theorem rm10b (l : Launch) (Z : State) (a0 : Array Value) (hw : ∀ d ∈ tables_1, d.before a0 Z = true) (ws : List Jvm.Cond) (a1 : Addr) (p2 : Int32) (s3 : Addr) (s4 : Addr) (bS : Addr) (bC : Addr) (kS : ClassId) (kC : ClassId) (hsS : List (Int32 × Value)) (hsC : List (Int32 × Value)) (h0 : Heap) (n0 : Nat) (Z0 : n0 ≤ h0.size) (F1 : Fld Z h0 a1 "com/example/pricecollar/pricecollar/tape/TradeTape$Columns" "unnumberedSymbols" "[Ljava/lang/String;" (.ref bS)) (F2 : Fld Z h0 a1 "com/example/pricecollar/pricecollar/tape/TradeTape$Columns" "unnumberedConditions" "[Ljava/lang/String;" (.ref bC)) (VS : Arh Z h0 bS kS (.object "java/lang/String") (4096 : Int32) hsS [] .null) (VC : Arh Z h0 bC kC (.object "java/lang/String") (4096 : Int32) hsC [] .null) (OvS : Ovr Z kS "java/lang/String") (OvC : Ovr Z kC "java/lang/String") (E_s3 : Exa Z h0 s3 "java/lang/String") (E_s4 : Exa Z h0 s4 "java/lang/String") (hb2 : ¬ p2 < 0 ∧ p2 < (4096 : Int32)) (g_bS : n0 ≤ bS) (g_bC : n0 ≤ bC) (neSC : bS ≠ bC) (neaS : a1 ≠ bS) (neaC : a1 ≠ bC) :
    MetFree l (⟨"com/example/pricecollar/pricecollar/tape/TradeTape$Columns", "keepUnnumbered", "(ILjava/lang/String;Ljava/lang/String;)V"⟩ : MethodName) (head1 (Jvm.Cond.code (⟨"com/example/pricecollar/pricecollar/tape/TradeTape$Columns", "keepUnnumbered", "(ILjava/lang/String;Ljava/lang/String;)V"⟩ : MethodName) prog_74_method_2_code 4 none :: ws) ({ frames := 0, cells := 0, slots := 0, locals := 0 } : Room)) (fun a U => a = #[(.ref a1), (.int p2), (.ref s3), (.ref s4)] ∧ Z.Warmed39 U.vm ∧ U.heap = h0) (fun _ _ _ _ _ => True) (fun _ U o U' => ∃ v L, o = .returned v ∧ Q10b Z a1 p2 s3 s4 bS bC kS kC hsS hsC h0 n0 v U'.heap L ∧ FrameEnd U o U' L ({ frames := 0, cells := 0, slots := 0, locals := 0 } : Room).cells ({ frames := 0, cells := 0, slots := 0, locals := 0 } : Room).slots) := by
  refine MetFree.of_bodySF (plainFor_of_name pn_2) hisR ?_
  intro p e s m args below meth c s₁ Bd hml0 hP hK
  obtain ⟨rfl, hZ, hh⟩ := hP
  have hx := Bd.exec
  have hby := Bd.bytes
  have hml : c.maxLocals = 4 := hml0
  have hown : s.vm.findClass "com/example/pricecollar/pricecollar/tape/TradeTape$Columns" = some m.cls := findClass_of_methodNamed Bd.named
  have hnm := (name_of_methodNamed Bd.named Bd.method).1
  have X0 : Stand p l e ({ frames := 0, cells := 0, slots := 0, locals := 0 } : Room) s m #[(.ref a1), (.int p2), (.ref s3), (.ref s4)] below meth c s₁ [] 0 0 := Stand.of_body Bd
  have e0 : s₁.heap = h0 := by rw [← hh, Bd.state]; rfl
  have N0 := Fr.nil n0
  obtain ⟨Gl, hGl, k0⟩ : ∃ Gl : State → Prop, (∀ t, Gl t → Steps p.tables e below (s₁.setTop (entryFrame m #[(.ref a1), (.int p2), (.ref s3), (.ref s4)] 4)) t) ∧ ∀ t, own_S p e below s₁ (mkF m 0 #[.val (.ref a1), .val (.int p2), .val (.ref s3), .val (.ref s4)] []) t → Gl t := ⟨fun t => Steps p.tables e below (s₁.setTop (entryFrame m #[(.ref a1), (.int p2), (.ref s3), (.ref s4)] 4)) t, fun _ k => k, fun t k => castTop (ef_rm10b m a1 p2 s3 s4) k⟩
  have k1 : ∀ t, own_S p e below s₁ (mkF m 1 #[.val (.ref a1), .val (.int p2), .val (.ref s3), .val (.ref s4)] [(.ref a1)]) t → Gl t := fun t kt => k0 t (by
    show own_S p e below s₁ (mkF m 0 #[.val (.ref a1), .val (.int p2), .val (.ref s3), .val (.ref s4)] []) _
    refine XS.aloadN X0.here hx rfl (hb hby d_prog_74_method_2_0) rfl rfl ?_
    exact kt)
  obtain ⟨T2, X2, e2, st2⟩ := getF X0 hx hZ hown (host := "") (Or.inl (hw _ (List.mem_of_getElem? (i := 74) rfl))) Via.refl e0 F1 (g := (mkF m 1 #[.val (.ref a1), .val (.int p2), .val (.ref s3), .val (.ref s4)] [(.ref a1)])) rfl rfl (hb hby d_prog_74_method_2_1)
  have k3 : ∀ t, own_S p e below T2 (mkF m 4 #[.val (.ref a1), .val (.int p2), .val (.ref s3), .val (.ref s4)] [(.ref bS)]) t → Gl t := fun t kt => k1 t (st2 _ kt)
  have k4 : ∀ t, own_S p e below T2 (mkF m 28 #[.val (.ref a1), .val (.int p2), .val (.ref s3), .val (.ref s4)] [(.ref a1)]) t → Gl t := fun t kt => k3 t (by
    show own_S p e below T2 (mkF m 4 #[.val (.ref a1), .val (.int p2), .val (.ref s3), .val (.ref s4)] [(.ref bS)]) _
    refine XS.ifnonnullYes X2.here hx rfl (pc0 := 4) (pc' := 27) rfl (hb hby d_prog_74_method_2_4) rfl (by decide) (by decide) ?_
    show own_S p e below T2 (mkF m 27 #[.val (.ref a1), .val (.int p2), .val (.ref s3), .val (.ref s4)] []) _
    refine XS.aloadN X2.here hx rfl (hb hby d_prog_74_method_2_27) rfl rfl ?_
    exact kt)
  obtain ⟨T5, X5, e5, st5⟩ := getF X2 hx hZ hown (host := "") (Or.inl (hw _ (List.mem_of_getElem? (i := 74) rfl))) Via.refl e2 F1 (g := (mkF m 28 #[.val (.ref a1), .val (.int p2), .val (.ref s3), .val (.ref s4)] [(.ref a1)])) rfl rfl (hb hby d_prog_74_method_2_28)
  have k6 : ∀ t, own_S p e below T5 (mkF m 31 #[.val (.ref a1), .val (.int p2), .val (.ref s3), .val (.ref s4)] [(.ref bS)]) t → Gl t := fun t kt => k4 t (st5 _ kt)
  have k7 : ∀ t, own_S p e below T5 (mkF m 33 #[.val (.ref a1), .val (.int p2), .val (.ref s3), .val (.ref s4)] [(.ref s3), (.int p2), (.ref bS)]) t → Gl t := fun t kt => k6 t (by
    show own_S p e below T5 (mkF m 31 #[.val (.ref a1), .val (.int p2), .val (.ref s3), .val (.ref s4)] [(.ref bS)]) _
    refine XS.iloadN X5.here hx rfl (hb hby d_prog_74_method_2_31) rfl ?_
    show own_S p e below T5 (mkF m 32 #[.val (.ref a1), .val (.int p2), .val (.ref s3), .val (.ref s4)] [(.int p2), (.ref bS)]) _
    refine XS.aloadN X5.here hx rfl (hb hby d_prog_74_method_2_32) rfl rfl ?_
    exact kt)
  obtain ⟨cl8, Ar8, q8, Sz8, Ng8, Hs8, Gs8⟩ := id VS
  have hin8 : ¬ (p2 < 0 ∨ cl8.slots.size ≤ (p2).toNatClampNeg) := inb_of Sz8 hb2
  obtain ⟨T8, h8, X8, e8, W8, st8⟩ := stR X5 hx hZ e5 Ar8 (j := p2) hin8 rfl (Sto.ofV Ar8 q8 OvS (Ins.self E_s3)) (g := (mkF m 33 #[.val (.ref a1), .val (.int p2), .val (.ref s3), .val (.ref s4)] [(.ref s3), (.int p2), (.ref bS)])) rfl rfl (hb hby d_prog_74_method_2_33)
  have Z9 : n0 ≤ h8.size := Nat.le_trans Z0 (Keep.of_wr W8).1
  have K10 : Keep h0 h8 [bS, bC] := (Keep.refl h0 [bS, bC]).wr W8 (Or.inl (List.mem_of_getElem? (i := 0) rfl))
  have V8 : Arh Z h8 bS kS (.object "java/lang/String") (4096 : Int32) ((p2, (.ref s3)) :: hsS) [] .null := Arh.push Ar8 q8 Sz8 Ng8 Hs8 Gs8 rfl W8 hin8
  have N11 := Fr.snoc X8 N0 g_bS
  have k12 : ∀ t, own_S p e below T8 (mkF m 34 #[.val (.ref a1), .val (.int p2), .val (.ref s3), .val (.ref s4)] []) t → Gl t := fun t kt => k7 t (st8 _ kt)
  have k13 : ∀ t, own_S p e below T8 (mkF m 35 #[.val (.ref a1), .val (.int p2), .val (.ref s3), .val (.ref s4)] [(.ref a1)]) t → Gl t := fun t kt => k12 t (by
    show own_S p e below T8 (mkF m 34 #[.val (.ref a1), .val (.int p2), .val (.ref s3), .val (.ref s4)] []) _
    refine XS.aloadN X8.here hx rfl (hb hby d_prog_74_method_2_34) rfl rfl ?_
    exact kt)
  have f14 := (F2.other W8 (Or.inl neaS))
  obtain ⟨T15, X15, e15, st15⟩ := getF X8 hx hZ hown (host := "") (Or.inl (hw _ (List.mem_of_getElem? (i := 78) rfl))) Via.refl e8 f14 (g := (mkF m 35 #[.val (.ref a1), .val (.int p2), .val (.ref s3), .val (.ref s4)] [(.ref a1)])) rfl rfl (hb hby d_prog_74_method_2_35)
  have k16 : ∀ t, own_S p e below T15 (mkF m 38 #[.val (.ref a1), .val (.int p2), .val (.ref s3), .val (.ref s4)] [(.ref bC)]) t → Gl t := fun t kt => k13 t (st15 _ kt)
  have k17 : ∀ t, own_S p e below T15 (mkF m 40 #[.val (.ref a1), .val (.int p2), .val (.ref s3), .val (.ref s4)] [(.ref s4), (.int p2), (.ref bC)]) t → Gl t := fun t kt => k16 t (by
    show own_S p e below T15 (mkF m 38 #[.val (.ref a1), .val (.int p2), .val (.ref s3), .val (.ref s4)] [(.ref bC)]) _
    refine XS.iloadN X15.here hx rfl (hb hby d_prog_74_method_2_38) rfl ?_
    show own_S p e below T15 (mkF m 39 #[.val (.ref a1), .val (.int p2), .val (.ref s3), .val (.ref s4)] [(.int p2), (.ref bC)]) _
    refine XS.aloadN X15.here hx rfl (hb hby d_prog_74_method_2_39) rfl rfl ?_
    exact kt)
  have f18 := (VC.other W8 (Ne.symm neSC))
  obtain ⟨cl19, Ar19, q19, Sz19, Ng19, Hs19, Gs19⟩ := id f18
  have hin19 : ¬ (p2 < 0 ∨ cl19.slots.size ≤ (p2).toNatClampNeg) := inb_of Sz19 hb2
  have f20 := (E_s4.wr W8)
  obtain ⟨T19, h19, X19, e19, W19, st19⟩ := stR X15 hx hZ e15 Ar19 (j := p2) hin19 rfl (Sto.ofV Ar19 q19 OvC (Ins.self f20)) (g := (mkF m 40 #[.val (.ref a1), .val (.int p2), .val (.ref s3), .val (.ref s4)] [(.ref s4), (.int p2), (.ref bC)])) rfl rfl (hb hby d_prog_74_method_2_40)
  have Z21 : n0 ≤ h19.size := Nat.le_trans Z9 (Keep.of_wr W19).1
  have K22 : Keep h0 h19 [bS, bC] := K10.wr W19 (Or.inl (List.mem_of_getElem? (i := 1) rfl))
  have V19 : Arh Z h19 bC kC (.object "java/lang/String") (4096 : Int32) ((p2, (.ref s4)) :: hsC) [] .null := Arh.push Ar19 q19 Sz19 Ng19 Hs19 Gs19 rfl W19 hin19
  have N23 := Fr.snoc X19 N11 g_bC
  have k24 : ∀ t, own_S p e below T19 (mkF m 41 #[.val (.ref a1), .val (.int p2), .val (.ref s3), .val (.ref s4)] []) t → Gl t := fun t kt => k17 t (st19 _ kt)
  obtain ⟨fs, hr, hrun, hended, hW, hsame⟩ := X19.leave (v := none) (fun _ => rfl)
  refine ⟨_, _, hGl _ (k24 _ (X19.returnOut hx Bd.returns (hb hby d_prog_74_method_2_41) hr)), hrun, hended, _, _, rfl, ?_, ⟨_, rfl⟩, hW, hsame.mono (by decide) (by decide)⟩
  show Q10b Z a1 p2 s3 s4 bS bC kS kC hsS hsC h0 n0 _ T19.heap _
  rw [e19]
  exact ⟨rfl, N23, K22, V19⟩

theorem d_prog_74_method_3_0 : decode prog_74_method_3_code 0 = .ok (.aload_n 0, 1) := by decide +kernel
theorem d_prog_74_method_3_1 : decode prog_74_method_3_code 1 = .ok (.getfield 19, 3) := by decide +kernel
theorem d_prog_74_method_3_4 : decode prog_74_method_3_code 4 = .ok (.iload_n 1, 1) := by decide +kernel
theorem d_prog_74_method_3_5 : decode prog_74_method_3_code 5 = .ok (.iaload, 1) := by decide +kernel
theorem d_prog_74_method_3_6 : decode prog_74_method_3_code 6 = .ok (.istore_n 2, 1) := by decide +kernel
theorem d_prog_74_method_3_7 : decode prog_74_method_3_code 7 = .ok (.iload_n 2, 1) := by decide +kernel
theorem d_prog_74_method_3_8 : decode prog_74_method_3_code 8 = .ok (.ifCond .ge 12, 3) := by decide +kernel
theorem d_prog_74_method_3_11 : decode prog_74_method_3_code 11 = .ok (.aload_n 0, 1) := by decide +kernel
theorem d_prog_74_method_3_12 : decode prog_74_method_3_code 12 = .ok (.getfield 38, 3) := by decide +kernel
theorem d_prog_74_method_3_15 : decode prog_74_method_3_code 15 = .ok (.iload_n 1, 1) := by decide +kernel
theorem d_prog_74_method_3_16 : decode prog_74_method_3_code 16 = .ok (.aaload, 1) := by decide +kernel
theorem d_prog_74_method_3_17 : decode prog_74_method_3_code 17 = .ok (.goto 9, 3) := by decide +kernel
theorem d_prog_74_method_3_26 : decode prog_74_method_3_code 26 = .ok (.areturn, 1) := by decide +kernel
theorem ef_rm11r (m : MethodId) (x0 : Addr) (x1 : Int32) : entryFrame m #[(.ref x0), (.int x1)] 3 = mkF m 0 #[.val (.ref x0), .val (.int x1), .unset] [] := by first | (simp [entryFrame, mkF, argsToLocals, Value.category]; done) | rfl
def Q11r (Z : State) (a1 : Addr) (p2 : Int32) (bN : Addr) (bC : Addr) (kN : ClassId) (kC : ClassId) (hsN : List (Int32 × Value)) (hsC : List (Int32 × Value)) (y1 : Addr) (h0 : Heap) (n0 : Nat) (v : Option Value) (h : Heap) (L : List Loc) : Prop := v = some (.ref y1) ∧ Fr n0 L ∧ h = h0
set_option maxRecDepth 65536 in
set_option maxHeartbeats 40000000 in
theorem rm11r (l : Launch) (Z : State) (a0 : Array Value) (hw : ∀ d ∈ tables_1, d.before a0 Z = true) (ws : List Jvm.Cond) (a1 : Addr) (p2 : Int32) (bN : Addr) (bC : Addr) (kN : ClassId) (kC : ClassId) (hsN : List (Int32 × Value)) (hsC : List (Int32 × Value)) (y1 : Addr) (h0 : Heap) (n0 : Nat) (Z0 : n0 ≤ h0.size) (F0 : Fld Z h0 a1 "com/example/pricecollar/pricecollar/tape/TradeTape$Columns" "conditionsNumbers" "[I" (.ref bN)) (F2 : Fld Z h0 a1 "com/example/pricecollar/pricecollar/tape/TradeTape$Columns" "unnumberedConditions" "[Ljava/lang/String;" (.ref bC)) (VN : Arh Z h0 bN kN .int (4096 : Int32) hsN [] (.int (0 : Int32))) (VC : Arh Z h0 bC kC (.object "java/lang/String") (4096 : Int32) hsC [] .null) (hb2 : ¬ p2 < 0 ∧ p2 < (4096 : Int32)) (gN : getH hsN [] (.int (0 : Int32)) p2.toNatClampNeg = (.int (-1 : Int32))) (gC : getH hsC [] .null p2.toNatClampNeg = (.ref y1)) :
    MetFree l (⟨"com/example/pricecollar/pricecollar/tape/TradeTape$Columns", "conditions", "(I)Ljava/lang/String;"⟩ : MethodName) (head1 (Jvm.Cond.code (⟨"com/example/pricecollar/pricecollar/tape/TradeTape$Columns", "conditions", "(I)Ljava/lang/String;"⟩ : MethodName) prog_74_method_3_code 3 (some (.object "java/lang/String")) :: ws) ({ frames := 0, cells := 0, slots := 0, locals := 0 } : Room)) (fun a U => a = #[(.ref a1), (.int p2)] ∧ Z.Warmed39 U.vm ∧ U.heap = h0) (fun _ _ _ _ _ => True) (fun _ U o U' => ∃ v L, o = .returned v ∧ Q11r Z a1 p2 bN bC kN kC hsN hsC y1 h0 n0 v U'.heap L ∧ FrameEnd U o U' L ({ frames := 0, cells := 0, slots := 0, locals := 0 } : Room).cells ({ frames := 0, cells := 0, slots := 0, locals := 0 } : Room).slots) := by
  refine MetFree.of_bodySF (plainFor_of_name pn_2) hisR ?_
  intro p e s m args below meth c s₁ Bd hml0 hP hK
  obtain ⟨rfl, hZ, hh⟩ := hP
  have hx := Bd.exec
  have hby := Bd.bytes
  have hml : c.maxLocals = 3 := hml0
  have hown : s.vm.findClass "com/example/pricecollar/pricecollar/tape/TradeTape$Columns" = some m.cls := findClass_of_methodNamed Bd.named
  have hnm := (name_of_methodNamed Bd.named Bd.method).1
  have X0 : Stand p l e ({ frames := 0, cells := 0, slots := 0, locals := 0 } : Room) s m #[(.ref a1), (.int p2)] below meth c s₁ [] 0 0 := Stand.of_body Bd
  have e0 : s₁.heap = h0 := by rw [← hh, Bd.state]; rfl
  have N0 := Fr.nil n0
  obtain ⟨Gl, hGl, k0⟩ : ∃ Gl : State → Prop, (∀ t, Gl t → Steps p.tables e below (s₁.setTop (entryFrame m #[(.ref a1), (.int p2)] 3)) t) ∧ ∀ t, own_S p e below s₁ (mkF m 0 #[.val (.ref a1), .val (.int p2), .unset] []) t → Gl t := ⟨fun t => Steps p.tables e below (s₁.setTop (entryFrame m #[(.ref a1), (.int p2)] 3)) t, fun _ k => k, fun t k => castTop (ef_rm11r m a1 p2) k⟩
  have k1 : ∀ t, own_S p e below s₁ (mkF m 1 #[.val (.ref a1), .val (.int p2), .unset] [(.ref a1)]) t → Gl t := fun t kt => k0 t (by
    show own_S p e below s₁ (mkF m 0 #[.val (.ref a1), .val (.int p2), .unset] []) _
    refine XS.aloadN X0.here hx rfl (hb hby d_prog_74_method_3_0) rfl rfl ?_
    exact kt)
  obtain ⟨T2, X2, e2, st2⟩ := getF X0 hx hZ hown (host := "") (Or.inl (hw _ (List.mem_of_getElem? (i := 60) rfl))) Via.refl e0 F0 (g := (mkF m 1 #[.val (.ref a1), .val (.int p2), .unset] [(.ref a1)])) rfl rfl (hb hby d_prog_74_method_3_1)
  have k3 : ∀ t, own_S p e below T2 (mkF m 4 #[.val (.ref a1), .val (.int p2), .unset] [(.ref bN)]) t → Gl t := fun t kt => k1 t (st2 _ kt)
  have k4 : ∀ t, own_S p e below T2 (mkF m 5 #[.val (.ref a1), .val (.int p2), .unset] [(.int p2), (.ref bN)]) t → Gl t := fun t kt => k3 t (by
    show own_S p e below T2 (mkF m 4 #[.val (.ref a1), .val (.int p2), .unset] [(.ref bN)]) _
    refine XS.iloadN X2.here hx rfl (hb hby d_prog_74_method_3_4) rfl ?_
    exact kt)
  obtain ⟨cl5, Ar5, q5, Sz5, Ng5, Hs5, Gs5⟩ := id VN
  have hin5 : ¬ (p2 < 0 ∨ cl5.slots.size ≤ (p2).toNatClampNeg) := inb_of Sz5 hb2
  have hat5 : cl5.slots[(p2).toNatClampNeg]? = some (.int (-1 : Int32)) := atH Hs5 hin5 gN
  have k6 : ∀ t, own_S p e below T2 (mkF m 12 #[.val (.ref a1), .val (.int p2), .val (.int (-1 : Int32))] [(.ref a1)]) t → Gl t := fun t kt => k4 t (by
    show own_S p e below T2 (mkF m 5 #[.val (.ref a1), .val (.int p2), .unset] [(.int p2), (.ref bN)]) _
    refine X2.iaload hx (j := p2) (v := (.int (-1 : Int32))) (by rw [e2]; exact Ar5.1) (State.isArrayOf_alike hZ.alike Ar5.2.1) Ar5.2.2 hin5 hat5 (g := (mkF m 5 #[.val (.ref a1), .val (.int p2), .unset] [(.int p2), (.ref bN)])) rfl rfl (hb hby d_prog_74_method_3_5) _ ?_
    show own_S p e below T2 (mkF m 6 #[.val (.ref a1), .val (.int p2), .unset] [(.int (-1 : Int32))]) _
    refine XS.istoreN X2.here hx rfl (hb hby d_prog_74_method_3_6) rfl (l' := #[.val (.ref a1), .val (.int p2), .val (.int (-1 : Int32))]) rfl ?_
    show own_S p e below T2 (mkF m 7 #[.val (.ref a1), .val (.int p2), .val (.int (-1 : Int32))] []) _
    refine XS.iloadN X2.here hx rfl (hb hby d_prog_74_method_3_7) rfl ?_
    show own_S p e below T2 (mkF m 8 #[.val (.ref a1), .val (.int p2), .val (.int (-1 : Int32))] [(.int (-1 : Int32))]) _
    refine XS.ifNo X2.here hx rfl (hb hby d_prog_74_method_3_8) rfl ((if0 _ _).trans (tlt (by decide : (-1 : Int32) < (0 : Int32))).2.1) ?_
    show own_S p e below T2 (mkF m 11 #[.val (.ref a1), .val (.int p2), .val (.int (-1 : Int32))] []) _
    refine XS.aloadN X2.here hx rfl (hb hby d_prog_74_method_3_11) rfl rfl ?_
    exact kt)
  obtain ⟨T7, X7, e7, st7⟩ := getF X2 hx hZ hown (host := "") (Or.inl (hw _ (List.mem_of_getElem? (i := 78) rfl))) Via.refl e2 F2 (g := (mkF m 12 #[.val (.ref a1), .val (.int p2), .val (.int (-1 : Int32))] [(.ref a1)])) rfl rfl (hb hby d_prog_74_method_3_12)
  have k8 : ∀ t, own_S p e below T7 (mkF m 15 #[.val (.ref a1), .val (.int p2), .val (.int (-1 : Int32))] [(.ref bC)]) t → Gl t := fun t kt => k6 t (st7 _ kt)
  have k9 : ∀ t, own_S p e below T7 (mkF m 16 #[.val (.ref a1), .val (.int p2), .val (.int (-1 : Int32))] [(.int p2), (.ref bC)]) t → Gl t := fun t kt => k8 t (by
    show own_S p e below T7 (mkF m 15 #[.val (.ref a1), .val (.int p2), .val (.int (-1 : Int32))] [(.ref bC)]) _
    refine XS.iloadN X7.here hx rfl (hb hby d_prog_74_method_3_15) rfl ?_
    exact kt)
  obtain ⟨cl10, Ar10, q10, Sz10, Ng10, Hs10, Gs10⟩ := id VC
  have hin10 : ¬ (p2 < 0 ∨ cl10.slots.size ≤ (p2).toNatClampNeg) := inb_of Sz10 hb2
  have hat10 : cl10.slots[(p2).toNatClampNeg]? = some (.ref y1) := atH Hs10 hin10 gC
  have k11 : ∀ t, own_S p e below T7 (mkF m 26 #[.val (.ref a1), .val (.int p2), .val (.int (-1 : Int32))] [(.ref y1)]) t → Gl t := fun t kt => k9 t (by
    show own_S p e below T7 (mkF m 16 #[.val (.ref a1), .val (.int p2), .val (.int (-1 : Int32))] [(.int p2), (.ref bC)]) _
    refine X7.aaload hx (j := p2) (v := (.ref y1)) (by rw [e7]; exact Ar10.1) (State.isArrayOf_alike hZ.alike Ar10.2.1) rfl Ar10.2.2 hin10 hat10 (g := (mkF m 16 #[.val (.ref a1), .val (.int p2), .val (.int (-1 : Int32))] [(.int p2), (.ref bC)])) rfl rfl (hb hby d_prog_74_method_3_16) _ ?_
    show own_S p e below T7 (mkF m 17 #[.val (.ref a1), .val (.int p2), .val (.int (-1 : Int32))] [(.ref y1)]) _
    refine XS.goto X7.here hx rfl (pc0 := 17) (pc' := 26) rfl (hb hby d_prog_74_method_3_17) (by decide) (by decide) ?_
    exact kt)
  obtain ⟨fs, hr, hrun, hended, hW, hsame⟩ := X7.leave (v := some (.ref y1)) (fun h => by rw [Bd.returns] at h; cases h)
  refine ⟨_, _, hGl _ (k11 _ (by
      show own_S p e below T7 (mkF m 26 #[.val (.ref a1), .val (.int p2), .val (.int (-1 : Int32))] [(.ref y1)]) _
      jvm_step X7.here [X7.here.top, hx, (hb hby d_prog_74_method_3_26), X7.method', Bd.returns, Value.isRef, FieldType.isReference]
      first | (intro acts; rw [hr _ acts rfl rfl rfl]) | rw [hr _ _ rfl rfl rfl]
      exact Steps.refl _)), hrun, hended, _, _, rfl, ?_, ⟨_, rfl⟩, hW, hsame.mono (by decide) (by decide)⟩
  show Q11r Z a1 p2 bN bC kN kC hsN hsC y1 h0 n0 _ T7.heap _
  rw [e7]
  exact ⟨rfl, N0, rfl⟩

theorem ef_rm11n (m : MethodId) (x0 : Addr) (x1 : Int32) : entryFrame m #[(.ref x0), (.int x1)] 3 = mkF m 0 #[.val (.ref x0), .val (.int x1), .unset] [] := by first | (simp [entryFrame, mkF, argsToLocals, Value.category]; done) | rfl
def Q11n (Z : State) (a1 : Addr) (p2 : Int32) (bN : Addr) (bC : Addr) (kN : ClassId) (kC : ClassId) (hsN : List (Int32 × Value)) (hsC : List (Int32 × Value)) (h0 : Heap) (n0 : Nat) (v : Option Value) (h : Heap) (L : List Loc) : Prop := v = some .null ∧ Fr n0 L ∧ h = h0
set_option maxRecDepth 65536 in
set_option maxHeartbeats 40000000 in
theorem rm11n (l : Launch) (Z : State) (a0 : Array Value) (hw : ∀ d ∈ tables_1, d.before a0 Z = true) (ws : List Jvm.Cond) (a1 : Addr) (p2 : Int32) (bN : Addr) (bC : Addr) (kN : ClassId) (kC : ClassId) (hsN : List (Int32 × Value)) (hsC : List (Int32 × Value)) (h0 : Heap) (n0 : Nat) (Z0 : n0 ≤ h0.size) (F0 : Fld Z h0 a1 "com/example/pricecollar/pricecollar/tape/TradeTape$Columns" "conditionsNumbers" "[I" (.ref bN)) (F2 : Fld Z h0 a1 "com/example/pricecollar/pricecollar/tape/TradeTape$Columns" "unnumberedConditions" "[Ljava/lang/String;" (.ref bC)) (VN : Arh Z h0 bN kN .int (4096 : Int32) hsN [] (.int (0 : Int32))) (VC : Arh Z h0 bC kC (.object "java/lang/String") (4096 : Int32) hsC [] .null) (hb2 : ¬ p2 < 0 ∧ p2 < (4096 : Int32)) (gN : getH hsN [] (.int (0 : Int32)) p2.toNatClampNeg = (.int (-1 : Int32))) (gC : getH hsC [] .null p2.toNatClampNeg = .null) :
    MetFree l (⟨"com/example/pricecollar/pricecollar/tape/TradeTape$Columns", "conditions", "(I)Ljava/lang/String;"⟩ : MethodName) (head1 (Jvm.Cond.code (⟨"com/example/pricecollar/pricecollar/tape/TradeTape$Columns", "conditions", "(I)Ljava/lang/String;"⟩ : MethodName) prog_74_method_3_code 3 (some (.object "java/lang/String")) :: ws) ({ frames := 0, cells := 0, slots := 0, locals := 0 } : Room)) (fun a U => a = #[(.ref a1), (.int p2)] ∧ Z.Warmed39 U.vm ∧ U.heap = h0) (fun _ _ _ _ _ => True) (fun _ U o U' => ∃ v L, o = .returned v ∧ Q11n Z a1 p2 bN bC kN kC hsN hsC h0 n0 v U'.heap L ∧ FrameEnd U o U' L ({ frames := 0, cells := 0, slots := 0, locals := 0 } : Room).cells ({ frames := 0, cells := 0, slots := 0, locals := 0 } : Room).slots) := by
  refine MetFree.of_bodySF (plainFor_of_name pn_2) hisR ?_
  intro p e s m args below meth c s₁ Bd hml0 hP hK
  obtain ⟨rfl, hZ, hh⟩ := hP
  have hx := Bd.exec
  have hby := Bd.bytes
  have hml : c.maxLocals = 3 := hml0
  have hown : s.vm.findClass "com/example/pricecollar/pricecollar/tape/TradeTape$Columns" = some m.cls := findClass_of_methodNamed Bd.named
  have hnm := (name_of_methodNamed Bd.named Bd.method).1
  have X0 : Stand p l e ({ frames := 0, cells := 0, slots := 0, locals := 0 } : Room) s m #[(.ref a1), (.int p2)] below meth c s₁ [] 0 0 := Stand.of_body Bd
  have e0 : s₁.heap = h0 := by rw [← hh, Bd.state]; rfl
  have N0 := Fr.nil n0
  obtain ⟨Gl, hGl, k0⟩ : ∃ Gl : State → Prop, (∀ t, Gl t → Steps p.tables e below (s₁.setTop (entryFrame m #[(.ref a1), (.int p2)] 3)) t) ∧ ∀ t, own_S p e below s₁ (mkF m 0 #[.val (.ref a1), .val (.int p2), .unset] []) t → Gl t := ⟨fun t => Steps p.tables e below (s₁.setTop (entryFrame m #[(.ref a1), (.int p2)] 3)) t, fun _ k => k, fun t k => castTop (ef_rm11n m a1 p2) k⟩
  have k1 : ∀ t, own_S p e below s₁ (mkF m 1 #[.val (.ref a1), .val (.int p2), .unset] [(.ref a1)]) t → Gl t := fun t kt => k0 t (by
    show own_S p e below s₁ (mkF m 0 #[.val (.ref a1), .val (.int p2), .unset] []) _
    refine XS.aloadN X0.here hx rfl (hb hby d_prog_74_method_3_0) rfl rfl ?_
    exact kt)
  obtain ⟨T2, X2, e2, st2⟩ := getF X0 hx hZ hown (host := "") (Or.inl (hw _ (List.mem_of_getElem? (i := 60) rfl))) Via.refl e0 F0 (g := (mkF m 1 #[.val (.ref a1), .val (.int p2), .unset] [(.ref a1)])) rfl rfl (hb hby d_prog_74_method_3_1)
  have k3 : ∀ t, own_S p e below T2 (mkF m 4 #[.val (.ref a1), .val (.int p2), .unset] [(.ref bN)]) t → Gl t := fun t kt => k1 t (st2 _ kt)
  have k4 : ∀ t, own_S p e below T2 (mkF m 5 #[.val (.ref a1), .val (.int p2), .unset] [(.int p2), (.ref bN)]) t → Gl t := fun t kt => k3 t (by
    show own_S p e below T2 (mkF m 4 #[.val (.ref a1), .val (.int p2), .unset] [(.ref bN)]) _
    refine XS.iloadN X2.here hx rfl (hb hby d_prog_74_method_3_4) rfl ?_
    exact kt)
  obtain ⟨cl5, Ar5, q5, Sz5, Ng5, Hs5, Gs5⟩ := id VN
  have hin5 : ¬ (p2 < 0 ∨ cl5.slots.size ≤ (p2).toNatClampNeg) := inb_of Sz5 hb2
  have hat5 : cl5.slots[(p2).toNatClampNeg]? = some (.int (-1 : Int32)) := atH Hs5 hin5 gN
  have k6 : ∀ t, own_S p e below T2 (mkF m 12 #[.val (.ref a1), .val (.int p2), .val (.int (-1 : Int32))] [(.ref a1)]) t → Gl t := fun t kt => k4 t (by
    show own_S p e below T2 (mkF m 5 #[.val (.ref a1), .val (.int p2), .unset] [(.int p2), (.ref bN)]) _
    refine X2.iaload hx (j := p2) (v := (.int (-1 : Int32))) (by rw [e2]; exact Ar5.1) (State.isArrayOf_alike hZ.alike Ar5.2.1) Ar5.2.2 hin5 hat5 (g := (mkF m 5 #[.val (.ref a1), .val (.int p2), .unset] [(.int p2), (.ref bN)])) rfl rfl (hb hby d_prog_74_method_3_5) _ ?_
    show own_S p e below T2 (mkF m 6 #[.val (.ref a1), .val (.int p2), .unset] [(.int (-1 : Int32))]) _
    refine XS.istoreN X2.here hx rfl (hb hby d_prog_74_method_3_6) rfl (l' := #[.val (.ref a1), .val (.int p2), .val (.int (-1 : Int32))]) rfl ?_
    show own_S p e below T2 (mkF m 7 #[.val (.ref a1), .val (.int p2), .val (.int (-1 : Int32))] []) _
    refine XS.iloadN X2.here hx rfl (hb hby d_prog_74_method_3_7) rfl ?_
    show own_S p e below T2 (mkF m 8 #[.val (.ref a1), .val (.int p2), .val (.int (-1 : Int32))] [(.int (-1 : Int32))]) _
    refine XS.ifNo X2.here hx rfl (hb hby d_prog_74_method_3_8) rfl ((if0 _ _).trans (tlt (by decide : (-1 : Int32) < (0 : Int32))).2.1) ?_
    show own_S p e below T2 (mkF m 11 #[.val (.ref a1), .val (.int p2), .val (.int (-1 : Int32))] []) _
    refine XS.aloadN X2.here hx rfl (hb hby d_prog_74_method_3_11) rfl rfl ?_
    exact kt)
  obtain ⟨T7, X7, e7, st7⟩ := getF X2 hx hZ hown (host := "") (Or.inl (hw _ (List.mem_of_getElem? (i := 78) rfl))) Via.refl e2 F2 (g := (mkF m 12 #[.val (.ref a1), .val (.int p2), .val (.int (-1 : Int32))] [(.ref a1)])) rfl rfl (hb hby d_prog_74_method_3_12)
  have k8 : ∀ t, own_S p e below T7 (mkF m 15 #[.val (.ref a1), .val (.int p2), .val (.int (-1 : Int32))] [(.ref bC)]) t → Gl t := fun t kt => k6 t (st7 _ kt)
  have k9 : ∀ t, own_S p e below T7 (mkF m 16 #[.val (.ref a1), .val (.int p2), .val (.int (-1 : Int32))] [(.int p2), (.ref bC)]) t → Gl t := fun t kt => k8 t (by
    show own_S p e below T7 (mkF m 15 #[.val (.ref a1), .val (.int p2), .val (.int (-1 : Int32))] [(.ref bC)]) _
    refine XS.iloadN X7.here hx rfl (hb hby d_prog_74_method_3_15) rfl ?_
    exact kt)
  obtain ⟨cl10, Ar10, q10, Sz10, Ng10, Hs10, Gs10⟩ := id VC
  have hin10 : ¬ (p2 < 0 ∨ cl10.slots.size ≤ (p2).toNatClampNeg) := inb_of Sz10 hb2
  have hat10 : cl10.slots[(p2).toNatClampNeg]? = some .null := atH Hs10 hin10 gC
  have k11 : ∀ t, own_S p e below T7 (mkF m 26 #[.val (.ref a1), .val (.int p2), .val (.int (-1 : Int32))] [.null]) t → Gl t := fun t kt => k9 t (by
    show own_S p e below T7 (mkF m 16 #[.val (.ref a1), .val (.int p2), .val (.int (-1 : Int32))] [(.int p2), (.ref bC)]) _
    refine X7.aaload hx (j := p2) (v := .null) (by rw [e7]; exact Ar10.1) (State.isArrayOf_alike hZ.alike Ar10.2.1) rfl Ar10.2.2 hin10 hat10 (g := (mkF m 16 #[.val (.ref a1), .val (.int p2), .val (.int (-1 : Int32))] [(.int p2), (.ref bC)])) rfl rfl (hb hby d_prog_74_method_3_16) _ ?_
    show own_S p e below T7 (mkF m 17 #[.val (.ref a1), .val (.int p2), .val (.int (-1 : Int32))] [.null]) _
    refine XS.goto X7.here hx rfl (pc0 := 17) (pc' := 26) rfl (hb hby d_prog_74_method_3_17) (by decide) (by decide) ?_
    exact kt)
  obtain ⟨fs, hr, hrun, hended, hW, hsame⟩ := X7.leave (v := some .null) (fun h => by rw [Bd.returns] at h; cases h)
  refine ⟨_, _, hGl _ (k11 _ (by
      show own_S p e below T7 (mkF m 26 #[.val (.ref a1), .val (.int p2), .val (.int (-1 : Int32))] [.null]) _
      jvm_step X7.here [X7.here.top, hx, (hb hby d_prog_74_method_3_26), X7.method', Bd.returns, Value.isRef, FieldType.isReference]
      first | (intro acts; rw [hr _ acts rfl rfl rfl]) | rw [hr _ _ rfl rfl rfl]
      exact Steps.refl _)), hrun, hended, _, _, rfl, ?_, ⟨_, rfl⟩, hW, hsame.mono (by decide) (by decide)⟩
  show Q11n Z a1 p2 bN bC kN kC hsN hsC h0 n0 _ T7.heap _
  rw [e7]
  exact ⟨rfl, N0, rfl⟩

theorem d_method_3_0 : decode method_3_code 0 = .ok (.iload_n 0, 1) := by decide +kernel
theorem d_method_3_1 : decode method_3_code 1 = .ok (.iload_n 3, 1) := by decide +kernel
theorem d_method_3_2 : decode method_3_code 2 = .ok (.if_icmp .ne 6, 3) := by decide +kernel
theorem d_method_3_5 : decode method_3_code 5 = .ok (.aload 4, 2) := by decide +kernel
theorem d_method_3_7 : decode method_3_code 7 = .ok (.areturn, 1) := by decide +kernel
theorem ef_rm12a (m : MethodId) (x0 : Int32) (x1 : Int32) (x2 : Addr) (x3 : Int32) (x4 : Addr) : entryFrame m #[(.int x0), (.int x1), (.ref x2), (.int x3), (.ref x4)] 5 = mkF m 0 #[.val (.int x0), .val (.int x1), .val (.ref x2), .val (.int x3), .val (.ref x4)] [] := by first | (simp [entryFrame, mkF, argsToLocals, Value.category]; done) | rfl
def Q12a (Z : State) (p1 : Int32) (p2 : Int32) (s3 : Addr) (p4 : Int32) (s5 : Addr) (h0 : Heap) (n0 : Nat) (v : Option Value) (h : Heap) (L : List Loc) : Prop := v = some (.ref s5) ∧ Fr n0 L ∧ h = h0
set_option maxRecDepth 65536 in
set_option maxHeartbeats 40000000 in
theorem rm12a (l : Launch) (Z : State) (a0 : Array Value) (hw : ∀ d ∈ tables_1, d.before a0 Z = true) (ws : List Jvm.Cond) (p1 : Int32) (p2 : Int32) (s3 : Addr) (p4 : Int32) (s5 : Addr) (h0 : Heap) (n0 : Nat) (Z0 : n0 ≤ h0.size) (ha : p1 = p4) :
    MetFree l (⟨"com/example/pricecollar/pricecollar/tape/ColumnsKeepUnnumberedPinLaw", "expected", "(IILjava/lang/String;ILjava/lang/String;)Ljava/lang/String;"⟩ : MethodName) (head1 (Jvm.Cond.code (⟨"com/example/pricecollar/pricecollar/tape/ColumnsKeepUnnumberedPinLaw", "expected", "(IILjava/lang/String;ILjava/lang/String;)Ljava/lang/String;"⟩ : MethodName) method_3_code 5 (some (.object "java/lang/String")) :: ws) ({ frames := 0, cells := 0, slots := 0, locals := 0 } : Room)) (fun a U => a = #[(.int p1), (.int p2), (.ref s3), (.int p4), (.ref s5)] ∧ Z.Warmed39 U.vm ∧ U.heap = h0) (fun _ _ _ _ _ => True) (fun _ U o U' => ∃ v L, o = .returned v ∧ Q12a Z p1 p2 s3 p4 s5 h0 n0 v U'.heap L ∧ FrameEnd U o U' L ({ frames := 0, cells := 0, slots := 0, locals := 0 } : Room).cells ({ frames := 0, cells := 0, slots := 0, locals := 0 } : Room).slots) := by
  refine MetFree.of_bodySF (plainFor_of_name pn_0) hisR ?_
  intro p e s m args below meth c s₁ Bd hml0 hP hK
  obtain ⟨rfl, hZ, hh⟩ := hP
  have hx := Bd.exec
  have hby := Bd.bytes
  have hml : c.maxLocals = 5 := hml0
  have hown : s.vm.findClass "com/example/pricecollar/pricecollar/tape/ColumnsKeepUnnumberedPinLaw" = some m.cls := findClass_of_methodNamed Bd.named
  have hnm := (name_of_methodNamed Bd.named Bd.method).1
  have X0 : Stand p l e ({ frames := 0, cells := 0, slots := 0, locals := 0 } : Room) s m #[(.int p1), (.int p2), (.ref s3), (.int p4), (.ref s5)] below meth c s₁ [] 0 0 := Stand.of_body Bd
  have e0 : s₁.heap = h0 := by rw [← hh, Bd.state]; rfl
  have N0 := Fr.nil n0
  obtain ⟨Gl, hGl, k0⟩ : ∃ Gl : State → Prop, (∀ t, Gl t → Steps p.tables e below (s₁.setTop (entryFrame m #[(.int p1), (.int p2), (.ref s3), (.int p4), (.ref s5)] 5)) t) ∧ ∀ t, own_S p e below s₁ (mkF m 0 #[.val (.int p1), .val (.int p2), .val (.ref s3), .val (.int p4), .val (.ref s5)] []) t → Gl t := ⟨fun t => Steps p.tables e below (s₁.setTop (entryFrame m #[(.int p1), (.int p2), (.ref s3), (.int p4), (.ref s5)] 5)) t, fun _ k => k, fun t k => castTop (ef_rm12a m p1 p2 s3 p4 s5) k⟩
  have k1 : ∀ t, own_S p e below s₁ (mkF m 2 #[.val (.int p1), .val (.int p2), .val (.ref s3), .val (.int p4), .val (.ref s5)] [(.int p4), (.int p1)]) t → Gl t := fun t kt => k0 t (by
    show own_S p e below s₁ (mkF m 0 #[.val (.int p1), .val (.int p2), .val (.ref s3), .val (.int p4), .val (.ref s5)] []) _
    refine XS.iloadN X0.here hx rfl (hb hby d_method_3_0) rfl ?_
    show own_S p e below s₁ (mkF m 1 #[.val (.int p1), .val (.int p2), .val (.ref s3), .val (.int p4), .val (.ref s5)] [(.int p1)]) _
    refine XS.iloadN X0.here hx rfl (hb hby d_method_3_1) rfl ?_
    exact kt)
  have hc2_2 : p1 = p4 := ha
  have k3 : ∀ t, own_S p e below s₁ (mkF m 7 #[.val (.int p1), .val (.int p2), .val (.ref s3), .val (.int p4), .val (.ref s5)] [(.ref s5)]) t → Gl t := fun t kt => k1 t (by
    show own_S p e below s₁ (mkF m 2 #[.val (.int p1), .val (.int p2), .val (.ref s3), .val (.int p4), .val (.ref s5)] [(.int p4), (.int p1)]) _
    refine XS.icmpNo X0.here hx rfl (hb hby d_method_3_2) rfl (teq hc2_2).2 ?_
    show own_S p e below s₁ (mkF m 5 #[.val (.int p1), .val (.int p2), .val (.ref s3), .val (.int p4), .val (.ref s5)] []) _
    refine XS.aload X0.here hx rfl (hb hby d_method_3_5) rfl rfl ?_
    exact kt)
  obtain ⟨fs, hr, hrun, hended, hW, hsame⟩ := X0.leave (v := some (.ref s5)) (fun h => by rw [Bd.returns] at h; cases h)
  refine ⟨_, _, hGl _ (k3 _ (by
      show own_S p e below s₁ (mkF m 7 #[.val (.int p1), .val (.int p2), .val (.ref s3), .val (.int p4), .val (.ref s5)] [(.ref s5)]) _
      jvm_step X0.here [X0.here.top, hx, (hb hby d_method_3_7), X0.method', Bd.returns, Value.isRef, FieldType.isReference]
      first | (intro acts; rw [hr _ acts rfl rfl rfl]) | rw [hr _ _ rfl rfl rfl]
      exact Steps.refl _)), hrun, hended, _, _, rfl, ?_, ⟨_, rfl⟩, hW, hsame.mono (by decide) (by decide)⟩
  show Q12a Z p1 p2 s3 p4 s5 h0 n0 _ s₁.heap _
  rw [e0]
  exact ⟨rfl, N0, rfl⟩

theorem d_method_3_8 : decode method_3_code 8 = .ok (.iload_n 0, 1) := by decide +kernel
theorem d_method_3_9 : decode method_3_code 9 = .ok (.iload_n 1, 1) := by decide +kernel
theorem d_method_3_10 : decode method_3_code 10 = .ok (.if_icmp .ne 5, 3) := by decide +kernel
theorem d_method_3_13 : decode method_3_code 13 = .ok (.aload_n 2, 1) := by decide +kernel
theorem d_method_3_14 : decode method_3_code 14 = .ok (.areturn, 1) := by decide +kernel
theorem ef_rm12b (m : MethodId) (x0 : Int32) (x1 : Int32) (x2 : Addr) (x3 : Int32) (x4 : Addr) : entryFrame m #[(.int x0), (.int x1), (.ref x2), (.int x3), (.ref x4)] 5 = mkF m 0 #[.val (.int x0), .val (.int x1), .val (.ref x2), .val (.int x3), .val (.ref x4)] [] := by first | (simp [entryFrame, mkF, argsToLocals, Value.category]; done) | rfl
def Q12b (Z : State) (p1 : Int32) (p2 : Int32) (s3 : Addr) (p4 : Int32) (s5 : Addr) (h0 : Heap) (n0 : Nat) (v : Option Value) (h : Heap) (L : List Loc) : Prop := v = some (.ref s3) ∧ Fr n0 L ∧ h = h0
set_option maxRecDepth 65536 in
set_option maxHeartbeats 40000000 in
theorem rm12b (l : Launch) (Z : State) (a0 : Array Value) (hw : ∀ d ∈ tables_1, d.before a0 Z = true) (ws : List Jvm.Cond) (p1 : Int32) (p2 : Int32) (s3 : Addr) (p4 : Int32) (s5 : Addr) (h0 : Heap) (n0 : Nat) (Z0 : n0 ≤ h0.size) (ha : ¬ p1 = p4) (hB : p1 = p2) :
    MetFree l (⟨"com/example/pricecollar/pricecollar/tape/ColumnsKeepUnnumberedPinLaw", "expected", "(IILjava/lang/String;ILjava/lang/String;)Ljava/lang/String;"⟩ : MethodName) (head1 (Jvm.Cond.code (⟨"com/example/pricecollar/pricecollar/tape/ColumnsKeepUnnumberedPinLaw", "expected", "(IILjava/lang/String;ILjava/lang/String;)Ljava/lang/String;"⟩ : MethodName) method_3_code 5 (some (.object "java/lang/String")) :: ws) ({ frames := 0, cells := 0, slots := 0, locals := 0 } : Room)) (fun a U => a = #[(.int p1), (.int p2), (.ref s3), (.int p4), (.ref s5)] ∧ Z.Warmed39 U.vm ∧ U.heap = h0) (fun _ _ _ _ _ => True) (fun _ U o U' => ∃ v L, o = .returned v ∧ Q12b Z p1 p2 s3 p4 s5 h0 n0 v U'.heap L ∧ FrameEnd U o U' L ({ frames := 0, cells := 0, slots := 0, locals := 0 } : Room).cells ({ frames := 0, cells := 0, slots := 0, locals := 0 } : Room).slots) := by
  refine MetFree.of_bodySF (plainFor_of_name pn_0) hisR ?_
  intro p e s m args below meth c s₁ Bd hml0 hP hK
  obtain ⟨rfl, hZ, hh⟩ := hP
  have hx := Bd.exec
  have hby := Bd.bytes
  have hml : c.maxLocals = 5 := hml0
  have hown : s.vm.findClass "com/example/pricecollar/pricecollar/tape/ColumnsKeepUnnumberedPinLaw" = some m.cls := findClass_of_methodNamed Bd.named
  have hnm := (name_of_methodNamed Bd.named Bd.method).1
  have X0 : Stand p l e ({ frames := 0, cells := 0, slots := 0, locals := 0 } : Room) s m #[(.int p1), (.int p2), (.ref s3), (.int p4), (.ref s5)] below meth c s₁ [] 0 0 := Stand.of_body Bd
  have e0 : s₁.heap = h0 := by rw [← hh, Bd.state]; rfl
  have N0 := Fr.nil n0
  obtain ⟨Gl, hGl, k0⟩ : ∃ Gl : State → Prop, (∀ t, Gl t → Steps p.tables e below (s₁.setTop (entryFrame m #[(.int p1), (.int p2), (.ref s3), (.int p4), (.ref s5)] 5)) t) ∧ ∀ t, own_S p e below s₁ (mkF m 0 #[.val (.int p1), .val (.int p2), .val (.ref s3), .val (.int p4), .val (.ref s5)] []) t → Gl t := ⟨fun t => Steps p.tables e below (s₁.setTop (entryFrame m #[(.int p1), (.int p2), (.ref s3), (.int p4), (.ref s5)] 5)) t, fun _ k => k, fun t k => castTop (ef_rm12b m p1 p2 s3 p4 s5) k⟩
  have k1 : ∀ t, own_S p e below s₁ (mkF m 2 #[.val (.int p1), .val (.int p2), .val (.ref s3), .val (.int p4), .val (.ref s5)] [(.int p4), (.int p1)]) t → Gl t := fun t kt => k0 t (by
    show own_S p e below s₁ (mkF m 0 #[.val (.int p1), .val (.int p2), .val (.ref s3), .val (.int p4), .val (.ref s5)] []) _
    refine XS.iloadN X0.here hx rfl (hb hby d_method_3_0) rfl ?_
    show own_S p e below s₁ (mkF m 1 #[.val (.int p1), .val (.int p2), .val (.ref s3), .val (.int p4), .val (.ref s5)] [(.int p1)]) _
    refine XS.iloadN X0.here hx rfl (hb hby d_method_3_1) rfl ?_
    exact kt)
  have hc2_2 : ¬ (p1 = p4) := ha
  have k3 : ∀ t, own_S p e below s₁ (mkF m 10 #[.val (.int p1), .val (.int p2), .val (.ref s3), .val (.int p4), .val (.ref s5)] [(.int p2), (.int p1)]) t → Gl t := fun t kt => k1 t (by
    show own_S p e below s₁ (mkF m 2 #[.val (.int p1), .val (.int p2), .val (.ref s3), .val (.int p4), .val (.ref s5)] [(.int p4), (.int p1)]) _
    refine XS.icmpYes X0.here hx rfl (pc0 := 2) (pc' := 8) rfl (hb hby d_method_3_2) rfl (feq hc2_2).2 (by decide) (by decide) ?_
    show own_S p e below s₁ (mkF m 8 #[.val (.int p1), .val (.int p2), .val (.ref s3), .val (.int p4), .val (.ref s5)] []) _
    refine XS.iloadN X0.here hx rfl (hb hby d_method_3_8) rfl ?_
    show own_S p e below s₁ (mkF m 9 #[.val (.int p1), .val (.int p2), .val (.ref s3), .val (.int p4), .val (.ref s5)] [(.int p1)]) _
    refine XS.iloadN X0.here hx rfl (hb hby d_method_3_9) rfl ?_
    exact kt)
  have hc10_4 : p1 = p2 := hB
  have k5 : ∀ t, own_S p e below s₁ (mkF m 14 #[.val (.int p1), .val (.int p2), .val (.ref s3), .val (.int p4), .val (.ref s5)] [(.ref s3)]) t → Gl t := fun t kt => k3 t (by
    show own_S p e below s₁ (mkF m 10 #[.val (.int p1), .val (.int p2), .val (.ref s3), .val (.int p4), .val (.ref s5)] [(.int p2), (.int p1)]) _
    refine XS.icmpNo X0.here hx rfl (hb hby d_method_3_10) rfl (teq hc10_4).2 ?_
    show own_S p e below s₁ (mkF m 13 #[.val (.int p1), .val (.int p2), .val (.ref s3), .val (.int p4), .val (.ref s5)] []) _
    refine XS.aloadN X0.here hx rfl (hb hby d_method_3_13) rfl rfl ?_
    exact kt)
  obtain ⟨fs, hr, hrun, hended, hW, hsame⟩ := X0.leave (v := some (.ref s3)) (fun h => by rw [Bd.returns] at h; cases h)
  refine ⟨_, _, hGl _ (k5 _ (by
      show own_S p e below s₁ (mkF m 14 #[.val (.int p1), .val (.int p2), .val (.ref s3), .val (.int p4), .val (.ref s5)] [(.ref s3)]) _
      jvm_step X0.here [X0.here.top, hx, (hb hby d_method_3_14), X0.method', Bd.returns, Value.isRef, FieldType.isReference]
      first | (intro acts; rw [hr _ acts rfl rfl rfl]) | rw [hr _ _ rfl rfl rfl]
      exact Steps.refl _)), hrun, hended, _, _, rfl, ?_, ⟨_, rfl⟩, hW, hsame.mono (by decide) (by decide)⟩
  show Q12b Z p1 p2 s3 p4 s5 h0 n0 _ s₁.heap _
  rw [e0]
  exact ⟨rfl, N0, rfl⟩

theorem d_method_3_15 : decode method_3_code 15 = .ok (.aconst_null, 1) := by decide +kernel
theorem d_method_3_16 : decode method_3_code 16 = .ok (.areturn, 1) := by decide +kernel
theorem ef_rm12c (m : MethodId) (x0 : Int32) (x1 : Int32) (x2 : Addr) (x3 : Int32) (x4 : Addr) : entryFrame m #[(.int x0), (.int x1), (.ref x2), (.int x3), (.ref x4)] 5 = mkF m 0 #[.val (.int x0), .val (.int x1), .val (.ref x2), .val (.int x3), .val (.ref x4)] [] := by first | (simp [entryFrame, mkF, argsToLocals, Value.category]; done) | rfl
def Q12c (Z : State) (p1 : Int32) (p2 : Int32) (s3 : Addr) (p4 : Int32) (s5 : Addr) (h0 : Heap) (n0 : Nat) (v : Option Value) (h : Heap) (L : List Loc) : Prop := v = some .null ∧ Fr n0 L ∧ h = h0
set_option maxRecDepth 65536 in
set_option maxHeartbeats 40000000 in
theorem rm12c (l : Launch) (Z : State) (a0 : Array Value) (hw : ∀ d ∈ tables_1, d.before a0 Z = true) (ws : List Jvm.Cond) (p1 : Int32) (p2 : Int32) (s3 : Addr) (p4 : Int32) (s5 : Addr) (h0 : Heap) (n0 : Nat) (Z0 : n0 ≤ h0.size) (ha : ¬ p1 = p4) (hB : ¬ p1 = p2) :
    MetFree l (⟨"com/example/pricecollar/pricecollar/tape/ColumnsKeepUnnumberedPinLaw", "expected", "(IILjava/lang/String;ILjava/lang/String;)Ljava/lang/String;"⟩ : MethodName) (head1 (Jvm.Cond.code (⟨"com/example/pricecollar/pricecollar/tape/ColumnsKeepUnnumberedPinLaw", "expected", "(IILjava/lang/String;ILjava/lang/String;)Ljava/lang/String;"⟩ : MethodName) method_3_code 5 (some (.object "java/lang/String")) :: ws) ({ frames := 0, cells := 0, slots := 0, locals := 0 } : Room)) (fun a U => a = #[(.int p1), (.int p2), (.ref s3), (.int p4), (.ref s5)] ∧ Z.Warmed39 U.vm ∧ U.heap = h0) (fun _ _ _ _ _ => True) (fun _ U o U' => ∃ v L, o = .returned v ∧ Q12c Z p1 p2 s3 p4 s5 h0 n0 v U'.heap L ∧ FrameEnd U o U' L ({ frames := 0, cells := 0, slots := 0, locals := 0 } : Room).cells ({ frames := 0, cells := 0, slots := 0, locals := 0 } : Room).slots) := by
  refine MetFree.of_bodySF (plainFor_of_name pn_0) hisR ?_
  intro p e s m args below meth c s₁ Bd hml0 hP hK
  obtain ⟨rfl, hZ, hh⟩ := hP
  have hx := Bd.exec
  have hby := Bd.bytes
  have hml : c.maxLocals = 5 := hml0
  have hown : s.vm.findClass "com/example/pricecollar/pricecollar/tape/ColumnsKeepUnnumberedPinLaw" = some m.cls := findClass_of_methodNamed Bd.named
  have hnm := (name_of_methodNamed Bd.named Bd.method).1
  have X0 : Stand p l e ({ frames := 0, cells := 0, slots := 0, locals := 0 } : Room) s m #[(.int p1), (.int p2), (.ref s3), (.int p4), (.ref s5)] below meth c s₁ [] 0 0 := Stand.of_body Bd
  have e0 : s₁.heap = h0 := by rw [← hh, Bd.state]; rfl
  have N0 := Fr.nil n0
  obtain ⟨Gl, hGl, k0⟩ : ∃ Gl : State → Prop, (∀ t, Gl t → Steps p.tables e below (s₁.setTop (entryFrame m #[(.int p1), (.int p2), (.ref s3), (.int p4), (.ref s5)] 5)) t) ∧ ∀ t, own_S p e below s₁ (mkF m 0 #[.val (.int p1), .val (.int p2), .val (.ref s3), .val (.int p4), .val (.ref s5)] []) t → Gl t := ⟨fun t => Steps p.tables e below (s₁.setTop (entryFrame m #[(.int p1), (.int p2), (.ref s3), (.int p4), (.ref s5)] 5)) t, fun _ k => k, fun t k => castTop (ef_rm12c m p1 p2 s3 p4 s5) k⟩
  have k1 : ∀ t, own_S p e below s₁ (mkF m 2 #[.val (.int p1), .val (.int p2), .val (.ref s3), .val (.int p4), .val (.ref s5)] [(.int p4), (.int p1)]) t → Gl t := fun t kt => k0 t (by
    show own_S p e below s₁ (mkF m 0 #[.val (.int p1), .val (.int p2), .val (.ref s3), .val (.int p4), .val (.ref s5)] []) _
    refine XS.iloadN X0.here hx rfl (hb hby d_method_3_0) rfl ?_
    show own_S p e below s₁ (mkF m 1 #[.val (.int p1), .val (.int p2), .val (.ref s3), .val (.int p4), .val (.ref s5)] [(.int p1)]) _
    refine XS.iloadN X0.here hx rfl (hb hby d_method_3_1) rfl ?_
    exact kt)
  have hc2_2 : ¬ (p1 = p4) := ha
  have k3 : ∀ t, own_S p e below s₁ (mkF m 10 #[.val (.int p1), .val (.int p2), .val (.ref s3), .val (.int p4), .val (.ref s5)] [(.int p2), (.int p1)]) t → Gl t := fun t kt => k1 t (by
    show own_S p e below s₁ (mkF m 2 #[.val (.int p1), .val (.int p2), .val (.ref s3), .val (.int p4), .val (.ref s5)] [(.int p4), (.int p1)]) _
    refine XS.icmpYes X0.here hx rfl (pc0 := 2) (pc' := 8) rfl (hb hby d_method_3_2) rfl (feq hc2_2).2 (by decide) (by decide) ?_
    show own_S p e below s₁ (mkF m 8 #[.val (.int p1), .val (.int p2), .val (.ref s3), .val (.int p4), .val (.ref s5)] []) _
    refine XS.iloadN X0.here hx rfl (hb hby d_method_3_8) rfl ?_
    show own_S p e below s₁ (mkF m 9 #[.val (.int p1), .val (.int p2), .val (.ref s3), .val (.int p4), .val (.ref s5)] [(.int p1)]) _
    refine XS.iloadN X0.here hx rfl (hb hby d_method_3_9) rfl ?_
    exact kt)
  have hc10_4 : ¬ (p1 = p2) := hB
  have k5 : ∀ t, own_S p e below s₁ (mkF m 16 #[.val (.int p1), .val (.int p2), .val (.ref s3), .val (.int p4), .val (.ref s5)] [.null]) t → Gl t := fun t kt => k3 t (by
    show own_S p e below s₁ (mkF m 10 #[.val (.int p1), .val (.int p2), .val (.ref s3), .val (.int p4), .val (.ref s5)] [(.int p2), (.int p1)]) _
    refine XS.icmpYes X0.here hx rfl (pc0 := 10) (pc' := 15) rfl (hb hby d_method_3_10) rfl (feq hc10_4).2 (by decide) (by decide) ?_
    show own_S p e below s₁ (mkF m 15 #[.val (.int p1), .val (.int p2), .val (.ref s3), .val (.int p4), .val (.ref s5)] []) _
    refine XS.aconstNull X0.here hx rfl (hb hby d_method_3_15) ?_
    exact kt)
  obtain ⟨fs, hr, hrun, hended, hW, hsame⟩ := X0.leave (v := some .null) (fun h => by rw [Bd.returns] at h; cases h)
  refine ⟨_, _, hGl _ (k5 _ (by
      show own_S p e below s₁ (mkF m 16 #[.val (.int p1), .val (.int p2), .val (.ref s3), .val (.int p4), .val (.ref s5)] [.null]) _
      jvm_step X0.here [X0.here.top, hx, (hb hby d_method_3_16), X0.method', Bd.returns, Value.isRef, FieldType.isReference]
      first | (intro acts; rw [hr _ acts rfl rfl rfl]) | rw [hr _ _ rfl rfl rfl]
      exact Steps.refl _)), hrun, hended, _, _, rfl, ?_, ⟨_, rfl⟩, hW, hsame.mono (by decide) (by decide)⟩
  show Q12c Z p1 p2 s3 p4 s5 h0 n0 _ s₁.heap _
  rw [e0]
  exact ⟨rfl, N0, rfl⟩

theorem pd_2 : parseMethodDescriptor "(I)Ljava/lang/String;" = some ⟨[.int], some (.object "java/lang/String")⟩ := by decide +kernel
theorem pd_3 : parseMethodDescriptor "(ILjava/lang/String;Ljava/lang/String;)V" = some ⟨[.int, (.object "java/lang/String"), (.object "java/lang/String")], none⟩ := by decide +kernel
theorem pd_4 : parseMethodDescriptor "(IILjava/lang/String;ILjava/lang/String;)Ljava/lang/String;" = some ⟨[.int, .int, (.object "java/lang/String"), .int, (.object "java/lang/String")], some (.object "java/lang/String")⟩ := by decide +kernel
theorem ef_rm0 (m : MethodId) (x0 : Int32) (x1 : Int32) (x2 : Int32) (x3 : Int32) (x4 : Int32) : entryFrame m #[(.int x0), (.int x1), (.int x2), (.int x3), (.int x4)] maxLocals = mkF m 0 #[.val (.int x0), .val (.int x1), .val (.int x2), .val (.int x3), .val (.int x4), .unset, .unset, .unset, .unset, .unset, .unset, .unset, .unset, .unset, .unset] [] := by first | (simp [entryFrame, mkF, argsToLocals, Value.category, maxLocals]; done) | rfl
def Q0 (Z : State) (p1 : Int32) (p2 : Int32) (p3 : Int32) (p4 : Int32) (p5 : Int32) (G1 : Int32) (h0 : Heap) (n0 : Nat) (v : Option Value) (h : Heap) (L : List Loc) : Prop := v = some (.int (1 : Int32)) ∧ Fr n0 L
set_option maxRecDepth 65536 in
set_option maxHeartbeats 40000000 in
theorem rm0 (l : Launch) (Z : State) (a0 : Array Value) (hw : ∀ d ∈ tables_1, d.before a0 Z = true) (ws : List Jvm.Cond) (p1 : Int32) (p2 : Int32) (p3 : Int32) (p4 : Int32) (p5 : Int32) (G1 : Int32) (h0 : Heap) (n0 : Nat) (Z0 : n0 ≤ h0.size) (O0 : Old Z n0 h0) (O2 : Sta Z Z.heap "java/lang/String" "COMPACT_STRINGS" "Z" (.int G1)) (P5 : ¬ (G1 = (0 : Int32))) :
    MetFree l x (head1 (Jvm.Cond.code x code maxLocals ret :: ws) room_1) (fun a U => a = #[(.int p1), (.int p2), (.int p3), (.int p4), (.int p5)] ∧ Z.Warmed39 U.vm ∧ U.heap = h0) (fun _ _ _ _ _ => True) (fun _ U o U' => ∃ v L, o = .returned v ∧ Q0 Z p1 p2 p3 p4 p5 G1 h0 n0 v U'.heap L ∧ FrameEnd U o U' L 64 73920) := by
  refine MetFree.of_bodySF (plainFor_of_name pn_0) hisR ?_
  intro p e s m args below meth c s₁ Bd hml0 hP hK
  obtain ⟨rfl, hZ, hh⟩ := hP
  have hx := Bd.exec
  have hby := Bd.bytes
  have hml : c.maxLocals = 15 := hml0
  have hown : s.vm.findClass "com/example/pricecollar/pricecollar/tape/ColumnsKeepUnnumberedPinLaw" = some m.cls := findClass_of_methodNamed Bd.named
  have hnm := (name_of_methodNamed Bd.named Bd.method).1
  have X0 : Stand p l e room_1 s m #[(.int p1), (.int p2), (.int p3), (.int p4), (.int p5)] below meth c s₁ [] 0 0 := Stand.of_body Bd
  have e0 : s₁.heap = h0 := by rw [← hh, Bd.state]; rfl
  have N0 := Fr.nil n0
  obtain ⟨Gl, hGl, k0⟩ : ∃ Gl : State → Prop, (∀ t, Gl t → Steps p.tables e below (s₁.setTop (entryFrame m #[(.int p1), (.int p2), (.int p3), (.int p4), (.int p5)] maxLocals)) t) ∧ ∀ t, own_S p e below s₁ (mkF m 0 #[.val (.int p1), .val (.int p2), .val (.int p3), .val (.int p4), .val (.int p5), .unset, .unset, .unset, .unset, .unset, .unset, .unset, .unset, .unset, .unset] []) t → Gl t := ⟨fun t => Steps p.tables e below (s₁.setTop (entryFrame m #[(.int p1), (.int p2), (.int p3), (.int p4), (.int p5)] maxLocals)) t, fun _ k => k, fun t k => castTop (ef_rm0 m p1 p2 p3 p4 p5) k⟩
  have k1 : ∀ t, own_S p e below s₁ (mkF m 25 #[.val (.int p1), .val (.int p2), .val (.int p3), .val (.int p4), .val (.int p5), .val (.int (p1 &&& (4095 : Int32))), .val (.int (p2 &&& (4095 : Int32))), .val (.int (p3 &&& (4095 : Int32))), .unset, .unset, .unset, .unset, .unset, .unset, .unset] [(.int ((p4.toUInt32 >>> ((16 : Int32) &&& 31).toUInt32).toInt32))]) t → Gl t := fun t kt => k0 t (by
    show own_S p e below s₁ (mkF m 0 #[.val (.int p1), .val (.int p2), .val (.int p3), .val (.int p4), .val (.int p5), .unset, .unset, .unset, .unset, .unset, .unset, .unset, .unset, .unset, .unset] []) _
    refine XS.iloadN X0.here hx rfl (hb hby at_0) rfl ?_
    show own_S p e below s₁ (mkF m 1 #[.val (.int p1), .val (.int p2), .val (.int p3), .val (.int p4), .val (.int p5), .unset, .unset, .unset, .unset, .unset, .unset, .unset, .unset, .unset, .unset] [(.int p1)]) _
    refine XS.sipush X0.here hx rfl (hb hby at_1) ?_
    show own_S p e below s₁ (mkF m 4 #[.val (.int p1), .val (.int p2), .val (.int p3), .val (.int p4), .val (.int p5), .unset, .unset, .unset, .unset, .unset, .unset, .unset, .unset, .unset, .unset] [(.int (4095 : Int32)), (.int p1)]) _
    refine XS.iand X0.here hx rfl (hb hby at_4) rfl ?_
    show own_S p e below s₁ (mkF m 5 #[.val (.int p1), .val (.int p2), .val (.int p3), .val (.int p4), .val (.int p5), .unset, .unset, .unset, .unset, .unset, .unset, .unset, .unset, .unset, .unset] [(.int (p1 &&& (4095 : Int32)))]) _
    refine XS.istore X0.here hx rfl (hb hby at_5) rfl (l' := #[.val (.int p1), .val (.int p2), .val (.int p3), .val (.int p4), .val (.int p5), .val (.int (p1 &&& (4095 : Int32))), .unset, .unset, .unset, .unset, .unset, .unset, .unset, .unset, .unset]) rfl ?_
    show own_S p e below s₁ (mkF m 7 #[.val (.int p1), .val (.int p2), .val (.int p3), .val (.int p4), .val (.int p5), .val (.int (p1 &&& (4095 : Int32))), .unset, .unset, .unset, .unset, .unset, .unset, .unset, .unset, .unset] []) _
    refine XS.iloadN X0.here hx rfl (hb hby at_7) rfl ?_
    show own_S p e below s₁ (mkF m 8 #[.val (.int p1), .val (.int p2), .val (.int p3), .val (.int p4), .val (.int p5), .val (.int (p1 &&& (4095 : Int32))), .unset, .unset, .unset, .unset, .unset, .unset, .unset, .unset, .unset] [(.int p2)]) _
    refine XS.sipush X0.here hx rfl (hb hby at_8) ?_
    show own_S p e below s₁ (mkF m 11 #[.val (.int p1), .val (.int p2), .val (.int p3), .val (.int p4), .val (.int p5), .val (.int (p1 &&& (4095 : Int32))), .unset, .unset, .unset, .unset, .unset, .unset, .unset, .unset, .unset] [(.int (4095 : Int32)), (.int p2)]) _
    refine XS.iand X0.here hx rfl (hb hby at_11) rfl ?_
    show own_S p e below s₁ (mkF m 12 #[.val (.int p1), .val (.int p2), .val (.int p3), .val (.int p4), .val (.int p5), .val (.int (p1 &&& (4095 : Int32))), .unset, .unset, .unset, .unset, .unset, .unset, .unset, .unset, .unset] [(.int (p2 &&& (4095 : Int32)))]) _
    refine XS.istore X0.here hx rfl (hb hby at_12) rfl (l' := #[.val (.int p1), .val (.int p2), .val (.int p3), .val (.int p4), .val (.int p5), .val (.int (p1 &&& (4095 : Int32))), .val (.int (p2 &&& (4095 : Int32))), .unset, .unset, .unset, .unset, .unset, .unset, .unset, .unset]) rfl ?_
    show own_S p e below s₁ (mkF m 14 #[.val (.int p1), .val (.int p2), .val (.int p3), .val (.int p4), .val (.int p5), .val (.int (p1 &&& (4095 : Int32))), .val (.int (p2 &&& (4095 : Int32))), .unset, .unset, .unset, .unset, .unset, .unset, .unset, .unset] []) _
    refine XS.iloadN X0.here hx rfl (hb hby at_14) rfl ?_
    show own_S p e below s₁ (mkF m 15 #[.val (.int p1), .val (.int p2), .val (.int p3), .val (.int p4), .val (.int p5), .val (.int (p1 &&& (4095 : Int32))), .val (.int (p2 &&& (4095 : Int32))), .unset, .unset, .unset, .unset, .unset, .unset, .unset, .unset] [(.int p3)]) _
    refine XS.sipush X0.here hx rfl (hb hby at_15) ?_
    show own_S p e below s₁ (mkF m 18 #[.val (.int p1), .val (.int p2), .val (.int p3), .val (.int p4), .val (.int p5), .val (.int (p1 &&& (4095 : Int32))), .val (.int (p2 &&& (4095 : Int32))), .unset, .unset, .unset, .unset, .unset, .unset, .unset, .unset] [(.int (4095 : Int32)), (.int p3)]) _
    refine XS.iand X0.here hx rfl (hb hby at_18) rfl ?_
    show own_S p e below s₁ (mkF m 19 #[.val (.int p1), .val (.int p2), .val (.int p3), .val (.int p4), .val (.int p5), .val (.int (p1 &&& (4095 : Int32))), .val (.int (p2 &&& (4095 : Int32))), .unset, .unset, .unset, .unset, .unset, .unset, .unset, .unset] [(.int (p3 &&& (4095 : Int32)))]) _
    refine XS.istore X0.here hx rfl (hb hby at_19) rfl (l' := #[.val (.int p1), .val (.int p2), .val (.int p3), .val (.int p4), .val (.int p5), .val (.int (p1 &&& (4095 : Int32))), .val (.int (p2 &&& (4095 : Int32))), .val (.int (p3 &&& (4095 : Int32))), .unset, .unset, .unset, .unset, .unset, .unset, .unset]) rfl ?_
    show own_S p e below s₁ (mkF m 21 #[.val (.int p1), .val (.int p2), .val (.int p3), .val (.int p4), .val (.int p5), .val (.int (p1 &&& (4095 : Int32))), .val (.int (p2 &&& (4095 : Int32))), .val (.int (p3 &&& (4095 : Int32))), .unset, .unset, .unset, .unset, .unset, .unset, .unset] []) _
    refine XS.iloadN X0.here hx rfl (hb hby at_21) rfl ?_
    show own_S p e below s₁ (mkF m 22 #[.val (.int p1), .val (.int p2), .val (.int p3), .val (.int p4), .val (.int p5), .val (.int (p1 &&& (4095 : Int32))), .val (.int (p2 &&& (4095 : Int32))), .val (.int (p3 &&& (4095 : Int32))), .unset, .unset, .unset, .unset, .unset, .unset, .unset] [(.int p4)]) _
    refine XS.bipush X0.here hx rfl (hb hby at_22) ?_
    show own_S p e below s₁ (mkF m 24 #[.val (.int p1), .val (.int p2), .val (.int p3), .val (.int p4), .val (.int p5), .val (.int (p1 &&& (4095 : Int32))), .val (.int (p2 &&& (4095 : Int32))), .val (.int (p3 &&& (4095 : Int32))), .unset, .unset, .unset, .unset, .unset, .unset, .unset] [(.int (16 : Int32)), (.int p4)]) _
    refine XS.iushr X0.here hx rfl (hb hby at_24) rfl ?_
    exact kt)
  obtain ⟨_, _, ⟨T2, L2, cc2, ss2⟩, -, X2, ⟨Lc2, hQ2, l2, y2, z2⟩, st2⟩ := Jvm.LawKit.callS X0 hx (y := (⟨"com/example/pricecollar/pricecollar/tape/ColumnsKeepUnnumberedPinLaw", "text", "(I)Ljava/lang/String;"⟩ : MethodName)) hown (mvT hZ (hw _ (List.mem_of_getElem? (i := 0) rfl))) (mvT hZ (hw _ (List.mem_of_getElem? (i := 1) rfl))) (mvT hZ (hw _ (List.mem_of_getElem? (i := 2) rfl))) (mvT hZ (hw _ (List.mem_of_getElem? (i := 3) rfl))) (by decide) (backOf (W := 0) (rm1 l Z a0 hw [] ((p4.toUInt32 >>> ((16 : Int32) &&& 31).toUInt32).toInt32) G1 h0 n0 Z0 O0 O2 P5) hZ (hw _ (List.mem_of_getElem? (i := 3) rfl)) (hw _ (List.mem_of_getElem? (i := 2) rfl)) (by decide) (by decide)) (g := (mkF m 25 #[.val (.int p1), .val (.int p2), .val (.int p3), .val (.int p4), .val (.int p5), .val (.int (p1 &&& (4095 : Int32))), .val (.int (p2 &&& (4095 : Int32))), .val (.int (p3 &&& (4095 : Int32))), .unset, .unset, .unset, .unset, .unset, .unset, .unset] [(.int ((p4.toUInt32 >>> ((16 : Int32) &&& 31).toUInt32).toInt32))])) rfl (by rw [hml]; rfl) (argsL := [(.int ((p4.toUInt32 >>> ((16 : Int32) &&& 31).toUInt32).toInt32))]) (rest := []) (lenOf pd_2 rfl) rfl (by show 2 * 0 + _ ≤ _; exact Nat.le_of_eq rfl) (hb hby at_25) (fun _ _ => ⟨rfl, e0, (by decide : 0 + 3 ≤ _), (by decide : 0 + 8 ≤ _)⟩)
  dsimp only [Pt.U, Pt.locs, Pt.cells, Pt.slots] at X2 l2 y2 z2 st2 hQ2
  subst l2 y2 z2
  obtain ⟨b2, rfl, Nq2, g_b2, sz2, K2, Ex2⟩ := hQ2
  have N2 := Fr.app N0 Nq2
  have Z3 : n0 ≤ T2.heap.size := Nat.le_trans Z0 K2.1
  have O4 : Old Z n0 T2.heap := O0.keep K2 all0
  have k5 : ∀ t, own_S p e below T2 (mkF m 28 #[.val (.int p1), .val (.int p2), .val (.int p3), .val (.int p4), .val (.int p5), .val (.int (p1 &&& (4095 : Int32))), .val (.int (p2 &&& (4095 : Int32))), .val (.int (p3 &&& (4095 : Int32))), .unset, .unset, .unset, .unset, .unset, .unset, .unset] [(.ref b2)]) t → Gl t := fun t kt => k1 t (st2 _ kt)
  have k6 : ∀ t, own_S p e below T2 (mkF m 31 #[.val (.int p1), .val (.int p2), .val (.int p3), .val (.int p4), .val (.int p5), .val (.int (p1 &&& (4095 : Int32))), .val (.int (p2 &&& (4095 : Int32))), .val (.int (p3 &&& (4095 : Int32))), .val (.ref b2), .unset, .unset, .unset, .unset, .unset, .unset] [(.int p4)]) t → Gl t := fun t kt => k5 t (by
    show own_S p e below T2 (mkF m 28 #[.val (.int p1), .val (.int p2), .val (.int p3), .val (.int p4), .val (.int p5), .val (.int (p1 &&& (4095 : Int32))), .val (.int (p2 &&& (4095 : Int32))), .val (.int (p3 &&& (4095 : Int32))), .unset, .unset, .unset, .unset, .unset, .unset, .unset] [(.ref b2)]) _
    refine XS.astore X2.here hx rfl (hb hby at_28) rfl rfl (l' := #[.val (.int p1), .val (.int p2), .val (.int p3), .val (.int p4), .val (.int p5), .val (.int (p1 &&& (4095 : Int32))), .val (.int (p2 &&& (4095 : Int32))), .val (.int (p3 &&& (4095 : Int32))), .val (.ref b2), .unset, .unset, .unset, .unset, .unset, .unset]) rfl ?_
    show own_S p e below T2 (mkF m 30 #[.val (.int p1), .val (.int p2), .val (.int p3), .val (.int p4), .val (.int p5), .val (.int (p1 &&& (4095 : Int32))), .val (.int (p2 &&& (4095 : Int32))), .val (.int (p3 &&& (4095 : Int32))), .val (.ref b2), .unset, .unset, .unset, .unset, .unset, .unset] []) _
    refine XS.iloadN X2.here hx rfl (hb hby at_30) rfl ?_
    exact kt)
  obtain ⟨_, _, ⟨T7, L7, cc7, ss7⟩, -, X7, ⟨Lc7, hQ7, l7, y7, z7⟩, st7⟩ := Jvm.LawKit.callS X2 hx (y := (⟨"com/example/pricecollar/pricecollar/tape/ColumnsKeepUnnumberedPinLaw", "text", "(I)Ljava/lang/String;"⟩ : MethodName)) hown (mvT hZ (hw _ (List.mem_of_getElem? (i := 0) rfl))) (mvT hZ (hw _ (List.mem_of_getElem? (i := 1) rfl))) (mvT hZ (hw _ (List.mem_of_getElem? (i := 2) rfl))) (mvT hZ (hw _ (List.mem_of_getElem? (i := 3) rfl))) (by decide) (backOf (W := 0) (rm1 l Z a0 hw [] p4 G1 T2.heap n0 Z3 O4 O2 P5) hZ (hw _ (List.mem_of_getElem? (i := 3) rfl)) (hw _ (List.mem_of_getElem? (i := 2) rfl)) (by decide) (by decide)) (g := (mkF m 31 #[.val (.int p1), .val (.int p2), .val (.int p3), .val (.int p4), .val (.int p5), .val (.int (p1 &&& (4095 : Int32))), .val (.int (p2 &&& (4095 : Int32))), .val (.int (p3 &&& (4095 : Int32))), .val (.ref b2), .unset, .unset, .unset, .unset, .unset, .unset] [(.int p4)])) rfl (by rw [hml]; rfl) (argsL := [(.int p4)]) (rest := []) (lenOf pd_2 rfl) rfl (by show 2 * 0 + _ ≤ _; exact Nat.le_of_eq rfl) (hb hby at_31) (fun _ _ => ⟨rfl, rfl, (by decide : 3 + 3 ≤ _), (by decide : 8 + 8 ≤ _)⟩)
  dsimp only [Pt.U, Pt.locs, Pt.cells, Pt.slots] at X7 l7 y7 z7 st7 hQ7
  subst l7 y7 z7
  obtain ⟨b7, rfl, Nq7, g_b7, sz7, K7, Ex7⟩ := hQ7
  have N7 := Fr.app N2 Nq7
  have ne_b2_b7 : b2 ≠ b7 := Nat.ne_of_lt (Nat.lt_of_lt_of_le Ex2.lt sz7)
  have Z8 : n0 ≤ T7.heap.size := Nat.le_trans Z3 K7.1
  have O9 : Old Z n0 T7.heap := O4.keep K7 all0
  have k10 : ∀ t, own_S p e below T7 (mkF m 34 #[.val (.int p1), .val (.int p2), .val (.int p3), .val (.int p4), .val (.int p5), .val (.int (p1 &&& (4095 : Int32))), .val (.int (p2 &&& (4095 : Int32))), .val (.int (p3 &&& (4095 : Int32))), .val (.ref b2), .unset, .unset, .unset, .unset, .unset, .unset] [(.ref b7)]) t → Gl t := fun t kt => k6 t (st7 _ kt)
  have k11 : ∀ t, own_S p e below T7 (mkF m 41 #[.val (.int p1), .val (.int p2), .val (.int p3), .val (.int p4), .val (.int p5), .val (.int (p1 &&& (4095 : Int32))), .val (.int (p2 &&& (4095 : Int32))), .val (.int (p3 &&& (4095 : Int32))), .val (.ref b2), .val (.ref b7), .unset, .unset, .unset, .unset, .unset] [(.int ((p5.toUInt32 >>> ((16 : Int32) &&& 31).toUInt32).toInt32))]) t → Gl t := fun t kt => k10 t (by
    show own_S p e below T7 (mkF m 34 #[.val (.int p1), .val (.int p2), .val (.int p3), .val (.int p4), .val (.int p5), .val (.int (p1 &&& (4095 : Int32))), .val (.int (p2 &&& (4095 : Int32))), .val (.int (p3 &&& (4095 : Int32))), .val (.ref b2), .unset, .unset, .unset, .unset, .unset, .unset] [(.ref b7)]) _
    refine XS.astore X7.here hx rfl (hb hby at_34) rfl rfl (l' := #[.val (.int p1), .val (.int p2), .val (.int p3), .val (.int p4), .val (.int p5), .val (.int (p1 &&& (4095 : Int32))), .val (.int (p2 &&& (4095 : Int32))), .val (.int (p3 &&& (4095 : Int32))), .val (.ref b2), .val (.ref b7), .unset, .unset, .unset, .unset, .unset]) rfl ?_
    show own_S p e below T7 (mkF m 36 #[.val (.int p1), .val (.int p2), .val (.int p3), .val (.int p4), .val (.int p5), .val (.int (p1 &&& (4095 : Int32))), .val (.int (p2 &&& (4095 : Int32))), .val (.int (p3 &&& (4095 : Int32))), .val (.ref b2), .val (.ref b7), .unset, .unset, .unset, .unset, .unset] []) _
    refine XS.iload X7.here hx rfl (hb hby at_36) rfl ?_
    show own_S p e below T7 (mkF m 38 #[.val (.int p1), .val (.int p2), .val (.int p3), .val (.int p4), .val (.int p5), .val (.int (p1 &&& (4095 : Int32))), .val (.int (p2 &&& (4095 : Int32))), .val (.int (p3 &&& (4095 : Int32))), .val (.ref b2), .val (.ref b7), .unset, .unset, .unset, .unset, .unset] [(.int p5)]) _
    refine XS.bipush X7.here hx rfl (hb hby at_38) ?_
    show own_S p e below T7 (mkF m 40 #[.val (.int p1), .val (.int p2), .val (.int p3), .val (.int p4), .val (.int p5), .val (.int (p1 &&& (4095 : Int32))), .val (.int (p2 &&& (4095 : Int32))), .val (.int (p3 &&& (4095 : Int32))), .val (.ref b2), .val (.ref b7), .unset, .unset, .unset, .unset, .unset] [(.int (16 : Int32)), (.int p5)]) _
    refine XS.iushr X7.here hx rfl (hb hby at_40) rfl ?_
    exact kt)
  obtain ⟨_, _, ⟨T12, L12, cc12, ss12⟩, -, X12, ⟨Lc12, hQ12, l12, y12, z12⟩, st12⟩ := Jvm.LawKit.callS X7 hx (y := (⟨"com/example/pricecollar/pricecollar/tape/ColumnsKeepUnnumberedPinLaw", "text", "(I)Ljava/lang/String;"⟩ : MethodName)) hown (mvT hZ (hw _ (List.mem_of_getElem? (i := 0) rfl))) (mvT hZ (hw _ (List.mem_of_getElem? (i := 1) rfl))) (mvT hZ (hw _ (List.mem_of_getElem? (i := 2) rfl))) (mvT hZ (hw _ (List.mem_of_getElem? (i := 3) rfl))) (by decide) (backOf (W := 0) (rm1 l Z a0 hw [] ((p5.toUInt32 >>> ((16 : Int32) &&& 31).toUInt32).toInt32) G1 T7.heap n0 Z8 O9 O2 P5) hZ (hw _ (List.mem_of_getElem? (i := 3) rfl)) (hw _ (List.mem_of_getElem? (i := 2) rfl)) (by decide) (by decide)) (g := (mkF m 41 #[.val (.int p1), .val (.int p2), .val (.int p3), .val (.int p4), .val (.int p5), .val (.int (p1 &&& (4095 : Int32))), .val (.int (p2 &&& (4095 : Int32))), .val (.int (p3 &&& (4095 : Int32))), .val (.ref b2), .val (.ref b7), .unset, .unset, .unset, .unset, .unset] [(.int ((p5.toUInt32 >>> ((16 : Int32) &&& 31).toUInt32).toInt32))])) rfl (by rw [hml]; rfl) (argsL := [(.int ((p5.toUInt32 >>> ((16 : Int32) &&& 31).toUInt32).toInt32))]) (rest := []) (lenOf pd_2 rfl) rfl (by show 2 * 0 + _ ≤ _; exact Nat.le_of_eq rfl) (hb hby at_41) (fun _ _ => ⟨rfl, rfl, (by decide : 6 + 3 ≤ _), (by decide : 16 + 8 ≤ _)⟩)
  dsimp only [Pt.U, Pt.locs, Pt.cells, Pt.slots] at X12 l12 y12 z12 st12 hQ12
  subst l12 y12 z12
  obtain ⟨b12, rfl, Nq12, g_b12, sz12, K12, Ex12⟩ := hQ12
  have N12 := Fr.app N7 Nq12
  have f13 := (Ex2.keep K7)
  have ne_b2_b12 : b2 ≠ b12 := Nat.ne_of_lt (Nat.lt_of_lt_of_le f13.lt sz12)
  have ne_b7_b12 : b7 ≠ b12 := Nat.ne_of_lt (Nat.lt_of_lt_of_le Ex7.lt sz12)
  have Z14 : n0 ≤ T12.heap.size := Nat.le_trans Z8 K12.1
  have O15 : Old Z n0 T12.heap := O9.keep K12 all0
  have k16 : ∀ t, own_S p e below T12 (mkF m 44 #[.val (.int p1), .val (.int p2), .val (.int p3), .val (.int p4), .val (.int p5), .val (.int (p1 &&& (4095 : Int32))), .val (.int (p2 &&& (4095 : Int32))), .val (.int (p3 &&& (4095 : Int32))), .val (.ref b2), .val (.ref b7), .unset, .unset, .unset, .unset, .unset] [(.ref b12)]) t → Gl t := fun t kt => k11 t (st12 _ kt)
  have k17 : ∀ t, own_S p e below T12 (mkF m 48 #[.val (.int p1), .val (.int p2), .val (.int p3), .val (.int p4), .val (.int p5), .val (.int (p1 &&& (4095 : Int32))), .val (.int (p2 &&& (4095 : Int32))), .val (.int (p3 &&& (4095 : Int32))), .val (.ref b2), .val (.ref b7), .val (.ref b12), .unset, .unset, .unset, .unset] [(.int p5)]) t → Gl t := fun t kt => k16 t (by
    show own_S p e below T12 (mkF m 44 #[.val (.int p1), .val (.int p2), .val (.int p3), .val (.int p4), .val (.int p5), .val (.int (p1 &&& (4095 : Int32))), .val (.int (p2 &&& (4095 : Int32))), .val (.int (p3 &&& (4095 : Int32))), .val (.ref b2), .val (.ref b7), .unset, .unset, .unset, .unset, .unset] [(.ref b12)]) _
    refine XS.astore X12.here hx rfl (hb hby at_44) rfl rfl (l' := #[.val (.int p1), .val (.int p2), .val (.int p3), .val (.int p4), .val (.int p5), .val (.int (p1 &&& (4095 : Int32))), .val (.int (p2 &&& (4095 : Int32))), .val (.int (p3 &&& (4095 : Int32))), .val (.ref b2), .val (.ref b7), .val (.ref b12), .unset, .unset, .unset, .unset]) rfl ?_
    show own_S p e below T12 (mkF m 46 #[.val (.int p1), .val (.int p2), .val (.int p3), .val (.int p4), .val (.int p5), .val (.int (p1 &&& (4095 : Int32))), .val (.int (p2 &&& (4095 : Int32))), .val (.int (p3 &&& (4095 : Int32))), .val (.ref b2), .val (.ref b7), .val (.ref b12), .unset, .unset, .unset, .unset] []) _
    refine XS.iload X12.here hx rfl (hb hby at_46) rfl ?_
    exact kt)
  obtain ⟨_, _, ⟨T18, L18, cc18, ss18⟩, -, X18, ⟨Lc18, hQ18, l18, y18, z18⟩, st18⟩ := Jvm.LawKit.callS X12 hx (y := (⟨"com/example/pricecollar/pricecollar/tape/ColumnsKeepUnnumberedPinLaw", "text", "(I)Ljava/lang/String;"⟩ : MethodName)) hown (mvT hZ (hw _ (List.mem_of_getElem? (i := 0) rfl))) (mvT hZ (hw _ (List.mem_of_getElem? (i := 1) rfl))) (mvT hZ (hw _ (List.mem_of_getElem? (i := 2) rfl))) (mvT hZ (hw _ (List.mem_of_getElem? (i := 3) rfl))) (by decide) (backOf (W := 0) (rm1 l Z a0 hw [] p5 G1 T12.heap n0 Z14 O15 O2 P5) hZ (hw _ (List.mem_of_getElem? (i := 3) rfl)) (hw _ (List.mem_of_getElem? (i := 2) rfl)) (by decide) (by decide)) (g := (mkF m 48 #[.val (.int p1), .val (.int p2), .val (.int p3), .val (.int p4), .val (.int p5), .val (.int (p1 &&& (4095 : Int32))), .val (.int (p2 &&& (4095 : Int32))), .val (.int (p3 &&& (4095 : Int32))), .val (.ref b2), .val (.ref b7), .val (.ref b12), .unset, .unset, .unset, .unset] [(.int p5)])) rfl (by rw [hml]; rfl) (argsL := [(.int p5)]) (rest := []) (lenOf pd_2 rfl) rfl (by show 2 * 0 + _ ≤ _; exact Nat.le_of_eq rfl) (hb hby at_48) (fun _ _ => ⟨rfl, rfl, (by decide : 9 + 3 ≤ _), (by decide : 24 + 8 ≤ _)⟩)
  dsimp only [Pt.U, Pt.locs, Pt.cells, Pt.slots] at X18 l18 y18 z18 st18 hQ18
  subst l18 y18 z18
  obtain ⟨b18, rfl, Nq18, g_b18, sz18, K18, Ex18⟩ := hQ18
  have N18 := Fr.app N12 Nq18
  have f19 := (f13.keep K12)
  have ne_b2_b18 : b2 ≠ b18 := Nat.ne_of_lt (Nat.lt_of_lt_of_le f19.lt sz18)
  have f20 := (Ex7.keep K12)
  have ne_b7_b18 : b7 ≠ b18 := Nat.ne_of_lt (Nat.lt_of_lt_of_le f20.lt sz18)
  have ne_b12_b18 : b12 ≠ b18 := Nat.ne_of_lt (Nat.lt_of_lt_of_le Ex12.lt sz18)
  have Z21 : n0 ≤ T18.heap.size := Nat.le_trans Z14 K18.1
  have O22 : Old Z n0 T18.heap := O15.keep K18 all0
  have k23 : ∀ t, own_S p e below T18 (mkF m 51 #[.val (.int p1), .val (.int p2), .val (.int p3), .val (.int p4), .val (.int p5), .val (.int (p1 &&& (4095 : Int32))), .val (.int (p2 &&& (4095 : Int32))), .val (.int (p3 &&& (4095 : Int32))), .val (.ref b2), .val (.ref b7), .val (.ref b12), .unset, .unset, .unset, .unset] [(.ref b18)]) t → Gl t := fun t kt => k17 t (st18 _ kt)
  have k24 : ∀ t, own_S p e below T18 (mkF m 53 #[.val (.int p1), .val (.int p2), .val (.int p3), .val (.int p4), .val (.int p5), .val (.int (p1 &&& (4095 : Int32))), .val (.int (p2 &&& (4095 : Int32))), .val (.int (p3 &&& (4095 : Int32))), .val (.ref b2), .val (.ref b7), .val (.ref b12), .val (.ref b18), .unset, .unset, .unset] []) t → Gl t := fun t kt => k23 t (by
    show own_S p e below T18 (mkF m 51 #[.val (.int p1), .val (.int p2), .val (.int p3), .val (.int p4), .val (.int p5), .val (.int (p1 &&& (4095 : Int32))), .val (.int (p2 &&& (4095 : Int32))), .val (.int (p3 &&& (4095 : Int32))), .val (.ref b2), .val (.ref b7), .val (.ref b12), .unset, .unset, .unset, .unset] [(.ref b18)]) _
    refine XS.astore X18.here hx rfl (hb hby at_51) rfl rfl (l' := #[.val (.int p1), .val (.int p2), .val (.int p3), .val (.int p4), .val (.int p5), .val (.int (p1 &&& (4095 : Int32))), .val (.int (p2 &&& (4095 : Int32))), .val (.int (p3 &&& (4095 : Int32))), .val (.ref b2), .val (.ref b7), .val (.ref b12), .val (.ref b18), .unset, .unset, .unset]) rfl ?_
    exact kt)
  obtain ⟨T25, h25, X25, e25, E25, A25, D25, -, st25⟩ := newO X18 hx hZ hown (hw _ (List.mem_of_getElem? (i := 34) rfl)) (hw _ (List.mem_of_getElem? (i := 35) rfl)) (hw _ (List.mem_of_getElem? (i := 36) rfl)) rfl (g := (mkF m 53 #[.val (.int p1), .val (.int p2), .val (.int p3), .val (.int p4), .val (.int p5), .val (.int (p1 &&& (4095 : Int32))), .val (.int (p2 &&& (4095 : Int32))), .val (.int (p3 &&& (4095 : Int32))), .val (.ref b2), .val (.ref b7), .val (.ref b12), .val (.ref b18), .unset, .unset, .unset] [])) rfl (hb hby at_53) (by decide) (by decide)
  obtain ⟨b25, g25⟩ : ∃ z, z = T18.heap.size := ⟨_, rfl⟩
  rw [← g25] at A25 D25 st25
  have g_b25 : n0 ≤ b25 := Nat.le_trans Z21 (Nat.le_of_eq g25.symm)
  have f26 := (f19.keep K18)
  have ne_b2_b25 : b2 ≠ b25 := Nat.ne_of_lt (Nat.lt_of_lt_of_le f26.lt (Nat.le_of_eq g25.symm))
  have f27 := (f20.keep K18)
  have ne_b7_b25 : b7 ≠ b25 := Nat.ne_of_lt (Nat.lt_of_lt_of_le f27.lt (Nat.le_of_eq g25.symm))
  have f28 := (Ex12.keep K18)
  have ne_b12_b25 : b12 ≠ b25 := Nat.ne_of_lt (Nat.lt_of_lt_of_le f28.lt (Nat.le_of_eq g25.symm))
  have ne_b18_b25 : b18 ≠ b25 := Nat.ne_of_lt (Nat.lt_of_lt_of_le Ex18.lt (Nat.le_of_eq g25.symm))
  have Z29 : n0 ≤ h25.size := Nat.le_trans Z21 E25.1
  have O30 : Old Z n0 h25 := O22.ext E25
  have F25_48 : Fld Z h25 b25 "com/example/pricecollar/pricecollar/tape/Tape$Batch" "times" "[J" .null := D25 (Or.inr (hw _ (List.mem_of_getElem? (i := 48) rfl))) (ty := (.array .long)) (by decide)
  have F25_51 : Fld Z h25 b25 "com/example/pricecollar/pricecollar/tape/Tape$Batch" "runRows" "[I" .null := D25 (Or.inl (hw _ (List.mem_of_getElem? (i := 51) rfl))) (ty := (.array .int)) (by decide)
  have F25_53 : Fld Z h25 b25 "com/example/pricecollar/pricecollar/tape/Tape$Batch" "runFiles" "[I" .null := D25 (Or.inl (hw _ (List.mem_of_getElem? (i := 53) rfl))) (ty := (.array .int)) (by decide)
  have F25_55 : Fld Z h25 b25 "com/example/pricecollar/pricecollar/tape/Tape$Batch" "runLines" "[J" .null := D25 (Or.inl (hw _ (List.mem_of_getElem? (i := 55) rfl))) (ty := (.array .long)) (by decide)
  have F25_57 : Fld Z h25 b25 "com/example/pricecollar/pricecollar/tape/TradeTape$Columns" "symbolKeys" "[J" .null := D25 (Or.inr (hw _ (List.mem_of_getElem? (i := 57) rfl))) (ty := (.array .long)) (by decide)
  have F25_59 : Fld Z h25 b25 "com/example/pricecollar/pricecollar/tape/TradeTape$Columns" "exchanges" "[C" .null := D25 (Or.inr (hw _ (List.mem_of_getElem? (i := 59) rfl))) (ty := (.array .char)) (by decide)
  have F25_61 : Fld Z h25 b25 "com/example/pricecollar/pricecollar/tape/TradeTape$Columns" "conditionsNumbers" "[I" .null := D25 (Or.inr (hw _ (List.mem_of_getElem? (i := 61) rfl))) (ty := (.array .int)) (by decide)
  have F25_63 : Fld Z h25 b25 "com/example/pricecollar/pricecollar/tape/TradeTape$Columns" "sizes" "[J" .null := D25 (Or.inr (hw _ (List.mem_of_getElem? (i := 63) rfl))) (ty := (.array .long)) (by decide)
  have F25_65 : Fld Z h25 b25 "com/example/pricecollar/pricecollar/tape/TradeTape$Columns" "prices" "[J" .null := D25 (Or.inr (hw _ (List.mem_of_getElem? (i := 65) rfl))) (ty := (.array .long)) (by decide)
  have F25_67 : Fld Z h25 b25 "com/example/pricecollar/pricecollar/tape/TradeTape$Columns" "corrections" "[I" .null := D25 (Or.inr (hw _ (List.mem_of_getElem? (i := 67) rfl))) (ty := (.array .int)) (by decide)
  have F25_75 : Fld Z h25 b25 "com/example/pricecollar/pricecollar/tape/TradeTape$Columns" "unnumberedSymbols" "[Ljava/lang/String;" .null := D25 (Or.inl (hw _ (List.mem_of_getElem? (i := 75) rfl))) (ty := (.array (.object "java/lang/String"))) (by decide)
  have F25_79 : Fld Z h25 b25 "com/example/pricecollar/pricecollar/tape/TradeTape$Columns" "unnumberedConditions" "[Ljava/lang/String;" .null := D25 (Or.inl (hw _ (List.mem_of_getElem? (i := 79) rfl))) (ty := (.array (.object "java/lang/String"))) (by decide)
  have F25_89 : Fld Z h25 b25 "com/example/pricecollar/pricecollar/tape/TradeTape$Columns" "texts" "[Ljava/lang/String;" .null := D25 (Or.inl (hw _ (List.mem_of_getElem? (i := 89) rfl))) (ty := (.array (.object "java/lang/String"))) (by decide)
  have k31 : ∀ t, own_S p e below T25 (mkF m 56 #[.val (.int p1), .val (.int p2), .val (.int p3), .val (.int p4), .val (.int p5), .val (.int (p1 &&& (4095 : Int32))), .val (.int (p2 &&& (4095 : Int32))), .val (.int (p3 &&& (4095 : Int32))), .val (.ref b2), .val (.ref b7), .val (.ref b12), .val (.ref b18), .unset, .unset, .unset] [(.ref b25)]) t → Gl t := fun t kt => k24 t (st25 _ kt)
  have k32 : ∀ t, own_S p e below T25 (mkF m 57 #[.val (.int p1), .val (.int p2), .val (.int p3), .val (.int p4), .val (.int p5), .val (.int (p1 &&& (4095 : Int32))), .val (.int (p2 &&& (4095 : Int32))), .val (.int (p3 &&& (4095 : Int32))), .val (.ref b2), .val (.ref b7), .val (.ref b12), .val (.ref b18), .unset, .unset, .unset] [(.ref b25), (.ref b25)]) t → Gl t := fun t kt => k31 t (by
    show own_S p e below T25 (mkF m 56 #[.val (.int p1), .val (.int p2), .val (.int p3), .val (.int p4), .val (.int p5), .val (.int (p1 &&& (4095 : Int32))), .val (.int (p2 &&& (4095 : Int32))), .val (.int (p3 &&& (4095 : Int32))), .val (.ref b2), .val (.ref b7), .val (.ref b12), .val (.ref b18), .unset, .unset, .unset] [(.ref b25)]) _
    refine XS.dup X25.here hx rfl (hb hby at_56) rfl rfl ?_
    exact kt)
  obtain ⟨_, _, ⟨T33, L33, cc33, ss33⟩, -, X33, ⟨Lc33, hQ33, l33, y33, z33⟩, st33⟩ := X25.specialBack hx (y := (⟨"com/example/pricecollar/pricecollar/tape/TradeTape$Columns", "<init>", "()V"⟩ : MethodName)) rfl hown (mvT hZ (hw _ (List.mem_of_getElem? (i := 37) rfl))) (mvT hZ (hw _ (List.mem_of_getElem? (i := 38) rfl))) (mvT hZ (hw _ (List.mem_of_getElem? (i := 39) rfl))) (by decide) (backOf (W := 1) (rm8 l Z a0 hw [] b25  h25 n0 Z29 F25_48 F25_51 F25_53 F25_55 F25_57 F25_59 F25_61 F25_63 F25_65 F25_67 F25_75 F25_79 A25 g_b25) hZ (hw _ (List.mem_of_getElem? (i := 39) rfl)) (hw _ (List.mem_of_getElem? (i := 36) rfl)) (by decide) (by decide)) (g := (mkF m 57 #[.val (.int p1), .val (.int p2), .val (.int p3), .val (.int p4), .val (.int p5), .val (.int (p1 &&& (4095 : Int32))), .val (.int (p2 &&& (4095 : Int32))), .val (.int (p3 &&& (4095 : Int32))), .val (.ref b2), .val (.ref b7), .val (.ref b12), .val (.ref b18), .unset, .unset, .unset] [(.ref b25), (.ref b25)])) rfl (by rw [hml]; rfl) (Steps.refl _) (a := b25) (argsL := []) (rest := [(.ref b25)]) (lenOf pd_1 rfl) rfl (by show 2 * 0 + _ ≤ _; exact Nat.le_of_eq rfl) (hb hby at_57) (fun _ _ => ⟨rfl, e25, (by decide : 13 + 10 ≤ _), (by decide : 50 + 28678 ≤ _)⟩)
  dsimp only [Pt.U, Pt.locs, Pt.cells, Pt.slots] at X33 l33 y33 z33 st33 hQ33
  subst l33 y33 z33
  obtain ⟨rfl, Nq33, b33, kk33, g_b33, ne33, K33, Ex33, Fl33, V33, Fu33_0, Fu33_1⟩ := hQ33
  have N33 := Fr.app N18 Nq33
  have Z34 : n0 ≤ T33.heap.size := Nat.le_trans Z29 K33.1
  have O35 : Old Z n0 T33.heap := O30.keep K33 (allS g_b25 all0)
  have k36 : ∀ t, own_S p e below T33 (mkF m 60 #[.val (.int p1), .val (.int p2), .val (.int p3), .val (.int p4), .val (.int p5), .val (.int (p1 &&& (4095 : Int32))), .val (.int (p2 &&& (4095 : Int32))), .val (.int (p3 &&& (4095 : Int32))), .val (.ref b2), .val (.ref b7), .val (.ref b12), .val (.ref b18), .unset, .unset, .unset] [(.ref b25)]) t → Gl t := fun t kt => k32 t (st33.trans kt)
  have k37 : ∀ t, own_S p e below T33 (mkF m 64 #[.val (.int p1), .val (.int p2), .val (.int p3), .val (.int p4), .val (.int p5), .val (.int (p1 &&& (4095 : Int32))), .val (.int (p2 &&& (4095 : Int32))), .val (.int (p3 &&& (4095 : Int32))), .val (.ref b2), .val (.ref b7), .val (.ref b12), .val (.ref b18), .val (.ref b25), .unset, .unset] [(.ref b25)]) t → Gl t := fun t kt => k36 t (by
    show own_S p e below T33 (mkF m 60 #[.val (.int p1), .val (.int p2), .val (.int p3), .val (.int p4), .val (.int p5), .val (.int (p1 &&& (4095 : Int32))), .val (.int (p2 &&& (4095 : Int32))), .val (.int (p3 &&& (4095 : Int32))), .val (.ref b2), .val (.ref b7), .val (.ref b12), .val (.ref b18), .unset, .unset, .unset] [(.ref b25)]) _
    refine XS.astore X33.here hx rfl (hb hby at_60) rfl rfl (l' := #[.val (.int p1), .val (.int p2), .val (.int p3), .val (.int p4), .val (.int p5), .val (.int (p1 &&& (4095 : Int32))), .val (.int (p2 &&& (4095 : Int32))), .val (.int (p3 &&& (4095 : Int32))), .val (.ref b2), .val (.ref b7), .val (.ref b12), .val (.ref b18), .val (.ref b25), .unset, .unset]) rfl ?_
    show own_S p e below T33 (mkF m 62 #[.val (.int p1), .val (.int p2), .val (.int p3), .val (.int p4), .val (.int p5), .val (.int (p1 &&& (4095 : Int32))), .val (.int (p2 &&& (4095 : Int32))), .val (.int (p3 &&& (4095 : Int32))), .val (.ref b2), .val (.ref b7), .val (.ref b12), .val (.ref b18), .val (.ref b25), .unset, .unset] []) _
    refine XS.aload X33.here hx rfl (hb hby at_62) rfl rfl ?_
    exact kt)
  obtain ⟨T38, X38, e38, st38⟩ := getF X33 hx hZ hown (host := "") (Or.inl (hw _ (List.mem_of_getElem? (i := 68) rfl))) Via.refl rfl Fl33 (g := (mkF m 64 #[.val (.int p1), .val (.int p2), .val (.int p3), .val (.int p4), .val (.int p5), .val (.int (p1 &&& (4095 : Int32))), .val (.int (p2 &&& (4095 : Int32))), .val (.int (p3 &&& (4095 : Int32))), .val (.ref b2), .val (.ref b7), .val (.ref b12), .val (.ref b18), .val (.ref b25), .unset, .unset] [(.ref b25)])) rfl rfl (hb hby at_64)
  have k39 : ∀ t, own_S p e below T38 (mkF m 67 #[.val (.int p1), .val (.int p2), .val (.int p3), .val (.int p4), .val (.int p5), .val (.int (p1 &&& (4095 : Int32))), .val (.int (p2 &&& (4095 : Int32))), .val (.int (p3 &&& (4095 : Int32))), .val (.ref b2), .val (.ref b7), .val (.ref b12), .val (.ref b18), .val (.ref b25), .unset, .unset] [(.ref b33)]) t → Gl t := fun t kt => k37 t (st38 _ kt)
  have k40 : ∀ t, own_S p e below T38 (mkF m 70 #[.val (.int p1), .val (.int p2), .val (.int p3), .val (.int p4), .val (.int p5), .val (.int (p1 &&& (4095 : Int32))), .val (.int (p2 &&& (4095 : Int32))), .val (.int (p3 &&& (4095 : Int32))), .val (.ref b2), .val (.ref b7), .val (.ref b12), .val (.ref b18), .val (.ref b25), .unset, .unset] [(.int (-1 : Int32)), (.int (p1 &&& (4095 : Int32))), (.ref b33)]) t → Gl t := fun t kt => k39 t (by
    show own_S p e below T38 (mkF m 67 #[.val (.int p1), .val (.int p2), .val (.int p3), .val (.int p4), .val (.int p5), .val (.int (p1 &&& (4095 : Int32))), .val (.int (p2 &&& (4095 : Int32))), .val (.int (p3 &&& (4095 : Int32))), .val (.ref b2), .val (.ref b7), .val (.ref b12), .val (.ref b18), .val (.ref b25), .unset, .unset] [(.ref b33)]) _
    refine XS.iload X38.here hx rfl (hb hby at_67) rfl ?_
    show own_S p e below T38 (mkF m 69 #[.val (.int p1), .val (.int p2), .val (.int p3), .val (.int p4), .val (.int p5), .val (.int (p1 &&& (4095 : Int32))), .val (.int (p2 &&& (4095 : Int32))), .val (.int (p3 &&& (4095 : Int32))), .val (.ref b2), .val (.ref b7), .val (.ref b12), .val (.ref b18), .val (.ref b25), .unset, .unset] [(.int (p1 &&& (4095 : Int32))), (.ref b33)]) _
    refine XS.iconst X38.here hx rfl (hb hby at_69) ?_
    exact kt)
  obtain ⟨cl41, Ar41, q41, Sz41, Ng41, Hs41, Gs41⟩ := id V33
  have hin41 : ¬ ((p1 &&& (4095 : Int32)) < 0 ∨ cl41.slots.size ≤ ((p1 &&& (4095 : Int32))).toNatClampNeg) := inb_of Sz41 (own_4095 p1)
  obtain ⟨T41, h41, X41, e41, W41, st41⟩ := stI X38 hx hZ e38 Ar41 (j := (p1 &&& (4095 : Int32))) hin41 (g := (mkF m 70 #[.val (.int p1), .val (.int p2), .val (.int p3), .val (.int p4), .val (.int p5), .val (.int (p1 &&& (4095 : Int32))), .val (.int (p2 &&& (4095 : Int32))), .val (.int (p3 &&& (4095 : Int32))), .val (.ref b2), .val (.ref b7), .val (.ref b12), .val (.ref b18), .val (.ref b25), .unset, .unset] [(.int (-1 : Int32)), (.int (p1 &&& (4095 : Int32))), (.ref b33)])) rfl rfl (hb hby at_70)
  have Z42 : n0 ≤ h41.size := Nat.le_trans Z34 (Keep.of_wr W41).1
  have O43 : Old Z n0 h41 := O35.wr W41 g_b33
  have V41 : Arh Z h41 b33 kk33 .int (4096 : Int32) [((p1 &&& (4095 : Int32)), (.int (-1 : Int32)))] [] (.int (0 : Int32)) := Arh.push Ar41 q41 Sz41 Ng41 Hs41 Gs41 rfl W41 hin41
  have N44 := Fr.snoc X41 N33 g_b33
  have k45 : ∀ t, own_S p e below T41 (mkF m 71 #[.val (.int p1), .val (.int p2), .val (.int p3), .val (.int p4), .val (.int p5), .val (.int (p1 &&& (4095 : Int32))), .val (.int (p2 &&& (4095 : Int32))), .val (.int (p3 &&& (4095 : Int32))), .val (.ref b2), .val (.ref b7), .val (.ref b12), .val (.ref b18), .val (.ref b25), .unset, .unset] []) t → Gl t := fun t kt => k40 t (st41 _ kt)
  have k46 : ∀ t, own_S p e below T41 (mkF m 73 #[.val (.int p1), .val (.int p2), .val (.int p3), .val (.int p4), .val (.int p5), .val (.int (p1 &&& (4095 : Int32))), .val (.int (p2 &&& (4095 : Int32))), .val (.int (p3 &&& (4095 : Int32))), .val (.ref b2), .val (.ref b7), .val (.ref b12), .val (.ref b18), .val (.ref b25), .unset, .unset] [(.ref b25)]) t → Gl t := fun t kt => k45 t (by
    show own_S p e below T41 (mkF m 71 #[.val (.int p1), .val (.int p2), .val (.int p3), .val (.int p4), .val (.int p5), .val (.int (p1 &&& (4095 : Int32))), .val (.int (p2 &&& (4095 : Int32))), .val (.int (p3 &&& (4095 : Int32))), .val (.ref b2), .val (.ref b7), .val (.ref b12), .val (.ref b18), .val (.ref b25), .unset, .unset] []) _
    refine XS.aload X41.here hx rfl (hb hby at_71) rfl rfl ?_
    exact kt)
  have f47 := (Fl33.other W41 (Or.inl ne33))
  obtain ⟨T48, X48, e48, st48⟩ := getF X41 hx hZ hown (host := "") (Or.inl (hw _ (List.mem_of_getElem? (i := 68) rfl))) Via.refl e41 f47 (g := (mkF m 73 #[.val (.int p1), .val (.int p2), .val (.int p3), .val (.int p4), .val (.int p5), .val (.int (p1 &&& (4095 : Int32))), .val (.int (p2 &&& (4095 : Int32))), .val (.int (p3 &&& (4095 : Int32))), .val (.ref b2), .val (.ref b7), .val (.ref b12), .val (.ref b18), .val (.ref b25), .unset, .unset] [(.ref b25)])) rfl rfl (hb hby at_73)
  have k49 : ∀ t, own_S p e below T48 (mkF m 76 #[.val (.int p1), .val (.int p2), .val (.int p3), .val (.int p4), .val (.int p5), .val (.int (p1 &&& (4095 : Int32))), .val (.int (p2 &&& (4095 : Int32))), .val (.int (p3 &&& (4095 : Int32))), .val (.ref b2), .val (.ref b7), .val (.ref b12), .val (.ref b18), .val (.ref b25), .unset, .unset] [(.ref b33)]) t → Gl t := fun t kt => k46 t (st48 _ kt)
  have k50 : ∀ t, own_S p e below T48 (mkF m 79 #[.val (.int p1), .val (.int p2), .val (.int p3), .val (.int p4), .val (.int p5), .val (.int (p1 &&& (4095 : Int32))), .val (.int (p2 &&& (4095 : Int32))), .val (.int (p3 &&& (4095 : Int32))), .val (.ref b2), .val (.ref b7), .val (.ref b12), .val (.ref b18), .val (.ref b25), .unset, .unset] [(.int (-1 : Int32)), (.int (p2 &&& (4095 : Int32))), (.ref b33)]) t → Gl t := fun t kt => k49 t (by
    show own_S p e below T48 (mkF m 76 #[.val (.int p1), .val (.int p2), .val (.int p3), .val (.int p4), .val (.int p5), .val (.int (p1 &&& (4095 : Int32))), .val (.int (p2 &&& (4095 : Int32))), .val (.int (p3 &&& (4095 : Int32))), .val (.ref b2), .val (.ref b7), .val (.ref b12), .val (.ref b18), .val (.ref b25), .unset, .unset] [(.ref b33)]) _
    refine XS.iload X48.here hx rfl (hb hby at_76) rfl ?_
    show own_S p e below T48 (mkF m 78 #[.val (.int p1), .val (.int p2), .val (.int p3), .val (.int p4), .val (.int p5), .val (.int (p1 &&& (4095 : Int32))), .val (.int (p2 &&& (4095 : Int32))), .val (.int (p3 &&& (4095 : Int32))), .val (.ref b2), .val (.ref b7), .val (.ref b12), .val (.ref b18), .val (.ref b25), .unset, .unset] [(.int (p2 &&& (4095 : Int32))), (.ref b33)]) _
    refine XS.iconst X48.here hx rfl (hb hby at_78) ?_
    exact kt)
  obtain ⟨cl51, Ar51, q51, Sz51, Ng51, Hs51, Gs51⟩ := id V41
  have hin51 : ¬ ((p2 &&& (4095 : Int32)) < 0 ∨ cl51.slots.size ≤ ((p2 &&& (4095 : Int32))).toNatClampNeg) := inb_of Sz51 (own_4095 p2)
  obtain ⟨T51, h51, X51, e51, W51, st51⟩ := stI X48 hx hZ e48 Ar51 (j := (p2 &&& (4095 : Int32))) hin51 (g := (mkF m 79 #[.val (.int p1), .val (.int p2), .val (.int p3), .val (.int p4), .val (.int p5), .val (.int (p1 &&& (4095 : Int32))), .val (.int (p2 &&& (4095 : Int32))), .val (.int (p3 &&& (4095 : Int32))), .val (.ref b2), .val (.ref b7), .val (.ref b12), .val (.ref b18), .val (.ref b25), .unset, .unset] [(.int (-1 : Int32)), (.int (p2 &&& (4095 : Int32))), (.ref b33)])) rfl rfl (hb hby at_79)
  have Z52 : n0 ≤ h51.size := Nat.le_trans Z42 (Keep.of_wr W51).1
  have O53 : Old Z n0 h51 := O43.wr W51 g_b33
  have V51 : Arh Z h51 b33 kk33 .int (4096 : Int32) [((p2 &&& (4095 : Int32)), (.int (-1 : Int32))), ((p1 &&& (4095 : Int32)), (.int (-1 : Int32)))] [] (.int (0 : Int32)) := Arh.push Ar51 q51 Sz51 Ng51 Hs51 Gs51 rfl W51 hin51
  have N54 := Fr.snoc X51 N44 g_b33
  have k55 : ∀ t, own_S p e below T51 (mkF m 80 #[.val (.int p1), .val (.int p2), .val (.int p3), .val (.int p4), .val (.int p5), .val (.int (p1 &&& (4095 : Int32))), .val (.int (p2 &&& (4095 : Int32))), .val (.int (p3 &&& (4095 : Int32))), .val (.ref b2), .val (.ref b7), .val (.ref b12), .val (.ref b18), .val (.ref b25), .unset, .unset] []) t → Gl t := fun t kt => k50 t (st51 _ kt)
  have k56 : ∀ t, own_S p e below T51 (mkF m 82 #[.val (.int p1), .val (.int p2), .val (.int p3), .val (.int p4), .val (.int p5), .val (.int (p1 &&& (4095 : Int32))), .val (.int (p2 &&& (4095 : Int32))), .val (.int (p3 &&& (4095 : Int32))), .val (.ref b2), .val (.ref b7), .val (.ref b12), .val (.ref b18), .val (.ref b25), .unset, .unset] [(.ref b25)]) t → Gl t := fun t kt => k55 t (by
    show own_S p e below T51 (mkF m 80 #[.val (.int p1), .val (.int p2), .val (.int p3), .val (.int p4), .val (.int p5), .val (.int (p1 &&& (4095 : Int32))), .val (.int (p2 &&& (4095 : Int32))), .val (.int (p3 &&& (4095 : Int32))), .val (.ref b2), .val (.ref b7), .val (.ref b12), .val (.ref b18), .val (.ref b25), .unset, .unset] []) _
    refine XS.aload X51.here hx rfl (hb hby at_80) rfl rfl ?_
    exact kt)
  have f57 := (f47.other W51 (Or.inl ne33))
  obtain ⟨T58, X58, e58, st58⟩ := getF X51 hx hZ hown (host := "") (Or.inl (hw _ (List.mem_of_getElem? (i := 68) rfl))) Via.refl e51 f57 (g := (mkF m 82 #[.val (.int p1), .val (.int p2), .val (.int p3), .val (.int p4), .val (.int p5), .val (.int (p1 &&& (4095 : Int32))), .val (.int (p2 &&& (4095 : Int32))), .val (.int (p3 &&& (4095 : Int32))), .val (.ref b2), .val (.ref b7), .val (.ref b12), .val (.ref b18), .val (.ref b25), .unset, .unset] [(.ref b25)])) rfl rfl (hb hby at_82)
  have k59 : ∀ t, own_S p e below T58 (mkF m 85 #[.val (.int p1), .val (.int p2), .val (.int p3), .val (.int p4), .val (.int p5), .val (.int (p1 &&& (4095 : Int32))), .val (.int (p2 &&& (4095 : Int32))), .val (.int (p3 &&& (4095 : Int32))), .val (.ref b2), .val (.ref b7), .val (.ref b12), .val (.ref b18), .val (.ref b25), .unset, .unset] [(.ref b33)]) t → Gl t := fun t kt => k56 t (st58 _ kt)
  have k60 : ∀ t, own_S p e below T58 (mkF m 88 #[.val (.int p1), .val (.int p2), .val (.int p3), .val (.int p4), .val (.int p5), .val (.int (p1 &&& (4095 : Int32))), .val (.int (p2 &&& (4095 : Int32))), .val (.int (p3 &&& (4095 : Int32))), .val (.ref b2), .val (.ref b7), .val (.ref b12), .val (.ref b18), .val (.ref b25), .unset, .unset] [(.int (-1 : Int32)), (.int (p3 &&& (4095 : Int32))), (.ref b33)]) t → Gl t := fun t kt => k59 t (by
    show own_S p e below T58 (mkF m 85 #[.val (.int p1), .val (.int p2), .val (.int p3), .val (.int p4), .val (.int p5), .val (.int (p1 &&& (4095 : Int32))), .val (.int (p2 &&& (4095 : Int32))), .val (.int (p3 &&& (4095 : Int32))), .val (.ref b2), .val (.ref b7), .val (.ref b12), .val (.ref b18), .val (.ref b25), .unset, .unset] [(.ref b33)]) _
    refine XS.iload X58.here hx rfl (hb hby at_85) rfl ?_
    show own_S p e below T58 (mkF m 87 #[.val (.int p1), .val (.int p2), .val (.int p3), .val (.int p4), .val (.int p5), .val (.int (p1 &&& (4095 : Int32))), .val (.int (p2 &&& (4095 : Int32))), .val (.int (p3 &&& (4095 : Int32))), .val (.ref b2), .val (.ref b7), .val (.ref b12), .val (.ref b18), .val (.ref b25), .unset, .unset] [(.int (p3 &&& (4095 : Int32))), (.ref b33)]) _
    refine XS.iconst X58.here hx rfl (hb hby at_87) ?_
    exact kt)
  obtain ⟨cl61, Ar61, q61, Sz61, Ng61, Hs61, Gs61⟩ := id V51
  have hin61 : ¬ ((p3 &&& (4095 : Int32)) < 0 ∨ cl61.slots.size ≤ ((p3 &&& (4095 : Int32))).toNatClampNeg) := inb_of Sz61 (own_4095 p3)
  obtain ⟨T61, h61, X61, e61, W61, st61⟩ := stI X58 hx hZ e58 Ar61 (j := (p3 &&& (4095 : Int32))) hin61 (g := (mkF m 88 #[.val (.int p1), .val (.int p2), .val (.int p3), .val (.int p4), .val (.int p5), .val (.int (p1 &&& (4095 : Int32))), .val (.int (p2 &&& (4095 : Int32))), .val (.int (p3 &&& (4095 : Int32))), .val (.ref b2), .val (.ref b7), .val (.ref b12), .val (.ref b18), .val (.ref b25), .unset, .unset] [(.int (-1 : Int32)), (.int (p3 &&& (4095 : Int32))), (.ref b33)])) rfl rfl (hb hby at_88)
  have Z62 : n0 ≤ h61.size := Nat.le_trans Z52 (Keep.of_wr W61).1
  have O63 : Old Z n0 h61 := O53.wr W61 g_b33
  have V61 : Arh Z h61 b33 kk33 .int (4096 : Int32) [((p3 &&& (4095 : Int32)), (.int (-1 : Int32))), ((p2 &&& (4095 : Int32)), (.int (-1 : Int32))), ((p1 &&& (4095 : Int32)), (.int (-1 : Int32)))] [] (.int (0 : Int32)) := Arh.push Ar61 q61 Sz61 Ng61 Hs61 Gs61 rfl W61 hin61
  have N64 := Fr.snoc X61 N54 g_b33
  have k65 : ∀ t, own_S p e below T61 (mkF m 89 #[.val (.int p1), .val (.int p2), .val (.int p3), .val (.int p4), .val (.int p5), .val (.int (p1 &&& (4095 : Int32))), .val (.int (p2 &&& (4095 : Int32))), .val (.int (p3 &&& (4095 : Int32))), .val (.ref b2), .val (.ref b7), .val (.ref b12), .val (.ref b18), .val (.ref b25), .unset, .unset] []) t → Gl t := fun t kt => k60 t (st61 _ kt)
  have k66 : ∀ t, own_S p e below T61 (mkF m 97 #[.val (.int p1), .val (.int p2), .val (.int p3), .val (.int p4), .val (.int p5), .val (.int (p1 &&& (4095 : Int32))), .val (.int (p2 &&& (4095 : Int32))), .val (.int (p3 &&& (4095 : Int32))), .val (.ref b2), .val (.ref b7), .val (.ref b12), .val (.ref b18), .val (.ref b25), .unset, .unset] [(.ref b7), (.ref b2), (.int (p1 &&& (4095 : Int32))), (.ref b25)]) t → Gl t := fun t kt => k65 t (by
    show own_S p e below T61 (mkF m 89 #[.val (.int p1), .val (.int p2), .val (.int p3), .val (.int p4), .val (.int p5), .val (.int (p1 &&& (4095 : Int32))), .val (.int (p2 &&& (4095 : Int32))), .val (.int (p3 &&& (4095 : Int32))), .val (.ref b2), .val (.ref b7), .val (.ref b12), .val (.ref b18), .val (.ref b25), .unset, .unset] []) _
    refine XS.aload X61.here hx rfl (hb hby at_89) rfl rfl ?_
    show own_S p e below T61 (mkF m 91 #[.val (.int p1), .val (.int p2), .val (.int p3), .val (.int p4), .val (.int p5), .val (.int (p1 &&& (4095 : Int32))), .val (.int (p2 &&& (4095 : Int32))), .val (.int (p3 &&& (4095 : Int32))), .val (.ref b2), .val (.ref b7), .val (.ref b12), .val (.ref b18), .val (.ref b25), .unset, .unset] [(.ref b25)]) _
    refine XS.iload X61.here hx rfl (hb hby at_91) rfl ?_
    show own_S p e below T61 (mkF m 93 #[.val (.int p1), .val (.int p2), .val (.int p3), .val (.int p4), .val (.int p5), .val (.int (p1 &&& (4095 : Int32))), .val (.int (p2 &&& (4095 : Int32))), .val (.int (p3 &&& (4095 : Int32))), .val (.ref b2), .val (.ref b7), .val (.ref b12), .val (.ref b18), .val (.ref b25), .unset, .unset] [(.int (p1 &&& (4095 : Int32))), (.ref b25)]) _
    refine XS.aload X61.here hx rfl (hb hby at_93) rfl rfl ?_
    show own_S p e below T61 (mkF m 95 #[.val (.int p1), .val (.int p2), .val (.int p3), .val (.int p4), .val (.int p5), .val (.int (p1 &&& (4095 : Int32))), .val (.int (p2 &&& (4095 : Int32))), .val (.int (p3 &&& (4095 : Int32))), .val (.ref b2), .val (.ref b7), .val (.ref b12), .val (.ref b18), .val (.ref b25), .unset, .unset] [(.ref b2), (.int (p1 &&& (4095 : Int32))), (.ref b25)]) _
    refine XS.aload X61.here hx rfl (hb hby at_95) rfl rfl ?_
    exact kt)
  have f68 := (f57.other W61 (Or.inl ne33))
  have f69 := (((Fu33_0.other W41 (Or.inl ne33)).other W51 (Or.inl ne33)).other W61 (Or.inl ne33))
  have f70 := (((Fu33_1.other W41 (Or.inl ne33)).other W51 (Or.inl ne33)).other W61 (Or.inl ne33))
  have f71 := (((Ex33.wr W41).wr W51).wr W61)
  have f72 := (((((f26.ext E25).keep K33).wr W41).wr W51).wr W61)
  have f73 := (((((f27.ext E25).keep K33).wr W41).wr W51).wr W61)
  obtain ⟨cq67, kq67, qa67, qb67, qc67⟩ := isOf hZ e61 f71
  obtain ⟨_, _, ⟨T67, L67, cc67, ss67⟩, -, X67, ⟨Lc67, hQ67, l67, y67, z67⟩, st67⟩ := X61.virtualBack hx (y := (⟨"com/example/pricecollar/pricecollar/tape/TradeTape$Columns", "keepUnnumbered", "(ILjava/lang/String;Ljava/lang/String;)V"⟩ : MethodName)) (z := (⟨"com/example/pricecollar/pricecollar/tape/TradeTape$Columns", "keepUnnumbered", "(ILjava/lang/String;Ljava/lang/String;)V"⟩ : MethodName)) hown (mvT hZ (hw _ (List.mem_of_getElem? (i := 69) rfl))) (mvT hZ (hw _ (List.mem_of_getElem? (i := 70) rfl))) (notFace_of_selects (args := #[]) (mvT hZ (hw _ (List.mem_of_getElem? (i := 72) rfl)))) (mvT hZ (hw _ (List.mem_of_getElem? (i := 72) rfl))) (mvT hZ (hw _ (List.mem_of_getElem? (i := 71) rfl))) (by decide) (backOf (W := 0) (rm10a l Z a0 hw [] b25 (p1 &&& (4095 : Int32)) b2 b7 b33 h61 n0 Z62 f68 f69 f70 f71 g_b25 f72 f73 (own_4095 p1)) hZ (hw _ (List.mem_of_getElem? (i := 73) rfl)) (hw _ (List.mem_of_getElem? (i := 36) rfl)) (by decide) (by decide)) qa67 qc67 (g := (mkF m 97 #[.val (.int p1), .val (.int p2), .val (.int p3), .val (.int p4), .val (.int p5), .val (.int (p1 &&& (4095 : Int32))), .val (.int (p2 &&& (4095 : Int32))), .val (.int (p3 &&& (4095 : Int32))), .val (.ref b2), .val (.ref b7), .val (.ref b12), .val (.ref b18), .val (.ref b25), .unset, .unset] [(.ref b7), (.ref b2), (.int (p1 &&& (4095 : Int32))), (.ref b25)])) rfl (by rw [hml]; rfl) (Steps.refl _) (argsL := [(.int (p1 &&& (4095 : Int32))), (.ref b2), (.ref b7)]) (rest := []) (lenOf pd_3 rfl) rfl (by show 2 * 0 + _ ≤ _; exact Nat.le_of_eq rfl) (hb hby at_97) (fun _ _ => ⟨rfl, e61, (by decide : 23 + 2 ≤ _), (by decide : 28728 + 8192 ≤ _)⟩)
  dsimp only [Pt.U, Pt.locs, Pt.cells, Pt.slots] at X67 l67 y67 z67 st67 hQ67
  subst l67 y67 z67
  obtain ⟨rfl, Nq67, bS67, bC67, kS67, kC67, gS67, gC67, szS67, szC67, neSC67, K67, Ex67, Fn67, Fs67, Fc67, VS67, VC67, OvS67, OvC67⟩ := hQ67
  have N67 := Fr.app N64 Nq67
  have neNS67 : b33 ≠ bS67 := Nat.ne_of_lt (Nat.lt_of_lt_of_le V61.lt szS67)
  have neNC67 : b33 ≠ bC67 := Nat.ne_of_lt (Nat.lt_of_lt_of_le V61.lt szC67)
  have nexS67 : b25 ≠ bS67 := Nat.ne_of_lt (Nat.lt_of_lt_of_le f71.lt szS67)
  have nexC67 : b25 ≠ bC67 := Nat.ne_of_lt (Nat.lt_of_lt_of_le f71.lt szC67)
  have Z74 : n0 ≤ T67.heap.size := Nat.le_trans Z62 K67.1
  have O75 : Old Z n0 T67.heap := O63.keep K67 (allS g_b25 all0)
  have k76 : ∀ t, own_S p e below T67 (mkF m 100 #[.val (.int p1), .val (.int p2), .val (.int p3), .val (.int p4), .val (.int p5), .val (.int (p1 &&& (4095 : Int32))), .val (.int (p2 &&& (4095 : Int32))), .val (.int (p3 &&& (4095 : Int32))), .val (.ref b2), .val (.ref b7), .val (.ref b12), .val (.ref b18), .val (.ref b25), .unset, .unset] []) t → Gl t := fun t kt => k66 t (st67.trans kt)
  have k77 : ∀ t, own_S p e below T67 (mkF m 104 #[.val (.int p1), .val (.int p2), .val (.int p3), .val (.int p4), .val (.int p5), .val (.int (p1 &&& (4095 : Int32))), .val (.int (p2 &&& (4095 : Int32))), .val (.int (p3 &&& (4095 : Int32))), .val (.ref b2), .val (.ref b7), .val (.ref b12), .val (.ref b18), .val (.ref b25), .unset, .unset] [(.int (p1 &&& (4095 : Int32))), (.ref b25)]) t → Gl t := fun t kt => k76 t (by
    show own_S p e below T67 (mkF m 100 #[.val (.int p1), .val (.int p2), .val (.int p3), .val (.int p4), .val (.int p5), .val (.int (p1 &&& (4095 : Int32))), .val (.int (p2 &&& (4095 : Int32))), .val (.int (p3 &&& (4095 : Int32))), .val (.ref b2), .val (.ref b7), .val (.ref b12), .val (.ref b18), .val (.ref b25), .unset, .unset] []) _
    refine XS.aload X67.here hx rfl (hb hby at_100) rfl rfl ?_
    show own_S p e below T67 (mkF m 102 #[.val (.int p1), .val (.int p2), .val (.int p3), .val (.int p4), .val (.int p5), .val (.int (p1 &&& (4095 : Int32))), .val (.int (p2 &&& (4095 : Int32))), .val (.int (p3 &&& (4095 : Int32))), .val (.ref b2), .val (.ref b7), .val (.ref b12), .val (.ref b18), .val (.ref b25), .unset, .unset] [(.ref b25)]) _
    refine XS.iload X67.here hx rfl (hb hby at_102) rfl ?_
    exact kt)
  have f79 := (V61.keep K67 (ninS (Ne.symm ne33) nin0))
  obtain ⟨cq78, kq78, qa78, qb78, qc78⟩ := isOf hZ rfl Ex67
  obtain ⟨_, _, ⟨T78, L78, cc78, ss78⟩, -, X78, ⟨Lc78, hQ78, l78, y78, z78⟩, st78⟩ := X67.virtualBack hx (y := (⟨"com/example/pricecollar/pricecollar/tape/TradeTape$Columns", "conditions", "(I)Ljava/lang/String;"⟩ : MethodName)) (z := (⟨"com/example/pricecollar/pricecollar/tape/TradeTape$Columns", "conditions", "(I)Ljava/lang/String;"⟩ : MethodName)) hown (mvT hZ (hw _ (List.mem_of_getElem? (i := 80) rfl))) (mvT hZ (hw _ (List.mem_of_getElem? (i := 81) rfl))) (notFace_of_selects (args := #[]) (mvT hZ (hw _ (List.mem_of_getElem? (i := 83) rfl)))) (mvT hZ (hw _ (List.mem_of_getElem? (i := 83) rfl))) (mvT hZ (hw _ (List.mem_of_getElem? (i := 82) rfl))) (by decide) (backOf (W := 0) (rm11r l Z a0 hw [] b25 (p1 &&& (4095 : Int32)) b33 bC67 kk33 kC67 [((p3 &&& (4095 : Int32)), (.int (-1 : Int32))), ((p2 &&& (4095 : Int32)), (.int (-1 : Int32))), ((p1 &&& (4095 : Int32)), (.int (-1 : Int32)))] [((p1 &&& (4095 : Int32)), (.ref b7))] b7 T67.heap n0 Z74 Fn67 Fc67 f79 VC67 (own_4095 p1) (if hq : (p1 &&& (4095 : Int32)) = (p3 &&& (4095 : Int32)) then getH_hit (own_4095 p1).1 hq else getH_miss (own_4095 p1).1 hq (if hq : (p1 &&& (4095 : Int32)) = (p2 &&& (4095 : Int32)) then getH_hit (own_4095 p1).1 hq else getH_miss (own_4095 p1).1 hq (getH_hit (own_4095 p1).1 rfl))) (getH_hit (own_4095 p1).1 rfl)) hZ (hw _ (List.mem_of_getElem? (i := 84) rfl)) (hw _ (List.mem_of_getElem? (i := 36) rfl)) (by decide) (by decide)) qa78 qc78 (g := (mkF m 104 #[.val (.int p1), .val (.int p2), .val (.int p3), .val (.int p4), .val (.int p5), .val (.int (p1 &&& (4095 : Int32))), .val (.int (p2 &&& (4095 : Int32))), .val (.int (p3 &&& (4095 : Int32))), .val (.ref b2), .val (.ref b7), .val (.ref b12), .val (.ref b18), .val (.ref b25), .unset, .unset] [(.int (p1 &&& (4095 : Int32))), (.ref b25)])) rfl (by rw [hml]; rfl) (Steps.refl _) (argsL := [(.int (p1 &&& (4095 : Int32)))]) (rest := []) (lenOf pd_2 rfl) rfl (by show 2 * 0 + _ ≤ _; exact Nat.le_of_eq rfl) (hb hby at_104) (fun _ _ => ⟨rfl, rfl, (by decide : 25 + 0 ≤ _), (by decide : 36920 + 0 ≤ _)⟩)
  dsimp only [Pt.U, Pt.locs, Pt.cells, Pt.slots] at X78 l78 y78 z78 st78 hQ78
  subst l78 y78 z78
  obtain ⟨rfl, Nq78, eq78⟩ := hQ78
  have N78 := Fr.app N67 Nq78
  have k80 : ∀ t, own_S p e below T78 (mkF m 107 #[.val (.int p1), .val (.int p2), .val (.int p3), .val (.int p4), .val (.int p5), .val (.int (p1 &&& (4095 : Int32))), .val (.int (p2 &&& (4095 : Int32))), .val (.int (p3 &&& (4095 : Int32))), .val (.ref b2), .val (.ref b7), .val (.ref b12), .val (.ref b18), .val (.ref b25), .unset, .unset] [(.ref b7)]) t → Gl t := fun t kt => k77 t (st78.trans kt)
  have k81 : ∀ t, own_S p e below T78 (mkF m 112 #[.val (.int p1), .val (.int p2), .val (.int p3), .val (.int p4), .val (.int p5), .val (.int (p1 &&& (4095 : Int32))), .val (.int (p2 &&& (4095 : Int32))), .val (.int (p3 &&& (4095 : Int32))), .val (.ref b2), .val (.ref b7), .val (.ref b12), .val (.ref b18), .val (.ref b25), .unset, .unset] []) t → Gl t := fun t kt => k80 t (by
    show own_S p e below T78 (mkF m 107 #[.val (.int p1), .val (.int p2), .val (.int p3), .val (.int p4), .val (.int p5), .val (.int (p1 &&& (4095 : Int32))), .val (.int (p2 &&& (4095 : Int32))), .val (.int (p3 &&& (4095 : Int32))), .val (.ref b2), .val (.ref b7), .val (.ref b12), .val (.ref b18), .val (.ref b25), .unset, .unset] [(.ref b7)]) _
    refine XS.aload X78.here hx rfl (hb hby at_107) rfl rfl ?_
    show own_S p e below T78 (mkF m 109 #[.val (.int p1), .val (.int p2), .val (.int p3), .val (.int p4), .val (.int p5), .val (.int (p1 &&& (4095 : Int32))), .val (.int (p2 &&& (4095 : Int32))), .val (.int (p3 &&& (4095 : Int32))), .val (.ref b2), .val (.ref b7), .val (.ref b12), .val (.ref b18), .val (.ref b25), .unset, .unset] [(.ref b7), (.ref b7)]) _
    refine Jvm.RoadKit.acmp (g := (mkF m 109 #[.val (.int p1), .val (.int p2), .val (.int p3), .val (.int p4), .val (.int p5), .val (.int (p1 &&& (4095 : Int32))), .val (.int (p2 &&& (4095 : Int32))), .val (.int (p3 &&& (4095 : Int32))), .val (.ref b2), .val (.ref b7), .val (.ref b12), .val (.ref b18), .val (.ref b25), .unset, .unset] [(.ref b7), (.ref b7)])) X78 hx rfl rfl rfl (pc0 := 109) (pc' := 112) (same := true) rfl (hb hby at_109) rfl (decide_eq_true rfl) (by decide) (by decide) ?_
    exact kt)
  by_cases h31 : (p3 &&& (4095 : Int32)) = (p1 &&& (4095 : Int32))
  · have k82 : ∀ t, own_S p e below T78 (mkF m 116 #[.val (.int p1), .val (.int p2), .val (.int p3), .val (.int p4), .val (.int p5), .val (.int (p1 &&& (4095 : Int32))), .val (.int (p2 &&& (4095 : Int32))), .val (.int (p3 &&& (4095 : Int32))), .val (.ref b2), .val (.ref b7), .val (.ref b12), .val (.ref b18), .val (.ref b25), .unset, .unset] [(.int (p3 &&& (4095 : Int32))), (.ref b25)]) t → Gl t := fun t kt => k81 t (by
      show own_S p e below T78 (mkF m 112 #[.val (.int p1), .val (.int p2), .val (.int p3), .val (.int p4), .val (.int p5), .val (.int (p1 &&& (4095 : Int32))), .val (.int (p2 &&& (4095 : Int32))), .val (.int (p3 &&& (4095 : Int32))), .val (.ref b2), .val (.ref b7), .val (.ref b12), .val (.ref b18), .val (.ref b25), .unset, .unset] []) _
      refine XS.aload X78.here hx rfl (hb hby at_112) rfl rfl ?_
      show own_S p e below T78 (mkF m 114 #[.val (.int p1), .val (.int p2), .val (.int p3), .val (.int p4), .val (.int p5), .val (.int (p1 &&& (4095 : Int32))), .val (.int (p2 &&& (4095 : Int32))), .val (.int (p3 &&& (4095 : Int32))), .val (.ref b2), .val (.ref b7), .val (.ref b12), .val (.ref b18), .val (.ref b25), .unset, .unset] [(.ref b25)]) _
      refine XS.iload X78.here hx rfl (hb hby at_114) rfl ?_
      exact kt)
    obtain ⟨cq83, kq83, qa83, qb83, qc83⟩ := isOf hZ eq78 Ex67
    obtain ⟨_, _, ⟨T83, L83, cc83, ss83⟩, -, X83, ⟨Lc83, hQ83, l83, y83, z83⟩, st83⟩ := X78.virtualBack hx (y := (⟨"com/example/pricecollar/pricecollar/tape/TradeTape$Columns", "conditions", "(I)Ljava/lang/String;"⟩ : MethodName)) (z := (⟨"com/example/pricecollar/pricecollar/tape/TradeTape$Columns", "conditions", "(I)Ljava/lang/String;"⟩ : MethodName)) hown (mvT hZ (hw _ (List.mem_of_getElem? (i := 80) rfl))) (mvT hZ (hw _ (List.mem_of_getElem? (i := 81) rfl))) (notFace_of_selects (args := #[]) (mvT hZ (hw _ (List.mem_of_getElem? (i := 83) rfl)))) (mvT hZ (hw _ (List.mem_of_getElem? (i := 83) rfl))) (mvT hZ (hw _ (List.mem_of_getElem? (i := 82) rfl))) (by decide) (backOf (W := 0) (rm11r l Z a0 hw [] b25 (p3 &&& (4095 : Int32)) b33 bC67 kk33 kC67 [((p3 &&& (4095 : Int32)), (.int (-1 : Int32))), ((p2 &&& (4095 : Int32)), (.int (-1 : Int32))), ((p1 &&& (4095 : Int32)), (.int (-1 : Int32)))] [((p1 &&& (4095 : Int32)), (.ref b7))] b7 T67.heap n0 Z74 Fn67 Fc67 f79 VC67 (own_4095 p3) (getH_hit (own_4095 p3).1 rfl) (getH_hit (own_4095 p3).1 h31)) hZ (hw _ (List.mem_of_getElem? (i := 84) rfl)) (hw _ (List.mem_of_getElem? (i := 36) rfl)) (by decide) (by decide)) qa83 qc83 (g := (mkF m 116 #[.val (.int p1), .val (.int p2), .val (.int p3), .val (.int p4), .val (.int p5), .val (.int (p1 &&& (4095 : Int32))), .val (.int (p2 &&& (4095 : Int32))), .val (.int (p3 &&& (4095 : Int32))), .val (.ref b2), .val (.ref b7), .val (.ref b12), .val (.ref b18), .val (.ref b25), .unset, .unset] [(.int (p3 &&& (4095 : Int32))), (.ref b25)])) rfl (by rw [hml]; rfl) (Steps.refl _) (argsL := [(.int (p3 &&& (4095 : Int32)))]) (rest := []) (lenOf pd_2 rfl) rfl (by show 2 * 0 + _ ≤ _; exact Nat.le_of_eq rfl) (hb hby at_116) (fun _ _ => ⟨rfl, eq78, (by decide : 25 + 0 ≤ _), (by decide : 36920 + 0 ≤ _)⟩)
    dsimp only [Pt.U, Pt.locs, Pt.cells, Pt.slots] at X83 l83 y83 z83 st83 hQ83
    subst l83 y83 z83
    obtain ⟨rfl, Nq83, eq83⟩ := hQ83
    have N83 := Fr.app N78 Nq83
    have k84 : ∀ t, own_S p e below T83 (mkF m 119 #[.val (.int p1), .val (.int p2), .val (.int p3), .val (.int p4), .val (.int p5), .val (.int (p1 &&& (4095 : Int32))), .val (.int (p2 &&& (4095 : Int32))), .val (.int (p3 &&& (4095 : Int32))), .val (.ref b2), .val (.ref b7), .val (.ref b12), .val (.ref b18), .val (.ref b25), .unset, .unset] [(.ref b7)]) t → Gl t := fun t kt => k82 t (st83.trans kt)
    have k85 : ∀ t, own_S p e below T83 (mkF m 123 #[.val (.int p1), .val (.int p2), .val (.int p3), .val (.int p4), .val (.int p5), .val (.int (p1 &&& (4095 : Int32))), .val (.int (p2 &&& (4095 : Int32))), .val (.int (p3 &&& (4095 : Int32))), .val (.ref b2), .val (.ref b7), .val (.ref b12), .val (.ref b18), .val (.ref b25), .unset, .unset] [(.int (p1 &&& (4095 : Int32))), (.int (p3 &&& (4095 : Int32))), (.ref b7)]) t → Gl t := fun t kt => k84 t (by
      show own_S p e below T83 (mkF m 119 #[.val (.int p1), .val (.int p2), .val (.int p3), .val (.int p4), .val (.int p5), .val (.int (p1 &&& (4095 : Int32))), .val (.int (p2 &&& (4095 : Int32))), .val (.int (p3 &&& (4095 : Int32))), .val (.ref b2), .val (.ref b7), .val (.ref b12), .val (.ref b18), .val (.ref b25), .unset, .unset] [(.ref b7)]) _
      refine XS.iload X83.here hx rfl (hb hby at_119) rfl ?_
      show own_S p e below T83 (mkF m 121 #[.val (.int p1), .val (.int p2), .val (.int p3), .val (.int p4), .val (.int p5), .val (.int (p1 &&& (4095 : Int32))), .val (.int (p2 &&& (4095 : Int32))), .val (.int (p3 &&& (4095 : Int32))), .val (.ref b2), .val (.ref b7), .val (.ref b12), .val (.ref b18), .val (.ref b25), .unset, .unset] [(.int (p3 &&& (4095 : Int32))), (.ref b7)]) _
      refine XS.iload X83.here hx rfl (hb hby at_121) rfl ?_
      exact kt)
    have hc123_86 : (p3 &&& (4095 : Int32)) = (p1 &&& (4095 : Int32)) := h31
    have k87 : ∀ t, own_S p e below T83 (mkF m 150 #[.val (.int p1), .val (.int p2), .val (.int p3), .val (.int p4), .val (.int p5), .val (.int (p1 &&& (4095 : Int32))), .val (.int (p2 &&& (4095 : Int32))), .val (.int (p3 &&& (4095 : Int32))), .val (.ref b2), .val (.ref b7), .val (.ref b12), .val (.ref b18), .val (.ref b25), .val (.int (1 : Int32)), .unset] [(.ref b18), (.ref b12), (.int (p2 &&& (4095 : Int32))), (.ref b25)]) t → Gl t := fun t kt => k85 t (by
      show own_S p e below T83 (mkF m 123 #[.val (.int p1), .val (.int p2), .val (.int p3), .val (.int p4), .val (.int p5), .val (.int (p1 &&& (4095 : Int32))), .val (.int (p2 &&& (4095 : Int32))), .val (.int (p3 &&& (4095 : Int32))), .val (.ref b2), .val (.ref b7), .val (.ref b12), .val (.ref b18), .val (.ref b25), .unset, .unset] [(.int (p1 &&& (4095 : Int32))), (.int (p3 &&& (4095 : Int32))), (.ref b7)]) _
      refine XS.icmpNo X83.here hx rfl (hb hby at_123) rfl (teq hc123_86).2 ?_
      show own_S p e below T83 (mkF m 126 #[.val (.int p1), .val (.int p2), .val (.int p3), .val (.int p4), .val (.int p5), .val (.int (p1 &&& (4095 : Int32))), .val (.int (p2 &&& (4095 : Int32))), .val (.int (p3 &&& (4095 : Int32))), .val (.ref b2), .val (.ref b7), .val (.ref b12), .val (.ref b18), .val (.ref b25), .unset, .unset] [(.ref b7)]) _
      refine XS.aload X83.here hx rfl (hb hby at_126) rfl rfl ?_
      show own_S p e below T83 (mkF m 128 #[.val (.int p1), .val (.int p2), .val (.int p3), .val (.int p4), .val (.int p5), .val (.int (p1 &&& (4095 : Int32))), .val (.int (p2 &&& (4095 : Int32))), .val (.int (p3 &&& (4095 : Int32))), .val (.ref b2), .val (.ref b7), .val (.ref b12), .val (.ref b18), .val (.ref b25), .unset, .unset] [(.ref b7), (.ref b7)]) _
      refine XS.goto X83.here hx rfl (pc0 := 128) (pc' := 132) rfl (hb hby at_128) (by decide) (by decide) ?_
      show own_S p e below T83 (mkF m 132 #[.val (.int p1), .val (.int p2), .val (.int p3), .val (.int p4), .val (.int p5), .val (.int (p1 &&& (4095 : Int32))), .val (.int (p2 &&& (4095 : Int32))), .val (.int (p3 &&& (4095 : Int32))), .val (.ref b2), .val (.ref b7), .val (.ref b12), .val (.ref b18), .val (.ref b25), .unset, .unset] [(.ref b7), (.ref b7)]) _
      refine Jvm.RoadKit.acmp (g := (mkF m 132 #[.val (.int p1), .val (.int p2), .val (.int p3), .val (.int p4), .val (.int p5), .val (.int (p1 &&& (4095 : Int32))), .val (.int (p2 &&& (4095 : Int32))), .val (.int (p3 &&& (4095 : Int32))), .val (.ref b2), .val (.ref b7), .val (.ref b12), .val (.ref b18), .val (.ref b25), .unset, .unset] [(.ref b7), (.ref b7)])) X83 hx rfl rfl rfl (pc0 := 132) (pc' := 135) (same := true) rfl (hb hby at_132) rfl (decide_eq_true rfl) (by decide) (by decide) ?_
      show own_S p e below T83 (mkF m 135 #[.val (.int p1), .val (.int p2), .val (.int p3), .val (.int p4), .val (.int p5), .val (.int (p1 &&& (4095 : Int32))), .val (.int (p2 &&& (4095 : Int32))), .val (.int (p3 &&& (4095 : Int32))), .val (.ref b2), .val (.ref b7), .val (.ref b12), .val (.ref b18), .val (.ref b25), .unset, .unset] []) _
      refine XS.iconst X83.here hx rfl (hb hby at_135) ?_
      show own_S p e below T83 (mkF m 136 #[.val (.int p1), .val (.int p2), .val (.int p3), .val (.int p4), .val (.int p5), .val (.int (p1 &&& (4095 : Int32))), .val (.int (p2 &&& (4095 : Int32))), .val (.int (p3 &&& (4095 : Int32))), .val (.ref b2), .val (.ref b7), .val (.ref b12), .val (.ref b18), .val (.ref b25), .unset, .unset] [(.int (1 : Int32))]) _
      refine XS.goto X83.here hx rfl (pc0 := 136) (pc' := 140) rfl (hb hby at_136) (by decide) (by decide) ?_
      show own_S p e below T83 (mkF m 140 #[.val (.int p1), .val (.int p2), .val (.int p3), .val (.int p4), .val (.int p5), .val (.int (p1 &&& (4095 : Int32))), .val (.int (p2 &&& (4095 : Int32))), .val (.int (p3 &&& (4095 : Int32))), .val (.ref b2), .val (.ref b7), .val (.ref b12), .val (.ref b18), .val (.ref b25), .unset, .unset] [(.int (1 : Int32))]) _
      refine XS.istore X83.here hx rfl (hb hby at_140) rfl (l' := #[.val (.int p1), .val (.int p2), .val (.int p3), .val (.int p4), .val (.int p5), .val (.int (p1 &&& (4095 : Int32))), .val (.int (p2 &&& (4095 : Int32))), .val (.int (p3 &&& (4095 : Int32))), .val (.ref b2), .val (.ref b7), .val (.ref b12), .val (.ref b18), .val (.ref b25), .val (.int (1 : Int32)), .unset]) rfl ?_
      show own_S p e below T83 (mkF m 142 #[.val (.int p1), .val (.int p2), .val (.int p3), .val (.int p4), .val (.int p5), .val (.int (p1 &&& (4095 : Int32))), .val (.int (p2 &&& (4095 : Int32))), .val (.int (p3 &&& (4095 : Int32))), .val (.ref b2), .val (.ref b7), .val (.ref b12), .val (.ref b18), .val (.ref b25), .val (.int (1 : Int32)), .unset] []) _
      refine XS.aload X83.here hx rfl (hb hby at_142) rfl rfl ?_
      show own_S p e below T83 (mkF m 144 #[.val (.int p1), .val (.int p2), .val (.int p3), .val (.int p4), .val (.int p5), .val (.int (p1 &&& (4095 : Int32))), .val (.int (p2 &&& (4095 : Int32))), .val (.int (p3 &&& (4095 : Int32))), .val (.ref b2), .val (.ref b7), .val (.ref b12), .val (.ref b18), .val (.ref b25), .val (.int (1 : Int32)), .unset] [(.ref b25)]) _
      refine XS.iload X83.here hx rfl (hb hby at_144) rfl ?_
      show own_S p e below T83 (mkF m 146 #[.val (.int p1), .val (.int p2), .val (.int p3), .val (.int p4), .val (.int p5), .val (.int (p1 &&& (4095 : Int32))), .val (.int (p2 &&& (4095 : Int32))), .val (.int (p3 &&& (4095 : Int32))), .val (.ref b2), .val (.ref b7), .val (.ref b12), .val (.ref b18), .val (.ref b25), .val (.int (1 : Int32)), .unset] [(.int (p2 &&& (4095 : Int32))), (.ref b25)]) _
      refine XS.aload X83.here hx rfl (hb hby at_146) rfl rfl ?_
      show own_S p e below T83 (mkF m 148 #[.val (.int p1), .val (.int p2), .val (.int p3), .val (.int p4), .val (.int p5), .val (.int (p1 &&& (4095 : Int32))), .val (.int (p2 &&& (4095 : Int32))), .val (.int (p3 &&& (4095 : Int32))), .val (.ref b2), .val (.ref b7), .val (.ref b12), .val (.ref b18), .val (.ref b25), .val (.int (1 : Int32)), .unset] [(.ref b12), (.int (p2 &&& (4095 : Int32))), (.ref b25)]) _
      refine XS.aload X83.here hx rfl (hb hby at_148) rfl rfl ?_
      exact kt)
    have f89 := ((((((f28.ext E25).keep K33).wr W41).wr W51).wr W61).keep K67)
    have f90 := ((((((Ex18.ext E25).keep K33).wr W41).wr W51).wr W61).keep K67)
    obtain ⟨cq88, kq88, qa88, qb88, qc88⟩ := isOf hZ eq83 Ex67
    obtain ⟨_, _, ⟨T88, L88, cc88, ss88⟩, -, X88, ⟨Lc88, hQ88, l88, y88, z88⟩, st88⟩ := X83.virtualBack hx (y := (⟨"com/example/pricecollar/pricecollar/tape/TradeTape$Columns", "keepUnnumbered", "(ILjava/lang/String;Ljava/lang/String;)V"⟩ : MethodName)) (z := (⟨"com/example/pricecollar/pricecollar/tape/TradeTape$Columns", "keepUnnumbered", "(ILjava/lang/String;Ljava/lang/String;)V"⟩ : MethodName)) hown (mvT hZ (hw _ (List.mem_of_getElem? (i := 69) rfl))) (mvT hZ (hw _ (List.mem_of_getElem? (i := 70) rfl))) (notFace_of_selects (args := #[]) (mvT hZ (hw _ (List.mem_of_getElem? (i := 72) rfl)))) (mvT hZ (hw _ (List.mem_of_getElem? (i := 72) rfl))) (mvT hZ (hw _ (List.mem_of_getElem? (i := 71) rfl))) (by decide) (backOf (W := 0) (rm10b l Z a0 hw [] b25 (p2 &&& (4095 : Int32)) b12 b18 bS67 bC67 kS67 kC67 [((p1 &&& (4095 : Int32)), (.ref b2))] [((p1 &&& (4095 : Int32)), (.ref b7))] T67.heap n0 Z74 Fs67 Fc67 VS67 VC67 OvS67 OvC67 f89 f90 (own_4095 p2) gS67 gC67 neSC67 nexS67 nexC67) hZ (hw _ (List.mem_of_getElem? (i := 73) rfl)) (hw _ (List.mem_of_getElem? (i := 36) rfl)) (by decide) (by decide)) qa88 qc88 (g := (mkF m 150 #[.val (.int p1), .val (.int p2), .val (.int p3), .val (.int p4), .val (.int p5), .val (.int (p1 &&& (4095 : Int32))), .val (.int (p2 &&& (4095 : Int32))), .val (.int (p3 &&& (4095 : Int32))), .val (.ref b2), .val (.ref b7), .val (.ref b12), .val (.ref b18), .val (.ref b25), .val (.int (1 : Int32)), .unset] [(.ref b18), (.ref b12), (.int (p2 &&& (4095 : Int32))), (.ref b25)])) rfl (by rw [hml]; rfl) (Steps.refl _) (argsL := [(.int (p2 &&& (4095 : Int32))), (.ref b12), (.ref b18)]) (rest := []) (lenOf pd_3 rfl) rfl (by show 2 * 0 + _ ≤ _; exact Nat.le_of_eq rfl) (hb hby at_150) (fun _ _ => ⟨rfl, eq83, (by decide : 25 + 0 ≤ _), (by decide : 36920 + 0 ≤ _)⟩)
    dsimp only [Pt.U, Pt.locs, Pt.cells, Pt.slots] at X88 l88 y88 z88 st88 hQ88
    subst l88 y88 z88
    obtain ⟨rfl, Nq88, K88, VC88⟩ := hQ88
    have N88 := Fr.app N83 Nq88
    have Z91 : n0 ≤ T88.heap.size := Nat.le_trans Z74 K88.1
    have O92 : Old Z n0 T88.heap := O75.keep K88 (allS gS67 (allS gC67 all0))
    have k93 : ∀ t, own_S p e below T88 (mkF m 153 #[.val (.int p1), .val (.int p2), .val (.int p3), .val (.int p4), .val (.int p5), .val (.int (p1 &&& (4095 : Int32))), .val (.int (p2 &&& (4095 : Int32))), .val (.int (p3 &&& (4095 : Int32))), .val (.ref b2), .val (.ref b7), .val (.ref b12), .val (.ref b18), .val (.ref b25), .val (.int (1 : Int32)), .unset] []) t → Gl t := fun t kt => k87 t (st88.trans kt)
    have k94 : ∀ t, own_S p e below T88 (mkF m 157 #[.val (.int p1), .val (.int p2), .val (.int p3), .val (.int p4), .val (.int p5), .val (.int (p1 &&& (4095 : Int32))), .val (.int (p2 &&& (4095 : Int32))), .val (.int (p3 &&& (4095 : Int32))), .val (.ref b2), .val (.ref b7), .val (.ref b12), .val (.ref b18), .val (.ref b25), .val (.int (1 : Int32)), .unset] [(.int (p2 &&& (4095 : Int32))), (.ref b25)]) t → Gl t := fun t kt => k93 t (by
      show own_S p e below T88 (mkF m 153 #[.val (.int p1), .val (.int p2), .val (.int p3), .val (.int p4), .val (.int p5), .val (.int (p1 &&& (4095 : Int32))), .val (.int (p2 &&& (4095 : Int32))), .val (.int (p3 &&& (4095 : Int32))), .val (.ref b2), .val (.ref b7), .val (.ref b12), .val (.ref b18), .val (.ref b25), .val (.int (1 : Int32)), .unset] []) _
      refine XS.aload X88.here hx rfl (hb hby at_153) rfl rfl ?_
      show own_S p e below T88 (mkF m 155 #[.val (.int p1), .val (.int p2), .val (.int p3), .val (.int p4), .val (.int p5), .val (.int (p1 &&& (4095 : Int32))), .val (.int (p2 &&& (4095 : Int32))), .val (.int (p3 &&& (4095 : Int32))), .val (.ref b2), .val (.ref b7), .val (.ref b12), .val (.ref b18), .val (.ref b25), .val (.int (1 : Int32)), .unset] [(.ref b25)]) _
      refine XS.iload X88.here hx rfl (hb hby at_155) rfl ?_
      exact kt)
    have f96 := (Fn67.keep K88 (ninS nexS67 (ninS nexC67 nin0)))
    have f97 := (Fc67.keep K88 (ninS nexS67 (ninS nexC67 nin0)))
    have f98 := (f79.keep K88 (ninS neNS67 (ninS neNC67 nin0)))
    have f99 := (Ex67.keep K88)
    obtain ⟨cq95, kq95, qa95, qb95, qc95⟩ := isOf hZ rfl f99
    obtain ⟨_, _, ⟨T95, L95, cc95, ss95⟩, -, X95, ⟨Lc95, hQ95, l95, y95, z95⟩, st95⟩ := X88.virtualBack hx (y := (⟨"com/example/pricecollar/pricecollar/tape/TradeTape$Columns", "conditions", "(I)Ljava/lang/String;"⟩ : MethodName)) (z := (⟨"com/example/pricecollar/pricecollar/tape/TradeTape$Columns", "conditions", "(I)Ljava/lang/String;"⟩ : MethodName)) hown (mvT hZ (hw _ (List.mem_of_getElem? (i := 80) rfl))) (mvT hZ (hw _ (List.mem_of_getElem? (i := 81) rfl))) (notFace_of_selects (args := #[]) (mvT hZ (hw _ (List.mem_of_getElem? (i := 83) rfl)))) (mvT hZ (hw _ (List.mem_of_getElem? (i := 83) rfl))) (mvT hZ (hw _ (List.mem_of_getElem? (i := 82) rfl))) (by decide) (backOf (W := 0) (rm11r l Z a0 hw [] b25 (p2 &&& (4095 : Int32)) b33 bC67 kk33 kC67 [((p3 &&& (4095 : Int32)), (.int (-1 : Int32))), ((p2 &&& (4095 : Int32)), (.int (-1 : Int32))), ((p1 &&& (4095 : Int32)), (.int (-1 : Int32)))] [((p2 &&& (4095 : Int32)), (.ref b18)), ((p1 &&& (4095 : Int32)), (.ref b7))] b18 T88.heap n0 Z91 f96 f97 f98 VC88 (own_4095 p2) (if hq : (p2 &&& (4095 : Int32)) = (p3 &&& (4095 : Int32)) then getH_hit (own_4095 p2).1 hq else getH_miss (own_4095 p2).1 hq (getH_hit (own_4095 p2).1 rfl)) (getH_hit (own_4095 p2).1 rfl)) hZ (hw _ (List.mem_of_getElem? (i := 84) rfl)) (hw _ (List.mem_of_getElem? (i := 36) rfl)) (by decide) (by decide)) qa95 qc95 (g := (mkF m 157 #[.val (.int p1), .val (.int p2), .val (.int p3), .val (.int p4), .val (.int p5), .val (.int (p1 &&& (4095 : Int32))), .val (.int (p2 &&& (4095 : Int32))), .val (.int (p3 &&& (4095 : Int32))), .val (.ref b2), .val (.ref b7), .val (.ref b12), .val (.ref b18), .val (.ref b25), .val (.int (1 : Int32)), .unset] [(.int (p2 &&& (4095 : Int32))), (.ref b25)])) rfl (by rw [hml]; rfl) (Steps.refl _) (argsL := [(.int (p2 &&& (4095 : Int32)))]) (rest := []) (lenOf pd_2 rfl) rfl (by show 2 * 0 + _ ≤ _; exact Nat.le_of_eq rfl) (hb hby at_157) (fun _ _ => ⟨rfl, rfl, (by decide : 25 + 0 ≤ _), (by decide : 36920 + 0 ≤ _)⟩)
    dsimp only [Pt.U, Pt.locs, Pt.cells, Pt.slots] at X95 l95 y95 z95 st95 hQ95
    subst l95 y95 z95
    obtain ⟨rfl, Nq95, eq95⟩ := hQ95
    have N95 := Fr.app N88 Nq95
    have k100 : ∀ t, own_S p e below T95 (mkF m 160 #[.val (.int p1), .val (.int p2), .val (.int p3), .val (.int p4), .val (.int p5), .val (.int (p1 &&& (4095 : Int32))), .val (.int (p2 &&& (4095 : Int32))), .val (.int (p3 &&& (4095 : Int32))), .val (.ref b2), .val (.ref b7), .val (.ref b12), .val (.ref b18), .val (.ref b25), .val (.int (1 : Int32)), .unset] [(.ref b18)]) t → Gl t := fun t kt => k94 t (st95.trans kt)
    have k101 : ∀ t, own_S p e below T95 (mkF m 165 #[.val (.int p1), .val (.int p2), .val (.int p3), .val (.int p4), .val (.int p5), .val (.int (p1 &&& (4095 : Int32))), .val (.int (p2 &&& (4095 : Int32))), .val (.int (p3 &&& (4095 : Int32))), .val (.ref b2), .val (.ref b7), .val (.ref b12), .val (.ref b18), .val (.ref b25), .val (.int (1 : Int32)), .unset] []) t → Gl t := fun t kt => k100 t (by
      show own_S p e below T95 (mkF m 160 #[.val (.int p1), .val (.int p2), .val (.int p3), .val (.int p4), .val (.int p5), .val (.int (p1 &&& (4095 : Int32))), .val (.int (p2 &&& (4095 : Int32))), .val (.int (p3 &&& (4095 : Int32))), .val (.ref b2), .val (.ref b7), .val (.ref b12), .val (.ref b18), .val (.ref b25), .val (.int (1 : Int32)), .unset] [(.ref b18)]) _
      refine XS.aload X95.here hx rfl (hb hby at_160) rfl rfl ?_
      show own_S p e below T95 (mkF m 162 #[.val (.int p1), .val (.int p2), .val (.int p3), .val (.int p4), .val (.int p5), .val (.int (p1 &&& (4095 : Int32))), .val (.int (p2 &&& (4095 : Int32))), .val (.int (p3 &&& (4095 : Int32))), .val (.ref b2), .val (.ref b7), .val (.ref b12), .val (.ref b18), .val (.ref b25), .val (.int (1 : Int32)), .unset] [(.ref b18), (.ref b18)]) _
      refine Jvm.RoadKit.acmp (g := (mkF m 162 #[.val (.int p1), .val (.int p2), .val (.int p3), .val (.int p4), .val (.int p5), .val (.int (p1 &&& (4095 : Int32))), .val (.int (p2 &&& (4095 : Int32))), .val (.int (p3 &&& (4095 : Int32))), .val (.ref b2), .val (.ref b7), .val (.ref b12), .val (.ref b18), .val (.ref b25), .val (.int (1 : Int32)), .unset] [(.ref b18), (.ref b18)])) X95 hx rfl rfl rfl (pc0 := 162) (pc' := 165) (same := true) rfl (hb hby at_162) rfl (decide_eq_true rfl) (by decide) (by decide) ?_
      exact kt)
    by_cases h12 : (p1 &&& (4095 : Int32)) = (p2 &&& (4095 : Int32))
    · have k102 : ∀ t, own_S p e below T95 (mkF m 169 #[.val (.int p1), .val (.int p2), .val (.int p3), .val (.int p4), .val (.int p5), .val (.int (p1 &&& (4095 : Int32))), .val (.int (p2 &&& (4095 : Int32))), .val (.int (p3 &&& (4095 : Int32))), .val (.ref b2), .val (.ref b7), .val (.ref b12), .val (.ref b18), .val (.ref b25), .val (.int (1 : Int32)), .unset] [(.int (p1 &&& (4095 : Int32))), (.ref b25)]) t → Gl t := fun t kt => k101 t (by
        show own_S p e below T95 (mkF m 165 #[.val (.int p1), .val (.int p2), .val (.int p3), .val (.int p4), .val (.int p5), .val (.int (p1 &&& (4095 : Int32))), .val (.int (p2 &&& (4095 : Int32))), .val (.int (p3 &&& (4095 : Int32))), .val (.ref b2), .val (.ref b7), .val (.ref b12), .val (.ref b18), .val (.ref b25), .val (.int (1 : Int32)), .unset] []) _
        refine XS.aload X95.here hx rfl (hb hby at_165) rfl rfl ?_
        show own_S p e below T95 (mkF m 167 #[.val (.int p1), .val (.int p2), .val (.int p3), .val (.int p4), .val (.int p5), .val (.int (p1 &&& (4095 : Int32))), .val (.int (p2 &&& (4095 : Int32))), .val (.int (p3 &&& (4095 : Int32))), .val (.ref b2), .val (.ref b7), .val (.ref b12), .val (.ref b18), .val (.ref b25), .val (.int (1 : Int32)), .unset] [(.ref b25)]) _
        refine XS.iload X95.here hx rfl (hb hby at_167) rfl ?_
        exact kt)
      obtain ⟨cq103, kq103, qa103, qb103, qc103⟩ := isOf hZ eq95 f99
      obtain ⟨_, _, ⟨T103, L103, cc103, ss103⟩, -, X103, ⟨Lc103, hQ103, l103, y103, z103⟩, st103⟩ := X95.virtualBack hx (y := (⟨"com/example/pricecollar/pricecollar/tape/TradeTape$Columns", "conditions", "(I)Ljava/lang/String;"⟩ : MethodName)) (z := (⟨"com/example/pricecollar/pricecollar/tape/TradeTape$Columns", "conditions", "(I)Ljava/lang/String;"⟩ : MethodName)) hown (mvT hZ (hw _ (List.mem_of_getElem? (i := 80) rfl))) (mvT hZ (hw _ (List.mem_of_getElem? (i := 81) rfl))) (notFace_of_selects (args := #[]) (mvT hZ (hw _ (List.mem_of_getElem? (i := 83) rfl)))) (mvT hZ (hw _ (List.mem_of_getElem? (i := 83) rfl))) (mvT hZ (hw _ (List.mem_of_getElem? (i := 82) rfl))) (by decide) (backOf (W := 0) (rm11r l Z a0 hw [] b25 (p1 &&& (4095 : Int32)) b33 bC67 kk33 kC67 [((p3 &&& (4095 : Int32)), (.int (-1 : Int32))), ((p2 &&& (4095 : Int32)), (.int (-1 : Int32))), ((p1 &&& (4095 : Int32)), (.int (-1 : Int32)))] [((p2 &&& (4095 : Int32)), (.ref b18)), ((p1 &&& (4095 : Int32)), (.ref b7))] b18 T88.heap n0 Z91 f96 f97 f98 VC88 (own_4095 p1) (if hq : (p1 &&& (4095 : Int32)) = (p3 &&& (4095 : Int32)) then getH_hit (own_4095 p1).1 hq else getH_miss (own_4095 p1).1 hq (if hq : (p1 &&& (4095 : Int32)) = (p2 &&& (4095 : Int32)) then getH_hit (own_4095 p1).1 hq else getH_miss (own_4095 p1).1 hq (getH_hit (own_4095 p1).1 rfl))) (getH_hit (own_4095 p1).1 h12)) hZ (hw _ (List.mem_of_getElem? (i := 84) rfl)) (hw _ (List.mem_of_getElem? (i := 36) rfl)) (by decide) (by decide)) qa103 qc103 (g := (mkF m 169 #[.val (.int p1), .val (.int p2), .val (.int p3), .val (.int p4), .val (.int p5), .val (.int (p1 &&& (4095 : Int32))), .val (.int (p2 &&& (4095 : Int32))), .val (.int (p3 &&& (4095 : Int32))), .val (.ref b2), .val (.ref b7), .val (.ref b12), .val (.ref b18), .val (.ref b25), .val (.int (1 : Int32)), .unset] [(.int (p1 &&& (4095 : Int32))), (.ref b25)])) rfl (by rw [hml]; rfl) (Steps.refl _) (argsL := [(.int (p1 &&& (4095 : Int32)))]) (rest := []) (lenOf pd_2 rfl) rfl (by show 2 * 0 + _ ≤ _; exact Nat.le_of_eq rfl) (hb hby at_169) (fun _ _ => ⟨rfl, eq95, (by decide : 25 + 0 ≤ _), (by decide : 36920 + 0 ≤ _)⟩)
      dsimp only [Pt.U, Pt.locs, Pt.cells, Pt.slots] at X103 l103 y103 z103 st103 hQ103
      subst l103 y103 z103
      obtain ⟨rfl, Nq103, eq103⟩ := hQ103
      have N103 := Fr.app N95 Nq103
      have k104 : ∀ t, own_S p e below T103 (mkF m 172 #[.val (.int p1), .val (.int p2), .val (.int p3), .val (.int p4), .val (.int p5), .val (.int (p1 &&& (4095 : Int32))), .val (.int (p2 &&& (4095 : Int32))), .val (.int (p3 &&& (4095 : Int32))), .val (.ref b2), .val (.ref b7), .val (.ref b12), .val (.ref b18), .val (.ref b25), .val (.int (1 : Int32)), .unset] [(.ref b18)]) t → Gl t := fun t kt => k102 t (st103.trans kt)
      have k105 : ∀ t, own_S p e below T103 (mkF m 182 #[.val (.int p1), .val (.int p2), .val (.int p3), .val (.int p4), .val (.int p5), .val (.int (p1 &&& (4095 : Int32))), .val (.int (p2 &&& (4095 : Int32))), .val (.int (p3 &&& (4095 : Int32))), .val (.ref b2), .val (.ref b7), .val (.ref b12), .val (.ref b18), .val (.ref b25), .val (.int (1 : Int32)), .unset] [(.ref b18), (.int (p2 &&& (4095 : Int32))), (.ref b7), (.int (p1 &&& (4095 : Int32))), (.int (p1 &&& (4095 : Int32))), (.ref b18)]) t → Gl t := fun t kt => k104 t (by
        show own_S p e below T103 (mkF m 172 #[.val (.int p1), .val (.int p2), .val (.int p3), .val (.int p4), .val (.int p5), .val (.int (p1 &&& (4095 : Int32))), .val (.int (p2 &&& (4095 : Int32))), .val (.int (p3 &&& (4095 : Int32))), .val (.ref b2), .val (.ref b7), .val (.ref b12), .val (.ref b18), .val (.ref b25), .val (.int (1 : Int32)), .unset] [(.ref b18)]) _
        refine XS.iload X103.here hx rfl (hb hby at_172) rfl ?_
        show own_S p e below T103 (mkF m 174 #[.val (.int p1), .val (.int p2), .val (.int p3), .val (.int p4), .val (.int p5), .val (.int (p1 &&& (4095 : Int32))), .val (.int (p2 &&& (4095 : Int32))), .val (.int (p3 &&& (4095 : Int32))), .val (.ref b2), .val (.ref b7), .val (.ref b12), .val (.ref b18), .val (.ref b25), .val (.int (1 : Int32)), .unset] [(.int (p1 &&& (4095 : Int32))), (.ref b18)]) _
        refine XS.iload X103.here hx rfl (hb hby at_174) rfl ?_
        show own_S p e below T103 (mkF m 176 #[.val (.int p1), .val (.int p2), .val (.int p3), .val (.int p4), .val (.int p5), .val (.int (p1 &&& (4095 : Int32))), .val (.int (p2 &&& (4095 : Int32))), .val (.int (p3 &&& (4095 : Int32))), .val (.ref b2), .val (.ref b7), .val (.ref b12), .val (.ref b18), .val (.ref b25), .val (.int (1 : Int32)), .unset] [(.int (p1 &&& (4095 : Int32))), (.int (p1 &&& (4095 : Int32))), (.ref b18)]) _
        refine XS.aload X103.here hx rfl (hb hby at_176) rfl rfl ?_
        show own_S p e below T103 (mkF m 178 #[.val (.int p1), .val (.int p2), .val (.int p3), .val (.int p4), .val (.int p5), .val (.int (p1 &&& (4095 : Int32))), .val (.int (p2 &&& (4095 : Int32))), .val (.int (p3 &&& (4095 : Int32))), .val (.ref b2), .val (.ref b7), .val (.ref b12), .val (.ref b18), .val (.ref b25), .val (.int (1 : Int32)), .unset] [(.ref b7), (.int (p1 &&& (4095 : Int32))), (.int (p1 &&& (4095 : Int32))), (.ref b18)]) _
        refine XS.iload X103.here hx rfl (hb hby at_178) rfl ?_
        show own_S p e below T103 (mkF m 180 #[.val (.int p1), .val (.int p2), .val (.int p3), .val (.int p4), .val (.int p5), .val (.int (p1 &&& (4095 : Int32))), .val (.int (p2 &&& (4095 : Int32))), .val (.int (p3 &&& (4095 : Int32))), .val (.ref b2), .val (.ref b7), .val (.ref b12), .val (.ref b18), .val (.ref b25), .val (.int (1 : Int32)), .unset] [(.int (p2 &&& (4095 : Int32))), (.ref b7), (.int (p1 &&& (4095 : Int32))), (.int (p1 &&& (4095 : Int32))), (.ref b18)]) _
        refine XS.aload X103.here hx rfl (hb hby at_180) rfl rfl ?_
        exact kt)
      obtain ⟨_, _, ⟨T106, L106, cc106, ss106⟩, -, X106, ⟨Lc106, hQ106, l106, y106, z106⟩, st106⟩ := Jvm.LawKit.callS X103 hx (y := (⟨"com/example/pricecollar/pricecollar/tape/ColumnsKeepUnnumberedPinLaw", "expected", "(IILjava/lang/String;ILjava/lang/String;)Ljava/lang/String;"⟩ : MethodName)) hown (mvT hZ (hw _ (List.mem_of_getElem? (i := 85) rfl))) (mvT hZ (hw _ (List.mem_of_getElem? (i := 86) rfl))) (mvT hZ (hw _ (List.mem_of_getElem? (i := 2) rfl))) (mvT hZ (hw _ (List.mem_of_getElem? (i := 87) rfl))) (by decide) (backOf (W := 1) (rm12a l Z a0 hw [] (p1 &&& (4095 : Int32)) (p1 &&& (4095 : Int32)) b7 (p2 &&& (4095 : Int32)) b18  T88.heap n0 Z91 h12) hZ (hw _ (List.mem_of_getElem? (i := 87) rfl)) (hw _ (List.mem_of_getElem? (i := 2) rfl)) (by decide) (by decide)) (g := (mkF m 182 #[.val (.int p1), .val (.int p2), .val (.int p3), .val (.int p4), .val (.int p5), .val (.int (p1 &&& (4095 : Int32))), .val (.int (p2 &&& (4095 : Int32))), .val (.int (p3 &&& (4095 : Int32))), .val (.ref b2), .val (.ref b7), .val (.ref b12), .val (.ref b18), .val (.ref b25), .val (.int (1 : Int32)), .unset] [(.ref b18), (.int (p2 &&& (4095 : Int32))), (.ref b7), (.int (p1 &&& (4095 : Int32))), (.int (p1 &&& (4095 : Int32))), (.ref b18)])) rfl (by rw [hml]; rfl) (argsL := [(.int (p1 &&& (4095 : Int32))), (.int (p1 &&& (4095 : Int32))), (.ref b7), (.int (p2 &&& (4095 : Int32))), (.ref b18)]) (rest := [(.ref b18)]) (lenOf pd_4 rfl) rfl (by show 2 * 0 + _ ≤ _; exact Nat.le_of_eq rfl) (hb hby at_182) (fun _ _ => ⟨rfl, eq103, (by decide : 25 + 0 ≤ _), (by decide : 36920 + 0 ≤ _)⟩)
      dsimp only [Pt.U, Pt.locs, Pt.cells, Pt.slots] at X106 l106 y106 z106 st106 hQ106
      subst l106 y106 z106
      obtain ⟨rfl, Nq106, eq106⟩ := hQ106
      have N106 := Fr.app N103 Nq106
      have k107 : ∀ t, own_S p e below T106 (mkF m 185 #[.val (.int p1), .val (.int p2), .val (.int p3), .val (.int p4), .val (.int p5), .val (.int (p1 &&& (4095 : Int32))), .val (.int (p2 &&& (4095 : Int32))), .val (.int (p3 &&& (4095 : Int32))), .val (.ref b2), .val (.ref b7), .val (.ref b12), .val (.ref b18), .val (.ref b25), .val (.int (1 : Int32)), .unset] [(.ref b18), (.ref b18)]) t → Gl t := fun t kt => k105 t (st106 _ kt)
      have k108 : ∀ t, own_S p e below T106 (mkF m 188 #[.val (.int p1), .val (.int p2), .val (.int p3), .val (.int p4), .val (.int p5), .val (.int (p1 &&& (4095 : Int32))), .val (.int (p2 &&& (4095 : Int32))), .val (.int (p3 &&& (4095 : Int32))), .val (.ref b2), .val (.ref b7), .val (.ref b12), .val (.ref b18), .val (.ref b25), .val (.int (1 : Int32)), .unset] []) t → Gl t := fun t kt => k107 t (by
        show own_S p e below T106 (mkF m 185 #[.val (.int p1), .val (.int p2), .val (.int p3), .val (.int p4), .val (.int p5), .val (.int (p1 &&& (4095 : Int32))), .val (.int (p2 &&& (4095 : Int32))), .val (.int (p3 &&& (4095 : Int32))), .val (.ref b2), .val (.ref b7), .val (.ref b12), .val (.ref b18), .val (.ref b25), .val (.int (1 : Int32)), .unset] [(.ref b18), (.ref b18)]) _
        refine Jvm.RoadKit.acmp (g := (mkF m 185 #[.val (.int p1), .val (.int p2), .val (.int p3), .val (.int p4), .val (.int p5), .val (.int (p1 &&& (4095 : Int32))), .val (.int (p2 &&& (4095 : Int32))), .val (.int (p3 &&& (4095 : Int32))), .val (.ref b2), .val (.ref b7), .val (.ref b12), .val (.ref b18), .val (.ref b25), .val (.int (1 : Int32)), .unset] [(.ref b18), (.ref b18)])) X106 hx rfl rfl rfl (pc0 := 185) (pc' := 188) (same := true) rfl (hb hby at_185) rfl (decide_eq_true rfl) (by decide) (by decide) ?_
        exact kt)
      by_cases h32 : (p3 &&& (4095 : Int32)) = (p2 &&& (4095 : Int32))
      · have k109 : ∀ t, own_S p e below T106 (mkF m 192 #[.val (.int p1), .val (.int p2), .val (.int p3), .val (.int p4), .val (.int p5), .val (.int (p1 &&& (4095 : Int32))), .val (.int (p2 &&& (4095 : Int32))), .val (.int (p3 &&& (4095 : Int32))), .val (.ref b2), .val (.ref b7), .val (.ref b12), .val (.ref b18), .val (.ref b25), .val (.int (1 : Int32)), .unset] [(.int (p3 &&& (4095 : Int32))), (.ref b25)]) t → Gl t := fun t kt => k108 t (by
          show own_S p e below T106 (mkF m 188 #[.val (.int p1), .val (.int p2), .val (.int p3), .val (.int p4), .val (.int p5), .val (.int (p1 &&& (4095 : Int32))), .val (.int (p2 &&& (4095 : Int32))), .val (.int (p3 &&& (4095 : Int32))), .val (.ref b2), .val (.ref b7), .val (.ref b12), .val (.ref b18), .val (.ref b25), .val (.int (1 : Int32)), .unset] []) _
          refine XS.aload X106.here hx rfl (hb hby at_188) rfl rfl ?_
          show own_S p e below T106 (mkF m 190 #[.val (.int p1), .val (.int p2), .val (.int p3), .val (.int p4), .val (.int p5), .val (.int (p1 &&& (4095 : Int32))), .val (.int (p2 &&& (4095 : Int32))), .val (.int (p3 &&& (4095 : Int32))), .val (.ref b2), .val (.ref b7), .val (.ref b12), .val (.ref b18), .val (.ref b25), .val (.int (1 : Int32)), .unset] [(.ref b25)]) _
          refine XS.iload X106.here hx rfl (hb hby at_190) rfl ?_
          exact kt)
        obtain ⟨cq110, kq110, qa110, qb110, qc110⟩ := isOf hZ eq106 f99
        obtain ⟨_, _, ⟨T110, L110, cc110, ss110⟩, -, X110, ⟨Lc110, hQ110, l110, y110, z110⟩, st110⟩ := X106.virtualBack hx (y := (⟨"com/example/pricecollar/pricecollar/tape/TradeTape$Columns", "conditions", "(I)Ljava/lang/String;"⟩ : MethodName)) (z := (⟨"com/example/pricecollar/pricecollar/tape/TradeTape$Columns", "conditions", "(I)Ljava/lang/String;"⟩ : MethodName)) hown (mvT hZ (hw _ (List.mem_of_getElem? (i := 80) rfl))) (mvT hZ (hw _ (List.mem_of_getElem? (i := 81) rfl))) (notFace_of_selects (args := #[]) (mvT hZ (hw _ (List.mem_of_getElem? (i := 83) rfl)))) (mvT hZ (hw _ (List.mem_of_getElem? (i := 83) rfl))) (mvT hZ (hw _ (List.mem_of_getElem? (i := 82) rfl))) (by decide) (backOf (W := 0) (rm11r l Z a0 hw [] b25 (p3 &&& (4095 : Int32)) b33 bC67 kk33 kC67 [((p3 &&& (4095 : Int32)), (.int (-1 : Int32))), ((p2 &&& (4095 : Int32)), (.int (-1 : Int32))), ((p1 &&& (4095 : Int32)), (.int (-1 : Int32)))] [((p2 &&& (4095 : Int32)), (.ref b18)), ((p1 &&& (4095 : Int32)), (.ref b7))] b18 T88.heap n0 Z91 f96 f97 f98 VC88 (own_4095 p3) (getH_hit (own_4095 p3).1 rfl) (getH_hit (own_4095 p3).1 h32)) hZ (hw _ (List.mem_of_getElem? (i := 84) rfl)) (hw _ (List.mem_of_getElem? (i := 36) rfl)) (by decide) (by decide)) qa110 qc110 (g := (mkF m 192 #[.val (.int p1), .val (.int p2), .val (.int p3), .val (.int p4), .val (.int p5), .val (.int (p1 &&& (4095 : Int32))), .val (.int (p2 &&& (4095 : Int32))), .val (.int (p3 &&& (4095 : Int32))), .val (.ref b2), .val (.ref b7), .val (.ref b12), .val (.ref b18), .val (.ref b25), .val (.int (1 : Int32)), .unset] [(.int (p3 &&& (4095 : Int32))), (.ref b25)])) rfl (by rw [hml]; rfl) (Steps.refl _) (argsL := [(.int (p3 &&& (4095 : Int32)))]) (rest := []) (lenOf pd_2 rfl) rfl (by show 2 * 0 + _ ≤ _; exact Nat.le_of_eq rfl) (hb hby at_192) (fun _ _ => ⟨rfl, eq106, (by decide : 25 + 0 ≤ _), (by decide : 36920 + 0 ≤ _)⟩)
        dsimp only [Pt.U, Pt.locs, Pt.cells, Pt.slots] at X110 l110 y110 z110 st110 hQ110
        subst l110 y110 z110
        obtain ⟨rfl, Nq110, eq110⟩ := hQ110
        have N110 := Fr.app N106 Nq110
        have k111 : ∀ t, own_S p e below T110 (mkF m 195 #[.val (.int p1), .val (.int p2), .val (.int p3), .val (.int p4), .val (.int p5), .val (.int (p1 &&& (4095 : Int32))), .val (.int (p2 &&& (4095 : Int32))), .val (.int (p3 &&& (4095 : Int32))), .val (.ref b2), .val (.ref b7), .val (.ref b12), .val (.ref b18), .val (.ref b25), .val (.int (1 : Int32)), .unset] [(.ref b18)]) t → Gl t := fun t kt => k109 t (st110.trans kt)
        have k112 : ∀ t, own_S p e below T110 (mkF m 205 #[.val (.int p1), .val (.int p2), .val (.int p3), .val (.int p4), .val (.int p5), .val (.int (p1 &&& (4095 : Int32))), .val (.int (p2 &&& (4095 : Int32))), .val (.int (p3 &&& (4095 : Int32))), .val (.ref b2), .val (.ref b7), .val (.ref b12), .val (.ref b18), .val (.ref b25), .val (.int (1 : Int32)), .unset] [(.ref b18), (.int (p2 &&& (4095 : Int32))), (.ref b7), (.int (p1 &&& (4095 : Int32))), (.int (p3 &&& (4095 : Int32))), (.ref b18)]) t → Gl t := fun t kt => k111 t (by
          show own_S p e below T110 (mkF m 195 #[.val (.int p1), .val (.int p2), .val (.int p3), .val (.int p4), .val (.int p5), .val (.int (p1 &&& (4095 : Int32))), .val (.int (p2 &&& (4095 : Int32))), .val (.int (p3 &&& (4095 : Int32))), .val (.ref b2), .val (.ref b7), .val (.ref b12), .val (.ref b18), .val (.ref b25), .val (.int (1 : Int32)), .unset] [(.ref b18)]) _
          refine XS.iload X110.here hx rfl (hb hby at_195) rfl ?_
          show own_S p e below T110 (mkF m 197 #[.val (.int p1), .val (.int p2), .val (.int p3), .val (.int p4), .val (.int p5), .val (.int (p1 &&& (4095 : Int32))), .val (.int (p2 &&& (4095 : Int32))), .val (.int (p3 &&& (4095 : Int32))), .val (.ref b2), .val (.ref b7), .val (.ref b12), .val (.ref b18), .val (.ref b25), .val (.int (1 : Int32)), .unset] [(.int (p3 &&& (4095 : Int32))), (.ref b18)]) _
          refine XS.iload X110.here hx rfl (hb hby at_197) rfl ?_
          show own_S p e below T110 (mkF m 199 #[.val (.int p1), .val (.int p2), .val (.int p3), .val (.int p4), .val (.int p5), .val (.int (p1 &&& (4095 : Int32))), .val (.int (p2 &&& (4095 : Int32))), .val (.int (p3 &&& (4095 : Int32))), .val (.ref b2), .val (.ref b7), .val (.ref b12), .val (.ref b18), .val (.ref b25), .val (.int (1 : Int32)), .unset] [(.int (p1 &&& (4095 : Int32))), (.int (p3 &&& (4095 : Int32))), (.ref b18)]) _
          refine XS.aload X110.here hx rfl (hb hby at_199) rfl rfl ?_
          show own_S p e below T110 (mkF m 201 #[.val (.int p1), .val (.int p2), .val (.int p3), .val (.int p4), .val (.int p5), .val (.int (p1 &&& (4095 : Int32))), .val (.int (p2 &&& (4095 : Int32))), .val (.int (p3 &&& (4095 : Int32))), .val (.ref b2), .val (.ref b7), .val (.ref b12), .val (.ref b18), .val (.ref b25), .val (.int (1 : Int32)), .unset] [(.ref b7), (.int (p1 &&& (4095 : Int32))), (.int (p3 &&& (4095 : Int32))), (.ref b18)]) _
          refine XS.iload X110.here hx rfl (hb hby at_201) rfl ?_
          show own_S p e below T110 (mkF m 203 #[.val (.int p1), .val (.int p2), .val (.int p3), .val (.int p4), .val (.int p5), .val (.int (p1 &&& (4095 : Int32))), .val (.int (p2 &&& (4095 : Int32))), .val (.int (p3 &&& (4095 : Int32))), .val (.ref b2), .val (.ref b7), .val (.ref b12), .val (.ref b18), .val (.ref b25), .val (.int (1 : Int32)), .unset] [(.int (p2 &&& (4095 : Int32))), (.ref b7), (.int (p1 &&& (4095 : Int32))), (.int (p3 &&& (4095 : Int32))), (.ref b18)]) _
          refine XS.aload X110.here hx rfl (hb hby at_203) rfl rfl ?_
          exact kt)
        obtain ⟨_, _, ⟨T113, L113, cc113, ss113⟩, -, X113, ⟨Lc113, hQ113, l113, y113, z113⟩, st113⟩ := Jvm.LawKit.callS X110 hx (y := (⟨"com/example/pricecollar/pricecollar/tape/ColumnsKeepUnnumberedPinLaw", "expected", "(IILjava/lang/String;ILjava/lang/String;)Ljava/lang/String;"⟩ : MethodName)) hown (mvT hZ (hw _ (List.mem_of_getElem? (i := 85) rfl))) (mvT hZ (hw _ (List.mem_of_getElem? (i := 86) rfl))) (mvT hZ (hw _ (List.mem_of_getElem? (i := 2) rfl))) (mvT hZ (hw _ (List.mem_of_getElem? (i := 87) rfl))) (by decide) (backOf (W := 1) (rm12a l Z a0 hw [] (p3 &&& (4095 : Int32)) (p1 &&& (4095 : Int32)) b7 (p2 &&& (4095 : Int32)) b18  T88.heap n0 Z91 h32) hZ (hw _ (List.mem_of_getElem? (i := 87) rfl)) (hw _ (List.mem_of_getElem? (i := 2) rfl)) (by decide) (by decide)) (g := (mkF m 205 #[.val (.int p1), .val (.int p2), .val (.int p3), .val (.int p4), .val (.int p5), .val (.int (p1 &&& (4095 : Int32))), .val (.int (p2 &&& (4095 : Int32))), .val (.int (p3 &&& (4095 : Int32))), .val (.ref b2), .val (.ref b7), .val (.ref b12), .val (.ref b18), .val (.ref b25), .val (.int (1 : Int32)), .unset] [(.ref b18), (.int (p2 &&& (4095 : Int32))), (.ref b7), (.int (p1 &&& (4095 : Int32))), (.int (p3 &&& (4095 : Int32))), (.ref b18)])) rfl (by rw [hml]; rfl) (argsL := [(.int (p3 &&& (4095 : Int32))), (.int (p1 &&& (4095 : Int32))), (.ref b7), (.int (p2 &&& (4095 : Int32))), (.ref b18)]) (rest := [(.ref b18)]) (lenOf pd_4 rfl) rfl (by show 2 * 0 + _ ≤ _; exact Nat.le_of_eq rfl) (hb hby at_205) (fun _ _ => ⟨rfl, eq110, (by decide : 25 + 0 ≤ _), (by decide : 36920 + 0 ≤ _)⟩)
        dsimp only [Pt.U, Pt.locs, Pt.cells, Pt.slots] at X113 l113 y113 z113 st113 hQ113
        subst l113 y113 z113
        obtain ⟨rfl, Nq113, eq113⟩ := hQ113
        have N113 := Fr.app N110 Nq113
        have k114 : ∀ t, own_S p e below T113 (mkF m 208 #[.val (.int p1), .val (.int p2), .val (.int p3), .val (.int p4), .val (.int p5), .val (.int (p1 &&& (4095 : Int32))), .val (.int (p2 &&& (4095 : Int32))), .val (.int (p3 &&& (4095 : Int32))), .val (.ref b2), .val (.ref b7), .val (.ref b12), .val (.ref b18), .val (.ref b25), .val (.int (1 : Int32)), .unset] [(.ref b18), (.ref b18)]) t → Gl t := fun t kt => k112 t (st113 _ kt)
        have k115 : ∀ t, own_S p e below T113 (mkF m 233 #[.val (.int p1), .val (.int p2), .val (.int p3), .val (.int p4), .val (.int p5), .val (.int (p1 &&& (4095 : Int32))), .val (.int (p2 &&& (4095 : Int32))), .val (.int (p3 &&& (4095 : Int32))), .val (.ref b2), .val (.ref b7), .val (.ref b12), .val (.ref b18), .val (.ref b25), .val (.int (1 : Int32)), .val (.int (1 : Int32))] [(.int (1 : Int32))]) t → Gl t := fun t kt => k114 t (by
          show own_S p e below T113 (mkF m 208 #[.val (.int p1), .val (.int p2), .val (.int p3), .val (.int p4), .val (.int p5), .val (.int (p1 &&& (4095 : Int32))), .val (.int (p2 &&& (4095 : Int32))), .val (.int (p3 &&& (4095 : Int32))), .val (.ref b2), .val (.ref b7), .val (.ref b12), .val (.ref b18), .val (.ref b25), .val (.int (1 : Int32)), .unset] [(.ref b18), (.ref b18)]) _
          refine Jvm.RoadKit.acmp (g := (mkF m 208 #[.val (.int p1), .val (.int p2), .val (.int p3), .val (.int p4), .val (.int p5), .val (.int (p1 &&& (4095 : Int32))), .val (.int (p2 &&& (4095 : Int32))), .val (.int (p3 &&& (4095 : Int32))), .val (.ref b2), .val (.ref b7), .val (.ref b12), .val (.ref b18), .val (.ref b25), .val (.int (1 : Int32)), .unset] [(.ref b18), (.ref b18)])) X113 hx rfl rfl rfl (pc0 := 208) (pc' := 211) (same := true) rfl (hb hby at_208) rfl (decide_eq_true rfl) (by decide) (by decide) ?_
          show own_S p e below T113 (mkF m 211 #[.val (.int p1), .val (.int p2), .val (.int p3), .val (.int p4), .val (.int p5), .val (.int (p1 &&& (4095 : Int32))), .val (.int (p2 &&& (4095 : Int32))), .val (.int (p3 &&& (4095 : Int32))), .val (.ref b2), .val (.ref b7), .val (.ref b12), .val (.ref b18), .val (.ref b25), .val (.int (1 : Int32)), .unset] []) _
          refine XS.iconst X113.here hx rfl (hb hby at_211) ?_
          show own_S p e below T113 (mkF m 212 #[.val (.int p1), .val (.int p2), .val (.int p3), .val (.int p4), .val (.int p5), .val (.int (p1 &&& (4095 : Int32))), .val (.int (p2 &&& (4095 : Int32))), .val (.int (p3 &&& (4095 : Int32))), .val (.ref b2), .val (.ref b7), .val (.ref b12), .val (.ref b18), .val (.ref b25), .val (.int (1 : Int32)), .unset] [(.int (1 : Int32))]) _
          refine XS.goto X113.here hx rfl (pc0 := 212) (pc' := 216) rfl (hb hby at_212) (by decide) (by decide) ?_
          show own_S p e below T113 (mkF m 216 #[.val (.int p1), .val (.int p2), .val (.int p3), .val (.int p4), .val (.int p5), .val (.int (p1 &&& (4095 : Int32))), .val (.int (p2 &&& (4095 : Int32))), .val (.int (p3 &&& (4095 : Int32))), .val (.ref b2), .val (.ref b7), .val (.ref b12), .val (.ref b18), .val (.ref b25), .val (.int (1 : Int32)), .unset] [(.int (1 : Int32))]) _
          refine XS.istore X113.here hx rfl (hb hby at_216) rfl (l' := #[.val (.int p1), .val (.int p2), .val (.int p3), .val (.int p4), .val (.int p5), .val (.int (p1 &&& (4095 : Int32))), .val (.int (p2 &&& (4095 : Int32))), .val (.int (p3 &&& (4095 : Int32))), .val (.ref b2), .val (.ref b7), .val (.ref b12), .val (.ref b18), .val (.ref b25), .val (.int (1 : Int32)), .val (.int (1 : Int32))]) rfl ?_
          show own_S p e below T113 (mkF m 218 #[.val (.int p1), .val (.int p2), .val (.int p3), .val (.int p4), .val (.int p5), .val (.int (p1 &&& (4095 : Int32))), .val (.int (p2 &&& (4095 : Int32))), .val (.int (p3 &&& (4095 : Int32))), .val (.ref b2), .val (.ref b7), .val (.ref b12), .val (.ref b18), .val (.ref b25), .val (.int (1 : Int32)), .val (.int (1 : Int32))] []) _
          refine XS.iload X113.here hx rfl (hb hby at_218) rfl ?_
          show own_S p e below T113 (mkF m 220 #[.val (.int p1), .val (.int p2), .val (.int p3), .val (.int p4), .val (.int p5), .val (.int (p1 &&& (4095 : Int32))), .val (.int (p2 &&& (4095 : Int32))), .val (.int (p3 &&& (4095 : Int32))), .val (.ref b2), .val (.ref b7), .val (.ref b12), .val (.ref b18), .val (.ref b25), .val (.int (1 : Int32)), .val (.int (1 : Int32))] [(.int (1 : Int32))]) _
          refine XS.ifNo X113.here hx rfl (hb hby at_220) rfl ((if0 _ _).trans (feq (by decide : ¬ ((1 : Int32) = (0 : Int32)))).1) ?_
          show own_S p e below T113 (mkF m 223 #[.val (.int p1), .val (.int p2), .val (.int p3), .val (.int p4), .val (.int p5), .val (.int (p1 &&& (4095 : Int32))), .val (.int (p2 &&& (4095 : Int32))), .val (.int (p3 &&& (4095 : Int32))), .val (.ref b2), .val (.ref b7), .val (.ref b12), .val (.ref b18), .val (.ref b25), .val (.int (1 : Int32)), .val (.int (1 : Int32))] []) _
          refine XS.iload X113.here hx rfl (hb hby at_223) rfl ?_
          show own_S p e below T113 (mkF m 225 #[.val (.int p1), .val (.int p2), .val (.int p3), .val (.int p4), .val (.int p5), .val (.int (p1 &&& (4095 : Int32))), .val (.int (p2 &&& (4095 : Int32))), .val (.int (p3 &&& (4095 : Int32))), .val (.ref b2), .val (.ref b7), .val (.ref b12), .val (.ref b18), .val (.ref b25), .val (.int (1 : Int32)), .val (.int (1 : Int32))] [(.int (1 : Int32))]) _
          refine XS.ifNo X113.here hx rfl (hb hby at_225) rfl ((if0 _ _).trans (feq (by decide : ¬ ((1 : Int32) = (0 : Int32)))).1) ?_
          show own_S p e below T113 (mkF m 228 #[.val (.int p1), .val (.int p2), .val (.int p3), .val (.int p4), .val (.int p5), .val (.int (p1 &&& (4095 : Int32))), .val (.int (p2 &&& (4095 : Int32))), .val (.int (p3 &&& (4095 : Int32))), .val (.ref b2), .val (.ref b7), .val (.ref b12), .val (.ref b18), .val (.ref b25), .val (.int (1 : Int32)), .val (.int (1 : Int32))] []) _
          refine XS.iconst X113.here hx rfl (hb hby at_228) ?_
          show own_S p e below T113 (mkF m 229 #[.val (.int p1), .val (.int p2), .val (.int p3), .val (.int p4), .val (.int p5), .val (.int (p1 &&& (4095 : Int32))), .val (.int (p2 &&& (4095 : Int32))), .val (.int (p3 &&& (4095 : Int32))), .val (.ref b2), .val (.ref b7), .val (.ref b12), .val (.ref b18), .val (.ref b25), .val (.int (1 : Int32)), .val (.int (1 : Int32))] [(.int (1 : Int32))]) _
          refine XS.goto X113.here hx rfl (pc0 := 229) (pc' := 233) rfl (hb hby at_229) (by decide) (by decide) ?_
          exact kt)
        obtain ⟨fs, hr, hrun, hended, hW, hsame⟩ := X113.leave (v := some (.int (1 : Int32))) (fun h => by rw [Bd.returns] at h; cases h)
        refine ⟨_, _, hGl _ (k115 _ (retN X113 hx (t := .boolean) Bd.returns (by simp) (hb hby at_233) hr)), hrun, hended, _, _, rfl, ?_, ⟨_, rfl⟩, hW, hsame.mono (by decide) (by decide)⟩
        show Q0 Z p1 p2 p3 p4 p5 G1 h0 n0 _ T113.heap _
        rw [eq113]
        exact ⟨rfl, N113⟩
      · have k116 : ∀ t, own_S p e below T106 (mkF m 192 #[.val (.int p1), .val (.int p2), .val (.int p3), .val (.int p4), .val (.int p5), .val (.int (p1 &&& (4095 : Int32))), .val (.int (p2 &&& (4095 : Int32))), .val (.int (p3 &&& (4095 : Int32))), .val (.ref b2), .val (.ref b7), .val (.ref b12), .val (.ref b18), .val (.ref b25), .val (.int (1 : Int32)), .unset] [(.int (p3 &&& (4095 : Int32))), (.ref b25)]) t → Gl t := fun t kt => k108 t (by
          show own_S p e below T106 (mkF m 188 #[.val (.int p1), .val (.int p2), .val (.int p3), .val (.int p4), .val (.int p5), .val (.int (p1 &&& (4095 : Int32))), .val (.int (p2 &&& (4095 : Int32))), .val (.int (p3 &&& (4095 : Int32))), .val (.ref b2), .val (.ref b7), .val (.ref b12), .val (.ref b18), .val (.ref b25), .val (.int (1 : Int32)), .unset] []) _
          refine XS.aload X106.here hx rfl (hb hby at_188) rfl rfl ?_
          show own_S p e below T106 (mkF m 190 #[.val (.int p1), .val (.int p2), .val (.int p3), .val (.int p4), .val (.int p5), .val (.int (p1 &&& (4095 : Int32))), .val (.int (p2 &&& (4095 : Int32))), .val (.int (p3 &&& (4095 : Int32))), .val (.ref b2), .val (.ref b7), .val (.ref b12), .val (.ref b18), .val (.ref b25), .val (.int (1 : Int32)), .unset] [(.ref b25)]) _
          refine XS.iload X106.here hx rfl (hb hby at_190) rfl ?_
          exact kt)
        obtain ⟨cq117, kq117, qa117, qb117, qc117⟩ := isOf hZ eq106 f99
        obtain ⟨_, _, ⟨T117, L117, cc117, ss117⟩, -, X117, ⟨Lc117, hQ117, l117, y117, z117⟩, st117⟩ := X106.virtualBack hx (y := (⟨"com/example/pricecollar/pricecollar/tape/TradeTape$Columns", "conditions", "(I)Ljava/lang/String;"⟩ : MethodName)) (z := (⟨"com/example/pricecollar/pricecollar/tape/TradeTape$Columns", "conditions", "(I)Ljava/lang/String;"⟩ : MethodName)) hown (mvT hZ (hw _ (List.mem_of_getElem? (i := 80) rfl))) (mvT hZ (hw _ (List.mem_of_getElem? (i := 81) rfl))) (notFace_of_selects (args := #[]) (mvT hZ (hw _ (List.mem_of_getElem? (i := 83) rfl)))) (mvT hZ (hw _ (List.mem_of_getElem? (i := 83) rfl))) (mvT hZ (hw _ (List.mem_of_getElem? (i := 82) rfl))) (by decide) (backOf (W := 0) (rm11r l Z a0 hw [] b25 (p3 &&& (4095 : Int32)) b33 bC67 kk33 kC67 [((p3 &&& (4095 : Int32)), (.int (-1 : Int32))), ((p2 &&& (4095 : Int32)), (.int (-1 : Int32))), ((p1 &&& (4095 : Int32)), (.int (-1 : Int32)))] [((p2 &&& (4095 : Int32)), (.ref b18)), ((p1 &&& (4095 : Int32)), (.ref b7))] b7 T88.heap n0 Z91 f96 f97 f98 VC88 (own_4095 p3) (getH_hit (own_4095 p3).1 rfl) (getH_miss (own_4095 p3).1 h32 (getH_hit (own_4095 p3).1 h31))) hZ (hw _ (List.mem_of_getElem? (i := 84) rfl)) (hw _ (List.mem_of_getElem? (i := 36) rfl)) (by decide) (by decide)) qa117 qc117 (g := (mkF m 192 #[.val (.int p1), .val (.int p2), .val (.int p3), .val (.int p4), .val (.int p5), .val (.int (p1 &&& (4095 : Int32))), .val (.int (p2 &&& (4095 : Int32))), .val (.int (p3 &&& (4095 : Int32))), .val (.ref b2), .val (.ref b7), .val (.ref b12), .val (.ref b18), .val (.ref b25), .val (.int (1 : Int32)), .unset] [(.int (p3 &&& (4095 : Int32))), (.ref b25)])) rfl (by rw [hml]; rfl) (Steps.refl _) (argsL := [(.int (p3 &&& (4095 : Int32)))]) (rest := []) (lenOf pd_2 rfl) rfl (by show 2 * 0 + _ ≤ _; exact Nat.le_of_eq rfl) (hb hby at_192) (fun _ _ => ⟨rfl, eq106, (by decide : 25 + 0 ≤ _), (by decide : 36920 + 0 ≤ _)⟩)
        dsimp only [Pt.U, Pt.locs, Pt.cells, Pt.slots] at X117 l117 y117 z117 st117 hQ117
        subst l117 y117 z117
        obtain ⟨rfl, Nq117, eq117⟩ := hQ117
        have N117 := Fr.app N106 Nq117
        have k118 : ∀ t, own_S p e below T117 (mkF m 195 #[.val (.int p1), .val (.int p2), .val (.int p3), .val (.int p4), .val (.int p5), .val (.int (p1 &&& (4095 : Int32))), .val (.int (p2 &&& (4095 : Int32))), .val (.int (p3 &&& (4095 : Int32))), .val (.ref b2), .val (.ref b7), .val (.ref b12), .val (.ref b18), .val (.ref b25), .val (.int (1 : Int32)), .unset] [(.ref b7)]) t → Gl t := fun t kt => k116 t (st117.trans kt)
        have k119 : ∀ t, own_S p e below T117 (mkF m 205 #[.val (.int p1), .val (.int p2), .val (.int p3), .val (.int p4), .val (.int p5), .val (.int (p1 &&& (4095 : Int32))), .val (.int (p2 &&& (4095 : Int32))), .val (.int (p3 &&& (4095 : Int32))), .val (.ref b2), .val (.ref b7), .val (.ref b12), .val (.ref b18), .val (.ref b25), .val (.int (1 : Int32)), .unset] [(.ref b18), (.int (p2 &&& (4095 : Int32))), (.ref b7), (.int (p1 &&& (4095 : Int32))), (.int (p3 &&& (4095 : Int32))), (.ref b7)]) t → Gl t := fun t kt => k118 t (by
          show own_S p e below T117 (mkF m 195 #[.val (.int p1), .val (.int p2), .val (.int p3), .val (.int p4), .val (.int p5), .val (.int (p1 &&& (4095 : Int32))), .val (.int (p2 &&& (4095 : Int32))), .val (.int (p3 &&& (4095 : Int32))), .val (.ref b2), .val (.ref b7), .val (.ref b12), .val (.ref b18), .val (.ref b25), .val (.int (1 : Int32)), .unset] [(.ref b7)]) _
          refine XS.iload X117.here hx rfl (hb hby at_195) rfl ?_
          show own_S p e below T117 (mkF m 197 #[.val (.int p1), .val (.int p2), .val (.int p3), .val (.int p4), .val (.int p5), .val (.int (p1 &&& (4095 : Int32))), .val (.int (p2 &&& (4095 : Int32))), .val (.int (p3 &&& (4095 : Int32))), .val (.ref b2), .val (.ref b7), .val (.ref b12), .val (.ref b18), .val (.ref b25), .val (.int (1 : Int32)), .unset] [(.int (p3 &&& (4095 : Int32))), (.ref b7)]) _
          refine XS.iload X117.here hx rfl (hb hby at_197) rfl ?_
          show own_S p e below T117 (mkF m 199 #[.val (.int p1), .val (.int p2), .val (.int p3), .val (.int p4), .val (.int p5), .val (.int (p1 &&& (4095 : Int32))), .val (.int (p2 &&& (4095 : Int32))), .val (.int (p3 &&& (4095 : Int32))), .val (.ref b2), .val (.ref b7), .val (.ref b12), .val (.ref b18), .val (.ref b25), .val (.int (1 : Int32)), .unset] [(.int (p1 &&& (4095 : Int32))), (.int (p3 &&& (4095 : Int32))), (.ref b7)]) _
          refine XS.aload X117.here hx rfl (hb hby at_199) rfl rfl ?_
          show own_S p e below T117 (mkF m 201 #[.val (.int p1), .val (.int p2), .val (.int p3), .val (.int p4), .val (.int p5), .val (.int (p1 &&& (4095 : Int32))), .val (.int (p2 &&& (4095 : Int32))), .val (.int (p3 &&& (4095 : Int32))), .val (.ref b2), .val (.ref b7), .val (.ref b12), .val (.ref b18), .val (.ref b25), .val (.int (1 : Int32)), .unset] [(.ref b7), (.int (p1 &&& (4095 : Int32))), (.int (p3 &&& (4095 : Int32))), (.ref b7)]) _
          refine XS.iload X117.here hx rfl (hb hby at_201) rfl ?_
          show own_S p e below T117 (mkF m 203 #[.val (.int p1), .val (.int p2), .val (.int p3), .val (.int p4), .val (.int p5), .val (.int (p1 &&& (4095 : Int32))), .val (.int (p2 &&& (4095 : Int32))), .val (.int (p3 &&& (4095 : Int32))), .val (.ref b2), .val (.ref b7), .val (.ref b12), .val (.ref b18), .val (.ref b25), .val (.int (1 : Int32)), .unset] [(.int (p2 &&& (4095 : Int32))), (.ref b7), (.int (p1 &&& (4095 : Int32))), (.int (p3 &&& (4095 : Int32))), (.ref b7)]) _
          refine XS.aload X117.here hx rfl (hb hby at_203) rfl rfl ?_
          exact kt)
        obtain ⟨_, _, ⟨T120, L120, cc120, ss120⟩, -, X120, ⟨Lc120, hQ120, l120, y120, z120⟩, st120⟩ := Jvm.LawKit.callS X117 hx (y := (⟨"com/example/pricecollar/pricecollar/tape/ColumnsKeepUnnumberedPinLaw", "expected", "(IILjava/lang/String;ILjava/lang/String;)Ljava/lang/String;"⟩ : MethodName)) hown (mvT hZ (hw _ (List.mem_of_getElem? (i := 85) rfl))) (mvT hZ (hw _ (List.mem_of_getElem? (i := 86) rfl))) (mvT hZ (hw _ (List.mem_of_getElem? (i := 2) rfl))) (mvT hZ (hw _ (List.mem_of_getElem? (i := 87) rfl))) (by decide) (backOf (W := 1) (rm12b l Z a0 hw [] (p3 &&& (4095 : Int32)) (p1 &&& (4095 : Int32)) b7 (p2 &&& (4095 : Int32)) b18  T88.heap n0 Z91 h32 h31) hZ (hw _ (List.mem_of_getElem? (i := 87) rfl)) (hw _ (List.mem_of_getElem? (i := 2) rfl)) (by decide) (by decide)) (g := (mkF m 205 #[.val (.int p1), .val (.int p2), .val (.int p3), .val (.int p4), .val (.int p5), .val (.int (p1 &&& (4095 : Int32))), .val (.int (p2 &&& (4095 : Int32))), .val (.int (p3 &&& (4095 : Int32))), .val (.ref b2), .val (.ref b7), .val (.ref b12), .val (.ref b18), .val (.ref b25), .val (.int (1 : Int32)), .unset] [(.ref b18), (.int (p2 &&& (4095 : Int32))), (.ref b7), (.int (p1 &&& (4095 : Int32))), (.int (p3 &&& (4095 : Int32))), (.ref b7)])) rfl (by rw [hml]; rfl) (argsL := [(.int (p3 &&& (4095 : Int32))), (.int (p1 &&& (4095 : Int32))), (.ref b7), (.int (p2 &&& (4095 : Int32))), (.ref b18)]) (rest := [(.ref b7)]) (lenOf pd_4 rfl) rfl (by show 2 * 0 + _ ≤ _; exact Nat.le_of_eq rfl) (hb hby at_205) (fun _ _ => ⟨rfl, eq117, (by decide : 25 + 0 ≤ _), (by decide : 36920 + 0 ≤ _)⟩)
        dsimp only [Pt.U, Pt.locs, Pt.cells, Pt.slots] at X120 l120 y120 z120 st120 hQ120
        subst l120 y120 z120
        obtain ⟨rfl, Nq120, eq120⟩ := hQ120
        have N120 := Fr.app N117 Nq120
        have k121 : ∀ t, own_S p e below T120 (mkF m 208 #[.val (.int p1), .val (.int p2), .val (.int p3), .val (.int p4), .val (.int p5), .val (.int (p1 &&& (4095 : Int32))), .val (.int (p2 &&& (4095 : Int32))), .val (.int (p3 &&& (4095 : Int32))), .val (.ref b2), .val (.ref b7), .val (.ref b12), .val (.ref b18), .val (.ref b25), .val (.int (1 : Int32)), .unset] [(.ref b7), (.ref b7)]) t → Gl t := fun t kt => k119 t (st120 _ kt)
        have k122 : ∀ t, own_S p e below T120 (mkF m 233 #[.val (.int p1), .val (.int p2), .val (.int p3), .val (.int p4), .val (.int p5), .val (.int (p1 &&& (4095 : Int32))), .val (.int (p2 &&& (4095 : Int32))), .val (.int (p3 &&& (4095 : Int32))), .val (.ref b2), .val (.ref b7), .val (.ref b12), .val (.ref b18), .val (.ref b25), .val (.int (1 : Int32)), .val (.int (1 : Int32))] [(.int (1 : Int32))]) t → Gl t := fun t kt => k121 t (by
          show own_S p e below T120 (mkF m 208 #[.val (.int p1), .val (.int p2), .val (.int p3), .val (.int p4), .val (.int p5), .val (.int (p1 &&& (4095 : Int32))), .val (.int (p2 &&& (4095 : Int32))), .val (.int (p3 &&& (4095 : Int32))), .val (.ref b2), .val (.ref b7), .val (.ref b12), .val (.ref b18), .val (.ref b25), .val (.int (1 : Int32)), .unset] [(.ref b7), (.ref b7)]) _
          refine Jvm.RoadKit.acmp (g := (mkF m 208 #[.val (.int p1), .val (.int p2), .val (.int p3), .val (.int p4), .val (.int p5), .val (.int (p1 &&& (4095 : Int32))), .val (.int (p2 &&& (4095 : Int32))), .val (.int (p3 &&& (4095 : Int32))), .val (.ref b2), .val (.ref b7), .val (.ref b12), .val (.ref b18), .val (.ref b25), .val (.int (1 : Int32)), .unset] [(.ref b7), (.ref b7)])) X120 hx rfl rfl rfl (pc0 := 208) (pc' := 211) (same := true) rfl (hb hby at_208) rfl (decide_eq_true rfl) (by decide) (by decide) ?_
          show own_S p e below T120 (mkF m 211 #[.val (.int p1), .val (.int p2), .val (.int p3), .val (.int p4), .val (.int p5), .val (.int (p1 &&& (4095 : Int32))), .val (.int (p2 &&& (4095 : Int32))), .val (.int (p3 &&& (4095 : Int32))), .val (.ref b2), .val (.ref b7), .val (.ref b12), .val (.ref b18), .val (.ref b25), .val (.int (1 : Int32)), .unset] []) _
          refine XS.iconst X120.here hx rfl (hb hby at_211) ?_
          show own_S p e below T120 (mkF m 212 #[.val (.int p1), .val (.int p2), .val (.int p3), .val (.int p4), .val (.int p5), .val (.int (p1 &&& (4095 : Int32))), .val (.int (p2 &&& (4095 : Int32))), .val (.int (p3 &&& (4095 : Int32))), .val (.ref b2), .val (.ref b7), .val (.ref b12), .val (.ref b18), .val (.ref b25), .val (.int (1 : Int32)), .unset] [(.int (1 : Int32))]) _
          refine XS.goto X120.here hx rfl (pc0 := 212) (pc' := 216) rfl (hb hby at_212) (by decide) (by decide) ?_
          show own_S p e below T120 (mkF m 216 #[.val (.int p1), .val (.int p2), .val (.int p3), .val (.int p4), .val (.int p5), .val (.int (p1 &&& (4095 : Int32))), .val (.int (p2 &&& (4095 : Int32))), .val (.int (p3 &&& (4095 : Int32))), .val (.ref b2), .val (.ref b7), .val (.ref b12), .val (.ref b18), .val (.ref b25), .val (.int (1 : Int32)), .unset] [(.int (1 : Int32))]) _
          refine XS.istore X120.here hx rfl (hb hby at_216) rfl (l' := #[.val (.int p1), .val (.int p2), .val (.int p3), .val (.int p4), .val (.int p5), .val (.int (p1 &&& (4095 : Int32))), .val (.int (p2 &&& (4095 : Int32))), .val (.int (p3 &&& (4095 : Int32))), .val (.ref b2), .val (.ref b7), .val (.ref b12), .val (.ref b18), .val (.ref b25), .val (.int (1 : Int32)), .val (.int (1 : Int32))]) rfl ?_
          show own_S p e below T120 (mkF m 218 #[.val (.int p1), .val (.int p2), .val (.int p3), .val (.int p4), .val (.int p5), .val (.int (p1 &&& (4095 : Int32))), .val (.int (p2 &&& (4095 : Int32))), .val (.int (p3 &&& (4095 : Int32))), .val (.ref b2), .val (.ref b7), .val (.ref b12), .val (.ref b18), .val (.ref b25), .val (.int (1 : Int32)), .val (.int (1 : Int32))] []) _
          refine XS.iload X120.here hx rfl (hb hby at_218) rfl ?_
          show own_S p e below T120 (mkF m 220 #[.val (.int p1), .val (.int p2), .val (.int p3), .val (.int p4), .val (.int p5), .val (.int (p1 &&& (4095 : Int32))), .val (.int (p2 &&& (4095 : Int32))), .val (.int (p3 &&& (4095 : Int32))), .val (.ref b2), .val (.ref b7), .val (.ref b12), .val (.ref b18), .val (.ref b25), .val (.int (1 : Int32)), .val (.int (1 : Int32))] [(.int (1 : Int32))]) _
          refine XS.ifNo X120.here hx rfl (hb hby at_220) rfl ((if0 _ _).trans (feq (by decide : ¬ ((1 : Int32) = (0 : Int32)))).1) ?_
          show own_S p e below T120 (mkF m 223 #[.val (.int p1), .val (.int p2), .val (.int p3), .val (.int p4), .val (.int p5), .val (.int (p1 &&& (4095 : Int32))), .val (.int (p2 &&& (4095 : Int32))), .val (.int (p3 &&& (4095 : Int32))), .val (.ref b2), .val (.ref b7), .val (.ref b12), .val (.ref b18), .val (.ref b25), .val (.int (1 : Int32)), .val (.int (1 : Int32))] []) _
          refine XS.iload X120.here hx rfl (hb hby at_223) rfl ?_
          show own_S p e below T120 (mkF m 225 #[.val (.int p1), .val (.int p2), .val (.int p3), .val (.int p4), .val (.int p5), .val (.int (p1 &&& (4095 : Int32))), .val (.int (p2 &&& (4095 : Int32))), .val (.int (p3 &&& (4095 : Int32))), .val (.ref b2), .val (.ref b7), .val (.ref b12), .val (.ref b18), .val (.ref b25), .val (.int (1 : Int32)), .val (.int (1 : Int32))] [(.int (1 : Int32))]) _
          refine XS.ifNo X120.here hx rfl (hb hby at_225) rfl ((if0 _ _).trans (feq (by decide : ¬ ((1 : Int32) = (0 : Int32)))).1) ?_
          show own_S p e below T120 (mkF m 228 #[.val (.int p1), .val (.int p2), .val (.int p3), .val (.int p4), .val (.int p5), .val (.int (p1 &&& (4095 : Int32))), .val (.int (p2 &&& (4095 : Int32))), .val (.int (p3 &&& (4095 : Int32))), .val (.ref b2), .val (.ref b7), .val (.ref b12), .val (.ref b18), .val (.ref b25), .val (.int (1 : Int32)), .val (.int (1 : Int32))] []) _
          refine XS.iconst X120.here hx rfl (hb hby at_228) ?_
          show own_S p e below T120 (mkF m 229 #[.val (.int p1), .val (.int p2), .val (.int p3), .val (.int p4), .val (.int p5), .val (.int (p1 &&& (4095 : Int32))), .val (.int (p2 &&& (4095 : Int32))), .val (.int (p3 &&& (4095 : Int32))), .val (.ref b2), .val (.ref b7), .val (.ref b12), .val (.ref b18), .val (.ref b25), .val (.int (1 : Int32)), .val (.int (1 : Int32))] [(.int (1 : Int32))]) _
          refine XS.goto X120.here hx rfl (pc0 := 229) (pc' := 233) rfl (hb hby at_229) (by decide) (by decide) ?_
          exact kt)
        obtain ⟨fs, hr, hrun, hended, hW, hsame⟩ := X120.leave (v := some (.int (1 : Int32))) (fun h => by rw [Bd.returns] at h; cases h)
        refine ⟨_, _, hGl _ (k122 _ (retN X120 hx (t := .boolean) Bd.returns (by simp) (hb hby at_233) hr)), hrun, hended, _, _, rfl, ?_, ⟨_, rfl⟩, hW, hsame.mono (by decide) (by decide)⟩
        show Q0 Z p1 p2 p3 p4 p5 G1 h0 n0 _ T120.heap _
        rw [eq120]
        exact ⟨rfl, N120⟩
    · have k123 : ∀ t, own_S p e below T95 (mkF m 169 #[.val (.int p1), .val (.int p2), .val (.int p3), .val (.int p4), .val (.int p5), .val (.int (p1 &&& (4095 : Int32))), .val (.int (p2 &&& (4095 : Int32))), .val (.int (p3 &&& (4095 : Int32))), .val (.ref b2), .val (.ref b7), .val (.ref b12), .val (.ref b18), .val (.ref b25), .val (.int (1 : Int32)), .unset] [(.int (p1 &&& (4095 : Int32))), (.ref b25)]) t → Gl t := fun t kt => k101 t (by
        show own_S p e below T95 (mkF m 165 #[.val (.int p1), .val (.int p2), .val (.int p3), .val (.int p4), .val (.int p5), .val (.int (p1 &&& (4095 : Int32))), .val (.int (p2 &&& (4095 : Int32))), .val (.int (p3 &&& (4095 : Int32))), .val (.ref b2), .val (.ref b7), .val (.ref b12), .val (.ref b18), .val (.ref b25), .val (.int (1 : Int32)), .unset] []) _
        refine XS.aload X95.here hx rfl (hb hby at_165) rfl rfl ?_
        show own_S p e below T95 (mkF m 167 #[.val (.int p1), .val (.int p2), .val (.int p3), .val (.int p4), .val (.int p5), .val (.int (p1 &&& (4095 : Int32))), .val (.int (p2 &&& (4095 : Int32))), .val (.int (p3 &&& (4095 : Int32))), .val (.ref b2), .val (.ref b7), .val (.ref b12), .val (.ref b18), .val (.ref b25), .val (.int (1 : Int32)), .unset] [(.ref b25)]) _
        refine XS.iload X95.here hx rfl (hb hby at_167) rfl ?_
        exact kt)
      obtain ⟨cq124, kq124, qa124, qb124, qc124⟩ := isOf hZ eq95 f99
      obtain ⟨_, _, ⟨T124, L124, cc124, ss124⟩, -, X124, ⟨Lc124, hQ124, l124, y124, z124⟩, st124⟩ := X95.virtualBack hx (y := (⟨"com/example/pricecollar/pricecollar/tape/TradeTape$Columns", "conditions", "(I)Ljava/lang/String;"⟩ : MethodName)) (z := (⟨"com/example/pricecollar/pricecollar/tape/TradeTape$Columns", "conditions", "(I)Ljava/lang/String;"⟩ : MethodName)) hown (mvT hZ (hw _ (List.mem_of_getElem? (i := 80) rfl))) (mvT hZ (hw _ (List.mem_of_getElem? (i := 81) rfl))) (notFace_of_selects (args := #[]) (mvT hZ (hw _ (List.mem_of_getElem? (i := 83) rfl)))) (mvT hZ (hw _ (List.mem_of_getElem? (i := 83) rfl))) (mvT hZ (hw _ (List.mem_of_getElem? (i := 82) rfl))) (by decide) (backOf (W := 0) (rm11r l Z a0 hw [] b25 (p1 &&& (4095 : Int32)) b33 bC67 kk33 kC67 [((p3 &&& (4095 : Int32)), (.int (-1 : Int32))), ((p2 &&& (4095 : Int32)), (.int (-1 : Int32))), ((p1 &&& (4095 : Int32)), (.int (-1 : Int32)))] [((p2 &&& (4095 : Int32)), (.ref b18)), ((p1 &&& (4095 : Int32)), (.ref b7))] b7 T88.heap n0 Z91 f96 f97 f98 VC88 (own_4095 p1) (if hq : (p1 &&& (4095 : Int32)) = (p3 &&& (4095 : Int32)) then getH_hit (own_4095 p1).1 hq else getH_miss (own_4095 p1).1 hq (if hq : (p1 &&& (4095 : Int32)) = (p2 &&& (4095 : Int32)) then getH_hit (own_4095 p1).1 hq else getH_miss (own_4095 p1).1 hq (getH_hit (own_4095 p1).1 rfl))) (getH_miss (own_4095 p1).1 h12 (getH_hit (own_4095 p1).1 rfl))) hZ (hw _ (List.mem_of_getElem? (i := 84) rfl)) (hw _ (List.mem_of_getElem? (i := 36) rfl)) (by decide) (by decide)) qa124 qc124 (g := (mkF m 169 #[.val (.int p1), .val (.int p2), .val (.int p3), .val (.int p4), .val (.int p5), .val (.int (p1 &&& (4095 : Int32))), .val (.int (p2 &&& (4095 : Int32))), .val (.int (p3 &&& (4095 : Int32))), .val (.ref b2), .val (.ref b7), .val (.ref b12), .val (.ref b18), .val (.ref b25), .val (.int (1 : Int32)), .unset] [(.int (p1 &&& (4095 : Int32))), (.ref b25)])) rfl (by rw [hml]; rfl) (Steps.refl _) (argsL := [(.int (p1 &&& (4095 : Int32)))]) (rest := []) (lenOf pd_2 rfl) rfl (by show 2 * 0 + _ ≤ _; exact Nat.le_of_eq rfl) (hb hby at_169) (fun _ _ => ⟨rfl, eq95, (by decide : 25 + 0 ≤ _), (by decide : 36920 + 0 ≤ _)⟩)
      dsimp only [Pt.U, Pt.locs, Pt.cells, Pt.slots] at X124 l124 y124 z124 st124 hQ124
      subst l124 y124 z124
      obtain ⟨rfl, Nq124, eq124⟩ := hQ124
      have N124 := Fr.app N95 Nq124
      have k125 : ∀ t, own_S p e below T124 (mkF m 172 #[.val (.int p1), .val (.int p2), .val (.int p3), .val (.int p4), .val (.int p5), .val (.int (p1 &&& (4095 : Int32))), .val (.int (p2 &&& (4095 : Int32))), .val (.int (p3 &&& (4095 : Int32))), .val (.ref b2), .val (.ref b7), .val (.ref b12), .val (.ref b18), .val (.ref b25), .val (.int (1 : Int32)), .unset] [(.ref b7)]) t → Gl t := fun t kt => k123 t (st124.trans kt)
      have k126 : ∀ t, own_S p e below T124 (mkF m 182 #[.val (.int p1), .val (.int p2), .val (.int p3), .val (.int p4), .val (.int p5), .val (.int (p1 &&& (4095 : Int32))), .val (.int (p2 &&& (4095 : Int32))), .val (.int (p3 &&& (4095 : Int32))), .val (.ref b2), .val (.ref b7), .val (.ref b12), .val (.ref b18), .val (.ref b25), .val (.int (1 : Int32)), .unset] [(.ref b18), (.int (p2 &&& (4095 : Int32))), (.ref b7), (.int (p1 &&& (4095 : Int32))), (.int (p1 &&& (4095 : Int32))), (.ref b7)]) t → Gl t := fun t kt => k125 t (by
        show own_S p e below T124 (mkF m 172 #[.val (.int p1), .val (.int p2), .val (.int p3), .val (.int p4), .val (.int p5), .val (.int (p1 &&& (4095 : Int32))), .val (.int (p2 &&& (4095 : Int32))), .val (.int (p3 &&& (4095 : Int32))), .val (.ref b2), .val (.ref b7), .val (.ref b12), .val (.ref b18), .val (.ref b25), .val (.int (1 : Int32)), .unset] [(.ref b7)]) _
        refine XS.iload X124.here hx rfl (hb hby at_172) rfl ?_
        show own_S p e below T124 (mkF m 174 #[.val (.int p1), .val (.int p2), .val (.int p3), .val (.int p4), .val (.int p5), .val (.int (p1 &&& (4095 : Int32))), .val (.int (p2 &&& (4095 : Int32))), .val (.int (p3 &&& (4095 : Int32))), .val (.ref b2), .val (.ref b7), .val (.ref b12), .val (.ref b18), .val (.ref b25), .val (.int (1 : Int32)), .unset] [(.int (p1 &&& (4095 : Int32))), (.ref b7)]) _
        refine XS.iload X124.here hx rfl (hb hby at_174) rfl ?_
        show own_S p e below T124 (mkF m 176 #[.val (.int p1), .val (.int p2), .val (.int p3), .val (.int p4), .val (.int p5), .val (.int (p1 &&& (4095 : Int32))), .val (.int (p2 &&& (4095 : Int32))), .val (.int (p3 &&& (4095 : Int32))), .val (.ref b2), .val (.ref b7), .val (.ref b12), .val (.ref b18), .val (.ref b25), .val (.int (1 : Int32)), .unset] [(.int (p1 &&& (4095 : Int32))), (.int (p1 &&& (4095 : Int32))), (.ref b7)]) _
        refine XS.aload X124.here hx rfl (hb hby at_176) rfl rfl ?_
        show own_S p e below T124 (mkF m 178 #[.val (.int p1), .val (.int p2), .val (.int p3), .val (.int p4), .val (.int p5), .val (.int (p1 &&& (4095 : Int32))), .val (.int (p2 &&& (4095 : Int32))), .val (.int (p3 &&& (4095 : Int32))), .val (.ref b2), .val (.ref b7), .val (.ref b12), .val (.ref b18), .val (.ref b25), .val (.int (1 : Int32)), .unset] [(.ref b7), (.int (p1 &&& (4095 : Int32))), (.int (p1 &&& (4095 : Int32))), (.ref b7)]) _
        refine XS.iload X124.here hx rfl (hb hby at_178) rfl ?_
        show own_S p e below T124 (mkF m 180 #[.val (.int p1), .val (.int p2), .val (.int p3), .val (.int p4), .val (.int p5), .val (.int (p1 &&& (4095 : Int32))), .val (.int (p2 &&& (4095 : Int32))), .val (.int (p3 &&& (4095 : Int32))), .val (.ref b2), .val (.ref b7), .val (.ref b12), .val (.ref b18), .val (.ref b25), .val (.int (1 : Int32)), .unset] [(.int (p2 &&& (4095 : Int32))), (.ref b7), (.int (p1 &&& (4095 : Int32))), (.int (p1 &&& (4095 : Int32))), (.ref b7)]) _
        refine XS.aload X124.here hx rfl (hb hby at_180) rfl rfl ?_
        exact kt)
      obtain ⟨_, _, ⟨T127, L127, cc127, ss127⟩, -, X127, ⟨Lc127, hQ127, l127, y127, z127⟩, st127⟩ := Jvm.LawKit.callS X124 hx (y := (⟨"com/example/pricecollar/pricecollar/tape/ColumnsKeepUnnumberedPinLaw", "expected", "(IILjava/lang/String;ILjava/lang/String;)Ljava/lang/String;"⟩ : MethodName)) hown (mvT hZ (hw _ (List.mem_of_getElem? (i := 85) rfl))) (mvT hZ (hw _ (List.mem_of_getElem? (i := 86) rfl))) (mvT hZ (hw _ (List.mem_of_getElem? (i := 2) rfl))) (mvT hZ (hw _ (List.mem_of_getElem? (i := 87) rfl))) (by decide) (backOf (W := 1) (rm12b l Z a0 hw [] (p1 &&& (4095 : Int32)) (p1 &&& (4095 : Int32)) b7 (p2 &&& (4095 : Int32)) b18  T88.heap n0 Z91 h12 rfl) hZ (hw _ (List.mem_of_getElem? (i := 87) rfl)) (hw _ (List.mem_of_getElem? (i := 2) rfl)) (by decide) (by decide)) (g := (mkF m 182 #[.val (.int p1), .val (.int p2), .val (.int p3), .val (.int p4), .val (.int p5), .val (.int (p1 &&& (4095 : Int32))), .val (.int (p2 &&& (4095 : Int32))), .val (.int (p3 &&& (4095 : Int32))), .val (.ref b2), .val (.ref b7), .val (.ref b12), .val (.ref b18), .val (.ref b25), .val (.int (1 : Int32)), .unset] [(.ref b18), (.int (p2 &&& (4095 : Int32))), (.ref b7), (.int (p1 &&& (4095 : Int32))), (.int (p1 &&& (4095 : Int32))), (.ref b7)])) rfl (by rw [hml]; rfl) (argsL := [(.int (p1 &&& (4095 : Int32))), (.int (p1 &&& (4095 : Int32))), (.ref b7), (.int (p2 &&& (4095 : Int32))), (.ref b18)]) (rest := [(.ref b7)]) (lenOf pd_4 rfl) rfl (by show 2 * 0 + _ ≤ _; exact Nat.le_of_eq rfl) (hb hby at_182) (fun _ _ => ⟨rfl, eq124, (by decide : 25 + 0 ≤ _), (by decide : 36920 + 0 ≤ _)⟩)
      dsimp only [Pt.U, Pt.locs, Pt.cells, Pt.slots] at X127 l127 y127 z127 st127 hQ127
      subst l127 y127 z127
      obtain ⟨rfl, Nq127, eq127⟩ := hQ127
      have N127 := Fr.app N124 Nq127
      have k128 : ∀ t, own_S p e below T127 (mkF m 185 #[.val (.int p1), .val (.int p2), .val (.int p3), .val (.int p4), .val (.int p5), .val (.int (p1 &&& (4095 : Int32))), .val (.int (p2 &&& (4095 : Int32))), .val (.int (p3 &&& (4095 : Int32))), .val (.ref b2), .val (.ref b7), .val (.ref b12), .val (.ref b18), .val (.ref b25), .val (.int (1 : Int32)), .unset] [(.ref b7), (.ref b7)]) t → Gl t := fun t kt => k126 t (st127 _ kt)
      have k129 : ∀ t, own_S p e below T127 (mkF m 188 #[.val (.int p1), .val (.int p2), .val (.int p3), .val (.int p4), .val (.int p5), .val (.int (p1 &&& (4095 : Int32))), .val (.int (p2 &&& (4095 : Int32))), .val (.int (p3 &&& (4095 : Int32))), .val (.ref b2), .val (.ref b7), .val (.ref b12), .val (.ref b18), .val (.ref b25), .val (.int (1 : Int32)), .unset] []) t → Gl t := fun t kt => k128 t (by
        show own_S p e below T127 (mkF m 185 #[.val (.int p1), .val (.int p2), .val (.int p3), .val (.int p4), .val (.int p5), .val (.int (p1 &&& (4095 : Int32))), .val (.int (p2 &&& (4095 : Int32))), .val (.int (p3 &&& (4095 : Int32))), .val (.ref b2), .val (.ref b7), .val (.ref b12), .val (.ref b18), .val (.ref b25), .val (.int (1 : Int32)), .unset] [(.ref b7), (.ref b7)]) _
        refine Jvm.RoadKit.acmp (g := (mkF m 185 #[.val (.int p1), .val (.int p2), .val (.int p3), .val (.int p4), .val (.int p5), .val (.int (p1 &&& (4095 : Int32))), .val (.int (p2 &&& (4095 : Int32))), .val (.int (p3 &&& (4095 : Int32))), .val (.ref b2), .val (.ref b7), .val (.ref b12), .val (.ref b18), .val (.ref b25), .val (.int (1 : Int32)), .unset] [(.ref b7), (.ref b7)])) X127 hx rfl rfl rfl (pc0 := 185) (pc' := 188) (same := true) rfl (hb hby at_185) rfl (decide_eq_true rfl) (by decide) (by decide) ?_
        exact kt)
      by_cases h32 : (p3 &&& (4095 : Int32)) = (p2 &&& (4095 : Int32))
      · have k130 : ∀ t, own_S p e below T127 (mkF m 192 #[.val (.int p1), .val (.int p2), .val (.int p3), .val (.int p4), .val (.int p5), .val (.int (p1 &&& (4095 : Int32))), .val (.int (p2 &&& (4095 : Int32))), .val (.int (p3 &&& (4095 : Int32))), .val (.ref b2), .val (.ref b7), .val (.ref b12), .val (.ref b18), .val (.ref b25), .val (.int (1 : Int32)), .unset] [(.int (p3 &&& (4095 : Int32))), (.ref b25)]) t → Gl t := fun t kt => k129 t (by
          show own_S p e below T127 (mkF m 188 #[.val (.int p1), .val (.int p2), .val (.int p3), .val (.int p4), .val (.int p5), .val (.int (p1 &&& (4095 : Int32))), .val (.int (p2 &&& (4095 : Int32))), .val (.int (p3 &&& (4095 : Int32))), .val (.ref b2), .val (.ref b7), .val (.ref b12), .val (.ref b18), .val (.ref b25), .val (.int (1 : Int32)), .unset] []) _
          refine XS.aload X127.here hx rfl (hb hby at_188) rfl rfl ?_
          show own_S p e below T127 (mkF m 190 #[.val (.int p1), .val (.int p2), .val (.int p3), .val (.int p4), .val (.int p5), .val (.int (p1 &&& (4095 : Int32))), .val (.int (p2 &&& (4095 : Int32))), .val (.int (p3 &&& (4095 : Int32))), .val (.ref b2), .val (.ref b7), .val (.ref b12), .val (.ref b18), .val (.ref b25), .val (.int (1 : Int32)), .unset] [(.ref b25)]) _
          refine XS.iload X127.here hx rfl (hb hby at_190) rfl ?_
          exact kt)
        obtain ⟨cq131, kq131, qa131, qb131, qc131⟩ := isOf hZ eq127 f99
        obtain ⟨_, _, ⟨T131, L131, cc131, ss131⟩, -, X131, ⟨Lc131, hQ131, l131, y131, z131⟩, st131⟩ := X127.virtualBack hx (y := (⟨"com/example/pricecollar/pricecollar/tape/TradeTape$Columns", "conditions", "(I)Ljava/lang/String;"⟩ : MethodName)) (z := (⟨"com/example/pricecollar/pricecollar/tape/TradeTape$Columns", "conditions", "(I)Ljava/lang/String;"⟩ : MethodName)) hown (mvT hZ (hw _ (List.mem_of_getElem? (i := 80) rfl))) (mvT hZ (hw _ (List.mem_of_getElem? (i := 81) rfl))) (notFace_of_selects (args := #[]) (mvT hZ (hw _ (List.mem_of_getElem? (i := 83) rfl)))) (mvT hZ (hw _ (List.mem_of_getElem? (i := 83) rfl))) (mvT hZ (hw _ (List.mem_of_getElem? (i := 82) rfl))) (by decide) (backOf (W := 0) (rm11r l Z a0 hw [] b25 (p3 &&& (4095 : Int32)) b33 bC67 kk33 kC67 [((p3 &&& (4095 : Int32)), (.int (-1 : Int32))), ((p2 &&& (4095 : Int32)), (.int (-1 : Int32))), ((p1 &&& (4095 : Int32)), (.int (-1 : Int32)))] [((p2 &&& (4095 : Int32)), (.ref b18)), ((p1 &&& (4095 : Int32)), (.ref b7))] b18 T88.heap n0 Z91 f96 f97 f98 VC88 (own_4095 p3) (getH_hit (own_4095 p3).1 rfl) (getH_hit (own_4095 p3).1 h32)) hZ (hw _ (List.mem_of_getElem? (i := 84) rfl)) (hw _ (List.mem_of_getElem? (i := 36) rfl)) (by decide) (by decide)) qa131 qc131 (g := (mkF m 192 #[.val (.int p1), .val (.int p2), .val (.int p3), .val (.int p4), .val (.int p5), .val (.int (p1 &&& (4095 : Int32))), .val (.int (p2 &&& (4095 : Int32))), .val (.int (p3 &&& (4095 : Int32))), .val (.ref b2), .val (.ref b7), .val (.ref b12), .val (.ref b18), .val (.ref b25), .val (.int (1 : Int32)), .unset] [(.int (p3 &&& (4095 : Int32))), (.ref b25)])) rfl (by rw [hml]; rfl) (Steps.refl _) (argsL := [(.int (p3 &&& (4095 : Int32)))]) (rest := []) (lenOf pd_2 rfl) rfl (by show 2 * 0 + _ ≤ _; exact Nat.le_of_eq rfl) (hb hby at_192) (fun _ _ => ⟨rfl, eq127, (by decide : 25 + 0 ≤ _), (by decide : 36920 + 0 ≤ _)⟩)
        dsimp only [Pt.U, Pt.locs, Pt.cells, Pt.slots] at X131 l131 y131 z131 st131 hQ131
        subst l131 y131 z131
        obtain ⟨rfl, Nq131, eq131⟩ := hQ131
        have N131 := Fr.app N127 Nq131
        have k132 : ∀ t, own_S p e below T131 (mkF m 195 #[.val (.int p1), .val (.int p2), .val (.int p3), .val (.int p4), .val (.int p5), .val (.int (p1 &&& (4095 : Int32))), .val (.int (p2 &&& (4095 : Int32))), .val (.int (p3 &&& (4095 : Int32))), .val (.ref b2), .val (.ref b7), .val (.ref b12), .val (.ref b18), .val (.ref b25), .val (.int (1 : Int32)), .unset] [(.ref b18)]) t → Gl t := fun t kt => k130 t (st131.trans kt)
        have k133 : ∀ t, own_S p e below T131 (mkF m 205 #[.val (.int p1), .val (.int p2), .val (.int p3), .val (.int p4), .val (.int p5), .val (.int (p1 &&& (4095 : Int32))), .val (.int (p2 &&& (4095 : Int32))), .val (.int (p3 &&& (4095 : Int32))), .val (.ref b2), .val (.ref b7), .val (.ref b12), .val (.ref b18), .val (.ref b25), .val (.int (1 : Int32)), .unset] [(.ref b18), (.int (p2 &&& (4095 : Int32))), (.ref b7), (.int (p1 &&& (4095 : Int32))), (.int (p3 &&& (4095 : Int32))), (.ref b18)]) t → Gl t := fun t kt => k132 t (by
          show own_S p e below T131 (mkF m 195 #[.val (.int p1), .val (.int p2), .val (.int p3), .val (.int p4), .val (.int p5), .val (.int (p1 &&& (4095 : Int32))), .val (.int (p2 &&& (4095 : Int32))), .val (.int (p3 &&& (4095 : Int32))), .val (.ref b2), .val (.ref b7), .val (.ref b12), .val (.ref b18), .val (.ref b25), .val (.int (1 : Int32)), .unset] [(.ref b18)]) _
          refine XS.iload X131.here hx rfl (hb hby at_195) rfl ?_
          show own_S p e below T131 (mkF m 197 #[.val (.int p1), .val (.int p2), .val (.int p3), .val (.int p4), .val (.int p5), .val (.int (p1 &&& (4095 : Int32))), .val (.int (p2 &&& (4095 : Int32))), .val (.int (p3 &&& (4095 : Int32))), .val (.ref b2), .val (.ref b7), .val (.ref b12), .val (.ref b18), .val (.ref b25), .val (.int (1 : Int32)), .unset] [(.int (p3 &&& (4095 : Int32))), (.ref b18)]) _
          refine XS.iload X131.here hx rfl (hb hby at_197) rfl ?_
          show own_S p e below T131 (mkF m 199 #[.val (.int p1), .val (.int p2), .val (.int p3), .val (.int p4), .val (.int p5), .val (.int (p1 &&& (4095 : Int32))), .val (.int (p2 &&& (4095 : Int32))), .val (.int (p3 &&& (4095 : Int32))), .val (.ref b2), .val (.ref b7), .val (.ref b12), .val (.ref b18), .val (.ref b25), .val (.int (1 : Int32)), .unset] [(.int (p1 &&& (4095 : Int32))), (.int (p3 &&& (4095 : Int32))), (.ref b18)]) _
          refine XS.aload X131.here hx rfl (hb hby at_199) rfl rfl ?_
          show own_S p e below T131 (mkF m 201 #[.val (.int p1), .val (.int p2), .val (.int p3), .val (.int p4), .val (.int p5), .val (.int (p1 &&& (4095 : Int32))), .val (.int (p2 &&& (4095 : Int32))), .val (.int (p3 &&& (4095 : Int32))), .val (.ref b2), .val (.ref b7), .val (.ref b12), .val (.ref b18), .val (.ref b25), .val (.int (1 : Int32)), .unset] [(.ref b7), (.int (p1 &&& (4095 : Int32))), (.int (p3 &&& (4095 : Int32))), (.ref b18)]) _
          refine XS.iload X131.here hx rfl (hb hby at_201) rfl ?_
          show own_S p e below T131 (mkF m 203 #[.val (.int p1), .val (.int p2), .val (.int p3), .val (.int p4), .val (.int p5), .val (.int (p1 &&& (4095 : Int32))), .val (.int (p2 &&& (4095 : Int32))), .val (.int (p3 &&& (4095 : Int32))), .val (.ref b2), .val (.ref b7), .val (.ref b12), .val (.ref b18), .val (.ref b25), .val (.int (1 : Int32)), .unset] [(.int (p2 &&& (4095 : Int32))), (.ref b7), (.int (p1 &&& (4095 : Int32))), (.int (p3 &&& (4095 : Int32))), (.ref b18)]) _
          refine XS.aload X131.here hx rfl (hb hby at_203) rfl rfl ?_
          exact kt)
        obtain ⟨_, _, ⟨T134, L134, cc134, ss134⟩, -, X134, ⟨Lc134, hQ134, l134, y134, z134⟩, st134⟩ := Jvm.LawKit.callS X131 hx (y := (⟨"com/example/pricecollar/pricecollar/tape/ColumnsKeepUnnumberedPinLaw", "expected", "(IILjava/lang/String;ILjava/lang/String;)Ljava/lang/String;"⟩ : MethodName)) hown (mvT hZ (hw _ (List.mem_of_getElem? (i := 85) rfl))) (mvT hZ (hw _ (List.mem_of_getElem? (i := 86) rfl))) (mvT hZ (hw _ (List.mem_of_getElem? (i := 2) rfl))) (mvT hZ (hw _ (List.mem_of_getElem? (i := 87) rfl))) (by decide) (backOf (W := 1) (rm12a l Z a0 hw [] (p3 &&& (4095 : Int32)) (p1 &&& (4095 : Int32)) b7 (p2 &&& (4095 : Int32)) b18  T88.heap n0 Z91 h32) hZ (hw _ (List.mem_of_getElem? (i := 87) rfl)) (hw _ (List.mem_of_getElem? (i := 2) rfl)) (by decide) (by decide)) (g := (mkF m 205 #[.val (.int p1), .val (.int p2), .val (.int p3), .val (.int p4), .val (.int p5), .val (.int (p1 &&& (4095 : Int32))), .val (.int (p2 &&& (4095 : Int32))), .val (.int (p3 &&& (4095 : Int32))), .val (.ref b2), .val (.ref b7), .val (.ref b12), .val (.ref b18), .val (.ref b25), .val (.int (1 : Int32)), .unset] [(.ref b18), (.int (p2 &&& (4095 : Int32))), (.ref b7), (.int (p1 &&& (4095 : Int32))), (.int (p3 &&& (4095 : Int32))), (.ref b18)])) rfl (by rw [hml]; rfl) (argsL := [(.int (p3 &&& (4095 : Int32))), (.int (p1 &&& (4095 : Int32))), (.ref b7), (.int (p2 &&& (4095 : Int32))), (.ref b18)]) (rest := [(.ref b18)]) (lenOf pd_4 rfl) rfl (by show 2 * 0 + _ ≤ _; exact Nat.le_of_eq rfl) (hb hby at_205) (fun _ _ => ⟨rfl, eq131, (by decide : 25 + 0 ≤ _), (by decide : 36920 + 0 ≤ _)⟩)
        dsimp only [Pt.U, Pt.locs, Pt.cells, Pt.slots] at X134 l134 y134 z134 st134 hQ134
        subst l134 y134 z134
        obtain ⟨rfl, Nq134, eq134⟩ := hQ134
        have N134 := Fr.app N131 Nq134
        have k135 : ∀ t, own_S p e below T134 (mkF m 208 #[.val (.int p1), .val (.int p2), .val (.int p3), .val (.int p4), .val (.int p5), .val (.int (p1 &&& (4095 : Int32))), .val (.int (p2 &&& (4095 : Int32))), .val (.int (p3 &&& (4095 : Int32))), .val (.ref b2), .val (.ref b7), .val (.ref b12), .val (.ref b18), .val (.ref b25), .val (.int (1 : Int32)), .unset] [(.ref b18), (.ref b18)]) t → Gl t := fun t kt => k133 t (st134 _ kt)
        have k136 : ∀ t, own_S p e below T134 (mkF m 233 #[.val (.int p1), .val (.int p2), .val (.int p3), .val (.int p4), .val (.int p5), .val (.int (p1 &&& (4095 : Int32))), .val (.int (p2 &&& (4095 : Int32))), .val (.int (p3 &&& (4095 : Int32))), .val (.ref b2), .val (.ref b7), .val (.ref b12), .val (.ref b18), .val (.ref b25), .val (.int (1 : Int32)), .val (.int (1 : Int32))] [(.int (1 : Int32))]) t → Gl t := fun t kt => k135 t (by
          show own_S p e below T134 (mkF m 208 #[.val (.int p1), .val (.int p2), .val (.int p3), .val (.int p4), .val (.int p5), .val (.int (p1 &&& (4095 : Int32))), .val (.int (p2 &&& (4095 : Int32))), .val (.int (p3 &&& (4095 : Int32))), .val (.ref b2), .val (.ref b7), .val (.ref b12), .val (.ref b18), .val (.ref b25), .val (.int (1 : Int32)), .unset] [(.ref b18), (.ref b18)]) _
          refine Jvm.RoadKit.acmp (g := (mkF m 208 #[.val (.int p1), .val (.int p2), .val (.int p3), .val (.int p4), .val (.int p5), .val (.int (p1 &&& (4095 : Int32))), .val (.int (p2 &&& (4095 : Int32))), .val (.int (p3 &&& (4095 : Int32))), .val (.ref b2), .val (.ref b7), .val (.ref b12), .val (.ref b18), .val (.ref b25), .val (.int (1 : Int32)), .unset] [(.ref b18), (.ref b18)])) X134 hx rfl rfl rfl (pc0 := 208) (pc' := 211) (same := true) rfl (hb hby at_208) rfl (decide_eq_true rfl) (by decide) (by decide) ?_
          show own_S p e below T134 (mkF m 211 #[.val (.int p1), .val (.int p2), .val (.int p3), .val (.int p4), .val (.int p5), .val (.int (p1 &&& (4095 : Int32))), .val (.int (p2 &&& (4095 : Int32))), .val (.int (p3 &&& (4095 : Int32))), .val (.ref b2), .val (.ref b7), .val (.ref b12), .val (.ref b18), .val (.ref b25), .val (.int (1 : Int32)), .unset] []) _
          refine XS.iconst X134.here hx rfl (hb hby at_211) ?_
          show own_S p e below T134 (mkF m 212 #[.val (.int p1), .val (.int p2), .val (.int p3), .val (.int p4), .val (.int p5), .val (.int (p1 &&& (4095 : Int32))), .val (.int (p2 &&& (4095 : Int32))), .val (.int (p3 &&& (4095 : Int32))), .val (.ref b2), .val (.ref b7), .val (.ref b12), .val (.ref b18), .val (.ref b25), .val (.int (1 : Int32)), .unset] [(.int (1 : Int32))]) _
          refine XS.goto X134.here hx rfl (pc0 := 212) (pc' := 216) rfl (hb hby at_212) (by decide) (by decide) ?_
          show own_S p e below T134 (mkF m 216 #[.val (.int p1), .val (.int p2), .val (.int p3), .val (.int p4), .val (.int p5), .val (.int (p1 &&& (4095 : Int32))), .val (.int (p2 &&& (4095 : Int32))), .val (.int (p3 &&& (4095 : Int32))), .val (.ref b2), .val (.ref b7), .val (.ref b12), .val (.ref b18), .val (.ref b25), .val (.int (1 : Int32)), .unset] [(.int (1 : Int32))]) _
          refine XS.istore X134.here hx rfl (hb hby at_216) rfl (l' := #[.val (.int p1), .val (.int p2), .val (.int p3), .val (.int p4), .val (.int p5), .val (.int (p1 &&& (4095 : Int32))), .val (.int (p2 &&& (4095 : Int32))), .val (.int (p3 &&& (4095 : Int32))), .val (.ref b2), .val (.ref b7), .val (.ref b12), .val (.ref b18), .val (.ref b25), .val (.int (1 : Int32)), .val (.int (1 : Int32))]) rfl ?_
          show own_S p e below T134 (mkF m 218 #[.val (.int p1), .val (.int p2), .val (.int p3), .val (.int p4), .val (.int p5), .val (.int (p1 &&& (4095 : Int32))), .val (.int (p2 &&& (4095 : Int32))), .val (.int (p3 &&& (4095 : Int32))), .val (.ref b2), .val (.ref b7), .val (.ref b12), .val (.ref b18), .val (.ref b25), .val (.int (1 : Int32)), .val (.int (1 : Int32))] []) _
          refine XS.iload X134.here hx rfl (hb hby at_218) rfl ?_
          show own_S p e below T134 (mkF m 220 #[.val (.int p1), .val (.int p2), .val (.int p3), .val (.int p4), .val (.int p5), .val (.int (p1 &&& (4095 : Int32))), .val (.int (p2 &&& (4095 : Int32))), .val (.int (p3 &&& (4095 : Int32))), .val (.ref b2), .val (.ref b7), .val (.ref b12), .val (.ref b18), .val (.ref b25), .val (.int (1 : Int32)), .val (.int (1 : Int32))] [(.int (1 : Int32))]) _
          refine XS.ifNo X134.here hx rfl (hb hby at_220) rfl ((if0 _ _).trans (feq (by decide : ¬ ((1 : Int32) = (0 : Int32)))).1) ?_
          show own_S p e below T134 (mkF m 223 #[.val (.int p1), .val (.int p2), .val (.int p3), .val (.int p4), .val (.int p5), .val (.int (p1 &&& (4095 : Int32))), .val (.int (p2 &&& (4095 : Int32))), .val (.int (p3 &&& (4095 : Int32))), .val (.ref b2), .val (.ref b7), .val (.ref b12), .val (.ref b18), .val (.ref b25), .val (.int (1 : Int32)), .val (.int (1 : Int32))] []) _
          refine XS.iload X134.here hx rfl (hb hby at_223) rfl ?_
          show own_S p e below T134 (mkF m 225 #[.val (.int p1), .val (.int p2), .val (.int p3), .val (.int p4), .val (.int p5), .val (.int (p1 &&& (4095 : Int32))), .val (.int (p2 &&& (4095 : Int32))), .val (.int (p3 &&& (4095 : Int32))), .val (.ref b2), .val (.ref b7), .val (.ref b12), .val (.ref b18), .val (.ref b25), .val (.int (1 : Int32)), .val (.int (1 : Int32))] [(.int (1 : Int32))]) _
          refine XS.ifNo X134.here hx rfl (hb hby at_225) rfl ((if0 _ _).trans (feq (by decide : ¬ ((1 : Int32) = (0 : Int32)))).1) ?_
          show own_S p e below T134 (mkF m 228 #[.val (.int p1), .val (.int p2), .val (.int p3), .val (.int p4), .val (.int p5), .val (.int (p1 &&& (4095 : Int32))), .val (.int (p2 &&& (4095 : Int32))), .val (.int (p3 &&& (4095 : Int32))), .val (.ref b2), .val (.ref b7), .val (.ref b12), .val (.ref b18), .val (.ref b25), .val (.int (1 : Int32)), .val (.int (1 : Int32))] []) _
          refine XS.iconst X134.here hx rfl (hb hby at_228) ?_
          show own_S p e below T134 (mkF m 229 #[.val (.int p1), .val (.int p2), .val (.int p3), .val (.int p4), .val (.int p5), .val (.int (p1 &&& (4095 : Int32))), .val (.int (p2 &&& (4095 : Int32))), .val (.int (p3 &&& (4095 : Int32))), .val (.ref b2), .val (.ref b7), .val (.ref b12), .val (.ref b18), .val (.ref b25), .val (.int (1 : Int32)), .val (.int (1 : Int32))] [(.int (1 : Int32))]) _
          refine XS.goto X134.here hx rfl (pc0 := 229) (pc' := 233) rfl (hb hby at_229) (by decide) (by decide) ?_
          exact kt)
        obtain ⟨fs, hr, hrun, hended, hW, hsame⟩ := X134.leave (v := some (.int (1 : Int32))) (fun h => by rw [Bd.returns] at h; cases h)
        refine ⟨_, _, hGl _ (k136 _ (retN X134 hx (t := .boolean) Bd.returns (by simp) (hb hby at_233) hr)), hrun, hended, _, _, rfl, ?_, ⟨_, rfl⟩, hW, hsame.mono (by decide) (by decide)⟩
        show Q0 Z p1 p2 p3 p4 p5 G1 h0 n0 _ T134.heap _
        rw [eq134]
        exact ⟨rfl, N134⟩
      · have k137 : ∀ t, own_S p e below T127 (mkF m 192 #[.val (.int p1), .val (.int p2), .val (.int p3), .val (.int p4), .val (.int p5), .val (.int (p1 &&& (4095 : Int32))), .val (.int (p2 &&& (4095 : Int32))), .val (.int (p3 &&& (4095 : Int32))), .val (.ref b2), .val (.ref b7), .val (.ref b12), .val (.ref b18), .val (.ref b25), .val (.int (1 : Int32)), .unset] [(.int (p3 &&& (4095 : Int32))), (.ref b25)]) t → Gl t := fun t kt => k129 t (by
          show own_S p e below T127 (mkF m 188 #[.val (.int p1), .val (.int p2), .val (.int p3), .val (.int p4), .val (.int p5), .val (.int (p1 &&& (4095 : Int32))), .val (.int (p2 &&& (4095 : Int32))), .val (.int (p3 &&& (4095 : Int32))), .val (.ref b2), .val (.ref b7), .val (.ref b12), .val (.ref b18), .val (.ref b25), .val (.int (1 : Int32)), .unset] []) _
          refine XS.aload X127.here hx rfl (hb hby at_188) rfl rfl ?_
          show own_S p e below T127 (mkF m 190 #[.val (.int p1), .val (.int p2), .val (.int p3), .val (.int p4), .val (.int p5), .val (.int (p1 &&& (4095 : Int32))), .val (.int (p2 &&& (4095 : Int32))), .val (.int (p3 &&& (4095 : Int32))), .val (.ref b2), .val (.ref b7), .val (.ref b12), .val (.ref b18), .val (.ref b25), .val (.int (1 : Int32)), .unset] [(.ref b25)]) _
          refine XS.iload X127.here hx rfl (hb hby at_190) rfl ?_
          exact kt)
        obtain ⟨cq138, kq138, qa138, qb138, qc138⟩ := isOf hZ eq127 f99
        obtain ⟨_, _, ⟨T138, L138, cc138, ss138⟩, -, X138, ⟨Lc138, hQ138, l138, y138, z138⟩, st138⟩ := X127.virtualBack hx (y := (⟨"com/example/pricecollar/pricecollar/tape/TradeTape$Columns", "conditions", "(I)Ljava/lang/String;"⟩ : MethodName)) (z := (⟨"com/example/pricecollar/pricecollar/tape/TradeTape$Columns", "conditions", "(I)Ljava/lang/String;"⟩ : MethodName)) hown (mvT hZ (hw _ (List.mem_of_getElem? (i := 80) rfl))) (mvT hZ (hw _ (List.mem_of_getElem? (i := 81) rfl))) (notFace_of_selects (args := #[]) (mvT hZ (hw _ (List.mem_of_getElem? (i := 83) rfl)))) (mvT hZ (hw _ (List.mem_of_getElem? (i := 83) rfl))) (mvT hZ (hw _ (List.mem_of_getElem? (i := 82) rfl))) (by decide) (backOf (W := 0) (rm11r l Z a0 hw [] b25 (p3 &&& (4095 : Int32)) b33 bC67 kk33 kC67 [((p3 &&& (4095 : Int32)), (.int (-1 : Int32))), ((p2 &&& (4095 : Int32)), (.int (-1 : Int32))), ((p1 &&& (4095 : Int32)), (.int (-1 : Int32)))] [((p2 &&& (4095 : Int32)), (.ref b18)), ((p1 &&& (4095 : Int32)), (.ref b7))] b7 T88.heap n0 Z91 f96 f97 f98 VC88 (own_4095 p3) (getH_hit (own_4095 p3).1 rfl) (getH_miss (own_4095 p3).1 h32 (getH_hit (own_4095 p3).1 h31))) hZ (hw _ (List.mem_of_getElem? (i := 84) rfl)) (hw _ (List.mem_of_getElem? (i := 36) rfl)) (by decide) (by decide)) qa138 qc138 (g := (mkF m 192 #[.val (.int p1), .val (.int p2), .val (.int p3), .val (.int p4), .val (.int p5), .val (.int (p1 &&& (4095 : Int32))), .val (.int (p2 &&& (4095 : Int32))), .val (.int (p3 &&& (4095 : Int32))), .val (.ref b2), .val (.ref b7), .val (.ref b12), .val (.ref b18), .val (.ref b25), .val (.int (1 : Int32)), .unset] [(.int (p3 &&& (4095 : Int32))), (.ref b25)])) rfl (by rw [hml]; rfl) (Steps.refl _) (argsL := [(.int (p3 &&& (4095 : Int32)))]) (rest := []) (lenOf pd_2 rfl) rfl (by show 2 * 0 + _ ≤ _; exact Nat.le_of_eq rfl) (hb hby at_192) (fun _ _ => ⟨rfl, eq127, (by decide : 25 + 0 ≤ _), (by decide : 36920 + 0 ≤ _)⟩)
        dsimp only [Pt.U, Pt.locs, Pt.cells, Pt.slots] at X138 l138 y138 z138 st138 hQ138
        subst l138 y138 z138
        obtain ⟨rfl, Nq138, eq138⟩ := hQ138
        have N138 := Fr.app N127 Nq138
        have k139 : ∀ t, own_S p e below T138 (mkF m 195 #[.val (.int p1), .val (.int p2), .val (.int p3), .val (.int p4), .val (.int p5), .val (.int (p1 &&& (4095 : Int32))), .val (.int (p2 &&& (4095 : Int32))), .val (.int (p3 &&& (4095 : Int32))), .val (.ref b2), .val (.ref b7), .val (.ref b12), .val (.ref b18), .val (.ref b25), .val (.int (1 : Int32)), .unset] [(.ref b7)]) t → Gl t := fun t kt => k137 t (st138.trans kt)
        have k140 : ∀ t, own_S p e below T138 (mkF m 205 #[.val (.int p1), .val (.int p2), .val (.int p3), .val (.int p4), .val (.int p5), .val (.int (p1 &&& (4095 : Int32))), .val (.int (p2 &&& (4095 : Int32))), .val (.int (p3 &&& (4095 : Int32))), .val (.ref b2), .val (.ref b7), .val (.ref b12), .val (.ref b18), .val (.ref b25), .val (.int (1 : Int32)), .unset] [(.ref b18), (.int (p2 &&& (4095 : Int32))), (.ref b7), (.int (p1 &&& (4095 : Int32))), (.int (p3 &&& (4095 : Int32))), (.ref b7)]) t → Gl t := fun t kt => k139 t (by
          show own_S p e below T138 (mkF m 195 #[.val (.int p1), .val (.int p2), .val (.int p3), .val (.int p4), .val (.int p5), .val (.int (p1 &&& (4095 : Int32))), .val (.int (p2 &&& (4095 : Int32))), .val (.int (p3 &&& (4095 : Int32))), .val (.ref b2), .val (.ref b7), .val (.ref b12), .val (.ref b18), .val (.ref b25), .val (.int (1 : Int32)), .unset] [(.ref b7)]) _
          refine XS.iload X138.here hx rfl (hb hby at_195) rfl ?_
          show own_S p e below T138 (mkF m 197 #[.val (.int p1), .val (.int p2), .val (.int p3), .val (.int p4), .val (.int p5), .val (.int (p1 &&& (4095 : Int32))), .val (.int (p2 &&& (4095 : Int32))), .val (.int (p3 &&& (4095 : Int32))), .val (.ref b2), .val (.ref b7), .val (.ref b12), .val (.ref b18), .val (.ref b25), .val (.int (1 : Int32)), .unset] [(.int (p3 &&& (4095 : Int32))), (.ref b7)]) _
          refine XS.iload X138.here hx rfl (hb hby at_197) rfl ?_
          show own_S p e below T138 (mkF m 199 #[.val (.int p1), .val (.int p2), .val (.int p3), .val (.int p4), .val (.int p5), .val (.int (p1 &&& (4095 : Int32))), .val (.int (p2 &&& (4095 : Int32))), .val (.int (p3 &&& (4095 : Int32))), .val (.ref b2), .val (.ref b7), .val (.ref b12), .val (.ref b18), .val (.ref b25), .val (.int (1 : Int32)), .unset] [(.int (p1 &&& (4095 : Int32))), (.int (p3 &&& (4095 : Int32))), (.ref b7)]) _
          refine XS.aload X138.here hx rfl (hb hby at_199) rfl rfl ?_
          show own_S p e below T138 (mkF m 201 #[.val (.int p1), .val (.int p2), .val (.int p3), .val (.int p4), .val (.int p5), .val (.int (p1 &&& (4095 : Int32))), .val (.int (p2 &&& (4095 : Int32))), .val (.int (p3 &&& (4095 : Int32))), .val (.ref b2), .val (.ref b7), .val (.ref b12), .val (.ref b18), .val (.ref b25), .val (.int (1 : Int32)), .unset] [(.ref b7), (.int (p1 &&& (4095 : Int32))), (.int (p3 &&& (4095 : Int32))), (.ref b7)]) _
          refine XS.iload X138.here hx rfl (hb hby at_201) rfl ?_
          show own_S p e below T138 (mkF m 203 #[.val (.int p1), .val (.int p2), .val (.int p3), .val (.int p4), .val (.int p5), .val (.int (p1 &&& (4095 : Int32))), .val (.int (p2 &&& (4095 : Int32))), .val (.int (p3 &&& (4095 : Int32))), .val (.ref b2), .val (.ref b7), .val (.ref b12), .val (.ref b18), .val (.ref b25), .val (.int (1 : Int32)), .unset] [(.int (p2 &&& (4095 : Int32))), (.ref b7), (.int (p1 &&& (4095 : Int32))), (.int (p3 &&& (4095 : Int32))), (.ref b7)]) _
          refine XS.aload X138.here hx rfl (hb hby at_203) rfl rfl ?_
          exact kt)
        obtain ⟨_, _, ⟨T141, L141, cc141, ss141⟩, -, X141, ⟨Lc141, hQ141, l141, y141, z141⟩, st141⟩ := Jvm.LawKit.callS X138 hx (y := (⟨"com/example/pricecollar/pricecollar/tape/ColumnsKeepUnnumberedPinLaw", "expected", "(IILjava/lang/String;ILjava/lang/String;)Ljava/lang/String;"⟩ : MethodName)) hown (mvT hZ (hw _ (List.mem_of_getElem? (i := 85) rfl))) (mvT hZ (hw _ (List.mem_of_getElem? (i := 86) rfl))) (mvT hZ (hw _ (List.mem_of_getElem? (i := 2) rfl))) (mvT hZ (hw _ (List.mem_of_getElem? (i := 87) rfl))) (by decide) (backOf (W := 1) (rm12b l Z a0 hw [] (p3 &&& (4095 : Int32)) (p1 &&& (4095 : Int32)) b7 (p2 &&& (4095 : Int32)) b18  T88.heap n0 Z91 h32 h31) hZ (hw _ (List.mem_of_getElem? (i := 87) rfl)) (hw _ (List.mem_of_getElem? (i := 2) rfl)) (by decide) (by decide)) (g := (mkF m 205 #[.val (.int p1), .val (.int p2), .val (.int p3), .val (.int p4), .val (.int p5), .val (.int (p1 &&& (4095 : Int32))), .val (.int (p2 &&& (4095 : Int32))), .val (.int (p3 &&& (4095 : Int32))), .val (.ref b2), .val (.ref b7), .val (.ref b12), .val (.ref b18), .val (.ref b25), .val (.int (1 : Int32)), .unset] [(.ref b18), (.int (p2 &&& (4095 : Int32))), (.ref b7), (.int (p1 &&& (4095 : Int32))), (.int (p3 &&& (4095 : Int32))), (.ref b7)])) rfl (by rw [hml]; rfl) (argsL := [(.int (p3 &&& (4095 : Int32))), (.int (p1 &&& (4095 : Int32))), (.ref b7), (.int (p2 &&& (4095 : Int32))), (.ref b18)]) (rest := [(.ref b7)]) (lenOf pd_4 rfl) rfl (by show 2 * 0 + _ ≤ _; exact Nat.le_of_eq rfl) (hb hby at_205) (fun _ _ => ⟨rfl, eq138, (by decide : 25 + 0 ≤ _), (by decide : 36920 + 0 ≤ _)⟩)
        dsimp only [Pt.U, Pt.locs, Pt.cells, Pt.slots] at X141 l141 y141 z141 st141 hQ141
        subst l141 y141 z141
        obtain ⟨rfl, Nq141, eq141⟩ := hQ141
        have N141 := Fr.app N138 Nq141
        have k142 : ∀ t, own_S p e below T141 (mkF m 208 #[.val (.int p1), .val (.int p2), .val (.int p3), .val (.int p4), .val (.int p5), .val (.int (p1 &&& (4095 : Int32))), .val (.int (p2 &&& (4095 : Int32))), .val (.int (p3 &&& (4095 : Int32))), .val (.ref b2), .val (.ref b7), .val (.ref b12), .val (.ref b18), .val (.ref b25), .val (.int (1 : Int32)), .unset] [(.ref b7), (.ref b7)]) t → Gl t := fun t kt => k140 t (st141 _ kt)
        have k143 : ∀ t, own_S p e below T141 (mkF m 233 #[.val (.int p1), .val (.int p2), .val (.int p3), .val (.int p4), .val (.int p5), .val (.int (p1 &&& (4095 : Int32))), .val (.int (p2 &&& (4095 : Int32))), .val (.int (p3 &&& (4095 : Int32))), .val (.ref b2), .val (.ref b7), .val (.ref b12), .val (.ref b18), .val (.ref b25), .val (.int (1 : Int32)), .val (.int (1 : Int32))] [(.int (1 : Int32))]) t → Gl t := fun t kt => k142 t (by
          show own_S p e below T141 (mkF m 208 #[.val (.int p1), .val (.int p2), .val (.int p3), .val (.int p4), .val (.int p5), .val (.int (p1 &&& (4095 : Int32))), .val (.int (p2 &&& (4095 : Int32))), .val (.int (p3 &&& (4095 : Int32))), .val (.ref b2), .val (.ref b7), .val (.ref b12), .val (.ref b18), .val (.ref b25), .val (.int (1 : Int32)), .unset] [(.ref b7), (.ref b7)]) _
          refine Jvm.RoadKit.acmp (g := (mkF m 208 #[.val (.int p1), .val (.int p2), .val (.int p3), .val (.int p4), .val (.int p5), .val (.int (p1 &&& (4095 : Int32))), .val (.int (p2 &&& (4095 : Int32))), .val (.int (p3 &&& (4095 : Int32))), .val (.ref b2), .val (.ref b7), .val (.ref b12), .val (.ref b18), .val (.ref b25), .val (.int (1 : Int32)), .unset] [(.ref b7), (.ref b7)])) X141 hx rfl rfl rfl (pc0 := 208) (pc' := 211) (same := true) rfl (hb hby at_208) rfl (decide_eq_true rfl) (by decide) (by decide) ?_
          show own_S p e below T141 (mkF m 211 #[.val (.int p1), .val (.int p2), .val (.int p3), .val (.int p4), .val (.int p5), .val (.int (p1 &&& (4095 : Int32))), .val (.int (p2 &&& (4095 : Int32))), .val (.int (p3 &&& (4095 : Int32))), .val (.ref b2), .val (.ref b7), .val (.ref b12), .val (.ref b18), .val (.ref b25), .val (.int (1 : Int32)), .unset] []) _
          refine XS.iconst X141.here hx rfl (hb hby at_211) ?_
          show own_S p e below T141 (mkF m 212 #[.val (.int p1), .val (.int p2), .val (.int p3), .val (.int p4), .val (.int p5), .val (.int (p1 &&& (4095 : Int32))), .val (.int (p2 &&& (4095 : Int32))), .val (.int (p3 &&& (4095 : Int32))), .val (.ref b2), .val (.ref b7), .val (.ref b12), .val (.ref b18), .val (.ref b25), .val (.int (1 : Int32)), .unset] [(.int (1 : Int32))]) _
          refine XS.goto X141.here hx rfl (pc0 := 212) (pc' := 216) rfl (hb hby at_212) (by decide) (by decide) ?_
          show own_S p e below T141 (mkF m 216 #[.val (.int p1), .val (.int p2), .val (.int p3), .val (.int p4), .val (.int p5), .val (.int (p1 &&& (4095 : Int32))), .val (.int (p2 &&& (4095 : Int32))), .val (.int (p3 &&& (4095 : Int32))), .val (.ref b2), .val (.ref b7), .val (.ref b12), .val (.ref b18), .val (.ref b25), .val (.int (1 : Int32)), .unset] [(.int (1 : Int32))]) _
          refine XS.istore X141.here hx rfl (hb hby at_216) rfl (l' := #[.val (.int p1), .val (.int p2), .val (.int p3), .val (.int p4), .val (.int p5), .val (.int (p1 &&& (4095 : Int32))), .val (.int (p2 &&& (4095 : Int32))), .val (.int (p3 &&& (4095 : Int32))), .val (.ref b2), .val (.ref b7), .val (.ref b12), .val (.ref b18), .val (.ref b25), .val (.int (1 : Int32)), .val (.int (1 : Int32))]) rfl ?_
          show own_S p e below T141 (mkF m 218 #[.val (.int p1), .val (.int p2), .val (.int p3), .val (.int p4), .val (.int p5), .val (.int (p1 &&& (4095 : Int32))), .val (.int (p2 &&& (4095 : Int32))), .val (.int (p3 &&& (4095 : Int32))), .val (.ref b2), .val (.ref b7), .val (.ref b12), .val (.ref b18), .val (.ref b25), .val (.int (1 : Int32)), .val (.int (1 : Int32))] []) _
          refine XS.iload X141.here hx rfl (hb hby at_218) rfl ?_
          show own_S p e below T141 (mkF m 220 #[.val (.int p1), .val (.int p2), .val (.int p3), .val (.int p4), .val (.int p5), .val (.int (p1 &&& (4095 : Int32))), .val (.int (p2 &&& (4095 : Int32))), .val (.int (p3 &&& (4095 : Int32))), .val (.ref b2), .val (.ref b7), .val (.ref b12), .val (.ref b18), .val (.ref b25), .val (.int (1 : Int32)), .val (.int (1 : Int32))] [(.int (1 : Int32))]) _
          refine XS.ifNo X141.here hx rfl (hb hby at_220) rfl ((if0 _ _).trans (feq (by decide : ¬ ((1 : Int32) = (0 : Int32)))).1) ?_
          show own_S p e below T141 (mkF m 223 #[.val (.int p1), .val (.int p2), .val (.int p3), .val (.int p4), .val (.int p5), .val (.int (p1 &&& (4095 : Int32))), .val (.int (p2 &&& (4095 : Int32))), .val (.int (p3 &&& (4095 : Int32))), .val (.ref b2), .val (.ref b7), .val (.ref b12), .val (.ref b18), .val (.ref b25), .val (.int (1 : Int32)), .val (.int (1 : Int32))] []) _
          refine XS.iload X141.here hx rfl (hb hby at_223) rfl ?_
          show own_S p e below T141 (mkF m 225 #[.val (.int p1), .val (.int p2), .val (.int p3), .val (.int p4), .val (.int p5), .val (.int (p1 &&& (4095 : Int32))), .val (.int (p2 &&& (4095 : Int32))), .val (.int (p3 &&& (4095 : Int32))), .val (.ref b2), .val (.ref b7), .val (.ref b12), .val (.ref b18), .val (.ref b25), .val (.int (1 : Int32)), .val (.int (1 : Int32))] [(.int (1 : Int32))]) _
          refine XS.ifNo X141.here hx rfl (hb hby at_225) rfl ((if0 _ _).trans (feq (by decide : ¬ ((1 : Int32) = (0 : Int32)))).1) ?_
          show own_S p e below T141 (mkF m 228 #[.val (.int p1), .val (.int p2), .val (.int p3), .val (.int p4), .val (.int p5), .val (.int (p1 &&& (4095 : Int32))), .val (.int (p2 &&& (4095 : Int32))), .val (.int (p3 &&& (4095 : Int32))), .val (.ref b2), .val (.ref b7), .val (.ref b12), .val (.ref b18), .val (.ref b25), .val (.int (1 : Int32)), .val (.int (1 : Int32))] []) _
          refine XS.iconst X141.here hx rfl (hb hby at_228) ?_
          show own_S p e below T141 (mkF m 229 #[.val (.int p1), .val (.int p2), .val (.int p3), .val (.int p4), .val (.int p5), .val (.int (p1 &&& (4095 : Int32))), .val (.int (p2 &&& (4095 : Int32))), .val (.int (p3 &&& (4095 : Int32))), .val (.ref b2), .val (.ref b7), .val (.ref b12), .val (.ref b18), .val (.ref b25), .val (.int (1 : Int32)), .val (.int (1 : Int32))] [(.int (1 : Int32))]) _
          refine XS.goto X141.here hx rfl (pc0 := 229) (pc' := 233) rfl (hb hby at_229) (by decide) (by decide) ?_
          exact kt)
        obtain ⟨fs, hr, hrun, hended, hW, hsame⟩ := X141.leave (v := some (.int (1 : Int32))) (fun h => by rw [Bd.returns] at h; cases h)
        refine ⟨_, _, hGl _ (k143 _ (retN X141 hx (t := .boolean) Bd.returns (by simp) (hb hby at_233) hr)), hrun, hended, _, _, rfl, ?_, ⟨_, rfl⟩, hW, hsame.mono (by decide) (by decide)⟩
        show Q0 Z p1 p2 p3 p4 p5 G1 h0 n0 _ T141.heap _
        rw [eq141]
        exact ⟨rfl, N141⟩
  · have k144 : ∀ t, own_S p e below T78 (mkF m 116 #[.val (.int p1), .val (.int p2), .val (.int p3), .val (.int p4), .val (.int p5), .val (.int (p1 &&& (4095 : Int32))), .val (.int (p2 &&& (4095 : Int32))), .val (.int (p3 &&& (4095 : Int32))), .val (.ref b2), .val (.ref b7), .val (.ref b12), .val (.ref b18), .val (.ref b25), .unset, .unset] [(.int (p3 &&& (4095 : Int32))), (.ref b25)]) t → Gl t := fun t kt => k81 t (by
      show own_S p e below T78 (mkF m 112 #[.val (.int p1), .val (.int p2), .val (.int p3), .val (.int p4), .val (.int p5), .val (.int (p1 &&& (4095 : Int32))), .val (.int (p2 &&& (4095 : Int32))), .val (.int (p3 &&& (4095 : Int32))), .val (.ref b2), .val (.ref b7), .val (.ref b12), .val (.ref b18), .val (.ref b25), .unset, .unset] []) _
      refine XS.aload X78.here hx rfl (hb hby at_112) rfl rfl ?_
      show own_S p e below T78 (mkF m 114 #[.val (.int p1), .val (.int p2), .val (.int p3), .val (.int p4), .val (.int p5), .val (.int (p1 &&& (4095 : Int32))), .val (.int (p2 &&& (4095 : Int32))), .val (.int (p3 &&& (4095 : Int32))), .val (.ref b2), .val (.ref b7), .val (.ref b12), .val (.ref b18), .val (.ref b25), .unset, .unset] [(.ref b25)]) _
      refine XS.iload X78.here hx rfl (hb hby at_114) rfl ?_
      exact kt)
    obtain ⟨cq145, kq145, qa145, qb145, qc145⟩ := isOf hZ eq78 Ex67
    obtain ⟨_, _, ⟨T145, L145, cc145, ss145⟩, -, X145, ⟨Lc145, hQ145, l145, y145, z145⟩, st145⟩ := X78.virtualBack hx (y := (⟨"com/example/pricecollar/pricecollar/tape/TradeTape$Columns", "conditions", "(I)Ljava/lang/String;"⟩ : MethodName)) (z := (⟨"com/example/pricecollar/pricecollar/tape/TradeTape$Columns", "conditions", "(I)Ljava/lang/String;"⟩ : MethodName)) hown (mvT hZ (hw _ (List.mem_of_getElem? (i := 80) rfl))) (mvT hZ (hw _ (List.mem_of_getElem? (i := 81) rfl))) (notFace_of_selects (args := #[]) (mvT hZ (hw _ (List.mem_of_getElem? (i := 83) rfl)))) (mvT hZ (hw _ (List.mem_of_getElem? (i := 83) rfl))) (mvT hZ (hw _ (List.mem_of_getElem? (i := 82) rfl))) (by decide) (backOf (W := 0) (rm11n l Z a0 hw [] b25 (p3 &&& (4095 : Int32)) b33 bC67 kk33 kC67 [((p3 &&& (4095 : Int32)), (.int (-1 : Int32))), ((p2 &&& (4095 : Int32)), (.int (-1 : Int32))), ((p1 &&& (4095 : Int32)), (.int (-1 : Int32)))] [((p1 &&& (4095 : Int32)), (.ref b7))] T67.heap n0 Z74 Fn67 Fc67 f79 VC67 (own_4095 p3) (getH_hit (own_4095 p3).1 rfl) (getH_miss (own_4095 p3).1 h31 rfl)) hZ (hw _ (List.mem_of_getElem? (i := 84) rfl)) (hw _ (List.mem_of_getElem? (i := 36) rfl)) (by decide) (by decide)) qa145 qc145 (g := (mkF m 116 #[.val (.int p1), .val (.int p2), .val (.int p3), .val (.int p4), .val (.int p5), .val (.int (p1 &&& (4095 : Int32))), .val (.int (p2 &&& (4095 : Int32))), .val (.int (p3 &&& (4095 : Int32))), .val (.ref b2), .val (.ref b7), .val (.ref b12), .val (.ref b18), .val (.ref b25), .unset, .unset] [(.int (p3 &&& (4095 : Int32))), (.ref b25)])) rfl (by rw [hml]; rfl) (Steps.refl _) (argsL := [(.int (p3 &&& (4095 : Int32)))]) (rest := []) (lenOf pd_2 rfl) rfl (by show 2 * 0 + _ ≤ _; exact Nat.le_of_eq rfl) (hb hby at_116) (fun _ _ => ⟨rfl, eq78, (by decide : 25 + 0 ≤ _), (by decide : 36920 + 0 ≤ _)⟩)
    dsimp only [Pt.U, Pt.locs, Pt.cells, Pt.slots] at X145 l145 y145 z145 st145 hQ145
    subst l145 y145 z145
    obtain ⟨rfl, Nq145, eq145⟩ := hQ145
    have N145 := Fr.app N78 Nq145
    have k146 : ∀ t, own_S p e below T145 (mkF m 119 #[.val (.int p1), .val (.int p2), .val (.int p3), .val (.int p4), .val (.int p5), .val (.int (p1 &&& (4095 : Int32))), .val (.int (p2 &&& (4095 : Int32))), .val (.int (p3 &&& (4095 : Int32))), .val (.ref b2), .val (.ref b7), .val (.ref b12), .val (.ref b18), .val (.ref b25), .unset, .unset] [.null]) t → Gl t := fun t kt => k144 t (st145.trans kt)
    have k147 : ∀ t, own_S p e below T145 (mkF m 123 #[.val (.int p1), .val (.int p2), .val (.int p3), .val (.int p4), .val (.int p5), .val (.int (p1 &&& (4095 : Int32))), .val (.int (p2 &&& (4095 : Int32))), .val (.int (p3 &&& (4095 : Int32))), .val (.ref b2), .val (.ref b7), .val (.ref b12), .val (.ref b18), .val (.ref b25), .unset, .unset] [(.int (p1 &&& (4095 : Int32))), (.int (p3 &&& (4095 : Int32))), .null]) t → Gl t := fun t kt => k146 t (by
      show own_S p e below T145 (mkF m 119 #[.val (.int p1), .val (.int p2), .val (.int p3), .val (.int p4), .val (.int p5), .val (.int (p1 &&& (4095 : Int32))), .val (.int (p2 &&& (4095 : Int32))), .val (.int (p3 &&& (4095 : Int32))), .val (.ref b2), .val (.ref b7), .val (.ref b12), .val (.ref b18), .val (.ref b25), .unset, .unset] [.null]) _
      refine XS.iload X145.here hx rfl (hb hby at_119) rfl ?_
      show own_S p e below T145 (mkF m 121 #[.val (.int p1), .val (.int p2), .val (.int p3), .val (.int p4), .val (.int p5), .val (.int (p1 &&& (4095 : Int32))), .val (.int (p2 &&& (4095 : Int32))), .val (.int (p3 &&& (4095 : Int32))), .val (.ref b2), .val (.ref b7), .val (.ref b12), .val (.ref b18), .val (.ref b25), .unset, .unset] [(.int (p3 &&& (4095 : Int32))), .null]) _
      refine XS.iload X145.here hx rfl (hb hby at_121) rfl ?_
      exact kt)
    have hc123_148 : ¬ ((p3 &&& (4095 : Int32)) = (p1 &&& (4095 : Int32))) := h31
    have k149 : ∀ t, own_S p e below T145 (mkF m 150 #[.val (.int p1), .val (.int p2), .val (.int p3), .val (.int p4), .val (.int p5), .val (.int (p1 &&& (4095 : Int32))), .val (.int (p2 &&& (4095 : Int32))), .val (.int (p3 &&& (4095 : Int32))), .val (.ref b2), .val (.ref b7), .val (.ref b12), .val (.ref b18), .val (.ref b25), .val (.int (1 : Int32)), .unset] [(.ref b18), (.ref b12), (.int (p2 &&& (4095 : Int32))), (.ref b25)]) t → Gl t := fun t kt => k147 t (by
      show own_S p e below T145 (mkF m 123 #[.val (.int p1), .val (.int p2), .val (.int p3), .val (.int p4), .val (.int p5), .val (.int (p1 &&& (4095 : Int32))), .val (.int (p2 &&& (4095 : Int32))), .val (.int (p3 &&& (4095 : Int32))), .val (.ref b2), .val (.ref b7), .val (.ref b12), .val (.ref b18), .val (.ref b25), .unset, .unset] [(.int (p1 &&& (4095 : Int32))), (.int (p3 &&& (4095 : Int32))), .null]) _
      refine XS.icmpYes X145.here hx rfl (pc0 := 123) (pc' := 131) rfl (hb hby at_123) rfl (feq hc123_148).2 (by decide) (by decide) ?_
      show own_S p e below T145 (mkF m 131 #[.val (.int p1), .val (.int p2), .val (.int p3), .val (.int p4), .val (.int p5), .val (.int (p1 &&& (4095 : Int32))), .val (.int (p2 &&& (4095 : Int32))), .val (.int (p3 &&& (4095 : Int32))), .val (.ref b2), .val (.ref b7), .val (.ref b12), .val (.ref b18), .val (.ref b25), .unset, .unset] [.null]) _
      refine XS.aconstNull X145.here hx rfl (hb hby at_131) ?_
      show own_S p e below T145 (mkF m 132 #[.val (.int p1), .val (.int p2), .val (.int p3), .val (.int p4), .val (.int p5), .val (.int (p1 &&& (4095 : Int32))), .val (.int (p2 &&& (4095 : Int32))), .val (.int (p3 &&& (4095 : Int32))), .val (.ref b2), .val (.ref b7), .val (.ref b12), .val (.ref b18), .val (.ref b25), .unset, .unset] [.null, .null]) _
      refine Jvm.RoadKit.acmp (g := (mkF m 132 #[.val (.int p1), .val (.int p2), .val (.int p3), .val (.int p4), .val (.int p5), .val (.int (p1 &&& (4095 : Int32))), .val (.int (p2 &&& (4095 : Int32))), .val (.int (p3 &&& (4095 : Int32))), .val (.ref b2), .val (.ref b7), .val (.ref b12), .val (.ref b18), .val (.ref b25), .unset, .unset] [.null, .null])) X145 hx rfl rfl rfl (pc0 := 132) (pc' := 135) (same := true) rfl (hb hby at_132) rfl (decide_eq_true rfl) (by decide) (by decide) ?_
      show own_S p e below T145 (mkF m 135 #[.val (.int p1), .val (.int p2), .val (.int p3), .val (.int p4), .val (.int p5), .val (.int (p1 &&& (4095 : Int32))), .val (.int (p2 &&& (4095 : Int32))), .val (.int (p3 &&& (4095 : Int32))), .val (.ref b2), .val (.ref b7), .val (.ref b12), .val (.ref b18), .val (.ref b25), .unset, .unset] []) _
      refine XS.iconst X145.here hx rfl (hb hby at_135) ?_
      show own_S p e below T145 (mkF m 136 #[.val (.int p1), .val (.int p2), .val (.int p3), .val (.int p4), .val (.int p5), .val (.int (p1 &&& (4095 : Int32))), .val (.int (p2 &&& (4095 : Int32))), .val (.int (p3 &&& (4095 : Int32))), .val (.ref b2), .val (.ref b7), .val (.ref b12), .val (.ref b18), .val (.ref b25), .unset, .unset] [(.int (1 : Int32))]) _
      refine XS.goto X145.here hx rfl (pc0 := 136) (pc' := 140) rfl (hb hby at_136) (by decide) (by decide) ?_
      show own_S p e below T145 (mkF m 140 #[.val (.int p1), .val (.int p2), .val (.int p3), .val (.int p4), .val (.int p5), .val (.int (p1 &&& (4095 : Int32))), .val (.int (p2 &&& (4095 : Int32))), .val (.int (p3 &&& (4095 : Int32))), .val (.ref b2), .val (.ref b7), .val (.ref b12), .val (.ref b18), .val (.ref b25), .unset, .unset] [(.int (1 : Int32))]) _
      refine XS.istore X145.here hx rfl (hb hby at_140) rfl (l' := #[.val (.int p1), .val (.int p2), .val (.int p3), .val (.int p4), .val (.int p5), .val (.int (p1 &&& (4095 : Int32))), .val (.int (p2 &&& (4095 : Int32))), .val (.int (p3 &&& (4095 : Int32))), .val (.ref b2), .val (.ref b7), .val (.ref b12), .val (.ref b18), .val (.ref b25), .val (.int (1 : Int32)), .unset]) rfl ?_
      show own_S p e below T145 (mkF m 142 #[.val (.int p1), .val (.int p2), .val (.int p3), .val (.int p4), .val (.int p5), .val (.int (p1 &&& (4095 : Int32))), .val (.int (p2 &&& (4095 : Int32))), .val (.int (p3 &&& (4095 : Int32))), .val (.ref b2), .val (.ref b7), .val (.ref b12), .val (.ref b18), .val (.ref b25), .val (.int (1 : Int32)), .unset] []) _
      refine XS.aload X145.here hx rfl (hb hby at_142) rfl rfl ?_
      show own_S p e below T145 (mkF m 144 #[.val (.int p1), .val (.int p2), .val (.int p3), .val (.int p4), .val (.int p5), .val (.int (p1 &&& (4095 : Int32))), .val (.int (p2 &&& (4095 : Int32))), .val (.int (p3 &&& (4095 : Int32))), .val (.ref b2), .val (.ref b7), .val (.ref b12), .val (.ref b18), .val (.ref b25), .val (.int (1 : Int32)), .unset] [(.ref b25)]) _
      refine XS.iload X145.here hx rfl (hb hby at_144) rfl ?_
      show own_S p e below T145 (mkF m 146 #[.val (.int p1), .val (.int p2), .val (.int p3), .val (.int p4), .val (.int p5), .val (.int (p1 &&& (4095 : Int32))), .val (.int (p2 &&& (4095 : Int32))), .val (.int (p3 &&& (4095 : Int32))), .val (.ref b2), .val (.ref b7), .val (.ref b12), .val (.ref b18), .val (.ref b25), .val (.int (1 : Int32)), .unset] [(.int (p2 &&& (4095 : Int32))), (.ref b25)]) _
      refine XS.aload X145.here hx rfl (hb hby at_146) rfl rfl ?_
      show own_S p e below T145 (mkF m 148 #[.val (.int p1), .val (.int p2), .val (.int p3), .val (.int p4), .val (.int p5), .val (.int (p1 &&& (4095 : Int32))), .val (.int (p2 &&& (4095 : Int32))), .val (.int (p3 &&& (4095 : Int32))), .val (.ref b2), .val (.ref b7), .val (.ref b12), .val (.ref b18), .val (.ref b25), .val (.int (1 : Int32)), .unset] [(.ref b12), (.int (p2 &&& (4095 : Int32))), (.ref b25)]) _
      refine XS.aload X145.here hx rfl (hb hby at_148) rfl rfl ?_
      exact kt)
    have f151 := ((((((f28.ext E25).keep K33).wr W41).wr W51).wr W61).keep K67)
    have f152 := ((((((Ex18.ext E25).keep K33).wr W41).wr W51).wr W61).keep K67)
    obtain ⟨cq150, kq150, qa150, qb150, qc150⟩ := isOf hZ eq145 Ex67
    obtain ⟨_, _, ⟨T150, L150, cc150, ss150⟩, -, X150, ⟨Lc150, hQ150, l150, y150, z150⟩, st150⟩ := X145.virtualBack hx (y := (⟨"com/example/pricecollar/pricecollar/tape/TradeTape$Columns", "keepUnnumbered", "(ILjava/lang/String;Ljava/lang/String;)V"⟩ : MethodName)) (z := (⟨"com/example/pricecollar/pricecollar/tape/TradeTape$Columns", "keepUnnumbered", "(ILjava/lang/String;Ljava/lang/String;)V"⟩ : MethodName)) hown (mvT hZ (hw _ (List.mem_of_getElem? (i := 69) rfl))) (mvT hZ (hw _ (List.mem_of_getElem? (i := 70) rfl))) (notFace_of_selects (args := #[]) (mvT hZ (hw _ (List.mem_of_getElem? (i := 72) rfl)))) (mvT hZ (hw _ (List.mem_of_getElem? (i := 72) rfl))) (mvT hZ (hw _ (List.mem_of_getElem? (i := 71) rfl))) (by decide) (backOf (W := 0) (rm10b l Z a0 hw [] b25 (p2 &&& (4095 : Int32)) b12 b18 bS67 bC67 kS67 kC67 [((p1 &&& (4095 : Int32)), (.ref b2))] [((p1 &&& (4095 : Int32)), (.ref b7))] T67.heap n0 Z74 Fs67 Fc67 VS67 VC67 OvS67 OvC67 f151 f152 (own_4095 p2) gS67 gC67 neSC67 nexS67 nexC67) hZ (hw _ (List.mem_of_getElem? (i := 73) rfl)) (hw _ (List.mem_of_getElem? (i := 36) rfl)) (by decide) (by decide)) qa150 qc150 (g := (mkF m 150 #[.val (.int p1), .val (.int p2), .val (.int p3), .val (.int p4), .val (.int p5), .val (.int (p1 &&& (4095 : Int32))), .val (.int (p2 &&& (4095 : Int32))), .val (.int (p3 &&& (4095 : Int32))), .val (.ref b2), .val (.ref b7), .val (.ref b12), .val (.ref b18), .val (.ref b25), .val (.int (1 : Int32)), .unset] [(.ref b18), (.ref b12), (.int (p2 &&& (4095 : Int32))), (.ref b25)])) rfl (by rw [hml]; rfl) (Steps.refl _) (argsL := [(.int (p2 &&& (4095 : Int32))), (.ref b12), (.ref b18)]) (rest := []) (lenOf pd_3 rfl) rfl (by show 2 * 0 + _ ≤ _; exact Nat.le_of_eq rfl) (hb hby at_150) (fun _ _ => ⟨rfl, eq145, (by decide : 25 + 0 ≤ _), (by decide : 36920 + 0 ≤ _)⟩)
    dsimp only [Pt.U, Pt.locs, Pt.cells, Pt.slots] at X150 l150 y150 z150 st150 hQ150
    subst l150 y150 z150
    obtain ⟨rfl, Nq150, K150, VC150⟩ := hQ150
    have N150 := Fr.app N145 Nq150
    have Z153 : n0 ≤ T150.heap.size := Nat.le_trans Z74 K150.1
    have O154 : Old Z n0 T150.heap := O75.keep K150 (allS gS67 (allS gC67 all0))
    have k155 : ∀ t, own_S p e below T150 (mkF m 153 #[.val (.int p1), .val (.int p2), .val (.int p3), .val (.int p4), .val (.int p5), .val (.int (p1 &&& (4095 : Int32))), .val (.int (p2 &&& (4095 : Int32))), .val (.int (p3 &&& (4095 : Int32))), .val (.ref b2), .val (.ref b7), .val (.ref b12), .val (.ref b18), .val (.ref b25), .val (.int (1 : Int32)), .unset] []) t → Gl t := fun t kt => k149 t (st150.trans kt)
    have k156 : ∀ t, own_S p e below T150 (mkF m 157 #[.val (.int p1), .val (.int p2), .val (.int p3), .val (.int p4), .val (.int p5), .val (.int (p1 &&& (4095 : Int32))), .val (.int (p2 &&& (4095 : Int32))), .val (.int (p3 &&& (4095 : Int32))), .val (.ref b2), .val (.ref b7), .val (.ref b12), .val (.ref b18), .val (.ref b25), .val (.int (1 : Int32)), .unset] [(.int (p2 &&& (4095 : Int32))), (.ref b25)]) t → Gl t := fun t kt => k155 t (by
      show own_S p e below T150 (mkF m 153 #[.val (.int p1), .val (.int p2), .val (.int p3), .val (.int p4), .val (.int p5), .val (.int (p1 &&& (4095 : Int32))), .val (.int (p2 &&& (4095 : Int32))), .val (.int (p3 &&& (4095 : Int32))), .val (.ref b2), .val (.ref b7), .val (.ref b12), .val (.ref b18), .val (.ref b25), .val (.int (1 : Int32)), .unset] []) _
      refine XS.aload X150.here hx rfl (hb hby at_153) rfl rfl ?_
      show own_S p e below T150 (mkF m 155 #[.val (.int p1), .val (.int p2), .val (.int p3), .val (.int p4), .val (.int p5), .val (.int (p1 &&& (4095 : Int32))), .val (.int (p2 &&& (4095 : Int32))), .val (.int (p3 &&& (4095 : Int32))), .val (.ref b2), .val (.ref b7), .val (.ref b12), .val (.ref b18), .val (.ref b25), .val (.int (1 : Int32)), .unset] [(.ref b25)]) _
      refine XS.iload X150.here hx rfl (hb hby at_155) rfl ?_
      exact kt)
    have f158 := (Fn67.keep K150 (ninS nexS67 (ninS nexC67 nin0)))
    have f159 := (Fc67.keep K150 (ninS nexS67 (ninS nexC67 nin0)))
    have f160 := (f79.keep K150 (ninS neNS67 (ninS neNC67 nin0)))
    have f161 := (Ex67.keep K150)
    obtain ⟨cq157, kq157, qa157, qb157, qc157⟩ := isOf hZ rfl f161
    obtain ⟨_, _, ⟨T157, L157, cc157, ss157⟩, -, X157, ⟨Lc157, hQ157, l157, y157, z157⟩, st157⟩ := X150.virtualBack hx (y := (⟨"com/example/pricecollar/pricecollar/tape/TradeTape$Columns", "conditions", "(I)Ljava/lang/String;"⟩ : MethodName)) (z := (⟨"com/example/pricecollar/pricecollar/tape/TradeTape$Columns", "conditions", "(I)Ljava/lang/String;"⟩ : MethodName)) hown (mvT hZ (hw _ (List.mem_of_getElem? (i := 80) rfl))) (mvT hZ (hw _ (List.mem_of_getElem? (i := 81) rfl))) (notFace_of_selects (args := #[]) (mvT hZ (hw _ (List.mem_of_getElem? (i := 83) rfl)))) (mvT hZ (hw _ (List.mem_of_getElem? (i := 83) rfl))) (mvT hZ (hw _ (List.mem_of_getElem? (i := 82) rfl))) (by decide) (backOf (W := 0) (rm11r l Z a0 hw [] b25 (p2 &&& (4095 : Int32)) b33 bC67 kk33 kC67 [((p3 &&& (4095 : Int32)), (.int (-1 : Int32))), ((p2 &&& (4095 : Int32)), (.int (-1 : Int32))), ((p1 &&& (4095 : Int32)), (.int (-1 : Int32)))] [((p2 &&& (4095 : Int32)), (.ref b18)), ((p1 &&& (4095 : Int32)), (.ref b7))] b18 T150.heap n0 Z153 f158 f159 f160 VC150 (own_4095 p2) (if hq : (p2 &&& (4095 : Int32)) = (p3 &&& (4095 : Int32)) then getH_hit (own_4095 p2).1 hq else getH_miss (own_4095 p2).1 hq (getH_hit (own_4095 p2).1 rfl)) (getH_hit (own_4095 p2).1 rfl)) hZ (hw _ (List.mem_of_getElem? (i := 84) rfl)) (hw _ (List.mem_of_getElem? (i := 36) rfl)) (by decide) (by decide)) qa157 qc157 (g := (mkF m 157 #[.val (.int p1), .val (.int p2), .val (.int p3), .val (.int p4), .val (.int p5), .val (.int (p1 &&& (4095 : Int32))), .val (.int (p2 &&& (4095 : Int32))), .val (.int (p3 &&& (4095 : Int32))), .val (.ref b2), .val (.ref b7), .val (.ref b12), .val (.ref b18), .val (.ref b25), .val (.int (1 : Int32)), .unset] [(.int (p2 &&& (4095 : Int32))), (.ref b25)])) rfl (by rw [hml]; rfl) (Steps.refl _) (argsL := [(.int (p2 &&& (4095 : Int32)))]) (rest := []) (lenOf pd_2 rfl) rfl (by show 2 * 0 + _ ≤ _; exact Nat.le_of_eq rfl) (hb hby at_157) (fun _ _ => ⟨rfl, rfl, (by decide : 25 + 0 ≤ _), (by decide : 36920 + 0 ≤ _)⟩)
    dsimp only [Pt.U, Pt.locs, Pt.cells, Pt.slots] at X157 l157 y157 z157 st157 hQ157
    subst l157 y157 z157
    obtain ⟨rfl, Nq157, eq157⟩ := hQ157
    have N157 := Fr.app N150 Nq157
    have k162 : ∀ t, own_S p e below T157 (mkF m 160 #[.val (.int p1), .val (.int p2), .val (.int p3), .val (.int p4), .val (.int p5), .val (.int (p1 &&& (4095 : Int32))), .val (.int (p2 &&& (4095 : Int32))), .val (.int (p3 &&& (4095 : Int32))), .val (.ref b2), .val (.ref b7), .val (.ref b12), .val (.ref b18), .val (.ref b25), .val (.int (1 : Int32)), .unset] [(.ref b18)]) t → Gl t := fun t kt => k156 t (st157.trans kt)
    have k163 : ∀ t, own_S p e below T157 (mkF m 165 #[.val (.int p1), .val (.int p2), .val (.int p3), .val (.int p4), .val (.int p5), .val (.int (p1 &&& (4095 : Int32))), .val (.int (p2 &&& (4095 : Int32))), .val (.int (p3 &&& (4095 : Int32))), .val (.ref b2), .val (.ref b7), .val (.ref b12), .val (.ref b18), .val (.ref b25), .val (.int (1 : Int32)), .unset] []) t → Gl t := fun t kt => k162 t (by
      show own_S p e below T157 (mkF m 160 #[.val (.int p1), .val (.int p2), .val (.int p3), .val (.int p4), .val (.int p5), .val (.int (p1 &&& (4095 : Int32))), .val (.int (p2 &&& (4095 : Int32))), .val (.int (p3 &&& (4095 : Int32))), .val (.ref b2), .val (.ref b7), .val (.ref b12), .val (.ref b18), .val (.ref b25), .val (.int (1 : Int32)), .unset] [(.ref b18)]) _
      refine XS.aload X157.here hx rfl (hb hby at_160) rfl rfl ?_
      show own_S p e below T157 (mkF m 162 #[.val (.int p1), .val (.int p2), .val (.int p3), .val (.int p4), .val (.int p5), .val (.int (p1 &&& (4095 : Int32))), .val (.int (p2 &&& (4095 : Int32))), .val (.int (p3 &&& (4095 : Int32))), .val (.ref b2), .val (.ref b7), .val (.ref b12), .val (.ref b18), .val (.ref b25), .val (.int (1 : Int32)), .unset] [(.ref b18), (.ref b18)]) _
      refine Jvm.RoadKit.acmp (g := (mkF m 162 #[.val (.int p1), .val (.int p2), .val (.int p3), .val (.int p4), .val (.int p5), .val (.int (p1 &&& (4095 : Int32))), .val (.int (p2 &&& (4095 : Int32))), .val (.int (p3 &&& (4095 : Int32))), .val (.ref b2), .val (.ref b7), .val (.ref b12), .val (.ref b18), .val (.ref b25), .val (.int (1 : Int32)), .unset] [(.ref b18), (.ref b18)])) X157 hx rfl rfl rfl (pc0 := 162) (pc' := 165) (same := true) rfl (hb hby at_162) rfl (decide_eq_true rfl) (by decide) (by decide) ?_
      exact kt)
    by_cases h12 : (p1 &&& (4095 : Int32)) = (p2 &&& (4095 : Int32))
    · have k164 : ∀ t, own_S p e below T157 (mkF m 169 #[.val (.int p1), .val (.int p2), .val (.int p3), .val (.int p4), .val (.int p5), .val (.int (p1 &&& (4095 : Int32))), .val (.int (p2 &&& (4095 : Int32))), .val (.int (p3 &&& (4095 : Int32))), .val (.ref b2), .val (.ref b7), .val (.ref b12), .val (.ref b18), .val (.ref b25), .val (.int (1 : Int32)), .unset] [(.int (p1 &&& (4095 : Int32))), (.ref b25)]) t → Gl t := fun t kt => k163 t (by
        show own_S p e below T157 (mkF m 165 #[.val (.int p1), .val (.int p2), .val (.int p3), .val (.int p4), .val (.int p5), .val (.int (p1 &&& (4095 : Int32))), .val (.int (p2 &&& (4095 : Int32))), .val (.int (p3 &&& (4095 : Int32))), .val (.ref b2), .val (.ref b7), .val (.ref b12), .val (.ref b18), .val (.ref b25), .val (.int (1 : Int32)), .unset] []) _
        refine XS.aload X157.here hx rfl (hb hby at_165) rfl rfl ?_
        show own_S p e below T157 (mkF m 167 #[.val (.int p1), .val (.int p2), .val (.int p3), .val (.int p4), .val (.int p5), .val (.int (p1 &&& (4095 : Int32))), .val (.int (p2 &&& (4095 : Int32))), .val (.int (p3 &&& (4095 : Int32))), .val (.ref b2), .val (.ref b7), .val (.ref b12), .val (.ref b18), .val (.ref b25), .val (.int (1 : Int32)), .unset] [(.ref b25)]) _
        refine XS.iload X157.here hx rfl (hb hby at_167) rfl ?_
        exact kt)
      obtain ⟨cq165, kq165, qa165, qb165, qc165⟩ := isOf hZ eq157 f161
      obtain ⟨_, _, ⟨T165, L165, cc165, ss165⟩, -, X165, ⟨Lc165, hQ165, l165, y165, z165⟩, st165⟩ := X157.virtualBack hx (y := (⟨"com/example/pricecollar/pricecollar/tape/TradeTape$Columns", "conditions", "(I)Ljava/lang/String;"⟩ : MethodName)) (z := (⟨"com/example/pricecollar/pricecollar/tape/TradeTape$Columns", "conditions", "(I)Ljava/lang/String;"⟩ : MethodName)) hown (mvT hZ (hw _ (List.mem_of_getElem? (i := 80) rfl))) (mvT hZ (hw _ (List.mem_of_getElem? (i := 81) rfl))) (notFace_of_selects (args := #[]) (mvT hZ (hw _ (List.mem_of_getElem? (i := 83) rfl)))) (mvT hZ (hw _ (List.mem_of_getElem? (i := 83) rfl))) (mvT hZ (hw _ (List.mem_of_getElem? (i := 82) rfl))) (by decide) (backOf (W := 0) (rm11r l Z a0 hw [] b25 (p1 &&& (4095 : Int32)) b33 bC67 kk33 kC67 [((p3 &&& (4095 : Int32)), (.int (-1 : Int32))), ((p2 &&& (4095 : Int32)), (.int (-1 : Int32))), ((p1 &&& (4095 : Int32)), (.int (-1 : Int32)))] [((p2 &&& (4095 : Int32)), (.ref b18)), ((p1 &&& (4095 : Int32)), (.ref b7))] b18 T150.heap n0 Z153 f158 f159 f160 VC150 (own_4095 p1) (if hq : (p1 &&& (4095 : Int32)) = (p3 &&& (4095 : Int32)) then getH_hit (own_4095 p1).1 hq else getH_miss (own_4095 p1).1 hq (if hq : (p1 &&& (4095 : Int32)) = (p2 &&& (4095 : Int32)) then getH_hit (own_4095 p1).1 hq else getH_miss (own_4095 p1).1 hq (getH_hit (own_4095 p1).1 rfl))) (getH_hit (own_4095 p1).1 h12)) hZ (hw _ (List.mem_of_getElem? (i := 84) rfl)) (hw _ (List.mem_of_getElem? (i := 36) rfl)) (by decide) (by decide)) qa165 qc165 (g := (mkF m 169 #[.val (.int p1), .val (.int p2), .val (.int p3), .val (.int p4), .val (.int p5), .val (.int (p1 &&& (4095 : Int32))), .val (.int (p2 &&& (4095 : Int32))), .val (.int (p3 &&& (4095 : Int32))), .val (.ref b2), .val (.ref b7), .val (.ref b12), .val (.ref b18), .val (.ref b25), .val (.int (1 : Int32)), .unset] [(.int (p1 &&& (4095 : Int32))), (.ref b25)])) rfl (by rw [hml]; rfl) (Steps.refl _) (argsL := [(.int (p1 &&& (4095 : Int32)))]) (rest := []) (lenOf pd_2 rfl) rfl (by show 2 * 0 + _ ≤ _; exact Nat.le_of_eq rfl) (hb hby at_169) (fun _ _ => ⟨rfl, eq157, (by decide : 25 + 0 ≤ _), (by decide : 36920 + 0 ≤ _)⟩)
      dsimp only [Pt.U, Pt.locs, Pt.cells, Pt.slots] at X165 l165 y165 z165 st165 hQ165
      subst l165 y165 z165
      obtain ⟨rfl, Nq165, eq165⟩ := hQ165
      have N165 := Fr.app N157 Nq165
      have k166 : ∀ t, own_S p e below T165 (mkF m 172 #[.val (.int p1), .val (.int p2), .val (.int p3), .val (.int p4), .val (.int p5), .val (.int (p1 &&& (4095 : Int32))), .val (.int (p2 &&& (4095 : Int32))), .val (.int (p3 &&& (4095 : Int32))), .val (.ref b2), .val (.ref b7), .val (.ref b12), .val (.ref b18), .val (.ref b25), .val (.int (1 : Int32)), .unset] [(.ref b18)]) t → Gl t := fun t kt => k164 t (st165.trans kt)
      have k167 : ∀ t, own_S p e below T165 (mkF m 182 #[.val (.int p1), .val (.int p2), .val (.int p3), .val (.int p4), .val (.int p5), .val (.int (p1 &&& (4095 : Int32))), .val (.int (p2 &&& (4095 : Int32))), .val (.int (p3 &&& (4095 : Int32))), .val (.ref b2), .val (.ref b7), .val (.ref b12), .val (.ref b18), .val (.ref b25), .val (.int (1 : Int32)), .unset] [(.ref b18), (.int (p2 &&& (4095 : Int32))), (.ref b7), (.int (p1 &&& (4095 : Int32))), (.int (p1 &&& (4095 : Int32))), (.ref b18)]) t → Gl t := fun t kt => k166 t (by
        show own_S p e below T165 (mkF m 172 #[.val (.int p1), .val (.int p2), .val (.int p3), .val (.int p4), .val (.int p5), .val (.int (p1 &&& (4095 : Int32))), .val (.int (p2 &&& (4095 : Int32))), .val (.int (p3 &&& (4095 : Int32))), .val (.ref b2), .val (.ref b7), .val (.ref b12), .val (.ref b18), .val (.ref b25), .val (.int (1 : Int32)), .unset] [(.ref b18)]) _
        refine XS.iload X165.here hx rfl (hb hby at_172) rfl ?_
        show own_S p e below T165 (mkF m 174 #[.val (.int p1), .val (.int p2), .val (.int p3), .val (.int p4), .val (.int p5), .val (.int (p1 &&& (4095 : Int32))), .val (.int (p2 &&& (4095 : Int32))), .val (.int (p3 &&& (4095 : Int32))), .val (.ref b2), .val (.ref b7), .val (.ref b12), .val (.ref b18), .val (.ref b25), .val (.int (1 : Int32)), .unset] [(.int (p1 &&& (4095 : Int32))), (.ref b18)]) _
        refine XS.iload X165.here hx rfl (hb hby at_174) rfl ?_
        show own_S p e below T165 (mkF m 176 #[.val (.int p1), .val (.int p2), .val (.int p3), .val (.int p4), .val (.int p5), .val (.int (p1 &&& (4095 : Int32))), .val (.int (p2 &&& (4095 : Int32))), .val (.int (p3 &&& (4095 : Int32))), .val (.ref b2), .val (.ref b7), .val (.ref b12), .val (.ref b18), .val (.ref b25), .val (.int (1 : Int32)), .unset] [(.int (p1 &&& (4095 : Int32))), (.int (p1 &&& (4095 : Int32))), (.ref b18)]) _
        refine XS.aload X165.here hx rfl (hb hby at_176) rfl rfl ?_
        show own_S p e below T165 (mkF m 178 #[.val (.int p1), .val (.int p2), .val (.int p3), .val (.int p4), .val (.int p5), .val (.int (p1 &&& (4095 : Int32))), .val (.int (p2 &&& (4095 : Int32))), .val (.int (p3 &&& (4095 : Int32))), .val (.ref b2), .val (.ref b7), .val (.ref b12), .val (.ref b18), .val (.ref b25), .val (.int (1 : Int32)), .unset] [(.ref b7), (.int (p1 &&& (4095 : Int32))), (.int (p1 &&& (4095 : Int32))), (.ref b18)]) _
        refine XS.iload X165.here hx rfl (hb hby at_178) rfl ?_
        show own_S p e below T165 (mkF m 180 #[.val (.int p1), .val (.int p2), .val (.int p3), .val (.int p4), .val (.int p5), .val (.int (p1 &&& (4095 : Int32))), .val (.int (p2 &&& (4095 : Int32))), .val (.int (p3 &&& (4095 : Int32))), .val (.ref b2), .val (.ref b7), .val (.ref b12), .val (.ref b18), .val (.ref b25), .val (.int (1 : Int32)), .unset] [(.int (p2 &&& (4095 : Int32))), (.ref b7), (.int (p1 &&& (4095 : Int32))), (.int (p1 &&& (4095 : Int32))), (.ref b18)]) _
        refine XS.aload X165.here hx rfl (hb hby at_180) rfl rfl ?_
        exact kt)
      obtain ⟨_, _, ⟨T168, L168, cc168, ss168⟩, -, X168, ⟨Lc168, hQ168, l168, y168, z168⟩, st168⟩ := Jvm.LawKit.callS X165 hx (y := (⟨"com/example/pricecollar/pricecollar/tape/ColumnsKeepUnnumberedPinLaw", "expected", "(IILjava/lang/String;ILjava/lang/String;)Ljava/lang/String;"⟩ : MethodName)) hown (mvT hZ (hw _ (List.mem_of_getElem? (i := 85) rfl))) (mvT hZ (hw _ (List.mem_of_getElem? (i := 86) rfl))) (mvT hZ (hw _ (List.mem_of_getElem? (i := 2) rfl))) (mvT hZ (hw _ (List.mem_of_getElem? (i := 87) rfl))) (by decide) (backOf (W := 1) (rm12a l Z a0 hw [] (p1 &&& (4095 : Int32)) (p1 &&& (4095 : Int32)) b7 (p2 &&& (4095 : Int32)) b18  T150.heap n0 Z153 h12) hZ (hw _ (List.mem_of_getElem? (i := 87) rfl)) (hw _ (List.mem_of_getElem? (i := 2) rfl)) (by decide) (by decide)) (g := (mkF m 182 #[.val (.int p1), .val (.int p2), .val (.int p3), .val (.int p4), .val (.int p5), .val (.int (p1 &&& (4095 : Int32))), .val (.int (p2 &&& (4095 : Int32))), .val (.int (p3 &&& (4095 : Int32))), .val (.ref b2), .val (.ref b7), .val (.ref b12), .val (.ref b18), .val (.ref b25), .val (.int (1 : Int32)), .unset] [(.ref b18), (.int (p2 &&& (4095 : Int32))), (.ref b7), (.int (p1 &&& (4095 : Int32))), (.int (p1 &&& (4095 : Int32))), (.ref b18)])) rfl (by rw [hml]; rfl) (argsL := [(.int (p1 &&& (4095 : Int32))), (.int (p1 &&& (4095 : Int32))), (.ref b7), (.int (p2 &&& (4095 : Int32))), (.ref b18)]) (rest := [(.ref b18)]) (lenOf pd_4 rfl) rfl (by show 2 * 0 + _ ≤ _; exact Nat.le_of_eq rfl) (hb hby at_182) (fun _ _ => ⟨rfl, eq165, (by decide : 25 + 0 ≤ _), (by decide : 36920 + 0 ≤ _)⟩)
      dsimp only [Pt.U, Pt.locs, Pt.cells, Pt.slots] at X168 l168 y168 z168 st168 hQ168
      subst l168 y168 z168
      obtain ⟨rfl, Nq168, eq168⟩ := hQ168
      have N168 := Fr.app N165 Nq168
      have k169 : ∀ t, own_S p e below T168 (mkF m 185 #[.val (.int p1), .val (.int p2), .val (.int p3), .val (.int p4), .val (.int p5), .val (.int (p1 &&& (4095 : Int32))), .val (.int (p2 &&& (4095 : Int32))), .val (.int (p3 &&& (4095 : Int32))), .val (.ref b2), .val (.ref b7), .val (.ref b12), .val (.ref b18), .val (.ref b25), .val (.int (1 : Int32)), .unset] [(.ref b18), (.ref b18)]) t → Gl t := fun t kt => k167 t (st168 _ kt)
      have k170 : ∀ t, own_S p e below T168 (mkF m 188 #[.val (.int p1), .val (.int p2), .val (.int p3), .val (.int p4), .val (.int p5), .val (.int (p1 &&& (4095 : Int32))), .val (.int (p2 &&& (4095 : Int32))), .val (.int (p3 &&& (4095 : Int32))), .val (.ref b2), .val (.ref b7), .val (.ref b12), .val (.ref b18), .val (.ref b25), .val (.int (1 : Int32)), .unset] []) t → Gl t := fun t kt => k169 t (by
        show own_S p e below T168 (mkF m 185 #[.val (.int p1), .val (.int p2), .val (.int p3), .val (.int p4), .val (.int p5), .val (.int (p1 &&& (4095 : Int32))), .val (.int (p2 &&& (4095 : Int32))), .val (.int (p3 &&& (4095 : Int32))), .val (.ref b2), .val (.ref b7), .val (.ref b12), .val (.ref b18), .val (.ref b25), .val (.int (1 : Int32)), .unset] [(.ref b18), (.ref b18)]) _
        refine Jvm.RoadKit.acmp (g := (mkF m 185 #[.val (.int p1), .val (.int p2), .val (.int p3), .val (.int p4), .val (.int p5), .val (.int (p1 &&& (4095 : Int32))), .val (.int (p2 &&& (4095 : Int32))), .val (.int (p3 &&& (4095 : Int32))), .val (.ref b2), .val (.ref b7), .val (.ref b12), .val (.ref b18), .val (.ref b25), .val (.int (1 : Int32)), .unset] [(.ref b18), (.ref b18)])) X168 hx rfl rfl rfl (pc0 := 185) (pc' := 188) (same := true) rfl (hb hby at_185) rfl (decide_eq_true rfl) (by decide) (by decide) ?_
        exact kt)
      by_cases h32 : (p3 &&& (4095 : Int32)) = (p2 &&& (4095 : Int32))
      · have k171 : ∀ t, own_S p e below T168 (mkF m 192 #[.val (.int p1), .val (.int p2), .val (.int p3), .val (.int p4), .val (.int p5), .val (.int (p1 &&& (4095 : Int32))), .val (.int (p2 &&& (4095 : Int32))), .val (.int (p3 &&& (4095 : Int32))), .val (.ref b2), .val (.ref b7), .val (.ref b12), .val (.ref b18), .val (.ref b25), .val (.int (1 : Int32)), .unset] [(.int (p3 &&& (4095 : Int32))), (.ref b25)]) t → Gl t := fun t kt => k170 t (by
          show own_S p e below T168 (mkF m 188 #[.val (.int p1), .val (.int p2), .val (.int p3), .val (.int p4), .val (.int p5), .val (.int (p1 &&& (4095 : Int32))), .val (.int (p2 &&& (4095 : Int32))), .val (.int (p3 &&& (4095 : Int32))), .val (.ref b2), .val (.ref b7), .val (.ref b12), .val (.ref b18), .val (.ref b25), .val (.int (1 : Int32)), .unset] []) _
          refine XS.aload X168.here hx rfl (hb hby at_188) rfl rfl ?_
          show own_S p e below T168 (mkF m 190 #[.val (.int p1), .val (.int p2), .val (.int p3), .val (.int p4), .val (.int p5), .val (.int (p1 &&& (4095 : Int32))), .val (.int (p2 &&& (4095 : Int32))), .val (.int (p3 &&& (4095 : Int32))), .val (.ref b2), .val (.ref b7), .val (.ref b12), .val (.ref b18), .val (.ref b25), .val (.int (1 : Int32)), .unset] [(.ref b25)]) _
          refine XS.iload X168.here hx rfl (hb hby at_190) rfl ?_
          exact kt)
        obtain ⟨cq172, kq172, qa172, qb172, qc172⟩ := isOf hZ eq168 f161
        obtain ⟨_, _, ⟨T172, L172, cc172, ss172⟩, -, X172, ⟨Lc172, hQ172, l172, y172, z172⟩, st172⟩ := X168.virtualBack hx (y := (⟨"com/example/pricecollar/pricecollar/tape/TradeTape$Columns", "conditions", "(I)Ljava/lang/String;"⟩ : MethodName)) (z := (⟨"com/example/pricecollar/pricecollar/tape/TradeTape$Columns", "conditions", "(I)Ljava/lang/String;"⟩ : MethodName)) hown (mvT hZ (hw _ (List.mem_of_getElem? (i := 80) rfl))) (mvT hZ (hw _ (List.mem_of_getElem? (i := 81) rfl))) (notFace_of_selects (args := #[]) (mvT hZ (hw _ (List.mem_of_getElem? (i := 83) rfl)))) (mvT hZ (hw _ (List.mem_of_getElem? (i := 83) rfl))) (mvT hZ (hw _ (List.mem_of_getElem? (i := 82) rfl))) (by decide) (backOf (W := 0) (rm11r l Z a0 hw [] b25 (p3 &&& (4095 : Int32)) b33 bC67 kk33 kC67 [((p3 &&& (4095 : Int32)), (.int (-1 : Int32))), ((p2 &&& (4095 : Int32)), (.int (-1 : Int32))), ((p1 &&& (4095 : Int32)), (.int (-1 : Int32)))] [((p2 &&& (4095 : Int32)), (.ref b18)), ((p1 &&& (4095 : Int32)), (.ref b7))] b18 T150.heap n0 Z153 f158 f159 f160 VC150 (own_4095 p3) (getH_hit (own_4095 p3).1 rfl) (getH_hit (own_4095 p3).1 h32)) hZ (hw _ (List.mem_of_getElem? (i := 84) rfl)) (hw _ (List.mem_of_getElem? (i := 36) rfl)) (by decide) (by decide)) qa172 qc172 (g := (mkF m 192 #[.val (.int p1), .val (.int p2), .val (.int p3), .val (.int p4), .val (.int p5), .val (.int (p1 &&& (4095 : Int32))), .val (.int (p2 &&& (4095 : Int32))), .val (.int (p3 &&& (4095 : Int32))), .val (.ref b2), .val (.ref b7), .val (.ref b12), .val (.ref b18), .val (.ref b25), .val (.int (1 : Int32)), .unset] [(.int (p3 &&& (4095 : Int32))), (.ref b25)])) rfl (by rw [hml]; rfl) (Steps.refl _) (argsL := [(.int (p3 &&& (4095 : Int32)))]) (rest := []) (lenOf pd_2 rfl) rfl (by show 2 * 0 + _ ≤ _; exact Nat.le_of_eq rfl) (hb hby at_192) (fun _ _ => ⟨rfl, eq168, (by decide : 25 + 0 ≤ _), (by decide : 36920 + 0 ≤ _)⟩)
        dsimp only [Pt.U, Pt.locs, Pt.cells, Pt.slots] at X172 l172 y172 z172 st172 hQ172
        subst l172 y172 z172
        obtain ⟨rfl, Nq172, eq172⟩ := hQ172
        have N172 := Fr.app N168 Nq172
        have k173 : ∀ t, own_S p e below T172 (mkF m 195 #[.val (.int p1), .val (.int p2), .val (.int p3), .val (.int p4), .val (.int p5), .val (.int (p1 &&& (4095 : Int32))), .val (.int (p2 &&& (4095 : Int32))), .val (.int (p3 &&& (4095 : Int32))), .val (.ref b2), .val (.ref b7), .val (.ref b12), .val (.ref b18), .val (.ref b25), .val (.int (1 : Int32)), .unset] [(.ref b18)]) t → Gl t := fun t kt => k171 t (st172.trans kt)
        have k174 : ∀ t, own_S p e below T172 (mkF m 205 #[.val (.int p1), .val (.int p2), .val (.int p3), .val (.int p4), .val (.int p5), .val (.int (p1 &&& (4095 : Int32))), .val (.int (p2 &&& (4095 : Int32))), .val (.int (p3 &&& (4095 : Int32))), .val (.ref b2), .val (.ref b7), .val (.ref b12), .val (.ref b18), .val (.ref b25), .val (.int (1 : Int32)), .unset] [(.ref b18), (.int (p2 &&& (4095 : Int32))), (.ref b7), (.int (p1 &&& (4095 : Int32))), (.int (p3 &&& (4095 : Int32))), (.ref b18)]) t → Gl t := fun t kt => k173 t (by
          show own_S p e below T172 (mkF m 195 #[.val (.int p1), .val (.int p2), .val (.int p3), .val (.int p4), .val (.int p5), .val (.int (p1 &&& (4095 : Int32))), .val (.int (p2 &&& (4095 : Int32))), .val (.int (p3 &&& (4095 : Int32))), .val (.ref b2), .val (.ref b7), .val (.ref b12), .val (.ref b18), .val (.ref b25), .val (.int (1 : Int32)), .unset] [(.ref b18)]) _
          refine XS.iload X172.here hx rfl (hb hby at_195) rfl ?_
          show own_S p e below T172 (mkF m 197 #[.val (.int p1), .val (.int p2), .val (.int p3), .val (.int p4), .val (.int p5), .val (.int (p1 &&& (4095 : Int32))), .val (.int (p2 &&& (4095 : Int32))), .val (.int (p3 &&& (4095 : Int32))), .val (.ref b2), .val (.ref b7), .val (.ref b12), .val (.ref b18), .val (.ref b25), .val (.int (1 : Int32)), .unset] [(.int (p3 &&& (4095 : Int32))), (.ref b18)]) _
          refine XS.iload X172.here hx rfl (hb hby at_197) rfl ?_
          show own_S p e below T172 (mkF m 199 #[.val (.int p1), .val (.int p2), .val (.int p3), .val (.int p4), .val (.int p5), .val (.int (p1 &&& (4095 : Int32))), .val (.int (p2 &&& (4095 : Int32))), .val (.int (p3 &&& (4095 : Int32))), .val (.ref b2), .val (.ref b7), .val (.ref b12), .val (.ref b18), .val (.ref b25), .val (.int (1 : Int32)), .unset] [(.int (p1 &&& (4095 : Int32))), (.int (p3 &&& (4095 : Int32))), (.ref b18)]) _
          refine XS.aload X172.here hx rfl (hb hby at_199) rfl rfl ?_
          show own_S p e below T172 (mkF m 201 #[.val (.int p1), .val (.int p2), .val (.int p3), .val (.int p4), .val (.int p5), .val (.int (p1 &&& (4095 : Int32))), .val (.int (p2 &&& (4095 : Int32))), .val (.int (p3 &&& (4095 : Int32))), .val (.ref b2), .val (.ref b7), .val (.ref b12), .val (.ref b18), .val (.ref b25), .val (.int (1 : Int32)), .unset] [(.ref b7), (.int (p1 &&& (4095 : Int32))), (.int (p3 &&& (4095 : Int32))), (.ref b18)]) _
          refine XS.iload X172.here hx rfl (hb hby at_201) rfl ?_
          show own_S p e below T172 (mkF m 203 #[.val (.int p1), .val (.int p2), .val (.int p3), .val (.int p4), .val (.int p5), .val (.int (p1 &&& (4095 : Int32))), .val (.int (p2 &&& (4095 : Int32))), .val (.int (p3 &&& (4095 : Int32))), .val (.ref b2), .val (.ref b7), .val (.ref b12), .val (.ref b18), .val (.ref b25), .val (.int (1 : Int32)), .unset] [(.int (p2 &&& (4095 : Int32))), (.ref b7), (.int (p1 &&& (4095 : Int32))), (.int (p3 &&& (4095 : Int32))), (.ref b18)]) _
          refine XS.aload X172.here hx rfl (hb hby at_203) rfl rfl ?_
          exact kt)
        obtain ⟨_, _, ⟨T175, L175, cc175, ss175⟩, -, X175, ⟨Lc175, hQ175, l175, y175, z175⟩, st175⟩ := Jvm.LawKit.callS X172 hx (y := (⟨"com/example/pricecollar/pricecollar/tape/ColumnsKeepUnnumberedPinLaw", "expected", "(IILjava/lang/String;ILjava/lang/String;)Ljava/lang/String;"⟩ : MethodName)) hown (mvT hZ (hw _ (List.mem_of_getElem? (i := 85) rfl))) (mvT hZ (hw _ (List.mem_of_getElem? (i := 86) rfl))) (mvT hZ (hw _ (List.mem_of_getElem? (i := 2) rfl))) (mvT hZ (hw _ (List.mem_of_getElem? (i := 87) rfl))) (by decide) (backOf (W := 1) (rm12a l Z a0 hw [] (p3 &&& (4095 : Int32)) (p1 &&& (4095 : Int32)) b7 (p2 &&& (4095 : Int32)) b18  T150.heap n0 Z153 h32) hZ (hw _ (List.mem_of_getElem? (i := 87) rfl)) (hw _ (List.mem_of_getElem? (i := 2) rfl)) (by decide) (by decide)) (g := (mkF m 205 #[.val (.int p1), .val (.int p2), .val (.int p3), .val (.int p4), .val (.int p5), .val (.int (p1 &&& (4095 : Int32))), .val (.int (p2 &&& (4095 : Int32))), .val (.int (p3 &&& (4095 : Int32))), .val (.ref b2), .val (.ref b7), .val (.ref b12), .val (.ref b18), .val (.ref b25), .val (.int (1 : Int32)), .unset] [(.ref b18), (.int (p2 &&& (4095 : Int32))), (.ref b7), (.int (p1 &&& (4095 : Int32))), (.int (p3 &&& (4095 : Int32))), (.ref b18)])) rfl (by rw [hml]; rfl) (argsL := [(.int (p3 &&& (4095 : Int32))), (.int (p1 &&& (4095 : Int32))), (.ref b7), (.int (p2 &&& (4095 : Int32))), (.ref b18)]) (rest := [(.ref b18)]) (lenOf pd_4 rfl) rfl (by show 2 * 0 + _ ≤ _; exact Nat.le_of_eq rfl) (hb hby at_205) (fun _ _ => ⟨rfl, eq172, (by decide : 25 + 0 ≤ _), (by decide : 36920 + 0 ≤ _)⟩)
        dsimp only [Pt.U, Pt.locs, Pt.cells, Pt.slots] at X175 l175 y175 z175 st175 hQ175
        subst l175 y175 z175
        obtain ⟨rfl, Nq175, eq175⟩ := hQ175
        have N175 := Fr.app N172 Nq175
        have k176 : ∀ t, own_S p e below T175 (mkF m 208 #[.val (.int p1), .val (.int p2), .val (.int p3), .val (.int p4), .val (.int p5), .val (.int (p1 &&& (4095 : Int32))), .val (.int (p2 &&& (4095 : Int32))), .val (.int (p3 &&& (4095 : Int32))), .val (.ref b2), .val (.ref b7), .val (.ref b12), .val (.ref b18), .val (.ref b25), .val (.int (1 : Int32)), .unset] [(.ref b18), (.ref b18)]) t → Gl t := fun t kt => k174 t (st175 _ kt)
        have k177 : ∀ t, own_S p e below T175 (mkF m 233 #[.val (.int p1), .val (.int p2), .val (.int p3), .val (.int p4), .val (.int p5), .val (.int (p1 &&& (4095 : Int32))), .val (.int (p2 &&& (4095 : Int32))), .val (.int (p3 &&& (4095 : Int32))), .val (.ref b2), .val (.ref b7), .val (.ref b12), .val (.ref b18), .val (.ref b25), .val (.int (1 : Int32)), .val (.int (1 : Int32))] [(.int (1 : Int32))]) t → Gl t := fun t kt => k176 t (by
          show own_S p e below T175 (mkF m 208 #[.val (.int p1), .val (.int p2), .val (.int p3), .val (.int p4), .val (.int p5), .val (.int (p1 &&& (4095 : Int32))), .val (.int (p2 &&& (4095 : Int32))), .val (.int (p3 &&& (4095 : Int32))), .val (.ref b2), .val (.ref b7), .val (.ref b12), .val (.ref b18), .val (.ref b25), .val (.int (1 : Int32)), .unset] [(.ref b18), (.ref b18)]) _
          refine Jvm.RoadKit.acmp (g := (mkF m 208 #[.val (.int p1), .val (.int p2), .val (.int p3), .val (.int p4), .val (.int p5), .val (.int (p1 &&& (4095 : Int32))), .val (.int (p2 &&& (4095 : Int32))), .val (.int (p3 &&& (4095 : Int32))), .val (.ref b2), .val (.ref b7), .val (.ref b12), .val (.ref b18), .val (.ref b25), .val (.int (1 : Int32)), .unset] [(.ref b18), (.ref b18)])) X175 hx rfl rfl rfl (pc0 := 208) (pc' := 211) (same := true) rfl (hb hby at_208) rfl (decide_eq_true rfl) (by decide) (by decide) ?_
          show own_S p e below T175 (mkF m 211 #[.val (.int p1), .val (.int p2), .val (.int p3), .val (.int p4), .val (.int p5), .val (.int (p1 &&& (4095 : Int32))), .val (.int (p2 &&& (4095 : Int32))), .val (.int (p3 &&& (4095 : Int32))), .val (.ref b2), .val (.ref b7), .val (.ref b12), .val (.ref b18), .val (.ref b25), .val (.int (1 : Int32)), .unset] []) _
          refine XS.iconst X175.here hx rfl (hb hby at_211) ?_
          show own_S p e below T175 (mkF m 212 #[.val (.int p1), .val (.int p2), .val (.int p3), .val (.int p4), .val (.int p5), .val (.int (p1 &&& (4095 : Int32))), .val (.int (p2 &&& (4095 : Int32))), .val (.int (p3 &&& (4095 : Int32))), .val (.ref b2), .val (.ref b7), .val (.ref b12), .val (.ref b18), .val (.ref b25), .val (.int (1 : Int32)), .unset] [(.int (1 : Int32))]) _
          refine XS.goto X175.here hx rfl (pc0 := 212) (pc' := 216) rfl (hb hby at_212) (by decide) (by decide) ?_
          show own_S p e below T175 (mkF m 216 #[.val (.int p1), .val (.int p2), .val (.int p3), .val (.int p4), .val (.int p5), .val (.int (p1 &&& (4095 : Int32))), .val (.int (p2 &&& (4095 : Int32))), .val (.int (p3 &&& (4095 : Int32))), .val (.ref b2), .val (.ref b7), .val (.ref b12), .val (.ref b18), .val (.ref b25), .val (.int (1 : Int32)), .unset] [(.int (1 : Int32))]) _
          refine XS.istore X175.here hx rfl (hb hby at_216) rfl (l' := #[.val (.int p1), .val (.int p2), .val (.int p3), .val (.int p4), .val (.int p5), .val (.int (p1 &&& (4095 : Int32))), .val (.int (p2 &&& (4095 : Int32))), .val (.int (p3 &&& (4095 : Int32))), .val (.ref b2), .val (.ref b7), .val (.ref b12), .val (.ref b18), .val (.ref b25), .val (.int (1 : Int32)), .val (.int (1 : Int32))]) rfl ?_
          show own_S p e below T175 (mkF m 218 #[.val (.int p1), .val (.int p2), .val (.int p3), .val (.int p4), .val (.int p5), .val (.int (p1 &&& (4095 : Int32))), .val (.int (p2 &&& (4095 : Int32))), .val (.int (p3 &&& (4095 : Int32))), .val (.ref b2), .val (.ref b7), .val (.ref b12), .val (.ref b18), .val (.ref b25), .val (.int (1 : Int32)), .val (.int (1 : Int32))] []) _
          refine XS.iload X175.here hx rfl (hb hby at_218) rfl ?_
          show own_S p e below T175 (mkF m 220 #[.val (.int p1), .val (.int p2), .val (.int p3), .val (.int p4), .val (.int p5), .val (.int (p1 &&& (4095 : Int32))), .val (.int (p2 &&& (4095 : Int32))), .val (.int (p3 &&& (4095 : Int32))), .val (.ref b2), .val (.ref b7), .val (.ref b12), .val (.ref b18), .val (.ref b25), .val (.int (1 : Int32)), .val (.int (1 : Int32))] [(.int (1 : Int32))]) _
          refine XS.ifNo X175.here hx rfl (hb hby at_220) rfl ((if0 _ _).trans (feq (by decide : ¬ ((1 : Int32) = (0 : Int32)))).1) ?_
          show own_S p e below T175 (mkF m 223 #[.val (.int p1), .val (.int p2), .val (.int p3), .val (.int p4), .val (.int p5), .val (.int (p1 &&& (4095 : Int32))), .val (.int (p2 &&& (4095 : Int32))), .val (.int (p3 &&& (4095 : Int32))), .val (.ref b2), .val (.ref b7), .val (.ref b12), .val (.ref b18), .val (.ref b25), .val (.int (1 : Int32)), .val (.int (1 : Int32))] []) _
          refine XS.iload X175.here hx rfl (hb hby at_223) rfl ?_
          show own_S p e below T175 (mkF m 225 #[.val (.int p1), .val (.int p2), .val (.int p3), .val (.int p4), .val (.int p5), .val (.int (p1 &&& (4095 : Int32))), .val (.int (p2 &&& (4095 : Int32))), .val (.int (p3 &&& (4095 : Int32))), .val (.ref b2), .val (.ref b7), .val (.ref b12), .val (.ref b18), .val (.ref b25), .val (.int (1 : Int32)), .val (.int (1 : Int32))] [(.int (1 : Int32))]) _
          refine XS.ifNo X175.here hx rfl (hb hby at_225) rfl ((if0 _ _).trans (feq (by decide : ¬ ((1 : Int32) = (0 : Int32)))).1) ?_
          show own_S p e below T175 (mkF m 228 #[.val (.int p1), .val (.int p2), .val (.int p3), .val (.int p4), .val (.int p5), .val (.int (p1 &&& (4095 : Int32))), .val (.int (p2 &&& (4095 : Int32))), .val (.int (p3 &&& (4095 : Int32))), .val (.ref b2), .val (.ref b7), .val (.ref b12), .val (.ref b18), .val (.ref b25), .val (.int (1 : Int32)), .val (.int (1 : Int32))] []) _
          refine XS.iconst X175.here hx rfl (hb hby at_228) ?_
          show own_S p e below T175 (mkF m 229 #[.val (.int p1), .val (.int p2), .val (.int p3), .val (.int p4), .val (.int p5), .val (.int (p1 &&& (4095 : Int32))), .val (.int (p2 &&& (4095 : Int32))), .val (.int (p3 &&& (4095 : Int32))), .val (.ref b2), .val (.ref b7), .val (.ref b12), .val (.ref b18), .val (.ref b25), .val (.int (1 : Int32)), .val (.int (1 : Int32))] [(.int (1 : Int32))]) _
          refine XS.goto X175.here hx rfl (pc0 := 229) (pc' := 233) rfl (hb hby at_229) (by decide) (by decide) ?_
          exact kt)
        obtain ⟨fs, hr, hrun, hended, hW, hsame⟩ := X175.leave (v := some (.int (1 : Int32))) (fun h => by rw [Bd.returns] at h; cases h)
        refine ⟨_, _, hGl _ (k177 _ (retN X175 hx (t := .boolean) Bd.returns (by simp) (hb hby at_233) hr)), hrun, hended, _, _, rfl, ?_, ⟨_, rfl⟩, hW, hsame.mono (by decide) (by decide)⟩
        show Q0 Z p1 p2 p3 p4 p5 G1 h0 n0 _ T175.heap _
        rw [eq175]
        exact ⟨rfl, N175⟩
      · have k178 : ∀ t, own_S p e below T168 (mkF m 192 #[.val (.int p1), .val (.int p2), .val (.int p3), .val (.int p4), .val (.int p5), .val (.int (p1 &&& (4095 : Int32))), .val (.int (p2 &&& (4095 : Int32))), .val (.int (p3 &&& (4095 : Int32))), .val (.ref b2), .val (.ref b7), .val (.ref b12), .val (.ref b18), .val (.ref b25), .val (.int (1 : Int32)), .unset] [(.int (p3 &&& (4095 : Int32))), (.ref b25)]) t → Gl t := fun t kt => k170 t (by
          show own_S p e below T168 (mkF m 188 #[.val (.int p1), .val (.int p2), .val (.int p3), .val (.int p4), .val (.int p5), .val (.int (p1 &&& (4095 : Int32))), .val (.int (p2 &&& (4095 : Int32))), .val (.int (p3 &&& (4095 : Int32))), .val (.ref b2), .val (.ref b7), .val (.ref b12), .val (.ref b18), .val (.ref b25), .val (.int (1 : Int32)), .unset] []) _
          refine XS.aload X168.here hx rfl (hb hby at_188) rfl rfl ?_
          show own_S p e below T168 (mkF m 190 #[.val (.int p1), .val (.int p2), .val (.int p3), .val (.int p4), .val (.int p5), .val (.int (p1 &&& (4095 : Int32))), .val (.int (p2 &&& (4095 : Int32))), .val (.int (p3 &&& (4095 : Int32))), .val (.ref b2), .val (.ref b7), .val (.ref b12), .val (.ref b18), .val (.ref b25), .val (.int (1 : Int32)), .unset] [(.ref b25)]) _
          refine XS.iload X168.here hx rfl (hb hby at_190) rfl ?_
          exact kt)
        obtain ⟨cq179, kq179, qa179, qb179, qc179⟩ := isOf hZ eq168 f161
        obtain ⟨_, _, ⟨T179, L179, cc179, ss179⟩, -, X179, ⟨Lc179, hQ179, l179, y179, z179⟩, st179⟩ := X168.virtualBack hx (y := (⟨"com/example/pricecollar/pricecollar/tape/TradeTape$Columns", "conditions", "(I)Ljava/lang/String;"⟩ : MethodName)) (z := (⟨"com/example/pricecollar/pricecollar/tape/TradeTape$Columns", "conditions", "(I)Ljava/lang/String;"⟩ : MethodName)) hown (mvT hZ (hw _ (List.mem_of_getElem? (i := 80) rfl))) (mvT hZ (hw _ (List.mem_of_getElem? (i := 81) rfl))) (notFace_of_selects (args := #[]) (mvT hZ (hw _ (List.mem_of_getElem? (i := 83) rfl)))) (mvT hZ (hw _ (List.mem_of_getElem? (i := 83) rfl))) (mvT hZ (hw _ (List.mem_of_getElem? (i := 82) rfl))) (by decide) (backOf (W := 0) (rm11n l Z a0 hw [] b25 (p3 &&& (4095 : Int32)) b33 bC67 kk33 kC67 [((p3 &&& (4095 : Int32)), (.int (-1 : Int32))), ((p2 &&& (4095 : Int32)), (.int (-1 : Int32))), ((p1 &&& (4095 : Int32)), (.int (-1 : Int32)))] [((p2 &&& (4095 : Int32)), (.ref b18)), ((p1 &&& (4095 : Int32)), (.ref b7))] T150.heap n0 Z153 f158 f159 f160 VC150 (own_4095 p3) (getH_hit (own_4095 p3).1 rfl) (getH_miss (own_4095 p3).1 h32 (getH_miss (own_4095 p3).1 h31 rfl))) hZ (hw _ (List.mem_of_getElem? (i := 84) rfl)) (hw _ (List.mem_of_getElem? (i := 36) rfl)) (by decide) (by decide)) qa179 qc179 (g := (mkF m 192 #[.val (.int p1), .val (.int p2), .val (.int p3), .val (.int p4), .val (.int p5), .val (.int (p1 &&& (4095 : Int32))), .val (.int (p2 &&& (4095 : Int32))), .val (.int (p3 &&& (4095 : Int32))), .val (.ref b2), .val (.ref b7), .val (.ref b12), .val (.ref b18), .val (.ref b25), .val (.int (1 : Int32)), .unset] [(.int (p3 &&& (4095 : Int32))), (.ref b25)])) rfl (by rw [hml]; rfl) (Steps.refl _) (argsL := [(.int (p3 &&& (4095 : Int32)))]) (rest := []) (lenOf pd_2 rfl) rfl (by show 2 * 0 + _ ≤ _; exact Nat.le_of_eq rfl) (hb hby at_192) (fun _ _ => ⟨rfl, eq168, (by decide : 25 + 0 ≤ _), (by decide : 36920 + 0 ≤ _)⟩)
        dsimp only [Pt.U, Pt.locs, Pt.cells, Pt.slots] at X179 l179 y179 z179 st179 hQ179
        subst l179 y179 z179
        obtain ⟨rfl, Nq179, eq179⟩ := hQ179
        have N179 := Fr.app N168 Nq179
        have k180 : ∀ t, own_S p e below T179 (mkF m 195 #[.val (.int p1), .val (.int p2), .val (.int p3), .val (.int p4), .val (.int p5), .val (.int (p1 &&& (4095 : Int32))), .val (.int (p2 &&& (4095 : Int32))), .val (.int (p3 &&& (4095 : Int32))), .val (.ref b2), .val (.ref b7), .val (.ref b12), .val (.ref b18), .val (.ref b25), .val (.int (1 : Int32)), .unset] [.null]) t → Gl t := fun t kt => k178 t (st179.trans kt)
        have k181 : ∀ t, own_S p e below T179 (mkF m 205 #[.val (.int p1), .val (.int p2), .val (.int p3), .val (.int p4), .val (.int p5), .val (.int (p1 &&& (4095 : Int32))), .val (.int (p2 &&& (4095 : Int32))), .val (.int (p3 &&& (4095 : Int32))), .val (.ref b2), .val (.ref b7), .val (.ref b12), .val (.ref b18), .val (.ref b25), .val (.int (1 : Int32)), .unset] [(.ref b18), (.int (p2 &&& (4095 : Int32))), (.ref b7), (.int (p1 &&& (4095 : Int32))), (.int (p3 &&& (4095 : Int32))), .null]) t → Gl t := fun t kt => k180 t (by
          show own_S p e below T179 (mkF m 195 #[.val (.int p1), .val (.int p2), .val (.int p3), .val (.int p4), .val (.int p5), .val (.int (p1 &&& (4095 : Int32))), .val (.int (p2 &&& (4095 : Int32))), .val (.int (p3 &&& (4095 : Int32))), .val (.ref b2), .val (.ref b7), .val (.ref b12), .val (.ref b18), .val (.ref b25), .val (.int (1 : Int32)), .unset] [.null]) _
          refine XS.iload X179.here hx rfl (hb hby at_195) rfl ?_
          show own_S p e below T179 (mkF m 197 #[.val (.int p1), .val (.int p2), .val (.int p3), .val (.int p4), .val (.int p5), .val (.int (p1 &&& (4095 : Int32))), .val (.int (p2 &&& (4095 : Int32))), .val (.int (p3 &&& (4095 : Int32))), .val (.ref b2), .val (.ref b7), .val (.ref b12), .val (.ref b18), .val (.ref b25), .val (.int (1 : Int32)), .unset] [(.int (p3 &&& (4095 : Int32))), .null]) _
          refine XS.iload X179.here hx rfl (hb hby at_197) rfl ?_
          show own_S p e below T179 (mkF m 199 #[.val (.int p1), .val (.int p2), .val (.int p3), .val (.int p4), .val (.int p5), .val (.int (p1 &&& (4095 : Int32))), .val (.int (p2 &&& (4095 : Int32))), .val (.int (p3 &&& (4095 : Int32))), .val (.ref b2), .val (.ref b7), .val (.ref b12), .val (.ref b18), .val (.ref b25), .val (.int (1 : Int32)), .unset] [(.int (p1 &&& (4095 : Int32))), (.int (p3 &&& (4095 : Int32))), .null]) _
          refine XS.aload X179.here hx rfl (hb hby at_199) rfl rfl ?_
          show own_S p e below T179 (mkF m 201 #[.val (.int p1), .val (.int p2), .val (.int p3), .val (.int p4), .val (.int p5), .val (.int (p1 &&& (4095 : Int32))), .val (.int (p2 &&& (4095 : Int32))), .val (.int (p3 &&& (4095 : Int32))), .val (.ref b2), .val (.ref b7), .val (.ref b12), .val (.ref b18), .val (.ref b25), .val (.int (1 : Int32)), .unset] [(.ref b7), (.int (p1 &&& (4095 : Int32))), (.int (p3 &&& (4095 : Int32))), .null]) _
          refine XS.iload X179.here hx rfl (hb hby at_201) rfl ?_
          show own_S p e below T179 (mkF m 203 #[.val (.int p1), .val (.int p2), .val (.int p3), .val (.int p4), .val (.int p5), .val (.int (p1 &&& (4095 : Int32))), .val (.int (p2 &&& (4095 : Int32))), .val (.int (p3 &&& (4095 : Int32))), .val (.ref b2), .val (.ref b7), .val (.ref b12), .val (.ref b18), .val (.ref b25), .val (.int (1 : Int32)), .unset] [(.int (p2 &&& (4095 : Int32))), (.ref b7), (.int (p1 &&& (4095 : Int32))), (.int (p3 &&& (4095 : Int32))), .null]) _
          refine XS.aload X179.here hx rfl (hb hby at_203) rfl rfl ?_
          exact kt)
        obtain ⟨_, _, ⟨T182, L182, cc182, ss182⟩, -, X182, ⟨Lc182, hQ182, l182, y182, z182⟩, st182⟩ := Jvm.LawKit.callS X179 hx (y := (⟨"com/example/pricecollar/pricecollar/tape/ColumnsKeepUnnumberedPinLaw", "expected", "(IILjava/lang/String;ILjava/lang/String;)Ljava/lang/String;"⟩ : MethodName)) hown (mvT hZ (hw _ (List.mem_of_getElem? (i := 85) rfl))) (mvT hZ (hw _ (List.mem_of_getElem? (i := 86) rfl))) (mvT hZ (hw _ (List.mem_of_getElem? (i := 2) rfl))) (mvT hZ (hw _ (List.mem_of_getElem? (i := 87) rfl))) (by decide) (backOf (W := 1) (rm12c l Z a0 hw [] (p3 &&& (4095 : Int32)) (p1 &&& (4095 : Int32)) b7 (p2 &&& (4095 : Int32)) b18  T150.heap n0 Z153 h32 h31) hZ (hw _ (List.mem_of_getElem? (i := 87) rfl)) (hw _ (List.mem_of_getElem? (i := 2) rfl)) (by decide) (by decide)) (g := (mkF m 205 #[.val (.int p1), .val (.int p2), .val (.int p3), .val (.int p4), .val (.int p5), .val (.int (p1 &&& (4095 : Int32))), .val (.int (p2 &&& (4095 : Int32))), .val (.int (p3 &&& (4095 : Int32))), .val (.ref b2), .val (.ref b7), .val (.ref b12), .val (.ref b18), .val (.ref b25), .val (.int (1 : Int32)), .unset] [(.ref b18), (.int (p2 &&& (4095 : Int32))), (.ref b7), (.int (p1 &&& (4095 : Int32))), (.int (p3 &&& (4095 : Int32))), .null])) rfl (by rw [hml]; rfl) (argsL := [(.int (p3 &&& (4095 : Int32))), (.int (p1 &&& (4095 : Int32))), (.ref b7), (.int (p2 &&& (4095 : Int32))), (.ref b18)]) (rest := [.null]) (lenOf pd_4 rfl) rfl (by show 2 * 0 + _ ≤ _; exact Nat.le_of_eq rfl) (hb hby at_205) (fun _ _ => ⟨rfl, eq179, (by decide : 25 + 0 ≤ _), (by decide : 36920 + 0 ≤ _)⟩)
        dsimp only [Pt.U, Pt.locs, Pt.cells, Pt.slots] at X182 l182 y182 z182 st182 hQ182
        subst l182 y182 z182
        obtain ⟨rfl, Nq182, eq182⟩ := hQ182
        have N182 := Fr.app N179 Nq182
        have k183 : ∀ t, own_S p e below T182 (mkF m 208 #[.val (.int p1), .val (.int p2), .val (.int p3), .val (.int p4), .val (.int p5), .val (.int (p1 &&& (4095 : Int32))), .val (.int (p2 &&& (4095 : Int32))), .val (.int (p3 &&& (4095 : Int32))), .val (.ref b2), .val (.ref b7), .val (.ref b12), .val (.ref b18), .val (.ref b25), .val (.int (1 : Int32)), .unset] [.null, .null]) t → Gl t := fun t kt => k181 t (st182 _ kt)
        have k184 : ∀ t, own_S p e below T182 (mkF m 233 #[.val (.int p1), .val (.int p2), .val (.int p3), .val (.int p4), .val (.int p5), .val (.int (p1 &&& (4095 : Int32))), .val (.int (p2 &&& (4095 : Int32))), .val (.int (p3 &&& (4095 : Int32))), .val (.ref b2), .val (.ref b7), .val (.ref b12), .val (.ref b18), .val (.ref b25), .val (.int (1 : Int32)), .val (.int (1 : Int32))] [(.int (1 : Int32))]) t → Gl t := fun t kt => k183 t (by
          show own_S p e below T182 (mkF m 208 #[.val (.int p1), .val (.int p2), .val (.int p3), .val (.int p4), .val (.int p5), .val (.int (p1 &&& (4095 : Int32))), .val (.int (p2 &&& (4095 : Int32))), .val (.int (p3 &&& (4095 : Int32))), .val (.ref b2), .val (.ref b7), .val (.ref b12), .val (.ref b18), .val (.ref b25), .val (.int (1 : Int32)), .unset] [.null, .null]) _
          refine Jvm.RoadKit.acmp (g := (mkF m 208 #[.val (.int p1), .val (.int p2), .val (.int p3), .val (.int p4), .val (.int p5), .val (.int (p1 &&& (4095 : Int32))), .val (.int (p2 &&& (4095 : Int32))), .val (.int (p3 &&& (4095 : Int32))), .val (.ref b2), .val (.ref b7), .val (.ref b12), .val (.ref b18), .val (.ref b25), .val (.int (1 : Int32)), .unset] [.null, .null])) X182 hx rfl rfl rfl (pc0 := 208) (pc' := 211) (same := true) rfl (hb hby at_208) rfl (decide_eq_true rfl) (by decide) (by decide) ?_
          show own_S p e below T182 (mkF m 211 #[.val (.int p1), .val (.int p2), .val (.int p3), .val (.int p4), .val (.int p5), .val (.int (p1 &&& (4095 : Int32))), .val (.int (p2 &&& (4095 : Int32))), .val (.int (p3 &&& (4095 : Int32))), .val (.ref b2), .val (.ref b7), .val (.ref b12), .val (.ref b18), .val (.ref b25), .val (.int (1 : Int32)), .unset] []) _
          refine XS.iconst X182.here hx rfl (hb hby at_211) ?_
          show own_S p e below T182 (mkF m 212 #[.val (.int p1), .val (.int p2), .val (.int p3), .val (.int p4), .val (.int p5), .val (.int (p1 &&& (4095 : Int32))), .val (.int (p2 &&& (4095 : Int32))), .val (.int (p3 &&& (4095 : Int32))), .val (.ref b2), .val (.ref b7), .val (.ref b12), .val (.ref b18), .val (.ref b25), .val (.int (1 : Int32)), .unset] [(.int (1 : Int32))]) _
          refine XS.goto X182.here hx rfl (pc0 := 212) (pc' := 216) rfl (hb hby at_212) (by decide) (by decide) ?_
          show own_S p e below T182 (mkF m 216 #[.val (.int p1), .val (.int p2), .val (.int p3), .val (.int p4), .val (.int p5), .val (.int (p1 &&& (4095 : Int32))), .val (.int (p2 &&& (4095 : Int32))), .val (.int (p3 &&& (4095 : Int32))), .val (.ref b2), .val (.ref b7), .val (.ref b12), .val (.ref b18), .val (.ref b25), .val (.int (1 : Int32)), .unset] [(.int (1 : Int32))]) _
          refine XS.istore X182.here hx rfl (hb hby at_216) rfl (l' := #[.val (.int p1), .val (.int p2), .val (.int p3), .val (.int p4), .val (.int p5), .val (.int (p1 &&& (4095 : Int32))), .val (.int (p2 &&& (4095 : Int32))), .val (.int (p3 &&& (4095 : Int32))), .val (.ref b2), .val (.ref b7), .val (.ref b12), .val (.ref b18), .val (.ref b25), .val (.int (1 : Int32)), .val (.int (1 : Int32))]) rfl ?_
          show own_S p e below T182 (mkF m 218 #[.val (.int p1), .val (.int p2), .val (.int p3), .val (.int p4), .val (.int p5), .val (.int (p1 &&& (4095 : Int32))), .val (.int (p2 &&& (4095 : Int32))), .val (.int (p3 &&& (4095 : Int32))), .val (.ref b2), .val (.ref b7), .val (.ref b12), .val (.ref b18), .val (.ref b25), .val (.int (1 : Int32)), .val (.int (1 : Int32))] []) _
          refine XS.iload X182.here hx rfl (hb hby at_218) rfl ?_
          show own_S p e below T182 (mkF m 220 #[.val (.int p1), .val (.int p2), .val (.int p3), .val (.int p4), .val (.int p5), .val (.int (p1 &&& (4095 : Int32))), .val (.int (p2 &&& (4095 : Int32))), .val (.int (p3 &&& (4095 : Int32))), .val (.ref b2), .val (.ref b7), .val (.ref b12), .val (.ref b18), .val (.ref b25), .val (.int (1 : Int32)), .val (.int (1 : Int32))] [(.int (1 : Int32))]) _
          refine XS.ifNo X182.here hx rfl (hb hby at_220) rfl ((if0 _ _).trans (feq (by decide : ¬ ((1 : Int32) = (0 : Int32)))).1) ?_
          show own_S p e below T182 (mkF m 223 #[.val (.int p1), .val (.int p2), .val (.int p3), .val (.int p4), .val (.int p5), .val (.int (p1 &&& (4095 : Int32))), .val (.int (p2 &&& (4095 : Int32))), .val (.int (p3 &&& (4095 : Int32))), .val (.ref b2), .val (.ref b7), .val (.ref b12), .val (.ref b18), .val (.ref b25), .val (.int (1 : Int32)), .val (.int (1 : Int32))] []) _
          refine XS.iload X182.here hx rfl (hb hby at_223) rfl ?_
          show own_S p e below T182 (mkF m 225 #[.val (.int p1), .val (.int p2), .val (.int p3), .val (.int p4), .val (.int p5), .val (.int (p1 &&& (4095 : Int32))), .val (.int (p2 &&& (4095 : Int32))), .val (.int (p3 &&& (4095 : Int32))), .val (.ref b2), .val (.ref b7), .val (.ref b12), .val (.ref b18), .val (.ref b25), .val (.int (1 : Int32)), .val (.int (1 : Int32))] [(.int (1 : Int32))]) _
          refine XS.ifNo X182.here hx rfl (hb hby at_225) rfl ((if0 _ _).trans (feq (by decide : ¬ ((1 : Int32) = (0 : Int32)))).1) ?_
          show own_S p e below T182 (mkF m 228 #[.val (.int p1), .val (.int p2), .val (.int p3), .val (.int p4), .val (.int p5), .val (.int (p1 &&& (4095 : Int32))), .val (.int (p2 &&& (4095 : Int32))), .val (.int (p3 &&& (4095 : Int32))), .val (.ref b2), .val (.ref b7), .val (.ref b12), .val (.ref b18), .val (.ref b25), .val (.int (1 : Int32)), .val (.int (1 : Int32))] []) _
          refine XS.iconst X182.here hx rfl (hb hby at_228) ?_
          show own_S p e below T182 (mkF m 229 #[.val (.int p1), .val (.int p2), .val (.int p3), .val (.int p4), .val (.int p5), .val (.int (p1 &&& (4095 : Int32))), .val (.int (p2 &&& (4095 : Int32))), .val (.int (p3 &&& (4095 : Int32))), .val (.ref b2), .val (.ref b7), .val (.ref b12), .val (.ref b18), .val (.ref b25), .val (.int (1 : Int32)), .val (.int (1 : Int32))] [(.int (1 : Int32))]) _
          refine XS.goto X182.here hx rfl (pc0 := 229) (pc' := 233) rfl (hb hby at_229) (by decide) (by decide) ?_
          exact kt)
        obtain ⟨fs, hr, hrun, hended, hW, hsame⟩ := X182.leave (v := some (.int (1 : Int32))) (fun h => by rw [Bd.returns] at h; cases h)
        refine ⟨_, _, hGl _ (k184 _ (retN X182 hx (t := .boolean) Bd.returns (by simp) (hb hby at_233) hr)), hrun, hended, _, _, rfl, ?_, ⟨_, rfl⟩, hW, hsame.mono (by decide) (by decide)⟩
        show Q0 Z p1 p2 p3 p4 p5 G1 h0 n0 _ T182.heap _
        rw [eq182]
        exact ⟨rfl, N182⟩
    · have k185 : ∀ t, own_S p e below T157 (mkF m 169 #[.val (.int p1), .val (.int p2), .val (.int p3), .val (.int p4), .val (.int p5), .val (.int (p1 &&& (4095 : Int32))), .val (.int (p2 &&& (4095 : Int32))), .val (.int (p3 &&& (4095 : Int32))), .val (.ref b2), .val (.ref b7), .val (.ref b12), .val (.ref b18), .val (.ref b25), .val (.int (1 : Int32)), .unset] [(.int (p1 &&& (4095 : Int32))), (.ref b25)]) t → Gl t := fun t kt => k163 t (by
        show own_S p e below T157 (mkF m 165 #[.val (.int p1), .val (.int p2), .val (.int p3), .val (.int p4), .val (.int p5), .val (.int (p1 &&& (4095 : Int32))), .val (.int (p2 &&& (4095 : Int32))), .val (.int (p3 &&& (4095 : Int32))), .val (.ref b2), .val (.ref b7), .val (.ref b12), .val (.ref b18), .val (.ref b25), .val (.int (1 : Int32)), .unset] []) _
        refine XS.aload X157.here hx rfl (hb hby at_165) rfl rfl ?_
        show own_S p e below T157 (mkF m 167 #[.val (.int p1), .val (.int p2), .val (.int p3), .val (.int p4), .val (.int p5), .val (.int (p1 &&& (4095 : Int32))), .val (.int (p2 &&& (4095 : Int32))), .val (.int (p3 &&& (4095 : Int32))), .val (.ref b2), .val (.ref b7), .val (.ref b12), .val (.ref b18), .val (.ref b25), .val (.int (1 : Int32)), .unset] [(.ref b25)]) _
        refine XS.iload X157.here hx rfl (hb hby at_167) rfl ?_
        exact kt)
      obtain ⟨cq186, kq186, qa186, qb186, qc186⟩ := isOf hZ eq157 f161
      obtain ⟨_, _, ⟨T186, L186, cc186, ss186⟩, -, X186, ⟨Lc186, hQ186, l186, y186, z186⟩, st186⟩ := X157.virtualBack hx (y := (⟨"com/example/pricecollar/pricecollar/tape/TradeTape$Columns", "conditions", "(I)Ljava/lang/String;"⟩ : MethodName)) (z := (⟨"com/example/pricecollar/pricecollar/tape/TradeTape$Columns", "conditions", "(I)Ljava/lang/String;"⟩ : MethodName)) hown (mvT hZ (hw _ (List.mem_of_getElem? (i := 80) rfl))) (mvT hZ (hw _ (List.mem_of_getElem? (i := 81) rfl))) (notFace_of_selects (args := #[]) (mvT hZ (hw _ (List.mem_of_getElem? (i := 83) rfl)))) (mvT hZ (hw _ (List.mem_of_getElem? (i := 83) rfl))) (mvT hZ (hw _ (List.mem_of_getElem? (i := 82) rfl))) (by decide) (backOf (W := 0) (rm11r l Z a0 hw [] b25 (p1 &&& (4095 : Int32)) b33 bC67 kk33 kC67 [((p3 &&& (4095 : Int32)), (.int (-1 : Int32))), ((p2 &&& (4095 : Int32)), (.int (-1 : Int32))), ((p1 &&& (4095 : Int32)), (.int (-1 : Int32)))] [((p2 &&& (4095 : Int32)), (.ref b18)), ((p1 &&& (4095 : Int32)), (.ref b7))] b7 T150.heap n0 Z153 f158 f159 f160 VC150 (own_4095 p1) (if hq : (p1 &&& (4095 : Int32)) = (p3 &&& (4095 : Int32)) then getH_hit (own_4095 p1).1 hq else getH_miss (own_4095 p1).1 hq (if hq : (p1 &&& (4095 : Int32)) = (p2 &&& (4095 : Int32)) then getH_hit (own_4095 p1).1 hq else getH_miss (own_4095 p1).1 hq (getH_hit (own_4095 p1).1 rfl))) (getH_miss (own_4095 p1).1 h12 (getH_hit (own_4095 p1).1 rfl))) hZ (hw _ (List.mem_of_getElem? (i := 84) rfl)) (hw _ (List.mem_of_getElem? (i := 36) rfl)) (by decide) (by decide)) qa186 qc186 (g := (mkF m 169 #[.val (.int p1), .val (.int p2), .val (.int p3), .val (.int p4), .val (.int p5), .val (.int (p1 &&& (4095 : Int32))), .val (.int (p2 &&& (4095 : Int32))), .val (.int (p3 &&& (4095 : Int32))), .val (.ref b2), .val (.ref b7), .val (.ref b12), .val (.ref b18), .val (.ref b25), .val (.int (1 : Int32)), .unset] [(.int (p1 &&& (4095 : Int32))), (.ref b25)])) rfl (by rw [hml]; rfl) (Steps.refl _) (argsL := [(.int (p1 &&& (4095 : Int32)))]) (rest := []) (lenOf pd_2 rfl) rfl (by show 2 * 0 + _ ≤ _; exact Nat.le_of_eq rfl) (hb hby at_169) (fun _ _ => ⟨rfl, eq157, (by decide : 25 + 0 ≤ _), (by decide : 36920 + 0 ≤ _)⟩)
      dsimp only [Pt.U, Pt.locs, Pt.cells, Pt.slots] at X186 l186 y186 z186 st186 hQ186
      subst l186 y186 z186
      obtain ⟨rfl, Nq186, eq186⟩ := hQ186
      have N186 := Fr.app N157 Nq186
      have k187 : ∀ t, own_S p e below T186 (mkF m 172 #[.val (.int p1), .val (.int p2), .val (.int p3), .val (.int p4), .val (.int p5), .val (.int (p1 &&& (4095 : Int32))), .val (.int (p2 &&& (4095 : Int32))), .val (.int (p3 &&& (4095 : Int32))), .val (.ref b2), .val (.ref b7), .val (.ref b12), .val (.ref b18), .val (.ref b25), .val (.int (1 : Int32)), .unset] [(.ref b7)]) t → Gl t := fun t kt => k185 t (st186.trans kt)
      have k188 : ∀ t, own_S p e below T186 (mkF m 182 #[.val (.int p1), .val (.int p2), .val (.int p3), .val (.int p4), .val (.int p5), .val (.int (p1 &&& (4095 : Int32))), .val (.int (p2 &&& (4095 : Int32))), .val (.int (p3 &&& (4095 : Int32))), .val (.ref b2), .val (.ref b7), .val (.ref b12), .val (.ref b18), .val (.ref b25), .val (.int (1 : Int32)), .unset] [(.ref b18), (.int (p2 &&& (4095 : Int32))), (.ref b7), (.int (p1 &&& (4095 : Int32))), (.int (p1 &&& (4095 : Int32))), (.ref b7)]) t → Gl t := fun t kt => k187 t (by
        show own_S p e below T186 (mkF m 172 #[.val (.int p1), .val (.int p2), .val (.int p3), .val (.int p4), .val (.int p5), .val (.int (p1 &&& (4095 : Int32))), .val (.int (p2 &&& (4095 : Int32))), .val (.int (p3 &&& (4095 : Int32))), .val (.ref b2), .val (.ref b7), .val (.ref b12), .val (.ref b18), .val (.ref b25), .val (.int (1 : Int32)), .unset] [(.ref b7)]) _
        refine XS.iload X186.here hx rfl (hb hby at_172) rfl ?_
        show own_S p e below T186 (mkF m 174 #[.val (.int p1), .val (.int p2), .val (.int p3), .val (.int p4), .val (.int p5), .val (.int (p1 &&& (4095 : Int32))), .val (.int (p2 &&& (4095 : Int32))), .val (.int (p3 &&& (4095 : Int32))), .val (.ref b2), .val (.ref b7), .val (.ref b12), .val (.ref b18), .val (.ref b25), .val (.int (1 : Int32)), .unset] [(.int (p1 &&& (4095 : Int32))), (.ref b7)]) _
        refine XS.iload X186.here hx rfl (hb hby at_174) rfl ?_
        show own_S p e below T186 (mkF m 176 #[.val (.int p1), .val (.int p2), .val (.int p3), .val (.int p4), .val (.int p5), .val (.int (p1 &&& (4095 : Int32))), .val (.int (p2 &&& (4095 : Int32))), .val (.int (p3 &&& (4095 : Int32))), .val (.ref b2), .val (.ref b7), .val (.ref b12), .val (.ref b18), .val (.ref b25), .val (.int (1 : Int32)), .unset] [(.int (p1 &&& (4095 : Int32))), (.int (p1 &&& (4095 : Int32))), (.ref b7)]) _
        refine XS.aload X186.here hx rfl (hb hby at_176) rfl rfl ?_
        show own_S p e below T186 (mkF m 178 #[.val (.int p1), .val (.int p2), .val (.int p3), .val (.int p4), .val (.int p5), .val (.int (p1 &&& (4095 : Int32))), .val (.int (p2 &&& (4095 : Int32))), .val (.int (p3 &&& (4095 : Int32))), .val (.ref b2), .val (.ref b7), .val (.ref b12), .val (.ref b18), .val (.ref b25), .val (.int (1 : Int32)), .unset] [(.ref b7), (.int (p1 &&& (4095 : Int32))), (.int (p1 &&& (4095 : Int32))), (.ref b7)]) _
        refine XS.iload X186.here hx rfl (hb hby at_178) rfl ?_
        show own_S p e below T186 (mkF m 180 #[.val (.int p1), .val (.int p2), .val (.int p3), .val (.int p4), .val (.int p5), .val (.int (p1 &&& (4095 : Int32))), .val (.int (p2 &&& (4095 : Int32))), .val (.int (p3 &&& (4095 : Int32))), .val (.ref b2), .val (.ref b7), .val (.ref b12), .val (.ref b18), .val (.ref b25), .val (.int (1 : Int32)), .unset] [(.int (p2 &&& (4095 : Int32))), (.ref b7), (.int (p1 &&& (4095 : Int32))), (.int (p1 &&& (4095 : Int32))), (.ref b7)]) _
        refine XS.aload X186.here hx rfl (hb hby at_180) rfl rfl ?_
        exact kt)
      obtain ⟨_, _, ⟨T189, L189, cc189, ss189⟩, -, X189, ⟨Lc189, hQ189, l189, y189, z189⟩, st189⟩ := Jvm.LawKit.callS X186 hx (y := (⟨"com/example/pricecollar/pricecollar/tape/ColumnsKeepUnnumberedPinLaw", "expected", "(IILjava/lang/String;ILjava/lang/String;)Ljava/lang/String;"⟩ : MethodName)) hown (mvT hZ (hw _ (List.mem_of_getElem? (i := 85) rfl))) (mvT hZ (hw _ (List.mem_of_getElem? (i := 86) rfl))) (mvT hZ (hw _ (List.mem_of_getElem? (i := 2) rfl))) (mvT hZ (hw _ (List.mem_of_getElem? (i := 87) rfl))) (by decide) (backOf (W := 1) (rm12b l Z a0 hw [] (p1 &&& (4095 : Int32)) (p1 &&& (4095 : Int32)) b7 (p2 &&& (4095 : Int32)) b18  T150.heap n0 Z153 h12 rfl) hZ (hw _ (List.mem_of_getElem? (i := 87) rfl)) (hw _ (List.mem_of_getElem? (i := 2) rfl)) (by decide) (by decide)) (g := (mkF m 182 #[.val (.int p1), .val (.int p2), .val (.int p3), .val (.int p4), .val (.int p5), .val (.int (p1 &&& (4095 : Int32))), .val (.int (p2 &&& (4095 : Int32))), .val (.int (p3 &&& (4095 : Int32))), .val (.ref b2), .val (.ref b7), .val (.ref b12), .val (.ref b18), .val (.ref b25), .val (.int (1 : Int32)), .unset] [(.ref b18), (.int (p2 &&& (4095 : Int32))), (.ref b7), (.int (p1 &&& (4095 : Int32))), (.int (p1 &&& (4095 : Int32))), (.ref b7)])) rfl (by rw [hml]; rfl) (argsL := [(.int (p1 &&& (4095 : Int32))), (.int (p1 &&& (4095 : Int32))), (.ref b7), (.int (p2 &&& (4095 : Int32))), (.ref b18)]) (rest := [(.ref b7)]) (lenOf pd_4 rfl) rfl (by show 2 * 0 + _ ≤ _; exact Nat.le_of_eq rfl) (hb hby at_182) (fun _ _ => ⟨rfl, eq186, (by decide : 25 + 0 ≤ _), (by decide : 36920 + 0 ≤ _)⟩)
      dsimp only [Pt.U, Pt.locs, Pt.cells, Pt.slots] at X189 l189 y189 z189 st189 hQ189
      subst l189 y189 z189
      obtain ⟨rfl, Nq189, eq189⟩ := hQ189
      have N189 := Fr.app N186 Nq189
      have k190 : ∀ t, own_S p e below T189 (mkF m 185 #[.val (.int p1), .val (.int p2), .val (.int p3), .val (.int p4), .val (.int p5), .val (.int (p1 &&& (4095 : Int32))), .val (.int (p2 &&& (4095 : Int32))), .val (.int (p3 &&& (4095 : Int32))), .val (.ref b2), .val (.ref b7), .val (.ref b12), .val (.ref b18), .val (.ref b25), .val (.int (1 : Int32)), .unset] [(.ref b7), (.ref b7)]) t → Gl t := fun t kt => k188 t (st189 _ kt)
      have k191 : ∀ t, own_S p e below T189 (mkF m 188 #[.val (.int p1), .val (.int p2), .val (.int p3), .val (.int p4), .val (.int p5), .val (.int (p1 &&& (4095 : Int32))), .val (.int (p2 &&& (4095 : Int32))), .val (.int (p3 &&& (4095 : Int32))), .val (.ref b2), .val (.ref b7), .val (.ref b12), .val (.ref b18), .val (.ref b25), .val (.int (1 : Int32)), .unset] []) t → Gl t := fun t kt => k190 t (by
        show own_S p e below T189 (mkF m 185 #[.val (.int p1), .val (.int p2), .val (.int p3), .val (.int p4), .val (.int p5), .val (.int (p1 &&& (4095 : Int32))), .val (.int (p2 &&& (4095 : Int32))), .val (.int (p3 &&& (4095 : Int32))), .val (.ref b2), .val (.ref b7), .val (.ref b12), .val (.ref b18), .val (.ref b25), .val (.int (1 : Int32)), .unset] [(.ref b7), (.ref b7)]) _
        refine Jvm.RoadKit.acmp (g := (mkF m 185 #[.val (.int p1), .val (.int p2), .val (.int p3), .val (.int p4), .val (.int p5), .val (.int (p1 &&& (4095 : Int32))), .val (.int (p2 &&& (4095 : Int32))), .val (.int (p3 &&& (4095 : Int32))), .val (.ref b2), .val (.ref b7), .val (.ref b12), .val (.ref b18), .val (.ref b25), .val (.int (1 : Int32)), .unset] [(.ref b7), (.ref b7)])) X189 hx rfl rfl rfl (pc0 := 185) (pc' := 188) (same := true) rfl (hb hby at_185) rfl (decide_eq_true rfl) (by decide) (by decide) ?_
        exact kt)
      by_cases h32 : (p3 &&& (4095 : Int32)) = (p2 &&& (4095 : Int32))
      · have k192 : ∀ t, own_S p e below T189 (mkF m 192 #[.val (.int p1), .val (.int p2), .val (.int p3), .val (.int p4), .val (.int p5), .val (.int (p1 &&& (4095 : Int32))), .val (.int (p2 &&& (4095 : Int32))), .val (.int (p3 &&& (4095 : Int32))), .val (.ref b2), .val (.ref b7), .val (.ref b12), .val (.ref b18), .val (.ref b25), .val (.int (1 : Int32)), .unset] [(.int (p3 &&& (4095 : Int32))), (.ref b25)]) t → Gl t := fun t kt => k191 t (by
          show own_S p e below T189 (mkF m 188 #[.val (.int p1), .val (.int p2), .val (.int p3), .val (.int p4), .val (.int p5), .val (.int (p1 &&& (4095 : Int32))), .val (.int (p2 &&& (4095 : Int32))), .val (.int (p3 &&& (4095 : Int32))), .val (.ref b2), .val (.ref b7), .val (.ref b12), .val (.ref b18), .val (.ref b25), .val (.int (1 : Int32)), .unset] []) _
          refine XS.aload X189.here hx rfl (hb hby at_188) rfl rfl ?_
          show own_S p e below T189 (mkF m 190 #[.val (.int p1), .val (.int p2), .val (.int p3), .val (.int p4), .val (.int p5), .val (.int (p1 &&& (4095 : Int32))), .val (.int (p2 &&& (4095 : Int32))), .val (.int (p3 &&& (4095 : Int32))), .val (.ref b2), .val (.ref b7), .val (.ref b12), .val (.ref b18), .val (.ref b25), .val (.int (1 : Int32)), .unset] [(.ref b25)]) _
          refine XS.iload X189.here hx rfl (hb hby at_190) rfl ?_
          exact kt)
        obtain ⟨cq193, kq193, qa193, qb193, qc193⟩ := isOf hZ eq189 f161
        obtain ⟨_, _, ⟨T193, L193, cc193, ss193⟩, -, X193, ⟨Lc193, hQ193, l193, y193, z193⟩, st193⟩ := X189.virtualBack hx (y := (⟨"com/example/pricecollar/pricecollar/tape/TradeTape$Columns", "conditions", "(I)Ljava/lang/String;"⟩ : MethodName)) (z := (⟨"com/example/pricecollar/pricecollar/tape/TradeTape$Columns", "conditions", "(I)Ljava/lang/String;"⟩ : MethodName)) hown (mvT hZ (hw _ (List.mem_of_getElem? (i := 80) rfl))) (mvT hZ (hw _ (List.mem_of_getElem? (i := 81) rfl))) (notFace_of_selects (args := #[]) (mvT hZ (hw _ (List.mem_of_getElem? (i := 83) rfl)))) (mvT hZ (hw _ (List.mem_of_getElem? (i := 83) rfl))) (mvT hZ (hw _ (List.mem_of_getElem? (i := 82) rfl))) (by decide) (backOf (W := 0) (rm11r l Z a0 hw [] b25 (p3 &&& (4095 : Int32)) b33 bC67 kk33 kC67 [((p3 &&& (4095 : Int32)), (.int (-1 : Int32))), ((p2 &&& (4095 : Int32)), (.int (-1 : Int32))), ((p1 &&& (4095 : Int32)), (.int (-1 : Int32)))] [((p2 &&& (4095 : Int32)), (.ref b18)), ((p1 &&& (4095 : Int32)), (.ref b7))] b18 T150.heap n0 Z153 f158 f159 f160 VC150 (own_4095 p3) (getH_hit (own_4095 p3).1 rfl) (getH_hit (own_4095 p3).1 h32)) hZ (hw _ (List.mem_of_getElem? (i := 84) rfl)) (hw _ (List.mem_of_getElem? (i := 36) rfl)) (by decide) (by decide)) qa193 qc193 (g := (mkF m 192 #[.val (.int p1), .val (.int p2), .val (.int p3), .val (.int p4), .val (.int p5), .val (.int (p1 &&& (4095 : Int32))), .val (.int (p2 &&& (4095 : Int32))), .val (.int (p3 &&& (4095 : Int32))), .val (.ref b2), .val (.ref b7), .val (.ref b12), .val (.ref b18), .val (.ref b25), .val (.int (1 : Int32)), .unset] [(.int (p3 &&& (4095 : Int32))), (.ref b25)])) rfl (by rw [hml]; rfl) (Steps.refl _) (argsL := [(.int (p3 &&& (4095 : Int32)))]) (rest := []) (lenOf pd_2 rfl) rfl (by show 2 * 0 + _ ≤ _; exact Nat.le_of_eq rfl) (hb hby at_192) (fun _ _ => ⟨rfl, eq189, (by decide : 25 + 0 ≤ _), (by decide : 36920 + 0 ≤ _)⟩)
        dsimp only [Pt.U, Pt.locs, Pt.cells, Pt.slots] at X193 l193 y193 z193 st193 hQ193
        subst l193 y193 z193
        obtain ⟨rfl, Nq193, eq193⟩ := hQ193
        have N193 := Fr.app N189 Nq193
        have k194 : ∀ t, own_S p e below T193 (mkF m 195 #[.val (.int p1), .val (.int p2), .val (.int p3), .val (.int p4), .val (.int p5), .val (.int (p1 &&& (4095 : Int32))), .val (.int (p2 &&& (4095 : Int32))), .val (.int (p3 &&& (4095 : Int32))), .val (.ref b2), .val (.ref b7), .val (.ref b12), .val (.ref b18), .val (.ref b25), .val (.int (1 : Int32)), .unset] [(.ref b18)]) t → Gl t := fun t kt => k192 t (st193.trans kt)
        have k195 : ∀ t, own_S p e below T193 (mkF m 205 #[.val (.int p1), .val (.int p2), .val (.int p3), .val (.int p4), .val (.int p5), .val (.int (p1 &&& (4095 : Int32))), .val (.int (p2 &&& (4095 : Int32))), .val (.int (p3 &&& (4095 : Int32))), .val (.ref b2), .val (.ref b7), .val (.ref b12), .val (.ref b18), .val (.ref b25), .val (.int (1 : Int32)), .unset] [(.ref b18), (.int (p2 &&& (4095 : Int32))), (.ref b7), (.int (p1 &&& (4095 : Int32))), (.int (p3 &&& (4095 : Int32))), (.ref b18)]) t → Gl t := fun t kt => k194 t (by
          show own_S p e below T193 (mkF m 195 #[.val (.int p1), .val (.int p2), .val (.int p3), .val (.int p4), .val (.int p5), .val (.int (p1 &&& (4095 : Int32))), .val (.int (p2 &&& (4095 : Int32))), .val (.int (p3 &&& (4095 : Int32))), .val (.ref b2), .val (.ref b7), .val (.ref b12), .val (.ref b18), .val (.ref b25), .val (.int (1 : Int32)), .unset] [(.ref b18)]) _
          refine XS.iload X193.here hx rfl (hb hby at_195) rfl ?_
          show own_S p e below T193 (mkF m 197 #[.val (.int p1), .val (.int p2), .val (.int p3), .val (.int p4), .val (.int p5), .val (.int (p1 &&& (4095 : Int32))), .val (.int (p2 &&& (4095 : Int32))), .val (.int (p3 &&& (4095 : Int32))), .val (.ref b2), .val (.ref b7), .val (.ref b12), .val (.ref b18), .val (.ref b25), .val (.int (1 : Int32)), .unset] [(.int (p3 &&& (4095 : Int32))), (.ref b18)]) _
          refine XS.iload X193.here hx rfl (hb hby at_197) rfl ?_
          show own_S p e below T193 (mkF m 199 #[.val (.int p1), .val (.int p2), .val (.int p3), .val (.int p4), .val (.int p5), .val (.int (p1 &&& (4095 : Int32))), .val (.int (p2 &&& (4095 : Int32))), .val (.int (p3 &&& (4095 : Int32))), .val (.ref b2), .val (.ref b7), .val (.ref b12), .val (.ref b18), .val (.ref b25), .val (.int (1 : Int32)), .unset] [(.int (p1 &&& (4095 : Int32))), (.int (p3 &&& (4095 : Int32))), (.ref b18)]) _
          refine XS.aload X193.here hx rfl (hb hby at_199) rfl rfl ?_
          show own_S p e below T193 (mkF m 201 #[.val (.int p1), .val (.int p2), .val (.int p3), .val (.int p4), .val (.int p5), .val (.int (p1 &&& (4095 : Int32))), .val (.int (p2 &&& (4095 : Int32))), .val (.int (p3 &&& (4095 : Int32))), .val (.ref b2), .val (.ref b7), .val (.ref b12), .val (.ref b18), .val (.ref b25), .val (.int (1 : Int32)), .unset] [(.ref b7), (.int (p1 &&& (4095 : Int32))), (.int (p3 &&& (4095 : Int32))), (.ref b18)]) _
          refine XS.iload X193.here hx rfl (hb hby at_201) rfl ?_
          show own_S p e below T193 (mkF m 203 #[.val (.int p1), .val (.int p2), .val (.int p3), .val (.int p4), .val (.int p5), .val (.int (p1 &&& (4095 : Int32))), .val (.int (p2 &&& (4095 : Int32))), .val (.int (p3 &&& (4095 : Int32))), .val (.ref b2), .val (.ref b7), .val (.ref b12), .val (.ref b18), .val (.ref b25), .val (.int (1 : Int32)), .unset] [(.int (p2 &&& (4095 : Int32))), (.ref b7), (.int (p1 &&& (4095 : Int32))), (.int (p3 &&& (4095 : Int32))), (.ref b18)]) _
          refine XS.aload X193.here hx rfl (hb hby at_203) rfl rfl ?_
          exact kt)
        obtain ⟨_, _, ⟨T196, L196, cc196, ss196⟩, -, X196, ⟨Lc196, hQ196, l196, y196, z196⟩, st196⟩ := Jvm.LawKit.callS X193 hx (y := (⟨"com/example/pricecollar/pricecollar/tape/ColumnsKeepUnnumberedPinLaw", "expected", "(IILjava/lang/String;ILjava/lang/String;)Ljava/lang/String;"⟩ : MethodName)) hown (mvT hZ (hw _ (List.mem_of_getElem? (i := 85) rfl))) (mvT hZ (hw _ (List.mem_of_getElem? (i := 86) rfl))) (mvT hZ (hw _ (List.mem_of_getElem? (i := 2) rfl))) (mvT hZ (hw _ (List.mem_of_getElem? (i := 87) rfl))) (by decide) (backOf (W := 1) (rm12a l Z a0 hw [] (p3 &&& (4095 : Int32)) (p1 &&& (4095 : Int32)) b7 (p2 &&& (4095 : Int32)) b18  T150.heap n0 Z153 h32) hZ (hw _ (List.mem_of_getElem? (i := 87) rfl)) (hw _ (List.mem_of_getElem? (i := 2) rfl)) (by decide) (by decide)) (g := (mkF m 205 #[.val (.int p1), .val (.int p2), .val (.int p3), .val (.int p4), .val (.int p5), .val (.int (p1 &&& (4095 : Int32))), .val (.int (p2 &&& (4095 : Int32))), .val (.int (p3 &&& (4095 : Int32))), .val (.ref b2), .val (.ref b7), .val (.ref b12), .val (.ref b18), .val (.ref b25), .val (.int (1 : Int32)), .unset] [(.ref b18), (.int (p2 &&& (4095 : Int32))), (.ref b7), (.int (p1 &&& (4095 : Int32))), (.int (p3 &&& (4095 : Int32))), (.ref b18)])) rfl (by rw [hml]; rfl) (argsL := [(.int (p3 &&& (4095 : Int32))), (.int (p1 &&& (4095 : Int32))), (.ref b7), (.int (p2 &&& (4095 : Int32))), (.ref b18)]) (rest := [(.ref b18)]) (lenOf pd_4 rfl) rfl (by show 2 * 0 + _ ≤ _; exact Nat.le_of_eq rfl) (hb hby at_205) (fun _ _ => ⟨rfl, eq193, (by decide : 25 + 0 ≤ _), (by decide : 36920 + 0 ≤ _)⟩)
        dsimp only [Pt.U, Pt.locs, Pt.cells, Pt.slots] at X196 l196 y196 z196 st196 hQ196
        subst l196 y196 z196
        obtain ⟨rfl, Nq196, eq196⟩ := hQ196
        have N196 := Fr.app N193 Nq196
        have k197 : ∀ t, own_S p e below T196 (mkF m 208 #[.val (.int p1), .val (.int p2), .val (.int p3), .val (.int p4), .val (.int p5), .val (.int (p1 &&& (4095 : Int32))), .val (.int (p2 &&& (4095 : Int32))), .val (.int (p3 &&& (4095 : Int32))), .val (.ref b2), .val (.ref b7), .val (.ref b12), .val (.ref b18), .val (.ref b25), .val (.int (1 : Int32)), .unset] [(.ref b18), (.ref b18)]) t → Gl t := fun t kt => k195 t (st196 _ kt)
        have k198 : ∀ t, own_S p e below T196 (mkF m 233 #[.val (.int p1), .val (.int p2), .val (.int p3), .val (.int p4), .val (.int p5), .val (.int (p1 &&& (4095 : Int32))), .val (.int (p2 &&& (4095 : Int32))), .val (.int (p3 &&& (4095 : Int32))), .val (.ref b2), .val (.ref b7), .val (.ref b12), .val (.ref b18), .val (.ref b25), .val (.int (1 : Int32)), .val (.int (1 : Int32))] [(.int (1 : Int32))]) t → Gl t := fun t kt => k197 t (by
          show own_S p e below T196 (mkF m 208 #[.val (.int p1), .val (.int p2), .val (.int p3), .val (.int p4), .val (.int p5), .val (.int (p1 &&& (4095 : Int32))), .val (.int (p2 &&& (4095 : Int32))), .val (.int (p3 &&& (4095 : Int32))), .val (.ref b2), .val (.ref b7), .val (.ref b12), .val (.ref b18), .val (.ref b25), .val (.int (1 : Int32)), .unset] [(.ref b18), (.ref b18)]) _
          refine Jvm.RoadKit.acmp (g := (mkF m 208 #[.val (.int p1), .val (.int p2), .val (.int p3), .val (.int p4), .val (.int p5), .val (.int (p1 &&& (4095 : Int32))), .val (.int (p2 &&& (4095 : Int32))), .val (.int (p3 &&& (4095 : Int32))), .val (.ref b2), .val (.ref b7), .val (.ref b12), .val (.ref b18), .val (.ref b25), .val (.int (1 : Int32)), .unset] [(.ref b18), (.ref b18)])) X196 hx rfl rfl rfl (pc0 := 208) (pc' := 211) (same := true) rfl (hb hby at_208) rfl (decide_eq_true rfl) (by decide) (by decide) ?_
          show own_S p e below T196 (mkF m 211 #[.val (.int p1), .val (.int p2), .val (.int p3), .val (.int p4), .val (.int p5), .val (.int (p1 &&& (4095 : Int32))), .val (.int (p2 &&& (4095 : Int32))), .val (.int (p3 &&& (4095 : Int32))), .val (.ref b2), .val (.ref b7), .val (.ref b12), .val (.ref b18), .val (.ref b25), .val (.int (1 : Int32)), .unset] []) _
          refine XS.iconst X196.here hx rfl (hb hby at_211) ?_
          show own_S p e below T196 (mkF m 212 #[.val (.int p1), .val (.int p2), .val (.int p3), .val (.int p4), .val (.int p5), .val (.int (p1 &&& (4095 : Int32))), .val (.int (p2 &&& (4095 : Int32))), .val (.int (p3 &&& (4095 : Int32))), .val (.ref b2), .val (.ref b7), .val (.ref b12), .val (.ref b18), .val (.ref b25), .val (.int (1 : Int32)), .unset] [(.int (1 : Int32))]) _
          refine XS.goto X196.here hx rfl (pc0 := 212) (pc' := 216) rfl (hb hby at_212) (by decide) (by decide) ?_
          show own_S p e below T196 (mkF m 216 #[.val (.int p1), .val (.int p2), .val (.int p3), .val (.int p4), .val (.int p5), .val (.int (p1 &&& (4095 : Int32))), .val (.int (p2 &&& (4095 : Int32))), .val (.int (p3 &&& (4095 : Int32))), .val (.ref b2), .val (.ref b7), .val (.ref b12), .val (.ref b18), .val (.ref b25), .val (.int (1 : Int32)), .unset] [(.int (1 : Int32))]) _
          refine XS.istore X196.here hx rfl (hb hby at_216) rfl (l' := #[.val (.int p1), .val (.int p2), .val (.int p3), .val (.int p4), .val (.int p5), .val (.int (p1 &&& (4095 : Int32))), .val (.int (p2 &&& (4095 : Int32))), .val (.int (p3 &&& (4095 : Int32))), .val (.ref b2), .val (.ref b7), .val (.ref b12), .val (.ref b18), .val (.ref b25), .val (.int (1 : Int32)), .val (.int (1 : Int32))]) rfl ?_
          show own_S p e below T196 (mkF m 218 #[.val (.int p1), .val (.int p2), .val (.int p3), .val (.int p4), .val (.int p5), .val (.int (p1 &&& (4095 : Int32))), .val (.int (p2 &&& (4095 : Int32))), .val (.int (p3 &&& (4095 : Int32))), .val (.ref b2), .val (.ref b7), .val (.ref b12), .val (.ref b18), .val (.ref b25), .val (.int (1 : Int32)), .val (.int (1 : Int32))] []) _
          refine XS.iload X196.here hx rfl (hb hby at_218) rfl ?_
          show own_S p e below T196 (mkF m 220 #[.val (.int p1), .val (.int p2), .val (.int p3), .val (.int p4), .val (.int p5), .val (.int (p1 &&& (4095 : Int32))), .val (.int (p2 &&& (4095 : Int32))), .val (.int (p3 &&& (4095 : Int32))), .val (.ref b2), .val (.ref b7), .val (.ref b12), .val (.ref b18), .val (.ref b25), .val (.int (1 : Int32)), .val (.int (1 : Int32))] [(.int (1 : Int32))]) _
          refine XS.ifNo X196.here hx rfl (hb hby at_220) rfl ((if0 _ _).trans (feq (by decide : ¬ ((1 : Int32) = (0 : Int32)))).1) ?_
          show own_S p e below T196 (mkF m 223 #[.val (.int p1), .val (.int p2), .val (.int p3), .val (.int p4), .val (.int p5), .val (.int (p1 &&& (4095 : Int32))), .val (.int (p2 &&& (4095 : Int32))), .val (.int (p3 &&& (4095 : Int32))), .val (.ref b2), .val (.ref b7), .val (.ref b12), .val (.ref b18), .val (.ref b25), .val (.int (1 : Int32)), .val (.int (1 : Int32))] []) _
          refine XS.iload X196.here hx rfl (hb hby at_223) rfl ?_
          show own_S p e below T196 (mkF m 225 #[.val (.int p1), .val (.int p2), .val (.int p3), .val (.int p4), .val (.int p5), .val (.int (p1 &&& (4095 : Int32))), .val (.int (p2 &&& (4095 : Int32))), .val (.int (p3 &&& (4095 : Int32))), .val (.ref b2), .val (.ref b7), .val (.ref b12), .val (.ref b18), .val (.ref b25), .val (.int (1 : Int32)), .val (.int (1 : Int32))] [(.int (1 : Int32))]) _
          refine XS.ifNo X196.here hx rfl (hb hby at_225) rfl ((if0 _ _).trans (feq (by decide : ¬ ((1 : Int32) = (0 : Int32)))).1) ?_
          show own_S p e below T196 (mkF m 228 #[.val (.int p1), .val (.int p2), .val (.int p3), .val (.int p4), .val (.int p5), .val (.int (p1 &&& (4095 : Int32))), .val (.int (p2 &&& (4095 : Int32))), .val (.int (p3 &&& (4095 : Int32))), .val (.ref b2), .val (.ref b7), .val (.ref b12), .val (.ref b18), .val (.ref b25), .val (.int (1 : Int32)), .val (.int (1 : Int32))] []) _
          refine XS.iconst X196.here hx rfl (hb hby at_228) ?_
          show own_S p e below T196 (mkF m 229 #[.val (.int p1), .val (.int p2), .val (.int p3), .val (.int p4), .val (.int p5), .val (.int (p1 &&& (4095 : Int32))), .val (.int (p2 &&& (4095 : Int32))), .val (.int (p3 &&& (4095 : Int32))), .val (.ref b2), .val (.ref b7), .val (.ref b12), .val (.ref b18), .val (.ref b25), .val (.int (1 : Int32)), .val (.int (1 : Int32))] [(.int (1 : Int32))]) _
          refine XS.goto X196.here hx rfl (pc0 := 229) (pc' := 233) rfl (hb hby at_229) (by decide) (by decide) ?_
          exact kt)
        obtain ⟨fs, hr, hrun, hended, hW, hsame⟩ := X196.leave (v := some (.int (1 : Int32))) (fun h => by rw [Bd.returns] at h; cases h)
        refine ⟨_, _, hGl _ (k198 _ (retN X196 hx (t := .boolean) Bd.returns (by simp) (hb hby at_233) hr)), hrun, hended, _, _, rfl, ?_, ⟨_, rfl⟩, hW, hsame.mono (by decide) (by decide)⟩
        show Q0 Z p1 p2 p3 p4 p5 G1 h0 n0 _ T196.heap _
        rw [eq196]
        exact ⟨rfl, N196⟩
      · have k199 : ∀ t, own_S p e below T189 (mkF m 192 #[.val (.int p1), .val (.int p2), .val (.int p3), .val (.int p4), .val (.int p5), .val (.int (p1 &&& (4095 : Int32))), .val (.int (p2 &&& (4095 : Int32))), .val (.int (p3 &&& (4095 : Int32))), .val (.ref b2), .val (.ref b7), .val (.ref b12), .val (.ref b18), .val (.ref b25), .val (.int (1 : Int32)), .unset] [(.int (p3 &&& (4095 : Int32))), (.ref b25)]) t → Gl t := fun t kt => k191 t (by
          show own_S p e below T189 (mkF m 188 #[.val (.int p1), .val (.int p2), .val (.int p3), .val (.int p4), .val (.int p5), .val (.int (p1 &&& (4095 : Int32))), .val (.int (p2 &&& (4095 : Int32))), .val (.int (p3 &&& (4095 : Int32))), .val (.ref b2), .val (.ref b7), .val (.ref b12), .val (.ref b18), .val (.ref b25), .val (.int (1 : Int32)), .unset] []) _
          refine XS.aload X189.here hx rfl (hb hby at_188) rfl rfl ?_
          show own_S p e below T189 (mkF m 190 #[.val (.int p1), .val (.int p2), .val (.int p3), .val (.int p4), .val (.int p5), .val (.int (p1 &&& (4095 : Int32))), .val (.int (p2 &&& (4095 : Int32))), .val (.int (p3 &&& (4095 : Int32))), .val (.ref b2), .val (.ref b7), .val (.ref b12), .val (.ref b18), .val (.ref b25), .val (.int (1 : Int32)), .unset] [(.ref b25)]) _
          refine XS.iload X189.here hx rfl (hb hby at_190) rfl ?_
          exact kt)
        obtain ⟨cq200, kq200, qa200, qb200, qc200⟩ := isOf hZ eq189 f161
        obtain ⟨_, _, ⟨T200, L200, cc200, ss200⟩, -, X200, ⟨Lc200, hQ200, l200, y200, z200⟩, st200⟩ := X189.virtualBack hx (y := (⟨"com/example/pricecollar/pricecollar/tape/TradeTape$Columns", "conditions", "(I)Ljava/lang/String;"⟩ : MethodName)) (z := (⟨"com/example/pricecollar/pricecollar/tape/TradeTape$Columns", "conditions", "(I)Ljava/lang/String;"⟩ : MethodName)) hown (mvT hZ (hw _ (List.mem_of_getElem? (i := 80) rfl))) (mvT hZ (hw _ (List.mem_of_getElem? (i := 81) rfl))) (notFace_of_selects (args := #[]) (mvT hZ (hw _ (List.mem_of_getElem? (i := 83) rfl)))) (mvT hZ (hw _ (List.mem_of_getElem? (i := 83) rfl))) (mvT hZ (hw _ (List.mem_of_getElem? (i := 82) rfl))) (by decide) (backOf (W := 0) (rm11n l Z a0 hw [] b25 (p3 &&& (4095 : Int32)) b33 bC67 kk33 kC67 [((p3 &&& (4095 : Int32)), (.int (-1 : Int32))), ((p2 &&& (4095 : Int32)), (.int (-1 : Int32))), ((p1 &&& (4095 : Int32)), (.int (-1 : Int32)))] [((p2 &&& (4095 : Int32)), (.ref b18)), ((p1 &&& (4095 : Int32)), (.ref b7))] T150.heap n0 Z153 f158 f159 f160 VC150 (own_4095 p3) (getH_hit (own_4095 p3).1 rfl) (getH_miss (own_4095 p3).1 h32 (getH_miss (own_4095 p3).1 h31 rfl))) hZ (hw _ (List.mem_of_getElem? (i := 84) rfl)) (hw _ (List.mem_of_getElem? (i := 36) rfl)) (by decide) (by decide)) qa200 qc200 (g := (mkF m 192 #[.val (.int p1), .val (.int p2), .val (.int p3), .val (.int p4), .val (.int p5), .val (.int (p1 &&& (4095 : Int32))), .val (.int (p2 &&& (4095 : Int32))), .val (.int (p3 &&& (4095 : Int32))), .val (.ref b2), .val (.ref b7), .val (.ref b12), .val (.ref b18), .val (.ref b25), .val (.int (1 : Int32)), .unset] [(.int (p3 &&& (4095 : Int32))), (.ref b25)])) rfl (by rw [hml]; rfl) (Steps.refl _) (argsL := [(.int (p3 &&& (4095 : Int32)))]) (rest := []) (lenOf pd_2 rfl) rfl (by show 2 * 0 + _ ≤ _; exact Nat.le_of_eq rfl) (hb hby at_192) (fun _ _ => ⟨rfl, eq189, (by decide : 25 + 0 ≤ _), (by decide : 36920 + 0 ≤ _)⟩)
        dsimp only [Pt.U, Pt.locs, Pt.cells, Pt.slots] at X200 l200 y200 z200 st200 hQ200
        subst l200 y200 z200
        obtain ⟨rfl, Nq200, eq200⟩ := hQ200
        have N200 := Fr.app N189 Nq200
        have k201 : ∀ t, own_S p e below T200 (mkF m 195 #[.val (.int p1), .val (.int p2), .val (.int p3), .val (.int p4), .val (.int p5), .val (.int (p1 &&& (4095 : Int32))), .val (.int (p2 &&& (4095 : Int32))), .val (.int (p3 &&& (4095 : Int32))), .val (.ref b2), .val (.ref b7), .val (.ref b12), .val (.ref b18), .val (.ref b25), .val (.int (1 : Int32)), .unset] [.null]) t → Gl t := fun t kt => k199 t (st200.trans kt)
        have k202 : ∀ t, own_S p e below T200 (mkF m 205 #[.val (.int p1), .val (.int p2), .val (.int p3), .val (.int p4), .val (.int p5), .val (.int (p1 &&& (4095 : Int32))), .val (.int (p2 &&& (4095 : Int32))), .val (.int (p3 &&& (4095 : Int32))), .val (.ref b2), .val (.ref b7), .val (.ref b12), .val (.ref b18), .val (.ref b25), .val (.int (1 : Int32)), .unset] [(.ref b18), (.int (p2 &&& (4095 : Int32))), (.ref b7), (.int (p1 &&& (4095 : Int32))), (.int (p3 &&& (4095 : Int32))), .null]) t → Gl t := fun t kt => k201 t (by
          show own_S p e below T200 (mkF m 195 #[.val (.int p1), .val (.int p2), .val (.int p3), .val (.int p4), .val (.int p5), .val (.int (p1 &&& (4095 : Int32))), .val (.int (p2 &&& (4095 : Int32))), .val (.int (p3 &&& (4095 : Int32))), .val (.ref b2), .val (.ref b7), .val (.ref b12), .val (.ref b18), .val (.ref b25), .val (.int (1 : Int32)), .unset] [.null]) _
          refine XS.iload X200.here hx rfl (hb hby at_195) rfl ?_
          show own_S p e below T200 (mkF m 197 #[.val (.int p1), .val (.int p2), .val (.int p3), .val (.int p4), .val (.int p5), .val (.int (p1 &&& (4095 : Int32))), .val (.int (p2 &&& (4095 : Int32))), .val (.int (p3 &&& (4095 : Int32))), .val (.ref b2), .val (.ref b7), .val (.ref b12), .val (.ref b18), .val (.ref b25), .val (.int (1 : Int32)), .unset] [(.int (p3 &&& (4095 : Int32))), .null]) _
          refine XS.iload X200.here hx rfl (hb hby at_197) rfl ?_
          show own_S p e below T200 (mkF m 199 #[.val (.int p1), .val (.int p2), .val (.int p3), .val (.int p4), .val (.int p5), .val (.int (p1 &&& (4095 : Int32))), .val (.int (p2 &&& (4095 : Int32))), .val (.int (p3 &&& (4095 : Int32))), .val (.ref b2), .val (.ref b7), .val (.ref b12), .val (.ref b18), .val (.ref b25), .val (.int (1 : Int32)), .unset] [(.int (p1 &&& (4095 : Int32))), (.int (p3 &&& (4095 : Int32))), .null]) _
          refine XS.aload X200.here hx rfl (hb hby at_199) rfl rfl ?_
          show own_S p e below T200 (mkF m 201 #[.val (.int p1), .val (.int p2), .val (.int p3), .val (.int p4), .val (.int p5), .val (.int (p1 &&& (4095 : Int32))), .val (.int (p2 &&& (4095 : Int32))), .val (.int (p3 &&& (4095 : Int32))), .val (.ref b2), .val (.ref b7), .val (.ref b12), .val (.ref b18), .val (.ref b25), .val (.int (1 : Int32)), .unset] [(.ref b7), (.int (p1 &&& (4095 : Int32))), (.int (p3 &&& (4095 : Int32))), .null]) _
          refine XS.iload X200.here hx rfl (hb hby at_201) rfl ?_
          show own_S p e below T200 (mkF m 203 #[.val (.int p1), .val (.int p2), .val (.int p3), .val (.int p4), .val (.int p5), .val (.int (p1 &&& (4095 : Int32))), .val (.int (p2 &&& (4095 : Int32))), .val (.int (p3 &&& (4095 : Int32))), .val (.ref b2), .val (.ref b7), .val (.ref b12), .val (.ref b18), .val (.ref b25), .val (.int (1 : Int32)), .unset] [(.int (p2 &&& (4095 : Int32))), (.ref b7), (.int (p1 &&& (4095 : Int32))), (.int (p3 &&& (4095 : Int32))), .null]) _
          refine XS.aload X200.here hx rfl (hb hby at_203) rfl rfl ?_
          exact kt)
        obtain ⟨_, _, ⟨T203, L203, cc203, ss203⟩, -, X203, ⟨Lc203, hQ203, l203, y203, z203⟩, st203⟩ := Jvm.LawKit.callS X200 hx (y := (⟨"com/example/pricecollar/pricecollar/tape/ColumnsKeepUnnumberedPinLaw", "expected", "(IILjava/lang/String;ILjava/lang/String;)Ljava/lang/String;"⟩ : MethodName)) hown (mvT hZ (hw _ (List.mem_of_getElem? (i := 85) rfl))) (mvT hZ (hw _ (List.mem_of_getElem? (i := 86) rfl))) (mvT hZ (hw _ (List.mem_of_getElem? (i := 2) rfl))) (mvT hZ (hw _ (List.mem_of_getElem? (i := 87) rfl))) (by decide) (backOf (W := 1) (rm12c l Z a0 hw [] (p3 &&& (4095 : Int32)) (p1 &&& (4095 : Int32)) b7 (p2 &&& (4095 : Int32)) b18  T150.heap n0 Z153 h32 h31) hZ (hw _ (List.mem_of_getElem? (i := 87) rfl)) (hw _ (List.mem_of_getElem? (i := 2) rfl)) (by decide) (by decide)) (g := (mkF m 205 #[.val (.int p1), .val (.int p2), .val (.int p3), .val (.int p4), .val (.int p5), .val (.int (p1 &&& (4095 : Int32))), .val (.int (p2 &&& (4095 : Int32))), .val (.int (p3 &&& (4095 : Int32))), .val (.ref b2), .val (.ref b7), .val (.ref b12), .val (.ref b18), .val (.ref b25), .val (.int (1 : Int32)), .unset] [(.ref b18), (.int (p2 &&& (4095 : Int32))), (.ref b7), (.int (p1 &&& (4095 : Int32))), (.int (p3 &&& (4095 : Int32))), .null])) rfl (by rw [hml]; rfl) (argsL := [(.int (p3 &&& (4095 : Int32))), (.int (p1 &&& (4095 : Int32))), (.ref b7), (.int (p2 &&& (4095 : Int32))), (.ref b18)]) (rest := [.null]) (lenOf pd_4 rfl) rfl (by show 2 * 0 + _ ≤ _; exact Nat.le_of_eq rfl) (hb hby at_205) (fun _ _ => ⟨rfl, eq200, (by decide : 25 + 0 ≤ _), (by decide : 36920 + 0 ≤ _)⟩)
        dsimp only [Pt.U, Pt.locs, Pt.cells, Pt.slots] at X203 l203 y203 z203 st203 hQ203
        subst l203 y203 z203
        obtain ⟨rfl, Nq203, eq203⟩ := hQ203
        have N203 := Fr.app N200 Nq203
        have k204 : ∀ t, own_S p e below T203 (mkF m 208 #[.val (.int p1), .val (.int p2), .val (.int p3), .val (.int p4), .val (.int p5), .val (.int (p1 &&& (4095 : Int32))), .val (.int (p2 &&& (4095 : Int32))), .val (.int (p3 &&& (4095 : Int32))), .val (.ref b2), .val (.ref b7), .val (.ref b12), .val (.ref b18), .val (.ref b25), .val (.int (1 : Int32)), .unset] [.null, .null]) t → Gl t := fun t kt => k202 t (st203 _ kt)
        have k205 : ∀ t, own_S p e below T203 (mkF m 233 #[.val (.int p1), .val (.int p2), .val (.int p3), .val (.int p4), .val (.int p5), .val (.int (p1 &&& (4095 : Int32))), .val (.int (p2 &&& (4095 : Int32))), .val (.int (p3 &&& (4095 : Int32))), .val (.ref b2), .val (.ref b7), .val (.ref b12), .val (.ref b18), .val (.ref b25), .val (.int (1 : Int32)), .val (.int (1 : Int32))] [(.int (1 : Int32))]) t → Gl t := fun t kt => k204 t (by
          show own_S p e below T203 (mkF m 208 #[.val (.int p1), .val (.int p2), .val (.int p3), .val (.int p4), .val (.int p5), .val (.int (p1 &&& (4095 : Int32))), .val (.int (p2 &&& (4095 : Int32))), .val (.int (p3 &&& (4095 : Int32))), .val (.ref b2), .val (.ref b7), .val (.ref b12), .val (.ref b18), .val (.ref b25), .val (.int (1 : Int32)), .unset] [.null, .null]) _
          refine Jvm.RoadKit.acmp (g := (mkF m 208 #[.val (.int p1), .val (.int p2), .val (.int p3), .val (.int p4), .val (.int p5), .val (.int (p1 &&& (4095 : Int32))), .val (.int (p2 &&& (4095 : Int32))), .val (.int (p3 &&& (4095 : Int32))), .val (.ref b2), .val (.ref b7), .val (.ref b12), .val (.ref b18), .val (.ref b25), .val (.int (1 : Int32)), .unset] [.null, .null])) X203 hx rfl rfl rfl (pc0 := 208) (pc' := 211) (same := true) rfl (hb hby at_208) rfl (decide_eq_true rfl) (by decide) (by decide) ?_
          show own_S p e below T203 (mkF m 211 #[.val (.int p1), .val (.int p2), .val (.int p3), .val (.int p4), .val (.int p5), .val (.int (p1 &&& (4095 : Int32))), .val (.int (p2 &&& (4095 : Int32))), .val (.int (p3 &&& (4095 : Int32))), .val (.ref b2), .val (.ref b7), .val (.ref b12), .val (.ref b18), .val (.ref b25), .val (.int (1 : Int32)), .unset] []) _
          refine XS.iconst X203.here hx rfl (hb hby at_211) ?_
          show own_S p e below T203 (mkF m 212 #[.val (.int p1), .val (.int p2), .val (.int p3), .val (.int p4), .val (.int p5), .val (.int (p1 &&& (4095 : Int32))), .val (.int (p2 &&& (4095 : Int32))), .val (.int (p3 &&& (4095 : Int32))), .val (.ref b2), .val (.ref b7), .val (.ref b12), .val (.ref b18), .val (.ref b25), .val (.int (1 : Int32)), .unset] [(.int (1 : Int32))]) _
          refine XS.goto X203.here hx rfl (pc0 := 212) (pc' := 216) rfl (hb hby at_212) (by decide) (by decide) ?_
          show own_S p e below T203 (mkF m 216 #[.val (.int p1), .val (.int p2), .val (.int p3), .val (.int p4), .val (.int p5), .val (.int (p1 &&& (4095 : Int32))), .val (.int (p2 &&& (4095 : Int32))), .val (.int (p3 &&& (4095 : Int32))), .val (.ref b2), .val (.ref b7), .val (.ref b12), .val (.ref b18), .val (.ref b25), .val (.int (1 : Int32)), .unset] [(.int (1 : Int32))]) _
          refine XS.istore X203.here hx rfl (hb hby at_216) rfl (l' := #[.val (.int p1), .val (.int p2), .val (.int p3), .val (.int p4), .val (.int p5), .val (.int (p1 &&& (4095 : Int32))), .val (.int (p2 &&& (4095 : Int32))), .val (.int (p3 &&& (4095 : Int32))), .val (.ref b2), .val (.ref b7), .val (.ref b12), .val (.ref b18), .val (.ref b25), .val (.int (1 : Int32)), .val (.int (1 : Int32))]) rfl ?_
          show own_S p e below T203 (mkF m 218 #[.val (.int p1), .val (.int p2), .val (.int p3), .val (.int p4), .val (.int p5), .val (.int (p1 &&& (4095 : Int32))), .val (.int (p2 &&& (4095 : Int32))), .val (.int (p3 &&& (4095 : Int32))), .val (.ref b2), .val (.ref b7), .val (.ref b12), .val (.ref b18), .val (.ref b25), .val (.int (1 : Int32)), .val (.int (1 : Int32))] []) _
          refine XS.iload X203.here hx rfl (hb hby at_218) rfl ?_
          show own_S p e below T203 (mkF m 220 #[.val (.int p1), .val (.int p2), .val (.int p3), .val (.int p4), .val (.int p5), .val (.int (p1 &&& (4095 : Int32))), .val (.int (p2 &&& (4095 : Int32))), .val (.int (p3 &&& (4095 : Int32))), .val (.ref b2), .val (.ref b7), .val (.ref b12), .val (.ref b18), .val (.ref b25), .val (.int (1 : Int32)), .val (.int (1 : Int32))] [(.int (1 : Int32))]) _
          refine XS.ifNo X203.here hx rfl (hb hby at_220) rfl ((if0 _ _).trans (feq (by decide : ¬ ((1 : Int32) = (0 : Int32)))).1) ?_
          show own_S p e below T203 (mkF m 223 #[.val (.int p1), .val (.int p2), .val (.int p3), .val (.int p4), .val (.int p5), .val (.int (p1 &&& (4095 : Int32))), .val (.int (p2 &&& (4095 : Int32))), .val (.int (p3 &&& (4095 : Int32))), .val (.ref b2), .val (.ref b7), .val (.ref b12), .val (.ref b18), .val (.ref b25), .val (.int (1 : Int32)), .val (.int (1 : Int32))] []) _
          refine XS.iload X203.here hx rfl (hb hby at_223) rfl ?_
          show own_S p e below T203 (mkF m 225 #[.val (.int p1), .val (.int p2), .val (.int p3), .val (.int p4), .val (.int p5), .val (.int (p1 &&& (4095 : Int32))), .val (.int (p2 &&& (4095 : Int32))), .val (.int (p3 &&& (4095 : Int32))), .val (.ref b2), .val (.ref b7), .val (.ref b12), .val (.ref b18), .val (.ref b25), .val (.int (1 : Int32)), .val (.int (1 : Int32))] [(.int (1 : Int32))]) _
          refine XS.ifNo X203.here hx rfl (hb hby at_225) rfl ((if0 _ _).trans (feq (by decide : ¬ ((1 : Int32) = (0 : Int32)))).1) ?_
          show own_S p e below T203 (mkF m 228 #[.val (.int p1), .val (.int p2), .val (.int p3), .val (.int p4), .val (.int p5), .val (.int (p1 &&& (4095 : Int32))), .val (.int (p2 &&& (4095 : Int32))), .val (.int (p3 &&& (4095 : Int32))), .val (.ref b2), .val (.ref b7), .val (.ref b12), .val (.ref b18), .val (.ref b25), .val (.int (1 : Int32)), .val (.int (1 : Int32))] []) _
          refine XS.iconst X203.here hx rfl (hb hby at_228) ?_
          show own_S p e below T203 (mkF m 229 #[.val (.int p1), .val (.int p2), .val (.int p3), .val (.int p4), .val (.int p5), .val (.int (p1 &&& (4095 : Int32))), .val (.int (p2 &&& (4095 : Int32))), .val (.int (p3 &&& (4095 : Int32))), .val (.ref b2), .val (.ref b7), .val (.ref b12), .val (.ref b18), .val (.ref b25), .val (.int (1 : Int32)), .val (.int (1 : Int32))] [(.int (1 : Int32))]) _
          refine XS.goto X203.here hx rfl (pc0 := 229) (pc' := 233) rfl (hb hby at_229) (by decide) (by decide) ?_
          exact kt)
        obtain ⟨fs, hr, hrun, hended, hW, hsame⟩ := X203.leave (v := some (.int (1 : Int32))) (fun h => by rw [Bd.returns] at h; cases h)
        refine ⟨_, _, hGl _ (k205 _ (retN X203 hx (t := .boolean) Bd.returns (by simp) (hb hby at_233) hr)), hrun, hended, _, _, rfl, ?_, ⟨_, rfl⟩, hW, hsame.mono (by decide) (by decide)⟩
        show Q0 Z p1 p2 p3 p4 p5 G1 h0 n0 _ T203.heap _
        rw [eq203]
        exact ⟨rfl, N203⟩

set_option maxRecDepth 65536 in
set_option maxHeartbeats 40000000 in
theorem comes_1 {Post : Tables → Env → Array Value → State → Outcome → State → Prop} (hpost : ∀ tb e args s v u, (limb_1_1.after args s (.returned v) u = true ∧ limb_1_2.after args s (.returned v) u = true ∧ True) → FrameEnd s (.returned v) u (Jvm.fieldLocs frame_1_writes args s ++ Jvm.arrayLocs frame_1_arrays args s ++ Jvm.staticLocs frame_1_statics s) 64 73920 → Post tb e args s (.returned v) u) :
    ArmFor flags0 classFile x code maxLocals ret World_1 tables_1 room_1 Calls_1 rest_1 Pre_1 Post := by
  intro l hfl _ _ p e ha hc hk s m args below hf hA hF happ hP
  obtain ⟨hcalls, hrest, hpre⟩ := hP
  obtain ⟨-, -, -, hnamed, -, -, -, hat⟩ := (Spec.applies_iff hf).mp happ
  obtain ⟨hg, hn⟩ := and_e (Cond.before_iff.mp (show (Jvm.Cond.and given_1 narrow_1).before args s = true from hpre))
  obtain ⟨gc, gr0⟩ := and_e hg
  obtain ⟨ga0, gr1⟩ := and_e gr0
  obtain ⟨ga1, gr2⟩ := and_e gr1
  obtain ⟨ga2, gr3⟩ := and_e gr2
  obtain ⟨ga3, gr4⟩ := and_e gr3
  obtain ⟨w0, w1, w2, w3, w4, rfl⟩ : ∃ w0 w1 w2 w3 w4 : Value, args = #[w0, w1, w2, w3, w4] := by
    have hs : args.size = 5 := by simpa [Cond.value, given_1] using gc
    obtain ⟨L⟩ := args
    match L, hs with
    | [w0, w1, w2, w3, w4], _ => exact ⟨w0, w1, w2, w3, w4, rfl⟩
  have hw := fun d (hd : d ∈ tables_1) => atoms_spec (ws := Jvm.Cond.code x code maxLocals ret :: tables_1) hat d (List.mem_cons_of_mem _ hd)
  have hfit : Fit s := fun {y c} hc i hi => by
    obtain ⟨ha, rfl⟩ := Array.getElem?_eq_some_iff.mp hc
    have q := List.all_eq_true.mp ((Array.all_eq_true_iff_forall_mem.mp hF) _ (Array.getElem_mem ha)) i (List.mem_range.mpr hi)
    simpa [Array.getElem?_eq_getElem hi] using q
  obtain ⟨hsets, hown0⟩ := atoms_of _ (rest_1_c_eq ▸ (show rest_1_c.before _ s = true from hrest))
  have hr0 := Cond.before_iff.mp hown0
  obtain ⟨i0, ei0⟩ := is_v ga0
  obtain rfl : w0 = (.int i0) := Option.some.inj ei0
  obtain ⟨i1, ei1⟩ := is_v ga1
  obtain rfl : w1 = (.int i1) := Option.some.inj ei1
  obtain ⟨i2, ei2⟩ := is_v ga2
  obtain rfl : w2 = (.int i2) := Option.some.inj ei2
  obtain ⟨i3, ei3⟩ := is_v ga3
  obtain rfl : w3 = (.int i3) := Option.some.inj ei3
  obtain ⟨i4, ei4⟩ := is_v gr4
  obtain rfl : w4 = (.int i4) := Option.some.inj ei4
  have n5 := not_v (Cond.before_iff.mp (hsets _ (List.mem_of_getElem? (i := 2) rfl)))
  obtain ⟨G1, e10⟩ := is_v (Cond.before_iff.mp (hsets _ (List.mem_of_getElem? (i := 1) rfl)))
  have S12 : Sta s s.heap "java/lang/String" "COMPACT_STRINGS" "Z" (.int G1) := Sta.start e10 (Or.inl (hsets _ (List.mem_of_getElem? (i := 0) rfl)))
  have c17 : ¬ (G1 = (0 : Int32)) := gotF (Cond.eq_ints e10 (Term.int_eval (0))) n5
  obtain ⟨n, o, h1, h2, h3, _, L, rfl, ⟨rfl, N⟩, hq⟩ := rm0 l s _ hw tables_1 i0 i1 i2 i3 i4 G1 s.heap s.heap.size (Nat.le_refl _) (Old.start s) S12 c17 p e ha hc hk s m _ below hf ((Spec.applies_iff_loose hf).mp happ).1 ⟨rfl, State.Warmed39.refl s, rfl⟩ trivial
  refine ⟨n, _, h1, h2, h3, hpost _ _ _ _ _ _ ⟨Cond.after_iff.mpr rfl, Cond.after_iff.mpr (eq_i res_at (Term.int_eval (1)) rfl), trivial⟩ ⟨hq.1, hq.2.1, (hq.2.2.sift fun y hy => Or.inr (N y hy)).mono (by decide) (by decide)⟩⟩
theorem main_1_1 : Claimed_1_1 := comes_1 fun _ _ _ _ _ _ h hF => ⟨h.1, hF⟩
theorem main_1_2 : Claimed_1_2 := comes_1 fun _ _ _ _ _ _ h hF => ⟨h.2.1, hF⟩

end Jvm.Pilot.@@N@@
namespace Jvm.Pilot.@@N@@
open Jvm Jvm.ClassFile Sem Op Lib Jvm.Free Jvm.Stand Jvm.Pilot.@@N@@.Jvm.D
/-! MADE BY PROGRAM (witnessworld.py) out of the Statement's table words and the real class files: 24 classes; the members and pool entries that the words name. The judged class is class 1, her method 3. -/
namespace start1
open Jvm.ClassFile
def u (s : String) : CpInfo := .utf8 (stringToUtf16 s)
/-- a pool by its gaps: so many unusable entries, then the entry; so many at the end -/
def gap : Nat → List CpInfo → List CpInfo
  | 0, r => r
  | n + 1, r => .unusable :: gap n r
def poolList (es : List (Nat × CpInfo)) (last : Nat) : List CpInfo := es.foldr (fun e r => gap e.1 (e.2 :: r)) (gap last [])
def pool (es : List (Nat × CpInfo)) (last : Nat) : Array CpInfo := ⟨poolList es last⟩
def fileOf (pool : Array CpInfo) (this : Nat) (attrs : Array Attribute := #[]) (ms : Array MethodInfo := #[]) (fl : Nat := 33) (sup : Nat := 0) (ifs : Array Nat := #[]) (fds : Array FieldInfo := #[]) : ClassFile where
  minorVersion := 0
  majorVersion := 65
  constantPool := pool
  accessFlags := fl
  thisClass := this
  superClass := sup
  interfaces := ifs
  fields := fds
  methods := ms
  attributes := attrs
def plain (name : String) (sup : Option ClassId) : Class where
  name := name
  kind := .ordinary
  loader := none
  accessFlags := 33
  super := sup
  interfaces := #[]
  cf := none
  fields := #[]
  methods := #[]
  instanceTypes := #[]
  staticTypes := #[]
  resolved := #[]
  callSites := []
  init := .initialized
  statics := none
  mirror := none

def pool0 : Array CpInfo := pool [(5, u "<init>"), (0, u "()V"), (1, .class_ 10), (1, u "java/lang/Object")] 113

def k0c0 : Code := { maxStack := 0, maxLocals := 1, code := object_method_1_code, exceptionTable := #[], attributes := #[] }
def k0m0 : Method := { name := "<init>", desc := "()V", sig := { parameters := [], returnType := none }, accessFlags := 1, code := some k0c0 }
/-- java/lang/Object -/
def k0 : Class := { plain "java/lang/Object" none with
  accessFlags := 33
  interfaces := #[]
  cf := some (fileOf pool0 8 #[] #[{ accessFlags := 1, nameIndex := 5, descriptorIndex := 6, attributes := #[] }] 33 0 #[] #[])
  fields := #[]
  methods := #[k0m0]
  instanceTypes := #[]
  staticTypes := #[]
  resolved := Array.replicate 124 none
  statics := none }

def pool1 : Array CpInfo := pool [(2, .class_ 4), (0, .nameAndType 5 6), (0, u "java/lang/Object"), (0, u "<init>"), (0, u "()V"), (0, .class_ 8), (0, u "java/lang/String"), (0, .methodref 7 10), (0, .nameAndType 5 11), (0, u "([C)V"), (0, .methodref 13 14), (0, .class_ 15), (0, .nameAndType 16 17), (0, u "com/example/pricecollar/pricecollar/tape/ColumnsKeepUnnumberedPinLaw"), (0, u "text"), (0, u "(I)Ljava/lang/String;"), (0, .class_ 19), (0, u "com/example/pricecollar/pricecollar/tape/TradeTape$Columns"), (0, .methodref 18 3), (0, .fieldref 18 22), (0, .nameAndType 23 24), (0, u "conditionsNumbers"), (0, u "[I"), (0, .methodref 18 26), (0, .nameAndType 27 28), (0, u "keepUnnumbered"), (0, u "(ILjava/lang/String;Ljava/lang/String;)V"), (0, .methodref 18 30), (0, .nameAndType 31 17), (0, u "conditions"), (0, .methodref 13 33), (0, .nameAndType 34 35), (0, u "expected"), (0, u "(IILjava/lang/String;ILjava/lang/String;)Ljava/lang/String;"), (3, u "law"), (0, u "(IIIII)Z")] 6

def k1m0 : Method := { name := "<init>", desc := "()V", sig := { parameters := [], returnType := none }, accessFlags := 2, code := none }
def k1c1 : Code := { maxStack := 4, maxLocals := 2, code := method_2_code, exceptionTable := #[], attributes := #[] }
def k1m1 : Method := { name := "text", desc := "(I)Ljava/lang/String;", sig := { parameters := [.int], returnType := some (.object "java/lang/String") }, accessFlags := 10, code := some k1c1 }
def k1c2 : Code := { maxStack := 2, maxLocals := 5, code := method_3_code, exceptionTable := #[], attributes := #[] }
def k1m2 : Method := { name := "expected", desc := "(IILjava/lang/String;ILjava/lang/String;)Ljava/lang/String;", sig := { parameters := [.int, .int, (.object "java/lang/String"), .int, (.object "java/lang/String")], returnType := some (.object "java/lang/String") }, accessFlags := 10, code := some k1c2 }
def k1c3 : Code := { maxStack := 6, maxLocals := 15, code := code, exceptionTable := #[], attributes := #[] }
def k1m3 : Method := { name := "law", desc := "(IIIII)Z", sig := { parameters := [.int, .int, .int, .int, .int], returnType := some .boolean }, accessFlags := 9, code := some k1c3 }
/-- com/example/pricecollar/pricecollar/tape/ColumnsKeepUnnumberedPinLaw -/
def k1 : Class := { plain "com/example/pricecollar/pricecollar/tape/ColumnsKeepUnnumberedPinLaw" (some 0) with
  accessFlags := 49
  interfaces := #[]
  cf := some (fileOf pool1 13 #[] #[{ accessFlags := 2, nameIndex := 5, descriptorIndex := 6, attributes := #[] }, { accessFlags := 10, nameIndex := 16, descriptorIndex := 17, attributes := #[] }, { accessFlags := 10, nameIndex := 34, descriptorIndex := 35, attributes := #[] }, { accessFlags := 9, nameIndex := 39, descriptorIndex := 40, attributes := #[] }] 49 2 #[] #[])
  fields := #[]
  methods := #[k1m0, k1m1, k1m2, k1m3]
  instanceTypes := #[]
  staticTypes := #[]
  resolved := Array.replicate 47 none
  statics := none }

def pool2 : Array CpInfo := pool [(1, .class_ 2), (0, u "java/io/Serializable"), (0, .class_ 4), (0, u "java/lang/Object")] 2

/-- java/io/Serializable -/
def k2 : Class := { plain "java/io/Serializable" (some 0) with
  accessFlags := 1537
  interfaces := #[]
  cf := some (fileOf pool2 1 #[] #[] 1537 3 #[] #[])
  fields := #[]
  methods := #[]
  instanceTypes := #[]
  staticTypes := #[]
  resolved := Array.replicate 7 none
  statics := none }

def pool3 : Array CpInfo := pool [(1, .class_ 2), (0, u "java/lang/Comparable"), (0, .class_ 4), (0, u "java/lang/Object")] 7

/-- java/lang/Comparable -/
def k3 : Class := { plain "java/lang/Comparable" (some 0) with
  accessFlags := 1537
  interfaces := #[]
  cf := some (fileOf pool3 1 #[] #[] 1537 3 #[] #[])
  fields := #[]
  methods := #[]
  instanceTypes := #[]
  staticTypes := #[]
  resolved := Array.replicate 12 none
  statics := none }

def pool4 : Array CpInfo := pool [(2, .class_ 4), (1, u "java/lang/CharSequence"), (42, .class_ 48), (0, u "java/lang/CharSequence$1CodePointIterator"), (10, .class_ 60), (0, u "java/lang/CharSequence$1CharIterator"), (5, .class_ 67), (0, u "java/lang/Object")] 63

/-- java/lang/CharSequence -/
def k4 : Class := { plain "java/lang/CharSequence" (some 0) with
  accessFlags := 1537
  interfaces := #[]
  cf := some (fileOf pool4 2 #[.nestMembers #[47, 59]] #[] 1537 66 #[] #[])
  fields := #[]
  methods := #[]
  instanceTypes := #[]
  staticTypes := #[]
  resolved := Array.replicate 131 none
  statics := none }

def pool5 : Array CpInfo := pool [(1, .class_ 2), (0, u "java/lang/constant/Constable"), (0, .class_ 4), (0, u "java/lang/Object")] 6

/-- java/lang/constant/Constable -/
def k5 : Class := { plain "java/lang/constant/Constable" (some 0) with
  accessFlags := 1537
  interfaces := #[]
  cf := some (fileOf pool5 1 #[] #[] 1537 3 #[] #[])
  fields := #[]
  methods := #[]
  instanceTypes := #[]
  staticTypes := #[]
  resolved := Array.replicate 11 none
  statics := none }

def pool6 : Array CpInfo := pool [(1, .class_ 2), (0, u "java/lang/constant/ConstantDesc"), (0, .class_ 4), (0, u "java/lang/Object")] 32

/-- java/lang/constant/ConstantDesc -/
def k6 : Class := { plain "java/lang/constant/ConstantDesc" (some 0) with
  accessFlags := 1537
  interfaces := #[]
  cf := some (fileOf pool6 1 #[] #[] 1537 3 #[] #[])
  fields := #[]
  methods := #[]
  instanceTypes := #[]
  staticTypes := #[]
  resolved := Array.replicate 37 none
  statics := none }

def pool7 : Array CpInfo := pool [(1, .methodref 2 3), (0, .class_ 4), (0, .nameAndType 5 6), (0, u "java/lang/Object"), (0, u "<init>"), (0, u "()V"), (2, .fieldref 10 11), (0, .class_ 12), (0, .nameAndType 13 14), (0, u "java/lang/String"), (0, u "value"), (0, u "[B"), (0, .fieldref 10 16), (0, .nameAndType 17 18), (0, u "coder"), (0, u "B"), (2, u "hash"), (0, u "I"), (2, u "hashIsZero"), (0, u "Z"), (0, .methodref 10 28), (0, .nameAndType 5 29), (0, u "([CIILjava/lang/Void;)V"), (8, .fieldref 10 39), (0, .nameAndType 40 26), (0, u "COMPACT_STRINGS"), (1, .class_ 44), (1, u "java/lang/StringUTF16"), (0, u "compress"), (1, .methodref 42 48), (0, .nameAndType 49 50), (0, u "coderFromArrayLen"), (0, u "([BI)B"), (126, .methodref 42 178), (0, .nameAndType 45 179), (0, u "([CII)[B"), (395, .class_ 576), (0, u "java/lang/CharSequence"), (22, u "CASE_INSENSITIVE_ORDER"), (0, u "Ljava/util/Comparator;"), (409, u "([C)V"), (90, u "serialPersistentFields"), (0, u "[Ljava/io/ObjectStreamField;"), (0, .class_ 1104), (0, u "java/lang/String$CaseInsensitiveComparator"), (1, .class_ 1107), (0, u "java/io/Serializable"), (0, .class_ 1109), (0, u "java/lang/Comparable"), (0, .class_ 1111), (0, u "java/lang/constant/Constable"), (0, .class_ 1113), (0, u "java/lang/constant/ConstantDesc"), (2, u "serialVersionUID"), (0, u "J"), (3, u "REPL"), (0, u "C"), (2, u "LATIN1"), (1, u "UTF16")] 323

def k7m0 : Method := { name := "<init>", desc := "()V", sig := { parameters := [], returnType := none }, accessFlags := 1, code := none }
def k7c1 : Code := { maxStack := 5, maxLocals := 2, code := jdk_42_method_3_code, exceptionTable := #[], attributes := #[] }
def k7m1 : Method := { name := "<init>", desc := "([C)V", sig := { parameters := [(.array .char)], returnType := none }, accessFlags := 1, code := some k7c1 }
def k7c2 : Code := { maxStack := 4, maxLocals := 6, code := jdk_42_method_149_code, exceptionTable := #[], attributes := #[] }
def k7m2 : Method := { name := "<init>", desc := "([CIILjava/lang/Void;)V", sig := { parameters := [(.array .char), .int, .int, (.object "java/lang/Void")], returnType := none }, accessFlags := 2, code := some k7c2 }
/-- java/lang/String -/
def k7 : Class := { plain "java/lang/String" (some 0) with
  accessFlags := 49
  interfaces := #[2, 3, 4, 5, 6]
  cf := some (fileOf pool7 10 #[.nestMembers #[1103]] #[{ accessFlags := 1, nameIndex := 5, descriptorIndex := 6, attributes := #[] }, { accessFlags := 1, nameIndex := 5, descriptorIndex := 1010, attributes := #[] }, { accessFlags := 2, nameIndex := 5, descriptorIndex := 29, attributes := #[] }] 49 2 #[1106, 1108, 575, 1110, 1112] #[{ accessFlags := 18, nameIndex := 13, descriptorIndex := 14, attributes := #[] }, { accessFlags := 18, nameIndex := 17, descriptorIndex := 18, attributes := #[] }, { accessFlags := 2, nameIndex := 21, descriptorIndex := 22, attributes := #[] }, { accessFlags := 2, nameIndex := 25, descriptorIndex := 26, attributes := #[] }, { accessFlags := 26, nameIndex := 1116, descriptorIndex := 1117, attributes := #[] }, { accessFlags := 24, nameIndex := 40, descriptorIndex := 26, attributes := #[] }, { accessFlags := 26, nameIndex := 1101, descriptorIndex := 1102, attributes := #[] }, { accessFlags := 26, nameIndex := 1121, descriptorIndex := 1122, attributes := #[] }, { accessFlags := 25, nameIndex := 599, descriptorIndex := 600, attributes := #[] }, { accessFlags := 24, nameIndex := 1125, descriptorIndex := 18, attributes := #[] }, { accessFlags := 24, nameIndex := 1127, descriptorIndex := 18, attributes := #[] }])
  fields := #[{ name := "value", type := (.array .byte), accessFlags := 18, slot := 0, constantValue := 0 }, { name := "coder", type := .byte, accessFlags := 18, slot := 1, constantValue := 0 }, { name := "hash", type := .int, accessFlags := 2, slot := 2, constantValue := 0 }, { name := "hashIsZero", type := .boolean, accessFlags := 2, slot := 3, constantValue := 0 }, { name := "serialVersionUID", type := .long, accessFlags := 26, slot := 0, constantValue := 0 }, { name := "COMPACT_STRINGS", type := .boolean, accessFlags := 24, slot := 1, constantValue := 0 }, { name := "serialPersistentFields", type := (.array (.object "java/io/ObjectStreamField")), accessFlags := 26, slot := 2, constantValue := 0 }, { name := "REPL", type := .char, accessFlags := 26, slot := 3, constantValue := 0 }, { name := "CASE_INSENSITIVE_ORDER", type := (.object "java/util/Comparator"), accessFlags := 25, slot := 4, constantValue := 0 }, { name := "LATIN1", type := .byte, accessFlags := 24, slot := 5, constantValue := 0 }, { name := "UTF16", type := .byte, accessFlags := 24, slot := 6, constantValue := 0 }]
  methods := #[k7m0, k7m1, k7m2]
  instanceTypes := #[(.array .byte), .byte, .int, .boolean]
  staticTypes := #[.long, .boolean, (.array (.object "java/io/ObjectStreamField")), .char, (.object "java/util/Comparator"), .byte, .byte]
  resolved := Array.replicate 1451 none
  statics := some 0 }

def pool8 : Array CpInfo := pool [(6, .class_ 8), (1, u "java/lang/Object"), (0, u "<init>"), (0, u "()V"), (1, .class_ 14), (1, u "java/lang/StringUTF16"), (31, u "$assertionsDisabled"), (0, u "Z"), (13, u "HI_BYTE_SHIFT"), (0, u "I"), (2, u "LO_BYTE_SHIFT"), (49, .methodref 12 116), (0, .nameAndType 117 118), (0, u "compress"), (0, u "([CI[BII)I"), (3, u "([CII)[B"), (138, u "coderFromArrayLen"), (0, u "([BI)B"), (106, .class_ 371), (1, u "java/lang/StringUTF16$LinesSpliterator"), (58, u "MAX_LENGTH"), (196, .class_ 628), (0, u "java/lang/StringUTF16$CodePointsSpliterator"), (0, .class_ 630), (0, u "java/lang/StringUTF16$CharsSpliterator")] 4

def k8m0 : Method := { name := "<init>", desc := "()V", sig := { parameters := [], returnType := none }, accessFlags := 0, code := none }
def k8c1 : Code := { maxStack := 2, maxLocals := 2, code := jdk_52_method_15_code, exceptionTable := #[], attributes := #[] }
def k8m1 : Method := { name := "coderFromArrayLen", desc := "([BI)B", sig := { parameters := [(.array .byte), .int], returnType := some .byte }, accessFlags := 8, code := some k8c1 }
def k8c2 : Code := { maxStack := 5, maxLocals := 6, code := jdk_52_method_16_code, exceptionTable := #[], attributes := #[] }
def k8m2 : Method := { name := "compress", desc := "([CII)[B", sig := { parameters := [(.array .char), .int, .int], returnType := some (.array .byte) }, accessFlags := 9, code := some k8c2 }
def k8c3 : Code := { maxStack := 3, maxLocals := 7, code := jdk_52_method_21_code, exceptionTable := #[], attributes := #[] }
def k8m3 : Method := { name := "compress", desc := "([CI[BII)I", sig := { parameters := [(.array .char), .int, (.array .byte), .int, .int], returnType := some .int }, accessFlags := 9, code := some k8c3 }
/-- java/lang/StringUTF16 -/
def k8 : Class := { plain "java/lang/StringUTF16" (some 0) with
  accessFlags := 48
  interfaces := #[]
  cf := some (fileOf pool8 12 #[.nestMembers #[627, 629, 369]] #[{ accessFlags := 0, nameIndex := 9, descriptorIndex := 10, attributes := #[] }, { accessFlags := 8, nameIndex := 261, descriptorIndex := 262, attributes := #[] }, { accessFlags := 9, nameIndex := 117, descriptorIndex := 122, attributes := #[] }, { accessFlags := 9, nameIndex := 117, descriptorIndex := 118, attributes := #[] }] 48 6 #[] #[{ accessFlags := 26, nameIndex := 61, descriptorIndex := 62, attributes := #[] }, { accessFlags := 26, nameIndex := 65, descriptorIndex := 62, attributes := #[] }, { accessFlags := 24, nameIndex := 430, descriptorIndex := 62, attributes := #[] }, { accessFlags := 4120, nameIndex := 46, descriptorIndex := 47, attributes := #[] }])
  fields := #[{ name := "HI_BYTE_SHIFT", type := .int, accessFlags := 26, slot := 0, constantValue := 0 }, { name := "LO_BYTE_SHIFT", type := .int, accessFlags := 26, slot := 1, constantValue := 0 }, { name := "MAX_LENGTH", type := .int, accessFlags := 24, slot := 2, constantValue := 0 }, { name := "$assertionsDisabled", type := .boolean, accessFlags := 4120, slot := 3, constantValue := 0 }]
  methods := #[k8m0, k8m1, k8m2, k8m3]
  instanceTypes := #[]
  staticTypes := #[.int, .int, .int, .boolean]
  resolved := Array.replicate 635 none
  statics := none }

def pool9 : Array CpInfo := pool [(1, .class_ 2), (0, u "com/example/pricecollar/pricecollar/tape/Tape"), (0, .methodref 4 5), (0, .class_ 6), (0, .nameAndType 7 8), (0, u "java/lang/Object"), (0, u "<init>"), (0, u "()V"), (0, .fieldref 10 11), (0, .class_ 12), (0, .nameAndType 13 14), (0, u "com/example/pricecollar/pricecollar/tape/Tape$Batch"), (0, u "times"), (0, u "[J"), (0, .fieldref 10 16), (0, .nameAndType 17 18), (0, u "runRows"), (0, u "[I"), (0, .fieldref 10 20), (0, .nameAndType 21 18), (0, u "runFiles"), (0, .fieldref 10 23), (0, .nameAndType 24 14), (0, u "runLines"), (2, u "runs"), (0, u "I"), (6, u "size"), (15, u "bad"), (0, u "[Lcom/example/pricecollar/pricecollar/tape/BadInputException;"), (4, u "last"), (0, u "Z"), (2, u "failure"), (0, u "Ljava/lang/Throwable;")] 20

def k9c0 : Code := { maxStack := 2, maxLocals := 1, code := prog_69_method_1_code, exceptionTable := #[], attributes := #[] }
def k9m0 : Method := { name := "<init>", desc := "()V", sig := { parameters := [], returnType := none }, accessFlags := 0, code := some k9c0 }
/-- com/example/pricecollar/pricecollar/tape/Tape$Batch -/
def k9 : Class := { plain "com/example/pricecollar/pricecollar/tape/Tape$Batch" (some 0) with
  accessFlags := 1056
  interfaces := #[]
  cf := some (fileOf pool9 10 #[.nestHost 1] #[{ accessFlags := 0, nameIndex := 7, descriptorIndex := 8, attributes := #[] }] 1056 4 #[] #[{ accessFlags := 16, nameIndex := 13, descriptorIndex := 14, attributes := #[] }, { accessFlags := 2, nameIndex := 17, descriptorIndex := 18, attributes := #[] }, { accessFlags := 2, nameIndex := 21, descriptorIndex := 18, attributes := #[] }, { accessFlags := 2, nameIndex := 24, descriptorIndex := 14, attributes := #[] }, { accessFlags := 2, nameIndex := 27, descriptorIndex := 28, attributes := #[] }, { accessFlags := 0, nameIndex := 51, descriptorIndex := 52, attributes := #[] }, { accessFlags := 0, nameIndex := 35, descriptorIndex := 28, attributes := #[] }, { accessFlags := 0, nameIndex := 57, descriptorIndex := 58, attributes := #[] }, { accessFlags := 0, nameIndex := 61, descriptorIndex := 62, attributes := #[] }])
  fields := #[{ name := "times", type := (.array .long), accessFlags := 16, slot := 0, constantValue := 0 }, { name := "runRows", type := (.array .int), accessFlags := 2, slot := 1, constantValue := 0 }, { name := "runFiles", type := (.array .int), accessFlags := 2, slot := 2, constantValue := 0 }, { name := "runLines", type := (.array .long), accessFlags := 2, slot := 3, constantValue := 0 }, { name := "runs", type := .int, accessFlags := 2, slot := 4, constantValue := 0 }, { name := "bad", type := (.array (.object "com/example/pricecollar/pricecollar/tape/BadInputException")), accessFlags := 0, slot := 5, constantValue := 0 }, { name := "size", type := .int, accessFlags := 0, slot := 6, constantValue := 0 }, { name := "last", type := .boolean, accessFlags := 0, slot := 7, constantValue := 0 }, { name := "failure", type := (.object "java/lang/Throwable"), accessFlags := 0, slot := 8, constantValue := 0 }]
  methods := #[k9m0]
  instanceTypes := #[(.array .long), (.array .int), (.array .int), (.array .long), .int, (.array (.object "com/example/pricecollar/pricecollar/tape/BadInputException")), .int, .boolean, (.object "java/lang/Throwable")]
  staticTypes := #[]
  resolved := Array.replicate 83 none
  statics := none }

def pool10 : Array CpInfo := pool [(3, .methodref 4 5), (0, .class_ 6), (0, .nameAndType 7 8), (0, u "com/example/pricecollar/pricecollar/tape/Tape$Batch"), (0, u "<init>"), (0, u "()V"), (0, .fieldref 10 11), (0, .class_ 12), (0, .nameAndType 13 14), (0, u "com/example/pricecollar/pricecollar/tape/TradeTape$Columns"), (0, u "symbolKeys"), (0, u "[J"), (0, .fieldref 10 16), (0, .nameAndType 17 18), (0, u "exchanges"), (0, u "[C"), (0, .fieldref 10 20), (0, .nameAndType 21 22), (0, u "conditionsNumbers"), (0, u "[I"), (0, .fieldref 10 24), (0, .nameAndType 25 14), (0, u "sizes"), (0, .fieldref 10 27), (0, .nameAndType 28 14), (0, u "prices"), (0, .fieldref 10 30), (0, .nameAndType 31 22), (0, u "corrections"), (0, .fieldref 10 33), (0, .nameAndType 34 35), (0, u "unnumberedSymbols"), (0, u "[Ljava/lang/String;"), (0, .class_ 37), (0, u "java/lang/String"), (0, .fieldref 10 39), (0, .nameAndType 40 35), (0, u "unnumberedConditions"), (0, .fieldref 10 42), (0, .nameAndType 43 35), (0, u "texts"), (7, u "conditions"), (0, u "(I)Ljava/lang/String;"), (5, u "keepUnnumbered"), (0, u "(ILjava/lang/String;Ljava/lang/String;)V"), (6, .class_ 67), (0, u "com/example/pricecollar/pricecollar/tape/TradeTape")] 3

def k10c0 : Code := { maxStack := 2, maxLocals := 1, code := prog_74_method_1_code, exceptionTable := #[], attributes := #[] }
def k10m0 : Method := { name := "<init>", desc := "()V", sig := { parameters := [], returnType := none }, accessFlags := 0, code := some k10c0 }
def k10c1 : Code := { maxStack := 3, maxLocals := 4, code := prog_74_method_2_code, exceptionTable := #[], attributes := #[] }
def k10m1 : Method := { name := "keepUnnumbered", desc := "(ILjava/lang/String;Ljava/lang/String;)V", sig := { parameters := [.int, (.object "java/lang/String"), (.object "java/lang/String")], returnType := none }, accessFlags := 0, code := some k10c1 }
def k10c2 : Code := { maxStack := 2, maxLocals := 3, code := prog_74_method_3_code, exceptionTable := #[], attributes := #[] }
def k10m2 : Method := { name := "conditions", desc := "(I)Ljava/lang/String;", sig := { parameters := [.int], returnType := some (.object "java/lang/String") }, accessFlags := 0, code := some k10c2 }
/-- com/example/pricecollar/pricecollar/tape/TradeTape$Columns -/
def k10 : Class := { plain "com/example/pricecollar/pricecollar/tape/TradeTape$Columns" (some 9) with
  accessFlags := 48
  interfaces := #[]
  cf := some (fileOf pool10 10 #[.nestHost 66] #[{ accessFlags := 0, nameIndex := 7, descriptorIndex := 8, attributes := #[] }, { accessFlags := 0, nameIndex := 58, descriptorIndex := 59, attributes := #[] }, { accessFlags := 0, nameIndex := 51, descriptorIndex := 52, attributes := #[] }] 48 4 #[] #[{ accessFlags := 16, nameIndex := 13, descriptorIndex := 14, attributes := #[] }, { accessFlags := 16, nameIndex := 17, descriptorIndex := 18, attributes := #[] }, { accessFlags := 16, nameIndex := 21, descriptorIndex := 22, attributes := #[] }, { accessFlags := 16, nameIndex := 25, descriptorIndex := 14, attributes := #[] }, { accessFlags := 16, nameIndex := 28, descriptorIndex := 14, attributes := #[] }, { accessFlags := 16, nameIndex := 31, descriptorIndex := 22, attributes := #[] }, { accessFlags := 0, nameIndex := 43, descriptorIndex := 35, attributes := #[] }, { accessFlags := 2, nameIndex := 34, descriptorIndex := 35, attributes := #[] }, { accessFlags := 2, nameIndex := 40, descriptorIndex := 35, attributes := #[] }])
  fields := #[{ name := "symbolKeys", type := (.array .long), accessFlags := 16, slot := 9, constantValue := 0 }, { name := "exchanges", type := (.array .char), accessFlags := 16, slot := 10, constantValue := 0 }, { name := "conditionsNumbers", type := (.array .int), accessFlags := 16, slot := 11, constantValue := 0 }, { name := "sizes", type := (.array .long), accessFlags := 16, slot := 12, constantValue := 0 }, { name := "prices", type := (.array .long), accessFlags := 16, slot := 13, constantValue := 0 }, { name := "corrections", type := (.array .int), accessFlags := 16, slot := 14, constantValue := 0 }, { name := "texts", type := (.array (.object "java/lang/String")), accessFlags := 0, slot := 15, constantValue := 0 }, { name := "unnumberedSymbols", type := (.array (.object "java/lang/String")), accessFlags := 2, slot := 16, constantValue := 0 }, { name := "unnumberedConditions", type := (.array (.object "java/lang/String")), accessFlags := 2, slot := 17, constantValue := 0 }]
  methods := #[k10m0, k10m1, k10m2]
  instanceTypes := #[(.array .long), (.array .int), (.array .int), (.array .long), .int, (.array (.object "com/example/pricecollar/pricecollar/tape/BadInputException")), .int, .boolean, (.object "java/lang/Throwable"), (.array .long), (.array .char), (.array .int), (.array .long), (.array .long), (.array .int), (.array (.object "java/lang/String")), (.array (.object "java/lang/String")), (.array (.object "java/lang/String"))]
  staticTypes := #[]
  resolved := Array.replicate 71 none
  statics := none }

def pool11 : Array CpInfo := pool [(4, .class_ 6), (1, u "java/lang/Object"), (0, u "<init>"), (0, u "()V"), (5, .class_ 16), (1, u "java/lang/StringLatin1"), (104, u "$assertionsDisabled"), (0, u "Z"), (98, .class_ 223), (1, u "java/lang/StringLatin1$LinesSpliterator"), (166, .class_ 391), (0, u "java/lang/StringLatin1$CharsSpliterator")] 3

def k11m0 : Method := { name := "<init>", desc := "()V", sig := { parameters := [], returnType := none }, accessFlags := 0, code := none }
/-- java/lang/StringLatin1 -/
def k11 : Class := { plain "java/lang/StringLatin1" (some 0) with
  accessFlags := 48
  interfaces := #[]
  cf := some (fileOf pool11 14 #[.nestMembers #[390, 221]] #[{ accessFlags := 0, nameIndex := 7, descriptorIndex := 8, attributes := #[] }] 48 4 #[] #[{ accessFlags := 4120, nameIndex := 121, descriptorIndex := 122, attributes := #[] }])
  fields := #[{ name := "$assertionsDisabled", type := .boolean, accessFlags := 4120, slot := 0, constantValue := 0 }]
  methods := #[k11m0]
  instanceTypes := #[]
  staticTypes := #[.boolean]
  resolved := Array.replicate 395 none
  statics := none }

def pool12 : Array CpInfo := pool [(2, .class_ 4), (1, u "java/lang/Object"), (0, u "<init>"), (0, u "()V"), (17, .class_ 26), (1, u "jdk/internal/util/Preconditions"), (28, .class_ 56), (0, u "jdk/internal/util/Preconditions$4"), (57, .class_ 115), (0, u "jdk/internal/util/Preconditions$1"), (7, u "SIOOBE_FORMATTER"), (0, u "Ljava/util/function/BiFunction;"), (0, .class_ 126), (0, u "jdk/internal/util/Preconditions$2"), (3, u "AIOOBE_FORMATTER"), (0, .class_ 132), (0, u "jdk/internal/util/Preconditions$3"), (3, u "IOOBE_FORMATTER")] 57

def k12m0 : Method := { name := "<init>", desc := "()V", sig := { parameters := [], returnType := none }, accessFlags := 1, code := none }
/-- jdk/internal/util/Preconditions -/
def k12 : Class := { plain "jdk/internal/util/Preconditions" (some 0) with
  accessFlags := 33
  interfaces := #[]
  cf := some (fileOf pool12 24 #[.nestMembers #[55, 131, 125, 114]] #[{ accessFlags := 1, nameIndex := 5, descriptorIndex := 6, attributes := #[] }] 33 2 #[] #[{ accessFlags := 25, nameIndex := 123, descriptorIndex := 124, attributes := #[] }, { accessFlags := 25, nameIndex := 130, descriptorIndex := 124, attributes := #[] }, { accessFlags := 25, nameIndex := 136, descriptorIndex := 124, attributes := #[] }])
  fields := #[{ name := "SIOOBE_FORMATTER", type := (.object "java/util/function/BiFunction"), accessFlags := 25, slot := 0, constantValue := 0 }, { name := "AIOOBE_FORMATTER", type := (.object "java/util/function/BiFunction"), accessFlags := 25, slot := 1, constantValue := 0 }, { name := "IOOBE_FORMATTER", type := (.object "java/util/function/BiFunction"), accessFlags := 25, slot := 2, constantValue := 0 }]
  methods := #[k12m0]
  instanceTypes := #[]
  staticTypes := #[(.object "java/util/function/BiFunction"), (.object "java/util/function/BiFunction"), (.object "java/util/function/BiFunction")]
  resolved := Array.replicate 194 none
  statics := some 1 }

def pool13 : Array CpInfo := pool [(9, u "<init>"), (6, .class_ 18), (1, u "java/lang/Object"), (0, u "()V"), (1, .class_ 23), (1, u "jdk/internal/util/ArraysSupport"), (0, u "LOG2_ARRAY_LONG_INDEX_SCALE"), (0, u "I"), (2, u "U"), (0, u "Ljdk/internal/misc/Unsafe;"), (8, u "BIG_ENDIAN"), (0, u "Z"), (8, u "LOG2_BYTE_BIT_SIZE"), (4, u "LOG2_ARRAY_INT_INDEX_SCALE"), (54, u "JLA"), (0, u "Ljdk/internal/access/JavaLangAccess;"), (11, u "LOG2_ARRAY_BOOLEAN_INDEX_SCALE"), (9, u "LOG2_ARRAY_BYTE_INDEX_SCALE"), (5, u "LOG2_ARRAY_CHAR_INDEX_SCALE"), (5, u "LOG2_ARRAY_SHORT_INDEX_SCALE"), (18, u "LOG2_ARRAY_FLOAT_INDEX_SCALE"), (24, u "LOG2_ARRAY_DOUBLE_INDEX_SCALE"), (89, u "T_BOOLEAN"), (2, u "T_CHAR"), (1, u "T_FLOAT"), (1, u "T_DOUBLE"), (1, u "T_BYTE"), (1, u "T_SHORT"), (1, u "T_INT"), (1, u "T_LONG"), (1, u "SOFT_MAX_ARRAY_LENGTH")] 83

def k13m0 : Method := { name := "<init>", desc := "()V", sig := { parameters := [], returnType := none }, accessFlags := 2, code := none }
/-- jdk/internal/util/ArraysSupport -/
def k13 : Class := { plain "jdk/internal/util/ArraysSupport" (some 0) with
  accessFlags := 33
  interfaces := #[]
  cf := some (fileOf pool13 21 #[] #[{ accessFlags := 2, nameIndex := 9, descriptorIndex := 19, attributes := #[] }] 33 16 #[] #[{ accessFlags := 24, nameIndex := 28, descriptorIndex := 29, attributes := #[] }, { accessFlags := 26, nameIndex := 38, descriptorIndex := 39, attributes := #[] }, { accessFlags := 25, nameIndex := 121, descriptorIndex := 25, attributes := #[] }, { accessFlags := 25, nameIndex := 131, descriptorIndex := 25, attributes := #[] }, { accessFlags := 25, nameIndex := 137, descriptorIndex := 25, attributes := #[] }, { accessFlags := 25, nameIndex := 143, descriptorIndex := 25, attributes := #[] }, { accessFlags := 25, nameIndex := 53, descriptorIndex := 25, attributes := #[] }, { accessFlags := 25, nameIndex := 24, descriptorIndex := 25, attributes := #[] }, { accessFlags := 25, nameIndex := 162, descriptorIndex := 25, attributes := #[] }, { accessFlags := 25, nameIndex := 187, descriptorIndex := 25, attributes := #[] }, { accessFlags := 26, nameIndex := 48, descriptorIndex := 25, attributes := #[] }, { accessFlags := 25, nameIndex := 277, descriptorIndex := 25, attributes := #[] }, { accessFlags := 25, nameIndex := 280, descriptorIndex := 25, attributes := #[] }, { accessFlags := 25, nameIndex := 282, descriptorIndex := 25, attributes := #[] }, { accessFlags := 25, nameIndex := 284, descriptorIndex := 25, attributes := #[] }, { accessFlags := 25, nameIndex := 286, descriptorIndex := 25, attributes := #[] }, { accessFlags := 25, nameIndex := 288, descriptorIndex := 25, attributes := #[] }, { accessFlags := 25, nameIndex := 290, descriptorIndex := 25, attributes := #[] }, { accessFlags := 25, nameIndex := 292, descriptorIndex := 25, attributes := #[] }, { accessFlags := 26, nameIndex := 108, descriptorIndex := 109, attributes := #[] }, { accessFlags := 25, nameIndex := 294, descriptorIndex := 25, attributes := #[] }])
  fields := #[{ name := "U", type := (.object "jdk/internal/misc/Unsafe"), accessFlags := 24, slot := 0, constantValue := 0 }, { name := "BIG_ENDIAN", type := .boolean, accessFlags := 26, slot := 1, constantValue := 0 }, { name := "LOG2_ARRAY_BOOLEAN_INDEX_SCALE", type := .int, accessFlags := 25, slot := 2, constantValue := 0 }, { name := "LOG2_ARRAY_BYTE_INDEX_SCALE", type := .int, accessFlags := 25, slot := 3, constantValue := 0 }, { name := "LOG2_ARRAY_CHAR_INDEX_SCALE", type := .int, accessFlags := 25, slot := 4, constantValue := 0 }, { name := "LOG2_ARRAY_SHORT_INDEX_SCALE", type := .int, accessFlags := 25, slot := 5, constantValue := 0 }, { name := "LOG2_ARRAY_INT_INDEX_SCALE", type := .int, accessFlags := 25, slot := 6, constantValue := 0 }, { name := "LOG2_ARRAY_LONG_INDEX_SCALE", type := .int, accessFlags := 25, slot := 7, constantValue := 0 }, { name := "LOG2_ARRAY_FLOAT_INDEX_SCALE", type := .int, accessFlags := 25, slot := 8, constantValue := 0 }, { name := "LOG2_ARRAY_DOUBLE_INDEX_SCALE", type := .int, accessFlags := 25, slot := 9, constantValue := 0 }, { name := "LOG2_BYTE_BIT_SIZE", type := .int, accessFlags := 26, slot := 10, constantValue := 0 }, { name := "T_BOOLEAN", type := .int, accessFlags := 25, slot := 11, constantValue := 0 }, { name := "T_CHAR", type := .int, accessFlags := 25, slot := 12, constantValue := 0 }, { name := "T_FLOAT", type := .int, accessFlags := 25, slot := 13, constantValue := 0 }, { name := "T_DOUBLE", type := .int, accessFlags := 25, slot := 14, constantValue := 0 }, { name := "T_BYTE", type := .int, accessFlags := 25, slot := 15, constantValue := 0 }, { name := "T_SHORT", type := .int, accessFlags := 25, slot := 16, constantValue := 0 }, { name := "T_INT", type := .int, accessFlags := 25, slot := 17, constantValue := 0 }, { name := "T_LONG", type := .int, accessFlags := 25, slot := 18, constantValue := 0 }, { name := "JLA", type := (.object "jdk/internal/access/JavaLangAccess"), accessFlags := 26, slot := 19, constantValue := 0 }, { name := "SOFT_MAX_ARRAY_LENGTH", type := .int, accessFlags := 25, slot := 20, constantValue := 0 }]
  methods := #[k13m0]
  instanceTypes := #[]
  staticTypes := #[(.object "jdk/internal/misc/Unsafe"), .boolean, .int, .int, .int, .int, .int, .int, .int, .int, .int, .int, .int, .int, .int, .int, .int, .int, .int, (.object "jdk/internal/access/JavaLangAccess"), .int]
  resolved := Array.replicate 378 none
  statics := none }

def pool14 : Array CpInfo := pool [(1, u "java/lang/Cloneable"), (0, .class_ 1), (0, u "java/lang/Object"), (0, .class_ 3)] 3

/-- java/lang/Cloneable -/
def k14 : Class := { plain "java/lang/Cloneable" (some 0) with
  accessFlags := 1537
  interfaces := #[]
  cf := some (fileOf pool14 2 #[] #[] 1537 4 #[] #[])
  fields := #[]
  methods := #[]
  instanceTypes := #[]
  staticTypes := #[]
  resolved := Array.replicate 8 none
  statics := none }

/-- the primitive byte -/
def k15 : Class := { plain "byte" none with kind := .primitive 'B', accessFlags := 0x411 }
/-- [B -/
def k16 : Class := { plain "[B" (some 0) with kind := .array 15 .byte, interfaces := #[14, 2], accessFlags := 1041 }

/-- the primitive char -/
def k17 : Class := { plain "char" none with kind := .primitive 'C', accessFlags := 0x411 }
/-- [C -/
def k18 : Class := { plain "[C" (some 0) with kind := .array 17 .char, interfaces := #[14, 2], accessFlags := 1041 }

/-- the primitive int -/
def k19 : Class := { plain "int" none with kind := .primitive 'I', accessFlags := 0x411 }
/-- [I -/
def k20 : Class := { plain "[I" (some 0) with kind := .array 19 .int, interfaces := #[14, 2], accessFlags := 1041 }

/-- the primitive long -/
def k21 : Class := { plain "long" none with kind := .primitive 'J', accessFlags := 0x411 }
/-- [J -/
def k22 : Class := { plain "[J" (some 0) with kind := .array 21 .long, interfaces := #[14, 2], accessFlags := 1041 }

/-- [Ljava/lang/String; -/
def k23 : Class := { plain "[Ljava/lang/String;" (some 0) with kind := .array 7 (.object "java/lang/String"), interfaces := #[14, 2], accessFlags := 1041 }

def heap : Heap := #[{ cls := 7, slots := #[.long 0, .int 1, .null, .int 0, .null, .int 0, .int 0], vm := .statics 7 },
  { cls := 12, slots := #[.null, .null, .null], vm := .statics 12 }]
def classes : Array Class := #[k0, k1, k2, k3, k4, k5, k6, k7, k8, k9, k10, k11, k12, k13, k14, k15, k16, k17, k18, k19, k20, k21, k22, k23]
def interned : List (Array UInt16 × Addr) := []
def slotsUsed : Nat := 10
def theMethod : MethodId := ⟨1, 3⟩
def args0 : Array Value := #[.int 1, .int 2, .int 3, .int 4, .int 5]
def aboutOver (below : List Frame) : State where
  vm := { classes := classes, interned := interned.toArray }
  heap := heap
  slotsUsed := slotsUsed
  threads := #[{ frames := .invoking theMethod args0 :: below }]
def below0 : List Frame := [.native { method := ⟨0, 0⟩, args := #[] }]
def about1 : State := aboutOver below0
def p0 : Program := .bare "" "" ""
def e0 : Env := launch0.env 0 0 0
theorem w_frames : about1.frames = Frame.invoking theMethod args0 :: below0 := rfl
set_option maxRecDepth 65536 in
theorem w_args : argsFit about1.vm theMethod args0 = true := by decide +kernel
set_option maxRecDepth 65536 in
theorem w_heap : heapFits about1 = true := by decide +kernel
set_option maxRecDepth 65536 in
theorem w_runnable : about1.curStatus? = some .runnable := by decide +kernel
set_option maxRecDepth 65536 in
theorem w_alone : about1.alone = true := by decide +kernel
set_option maxRecDepth 65536 in
theorem w_named : about1.methodNamed? x = some theMethod := by decide +kernel
set_option maxRecDepth 65536 in
theorem w_hears : about1.hears theMethod below0 = true := by decide +kernel
set_option maxRecDepth 65536 in
theorem w_ripe : about1.ripe theMethod args0 below0 = true := by decide +kernel
theorem w_running : about1.status = .running := rfl
set_option maxRecDepth 65536 in
theorem w_room : about1.hasRoom e0.platform room_1 = true :=
  launch0.hasRoom_least _ room_1 (by decide +kernel) (by decide +kernel) (by decide +kernel) (by decide +kernel) (by decide +kernel) (by decide +kernel)
theorem allAtoms_all (ts : List Jvm.Cond) (a : Array Jvm.Value) (st : Jvm.State) : (allAtoms ts).before a st = ts.all (fun c => c.before a st) := by
  induction ts with
  | nil => rfl
  | cons c t ih =>
    show (Jvm.Cond.and c (allAtoms t)).before a st = _
    rw [Jvm.Cond.before_and, ih, List.all_cons]
def words1 : List Jvm.Cond := Jvm.Cond.code x code maxLocals ret :: tables_1
/-- a 'code' word, met by the world's own term for the bytes: nothing is compared byte by byte -/
theorem code_word {y : MethodName} {bytes : ByteArray} {mx : Nat} {rt : Option FieldType} {a : Array Value} {s : State} {m : MethodId} {meth : Method} {c : Code} (h1 : s.methodNamed? y = some m) (h2 : s.vm.method? m = some meth) (h3 : meth.code = some c) (h4 : c.code = bytes)
    (h5 : (c.maxLocals == mx && c.exceptionTable.isEmpty && decide (c.maxStack ≤ mostOperands) && decide (meth.sig.returnType = rt) && !meth.locks && decide (parseMethodDescriptor y.desc = some meth.sig)) = true) : (Jvm.Cond.code y bytes mx rt).before a s = true := by
  simp only [Bool.and_eq_true, beq_iff_eq, Bool.not_eq_true', decide_eq_true_eq] at h5
  obtain ⟨⟨⟨⟨⟨g1, g2⟩, g3⟩, g4⟩, g5⟩, g6⟩ := h5
  simp [Cond.before, Cond.holds, Cond.value, h1, h2, h3, h4, g1, g2, g3, g4, g5, g6]
def isCode : Jvm.Cond → Bool
  | .code _ _ _ _ => true
  | _ => false
theorem all_split {L : List Jvm.Cond} {P : Jvm.Cond → Bool} (h1 : L.all (fun c => isCode c || P c) = true) (h2 : ∀ c ∈ L.filter isCode, P c = true) : L.all P = true := by
  refine List.all_eq_true.mpr fun c hc => ?_
  have h := List.all_eq_true.mp h1 c hc
  rcases Bool.eq_false_or_eq_true (isCode c) with hi | hi
  · exact h2 c (List.mem_filter.mpr ⟨hc, hi⟩)
  · simpa [hi] using h
set_option maxRecDepth 65536 in
theorem w_c0 : (Jvm.Cond.code x code maxLocals ret).before args0 about1 = true := code_word (m := ⟨1, 3⟩) (meth := k1m3) (c := k1c3) (by decide +kernel) rfl rfl rfl (by decide +kernel)
set_option maxRecDepth 65536 in
theorem w_c1 : (Jvm.Cond.code ({ cls := "com/example/pricecollar/pricecollar/tape/ColumnsKeepUnnumberedPinLaw", name := "text", desc := "(I)Ljava/lang/String;" } : Jvm.MethodName) method_2_code (2 : Nat) (Option.some (Jvm.ClassFile.FieldType.object "java/lang/String"))).before args0 about1 = true := code_word (m := ⟨1, 1⟩) (meth := k1m1) (c := k1c1) (by decide +kernel) rfl rfl rfl (by decide +kernel)
set_option maxRecDepth 65536 in
theorem w_c2 : (Jvm.Cond.code ({ cls := "java/lang/String", name := "<init>", desc := "([C)V" } : Jvm.MethodName) jdk_42_method_3_code (2 : Nat) (Option.none : Option Jvm.ClassFile.FieldType)).before args0 about1 = true := code_word (m := ⟨7, 1⟩) (meth := k7m1) (c := k7c1) (by decide +kernel) rfl rfl rfl (by decide +kernel)
set_option maxRecDepth 65536 in
theorem w_c3 : (Jvm.Cond.code ({ cls := "java/lang/String", name := "<init>", desc := "([CIILjava/lang/Void;)V" } : Jvm.MethodName) jdk_42_method_149_code (6 : Nat) (Option.none : Option Jvm.ClassFile.FieldType)).before args0 about1 = true := code_word (m := ⟨7, 2⟩) (meth := k7m2) (c := k7c2) (by decide +kernel) rfl rfl rfl (by decide +kernel)
set_option maxRecDepth 65536 in
theorem w_c4 : (Jvm.Cond.code ({ cls := "java/lang/Object", name := "<init>", desc := "()V" } : Jvm.MethodName) object_method_1_code (1 : Nat) (Option.none : Option Jvm.ClassFile.FieldType)).before args0 about1 = true := code_word (m := ⟨0, 0⟩) (meth := k0m0) (c := k0c0) (by decide +kernel) rfl rfl rfl (by decide +kernel)
set_option maxRecDepth 65536 in
theorem w_c5 : (Jvm.Cond.code ({ cls := "java/lang/StringUTF16", name := "compress", desc := "([CII)[B" } : Jvm.MethodName) jdk_52_method_16_code (6 : Nat) (Option.some (Jvm.ClassFile.FieldType.array Jvm.ClassFile.FieldType.byte))).before args0 about1 = true := code_word (m := ⟨8, 2⟩) (meth := k8m2) (c := k8c2) (by decide +kernel) rfl rfl rfl (by decide +kernel)
set_option maxRecDepth 65536 in
theorem w_c6 : (Jvm.Cond.code ({ cls := "java/lang/StringUTF16", name := "compress", desc := "([CI[BII)I" } : Jvm.MethodName) jdk_52_method_21_code (7 : Nat) (Option.some Jvm.ClassFile.FieldType.int)).before args0 about1 = true := code_word (m := ⟨8, 3⟩) (meth := k8m3) (c := k8c3) (by decide +kernel) rfl rfl rfl (by decide +kernel)
set_option maxRecDepth 65536 in
theorem w_c7 : (Jvm.Cond.code ({ cls := "java/lang/StringUTF16", name := "coderFromArrayLen", desc := "([BI)B" } : Jvm.MethodName) jdk_52_method_15_code (2 : Nat) (Option.some Jvm.ClassFile.FieldType.byte)).before args0 about1 = true := code_word (m := ⟨8, 1⟩) (meth := k8m1) (c := k8c1) (by decide +kernel) rfl rfl rfl (by decide +kernel)
set_option maxRecDepth 65536 in
theorem w_c8 : (Jvm.Cond.code ({ cls := "com/example/pricecollar/pricecollar/tape/TradeTape$Columns", name := "<init>", desc := "()V" } : Jvm.MethodName) prog_74_method_1_code (1 : Nat) (Option.none : Option Jvm.ClassFile.FieldType)).before args0 about1 = true := code_word (m := ⟨10, 0⟩) (meth := k10m0) (c := k10c0) (by decide +kernel) rfl rfl rfl (by decide +kernel)
set_option maxRecDepth 65536 in
theorem w_c9 : (Jvm.Cond.code ({ cls := "com/example/pricecollar/pricecollar/tape/Tape$Batch", name := "<init>", desc := "()V" } : Jvm.MethodName) prog_69_method_1_code (1 : Nat) (Option.none : Option Jvm.ClassFile.FieldType)).before args0 about1 = true := code_word (m := ⟨9, 0⟩) (meth := k9m0) (c := k9c0) (by decide +kernel) rfl rfl rfl (by decide +kernel)
set_option maxRecDepth 65536 in
theorem w_c10 : (Jvm.Cond.code ({ cls := "com/example/pricecollar/pricecollar/tape/TradeTape$Columns", name := "keepUnnumbered", desc := "(ILjava/lang/String;Ljava/lang/String;)V" } : Jvm.MethodName) prog_74_method_2_code (4 : Nat) (Option.none : Option Jvm.ClassFile.FieldType)).before args0 about1 = true := code_word (m := ⟨10, 1⟩) (meth := k10m1) (c := k10c1) (by decide +kernel) rfl rfl rfl (by decide +kernel)
set_option maxRecDepth 65536 in
theorem w_c11 : (Jvm.Cond.code ({ cls := "com/example/pricecollar/pricecollar/tape/TradeTape$Columns", name := "conditions", desc := "(I)Ljava/lang/String;" } : Jvm.MethodName) prog_74_method_3_code (3 : Nat) (Option.some (Jvm.ClassFile.FieldType.object "java/lang/String"))).before args0 about1 = true := code_word (m := ⟨10, 2⟩) (meth := k10m2) (c := k10c2) (by decide +kernel) rfl rfl rfl (by decide +kernel)
set_option maxRecDepth 65536 in
theorem w_c12 : (Jvm.Cond.code ({ cls := "com/example/pricecollar/pricecollar/tape/ColumnsKeepUnnumberedPinLaw", name := "expected", desc := "(IILjava/lang/String;ILjava/lang/String;)Ljava/lang/String;" } : Jvm.MethodName) method_3_code (5 : Nat) (Option.some (Jvm.ClassFile.FieldType.object "java/lang/String"))).before args0 about1 = true := code_word (m := ⟨1, 2⟩) (meth := k1m2) (c := k1c2) (by decide +kernel) rfl rfl rfl (by decide +kernel)
def codes1 : List Jvm.Cond := [Jvm.Cond.code x code maxLocals ret, Jvm.Cond.code ({ cls := "com/example/pricecollar/pricecollar/tape/ColumnsKeepUnnumberedPinLaw", name := "text", desc := "(I)Ljava/lang/String;" } : Jvm.MethodName) method_2_code (2 : Nat) (Option.some (Jvm.ClassFile.FieldType.object "java/lang/String")), Jvm.Cond.code ({ cls := "java/lang/String", name := "<init>", desc := "([C)V" } : Jvm.MethodName) jdk_42_method_3_code (2 : Nat) (Option.none : Option Jvm.ClassFile.FieldType), Jvm.Cond.code ({ cls := "java/lang/String", name := "<init>", desc := "([CIILjava/lang/Void;)V" } : Jvm.MethodName) jdk_42_method_149_code (6 : Nat) (Option.none : Option Jvm.ClassFile.FieldType), Jvm.Cond.code ({ cls := "java/lang/Object", name := "<init>", desc := "()V" } : Jvm.MethodName) object_method_1_code (1 : Nat) (Option.none : Option Jvm.ClassFile.FieldType), Jvm.Cond.code ({ cls := "java/lang/StringUTF16", name := "compress", desc := "([CII)[B" } : Jvm.MethodName) jdk_52_method_16_code (6 : Nat) (Option.some (Jvm.ClassFile.FieldType.array Jvm.ClassFile.FieldType.byte)), Jvm.Cond.code ({ cls := "java/lang/StringUTF16", name := "compress", desc := "([CI[BII)I" } : Jvm.MethodName) jdk_52_method_21_code (7 : Nat) (Option.some Jvm.ClassFile.FieldType.int), Jvm.Cond.code ({ cls := "java/lang/StringUTF16", name := "coderFromArrayLen", desc := "([BI)B" } : Jvm.MethodName) jdk_52_method_15_code (2 : Nat) (Option.some Jvm.ClassFile.FieldType.byte), Jvm.Cond.code ({ cls := "com/example/pricecollar/pricecollar/tape/TradeTape$Columns", name := "<init>", desc := "()V" } : Jvm.MethodName) prog_74_method_1_code (1 : Nat) (Option.none : Option Jvm.ClassFile.FieldType), Jvm.Cond.code ({ cls := "com/example/pricecollar/pricecollar/tape/Tape$Batch", name := "<init>", desc := "()V" } : Jvm.MethodName) prog_69_method_1_code (1 : Nat) (Option.none : Option Jvm.ClassFile.FieldType), Jvm.Cond.code ({ cls := "com/example/pricecollar/pricecollar/tape/TradeTape$Columns", name := "keepUnnumbered", desc := "(ILjava/lang/String;Ljava/lang/String;)V" } : Jvm.MethodName) prog_74_method_2_code (4 : Nat) (Option.none : Option Jvm.ClassFile.FieldType), Jvm.Cond.code ({ cls := "com/example/pricecollar/pricecollar/tape/TradeTape$Columns", name := "conditions", desc := "(I)Ljava/lang/String;" } : Jvm.MethodName) prog_74_method_3_code (3 : Nat) (Option.some (Jvm.ClassFile.FieldType.object "java/lang/String")), Jvm.Cond.code ({ cls := "com/example/pricecollar/pricecollar/tape/ColumnsKeepUnnumberedPinLaw", name := "expected", desc := "(IILjava/lang/String;ILjava/lang/String;)Ljava/lang/String;" } : Jvm.MethodName) method_3_code (5 : Nat) (Option.some (Jvm.ClassFile.FieldType.object "java/lang/String"))]
set_option maxRecDepth 65536 in
theorem codes_eq : words1.filter isCode = codes1 := rfl
theorem w_codes : ∀ c ∈ words1.filter isCode, c.before args0 about1 = true := by
  rw [codes_eq]
  intro c hc
  simp only [codes1, List.mem_cons, List.not_mem_nil, or_false] at hc
  rcases hc with rfl | rfl | rfl | rfl | rfl | rfl | rfl | rfl | rfl | rfl | rfl | rfl | rfl
  · exact w_c0
  · exact w_c1
  · exact w_c2
  · exact w_c3
  · exact w_c4
  · exact w_c5
  · exact w_c6
  · exact w_c7
  · exact w_c8
  · exact w_c9
  · exact w_c10
  · exact w_c11
  · exact w_c12
set_option maxRecDepth 65536 in
theorem w_t1 : (words1.take 24).all (fun c => isCode c || c.before args0 about1) = true := by decide +kernel
set_option maxRecDepth 65536 in
theorem w_t2 : ((words1.drop 24).take 24).all (fun c => isCode c || c.before args0 about1) = true := by decide +kernel
set_option maxRecDepth 65536 in
theorem w_t3 : (((words1.drop 24).drop 24).take 24).all (fun c => isCode c || c.before args0 about1) = true := by decide +kernel
set_option maxRecDepth 65536 in
theorem w_t4 : (((words1.drop 24).drop 24).drop 24).all (fun c => isCode c || c.before args0 about1) = true := by decide +kernel
theorem w_tables : (allAtoms (Jvm.Cond.code x code maxLocals ret :: tables_1)).before args0 about1 = true := by
  rw [allAtoms_all]
  show words1.all (fun c => c.before args0 about1) = true
  refine all_split ?_ w_codes
  rw [← List.take_append_drop 24 words1, List.all_append, w_t1, ← List.take_append_drop 24 (words1.drop 24), List.all_append, w_t2, ← List.take_append_drop 24 ((words1.drop 24).drop 24), List.all_append, w_t3, w_t4]
  rfl
set_option maxRecDepth 65536 in
theorem w_rest : rest_1_c.before args0 about1 = true := by decide +kernel
set_option maxRecDepth 65536 in
theorem w_case : (Jvm.Cond.and given_1 narrow_1).before args0 about1 = true := by decide +kernel
theorem w_applies : (headSpec (Jvm.Cond.code x code maxLocals ret :: tables_1) room_1).applies x e0.platform about1 = true :=
  (Spec.applies_iff w_frames).mpr ⟨w_running, w_runnable, w_alone, w_named, w_hears, w_ripe, w_room, w_tables⟩
theorem atStart : AtStart classFile x code maxLocals ret World_1 tables_1 room_1 Calls_1 rest_1 Pre_1 launch0 p0 e0 about1 theMethod args0 below0 :=
  ⟨lists_1, trivial, launch0.admits_env _ _ _, launch0.least_env, fairChoices_fair.cas, fairChoices_fair.clock, w_frames, w_args, w_heap, w_applies, trivial, w_rest, w_case⟩
end start1
theorem witness_1 : WitnessClaimed_1 := ⟨start1.p0, start1.e0, start1.about1, start1.theMethod, start1.args0, start1.below0, start1.atStart⟩
end Jvm.Pilot.@@N@@
