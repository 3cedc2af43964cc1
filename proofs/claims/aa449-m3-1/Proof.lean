import JvmDerived
import JvmDerived.Pilot.@@N@@Statement
import JvmDerived.Pilot.@@N@@Code
set_option linter.unusedVariables false
set_option linter.unusedSimpArgs false
set_option maxRecDepth 65536
set_option maxHeartbeats 40000000

namespace Jvm.RoadKit
open Sem ClassFile Op Lib Jvm.Stand Jvm.Free Jvm.LawKit
section New
variable {p : Program} {l : Launch} {e : Env} {R : Room} {s : State} {m : MethodId} {args : Array Value} {below : List Frame} {meth : Method} {c : Code} {T : State} {locs : List Loc} {cells slots : Nat}
theorem retI (X : Stand p l e R s m args below meth c T locs cells slots) (hx : p.tables.exec = Jvm.exec) {pc : Nat} {Ls : Array Slot} {z : Int32} {rest : List Value} (hret : meth.sig.returnType = some .int) (hd : decode c.code pc = .ok (.ireturn, 1)) {fs : List Frame}
    (hl : ∀ (f : JFrame) (acts : List Action), f.method = m → f.locked = none → f.entered = [] → (doReturn e (T.setTop f) acts (some (.int z))).1 = T.setFrames fs) : Steps p.tables e below (T.setTop (mkF m pc Ls (.int z :: rest))) (T.setFrames fs) := by
  have hm' : T.vm.method? m = some meth := X.method'
  have hn : narrow .int (.int z) = .int z := rfl
  show Steps p.tables e below (T.setTop { method := m, pc := pc, locals := Ls, stack := _ :: rest, locked := none }) _
  jvm_step X.here [X.here.top, hx, hd, hm', hret, hn]
  first | (intro acts; rw [hl _ acts rfl rfl rfl]) | rw [hl _ _ rfl rfl rfl]
  exact Steps.refl _
end New
end Jvm.RoadKit

namespace Jvm.Pilot.@@N@@
namespace StrChars
open Jvm Sem ClassFile Op Lib Jvm.Stand Jvm.Free.XT Jvm.Free.ALB Jvm.Free.JM Jvm.Free
open Jvm.Lib.Cold (StaticIs)
def Ch (a : Addr) (A : Cell) (U : State) : Prop := Arr .char a A U ∧ Typed .char A
theorem Ch.mv {a : Addr} {A : Cell} {U U' : State} (h : Ch a A U) (hal : U.vm.Alike U'.vm) (hh : U'.heap = U.heap) : Ch a A U' := ⟨h.1.mv hal hh, h.2⟩
theorem Ch.keep {a : Addr} {A : Cell} {U U' : State} (h : Ch a A U) (hal : U.vm.Alike U'.vm) (hk : U'.heap[a]? = some A) : Ch a A U' := ⟨h.1.keep hal hk, h.2⟩
def cv (A : Cell) (i : Nat) : Int32 := match A.slots[i]? with | some (.int x) => x | _ => 0
theorem Ch.get {a : Addr} {A : Cell} {U : State} (h : Ch a A U) {i : Nat} (hi : i < A.slots.size) : A.slots[i]? = some (.int (cv A i)) := by
  have e := Array.getElem?_eq_getElem hi
  have f := h.2 i _ e
  unfold cv; rw [e]
  generalize A.slots[i] = v at f
  cases v <;> simp [fits] at f ⊢
def lo8 (x : Int32) : Int32 := x.toInt8.toInt32
theorem fits_lo8 (y : Int32) : fits .byte (.int (lo8 y)) = true := by
  have h1 := y.toInt8.le_toInt
  have h2 := y.toInt8.toInt_lt
  simp only [lo8, fits, Bool.and_eq_true, decide_eq_true_eq, Int32.le_iff_toInt_le, Int8.toInt_toInt32, show (-128 : Int32).toInt = -128 from by decide, show (127 : Int32).toInt = 127 from by decide]
  omega
def Laid (A A' : Cell) (lo hi : Nat) (f : Nat → Value) : Prop := A'.cls = A.cls ∧ A'.vm = A.vm ∧ A'.slots.size = A.slots.size ∧ ∀ i, A'.slots[i]? = if lo ≤ i ∧ i < hi then some (f i) else A.slots[i]?
theorem Laid.zero (A : Cell) (lo : Nat) (f : Nat → Value) : Laid A A lo (lo + 0) f := ⟨rfl, rfl, rfl, fun i => by rw [if_neg (by omega)]⟩
theorem Laid.step {A Ak : Cell} {lo k : Nat} {f : Nat → Value} {v : Value} (h : Laid A Ak lo k f) (hlo : lo ≤ k) (hk : k < Ak.slots.size) (hv : v = f k) : Laid A (Ak.setSlot k v) lo (k + 1) f := by
  refine ⟨h.1, h.2.1, by simpa [Cell.setSlot] using h.2.2.1, fun i => ?_⟩
  by_cases e : k = i
  · subst e; rw [Cell.slots_setSlot_self v hk, if_pos (by omega), hv]
  · rw [Cell.slots_setSlot_ne v e, h.2.2.2 i]
    by_cases q : lo ≤ i ∧ i < k
    · rw [if_pos q, if_pos (by omega)]
    · rw [if_neg q, if_neg (by omega)]
def U16 : String := "java/lang/StringUTF16"
namespace Cmp5
def yN : MethodName := ⟨"java/lang/StringUTF16", "compress", "([CI[BII)I"⟩
abbrev yB : ByteArray := jdk_52_method_21_code
theorem d0 : decode yB 0 = .ok (.iconst 0, 1) := by decide +kernel
theorem d1 : decode yB 1 = .ok (.istore 5, 2) := by decide +kernel
theorem d3 : decode yB 3 = .ok (.iload 5, 2) := by decide +kernel
theorem d5 : decode yB 5 = .ok (.iload 4, 2) := by decide +kernel
theorem d7 : decode yB 7 = .ok (.if_icmp (.ge) 37, 3) := by decide +kernel
theorem d10 : decode yB 10 = .ok (.aload_n 0, 1) := by decide +kernel
theorem d11 : decode yB 11 = .ok (.iload_n 1, 1) := by decide +kernel
theorem d12 : decode yB 12 = .ok (.caload, 1) := by decide +kernel
theorem d13 : decode yB 13 = .ok (.istore 6, 2) := by decide +kernel
theorem d15 : decode yB 15 = .ok (.iload 6, 2) := by decide +kernel
theorem d17 : decode yB 17 = .ok (.sipush 255, 3) := by decide +kernel
theorem d20 : decode yB 20 = .ok (.if_icmp (.le) 6, 3) := by decide +kernel
theorem d26 : decode yB 26 = .ok (.aload_n 2, 1) := by decide +kernel
theorem d27 : decode yB 27 = .ok (.iload_n 3, 1) := by decide +kernel
theorem d28 : decode yB 28 = .ok (.iload 6, 2) := by decide +kernel
theorem d30 : decode yB 30 = .ok (.i2b, 1) := by decide +kernel
theorem d31 : decode yB 31 = .ok (.bastore, 1) := by decide +kernel
theorem d32 : decode yB 32 = .ok (.iinc 1 1, 3) := by decide +kernel
theorem d35 : decode yB 35 = .ok (.iinc 3 1, 3) := by decide +kernel
theorem d38 : decode yB 38 = .ok (.iinc 5 1, 3) := by decide +kernel
theorem d41 : decode yB 41 = .ok (.goto (-38), 3) := by decide +kernel
theorem d44 : decode yB 44 = .ok (.iload 4, 2) := by decide +kernel
theorem d46 : decode yB 46 = .ok (.ireturn, 1) := by decide +kernel
def site : List Cond := []
def tab : Cond := tabOf yN yB 7 (some .int) site
def P (b : Addr) (A : Cell) (d : Addr) (B : Cell) (o q len : Nat) (args : Array Value) (s : State) : Prop := args = #[.ref b, .int (Int32.ofNat o), .ref d, .int (Int32.ofNat q), .int (Int32.ofNat len)] ∧ Ch b A s ∧ Arr .byte d B s ∧ b ≠ d ∧ o + len ≤ A.slots.size ∧ q + len ≤ B.slots.size ∧ ∀ i, i < len → ¬ 255 < cv A (o + i)
def E (b : Addr) (A : Cell) (d : Addr) (B : Cell) (o q len : Nat) (r : Option Value) (s u : State) : Prop := r = some (.int (Int32.ofNat len)) ∧ ∃ B', Put d B' s u ∧ Laid B B' q (q + len) (fun j => Value.int (lo8 (cv A (o + (j - q)))))
theorem law (l : Launch) (b : Addr) (A : Cell) (d : Addr) (B : Cell) (o q len : Nat) : Law l yN 5 5 0 0 yB 7 (some .int) site (P b A d B o q len) (E b A d B o q len) (copyLocs d q len) 0 0 := by
  refine Law.of_walk (plainFor_of_name (by decide +kernel)) (by decide +kernel) (by decide +kernel) (by decide) (fun _ _ h => by rw [h.1]; rfl) (fun _ U U' hal hh h => ⟨h.1, h.2.1.mv hal hh, h.2.2.1.mv hal hh, h.2.2.2⟩) (fun r U U' V V' h1 hal h2 h => ⟨h.1, h.2.elim fun B' q => ⟨B', q.1.mv h1 h2, q.2⟩⟩) ?_
  intro p e s m args below meth c s₁ X0 hexec hbytes hml hret hlk hnm hown hh0 W hP
  obtain ⟨rfl, hA, hB, hne, l1, l2, hp⟩ := hP
  have c1 : Steps p.tables e below (s₁.setTop (entryFrame m #[.ref b, .int (Int32.ofNat o), .ref d, .int (Int32.ofNat q), .int (Int32.ofNat len)] 7)) (s₁.setTop (mkF m 0 #[.val (.ref b), .val (.int (Int32.ofNat o)), .val (.ref d), .val (.int (Int32.ofNat q)), .val (.int (Int32.ofNat len)), .unset, .unset] [])) := entry rfl
  have hA0 := hA.1.mv X0.warmed.alike hh0
  have hB0 := hB.mv X0.warmed.alike hh0
  have a31 := hA.1.2.2.2
  have c2 : Steps p.tables e below (s₁.setTop (entryFrame m #[.ref b, .int (Int32.ofNat o), .ref d, .int (Int32.ofNat q), .int (Int32.ofNat len)] 7)) (s₁.setTop (mkF m 3 #[.val (.ref b), .val (.int (Int32.ofNat o)), .val (.ref d), .val (.int (Int32.ofNat q)), .val (.int (Int32.ofNat len)), .val (.int 0), .unset] [])) := c1.trans (by
    refine iconstV X0.here hexec rfl 0 (hb hbytes d0) (by decide) ?_
    refine XS.istore X0.here hexec rfl (hb hbytes d1) rfl rfl ?_
    exact Steps.refl _)
  have loop : ∀ (r i : Nat), i + r = len → ∀ (z : Slot), (z = .unset ∨ ∃ w, z = .val w ∧ w.category = 1) → ∀ (Tl : State) (Bk : Cell), Stand p l e { frames := 0, locals := 0, cells := 0, slots := 0 } s m #[.ref b, .int (Int32.ofNat o), .ref d, .int (Int32.ofNat q), .int (Int32.ofNat len)] below meth c Tl ([] ++ copyLocs d q i) 0 0 → Put d Bk s₁ Tl → Laid B Bk q (q + i) (fun j => Value.int (lo8 (cv A (o + (j - q))))) →
      Steps p.tables e below (s₁.setTop (entryFrame m #[.ref b, .int (Int32.ofNat o), .ref d, .int (Int32.ofNat q), .int (Int32.ofNat len)] 7)) (Tl.setTop (mkF m 3 #[.val (.ref b), .val (.int (Int32.ofNat (o + i))), .val (.ref d), .val (.int (Int32.ofNat (q + i))), .val (.int (Int32.ofNat len)), .val (.int (Int32.ofNat i)), z] [])) → ∃ (T' : State) (B' : Cell) (z' : Slot), Stand p l e { frames := 0, locals := 0, cells := 0, slots := 0 } s m #[.ref b, .int (Int32.ofNat o), .ref d, .int (Int32.ofNat q), .int (Int32.ofNat len)] below meth c T' ([] ++ copyLocs d q len) 0 0 ∧ Put d B' s₁ T' ∧ Laid B B' q (q + len) (fun j => Value.int (lo8 (cv A (o + (j - q))))) ∧
      Steps p.tables e below (s₁.setTop (entryFrame m #[.ref b, .int (Int32.ofNat o), .ref d, .int (Int32.ofNat q), .int (Int32.ofNat len)] 7)) (T'.setTop (mkF m 3 #[.val (.ref b), .val (.int (Int32.ofNat (o + len))), .val (.ref d), .val (.int (Int32.ofNat (q + len))), .val (.int (Int32.ofNat len)), .val (.int (Int32.ofNat len)), z'] [])) := by
    intro r
    induction r with
    | zero =>
      intro i hi z hz Tl Bk Xl pl fl cl
      have hil : i = len := by omega
      rw [hil] at Xl fl cl
      exact ⟨Tl, Bk, z, Xl, pl, fl, cl⟩
    | succ r ih =>
      intro i hi z hz Tl Bk Xl pl fl cl
      have all := X0.warmed.alike.symm.trans Xl.warmed.alike
      have hAl := hA0.keep all (pl.other hne hA0.1)
      have hBk := hB0.like all pl.1 fl.1 fl.2.1 fl.2.2.1
      have hlt : q + i < Bk.slots.size := by rw [fl.2.2.1]; omega
      have c3 : Steps p.tables e below (s₁.setTop (entryFrame m #[.ref b, .int (Int32.ofNat o), .ref d, .int (Int32.ofNat q), .int (Int32.ofNat len)] 7)) (Tl.setTop (mkF m 12 #[.val (.ref b), .val (.int (Int32.ofNat (o + i))), .val (.ref d), .val (.int (Int32.ofNat (q + i))), .val (.int (Int32.ofNat len)), .val (.int (Int32.ofNat i)), z] [.int (Int32.ofNat (o + i)), .ref b])) := cl.trans (by
        refine XS.iload Xl.here hexec rfl (hb hbytes d3) rfl ?_
        refine XS.iload Xl.here hexec rfl (hb hbytes d5) rfl ?_
        refine XS.icmpNo Xl.here hexec rfl (hb hbytes d7) rfl (ii_ge_f (lt32 (by omega) (by omega))) ?_
        refine XS.aloadN Xl.here hexec rfl (hb hbytes d10) rfl rfl ?_
        refine XS.iloadN Xl.here hexec rfl (hb hbytes d11) rfl ?_
        exact Steps.refl _)
      have c4 : Steps p.tables e below (s₁.setTop (entryFrame m #[.ref b, .int (Int32.ofNat o), .ref d, .int (Int32.ofNat q), .int (Int32.ofNat len)] 7)) (Tl.setTop (mkF m 13 #[.val (.ref b), .val (.int (Int32.ofNat (o + i))), .val (.ref d), .val (.int (Int32.ofNat (q + i))), .val (.int (Int32.ofNat len)), .val (.int (Int32.ofNat i)), z] [.int (cv A (o + i))])) := c3.trans (by
        refine Xl.aget hexec hAl rfl (hA.get (i := o + i) (by omega)) rfl rfl (hb hbytes d12) ?_
        exact Steps.refl _)
      have c5 : Steps p.tables e below (s₁.setTop (entryFrame m #[.ref b, .int (Int32.ofNat o), .ref d, .int (Int32.ofNat q), .int (Int32.ofNat len)] 7)) (Tl.setTop (mkF m 15 #[.val (.ref b), .val (.int (Int32.ofNat (o + i))), .val (.ref d), .val (.int (Int32.ofNat (q + i))), .val (.int (Int32.ofNat len)), .val (.int (Int32.ofNat i)), .val (.int (cv A (o + i)))] [])) := c4.trans (by
        refine XS.istoreS Xl.here hexec rfl (hb hbytes d13) rfl rfl hz ?_
        exact Steps.refl _)
      have c6 : Steps p.tables e below (s₁.setTop (entryFrame m #[.ref b, .int (Int32.ofNat o), .ref d, .int (Int32.ofNat q), .int (Int32.ofNat len)] 7)) (Tl.setTop (mkF m 31 #[.val (.ref b), .val (.int (Int32.ofNat (o + i))), .val (.ref d), .val (.int (Int32.ofNat (q + i))), .val (.int (Int32.ofNat len)), .val (.int (Int32.ofNat i)), .val (.int (cv A (o + i)))] [.int (lo8 (cv A (o + i))), .int (Int32.ofNat (q + i)), .ref d])) := c5.trans (by
        refine XS.iload Xl.here hexec rfl (hb hbytes d15) rfl ?_
        refine sipushV Xl.here hexec rfl 255 (hb hbytes d17) (by decide) ?_
        refine XS.icmpYes Xl.here hexec rfl (pc0 := 20) rfl (hb hbytes d20) rfl (ii_le_t (hp i (by omega))) (by decide) rfl ?_
        refine XS.aloadN Xl.here hexec rfl (hb hbytes d26) rfl rfl ?_
        refine XS.iloadN Xl.here hexec rfl (hb hbytes d27) rfl ?_
        refine XS.iload Xl.here hexec rfl (hb hbytes d28) rfl ?_
        refine i2b Xl.here hexec rfl (hb hbytes d30) rfl ?_
        exact Steps.refl _)
      obtain ⟨T7, X7, p7, st7⟩ := Xl.aput hexec hBk rfl hlt rfl (fits_lo8 (cv A (o + i))) (g := (mkF m 31 #[.val (.ref b), .val (.int (Int32.ofNat (o + i))), .val (.ref d), .val (.int (Int32.ofNat (q + i))), .val (.int (Int32.ofNat len)), .val (.int (Int32.ofNat i)), .val (.int (cv A (o + i)))] [.int (lo8 (cv A (o + i))), .int (Int32.ofNat (q + i)), .ref d])) rfl (rest := []) rfl (hb hbytes d31)
      have c8 : Steps p.tables e below (s₁.setTop (entryFrame m #[.ref b, .int (Int32.ofNat o), .ref d, .int (Int32.ofNat q), .int (Int32.ofNat len)] 7)) (T7.setTop (mkF m 32 #[.val (.ref b), .val (.int (Int32.ofNat (o + i))), .val (.ref d), .val (.int (Int32.ofNat (q + i))), .val (.int (Int32.ofNat len)), .val (.int (Int32.ofNat i)), .val (.int (cv A (o + i)))] [])) := c6.trans (st7 _ (Steps.refl _))
      have c9 : Steps p.tables e below (s₁.setTop (entryFrame m #[.ref b, .int (Int32.ofNat o), .ref d, .int (Int32.ofNat q), .int (Int32.ofNat len)] 7)) (T7.setTop (mkF m 3 #[.val (.ref b), .val (.int (Int32.ofNat (o + i) + 1)), .val (.ref d), .val (.int (Int32.ofNat (q + i) + 1)), .val (.int (Int32.ofNat len)), .val (.int (Int32.ofNat i + 1)), .val (.int (cv A (o + i)))] [])) := c8.trans (by
        refine iincV X7.here hexec rfl 1 (hb hbytes d32) (by decide) rfl rfl ?_
        refine iincV X7.here hexec rfl 1 (hb hbytes d35) (by decide) rfl rfl ?_
        refine iincV X7.here hexec rfl 1 (hb hbytes d38) (by decide) rfl rfl ?_
        refine XS.goto X7.here hexec rfl (pc0 := 41) rfl (hb hbytes d41) (by decide) rfl ?_
        exact Steps.refl _)
      have c10 : Steps p.tables e below (s₁.setTop (entryFrame m #[.ref b, .int (Int32.ofNat o), .ref d, .int (Int32.ofNat q), .int (Int32.ofNat len)] 7)) (T7.setTop (mkF m 3 #[.val (.ref b), .val (.int (Int32.ofNat (o + (i + 1)))), .val (.ref d), .val (.int (Int32.ofNat (q + (i + 1)))), .val (.int (Int32.ofNat len)), .val (.int (Int32.ofNat (i + 1))), .val (.int (cv A (o + i)))] [])) := by
        have := c9
        rw [succ32, succ32, succ32] at this
        exact this
      exact ih (i + 1) (by omega) _ (Or.inr ⟨_, rfl, rfl⟩) T7 _ (by rw [copyLocs_step, ← List.append_assoc]; exact X7) (pl.trans p7) (fl.step (by omega) hlt (by simp)) c10
  obtain ⟨T9, B9, z9, X9, p9, f9, g9⟩ := loop len 0 (by omega) .unset (Or.inl rfl) s₁ B (by simpa [copyLocs] using X0) ⟨hB0.1, fun _ _ => rfl, rfl⟩ (Laid.zero _ _ _) c2
  have c11 : Steps p.tables e below (s₁.setTop (entryFrame m #[.ref b, .int (Int32.ofNat o), .ref d, .int (Int32.ofNat q), .int (Int32.ofNat len)] 7)) (T9.setTop (mkF m 46 #[.val (.ref b), .val (.int (Int32.ofNat (o + len))), .val (.ref d), .val (.int (Int32.ofNat (q + len))), .val (.int (Int32.ofNat len)), .val (.int (Int32.ofNat len)), z9] [.int (Int32.ofNat len)])) := g9.trans (by
    refine XS.iload X9.here hexec rfl (hb hbytes d3) rfl ?_
    refine XS.iload X9.here hexec rfl (hb hbytes d5) rfl ?_
    refine XS.icmpYes X9.here hexec rfl (pc0 := 7) rfl (hb hbytes d7) rfl (ii_ge_t (nlt32 (by omega) (Nat.le_refl _))) (by decide) rfl ?_
    refine XS.iload X9.here hexec rfl (hb hbytes d44) rfl ?_
    exact Steps.refl _)
  exact ⟨T9, some (.int (Int32.ofNat len)), _, _, _, X9, by simp, rfl, rfl, (fun h => by cases h), ⟨rfl, B9, p9.from hh0, f9⟩, fun fs hl => c11.trans (X9.ireturnOut hexec hret rfl (Or.inl rfl) (hb hbytes d46) hl)⟩
end Cmp5
namespace Cmp3
def yN : MethodName := ⟨"java/lang/StringUTF16", "compress", "([CII)[B"⟩
abbrev yB : ByteArray := jdk_52_method_16_code
theorem d0 : decode yB 0 = .ok (.iload_n 2, 1) := by decide +kernel
theorem d1 : decode yB 1 = .ok (.newarray .byte, 2) := by decide +kernel
theorem d3 : decode yB 3 = .ok (.astore_n 3, 1) := by decide +kernel
theorem d4 : decode yB 4 = .ok (.aload_n 0, 1) := by decide +kernel
theorem d5 : decode yB 5 = .ok (.iload_n 1, 1) := by decide +kernel
theorem d6 : decode yB 6 = .ok (.aload_n 3, 1) := by decide +kernel
theorem d7 : decode yB 7 = .ok (.iconst 0, 1) := by decide +kernel
theorem d8 : decode yB 8 = .ok (.iload_n 2, 1) := by decide +kernel
theorem d9 : decode yB 9 = .ok (.invokestatic 115, 3) := by decide +kernel
theorem d12 : decode yB 12 = .ok (.istore 4, 2) := by decide +kernel
theorem d14 : decode yB 14 = .ok (.iload 4, 2) := by decide +kernel
theorem d16 : decode yB 16 = .ok (.iload_n 2, 1) := by decide +kernel
theorem d17 : decode yB 17 = .ok (.if_icmp (.eq) 40, 3) := by decide +kernel
theorem d57 : decode yB 57 = .ok (.aload_n 3, 1) := by decide +kernel
theorem d58 : decode yB 58 = .ok (.areturn, 1) := by decide +kernel
def site : List Cond := [.arrayClass .byte, Cmp5.tab] ++ staticW U16 115 Cmp5.yN
def tab : Cond := tabOf yN yB 6 (some (.array .byte)) site
def P (b : Addr) (A : Cell) (o len : Nat) (args : Array Value) (s : State) : Prop := args = #[.ref b, .int (Int32.ofNat o), .int (Int32.ofNat len)] ∧ Ch b A s ∧ o + len ≤ A.slots.size ∧ len ≤ 536870912 ∧ ∀ i, i < len → ¬ 255 < cv A (o + i)
def E (b : Addr) (A : Cell) (o len : Nat) (r : Option Value) (s u : State) : Prop := NewArr .byte "[B" len (fun j => .int (lo8 (cv A (o + j)))) r s u ∧ u.heap.size = s.heap.size + 1
theorem law (l : Launch) (b : Addr) (A : Cell) (o len : Nat) : Law l yN 3 3 1 18 yB 6 (some (.array .byte)) site (P b A o len) (E b A o len) [] 1 len := by
  refine Law.of_walk (plainFor_of_name (by decide +kernel)) (by decide +kernel) (by decide +kernel) (by decide) (fun _ _ h => by rw [h.1]; rfl) (fun _ U U' hal hh h => ⟨h.1, h.2.1.mv hal hh, h.2.2⟩) (fun r U U' V V' h1 hal h2 h => ⟨NewArr.mv r U U' V V' h1 hal h2 h.1, by rw [h1, h2]; exact h.2⟩) ?_
  intro p e s m args below meth c s₁ X0 hexec hbytes hml hret hlk hnm hown hh0 W hP
  obtain ⟨rfl, hA, l1, l2, hp⟩ := hP
  have a31 := hA.1.2.2.2
  have c1 : Steps p.tables e below (s₁.setTop (entryFrame m #[.ref b, .int (Int32.ofNat o), .int (Int32.ofNat len)] 6)) (s₁.setTop (mkF m 0 #[.val (.ref b), .val (.int (Int32.ofNat o)), .val (.int (Int32.ofNat len)), .unset, .unset, .unset] [])) := entry rfl
  have c2 : Steps p.tables e below (s₁.setTop (entryFrame m #[.ref b, .int (Int32.ofNat o), .int (Int32.ofNat len)] 6)) (s₁.setTop (mkF m 1 #[.val (.ref b), .val (.int (Int32.ofNat o)), .val (.int (Int32.ofNat len)), .unset, .unset, .unset] [.int (Int32.ofNat len)])) := c1.trans (by
    refine XS.iloadN X0.here hexec rfl (hb hbytes d0) rfl ?_
    exact Steps.refl _)
  obtain ⟨T3, B3, X3, ba3, bs3, bv3, bh3, bf3, st3⟩ := X0.anew hexec (atype := .byte) (wk W (.arrayClass .byte)) rfl (by show len * 1 ≤ _; omega) (by omega) (g := (mkF m 1 #[.val (.ref b), .val (.int (Int32.ofNat o)), .val (.int (Int32.ofNat len)), .unset, .unset, .unset] [.int (Int32.ofNat len)])) rfl (hb hbytes d1) (rest := []) rfl (Nat.le_refl _) (by show 0 + len ≤ len; omega)
  rw [hh0] at ba3 st3
  have kp3 : XT.Kept s T3 := (XT.Kept.of_eq hh0).push bh3
  have hA3 := hA.keep X3.warmed.alike (kp3 _ _ hA.1.1)
  have hne : b ≠ s.heap.size := hA.1.ne
  have c4 : Steps p.tables e below (s₁.setTop (entryFrame m #[.ref b, .int (Int32.ofNat o), .int (Int32.ofNat len)] 6)) (T3.setTop (mkF m 3 #[.val (.ref b), .val (.int (Int32.ofNat o)), .val (.int (Int32.ofNat len)), .unset, .unset, .unset] [.ref s.heap.size])) := c2.trans (st3 _ (Steps.refl _))
  have c5 : Steps p.tables e below (s₁.setTop (entryFrame m #[.ref b, .int (Int32.ofNat o), .int (Int32.ofNat len)] 6)) (T3.setTop (mkF m 9 #[.val (.ref b), .val (.int (Int32.ofNat o)), .val (.int (Int32.ofNat len)), .val (.ref s.heap.size), .unset, .unset] [.int (Int32.ofNat len), .int 0, .ref s.heap.size, .int (Int32.ofNat o), .ref b])) := c4.trans (by
    refine XS.astoreN X3.here hexec rfl (hb hbytes d3) rfl rfl rfl ?_
    refine XS.aloadN X3.here hexec rfl (hb hbytes d4) rfl rfl ?_
    refine XS.iloadN X3.here hexec rfl (hb hbytes d5) rfl ?_
    refine XS.aloadN X3.here hexec rfl (hb hbytes d6) rfl rfl ?_
    refine iconstV X3.here hexec rfl 0 (hb hbytes d7) (by decide) ?_
    refine XS.iloadN X3.here hexec rfl (hb hbytes d8) rfl ?_
    exact Steps.refl _)
  obtain ⟨v6, T6, X6, E6, g6⟩ := X3.callS hexec (Cmp5.law l b A s.heap.size B3 o 0 len) hown (wks W (staticW U16 115 Cmp5.yN)) (wk W Cmp5.tab) (W := 0) (Nat.le_of_ble_eq_true rfl) (Nat.le_of_ble_eq_true rfl) (Nat.le_refl _) (by show 0 + len + 0 ≤ len; omega) (g := (mkF m 9 #[.val (.ref b), .val (.int (Int32.ofNat o)), .val (.int (Int32.ofNat len)), .val (.ref s.heap.size), .unset, .unset] [.int (Int32.ofNat len), .int (Int32.ofNat 0), .ref s.heap.size, .int (Int32.ofNat o), .ref b])) rfl (by rw [hml]; rfl) c5 (argsL := [.ref b, .int (Int32.ofNat o), .ref s.heap.size, .int (Int32.ofNat 0), .int (Int32.ofNat len)]) (rest := []) rfl rfl (by show 2 * 0 + 0 ≤ _; decide) (hb hbytes d9) (⟨rfl, hA3, ba3, hne, l1, by rw [bs3]; simp, hp⟩)
  obtain ⟨rfl, B6, p6, f6⟩ := E6
  have c7 : Steps p.tables e below (s₁.setTop (entryFrame m #[.ref b, .int (Int32.ofNat o), .int (Int32.ofNat len)] 6)) (T6.setTop (mkF m 12 #[.val (.ref b), .val (.int (Int32.ofNat o)), .val (.int (Int32.ofNat len)), .val (.ref s.heap.size), .unset, .unset] [.int (Int32.ofNat len)])) := g6
  have c8 : Steps p.tables e below (s₁.setTop (entryFrame m #[.ref b, .int (Int32.ofNat o), .int (Int32.ofNat len)] 6)) (T6.setTop (mkF m 58 #[.val (.ref b), .val (.int (Int32.ofNat o)), .val (.int (Int32.ofNat len)), .val (.ref s.heap.size), .val (.int (Int32.ofNat len)), .unset] [.ref s.heap.size])) := c7.trans (by
    refine XS.istore X6.here hexec rfl (hb hbytes d12) rfl rfl ?_
    refine XS.iload X6.here hexec rfl (hb hbytes d14) rfl ?_
    refine XS.iloadN X6.here hexec rfl (hb hbytes d16) rfl ?_
    refine XS.icmpYes X6.here hexec rfl (pc0 := 17) rfl (hb hbytes d17) rfl (ii_eq_t rfl) (by decide) rfl ?_
    refine XS.aloadN X6.here hexec rfl (hb hbytes d57) rfl rfl ?_
    exact Steps.refl _)
  have X8 := X6.wide (L' := []) (cells' := 1) (slots' := len) (fun x hx hlt => by
    simp only [List.nil_append, copyLocs, List.mem_map, List.mem_range] at hx
    obtain ⟨i, -, rfl⟩ := hx
    exact absurd hlt (Nat.lt_irrefl _)) (Nat.le_refl _) (by omega)
  exact ⟨T6, some (.ref s.heap.size), _, _, _, X8, rfl, rfl, rfl, (fun h => by cases h), ⟨⟨rfl, B6, ba3.like (X3.warmed.alike.symm.trans X6.warmed.alike) p6.1 f6.1 f6.2.1 f6.2.2.1, f6.2.1.trans bv3, by rw [X6.warmed.alike.findClass, f6.1]; exact bf3, by rw [f6.2.2.1, bs3]; simp, fun j hj => by rw [f6.2.2.2 j, if_pos (by omega)]; rfl, kp3.put p6 (Nat.le_refl _)⟩, by rw [p6.2.2, bh3, hh0]; simp⟩, fun fs hl => c8.trans (X8.areturnOut hexec rfl hret rfl (hb hbytes d58) hl)⟩
end Cmp3
namespace CodL
def yN : MethodName := ⟨"java/lang/StringUTF16", "coderFromArrayLen", "([BI)B"⟩
abbrev yB : ByteArray := jdk_52_method_15_code
theorem d0 : decode yB 0 = .ok (.iload_n 1, 1) := by decide +kernel
theorem d1 : decode yB 1 = .ok (.aload_n 0, 1) := by decide +kernel
theorem d2 : decode yB 2 = .ok (.arraylength, 1) := by decide +kernel
theorem d3 : decode yB 3 = .ok (.isub, 1) := by decide +kernel
theorem d4 : decode yB 4 = .ok (.bipush 31, 2) := by decide +kernel
theorem d6 : decode yB 6 = .ok (.iushr, 1) := by decide +kernel
theorem d7 : decode yB 7 = .ok (.i2b, 1) := by decide +kernel
theorem d8 : decode yB 8 = .ok (.ireturn, 1) := by decide +kernel
def site : List Cond := []
def tab : Cond := tabOf yN yB 2 (some .byte) site
def P (d : Addr) (B : Cell) (args : Array Value) (s : State) : Prop := args = #[.ref d, .int (Int32.ofNat B.slots.size)] ∧ Arr .byte d B s
def E (r : Option Value) (s u : State) : Prop := XT.PureE (some (.int 0)) r s u
theorem law (l : Launch) (d : Addr) (B : Cell) : Law l yN 2 2 0 0 yB 2 (some .byte) site (P d B) E [] 0 0 := by
  refine Law.of_walk (plainFor_of_name (by decide +kernel)) (by decide +kernel) (by decide +kernel) (by decide) (fun _ _ h => by rw [h.1]; rfl) (fun _ U U' hal hh h => ⟨h.1, h.2.mv hal hh⟩) (fun r U U' V V' h1 hal h2 h => XT.PureE.mv r U U' V V' h1 hal h2 h) ?_
  intro p e s m args below meth c s₁ X0 hexec hbytes hml hret hlk hnm hown hh0 W hP
  obtain ⟨rfl, hB⟩ := hP
  have hB0 := hB.mv X0.warmed.alike hh0
  have c1 : Steps p.tables e below (s₁.setTop (entryFrame m #[.ref d, .int (Int32.ofNat B.slots.size)] 2)) (s₁.setTop (mkF m 0 #[.val (.ref d), .val (.int (Int32.ofNat B.slots.size))] [])) := entry rfl
  have c2 : Steps p.tables e below (s₁.setTop (entryFrame m #[.ref d, .int (Int32.ofNat B.slots.size)] 2)) (s₁.setTop (mkF m 2 #[.val (.ref d), .val (.int (Int32.ofNat B.slots.size))] [.ref d, .int (Int32.ofNat B.slots.size)])) := c1.trans (by
    refine XS.iloadN X0.here hexec rfl (hb hbytes d0) rfl ?_
    refine XS.aloadN X0.here hexec rfl (hb hbytes d1) rfl rfl ?_
    exact Steps.refl _)
  have c3 : Steps p.tables e below (s₁.setTop (entryFrame m #[.ref d, .int (Int32.ofNat B.slots.size)] 2)) (s₁.setTop (mkF m 8 #[.val (.ref d), .val (.int (Int32.ofNat B.slots.size))] [.int (lo8 (ushr (Int32.ofNat B.slots.size - Int32.ofNat B.slots.size) 31))])) := c2.trans (by
    refine X0.alen hexec hB0 rfl rfl (hb hbytes d2) ?_
    refine XS.isub X0.here hexec rfl (hb hbytes d3) rfl ?_
    refine bipushV X0.here hexec rfl 31 (hb hbytes d4) (by decide) ?_
    refine iushr X0.here hexec rfl (hb hbytes d6) rfl ?_
    refine i2b X0.here hexec rfl (hb hbytes d7) rfl ?_
    exact Steps.refl _)
  have e0 : lo8 (ushr (Int32.ofNat B.slots.size - Int32.ofNat B.slots.size) 31) = 0 := by rw [Int32.sub_self]; decide
  rw [e0] at c3
  exact ⟨s₁, some (.int 0), _, _, _, X0, rfl, rfl, rfl, (fun h => by cases h), ⟨rfl, hh0⟩, fun fs hl => c3.trans (X0.ireturnOut hexec hret rfl (Or.inr (Or.inr (Or.inl rfl))) (hb hbytes d8) hl)⟩
end CodL
def Got (a : Addr) (D : Cell) (fV fC : Field) (A : Cell) (o len : Nat) (r : Option Value) (s u : State) : Prop := r = none ∧ ∃ D' V : Cell, Blank "java/lang/String" a D' u ∧ Same D D' [fV.slot, fC.slot] ∧ D'.slots[fV.slot]? = some (.ref s.heap.size) ∧ D'.slots[fC.slot]? = some (.int 0) ∧ Arr .byte s.heap.size V u ∧ V.vm = .none ∧ u.vm.findClass "[B" = some V.cls ∧ V.slots.size = len ∧ (∀ j, j < len → V.slots[j]? = some (.int (lo8 (cv A (o + j))))) ∧ (∀ (y : Addr) (c : Cell), y ≠ a → s.heap[y]? = some c → u.heap[y]? = some c) ∧ u.heap.size = s.heap.size + 1
theorem Got.mv {a : Addr} {D A : Cell} {fV fC : Field} {o len : Nat} : ∀ r (U U' V V' : State), U'.heap = U.heap → V.vm.Alike V'.vm → V'.heap = V.heap → Got a D fV fC A o len r U V → Got a D fV fC A o len r U' V' :=
  fun r U U' V V' h1 hal h2 ⟨e0, D', X, a1, a2, a3, a4, a5, a6, a7, a8, a9, a10, a11⟩ => ⟨e0, D', X, a1.mv hal h2, a2, by rw [h1]; exact a3, a4, by rw [h1]; exact a5.mv hal h2, a6, by rw [hal.findClass]; exact a7, a8, a9, by rw [h1, h2]; exact a10, by rw [h1, h2]; exact a11⟩
namespace New4
def yN : MethodName := ⟨"java/lang/String", "<init>", "([CIILjava/lang/Void;)V"⟩
abbrev yB : ByteArray := jdk_42_method_149_code
theorem d0 : decode yB 0 = .ok (.aload_n 0, 1) := by decide +kernel
theorem d1 : decode yB 1 = .ok (.invokespecial 1, 3) := by decide +kernel
theorem d4 : decode yB 4 = .ok (.iload_n 3, 1) := by decide +kernel
theorem d5 : decode yB 5 = .ok (.ifCond (.ne) 22, 3) := by decide +kernel
theorem d27 : decode yB 27 = .ok (.getstatic 38, 3) := by decide +kernel
theorem d30 : decode yB 30 = .ok (.ifCond (.eq) 28, 3) := by decide +kernel
theorem d33 : decode yB 33 = .ok (.aload_n 1, 1) := by decide +kernel
theorem d34 : decode yB 34 = .ok (.iload_n 2, 1) := by decide +kernel
theorem d35 : decode yB 35 = .ok (.iload_n 3, 1) := by decide +kernel
theorem d36 : decode yB 36 = .ok (.invokestatic 177, 3) := by decide +kernel
theorem d39 : decode yB 39 = .ok (.astore 5, 2) := by decide +kernel
theorem d41 : decode yB 41 = .ok (.aload_n 0, 1) := by decide +kernel
theorem d42 : decode yB 42 = .ok (.aload 5, 2) := by decide +kernel
theorem d44 : decode yB 44 = .ok (.iload_n 3, 1) := by decide +kernel
theorem d45 : decode yB 45 = .ok (.invokestatic 47, 3) := by decide +kernel
theorem d48 : decode yB 48 = .ok (.putfield 15, 3) := by decide +kernel
theorem d51 : decode yB 51 = .ok (.aload_n 0, 1) := by decide +kernel
theorem d52 : decode yB 52 = .ok (.aload 5, 2) := by decide +kernel
theorem d54 : decode yB 54 = .ok (.putfield 9, 3) := by decide +kernel
theorem d57 : decode yB 57 = .ok (.return_, 1) := by decide +kernel
def site : List Cond := [.fieldLink "java/lang/String" 38 "java/lang/String" "COMPACT_STRINGS" "Z", Cmp3.tab, CodL.tab, .laysFinal "java/lang/String" "java/lang/String" "value" "[B", .fieldLink "java/lang/String" 9 "java/lang/String" "value" "[B", .laysFinal "java/lang/String" "java/lang/String" "coder" "B", .fieldLink "java/lang/String" 15 "java/lang/String" "coder" "B"] ++ objW "java/lang/String" 1 ++ staticW "java/lang/String" 177 Cmp3.yN ++ staticW "java/lang/String" 47 CodL.yN
def tab : Cond := tabOf yN yB 6 none site
def P (a : Addr) (D : Cell) (fV fC : Field) (b : Addr) (A : Cell) (z : Int32) (o len : Nat) (args : Array Value) (s : State) : Prop := args = #[.ref a, .ref b, .int (Int32.ofNat o), .int (Int32.ofNat len), .null] ∧ Blank "java/lang/String" a D s ∧ Found "java/lang/String" "value" "[B" fV s ∧ Found "java/lang/String" "coder" "B" fC s ∧ Ch b A s ∧ StaticIs s "java/lang/String" "COMPACT_STRINGS" "Z" (.int z) ∧ ¬ z = 0 ∧ 0 < len ∧ o + len ≤ A.slots.size ∧ len ≤ 536870912 ∧ ∀ i, i < len → ¬ 255 < cv A (o + i)
def E (a : Addr) (D : Cell) (fV fC : Field) (A : Cell) (o len : Nat) (r : Option Value) (s u : State) : Prop := Got a D fV fC A o len r s u
theorem law (l : Launch) (a : Addr) (D : Cell) (fV fC : Field) (b : Addr) (A : Cell) (z : Int32) (o len : Nat) : Law l yN 5 4 2 35 yB 6 none site (P a D fV fC b A z o len) (E a D fV fC A o len) [⟨a, fC.slot⟩, ⟨a, fV.slot⟩] 1 len := by
  refine Law.of_walk (plainFor_of_name (by decide +kernel)) (by decide +kernel) (by decide +kernel) (by decide) (fun _ _ h => by rw [h.1]; rfl) (fun _ U U' hal hh h => ⟨h.1, h.2.1.mv hal hh, h.2.2.1.al hal, h.2.2.2.1.al hal, h.2.2.2.2.1.mv hal hh, h.2.2.2.2.2.1.there hal hh, h.2.2.2.2.2.2⟩) (fun r U U' V V' h1 hal h2 h => Got.mv r U U' V V' h1 hal h2 h) ?_
  intro p e s m args below meth c s₁ X0 hexec hbytes hml hret hlk hnm hown hh0 W hP
  obtain ⟨rfl, hB, f1, f2, hA, s1, hz, l0, l1, l2, hp⟩ := hP
  have a31 := hA.1.2.2.2
  have c1 : Steps p.tables e below (s₁.setTop (entryFrame m #[.ref a, .ref b, .int (Int32.ofNat o), .int (Int32.ofNat len), .null] 6)) (s₁.setTop (mkF m 0 #[.val (.ref a), .val (.ref b), .val (.int (Int32.ofNat o)), .val (.int (Int32.ofNat len)), .val .null, .unset] [])) := entry rfl
  have c2 : Steps p.tables e below (s₁.setTop (entryFrame m #[.ref a, .ref b, .int (Int32.ofNat o), .int (Int32.ofNat len), .null] 6)) (s₁.setTop (mkF m 1 #[.val (.ref a), .val (.ref b), .val (.int (Int32.ofNat o)), .val (.int (Int32.ofNat len)), .val .null, .unset] [.ref a])) := c1.trans (by
    refine XS.aloadN X0.here hexec rfl (hb hbytes d0) rfl rfl ?_
    exact Steps.refl _)
  obtain ⟨T3, X3, q3, st3⟩ := X0.oinit hexec hown (wks W (objW "java/lang/String" 1)) (g := (mkF m 1 #[.val (.ref a), .val (.ref b), .val (.int (Int32.ofNat o)), .val (.int (Int32.ofNat len)), .val .null, .unset] [.ref a])) rfl (by rw [hml]; rfl) (rest := []) rfl (hb hbytes d1) (W := 0) (by show 2 * 0 + 0 ≤ _; decide) (Nat.le_of_ble_eq_true rfl) (Nat.le_of_ble_eq_true rfl)
  have hh3 := q3.trans hh0
  have c4 : Steps p.tables e below (s₁.setTop (entryFrame m #[.ref a, .ref b, .int (Int32.ofNat o), .int (Int32.ofNat len), .null] 6)) (T3.setTop (mkF m 27 #[.val (.ref a), .val (.ref b), .val (.int (Int32.ofNat o)), .val (.int (Int32.ofNat len)), .val .null, .unset] [])) := (c2.trans (st3 _ (Steps.refl _))).trans (by
    refine XS.iloadN X3.here hexec rfl (hb hbytes d4) rfl ?_
    refine XS.ifYes X3.here hexec rfl (pc0 := 5) rfl (hb hbytes d5) rfl (i0_ne_t (nz32 (by omega) l0)) (by decide) rfl ?_
    exact Steps.refl _)
  obtain ⟨T5, X5, q5, st5⟩ := X3.sget hexec hown (wk W (.fieldLink "java/lang/String" 38 "java/lang/String" "COMPACT_STRINGS" "Z")) s1 (fun _ _ h => by rw [hh3]; exact h) (g := (mkF m 27 #[.val (.ref a), .val (.ref b), .val (.int (Int32.ofNat o)), .val (.int (Int32.ofNat len)), .val .null, .unset] [])) rfl (hb hbytes d27)
  have hh5 := q5.trans hh3
  have c6 : Steps p.tables e below (s₁.setTop (entryFrame m #[.ref a, .ref b, .int (Int32.ofNat o), .int (Int32.ofNat len), .null] 6)) (T5.setTop (mkF m 30 #[.val (.ref a), .val (.ref b), .val (.int (Int32.ofNat o)), .val (.int (Int32.ofNat len)), .val .null, .unset] [.int z])) := c4.trans (st5 _ (Steps.refl _))
  have c7 : Steps p.tables e below (s₁.setTop (entryFrame m #[.ref a, .ref b, .int (Int32.ofNat o), .int (Int32.ofNat len), .null] 6)) (T5.setTop (mkF m 36 #[.val (.ref a), .val (.ref b), .val (.int (Int32.ofNat o)), .val (.int (Int32.ofNat len)), .val .null, .unset] [.int (Int32.ofNat len), .int (Int32.ofNat o), .ref b])) := c6.trans (by
    refine XS.ifNo X5.here hexec rfl (hb hbytes d30) rfl (i0_eq_f hz) ?_
    refine XS.aloadN X5.here hexec rfl (hb hbytes d33) rfl rfl ?_
    refine XS.iloadN X5.here hexec rfl (hb hbytes d34) rfl ?_
    refine XS.iloadN X5.here hexec rfl (hb hbytes d35) rfl ?_
    exact Steps.refl _)
  obtain ⟨v8, T8, X8, E8, g8⟩ := X5.callS hexec (Cmp3.law l b A o len) hown (wks W (staticW "java/lang/String" 177 Cmp3.yN)) (wk W Cmp3.tab) (W := 0) (Nat.le_of_ble_eq_true rfl) (Nat.le_of_ble_eq_true rfl) (Nat.le_refl _) (by show 0 + len ≤ len; omega) (g := (mkF m 36 #[.val (.ref a), .val (.ref b), .val (.int (Int32.ofNat o)), .val (.int (Int32.ofNat len)), .val .null, .unset] [.int (Int32.ofNat len), .int (Int32.ofNat o), .ref b])) rfl (by rw [hml]; rfl) c7 (argsL := [.ref b, .int (Int32.ofNat o), .int (Int32.ofNat len)]) (rest := []) rfl rfl (by show 2 * 0 + 0 ≤ _; decide) (hb hbytes d36) (⟨rfl, hA.mv X5.warmed.alike hh5, l1, l2, hp⟩)
  obtain ⟨e8, z8⟩ := E8
  obtain ⟨rfl, N, n1, n2, n3, n4, n5, n6⟩ := NewArr.mv _ T5 s _ _ hh5.symm (Vm.Alike.refl _) rfl e8
  rw [hh5] at z8
  have hB1 := hB.keep X8.warmed.alike (n6 _ _ hB.1)
  have hne : s.heap.size ≠ a := (Nat.ne_of_lt (Array.getElem?_eq_some_iff.mp hB.1).1).symm
  have c9 : Steps p.tables e below (s₁.setTop (entryFrame m #[.ref a, .ref b, .int (Int32.ofNat o), .int (Int32.ofNat len), .null] 6)) (T8.setTop (mkF m 39 #[.val (.ref a), .val (.ref b), .val (.int (Int32.ofNat o)), .val (.int (Int32.ofNat len)), .val .null, .unset] [.ref s.heap.size])) := g8
  have c10 : Steps p.tables e below (s₁.setTop (entryFrame m #[.ref a, .ref b, .int (Int32.ofNat o), .int (Int32.ofNat len), .null] 6)) (T8.setTop (mkF m 45 #[.val (.ref a), .val (.ref b), .val (.int (Int32.ofNat o)), .val (.int (Int32.ofNat len)), .val .null, .val (.ref s.heap.size)] [.int (Int32.ofNat N.slots.size), .ref s.heap.size, .ref a])) := by
    have hc : Steps p.tables e below (s₁.setTop (entryFrame m #[.ref a, .ref b, .int (Int32.ofNat o), .int (Int32.ofNat len), .null] 6)) (T8.setTop (mkF m 45 #[.val (.ref a), .val (.ref b), .val (.int (Int32.ofNat o)), .val (.int (Int32.ofNat len)), .val .null, .val (.ref s.heap.size)] [.int (Int32.ofNat len), .ref s.heap.size, .ref a])) := c9.trans (by
      refine XS.astore X8.here hexec rfl (hb hbytes d39) rfl rfl rfl ?_
      refine XS.aloadN X8.here hexec rfl (hb hbytes d41) rfl rfl ?_
      refine XS.aload X8.here hexec rfl (hb hbytes d42) rfl rfl ?_
      refine XS.iloadN X8.here hexec rfl (hb hbytes d44) rfl ?_
      exact Steps.refl _)
    rw [n4]; exact hc
  obtain ⟨v11, T11, X11, E11, g11⟩ := X8.callS hexec (CodL.law l s.heap.size N) hown (wks W (staticW "java/lang/String" 47 CodL.yN)) (wk W CodL.tab) (W := 1) (Nat.le_of_ble_eq_true rfl) (Nat.le_of_ble_eq_true rfl) (Nat.le_refl _) (by show 0 + len + 0 ≤ len; omega) (g := (mkF m 45 #[.val (.ref a), .val (.ref b), .val (.int (Int32.ofNat o)), .val (.int (Int32.ofNat len)), .val .null, .val (.ref s.heap.size)] [.int (Int32.ofNat N.slots.size), .ref s.heap.size, .ref a])) rfl (by rw [hml]; rfl) c10 (argsL := [.ref s.heap.size, .int (Int32.ofNat N.slots.size)]) (rest := [.ref a]) rfl rfl (by show 2 * 0 + (1 + 0) ≤ _; decide) (hb hbytes d45) (⟨rfl, n1⟩)
  obtain ⟨rfl, q11⟩ := E11
  have hB11 := hB1.mv (X8.warmed.alike.symm.trans X11.warmed.alike) q11
  have c12 : Steps p.tables e below (s₁.setTop (entryFrame m #[.ref a, .ref b, .int (Int32.ofNat o), .int (Int32.ofNat len), .null] 6)) (T11.setTop (mkF m 48 #[.val (.ref a), .val (.ref b), .val (.int (Int32.ofNat o)), .val (.int (Int32.ofNat len)), .val .null, .val (.ref s.heap.size)] [.int 0, .ref a])) := g11
  obtain ⟨T13, X13, p13, bl13, sl13, st13⟩ := X11.finit hexec hown (wk W (.fieldLink "java/lang/String" 15 "java/lang/String" "coder" "B")) (Or.inr ⟨_, (wk W (.laysFinal "java/lang/String" "java/lang/String" "coder" "B"))⟩) (Or.inl ⟨rfl, hnm⟩) f2 (Or.inl rfl) hB11 (t := .byte) (by decide +kernel) rfl (g := (mkF m 48 #[.val (.ref a), .val (.ref b), .val (.int (Int32.ofNat o)), .val (.int (Int32.ofNat len)), .val .null, .val (.ref s.heap.size)] [.int 0, .ref a])) rfl (rest := []) rfl (hb hbytes d48)
  have c14 : Steps p.tables e below (s₁.setTop (entryFrame m #[.ref a, .ref b, .int (Int32.ofNat o), .int (Int32.ofNat len), .null] 6)) (T13.setTop (mkF m 54 #[.val (.ref a), .val (.ref b), .val (.int (Int32.ofNat o)), .val (.int (Int32.ofNat len)), .val .null, .val (.ref s.heap.size)] [.ref s.heap.size, .ref a])) := (c12.trans (st13 _ (Steps.refl _))).trans (by
    refine XS.aloadN X13.here hexec rfl (hb hbytes d51) rfl rfl ?_
    refine XS.aload X13.here hexec rfl (hb hbytes d52) rfl rfl ?_
    exact Steps.refl _)
  obtain ⟨T15, X15, p15, bl15, sl15, st15⟩ := X13.finit hexec hown (wk W (.fieldLink "java/lang/String" 9 "java/lang/String" "value" "[B")) (Or.inr ⟨_, (wk W (.laysFinal "java/lang/String" "java/lang/String" "value" "[B"))⟩) (Or.inl ⟨rfl, hnm⟩) f1 (Or.inl rfl) bl13 (t := (.array .byte)) (by decide +kernel) rfl (g := (mkF m 54 #[.val (.ref a), .val (.ref b), .val (.int (Int32.ofNat o)), .val (.int (Int32.ofNat len)), .val .null, .val (.ref s.heap.size)] [.ref s.heap.size, .ref a])) rfl (rest := []) rfl (hb hbytes d54)
  have c16 : Steps p.tables e below (s₁.setTop (entryFrame m #[.ref a, .ref b, .int (Int32.ofNat o), .int (Int32.ofNat len), .null] 6)) (T15.setTop (mkF m 57 #[.val (.ref a), .val (.ref b), .val (.int (Int32.ofNat o)), .val (.int (Int32.ofNat len)), .val .null, .val (.ref s.heap.size)] [])) := c14.trans (st15 _ (Steps.refl _))
  have ap := apart (Or.inr ⟨_, (wk W (.laysFinal "java/lang/String" "java/lang/String" "value" "[B"))⟩) (Or.inr ⟨_, (wk W (.laysFinal "java/lang/String" "java/lang/String" "coder" "B"))⟩) f1 f2 (t₁ := .array .byte) (t₂ := .byte) (by decide +kernel) (by decide +kernel) (by decide)
  have al := X8.warmed.alike.symm.trans X15.warmed.alike
  have n7 : T11.heap[s.heap.size]? = some N := by rw [q11]; exact n1.1
  exact ⟨T15, none, _, _, _, X15, by simp, rfl, by omega, (fun _ => rfl), ⟨rfl, _, N, bl15, ((Same.refl D _).set _ (by simp)).set _ (by simp), sl15, (Cell.slots_setSlot_ne _ ap).trans sl13, n1.keep al (p15.other hne (p13.other hne n7)), n2, by rw [al.findClass]; exact n3, n4, n5, fun y c h1 h2 => p15.other h1 (p13.other h1 (by rw [q11]; exact n6 y c h2)), by rw [p15.2.2, p13.2.2, q11]; exact z8⟩, fun fs hl => c16.trans (X15.returnOut hexec hret (hb hbytes d57) hl)⟩
end New4
namespace New1
def yN : MethodName := ⟨"java/lang/String", "<init>", "([C)V"⟩
abbrev yB : ByteArray := jdk_42_method_3_code
theorem d0 : decode yB 0 = .ok (.aload_n 0, 1) := by decide +kernel
theorem d1 : decode yB 1 = .ok (.aload_n 1, 1) := by decide +kernel
theorem d2 : decode yB 2 = .ok (.iconst 0, 1) := by decide +kernel
theorem d3 : decode yB 3 = .ok (.aload_n 1, 1) := by decide +kernel
theorem d4 : decode yB 4 = .ok (.arraylength, 1) := by decide +kernel
theorem d5 : decode yB 5 = .ok (.aconst_null, 1) := by decide +kernel
theorem d6 : decode yB 6 = .ok (.invokespecial 27, 3) := by decide +kernel
theorem d9 : decode yB 9 = .ok (.return_, 1) := by decide +kernel
def site : List Cond := [New4.tab] ++ initW "java/lang/String" 27 New4.yN
def tab : Cond := tabOf yN yB 2 none site
def P (a : Addr) (D : Cell) (fV fC : Field) (b : Addr) (A : Cell) (z : Int32) (args : Array Value) (s : State) : Prop := args = #[.ref a, .ref b] ∧ Blank "java/lang/String" a D s ∧ Found "java/lang/String" "value" "[B" fV s ∧ Found "java/lang/String" "coder" "B" fC s ∧ Ch b A s ∧ StaticIs s "java/lang/String" "COMPACT_STRINGS" "Z" (.int z) ∧ ¬ z = 0 ∧ 0 < A.slots.size ∧ A.slots.size ≤ 536870912 ∧ ∀ i, i < A.slots.size → ¬ 255 < cv A i
def E (a : Addr) (D : Cell) (fV fC : Field) (A : Cell) (r : Option Value) (s u : State) : Prop := Got a D fV fC A 0 A.slots.size r s u
theorem law (l : Launch) (a : Addr) (D : Cell) (fV fC : Field) (b : Addr) (A : Cell) (z : Int32) : Law l yN 2 1 3 52 yB 2 none site (P a D fV fC b A z) (E a D fV fC A) [⟨a, fC.slot⟩, ⟨a, fV.slot⟩] 1 A.slots.size := by
  refine Law.of_walk (plainFor_of_name (by decide +kernel)) (by decide +kernel) (by decide +kernel) (by decide) (fun _ _ h => by rw [h.1]; rfl) (fun _ U U' hal hh h => ⟨h.1, h.2.1.mv hal hh, h.2.2.1.al hal, h.2.2.2.1.al hal, h.2.2.2.2.1.mv hal hh, h.2.2.2.2.2.1.there hal hh, h.2.2.2.2.2.2⟩) (fun r U U' V V' h1 hal h2 h => Got.mv r U U' V V' h1 hal h2 h) ?_
  intro p e s m args below meth c s₁ X0 hexec hbytes hml hret hlk hnm hown hh0 W hP
  obtain ⟨rfl, hB, f1, f2, hA, s1, hz, l0, l2, hp⟩ := hP
  have c1 : Steps p.tables e below (s₁.setTop (entryFrame m #[.ref a, .ref b] 2)) (s₁.setTop (mkF m 0 #[.val (.ref a), .val (.ref b)] [])) := entry rfl
  have c2 : Steps p.tables e below (s₁.setTop (entryFrame m #[.ref a, .ref b] 2)) (s₁.setTop (mkF m 6 #[.val (.ref a), .val (.ref b)] [.null, .int (Int32.ofNat A.slots.size), .int 0, .ref b, .ref a])) := c1.trans (by
    refine XS.aloadN X0.here hexec rfl (hb hbytes d0) rfl rfl ?_
    refine XS.aloadN X0.here hexec rfl (hb hbytes d1) rfl rfl ?_
    refine iconstV X0.here hexec rfl 0 (hb hbytes d2) (by decide) ?_
    refine XS.aloadN X0.here hexec rfl (hb hbytes d3) rfl rfl ?_
    refine X0.alen hexec (hA.1.mv X0.warmed.alike hh0) rfl rfl (hb hbytes d4) ?_
    refine XS.aconstNull X0.here hexec rfl (hb hbytes d5) ?_
    exact Steps.refl _)
  obtain ⟨v3, T3, X3, E3, g3⟩ := X0.callN hexec (New4.law l a D fV fC b A z 0 A.slots.size) rfl hown (wks W (initW "java/lang/String" 27 New4.yN)) (W New4.tab (by simp only [site, List.mem_cons, List.mem_append, true_or, or_true])) (W := 0) (Nat.le_of_ble_eq_true rfl) (Nat.le_of_ble_eq_true rfl) (Nat.le_refl _) (by show 0 + A.slots.size ≤ A.slots.size; omega) (g := (mkF m 6 #[.val (.ref a), .val (.ref b)] [.null, .int (Int32.ofNat A.slots.size), .int (Int32.ofNat 0), .ref b, .ref a])) rfl (by rw [hml]; rfl) c2 (argsL := [.ref b, .int (Int32.ofNat 0), .int (Int32.ofNat A.slots.size), .null]) (rest := []) rfl rfl (by show 2 * 0 + 0 ≤ _; decide) (hb hbytes d6) (⟨rfl, hB.mv X0.warmed.alike hh0, f1.al X0.warmed.alike, f2.al X0.warmed.alike, hA.mv X0.warmed.alike hh0, s1.there X0.warmed.alike hh0, hz, l0, by omega, l2, fun i hi => by rw [Nat.zero_add]; exact hp i hi⟩)
  have e0 := Got.mv _ s₁ s _ _ hh0.symm (Vm.Alike.refl _) rfl E3
  obtain rfl := e0.1
  have c4 : Steps p.tables e below (s₁.setTop (entryFrame m #[.ref a, .ref b] 2)) (T3.setTop (mkF m 9 #[.val (.ref a), .val (.ref b)] [])) := g3
  exact ⟨T3, none, _, _, _, X3, by simp, rfl, by omega, (fun _ => rfl), e0, fun fs hl => c4.trans (X3.returnOut hexec hret (hb hbytes d9) hl)⟩
theorem pays {l : Launch} {R : Room} {p : Program} {e : Env} {below : List Frame} {s : State} {sargs : Array Value} {len W : Nat} (a : Addr) (D : Cell) (fV fC : Field) (b : Addr) (A : Cell) (z : Int32) (htab : tab.before sargs s = true) (hfr : 4 ≤ R.frames) (hlo : W + 65 ≤ R.locals) :
    Back l R p e below s sargs yN len W (fun A₁ a₁ => A₁.cells + 1 ≤ R.cells ∧ A₁.slots + A.slots.size ≤ R.slots ∧ P a D fV fC b A z a₁ A₁.U) (fun A₁ _ v₁ B₁ => E a D fV fC A v₁ A₁.U B₁.U ∧ B₁.locs = A₁.locs ++ [⟨a, fC.slot⟩, ⟨a, fV.slot⟩] ∧ B₁.cells = A₁.cells + 1 ∧ B₁.slots = A₁.slots + A.slots.size) :=
  (law l a D fV fC b A z).pays htab hfr (by omega)
end New1
theorem lo8_mask {x : Int32} (h0 : ¬ x < 0) (h1 : ¬ 255 < x) : lo8 x &&& 255 = x := by
  have t : ∀ k : Fin 256, lo8 (Int32.ofNat k.val) &&& 255 = Int32.ofNat k.val := by decide +kernel
  rw [Int32.lt_iff_toInt_lt] at h0 h1
  have e0 : (0 : Int32).toInt = 0 := rfl
  have e1 : (255 : Int32).toInt = 255 := rfl
  obtain ⟨k, hk⟩ : ∃ k : Nat, x.toInt = k := ⟨x.toInt.toNat, by omega⟩
  have hx : x = Int32.ofNat k := Int32.toInt_inj.mp (by rw [hk, Int32.toInt_ofNat_small (by omega)])
  rw [hx]
  exact t ⟨k, by omega⟩
end StrChars
namespace StrChars.Road
open Jvm Sem ClassFile Op Lib Jvm.Stand Jvm.Free Jvm.Free.XT
open Jvm.Lib.Cold (StaticIs)
abbrev ST : String := "java/lang/String"
abbrev words : List Jvm.Cond := [.code New1.yN New1.yB 2 none, .initialized ST, .methodLink ST 27 New4.yN, .instanceMethod New4.yN,
  .code New4.yN New4.yB 6 none, .fieldLink ST 38 ST "COMPACT_STRINGS" "Z", .laysFinal ST ST "value" "[B", .fieldLink ST 9 ST "value" "[B", .laysFinal ST ST "coder" "B", .fieldLink ST 15 ST "coder" "B",
  .methodLink ST 1 Lib.objectInit, .instanceMethod Lib.objectInit, .code Lib.objectInit ⟨#[0xb1]⟩ 1 none, .methodLink ST 177 Cmp3.yN, .static Cmp3.yN, .methodLink ST 47 CodL.yN, .static CodL.yN,
  .code Cmp3.yN Cmp3.yB 6 (some (.array .byte)), .initialized U16, .arrayClass .byte, .methodLink U16 115 Cmp5.yN, .static Cmp5.yN, .code Cmp5.yN Cmp5.yB 7 (some .int), .code CodL.yN CodL.yB 2 (some .byte)]
theorem tab_of {a : Array Value} {s : State} (h : ∀ w ∈ words, w.before a s = true) : New1.tab.before a s = true := by
  have h5 : Cmp5.tab.before a s = true := unparts (wk h (.code Cmp5.yN Cmp5.yB 7 (some .int))) (wks h (.initialized Cmp5.yN.cls :: Cmp5.site))
  have hc : CodL.tab.before a s = true := unparts (wk h (.code CodL.yN CodL.yB 2 (some .byte))) (wks h (.initialized CodL.yN.cls :: CodL.site))
  have q5 : ∀ w ∈ Cmp5.tab :: words, w.before a s = true := fun w hw => (List.mem_cons.mp hw).elim (fun e => e ▸ h5) (h w)
  have h3 : Cmp3.tab.before a s = true := unparts (wk q5 (.code Cmp3.yN Cmp3.yB 6 (some (.array .byte)))) (wks q5 (.initialized Cmp3.yN.cls :: Cmp3.site))
  have q3 : ∀ w ∈ Cmp3.tab :: CodL.tab :: words, w.before a s = true := fun w hw => (List.mem_cons.mp hw).elim (fun e => e ▸ h3) fun hw => (List.mem_cons.mp hw).elim (fun e => e ▸ hc) (h w)
  have h4 : New4.tab.before a s = true := unparts (wk q3 (.code New4.yN New4.yB 6 none)) (wks q3 (.initialized New4.yN.cls :: New4.site))
  have q4 : ∀ w ∈ New4.tab :: words, w.before a s = true := fun w hw => (List.mem_cons.mp hw).elim (fun e => e ▸ h4) (h w)
  exact unparts (wk q4 (.code New1.yN New1.yB 2 none)) (wks q4 (.initialized New1.yN.cls :: New1.site))
theorem moved {Z s : State} {a0 args : Array Value} (hZ : Z.Warmed39 s.vm) (hw : ∀ d ∈ words, d.before a0 Z = true) : ∀ d ∈ words, d.before args s = true := fun d hd => by
  have q := hw d hd
  have t : ∀ d ∈ words, d = .arrayClass .byte ∨ (d.onTables && d.keepsFace) = true := by decide +kernel
  rcases t d hd with rfl | t
  · exact RoadKit.mvA hZ q
  · exact RoadKit.mv hZ q t
def Q (Z : State) (x : Addr) (A : Cell) (h : Heap) (v : Option Value) (h' : Heap) (L : List Loc) : Prop := v = none ∧ (∀ y ∈ L, y.base = x) ∧ RoadKit.Keep h h' [x] ∧ h'.size = h.size + 1 ∧ RoadKit.Exa Z h' x ST ∧ RoadKit.Fld Z h' x ST "value" "[B" (.ref h.size) ∧ RoadKit.Fld Z h' x ST "coder" "B" (.int 0) ∧
  (∃ V : Cell, RoadKit.Arr Z h' h.size V .byte ∧ V.vm = .none ∧ Z.vm.findClass "[B" = some V.cls ∧ V.slots.size = A.slots.size ∧ ∀ j, j < A.slots.size → V.slots[j]? = some (.int (lo8 (cv A j)))) ∧
  ∀ (O n d : String) (w : Value), RoadKit.Fld Z h x O n d w → RoadKit.slotOf Z O n d ≠ RoadKit.slotOf Z ST "value" "[B" → RoadKit.slotOf Z O n d ≠ RoadKit.slotOf Z ST "coder" "B" → RoadKit.Fld Z h' x O n d w
theorem back {p : Program} {l : Launch} {e : Env} {R : Room} {s : State} {args : Array Value} {below : List Frame} {len W : Nat} {Z : State} {a0 : Array Value} {h : Heap} (hZ : Z.Warmed39 s.vm) (hw : ∀ d ∈ words, d.before a0 Z = true) {kI : Nat} (wi : (Jvm.Cond.instantiable ST kI).before a0 Z = true)
    {x b : Addr} {A : Cell} {z : Int32} {v0 c0 : Value} (E : RoadKit.Exa Z h x ST) (V : RoadKit.Fld Z h x ST "value" "[B" v0) (C : RoadKit.Fld Z h x ST "coder" "B" c0) (K : RoadKit.Arr Z h b A .char) (hty : Typed .char A) (S : RoadKit.Sta Z h ST "COMPACT_STRINGS" "Z" (.int z)) (hz : ¬ z = 0)
    (l0 : 0 < A.slots.size) (l2 : A.slots.size ≤ 536870912) (hp : ∀ i, i < A.slots.size → ¬ 255 < cv A i) (hfr : 4 ≤ R.frames) (hlo : W + 65 ≤ R.locals) :
    Back l R p e below s args New1.yN len W (fun P a => a = #[.ref x, .ref b] ∧ P.U.heap = h ∧ P.cells + 1 ≤ R.cells ∧ P.slots + A.slots.size ≤ R.slots)
      (fun P _ v B => ∃ L, Q Z x A h v B.U.heap L ∧ B.locs = P.locs ++ L ∧ B.cells = P.cells + 1 ∧ B.slots = P.slots + A.slots.size) := by
  intro m meth c P g ig mk a X hg hsize hdg hW hn hp'
  obtain ⟨rfl, rfl, r1, r2⟩ := hp'
  have al : Z.vm.Alike P.U.vm := hZ.alike.trans X.warmed.alike
  obtain ⟨D, cfV, kV, iV, fV, hD, gV, stV, knV, obV, asV, slV⟩ := id V
  obtain ⟨D', cfC, kC, iC, fC, hD', gC, stC, -, -, asC, slC⟩ := id C
  cases hD.symm.trans hD'
  obtain ⟨D2, kD, e1, e2, e3, e4, e5⟩ := id E
  cases hD.symm.trans e1
  obtain ⟨c2, k2, i1, i2, i3, -⟩ := Cond.instantiable_spec wi
  cases e2.symm.trans i1
  cases e3.symm.trans i2
  obtain ⟨kU, u1, u2⟩ := al.2.2 _ _ e3
  have hB : Blank ST x D P.U := ⟨hD, ⟨knV, fun q hq => by rw [hq] at obV; cases obV⟩, by rw [al.findClass]; exact e2, kU, u1, by rw [u2]; exact i3, by rw [u2]; exact e5 i3⟩
  have F1 : Found ST "value" "[B" fV P.U := ⟨SBG.found_only al ⟨cfV, kV, iV, gV⟩, stV⟩
  have F2 : Found ST "coder" "B" fC P.U := ⟨SBG.found_only al ⟨cfC, kC, iC, gC⟩, stC⟩
  have hA : Ch b A P.U := ⟨⟨K.1, State.isArrayOf_alike al K.2.1, K.2.2, by omega⟩, hty⟩
  have hS : StaticIs P.U ST "COMPACT_STRINGS" "Z" (.int z) := by
    obtain ⟨cfS, iS, kS, fS, st, cS, t1, t2, t3, t4, t5, t6, t7⟩ := S
    exact StaticIs.there (s := { Z with heap := P.U.heap }) ⟨cfS, iS, kS, fS, st, cS, t1, t2, t3, t4, t5, (fun q => by rw [q] at t6; cases t6), t7⟩ al rfl
  obtain ⟨v, B, X', ⟨⟨hv, E', V', q1, q2, q3, q4, q5, q6, q7, q8, q9, q10, q11⟩, hl, hc, hs⟩, st⟩ := New1.pays x D fV fC b A z (tab_of (moved hZ hw)) hfr hlo m meth c P g ig mk _ X hg hsize hdg hW hn ⟨r1, r2, rfl, hB, F1, F2, hA, hS, hz, l0, l2, hp⟩
  have al' : Z.vm.Alike B.U.vm := hZ.alike.trans X'.warmed.alike
  have hsz : E'.slots.size = D.slots.size := by
    obtain ⟨-, -, -, kB, w1, w2, w3⟩ := q1
    obtain ⟨kB', y1, y2⟩ := al'.2.2 _ _ e3
    rw [q2.2.1] at w1
    cases w1.symm.trans y1
    rw [w3, e5 i3, y2]
  refine ⟨v, B, X', ⟨_, ⟨hv, ?_, ⟨by omega, fun y cy hy hn' => q10 y cy (by simpa using hn') hy, fun y cy hy => ?_⟩, q11, ⟨E', _, q1.1, by rw [q2.2.1]; exact e2, by rw [q2.2.1]; exact e3, by rw [q2.1]; exact obV, fun _ => by rw [hsz]; exact e5 i3⟩,
    ⟨E', cfV, kV, iV, fV, q1.1, gV, stV, by rw [q2.1]; exact knV, by rw [q2.1]; exact obV, by rw [q2.2.1]; exact asV, q3⟩, ⟨E', cfC, kC, iC, fC, q1.1, gC, stC, by rw [q2.1]; exact knV, by rw [q2.1]; exact obV, by rw [q2.2.1]; exact asC, q4⟩,
    ⟨V', ⟨q5.1, State.isArrayOf_alike al'.symm q5.2.1, q5.2.2.1⟩, q6, by rw [← al'.findClass]; exact q7, q8, fun j hj => by have := q9 j hj; rwa [Nat.zero_add] at this⟩, fun O n d w F n1 n2 => ?_⟩, hl, hc, hs⟩, st⟩
  · intro y hy
    simp only [List.mem_cons, List.not_mem_nil, or_false] at hy
    rcases hy with rfl | rfl <;> rfl
  · by_cases q : y = x
    · subst q
      cases hD.symm.trans hy
      exact ⟨E', q1.1, q2.2.1, q2.1, hsz⟩
    · exact ⟨cy, q10 y cy q hy, rfl, rfl, rfl⟩
  · obtain ⟨D3, cf, k, i, f, g1, g2, g3, g4, g5, g6, g7⟩ := F
    cases hD.symm.trans g1
    simp only [RoadKit.slotOf, g2, gV, gC, Option.map_some, Option.getD_some] at n1 n2
    exact ⟨E', cf, k, i, f, q1.1, g2, g3, by rw [q2.1]; exact g4, by rw [q2.1]; exact g5, by rw [q2.2.1]; exact g6, by rw [q2.2.2 f.slot (by simp [n1, n2])]; exact g7⟩
end StrChars.Road
namespace StrChars.Road
open Jvm Sem ClassFile Op Lib Jvm.Stand Jvm.Free Jvm.Free.XT
def QA (Z : State) (x : Addr) (zn : Int32) (cs : List Int32) (h : Heap) (v : Option Value) (h' : Heap) (L : List Loc) : Prop := v = none ∧ (∀ y ∈ L, y.base = x) ∧ RoadKit.Keep h h' [x] ∧ h'.size = h.size + 1 ∧ RoadKit.Exa Z h' x ST ∧ RoadKit.Fld Z h' x ST "value" "[B" (.ref h.size) ∧ RoadKit.Fld Z h' x ST "coder" "B" (.int 0) ∧
  (∃ kb, Z.vm.findClass "[B" = some kb ∧ RoadKit.Arv Z h' h.size kb .byte zn (cs.map fun c => .int (lo8 c)) (.int 0)) ∧
  ∀ (O n d : String) (w : Value), RoadKit.Fld Z h x O n d w → RoadKit.slotOf Z O n d ≠ RoadKit.slotOf Z ST "value" "[B" → RoadKit.slotOf Z O n d ≠ RoadKit.slotOf Z ST "coder" "B" → RoadKit.Fld Z h' x O n d w
theorem backArv {p : Program} {l : Launch} {e : Env} {R : Room} {s : State} {args : Array Value} {below : List Frame} {len W : Nat} {Z : State} {a0 : Array Value} {h : Heap} (hZ : Z.Warmed39 s.vm) (hw : ∀ d ∈ words, d.before a0 Z = true) {kI : Nat} (wi : (Jvm.Cond.instantiable ST kI).before a0 Z = true)
    {x b : Addr} {k : ClassId} {zn z : Int32} {cs : List Int32} {dv v0 c0 : Value} (E : RoadKit.Exa Z h x ST) (V : RoadKit.Fld Z h x ST "value" "[B" v0) (C : RoadKit.Fld Z h x ST "coder" "B" c0) (K : RoadKit.Arv Z h b k .char zn (cs.map Value.int) dv) (S : RoadKit.Sta Z h ST "COMPACT_STRINGS" "Z" (.int z)) (hz : ¬ z = 0)
    (hlen : zn.toNatClampNeg = cs.length) (h0 : 0 < cs.length) (hbig : cs.length ≤ 536870912) (hall : ∀ c ∈ cs, ¬ 255 < c) (hfr : 4 ≤ R.frames) (hlo : W + 65 ≤ R.locals) :
    Back l R p e below s args New1.yN len W (fun P a => a = #[.ref x, .ref b] ∧ P.U.heap = h ∧ P.cells + 1 ≤ R.cells ∧ P.slots + cs.length ≤ R.slots)
      (fun P _ v B => ∃ L, QA Z x zn cs h v B.U.heap L ∧ B.locs = P.locs ++ L ∧ B.cells = P.cells + 1 ∧ B.slots = P.slots + cs.length) := by
  obtain ⟨A, K1, K2, K3, K4, K5, K6⟩ := K
  have e : A.slots.size = cs.length := K3.trans hlen
  have hat : ∀ (i : Nat) (hi : i < cs.length), A.slots[i]? = some (.int cs[i]) := fun i hi => by rw [K5 i (by omega)]; simp [List.getD_eq_getElem?_getD, hi]
  have hcv : ∀ (i : Nat) (hi : i < cs.length), cv A i = cs[i] := fun i hi => by unfold cv; rw [hat i hi]
  have hty : Typed .char A := fun i v hv => by
    have hi : i < A.slots.size := (Array.getElem?_eq_some_iff.mp hv).1
    have q := K5 i hi
    rw [hv] at q
    rw [Option.some.inj q]
    exact K6 i hi
  refine Back.mono (back hZ hw wi E V C K1 hty S hz (by omega) (by omega) (fun i hi => by rw [hcv i (by omega)]; exact hall _ (List.getElem_mem _)) hfr hlo) (fun P a hp => ⟨hp.1, hp.2.1, hp.2.2.1, by rw [e]; exact hp.2.2.2⟩) (fun P a v B hp hq => ?_)
  obtain ⟨L, ⟨q1, q2, q3, q4, q5, q6, q7, ⟨V', v1, v2, v3, v4, v5⟩, q9⟩, hl, hc, hs⟩ := hq
  refine ⟨L, ⟨q1, q2, q3, q4, q5, q6, q7, ⟨V'.cls, v3, V', v1, rfl, by rw [v4, e, hlen], K4, fun i hi => ?_, fun i hi => ?_⟩, q9⟩, hl, hc, by rw [hs, e]⟩
  · have hi' : i < cs.length := by omega
    rw [v5 i (by omega), hcv i hi']; simp [List.getD_eq_getElem?_getD, hi']
  · have hi' : i < cs.length := by omega
    simp only [List.getD_eq_getElem?_getD, List.getElem?_map, List.getElem?_eq_getElem hi', Option.map_some, Option.getD_some]
    exact fits_lo8 _
end StrChars.Road
namespace StrChars.Road
open Jvm Sem ClassFile Op Lib Jvm.Stand Jvm.Free Jvm.Free.XT
def QV (Z : State) (x : Addr) (N : Int32) (bs : List Int32) (h : Heap) (n0 : Nat) (v : Option Value) (h' : Heap) (L : List Loc) : Prop := v = none ∧ RoadKit.Fr n0 L ∧ RoadKit.Keep h h' [x] ∧ RoadKit.Exa Z h' x ST ∧ RoadKit.Fld Z h' x ST "coder" "B" (.int 0) ∧
  ∃ (t : Addr) (kb : ClassId), n0 ≤ t ∧ h.size ≤ t ∧ ¬ t = x ∧ RoadKit.Fld Z h' x ST "value" "[B" (.ref t) ∧ RoadKit.Arv Z h' t kb .byte N (bs.map Value.int) (.int 0)
theorem backV {p : Program} {l : Launch} {e : Env} {R : Room} {s : State} {args : Array Value} {below : List Frame} {len W : Nat} {Z : State} {a0 : Array Value} {h : Heap} (hZ : Z.Warmed39 s.vm) (hw : ∀ d ∈ words, d.before a0 Z = true) {kI : Nat} (wi : (Jvm.Cond.instantiable ST kI).before a0 Z = true)
    {x b : Addr} {kC : ClassId} {cs bs : List Int32} {d v0 c0 : Value} {z N : Int32} {n n0 : Nat} (hx0 : n0 ≤ x) (hh0 : n0 ≤ h.size) (E : RoadKit.Exa Z h x ST) (V : RoadKit.Fld Z h x ST "value" "[B" v0) (C : RoadKit.Fld Z h x ST "coder" "B" c0) (K : RoadKit.Arv Z h b kC .char N (cs.map Value.int) d) (S : RoadKit.Sta Z h ST "COMPACT_STRINGS" "Z" (.int z)) (hz : ¬ z = 0)
    (hn : cs.length = n) (hN : N = Int32.ofNat n) (l0 : 0 < n) (l2 : n ≤ 4000) (hp : ∀ c ∈ cs, ¬ c < 0 ∧ ¬ (255 : Int32) < c) (hb : bs = cs.map (fun c => c.toInt8.toInt32)) (hfr : 4 ≤ R.frames) (hlo : W + 65 ≤ R.locals) :
    Back l R p e below s args (⟨"java/lang/String", "<init>", "([C)V"⟩ : MethodName) len W (fun P a => a = #[.ref x, .ref b] ∧ P.U.heap = h ∧ P.cells + 1 ≤ R.cells ∧ P.slots + n ≤ R.slots)
      (fun P _ v B => ∃ L, QV Z x N bs h n0 v B.U.heap L ∧ B.locs = P.locs ++ L ∧ B.cells = P.cells + 1 ∧ B.slots = P.slots + n) := by
  subst hn hN hb
  refine Back.mono (backArv hZ hw wi E V C K S hz (n32 (by omega)) l0 (by omega) (fun c hc => (hp c hc).2) hfr hlo) (fun P a hp => hp) (fun P a v B hp hq => ?_)
  obtain ⟨L, ⟨q1, q2, q3, q4, q5, q6, q7, ⟨kb, v1, v2⟩, q9⟩, hl, hc, hs⟩ := hq
  exact ⟨L, ⟨q1, fun y hy => by rw [q2 y hy]; exact hx0, q3, q5, q7, h.size, kb, hh0, Nat.le_refl _, Nat.ne_of_gt E.lt, q6, by rw [List.map_map]; exact v2⟩, hl, hc, hs⟩
end StrChars.Road
namespace StrChars
open Jvm Sem ClassFile Op Lib Jvm.Stand Jvm.Free.XT Jvm.Free.ALB Jvm.Free.JM Jvm.Free
open Jvm.Lib.Cold (StaticIs)
def hi8 (x : Int32) : Int32 := lo8 (x >>> ((8 : Int32) &&& 31))
def pairCh (u v : Int32) : Int32 := (((u &&& 255) <<< ((0 : Int32) &&& 31)) ||| ((v &&& 255) <<< ((8 : Int32) &&& 31))).toUInt32.toUInt16.toUInt32.toInt32
theorem shr0 (c : Int32) : c >>> ((0 : Int32) &&& 31) = c := by
  have e : ((0 : Int32) &&& 31) = 0 := by decide
  rw [e]
  apply Int32.toBitVec_inj.mp
  rw [Int32.toBitVec_shiftRight]
  have e1 : ((0 : Int32).toBitVec.smod 32) = 0#32 := by decide
  rw [e1, BitVec.sshiftRight_eq']
  exact BitVec.sshiftRight_zero
theorem lo8_and (x : Int32) : (lo8 x &&& 255).toBitVec.toNat = x.toBitVec.toNat % 256 := by
  have h : (lo8 x).toBitVec = (x.toBitVec.signExtend 8).signExtend 32 := by rw [lo8, Int8.toBitVec_toInt32, Int32.toBitVec_toInt8]
  rw [Int32.toBitVec_and, BitVec.toNat_and, h]
  have e : ((x.toBitVec.signExtend 8).signExtend 32).toNat % 256 = x.toBitVec.toNat % 256 := by
    rw [BitVec.toNat_signExtend]
    have hlt := x.toBitVec.isLt
    simp only [BitVec.toNat_setWidth, BitVec.toNat_signExtend]
    split <;> split <;> omega
  rw [← e]
  exact Nat.and_two_pow_sub_one_eq_mod _ 8
theorem pair_says {c : Int32} (h0 : ¬ c < 0) (h1 : ¬ 65535 < c) : pairCh (lo8 c) (hi8 c) = c := by
  rw [Int32.lt_iff_toInt_lt] at h0 h1
  have e0 : (0 : Int32).toInt = 0 := rfl
  have e1 : (65535 : Int32).toInt = 65535 := rfl
  have hc : c.toInt = c.toBitVec.toNat := by
    have := c.toBitVec.isLt
    have e : c.toInt = c.toBitVec.toInt := rfl
    rw [e] at h0 h1
    rw [e]
    rw [BitVec.toInt_eq_toNat_cond] at h0 h1 ⊢
    split at h0 <;> split <;> omega
  have hn : c.toBitVec.toNat < 65536 := by omega
  have a1 := lo8_and c
  have a2 : (hi8 c &&& 255).toBitVec.toNat = c.toBitVec.toNat / 256 := by
    rw [hi8, lo8_and]
    have e : ((8 : Int32) &&& 31) = 8 := by decide
    rw [e, Int32.toBitVec_shiftRight]
    have e2 : ((8 : Int32).toBitVec.smod 32) = 8#32 := by decide
    rw [e2, BitVec.sshiftRight_eq', BitVec.toNat_sshiftRight_of_msb_false (by rw [BitVec.msb_eq_false_iff_two_mul_lt]; omega)]
    show c.toBitVec.toNat >>> 8 % 256 = _
    rw [Nat.shiftRight_eq_div_pow]
    omega
  unfold pairCh
  apply Int32.toBitVec_inj.mp
  apply BitVec.eq_of_toNat_eq
  have f0 : ((0 : Int32) &&& 31) = 0 := by decide
  have f8 : ((8 : Int32) &&& 31) = 8 := by decide
  rw [f0, f8]
  have g : (((lo8 c &&& 255) <<< (0 : Int32)) ||| ((hi8 c &&& 255) <<< (8 : Int32))).toBitVec.toNat = c.toBitVec.toNat := by
    rw [Int32.toBitVec_or, Int32.toBitVec_shiftLeft, Int32.toBitVec_shiftLeft]
    have s0 : ((0 : Int32).toBitVec.smod 32) = 0#32 := by decide
    have s8 : ((8 : Int32).toBitVec.smod 32) = 8#32 := by decide
    rw [s0, s8, BitVec.toNat_or]
    simp only [BitVec.shiftLeft_eq', BitVec.toNat_shiftLeft, a1, a2]
    show (c.toBitVec.toNat % 256) <<< 0 % 2 ^ 32 ||| (c.toBitVec.toNat / 256) <<< 8 % 2 ^ 32 = _
    rw [Nat.shiftLeft_zero, Nat.mod_eq_of_lt (show c.toBitVec.toNat % 256 < 2 ^ 32 by omega), Nat.mod_eq_of_lt (show (c.toBitVec.toNat / 256) <<< 8 < 2 ^ 32 by rw [Nat.shiftLeft_eq]; omega), Nat.or_comm, ← Nat.shiftLeft_add_eq_or_of_lt (by omega), Nat.shiftLeft_eq]
    omega
  show BitVec.toNat (((((lo8 c &&& 255) <<< (0 : Int32)) ||| ((hi8 c &&& 255) <<< (8 : Int32))).toBitVec.setWidth 16).setWidth 32) = _
  rw [BitVec.toNat_setWidth, BitVec.toNat_setWidth, g]
  omega
end StrChars
namespace StrChars
open Jvm Sem ClassFile Op Lib Jvm.Stand Jvm.Free.XT Jvm.Free.ALB Jvm.Free.JM Jvm.Free
open Jvm.Lib.Cold (StaticIs)
theorem shr1 {n : Nat} (h : 2 * n < 2 ^ 31) : Int32.ofNat (2 * n) >>> ((1 : Int32) &&& 31) = Int32.ofNat n := by
  have e : ((1 : Int32) &&& 31) = 1 := by decide
  rw [e]
  apply Int32.toBitVec_inj.mp
  rw [Int32.toBitVec_shiftRight]
  have e1 : ((1 : Int32).toBitVec.smod 32) = 1#32 := by decide
  have hm : (BitVec.ofNat 32 (2 * n)).toNat = 2 * n := by rw [BitVec.toNat_ofNat, Nat.mod_eq_of_lt (by omega)]
  rw [e1, BitVec.sshiftRight_eq']
  apply BitVec.eq_of_toNat_eq
  show ((BitVec.ofNat 32 (2 * n)).sshiftRight 1).toNat = (BitVec.ofNat 32 n).toNat
  rw [BitVec.toNat_sshiftRight_of_msb_false (by rw [BitVec.msb_eq_false_iff_two_mul_lt, hm]; omega), hm, BitVec.toNat_ofNat, Nat.shiftRight_eq_div_pow]
  omega
def chr8 (u : Int32) : Int32 := (u &&& 255).toUInt32.toUInt16.toUInt32.toInt32
theorem chr8_lo8 {c : Int32} (h0 : ¬ c < 0) (h1 : ¬ 255 < c) : chr8 (lo8 c) = c := by
  have t : ∀ k : Fin 256, (Int32.ofNat k.val).toUInt32.toUInt16.toUInt32.toInt32 = Int32.ofNat k.val := by decide +kernel
  unfold chr8
  rw [lo8_mask h0 h1]
  rw [Int32.lt_iff_toInt_lt] at h0 h1
  have e0 : (0 : Int32).toInt = 0 := rfl
  have e1 : (255 : Int32).toInt = 255 := rfl
  obtain ⟨k, hk⟩ : ∃ k : Nat, c.toInt = k := ⟨c.toInt.toNat, by omega⟩
  have hx : c = Int32.ofNat k := Int32.toInt_inj.mp (by rw [hk, Int32.toInt_ofNat_small (by omega)])
  rw [hx]
  exact t ⟨k, by omega⟩
def Cod (cd : Int32) (n : Nat) (f : Nat → Int32) (V : Cell) : Prop := (cd = 0 ∧ V.slots.size = n ∧ ∀ j, j < n → V.slots[j]? = some (.int (lo8 (f j))) ∧ ¬ 255 < f j) ∨ (cd = 1 ∧ V.slots.size = 2 * n ∧ (∀ j, j < n → V.slots[2 * j]? = some (.int (lo8 (f j))) ∧ V.slots[2 * j + 1]? = some (.int (hi8 (f j)))) ∧ ∃ j, j < n ∧ 255 < f j)
theorem Cod.cd {cd : Int32} {n : Nat} {f : Nat → Int32} {V : Cell} (h : Cod cd n f V) : cd = 0 ∨ cd = 1 := h.imp (fun q => q.1) fun q => q.1
theorem Cod.len {cd : Int32} {n : Nat} {f : Nat → Int32} {V : Cell} (h : Cod cd n f V) (hs : V.slots.size < 2 ^ 31) : Int32.ofNat V.slots.size >>> (cd &&& 31) = Int32.ofNat n := by
  rcases h with ⟨rfl, h, -⟩ | ⟨rfl, h, -⟩
  · rw [shr0, h]
  · rw [h, shr1 (by omega)]
def Txt (x t : Addr) (V : Cell) (cd : Int32) (n : Nat) (f : Nat → Int32) (U : State) : Prop := Exact "java/lang/String" x U ∧ Has x "java/lang/String" "value" "[B" (.ref t) U ∧ Has x "java/lang/String" "coder" "B" (.int cd) U ∧ XT.Arr .byte t V U ∧ Cod cd n f V ∧ ∀ j, j < n → ¬ f j < 0 ∧ ¬ 65535 < f j
theorem Txt.mv {x t : Addr} {V : Cell} {cd : Int32} {n : Nat} {f : Nat → Int32} {U U' : State} (h : Txt x t V cd n f U) (hal : U.vm.Alike U'.vm) (hh : U'.heap = U.heap) : Txt x t V cd n f U' := ⟨h.1.mv hal hh, h.2.1.mv hal hh, h.2.2.1.mv hal hh, h.2.2.2.1.mv hal hh, h.2.2.2.2⟩
namespace Cdr
def yN : MethodName := ⟨"java/lang/String", "coder", "()B"⟩
abbrev yB : ByteArray := jdk_42_method_152_code
theorem d0 : decode yB 0 = .ok (.getstatic 38, 3) := by decide +kernel
theorem d3 : decode yB 3 = .ok (.ifCond (.eq) 10, 3) := by decide +kernel
theorem d6 : decode yB 6 = .ok (.aload_n 0, 1) := by decide +kernel
theorem d7 : decode yB 7 = .ok (.getfield 15, 3) := by decide +kernel
theorem d10 : decode yB 10 = .ok (.goto 4, 3) := by decide +kernel
theorem d14 : decode yB 14 = .ok (.ireturn, 1) := by decide +kernel
def site : List Cond := [.fieldLink "java/lang/String" 38 "java/lang/String" "COMPACT_STRINGS" "Z", .fieldLink "java/lang/String" 15 "java/lang/String" "coder" "B"]
def tab : Cond := tabOf yN yB 1 (some .byte) site
def P (x : Addr) (cd z : Int32) (args : Array Value) (s : State) : Prop := args = #[.ref x] ∧ Has x "java/lang/String" "coder" "B" (.int cd) s ∧ (cd = 0 ∨ cd = 1) ∧ StaticIs s "java/lang/String" "COMPACT_STRINGS" "Z" (.int z) ∧ ¬ z = 0
def E (cd : Int32) (r : Option Value) (s u : State) : Prop := XT.PureE (some (.int cd)) r s u
theorem law (l : Launch) (x : Addr) (cd z : Int32) : Law l yN 1 0 0 0 yB 1 (some .byte) site (P x cd z) (E cd) [] 0 0 := by
  refine Law.of_walk (plainFor_of_name (by decide +kernel)) (by decide +kernel) (by decide +kernel) (by decide) (fun _ _ h => by rw [h.1]; rfl) (fun _ U U' hal hh h => ⟨h.1, h.2.1.mv hal hh, h.2.2.1, h.2.2.2.1.there hal hh, h.2.2.2.2⟩) (fun r U U' V V' h1 hal h2 h => XT.PureE.mv r U U' V V' h1 hal h2 h) ?_
  intro p e s m args below meth c s₁ X0 hexec hbytes hml hret hlk hnm hown hh0 W hP
  obtain ⟨rfl, hx, hc, s1, hz⟩ := hP
  have c1 : Steps p.tables e below (s₁.setTop (entryFrame m #[.ref x] 1)) (s₁.setTop (mkF m 0 #[.val (.ref x)] [])) := entry rfl
  obtain ⟨T2, X2, q2, st2⟩ := X0.sget hexec hown (wk W (.fieldLink "java/lang/String" 38 "java/lang/String" "COMPACT_STRINGS" "Z")) s1 (fun _ _ h => by rw [hh0]; exact h) (g := (mkF m 0 #[.val (.ref x)] [])) rfl (hb hbytes d0)
  have hh2 := q2.trans hh0
  have c3 : Steps p.tables e below (s₁.setTop (entryFrame m #[.ref x] 1)) (T2.setTop (mkF m 7 #[.val (.ref x)] [.ref x])) := (c1.trans (st2 _ (Steps.refl _))).trans (by
    refine XS.ifNo X2.here hexec rfl (hb hbytes d3) rfl (i0_eq_f hz) ?_
    refine XS.aloadN X2.here hexec rfl (hb hbytes d6) rfl rfl ?_
    exact Steps.refl _)
  obtain ⟨T4, X4, q4, st4⟩ := X2.hget hexec hown (wk W (.fieldLink "java/lang/String" 15 "java/lang/String" "coder" "B")) (hx.mv X2.warmed.alike hh2) (g := (mkF m 7 #[.val (.ref x)] [.ref x])) rfl (rest := []) rfl (hb hbytes d7)
  have c5 : Steps p.tables e below (s₁.setTop (entryFrame m #[.ref x] 1)) (T4.setTop (mkF m 14 #[.val (.ref x)] [.int cd])) := (c3.trans (st4 _ (Steps.refl _))).trans (by
    refine XS.goto X4.here hexec rfl (pc0 := 10) rfl (hb hbytes d10) (by decide) rfl ?_
    exact Steps.refl _)
  exact ⟨T4, some (.int cd), _, _, _, X4, rfl, rfl, rfl, (fun h => by cases h), ⟨rfl, q4.trans hh2⟩, fun fs hl => c5.trans (X4.ireturnOut hexec hret (by rcases hc with rfl | rfl <;> rfl) (Or.inr (Or.inr (Or.inl rfl))) (hb hbytes d14) hl)⟩
end Cdr
namespace Len
def yN : MethodName := ⟨"java/lang/String", "length", "()I"⟩
abbrev yB : ByteArray := jdk_42_method_54_code
theorem d0 : decode yB 0 = .ok (.aload_n 0, 1) := by decide +kernel
theorem d1 : decode yB 1 = .ok (.getfield 9, 3) := by decide +kernel
theorem d4 : decode yB 4 = .ok (.arraylength, 1) := by decide +kernel
theorem d5 : decode yB 5 = .ok (.aload_n 0, 1) := by decide +kernel
theorem d6 : decode yB 6 = .ok (.invokevirtual 335, 3) := by decide +kernel
theorem d9 : decode yB 9 = .ok (.ishr, 1) := by decide +kernel
theorem d10 : decode yB 10 = .ok (.ireturn, 1) := by decide +kernel
def site : List Cond := [.fieldLink "java/lang/String" 9 "java/lang/String" "value" "[B", Cdr.tab] ++ virtW "java/lang/String" 335 "java/lang/String" Cdr.yN Cdr.yN
def tab : Cond := tabOf yN yB 1 (some .int) site
def P (x t : Addr) (V : Cell) (cd : Int32) (n : Nat) (f : Nat → Int32) (z : Int32) (args : Array Value) (s : State) : Prop := args = #[.ref x] ∧ Txt x t V cd n f s ∧ StaticIs s "java/lang/String" "COMPACT_STRINGS" "Z" (.int z) ∧ ¬ z = 0
def E (n : Nat) (r : Option Value) (s u : State) : Prop := XT.PureE (some (.int (Int32.ofNat n))) r s u
theorem law (l : Launch) (x t : Addr) (V : Cell) (cd : Int32) (n : Nat) (f : Nat → Int32) (z : Int32) : Law l yN 1 0 1 13 yB 1 (some .int) site (P x t V cd n f z) (E n) [] 0 0 := by
  refine Law.of_walk (plainFor_of_name (by decide +kernel)) (by decide +kernel) (by decide +kernel) (by decide) (fun _ _ h => by rw [h.1]; rfl) (fun _ U U' hal hh h => ⟨h.1, h.2.1.mv hal hh, h.2.2.1.there hal hh, h.2.2.2⟩) (fun r U U' V V' h1 hal h2 h => XT.PureE.mv r U U' V V' h1 hal h2 h) ?_
  intro p e s m args below meth c s₁ X0 hexec hbytes hml hret hlk hnm hown hh0 W hP
  obtain ⟨rfl, hx, s1, hz⟩ := hP
  have v31 := hx.2.2.2.1.2.2.2
  have c1 : Steps p.tables e below (s₁.setTop (entryFrame m #[.ref x] 1)) (s₁.setTop (mkF m 1 #[.val (.ref x)] [.ref x])) := Steps.trans (entry rfl) (by
    show Steps p.tables e below (s₁.setTop (mkF m 0 #[.val (.ref x)] [])) _
    refine XS.aloadN X0.here hexec rfl (hb hbytes d0) rfl rfl ?_
    exact Steps.refl _)
  obtain ⟨T2, X2, q2, st2⟩ := X0.hget hexec hown (wk W (.fieldLink "java/lang/String" 9 "java/lang/String" "value" "[B")) (hx.mv X0.warmed.alike hh0).2.1 (g := (mkF m 1 #[.val (.ref x)] [.ref x])) rfl (rest := []) rfl (hb hbytes d1)
  have hh2 := q2.trans hh0
  have hx2 := hx.mv X2.warmed.alike hh2
  have c3 : Steps p.tables e below (s₁.setTop (entryFrame m #[.ref x] 1)) (T2.setTop (mkF m 6 #[.val (.ref x)] [.ref x, .int (Int32.ofNat V.slots.size)])) := (c1.trans (st2 _ (Steps.refl _))).trans (by
    refine X2.alen hexec hx2.2.2.2.1 rfl rfl (hb hbytes d4) ?_
    refine XS.aloadN X2.here hexec rfl (hb hbytes d5) rfl rfl ?_
    exact Steps.refl _)
  obtain ⟨v4, T4, X4, E4, g4⟩ := X2.callV hexec (Cdr.law l x cd z) hown (wks W (virtW "java/lang/String" 335 "java/lang/String" Cdr.yN Cdr.yN)) rfl (by decide) (wk W Cdr.tab) (W := 1) (Nat.le_of_ble_eq_true rfl) (Nat.le_of_ble_eq_true rfl) (Nat.le_refl _) (Nat.le_refl _) (hx2.1.fc X2.warmed.alike) hx2.1.is (g := (mkF m 6 #[.val (.ref x)] [.ref x, .int (Int32.ofNat V.slots.size)])) rfl (by rw [hml]; rfl) c3 (argsL := []) (rest := [.int (Int32.ofNat V.slots.size)]) rfl rfl (by show 2 * 0 + (1 + 0) ≤ _; decide) (hb hbytes d6) (⟨rfl, hx2.2.2.1, hx.2.2.2.2.1.cd, s1.there X2.warmed.alike hh2, hz⟩)
  obtain ⟨rfl, q4⟩ := E4
  have c5 : Steps p.tables e below (s₁.setTop (entryFrame m #[.ref x] 1)) (T4.setTop (mkF m 10 #[.val (.ref x)] [.int (Int32.ofNat V.slots.size >>> (cd &&& 31))])) := Steps.trans g4 (by
    refine ishr X4.here hexec rfl (hb hbytes d9) rfl ?_
    exact Steps.refl _)
  rw [hx.2.2.2.2.1.len v31] at c5
  exact ⟨T4, some (.int (Int32.ofNat n)), _, _, _, X4, rfl, rfl, rfl, (fun h => by cases h), ⟨rfl, q4.trans hh2⟩, fun fs hl => c5.trans (X4.ireturnOut hexec hret rfl (Or.inl rfl) (hb hbytes d10) hl)⟩
theorem pays {l : Launch} {R : Room} {p : Program} {e : Env} {below : List Frame} {s : State} {sargs : Array Value} {len W : Nat} (x t : Addr) (V : Cell) (cd : Int32) (n : Nat) (f : Nat → Int32) (z : Int32) (htab : tab.before sargs s = true) (hfr : 2 ≤ R.frames) (hlo : W + 25 ≤ R.locals) :
    Back l R p e below s sargs yN len W (fun A₁ a₁ => A₁.cells + 0 ≤ R.cells ∧ A₁.slots + 0 ≤ R.slots ∧ P x t V cd n f z a₁ A₁.U) (fun A₁ _ v₁ B₁ => E n v₁ A₁.U B₁.U ∧ B₁.locs = A₁.locs ++ [] ∧ B₁.cells = A₁.cells + 0 ∧ B₁.slots = A₁.slots + 0) :=
  (law l x t V cd n f z).pays htab hfr (by omega)
end Len
end StrChars
namespace StrChars.Road
open Jvm Sem ClassFile Op Lib Jvm.Stand Jvm.Free Jvm.Free.XT
open Jvm.Lib.Cold (StaticIs)
theorem consq {a : Array Value} {s : State} {c : Jvm.Cond} {L : List Jvm.Cond} (h0 : c.before a s = true) (h : ∀ w ∈ L, w.before a s = true) : ∀ w ∈ c :: L, w.before a s = true := fun w hw => (List.mem_cons.mp hw).elim (fun e => e ▸ h0) (h w)
abbrev wordsLen : List Jvm.Cond := [.code Len.yN Len.yB 1 (some .int), .initialized ST, .fieldLink ST 9 ST "value" "[B", .fieldLink ST 38 ST "COMPACT_STRINGS" "Z", .fieldLink ST 15 ST "coder" "B", .code Cdr.yN Cdr.yB 1 (some .byte), .methodLink ST 335 Cdr.yN, .declares Cdr.yN, .selects ST Cdr.yN Cdr.yN, .instanceMethod Cdr.yN]
theorem tabLen_of {a : Array Value} {s : State} (h : ∀ w ∈ wordsLen, w.before a s = true) : Len.tab.before a s = true := by
  have hc : Cdr.tab.before a s = true := unparts (wk h (.code Cdr.yN Cdr.yB 1 (some .byte))) (wks h (.initialized Cdr.yN.cls :: Cdr.site))
  have q := consq hc h
  exact unparts (wk q (.code Len.yN Len.yB 1 (some .int))) (wks q (.initialized Len.yN.cls :: Len.site))
theorem movedLen {Z s : State} {a0 args : Array Value} (hZ : Z.Warmed39 s.vm) (hw : ∀ d ∈ wordsLen, d.before a0 Z = true) : ∀ d ∈ wordsLen, d.before args s = true := fun d hd => by
  have q := hw d hd
  have t : ∀ d ∈ wordsLen, d = .arrayClass .byte ∨ (d.onTables && d.keepsFace) = true := by decide +kernel
  rcases t d hd with rfl | t
  · exact RoadKit.mvA hZ q
  · exact RoadKit.mv hZ q t
def wideBytes : List Int32 → List Value
  | [] => []
  | c :: cs => .int (lo8 c) :: .int (hi8 c) :: wideBytes cs
theorem wide_lo (d : Value) : ∀ (cs : List Int32) (j : Nat), j < cs.length → (wideBytes cs).getD (2 * j) d = .int (lo8 (cs.getD j 0))
  | [], j, h => absurd h (Nat.not_lt_zero j)
  | c :: cs, 0, _ => rfl
  | c :: cs, j + 1, h => by
    have q := wide_lo d cs j (by simpa using h)
    rw [show 2 * (j + 1) = 2 * j + 1 + 1 from by omega]
    simpa [wideBytes] using q
theorem wide_hi (d : Value) : ∀ (cs : List Int32) (j : Nat), j < cs.length → (wideBytes cs).getD (2 * j + 1) d = .int (hi8 (cs.getD j 0))
  | [], j, h => absurd h (Nat.not_lt_zero j)
  | c :: cs, 0, _ => rfl
  | c :: cs, j + 1, h => by
    have q := wide_hi d cs j (by simpa using h)
    rw [show 2 * (j + 1) + 1 = 2 * j + 1 + 1 + 1 from by omega]
    simpa [wideBytes] using q
theorem low_at (d : Value) (cs : List Int32) (j : Nat) (h : j < cs.length) : (cs.map fun c => Value.int (lo8 c)).getD j d = .int (lo8 (cs.getD j 0)) := by
  simp [List.getD_eq_getElem?_getD, h]
def CodA (cs : List Int32) (cd N2 : Int32) (vs : List Value) : Prop := (cd = 0 ∧ N2 = Int32.ofNat cs.length ∧ vs = (cs.map fun c => Value.int (lo8 c)) ∧ ∀ c ∈ cs, ¬ 255 < c) ∨ (cd = 1 ∧ N2 = Int32.ofNat (2 * cs.length) ∧ vs = wideBytes cs ∧ ∃ c ∈ cs, 255 < c)
theorem CodA.cod {cs : List Int32} {cd N2 : Int32} {vs : List Value} {V : Cell} (h : CodA cs cd N2 vs) (hn : 2 * cs.length < 2 ^ 31) (hs : V.slots.size = N2.toNatClampNeg) (hv : RoadKit.Has V vs (.int 0)) : Cod cd cs.length (fun j => cs.getD j 0) V := by
  rcases h with ⟨rfl, rfl, rfl, h⟩ | ⟨rfl, rfl, rfl, c, hc, hw⟩
  · rw [n32 (by omega)] at hs
    exact Or.inl ⟨rfl, hs, fun j hj => ⟨by rw [hv j (by omega), low_at _ _ _ hj], by
      have e : cs.getD j 0 = cs[j] := by simp [List.getD_eq_getElem?_getD, hj]
      show ¬ 255 < cs.getD j 0
      rw [e]; exact h _ (List.getElem_mem _)⟩⟩
  · rw [n32 (by omega)] at hs
    obtain ⟨j, hj, rfl⟩ := List.getElem_of_mem hc
    exact Or.inr ⟨rfl, hs, fun j hj => ⟨by rw [hv _ (by omega), wide_lo _ _ _ hj], by rw [hv _ (by omega), wide_hi _ _ _ hj]⟩, j, hj, by
      have e : cs.getD j 0 = cs[j] := by simp [List.getD_eq_getElem?_getD, hj]
      show 255 < cs.getD j 0
      rw [e]; exact hw⟩
theorem strObj {Z U : State} {a0 : Array Value} {kI : Nat} (wi : (Jvm.Cond.instantiable ST kI).before a0 Z = true) (al : Z.vm.Alike U.vm) {x : Addr} {v0 c0 : Value} (E : RoadKit.Exa Z U.heap x ST) (V : RoadKit.Fld Z U.heap x ST "value" "[B" v0) (C : RoadKit.Fld Z U.heap x ST "coder" "B" c0) :
    ∃ (D : Cell) (fV fC : Field), Blank ST x D U ∧ Found ST "value" "[B" fV U ∧ Found ST "coder" "B" fC U ∧ D.slots[fV.slot]? = some v0 ∧ D.slots[fC.slot]? = some c0 ∧ RoadKit.slotOf Z ST "value" "[B" = fV.slot ∧ RoadKit.slotOf Z ST "coder" "B" = fC.slot := by
  obtain ⟨D, cfV, kV, iV, fV, hD, gV, stV, knV, obV, asV, slV⟩ := V
  obtain ⟨D', cfC, kC, iC, fC, hD', gC, stC, -, -, asC, slC⟩ := C
  cases hD.symm.trans hD'
  obtain ⟨D2, kD, e1, e2, e3, e4, e5⟩ := E
  cases hD.symm.trans e1
  obtain ⟨c2, k2, i1, i2, i3, -⟩ := Cond.instantiable_spec wi
  cases e2.symm.trans i1
  cases e3.symm.trans i2
  obtain ⟨kU, u1, u2⟩ := al.2.2 _ _ e3
  exact ⟨D, fV, fC, ⟨hD, ⟨knV, fun q hq => by rw [hq] at obV; cases obV⟩, by rw [al.findClass]; exact e2, kU, u1, by rw [u2]; exact i3, by rw [u2]; exact e5 i3⟩, ⟨SBG.found_only al ⟨cfV, kV, iV, gV⟩, stV⟩, ⟨SBG.found_only al ⟨cfC, kC, iC, gC⟩, stC⟩, slV, slC, by simp [RoadKit.slotOf, gV], by simp [RoadKit.slotOf, gC]⟩
theorem sta_is {Z U : State} (al : Z.vm.Alike U.vm) {C n d : String} {v : Value} (S : RoadKit.Sta Z U.heap C n d v) : StaticIs U C n d v := by
  obtain ⟨cfS, iS, kS, fS, st, cS, t1, t2, t3, t4, t5, t6, t7⟩ := S
  exact StaticIs.there (s := { Z with heap := U.heap }) ⟨cfS, iS, kS, fS, st, cS, t1, t2, t3, t4, t5, (fun q => by rw [q] at t6; cases t6), t7⟩ al rfl
theorem lenW {p : Program} {l : Launch} {e : Env} {R : Room} {s : State} {args : Array Value} {below : List Frame} {len W : Nat} {Z : State} {a0 : Array Value} {h : Heap} (hZ : Z.Warmed39 s.vm) (hw : ∀ d ∈ wordsLen, d.before a0 Z = true) {kI : Nat} (wi : (Jvm.Cond.instantiable ST kI).before a0 Z = true)
    {x t : Addr} {kb : ClassId} {cs : List Int32} {cd N2 z : Int32} {vs : List Value} (E : RoadKit.Exa Z h x ST) (V : RoadKit.Fld Z h x ST "value" "[B" (.ref t)) (C : RoadKit.Fld Z h x ST "coder" "B" (.int cd)) (K : RoadKit.Arv Z h t kb .byte N2 vs (.int 0)) (hc : CodA cs cd N2 vs) (hb : ∀ c ∈ cs, ¬ c < 0 ∧ ¬ (65535 : Int32) < c)
    (S : RoadKit.Sta Z h ST "COMPACT_STRINGS" "Z" (.int z)) (hz : ¬ z = 0) (l2 : cs.length ≤ 4000) (hfr : 2 ≤ R.frames) (hlo : W + 25 ≤ R.locals) :
    Back l R p e below s args (⟨"java/lang/String", "length", "()I"⟩ : MethodName) len W (fun P a => a = #[.ref x] ∧ P.U.heap = h ∧ P.cells + 0 ≤ R.cells ∧ P.slots + 0 ≤ R.slots)
      (fun P _ v B => ∃ L, (v = some (.int (Int32.ofNat cs.length)) ∧ L = [] ∧ B.U.heap = h) ∧ B.locs = P.locs ++ L ∧ B.cells = P.cells + 0 ∧ B.slots = P.slots + 0) := by
  obtain ⟨A, K1, K2, K3, K4, K5, K6⟩ := K
  have hcod := hc.cod (by omega) K3 K5
  intro m meth c P g ig mk a X hg hsize hdg hW hn hp'
  obtain ⟨rfl, rfl, r1, r2⟩ := hp'
  have al : Z.vm.Alike P.U.vm := hZ.alike.trans X.warmed.alike
  obtain ⟨D, fV, fC, hB, F1, F2, g1, g2, -, -⟩ := strObj wi al E V C
  have hx : Txt x t A cd cs.length (fun j => cs.getD j 0) P.U := ⟨⟨_, hB.2.2.1, D, hB.1, rfl, by cases q : D.vm <;> first | rfl | exact absurd q (hB.2.1.2 _)⟩, Has.of hB F1 g1, Has.of hB F2 g2, ⟨K1.1, State.isArrayOf_alike al K1.2.1, K1.2.2, by rcases hcod with ⟨-, q, -⟩ | ⟨-, q, -⟩ <;> omega⟩, hcod, fun j hj => by
    have e : cs.getD j 0 = cs[j] := by simp [List.getD_eq_getElem?_getD, hj]
    show ¬ cs.getD j 0 < 0 ∧ ¬ 65535 < cs.getD j 0
    rw [e]; exact hb _ (List.getElem_mem _)⟩
  obtain ⟨v, B, X', ⟨⟨hv, hh⟩, hl, hk, hs⟩, st⟩ := Len.pays x t A cd cs.length (fun j => cs.getD j 0) z (tabLen_of (movedLen hZ hw)) hfr hlo m meth c P g ig mk _ X hg hsize hdg hW hn ⟨r1, r2, rfl, hx, sta_is al S, hz⟩
  exact ⟨v, B, X', ⟨[], ⟨hv, rfl, hh⟩, hl, hk, hs⟩, st⟩
end StrChars.Road
namespace StrChars.Road
open Jvm Sem ClassFile Op Lib Jvm.Stand Jvm.Free Jvm.Free.XT
open Jvm.Lib.Cold (StaticIs)
theorem codOf {cs : List Int32} {n : Nat} (hn : cs.length = n) (hb : ∀ c ∈ cs, ¬ 255 < c) : CodA cs 0 (Int32.ofNat n) ((cs.map lo8).map Value.int) := Or.inl ⟨rfl, by rw [hn], by simp [List.map_map, Function.comp_def], hb⟩
end StrChars.Road
end Jvm.Pilot.@@N@@

namespace Jvm.RoadKit
open Sem ClassFile Op Lib Bundle Jvm.Stand Jvm.Free Jvm.LawKit Jvm.Free.SB Jvm.Free.SBG
theorem own_safeN {Z : State} {EL : List (String × Nat)} {vm : Vm} {h : Heap} {x : Addr} (hal : Z.vm.Alike vm) (E : Exa Z h x "java/lang/String") (N : Fld Z h x "java/lang/String" "value" "[B" .null) : Safe Z EL vm h x := fun B => by
  obtain ⟨p, -, u, a, -, q, -, F, hy⟩ := B
  rcases hy with hy | hy
  · obtain ⟨cS, ⟨⟨s1, s2, s3, ⟨cv, kv, iv, s4, s4'⟩, ⟨cc, kc, ic, s5, s5'⟩, s6, s7, s8, s9, s10, s11, s12, s13, s14, s15, s16⟩, hfS, hcS⟩, ⟨kS, k1, k2, k3⟩, hB, hbyt⟩ := F
    obtain ⟨kv', z4⟩ := ff_back (U := Wst Z vm h) hal s4
    have V : Fld Z h q.sa "java/lang/String" "value" "[B" (.ref q.sd) := ⟨q.sC, cv, kv', iv, q.fSV, s1, z4, s6, s2, s3, by rw [← hal.assignable]; exact s4', s8⟩
    exact Fld.ne N V nofun hy
  · subst hy
    obtain ⟨cell, k, e1, e2, e3, -, -⟩ := E
    cases (show h[q.sd]? = some q.SA from F.hd).symm.trans e1
    obtain ⟨cS, -, -, f, -⟩ := F
    have f : vm.findClass "[B" = some q.SA.cls := f
    rw [hal.findClass] at f
    obtain ⟨k1, q1, q2⟩ := Vm.findClass_spec f
    obtain ⟨k2, q3, q4⟩ := Vm.findClass_spec e2
    cases q1.symm.trans q3
    exact absurd (q2.symm.trans q4) (by decide)
end Jvm.RoadKit

namespace Jvm.Pilot.@@N@@
open Jvm Jvm.ClassFile Sem Op Lib Jvm.Free Jvm.Stand Jvm.LawKit Jvm.RoadKit Bundle Jvm.Pilot.@@N@@.Jvm.D
abbrev own_S (p : Program) (e : Env) (below : List Frame) (T : State) (f : JFrame) (t : State) : Prop := Steps p.tables e below (T.setTop f) t
abbrev own_r (a b c d : Nat) : Room := { frames := a, cells := b, slots := c, locals := d }
theorem own_w {Z : State} {a0 : Array Value} (hw : ∀ d ∈ tables_1, d.before a0 Z = true) (i : Nat) {d : Jvm.Cond} (h : tables_1[i]? = some d) : d.before a0 Z = true := hw d (List.mem_of_getElem? h)
theorem own_gl {p : Program} {e : Env} {below : List Frame} {s₁ : State} {f g : JFrame} (h : f = g) : ∃ Gl : State → Prop, (∀ t, Gl t → Steps p.tables e below (s₁.setTop f) t) ∧ ∀ t, own_S p e below s₁ g t → Gl t := ⟨fun t => Steps p.tables e below (s₁.setTop f) t, fun _ k => k, fun t k => castTop h k⟩

theorem own_eqi {args : Array Value} {first s : State} {o : Option Outcome} {idx : List Nat} {t : Term} {k : Int32} (h : (Jvm.Cond.eq t (Term.int k)).value args first o s idx = some true) : t.eval args first o idx s = some (.int k) := by
  simp only [Jvm.Cond.value, Term.eval] at h
  cases ht : t.eval args first o idx s with
  | none => simp [ht] at h
  | some x => cases x <;> simp [ht] at h; rw [h]
theorem own_eql {args : Array Value} {first s : State} {o : Option Outcome} {idx : List Nat} {t : Term} {k : Int64} (h : (Jvm.Cond.eq t (Term.long k)).value args first o s idx = some true) : t.eval args first o idx s = some (.long k) := by
  simp only [Jvm.Cond.value, Term.eval] at h
  cases ht : t.eval args first o idx s with
  | none => simp [ht] at h
  | some x => cases x <;> simp [ht] at h; rw [h]

theorem own_up (cs : List Int32) (h : ∀ c ∈ cs, ¬ c < 0 ∧ ¬ (255 : Int32) < c) : ∀ c ∈ cs, ¬ c < 0 ∧ ¬ (65535 : Int32) < c := fun c hc => ⟨(h c hc).1, fun q => (h c hc).2 (by rw [Int32.lt_iff_toInt_lt] at q ⊢; have e1 : (65535 : Int32).toInt = 65535 := rfl; have e2 : (255 : Int32).toInt = 255 := rfl; omega)⟩

theorem own_ref {s : State} {args a' : Array Value} {own text : String} {index : Nat} {a : Addr} (w : (Jvm.Cond.stringLink own index text).before args s = true) (L : Lit s own index a) : (Jvm.Cond.stringRef own index text).before a' s = true := by
  simp only [Jvm.Cond.before, Jvm.Cond.holds, Jvm.Cond.value] at w ⊢
  cases hc : s.vm.findClass own with
  | none => simp [hc] at w
  | some c =>
    simp only [hc, Option.map_some, beq_iff_eq, Option.some.injEq, Bool.and_eq_true] at w ⊢
    have L' : s.resolvedAt? own index = some (.string a) := L
    exact ⟨w.1, by rw [L']⟩
section
variable {p : Program} {l : Launch} {e : Env} {R : Room} {s : State} {args : Array Value} {below : List Frame} {Z : State} {a0 : Array Value} {h : Heap}
theorem own_backI {y : MethodName} {bytes : ByteArray} {maxL : Nat} {ret : Option FieldType} {rm : Room} {len W : Nat} {as' : Array Value} {Ts : List String} {Q : Option Value → Heap → List Loc → Prop}
    (hM : MetFree l y (head1 [Jvm.Cond.code y bytes maxL ret] rm) (fun a U => a = as' ∧ Z.Warmed39 U.vm ∧ U.heap = h ∧ IB Z U.vm Ts) (fun _ _ _ _ _ => True) (fun _ U o U' => ∃ v L, o = .returned v ∧ Q v U'.heap L ∧ ReturnedEndW U o U' L rm.cells rm.slots))
    (hZ : Z.Warmed39 s.vm) (wc : (Jvm.Cond.code y bytes maxL ret).before a0 Z = true) (wz : (Jvm.Cond.initialized y.cls).before a0 Z = true) (hf : rm.frames + 1 ≤ R.frames) (hl : W + (maxL + 11) + rm.locals ≤ R.locals) (I : IB Z s.vm Ts) :
    BackS l R p e below s args y len W (fun A a => a = as' ∧ A.U.heap = h ∧ A.cells + rm.cells ≤ R.cells ∧ A.slots + rm.slots ≤ R.slots)
      (fun A _ v B => ∃ L, Q v B.U.heap L ∧ B.locs = A.locs ++ L ∧ B.cells = A.cells + rm.cells ∧ B.slots = A.slots + rm.slots) :=
  BackS.of_freeW (bytes := bytes) (maxL := maxL) (ret := ret) (E := fun _ _ o t L k n => k = rm.cells ∧ n = rm.slots ∧ ∃ v, o = .returned v ∧ Q v t.heap L) hM hf hl
    (fun m meth c A a Y hp => have hU : Z.Warmed39 A.U.vm := wtrans hZ Y.warmed
      ⟨by show (Jvm.Cond.and _ .tt).before a A.U = true; rw [Cond.before_and, mv hU wc]; rfl, mv hU wc, mv hU wz, hp.2.2.1, hp.2.2.2⟩)
    (fun m meth c A a g mk Y hp => ⟨hp.1, wtrans hZ Y.warmed, hp.2.1, by obtain ⟨more, e1, e2⟩ := I; exact ⟨more, Y.warmed.interned_eq.trans e1, e2⟩⟩) (fun _ _ _ _ _ _ _ _ _ => trivial)
    (fun _ _ _ _ ⟨v, L, h1, h2, h3⟩ => ⟨L, _, _, h3, rfl, rfl, v, h1, h2⟩)
    (fun m meth c A a g mk v t L k n Y hp _ _ ⟨e1, e2, v', e3, e4⟩ => by cases e3; subst e1 e2; exact ⟨L, e4, rfl, rfl, rfl⟩)
end

theorem own_len {s : State} {args : Array Value} {t : Term} {a : Addr} {cl : Cell} {ty : FieldType} {n : Int32} (A : Arr s s.heap a cl ty) (ev : t.eval args s none [] s = some (.ref a)) (hl : (Term.length t).eval args s none [] s = some (.int n)) : cl.slots.size < 2 ^ 31 ∧ cl.slots.size.toInt32 = n := by
  have ha := A.fin (U := s) (Vm.Alike.refl _)
  by_cases q : cl.slots.size < 2 ^ 31
  · have e := (len_f ev ha q).symm.trans hl
    exact ⟨q, by simpa using e⟩
  · simp [Term.eval, ev, ha, q] at hl
theorem own_eqr {args : Array Value} {first s : State} {o : Option Outcome} {idx : List Nat} {t u : Term} {g : Addr} (h : (Jvm.Cond.eq t u).value args first o s idx = some true) (hu : u.eval args first o idx s = some (.ref g)) : t.eval args first o idx s = some (.ref g) := by
  obtain ⟨x, y, hx, hy, k1, k2⟩ := cmp_v (Or.inl h)
  cases hu.symm.trans hy
  have hr : x.isRef = true := k2.2
  have e := gotT (eq_R hx hu hr rfl) h
  rw [hx, e]

theorem own_wS {Z : State} {a0 : Array Value} (hw : ∀ d ∈ tables_1, d.before a0 Z = true) : ∀ a ∈ Bundle.stringAtoms, a.before a0 Z = true := fun d hd => hw d ((by decide +kernel : ∀ d ∈ Bundle.stringAtoms, d ∈ tables_1) d hd)
theorem own_EW {Z : State} {a0 : Array Value} (hw : ∀ d ∈ tables_1, d.before a0 Z = true) : EW Z a0 consts_1 := (EW.cons (own_w hw 19 rfl) (by decide) EW.nil)

def own_sgn (v : Int32) : Int32 := if (0 : Int32) < v then 1 else if v < (0 : Int32) then (-1) else 0
def own_lift (c : Int32) : Int32 := if c < (55296 : Int32) then c else if (57343 : Int32) < c then c else c + (65536 : Int32)
def own_rank (c : Int32) : Int32 := if c < (57344 : Int32) then (if c < (55296 : Int32) then c else c + (8192 : Int32)) else c - (2048 : Int32)
def own_step (i lx ly rest x y : Int32) : Int32 := if i < lx then (if i < ly then (if x = y then rest else own_sgn (own_lift x - own_lift y)) else own_sgn (lx - ly)) else own_sgn (lx - ly)
def own_take (n c0 c1 c2 : Int32) : List Int32 := if n = (0 : Int32) then [] else if n = (1 : Int32) then [c0] else if n = (2 : Int32) then [c0, c1] else [c0, c1, c2]
def own_cmp (cs ds : List Int32) : Nat → Nat → Int32
  | _, 0 => Int32.ofNat cs.length - Int32.ofNat ds.length
  | i, f + 1 => if i < cs.length ∧ i < ds.length then (if cs.getD i 0 = ds.getD i 0 then own_cmp cs ds (i + 1) f else own_rank (cs.getD i 0) - own_rank (ds.getD i 0)) else Int32.ofNat cs.length - Int32.ofNat ds.length
def own_rg (c : Int32) : Prop := ¬ c < 0 ∧ ¬ (65535 : Int32) < c
theorem own_rgi {c : Int32} (h : own_rg c) : 0 ≤ c.toInt ∧ c.toInt ≤ 65535 := by
  have e0 : (0 : Int32).toInt = 0 := by decide
  have e : (65535 : Int32).toInt = 65535 := by decide
  have h1 := h.1
  have h2 := h.2
  rw [Int32.lt_iff_toInt_lt, e0] at h1
  rw [Int32.lt_iff_toInt_lt, e] at h2
  omega
theorem own_sg1 {a b : Int32} (h1 : (0 : Int32).toInt < a.toInt) (h2 : (0 : Int32).toInt < b.toInt) : own_sgn a = own_sgn b := by
  unfold own_sgn
  rw [if_pos (Int32.lt_iff_toInt_lt.mpr h1), if_pos (Int32.lt_iff_toInt_lt.mpr h2)]
theorem own_sg2 {a b : Int32} (h1 : a.toInt < (0 : Int32).toInt) (h2 : b.toInt < (0 : Int32).toInt) : own_sgn a = own_sgn b := by
  have n1 : ¬ (0 : Int32) < a := by rw [Int32.lt_iff_toInt_lt]; omega
  have n2 : ¬ (0 : Int32) < b := by rw [Int32.lt_iff_toInt_lt]; omega
  unfold own_sgn
  rw [if_neg n1, if_neg n2, if_pos (Int32.lt_iff_toInt_lt.mpr h1), if_pos (Int32.lt_iff_toInt_lt.mpr h2)]
theorem own_rki {c : Int32} (h : own_rg c) : (c.toInt < 55296 ∧ (own_rank c).toInt = c.toInt ∧ (own_lift c).toInt = c.toInt) ∨ (55296 ≤ c.toInt ∧ c.toInt < 57344 ∧ (own_rank c).toInt = c.toInt + 8192 ∧ (own_lift c).toInt = c.toInt + 65536) ∨ (57344 ≤ c.toInt ∧ c.toInt ≤ 65535 ∧ (own_rank c).toInt = c.toInt - 2048 ∧ (own_lift c).toInt = c.toInt) := by
  have r := own_rgi h
  have e1 : (55296 : Int32).toInt = 55296 := by decide
  have e2 : (57343 : Int32).toInt = 57343 := by decide
  have e3 : (57344 : Int32).toInt = 57344 := by decide
  have e4 : (65536 : Int32).toInt = 65536 := by decide
  have e5 : (8192 : Int32).toInt = 8192 := by decide
  have e6 : (2048 : Int32).toInt = 2048 := by decide
  have h1 := c_iadd c (65536 : Int32)
  have h2 := c_iadd c (8192 : Int32)
  have h3 := c_isub c (2048 : Int32)
  have q1 := rng32 (c + (65536 : Int32))
  have q2 := rng32 (c + (8192 : Int32))
  have q3 := rng32 (c - (2048 : Int32))
  rw [e4] at h1
  rw [e5] at h2
  rw [e6] at h3
  unfold own_rank own_lift
  simp only [Int32.lt_iff_toInt_lt, e1, e2, e3]
  by_cases k1 : c.toInt < 55296
  · rw [if_pos (by omega), if_pos k1, if_pos k1]; omega
  · by_cases k2 : c.toInt < 57344
    · rw [if_pos k2, if_neg k1, if_neg k1, if_neg (by omega)]; omega
    · rw [if_neg k2, if_neg k1, if_pos (by omega)]; omega
theorem own_rl {c d : Int32} (hc : own_rg c) (hd : own_rg d) (hne : ¬ c = d) : own_sgn (own_rank c - own_rank d) = own_sgn (own_lift c - own_lift d) := by
  have k1 := own_rki hc
  have k2 := own_rki hd
  have r1 := own_rgi hc
  have r2 := own_rgi hd
  have h1 := c_isub (own_rank c) (own_rank d)
  have h2 := c_isub (own_lift c) (own_lift d)
  have q1 := rng32 (own_rank c - own_rank d)
  have q2 := rng32 (own_lift c - own_lift d)
  have e0 : (0 : Int32).toInt = 0 := by decide
  have hn : ¬ c.toInt = d.toInt := fun q => hne (Int32.toInt_inj.mp q)
  by_cases k : (0 : Int32).toInt < (own_rank c - own_rank d).toInt
  · exact own_sg1 k (by omega)
  · exact own_sg2 (by omega) (by omega)
theorem own_t0 (a b c : Int32) : own_take 0 a b c = [] := if_pos rfl
theorem own_t1 (a b c : Int32) : own_take 1 a b c = [a] := by unfold own_take; rw [if_neg (by decide), if_pos rfl]
theorem own_t2 (a b c : Int32) : own_take 2 a b c = [a, b] := by unfold own_take; rw [if_neg (by decide), if_neg (by decide), if_pos rfl]
theorem own_t3 (a b c : Int32) : own_take 3 a b c = [a, b, c] := by unfold own_take; rw [if_neg (by decide), if_neg (by decide), if_neg (by decide)]
theorem own_tkl (n a b c : Int32) : (own_take n a b c).length ≤ 3 := by
  unfold own_take
  split
  · simp
  · split
    · simp
    · split <;> simp
theorem own_tkr {n a b c : Int32} (ha : own_rg a) (hb : own_rg b) (hc : own_rg c) : ∀ x ∈ own_take n a b c, own_rg x := by
  intro x hx
  unfold own_take at hx
  split at hx
  · simp at hx
  · split at hx
    · simp at hx; subst hx; exact ha
    · split at hx
      · simp at hx; rcases hx with rfl | rfl <;> assumption
      · simp at hx; rcases hx with rfl | rfl | rfl <;> assumption
theorem own_main {la lb a0 a1 a2 b0 b1 b2 : Int32} (hla : la = (0 : Int32) ∨ la = (1 : Int32) ∨ la = (2 : Int32) ∨ la = (3 : Int32)) (hlb : lb = (0 : Int32) ∨ lb = (1 : Int32) ∨ lb = (2 : Int32) ∨ lb = (3 : Int32)) (ra0 : own_rg a0) (ra1 : own_rg a1) (ra2 : own_rg a2) (rb0 : own_rg b0) (rb1 : own_rg b1) (rb2 : own_rg b2) :
    own_sgn (own_cmp (own_take la a0 a1 a2) (own_take lb b0 b1 b2) 0 3) = own_step 0 la lb (own_step 1 la lb (own_step 2 la lb (own_sgn (la - lb)) a2 b2) a1 b1) a0 b0 := by
  have k0 := own_rl ra0 rb0
  have k1 := own_rl ra1 rb1
  have k2 := own_rl ra2 rb2
  have l01 : (0 : Int32) < 1 := by decide
  have l02 : (0 : Int32) < 2 := by decide
  have l03 : (0 : Int32) < 3 := by decide
  have l12 : (1 : Int32) < 2 := by decide
  have l13 : (1 : Int32) < 3 := by decide
  have l23 : (2 : Int32) < 3 := by decide
  have n0 : ¬ (0 : Int32) < 0 := by decide
  have n1 : ¬ (1 : Int32) < 0 := by decide
  have n11 : ¬ (1 : Int32) < 1 := by decide
  have n2 : ¬ (2 : Int32) < 0 := by decide
  have n21 : ¬ (2 : Int32) < 1 := by decide
  have n22 : ¬ (2 : Int32) < 2 := by decide
  have z0 : Int32.ofNat 0 = (0 : Int32) := rfl
  have z1 : Int32.ofNat 1 = (1 : Int32) := rfl
  have z2 : Int32.ofNat 2 = (2 : Int32) := rfl
  have z3 : Int32.ofNat 3 = (3 : Int32) := rfl
  by_cases e0 : a0 = b0 <;> by_cases e1 : a1 = b1 <;> by_cases e2 : a2 = b2 <;> rcases hla with rfl | rfl | rfl | rfl <;> rcases hlb with rfl | rfl | rfl | rfl <;> simp [own_cmp, own_step, own_t0, own_t1, own_t2, own_t3, e0, e1, e2, k0, k1, k2, l01, l02, l03, l12, l13, l23, n0, n1, n11, n2, n21, n22, z0, z1, z2, z3] <;> (first | rfl | (exact k0 e0) | (exact k1 e1) | (exact k2 e2))
abbrev own_c (p : Int32) : Int32 := (p.toUInt32.toUInt16.toUInt32.toInt32)
theorem own_rgt {c : Int32} (h0 : 0 ≤ c.toInt) (h1 : c.toInt ≤ 65535) : own_rg c := by
  have e0 : (0 : Int32).toInt = 0 := by decide
  have e : (65535 : Int32).toInt = 65535 := by decide
  exact ⟨by rw [Int32.lt_iff_toInt_lt, e0]; omega, by rw [Int32.lt_iff_toInt_lt, e]; omega⟩
theorem own_rgc (x : Int32) : own_rg (own_c x) := by
  have h := c_i2c x
  exact own_rgt h.2.1 (Int.le_of_lt_add_one h.2.2)
theorem own_ck {c : Int32} (h : own_rg c) : own_c c = c := by
  have h1 := c_i2c c
  have h2 := own_rgi h
  apply Int32.toInt_inj.mp
  show c.toUInt32.toUInt16.toUInt32.toInt32.toInt = c.toInt
  omega
theorem own_w1 {a : Int32} (h : ¬ ∀ c ∈ ([a] : List Int32), ¬ (255 : Int32) < c) : (255 : Int32) < a := by
  simpa using h
theorem own_w2 {a b : Int32} (h : ¬ ∀ c ∈ ([a, b] : List Int32), ¬ (255 : Int32) < c) : (255 : Int32) < a ∨ (¬ (255 : Int32) < a ∧ (255 : Int32) < b) := by
  by_cases q : (255 : Int32) < a
  · exact Or.inl q
  · refine Or.inr ⟨q, ?_⟩
    by_cases q2 : (255 : Int32) < b
    · exact q2
    · exact absurd (fun c hc => by simp only [List.mem_cons, List.not_mem_nil, or_false] at hc; rcases hc with rfl | rfl <;> assumption) h
theorem own_w3 {a b d : Int32} (h : ¬ ∀ c ∈ ([a, b, d] : List Int32), ¬ (255 : Int32) < c) : (255 : Int32) < a ∨ (¬ (255 : Int32) < a ∧ (255 : Int32) < b) ∨ (¬ (255 : Int32) < a ∧ ¬ (255 : Int32) < b ∧ (255 : Int32) < d) := by
  by_cases q : (255 : Int32) < a
  · exact Or.inl q
  · by_cases q2 : (255 : Int32) < b
    · exact Or.inr (Or.inl ⟨q, q2⟩)
    · by_cases q3 : (255 : Int32) < d
      · exact Or.inr (Or.inr ⟨q, q2, q3⟩)
      · exact absurd (fun c hc => by simp only [List.mem_cons, List.not_mem_nil, or_false] at hc; rcases hc with rfl | rfl | rfl <;> assumption) h
theorem own_nat {n : Nat} (h : n ≤ 64) : (Int32.ofNat n).toInt = n := by
  rw [Int32.toInt_ofNat']
  have e : (Int32.size : Int) = 4294967296 := rfl
  rw [Int.bmod_eq_of_le (by omega) (by omega)]
theorem own_lt {i n : Nat} (h : i < n) (hn : n ≤ 64) : Int32.ofNat i < Int32.ofNat n := by
  rw [Int32.lt_iff_toInt_lt, own_nat hn, own_nat (Nat.le_trans (Nat.le_of_lt h) hn)]; omega
theorem own_ltb {i n : Nat} {j : Int32} (hj : j = Int32.ofNat i) (hi : i ≤ 64) (hn : n ≤ 64) (h : j < Int32.ofNat n) : i < n := by
  rw [hj, Int32.lt_iff_toInt_lt, own_nat hn, own_nat hi] at h; omega
def own_min (a b : Int32) : Int32 := if b < a then b else a
theorem own_mn {n m : Nat} (hn : n ≤ 3) (hm : m ≤ 3) : own_min (Int32.ofNat n) (Int32.ofNat m) = Int32.ofNat (min n m) := by
  have t : ∀ (n m : Fin 4), own_min (Int32.ofNat n.1) (Int32.ofNat m.1) = Int32.ofNat (min n.1 m.1) := by decide
  exact t ⟨n, by omega⟩ ⟨m, by omega⟩
theorem own_mem {cs : List Int32} {P : Int32 → Prop} (h : ∀ c ∈ cs, P c) {i : Nat} (hi : i < cs.length) : P (cs.getD i 0) := by
  have e : cs.getD i 0 = cs[i] := by simp [List.getD_eq_getElem?_getD, hi]
  rw [e]; exact h _ (List.getElem_mem _)
theorem own_3 (x : Int32) : (x &&& (3 : Int32)) = (0 : Int32) ∨ (x &&& (3 : Int32)) = (1 : Int32) ∨ (x &&& (3 : Int32)) = (2 : Int32) ∨ (x &&& (3 : Int32)) = (3 : Int32) := by
  have h := c_and x (3 : Int32) (by decide)
  have e3 : (3 : Int32).toInt = 3 := by decide
  rw [e3] at h
  rcases (by omega : (x &&& (3 : Int32)).toInt = 0 ∨ (x &&& (3 : Int32)).toInt = 1 ∨ (x &&& (3 : Int32)).toInt = 2 ∨ (x &&& (3 : Int32)).toInt = 3) with q | q | q | q
  · exact Or.inl (Int32.toInt_inj.mp q)
  · exact Or.inr (Or.inl (Int32.toInt_inj.mp q))
  · exact Or.inr (Or.inr (Or.inl (Int32.toInt_inj.mp q)))
  · exact Or.inr (Or.inr (Or.inr (Int32.toInt_inj.mp q)))
theorem own_bb (p : Int32) : p.toInt8.toInt32.toInt8.toInt32 = p.toInt8.toInt32 := by simp
theorem own_c3 {i n m : Nat} (hi : i < 3) (hn : n ≤ 3) (hm : m ≤ 3) {j mn : Int32} (hj : j = Int32.ofNat i) (hmn : mn = Int32.ofNat (min n m)) : (j < mn ↔ (i < n ∧ i < m)) := by
  subst hj hmn
  constructor
  · intro h; have := own_ltb (i := i) rfl (by omega) (by omega) h; omega
  · intro h; exact own_lt (by omega) (by omega)

theorem own_f0 {P : Int32 → Prop} : ∀ c ∈ ([] : List Int32), P c := fun _ q => nomatch q
theorem own_fa {P : Int32 → Prop} {a : Int32} {l : List Int32} (h : P a) (t : ∀ c ∈ l, P c) : ∀ c ∈ a :: l, P c := List.forall_mem_cons.mpr ⟨h, t⟩
theorem own_nr {c : Int32} (h : own_rg c) : nar .char c = c := (show nar .char c = own_c c from rfl).trans (own_ck h)
theorem own_pr {c : Int32} (h : own_rg c) : nar .char (StrChars.pairCh (StrChars.lo8 c) (StrChars.hi8 c)) = c := by rw [StrChars.pair_says h.1 h.2]; exact own_nr h
theorem own_l8 {c : Int32} (h : own_rg c) (h1 : ¬ (255 : Int32) < c) : nar .char ((StrChars.lo8 c &&& (255 : Int32)).toUInt32.toUInt16.toUInt32.toInt32) = c := by
  rw [show (StrChars.lo8 c &&& (255 : Int32)).toUInt32.toUInt16.toUInt32.toInt32 = StrChars.chr8 (StrChars.lo8 c) from rfl, StrChars.chr8_lo8 h.1 h1]; exact own_nr h
theorem own_lo (c : Int32) : (c >>> ((0 : Int32) &&& 31)).toInt8.toInt32.toInt8.toInt32 = StrChars.lo8 c := by rw [own_bb, StrChars.shr0]; rfl
theorem own_hi (c : Int32) : (c >>> ((8 : Int32) &&& 31)).toInt8.toInt32.toInt8.toInt32 = StrChars.hi8 c := by rw [own_bb]; rfl
theorem own_cat {v : Value} (h : v.isRef = true) : v.category = 1 := by cases v <;> simp_all [Value.isRef, Value.category]
theorem own_hlt {i : Nat} {j : Int32} {cs : List Int32} (hj : j = Int32.ofNat i) (hi : i < cs.length) (hl : cs.length ≤ 3) : j < (Int32.ofNat (2 * cs.length) >>> ((1 : Int32) &&& 31)) := by
  rw [StrChars.shr1 (by omega), hj]; exact own_lt hi (by omega)
theorem own_cs {cs ds : List Int32} {i f : Nat} (h : i < cs.length ∧ i < ds.length) (e : cs.getD i 0 = ds.getD i 0) : own_cmp cs ds i (f + 1) = own_cmp cs ds (i + 1) f := by rw [own_cmp, if_pos h, if_pos e]
theorem own_cd {cs ds : List Int32} {i f : Nat} (h : i < cs.length ∧ i < ds.length) (e : ¬ cs.getD i 0 = ds.getD i 0) : own_cmp cs ds i (f + 1) = own_rank (cs.getD i 0) - own_rank (ds.getD i 0) := by rw [own_cmp, if_pos h, if_neg e]
theorem own_ce {cs ds : List Int32} {i f : Nat} (h : ¬ (i < cs.length ∧ i < ds.length)) : own_cmp cs ds i (f + 1) = Int32.ofNat cs.length - Int32.ofNat ds.length := by rw [own_cmp, if_neg h]
theorem own_cz {cs ds : List Int32} {i : Nat} : own_cmp cs ds i 0 = Int32.ofNat cs.length - Int32.ofNat ds.length := by rw [own_cmp]
theorem own_n3 {n m : Nat} (hn : n ≤ 3) (hm : m ≤ 3) : ¬ (3 : Int32) < Int32.ofNat (min n m) := fun h => by
  have := own_ltb (i := 3) (n := min n m) rfl (by omega) (by omega) h; omega
abbrev own_sv (q : Int32) : Option Value := some (Value.int q)

abbrev mN0 : MethodName := ⟨"com/example/caddis/caddis/StatementSetComparePinLaw", "sgn", "(I)I"⟩
theorem d5_0 : decode method_2_code 0 = .ok (.iload_n 0, 1) := by decide +kernel
theorem d5_1 : decode method_2_code 1 = .ok (.ifCond .le 5, 3) := by decide +kernel
theorem d5_4 : decode method_2_code 4 = .ok (.iconst 1, 1) := by decide +kernel
theorem d5_5 : decode method_2_code 5 = .ok (.ireturn, 1) := by decide +kernel
theorem d5_6 : decode method_2_code 6 = .ok (.iload_n 0, 1) := by decide +kernel
theorem d5_7 : decode method_2_code 7 = .ok (.ifCond .ge 5, 3) := by decide +kernel
theorem d5_10 : decode method_2_code 10 = .ok (.iconst (-1), 1) := by decide +kernel
theorem d5_11 : decode method_2_code 11 = .ok (.ireturn, 1) := by decide +kernel
theorem d5_12 : decode method_2_code 12 = .ok (.iconst 0, 1) := by decide +kernel
theorem d5_13 : decode method_2_code 13 = .ok (.ireturn, 1) := by decide +kernel
theorem pn_0 : plainName "com/example/caddis/caddis/StatementSetComparePinLaw" = true := by first | (simp [plainName, overriddenIn]; done) | decide +kernel
theorem ef_rm5 (m : MethodId) (x0 : Int32) : entryFrame m #[(.int x0)] 1 = mkF m 0 #[.val (.int x0)] [] := by first | (simp [entryFrame, mkF, argsToLocals, Value.category]; done) | rfl
def Q5 (Z : State) (p1 : Int32) (h0 : Heap) (n0 : Nat) (v : Option Value) (h : Heap) (L : List Loc) : Prop := v = some (.int (own_sgn p1)) ∧ Fr n0 L ∧ h = h0
theorem rm5 (l : Launch) (Z : State) (a0 : Array Value) (hw : ∀ d ∈ tables_1, d.before a0 Z = true) (ws : List Jvm.Cond) (p1 : Int32) (h0 : Heap) (n0 : Nat) (Z0 : n0 ≤ h0.size) :
    MetFree l mN0 (head1 (Jvm.Cond.code mN0 method_2_code 1 (some .int) :: ws) (own_r 0 0 0 0)) (fun a U => a = #[(.int p1)] ∧ Z.Warmed39 U.vm ∧ U.heap = h0) (fun _ _ _ _ _ => True) (fun _ U o U' => ∃ v L, o = .returned v ∧ Q5 Z p1 h0 n0 v U'.heap L ∧ FrameEnd U o U' L (own_r 0 0 0 0).cells (own_r 0 0 0 0).slots) := by
  refine MetFree.of_bodySF (plainFor_of_name pn_0) hisR ?_
  intro p e s m args below meth c s₁ Bd hml0 hP hK
  obtain ⟨rfl, hZ, hh⟩ := hP
  have hx := Bd.exec
  have hby := Bd.bytes
  have hml : c.maxLocals = 1 := hml0
  have hown : s.vm.findClass "com/example/caddis/caddis/StatementSetComparePinLaw" = some m.cls := findClass_of_methodNamed Bd.named
  have hnm := (name_of_methodNamed Bd.named Bd.method).1
  have X0 : Stand p l e (own_r 0 0 0 0) s m #[(.int p1)] below meth c s₁ [] 0 0 := Stand.of_body Bd
  have e0 : s₁.heap = h0 := by rw [← hh, Bd.state]; rfl
  have Nf0 := Fr.nil n0
  obtain ⟨Gl, hGl, kn0⟩ := own_gl (p := p) (e := e) (below := below) (s₁ := s₁) (ef_rm5 m p1)
  have kn1 : ∀ t, own_S p e below s₁ (mkF m 1 #[.val (.int p1)] [(.int p1)]) t → Gl t := fun t kt => kn0 t (by
    show own_S p e below s₁ (mkF m 0 #[.val (.int p1)] []) _
    refine XS.iloadN X0.here hx rfl (hb hby d5_0) rfl ?_
    exact kt)
  by_cases hc1 : (0 : Int32) < p1
  · have kn2 : ∀ t, own_S p e below s₁ (mkF m 5 #[.val (.int p1)] [(.int 1)]) t → Gl t := fun t kt => kn1 t (by
      show own_S p e below s₁ (mkF m 1 #[.val (.int p1)] [(.int p1)]) _
      refine XS.ifNo X0.here hx rfl (hb hby d5_1) rfl ((if0 _ _).trans (tlt hc1).2.2.2) ?_
      refine XS.iconst X0.here hx rfl (hb hby d5_4) ?_
      exact kt)
    obtain ⟨fs, hr, hrun, hended, hW, hsame⟩ := X0.leave (v := some (.int (1 : Int32))) (fun h => by rw [Bd.returns] at h; cases h)
    refine ⟨_, _, hGl _ (kn2 _ (retI X0 hx Bd.returns (hb hby d5_5) hr)), hrun, hended, _, _, rfl, ?_, ⟨_, rfl⟩, hW, hsame.mono (by decide) (by decide)⟩
    show Q5 Z p1 h0 n0 _ s₁.heap _
    rw [e0]
    exact ⟨by simp [own_sgn, hc1], Nf0, rfl⟩
  · have kn3 : ∀ t, own_S p e below s₁ (mkF m 7 #[.val (.int p1)] [(.int p1)]) t → Gl t := fun t kt => kn1 t (by
      show own_S p e below s₁ (mkF m 1 #[.val (.int p1)] [(.int p1)]) _
      refine XS.ifYes X0.here hx rfl (pc0 := 1) (pc' := 6) rfl (hb hby d5_1) rfl ((if0 _ _).trans (flt hc1).2.2.2) (by decide) (by decide) ?_
      refine XS.iloadN X0.here hx rfl (hb hby d5_6) rfl ?_
      exact kt)
    by_cases hc7 : p1 < (0 : Int32)
    · have kn4 : ∀ t, own_S p e below s₁ (mkF m 11 #[.val (.int p1)] [(.int (-1))]) t → Gl t := fun t kt => kn3 t (by
        show own_S p e below s₁ (mkF m 7 #[.val (.int p1)] [(.int p1)]) _
        refine XS.ifNo X0.here hx rfl (hb hby d5_7) rfl ((if0 _ _).trans (tlt hc7).2.1) ?_
        refine XS.iconst X0.here hx rfl (hb hby d5_10) ?_
        exact kt)
      obtain ⟨fs, hr, hrun, hended, hW, hsame⟩ := X0.leave (v := some (.int (-1 : Int32))) (fun h => by rw [Bd.returns] at h; cases h)
      refine ⟨_, _, hGl _ (kn4 _ (retI X0 hx Bd.returns (hb hby d5_11) hr)), hrun, hended, _, _, rfl, ?_, ⟨_, rfl⟩, hW, hsame.mono (by decide) (by decide)⟩
      show Q5 Z p1 h0 n0 _ s₁.heap _
      rw [e0]
      exact ⟨by simp [own_sgn, hc1, hc7], Nf0, rfl⟩
    · have kn5 : ∀ t, own_S p e below s₁ (mkF m 13 #[.val (.int p1)] [(.int 0)]) t → Gl t := fun t kt => kn3 t (by
        show own_S p e below s₁ (mkF m 7 #[.val (.int p1)] [(.int p1)]) _
        refine XS.ifYes X0.here hx rfl (pc0 := 7) (pc' := 12) rfl (hb hby d5_7) rfl ((if0 _ _).trans (flt hc7).2.1) (by decide) (by decide) ?_
        refine XS.iconst X0.here hx rfl (hb hby d5_12) ?_
        exact kt)
      obtain ⟨fs, hr, hrun, hended, hW, hsame⟩ := X0.leave (v := some (.int (0 : Int32))) (fun h => by rw [Bd.returns] at h; cases h)
      refine ⟨_, _, hGl _ (kn5 _ (retI X0 hx Bd.returns (hb hby d5_13) hr)), hrun, hended, _, _, rfl, ?_, ⟨_, rfl⟩, hW, hsame.mono (by decide) (by decide)⟩
      show Q5 Z p1 h0 n0 _ s₁.heap _
      rw [e0]
      exact ⟨by simp [own_sgn, hc1, hc7], Nf0, rfl⟩

abbrev mN1 : MethodName := ⟨"com/example/caddis/caddis/StatementSetComparePinLaw", "lift", "(C)I"⟩
theorem d14_0 : decode method_3_code 0 = .ok (.iload_n 0, 1) := by decide +kernel
theorem d14_1 : decode method_3_code 1 = .ok (.ldc 7, 2) := by decide +kernel
theorem d14_3 : decode method_3_code 3 = .ok (.if_icmp .lt 14, 3) := by decide +kernel
theorem d14_6 : decode method_3_code 6 = .ok (.iload_n 0, 1) := by decide +kernel
theorem d14_7 : decode method_3_code 7 = .ok (.ldc 8, 2) := by decide +kernel
theorem d14_9 : decode method_3_code 9 = .ok (.if_icmp .gt 8, 3) := by decide +kernel
theorem d14_12 : decode method_3_code 12 = .ok (.iload_n 0, 1) := by decide +kernel
theorem d14_13 : decode method_3_code 13 = .ok (.ldc 9, 2) := by decide +kernel
theorem d14_15 : decode method_3_code 15 = .ok (.iadd, 1) := by decide +kernel
theorem d14_16 : decode method_3_code 16 = .ok (.ireturn, 1) := by decide +kernel
theorem d14_17 : decode method_3_code 17 = .ok (.iload_n 0, 1) := by decide +kernel
theorem d14_18 : decode method_3_code 18 = .ok (.ireturn, 1) := by decide +kernel
theorem ef_rm14 (m : MethodId) (x0 : Int32) : entryFrame m #[(.int x0)] 1 = mkF m 0 #[.val (.int x0)] [] := by first | (simp [entryFrame, mkF, argsToLocals, Value.category]; done) | rfl
def Q14 (Z : State) (p1 : Int32) (h0 : Heap) (n0 : Nat) (v : Option Value) (h : Heap) (L : List Loc) : Prop := v = some (.int (own_lift p1)) ∧ Fr n0 L ∧ h = h0
theorem rm14 (l : Launch) (Z : State) (a0 : Array Value) (hw : ∀ d ∈ tables_1, d.before a0 Z = true) (ws : List Jvm.Cond) (p1 : Int32) (h0 : Heap) (n0 : Nat) (Z0 : n0 ≤ h0.size) :
    MetFree l mN1 (head1 (Jvm.Cond.code mN1 method_3_code 1 (some .int) :: ws) (own_r 0 0 0 0)) (fun a U => a = #[(.int p1)] ∧ Z.Warmed39 U.vm ∧ U.heap = h0) (fun _ _ _ _ _ => True) (fun _ U o U' => ∃ v L, o = .returned v ∧ Q14 Z p1 h0 n0 v U'.heap L ∧ FrameEnd U o U' L (own_r 0 0 0 0).cells (own_r 0 0 0 0).slots) := by
  refine MetFree.of_bodySF (plainFor_of_name pn_0) hisR ?_
  intro p e s m args below meth c s₁ Bd hml0 hP hK
  obtain ⟨rfl, hZ, hh⟩ := hP
  have hx := Bd.exec
  have hby := Bd.bytes
  have hml : c.maxLocals = 1 := hml0
  have hown : s.vm.findClass "com/example/caddis/caddis/StatementSetComparePinLaw" = some m.cls := findClass_of_methodNamed Bd.named
  have hnm := (name_of_methodNamed Bd.named Bd.method).1
  have X0 : Stand p l e (own_r 0 0 0 0) s m #[(.int p1)] below meth c s₁ [] 0 0 := Stand.of_body Bd
  have e0 : s₁.heap = h0 := by rw [← hh, Bd.state]; rfl
  have Nf0 := Fr.nil n0
  obtain ⟨Gl, hGl, kn0⟩ := own_gl (p := p) (e := e) (below := below) (s₁ := s₁) (ef_rm14 m p1)
  have kn1 : ∀ t, own_S p e below s₁ (mkF m 3 #[.val (.int p1)] [(.int 55296), (.int p1)]) t → Gl t := fun t kt => kn0 t (by
    show own_S p e below s₁ (mkF m 0 #[.val (.int p1)] []) _
    refine XS.iloadN X0.here hx rfl (hb hby d14_0) rfl ?_
    refine X0.ldcInt hx hown (mvT hZ (own_w hw 65 rfl)) (g := (mkF m 1 #[.val (.int p1)] [(.int p1)])) rfl (hb hby d14_1) _ ?_
    exact kt)
  by_cases hc3 : p1 < (55296 : Int32)
  · have kn2 : ∀ t, own_S p e below s₁ (mkF m 18 #[.val (.int p1)] [(.int p1)]) t → Gl t := fun t kt => kn1 t (by
      show own_S p e below s₁ (mkF m 3 #[.val (.int p1)] [(.int 55296), (.int p1)]) _
      refine XS.icmpYes X0.here hx rfl (pc0 := 3) (pc' := 17) rfl (hb hby d14_3) rfl (tlt hc3).1 (by decide) (by decide) ?_
      refine XS.iloadN X0.here hx rfl (hb hby d14_17) rfl ?_
      exact kt)
    obtain ⟨fs, hr, hrun, hended, hW, hsame⟩ := X0.leave (v := some (.int p1)) (fun h => by rw [Bd.returns] at h; cases h)
    refine ⟨_, _, hGl _ (kn2 _ (retI X0 hx Bd.returns (hb hby d14_18) hr)), hrun, hended, _, _, rfl, ?_, ⟨_, rfl⟩, hW, hsame.mono (by decide) (by decide)⟩
    show Q14 Z p1 h0 n0 _ s₁.heap _
    rw [e0]
    exact ⟨by simp [own_lift, hc3], Nf0, rfl⟩
  · have kn3 : ∀ t, own_S p e below s₁ (mkF m 9 #[.val (.int p1)] [(.int 57343), (.int p1)]) t → Gl t := fun t kt => kn1 t (by
      show own_S p e below s₁ (mkF m 3 #[.val (.int p1)] [(.int 55296), (.int p1)]) _
      refine XS.icmpNo X0.here hx rfl (hb hby d14_3) rfl (flt hc3).1 ?_
      refine XS.iloadN X0.here hx rfl (hb hby d14_6) rfl ?_
      refine X0.ldcInt hx hown (mvT hZ (own_w hw 122 rfl)) (g := (mkF m 7 #[.val (.int p1)] [(.int p1)])) rfl (hb hby d14_7) _ ?_
      exact kt)
    by_cases hc9 : (57343 : Int32) < p1
    · have kn4 : ∀ t, own_S p e below s₁ (mkF m 18 #[.val (.int p1)] [(.int p1)]) t → Gl t := fun t kt => kn3 t (by
        show own_S p e below s₁ (mkF m 9 #[.val (.int p1)] [(.int 57343), (.int p1)]) _
        refine XS.icmpYes X0.here hx rfl (pc0 := 9) (pc' := 17) rfl (hb hby d14_9) rfl (tlt hc9).2.2.1 (by decide) (by decide) ?_
        refine XS.iloadN X0.here hx rfl (hb hby d14_17) rfl ?_
        exact kt)
      obtain ⟨fs, hr, hrun, hended, hW, hsame⟩ := X0.leave (v := some (.int p1)) (fun h => by rw [Bd.returns] at h; cases h)
      refine ⟨_, _, hGl _ (kn4 _ (retI X0 hx Bd.returns (hb hby d14_18) hr)), hrun, hended, _, _, rfl, ?_, ⟨_, rfl⟩, hW, hsame.mono (by decide) (by decide)⟩
      show Q14 Z p1 h0 n0 _ s₁.heap _
      rw [e0]
      exact ⟨by simp [own_lift, hc3, hc9], Nf0, rfl⟩
    · have kn5 : ∀ t, own_S p e below s₁ (mkF m 16 #[.val (.int p1)] [(.int (p1 + (65536 : Int32)))]) t → Gl t := fun t kt => kn3 t (by
        show own_S p e below s₁ (mkF m 9 #[.val (.int p1)] [(.int 57343), (.int p1)]) _
        refine XS.icmpNo X0.here hx rfl (hb hby d14_9) rfl (flt hc9).2.2.1 ?_
        refine XS.iloadN X0.here hx rfl (hb hby d14_12) rfl ?_
        refine X0.ldcInt hx hown (mvT hZ (own_w hw 123 rfl)) (g := (mkF m 13 #[.val (.int p1)] [(.int p1)])) rfl (hb hby d14_13) _ ?_
        refine XS.iadd X0.here hx rfl (hb hby d14_15) rfl ?_
        exact kt)
      obtain ⟨fs, hr, hrun, hended, hW, hsame⟩ := X0.leave (v := some (.int (p1 + (65536 : Int32)))) (fun h => by rw [Bd.returns] at h; cases h)
      refine ⟨_, _, hGl _ (kn5 _ (retI X0 hx Bd.returns (hb hby d14_16) hr)), hrun, hended, _, _, rfl, ?_, ⟨_, rfl⟩, hW, hsame.mono (by decide) (by decide)⟩
      show Q14 Z p1 h0 n0 _ s₁.heap _
      rw [e0]
      exact ⟨by simp [own_lift, hc3, hc9], Nf0, rfl⟩

abbrev mN2 : MethodName := ⟨"com/example/caddis/caddis/StatementSet", "codePointRank", "(C)I"⟩
theorem d20_0 : decode prog_43_method_8_code 0 = .ok (.iload_n 0, 1) := by decide +kernel
theorem d20_1 : decode prog_43_method_8_code 1 = .ok (.ldc 118, 2) := by decide +kernel
theorem d20_3 : decode prog_43_method_8_code 3 = .ok (.if_icmp .lt 12, 3) := by decide +kernel
theorem d20_6 : decode prog_43_method_8_code 6 = .ok (.iload_n 0, 1) := by decide +kernel
theorem d20_7 : decode prog_43_method_8_code 7 = .ok (.sipush 2048, 3) := by decide +kernel
theorem d20_10 : decode prog_43_method_8_code 10 = .ok (.isub, 1) := by decide +kernel
theorem d20_11 : decode prog_43_method_8_code 11 = .ok (.istore_n 1, 1) := by decide +kernel
theorem d20_12 : decode prog_43_method_8_code 12 = .ok (.goto 20, 3) := by decide +kernel
theorem d20_15 : decode prog_43_method_8_code 15 = .ok (.iload_n 0, 1) := by decide +kernel
theorem d20_16 : decode prog_43_method_8_code 16 = .ok (.ldc 121, 2) := by decide +kernel
theorem d20_18 : decode prog_43_method_8_code 18 = .ok (.if_icmp .lt 12, 3) := by decide +kernel
theorem d20_21 : decode prog_43_method_8_code 21 = .ok (.iload_n 0, 1) := by decide +kernel
theorem d20_22 : decode prog_43_method_8_code 22 = .ok (.sipush 8192, 3) := by decide +kernel
theorem d20_25 : decode prog_43_method_8_code 25 = .ok (.iadd, 1) := by decide +kernel
theorem d20_26 : decode prog_43_method_8_code 26 = .ok (.istore_n 1, 1) := by decide +kernel
theorem d20_27 : decode prog_43_method_8_code 27 = .ok (.goto 5, 3) := by decide +kernel
theorem d20_30 : decode prog_43_method_8_code 30 = .ok (.iload_n 0, 1) := by decide +kernel
theorem d20_31 : decode prog_43_method_8_code 31 = .ok (.istore_n 1, 1) := by decide +kernel
theorem d20_32 : decode prog_43_method_8_code 32 = .ok (.iload_n 1, 1) := by decide +kernel
theorem d20_33 : decode prog_43_method_8_code 33 = .ok (.ireturn, 1) := by decide +kernel
theorem pn_1 : plainName "com/example/caddis/caddis/StatementSet" = true := by first | (simp [plainName, overriddenIn]; done) | decide +kernel
theorem ef_rm20 (m : MethodId) (x0 : Int32) : entryFrame m #[(.int x0)] 2 = mkF m 0 #[.val (.int x0), .unset] [] := by first | (simp [entryFrame, mkF, argsToLocals, Value.category]; done) | rfl
def Q20 (Z : State) (p1 : Int32) (h0 : Heap) (n0 : Nat) (v : Option Value) (h : Heap) (L : List Loc) : Prop := v = some (.int (own_rank p1)) ∧ Fr n0 L ∧ h = h0
theorem rm20 (l : Launch) (Z : State) (a0 : Array Value) (hw : ∀ d ∈ tables_1, d.before a0 Z = true) (ws : List Jvm.Cond) (p1 : Int32) (h0 : Heap) (n0 : Nat) (Z0 : n0 ≤ h0.size) :
    MetFree l mN2 (head1 (Jvm.Cond.code mN2 prog_43_method_8_code 2 (some .int) :: ws) (own_r 0 0 0 0)) (fun a U => a = #[(.int p1)] ∧ Z.Warmed39 U.vm ∧ U.heap = h0) (fun _ _ _ _ _ => True) (fun _ U o U' => ∃ v L, o = .returned v ∧ Q20 Z p1 h0 n0 v U'.heap L ∧ FrameEnd U o U' L (own_r 0 0 0 0).cells (own_r 0 0 0 0).slots) := by
  refine MetFree.of_bodySF (plainFor_of_name pn_1) hisR ?_
  intro p e s m args below meth c s₁ Bd hml0 hP hK
  obtain ⟨rfl, hZ, hh⟩ := hP
  have hx := Bd.exec
  have hby := Bd.bytes
  have hml : c.maxLocals = 2 := hml0
  have hown : s.vm.findClass "com/example/caddis/caddis/StatementSet" = some m.cls := findClass_of_methodNamed Bd.named
  have hnm := (name_of_methodNamed Bd.named Bd.method).1
  have X0 : Stand p l e (own_r 0 0 0 0) s m #[(.int p1)] below meth c s₁ [] 0 0 := Stand.of_body Bd
  have e0 : s₁.heap = h0 := by rw [← hh, Bd.state]; rfl
  have Nf0 := Fr.nil n0
  obtain ⟨Gl, hGl, kn0⟩ := own_gl (p := p) (e := e) (below := below) (s₁ := s₁) (ef_rm20 m p1)
  have kn1 : ∀ t, own_S p e below s₁ (mkF m 3 #[.val (.int p1), .unset] [(.int 57344), (.int p1)]) t → Gl t := fun t kt => kn0 t (by
    show own_S p e below s₁ (mkF m 0 #[.val (.int p1), .unset] []) _
    refine XS.iloadN X0.here hx rfl (hb hby d20_0) rfl ?_
    refine X0.ldcInt hx hown (mvT hZ (own_w hw 91 rfl)) (g := (mkF m 1 #[.val (.int p1), .unset] [(.int p1)])) rfl (hb hby d20_1) _ ?_
    exact kt)
  by_cases hc3 : p1 < (57344 : Int32)
  · have kn2 : ∀ t, own_S p e below s₁ (mkF m 18 #[.val (.int p1), .unset] [(.int 55296), (.int p1)]) t → Gl t := fun t kt => kn1 t (by
      show own_S p e below s₁ (mkF m 3 #[.val (.int p1), .unset] [(.int 57344), (.int p1)]) _
      refine XS.icmpYes X0.here hx rfl (pc0 := 3) (pc' := 15) rfl (hb hby d20_3) rfl (tlt hc3).1 (by decide) (by decide) ?_
      refine XS.iloadN X0.here hx rfl (hb hby d20_15) rfl ?_
      refine X0.ldcInt hx hown (mvT hZ (own_w hw 92 rfl)) (g := (mkF m 16 #[.val (.int p1), .unset] [(.int p1)])) rfl (hb hby d20_16) _ ?_
      exact kt)
    by_cases hc18 : p1 < (55296 : Int32)
    · have kn3 : ∀ t, own_S p e below s₁ (mkF m 33 #[.val (.int p1), .val (.int p1)] [(.int p1)]) t → Gl t := fun t kt => kn2 t (by
        show own_S p e below s₁ (mkF m 18 #[.val (.int p1), .unset] [(.int 55296), (.int p1)]) _
        refine XS.icmpYes X0.here hx rfl (pc0 := 18) (pc' := 30) rfl (hb hby d20_18) rfl (tlt hc18).1 (by decide) (by decide) ?_
        refine XS.iloadN X0.here hx rfl (hb hby d20_30) rfl ?_
        refine XS.istoreN X0.here hx rfl (hb hby d20_31) rfl (l' := #[.val (.int p1), .val (.int p1)]) rfl ?_
        refine XS.iloadN X0.here hx rfl (hb hby d20_32) rfl ?_
        exact kt)
      obtain ⟨fs, hr, hrun, hended, hW, hsame⟩ := X0.leave (v := some (.int p1)) (fun h => by rw [Bd.returns] at h; cases h)
      refine ⟨_, _, hGl _ (kn3 _ (retI X0 hx Bd.returns (hb hby d20_33) hr)), hrun, hended, _, _, rfl, ?_, ⟨_, rfl⟩, hW, hsame.mono (by decide) (by decide)⟩
      show Q20 Z p1 h0 n0 _ s₁.heap _
      rw [e0]
      exact ⟨by simp [own_rank, hc3, hc18], Nf0, rfl⟩
    · have kn4 : ∀ t, own_S p e below s₁ (mkF m 33 #[.val (.int p1), .val (.int (p1 + (8192 : Int32)))] [(.int (p1 + (8192 : Int32)))]) t → Gl t := fun t kt => kn2 t (by
        show own_S p e below s₁ (mkF m 18 #[.val (.int p1), .unset] [(.int 55296), (.int p1)]) _
        refine XS.icmpNo X0.here hx rfl (hb hby d20_18) rfl (flt hc18).1 ?_
        refine XS.iloadN X0.here hx rfl (hb hby d20_21) rfl ?_
        refine XS.sipush X0.here hx rfl (hb hby d20_22) ?_
        refine XS.iadd X0.here hx rfl (hb hby d20_25) rfl ?_
        refine XS.istoreN X0.here hx rfl (hb hby d20_26) rfl (l' := #[.val (.int p1), .val (.int (p1 + (8192 : Int32)))]) rfl ?_
        refine XS.goto X0.here hx rfl (pc0 := 27) (pc' := 32) rfl (hb hby d20_27) (by decide) (by decide) ?_
        refine XS.iloadN X0.here hx rfl (hb hby d20_32) rfl ?_
        exact kt)
      obtain ⟨fs, hr, hrun, hended, hW, hsame⟩ := X0.leave (v := some (.int (p1 + (8192 : Int32)))) (fun h => by rw [Bd.returns] at h; cases h)
      refine ⟨_, _, hGl _ (kn4 _ (retI X0 hx Bd.returns (hb hby d20_33) hr)), hrun, hended, _, _, rfl, ?_, ⟨_, rfl⟩, hW, hsame.mono (by decide) (by decide)⟩
      show Q20 Z p1 h0 n0 _ s₁.heap _
      rw [e0]
      exact ⟨by simp [own_rank, hc3, hc18], Nf0, rfl⟩
  · have kn5 : ∀ t, own_S p e below s₁ (mkF m 33 #[.val (.int p1), .val (.int (p1 - (2048 : Int32)))] [(.int (p1 - (2048 : Int32)))]) t → Gl t := fun t kt => kn1 t (by
      show own_S p e below s₁ (mkF m 3 #[.val (.int p1), .unset] [(.int 57344), (.int p1)]) _
      refine XS.icmpNo X0.here hx rfl (hb hby d20_3) rfl (flt hc3).1 ?_
      refine XS.iloadN X0.here hx rfl (hb hby d20_6) rfl ?_
      refine XS.sipush X0.here hx rfl (hb hby d20_7) ?_
      refine XS.isub X0.here hx rfl (hb hby d20_10) rfl ?_
      refine XS.istoreN X0.here hx rfl (hb hby d20_11) rfl (l' := #[.val (.int p1), .val (.int (p1 - (2048 : Int32)))]) rfl ?_
      refine XS.goto X0.here hx rfl (pc0 := 12) (pc' := 32) rfl (hb hby d20_12) (by decide) (by decide) ?_
      refine XS.iloadN X0.here hx rfl (hb hby d20_32) rfl ?_
      exact kt)
    obtain ⟨fs, hr, hrun, hended, hW, hsame⟩ := X0.leave (v := some (.int (p1 - (2048 : Int32)))) (fun h => by rw [Bd.returns] at h; cases h)
    refine ⟨_, _, hGl _ (kn5 _ (retI X0 hx Bd.returns (hb hby d20_33) hr)), hrun, hended, _, _, rfl, ?_, ⟨_, rfl⟩, hW, hsame.mono (by decide) (by decide)⟩
    show Q20 Z p1 h0 n0 _ s₁.heap _
    rw [e0]
    exact ⟨by simp [own_rank, hc3], Nf0, rfl⟩

abbrev mN3 : MethodName := ⟨"java/lang/Math", "min", "(II)I"⟩
theorem d10_0 : decode jdk_29_method_69_code 0 = .ok (.iload_n 0, 1) := by decide +kernel
theorem d10_1 : decode jdk_29_method_69_code 1 = .ok (.iload_n 1, 1) := by decide +kernel
theorem d10_2 : decode jdk_29_method_69_code 2 = .ok (.if_icmp .gt 7, 3) := by decide +kernel
theorem d10_5 : decode jdk_29_method_69_code 5 = .ok (.iload_n 0, 1) := by decide +kernel
theorem d10_6 : decode jdk_29_method_69_code 6 = .ok (.goto 4, 3) := by decide +kernel
theorem d10_9 : decode jdk_29_method_69_code 9 = .ok (.iload_n 1, 1) := by decide +kernel
theorem d10_10 : decode jdk_29_method_69_code 10 = .ok (.ireturn, 1) := by decide +kernel
theorem ef_rm10 (m : MethodId) (x0 : Int32) (x1 : Int32) : entryFrame m #[(.int x0), (.int x1)] 2 = mkF m 0 #[.val (.int x0), .val (.int x1)] [] := by first | (simp [entryFrame, mkF, argsToLocals, Value.category]; done) | rfl
def Q10 (Z : State) (p1 : Int32) (p2 : Int32) (h0 : Heap) (n0 : Nat) (v : Option Value) (h : Heap) (L : List Loc) : Prop := v = some (.int (own_min p1 p2)) ∧ Fr n0 L ∧ h = h0
theorem rm10 (l : Launch) (Z : State) (a0 : Array Value) (hw : ∀ d ∈ tables_1, d.before a0 Z = true) (ws : List Jvm.Cond) (p1 : Int32) (p2 : Int32) (h0 : Heap) (n0 : Nat) (Z0 : n0 ≤ h0.size) :
    MetFree l mN3 (head1 (Jvm.Cond.code mN3 jdk_29_method_69_code 2 (some .int) :: ws) (own_r 0 0 0 0)) (fun a U => a = #[(.int p1), (.int p2)] ∧ Z.Warmed39 U.vm ∧ U.heap = h0) (fun _ _ _ _ _ => True) (fun _ U o U' => ∃ v L, o = .returned v ∧ Q10 Z p1 p2 h0 n0 v U'.heap L ∧ FrameEnd U o U' L (own_r 0 0 0 0).cells (own_r 0 0 0 0).slots) := by
  refine MetFree.of_bodySF (Jvm.Free.JP.mathPlain rfl (by decide +kernel)) hisR ?_
  intro p e s m args below meth c s₁ Bd hml0 hP hK
  obtain ⟨rfl, hZ, hh⟩ := hP
  have hx := Bd.exec
  have hby := Bd.bytes
  have hml : c.maxLocals = 2 := hml0
  have hown : s.vm.findClass "java/lang/Math" = some m.cls := findClass_of_methodNamed Bd.named
  have hnm := (name_of_methodNamed Bd.named Bd.method).1
  have X0 : Stand p l e (own_r 0 0 0 0) s m #[(.int p1), (.int p2)] below meth c s₁ [] 0 0 := Stand.of_body Bd
  have e0 : s₁.heap = h0 := by rw [← hh, Bd.state]; rfl
  have Nf0 := Fr.nil n0
  obtain ⟨Gl, hGl, kn0⟩ := own_gl (p := p) (e := e) (below := below) (s₁ := s₁) (ef_rm10 m p1 p2)
  have kn1 : ∀ t, own_S p e below s₁ (mkF m 2 #[.val (.int p1), .val (.int p2)] [(.int p2), (.int p1)]) t → Gl t := fun t kt => kn0 t (by
    show own_S p e below s₁ (mkF m 0 #[.val (.int p1), .val (.int p2)] []) _
    refine XS.iloadN X0.here hx rfl (hb hby d10_0) rfl ?_
    refine XS.iloadN X0.here hx rfl (hb hby d10_1) rfl ?_
    exact kt)
  by_cases hc2 : p2 < p1
  · have kn2 : ∀ t, own_S p e below s₁ (mkF m 10 #[.val (.int p1), .val (.int p2)] [(.int p2)]) t → Gl t := fun t kt => kn1 t (by
      show own_S p e below s₁ (mkF m 2 #[.val (.int p1), .val (.int p2)] [(.int p2), (.int p1)]) _
      refine XS.icmpYes X0.here hx rfl (pc0 := 2) (pc' := 9) rfl (hb hby d10_2) rfl (tlt hc2).2.2.1 (by decide) (by decide) ?_
      refine XS.iloadN X0.here hx rfl (hb hby d10_9) rfl ?_
      exact kt)
    obtain ⟨fs, hr, hrun, hended, hW, hsame⟩ := X0.leave (v := some (.int p2)) (fun h => by rw [Bd.returns] at h; cases h)
    refine ⟨_, _, hGl _ (kn2 _ (retI X0 hx Bd.returns (hb hby d10_10) hr)), hrun, hended, _, _, rfl, ?_, ⟨_, rfl⟩, hW, hsame.mono (by decide) (by decide)⟩
    show Q10 Z p1 p2 h0 n0 _ s₁.heap _
    rw [e0]
    exact ⟨by simp [own_min, hc2], Nf0, rfl⟩
  · have kn3 : ∀ t, own_S p e below s₁ (mkF m 10 #[.val (.int p1), .val (.int p2)] [(.int p1)]) t → Gl t := fun t kt => kn1 t (by
      show own_S p e below s₁ (mkF m 2 #[.val (.int p1), .val (.int p2)] [(.int p2), (.int p1)]) _
      refine XS.icmpNo X0.here hx rfl (hb hby d10_2) rfl (flt hc2).2.2.1 ?_
      refine XS.iloadN X0.here hx rfl (hb hby d10_5) rfl ?_
      refine XS.goto X0.here hx rfl (pc0 := 6) (pc' := 10) rfl (hb hby d10_6) (by decide) (by decide) ?_
      exact kt)
    obtain ⟨fs, hr, hrun, hended, hW, hsame⟩ := X0.leave (v := some (.int p1)) (fun h => by rw [Bd.returns] at h; cases h)
    refine ⟨_, _, hGl _ (kn3 _ (retI X0 hx Bd.returns (hb hby d10_10) hr)), hrun, hended, _, _, rfl, ?_, ⟨_, rfl⟩, hW, hsame.mono (by decide) (by decide)⟩
    show Q10 Z p1 p2 h0 n0 _ s₁.heap _
    rw [e0]
    exact ⟨by simp [own_min, hc2], Nf0, rfl⟩

abbrev mN4 : MethodName := ⟨"com/example/caddis/caddis/StatementSetComparePinLaw", "step", "([C[CIIII)I"⟩
theorem d6_0 : decode method_4_code 0 = .ok (.iload_n 2, 1) := by decide +kernel
theorem d6_1 : decode method_4_code 1 = .ok (.iload_n 3, 1) := by decide +kernel
theorem d6_2 : decode method_4_code 2 = .ok (.if_icmp .ge 9, 3) := by decide +kernel
theorem d6_5 : decode method_4_code 5 = .ok (.iload_n 2, 1) := by decide +kernel
theorem d6_6 : decode method_4_code 6 = .ok (.iload 4, 2) := by decide +kernel
theorem d6_8 : decode method_4_code 8 = .ok (.if_icmp .lt 11, 3) := by decide +kernel
theorem d6_11 : decode method_4_code 11 = .ok (.iload_n 3, 1) := by decide +kernel
theorem d6_12 : decode method_4_code 12 = .ok (.iload 4, 2) := by decide +kernel
theorem d6_14 : decode method_4_code 14 = .ok (.isub, 1) := by decide +kernel
theorem d6_15 : decode method_4_code 15 = .ok (.invokestatic 10, 3) := by decide +kernel
theorem d6_18 : decode method_4_code 18 = .ok (.ireturn, 1) := by decide +kernel
theorem d6_19 : decode method_4_code 19 = .ok (.aload_n 0, 1) := by decide +kernel
theorem d6_20 : decode method_4_code 20 = .ok (.iload_n 2, 1) := by decide +kernel
theorem d6_21 : decode method_4_code 21 = .ok (.caload, 1) := by decide +kernel
theorem d6_22 : decode method_4_code 22 = .ok (.aload_n 1, 1) := by decide +kernel
theorem d6_23 : decode method_4_code 23 = .ok (.iload_n 2, 1) := by decide +kernel
theorem d6_24 : decode method_4_code 24 = .ok (.caload, 1) := by decide +kernel
theorem d6_25 : decode method_4_code 25 = .ok (.if_icmp .eq 20, 3) := by decide +kernel
theorem d6_28 : decode method_4_code 28 = .ok (.aload_n 0, 1) := by decide +kernel
theorem d6_29 : decode method_4_code 29 = .ok (.iload_n 2, 1) := by decide +kernel
theorem d6_30 : decode method_4_code 30 = .ok (.caload, 1) := by decide +kernel
theorem d6_31 : decode method_4_code 31 = .ok (.invokestatic 16, 3) := by decide +kernel
theorem d6_34 : decode method_4_code 34 = .ok (.aload_n 1, 1) := by decide +kernel
theorem d6_35 : decode method_4_code 35 = .ok (.iload_n 2, 1) := by decide +kernel
theorem d6_36 : decode method_4_code 36 = .ok (.caload, 1) := by decide +kernel
theorem d6_37 : decode method_4_code 37 = .ok (.invokestatic 16, 3) := by decide +kernel
theorem d6_40 : decode method_4_code 40 = .ok (.isub, 1) := by decide +kernel
theorem d6_41 : decode method_4_code 41 = .ok (.invokestatic 10, 3) := by decide +kernel
theorem d6_44 : decode method_4_code 44 = .ok (.ireturn, 1) := by decide +kernel
theorem d6_45 : decode method_4_code 45 = .ok (.iload 5, 2) := by decide +kernel
theorem d6_47 : decode method_4_code 47 = .ok (.ireturn, 1) := by decide +kernel
theorem pd_0 : parseMethodDescriptor "(C)I" = some ⟨[.char], some .int⟩ := by decide +kernel
theorem pd_1 : parseMethodDescriptor "(I)I" = some ⟨[.int], some .int⟩ := by decide +kernel
theorem ef_rm6_0 (m : MethodId) (x0 : Addr) (x1 : Addr) (x3 : Int32) (x4 : Int32) (x5 : Int32) : entryFrame m #[(.ref x0), (.ref x1), (.int (0 : Int32)), (.int x3), (.int x4), (.int x5)] 6 = mkF m 0 #[.val (.ref x0), .val (.ref x1), .val (.int (0 : Int32)), .val (.int x3), .val (.int x4), .val (.int x5)] [] := by first | (simp [entryFrame, mkF, argsToLocals, Value.category]; done) | rfl
def Q6_0 (Z : State) (xx : Addr) (yy : Addr) (lx : Int32) (ly : Int32) (rs : Int32) (kx : ClassId) (ky : ClassId) (xa0 : Int32) (xa1 : Int32) (xa2 : Int32) (xb0 : Int32) (xb1 : Int32) (xb2 : Int32) (h0 : Heap) (n0 : Nat) (v : Option Value) (h : Heap) (L : List Loc) : Prop := v = some (.int (own_step (0 : Int32) lx ly rs xa0 xb0)) ∧ Fr n0 L ∧ h = h0
theorem rm6_0 (l : Launch) (Z : State) (a0 : Array Value) (hw : ∀ d ∈ tables_1, d.before a0 Z = true) (ws : List Jvm.Cond) (xx : Addr) (yy : Addr) (lx : Int32) (ly : Int32) (rs : Int32) (kx : ClassId) (ky : ClassId) (xa0 : Int32) (xa1 : Int32) (xa2 : Int32) (xb0 : Int32) (xb1 : Int32) (xb2 : Int32) (h0 : Heap) (n0 : Nat) (Z0 : n0 ≤ h0.size) (Ax : Arv Z h0 xx kx .char (3 : Int32) [(.int xa0), (.int xa1), (.int xa2)] (.int (0 : Int32))) (Ay : Arv Z h0 yy ky .char (3 : Int32) [(.int xb0), (.int xb1), (.int xb2)] (.int (0 : Int32))) :
    MetFree l mN4 (head1 (Jvm.Cond.code mN4 method_4_code 6 (some .int) :: ws) (own_r 1 0 0 13)) (fun a U => a = #[(.ref xx), (.ref yy), (.int (0 : Int32)), (.int lx), (.int ly), (.int rs)] ∧ Z.Warmed39 U.vm ∧ U.heap = h0) (fun _ _ _ _ _ => True) (fun _ U o U' => ∃ v L, o = .returned v ∧ Q6_0 Z xx yy lx ly rs kx ky xa0 xa1 xa2 xb0 xb1 xb2 h0 n0 v U'.heap L ∧ FrameEnd U o U' L (own_r 1 0 0 13).cells (own_r 1 0 0 13).slots) := by
  refine MetFree.of_bodySF (plainFor_of_name pn_0) hisR ?_
  intro p e s m args below meth c s₁ Bd hml0 hP hK
  obtain ⟨rfl, hZ, hh⟩ := hP
  have hx := Bd.exec
  have hby := Bd.bytes
  have hml : c.maxLocals = 6 := hml0
  have hown : s.vm.findClass "com/example/caddis/caddis/StatementSetComparePinLaw" = some m.cls := findClass_of_methodNamed Bd.named
  have hnm := (name_of_methodNamed Bd.named Bd.method).1
  have X0 : Stand p l e (own_r 1 0 0 13) s m #[(.ref xx), (.ref yy), (.int (0 : Int32)), (.int lx), (.int ly), (.int rs)] below meth c s₁ [] 0 0 := Stand.of_body Bd
  have e0 : s₁.heap = h0 := by rw [← hh, Bd.state]; rfl
  have Nf0 := Fr.nil n0
  obtain ⟨Gl, hGl, kn0⟩ := own_gl (p := p) (e := e) (below := below) (s₁ := s₁) (ef_rm6_0 m xx yy lx ly rs)
  have kn1 : ∀ t, own_S p e below s₁ (mkF m 2 #[.val (.ref xx), .val (.ref yy), .val (.int 0), .val (.int lx), .val (.int ly), .val (.int rs)] [(.int lx), (.int 0)]) t → Gl t := fun t kt => kn0 t (by
    show own_S p e below s₁ (mkF m 0 #[.val (.ref xx), .val (.ref yy), .val (.int 0), .val (.int lx), .val (.int ly), .val (.int rs)] []) _
    refine XS.iloadN X0.here hx rfl (hb hby d6_0) rfl ?_
    refine XS.iloadN X0.here hx rfl (hb hby d6_1) rfl ?_
    exact kt)
  by_cases hc2 : (0 : Int32) < lx
  · have kn2 : ∀ t, own_S p e below s₁ (mkF m 8 #[.val (.ref xx), .val (.ref yy), .val (.int 0), .val (.int lx), .val (.int ly), .val (.int rs)] [(.int ly), (.int 0)]) t → Gl t := fun t kt => kn1 t (by
      show own_S p e below s₁ (mkF m 2 #[.val (.ref xx), .val (.ref yy), .val (.int 0), .val (.int lx), .val (.int ly), .val (.int rs)] [(.int lx), (.int 0)]) _
      refine XS.icmpNo X0.here hx rfl (hb hby d6_2) rfl (tlt hc2).2.1 ?_
      refine XS.iloadN X0.here hx rfl (hb hby d6_5) rfl ?_
      refine XS.iload X0.here hx rfl (hb hby d6_6) rfl ?_
      exact kt)
    by_cases hc8 : (0 : Int32) < ly
    · have kn3 : ∀ t, own_S p e below s₁ (mkF m 21 #[.val (.ref xx), .val (.ref yy), .val (.int 0), .val (.int lx), .val (.int ly), .val (.int rs)] [(.int 0), (.ref xx)]) t → Gl t := fun t kt => kn2 t (by
        show own_S p e below s₁ (mkF m 8 #[.val (.ref xx), .val (.ref yy), .val (.int 0), .val (.int lx), .val (.int ly), .val (.int rs)] [(.int ly), (.int 0)]) _
        refine XS.icmpYes X0.here hx rfl (pc0 := 8) (pc' := 19) rfl (hb hby d6_8) rfl (tlt hc8).1 (by decide) (by decide) ?_
        refine XS.aloadN X0.here hx rfl (hb hby d6_19) rfl rfl ?_
        refine XS.iloadN X0.here hx rfl (hb hby d6_20) rfl ?_
        exact kt)
      obtain ⟨cl4, Ar4, q4, Sz4, Ng4, Hs4, Gs4⟩ := id Ax
      have hin4 : ¬ ((0 : Int32) < 0 ∨ cl4.slots.size ≤ ((0 : Int32)).toNatClampNeg) := inb_of Sz4 ⟨by decide, by decide⟩
      have hat4 : cl4.slots[((0 : Int32)).toNatClampNeg]? = some (.int xa0) := Hs4.at hin4 rfl
      have kn5 : ∀ t, own_S p e below s₁ (mkF m 24 #[.val (.ref xx), .val (.ref yy), .val (.int 0), .val (.int lx), .val (.int ly), .val (.int rs)] [(.int 0), (.ref yy), (.int xa0)]) t → Gl t := fun t kt => kn3 t (by
        show own_S p e below s₁ (mkF m 21 #[.val (.ref xx), .val (.ref yy), .val (.int 0), .val (.int lx), .val (.int ly), .val (.int rs)] [(.int 0), (.ref xx)]) _
        refine X0.caload hx (j := (0 : Int32)) (v := (.int xa0)) (by rw [e0]; exact Ar4.1) (State.isArrayOf_alike hZ.alike Ar4.2.1) Ar4.2.2 hin4 hat4 (g := (mkF m 21 #[.val (.ref xx), .val (.ref yy), .val (.int 0), .val (.int lx), .val (.int ly), .val (.int rs)] [(.int 0), (.ref xx)])) rfl rfl (hb hby d6_21) _ ?_
        refine XS.aloadN X0.here hx rfl (hb hby d6_22) rfl rfl ?_
        refine XS.iloadN X0.here hx rfl (hb hby d6_23) rfl ?_
        exact kt)
      obtain ⟨cl6, Ar6, q6, Sz6, Ng6, Hs6, Gs6⟩ := id Ay
      have hin6 : ¬ ((0 : Int32) < 0 ∨ cl6.slots.size ≤ ((0 : Int32)).toNatClampNeg) := inb_of Sz6 ⟨by decide, by decide⟩
      have hat6 : cl6.slots[((0 : Int32)).toNatClampNeg]? = some (.int xb0) := Hs6.at hin6 rfl
      have kn7 : ∀ t, own_S p e below s₁ (mkF m 25 #[.val (.ref xx), .val (.ref yy), .val (.int 0), .val (.int lx), .val (.int ly), .val (.int rs)] [(.int xb0), (.int xa0)]) t → Gl t := fun t kt => kn5 t (by
        show own_S p e below s₁ (mkF m 24 #[.val (.ref xx), .val (.ref yy), .val (.int 0), .val (.int lx), .val (.int ly), .val (.int rs)] [(.int 0), (.ref yy), (.int xa0)]) _
        refine X0.caload hx (j := (0 : Int32)) (v := (.int xb0)) (by rw [e0]; exact Ar6.1) (State.isArrayOf_alike hZ.alike Ar6.2.1) Ar6.2.2 hin6 hat6 (g := (mkF m 24 #[.val (.ref xx), .val (.ref yy), .val (.int 0), .val (.int lx), .val (.int ly), .val (.int rs)] [(.int 0), (.ref yy), (.int xa0)])) rfl rfl (hb hby d6_24) _ ?_
        exact kt)
      by_cases hc25 : xa0 = xb0
      · have kn8 : ∀ t, own_S p e below s₁ (mkF m 47 #[.val (.ref xx), .val (.ref yy), .val (.int 0), .val (.int lx), .val (.int ly), .val (.int rs)] [(.int rs)]) t → Gl t := fun t kt => kn7 t (by
          show own_S p e below s₁ (mkF m 25 #[.val (.ref xx), .val (.ref yy), .val (.int 0), .val (.int lx), .val (.int ly), .val (.int rs)] [(.int xb0), (.int xa0)]) _
          refine XS.icmpYes X0.here hx rfl (pc0 := 25) (pc' := 45) rfl (hb hby d6_25) rfl (teq hc25).1 (by decide) (by decide) ?_
          refine XS.iload X0.here hx rfl (hb hby d6_45) rfl ?_
          exact kt)
        obtain ⟨fs, hr, hrun, hended, hW, hsame⟩ := X0.leave (v := some (.int rs)) (fun h => by rw [Bd.returns] at h; cases h)
        refine ⟨_, _, hGl _ (kn8 _ (retI X0 hx Bd.returns (hb hby d6_47) hr)), hrun, hended, _, _, rfl, ?_, ⟨_, rfl⟩, hW, hsame.mono (by decide) (by decide)⟩
        show Q6_0 Z xx yy lx ly rs kx ky xa0 xa1 xa2 xb0 xb1 xb2 h0 n0 _ s₁.heap _
        rw [e0]
        exact ⟨by rw [own_step, if_pos hc2, if_pos hc8, if_pos hc25], Nf0, rfl⟩
      · have kn9 : ∀ t, own_S p e below s₁ (mkF m 30 #[.val (.ref xx), .val (.ref yy), .val (.int 0), .val (.int lx), .val (.int ly), .val (.int rs)] [(.int 0), (.ref xx)]) t → Gl t := fun t kt => kn7 t (by
          show own_S p e below s₁ (mkF m 25 #[.val (.ref xx), .val (.ref yy), .val (.int 0), .val (.int lx), .val (.int ly), .val (.int rs)] [(.int xb0), (.int xa0)]) _
          refine XS.icmpNo X0.here hx rfl (hb hby d6_25) rfl (feq hc25).1 ?_
          refine XS.aloadN X0.here hx rfl (hb hby d6_28) rfl rfl ?_
          refine XS.iloadN X0.here hx rfl (hb hby d6_29) rfl ?_
          exact kt)
        obtain ⟨cl10, Ar10, q10, Sz10, Ng10, Hs10, Gs10⟩ := id Ax
        have hin10 : ¬ ((0 : Int32) < 0 ∨ cl10.slots.size ≤ ((0 : Int32)).toNatClampNeg) := inb_of Sz10 ⟨by decide, by decide⟩
        have hat10 : cl10.slots[((0 : Int32)).toNatClampNeg]? = some (.int xa0) := Hs10.at hin10 rfl
        have kn11 : ∀ t, own_S p e below s₁ (mkF m 31 #[.val (.ref xx), .val (.ref yy), .val (.int 0), .val (.int lx), .val (.int ly), .val (.int rs)] [(.int xa0)]) t → Gl t := fun t kt => kn9 t (by
          show own_S p e below s₁ (mkF m 30 #[.val (.ref xx), .val (.ref yy), .val (.int 0), .val (.int lx), .val (.int ly), .val (.int rs)] [(.int 0), (.ref xx)]) _
          refine X0.caload hx (j := (0 : Int32)) (v := (.int xa0)) (by rw [e0]; exact Ar10.1) (State.isArrayOf_alike hZ.alike Ar10.2.1) Ar10.2.2 hin10 hat10 (g := (mkF m 30 #[.val (.ref xx), .val (.ref yy), .val (.int 0), .val (.int lx), .val (.int ly), .val (.int rs)] [(.int 0), (.ref xx)])) rfl rfl (hb hby d6_30) _ ?_
          exact kt)
        obtain ⟨_, _, ⟨T12, L12, cc12, ss12⟩, -, X12, ⟨Lc12, hQ12, l12, y12, z12⟩, st12⟩ := Jvm.LawKit.callS X0 hx (y := mN1) hown (mvT hZ (own_w hw 62 rfl)) (mvT hZ (own_w hw 63 rfl)) (mvT hZ (own_w hw 4 rfl)) (mvT hZ (own_w hw 64 rfl)) (by decide) (backOf (W := 0) (rm14 l Z a0 hw [] xa0  h0 n0 Z0 ) hZ (own_w hw 64 rfl) (own_w hw 4 rfl) (by decide) (by decide)) (g := (mkF m 31 #[.val (.ref xx), .val (.ref yy), .val (.int 0), .val (.int lx), .val (.int ly), .val (.int rs)] [(.int xa0)])) rfl (by rw [hml]; rfl) (argsL := [(.int xa0)]) (rest := []) (lenOf pd_0 rfl) rfl (by show 2 * 0 + _ ≤ _; exact Nat.le_of_eq rfl) (hb hby d6_31) (fun _ _ => ⟨rfl, e0, (by decide : 0 + 0 ≤ _), (by decide : 0 + 0 ≤ _)⟩)
        dsimp only [Pt.U, Pt.locs, Pt.cells, Pt.slots] at X12 l12 y12 z12 st12 hQ12
        subst l12 y12 z12
        have X12 : Stand p l e _ _ m _ below meth c T12 _ 0 0 := X12
        obtain ⟨rfl, Nq12, eq12⟩ := hQ12
        have Nf12 := Fr.app Nf0 Nq12
        have kn13 : ∀ t, own_S p e below T12 (mkF m 36 #[.val (.ref xx), .val (.ref yy), .val (.int 0), .val (.int lx), .val (.int ly), .val (.int rs)] [(.int 0), (.ref yy), (.int (own_lift xa0))]) t → Gl t := fun t kt => kn11 t (st12 _ (by
          show own_S p e below T12 (mkF m 34 #[.val (.ref xx), .val (.ref yy), .val (.int 0), .val (.int lx), .val (.int ly), .val (.int rs)] [(.int (own_lift xa0))]) _
          refine XS.aloadN X12.here hx rfl (hb hby d6_34) rfl rfl ?_
          refine XS.iloadN X12.here hx rfl (hb hby d6_35) rfl ?_
          exact kt))
        obtain ⟨cl14, Ar14, q14, Sz14, Ng14, Hs14, Gs14⟩ := id Ay
        have hin14 : ¬ ((0 : Int32) < 0 ∨ cl14.slots.size ≤ ((0 : Int32)).toNatClampNeg) := inb_of Sz14 ⟨by decide, by decide⟩
        have hat14 : cl14.slots[((0 : Int32)).toNatClampNeg]? = some (.int xb0) := Hs14.at hin14 rfl
        have kn15 : ∀ t, own_S p e below T12 (mkF m 37 #[.val (.ref xx), .val (.ref yy), .val (.int 0), .val (.int lx), .val (.int ly), .val (.int rs)] [(.int xb0), (.int (own_lift xa0))]) t → Gl t := fun t kt => kn13 t (by
          show own_S p e below T12 (mkF m 36 #[.val (.ref xx), .val (.ref yy), .val (.int 0), .val (.int lx), .val (.int ly), .val (.int rs)] [(.int 0), (.ref yy), (.int (own_lift xa0))]) _
          refine X12.caload hx (j := (0 : Int32)) (v := (.int xb0)) (by rw [eq12]; exact Ar14.1) (State.isArrayOf_alike hZ.alike Ar14.2.1) Ar14.2.2 hin14 hat14 (g := (mkF m 36 #[.val (.ref xx), .val (.ref yy), .val (.int 0), .val (.int lx), .val (.int ly), .val (.int rs)] [(.int 0), (.ref yy), (.int (own_lift xa0))])) rfl rfl (hb hby d6_36) _ ?_
          exact kt)
        obtain ⟨_, _, ⟨T16, L16, cc16, ss16⟩, -, X16, ⟨Lc16, hQ16, l16, y16, z16⟩, st16⟩ := Jvm.LawKit.callS X12 hx (y := mN1) hown (mvT hZ (own_w hw 62 rfl)) (mvT hZ (own_w hw 63 rfl)) (mvT hZ (own_w hw 4 rfl)) (mvT hZ (own_w hw 64 rfl)) (by decide) (backOf (W := 1) (rm14 l Z a0 hw [] xb0  h0 n0 Z0 ) hZ (own_w hw 64 rfl) (own_w hw 4 rfl) (by decide) (by decide)) (g := (mkF m 37 #[.val (.ref xx), .val (.ref yy), .val (.int 0), .val (.int lx), .val (.int ly), .val (.int rs)] [(.int xb0), (.int (own_lift xa0))])) rfl (by rw [hml]; rfl) (argsL := [(.int xb0)]) (rest := [(.int (own_lift xa0))]) (lenOf pd_0 rfl) rfl (by show 2 * 0 + _ ≤ _; exact Nat.le_of_eq rfl) (hb hby d6_37) (fun _ _ => ⟨rfl, eq12, (by decide : 0 + 0 ≤ _), (by decide : 0 + 0 ≤ _)⟩)
        dsimp only [Pt.U, Pt.locs, Pt.cells, Pt.slots] at X16 l16 y16 z16 st16 hQ16
        subst l16 y16 z16
        have X16 : Stand p l e _ _ m _ below meth c T16 _ 0 0 := X16
        obtain ⟨rfl, Nq16, eq16⟩ := hQ16
        have Nf16 := Fr.app Nf12 Nq16
        have kn17 : ∀ t, own_S p e below T16 (mkF m 41 #[.val (.ref xx), .val (.ref yy), .val (.int 0), .val (.int lx), .val (.int ly), .val (.int rs)] [(.int ((own_lift xa0) - (own_lift xb0)))]) t → Gl t := fun t kt => kn15 t (st16 _ (by
          show own_S p e below T16 (mkF m 40 #[.val (.ref xx), .val (.ref yy), .val (.int 0), .val (.int lx), .val (.int ly), .val (.int rs)] [(.int (own_lift xb0)), (.int (own_lift xa0))]) _
          refine XS.isub X16.here hx rfl (hb hby d6_40) rfl ?_
          exact kt))
        obtain ⟨_, _, ⟨T18, L18, cc18, ss18⟩, -, X18, ⟨Lc18, hQ18, l18, y18, z18⟩, st18⟩ := Jvm.LawKit.callS X16 hx (y := mN0) hown (mvT hZ (own_w hw 27 rfl)) (mvT hZ (own_w hw 28 rfl)) (mvT hZ (own_w hw 4 rfl)) (mvT hZ (own_w hw 29 rfl)) (by decide) (backOf (W := 0) (rm5 l Z a0 hw [] ((own_lift xa0) - (own_lift xb0))  h0 n0 Z0 ) hZ (own_w hw 29 rfl) (own_w hw 4 rfl) (by decide) (by decide)) (g := (mkF m 41 #[.val (.ref xx), .val (.ref yy), .val (.int 0), .val (.int lx), .val (.int ly), .val (.int rs)] [(.int ((own_lift xa0) - (own_lift xb0)))])) rfl (by rw [hml]; rfl) (argsL := [(.int ((own_lift xa0) - (own_lift xb0)))]) (rest := []) (lenOf pd_1 rfl) rfl (by show 2 * 0 + _ ≤ _; exact Nat.le_of_eq rfl) (hb hby d6_41) (fun _ _ => ⟨rfl, eq16, (by decide : 0 + 0 ≤ _), (by decide : 0 + 0 ≤ _)⟩)
        dsimp only [Pt.U, Pt.locs, Pt.cells, Pt.slots] at X18 l18 y18 z18 st18 hQ18
        subst l18 y18 z18
        have X18 : Stand p l e _ _ m _ below meth c T18 _ 0 0 := X18
        obtain ⟨rfl, Nq18, eq18⟩ := hQ18
        have Nf18 := Fr.app Nf16 Nq18
        obtain ⟨fs, hr, hrun, hended, hW, hsame⟩ := X18.leave (v := some (.int (own_sgn ((own_lift xa0) - (own_lift xb0))))) (fun h => by rw [Bd.returns] at h; cases h)
        refine ⟨_, _, hGl _ (kn17 _ (st18 _ (retI X18 hx Bd.returns (hb hby d6_44) hr))), hrun, hended, _, _, rfl, ?_, ⟨_, rfl⟩, hW, hsame.mono (by decide) (by decide)⟩
        show Q6_0 Z xx yy lx ly rs kx ky xa0 xa1 xa2 xb0 xb1 xb2 h0 n0 _ T18.heap _
        rw [eq18]
        exact ⟨by rw [own_step, if_pos hc2, if_pos hc8, if_neg hc25], Nf18, rfl⟩
    · have kn19 : ∀ t, own_S p e below s₁ (mkF m 15 #[.val (.ref xx), .val (.ref yy), .val (.int 0), .val (.int lx), .val (.int ly), .val (.int rs)] [(.int (lx - ly))]) t → Gl t := fun t kt => kn2 t (by
        show own_S p e below s₁ (mkF m 8 #[.val (.ref xx), .val (.ref yy), .val (.int 0), .val (.int lx), .val (.int ly), .val (.int rs)] [(.int ly), (.int 0)]) _
        refine XS.icmpNo X0.here hx rfl (hb hby d6_8) rfl (flt hc8).1 ?_
        refine XS.iloadN X0.here hx rfl (hb hby d6_11) rfl ?_
        refine XS.iload X0.here hx rfl (hb hby d6_12) rfl ?_
        refine XS.isub X0.here hx rfl (hb hby d6_14) rfl ?_
        exact kt)
      obtain ⟨_, _, ⟨T20, L20, cc20, ss20⟩, -, X20, ⟨Lc20, hQ20, l20, y20, z20⟩, st20⟩ := Jvm.LawKit.callS X0 hx (y := mN0) hown (mvT hZ (own_w hw 27 rfl)) (mvT hZ (own_w hw 28 rfl)) (mvT hZ (own_w hw 4 rfl)) (mvT hZ (own_w hw 29 rfl)) (by decide) (backOf (W := 0) (rm5 l Z a0 hw [] (lx - ly)  h0 n0 Z0 ) hZ (own_w hw 29 rfl) (own_w hw 4 rfl) (by decide) (by decide)) (g := (mkF m 15 #[.val (.ref xx), .val (.ref yy), .val (.int 0), .val (.int lx), .val (.int ly), .val (.int rs)] [(.int (lx - ly))])) rfl (by rw [hml]; rfl) (argsL := [(.int (lx - ly))]) (rest := []) (lenOf pd_1 rfl) rfl (by show 2 * 0 + _ ≤ _; exact Nat.le_of_eq rfl) (hb hby d6_15) (fun _ _ => ⟨rfl, e0, (by decide : 0 + 0 ≤ _), (by decide : 0 + 0 ≤ _)⟩)
      dsimp only [Pt.U, Pt.locs, Pt.cells, Pt.slots] at X20 l20 y20 z20 st20 hQ20
      subst l20 y20 z20
      have X20 : Stand p l e _ _ m _ below meth c T20 _ 0 0 := X20
      obtain ⟨rfl, Nq20, eq20⟩ := hQ20
      have Nf20 := Fr.app Nf0 Nq20
      obtain ⟨fs, hr, hrun, hended, hW, hsame⟩ := X20.leave (v := some (.int (own_sgn (lx - ly)))) (fun h => by rw [Bd.returns] at h; cases h)
      refine ⟨_, _, hGl _ (kn19 _ (st20 _ (retI X20 hx Bd.returns (hb hby d6_18) hr))), hrun, hended, _, _, rfl, ?_, ⟨_, rfl⟩, hW, hsame.mono (by decide) (by decide)⟩
      show Q6_0 Z xx yy lx ly rs kx ky xa0 xa1 xa2 xb0 xb1 xb2 h0 n0 _ T20.heap _
      rw [eq20]
      exact ⟨by rw [own_step, if_pos hc2, if_neg hc8], Nf20, rfl⟩
  · have kn21 : ∀ t, own_S p e below s₁ (mkF m 15 #[.val (.ref xx), .val (.ref yy), .val (.int 0), .val (.int lx), .val (.int ly), .val (.int rs)] [(.int (lx - ly))]) t → Gl t := fun t kt => kn1 t (by
      show own_S p e below s₁ (mkF m 2 #[.val (.ref xx), .val (.ref yy), .val (.int 0), .val (.int lx), .val (.int ly), .val (.int rs)] [(.int lx), (.int 0)]) _
      refine XS.icmpYes X0.here hx rfl (pc0 := 2) (pc' := 11) rfl (hb hby d6_2) rfl (flt hc2).2.1 (by decide) (by decide) ?_
      refine XS.iloadN X0.here hx rfl (hb hby d6_11) rfl ?_
      refine XS.iload X0.here hx rfl (hb hby d6_12) rfl ?_
      refine XS.isub X0.here hx rfl (hb hby d6_14) rfl ?_
      exact kt)
    obtain ⟨_, _, ⟨T22, L22, cc22, ss22⟩, -, X22, ⟨Lc22, hQ22, l22, y22, z22⟩, st22⟩ := Jvm.LawKit.callS X0 hx (y := mN0) hown (mvT hZ (own_w hw 27 rfl)) (mvT hZ (own_w hw 28 rfl)) (mvT hZ (own_w hw 4 rfl)) (mvT hZ (own_w hw 29 rfl)) (by decide) (backOf (W := 0) (rm5 l Z a0 hw [] (lx - ly)  h0 n0 Z0 ) hZ (own_w hw 29 rfl) (own_w hw 4 rfl) (by decide) (by decide)) (g := (mkF m 15 #[.val (.ref xx), .val (.ref yy), .val (.int 0), .val (.int lx), .val (.int ly), .val (.int rs)] [(.int (lx - ly))])) rfl (by rw [hml]; rfl) (argsL := [(.int (lx - ly))]) (rest := []) (lenOf pd_1 rfl) rfl (by show 2 * 0 + _ ≤ _; exact Nat.le_of_eq rfl) (hb hby d6_15) (fun _ _ => ⟨rfl, e0, (by decide : 0 + 0 ≤ _), (by decide : 0 + 0 ≤ _)⟩)
    dsimp only [Pt.U, Pt.locs, Pt.cells, Pt.slots] at X22 l22 y22 z22 st22 hQ22
    subst l22 y22 z22
    have X22 : Stand p l e _ _ m _ below meth c T22 _ 0 0 := X22
    obtain ⟨rfl, Nq22, eq22⟩ := hQ22
    have Nf22 := Fr.app Nf0 Nq22
    obtain ⟨fs, hr, hrun, hended, hW, hsame⟩ := X22.leave (v := some (.int (own_sgn (lx - ly)))) (fun h => by rw [Bd.returns] at h; cases h)
    refine ⟨_, _, hGl _ (kn21 _ (st22 _ (retI X22 hx Bd.returns (hb hby d6_18) hr))), hrun, hended, _, _, rfl, ?_, ⟨_, rfl⟩, hW, hsame.mono (by decide) (by decide)⟩
    show Q6_0 Z xx yy lx ly rs kx ky xa0 xa1 xa2 xb0 xb1 xb2 h0 n0 _ T22.heap _
    rw [eq22]
    exact ⟨by rw [own_step, if_neg hc2], Nf22, rfl⟩

theorem ef_rm6_1 (m : MethodId) (x0 : Addr) (x1 : Addr) (x3 : Int32) (x4 : Int32) (x5 : Int32) : entryFrame m #[(.ref x0), (.ref x1), (.int (1 : Int32)), (.int x3), (.int x4), (.int x5)] 6 = mkF m 0 #[.val (.ref x0), .val (.ref x1), .val (.int (1 : Int32)), .val (.int x3), .val (.int x4), .val (.int x5)] [] := by first | (simp [entryFrame, mkF, argsToLocals, Value.category]; done) | rfl
def Q6_1 (Z : State) (xx : Addr) (yy : Addr) (lx : Int32) (ly : Int32) (rs : Int32) (kx : ClassId) (ky : ClassId) (xa0 : Int32) (xa1 : Int32) (xa2 : Int32) (xb0 : Int32) (xb1 : Int32) (xb2 : Int32) (h0 : Heap) (n0 : Nat) (v : Option Value) (h : Heap) (L : List Loc) : Prop := v = some (.int (own_step (1 : Int32) lx ly rs xa1 xb1)) ∧ Fr n0 L ∧ h = h0
theorem rm6_1 (l : Launch) (Z : State) (a0 : Array Value) (hw : ∀ d ∈ tables_1, d.before a0 Z = true) (ws : List Jvm.Cond) (xx : Addr) (yy : Addr) (lx : Int32) (ly : Int32) (rs : Int32) (kx : ClassId) (ky : ClassId) (xa0 : Int32) (xa1 : Int32) (xa2 : Int32) (xb0 : Int32) (xb1 : Int32) (xb2 : Int32) (h0 : Heap) (n0 : Nat) (Z0 : n0 ≤ h0.size) (Ax : Arv Z h0 xx kx .char (3 : Int32) [(.int xa0), (.int xa1), (.int xa2)] (.int (0 : Int32))) (Ay : Arv Z h0 yy ky .char (3 : Int32) [(.int xb0), (.int xb1), (.int xb2)] (.int (0 : Int32))) :
    MetFree l mN4 (head1 (Jvm.Cond.code mN4 method_4_code 6 (some .int) :: ws) (own_r 1 0 0 13)) (fun a U => a = #[(.ref xx), (.ref yy), (.int (1 : Int32)), (.int lx), (.int ly), (.int rs)] ∧ Z.Warmed39 U.vm ∧ U.heap = h0) (fun _ _ _ _ _ => True) (fun _ U o U' => ∃ v L, o = .returned v ∧ Q6_1 Z xx yy lx ly rs kx ky xa0 xa1 xa2 xb0 xb1 xb2 h0 n0 v U'.heap L ∧ FrameEnd U o U' L (own_r 1 0 0 13).cells (own_r 1 0 0 13).slots) := by
  refine MetFree.of_bodySF (plainFor_of_name pn_0) hisR ?_
  intro p e s m args below meth c s₁ Bd hml0 hP hK
  obtain ⟨rfl, hZ, hh⟩ := hP
  have hx := Bd.exec
  have hby := Bd.bytes
  have hml : c.maxLocals = 6 := hml0
  have hown : s.vm.findClass "com/example/caddis/caddis/StatementSetComparePinLaw" = some m.cls := findClass_of_methodNamed Bd.named
  have hnm := (name_of_methodNamed Bd.named Bd.method).1
  have X0 : Stand p l e (own_r 1 0 0 13) s m #[(.ref xx), (.ref yy), (.int (1 : Int32)), (.int lx), (.int ly), (.int rs)] below meth c s₁ [] 0 0 := Stand.of_body Bd
  have e0 : s₁.heap = h0 := by rw [← hh, Bd.state]; rfl
  have Nf0 := Fr.nil n0
  obtain ⟨Gl, hGl, kn0⟩ := own_gl (p := p) (e := e) (below := below) (s₁ := s₁) (ef_rm6_1 m xx yy lx ly rs)
  have kn1 : ∀ t, own_S p e below s₁ (mkF m 2 #[.val (.ref xx), .val (.ref yy), .val (.int 1), .val (.int lx), .val (.int ly), .val (.int rs)] [(.int lx), (.int 1)]) t → Gl t := fun t kt => kn0 t (by
    show own_S p e below s₁ (mkF m 0 #[.val (.ref xx), .val (.ref yy), .val (.int 1), .val (.int lx), .val (.int ly), .val (.int rs)] []) _
    refine XS.iloadN X0.here hx rfl (hb hby d6_0) rfl ?_
    refine XS.iloadN X0.here hx rfl (hb hby d6_1) rfl ?_
    exact kt)
  by_cases hc2 : (1 : Int32) < lx
  · have kn2 : ∀ t, own_S p e below s₁ (mkF m 8 #[.val (.ref xx), .val (.ref yy), .val (.int 1), .val (.int lx), .val (.int ly), .val (.int rs)] [(.int ly), (.int 1)]) t → Gl t := fun t kt => kn1 t (by
      show own_S p e below s₁ (mkF m 2 #[.val (.ref xx), .val (.ref yy), .val (.int 1), .val (.int lx), .val (.int ly), .val (.int rs)] [(.int lx), (.int 1)]) _
      refine XS.icmpNo X0.here hx rfl (hb hby d6_2) rfl (tlt hc2).2.1 ?_
      refine XS.iloadN X0.here hx rfl (hb hby d6_5) rfl ?_
      refine XS.iload X0.here hx rfl (hb hby d6_6) rfl ?_
      exact kt)
    by_cases hc8 : (1 : Int32) < ly
    · have kn3 : ∀ t, own_S p e below s₁ (mkF m 21 #[.val (.ref xx), .val (.ref yy), .val (.int 1), .val (.int lx), .val (.int ly), .val (.int rs)] [(.int 1), (.ref xx)]) t → Gl t := fun t kt => kn2 t (by
        show own_S p e below s₁ (mkF m 8 #[.val (.ref xx), .val (.ref yy), .val (.int 1), .val (.int lx), .val (.int ly), .val (.int rs)] [(.int ly), (.int 1)]) _
        refine XS.icmpYes X0.here hx rfl (pc0 := 8) (pc' := 19) rfl (hb hby d6_8) rfl (tlt hc8).1 (by decide) (by decide) ?_
        refine XS.aloadN X0.here hx rfl (hb hby d6_19) rfl rfl ?_
        refine XS.iloadN X0.here hx rfl (hb hby d6_20) rfl ?_
        exact kt)
      obtain ⟨cl4, Ar4, q4, Sz4, Ng4, Hs4, Gs4⟩ := id Ax
      have hin4 : ¬ ((1 : Int32) < 0 ∨ cl4.slots.size ≤ ((1 : Int32)).toNatClampNeg) := inb_of Sz4 ⟨by decide, by decide⟩
      have hat4 : cl4.slots[((1 : Int32)).toNatClampNeg]? = some (.int xa1) := Hs4.at hin4 rfl
      have kn5 : ∀ t, own_S p e below s₁ (mkF m 24 #[.val (.ref xx), .val (.ref yy), .val (.int 1), .val (.int lx), .val (.int ly), .val (.int rs)] [(.int 1), (.ref yy), (.int xa1)]) t → Gl t := fun t kt => kn3 t (by
        show own_S p e below s₁ (mkF m 21 #[.val (.ref xx), .val (.ref yy), .val (.int 1), .val (.int lx), .val (.int ly), .val (.int rs)] [(.int 1), (.ref xx)]) _
        refine X0.caload hx (j := (1 : Int32)) (v := (.int xa1)) (by rw [e0]; exact Ar4.1) (State.isArrayOf_alike hZ.alike Ar4.2.1) Ar4.2.2 hin4 hat4 (g := (mkF m 21 #[.val (.ref xx), .val (.ref yy), .val (.int 1), .val (.int lx), .val (.int ly), .val (.int rs)] [(.int 1), (.ref xx)])) rfl rfl (hb hby d6_21) _ ?_
        refine XS.aloadN X0.here hx rfl (hb hby d6_22) rfl rfl ?_
        refine XS.iloadN X0.here hx rfl (hb hby d6_23) rfl ?_
        exact kt)
      obtain ⟨cl6, Ar6, q6, Sz6, Ng6, Hs6, Gs6⟩ := id Ay
      have hin6 : ¬ ((1 : Int32) < 0 ∨ cl6.slots.size ≤ ((1 : Int32)).toNatClampNeg) := inb_of Sz6 ⟨by decide, by decide⟩
      have hat6 : cl6.slots[((1 : Int32)).toNatClampNeg]? = some (.int xb1) := Hs6.at hin6 rfl
      have kn7 : ∀ t, own_S p e below s₁ (mkF m 25 #[.val (.ref xx), .val (.ref yy), .val (.int 1), .val (.int lx), .val (.int ly), .val (.int rs)] [(.int xb1), (.int xa1)]) t → Gl t := fun t kt => kn5 t (by
        show own_S p e below s₁ (mkF m 24 #[.val (.ref xx), .val (.ref yy), .val (.int 1), .val (.int lx), .val (.int ly), .val (.int rs)] [(.int 1), (.ref yy), (.int xa1)]) _
        refine X0.caload hx (j := (1 : Int32)) (v := (.int xb1)) (by rw [e0]; exact Ar6.1) (State.isArrayOf_alike hZ.alike Ar6.2.1) Ar6.2.2 hin6 hat6 (g := (mkF m 24 #[.val (.ref xx), .val (.ref yy), .val (.int 1), .val (.int lx), .val (.int ly), .val (.int rs)] [(.int 1), (.ref yy), (.int xa1)])) rfl rfl (hb hby d6_24) _ ?_
        exact kt)
      by_cases hc25 : xa1 = xb1
      · have kn8 : ∀ t, own_S p e below s₁ (mkF m 47 #[.val (.ref xx), .val (.ref yy), .val (.int 1), .val (.int lx), .val (.int ly), .val (.int rs)] [(.int rs)]) t → Gl t := fun t kt => kn7 t (by
          show own_S p e below s₁ (mkF m 25 #[.val (.ref xx), .val (.ref yy), .val (.int 1), .val (.int lx), .val (.int ly), .val (.int rs)] [(.int xb1), (.int xa1)]) _
          refine XS.icmpYes X0.here hx rfl (pc0 := 25) (pc' := 45) rfl (hb hby d6_25) rfl (teq hc25).1 (by decide) (by decide) ?_
          refine XS.iload X0.here hx rfl (hb hby d6_45) rfl ?_
          exact kt)
        obtain ⟨fs, hr, hrun, hended, hW, hsame⟩ := X0.leave (v := some (.int rs)) (fun h => by rw [Bd.returns] at h; cases h)
        refine ⟨_, _, hGl _ (kn8 _ (retI X0 hx Bd.returns (hb hby d6_47) hr)), hrun, hended, _, _, rfl, ?_, ⟨_, rfl⟩, hW, hsame.mono (by decide) (by decide)⟩
        show Q6_1 Z xx yy lx ly rs kx ky xa0 xa1 xa2 xb0 xb1 xb2 h0 n0 _ s₁.heap _
        rw [e0]
        exact ⟨by rw [own_step, if_pos hc2, if_pos hc8, if_pos hc25], Nf0, rfl⟩
      · have kn9 : ∀ t, own_S p e below s₁ (mkF m 30 #[.val (.ref xx), .val (.ref yy), .val (.int 1), .val (.int lx), .val (.int ly), .val (.int rs)] [(.int 1), (.ref xx)]) t → Gl t := fun t kt => kn7 t (by
          show own_S p e below s₁ (mkF m 25 #[.val (.ref xx), .val (.ref yy), .val (.int 1), .val (.int lx), .val (.int ly), .val (.int rs)] [(.int xb1), (.int xa1)]) _
          refine XS.icmpNo X0.here hx rfl (hb hby d6_25) rfl (feq hc25).1 ?_
          refine XS.aloadN X0.here hx rfl (hb hby d6_28) rfl rfl ?_
          refine XS.iloadN X0.here hx rfl (hb hby d6_29) rfl ?_
          exact kt)
        obtain ⟨cl10, Ar10, q10, Sz10, Ng10, Hs10, Gs10⟩ := id Ax
        have hin10 : ¬ ((1 : Int32) < 0 ∨ cl10.slots.size ≤ ((1 : Int32)).toNatClampNeg) := inb_of Sz10 ⟨by decide, by decide⟩
        have hat10 : cl10.slots[((1 : Int32)).toNatClampNeg]? = some (.int xa1) := Hs10.at hin10 rfl
        have kn11 : ∀ t, own_S p e below s₁ (mkF m 31 #[.val (.ref xx), .val (.ref yy), .val (.int 1), .val (.int lx), .val (.int ly), .val (.int rs)] [(.int xa1)]) t → Gl t := fun t kt => kn9 t (by
          show own_S p e below s₁ (mkF m 30 #[.val (.ref xx), .val (.ref yy), .val (.int 1), .val (.int lx), .val (.int ly), .val (.int rs)] [(.int 1), (.ref xx)]) _
          refine X0.caload hx (j := (1 : Int32)) (v := (.int xa1)) (by rw [e0]; exact Ar10.1) (State.isArrayOf_alike hZ.alike Ar10.2.1) Ar10.2.2 hin10 hat10 (g := (mkF m 30 #[.val (.ref xx), .val (.ref yy), .val (.int 1), .val (.int lx), .val (.int ly), .val (.int rs)] [(.int 1), (.ref xx)])) rfl rfl (hb hby d6_30) _ ?_
          exact kt)
        obtain ⟨_, _, ⟨T12, L12, cc12, ss12⟩, -, X12, ⟨Lc12, hQ12, l12, y12, z12⟩, st12⟩ := Jvm.LawKit.callS X0 hx (y := mN1) hown (mvT hZ (own_w hw 62 rfl)) (mvT hZ (own_w hw 63 rfl)) (mvT hZ (own_w hw 4 rfl)) (mvT hZ (own_w hw 64 rfl)) (by decide) (backOf (W := 0) (rm14 l Z a0 hw [] xa1  h0 n0 Z0 ) hZ (own_w hw 64 rfl) (own_w hw 4 rfl) (by decide) (by decide)) (g := (mkF m 31 #[.val (.ref xx), .val (.ref yy), .val (.int 1), .val (.int lx), .val (.int ly), .val (.int rs)] [(.int xa1)])) rfl (by rw [hml]; rfl) (argsL := [(.int xa1)]) (rest := []) (lenOf pd_0 rfl) rfl (by show 2 * 0 + _ ≤ _; exact Nat.le_of_eq rfl) (hb hby d6_31) (fun _ _ => ⟨rfl, e0, (by decide : 0 + 0 ≤ _), (by decide : 0 + 0 ≤ _)⟩)
        dsimp only [Pt.U, Pt.locs, Pt.cells, Pt.slots] at X12 l12 y12 z12 st12 hQ12
        subst l12 y12 z12
        have X12 : Stand p l e _ _ m _ below meth c T12 _ 0 0 := X12
        obtain ⟨rfl, Nq12, eq12⟩ := hQ12
        have Nf12 := Fr.app Nf0 Nq12
        have kn13 : ∀ t, own_S p e below T12 (mkF m 36 #[.val (.ref xx), .val (.ref yy), .val (.int 1), .val (.int lx), .val (.int ly), .val (.int rs)] [(.int 1), (.ref yy), (.int (own_lift xa1))]) t → Gl t := fun t kt => kn11 t (st12 _ (by
          show own_S p e below T12 (mkF m 34 #[.val (.ref xx), .val (.ref yy), .val (.int 1), .val (.int lx), .val (.int ly), .val (.int rs)] [(.int (own_lift xa1))]) _
          refine XS.aloadN X12.here hx rfl (hb hby d6_34) rfl rfl ?_
          refine XS.iloadN X12.here hx rfl (hb hby d6_35) rfl ?_
          exact kt))
        obtain ⟨cl14, Ar14, q14, Sz14, Ng14, Hs14, Gs14⟩ := id Ay
        have hin14 : ¬ ((1 : Int32) < 0 ∨ cl14.slots.size ≤ ((1 : Int32)).toNatClampNeg) := inb_of Sz14 ⟨by decide, by decide⟩
        have hat14 : cl14.slots[((1 : Int32)).toNatClampNeg]? = some (.int xb1) := Hs14.at hin14 rfl
        have kn15 : ∀ t, own_S p e below T12 (mkF m 37 #[.val (.ref xx), .val (.ref yy), .val (.int 1), .val (.int lx), .val (.int ly), .val (.int rs)] [(.int xb1), (.int (own_lift xa1))]) t → Gl t := fun t kt => kn13 t (by
          show own_S p e below T12 (mkF m 36 #[.val (.ref xx), .val (.ref yy), .val (.int 1), .val (.int lx), .val (.int ly), .val (.int rs)] [(.int 1), (.ref yy), (.int (own_lift xa1))]) _
          refine X12.caload hx (j := (1 : Int32)) (v := (.int xb1)) (by rw [eq12]; exact Ar14.1) (State.isArrayOf_alike hZ.alike Ar14.2.1) Ar14.2.2 hin14 hat14 (g := (mkF m 36 #[.val (.ref xx), .val (.ref yy), .val (.int 1), .val (.int lx), .val (.int ly), .val (.int rs)] [(.int 1), (.ref yy), (.int (own_lift xa1))])) rfl rfl (hb hby d6_36) _ ?_
          exact kt)
        obtain ⟨_, _, ⟨T16, L16, cc16, ss16⟩, -, X16, ⟨Lc16, hQ16, l16, y16, z16⟩, st16⟩ := Jvm.LawKit.callS X12 hx (y := mN1) hown (mvT hZ (own_w hw 62 rfl)) (mvT hZ (own_w hw 63 rfl)) (mvT hZ (own_w hw 4 rfl)) (mvT hZ (own_w hw 64 rfl)) (by decide) (backOf (W := 1) (rm14 l Z a0 hw [] xb1  h0 n0 Z0 ) hZ (own_w hw 64 rfl) (own_w hw 4 rfl) (by decide) (by decide)) (g := (mkF m 37 #[.val (.ref xx), .val (.ref yy), .val (.int 1), .val (.int lx), .val (.int ly), .val (.int rs)] [(.int xb1), (.int (own_lift xa1))])) rfl (by rw [hml]; rfl) (argsL := [(.int xb1)]) (rest := [(.int (own_lift xa1))]) (lenOf pd_0 rfl) rfl (by show 2 * 0 + _ ≤ _; exact Nat.le_of_eq rfl) (hb hby d6_37) (fun _ _ => ⟨rfl, eq12, (by decide : 0 + 0 ≤ _), (by decide : 0 + 0 ≤ _)⟩)
        dsimp only [Pt.U, Pt.locs, Pt.cells, Pt.slots] at X16 l16 y16 z16 st16 hQ16
        subst l16 y16 z16
        have X16 : Stand p l e _ _ m _ below meth c T16 _ 0 0 := X16
        obtain ⟨rfl, Nq16, eq16⟩ := hQ16
        have Nf16 := Fr.app Nf12 Nq16
        have kn17 : ∀ t, own_S p e below T16 (mkF m 41 #[.val (.ref xx), .val (.ref yy), .val (.int 1), .val (.int lx), .val (.int ly), .val (.int rs)] [(.int ((own_lift xa1) - (own_lift xb1)))]) t → Gl t := fun t kt => kn15 t (st16 _ (by
          show own_S p e below T16 (mkF m 40 #[.val (.ref xx), .val (.ref yy), .val (.int 1), .val (.int lx), .val (.int ly), .val (.int rs)] [(.int (own_lift xb1)), (.int (own_lift xa1))]) _
          refine XS.isub X16.here hx rfl (hb hby d6_40) rfl ?_
          exact kt))
        obtain ⟨_, _, ⟨T18, L18, cc18, ss18⟩, -, X18, ⟨Lc18, hQ18, l18, y18, z18⟩, st18⟩ := Jvm.LawKit.callS X16 hx (y := mN0) hown (mvT hZ (own_w hw 27 rfl)) (mvT hZ (own_w hw 28 rfl)) (mvT hZ (own_w hw 4 rfl)) (mvT hZ (own_w hw 29 rfl)) (by decide) (backOf (W := 0) (rm5 l Z a0 hw [] ((own_lift xa1) - (own_lift xb1))  h0 n0 Z0 ) hZ (own_w hw 29 rfl) (own_w hw 4 rfl) (by decide) (by decide)) (g := (mkF m 41 #[.val (.ref xx), .val (.ref yy), .val (.int 1), .val (.int lx), .val (.int ly), .val (.int rs)] [(.int ((own_lift xa1) - (own_lift xb1)))])) rfl (by rw [hml]; rfl) (argsL := [(.int ((own_lift xa1) - (own_lift xb1)))]) (rest := []) (lenOf pd_1 rfl) rfl (by show 2 * 0 + _ ≤ _; exact Nat.le_of_eq rfl) (hb hby d6_41) (fun _ _ => ⟨rfl, eq16, (by decide : 0 + 0 ≤ _), (by decide : 0 + 0 ≤ _)⟩)
        dsimp only [Pt.U, Pt.locs, Pt.cells, Pt.slots] at X18 l18 y18 z18 st18 hQ18
        subst l18 y18 z18
        have X18 : Stand p l e _ _ m _ below meth c T18 _ 0 0 := X18
        obtain ⟨rfl, Nq18, eq18⟩ := hQ18
        have Nf18 := Fr.app Nf16 Nq18
        obtain ⟨fs, hr, hrun, hended, hW, hsame⟩ := X18.leave (v := some (.int (own_sgn ((own_lift xa1) - (own_lift xb1))))) (fun h => by rw [Bd.returns] at h; cases h)
        refine ⟨_, _, hGl _ (kn17 _ (st18 _ (retI X18 hx Bd.returns (hb hby d6_44) hr))), hrun, hended, _, _, rfl, ?_, ⟨_, rfl⟩, hW, hsame.mono (by decide) (by decide)⟩
        show Q6_1 Z xx yy lx ly rs kx ky xa0 xa1 xa2 xb0 xb1 xb2 h0 n0 _ T18.heap _
        rw [eq18]
        exact ⟨by rw [own_step, if_pos hc2, if_pos hc8, if_neg hc25], Nf18, rfl⟩
    · have kn19 : ∀ t, own_S p e below s₁ (mkF m 15 #[.val (.ref xx), .val (.ref yy), .val (.int 1), .val (.int lx), .val (.int ly), .val (.int rs)] [(.int (lx - ly))]) t → Gl t := fun t kt => kn2 t (by
        show own_S p e below s₁ (mkF m 8 #[.val (.ref xx), .val (.ref yy), .val (.int 1), .val (.int lx), .val (.int ly), .val (.int rs)] [(.int ly), (.int 1)]) _
        refine XS.icmpNo X0.here hx rfl (hb hby d6_8) rfl (flt hc8).1 ?_
        refine XS.iloadN X0.here hx rfl (hb hby d6_11) rfl ?_
        refine XS.iload X0.here hx rfl (hb hby d6_12) rfl ?_
        refine XS.isub X0.here hx rfl (hb hby d6_14) rfl ?_
        exact kt)
      obtain ⟨_, _, ⟨T20, L20, cc20, ss20⟩, -, X20, ⟨Lc20, hQ20, l20, y20, z20⟩, st20⟩ := Jvm.LawKit.callS X0 hx (y := mN0) hown (mvT hZ (own_w hw 27 rfl)) (mvT hZ (own_w hw 28 rfl)) (mvT hZ (own_w hw 4 rfl)) (mvT hZ (own_w hw 29 rfl)) (by decide) (backOf (W := 0) (rm5 l Z a0 hw [] (lx - ly)  h0 n0 Z0 ) hZ (own_w hw 29 rfl) (own_w hw 4 rfl) (by decide) (by decide)) (g := (mkF m 15 #[.val (.ref xx), .val (.ref yy), .val (.int 1), .val (.int lx), .val (.int ly), .val (.int rs)] [(.int (lx - ly))])) rfl (by rw [hml]; rfl) (argsL := [(.int (lx - ly))]) (rest := []) (lenOf pd_1 rfl) rfl (by show 2 * 0 + _ ≤ _; exact Nat.le_of_eq rfl) (hb hby d6_15) (fun _ _ => ⟨rfl, e0, (by decide : 0 + 0 ≤ _), (by decide : 0 + 0 ≤ _)⟩)
      dsimp only [Pt.U, Pt.locs, Pt.cells, Pt.slots] at X20 l20 y20 z20 st20 hQ20
      subst l20 y20 z20
      have X20 : Stand p l e _ _ m _ below meth c T20 _ 0 0 := X20
      obtain ⟨rfl, Nq20, eq20⟩ := hQ20
      have Nf20 := Fr.app Nf0 Nq20
      obtain ⟨fs, hr, hrun, hended, hW, hsame⟩ := X20.leave (v := some (.int (own_sgn (lx - ly)))) (fun h => by rw [Bd.returns] at h; cases h)
      refine ⟨_, _, hGl _ (kn19 _ (st20 _ (retI X20 hx Bd.returns (hb hby d6_18) hr))), hrun, hended, _, _, rfl, ?_, ⟨_, rfl⟩, hW, hsame.mono (by decide) (by decide)⟩
      show Q6_1 Z xx yy lx ly rs kx ky xa0 xa1 xa2 xb0 xb1 xb2 h0 n0 _ T20.heap _
      rw [eq20]
      exact ⟨by rw [own_step, if_pos hc2, if_neg hc8], Nf20, rfl⟩
  · have kn21 : ∀ t, own_S p e below s₁ (mkF m 15 #[.val (.ref xx), .val (.ref yy), .val (.int 1), .val (.int lx), .val (.int ly), .val (.int rs)] [(.int (lx - ly))]) t → Gl t := fun t kt => kn1 t (by
      show own_S p e below s₁ (mkF m 2 #[.val (.ref xx), .val (.ref yy), .val (.int 1), .val (.int lx), .val (.int ly), .val (.int rs)] [(.int lx), (.int 1)]) _
      refine XS.icmpYes X0.here hx rfl (pc0 := 2) (pc' := 11) rfl (hb hby d6_2) rfl (flt hc2).2.1 (by decide) (by decide) ?_
      refine XS.iloadN X0.here hx rfl (hb hby d6_11) rfl ?_
      refine XS.iload X0.here hx rfl (hb hby d6_12) rfl ?_
      refine XS.isub X0.here hx rfl (hb hby d6_14) rfl ?_
      exact kt)
    obtain ⟨_, _, ⟨T22, L22, cc22, ss22⟩, -, X22, ⟨Lc22, hQ22, l22, y22, z22⟩, st22⟩ := Jvm.LawKit.callS X0 hx (y := mN0) hown (mvT hZ (own_w hw 27 rfl)) (mvT hZ (own_w hw 28 rfl)) (mvT hZ (own_w hw 4 rfl)) (mvT hZ (own_w hw 29 rfl)) (by decide) (backOf (W := 0) (rm5 l Z a0 hw [] (lx - ly)  h0 n0 Z0 ) hZ (own_w hw 29 rfl) (own_w hw 4 rfl) (by decide) (by decide)) (g := (mkF m 15 #[.val (.ref xx), .val (.ref yy), .val (.int 1), .val (.int lx), .val (.int ly), .val (.int rs)] [(.int (lx - ly))])) rfl (by rw [hml]; rfl) (argsL := [(.int (lx - ly))]) (rest := []) (lenOf pd_1 rfl) rfl (by show 2 * 0 + _ ≤ _; exact Nat.le_of_eq rfl) (hb hby d6_15) (fun _ _ => ⟨rfl, e0, (by decide : 0 + 0 ≤ _), (by decide : 0 + 0 ≤ _)⟩)
    dsimp only [Pt.U, Pt.locs, Pt.cells, Pt.slots] at X22 l22 y22 z22 st22 hQ22
    subst l22 y22 z22
    have X22 : Stand p l e _ _ m _ below meth c T22 _ 0 0 := X22
    obtain ⟨rfl, Nq22, eq22⟩ := hQ22
    have Nf22 := Fr.app Nf0 Nq22
    obtain ⟨fs, hr, hrun, hended, hW, hsame⟩ := X22.leave (v := some (.int (own_sgn (lx - ly)))) (fun h => by rw [Bd.returns] at h; cases h)
    refine ⟨_, _, hGl _ (kn21 _ (st22 _ (retI X22 hx Bd.returns (hb hby d6_18) hr))), hrun, hended, _, _, rfl, ?_, ⟨_, rfl⟩, hW, hsame.mono (by decide) (by decide)⟩
    show Q6_1 Z xx yy lx ly rs kx ky xa0 xa1 xa2 xb0 xb1 xb2 h0 n0 _ T22.heap _
    rw [eq22]
    exact ⟨by rw [own_step, if_neg hc2], Nf22, rfl⟩

theorem ef_rm6_2 (m : MethodId) (x0 : Addr) (x1 : Addr) (x3 : Int32) (x4 : Int32) (x5 : Int32) : entryFrame m #[(.ref x0), (.ref x1), (.int (2 : Int32)), (.int x3), (.int x4), (.int x5)] 6 = mkF m 0 #[.val (.ref x0), .val (.ref x1), .val (.int (2 : Int32)), .val (.int x3), .val (.int x4), .val (.int x5)] [] := by first | (simp [entryFrame, mkF, argsToLocals, Value.category]; done) | rfl
def Q6_2 (Z : State) (xx : Addr) (yy : Addr) (lx : Int32) (ly : Int32) (rs : Int32) (kx : ClassId) (ky : ClassId) (xa0 : Int32) (xa1 : Int32) (xa2 : Int32) (xb0 : Int32) (xb1 : Int32) (xb2 : Int32) (h0 : Heap) (n0 : Nat) (v : Option Value) (h : Heap) (L : List Loc) : Prop := v = some (.int (own_step (2 : Int32) lx ly rs xa2 xb2)) ∧ Fr n0 L ∧ h = h0
theorem rm6_2 (l : Launch) (Z : State) (a0 : Array Value) (hw : ∀ d ∈ tables_1, d.before a0 Z = true) (ws : List Jvm.Cond) (xx : Addr) (yy : Addr) (lx : Int32) (ly : Int32) (rs : Int32) (kx : ClassId) (ky : ClassId) (xa0 : Int32) (xa1 : Int32) (xa2 : Int32) (xb0 : Int32) (xb1 : Int32) (xb2 : Int32) (h0 : Heap) (n0 : Nat) (Z0 : n0 ≤ h0.size) (Ax : Arv Z h0 xx kx .char (3 : Int32) [(.int xa0), (.int xa1), (.int xa2)] (.int (0 : Int32))) (Ay : Arv Z h0 yy ky .char (3 : Int32) [(.int xb0), (.int xb1), (.int xb2)] (.int (0 : Int32))) :
    MetFree l mN4 (head1 (Jvm.Cond.code mN4 method_4_code 6 (some .int) :: ws) (own_r 1 0 0 13)) (fun a U => a = #[(.ref xx), (.ref yy), (.int (2 : Int32)), (.int lx), (.int ly), (.int rs)] ∧ Z.Warmed39 U.vm ∧ U.heap = h0) (fun _ _ _ _ _ => True) (fun _ U o U' => ∃ v L, o = .returned v ∧ Q6_2 Z xx yy lx ly rs kx ky xa0 xa1 xa2 xb0 xb1 xb2 h0 n0 v U'.heap L ∧ FrameEnd U o U' L (own_r 1 0 0 13).cells (own_r 1 0 0 13).slots) := by
  refine MetFree.of_bodySF (plainFor_of_name pn_0) hisR ?_
  intro p e s m args below meth c s₁ Bd hml0 hP hK
  obtain ⟨rfl, hZ, hh⟩ := hP
  have hx := Bd.exec
  have hby := Bd.bytes
  have hml : c.maxLocals = 6 := hml0
  have hown : s.vm.findClass "com/example/caddis/caddis/StatementSetComparePinLaw" = some m.cls := findClass_of_methodNamed Bd.named
  have hnm := (name_of_methodNamed Bd.named Bd.method).1
  have X0 : Stand p l e (own_r 1 0 0 13) s m #[(.ref xx), (.ref yy), (.int (2 : Int32)), (.int lx), (.int ly), (.int rs)] below meth c s₁ [] 0 0 := Stand.of_body Bd
  have e0 : s₁.heap = h0 := by rw [← hh, Bd.state]; rfl
  have Nf0 := Fr.nil n0
  obtain ⟨Gl, hGl, kn0⟩ := own_gl (p := p) (e := e) (below := below) (s₁ := s₁) (ef_rm6_2 m xx yy lx ly rs)
  have kn1 : ∀ t, own_S p e below s₁ (mkF m 2 #[.val (.ref xx), .val (.ref yy), .val (.int 2), .val (.int lx), .val (.int ly), .val (.int rs)] [(.int lx), (.int 2)]) t → Gl t := fun t kt => kn0 t (by
    show own_S p e below s₁ (mkF m 0 #[.val (.ref xx), .val (.ref yy), .val (.int 2), .val (.int lx), .val (.int ly), .val (.int rs)] []) _
    refine XS.iloadN X0.here hx rfl (hb hby d6_0) rfl ?_
    refine XS.iloadN X0.here hx rfl (hb hby d6_1) rfl ?_
    exact kt)
  by_cases hc2 : (2 : Int32) < lx
  · have kn2 : ∀ t, own_S p e below s₁ (mkF m 8 #[.val (.ref xx), .val (.ref yy), .val (.int 2), .val (.int lx), .val (.int ly), .val (.int rs)] [(.int ly), (.int 2)]) t → Gl t := fun t kt => kn1 t (by
      show own_S p e below s₁ (mkF m 2 #[.val (.ref xx), .val (.ref yy), .val (.int 2), .val (.int lx), .val (.int ly), .val (.int rs)] [(.int lx), (.int 2)]) _
      refine XS.icmpNo X0.here hx rfl (hb hby d6_2) rfl (tlt hc2).2.1 ?_
      refine XS.iloadN X0.here hx rfl (hb hby d6_5) rfl ?_
      refine XS.iload X0.here hx rfl (hb hby d6_6) rfl ?_
      exact kt)
    by_cases hc8 : (2 : Int32) < ly
    · have kn3 : ∀ t, own_S p e below s₁ (mkF m 21 #[.val (.ref xx), .val (.ref yy), .val (.int 2), .val (.int lx), .val (.int ly), .val (.int rs)] [(.int 2), (.ref xx)]) t → Gl t := fun t kt => kn2 t (by
        show own_S p e below s₁ (mkF m 8 #[.val (.ref xx), .val (.ref yy), .val (.int 2), .val (.int lx), .val (.int ly), .val (.int rs)] [(.int ly), (.int 2)]) _
        refine XS.icmpYes X0.here hx rfl (pc0 := 8) (pc' := 19) rfl (hb hby d6_8) rfl (tlt hc8).1 (by decide) (by decide) ?_
        refine XS.aloadN X0.here hx rfl (hb hby d6_19) rfl rfl ?_
        refine XS.iloadN X0.here hx rfl (hb hby d6_20) rfl ?_
        exact kt)
      obtain ⟨cl4, Ar4, q4, Sz4, Ng4, Hs4, Gs4⟩ := id Ax
      have hin4 : ¬ ((2 : Int32) < 0 ∨ cl4.slots.size ≤ ((2 : Int32)).toNatClampNeg) := inb_of Sz4 ⟨by decide, by decide⟩
      have hat4 : cl4.slots[((2 : Int32)).toNatClampNeg]? = some (.int xa2) := Hs4.at hin4 rfl
      have kn5 : ∀ t, own_S p e below s₁ (mkF m 24 #[.val (.ref xx), .val (.ref yy), .val (.int 2), .val (.int lx), .val (.int ly), .val (.int rs)] [(.int 2), (.ref yy), (.int xa2)]) t → Gl t := fun t kt => kn3 t (by
        show own_S p e below s₁ (mkF m 21 #[.val (.ref xx), .val (.ref yy), .val (.int 2), .val (.int lx), .val (.int ly), .val (.int rs)] [(.int 2), (.ref xx)]) _
        refine X0.caload hx (j := (2 : Int32)) (v := (.int xa2)) (by rw [e0]; exact Ar4.1) (State.isArrayOf_alike hZ.alike Ar4.2.1) Ar4.2.2 hin4 hat4 (g := (mkF m 21 #[.val (.ref xx), .val (.ref yy), .val (.int 2), .val (.int lx), .val (.int ly), .val (.int rs)] [(.int 2), (.ref xx)])) rfl rfl (hb hby d6_21) _ ?_
        refine XS.aloadN X0.here hx rfl (hb hby d6_22) rfl rfl ?_
        refine XS.iloadN X0.here hx rfl (hb hby d6_23) rfl ?_
        exact kt)
      obtain ⟨cl6, Ar6, q6, Sz6, Ng6, Hs6, Gs6⟩ := id Ay
      have hin6 : ¬ ((2 : Int32) < 0 ∨ cl6.slots.size ≤ ((2 : Int32)).toNatClampNeg) := inb_of Sz6 ⟨by decide, by decide⟩
      have hat6 : cl6.slots[((2 : Int32)).toNatClampNeg]? = some (.int xb2) := Hs6.at hin6 rfl
      have kn7 : ∀ t, own_S p e below s₁ (mkF m 25 #[.val (.ref xx), .val (.ref yy), .val (.int 2), .val (.int lx), .val (.int ly), .val (.int rs)] [(.int xb2), (.int xa2)]) t → Gl t := fun t kt => kn5 t (by
        show own_S p e below s₁ (mkF m 24 #[.val (.ref xx), .val (.ref yy), .val (.int 2), .val (.int lx), .val (.int ly), .val (.int rs)] [(.int 2), (.ref yy), (.int xa2)]) _
        refine X0.caload hx (j := (2 : Int32)) (v := (.int xb2)) (by rw [e0]; exact Ar6.1) (State.isArrayOf_alike hZ.alike Ar6.2.1) Ar6.2.2 hin6 hat6 (g := (mkF m 24 #[.val (.ref xx), .val (.ref yy), .val (.int 2), .val (.int lx), .val (.int ly), .val (.int rs)] [(.int 2), (.ref yy), (.int xa2)])) rfl rfl (hb hby d6_24) _ ?_
        exact kt)
      by_cases hc25 : xa2 = xb2
      · have kn8 : ∀ t, own_S p e below s₁ (mkF m 47 #[.val (.ref xx), .val (.ref yy), .val (.int 2), .val (.int lx), .val (.int ly), .val (.int rs)] [(.int rs)]) t → Gl t := fun t kt => kn7 t (by
          show own_S p e below s₁ (mkF m 25 #[.val (.ref xx), .val (.ref yy), .val (.int 2), .val (.int lx), .val (.int ly), .val (.int rs)] [(.int xb2), (.int xa2)]) _
          refine XS.icmpYes X0.here hx rfl (pc0 := 25) (pc' := 45) rfl (hb hby d6_25) rfl (teq hc25).1 (by decide) (by decide) ?_
          refine XS.iload X0.here hx rfl (hb hby d6_45) rfl ?_
          exact kt)
        obtain ⟨fs, hr, hrun, hended, hW, hsame⟩ := X0.leave (v := some (.int rs)) (fun h => by rw [Bd.returns] at h; cases h)
        refine ⟨_, _, hGl _ (kn8 _ (retI X0 hx Bd.returns (hb hby d6_47) hr)), hrun, hended, _, _, rfl, ?_, ⟨_, rfl⟩, hW, hsame.mono (by decide) (by decide)⟩
        show Q6_2 Z xx yy lx ly rs kx ky xa0 xa1 xa2 xb0 xb1 xb2 h0 n0 _ s₁.heap _
        rw [e0]
        exact ⟨by rw [own_step, if_pos hc2, if_pos hc8, if_pos hc25], Nf0, rfl⟩
      · have kn9 : ∀ t, own_S p e below s₁ (mkF m 30 #[.val (.ref xx), .val (.ref yy), .val (.int 2), .val (.int lx), .val (.int ly), .val (.int rs)] [(.int 2), (.ref xx)]) t → Gl t := fun t kt => kn7 t (by
          show own_S p e below s₁ (mkF m 25 #[.val (.ref xx), .val (.ref yy), .val (.int 2), .val (.int lx), .val (.int ly), .val (.int rs)] [(.int xb2), (.int xa2)]) _
          refine XS.icmpNo X0.here hx rfl (hb hby d6_25) rfl (feq hc25).1 ?_
          refine XS.aloadN X0.here hx rfl (hb hby d6_28) rfl rfl ?_
          refine XS.iloadN X0.here hx rfl (hb hby d6_29) rfl ?_
          exact kt)
        obtain ⟨cl10, Ar10, q10, Sz10, Ng10, Hs10, Gs10⟩ := id Ax
        have hin10 : ¬ ((2 : Int32) < 0 ∨ cl10.slots.size ≤ ((2 : Int32)).toNatClampNeg) := inb_of Sz10 ⟨by decide, by decide⟩
        have hat10 : cl10.slots[((2 : Int32)).toNatClampNeg]? = some (.int xa2) := Hs10.at hin10 rfl
        have kn11 : ∀ t, own_S p e below s₁ (mkF m 31 #[.val (.ref xx), .val (.ref yy), .val (.int 2), .val (.int lx), .val (.int ly), .val (.int rs)] [(.int xa2)]) t → Gl t := fun t kt => kn9 t (by
          show own_S p e below s₁ (mkF m 30 #[.val (.ref xx), .val (.ref yy), .val (.int 2), .val (.int lx), .val (.int ly), .val (.int rs)] [(.int 2), (.ref xx)]) _
          refine X0.caload hx (j := (2 : Int32)) (v := (.int xa2)) (by rw [e0]; exact Ar10.1) (State.isArrayOf_alike hZ.alike Ar10.2.1) Ar10.2.2 hin10 hat10 (g := (mkF m 30 #[.val (.ref xx), .val (.ref yy), .val (.int 2), .val (.int lx), .val (.int ly), .val (.int rs)] [(.int 2), (.ref xx)])) rfl rfl (hb hby d6_30) _ ?_
          exact kt)
        obtain ⟨_, _, ⟨T12, L12, cc12, ss12⟩, -, X12, ⟨Lc12, hQ12, l12, y12, z12⟩, st12⟩ := Jvm.LawKit.callS X0 hx (y := mN1) hown (mvT hZ (own_w hw 62 rfl)) (mvT hZ (own_w hw 63 rfl)) (mvT hZ (own_w hw 4 rfl)) (mvT hZ (own_w hw 64 rfl)) (by decide) (backOf (W := 0) (rm14 l Z a0 hw [] xa2  h0 n0 Z0 ) hZ (own_w hw 64 rfl) (own_w hw 4 rfl) (by decide) (by decide)) (g := (mkF m 31 #[.val (.ref xx), .val (.ref yy), .val (.int 2), .val (.int lx), .val (.int ly), .val (.int rs)] [(.int xa2)])) rfl (by rw [hml]; rfl) (argsL := [(.int xa2)]) (rest := []) (lenOf pd_0 rfl) rfl (by show 2 * 0 + _ ≤ _; exact Nat.le_of_eq rfl) (hb hby d6_31) (fun _ _ => ⟨rfl, e0, (by decide : 0 + 0 ≤ _), (by decide : 0 + 0 ≤ _)⟩)
        dsimp only [Pt.U, Pt.locs, Pt.cells, Pt.slots] at X12 l12 y12 z12 st12 hQ12
        subst l12 y12 z12
        have X12 : Stand p l e _ _ m _ below meth c T12 _ 0 0 := X12
        obtain ⟨rfl, Nq12, eq12⟩ := hQ12
        have Nf12 := Fr.app Nf0 Nq12
        have kn13 : ∀ t, own_S p e below T12 (mkF m 36 #[.val (.ref xx), .val (.ref yy), .val (.int 2), .val (.int lx), .val (.int ly), .val (.int rs)] [(.int 2), (.ref yy), (.int (own_lift xa2))]) t → Gl t := fun t kt => kn11 t (st12 _ (by
          show own_S p e below T12 (mkF m 34 #[.val (.ref xx), .val (.ref yy), .val (.int 2), .val (.int lx), .val (.int ly), .val (.int rs)] [(.int (own_lift xa2))]) _
          refine XS.aloadN X12.here hx rfl (hb hby d6_34) rfl rfl ?_
          refine XS.iloadN X12.here hx rfl (hb hby d6_35) rfl ?_
          exact kt))
        obtain ⟨cl14, Ar14, q14, Sz14, Ng14, Hs14, Gs14⟩ := id Ay
        have hin14 : ¬ ((2 : Int32) < 0 ∨ cl14.slots.size ≤ ((2 : Int32)).toNatClampNeg) := inb_of Sz14 ⟨by decide, by decide⟩
        have hat14 : cl14.slots[((2 : Int32)).toNatClampNeg]? = some (.int xb2) := Hs14.at hin14 rfl
        have kn15 : ∀ t, own_S p e below T12 (mkF m 37 #[.val (.ref xx), .val (.ref yy), .val (.int 2), .val (.int lx), .val (.int ly), .val (.int rs)] [(.int xb2), (.int (own_lift xa2))]) t → Gl t := fun t kt => kn13 t (by
          show own_S p e below T12 (mkF m 36 #[.val (.ref xx), .val (.ref yy), .val (.int 2), .val (.int lx), .val (.int ly), .val (.int rs)] [(.int 2), (.ref yy), (.int (own_lift xa2))]) _
          refine X12.caload hx (j := (2 : Int32)) (v := (.int xb2)) (by rw [eq12]; exact Ar14.1) (State.isArrayOf_alike hZ.alike Ar14.2.1) Ar14.2.2 hin14 hat14 (g := (mkF m 36 #[.val (.ref xx), .val (.ref yy), .val (.int 2), .val (.int lx), .val (.int ly), .val (.int rs)] [(.int 2), (.ref yy), (.int (own_lift xa2))])) rfl rfl (hb hby d6_36) _ ?_
          exact kt)
        obtain ⟨_, _, ⟨T16, L16, cc16, ss16⟩, -, X16, ⟨Lc16, hQ16, l16, y16, z16⟩, st16⟩ := Jvm.LawKit.callS X12 hx (y := mN1) hown (mvT hZ (own_w hw 62 rfl)) (mvT hZ (own_w hw 63 rfl)) (mvT hZ (own_w hw 4 rfl)) (mvT hZ (own_w hw 64 rfl)) (by decide) (backOf (W := 1) (rm14 l Z a0 hw [] xb2  h0 n0 Z0 ) hZ (own_w hw 64 rfl) (own_w hw 4 rfl) (by decide) (by decide)) (g := (mkF m 37 #[.val (.ref xx), .val (.ref yy), .val (.int 2), .val (.int lx), .val (.int ly), .val (.int rs)] [(.int xb2), (.int (own_lift xa2))])) rfl (by rw [hml]; rfl) (argsL := [(.int xb2)]) (rest := [(.int (own_lift xa2))]) (lenOf pd_0 rfl) rfl (by show 2 * 0 + _ ≤ _; exact Nat.le_of_eq rfl) (hb hby d6_37) (fun _ _ => ⟨rfl, eq12, (by decide : 0 + 0 ≤ _), (by decide : 0 + 0 ≤ _)⟩)
        dsimp only [Pt.U, Pt.locs, Pt.cells, Pt.slots] at X16 l16 y16 z16 st16 hQ16
        subst l16 y16 z16
        have X16 : Stand p l e _ _ m _ below meth c T16 _ 0 0 := X16
        obtain ⟨rfl, Nq16, eq16⟩ := hQ16
        have Nf16 := Fr.app Nf12 Nq16
        have kn17 : ∀ t, own_S p e below T16 (mkF m 41 #[.val (.ref xx), .val (.ref yy), .val (.int 2), .val (.int lx), .val (.int ly), .val (.int rs)] [(.int ((own_lift xa2) - (own_lift xb2)))]) t → Gl t := fun t kt => kn15 t (st16 _ (by
          show own_S p e below T16 (mkF m 40 #[.val (.ref xx), .val (.ref yy), .val (.int 2), .val (.int lx), .val (.int ly), .val (.int rs)] [(.int (own_lift xb2)), (.int (own_lift xa2))]) _
          refine XS.isub X16.here hx rfl (hb hby d6_40) rfl ?_
          exact kt))
        obtain ⟨_, _, ⟨T18, L18, cc18, ss18⟩, -, X18, ⟨Lc18, hQ18, l18, y18, z18⟩, st18⟩ := Jvm.LawKit.callS X16 hx (y := mN0) hown (mvT hZ (own_w hw 27 rfl)) (mvT hZ (own_w hw 28 rfl)) (mvT hZ (own_w hw 4 rfl)) (mvT hZ (own_w hw 29 rfl)) (by decide) (backOf (W := 0) (rm5 l Z a0 hw [] ((own_lift xa2) - (own_lift xb2))  h0 n0 Z0 ) hZ (own_w hw 29 rfl) (own_w hw 4 rfl) (by decide) (by decide)) (g := (mkF m 41 #[.val (.ref xx), .val (.ref yy), .val (.int 2), .val (.int lx), .val (.int ly), .val (.int rs)] [(.int ((own_lift xa2) - (own_lift xb2)))])) rfl (by rw [hml]; rfl) (argsL := [(.int ((own_lift xa2) - (own_lift xb2)))]) (rest := []) (lenOf pd_1 rfl) rfl (by show 2 * 0 + _ ≤ _; exact Nat.le_of_eq rfl) (hb hby d6_41) (fun _ _ => ⟨rfl, eq16, (by decide : 0 + 0 ≤ _), (by decide : 0 + 0 ≤ _)⟩)
        dsimp only [Pt.U, Pt.locs, Pt.cells, Pt.slots] at X18 l18 y18 z18 st18 hQ18
        subst l18 y18 z18
        have X18 : Stand p l e _ _ m _ below meth c T18 _ 0 0 := X18
        obtain ⟨rfl, Nq18, eq18⟩ := hQ18
        have Nf18 := Fr.app Nf16 Nq18
        obtain ⟨fs, hr, hrun, hended, hW, hsame⟩ := X18.leave (v := some (.int (own_sgn ((own_lift xa2) - (own_lift xb2))))) (fun h => by rw [Bd.returns] at h; cases h)
        refine ⟨_, _, hGl _ (kn17 _ (st18 _ (retI X18 hx Bd.returns (hb hby d6_44) hr))), hrun, hended, _, _, rfl, ?_, ⟨_, rfl⟩, hW, hsame.mono (by decide) (by decide)⟩
        show Q6_2 Z xx yy lx ly rs kx ky xa0 xa1 xa2 xb0 xb1 xb2 h0 n0 _ T18.heap _
        rw [eq18]
        exact ⟨by rw [own_step, if_pos hc2, if_pos hc8, if_neg hc25], Nf18, rfl⟩
    · have kn19 : ∀ t, own_S p e below s₁ (mkF m 15 #[.val (.ref xx), .val (.ref yy), .val (.int 2), .val (.int lx), .val (.int ly), .val (.int rs)] [(.int (lx - ly))]) t → Gl t := fun t kt => kn2 t (by
        show own_S p e below s₁ (mkF m 8 #[.val (.ref xx), .val (.ref yy), .val (.int 2), .val (.int lx), .val (.int ly), .val (.int rs)] [(.int ly), (.int 2)]) _
        refine XS.icmpNo X0.here hx rfl (hb hby d6_8) rfl (flt hc8).1 ?_
        refine XS.iloadN X0.here hx rfl (hb hby d6_11) rfl ?_
        refine XS.iload X0.here hx rfl (hb hby d6_12) rfl ?_
        refine XS.isub X0.here hx rfl (hb hby d6_14) rfl ?_
        exact kt)
      obtain ⟨_, _, ⟨T20, L20, cc20, ss20⟩, -, X20, ⟨Lc20, hQ20, l20, y20, z20⟩, st20⟩ := Jvm.LawKit.callS X0 hx (y := mN0) hown (mvT hZ (own_w hw 27 rfl)) (mvT hZ (own_w hw 28 rfl)) (mvT hZ (own_w hw 4 rfl)) (mvT hZ (own_w hw 29 rfl)) (by decide) (backOf (W := 0) (rm5 l Z a0 hw [] (lx - ly)  h0 n0 Z0 ) hZ (own_w hw 29 rfl) (own_w hw 4 rfl) (by decide) (by decide)) (g := (mkF m 15 #[.val (.ref xx), .val (.ref yy), .val (.int 2), .val (.int lx), .val (.int ly), .val (.int rs)] [(.int (lx - ly))])) rfl (by rw [hml]; rfl) (argsL := [(.int (lx - ly))]) (rest := []) (lenOf pd_1 rfl) rfl (by show 2 * 0 + _ ≤ _; exact Nat.le_of_eq rfl) (hb hby d6_15) (fun _ _ => ⟨rfl, e0, (by decide : 0 + 0 ≤ _), (by decide : 0 + 0 ≤ _)⟩)
      dsimp only [Pt.U, Pt.locs, Pt.cells, Pt.slots] at X20 l20 y20 z20 st20 hQ20
      subst l20 y20 z20
      have X20 : Stand p l e _ _ m _ below meth c T20 _ 0 0 := X20
      obtain ⟨rfl, Nq20, eq20⟩ := hQ20
      have Nf20 := Fr.app Nf0 Nq20
      obtain ⟨fs, hr, hrun, hended, hW, hsame⟩ := X20.leave (v := some (.int (own_sgn (lx - ly)))) (fun h => by rw [Bd.returns] at h; cases h)
      refine ⟨_, _, hGl _ (kn19 _ (st20 _ (retI X20 hx Bd.returns (hb hby d6_18) hr))), hrun, hended, _, _, rfl, ?_, ⟨_, rfl⟩, hW, hsame.mono (by decide) (by decide)⟩
      show Q6_2 Z xx yy lx ly rs kx ky xa0 xa1 xa2 xb0 xb1 xb2 h0 n0 _ T20.heap _
      rw [eq20]
      exact ⟨by rw [own_step, if_pos hc2, if_neg hc8], Nf20, rfl⟩
  · have kn21 : ∀ t, own_S p e below s₁ (mkF m 15 #[.val (.ref xx), .val (.ref yy), .val (.int 2), .val (.int lx), .val (.int ly), .val (.int rs)] [(.int (lx - ly))]) t → Gl t := fun t kt => kn1 t (by
      show own_S p e below s₁ (mkF m 2 #[.val (.ref xx), .val (.ref yy), .val (.int 2), .val (.int lx), .val (.int ly), .val (.int rs)] [(.int lx), (.int 2)]) _
      refine XS.icmpYes X0.here hx rfl (pc0 := 2) (pc' := 11) rfl (hb hby d6_2) rfl (flt hc2).2.1 (by decide) (by decide) ?_
      refine XS.iloadN X0.here hx rfl (hb hby d6_11) rfl ?_
      refine XS.iload X0.here hx rfl (hb hby d6_12) rfl ?_
      refine XS.isub X0.here hx rfl (hb hby d6_14) rfl ?_
      exact kt)
    obtain ⟨_, _, ⟨T22, L22, cc22, ss22⟩, -, X22, ⟨Lc22, hQ22, l22, y22, z22⟩, st22⟩ := Jvm.LawKit.callS X0 hx (y := mN0) hown (mvT hZ (own_w hw 27 rfl)) (mvT hZ (own_w hw 28 rfl)) (mvT hZ (own_w hw 4 rfl)) (mvT hZ (own_w hw 29 rfl)) (by decide) (backOf (W := 0) (rm5 l Z a0 hw [] (lx - ly)  h0 n0 Z0 ) hZ (own_w hw 29 rfl) (own_w hw 4 rfl) (by decide) (by decide)) (g := (mkF m 15 #[.val (.ref xx), .val (.ref yy), .val (.int 2), .val (.int lx), .val (.int ly), .val (.int rs)] [(.int (lx - ly))])) rfl (by rw [hml]; rfl) (argsL := [(.int (lx - ly))]) (rest := []) (lenOf pd_1 rfl) rfl (by show 2 * 0 + _ ≤ _; exact Nat.le_of_eq rfl) (hb hby d6_15) (fun _ _ => ⟨rfl, e0, (by decide : 0 + 0 ≤ _), (by decide : 0 + 0 ≤ _)⟩)
    dsimp only [Pt.U, Pt.locs, Pt.cells, Pt.slots] at X22 l22 y22 z22 st22 hQ22
    subst l22 y22 z22
    have X22 : Stand p l e _ _ m _ below meth c T22 _ 0 0 := X22
    obtain ⟨rfl, Nq22, eq22⟩ := hQ22
    have Nf22 := Fr.app Nf0 Nq22
    obtain ⟨fs, hr, hrun, hended, hW, hsame⟩ := X22.leave (v := some (.int (own_sgn (lx - ly)))) (fun h => by rw [Bd.returns] at h; cases h)
    refine ⟨_, _, hGl _ (kn21 _ (st22 _ (retI X22 hx Bd.returns (hb hby d6_18) hr))), hrun, hended, _, _, rfl, ?_, ⟨_, rfl⟩, hW, hsame.mono (by decide) (by decide)⟩
    show Q6_2 Z xx yy lx ly rs kx ky xa0 xa1 xa2 xb0 xb1 xb2 h0 n0 _ T22.heap _
    rw [eq22]
    exact ⟨by rw [own_step, if_neg hc2], Nf22, rfl⟩

abbrev mN5 : MethodName := ⟨"jdk/internal/util/Preconditions", "checkIndex", "(IILjava/util/function/BiFunction;)I"⟩
theorem d19_0 : decode jdk_41_method_11_code 0 = .ok (.iload_n 0, 1) := by decide +kernel
theorem d19_1 : decode jdk_41_method_11_code 1 = .ok (.ifCond .lt 8, 3) := by decide +kernel
theorem d19_4 : decode jdk_41_method_11_code 4 = .ok (.iload_n 0, 1) := by decide +kernel
theorem d19_5 : decode jdk_41_method_11_code 5 = .ok (.iload_n 1, 1) := by decide +kernel
theorem d19_6 : decode jdk_41_method_11_code 6 = .ok (.if_icmp .lt 10, 3) := by decide +kernel
theorem d19_16 : decode jdk_41_method_11_code 16 = .ok (.iload_n 0, 1) := by decide +kernel
theorem d19_17 : decode jdk_41_method_11_code 17 = .ok (.ireturn, 1) := by decide +kernel
theorem pn_2 : plainName "jdk/internal/util/Preconditions" = true := by first | (simp [plainName, overriddenIn]; done) | decide +kernel
theorem ef_rm19 (m : MethodId) (x0 : Int32) (x1 : Int32) (x2 : Value) (hxx2 : x2.category = 1) : entryFrame m #[(.int x0), (.int x1), x2] 3 = mkF m 0 #[.val (.int x0), .val (.int x1), .val x2] [] := by cases x2 <;> first | (simp [Value.category] at hxx2; done) | (simp [entryFrame, mkF, argsToLocals, Value.category]; done) | rfl
def Q19 (Z : State) (j1 : Int32) (n1 : Int32) (f1 : Value) (h0 : Heap) (n0 : Nat) (v : Option Value) (h : Heap) (L : List Loc) : Prop := v = some (.int j1) ∧ Fr n0 L ∧ h = h0
theorem rm19 (l : Launch) (Z : State) (a0 : Array Value) (hw : ∀ d ∈ tables_1, d.before a0 Z = true) (ws : List Jvm.Cond) (j1 : Int32) (n1 : Int32) (f1 : Value) (h0 : Heap) (n0 : Nat) (Z0 : n0 ≤ h0.size) (h0_ : ¬ j1 < (0 : Int32)) (h1_ : j1 < n1) (hr : f1.isRef = true) :
    MetFree l mN5 (head1 (Jvm.Cond.code mN5 jdk_41_method_11_code 3 (some .int) :: ws) (own_r 0 0 0 0)) (fun a U => a = #[(.int j1), (.int n1), f1] ∧ Z.Warmed39 U.vm ∧ U.heap = h0) (fun _ _ _ _ _ => True) (fun _ U o U' => ∃ v L, o = .returned v ∧ Q19 Z j1 n1 f1 h0 n0 v U'.heap L ∧ FrameEnd U o U' L (own_r 0 0 0 0).cells (own_r 0 0 0 0).slots) := by
  refine MetFree.of_bodySF (plainFor_of_name pn_2) hisR ?_
  intro p e s m args below meth c s₁ Bd hml0 hP hK
  obtain ⟨rfl, hZ, hh⟩ := hP
  have hx := Bd.exec
  have hby := Bd.bytes
  have hml : c.maxLocals = 3 := hml0
  have hown : s.vm.findClass "jdk/internal/util/Preconditions" = some m.cls := findClass_of_methodNamed Bd.named
  have hnm := (name_of_methodNamed Bd.named Bd.method).1
  have X0 : Stand p l e (own_r 0 0 0 0) s m #[(.int j1), (.int n1), f1] below meth c s₁ [] 0 0 := Stand.of_body Bd
  have e0 : s₁.heap = h0 := by rw [← hh, Bd.state]; rfl
  have Nf0 := Fr.nil n0
  obtain ⟨Gl, hGl, kn0⟩ := own_gl (p := p) (e := e) (below := below) (s₁ := s₁) (ef_rm19 m j1 n1 f1 (own_cat hr))
  have kn1 : ∀ t, own_S p e below s₁ (mkF m 1 #[.val (.int j1), .val (.int n1), .val f1] [(.int j1)]) t → Gl t := fun t kt => kn0 t (by
    show own_S p e below s₁ (mkF m 0 #[.val (.int j1), .val (.int n1), .val f1] []) _
    refine XS.iloadN X0.here hx rfl (hb hby d19_0) rfl ?_
    exact kt)
  have hc1_2 : ¬ (j1 < (0 : Int32)) := h0_
  have kn3 : ∀ t, own_S p e below s₁ (mkF m 6 #[.val (.int j1), .val (.int n1), .val f1] [(.int n1), (.int j1)]) t → Gl t := fun t kt => kn1 t (by
    show own_S p e below s₁ (mkF m 1 #[.val (.int j1), .val (.int n1), .val f1] [(.int j1)]) _
    refine XS.ifNo X0.here hx rfl (hb hby d19_1) rfl ((if0 _ _).trans (flt hc1_2).1) ?_
    refine XS.iloadN X0.here hx rfl (hb hby d19_4) rfl ?_
    refine XS.iloadN X0.here hx rfl (hb hby d19_5) rfl ?_
    exact kt)
  have hc6_4 : j1 < n1 := h1_
  have kn5 : ∀ t, own_S p e below s₁ (mkF m 17 #[.val (.int j1), .val (.int n1), .val f1] [(.int j1)]) t → Gl t := fun t kt => kn3 t (by
    show own_S p e below s₁ (mkF m 6 #[.val (.int j1), .val (.int n1), .val f1] [(.int n1), (.int j1)]) _
    refine XS.icmpYes X0.here hx rfl (pc0 := 6) (pc' := 16) rfl (hb hby d19_6) rfl (tlt hc6_4).1 (by decide) (by decide) ?_
    refine XS.iloadN X0.here hx rfl (hb hby d19_16) rfl ?_
    exact kt)
  obtain ⟨fs, hr, hrun, hended, hW, hsame⟩ := X0.leave (v := some (.int j1)) (fun h => by rw [Bd.returns] at h; cases h)
  refine ⟨_, _, hGl _ (kn5 _ (retI X0 hx Bd.returns (hb hby d19_17) hr)), hrun, hended, _, _, rfl, ?_, ⟨_, rfl⟩, hW, hsame.mono (by decide) (by decide)⟩
  show Q19 Z j1 n1 f1 h0 n0 _ s₁.heap _
  rw [e0]
  exact ⟨rfl, Nf0, rfl⟩

abbrev mN6 : MethodName := ⟨"java/lang/String", "checkIndex", "(II)V"⟩
theorem d18_0 : decode jdk_42_method_155_code 0 = .ok (.iload_n 0, 1) := by decide +kernel
theorem d18_1 : decode jdk_42_method_155_code 1 = .ok (.iload_n 1, 1) := by decide +kernel
theorem d18_2 : decode jdk_42_method_155_code 2 = .ok (.getstatic 1053, 3) := by decide +kernel
theorem d18_5 : decode jdk_42_method_155_code 5 = .ok (.invokestatic 1059, 3) := by decide +kernel
theorem d18_8 : decode jdk_42_method_155_code 8 = .ok (.pop, 1) := by decide +kernel
theorem d18_9 : decode jdk_42_method_155_code 9 = .ok (.return_, 1) := by decide +kernel
theorem pn_3 : plainName "java/lang/String" = true := by first | (simp [plainName, overriddenIn]; done) | decide +kernel
theorem pd_2 : parseMethodDescriptor "(IILjava/util/function/BiFunction;)I" = some ⟨[.int, .int, (.object "java/util/function/BiFunction")], some .int⟩ := by decide +kernel
theorem ef_rm18 (m : MethodId) (x0 : Int32) (x1 : Int32) : entryFrame m #[(.int x0), (.int x1)] 2 = mkF m 0 #[.val (.int x0), .val (.int x1)] [] := by first | (simp [entryFrame, mkF, argsToLocals, Value.category]; done) | rfl
def Q18 (Z : State) (j1 : Int32) (n1 : Int32) (G3 : Value) (h0 : Heap) (n0 : Nat) (v : Option Value) (h : Heap) (L : List Loc) : Prop := v = none ∧ Fr n0 L ∧ h = h0
theorem rm18 (l : Launch) (Z : State) (a0 : Array Value) (hw : ∀ d ∈ tables_1, d.before a0 Z = true) (ws : List Jvm.Cond) (j1 : Int32) (n1 : Int32) (G3 : Value) (h0 : Heap) (n0 : Nat) (Z0 : n0 ≤ h0.size) (h0_ : ¬ j1 < (0 : Int32)) (h1_ : j1 < n1) (O0 : Old Z n0 h0) (O4 : Sta Z Z.heap "jdk/internal/util/Preconditions" "SIOOBE_FORMATTER" "Ljava/util/function/BiFunction;" G3) (rG3 : G3.isRef = true) :
    MetFree l mN6 (head1 (Jvm.Cond.code mN6 jdk_42_method_155_code 2 none :: ws) (own_r 1 0 0 14)) (fun a U => a = #[(.int j1), (.int n1)] ∧ Z.Warmed39 U.vm ∧ U.heap = h0) (fun _ _ _ _ _ => True) (fun _ U o U' => ∃ v L, o = .returned v ∧ Q18 Z j1 n1 G3 h0 n0 v U'.heap L ∧ FrameEnd U o U' L (own_r 1 0 0 14).cells (own_r 1 0 0 14).slots) := by
  refine MetFree.of_bodySF (plainFor_of_name pn_3) hisR ?_
  intro p e s m args below meth c s₁ Bd hml0 hP hK
  obtain ⟨rfl, hZ, hh⟩ := hP
  have hx := Bd.exec
  have hby := Bd.bytes
  have hml : c.maxLocals = 2 := hml0
  have hown : s.vm.findClass "java/lang/String" = some m.cls := findClass_of_methodNamed Bd.named
  have hnm := (name_of_methodNamed Bd.named Bd.method).1
  have X0 : Stand p l e (own_r 1 0 0 14) s m #[(.int j1), (.int n1)] below meth c s₁ [] 0 0 := Stand.of_body Bd
  have e0 : s₁.heap = h0 := by rw [← hh, Bd.state]; rfl
  have Nf0 := Fr.nil n0
  obtain ⟨Gl, hGl, kn0⟩ := own_gl (p := p) (e := e) (below := below) (s₁ := s₁) (ef_rm18 m j1 n1)
  have kn1 : ∀ t, own_S p e below s₁ (mkF m 2 #[.val (.int j1), .val (.int n1)] [(.int n1), (.int j1)]) t → Gl t := fun t kt => kn0 t (by
    show own_S p e below s₁ (mkF m 0 #[.val (.int j1), .val (.int n1)] []) _
    refine XS.iloadN X0.here hx rfl (hb hby d18_0) rfl ?_
    refine XS.iloadN X0.here hx rfl (hb hby d18_1) rfl ?_
    exact kt)
  obtain ⟨T2, X2, e2, st2⟩ := getS2 X0 hx hZ hown (host := "") (Or.inl (own_w hw 83 rfl)) Via.refl e0 (O4.ext O0.2) (g := (mkF m 2 #[.val (.int j1), .val (.int n1)] [(.int n1), (.int j1)])) rfl (hb hby d18_2)
  obtain ⟨_, _, ⟨T3, L3, cc3, ss3⟩, -, X3, ⟨Lc3, hQ3, l3, y3, z3⟩, st3⟩ := Jvm.LawKit.callS X2 hx (y := mN5) hown (mvT hZ (own_w hw 85 rfl)) (mvT hZ (own_w hw 86 rfl)) (mvT hZ (own_w hw 84 rfl)) (mvT hZ (own_w hw 87 rfl)) (by decide) (backOf (W := 0) (rm19 l Z a0 hw [] j1 n1 (G3)  h0 n0 Z0 h0_ h1_ rG3) hZ (own_w hw 87 rfl) (own_w hw 84 rfl) (by decide) (by decide)) (g := (mkF m 5 #[.val (.int j1), .val (.int n1)] [G3, (.int n1), (.int j1)])) rfl (by rw [hml]; rfl) (argsL := [(.int j1), (.int n1), G3]) (rest := []) (lenOf pd_2 rfl) rfl (by show 2 * 0 + _ ≤ _; exact Nat.le_of_eq rfl) (hb hby d18_5) (fun _ _ => ⟨rfl, e2, (by decide : 0 + 0 ≤ _), (by decide : 0 + 0 ≤ _)⟩)
  dsimp only [Pt.U, Pt.locs, Pt.cells, Pt.slots] at X3 l3 y3 z3 st3 hQ3
  subst l3 y3 z3
  have X3 : Stand p l e _ _ m _ below meth c T3 _ 0 0 := X3
  obtain ⟨rfl, Nq3, eq3⟩ := hQ3
  have Nf3 := Fr.app Nf0 Nq3
  have kn4 : ∀ t, own_S p e below T3 (mkF m 9 #[.val (.int j1), .val (.int n1)] []) t → Gl t := fun t kt => kn1 t (st2 _ (st3 _ (by
    show own_S p e below T3 (mkF m 8 #[.val (.int j1), .val (.int n1)] [(.int j1)]) _
    refine XS.pop X3.here hx rfl (hb hby d18_8) rfl rfl ?_
    exact kt)))
  obtain ⟨fs, hr, hrun, hended, hW, hsame⟩ := X3.leave (v := none) (fun _ => rfl)
  refine ⟨_, _, hGl _ (kn4 _ (X3.returnOut hx Bd.returns (hb hby d18_9) hr)), hrun, hended, _, _, rfl, ?_, ⟨_, rfl⟩, hW, hsame.mono (by decide) (by decide)⟩
  show Q18 Z j1 n1 G3 h0 n0 _ T3.heap _
  rw [eq3]
  exact ⟨rfl, Nf3, rfl⟩

abbrev mN7 : MethodName := ⟨"java/lang/StringUTF16", "length", "([B)I"⟩
theorem d28_0 : decode jdk_52_method_6_code 0 = .ok (.aload_n 0, 1) := by decide +kernel
theorem d28_1 : decode jdk_52_method_6_code 1 = .ok (.arraylength, 1) := by decide +kernel
theorem d28_2 : decode jdk_52_method_6_code 2 = .ok (.iconst 1, 1) := by decide +kernel
theorem d28_3 : decode jdk_52_method_6_code 3 = .ok (.ishr, 1) := by decide +kernel
theorem d28_4 : decode jdk_52_method_6_code 4 = .ok (.ireturn, 1) := by decide +kernel
theorem pn_4 : plainName "java/lang/StringUTF16" = true := by first | (simp [plainName, overriddenIn]; done) | decide +kernel
theorem ef_rm28 (m : MethodId) (x0 : Addr) : entryFrame m #[(.ref x0)] 1 = mkF m 0 #[.val (.ref x0)] [] := by first | (simp [entryFrame, mkF, argsToLocals, Value.category]; done) | rfl
def Q28 (Z : State) (b1 : Addr) (kb : ClassId) (N1 : Int32) (vs : List Value) (h0 : Heap) (n0 : Nat) (v : Option Value) (h : Heap) (L : List Loc) : Prop := v = some (.int (N1 >>> ((1 : Int32) &&& 31))) ∧ Fr n0 L ∧ h = h0
theorem rm28 (l : Launch) (Z : State) (a0 : Array Value) (hw : ∀ d ∈ tables_1, d.before a0 Z = true) (ws : List Jvm.Cond) (b1 : Addr) (kb : ClassId) (N1 : Int32) (vs : List Value) (h0 : Heap) (n0 : Nat) (Z0 : n0 ≤ h0.size) (A1 : Arv Z h0 b1 kb .byte N1 vs (.int (0 : Int32))) :
    MetFree l mN7 (head1 (Jvm.Cond.code mN7 jdk_52_method_6_code 1 (some .int) :: ws) (own_r 0 0 0 0)) (fun a U => a = #[(.ref b1)] ∧ Z.Warmed39 U.vm ∧ U.heap = h0) (fun _ _ _ _ _ => True) (fun _ U o U' => ∃ v L, o = .returned v ∧ Q28 Z b1 kb N1 vs h0 n0 v U'.heap L ∧ FrameEnd U o U' L (own_r 0 0 0 0).cells (own_r 0 0 0 0).slots) := by
  refine MetFree.of_bodySF (plainFor_of_name pn_4) hisR ?_
  intro p e s m args below meth c s₁ Bd hml0 hP hK
  obtain ⟨rfl, hZ, hh⟩ := hP
  have hx := Bd.exec
  have hby := Bd.bytes
  have hml : c.maxLocals = 1 := hml0
  have hown : s.vm.findClass "java/lang/StringUTF16" = some m.cls := findClass_of_methodNamed Bd.named
  have hnm := (name_of_methodNamed Bd.named Bd.method).1
  have X0 : Stand p l e (own_r 0 0 0 0) s m #[(.ref b1)] below meth c s₁ [] 0 0 := Stand.of_body Bd
  have e0 : s₁.heap = h0 := by rw [← hh, Bd.state]; rfl
  have Nf0 := Fr.nil n0
  obtain ⟨Gl, hGl, kn0⟩ := own_gl (p := p) (e := e) (below := below) (s₁ := s₁) (ef_rm28 m b1)
  have kn1 : ∀ t, own_S p e below s₁ (mkF m 1 #[.val (.ref b1)] [(.ref b1)]) t → Gl t := fun t kt => kn0 t (by
    show own_S p e below s₁ (mkF m 0 #[.val (.ref b1)] []) _
    refine XS.aloadN X0.here hx rfl (hb hby d28_0) rfl rfl ?_
    exact kt)
  obtain ⟨cl2, Ar2, -, Sz2, Ng2, -, -⟩ := id A1
  have kn3 : ∀ t, own_S p e below s₁ (mkF m 4 #[.val (.ref b1)] [(.int (N1 >>> ((1 : Int32) &&& 31)))]) t → Gl t := fun t kt => kn1 t (by
    show own_S p e below s₁ (mkF m 1 #[.val (.ref b1)] [(.ref b1)]) _
    refine X0.arraylength hx (by rw [e0]; exact Ar2.1) (State.isArrayOf_alike hZ.alike Ar2.2.1) (g := (mkF m 1 #[.val (.ref b1)] [(.ref b1)])) rfl rfl (hb hby d28_1) _ ?_
    rw [len_of Sz2 Ng2]
    refine XS.iconst X0.here hx rfl (hb hby d28_2) ?_
    refine XS.ishr X0.here hx rfl (hb hby d28_3) rfl ?_
    exact kt)
  obtain ⟨fs, hr, hrun, hended, hW, hsame⟩ := X0.leave (v := some (.int (N1 >>> ((1 : Int32) &&& 31)))) (fun h => by rw [Bd.returns] at h; cases h)
  refine ⟨_, _, hGl _ (kn3 _ (retI X0 hx Bd.returns (hb hby d28_4) hr)), hrun, hended, _, _, rfl, ?_, ⟨_, rfl⟩, hW, hsame.mono (by decide) (by decide)⟩
  show Q28 Z b1 kb N1 vs h0 n0 _ s₁.heap _
  rw [e0]
  exact ⟨rfl, Nf0, rfl⟩

abbrev mN8 : MethodName := ⟨"java/lang/StringUTF16", "checkIndex", "(I[B)V"⟩
theorem d27_0 : decode jdk_52_method_91_code 0 = .ok (.iload_n 0, 1) := by decide +kernel
theorem d27_1 : decode jdk_52_method_91_code 1 = .ok (.aload_n 1, 1) := by decide +kernel
theorem d27_2 : decode jdk_52_method_91_code 2 = .ok (.invokestatic 48, 3) := by decide +kernel
theorem d27_5 : decode jdk_52_method_91_code 5 = .ok (.invokestatic 414, 3) := by decide +kernel
theorem d27_8 : decode jdk_52_method_91_code 8 = .ok (.return_, 1) := by decide +kernel
theorem pd_3 : parseMethodDescriptor "([B)I" = some ⟨[(.array .byte)], some .int⟩ := by decide +kernel
theorem pd_4 : parseMethodDescriptor "(II)V" = some ⟨[.int, .int], none⟩ := by decide +kernel
theorem ef_rm27_0 (m : MethodId) (x1 : Addr) : entryFrame m #[(.int (0 : Int32)), (.ref x1)] 2 = mkF m 0 #[.val (.int (0 : Int32)), .val (.ref x1)] [] := by first | (simp [entryFrame, mkF, argsToLocals, Value.category]; done) | rfl
def Q27_0 (Z : State) (b1 : Addr) (kb : ClassId) (N1 : Int32) (vs : List Value) (G3 : Value) (h0 : Heap) (n0 : Nat) (v : Option Value) (h : Heap) (L : List Loc) : Prop := v = none ∧ Fr n0 L ∧ h = h0
theorem rm27_0 (l : Launch) (Z : State) (a0 : Array Value) (hw : ∀ d ∈ tables_1, d.before a0 Z = true) (ws : List Jvm.Cond) (b1 : Addr) (kb : ClassId) (N1 : Int32) (vs : List Value) (G3 : Value) (h0 : Heap) (n0 : Nat) (Z0 : n0 ≤ h0.size) (A1 : Arv Z h0 b1 kb .byte N1 vs (.int (0 : Int32))) (hlt : (0 : Int32) < (N1 >>> ((1 : Int32) &&& 31))) (O0 : Old Z n0 h0) (O4 : Sta Z Z.heap "jdk/internal/util/Preconditions" "SIOOBE_FORMATTER" "Ljava/util/function/BiFunction;" G3) (rG3 : G3.isRef = true) :
    MetFree l mN8 (head1 (Jvm.Cond.code mN8 jdk_52_method_91_code 2 none :: ws) (own_r 2 0 0 27)) (fun a U => a = #[(.int (0 : Int32)), (.ref b1)] ∧ Z.Warmed39 U.vm ∧ U.heap = h0) (fun _ _ _ _ _ => True) (fun _ U o U' => ∃ v L, o = .returned v ∧ Q27_0 Z b1 kb N1 vs G3 h0 n0 v U'.heap L ∧ FrameEnd U o U' L (own_r 2 0 0 27).cells (own_r 2 0 0 27).slots) := by
  refine MetFree.of_bodySF (plainFor_of_name pn_4) hisR ?_
  intro p e s m args below meth c s₁ Bd hml0 hP hK
  obtain ⟨rfl, hZ, hh⟩ := hP
  have hx := Bd.exec
  have hby := Bd.bytes
  have hml : c.maxLocals = 2 := hml0
  have hown : s.vm.findClass "java/lang/StringUTF16" = some m.cls := findClass_of_methodNamed Bd.named
  have hnm := (name_of_methodNamed Bd.named Bd.method).1
  have X0 : Stand p l e (own_r 2 0 0 27) s m #[(.int (0 : Int32)), (.ref b1)] below meth c s₁ [] 0 0 := Stand.of_body Bd
  have e0 : s₁.heap = h0 := by rw [← hh, Bd.state]; rfl
  have Nf0 := Fr.nil n0
  obtain ⟨Gl, hGl, kn0⟩ := own_gl (p := p) (e := e) (below := below) (s₁ := s₁) (ef_rm27_0 m b1)
  have kn1 : ∀ t, own_S p e below s₁ (mkF m 2 #[.val (.int 0), .val (.ref b1)] [(.ref b1), (.int 0)]) t → Gl t := fun t kt => kn0 t (by
    show own_S p e below s₁ (mkF m 0 #[.val (.int 0), .val (.ref b1)] []) _
    refine XS.iloadN X0.here hx rfl (hb hby d27_0) rfl ?_
    refine XS.aloadN X0.here hx rfl (hb hby d27_1) rfl rfl ?_
    exact kt)
  obtain ⟨_, _, ⟨T2, L2, cc2, ss2⟩, -, X2, ⟨Lc2, hQ2, l2, y2, z2⟩, st2⟩ := Jvm.LawKit.callS X0 hx (y := mN7) hown (mvT hZ (own_w hw 118 rfl)) (mvT hZ (own_w hw 119 rfl)) (mvT hZ (own_w hw 54 rfl)) (mvT hZ (own_w hw 120 rfl)) (by decide) (backOf (W := 1) (rm28 l Z a0 hw [] b1 kb N1 vs h0 n0 Z0 A1) hZ (own_w hw 120 rfl) (own_w hw 54 rfl) (by decide) (by decide)) (g := (mkF m 2 #[.val (.int 0), .val (.ref b1)] [(.ref b1), (.int 0)])) rfl (by rw [hml]; rfl) (argsL := [(.ref b1)]) (rest := [(.int 0)]) (lenOf pd_3 rfl) rfl (by show 2 * 0 + _ ≤ _; exact Nat.le_of_eq rfl) (hb hby d27_2) (fun _ _ => ⟨rfl, e0, (by decide : 0 + 0 ≤ _), (by decide : 0 + 0 ≤ _)⟩)
  dsimp only [Pt.U, Pt.locs, Pt.cells, Pt.slots] at X2 l2 y2 z2 st2 hQ2
  subst l2 y2 z2
  have X2 : Stand p l e _ _ m _ below meth c T2 _ 0 0 := X2
  obtain ⟨rfl, Nq2, eq2⟩ := hQ2
  have Nf2 := Fr.app Nf0 Nq2
  obtain ⟨_, _, ⟨T3, L3, cc3, ss3⟩, -, X3, ⟨Lc3, hQ3, l3, y3, z3⟩, st3⟩ := Jvm.LawKit.callS X2 hx (y := mN6) hown (mvT hZ (own_w hw 121 rfl)) (mvT hZ (own_w hw 81 rfl)) (mvT hZ (own_w hw 8 rfl)) (mvT hZ (own_w hw 82 rfl)) (by decide) (backOf (W := 0) (rm18 l Z a0 hw [] (0 : Int32) (N1 >>> ((1 : Int32) &&& 31)) G3 h0 n0 Z0 (by decide) hlt O0 O4 rG3) hZ (own_w hw 82 rfl) (own_w hw 8 rfl) (by decide) (by decide)) (g := (mkF m 5 #[.val (.int 0), .val (.ref b1)] [(.int (N1 >>> ((1 : Int32) &&& 31))), (.int 0)])) rfl (by rw [hml]; rfl) (argsL := [(.int 0), (.int (N1 >>> ((1 : Int32) &&& 31)))]) (rest := []) (lenOf pd_4 rfl) rfl (by show 2 * 0 + _ ≤ _; exact Nat.le_of_eq rfl) (hb hby d27_5) (fun _ _ => ⟨rfl, eq2, (by decide : 0 + 0 ≤ _), (by decide : 0 + 0 ≤ _)⟩)
  dsimp only [Pt.U, Pt.locs, Pt.cells, Pt.slots] at X3 l3 y3 z3 st3 hQ3
  subst l3 y3 z3
  have X3 : Stand p l e _ _ m _ below meth c T3 _ 0 0 := X3
  obtain ⟨rfl, Nq3, eq3⟩ := hQ3
  have Nf3 := Fr.app Nf2 Nq3
  obtain ⟨fs, hr, hrun, hended, hW, hsame⟩ := X3.leave (v := none) (fun _ => rfl)
  refine ⟨_, _, hGl _ (kn1 _ (st2 _ (st3 _ (X3.returnOut hx Bd.returns (hb hby d27_8) hr)))), hrun, hended, _, _, rfl, ?_, ⟨_, rfl⟩, hW, hsame.mono (by decide) (by decide)⟩
  show Q27_0 Z b1 kb N1 vs G3 h0 n0 _ T3.heap _
  rw [eq3]
  exact ⟨rfl, Nf3, rfl⟩

abbrev mN9 : MethodName := ⟨"java/lang/StringUTF16", "getChar", "([BI)C"⟩
theorem d25_0 : decode jdk_52_method_5_code 0 = .ok (.getstatic 44, 3) := by decide +kernel
theorem d25_3 : decode jdk_52_method_5_code 3 = .ok (.ifCond .ne 25, 3) := by decide +kernel
theorem d25_28 : decode jdk_52_method_5_code 28 = .ok (.iload_n 1, 1) := by decide +kernel
theorem d25_29 : decode jdk_52_method_5_code 29 = .ok (.iconst 1, 1) := by decide +kernel
theorem d25_30 : decode jdk_52_method_5_code 30 = .ok (.ishl, 1) := by decide +kernel
theorem d25_31 : decode jdk_52_method_5_code 31 = .ok (.istore_n 1, 1) := by decide +kernel
theorem d25_32 : decode jdk_52_method_5_code 32 = .ok (.aload_n 0, 1) := by decide +kernel
theorem d25_33 : decode jdk_52_method_5_code 33 = .ok (.iload_n 1, 1) := by decide +kernel
theorem d25_34 : decode jdk_52_method_5_code 34 = .ok (.iinc 1 1, 3) := by decide +kernel
theorem d25_37 : decode jdk_52_method_5_code 37 = .ok (.baload, 1) := by decide +kernel
theorem d25_38 : decode jdk_52_method_5_code 38 = .ok (.sipush 255, 3) := by decide +kernel
theorem d25_41 : decode jdk_52_method_5_code 41 = .ok (.iand, 1) := by decide +kernel
theorem d25_42 : decode jdk_52_method_5_code 42 = .ok (.getstatic 59, 3) := by decide +kernel
theorem d25_45 : decode jdk_52_method_5_code 45 = .ok (.ishl, 1) := by decide +kernel
theorem d25_46 : decode jdk_52_method_5_code 46 = .ok (.aload_n 0, 1) := by decide +kernel
theorem d25_47 : decode jdk_52_method_5_code 47 = .ok (.iload_n 1, 1) := by decide +kernel
theorem d25_48 : decode jdk_52_method_5_code 48 = .ok (.baload, 1) := by decide +kernel
theorem d25_49 : decode jdk_52_method_5_code 49 = .ok (.sipush 255, 3) := by decide +kernel
theorem d25_52 : decode jdk_52_method_5_code 52 = .ok (.iand, 1) := by decide +kernel
theorem d25_53 : decode jdk_52_method_5_code 53 = .ok (.getstatic 63, 3) := by decide +kernel
theorem d25_56 : decode jdk_52_method_5_code 56 = .ok (.ishl, 1) := by decide +kernel
theorem d25_57 : decode jdk_52_method_5_code 57 = .ok (.ior, 1) := by decide +kernel
theorem d25_58 : decode jdk_52_method_5_code 58 = .ok (.i2c, 1) := by decide +kernel
theorem d25_59 : decode jdk_52_method_5_code 59 = .ok (.ireturn, 1) := by decide +kernel
theorem ef_rm25_0 (m : MethodId) (x0 : Addr) : entryFrame m #[(.ref x0), (.int (0 : Int32))] 2 = mkF m 0 #[.val (.ref x0), .val (.int (0 : Int32))] [] := by first | (simp [entryFrame, mkF, argsToLocals, Value.category]; done) | rfl
def Q25_0 (Z : State) (b1 : Addr) (kb : ClassId) (N1 : Int32) (vs : List Value) (u : Int32) (w : Int32) (h0 : Heap) (n0 : Nat) (v : Option Value) (h : Heap) (L : List Loc) : Prop := v = some (.int (nar .char (StrChars.pairCh u w))) ∧ Fr n0 L ∧ h = h0
theorem rm25_0 (l : Launch) (Z : State) (a0 : Array Value) (hw : ∀ d ∈ tables_1, d.before a0 Z = true) (ws : List Jvm.Cond) (b1 : Addr) (kb : ClassId) (N1 : Int32) (vs : List Value) (u : Int32) (w : Int32) (h0 : Heap) (n0 : Nat) (Z0 : n0 ≤ h0.size) (A1 : Arv Z h0 b1 kb .byte N1 vs (.int (0 : Int32))) (hA : (0 : Int32) < N1) (hB : (1 : Int32) < N1) (g0 : vs.getD ((0 : Int32)).toNatClampNeg (.int (0 : Int32)) = .int u) (g1 : vs.getD ((1 : Int32)).toNatClampNeg (.int (0 : Int32)) = .int w) (O0 : Old Z n0 h0) (U1 : Sta Z Z.heap "java/lang/StringUTF16" "$assertionsDisabled" "Z" (.int (1 : Int32))) (U2 : Sta Z Z.heap "java/lang/StringUTF16" "HI_BYTE_SHIFT" "I" (.int (0 : Int32))) (U3 : Sta Z Z.heap "java/lang/StringUTF16" "LO_BYTE_SHIFT" "I" (.int (8 : Int32))) :
    MetFree l mN9 (head1 (Jvm.Cond.code mN9 jdk_52_method_5_code 2 (some .char) :: ws) (own_r 0 0 0 0)) (fun a U => a = #[(.ref b1), (.int (0 : Int32))] ∧ Z.Warmed39 U.vm ∧ U.heap = h0) (fun _ _ _ _ _ => True) (fun _ U o U' => ∃ v L, o = .returned v ∧ Q25_0 Z b1 kb N1 vs u w h0 n0 v U'.heap L ∧ FrameEnd U o U' L (own_r 0 0 0 0).cells (own_r 0 0 0 0).slots) := by
  refine MetFree.of_bodySF (plainFor_of_name pn_4) hisR ?_
  intro p e s m args below meth c s₁ Bd hml0 hP hK
  obtain ⟨rfl, hZ, hh⟩ := hP
  have hx := Bd.exec
  have hby := Bd.bytes
  have hml : c.maxLocals = 2 := hml0
  have hown : s.vm.findClass "java/lang/StringUTF16" = some m.cls := findClass_of_methodNamed Bd.named
  have hnm := (name_of_methodNamed Bd.named Bd.method).1
  have X0 : Stand p l e (own_r 0 0 0 0) s m #[(.ref b1), (.int (0 : Int32))] below meth c s₁ [] 0 0 := Stand.of_body Bd
  have e0 : s₁.heap = h0 := by rw [← hh, Bd.state]; rfl
  have Nf0 := Fr.nil n0
  obtain ⟨Gl, hGl, kn0⟩ := own_gl (p := p) (e := e) (below := below) (s₁ := s₁) (ef_rm25_0 m b1)
  obtain ⟨T1, X1, e1, st1⟩ := getS2 X0 hx hZ hown (host := "") (Or.inl (own_w hw 106 rfl)) Via.refl e0 (U1.ext O0.2) (g := (mkF m 0 #[.val (.ref b1), .val (.int 0)] [])) rfl (hb hby d25_0)
  have kn2 : ∀ t, own_S p e below T1 (mkF m 37 #[.val (.ref b1), .val (.int 1)] [(.int 0), (.ref b1)]) t → Gl t := fun t kt => kn0 t (st1 _ (by
    show own_S p e below T1 (mkF m 3 #[.val (.ref b1), .val (.int 0)] [(.int 1)]) _
    refine XS.ifYes X1.here hx rfl (pc0 := 3) (pc' := 28) rfl (hb hby d25_3) rfl ((if0 _ _).trans (feq (by decide : ¬ ((1 : Int32) = (0 : Int32)))).2) (by decide) (by decide) ?_
    refine XS.iloadN X1.here hx rfl (hb hby d25_28) rfl ?_
    refine XS.iconst X1.here hx rfl (hb hby d25_29) ?_
    show own_S p e below T1 (mkF m 30 #[.val (.ref b1), .val (.int 0)] [(.int 1), (.int 0)]) _
    refine XS.ishl X1.here hx rfl (hb hby d25_30) rfl ?_
    rw [(by decide : ((0 : Int32) <<< ((1 : Int32) &&& 31)) = (0 : Int32))]
    refine XS.istoreN X1.here hx rfl (hb hby d25_31) rfl (l' := #[.val (.ref b1), .val (.int 0)]) rfl ?_
    refine XS.aloadN X1.here hx rfl (hb hby d25_32) rfl rfl ?_
    refine XS.iloadN X1.here hx rfl (hb hby d25_33) rfl ?_
    show own_S p e below T1 (mkF m 34 #[.val (.ref b1), .val (.int 0)] [(.int 0), (.ref b1)]) _
    refine XS.iinc X1.here hx rfl (hb hby d25_34) rfl (l' := #[.val (.ref b1), .val (.int ((0 : Int32) + (1 : Int32)))]) rfl ?_
    rw [(by decide : ((0 : Int32) + (1 : Int32)) = (1 : Int32))]
    exact kt))
  obtain ⟨cl3, Ar3, q3, Sz3, Ng3, Hs3, Gs3⟩ := id A1
  have hin3 : ¬ ((0 : Int32) < 0 ∨ cl3.slots.size ≤ ((0 : Int32)).toNatClampNeg) := inb_of Sz3 ⟨by decide, hA⟩
  have hat3 : cl3.slots[((0 : Int32)).toNatClampNeg]? = some (.int u) := Hs3.at hin3 g0
  have kn4 : ∀ t, own_S p e below T1 (mkF m 42 #[.val (.ref b1), .val (.int 1)] [(.int (u &&& (255 : Int32)))]) t → Gl t := fun t kt => kn2 t (by
    show own_S p e below T1 (mkF m 37 #[.val (.ref b1), .val (.int 1)] [(.int 0), (.ref b1)]) _
    refine X1.baloadBytes hx (j := (0 : Int32)) (v := (.int u)) (by rw [e1]; exact Ar3.1) (State.isArrayOf_alike hZ.alike Ar3.2.1) Ar3.2.2 hin3 hat3 (g := (mkF m 37 #[.val (.ref b1), .val (.int 1)] [(.int 0), (.ref b1)])) rfl rfl (hb hby d25_37) _ ?_
    refine XS.sipush X1.here hx rfl (hb hby d25_38) ?_
    refine XS.iand X1.here hx rfl (hb hby d25_41) rfl ?_
    exact kt)
  obtain ⟨T5, X5, e5, st5⟩ := getS2 X1 hx hZ hown (host := "") (Or.inl (own_w hw 107 rfl)) Via.refl e1 (U2.ext O0.2) (g := (mkF m 42 #[.val (.ref b1), .val (.int 1)] [(.int (u &&& (255 : Int32)))])) rfl (hb hby d25_42)
  have kn6 : ∀ t, own_S p e below T5 (mkF m 48 #[.val (.ref b1), .val (.int 1)] [(.int 1), (.ref b1), (.int ((u &&& (255 : Int32)) <<< ((0 : Int32) &&& 31)))]) t → Gl t := fun t kt => kn4 t (st5 _ (by
    show own_S p e below T5 (mkF m 45 #[.val (.ref b1), .val (.int 1)] [(.int 0), (.int (u &&& (255 : Int32)))]) _
    refine XS.ishl X5.here hx rfl (hb hby d25_45) rfl ?_
    refine XS.aloadN X5.here hx rfl (hb hby d25_46) rfl rfl ?_
    refine XS.iloadN X5.here hx rfl (hb hby d25_47) rfl ?_
    exact kt))
  obtain ⟨cl7, Ar7, q7, Sz7, Ng7, Hs7, Gs7⟩ := id A1
  have hin7 : ¬ ((1 : Int32) < 0 ∨ cl7.slots.size ≤ ((1 : Int32)).toNatClampNeg) := inb_of Sz7 ⟨by decide, hB⟩
  have hat7 : cl7.slots[((1 : Int32)).toNatClampNeg]? = some (.int w) := Hs7.at hin7 g1
  have kn8 : ∀ t, own_S p e below T5 (mkF m 53 #[.val (.ref b1), .val (.int 1)] [(.int (w &&& (255 : Int32))), (.int ((u &&& (255 : Int32)) <<< ((0 : Int32) &&& 31)))]) t → Gl t := fun t kt => kn6 t (by
    show own_S p e below T5 (mkF m 48 #[.val (.ref b1), .val (.int 1)] [(.int 1), (.ref b1), (.int ((u &&& (255 : Int32)) <<< ((0 : Int32) &&& 31)))]) _
    refine X5.baloadBytes hx (j := (1 : Int32)) (v := (.int w)) (by rw [e5]; exact Ar7.1) (State.isArrayOf_alike hZ.alike Ar7.2.1) Ar7.2.2 hin7 hat7 (g := (mkF m 48 #[.val (.ref b1), .val (.int 1)] [(.int 1), (.ref b1), (.int ((u &&& (255 : Int32)) <<< ((0 : Int32) &&& 31)))])) rfl rfl (hb hby d25_48) _ ?_
    refine XS.sipush X5.here hx rfl (hb hby d25_49) ?_
    refine XS.iand X5.here hx rfl (hb hby d25_52) rfl ?_
    exact kt)
  obtain ⟨T9, X9, e9, st9⟩ := getS2 X5 hx hZ hown (host := "") (Or.inl (own_w hw 108 rfl)) Via.refl e5 (U3.ext O0.2) (g := (mkF m 53 #[.val (.ref b1), .val (.int 1)] [(.int (w &&& (255 : Int32))), (.int ((u &&& (255 : Int32)) <<< ((0 : Int32) &&& 31)))])) rfl (hb hby d25_53)
  have kn10 : ∀ t, own_S p e below T9 (mkF m 59 #[.val (.ref b1), .val (.int 1)] [(.int ((((u &&& (255 : Int32)) <<< ((0 : Int32) &&& 31)) ||| ((w &&& (255 : Int32)) <<< ((8 : Int32) &&& 31))).toUInt32.toUInt16.toUInt32.toInt32))]) t → Gl t := fun t kt => kn8 t (st9 _ (by
    show own_S p e below T9 (mkF m 56 #[.val (.ref b1), .val (.int 1)] [(.int 8), (.int (w &&& (255 : Int32))), (.int ((u &&& (255 : Int32)) <<< ((0 : Int32) &&& 31)))]) _
    refine XS.ishl X9.here hx rfl (hb hby d25_56) rfl ?_
    refine XS.ior X9.here hx rfl (hb hby d25_57) rfl ?_
    refine XS.i2c X9.here hx rfl (hb hby d25_58) rfl ?_
    exact kt))
  obtain ⟨fs, hr, hrun, hended, hW, hsame⟩ := X9.leave (v := some (.int (nar .char ((((u &&& (255 : Int32)) <<< ((0 : Int32) &&& 31)) ||| ((w &&& (255 : Int32)) <<< ((8 : Int32) &&& 31))).toUInt32.toUInt16.toUInt32.toInt32)))) (fun h => by rw [Bd.returns] at h; cases h)
  refine ⟨_, _, hGl _ (kn10 _ (retN X9 hx (t := .char) Bd.returns (by simp) (hb hby d25_59) hr)), hrun, hended, _, _, rfl, ?_, ⟨_, rfl⟩, hW, hsame.mono (by decide) (by decide)⟩
  show Q25_0 Z b1 kb N1 vs u w h0 n0 _ T9.heap _
  rw [e9]
  exact ⟨rfl, Nf0, rfl⟩

abbrev mN10 : MethodName := ⟨"java/lang/StringUTF16", "charAt", "([BI)C"⟩
theorem d26_0 : decode jdk_52_method_83_code 0 = .ok (.iload_n 1, 1) := by decide +kernel
theorem d26_1 : decode jdk_52_method_83_code 1 = .ok (.aload_n 0, 1) := by decide +kernel
theorem d26_2 : decode jdk_52_method_83_code 2 = .ok (.invokestatic 67, 3) := by decide +kernel
theorem d26_5 : decode jdk_52_method_83_code 5 = .ok (.aload_n 0, 1) := by decide +kernel
theorem d26_6 : decode jdk_52_method_83_code 6 = .ok (.iload_n 1, 1) := by decide +kernel
theorem d26_7 : decode jdk_52_method_83_code 7 = .ok (.invokestatic 71, 3) := by decide +kernel
theorem d26_10 : decode jdk_52_method_83_code 10 = .ok (.ireturn, 1) := by decide +kernel
theorem pd_5 : parseMethodDescriptor "(I[B)V" = some ⟨[.int, (.array .byte)], none⟩ := by decide +kernel
theorem pd_6 : parseMethodDescriptor "([BI)C" = some ⟨[(.array .byte), .int], some .char⟩ := by decide +kernel
theorem ef_rm26_0 (m : MethodId) (x0 : Addr) : entryFrame m #[(.ref x0), (.int (0 : Int32))] 2 = mkF m 0 #[.val (.ref x0), .val (.int (0 : Int32))] [] := by first | (simp [entryFrame, mkF, argsToLocals, Value.category]; done) | rfl
def Q26_0 (Z : State) (b1 : Addr) (kb : ClassId) (cs : List Int32) (G3 : Value) (h0 : Heap) (n0 : Nat) (v : Option Value) (h : Heap) (L : List Loc) : Prop := v = some (.int (cs.getD 0 0)) ∧ Fr n0 L ∧ h = h0
theorem rm26_0 (l : Launch) (Z : State) (a0 : Array Value) (hw : ∀ d ∈ tables_1, d.before a0 Z = true) (ws : List Jvm.Cond) (b1 : Addr) (kb : ClassId) (cs : List Int32) (G3 : Value) (h0 : Heap) (n0 : Nat) (Z0 : n0 ≤ h0.size) (A1 : Arv Z h0 b1 kb .byte (Int32.ofNat (2 * cs.length)) (StrChars.Road.wideBytes cs) (.int (0 : Int32))) (hi : 0 < cs.length) (hl : cs.length ≤ 3) (hbd : ∀ c ∈ cs, own_rg c) (O0 : Old Z n0 h0) (O4 : Sta Z Z.heap "jdk/internal/util/Preconditions" "SIOOBE_FORMATTER" "Ljava/util/function/BiFunction;" G3) (rG3 : G3.isRef = true) (U1 : Sta Z Z.heap "java/lang/StringUTF16" "$assertionsDisabled" "Z" (.int (1 : Int32))) (U2 : Sta Z Z.heap "java/lang/StringUTF16" "HI_BYTE_SHIFT" "I" (.int (0 : Int32))) (U3 : Sta Z Z.heap "java/lang/StringUTF16" "LO_BYTE_SHIFT" "I" (.int (8 : Int32))) :
    MetFree l mN10 (head1 (Jvm.Cond.code mN10 jdk_52_method_83_code 2 (some .char) :: ws) (own_r 3 0 0 40)) (fun a U => a = #[(.ref b1), (.int (0 : Int32))] ∧ Z.Warmed39 U.vm ∧ U.heap = h0) (fun _ _ _ _ _ => True) (fun _ U o U' => ∃ v L, o = .returned v ∧ Q26_0 Z b1 kb cs G3 h0 n0 v U'.heap L ∧ FrameEnd U o U' L (own_r 3 0 0 40).cells (own_r 3 0 0 40).slots) := by
  refine MetFree.of_bodySF (plainFor_of_name pn_4) hisR ?_
  intro p e s m args below meth c s₁ Bd hml0 hP hK
  obtain ⟨rfl, hZ, hh⟩ := hP
  have hx := Bd.exec
  have hby := Bd.bytes
  have hml : c.maxLocals = 2 := hml0
  have hown : s.vm.findClass "java/lang/StringUTF16" = some m.cls := findClass_of_methodNamed Bd.named
  have hnm := (name_of_methodNamed Bd.named Bd.method).1
  have X0 : Stand p l e (own_r 3 0 0 40) s m #[(.ref b1), (.int (0 : Int32))] below meth c s₁ [] 0 0 := Stand.of_body Bd
  have e0 : s₁.heap = h0 := by rw [← hh, Bd.state]; rfl
  have Nf0 := Fr.nil n0
  obtain ⟨Gl, hGl, kn0⟩ := own_gl (p := p) (e := e) (below := below) (s₁ := s₁) (ef_rm26_0 m b1)
  have kn1 : ∀ t, own_S p e below s₁ (mkF m 2 #[.val (.ref b1), .val (.int 0)] [(.ref b1), (.int 0)]) t → Gl t := fun t kt => kn0 t (by
    show own_S p e below s₁ (mkF m 0 #[.val (.ref b1), .val (.int 0)] []) _
    refine XS.iloadN X0.here hx rfl (hb hby d26_0) rfl ?_
    refine XS.aloadN X0.here hx rfl (hb hby d26_1) rfl rfl ?_
    exact kt)
  obtain ⟨_, _, ⟨T2, L2, cc2, ss2⟩, -, X2, ⟨Lc2, hQ2, l2, y2, z2⟩, st2⟩ := Jvm.LawKit.callS X0 hx (y := mN8) hown (mvT hZ (own_w hw 115 rfl)) (mvT hZ (own_w hw 116 rfl)) (mvT hZ (own_w hw 54 rfl)) (mvT hZ (own_w hw 117 rfl)) (by decide) (backOf (W := 0) (rm27_0 l Z a0 hw [] b1 kb (Int32.ofNat (2 * cs.length)) (StrChars.Road.wideBytes cs) G3 h0 n0 Z0 A1 (own_hlt (i := 0) rfl hi hl) O0 O4 rG3) hZ (own_w hw 117 rfl) (own_w hw 54 rfl) (by decide) (by decide)) (g := (mkF m 2 #[.val (.ref b1), .val (.int 0)] [(.ref b1), (.int 0)])) rfl (by rw [hml]; rfl) (argsL := [(.int 0), (.ref b1)]) (rest := []) (lenOf pd_5 rfl) rfl (by show 2 * 0 + _ ≤ _; exact Nat.le_of_eq rfl) (hb hby d26_2) (fun _ _ => ⟨rfl, e0, (by decide : 0 + 0 ≤ _), (by decide : 0 + 0 ≤ _)⟩)
  dsimp only [Pt.U, Pt.locs, Pt.cells, Pt.slots] at X2 l2 y2 z2 st2 hQ2
  subst l2 y2 z2
  have X2 : Stand p l e _ _ m _ below meth c T2 _ 0 0 := X2
  obtain ⟨rfl, Nq2, eq2⟩ := hQ2
  have Nf2 := Fr.app Nf0 Nq2
  have kn3 : ∀ t, own_S p e below T2 (mkF m 7 #[.val (.ref b1), .val (.int 0)] [(.int 0), (.ref b1)]) t → Gl t := fun t kt => kn1 t (st2 _ (by
    show own_S p e below T2 (mkF m 5 #[.val (.ref b1), .val (.int 0)] []) _
    refine XS.aloadN X2.here hx rfl (hb hby d26_5) rfl rfl ?_
    refine XS.iloadN X2.here hx rfl (hb hby d26_6) rfl ?_
    exact kt))
  obtain ⟨_, _, ⟨T4, L4, cc4, ss4⟩, -, X4, ⟨Lc4, hQ4, l4, y4, z4⟩, st4⟩ := Jvm.LawKit.callS X2 hx (y := mN9) hown (mvT hZ (own_w hw 109 rfl)) (mvT hZ (own_w hw 110 rfl)) (mvT hZ (own_w hw 54 rfl)) (mvT hZ (own_w hw 111 rfl)) (by decide) (backOf (W := 0) (rm25_0 l Z a0 hw [] b1 kb (Int32.ofNat (2 * cs.length)) (StrChars.Road.wideBytes cs) (StrChars.lo8 (cs.getD 0 0)) (StrChars.hi8 (cs.getD 0 0)) h0 n0 Z0 A1 (own_lt (i := 0) (by omega) (by omega)) (own_lt (i := 1) (by omega) (by omega)) (StrChars.Road.wide_lo _ cs 0 hi) (StrChars.Road.wide_hi _ cs 0 hi) O0 U1 U2 U3) hZ (own_w hw 111 rfl) (own_w hw 54 rfl) (by decide) (by decide)) (g := (mkF m 7 #[.val (.ref b1), .val (.int 0)] [(.int 0), (.ref b1)])) rfl (by rw [hml]; rfl) (argsL := [(.ref b1), (.int 0)]) (rest := []) (lenOf pd_6 rfl) rfl (by show 2 * 0 + _ ≤ _; exact Nat.le_of_eq rfl) (hb hby d26_7) (fun _ _ => ⟨rfl, eq2, (by decide : 0 + 0 ≤ _), (by decide : 0 + 0 ≤ _)⟩)
  dsimp only [Pt.U, Pt.locs, Pt.cells, Pt.slots] at X4 l4 y4 z4 st4 hQ4
  subst l4 y4 z4
  have X4 : Stand p l e _ _ m _ below meth c T4 _ 0 0 := X4
  obtain ⟨rfl, Nq4, eq4⟩ := hQ4
  have Nf4 := Fr.app Nf2 Nq4
  obtain ⟨fs, hr, hrun, hended, hW, hsame⟩ := X4.leave (v := some (.int (nar .char (nar .char (StrChars.pairCh (StrChars.lo8 (cs.getD 0 0)) (StrChars.hi8 (cs.getD 0 0))))))) (fun h => by rw [Bd.returns] at h; cases h)
  refine ⟨_, _, hGl _ (kn3 _ (st4 _ (retN X4 hx (t := .char) Bd.returns (by simp) (hb hby d26_10) hr))), hrun, hended, _, _, rfl, ?_, ⟨_, rfl⟩, hW, hsame.mono (by decide) (by decide)⟩
  show Q26_0 Z b1 kb cs G3 h0 n0 _ T4.heap _
  rw [eq4]
  exact ⟨congrArg own_sv ((congrArg (nar .char) (own_pr (own_mem hbd hi))).trans (own_nr (own_mem hbd hi))), Nf4, rfl⟩

abbrev mN11 : MethodName := ⟨"java/lang/StringLatin1", "charAt", "([BI)C"⟩
theorem d17_0 : decode jdk_43_method_2_code 0 = .ok (.iload_n 1, 1) := by decide +kernel
theorem d17_1 : decode jdk_43_method_2_code 1 = .ok (.aload_n 0, 1) := by decide +kernel
theorem d17_2 : decode jdk_43_method_2_code 2 = .ok (.arraylength, 1) := by decide +kernel
theorem d17_3 : decode jdk_43_method_2_code 3 = .ok (.invokestatic 9, 3) := by decide +kernel
theorem d17_6 : decode jdk_43_method_2_code 6 = .ok (.aload_n 0, 1) := by decide +kernel
theorem d17_7 : decode jdk_43_method_2_code 7 = .ok (.iload_n 1, 1) := by decide +kernel
theorem d17_8 : decode jdk_43_method_2_code 8 = .ok (.baload, 1) := by decide +kernel
theorem d17_9 : decode jdk_43_method_2_code 9 = .ok (.sipush 255, 3) := by decide +kernel
theorem d17_12 : decode jdk_43_method_2_code 12 = .ok (.iand, 1) := by decide +kernel
theorem d17_13 : decode jdk_43_method_2_code 13 = .ok (.i2c, 1) := by decide +kernel
theorem d17_14 : decode jdk_43_method_2_code 14 = .ok (.ireturn, 1) := by decide +kernel
theorem pn_5 : plainName "java/lang/StringLatin1" = true := by first | (simp [plainName, overriddenIn]; done) | decide +kernel
theorem ef_rm17_0 (m : MethodId) (x0 : Addr) : entryFrame m #[(.ref x0), (.int (0 : Int32))] 2 = mkF m 0 #[.val (.ref x0), .val (.int (0 : Int32))] [] := by first | (simp [entryFrame, mkF, argsToLocals, Value.category]; done) | rfl
def Q17_0 (Z : State) (b1 : Addr) (kb : ClassId) (cs : List Int32) (G3 : Value) (h0 : Heap) (n0 : Nat) (v : Option Value) (h : Heap) (L : List Loc) : Prop := v = some (.int (cs.getD 0 0)) ∧ Fr n0 L ∧ h = h0
theorem rm17_0 (l : Launch) (Z : State) (a0 : Array Value) (hw : ∀ d ∈ tables_1, d.before a0 Z = true) (ws : List Jvm.Cond) (b1 : Addr) (kb : ClassId) (cs : List Int32) (G3 : Value) (h0 : Heap) (n0 : Nat) (Z0 : n0 ≤ h0.size) (A1 : Arv Z h0 b1 kb .byte (Int32.ofNat cs.length) (cs.map fun c => Value.int (StrChars.lo8 c)) (.int (0 : Int32))) (hi : 0 < cs.length) (hl : cs.length ≤ 3) (hbd : ∀ c ∈ cs, own_rg c) (hlat : ∀ c ∈ cs, ¬ (255 : Int32) < c) (O0 : Old Z n0 h0) (O4 : Sta Z Z.heap "jdk/internal/util/Preconditions" "SIOOBE_FORMATTER" "Ljava/util/function/BiFunction;" G3) (rG3 : G3.isRef = true) :
    MetFree l mN11 (head1 (Jvm.Cond.code mN11 jdk_43_method_2_code 2 (some .char) :: ws) (own_r 2 0 0 27)) (fun a U => a = #[(.ref b1), (.int (0 : Int32))] ∧ Z.Warmed39 U.vm ∧ U.heap = h0) (fun _ _ _ _ _ => True) (fun _ U o U' => ∃ v L, o = .returned v ∧ Q17_0 Z b1 kb cs G3 h0 n0 v U'.heap L ∧ FrameEnd U o U' L (own_r 2 0 0 27).cells (own_r 2 0 0 27).slots) := by
  refine MetFree.of_bodySF (plainFor_of_name pn_5) hisR ?_
  intro p e s m args below meth c s₁ Bd hml0 hP hK
  obtain ⟨rfl, hZ, hh⟩ := hP
  have hx := Bd.exec
  have hby := Bd.bytes
  have hml : c.maxLocals = 2 := hml0
  have hown : s.vm.findClass "java/lang/StringLatin1" = some m.cls := findClass_of_methodNamed Bd.named
  have hnm := (name_of_methodNamed Bd.named Bd.method).1
  have X0 : Stand p l e (own_r 2 0 0 27) s m #[(.ref b1), (.int (0 : Int32))] below meth c s₁ [] 0 0 := Stand.of_body Bd
  have e0 : s₁.heap = h0 := by rw [← hh, Bd.state]; rfl
  have Nf0 := Fr.nil n0
  obtain ⟨Gl, hGl, kn0⟩ := own_gl (p := p) (e := e) (below := below) (s₁ := s₁) (ef_rm17_0 m b1)
  have kn1 : ∀ t, own_S p e below s₁ (mkF m 2 #[.val (.ref b1), .val (.int 0)] [(.ref b1), (.int 0)]) t → Gl t := fun t kt => kn0 t (by
    show own_S p e below s₁ (mkF m 0 #[.val (.ref b1), .val (.int 0)] []) _
    refine XS.iloadN X0.here hx rfl (hb hby d17_0) rfl ?_
    refine XS.aloadN X0.here hx rfl (hb hby d17_1) rfl rfl ?_
    exact kt)
  obtain ⟨cl2, Ar2, -, Sz2, Ng2, -, -⟩ := id A1
  have kn3 : ∀ t, own_S p e below s₁ (mkF m 3 #[.val (.ref b1), .val (.int 0)] [(.int (Int32.ofNat cs.length)), (.int 0)]) t → Gl t := fun t kt => kn1 t (by
    show own_S p e below s₁ (mkF m 2 #[.val (.ref b1), .val (.int 0)] [(.ref b1), (.int 0)]) _
    refine X0.arraylength hx (by rw [e0]; exact Ar2.1) (State.isArrayOf_alike hZ.alike Ar2.2.1) (g := (mkF m 2 #[.val (.ref b1), .val (.int 0)] [(.ref b1), (.int 0)])) rfl rfl (hb hby d17_2) _ ?_
    rw [len_of Sz2 Ng2]
    exact kt)
  obtain ⟨_, _, ⟨T4, L4, cc4, ss4⟩, -, X4, ⟨Lc4, hQ4, l4, y4, z4⟩, st4⟩ := Jvm.LawKit.callS X0 hx (y := mN6) hown (mvT hZ (own_w hw 80 rfl)) (mvT hZ (own_w hw 81 rfl)) (mvT hZ (own_w hw 8 rfl)) (mvT hZ (own_w hw 82 rfl)) (by decide) (backOf (W := 0) (rm18 l Z a0 hw [] (0 : Int32) (Int32.ofNat cs.length) G3 h0 n0 Z0 (by decide) (own_lt (i := 0) hi (by omega)) O0 O4 rG3) hZ (own_w hw 82 rfl) (own_w hw 8 rfl) (by decide) (by decide)) (g := (mkF m 3 #[.val (.ref b1), .val (.int 0)] [(.int (Int32.ofNat cs.length)), (.int 0)])) rfl (by rw [hml]; rfl) (argsL := [(.int 0), (.int (Int32.ofNat cs.length))]) (rest := []) (lenOf pd_4 rfl) rfl (by show 2 * 0 + _ ≤ _; exact Nat.le_of_eq rfl) (hb hby d17_3) (fun _ _ => ⟨rfl, e0, (by decide : 0 + 0 ≤ _), (by decide : 0 + 0 ≤ _)⟩)
  dsimp only [Pt.U, Pt.locs, Pt.cells, Pt.slots] at X4 l4 y4 z4 st4 hQ4
  subst l4 y4 z4
  have X4 : Stand p l e _ _ m _ below meth c T4 _ 0 0 := X4
  obtain ⟨rfl, Nq4, eq4⟩ := hQ4
  have Nf4 := Fr.app Nf0 Nq4
  have kn5 : ∀ t, own_S p e below T4 (mkF m 8 #[.val (.ref b1), .val (.int 0)] [(.int 0), (.ref b1)]) t → Gl t := fun t kt => kn3 t (st4 _ (by
    show own_S p e below T4 (mkF m 6 #[.val (.ref b1), .val (.int 0)] []) _
    refine XS.aloadN X4.here hx rfl (hb hby d17_6) rfl rfl ?_
    refine XS.iloadN X4.here hx rfl (hb hby d17_7) rfl ?_
    exact kt))
  obtain ⟨cl6, Ar6, q6, Sz6, Ng6, Hs6, Gs6⟩ := id A1
  have hin6 : ¬ ((0 : Int32) < 0 ∨ cl6.slots.size ≤ ((0 : Int32)).toNatClampNeg) := inb_of Sz6 ⟨by decide, own_lt (i := 0) hi (by omega)⟩
  have hat6 : cl6.slots[((0 : Int32)).toNatClampNeg]? = some (.int (StrChars.lo8 (cs.getD 0 0))) := Hs6.at hin6 (StrChars.Road.low_at _ cs 0 hi)
  have kn7 : ∀ t, own_S p e below T4 (mkF m 14 #[.val (.ref b1), .val (.int 0)] [(.int (((StrChars.lo8 (cs.getD 0 0)) &&& (255 : Int32)).toUInt32.toUInt16.toUInt32.toInt32))]) t → Gl t := fun t kt => kn5 t (by
    show own_S p e below T4 (mkF m 8 #[.val (.ref b1), .val (.int 0)] [(.int 0), (.ref b1)]) _
    refine X4.baloadBytes hx (j := (0 : Int32)) (v := (.int (StrChars.lo8 (cs.getD 0 0)))) (by rw [eq4]; exact Ar6.1) (State.isArrayOf_alike hZ.alike Ar6.2.1) Ar6.2.2 hin6 hat6 (g := (mkF m 8 #[.val (.ref b1), .val (.int 0)] [(.int 0), (.ref b1)])) rfl rfl (hb hby d17_8) _ ?_
    refine XS.sipush X4.here hx rfl (hb hby d17_9) ?_
    refine XS.iand X4.here hx rfl (hb hby d17_12) rfl ?_
    refine XS.i2c X4.here hx rfl (hb hby d17_13) rfl ?_
    exact kt)
  obtain ⟨fs, hr, hrun, hended, hW, hsame⟩ := X4.leave (v := some (.int (nar .char (((StrChars.lo8 (cs.getD 0 0)) &&& (255 : Int32)).toUInt32.toUInt16.toUInt32.toInt32)))) (fun h => by rw [Bd.returns] at h; cases h)
  refine ⟨_, _, hGl _ (kn7 _ (retN X4 hx (t := .char) Bd.returns (by simp) (hb hby d17_14) hr)), hrun, hended, _, _, rfl, ?_, ⟨_, rfl⟩, hW, hsame.mono (by decide) (by decide)⟩
  show Q17_0 Z b1 kb cs G3 h0 n0 _ T4.heap _
  rw [eq4]
  exact ⟨congrArg own_sv (own_l8 (own_mem hbd hi) (own_mem hlat hi)), Nf4, rfl⟩

theorem ef_rm27_1 (m : MethodId) (x1 : Addr) : entryFrame m #[(.int (1 : Int32)), (.ref x1)] 2 = mkF m 0 #[.val (.int (1 : Int32)), .val (.ref x1)] [] := by first | (simp [entryFrame, mkF, argsToLocals, Value.category]; done) | rfl
def Q27_1 (Z : State) (b1 : Addr) (kb : ClassId) (N1 : Int32) (vs : List Value) (G3 : Value) (h0 : Heap) (n0 : Nat) (v : Option Value) (h : Heap) (L : List Loc) : Prop := v = none ∧ Fr n0 L ∧ h = h0
theorem rm27_1 (l : Launch) (Z : State) (a0 : Array Value) (hw : ∀ d ∈ tables_1, d.before a0 Z = true) (ws : List Jvm.Cond) (b1 : Addr) (kb : ClassId) (N1 : Int32) (vs : List Value) (G3 : Value) (h0 : Heap) (n0 : Nat) (Z0 : n0 ≤ h0.size) (A1 : Arv Z h0 b1 kb .byte N1 vs (.int (0 : Int32))) (hlt : (1 : Int32) < (N1 >>> ((1 : Int32) &&& 31))) (O0 : Old Z n0 h0) (O4 : Sta Z Z.heap "jdk/internal/util/Preconditions" "SIOOBE_FORMATTER" "Ljava/util/function/BiFunction;" G3) (rG3 : G3.isRef = true) :
    MetFree l mN8 (head1 (Jvm.Cond.code mN8 jdk_52_method_91_code 2 none :: ws) (own_r 2 0 0 27)) (fun a U => a = #[(.int (1 : Int32)), (.ref b1)] ∧ Z.Warmed39 U.vm ∧ U.heap = h0) (fun _ _ _ _ _ => True) (fun _ U o U' => ∃ v L, o = .returned v ∧ Q27_1 Z b1 kb N1 vs G3 h0 n0 v U'.heap L ∧ FrameEnd U o U' L (own_r 2 0 0 27).cells (own_r 2 0 0 27).slots) := by
  refine MetFree.of_bodySF (plainFor_of_name pn_4) hisR ?_
  intro p e s m args below meth c s₁ Bd hml0 hP hK
  obtain ⟨rfl, hZ, hh⟩ := hP
  have hx := Bd.exec
  have hby := Bd.bytes
  have hml : c.maxLocals = 2 := hml0
  have hown : s.vm.findClass "java/lang/StringUTF16" = some m.cls := findClass_of_methodNamed Bd.named
  have hnm := (name_of_methodNamed Bd.named Bd.method).1
  have X0 : Stand p l e (own_r 2 0 0 27) s m #[(.int (1 : Int32)), (.ref b1)] below meth c s₁ [] 0 0 := Stand.of_body Bd
  have e0 : s₁.heap = h0 := by rw [← hh, Bd.state]; rfl
  have Nf0 := Fr.nil n0
  obtain ⟨Gl, hGl, kn0⟩ := own_gl (p := p) (e := e) (below := below) (s₁ := s₁) (ef_rm27_1 m b1)
  have kn1 : ∀ t, own_S p e below s₁ (mkF m 2 #[.val (.int 1), .val (.ref b1)] [(.ref b1), (.int 1)]) t → Gl t := fun t kt => kn0 t (by
    show own_S p e below s₁ (mkF m 0 #[.val (.int 1), .val (.ref b1)] []) _
    refine XS.iloadN X0.here hx rfl (hb hby d27_0) rfl ?_
    refine XS.aloadN X0.here hx rfl (hb hby d27_1) rfl rfl ?_
    exact kt)
  obtain ⟨_, _, ⟨T2, L2, cc2, ss2⟩, -, X2, ⟨Lc2, hQ2, l2, y2, z2⟩, st2⟩ := Jvm.LawKit.callS X0 hx (y := mN7) hown (mvT hZ (own_w hw 118 rfl)) (mvT hZ (own_w hw 119 rfl)) (mvT hZ (own_w hw 54 rfl)) (mvT hZ (own_w hw 120 rfl)) (by decide) (backOf (W := 1) (rm28 l Z a0 hw [] b1 kb N1 vs h0 n0 Z0 A1) hZ (own_w hw 120 rfl) (own_w hw 54 rfl) (by decide) (by decide)) (g := (mkF m 2 #[.val (.int 1), .val (.ref b1)] [(.ref b1), (.int 1)])) rfl (by rw [hml]; rfl) (argsL := [(.ref b1)]) (rest := [(.int 1)]) (lenOf pd_3 rfl) rfl (by show 2 * 0 + _ ≤ _; exact Nat.le_of_eq rfl) (hb hby d27_2) (fun _ _ => ⟨rfl, e0, (by decide : 0 + 0 ≤ _), (by decide : 0 + 0 ≤ _)⟩)
  dsimp only [Pt.U, Pt.locs, Pt.cells, Pt.slots] at X2 l2 y2 z2 st2 hQ2
  subst l2 y2 z2
  have X2 : Stand p l e _ _ m _ below meth c T2 _ 0 0 := X2
  obtain ⟨rfl, Nq2, eq2⟩ := hQ2
  have Nf2 := Fr.app Nf0 Nq2
  obtain ⟨_, _, ⟨T3, L3, cc3, ss3⟩, -, X3, ⟨Lc3, hQ3, l3, y3, z3⟩, st3⟩ := Jvm.LawKit.callS X2 hx (y := mN6) hown (mvT hZ (own_w hw 121 rfl)) (mvT hZ (own_w hw 81 rfl)) (mvT hZ (own_w hw 8 rfl)) (mvT hZ (own_w hw 82 rfl)) (by decide) (backOf (W := 0) (rm18 l Z a0 hw [] (1 : Int32) (N1 >>> ((1 : Int32) &&& 31)) G3 h0 n0 Z0 (by decide) hlt O0 O4 rG3) hZ (own_w hw 82 rfl) (own_w hw 8 rfl) (by decide) (by decide)) (g := (mkF m 5 #[.val (.int 1), .val (.ref b1)] [(.int (N1 >>> ((1 : Int32) &&& 31))), (.int 1)])) rfl (by rw [hml]; rfl) (argsL := [(.int 1), (.int (N1 >>> ((1 : Int32) &&& 31)))]) (rest := []) (lenOf pd_4 rfl) rfl (by show 2 * 0 + _ ≤ _; exact Nat.le_of_eq rfl) (hb hby d27_5) (fun _ _ => ⟨rfl, eq2, (by decide : 0 + 0 ≤ _), (by decide : 0 + 0 ≤ _)⟩)
  dsimp only [Pt.U, Pt.locs, Pt.cells, Pt.slots] at X3 l3 y3 z3 st3 hQ3
  subst l3 y3 z3
  have X3 : Stand p l e _ _ m _ below meth c T3 _ 0 0 := X3
  obtain ⟨rfl, Nq3, eq3⟩ := hQ3
  have Nf3 := Fr.app Nf2 Nq3
  obtain ⟨fs, hr, hrun, hended, hW, hsame⟩ := X3.leave (v := none) (fun _ => rfl)
  refine ⟨_, _, hGl _ (kn1 _ (st2 _ (st3 _ (X3.returnOut hx Bd.returns (hb hby d27_8) hr)))), hrun, hended, _, _, rfl, ?_, ⟨_, rfl⟩, hW, hsame.mono (by decide) (by decide)⟩
  show Q27_1 Z b1 kb N1 vs G3 h0 n0 _ T3.heap _
  rw [eq3]
  exact ⟨rfl, Nf3, rfl⟩

theorem ef_rm25_1 (m : MethodId) (x0 : Addr) : entryFrame m #[(.ref x0), (.int (1 : Int32))] 2 = mkF m 0 #[.val (.ref x0), .val (.int (1 : Int32))] [] := by first | (simp [entryFrame, mkF, argsToLocals, Value.category]; done) | rfl
def Q25_1 (Z : State) (b1 : Addr) (kb : ClassId) (N1 : Int32) (vs : List Value) (u : Int32) (w : Int32) (h0 : Heap) (n0 : Nat) (v : Option Value) (h : Heap) (L : List Loc) : Prop := v = some (.int (nar .char (StrChars.pairCh u w))) ∧ Fr n0 L ∧ h = h0
theorem rm25_1 (l : Launch) (Z : State) (a0 : Array Value) (hw : ∀ d ∈ tables_1, d.before a0 Z = true) (ws : List Jvm.Cond) (b1 : Addr) (kb : ClassId) (N1 : Int32) (vs : List Value) (u : Int32) (w : Int32) (h0 : Heap) (n0 : Nat) (Z0 : n0 ≤ h0.size) (A1 : Arv Z h0 b1 kb .byte N1 vs (.int (0 : Int32))) (hA : (2 : Int32) < N1) (hB : (3 : Int32) < N1) (g0 : vs.getD ((2 : Int32)).toNatClampNeg (.int (0 : Int32)) = .int u) (g1 : vs.getD ((3 : Int32)).toNatClampNeg (.int (0 : Int32)) = .int w) (O0 : Old Z n0 h0) (U1 : Sta Z Z.heap "java/lang/StringUTF16" "$assertionsDisabled" "Z" (.int (1 : Int32))) (U2 : Sta Z Z.heap "java/lang/StringUTF16" "HI_BYTE_SHIFT" "I" (.int (0 : Int32))) (U3 : Sta Z Z.heap "java/lang/StringUTF16" "LO_BYTE_SHIFT" "I" (.int (8 : Int32))) :
    MetFree l mN9 (head1 (Jvm.Cond.code mN9 jdk_52_method_5_code 2 (some .char) :: ws) (own_r 0 0 0 0)) (fun a U => a = #[(.ref b1), (.int (1 : Int32))] ∧ Z.Warmed39 U.vm ∧ U.heap = h0) (fun _ _ _ _ _ => True) (fun _ U o U' => ∃ v L, o = .returned v ∧ Q25_1 Z b1 kb N1 vs u w h0 n0 v U'.heap L ∧ FrameEnd U o U' L (own_r 0 0 0 0).cells (own_r 0 0 0 0).slots) := by
  refine MetFree.of_bodySF (plainFor_of_name pn_4) hisR ?_
  intro p e s m args below meth c s₁ Bd hml0 hP hK
  obtain ⟨rfl, hZ, hh⟩ := hP
  have hx := Bd.exec
  have hby := Bd.bytes
  have hml : c.maxLocals = 2 := hml0
  have hown : s.vm.findClass "java/lang/StringUTF16" = some m.cls := findClass_of_methodNamed Bd.named
  have hnm := (name_of_methodNamed Bd.named Bd.method).1
  have X0 : Stand p l e (own_r 0 0 0 0) s m #[(.ref b1), (.int (1 : Int32))] below meth c s₁ [] 0 0 := Stand.of_body Bd
  have e0 : s₁.heap = h0 := by rw [← hh, Bd.state]; rfl
  have Nf0 := Fr.nil n0
  obtain ⟨Gl, hGl, kn0⟩ := own_gl (p := p) (e := e) (below := below) (s₁ := s₁) (ef_rm25_1 m b1)
  obtain ⟨T1, X1, e1, st1⟩ := getS2 X0 hx hZ hown (host := "") (Or.inl (own_w hw 106 rfl)) Via.refl e0 (U1.ext O0.2) (g := (mkF m 0 #[.val (.ref b1), .val (.int 1)] [])) rfl (hb hby d25_0)
  have kn2 : ∀ t, own_S p e below T1 (mkF m 37 #[.val (.ref b1), .val (.int 3)] [(.int 2), (.ref b1)]) t → Gl t := fun t kt => kn0 t (st1 _ (by
    show own_S p e below T1 (mkF m 3 #[.val (.ref b1), .val (.int 1)] [(.int 1)]) _
    refine XS.ifYes X1.here hx rfl (pc0 := 3) (pc' := 28) rfl (hb hby d25_3) rfl ((if0 _ _).trans (feq (by decide : ¬ ((1 : Int32) = (0 : Int32)))).2) (by decide) (by decide) ?_
    refine XS.iloadN X1.here hx rfl (hb hby d25_28) rfl ?_
    refine XS.iconst X1.here hx rfl (hb hby d25_29) ?_
    show own_S p e below T1 (mkF m 30 #[.val (.ref b1), .val (.int 1)] [(.int 1), (.int 1)]) _
    refine XS.ishl X1.here hx rfl (hb hby d25_30) rfl ?_
    rw [(by decide : ((1 : Int32) <<< ((1 : Int32) &&& 31)) = (2 : Int32))]
    refine XS.istoreN X1.here hx rfl (hb hby d25_31) rfl (l' := #[.val (.ref b1), .val (.int 2)]) rfl ?_
    refine XS.aloadN X1.here hx rfl (hb hby d25_32) rfl rfl ?_
    refine XS.iloadN X1.here hx rfl (hb hby d25_33) rfl ?_
    show own_S p e below T1 (mkF m 34 #[.val (.ref b1), .val (.int 2)] [(.int 2), (.ref b1)]) _
    refine XS.iinc X1.here hx rfl (hb hby d25_34) rfl (l' := #[.val (.ref b1), .val (.int ((2 : Int32) + (1 : Int32)))]) rfl ?_
    rw [(by decide : ((2 : Int32) + (1 : Int32)) = (3 : Int32))]
    exact kt))
  obtain ⟨cl3, Ar3, q3, Sz3, Ng3, Hs3, Gs3⟩ := id A1
  have hin3 : ¬ ((2 : Int32) < 0 ∨ cl3.slots.size ≤ ((2 : Int32)).toNatClampNeg) := inb_of Sz3 ⟨by decide, hA⟩
  have hat3 : cl3.slots[((2 : Int32)).toNatClampNeg]? = some (.int u) := Hs3.at hin3 g0
  have kn4 : ∀ t, own_S p e below T1 (mkF m 42 #[.val (.ref b1), .val (.int 3)] [(.int (u &&& (255 : Int32)))]) t → Gl t := fun t kt => kn2 t (by
    show own_S p e below T1 (mkF m 37 #[.val (.ref b1), .val (.int 3)] [(.int 2), (.ref b1)]) _
    refine X1.baloadBytes hx (j := (2 : Int32)) (v := (.int u)) (by rw [e1]; exact Ar3.1) (State.isArrayOf_alike hZ.alike Ar3.2.1) Ar3.2.2 hin3 hat3 (g := (mkF m 37 #[.val (.ref b1), .val (.int 3)] [(.int 2), (.ref b1)])) rfl rfl (hb hby d25_37) _ ?_
    refine XS.sipush X1.here hx rfl (hb hby d25_38) ?_
    refine XS.iand X1.here hx rfl (hb hby d25_41) rfl ?_
    exact kt)
  obtain ⟨T5, X5, e5, st5⟩ := getS2 X1 hx hZ hown (host := "") (Or.inl (own_w hw 107 rfl)) Via.refl e1 (U2.ext O0.2) (g := (mkF m 42 #[.val (.ref b1), .val (.int 3)] [(.int (u &&& (255 : Int32)))])) rfl (hb hby d25_42)
  have kn6 : ∀ t, own_S p e below T5 (mkF m 48 #[.val (.ref b1), .val (.int 3)] [(.int 3), (.ref b1), (.int ((u &&& (255 : Int32)) <<< ((0 : Int32) &&& 31)))]) t → Gl t := fun t kt => kn4 t (st5 _ (by
    show own_S p e below T5 (mkF m 45 #[.val (.ref b1), .val (.int 3)] [(.int 0), (.int (u &&& (255 : Int32)))]) _
    refine XS.ishl X5.here hx rfl (hb hby d25_45) rfl ?_
    refine XS.aloadN X5.here hx rfl (hb hby d25_46) rfl rfl ?_
    refine XS.iloadN X5.here hx rfl (hb hby d25_47) rfl ?_
    exact kt))
  obtain ⟨cl7, Ar7, q7, Sz7, Ng7, Hs7, Gs7⟩ := id A1
  have hin7 : ¬ ((3 : Int32) < 0 ∨ cl7.slots.size ≤ ((3 : Int32)).toNatClampNeg) := inb_of Sz7 ⟨by decide, hB⟩
  have hat7 : cl7.slots[((3 : Int32)).toNatClampNeg]? = some (.int w) := Hs7.at hin7 g1
  have kn8 : ∀ t, own_S p e below T5 (mkF m 53 #[.val (.ref b1), .val (.int 3)] [(.int (w &&& (255 : Int32))), (.int ((u &&& (255 : Int32)) <<< ((0 : Int32) &&& 31)))]) t → Gl t := fun t kt => kn6 t (by
    show own_S p e below T5 (mkF m 48 #[.val (.ref b1), .val (.int 3)] [(.int 3), (.ref b1), (.int ((u &&& (255 : Int32)) <<< ((0 : Int32) &&& 31)))]) _
    refine X5.baloadBytes hx (j := (3 : Int32)) (v := (.int w)) (by rw [e5]; exact Ar7.1) (State.isArrayOf_alike hZ.alike Ar7.2.1) Ar7.2.2 hin7 hat7 (g := (mkF m 48 #[.val (.ref b1), .val (.int 3)] [(.int 3), (.ref b1), (.int ((u &&& (255 : Int32)) <<< ((0 : Int32) &&& 31)))])) rfl rfl (hb hby d25_48) _ ?_
    refine XS.sipush X5.here hx rfl (hb hby d25_49) ?_
    refine XS.iand X5.here hx rfl (hb hby d25_52) rfl ?_
    exact kt)
  obtain ⟨T9, X9, e9, st9⟩ := getS2 X5 hx hZ hown (host := "") (Or.inl (own_w hw 108 rfl)) Via.refl e5 (U3.ext O0.2) (g := (mkF m 53 #[.val (.ref b1), .val (.int 3)] [(.int (w &&& (255 : Int32))), (.int ((u &&& (255 : Int32)) <<< ((0 : Int32) &&& 31)))])) rfl (hb hby d25_53)
  have kn10 : ∀ t, own_S p e below T9 (mkF m 59 #[.val (.ref b1), .val (.int 3)] [(.int ((((u &&& (255 : Int32)) <<< ((0 : Int32) &&& 31)) ||| ((w &&& (255 : Int32)) <<< ((8 : Int32) &&& 31))).toUInt32.toUInt16.toUInt32.toInt32))]) t → Gl t := fun t kt => kn8 t (st9 _ (by
    show own_S p e below T9 (mkF m 56 #[.val (.ref b1), .val (.int 3)] [(.int 8), (.int (w &&& (255 : Int32))), (.int ((u &&& (255 : Int32)) <<< ((0 : Int32) &&& 31)))]) _
    refine XS.ishl X9.here hx rfl (hb hby d25_56) rfl ?_
    refine XS.ior X9.here hx rfl (hb hby d25_57) rfl ?_
    refine XS.i2c X9.here hx rfl (hb hby d25_58) rfl ?_
    exact kt))
  obtain ⟨fs, hr, hrun, hended, hW, hsame⟩ := X9.leave (v := some (.int (nar .char ((((u &&& (255 : Int32)) <<< ((0 : Int32) &&& 31)) ||| ((w &&& (255 : Int32)) <<< ((8 : Int32) &&& 31))).toUInt32.toUInt16.toUInt32.toInt32)))) (fun h => by rw [Bd.returns] at h; cases h)
  refine ⟨_, _, hGl _ (kn10 _ (retN X9 hx (t := .char) Bd.returns (by simp) (hb hby d25_59) hr)), hrun, hended, _, _, rfl, ?_, ⟨_, rfl⟩, hW, hsame.mono (by decide) (by decide)⟩
  show Q25_1 Z b1 kb N1 vs u w h0 n0 _ T9.heap _
  rw [e9]
  exact ⟨rfl, Nf0, rfl⟩

theorem ef_rm26_1 (m : MethodId) (x0 : Addr) : entryFrame m #[(.ref x0), (.int (1 : Int32))] 2 = mkF m 0 #[.val (.ref x0), .val (.int (1 : Int32))] [] := by first | (simp [entryFrame, mkF, argsToLocals, Value.category]; done) | rfl
def Q26_1 (Z : State) (b1 : Addr) (kb : ClassId) (cs : List Int32) (G3 : Value) (h0 : Heap) (n0 : Nat) (v : Option Value) (h : Heap) (L : List Loc) : Prop := v = some (.int (cs.getD 1 0)) ∧ Fr n0 L ∧ h = h0
theorem rm26_1 (l : Launch) (Z : State) (a0 : Array Value) (hw : ∀ d ∈ tables_1, d.before a0 Z = true) (ws : List Jvm.Cond) (b1 : Addr) (kb : ClassId) (cs : List Int32) (G3 : Value) (h0 : Heap) (n0 : Nat) (Z0 : n0 ≤ h0.size) (A1 : Arv Z h0 b1 kb .byte (Int32.ofNat (2 * cs.length)) (StrChars.Road.wideBytes cs) (.int (0 : Int32))) (hi : 1 < cs.length) (hl : cs.length ≤ 3) (hbd : ∀ c ∈ cs, own_rg c) (O0 : Old Z n0 h0) (O4 : Sta Z Z.heap "jdk/internal/util/Preconditions" "SIOOBE_FORMATTER" "Ljava/util/function/BiFunction;" G3) (rG3 : G3.isRef = true) (U1 : Sta Z Z.heap "java/lang/StringUTF16" "$assertionsDisabled" "Z" (.int (1 : Int32))) (U2 : Sta Z Z.heap "java/lang/StringUTF16" "HI_BYTE_SHIFT" "I" (.int (0 : Int32))) (U3 : Sta Z Z.heap "java/lang/StringUTF16" "LO_BYTE_SHIFT" "I" (.int (8 : Int32))) :
    MetFree l mN10 (head1 (Jvm.Cond.code mN10 jdk_52_method_83_code 2 (some .char) :: ws) (own_r 3 0 0 40)) (fun a U => a = #[(.ref b1), (.int (1 : Int32))] ∧ Z.Warmed39 U.vm ∧ U.heap = h0) (fun _ _ _ _ _ => True) (fun _ U o U' => ∃ v L, o = .returned v ∧ Q26_1 Z b1 kb cs G3 h0 n0 v U'.heap L ∧ FrameEnd U o U' L (own_r 3 0 0 40).cells (own_r 3 0 0 40).slots) := by
  refine MetFree.of_bodySF (plainFor_of_name pn_4) hisR ?_
  intro p e s m args below meth c s₁ Bd hml0 hP hK
  obtain ⟨rfl, hZ, hh⟩ := hP
  have hx := Bd.exec
  have hby := Bd.bytes
  have hml : c.maxLocals = 2 := hml0
  have hown : s.vm.findClass "java/lang/StringUTF16" = some m.cls := findClass_of_methodNamed Bd.named
  have hnm := (name_of_methodNamed Bd.named Bd.method).1
  have X0 : Stand p l e (own_r 3 0 0 40) s m #[(.ref b1), (.int (1 : Int32))] below meth c s₁ [] 0 0 := Stand.of_body Bd
  have e0 : s₁.heap = h0 := by rw [← hh, Bd.state]; rfl
  have Nf0 := Fr.nil n0
  obtain ⟨Gl, hGl, kn0⟩ := own_gl (p := p) (e := e) (below := below) (s₁ := s₁) (ef_rm26_1 m b1)
  have kn1 : ∀ t, own_S p e below s₁ (mkF m 2 #[.val (.ref b1), .val (.int 1)] [(.ref b1), (.int 1)]) t → Gl t := fun t kt => kn0 t (by
    show own_S p e below s₁ (mkF m 0 #[.val (.ref b1), .val (.int 1)] []) _
    refine XS.iloadN X0.here hx rfl (hb hby d26_0) rfl ?_
    refine XS.aloadN X0.here hx rfl (hb hby d26_1) rfl rfl ?_
    exact kt)
  obtain ⟨_, _, ⟨T2, L2, cc2, ss2⟩, -, X2, ⟨Lc2, hQ2, l2, y2, z2⟩, st2⟩ := Jvm.LawKit.callS X0 hx (y := mN8) hown (mvT hZ (own_w hw 115 rfl)) (mvT hZ (own_w hw 116 rfl)) (mvT hZ (own_w hw 54 rfl)) (mvT hZ (own_w hw 117 rfl)) (by decide) (backOf (W := 0) (rm27_1 l Z a0 hw [] b1 kb (Int32.ofNat (2 * cs.length)) (StrChars.Road.wideBytes cs) G3 h0 n0 Z0 A1 (own_hlt (i := 1) rfl hi hl) O0 O4 rG3) hZ (own_w hw 117 rfl) (own_w hw 54 rfl) (by decide) (by decide)) (g := (mkF m 2 #[.val (.ref b1), .val (.int 1)] [(.ref b1), (.int 1)])) rfl (by rw [hml]; rfl) (argsL := [(.int 1), (.ref b1)]) (rest := []) (lenOf pd_5 rfl) rfl (by show 2 * 0 + _ ≤ _; exact Nat.le_of_eq rfl) (hb hby d26_2) (fun _ _ => ⟨rfl, e0, (by decide : 0 + 0 ≤ _), (by decide : 0 + 0 ≤ _)⟩)
  dsimp only [Pt.U, Pt.locs, Pt.cells, Pt.slots] at X2 l2 y2 z2 st2 hQ2
  subst l2 y2 z2
  have X2 : Stand p l e _ _ m _ below meth c T2 _ 0 0 := X2
  obtain ⟨rfl, Nq2, eq2⟩ := hQ2
  have Nf2 := Fr.app Nf0 Nq2
  have kn3 : ∀ t, own_S p e below T2 (mkF m 7 #[.val (.ref b1), .val (.int 1)] [(.int 1), (.ref b1)]) t → Gl t := fun t kt => kn1 t (st2 _ (by
    show own_S p e below T2 (mkF m 5 #[.val (.ref b1), .val (.int 1)] []) _
    refine XS.aloadN X2.here hx rfl (hb hby d26_5) rfl rfl ?_
    refine XS.iloadN X2.here hx rfl (hb hby d26_6) rfl ?_
    exact kt))
  obtain ⟨_, _, ⟨T4, L4, cc4, ss4⟩, -, X4, ⟨Lc4, hQ4, l4, y4, z4⟩, st4⟩ := Jvm.LawKit.callS X2 hx (y := mN9) hown (mvT hZ (own_w hw 109 rfl)) (mvT hZ (own_w hw 110 rfl)) (mvT hZ (own_w hw 54 rfl)) (mvT hZ (own_w hw 111 rfl)) (by decide) (backOf (W := 0) (rm25_1 l Z a0 hw [] b1 kb (Int32.ofNat (2 * cs.length)) (StrChars.Road.wideBytes cs) (StrChars.lo8 (cs.getD 1 0)) (StrChars.hi8 (cs.getD 1 0)) h0 n0 Z0 A1 (own_lt (i := 2) (by omega) (by omega)) (own_lt (i := 3) (by omega) (by omega)) (StrChars.Road.wide_lo _ cs 1 hi) (StrChars.Road.wide_hi _ cs 1 hi) O0 U1 U2 U3) hZ (own_w hw 111 rfl) (own_w hw 54 rfl) (by decide) (by decide)) (g := (mkF m 7 #[.val (.ref b1), .val (.int 1)] [(.int 1), (.ref b1)])) rfl (by rw [hml]; rfl) (argsL := [(.ref b1), (.int 1)]) (rest := []) (lenOf pd_6 rfl) rfl (by show 2 * 0 + _ ≤ _; exact Nat.le_of_eq rfl) (hb hby d26_7) (fun _ _ => ⟨rfl, eq2, (by decide : 0 + 0 ≤ _), (by decide : 0 + 0 ≤ _)⟩)
  dsimp only [Pt.U, Pt.locs, Pt.cells, Pt.slots] at X4 l4 y4 z4 st4 hQ4
  subst l4 y4 z4
  have X4 : Stand p l e _ _ m _ below meth c T4 _ 0 0 := X4
  obtain ⟨rfl, Nq4, eq4⟩ := hQ4
  have Nf4 := Fr.app Nf2 Nq4
  obtain ⟨fs, hr, hrun, hended, hW, hsame⟩ := X4.leave (v := some (.int (nar .char (nar .char (StrChars.pairCh (StrChars.lo8 (cs.getD 1 0)) (StrChars.hi8 (cs.getD 1 0))))))) (fun h => by rw [Bd.returns] at h; cases h)
  refine ⟨_, _, hGl _ (kn3 _ (st4 _ (retN X4 hx (t := .char) Bd.returns (by simp) (hb hby d26_10) hr))), hrun, hended, _, _, rfl, ?_, ⟨_, rfl⟩, hW, hsame.mono (by decide) (by decide)⟩
  show Q26_1 Z b1 kb cs G3 h0 n0 _ T4.heap _
  rw [eq4]
  exact ⟨congrArg own_sv ((congrArg (nar .char) (own_pr (own_mem hbd hi))).trans (own_nr (own_mem hbd hi))), Nf4, rfl⟩

theorem ef_rm17_1 (m : MethodId) (x0 : Addr) : entryFrame m #[(.ref x0), (.int (1 : Int32))] 2 = mkF m 0 #[.val (.ref x0), .val (.int (1 : Int32))] [] := by first | (simp [entryFrame, mkF, argsToLocals, Value.category]; done) | rfl
def Q17_1 (Z : State) (b1 : Addr) (kb : ClassId) (cs : List Int32) (G3 : Value) (h0 : Heap) (n0 : Nat) (v : Option Value) (h : Heap) (L : List Loc) : Prop := v = some (.int (cs.getD 1 0)) ∧ Fr n0 L ∧ h = h0
theorem rm17_1 (l : Launch) (Z : State) (a0 : Array Value) (hw : ∀ d ∈ tables_1, d.before a0 Z = true) (ws : List Jvm.Cond) (b1 : Addr) (kb : ClassId) (cs : List Int32) (G3 : Value) (h0 : Heap) (n0 : Nat) (Z0 : n0 ≤ h0.size) (A1 : Arv Z h0 b1 kb .byte (Int32.ofNat cs.length) (cs.map fun c => Value.int (StrChars.lo8 c)) (.int (0 : Int32))) (hi : 1 < cs.length) (hl : cs.length ≤ 3) (hbd : ∀ c ∈ cs, own_rg c) (hlat : ∀ c ∈ cs, ¬ (255 : Int32) < c) (O0 : Old Z n0 h0) (O4 : Sta Z Z.heap "jdk/internal/util/Preconditions" "SIOOBE_FORMATTER" "Ljava/util/function/BiFunction;" G3) (rG3 : G3.isRef = true) :
    MetFree l mN11 (head1 (Jvm.Cond.code mN11 jdk_43_method_2_code 2 (some .char) :: ws) (own_r 2 0 0 27)) (fun a U => a = #[(.ref b1), (.int (1 : Int32))] ∧ Z.Warmed39 U.vm ∧ U.heap = h0) (fun _ _ _ _ _ => True) (fun _ U o U' => ∃ v L, o = .returned v ∧ Q17_1 Z b1 kb cs G3 h0 n0 v U'.heap L ∧ FrameEnd U o U' L (own_r 2 0 0 27).cells (own_r 2 0 0 27).slots) := by
  refine MetFree.of_bodySF (plainFor_of_name pn_5) hisR ?_
  intro p e s m args below meth c s₁ Bd hml0 hP hK
  obtain ⟨rfl, hZ, hh⟩ := hP
  have hx := Bd.exec
  have hby := Bd.bytes
  have hml : c.maxLocals = 2 := hml0
  have hown : s.vm.findClass "java/lang/StringLatin1" = some m.cls := findClass_of_methodNamed Bd.named
  have hnm := (name_of_methodNamed Bd.named Bd.method).1
  have X0 : Stand p l e (own_r 2 0 0 27) s m #[(.ref b1), (.int (1 : Int32))] below meth c s₁ [] 0 0 := Stand.of_body Bd
  have e0 : s₁.heap = h0 := by rw [← hh, Bd.state]; rfl
  have Nf0 := Fr.nil n0
  obtain ⟨Gl, hGl, kn0⟩ := own_gl (p := p) (e := e) (below := below) (s₁ := s₁) (ef_rm17_1 m b1)
  have kn1 : ∀ t, own_S p e below s₁ (mkF m 2 #[.val (.ref b1), .val (.int 1)] [(.ref b1), (.int 1)]) t → Gl t := fun t kt => kn0 t (by
    show own_S p e below s₁ (mkF m 0 #[.val (.ref b1), .val (.int 1)] []) _
    refine XS.iloadN X0.here hx rfl (hb hby d17_0) rfl ?_
    refine XS.aloadN X0.here hx rfl (hb hby d17_1) rfl rfl ?_
    exact kt)
  obtain ⟨cl2, Ar2, -, Sz2, Ng2, -, -⟩ := id A1
  have kn3 : ∀ t, own_S p e below s₁ (mkF m 3 #[.val (.ref b1), .val (.int 1)] [(.int (Int32.ofNat cs.length)), (.int 1)]) t → Gl t := fun t kt => kn1 t (by
    show own_S p e below s₁ (mkF m 2 #[.val (.ref b1), .val (.int 1)] [(.ref b1), (.int 1)]) _
    refine X0.arraylength hx (by rw [e0]; exact Ar2.1) (State.isArrayOf_alike hZ.alike Ar2.2.1) (g := (mkF m 2 #[.val (.ref b1), .val (.int 1)] [(.ref b1), (.int 1)])) rfl rfl (hb hby d17_2) _ ?_
    rw [len_of Sz2 Ng2]
    exact kt)
  obtain ⟨_, _, ⟨T4, L4, cc4, ss4⟩, -, X4, ⟨Lc4, hQ4, l4, y4, z4⟩, st4⟩ := Jvm.LawKit.callS X0 hx (y := mN6) hown (mvT hZ (own_w hw 80 rfl)) (mvT hZ (own_w hw 81 rfl)) (mvT hZ (own_w hw 8 rfl)) (mvT hZ (own_w hw 82 rfl)) (by decide) (backOf (W := 0) (rm18 l Z a0 hw [] (1 : Int32) (Int32.ofNat cs.length) G3 h0 n0 Z0 (by decide) (own_lt (i := 1) hi (by omega)) O0 O4 rG3) hZ (own_w hw 82 rfl) (own_w hw 8 rfl) (by decide) (by decide)) (g := (mkF m 3 #[.val (.ref b1), .val (.int 1)] [(.int (Int32.ofNat cs.length)), (.int 1)])) rfl (by rw [hml]; rfl) (argsL := [(.int 1), (.int (Int32.ofNat cs.length))]) (rest := []) (lenOf pd_4 rfl) rfl (by show 2 * 0 + _ ≤ _; exact Nat.le_of_eq rfl) (hb hby d17_3) (fun _ _ => ⟨rfl, e0, (by decide : 0 + 0 ≤ _), (by decide : 0 + 0 ≤ _)⟩)
  dsimp only [Pt.U, Pt.locs, Pt.cells, Pt.slots] at X4 l4 y4 z4 st4 hQ4
  subst l4 y4 z4
  have X4 : Stand p l e _ _ m _ below meth c T4 _ 0 0 := X4
  obtain ⟨rfl, Nq4, eq4⟩ := hQ4
  have Nf4 := Fr.app Nf0 Nq4
  have kn5 : ∀ t, own_S p e below T4 (mkF m 8 #[.val (.ref b1), .val (.int 1)] [(.int 1), (.ref b1)]) t → Gl t := fun t kt => kn3 t (st4 _ (by
    show own_S p e below T4 (mkF m 6 #[.val (.ref b1), .val (.int 1)] []) _
    refine XS.aloadN X4.here hx rfl (hb hby d17_6) rfl rfl ?_
    refine XS.iloadN X4.here hx rfl (hb hby d17_7) rfl ?_
    exact kt))
  obtain ⟨cl6, Ar6, q6, Sz6, Ng6, Hs6, Gs6⟩ := id A1
  have hin6 : ¬ ((1 : Int32) < 0 ∨ cl6.slots.size ≤ ((1 : Int32)).toNatClampNeg) := inb_of Sz6 ⟨by decide, own_lt (i := 1) hi (by omega)⟩
  have hat6 : cl6.slots[((1 : Int32)).toNatClampNeg]? = some (.int (StrChars.lo8 (cs.getD 1 0))) := Hs6.at hin6 (StrChars.Road.low_at _ cs 1 hi)
  have kn7 : ∀ t, own_S p e below T4 (mkF m 14 #[.val (.ref b1), .val (.int 1)] [(.int (((StrChars.lo8 (cs.getD 1 0)) &&& (255 : Int32)).toUInt32.toUInt16.toUInt32.toInt32))]) t → Gl t := fun t kt => kn5 t (by
    show own_S p e below T4 (mkF m 8 #[.val (.ref b1), .val (.int 1)] [(.int 1), (.ref b1)]) _
    refine X4.baloadBytes hx (j := (1 : Int32)) (v := (.int (StrChars.lo8 (cs.getD 1 0)))) (by rw [eq4]; exact Ar6.1) (State.isArrayOf_alike hZ.alike Ar6.2.1) Ar6.2.2 hin6 hat6 (g := (mkF m 8 #[.val (.ref b1), .val (.int 1)] [(.int 1), (.ref b1)])) rfl rfl (hb hby d17_8) _ ?_
    refine XS.sipush X4.here hx rfl (hb hby d17_9) ?_
    refine XS.iand X4.here hx rfl (hb hby d17_12) rfl ?_
    refine XS.i2c X4.here hx rfl (hb hby d17_13) rfl ?_
    exact kt)
  obtain ⟨fs, hr, hrun, hended, hW, hsame⟩ := X4.leave (v := some (.int (nar .char (((StrChars.lo8 (cs.getD 1 0)) &&& (255 : Int32)).toUInt32.toUInt16.toUInt32.toInt32)))) (fun h => by rw [Bd.returns] at h; cases h)
  refine ⟨_, _, hGl _ (kn7 _ (retN X4 hx (t := .char) Bd.returns (by simp) (hb hby d17_14) hr)), hrun, hended, _, _, rfl, ?_, ⟨_, rfl⟩, hW, hsame.mono (by decide) (by decide)⟩
  show Q17_1 Z b1 kb cs G3 h0 n0 _ T4.heap _
  rw [eq4]
  exact ⟨congrArg own_sv (own_l8 (own_mem hbd hi) (own_mem hlat hi)), Nf4, rfl⟩

theorem ef_rm27_2 (m : MethodId) (x1 : Addr) : entryFrame m #[(.int (2 : Int32)), (.ref x1)] 2 = mkF m 0 #[.val (.int (2 : Int32)), .val (.ref x1)] [] := by first | (simp [entryFrame, mkF, argsToLocals, Value.category]; done) | rfl
def Q27_2 (Z : State) (b1 : Addr) (kb : ClassId) (N1 : Int32) (vs : List Value) (G3 : Value) (h0 : Heap) (n0 : Nat) (v : Option Value) (h : Heap) (L : List Loc) : Prop := v = none ∧ Fr n0 L ∧ h = h0
theorem rm27_2 (l : Launch) (Z : State) (a0 : Array Value) (hw : ∀ d ∈ tables_1, d.before a0 Z = true) (ws : List Jvm.Cond) (b1 : Addr) (kb : ClassId) (N1 : Int32) (vs : List Value) (G3 : Value) (h0 : Heap) (n0 : Nat) (Z0 : n0 ≤ h0.size) (A1 : Arv Z h0 b1 kb .byte N1 vs (.int (0 : Int32))) (hlt : (2 : Int32) < (N1 >>> ((1 : Int32) &&& 31))) (O0 : Old Z n0 h0) (O4 : Sta Z Z.heap "jdk/internal/util/Preconditions" "SIOOBE_FORMATTER" "Ljava/util/function/BiFunction;" G3) (rG3 : G3.isRef = true) :
    MetFree l mN8 (head1 (Jvm.Cond.code mN8 jdk_52_method_91_code 2 none :: ws) (own_r 2 0 0 27)) (fun a U => a = #[(.int (2 : Int32)), (.ref b1)] ∧ Z.Warmed39 U.vm ∧ U.heap = h0) (fun _ _ _ _ _ => True) (fun _ U o U' => ∃ v L, o = .returned v ∧ Q27_2 Z b1 kb N1 vs G3 h0 n0 v U'.heap L ∧ FrameEnd U o U' L (own_r 2 0 0 27).cells (own_r 2 0 0 27).slots) := by
  refine MetFree.of_bodySF (plainFor_of_name pn_4) hisR ?_
  intro p e s m args below meth c s₁ Bd hml0 hP hK
  obtain ⟨rfl, hZ, hh⟩ := hP
  have hx := Bd.exec
  have hby := Bd.bytes
  have hml : c.maxLocals = 2 := hml0
  have hown : s.vm.findClass "java/lang/StringUTF16" = some m.cls := findClass_of_methodNamed Bd.named
  have hnm := (name_of_methodNamed Bd.named Bd.method).1
  have X0 : Stand p l e (own_r 2 0 0 27) s m #[(.int (2 : Int32)), (.ref b1)] below meth c s₁ [] 0 0 := Stand.of_body Bd
  have e0 : s₁.heap = h0 := by rw [← hh, Bd.state]; rfl
  have Nf0 := Fr.nil n0
  obtain ⟨Gl, hGl, kn0⟩ := own_gl (p := p) (e := e) (below := below) (s₁ := s₁) (ef_rm27_2 m b1)
  have kn1 : ∀ t, own_S p e below s₁ (mkF m 2 #[.val (.int 2), .val (.ref b1)] [(.ref b1), (.int 2)]) t → Gl t := fun t kt => kn0 t (by
    show own_S p e below s₁ (mkF m 0 #[.val (.int 2), .val (.ref b1)] []) _
    refine XS.iloadN X0.here hx rfl (hb hby d27_0) rfl ?_
    refine XS.aloadN X0.here hx rfl (hb hby d27_1) rfl rfl ?_
    exact kt)
  obtain ⟨_, _, ⟨T2, L2, cc2, ss2⟩, -, X2, ⟨Lc2, hQ2, l2, y2, z2⟩, st2⟩ := Jvm.LawKit.callS X0 hx (y := mN7) hown (mvT hZ (own_w hw 118 rfl)) (mvT hZ (own_w hw 119 rfl)) (mvT hZ (own_w hw 54 rfl)) (mvT hZ (own_w hw 120 rfl)) (by decide) (backOf (W := 1) (rm28 l Z a0 hw [] b1 kb N1 vs h0 n0 Z0 A1) hZ (own_w hw 120 rfl) (own_w hw 54 rfl) (by decide) (by decide)) (g := (mkF m 2 #[.val (.int 2), .val (.ref b1)] [(.ref b1), (.int 2)])) rfl (by rw [hml]; rfl) (argsL := [(.ref b1)]) (rest := [(.int 2)]) (lenOf pd_3 rfl) rfl (by show 2 * 0 + _ ≤ _; exact Nat.le_of_eq rfl) (hb hby d27_2) (fun _ _ => ⟨rfl, e0, (by decide : 0 + 0 ≤ _), (by decide : 0 + 0 ≤ _)⟩)
  dsimp only [Pt.U, Pt.locs, Pt.cells, Pt.slots] at X2 l2 y2 z2 st2 hQ2
  subst l2 y2 z2
  have X2 : Stand p l e _ _ m _ below meth c T2 _ 0 0 := X2
  obtain ⟨rfl, Nq2, eq2⟩ := hQ2
  have Nf2 := Fr.app Nf0 Nq2
  obtain ⟨_, _, ⟨T3, L3, cc3, ss3⟩, -, X3, ⟨Lc3, hQ3, l3, y3, z3⟩, st3⟩ := Jvm.LawKit.callS X2 hx (y := mN6) hown (mvT hZ (own_w hw 121 rfl)) (mvT hZ (own_w hw 81 rfl)) (mvT hZ (own_w hw 8 rfl)) (mvT hZ (own_w hw 82 rfl)) (by decide) (backOf (W := 0) (rm18 l Z a0 hw [] (2 : Int32) (N1 >>> ((1 : Int32) &&& 31)) G3 h0 n0 Z0 (by decide) hlt O0 O4 rG3) hZ (own_w hw 82 rfl) (own_w hw 8 rfl) (by decide) (by decide)) (g := (mkF m 5 #[.val (.int 2), .val (.ref b1)] [(.int (N1 >>> ((1 : Int32) &&& 31))), (.int 2)])) rfl (by rw [hml]; rfl) (argsL := [(.int 2), (.int (N1 >>> ((1 : Int32) &&& 31)))]) (rest := []) (lenOf pd_4 rfl) rfl (by show 2 * 0 + _ ≤ _; exact Nat.le_of_eq rfl) (hb hby d27_5) (fun _ _ => ⟨rfl, eq2, (by decide : 0 + 0 ≤ _), (by decide : 0 + 0 ≤ _)⟩)
  dsimp only [Pt.U, Pt.locs, Pt.cells, Pt.slots] at X3 l3 y3 z3 st3 hQ3
  subst l3 y3 z3
  have X3 : Stand p l e _ _ m _ below meth c T3 _ 0 0 := X3
  obtain ⟨rfl, Nq3, eq3⟩ := hQ3
  have Nf3 := Fr.app Nf2 Nq3
  obtain ⟨fs, hr, hrun, hended, hW, hsame⟩ := X3.leave (v := none) (fun _ => rfl)
  refine ⟨_, _, hGl _ (kn1 _ (st2 _ (st3 _ (X3.returnOut hx Bd.returns (hb hby d27_8) hr)))), hrun, hended, _, _, rfl, ?_, ⟨_, rfl⟩, hW, hsame.mono (by decide) (by decide)⟩
  show Q27_2 Z b1 kb N1 vs G3 h0 n0 _ T3.heap _
  rw [eq3]
  exact ⟨rfl, Nf3, rfl⟩

theorem ef_rm25_2 (m : MethodId) (x0 : Addr) : entryFrame m #[(.ref x0), (.int (2 : Int32))] 2 = mkF m 0 #[.val (.ref x0), .val (.int (2 : Int32))] [] := by first | (simp [entryFrame, mkF, argsToLocals, Value.category]; done) | rfl
def Q25_2 (Z : State) (b1 : Addr) (kb : ClassId) (N1 : Int32) (vs : List Value) (u : Int32) (w : Int32) (h0 : Heap) (n0 : Nat) (v : Option Value) (h : Heap) (L : List Loc) : Prop := v = some (.int (nar .char (StrChars.pairCh u w))) ∧ Fr n0 L ∧ h = h0
theorem rm25_2 (l : Launch) (Z : State) (a0 : Array Value) (hw : ∀ d ∈ tables_1, d.before a0 Z = true) (ws : List Jvm.Cond) (b1 : Addr) (kb : ClassId) (N1 : Int32) (vs : List Value) (u : Int32) (w : Int32) (h0 : Heap) (n0 : Nat) (Z0 : n0 ≤ h0.size) (A1 : Arv Z h0 b1 kb .byte N1 vs (.int (0 : Int32))) (hA : (4 : Int32) < N1) (hB : (5 : Int32) < N1) (g0 : vs.getD ((4 : Int32)).toNatClampNeg (.int (0 : Int32)) = .int u) (g1 : vs.getD ((5 : Int32)).toNatClampNeg (.int (0 : Int32)) = .int w) (O0 : Old Z n0 h0) (U1 : Sta Z Z.heap "java/lang/StringUTF16" "$assertionsDisabled" "Z" (.int (1 : Int32))) (U2 : Sta Z Z.heap "java/lang/StringUTF16" "HI_BYTE_SHIFT" "I" (.int (0 : Int32))) (U3 : Sta Z Z.heap "java/lang/StringUTF16" "LO_BYTE_SHIFT" "I" (.int (8 : Int32))) :
    MetFree l mN9 (head1 (Jvm.Cond.code mN9 jdk_52_method_5_code 2 (some .char) :: ws) (own_r 0 0 0 0)) (fun a U => a = #[(.ref b1), (.int (2 : Int32))] ∧ Z.Warmed39 U.vm ∧ U.heap = h0) (fun _ _ _ _ _ => True) (fun _ U o U' => ∃ v L, o = .returned v ∧ Q25_2 Z b1 kb N1 vs u w h0 n0 v U'.heap L ∧ FrameEnd U o U' L (own_r 0 0 0 0).cells (own_r 0 0 0 0).slots) := by
  refine MetFree.of_bodySF (plainFor_of_name pn_4) hisR ?_
  intro p e s m args below meth c s₁ Bd hml0 hP hK
  obtain ⟨rfl, hZ, hh⟩ := hP
  have hx := Bd.exec
  have hby := Bd.bytes
  have hml : c.maxLocals = 2 := hml0
  have hown : s.vm.findClass "java/lang/StringUTF16" = some m.cls := findClass_of_methodNamed Bd.named
  have hnm := (name_of_methodNamed Bd.named Bd.method).1
  have X0 : Stand p l e (own_r 0 0 0 0) s m #[(.ref b1), (.int (2 : Int32))] below meth c s₁ [] 0 0 := Stand.of_body Bd
  have e0 : s₁.heap = h0 := by rw [← hh, Bd.state]; rfl
  have Nf0 := Fr.nil n0
  obtain ⟨Gl, hGl, kn0⟩ := own_gl (p := p) (e := e) (below := below) (s₁ := s₁) (ef_rm25_2 m b1)
  obtain ⟨T1, X1, e1, st1⟩ := getS2 X0 hx hZ hown (host := "") (Or.inl (own_w hw 106 rfl)) Via.refl e0 (U1.ext O0.2) (g := (mkF m 0 #[.val (.ref b1), .val (.int 2)] [])) rfl (hb hby d25_0)
  have kn2 : ∀ t, own_S p e below T1 (mkF m 37 #[.val (.ref b1), .val (.int 5)] [(.int 4), (.ref b1)]) t → Gl t := fun t kt => kn0 t (st1 _ (by
    show own_S p e below T1 (mkF m 3 #[.val (.ref b1), .val (.int 2)] [(.int 1)]) _
    refine XS.ifYes X1.here hx rfl (pc0 := 3) (pc' := 28) rfl (hb hby d25_3) rfl ((if0 _ _).trans (feq (by decide : ¬ ((1 : Int32) = (0 : Int32)))).2) (by decide) (by decide) ?_
    refine XS.iloadN X1.here hx rfl (hb hby d25_28) rfl ?_
    refine XS.iconst X1.here hx rfl (hb hby d25_29) ?_
    show own_S p e below T1 (mkF m 30 #[.val (.ref b1), .val (.int 2)] [(.int 1), (.int 2)]) _
    refine XS.ishl X1.here hx rfl (hb hby d25_30) rfl ?_
    rw [(by decide : ((2 : Int32) <<< ((1 : Int32) &&& 31)) = (4 : Int32))]
    refine XS.istoreN X1.here hx rfl (hb hby d25_31) rfl (l' := #[.val (.ref b1), .val (.int 4)]) rfl ?_
    refine XS.aloadN X1.here hx rfl (hb hby d25_32) rfl rfl ?_
    refine XS.iloadN X1.here hx rfl (hb hby d25_33) rfl ?_
    show own_S p e below T1 (mkF m 34 #[.val (.ref b1), .val (.int 4)] [(.int 4), (.ref b1)]) _
    refine XS.iinc X1.here hx rfl (hb hby d25_34) rfl (l' := #[.val (.ref b1), .val (.int ((4 : Int32) + (1 : Int32)))]) rfl ?_
    rw [(by decide : ((4 : Int32) + (1 : Int32)) = (5 : Int32))]
    exact kt))
  obtain ⟨cl3, Ar3, q3, Sz3, Ng3, Hs3, Gs3⟩ := id A1
  have hin3 : ¬ ((4 : Int32) < 0 ∨ cl3.slots.size ≤ ((4 : Int32)).toNatClampNeg) := inb_of Sz3 ⟨by decide, hA⟩
  have hat3 : cl3.slots[((4 : Int32)).toNatClampNeg]? = some (.int u) := Hs3.at hin3 g0
  have kn4 : ∀ t, own_S p e below T1 (mkF m 42 #[.val (.ref b1), .val (.int 5)] [(.int (u &&& (255 : Int32)))]) t → Gl t := fun t kt => kn2 t (by
    show own_S p e below T1 (mkF m 37 #[.val (.ref b1), .val (.int 5)] [(.int 4), (.ref b1)]) _
    refine X1.baloadBytes hx (j := (4 : Int32)) (v := (.int u)) (by rw [e1]; exact Ar3.1) (State.isArrayOf_alike hZ.alike Ar3.2.1) Ar3.2.2 hin3 hat3 (g := (mkF m 37 #[.val (.ref b1), .val (.int 5)] [(.int 4), (.ref b1)])) rfl rfl (hb hby d25_37) _ ?_
    refine XS.sipush X1.here hx rfl (hb hby d25_38) ?_
    refine XS.iand X1.here hx rfl (hb hby d25_41) rfl ?_
    exact kt)
  obtain ⟨T5, X5, e5, st5⟩ := getS2 X1 hx hZ hown (host := "") (Or.inl (own_w hw 107 rfl)) Via.refl e1 (U2.ext O0.2) (g := (mkF m 42 #[.val (.ref b1), .val (.int 5)] [(.int (u &&& (255 : Int32)))])) rfl (hb hby d25_42)
  have kn6 : ∀ t, own_S p e below T5 (mkF m 48 #[.val (.ref b1), .val (.int 5)] [(.int 5), (.ref b1), (.int ((u &&& (255 : Int32)) <<< ((0 : Int32) &&& 31)))]) t → Gl t := fun t kt => kn4 t (st5 _ (by
    show own_S p e below T5 (mkF m 45 #[.val (.ref b1), .val (.int 5)] [(.int 0), (.int (u &&& (255 : Int32)))]) _
    refine XS.ishl X5.here hx rfl (hb hby d25_45) rfl ?_
    refine XS.aloadN X5.here hx rfl (hb hby d25_46) rfl rfl ?_
    refine XS.iloadN X5.here hx rfl (hb hby d25_47) rfl ?_
    exact kt))
  obtain ⟨cl7, Ar7, q7, Sz7, Ng7, Hs7, Gs7⟩ := id A1
  have hin7 : ¬ ((5 : Int32) < 0 ∨ cl7.slots.size ≤ ((5 : Int32)).toNatClampNeg) := inb_of Sz7 ⟨by decide, hB⟩
  have hat7 : cl7.slots[((5 : Int32)).toNatClampNeg]? = some (.int w) := Hs7.at hin7 g1
  have kn8 : ∀ t, own_S p e below T5 (mkF m 53 #[.val (.ref b1), .val (.int 5)] [(.int (w &&& (255 : Int32))), (.int ((u &&& (255 : Int32)) <<< ((0 : Int32) &&& 31)))]) t → Gl t := fun t kt => kn6 t (by
    show own_S p e below T5 (mkF m 48 #[.val (.ref b1), .val (.int 5)] [(.int 5), (.ref b1), (.int ((u &&& (255 : Int32)) <<< ((0 : Int32) &&& 31)))]) _
    refine X5.baloadBytes hx (j := (5 : Int32)) (v := (.int w)) (by rw [e5]; exact Ar7.1) (State.isArrayOf_alike hZ.alike Ar7.2.1) Ar7.2.2 hin7 hat7 (g := (mkF m 48 #[.val (.ref b1), .val (.int 5)] [(.int 5), (.ref b1), (.int ((u &&& (255 : Int32)) <<< ((0 : Int32) &&& 31)))])) rfl rfl (hb hby d25_48) _ ?_
    refine XS.sipush X5.here hx rfl (hb hby d25_49) ?_
    refine XS.iand X5.here hx rfl (hb hby d25_52) rfl ?_
    exact kt)
  obtain ⟨T9, X9, e9, st9⟩ := getS2 X5 hx hZ hown (host := "") (Or.inl (own_w hw 108 rfl)) Via.refl e5 (U3.ext O0.2) (g := (mkF m 53 #[.val (.ref b1), .val (.int 5)] [(.int (w &&& (255 : Int32))), (.int ((u &&& (255 : Int32)) <<< ((0 : Int32) &&& 31)))])) rfl (hb hby d25_53)
  have kn10 : ∀ t, own_S p e below T9 (mkF m 59 #[.val (.ref b1), .val (.int 5)] [(.int ((((u &&& (255 : Int32)) <<< ((0 : Int32) &&& 31)) ||| ((w &&& (255 : Int32)) <<< ((8 : Int32) &&& 31))).toUInt32.toUInt16.toUInt32.toInt32))]) t → Gl t := fun t kt => kn8 t (st9 _ (by
    show own_S p e below T9 (mkF m 56 #[.val (.ref b1), .val (.int 5)] [(.int 8), (.int (w &&& (255 : Int32))), (.int ((u &&& (255 : Int32)) <<< ((0 : Int32) &&& 31)))]) _
    refine XS.ishl X9.here hx rfl (hb hby d25_56) rfl ?_
    refine XS.ior X9.here hx rfl (hb hby d25_57) rfl ?_
    refine XS.i2c X9.here hx rfl (hb hby d25_58) rfl ?_
    exact kt))
  obtain ⟨fs, hr, hrun, hended, hW, hsame⟩ := X9.leave (v := some (.int (nar .char ((((u &&& (255 : Int32)) <<< ((0 : Int32) &&& 31)) ||| ((w &&& (255 : Int32)) <<< ((8 : Int32) &&& 31))).toUInt32.toUInt16.toUInt32.toInt32)))) (fun h => by rw [Bd.returns] at h; cases h)
  refine ⟨_, _, hGl _ (kn10 _ (retN X9 hx (t := .char) Bd.returns (by simp) (hb hby d25_59) hr)), hrun, hended, _, _, rfl, ?_, ⟨_, rfl⟩, hW, hsame.mono (by decide) (by decide)⟩
  show Q25_2 Z b1 kb N1 vs u w h0 n0 _ T9.heap _
  rw [e9]
  exact ⟨rfl, Nf0, rfl⟩

theorem ef_rm26_2 (m : MethodId) (x0 : Addr) : entryFrame m #[(.ref x0), (.int (2 : Int32))] 2 = mkF m 0 #[.val (.ref x0), .val (.int (2 : Int32))] [] := by first | (simp [entryFrame, mkF, argsToLocals, Value.category]; done) | rfl
def Q26_2 (Z : State) (b1 : Addr) (kb : ClassId) (cs : List Int32) (G3 : Value) (h0 : Heap) (n0 : Nat) (v : Option Value) (h : Heap) (L : List Loc) : Prop := v = some (.int (cs.getD 2 0)) ∧ Fr n0 L ∧ h = h0
theorem rm26_2 (l : Launch) (Z : State) (a0 : Array Value) (hw : ∀ d ∈ tables_1, d.before a0 Z = true) (ws : List Jvm.Cond) (b1 : Addr) (kb : ClassId) (cs : List Int32) (G3 : Value) (h0 : Heap) (n0 : Nat) (Z0 : n0 ≤ h0.size) (A1 : Arv Z h0 b1 kb .byte (Int32.ofNat (2 * cs.length)) (StrChars.Road.wideBytes cs) (.int (0 : Int32))) (hi : 2 < cs.length) (hl : cs.length ≤ 3) (hbd : ∀ c ∈ cs, own_rg c) (O0 : Old Z n0 h0) (O4 : Sta Z Z.heap "jdk/internal/util/Preconditions" "SIOOBE_FORMATTER" "Ljava/util/function/BiFunction;" G3) (rG3 : G3.isRef = true) (U1 : Sta Z Z.heap "java/lang/StringUTF16" "$assertionsDisabled" "Z" (.int (1 : Int32))) (U2 : Sta Z Z.heap "java/lang/StringUTF16" "HI_BYTE_SHIFT" "I" (.int (0 : Int32))) (U3 : Sta Z Z.heap "java/lang/StringUTF16" "LO_BYTE_SHIFT" "I" (.int (8 : Int32))) :
    MetFree l mN10 (head1 (Jvm.Cond.code mN10 jdk_52_method_83_code 2 (some .char) :: ws) (own_r 3 0 0 40)) (fun a U => a = #[(.ref b1), (.int (2 : Int32))] ∧ Z.Warmed39 U.vm ∧ U.heap = h0) (fun _ _ _ _ _ => True) (fun _ U o U' => ∃ v L, o = .returned v ∧ Q26_2 Z b1 kb cs G3 h0 n0 v U'.heap L ∧ FrameEnd U o U' L (own_r 3 0 0 40).cells (own_r 3 0 0 40).slots) := by
  refine MetFree.of_bodySF (plainFor_of_name pn_4) hisR ?_
  intro p e s m args below meth c s₁ Bd hml0 hP hK
  obtain ⟨rfl, hZ, hh⟩ := hP
  have hx := Bd.exec
  have hby := Bd.bytes
  have hml : c.maxLocals = 2 := hml0
  have hown : s.vm.findClass "java/lang/StringUTF16" = some m.cls := findClass_of_methodNamed Bd.named
  have hnm := (name_of_methodNamed Bd.named Bd.method).1
  have X0 : Stand p l e (own_r 3 0 0 40) s m #[(.ref b1), (.int (2 : Int32))] below meth c s₁ [] 0 0 := Stand.of_body Bd
  have e0 : s₁.heap = h0 := by rw [← hh, Bd.state]; rfl
  have Nf0 := Fr.nil n0
  obtain ⟨Gl, hGl, kn0⟩ := own_gl (p := p) (e := e) (below := below) (s₁ := s₁) (ef_rm26_2 m b1)
  have kn1 : ∀ t, own_S p e below s₁ (mkF m 2 #[.val (.ref b1), .val (.int 2)] [(.ref b1), (.int 2)]) t → Gl t := fun t kt => kn0 t (by
    show own_S p e below s₁ (mkF m 0 #[.val (.ref b1), .val (.int 2)] []) _
    refine XS.iloadN X0.here hx rfl (hb hby d26_0) rfl ?_
    refine XS.aloadN X0.here hx rfl (hb hby d26_1) rfl rfl ?_
    exact kt)
  obtain ⟨_, _, ⟨T2, L2, cc2, ss2⟩, -, X2, ⟨Lc2, hQ2, l2, y2, z2⟩, st2⟩ := Jvm.LawKit.callS X0 hx (y := mN8) hown (mvT hZ (own_w hw 115 rfl)) (mvT hZ (own_w hw 116 rfl)) (mvT hZ (own_w hw 54 rfl)) (mvT hZ (own_w hw 117 rfl)) (by decide) (backOf (W := 0) (rm27_2 l Z a0 hw [] b1 kb (Int32.ofNat (2 * cs.length)) (StrChars.Road.wideBytes cs) G3 h0 n0 Z0 A1 (own_hlt (i := 2) rfl hi hl) O0 O4 rG3) hZ (own_w hw 117 rfl) (own_w hw 54 rfl) (by decide) (by decide)) (g := (mkF m 2 #[.val (.ref b1), .val (.int 2)] [(.ref b1), (.int 2)])) rfl (by rw [hml]; rfl) (argsL := [(.int 2), (.ref b1)]) (rest := []) (lenOf pd_5 rfl) rfl (by show 2 * 0 + _ ≤ _; exact Nat.le_of_eq rfl) (hb hby d26_2) (fun _ _ => ⟨rfl, e0, (by decide : 0 + 0 ≤ _), (by decide : 0 + 0 ≤ _)⟩)
  dsimp only [Pt.U, Pt.locs, Pt.cells, Pt.slots] at X2 l2 y2 z2 st2 hQ2
  subst l2 y2 z2
  have X2 : Stand p l e _ _ m _ below meth c T2 _ 0 0 := X2
  obtain ⟨rfl, Nq2, eq2⟩ := hQ2
  have Nf2 := Fr.app Nf0 Nq2
  have kn3 : ∀ t, own_S p e below T2 (mkF m 7 #[.val (.ref b1), .val (.int 2)] [(.int 2), (.ref b1)]) t → Gl t := fun t kt => kn1 t (st2 _ (by
    show own_S p e below T2 (mkF m 5 #[.val (.ref b1), .val (.int 2)] []) _
    refine XS.aloadN X2.here hx rfl (hb hby d26_5) rfl rfl ?_
    refine XS.iloadN X2.here hx rfl (hb hby d26_6) rfl ?_
    exact kt))
  obtain ⟨_, _, ⟨T4, L4, cc4, ss4⟩, -, X4, ⟨Lc4, hQ4, l4, y4, z4⟩, st4⟩ := Jvm.LawKit.callS X2 hx (y := mN9) hown (mvT hZ (own_w hw 109 rfl)) (mvT hZ (own_w hw 110 rfl)) (mvT hZ (own_w hw 54 rfl)) (mvT hZ (own_w hw 111 rfl)) (by decide) (backOf (W := 0) (rm25_2 l Z a0 hw [] b1 kb (Int32.ofNat (2 * cs.length)) (StrChars.Road.wideBytes cs) (StrChars.lo8 (cs.getD 2 0)) (StrChars.hi8 (cs.getD 2 0)) h0 n0 Z0 A1 (own_lt (i := 4) (by omega) (by omega)) (own_lt (i := 5) (by omega) (by omega)) (StrChars.Road.wide_lo _ cs 2 hi) (StrChars.Road.wide_hi _ cs 2 hi) O0 U1 U2 U3) hZ (own_w hw 111 rfl) (own_w hw 54 rfl) (by decide) (by decide)) (g := (mkF m 7 #[.val (.ref b1), .val (.int 2)] [(.int 2), (.ref b1)])) rfl (by rw [hml]; rfl) (argsL := [(.ref b1), (.int 2)]) (rest := []) (lenOf pd_6 rfl) rfl (by show 2 * 0 + _ ≤ _; exact Nat.le_of_eq rfl) (hb hby d26_7) (fun _ _ => ⟨rfl, eq2, (by decide : 0 + 0 ≤ _), (by decide : 0 + 0 ≤ _)⟩)
  dsimp only [Pt.U, Pt.locs, Pt.cells, Pt.slots] at X4 l4 y4 z4 st4 hQ4
  subst l4 y4 z4
  have X4 : Stand p l e _ _ m _ below meth c T4 _ 0 0 := X4
  obtain ⟨rfl, Nq4, eq4⟩ := hQ4
  have Nf4 := Fr.app Nf2 Nq4
  obtain ⟨fs, hr, hrun, hended, hW, hsame⟩ := X4.leave (v := some (.int (nar .char (nar .char (StrChars.pairCh (StrChars.lo8 (cs.getD 2 0)) (StrChars.hi8 (cs.getD 2 0))))))) (fun h => by rw [Bd.returns] at h; cases h)
  refine ⟨_, _, hGl _ (kn3 _ (st4 _ (retN X4 hx (t := .char) Bd.returns (by simp) (hb hby d26_10) hr))), hrun, hended, _, _, rfl, ?_, ⟨_, rfl⟩, hW, hsame.mono (by decide) (by decide)⟩
  show Q26_2 Z b1 kb cs G3 h0 n0 _ T4.heap _
  rw [eq4]
  exact ⟨congrArg own_sv ((congrArg (nar .char) (own_pr (own_mem hbd hi))).trans (own_nr (own_mem hbd hi))), Nf4, rfl⟩

theorem ef_rm17_2 (m : MethodId) (x0 : Addr) : entryFrame m #[(.ref x0), (.int (2 : Int32))] 2 = mkF m 0 #[.val (.ref x0), .val (.int (2 : Int32))] [] := by first | (simp [entryFrame, mkF, argsToLocals, Value.category]; done) | rfl
def Q17_2 (Z : State) (b1 : Addr) (kb : ClassId) (cs : List Int32) (G3 : Value) (h0 : Heap) (n0 : Nat) (v : Option Value) (h : Heap) (L : List Loc) : Prop := v = some (.int (cs.getD 2 0)) ∧ Fr n0 L ∧ h = h0
theorem rm17_2 (l : Launch) (Z : State) (a0 : Array Value) (hw : ∀ d ∈ tables_1, d.before a0 Z = true) (ws : List Jvm.Cond) (b1 : Addr) (kb : ClassId) (cs : List Int32) (G3 : Value) (h0 : Heap) (n0 : Nat) (Z0 : n0 ≤ h0.size) (A1 : Arv Z h0 b1 kb .byte (Int32.ofNat cs.length) (cs.map fun c => Value.int (StrChars.lo8 c)) (.int (0 : Int32))) (hi : 2 < cs.length) (hl : cs.length ≤ 3) (hbd : ∀ c ∈ cs, own_rg c) (hlat : ∀ c ∈ cs, ¬ (255 : Int32) < c) (O0 : Old Z n0 h0) (O4 : Sta Z Z.heap "jdk/internal/util/Preconditions" "SIOOBE_FORMATTER" "Ljava/util/function/BiFunction;" G3) (rG3 : G3.isRef = true) :
    MetFree l mN11 (head1 (Jvm.Cond.code mN11 jdk_43_method_2_code 2 (some .char) :: ws) (own_r 2 0 0 27)) (fun a U => a = #[(.ref b1), (.int (2 : Int32))] ∧ Z.Warmed39 U.vm ∧ U.heap = h0) (fun _ _ _ _ _ => True) (fun _ U o U' => ∃ v L, o = .returned v ∧ Q17_2 Z b1 kb cs G3 h0 n0 v U'.heap L ∧ FrameEnd U o U' L (own_r 2 0 0 27).cells (own_r 2 0 0 27).slots) := by
  refine MetFree.of_bodySF (plainFor_of_name pn_5) hisR ?_
  intro p e s m args below meth c s₁ Bd hml0 hP hK
  obtain ⟨rfl, hZ, hh⟩ := hP
  have hx := Bd.exec
  have hby := Bd.bytes
  have hml : c.maxLocals = 2 := hml0
  have hown : s.vm.findClass "java/lang/StringLatin1" = some m.cls := findClass_of_methodNamed Bd.named
  have hnm := (name_of_methodNamed Bd.named Bd.method).1
  have X0 : Stand p l e (own_r 2 0 0 27) s m #[(.ref b1), (.int (2 : Int32))] below meth c s₁ [] 0 0 := Stand.of_body Bd
  have e0 : s₁.heap = h0 := by rw [← hh, Bd.state]; rfl
  have Nf0 := Fr.nil n0
  obtain ⟨Gl, hGl, kn0⟩ := own_gl (p := p) (e := e) (below := below) (s₁ := s₁) (ef_rm17_2 m b1)
  have kn1 : ∀ t, own_S p e below s₁ (mkF m 2 #[.val (.ref b1), .val (.int 2)] [(.ref b1), (.int 2)]) t → Gl t := fun t kt => kn0 t (by
    show own_S p e below s₁ (mkF m 0 #[.val (.ref b1), .val (.int 2)] []) _
    refine XS.iloadN X0.here hx rfl (hb hby d17_0) rfl ?_
    refine XS.aloadN X0.here hx rfl (hb hby d17_1) rfl rfl ?_
    exact kt)
  obtain ⟨cl2, Ar2, -, Sz2, Ng2, -, -⟩ := id A1
  have kn3 : ∀ t, own_S p e below s₁ (mkF m 3 #[.val (.ref b1), .val (.int 2)] [(.int (Int32.ofNat cs.length)), (.int 2)]) t → Gl t := fun t kt => kn1 t (by
    show own_S p e below s₁ (mkF m 2 #[.val (.ref b1), .val (.int 2)] [(.ref b1), (.int 2)]) _
    refine X0.arraylength hx (by rw [e0]; exact Ar2.1) (State.isArrayOf_alike hZ.alike Ar2.2.1) (g := (mkF m 2 #[.val (.ref b1), .val (.int 2)] [(.ref b1), (.int 2)])) rfl rfl (hb hby d17_2) _ ?_
    rw [len_of Sz2 Ng2]
    exact kt)
  obtain ⟨_, _, ⟨T4, L4, cc4, ss4⟩, -, X4, ⟨Lc4, hQ4, l4, y4, z4⟩, st4⟩ := Jvm.LawKit.callS X0 hx (y := mN6) hown (mvT hZ (own_w hw 80 rfl)) (mvT hZ (own_w hw 81 rfl)) (mvT hZ (own_w hw 8 rfl)) (mvT hZ (own_w hw 82 rfl)) (by decide) (backOf (W := 0) (rm18 l Z a0 hw [] (2 : Int32) (Int32.ofNat cs.length) G3 h0 n0 Z0 (by decide) (own_lt (i := 2) hi (by omega)) O0 O4 rG3) hZ (own_w hw 82 rfl) (own_w hw 8 rfl) (by decide) (by decide)) (g := (mkF m 3 #[.val (.ref b1), .val (.int 2)] [(.int (Int32.ofNat cs.length)), (.int 2)])) rfl (by rw [hml]; rfl) (argsL := [(.int 2), (.int (Int32.ofNat cs.length))]) (rest := []) (lenOf pd_4 rfl) rfl (by show 2 * 0 + _ ≤ _; exact Nat.le_of_eq rfl) (hb hby d17_3) (fun _ _ => ⟨rfl, e0, (by decide : 0 + 0 ≤ _), (by decide : 0 + 0 ≤ _)⟩)
  dsimp only [Pt.U, Pt.locs, Pt.cells, Pt.slots] at X4 l4 y4 z4 st4 hQ4
  subst l4 y4 z4
  have X4 : Stand p l e _ _ m _ below meth c T4 _ 0 0 := X4
  obtain ⟨rfl, Nq4, eq4⟩ := hQ4
  have Nf4 := Fr.app Nf0 Nq4
  have kn5 : ∀ t, own_S p e below T4 (mkF m 8 #[.val (.ref b1), .val (.int 2)] [(.int 2), (.ref b1)]) t → Gl t := fun t kt => kn3 t (st4 _ (by
    show own_S p e below T4 (mkF m 6 #[.val (.ref b1), .val (.int 2)] []) _
    refine XS.aloadN X4.here hx rfl (hb hby d17_6) rfl rfl ?_
    refine XS.iloadN X4.here hx rfl (hb hby d17_7) rfl ?_
    exact kt))
  obtain ⟨cl6, Ar6, q6, Sz6, Ng6, Hs6, Gs6⟩ := id A1
  have hin6 : ¬ ((2 : Int32) < 0 ∨ cl6.slots.size ≤ ((2 : Int32)).toNatClampNeg) := inb_of Sz6 ⟨by decide, own_lt (i := 2) hi (by omega)⟩
  have hat6 : cl6.slots[((2 : Int32)).toNatClampNeg]? = some (.int (StrChars.lo8 (cs.getD 2 0))) := Hs6.at hin6 (StrChars.Road.low_at _ cs 2 hi)
  have kn7 : ∀ t, own_S p e below T4 (mkF m 14 #[.val (.ref b1), .val (.int 2)] [(.int (((StrChars.lo8 (cs.getD 2 0)) &&& (255 : Int32)).toUInt32.toUInt16.toUInt32.toInt32))]) t → Gl t := fun t kt => kn5 t (by
    show own_S p e below T4 (mkF m 8 #[.val (.ref b1), .val (.int 2)] [(.int 2), (.ref b1)]) _
    refine X4.baloadBytes hx (j := (2 : Int32)) (v := (.int (StrChars.lo8 (cs.getD 2 0)))) (by rw [eq4]; exact Ar6.1) (State.isArrayOf_alike hZ.alike Ar6.2.1) Ar6.2.2 hin6 hat6 (g := (mkF m 8 #[.val (.ref b1), .val (.int 2)] [(.int 2), (.ref b1)])) rfl rfl (hb hby d17_8) _ ?_
    refine XS.sipush X4.here hx rfl (hb hby d17_9) ?_
    refine XS.iand X4.here hx rfl (hb hby d17_12) rfl ?_
    refine XS.i2c X4.here hx rfl (hb hby d17_13) rfl ?_
    exact kt)
  obtain ⟨fs, hr, hrun, hended, hW, hsame⟩ := X4.leave (v := some (.int (nar .char (((StrChars.lo8 (cs.getD 2 0)) &&& (255 : Int32)).toUInt32.toUInt16.toUInt32.toInt32)))) (fun h => by rw [Bd.returns] at h; cases h)
  refine ⟨_, _, hGl _ (kn7 _ (retN X4 hx (t := .char) Bd.returns (by simp) (hb hby d17_14) hr)), hrun, hended, _, _, rfl, ?_, ⟨_, rfl⟩, hW, hsame.mono (by decide) (by decide)⟩
  show Q17_2 Z b1 kb cs G3 h0 n0 _ T4.heap _
  rw [eq4]
  exact ⟨congrArg own_sv (own_l8 (own_mem hbd hi) (own_mem hlat hi)), Nf4, rfl⟩

abbrev mN12 : MethodName := ⟨"java/lang/String", "isLatin1", "()Z"⟩
theorem d16_0 : decode jdk_42_method_154_code 0 = .ok (.getstatic 38, 3) := by decide +kernel
theorem d16_3 : decode jdk_42_method_154_code 3 = .ok (.ifCond .eq 14, 3) := by decide +kernel
theorem d16_6 : decode jdk_42_method_154_code 6 = .ok (.aload_n 0, 1) := by decide +kernel
theorem d16_7 : decode jdk_42_method_154_code 7 = .ok (.getfield 15, 3) := by decide +kernel
theorem d16_10 : decode jdk_42_method_154_code 10 = .ok (.ifCond .ne 7, 3) := by decide +kernel
theorem d16_13 : decode jdk_42_method_154_code 13 = .ok (.iconst 1, 1) := by decide +kernel
theorem d16_14 : decode jdk_42_method_154_code 14 = .ok (.goto 4, 3) := by decide +kernel
theorem d16_18 : decode jdk_42_method_154_code 18 = .ok (.ireturn, 1) := by decide +kernel
theorem ef_rm16L (m : MethodId) (x0 : Addr) : entryFrame m #[(.ref x0)] 1 = mkF m 0 #[.val (.ref x0)] [] := by first | (simp [entryFrame, mkF, argsToLocals, Value.category]; done) | rfl
def Q16L (Z : State) (x1 : Addr) (G1 : Int32) (h0 : Heap) (n0 : Nat) (v : Option Value) (h : Heap) (L : List Loc) : Prop := v = some (.int (1 : Int32)) ∧ Fr n0 L ∧ h = h0
theorem rm16L (l : Launch) (Z : State) (a0 : Array Value) (hw : ∀ d ∈ tables_1, d.before a0 Z = true) (ws : List Jvm.Cond) (x1 : Addr) (G1 : Int32) (h0 : Heap) (n0 : Nat) (Z0 : n0 ≤ h0.size) (C_x1 : Fld Z h0 x1 "java/lang/String" "coder" "B" (.int (0 : Int32))) (O0 : Old Z n0 h0) (O2 : Sta Z Z.heap "java/lang/String" "COMPACT_STRINGS" "Z" (.int G1)) (P5 : ¬ (G1 = (0 : Int32))) :
    MetFree l mN12 (head1 (Jvm.Cond.code mN12 jdk_42_method_154_code 1 (some .boolean) :: ws) (own_r 0 0 0 0)) (fun a U => a = #[(.ref x1)] ∧ Z.Warmed39 U.vm ∧ U.heap = h0) (fun _ _ _ _ _ => True) (fun _ U o U' => ∃ v L, o = .returned v ∧ Q16L Z x1 G1 h0 n0 v U'.heap L ∧ FrameEnd U o U' L (own_r 0 0 0 0).cells (own_r 0 0 0 0).slots) := by
  refine MetFree.of_bodySF (plainFor_of_name pn_3) hisR ?_
  intro p e s m args below meth c s₁ Bd hml0 hP hK
  obtain ⟨rfl, hZ, hh⟩ := hP
  have hx := Bd.exec
  have hby := Bd.bytes
  have hml : c.maxLocals = 1 := hml0
  have hown : s.vm.findClass "java/lang/String" = some m.cls := findClass_of_methodNamed Bd.named
  have hnm := (name_of_methodNamed Bd.named Bd.method).1
  have X0 : Stand p l e (own_r 0 0 0 0) s m #[(.ref x1)] below meth c s₁ [] 0 0 := Stand.of_body Bd
  have e0 : s₁.heap = h0 := by rw [← hh, Bd.state]; rfl
  have Nf0 := Fr.nil n0
  obtain ⟨Gl, hGl, kn0⟩ := own_gl (p := p) (e := e) (below := below) (s₁ := s₁) (ef_rm16L m x1)
  obtain ⟨T1, X1, e1, st1⟩ := getS2 X0 hx hZ hown (host := "") (Or.inl (own_w hw 47 rfl)) Via.refl e0 (O2.ext O0.2) (g := (mkF m 0 #[.val (.ref x1)] [])) rfl (hb hby d16_0)
  have hc3_2 : ¬ (G1 = (0 : Int32)) := P5
  have kn3 : ∀ t, own_S p e below T1 (mkF m 7 #[.val (.ref x1)] [(.ref x1)]) t → Gl t := fun t kt => kn0 t (st1 _ (by
    show own_S p e below T1 (mkF m 3 #[.val (.ref x1)] [(.int G1)]) _
    refine XS.ifNo X1.here hx rfl (hb hby d16_3) rfl ((if0 _ _).trans (feq hc3_2).1) ?_
    refine XS.aloadN X1.here hx rfl (hb hby d16_6) rfl rfl ?_
    exact kt))
  obtain ⟨T4, X4, e4, st4⟩ := getF X1 hx hZ hown (host := "") (Or.inl (own_w hw 26 rfl)) Via.refl e1 C_x1 (g := (mkF m 7 #[.val (.ref x1)] [(.ref x1)])) rfl rfl (hb hby d16_7)
  have kn5 : ∀ t, own_S p e below T4 (mkF m 18 #[.val (.ref x1)] [(.int 1)]) t → Gl t := fun t kt => kn3 t (st4 _ (by
    show own_S p e below T4 (mkF m 10 #[.val (.ref x1)] [(.int 0)]) _
    refine XS.ifNo X4.here hx rfl (hb hby d16_10) rfl ((if0 _ _).trans (teq (by decide : (0 : Int32) = (0 : Int32))).2) ?_
    refine XS.iconst X4.here hx rfl (hb hby d16_13) ?_
    refine XS.goto X4.here hx rfl (pc0 := 14) (pc' := 18) rfl (hb hby d16_14) (by decide) (by decide) ?_
    exact kt))
  obtain ⟨fs, hr, hrun, hended, hW, hsame⟩ := X4.leave (v := some (.int (1 : Int32))) (fun h => by rw [Bd.returns] at h; cases h)
  refine ⟨_, _, hGl _ (kn5 _ (retN X4 hx (t := .boolean) Bd.returns (by simp) (hb hby d16_18) hr)), hrun, hended, _, _, rfl, ?_, ⟨_, rfl⟩, hW, hsame.mono (by decide) (by decide)⟩
  show Q16L Z x1 G1 h0 n0 _ T4.heap _
  rw [e4]
  exact ⟨rfl, Nf0, rfl⟩

theorem d16_17 : decode jdk_42_method_154_code 17 = .ok (.iconst 0, 1) := by decide +kernel
theorem ef_rm16W (m : MethodId) (x0 : Addr) : entryFrame m #[(.ref x0)] 1 = mkF m 0 #[.val (.ref x0)] [] := by first | (simp [entryFrame, mkF, argsToLocals, Value.category]; done) | rfl
def Q16W (Z : State) (x1 : Addr) (G1 : Int32) (h0 : Heap) (n0 : Nat) (v : Option Value) (h : Heap) (L : List Loc) : Prop := v = some (.int (0 : Int32)) ∧ Fr n0 L ∧ h = h0
theorem rm16W (l : Launch) (Z : State) (a0 : Array Value) (hw : ∀ d ∈ tables_1, d.before a0 Z = true) (ws : List Jvm.Cond) (x1 : Addr) (G1 : Int32) (h0 : Heap) (n0 : Nat) (Z0 : n0 ≤ h0.size) (C_x1 : Fld Z h0 x1 "java/lang/String" "coder" "B" (.int (1 : Int32))) (O0 : Old Z n0 h0) (O2 : Sta Z Z.heap "java/lang/String" "COMPACT_STRINGS" "Z" (.int G1)) (P5 : ¬ (G1 = (0 : Int32))) :
    MetFree l mN12 (head1 (Jvm.Cond.code mN12 jdk_42_method_154_code 1 (some .boolean) :: ws) (own_r 0 0 0 0)) (fun a U => a = #[(.ref x1)] ∧ Z.Warmed39 U.vm ∧ U.heap = h0) (fun _ _ _ _ _ => True) (fun _ U o U' => ∃ v L, o = .returned v ∧ Q16W Z x1 G1 h0 n0 v U'.heap L ∧ FrameEnd U o U' L (own_r 0 0 0 0).cells (own_r 0 0 0 0).slots) := by
  refine MetFree.of_bodySF (plainFor_of_name pn_3) hisR ?_
  intro p e s m args below meth c s₁ Bd hml0 hP hK
  obtain ⟨rfl, hZ, hh⟩ := hP
  have hx := Bd.exec
  have hby := Bd.bytes
  have hml : c.maxLocals = 1 := hml0
  have hown : s.vm.findClass "java/lang/String" = some m.cls := findClass_of_methodNamed Bd.named
  have hnm := (name_of_methodNamed Bd.named Bd.method).1
  have X0 : Stand p l e (own_r 0 0 0 0) s m #[(.ref x1)] below meth c s₁ [] 0 0 := Stand.of_body Bd
  have e0 : s₁.heap = h0 := by rw [← hh, Bd.state]; rfl
  have Nf0 := Fr.nil n0
  obtain ⟨Gl, hGl, kn0⟩ := own_gl (p := p) (e := e) (below := below) (s₁ := s₁) (ef_rm16W m x1)
  obtain ⟨T1, X1, e1, st1⟩ := getS2 X0 hx hZ hown (host := "") (Or.inl (own_w hw 47 rfl)) Via.refl e0 (O2.ext O0.2) (g := (mkF m 0 #[.val (.ref x1)] [])) rfl (hb hby d16_0)
  have hc3_2 : ¬ (G1 = (0 : Int32)) := P5
  have kn3 : ∀ t, own_S p e below T1 (mkF m 7 #[.val (.ref x1)] [(.ref x1)]) t → Gl t := fun t kt => kn0 t (st1 _ (by
    show own_S p e below T1 (mkF m 3 #[.val (.ref x1)] [(.int G1)]) _
    refine XS.ifNo X1.here hx rfl (hb hby d16_3) rfl ((if0 _ _).trans (feq hc3_2).1) ?_
    refine XS.aloadN X1.here hx rfl (hb hby d16_6) rfl rfl ?_
    exact kt))
  obtain ⟨T4, X4, e4, st4⟩ := getF X1 hx hZ hown (host := "") (Or.inl (own_w hw 26 rfl)) Via.refl e1 C_x1 (g := (mkF m 7 #[.val (.ref x1)] [(.ref x1)])) rfl rfl (hb hby d16_7)
  have kn5 : ∀ t, own_S p e below T4 (mkF m 18 #[.val (.ref x1)] [(.int 0)]) t → Gl t := fun t kt => kn3 t (st4 _ (by
    show own_S p e below T4 (mkF m 10 #[.val (.ref x1)] [(.int 1)]) _
    refine XS.ifYes X4.here hx rfl (pc0 := 10) (pc' := 17) rfl (hb hby d16_10) rfl ((if0 _ _).trans (feq (by decide : ¬ ((1 : Int32) = (0 : Int32)))).2) (by decide) (by decide) ?_
    refine XS.iconst X4.here hx rfl (hb hby d16_17) ?_
    exact kt))
  obtain ⟨fs, hr, hrun, hended, hW, hsame⟩ := X4.leave (v := some (.int (0 : Int32))) (fun h => by rw [Bd.returns] at h; cases h)
  refine ⟨_, _, hGl _ (kn5 _ (retN X4 hx (t := .boolean) Bd.returns (by simp) (hb hby d16_18) hr)), hrun, hended, _, _, rfl, ?_, ⟨_, rfl⟩, hW, hsame.mono (by decide) (by decide)⟩
  show Q16W Z x1 G1 h0 n0 _ T4.heap _
  rw [e4]
  exact ⟨rfl, Nf0, rfl⟩

abbrev mN13 : MethodName := ⟨"java/lang/String", "charAt", "(I)C"⟩
theorem d15_0 : decode jdk_42_method_56_code 0 = .ok (.aload_n 0, 1) := by decide +kernel
theorem d15_1 : decode jdk_42_method_56_code 1 = .ok (.invokevirtual 492, 3) := by decide +kernel
theorem d15_4 : decode jdk_42_method_56_code 4 = .ok (.ifCond .eq 12, 3) := by decide +kernel
theorem d15_7 : decode jdk_42_method_56_code 7 = .ok (.aload_n 0, 1) := by decide +kernel
theorem d15_8 : decode jdk_42_method_56_code 8 = .ok (.getfield 9, 3) := by decide +kernel
theorem d15_11 : decode jdk_42_method_56_code 11 = .ok (.iload_n 1, 1) := by decide +kernel
theorem d15_12 : decode jdk_42_method_56_code 12 = .ok (.invokestatic 495, 3) := by decide +kernel
theorem d15_15 : decode jdk_42_method_56_code 15 = .ok (.ireturn, 1) := by decide +kernel
theorem pd_7 : parseMethodDescriptor "()Z" = some ⟨[], some .boolean⟩ := by decide +kernel
theorem ef_rm15L_0 (m : MethodId) (x0 : Addr) : entryFrame m #[(.ref x0), (.int (0 : Int32))] 2 = mkF m 0 #[.val (.ref x0), .val (.int (0 : Int32))] [] := by first | (simp [entryFrame, mkF, argsToLocals, Value.category]; done) | rfl
def Q15L_0 (Z : State) (x1 : Addr) (t1 : Addr) (kb : ClassId) (cs : List Int32) (G1 : Int32) (G3 : Value) (h0 : Heap) (n0 : Nat) (v : Option Value) (h : Heap) (L : List Loc) : Prop := v = some (.int (cs.getD 0 0)) ∧ Fr n0 L ∧ h = h0
theorem rm15L_0 (l : Launch) (Z : State) (a0 : Array Value) (hw : ∀ d ∈ tables_1, d.before a0 Z = true) (ws : List Jvm.Cond) (x1 : Addr) (t1 : Addr) (kb : ClassId) (cs : List Int32) (G1 : Int32) (G3 : Value) (h0 : Heap) (n0 : Nat) (Z0 : n0 ≤ h0.size) (E_x1 : Exa Z h0 x1 "java/lang/String") (V_x1 : Fld Z h0 x1 "java/lang/String" "value" "[B" (.ref t1)) (C_x1 : Fld Z h0 x1 "java/lang/String" "coder" "B" (.int (0 : Int32))) (A1 : Arv Z h0 t1 kb .byte (Int32.ofNat cs.length) (cs.map fun c => Value.int (StrChars.lo8 c)) (.int (0 : Int32))) (hi : 0 < cs.length) (hl : cs.length ≤ 3) (hbd : ∀ c ∈ cs, own_rg c) (hlat : ∀ c ∈ cs, ¬ (255 : Int32) < c) (O0 : Old Z n0 h0) (O2 : Sta Z Z.heap "java/lang/String" "COMPACT_STRINGS" "Z" (.int G1)) (P5 : ¬ (G1 = (0 : Int32))) (O4 : Sta Z Z.heap "jdk/internal/util/Preconditions" "SIOOBE_FORMATTER" "Ljava/util/function/BiFunction;" G3) (rG3 : G3.isRef = true) (U1 : Sta Z Z.heap "java/lang/StringUTF16" "$assertionsDisabled" "Z" (.int (1 : Int32))) (U2 : Sta Z Z.heap "java/lang/StringUTF16" "HI_BYTE_SHIFT" "I" (.int (0 : Int32))) (U3 : Sta Z Z.heap "java/lang/StringUTF16" "LO_BYTE_SHIFT" "I" (.int (8 : Int32))) :
    MetFree l mN13 (head1 (Jvm.Cond.code mN13 jdk_42_method_56_code 2 (some .char) :: ws) (own_r 6 0 0 90)) (fun a U => a = #[(.ref x1), (.int (0 : Int32))] ∧ Z.Warmed39 U.vm ∧ U.heap = h0) (fun _ _ _ _ _ => True) (fun _ U o U' => ∃ v L, o = .returned v ∧ Q15L_0 Z x1 t1 kb cs G1 G3 h0 n0 v U'.heap L ∧ FrameEnd U o U' L (own_r 6 0 0 90).cells (own_r 6 0 0 90).slots) := by
  refine MetFree.of_bodySF (plainFor_of_name pn_3) hisR ?_
  intro p e s m args below meth c s₁ Bd hml0 hP hK
  obtain ⟨rfl, hZ, hh⟩ := hP
  have hx := Bd.exec
  have hby := Bd.bytes
  have hml : c.maxLocals = 2 := hml0
  have hown : s.vm.findClass "java/lang/String" = some m.cls := findClass_of_methodNamed Bd.named
  have hnm := (name_of_methodNamed Bd.named Bd.method).1
  have X0 : Stand p l e (own_r 6 0 0 90) s m #[(.ref x1), (.int (0 : Int32))] below meth c s₁ [] 0 0 := Stand.of_body Bd
  have e0 : s₁.heap = h0 := by rw [← hh, Bd.state]; rfl
  have Nf0 := Fr.nil n0
  obtain ⟨Gl, hGl, kn0⟩ := own_gl (p := p) (e := e) (below := below) (s₁ := s₁) (ef_rm15L_0 m x1)
  have kn1 : ∀ t, own_S p e below s₁ (mkF m 1 #[.val (.ref x1), .val (.int 0)] [(.ref x1)]) t → Gl t := fun t kt => kn0 t (by
    show own_S p e below s₁ (mkF m 0 #[.val (.ref x1), .val (.int 0)] []) _
    refine XS.aloadN X0.here hx rfl (hb hby d15_0) rfl rfl ?_
    exact kt)
  obtain ⟨cq2, kq2, qa2, qb2, qc2⟩ := isOf hZ e0 E_x1
  obtain ⟨_, _, ⟨T2, L2, cc2, ss2⟩, -, X2, ⟨Lc2, hQ2, l2, y2, z2⟩, st2⟩ := X0.virtualBack hx (y := mN12) (z := mN12) hown (mvT hZ (own_w hw 71 rfl)) (mvT hZ (own_w hw 72 rfl)) (notFace_of_selects (args := #[]) (mvT hZ (own_w hw 74 rfl))) (mvT hZ (own_w hw 74 rfl)) (mvT hZ (own_w hw 73 rfl)) (by decide) (backOf (W := 0) (rm16L l Z a0 hw [] x1 G1 h0 n0 Z0 C_x1 O0 O2 P5) hZ (own_w hw 75 rfl) (own_w hw 8 rfl) (by decide) (by decide)) qa2 qc2 (g := (mkF m 1 #[.val (.ref x1), .val (.int 0)] [(.ref x1)])) rfl (by rw [hml]; rfl) (Steps.refl _) (argsL := []) (rest := []) (lenOf pd_7 rfl) rfl (by show 2 * 0 + _ ≤ _; exact Nat.le_of_eq rfl) (hb hby d15_1) (fun _ _ => ⟨rfl, e0, (by decide : 0 + 0 ≤ _), (by decide : 0 + 0 ≤ _)⟩)
  dsimp only [Pt.U, Pt.locs, Pt.cells, Pt.slots] at X2 l2 y2 z2 st2 hQ2
  subst l2 y2 z2
  have X2 : Stand p l e _ _ m _ below meth c T2 _ 0 0 := X2
  obtain ⟨rfl, Nq2, eq2⟩ := hQ2
  have Nf2 := Fr.app Nf0 Nq2
  have kn3 : ∀ t, own_S p e below T2 (mkF m 8 #[.val (.ref x1), .val (.int 0)] [(.ref x1)]) t → Gl t := fun t kt => kn1 t (st2.trans (by
    show own_S p e below T2 (mkF m 4 #[.val (.ref x1), .val (.int 0)] [(.int 1)]) _
    refine XS.ifNo X2.here hx rfl (hb hby d15_4) rfl ((if0 _ _).trans (feq (by decide : ¬ ((1 : Int32) = (0 : Int32)))).1) ?_
    refine XS.aloadN X2.here hx rfl (hb hby d15_7) rfl rfl ?_
    exact kt))
  obtain ⟨T4, X4, e4, st4⟩ := getF X2 hx hZ hown (host := "") (Or.inl (own_w hw 25 rfl)) Via.refl eq2 V_x1 (g := (mkF m 8 #[.val (.ref x1), .val (.int 0)] [(.ref x1)])) rfl rfl (hb hby d15_8)
  have kn5 : ∀ t, own_S p e below T4 (mkF m 12 #[.val (.ref x1), .val (.int 0)] [(.int 0), (.ref t1)]) t → Gl t := fun t kt => kn3 t (st4 _ (by
    show own_S p e below T4 (mkF m 11 #[.val (.ref x1), .val (.int 0)] [(.ref t1)]) _
    refine XS.iloadN X4.here hx rfl (hb hby d15_11) rfl ?_
    exact kt))
  obtain ⟨_, _, ⟨T6, L6, cc6, ss6⟩, -, X6, ⟨Lc6, hQ6, l6, y6, z6⟩, st6⟩ := Jvm.LawKit.callS X4 hx (y := mN11) hown (mvT hZ (own_w hw 76 rfl)) (mvT hZ (own_w hw 77 rfl)) (mvT hZ (own_w hw 78 rfl)) (mvT hZ (own_w hw 79 rfl)) (by decide) (backOf (W := 0) (rm17_0 l Z a0 hw [] t1 kb cs G3 h0 n0 Z0 A1 hi hl hbd hlat O0 O4 rG3) hZ (own_w hw 79 rfl) (own_w hw 78 rfl) (by decide) (by decide)) (g := (mkF m 12 #[.val (.ref x1), .val (.int 0)] [(.int 0), (.ref t1)])) rfl (by rw [hml]; rfl) (argsL := [(.ref t1), (.int 0)]) (rest := []) (lenOf pd_6 rfl) rfl (by show 2 * 0 + _ ≤ _; exact Nat.le_of_eq rfl) (hb hby d15_12) (fun _ _ => ⟨rfl, e4, (by decide : 0 + 0 ≤ _), (by decide : 0 + 0 ≤ _)⟩)
  dsimp only [Pt.U, Pt.locs, Pt.cells, Pt.slots] at X6 l6 y6 z6 st6 hQ6
  subst l6 y6 z6
  have X6 : Stand p l e _ _ m _ below meth c T6 _ 0 0 := X6
  obtain ⟨rfl, Nq6, eq6⟩ := hQ6
  have Nf6 := Fr.app Nf2 Nq6
  obtain ⟨fs, hr, hrun, hended, hW, hsame⟩ := X6.leave (v := some (.int (nar .char (cs.getD 0 0)))) (fun h => by rw [Bd.returns] at h; cases h)
  refine ⟨_, _, hGl _ (kn5 _ (st6 _ (retN X6 hx (t := .char) Bd.returns (by simp) (hb hby d15_15) hr))), hrun, hended, _, _, rfl, ?_, ⟨_, rfl⟩, hW, hsame.mono (by decide) (by decide)⟩
  show Q15L_0 Z x1 t1 kb cs G1 G3 h0 n0 _ T6.heap _
  rw [eq6]
  exact ⟨congrArg own_sv (own_nr (own_mem hbd hi)), Nf6, rfl⟩

theorem d15_16 : decode jdk_42_method_56_code 16 = .ok (.aload_n 0, 1) := by decide +kernel
theorem d15_17 : decode jdk_42_method_56_code 17 = .ok (.getfield 9, 3) := by decide +kernel
theorem d15_20 : decode jdk_42_method_56_code 20 = .ok (.iload_n 1, 1) := by decide +kernel
theorem d15_21 : decode jdk_42_method_56_code 21 = .ok (.invokestatic 498, 3) := by decide +kernel
theorem d15_24 : decode jdk_42_method_56_code 24 = .ok (.ireturn, 1) := by decide +kernel
theorem ef_rm15W_0 (m : MethodId) (x0 : Addr) : entryFrame m #[(.ref x0), (.int (0 : Int32))] 2 = mkF m 0 #[.val (.ref x0), .val (.int (0 : Int32))] [] := by first | (simp [entryFrame, mkF, argsToLocals, Value.category]; done) | rfl
def Q15W_0 (Z : State) (x1 : Addr) (t1 : Addr) (kb : ClassId) (cs : List Int32) (G1 : Int32) (G3 : Value) (h0 : Heap) (n0 : Nat) (v : Option Value) (h : Heap) (L : List Loc) : Prop := v = some (.int (cs.getD 0 0)) ∧ Fr n0 L ∧ h = h0
theorem rm15W_0 (l : Launch) (Z : State) (a0 : Array Value) (hw : ∀ d ∈ tables_1, d.before a0 Z = true) (ws : List Jvm.Cond) (x1 : Addr) (t1 : Addr) (kb : ClassId) (cs : List Int32) (G1 : Int32) (G3 : Value) (h0 : Heap) (n0 : Nat) (Z0 : n0 ≤ h0.size) (E_x1 : Exa Z h0 x1 "java/lang/String") (V_x1 : Fld Z h0 x1 "java/lang/String" "value" "[B" (.ref t1)) (C_x1 : Fld Z h0 x1 "java/lang/String" "coder" "B" (.int (1 : Int32))) (A1 : Arv Z h0 t1 kb .byte (Int32.ofNat (2 * cs.length)) (StrChars.Road.wideBytes cs) (.int (0 : Int32))) (hi : 0 < cs.length) (hl : cs.length ≤ 3) (hbd : ∀ c ∈ cs, own_rg c) (O0 : Old Z n0 h0) (O2 : Sta Z Z.heap "java/lang/String" "COMPACT_STRINGS" "Z" (.int G1)) (P5 : ¬ (G1 = (0 : Int32))) (O4 : Sta Z Z.heap "jdk/internal/util/Preconditions" "SIOOBE_FORMATTER" "Ljava/util/function/BiFunction;" G3) (rG3 : G3.isRef = true) (U1 : Sta Z Z.heap "java/lang/StringUTF16" "$assertionsDisabled" "Z" (.int (1 : Int32))) (U2 : Sta Z Z.heap "java/lang/StringUTF16" "HI_BYTE_SHIFT" "I" (.int (0 : Int32))) (U3 : Sta Z Z.heap "java/lang/StringUTF16" "LO_BYTE_SHIFT" "I" (.int (8 : Int32))) :
    MetFree l mN13 (head1 (Jvm.Cond.code mN13 jdk_42_method_56_code 2 (some .char) :: ws) (own_r 6 0 0 90)) (fun a U => a = #[(.ref x1), (.int (0 : Int32))] ∧ Z.Warmed39 U.vm ∧ U.heap = h0) (fun _ _ _ _ _ => True) (fun _ U o U' => ∃ v L, o = .returned v ∧ Q15W_0 Z x1 t1 kb cs G1 G3 h0 n0 v U'.heap L ∧ FrameEnd U o U' L (own_r 6 0 0 90).cells (own_r 6 0 0 90).slots) := by
  refine MetFree.of_bodySF (plainFor_of_name pn_3) hisR ?_
  intro p e s m args below meth c s₁ Bd hml0 hP hK
  obtain ⟨rfl, hZ, hh⟩ := hP
  have hx := Bd.exec
  have hby := Bd.bytes
  have hml : c.maxLocals = 2 := hml0
  have hown : s.vm.findClass "java/lang/String" = some m.cls := findClass_of_methodNamed Bd.named
  have hnm := (name_of_methodNamed Bd.named Bd.method).1
  have X0 : Stand p l e (own_r 6 0 0 90) s m #[(.ref x1), (.int (0 : Int32))] below meth c s₁ [] 0 0 := Stand.of_body Bd
  have e0 : s₁.heap = h0 := by rw [← hh, Bd.state]; rfl
  have Nf0 := Fr.nil n0
  obtain ⟨Gl, hGl, kn0⟩ := own_gl (p := p) (e := e) (below := below) (s₁ := s₁) (ef_rm15W_0 m x1)
  have kn1 : ∀ t, own_S p e below s₁ (mkF m 1 #[.val (.ref x1), .val (.int 0)] [(.ref x1)]) t → Gl t := fun t kt => kn0 t (by
    show own_S p e below s₁ (mkF m 0 #[.val (.ref x1), .val (.int 0)] []) _
    refine XS.aloadN X0.here hx rfl (hb hby d15_0) rfl rfl ?_
    exact kt)
  obtain ⟨cq2, kq2, qa2, qb2, qc2⟩ := isOf hZ e0 E_x1
  obtain ⟨_, _, ⟨T2, L2, cc2, ss2⟩, -, X2, ⟨Lc2, hQ2, l2, y2, z2⟩, st2⟩ := X0.virtualBack hx (y := mN12) (z := mN12) hown (mvT hZ (own_w hw 71 rfl)) (mvT hZ (own_w hw 72 rfl)) (notFace_of_selects (args := #[]) (mvT hZ (own_w hw 74 rfl))) (mvT hZ (own_w hw 74 rfl)) (mvT hZ (own_w hw 73 rfl)) (by decide) (backOf (W := 0) (rm16W l Z a0 hw [] x1 G1 h0 n0 Z0 C_x1 O0 O2 P5) hZ (own_w hw 75 rfl) (own_w hw 8 rfl) (by decide) (by decide)) qa2 qc2 (g := (mkF m 1 #[.val (.ref x1), .val (.int 0)] [(.ref x1)])) rfl (by rw [hml]; rfl) (Steps.refl _) (argsL := []) (rest := []) (lenOf pd_7 rfl) rfl (by show 2 * 0 + _ ≤ _; exact Nat.le_of_eq rfl) (hb hby d15_1) (fun _ _ => ⟨rfl, e0, (by decide : 0 + 0 ≤ _), (by decide : 0 + 0 ≤ _)⟩)
  dsimp only [Pt.U, Pt.locs, Pt.cells, Pt.slots] at X2 l2 y2 z2 st2 hQ2
  subst l2 y2 z2
  have X2 : Stand p l e _ _ m _ below meth c T2 _ 0 0 := X2
  obtain ⟨rfl, Nq2, eq2⟩ := hQ2
  have Nf2 := Fr.app Nf0 Nq2
  have kn3 : ∀ t, own_S p e below T2 (mkF m 17 #[.val (.ref x1), .val (.int 0)] [(.ref x1)]) t → Gl t := fun t kt => kn1 t (st2.trans (by
    show own_S p e below T2 (mkF m 4 #[.val (.ref x1), .val (.int 0)] [(.int 0)]) _
    refine XS.ifYes X2.here hx rfl (pc0 := 4) (pc' := 16) rfl (hb hby d15_4) rfl ((if0 _ _).trans (teq (by decide : (0 : Int32) = (0 : Int32))).1) (by decide) (by decide) ?_
    refine XS.aloadN X2.here hx rfl (hb hby d15_16) rfl rfl ?_
    exact kt))
  obtain ⟨T4, X4, e4, st4⟩ := getF X2 hx hZ hown (host := "") (Or.inl (own_w hw 25 rfl)) Via.refl eq2 V_x1 (g := (mkF m 17 #[.val (.ref x1), .val (.int 0)] [(.ref x1)])) rfl rfl (hb hby d15_17)
  have kn5 : ∀ t, own_S p e below T4 (mkF m 21 #[.val (.ref x1), .val (.int 0)] [(.int 0), (.ref t1)]) t → Gl t := fun t kt => kn3 t (st4 _ (by
    show own_S p e below T4 (mkF m 20 #[.val (.ref x1), .val (.int 0)] [(.ref t1)]) _
    refine XS.iloadN X4.here hx rfl (hb hby d15_20) rfl ?_
    exact kt))
  obtain ⟨_, _, ⟨T6, L6, cc6, ss6⟩, -, X6, ⟨Lc6, hQ6, l6, y6, z6⟩, st6⟩ := Jvm.LawKit.callS X4 hx (y := mN10) hown (mvT hZ (own_w hw 112 rfl)) (mvT hZ (own_w hw 113 rfl)) (mvT hZ (own_w hw 54 rfl)) (mvT hZ (own_w hw 114 rfl)) (by decide) (backOf (W := 0) (rm26_0 l Z a0 hw [] t1 kb cs G3 h0 n0 Z0 A1 hi hl hbd O0 O4 rG3 U1 U2 U3) hZ (own_w hw 114 rfl) (own_w hw 54 rfl) (by decide) (by decide)) (g := (mkF m 21 #[.val (.ref x1), .val (.int 0)] [(.int 0), (.ref t1)])) rfl (by rw [hml]; rfl) (argsL := [(.ref t1), (.int 0)]) (rest := []) (lenOf pd_6 rfl) rfl (by show 2 * 0 + _ ≤ _; exact Nat.le_of_eq rfl) (hb hby d15_21) (fun _ _ => ⟨rfl, e4, (by decide : 0 + 0 ≤ _), (by decide : 0 + 0 ≤ _)⟩)
  dsimp only [Pt.U, Pt.locs, Pt.cells, Pt.slots] at X6 l6 y6 z6 st6 hQ6
  subst l6 y6 z6
  have X6 : Stand p l e _ _ m _ below meth c T6 _ 0 0 := X6
  obtain ⟨rfl, Nq6, eq6⟩ := hQ6
  have Nf6 := Fr.app Nf2 Nq6
  obtain ⟨fs, hr, hrun, hended, hW, hsame⟩ := X6.leave (v := some (.int (nar .char (cs.getD 0 0)))) (fun h => by rw [Bd.returns] at h; cases h)
  refine ⟨_, _, hGl _ (kn5 _ (st6 _ (retN X6 hx (t := .char) Bd.returns (by simp) (hb hby d15_24) hr))), hrun, hended, _, _, rfl, ?_, ⟨_, rfl⟩, hW, hsame.mono (by decide) (by decide)⟩
  show Q15W_0 Z x1 t1 kb cs G1 G3 h0 n0 _ T6.heap _
  rw [eq6]
  exact ⟨congrArg own_sv (own_nr (own_mem hbd hi)), Nf6, rfl⟩

def Q15_0 (Z : State) (x1 : Addr) (t1 : Addr) (kb : ClassId) (cs : List Int32) (cd : Int32) (N1 : Int32) (vs : List Value) (G1 : Int32) (G3 : Value) (h0 : Heap) (n0 : Nat) (v : Option Value) (h : Heap) (L : List Loc) : Prop := v = some (.int (cs.getD 0 0)) ∧ Fr n0 L ∧ h = h0
theorem rm15_0 (l : Launch) (Z : State) (a0 : Array Value) (hw : ∀ d ∈ tables_1, d.before a0 Z = true) (ws : List Jvm.Cond) (x1 : Addr) (t1 : Addr) (kb : ClassId) (cs : List Int32) (cd : Int32) (N1 : Int32) (vs : List Value) (G1 : Int32) (G3 : Value) (h0 : Heap) (n0 : Nat) (Z0 : n0 ≤ h0.size) (E_x1 : Exa Z h0 x1 "java/lang/String") (V_x1 : Fld Z h0 x1 "java/lang/String" "value" "[B" (.ref t1)) (C_x1 : Fld Z h0 x1 "java/lang/String" "coder" "B" (.int cd)) (A1 : Arv Z h0 t1 kb .byte N1 vs (.int (0 : Int32))) (hcd : StrChars.Road.CodA cs cd N1 vs) (hi : 0 < cs.length) (hl : cs.length ≤ 3) (hbd : ∀ c ∈ cs, own_rg c) (O0 : Old Z n0 h0) (O2 : Sta Z Z.heap "java/lang/String" "COMPACT_STRINGS" "Z" (.int G1)) (P5 : ¬ (G1 = (0 : Int32))) (O4 : Sta Z Z.heap "jdk/internal/util/Preconditions" "SIOOBE_FORMATTER" "Ljava/util/function/BiFunction;" G3) (rG3 : G3.isRef = true) (U1 : Sta Z Z.heap "java/lang/StringUTF16" "$assertionsDisabled" "Z" (.int (1 : Int32))) (U2 : Sta Z Z.heap "java/lang/StringUTF16" "HI_BYTE_SHIFT" "I" (.int (0 : Int32))) (U3 : Sta Z Z.heap "java/lang/StringUTF16" "LO_BYTE_SHIFT" "I" (.int (8 : Int32))) :
    MetFree l mN13 (head1 (Jvm.Cond.code mN13 jdk_42_method_56_code 2 (some .char) :: ws) (own_r 6 0 0 90)) (fun a U => a = #[(.ref x1), (.int (0 : Int32))] ∧ Z.Warmed39 U.vm ∧ U.heap = h0) (fun _ _ _ _ _ => True) (fun _ U o U' => ∃ v L, o = .returned v ∧ Q15_0 Z x1 t1 kb cs cd N1 vs G1 G3 h0 n0 v U'.heap L ∧ FrameEnd U o U' L (own_r 6 0 0 90).cells (own_r 6 0 0 90).slots) := by
  rcases hcd with ⟨rfl, rfl, rfl, hlat⟩ | ⟨rfl, rfl, rfl, -⟩
  · exact rm15L_0 l Z a0 hw ws x1 t1 kb cs G1 G3 h0 n0 Z0 E_x1 V_x1 C_x1 A1 hi hl hbd hlat O0 O2 P5 O4 rG3 U1 U2 U3
  · exact rm15W_0 l Z a0 hw ws x1 t1 kb cs G1 G3 h0 n0 Z0 E_x1 V_x1 C_x1 A1 hi hl hbd O0 O2 P5 O4 rG3 U1 U2 U3

theorem ef_rm15L_1 (m : MethodId) (x0 : Addr) : entryFrame m #[(.ref x0), (.int (1 : Int32))] 2 = mkF m 0 #[.val (.ref x0), .val (.int (1 : Int32))] [] := by first | (simp [entryFrame, mkF, argsToLocals, Value.category]; done) | rfl
def Q15L_1 (Z : State) (x1 : Addr) (t1 : Addr) (kb : ClassId) (cs : List Int32) (G1 : Int32) (G3 : Value) (h0 : Heap) (n0 : Nat) (v : Option Value) (h : Heap) (L : List Loc) : Prop := v = some (.int (cs.getD 1 0)) ∧ Fr n0 L ∧ h = h0
theorem rm15L_1 (l : Launch) (Z : State) (a0 : Array Value) (hw : ∀ d ∈ tables_1, d.before a0 Z = true) (ws : List Jvm.Cond) (x1 : Addr) (t1 : Addr) (kb : ClassId) (cs : List Int32) (G1 : Int32) (G3 : Value) (h0 : Heap) (n0 : Nat) (Z0 : n0 ≤ h0.size) (E_x1 : Exa Z h0 x1 "java/lang/String") (V_x1 : Fld Z h0 x1 "java/lang/String" "value" "[B" (.ref t1)) (C_x1 : Fld Z h0 x1 "java/lang/String" "coder" "B" (.int (0 : Int32))) (A1 : Arv Z h0 t1 kb .byte (Int32.ofNat cs.length) (cs.map fun c => Value.int (StrChars.lo8 c)) (.int (0 : Int32))) (hi : 1 < cs.length) (hl : cs.length ≤ 3) (hbd : ∀ c ∈ cs, own_rg c) (hlat : ∀ c ∈ cs, ¬ (255 : Int32) < c) (O0 : Old Z n0 h0) (O2 : Sta Z Z.heap "java/lang/String" "COMPACT_STRINGS" "Z" (.int G1)) (P5 : ¬ (G1 = (0 : Int32))) (O4 : Sta Z Z.heap "jdk/internal/util/Preconditions" "SIOOBE_FORMATTER" "Ljava/util/function/BiFunction;" G3) (rG3 : G3.isRef = true) (U1 : Sta Z Z.heap "java/lang/StringUTF16" "$assertionsDisabled" "Z" (.int (1 : Int32))) (U2 : Sta Z Z.heap "java/lang/StringUTF16" "HI_BYTE_SHIFT" "I" (.int (0 : Int32))) (U3 : Sta Z Z.heap "java/lang/StringUTF16" "LO_BYTE_SHIFT" "I" (.int (8 : Int32))) :
    MetFree l mN13 (head1 (Jvm.Cond.code mN13 jdk_42_method_56_code 2 (some .char) :: ws) (own_r 6 0 0 90)) (fun a U => a = #[(.ref x1), (.int (1 : Int32))] ∧ Z.Warmed39 U.vm ∧ U.heap = h0) (fun _ _ _ _ _ => True) (fun _ U o U' => ∃ v L, o = .returned v ∧ Q15L_1 Z x1 t1 kb cs G1 G3 h0 n0 v U'.heap L ∧ FrameEnd U o U' L (own_r 6 0 0 90).cells (own_r 6 0 0 90).slots) := by
  refine MetFree.of_bodySF (plainFor_of_name pn_3) hisR ?_
  intro p e s m args below meth c s₁ Bd hml0 hP hK
  obtain ⟨rfl, hZ, hh⟩ := hP
  have hx := Bd.exec
  have hby := Bd.bytes
  have hml : c.maxLocals = 2 := hml0
  have hown : s.vm.findClass "java/lang/String" = some m.cls := findClass_of_methodNamed Bd.named
  have hnm := (name_of_methodNamed Bd.named Bd.method).1
  have X0 : Stand p l e (own_r 6 0 0 90) s m #[(.ref x1), (.int (1 : Int32))] below meth c s₁ [] 0 0 := Stand.of_body Bd
  have e0 : s₁.heap = h0 := by rw [← hh, Bd.state]; rfl
  have Nf0 := Fr.nil n0
  obtain ⟨Gl, hGl, kn0⟩ := own_gl (p := p) (e := e) (below := below) (s₁ := s₁) (ef_rm15L_1 m x1)
  have kn1 : ∀ t, own_S p e below s₁ (mkF m 1 #[.val (.ref x1), .val (.int 1)] [(.ref x1)]) t → Gl t := fun t kt => kn0 t (by
    show own_S p e below s₁ (mkF m 0 #[.val (.ref x1), .val (.int 1)] []) _
    refine XS.aloadN X0.here hx rfl (hb hby d15_0) rfl rfl ?_
    exact kt)
  obtain ⟨cq2, kq2, qa2, qb2, qc2⟩ := isOf hZ e0 E_x1
  obtain ⟨_, _, ⟨T2, L2, cc2, ss2⟩, -, X2, ⟨Lc2, hQ2, l2, y2, z2⟩, st2⟩ := X0.virtualBack hx (y := mN12) (z := mN12) hown (mvT hZ (own_w hw 71 rfl)) (mvT hZ (own_w hw 72 rfl)) (notFace_of_selects (args := #[]) (mvT hZ (own_w hw 74 rfl))) (mvT hZ (own_w hw 74 rfl)) (mvT hZ (own_w hw 73 rfl)) (by decide) (backOf (W := 0) (rm16L l Z a0 hw [] x1 G1 h0 n0 Z0 C_x1 O0 O2 P5) hZ (own_w hw 75 rfl) (own_w hw 8 rfl) (by decide) (by decide)) qa2 qc2 (g := (mkF m 1 #[.val (.ref x1), .val (.int 1)] [(.ref x1)])) rfl (by rw [hml]; rfl) (Steps.refl _) (argsL := []) (rest := []) (lenOf pd_7 rfl) rfl (by show 2 * 0 + _ ≤ _; exact Nat.le_of_eq rfl) (hb hby d15_1) (fun _ _ => ⟨rfl, e0, (by decide : 0 + 0 ≤ _), (by decide : 0 + 0 ≤ _)⟩)
  dsimp only [Pt.U, Pt.locs, Pt.cells, Pt.slots] at X2 l2 y2 z2 st2 hQ2
  subst l2 y2 z2
  have X2 : Stand p l e _ _ m _ below meth c T2 _ 0 0 := X2
  obtain ⟨rfl, Nq2, eq2⟩ := hQ2
  have Nf2 := Fr.app Nf0 Nq2
  have kn3 : ∀ t, own_S p e below T2 (mkF m 8 #[.val (.ref x1), .val (.int 1)] [(.ref x1)]) t → Gl t := fun t kt => kn1 t (st2.trans (by
    show own_S p e below T2 (mkF m 4 #[.val (.ref x1), .val (.int 1)] [(.int 1)]) _
    refine XS.ifNo X2.here hx rfl (hb hby d15_4) rfl ((if0 _ _).trans (feq (by decide : ¬ ((1 : Int32) = (0 : Int32)))).1) ?_
    refine XS.aloadN X2.here hx rfl (hb hby d15_7) rfl rfl ?_
    exact kt))
  obtain ⟨T4, X4, e4, st4⟩ := getF X2 hx hZ hown (host := "") (Or.inl (own_w hw 25 rfl)) Via.refl eq2 V_x1 (g := (mkF m 8 #[.val (.ref x1), .val (.int 1)] [(.ref x1)])) rfl rfl (hb hby d15_8)
  have kn5 : ∀ t, own_S p e below T4 (mkF m 12 #[.val (.ref x1), .val (.int 1)] [(.int 1), (.ref t1)]) t → Gl t := fun t kt => kn3 t (st4 _ (by
    show own_S p e below T4 (mkF m 11 #[.val (.ref x1), .val (.int 1)] [(.ref t1)]) _
    refine XS.iloadN X4.here hx rfl (hb hby d15_11) rfl ?_
    exact kt))
  obtain ⟨_, _, ⟨T6, L6, cc6, ss6⟩, -, X6, ⟨Lc6, hQ6, l6, y6, z6⟩, st6⟩ := Jvm.LawKit.callS X4 hx (y := mN11) hown (mvT hZ (own_w hw 76 rfl)) (mvT hZ (own_w hw 77 rfl)) (mvT hZ (own_w hw 78 rfl)) (mvT hZ (own_w hw 79 rfl)) (by decide) (backOf (W := 0) (rm17_1 l Z a0 hw [] t1 kb cs G3 h0 n0 Z0 A1 hi hl hbd hlat O0 O4 rG3) hZ (own_w hw 79 rfl) (own_w hw 78 rfl) (by decide) (by decide)) (g := (mkF m 12 #[.val (.ref x1), .val (.int 1)] [(.int 1), (.ref t1)])) rfl (by rw [hml]; rfl) (argsL := [(.ref t1), (.int 1)]) (rest := []) (lenOf pd_6 rfl) rfl (by show 2 * 0 + _ ≤ _; exact Nat.le_of_eq rfl) (hb hby d15_12) (fun _ _ => ⟨rfl, e4, (by decide : 0 + 0 ≤ _), (by decide : 0 + 0 ≤ _)⟩)
  dsimp only [Pt.U, Pt.locs, Pt.cells, Pt.slots] at X6 l6 y6 z6 st6 hQ6
  subst l6 y6 z6
  have X6 : Stand p l e _ _ m _ below meth c T6 _ 0 0 := X6
  obtain ⟨rfl, Nq6, eq6⟩ := hQ6
  have Nf6 := Fr.app Nf2 Nq6
  obtain ⟨fs, hr, hrun, hended, hW, hsame⟩ := X6.leave (v := some (.int (nar .char (cs.getD 1 0)))) (fun h => by rw [Bd.returns] at h; cases h)
  refine ⟨_, _, hGl _ (kn5 _ (st6 _ (retN X6 hx (t := .char) Bd.returns (by simp) (hb hby d15_15) hr))), hrun, hended, _, _, rfl, ?_, ⟨_, rfl⟩, hW, hsame.mono (by decide) (by decide)⟩
  show Q15L_1 Z x1 t1 kb cs G1 G3 h0 n0 _ T6.heap _
  rw [eq6]
  exact ⟨congrArg own_sv (own_nr (own_mem hbd hi)), Nf6, rfl⟩

theorem ef_rm15W_1 (m : MethodId) (x0 : Addr) : entryFrame m #[(.ref x0), (.int (1 : Int32))] 2 = mkF m 0 #[.val (.ref x0), .val (.int (1 : Int32))] [] := by first | (simp [entryFrame, mkF, argsToLocals, Value.category]; done) | rfl
def Q15W_1 (Z : State) (x1 : Addr) (t1 : Addr) (kb : ClassId) (cs : List Int32) (G1 : Int32) (G3 : Value) (h0 : Heap) (n0 : Nat) (v : Option Value) (h : Heap) (L : List Loc) : Prop := v = some (.int (cs.getD 1 0)) ∧ Fr n0 L ∧ h = h0
theorem rm15W_1 (l : Launch) (Z : State) (a0 : Array Value) (hw : ∀ d ∈ tables_1, d.before a0 Z = true) (ws : List Jvm.Cond) (x1 : Addr) (t1 : Addr) (kb : ClassId) (cs : List Int32) (G1 : Int32) (G3 : Value) (h0 : Heap) (n0 : Nat) (Z0 : n0 ≤ h0.size) (E_x1 : Exa Z h0 x1 "java/lang/String") (V_x1 : Fld Z h0 x1 "java/lang/String" "value" "[B" (.ref t1)) (C_x1 : Fld Z h0 x1 "java/lang/String" "coder" "B" (.int (1 : Int32))) (A1 : Arv Z h0 t1 kb .byte (Int32.ofNat (2 * cs.length)) (StrChars.Road.wideBytes cs) (.int (0 : Int32))) (hi : 1 < cs.length) (hl : cs.length ≤ 3) (hbd : ∀ c ∈ cs, own_rg c) (O0 : Old Z n0 h0) (O2 : Sta Z Z.heap "java/lang/String" "COMPACT_STRINGS" "Z" (.int G1)) (P5 : ¬ (G1 = (0 : Int32))) (O4 : Sta Z Z.heap "jdk/internal/util/Preconditions" "SIOOBE_FORMATTER" "Ljava/util/function/BiFunction;" G3) (rG3 : G3.isRef = true) (U1 : Sta Z Z.heap "java/lang/StringUTF16" "$assertionsDisabled" "Z" (.int (1 : Int32))) (U2 : Sta Z Z.heap "java/lang/StringUTF16" "HI_BYTE_SHIFT" "I" (.int (0 : Int32))) (U3 : Sta Z Z.heap "java/lang/StringUTF16" "LO_BYTE_SHIFT" "I" (.int (8 : Int32))) :
    MetFree l mN13 (head1 (Jvm.Cond.code mN13 jdk_42_method_56_code 2 (some .char) :: ws) (own_r 6 0 0 90)) (fun a U => a = #[(.ref x1), (.int (1 : Int32))] ∧ Z.Warmed39 U.vm ∧ U.heap = h0) (fun _ _ _ _ _ => True) (fun _ U o U' => ∃ v L, o = .returned v ∧ Q15W_1 Z x1 t1 kb cs G1 G3 h0 n0 v U'.heap L ∧ FrameEnd U o U' L (own_r 6 0 0 90).cells (own_r 6 0 0 90).slots) := by
  refine MetFree.of_bodySF (plainFor_of_name pn_3) hisR ?_
  intro p e s m args below meth c s₁ Bd hml0 hP hK
  obtain ⟨rfl, hZ, hh⟩ := hP
  have hx := Bd.exec
  have hby := Bd.bytes
  have hml : c.maxLocals = 2 := hml0
  have hown : s.vm.findClass "java/lang/String" = some m.cls := findClass_of_methodNamed Bd.named
  have hnm := (name_of_methodNamed Bd.named Bd.method).1
  have X0 : Stand p l e (own_r 6 0 0 90) s m #[(.ref x1), (.int (1 : Int32))] below meth c s₁ [] 0 0 := Stand.of_body Bd
  have e0 : s₁.heap = h0 := by rw [← hh, Bd.state]; rfl
  have Nf0 := Fr.nil n0
  obtain ⟨Gl, hGl, kn0⟩ := own_gl (p := p) (e := e) (below := below) (s₁ := s₁) (ef_rm15W_1 m x1)
  have kn1 : ∀ t, own_S p e below s₁ (mkF m 1 #[.val (.ref x1), .val (.int 1)] [(.ref x1)]) t → Gl t := fun t kt => kn0 t (by
    show own_S p e below s₁ (mkF m 0 #[.val (.ref x1), .val (.int 1)] []) _
    refine XS.aloadN X0.here hx rfl (hb hby d15_0) rfl rfl ?_
    exact kt)
  obtain ⟨cq2, kq2, qa2, qb2, qc2⟩ := isOf hZ e0 E_x1
  obtain ⟨_, _, ⟨T2, L2, cc2, ss2⟩, -, X2, ⟨Lc2, hQ2, l2, y2, z2⟩, st2⟩ := X0.virtualBack hx (y := mN12) (z := mN12) hown (mvT hZ (own_w hw 71 rfl)) (mvT hZ (own_w hw 72 rfl)) (notFace_of_selects (args := #[]) (mvT hZ (own_w hw 74 rfl))) (mvT hZ (own_w hw 74 rfl)) (mvT hZ (own_w hw 73 rfl)) (by decide) (backOf (W := 0) (rm16W l Z a0 hw [] x1 G1 h0 n0 Z0 C_x1 O0 O2 P5) hZ (own_w hw 75 rfl) (own_w hw 8 rfl) (by decide) (by decide)) qa2 qc2 (g := (mkF m 1 #[.val (.ref x1), .val (.int 1)] [(.ref x1)])) rfl (by rw [hml]; rfl) (Steps.refl _) (argsL := []) (rest := []) (lenOf pd_7 rfl) rfl (by show 2 * 0 + _ ≤ _; exact Nat.le_of_eq rfl) (hb hby d15_1) (fun _ _ => ⟨rfl, e0, (by decide : 0 + 0 ≤ _), (by decide : 0 + 0 ≤ _)⟩)
  dsimp only [Pt.U, Pt.locs, Pt.cells, Pt.slots] at X2 l2 y2 z2 st2 hQ2
  subst l2 y2 z2
  have X2 : Stand p l e _ _ m _ below meth c T2 _ 0 0 := X2
  obtain ⟨rfl, Nq2, eq2⟩ := hQ2
  have Nf2 := Fr.app Nf0 Nq2
  have kn3 : ∀ t, own_S p e below T2 (mkF m 17 #[.val (.ref x1), .val (.int 1)] [(.ref x1)]) t → Gl t := fun t kt => kn1 t (st2.trans (by
    show own_S p e below T2 (mkF m 4 #[.val (.ref x1), .val (.int 1)] [(.int 0)]) _
    refine XS.ifYes X2.here hx rfl (pc0 := 4) (pc' := 16) rfl (hb hby d15_4) rfl ((if0 _ _).trans (teq (by decide : (0 : Int32) = (0 : Int32))).1) (by decide) (by decide) ?_
    refine XS.aloadN X2.here hx rfl (hb hby d15_16) rfl rfl ?_
    exact kt))
  obtain ⟨T4, X4, e4, st4⟩ := getF X2 hx hZ hown (host := "") (Or.inl (own_w hw 25 rfl)) Via.refl eq2 V_x1 (g := (mkF m 17 #[.val (.ref x1), .val (.int 1)] [(.ref x1)])) rfl rfl (hb hby d15_17)
  have kn5 : ∀ t, own_S p e below T4 (mkF m 21 #[.val (.ref x1), .val (.int 1)] [(.int 1), (.ref t1)]) t → Gl t := fun t kt => kn3 t (st4 _ (by
    show own_S p e below T4 (mkF m 20 #[.val (.ref x1), .val (.int 1)] [(.ref t1)]) _
    refine XS.iloadN X4.here hx rfl (hb hby d15_20) rfl ?_
    exact kt))
  obtain ⟨_, _, ⟨T6, L6, cc6, ss6⟩, -, X6, ⟨Lc6, hQ6, l6, y6, z6⟩, st6⟩ := Jvm.LawKit.callS X4 hx (y := mN10) hown (mvT hZ (own_w hw 112 rfl)) (mvT hZ (own_w hw 113 rfl)) (mvT hZ (own_w hw 54 rfl)) (mvT hZ (own_w hw 114 rfl)) (by decide) (backOf (W := 0) (rm26_1 l Z a0 hw [] t1 kb cs G3 h0 n0 Z0 A1 hi hl hbd O0 O4 rG3 U1 U2 U3) hZ (own_w hw 114 rfl) (own_w hw 54 rfl) (by decide) (by decide)) (g := (mkF m 21 #[.val (.ref x1), .val (.int 1)] [(.int 1), (.ref t1)])) rfl (by rw [hml]; rfl) (argsL := [(.ref t1), (.int 1)]) (rest := []) (lenOf pd_6 rfl) rfl (by show 2 * 0 + _ ≤ _; exact Nat.le_of_eq rfl) (hb hby d15_21) (fun _ _ => ⟨rfl, e4, (by decide : 0 + 0 ≤ _), (by decide : 0 + 0 ≤ _)⟩)
  dsimp only [Pt.U, Pt.locs, Pt.cells, Pt.slots] at X6 l6 y6 z6 st6 hQ6
  subst l6 y6 z6
  have X6 : Stand p l e _ _ m _ below meth c T6 _ 0 0 := X6
  obtain ⟨rfl, Nq6, eq6⟩ := hQ6
  have Nf6 := Fr.app Nf2 Nq6
  obtain ⟨fs, hr, hrun, hended, hW, hsame⟩ := X6.leave (v := some (.int (nar .char (cs.getD 1 0)))) (fun h => by rw [Bd.returns] at h; cases h)
  refine ⟨_, _, hGl _ (kn5 _ (st6 _ (retN X6 hx (t := .char) Bd.returns (by simp) (hb hby d15_24) hr))), hrun, hended, _, _, rfl, ?_, ⟨_, rfl⟩, hW, hsame.mono (by decide) (by decide)⟩
  show Q15W_1 Z x1 t1 kb cs G1 G3 h0 n0 _ T6.heap _
  rw [eq6]
  exact ⟨congrArg own_sv (own_nr (own_mem hbd hi)), Nf6, rfl⟩

def Q15_1 (Z : State) (x1 : Addr) (t1 : Addr) (kb : ClassId) (cs : List Int32) (cd : Int32) (N1 : Int32) (vs : List Value) (G1 : Int32) (G3 : Value) (h0 : Heap) (n0 : Nat) (v : Option Value) (h : Heap) (L : List Loc) : Prop := v = some (.int (cs.getD 1 0)) ∧ Fr n0 L ∧ h = h0
theorem rm15_1 (l : Launch) (Z : State) (a0 : Array Value) (hw : ∀ d ∈ tables_1, d.before a0 Z = true) (ws : List Jvm.Cond) (x1 : Addr) (t1 : Addr) (kb : ClassId) (cs : List Int32) (cd : Int32) (N1 : Int32) (vs : List Value) (G1 : Int32) (G3 : Value) (h0 : Heap) (n0 : Nat) (Z0 : n0 ≤ h0.size) (E_x1 : Exa Z h0 x1 "java/lang/String") (V_x1 : Fld Z h0 x1 "java/lang/String" "value" "[B" (.ref t1)) (C_x1 : Fld Z h0 x1 "java/lang/String" "coder" "B" (.int cd)) (A1 : Arv Z h0 t1 kb .byte N1 vs (.int (0 : Int32))) (hcd : StrChars.Road.CodA cs cd N1 vs) (hi : 1 < cs.length) (hl : cs.length ≤ 3) (hbd : ∀ c ∈ cs, own_rg c) (O0 : Old Z n0 h0) (O2 : Sta Z Z.heap "java/lang/String" "COMPACT_STRINGS" "Z" (.int G1)) (P5 : ¬ (G1 = (0 : Int32))) (O4 : Sta Z Z.heap "jdk/internal/util/Preconditions" "SIOOBE_FORMATTER" "Ljava/util/function/BiFunction;" G3) (rG3 : G3.isRef = true) (U1 : Sta Z Z.heap "java/lang/StringUTF16" "$assertionsDisabled" "Z" (.int (1 : Int32))) (U2 : Sta Z Z.heap "java/lang/StringUTF16" "HI_BYTE_SHIFT" "I" (.int (0 : Int32))) (U3 : Sta Z Z.heap "java/lang/StringUTF16" "LO_BYTE_SHIFT" "I" (.int (8 : Int32))) :
    MetFree l mN13 (head1 (Jvm.Cond.code mN13 jdk_42_method_56_code 2 (some .char) :: ws) (own_r 6 0 0 90)) (fun a U => a = #[(.ref x1), (.int (1 : Int32))] ∧ Z.Warmed39 U.vm ∧ U.heap = h0) (fun _ _ _ _ _ => True) (fun _ U o U' => ∃ v L, o = .returned v ∧ Q15_1 Z x1 t1 kb cs cd N1 vs G1 G3 h0 n0 v U'.heap L ∧ FrameEnd U o U' L (own_r 6 0 0 90).cells (own_r 6 0 0 90).slots) := by
  rcases hcd with ⟨rfl, rfl, rfl, hlat⟩ | ⟨rfl, rfl, rfl, -⟩
  · exact rm15L_1 l Z a0 hw ws x1 t1 kb cs G1 G3 h0 n0 Z0 E_x1 V_x1 C_x1 A1 hi hl hbd hlat O0 O2 P5 O4 rG3 U1 U2 U3
  · exact rm15W_1 l Z a0 hw ws x1 t1 kb cs G1 G3 h0 n0 Z0 E_x1 V_x1 C_x1 A1 hi hl hbd O0 O2 P5 O4 rG3 U1 U2 U3

theorem ef_rm15L_2 (m : MethodId) (x0 : Addr) : entryFrame m #[(.ref x0), (.int (2 : Int32))] 2 = mkF m 0 #[.val (.ref x0), .val (.int (2 : Int32))] [] := by first | (simp [entryFrame, mkF, argsToLocals, Value.category]; done) | rfl
def Q15L_2 (Z : State) (x1 : Addr) (t1 : Addr) (kb : ClassId) (cs : List Int32) (G1 : Int32) (G3 : Value) (h0 : Heap) (n0 : Nat) (v : Option Value) (h : Heap) (L : List Loc) : Prop := v = some (.int (cs.getD 2 0)) ∧ Fr n0 L ∧ h = h0
theorem rm15L_2 (l : Launch) (Z : State) (a0 : Array Value) (hw : ∀ d ∈ tables_1, d.before a0 Z = true) (ws : List Jvm.Cond) (x1 : Addr) (t1 : Addr) (kb : ClassId) (cs : List Int32) (G1 : Int32) (G3 : Value) (h0 : Heap) (n0 : Nat) (Z0 : n0 ≤ h0.size) (E_x1 : Exa Z h0 x1 "java/lang/String") (V_x1 : Fld Z h0 x1 "java/lang/String" "value" "[B" (.ref t1)) (C_x1 : Fld Z h0 x1 "java/lang/String" "coder" "B" (.int (0 : Int32))) (A1 : Arv Z h0 t1 kb .byte (Int32.ofNat cs.length) (cs.map fun c => Value.int (StrChars.lo8 c)) (.int (0 : Int32))) (hi : 2 < cs.length) (hl : cs.length ≤ 3) (hbd : ∀ c ∈ cs, own_rg c) (hlat : ∀ c ∈ cs, ¬ (255 : Int32) < c) (O0 : Old Z n0 h0) (O2 : Sta Z Z.heap "java/lang/String" "COMPACT_STRINGS" "Z" (.int G1)) (P5 : ¬ (G1 = (0 : Int32))) (O4 : Sta Z Z.heap "jdk/internal/util/Preconditions" "SIOOBE_FORMATTER" "Ljava/util/function/BiFunction;" G3) (rG3 : G3.isRef = true) (U1 : Sta Z Z.heap "java/lang/StringUTF16" "$assertionsDisabled" "Z" (.int (1 : Int32))) (U2 : Sta Z Z.heap "java/lang/StringUTF16" "HI_BYTE_SHIFT" "I" (.int (0 : Int32))) (U3 : Sta Z Z.heap "java/lang/StringUTF16" "LO_BYTE_SHIFT" "I" (.int (8 : Int32))) :
    MetFree l mN13 (head1 (Jvm.Cond.code mN13 jdk_42_method_56_code 2 (some .char) :: ws) (own_r 6 0 0 90)) (fun a U => a = #[(.ref x1), (.int (2 : Int32))] ∧ Z.Warmed39 U.vm ∧ U.heap = h0) (fun _ _ _ _ _ => True) (fun _ U o U' => ∃ v L, o = .returned v ∧ Q15L_2 Z x1 t1 kb cs G1 G3 h0 n0 v U'.heap L ∧ FrameEnd U o U' L (own_r 6 0 0 90).cells (own_r 6 0 0 90).slots) := by
  refine MetFree.of_bodySF (plainFor_of_name pn_3) hisR ?_
  intro p e s m args below meth c s₁ Bd hml0 hP hK
  obtain ⟨rfl, hZ, hh⟩ := hP
  have hx := Bd.exec
  have hby := Bd.bytes
  have hml : c.maxLocals = 2 := hml0
  have hown : s.vm.findClass "java/lang/String" = some m.cls := findClass_of_methodNamed Bd.named
  have hnm := (name_of_methodNamed Bd.named Bd.method).1
  have X0 : Stand p l e (own_r 6 0 0 90) s m #[(.ref x1), (.int (2 : Int32))] below meth c s₁ [] 0 0 := Stand.of_body Bd
  have e0 : s₁.heap = h0 := by rw [← hh, Bd.state]; rfl
  have Nf0 := Fr.nil n0
  obtain ⟨Gl, hGl, kn0⟩ := own_gl (p := p) (e := e) (below := below) (s₁ := s₁) (ef_rm15L_2 m x1)
  have kn1 : ∀ t, own_S p e below s₁ (mkF m 1 #[.val (.ref x1), .val (.int 2)] [(.ref x1)]) t → Gl t := fun t kt => kn0 t (by
    show own_S p e below s₁ (mkF m 0 #[.val (.ref x1), .val (.int 2)] []) _
    refine XS.aloadN X0.here hx rfl (hb hby d15_0) rfl rfl ?_
    exact kt)
  obtain ⟨cq2, kq2, qa2, qb2, qc2⟩ := isOf hZ e0 E_x1
  obtain ⟨_, _, ⟨T2, L2, cc2, ss2⟩, -, X2, ⟨Lc2, hQ2, l2, y2, z2⟩, st2⟩ := X0.virtualBack hx (y := mN12) (z := mN12) hown (mvT hZ (own_w hw 71 rfl)) (mvT hZ (own_w hw 72 rfl)) (notFace_of_selects (args := #[]) (mvT hZ (own_w hw 74 rfl))) (mvT hZ (own_w hw 74 rfl)) (mvT hZ (own_w hw 73 rfl)) (by decide) (backOf (W := 0) (rm16L l Z a0 hw [] x1 G1 h0 n0 Z0 C_x1 O0 O2 P5) hZ (own_w hw 75 rfl) (own_w hw 8 rfl) (by decide) (by decide)) qa2 qc2 (g := (mkF m 1 #[.val (.ref x1), .val (.int 2)] [(.ref x1)])) rfl (by rw [hml]; rfl) (Steps.refl _) (argsL := []) (rest := []) (lenOf pd_7 rfl) rfl (by show 2 * 0 + _ ≤ _; exact Nat.le_of_eq rfl) (hb hby d15_1) (fun _ _ => ⟨rfl, e0, (by decide : 0 + 0 ≤ _), (by decide : 0 + 0 ≤ _)⟩)
  dsimp only [Pt.U, Pt.locs, Pt.cells, Pt.slots] at X2 l2 y2 z2 st2 hQ2
  subst l2 y2 z2
  have X2 : Stand p l e _ _ m _ below meth c T2 _ 0 0 := X2
  obtain ⟨rfl, Nq2, eq2⟩ := hQ2
  have Nf2 := Fr.app Nf0 Nq2
  have kn3 : ∀ t, own_S p e below T2 (mkF m 8 #[.val (.ref x1), .val (.int 2)] [(.ref x1)]) t → Gl t := fun t kt => kn1 t (st2.trans (by
    show own_S p e below T2 (mkF m 4 #[.val (.ref x1), .val (.int 2)] [(.int 1)]) _
    refine XS.ifNo X2.here hx rfl (hb hby d15_4) rfl ((if0 _ _).trans (feq (by decide : ¬ ((1 : Int32) = (0 : Int32)))).1) ?_
    refine XS.aloadN X2.here hx rfl (hb hby d15_7) rfl rfl ?_
    exact kt))
  obtain ⟨T4, X4, e4, st4⟩ := getF X2 hx hZ hown (host := "") (Or.inl (own_w hw 25 rfl)) Via.refl eq2 V_x1 (g := (mkF m 8 #[.val (.ref x1), .val (.int 2)] [(.ref x1)])) rfl rfl (hb hby d15_8)
  have kn5 : ∀ t, own_S p e below T4 (mkF m 12 #[.val (.ref x1), .val (.int 2)] [(.int 2), (.ref t1)]) t → Gl t := fun t kt => kn3 t (st4 _ (by
    show own_S p e below T4 (mkF m 11 #[.val (.ref x1), .val (.int 2)] [(.ref t1)]) _
    refine XS.iloadN X4.here hx rfl (hb hby d15_11) rfl ?_
    exact kt))
  obtain ⟨_, _, ⟨T6, L6, cc6, ss6⟩, -, X6, ⟨Lc6, hQ6, l6, y6, z6⟩, st6⟩ := Jvm.LawKit.callS X4 hx (y := mN11) hown (mvT hZ (own_w hw 76 rfl)) (mvT hZ (own_w hw 77 rfl)) (mvT hZ (own_w hw 78 rfl)) (mvT hZ (own_w hw 79 rfl)) (by decide) (backOf (W := 0) (rm17_2 l Z a0 hw [] t1 kb cs G3 h0 n0 Z0 A1 hi hl hbd hlat O0 O4 rG3) hZ (own_w hw 79 rfl) (own_w hw 78 rfl) (by decide) (by decide)) (g := (mkF m 12 #[.val (.ref x1), .val (.int 2)] [(.int 2), (.ref t1)])) rfl (by rw [hml]; rfl) (argsL := [(.ref t1), (.int 2)]) (rest := []) (lenOf pd_6 rfl) rfl (by show 2 * 0 + _ ≤ _; exact Nat.le_of_eq rfl) (hb hby d15_12) (fun _ _ => ⟨rfl, e4, (by decide : 0 + 0 ≤ _), (by decide : 0 + 0 ≤ _)⟩)
  dsimp only [Pt.U, Pt.locs, Pt.cells, Pt.slots] at X6 l6 y6 z6 st6 hQ6
  subst l6 y6 z6
  have X6 : Stand p l e _ _ m _ below meth c T6 _ 0 0 := X6
  obtain ⟨rfl, Nq6, eq6⟩ := hQ6
  have Nf6 := Fr.app Nf2 Nq6
  obtain ⟨fs, hr, hrun, hended, hW, hsame⟩ := X6.leave (v := some (.int (nar .char (cs.getD 2 0)))) (fun h => by rw [Bd.returns] at h; cases h)
  refine ⟨_, _, hGl _ (kn5 _ (st6 _ (retN X6 hx (t := .char) Bd.returns (by simp) (hb hby d15_15) hr))), hrun, hended, _, _, rfl, ?_, ⟨_, rfl⟩, hW, hsame.mono (by decide) (by decide)⟩
  show Q15L_2 Z x1 t1 kb cs G1 G3 h0 n0 _ T6.heap _
  rw [eq6]
  exact ⟨congrArg own_sv (own_nr (own_mem hbd hi)), Nf6, rfl⟩

theorem ef_rm15W_2 (m : MethodId) (x0 : Addr) : entryFrame m #[(.ref x0), (.int (2 : Int32))] 2 = mkF m 0 #[.val (.ref x0), .val (.int (2 : Int32))] [] := by first | (simp [entryFrame, mkF, argsToLocals, Value.category]; done) | rfl
def Q15W_2 (Z : State) (x1 : Addr) (t1 : Addr) (kb : ClassId) (cs : List Int32) (G1 : Int32) (G3 : Value) (h0 : Heap) (n0 : Nat) (v : Option Value) (h : Heap) (L : List Loc) : Prop := v = some (.int (cs.getD 2 0)) ∧ Fr n0 L ∧ h = h0
theorem rm15W_2 (l : Launch) (Z : State) (a0 : Array Value) (hw : ∀ d ∈ tables_1, d.before a0 Z = true) (ws : List Jvm.Cond) (x1 : Addr) (t1 : Addr) (kb : ClassId) (cs : List Int32) (G1 : Int32) (G3 : Value) (h0 : Heap) (n0 : Nat) (Z0 : n0 ≤ h0.size) (E_x1 : Exa Z h0 x1 "java/lang/String") (V_x1 : Fld Z h0 x1 "java/lang/String" "value" "[B" (.ref t1)) (C_x1 : Fld Z h0 x1 "java/lang/String" "coder" "B" (.int (1 : Int32))) (A1 : Arv Z h0 t1 kb .byte (Int32.ofNat (2 * cs.length)) (StrChars.Road.wideBytes cs) (.int (0 : Int32))) (hi : 2 < cs.length) (hl : cs.length ≤ 3) (hbd : ∀ c ∈ cs, own_rg c) (O0 : Old Z n0 h0) (O2 : Sta Z Z.heap "java/lang/String" "COMPACT_STRINGS" "Z" (.int G1)) (P5 : ¬ (G1 = (0 : Int32))) (O4 : Sta Z Z.heap "jdk/internal/util/Preconditions" "SIOOBE_FORMATTER" "Ljava/util/function/BiFunction;" G3) (rG3 : G3.isRef = true) (U1 : Sta Z Z.heap "java/lang/StringUTF16" "$assertionsDisabled" "Z" (.int (1 : Int32))) (U2 : Sta Z Z.heap "java/lang/StringUTF16" "HI_BYTE_SHIFT" "I" (.int (0 : Int32))) (U3 : Sta Z Z.heap "java/lang/StringUTF16" "LO_BYTE_SHIFT" "I" (.int (8 : Int32))) :
    MetFree l mN13 (head1 (Jvm.Cond.code mN13 jdk_42_method_56_code 2 (some .char) :: ws) (own_r 6 0 0 90)) (fun a U => a = #[(.ref x1), (.int (2 : Int32))] ∧ Z.Warmed39 U.vm ∧ U.heap = h0) (fun _ _ _ _ _ => True) (fun _ U o U' => ∃ v L, o = .returned v ∧ Q15W_2 Z x1 t1 kb cs G1 G3 h0 n0 v U'.heap L ∧ FrameEnd U o U' L (own_r 6 0 0 90).cells (own_r 6 0 0 90).slots) := by
  refine MetFree.of_bodySF (plainFor_of_name pn_3) hisR ?_
  intro p e s m args below meth c s₁ Bd hml0 hP hK
  obtain ⟨rfl, hZ, hh⟩ := hP
  have hx := Bd.exec
  have hby := Bd.bytes
  have hml : c.maxLocals = 2 := hml0
  have hown : s.vm.findClass "java/lang/String" = some m.cls := findClass_of_methodNamed Bd.named
  have hnm := (name_of_methodNamed Bd.named Bd.method).1
  have X0 : Stand p l e (own_r 6 0 0 90) s m #[(.ref x1), (.int (2 : Int32))] below meth c s₁ [] 0 0 := Stand.of_body Bd
  have e0 : s₁.heap = h0 := by rw [← hh, Bd.state]; rfl
  have Nf0 := Fr.nil n0
  obtain ⟨Gl, hGl, kn0⟩ := own_gl (p := p) (e := e) (below := below) (s₁ := s₁) (ef_rm15W_2 m x1)
  have kn1 : ∀ t, own_S p e below s₁ (mkF m 1 #[.val (.ref x1), .val (.int 2)] [(.ref x1)]) t → Gl t := fun t kt => kn0 t (by
    show own_S p e below s₁ (mkF m 0 #[.val (.ref x1), .val (.int 2)] []) _
    refine XS.aloadN X0.here hx rfl (hb hby d15_0) rfl rfl ?_
    exact kt)
  obtain ⟨cq2, kq2, qa2, qb2, qc2⟩ := isOf hZ e0 E_x1
  obtain ⟨_, _, ⟨T2, L2, cc2, ss2⟩, -, X2, ⟨Lc2, hQ2, l2, y2, z2⟩, st2⟩ := X0.virtualBack hx (y := mN12) (z := mN12) hown (mvT hZ (own_w hw 71 rfl)) (mvT hZ (own_w hw 72 rfl)) (notFace_of_selects (args := #[]) (mvT hZ (own_w hw 74 rfl))) (mvT hZ (own_w hw 74 rfl)) (mvT hZ (own_w hw 73 rfl)) (by decide) (backOf (W := 0) (rm16W l Z a0 hw [] x1 G1 h0 n0 Z0 C_x1 O0 O2 P5) hZ (own_w hw 75 rfl) (own_w hw 8 rfl) (by decide) (by decide)) qa2 qc2 (g := (mkF m 1 #[.val (.ref x1), .val (.int 2)] [(.ref x1)])) rfl (by rw [hml]; rfl) (Steps.refl _) (argsL := []) (rest := []) (lenOf pd_7 rfl) rfl (by show 2 * 0 + _ ≤ _; exact Nat.le_of_eq rfl) (hb hby d15_1) (fun _ _ => ⟨rfl, e0, (by decide : 0 + 0 ≤ _), (by decide : 0 + 0 ≤ _)⟩)
  dsimp only [Pt.U, Pt.locs, Pt.cells, Pt.slots] at X2 l2 y2 z2 st2 hQ2
  subst l2 y2 z2
  have X2 : Stand p l e _ _ m _ below meth c T2 _ 0 0 := X2
  obtain ⟨rfl, Nq2, eq2⟩ := hQ2
  have Nf2 := Fr.app Nf0 Nq2
  have kn3 : ∀ t, own_S p e below T2 (mkF m 17 #[.val (.ref x1), .val (.int 2)] [(.ref x1)]) t → Gl t := fun t kt => kn1 t (st2.trans (by
    show own_S p e below T2 (mkF m 4 #[.val (.ref x1), .val (.int 2)] [(.int 0)]) _
    refine XS.ifYes X2.here hx rfl (pc0 := 4) (pc' := 16) rfl (hb hby d15_4) rfl ((if0 _ _).trans (teq (by decide : (0 : Int32) = (0 : Int32))).1) (by decide) (by decide) ?_
    refine XS.aloadN X2.here hx rfl (hb hby d15_16) rfl rfl ?_
    exact kt))
  obtain ⟨T4, X4, e4, st4⟩ := getF X2 hx hZ hown (host := "") (Or.inl (own_w hw 25 rfl)) Via.refl eq2 V_x1 (g := (mkF m 17 #[.val (.ref x1), .val (.int 2)] [(.ref x1)])) rfl rfl (hb hby d15_17)
  have kn5 : ∀ t, own_S p e below T4 (mkF m 21 #[.val (.ref x1), .val (.int 2)] [(.int 2), (.ref t1)]) t → Gl t := fun t kt => kn3 t (st4 _ (by
    show own_S p e below T4 (mkF m 20 #[.val (.ref x1), .val (.int 2)] [(.ref t1)]) _
    refine XS.iloadN X4.here hx rfl (hb hby d15_20) rfl ?_
    exact kt))
  obtain ⟨_, _, ⟨T6, L6, cc6, ss6⟩, -, X6, ⟨Lc6, hQ6, l6, y6, z6⟩, st6⟩ := Jvm.LawKit.callS X4 hx (y := mN10) hown (mvT hZ (own_w hw 112 rfl)) (mvT hZ (own_w hw 113 rfl)) (mvT hZ (own_w hw 54 rfl)) (mvT hZ (own_w hw 114 rfl)) (by decide) (backOf (W := 0) (rm26_2 l Z a0 hw [] t1 kb cs G3 h0 n0 Z0 A1 hi hl hbd O0 O4 rG3 U1 U2 U3) hZ (own_w hw 114 rfl) (own_w hw 54 rfl) (by decide) (by decide)) (g := (mkF m 21 #[.val (.ref x1), .val (.int 2)] [(.int 2), (.ref t1)])) rfl (by rw [hml]; rfl) (argsL := [(.ref t1), (.int 2)]) (rest := []) (lenOf pd_6 rfl) rfl (by show 2 * 0 + _ ≤ _; exact Nat.le_of_eq rfl) (hb hby d15_21) (fun _ _ => ⟨rfl, e4, (by decide : 0 + 0 ≤ _), (by decide : 0 + 0 ≤ _)⟩)
  dsimp only [Pt.U, Pt.locs, Pt.cells, Pt.slots] at X6 l6 y6 z6 st6 hQ6
  subst l6 y6 z6
  have X6 : Stand p l e _ _ m _ below meth c T6 _ 0 0 := X6
  obtain ⟨rfl, Nq6, eq6⟩ := hQ6
  have Nf6 := Fr.app Nf2 Nq6
  obtain ⟨fs, hr, hrun, hended, hW, hsame⟩ := X6.leave (v := some (.int (nar .char (cs.getD 2 0)))) (fun h => by rw [Bd.returns] at h; cases h)
  refine ⟨_, _, hGl _ (kn5 _ (st6 _ (retN X6 hx (t := .char) Bd.returns (by simp) (hb hby d15_24) hr))), hrun, hended, _, _, rfl, ?_, ⟨_, rfl⟩, hW, hsame.mono (by decide) (by decide)⟩
  show Q15W_2 Z x1 t1 kb cs G1 G3 h0 n0 _ T6.heap _
  rw [eq6]
  exact ⟨congrArg own_sv (own_nr (own_mem hbd hi)), Nf6, rfl⟩

def Q15_2 (Z : State) (x1 : Addr) (t1 : Addr) (kb : ClassId) (cs : List Int32) (cd : Int32) (N1 : Int32) (vs : List Value) (G1 : Int32) (G3 : Value) (h0 : Heap) (n0 : Nat) (v : Option Value) (h : Heap) (L : List Loc) : Prop := v = some (.int (cs.getD 2 0)) ∧ Fr n0 L ∧ h = h0
theorem rm15_2 (l : Launch) (Z : State) (a0 : Array Value) (hw : ∀ d ∈ tables_1, d.before a0 Z = true) (ws : List Jvm.Cond) (x1 : Addr) (t1 : Addr) (kb : ClassId) (cs : List Int32) (cd : Int32) (N1 : Int32) (vs : List Value) (G1 : Int32) (G3 : Value) (h0 : Heap) (n0 : Nat) (Z0 : n0 ≤ h0.size) (E_x1 : Exa Z h0 x1 "java/lang/String") (V_x1 : Fld Z h0 x1 "java/lang/String" "value" "[B" (.ref t1)) (C_x1 : Fld Z h0 x1 "java/lang/String" "coder" "B" (.int cd)) (A1 : Arv Z h0 t1 kb .byte N1 vs (.int (0 : Int32))) (hcd : StrChars.Road.CodA cs cd N1 vs) (hi : 2 < cs.length) (hl : cs.length ≤ 3) (hbd : ∀ c ∈ cs, own_rg c) (O0 : Old Z n0 h0) (O2 : Sta Z Z.heap "java/lang/String" "COMPACT_STRINGS" "Z" (.int G1)) (P5 : ¬ (G1 = (0 : Int32))) (O4 : Sta Z Z.heap "jdk/internal/util/Preconditions" "SIOOBE_FORMATTER" "Ljava/util/function/BiFunction;" G3) (rG3 : G3.isRef = true) (U1 : Sta Z Z.heap "java/lang/StringUTF16" "$assertionsDisabled" "Z" (.int (1 : Int32))) (U2 : Sta Z Z.heap "java/lang/StringUTF16" "HI_BYTE_SHIFT" "I" (.int (0 : Int32))) (U3 : Sta Z Z.heap "java/lang/StringUTF16" "LO_BYTE_SHIFT" "I" (.int (8 : Int32))) :
    MetFree l mN13 (head1 (Jvm.Cond.code mN13 jdk_42_method_56_code 2 (some .char) :: ws) (own_r 6 0 0 90)) (fun a U => a = #[(.ref x1), (.int (2 : Int32))] ∧ Z.Warmed39 U.vm ∧ U.heap = h0) (fun _ _ _ _ _ => True) (fun _ U o U' => ∃ v L, o = .returned v ∧ Q15_2 Z x1 t1 kb cs cd N1 vs G1 G3 h0 n0 v U'.heap L ∧ FrameEnd U o U' L (own_r 6 0 0 90).cells (own_r 6 0 0 90).slots) := by
  rcases hcd with ⟨rfl, rfl, rfl, hlat⟩ | ⟨rfl, rfl, rfl, -⟩
  · exact rm15L_2 l Z a0 hw ws x1 t1 kb cs G1 G3 h0 n0 Z0 E_x1 V_x1 C_x1 A1 hi hl hbd hlat O0 O2 P5 O4 rG3 U1 U2 U3
  · exact rm15W_2 l Z a0 hw ws x1 t1 kb cs G1 G3 h0 n0 Z0 E_x1 V_x1 C_x1 A1 hi hl hbd O0 O2 P5 O4 rG3 U1 U2 U3

def Q7 (Z : State) (x1 : Addr) (x2 : Addr) (t_x1 : Addr) (k_x1 : ClassId) (d_x1 : Int32) (n_x1 : Int32) (v_x1 : List Value) (cs : List Int32) (t_x2 : Addr) (k_x2 : ClassId) (d_x2 : Int32) (n_x2 : Int32) (v_x2 : List Value) (ds : List Int32) (G1 : Int32) (G3 : Value) (h0 : Heap) (n0 : Nat) (v : Option Value) (h : Heap) (L : List Loc) : Prop := v = some (.int (own_cmp cs ds 0 3)) ∧ Fr n0 L ∧ h = h0
abbrev mN14 : MethodName := ⟨"java/lang/String", "length", "()I"⟩
theorem d7_14 : decode prog_43_method_7_code 14 = .ok (.iload_n 3, 1) := by decide +kernel
theorem d7_15 : decode prog_43_method_7_code 15 = .ok (.iload_n 2, 1) := by decide +kernel
theorem d7_16 : decode prog_43_method_7_code 16 = .ok (.if_icmp .ge 42, 3) := by decide +kernel
theorem d7_58 : decode prog_43_method_7_code 58 = .ok (.aload_n 0, 1) := by decide +kernel
theorem d7_59 : decode prog_43_method_7_code 59 = .ok (.invokevirtual 98, 3) := by decide +kernel
theorem d7_62 : decode prog_43_method_7_code 62 = .ok (.aload_n 1, 1) := by decide +kernel
theorem d7_63 : decode prog_43_method_7_code 63 = .ok (.invokevirtual 98, 3) := by decide +kernel
theorem d7_66 : decode prog_43_method_7_code 66 = .ok (.isub, 1) := by decide +kernel
theorem d7_67 : decode prog_43_method_7_code 67 = .ok (.ireturn, 1) := by decide +kernel
theorem pd_8 : parseMethodDescriptor "()I" = some ⟨[], some .int⟩ := by decide +kernel
theorem cm_3 {p : Program} {l : Launch} {e : Env} {s : State} {m : MethodId} {args : Array Value} {below : List Frame} {meth : Method} {c : Code} {T0 : State} {locs : List Loc} {Z : State} {a0 : Array Value} {h0 : Heap} {n0 : Nat} (x1 : Addr) (x2 : Addr) (t_x1 : Addr) (k_x1 : ClassId) (d_x1 : Int32) (n_x1 : Int32) (v_x1 : List Value) (cs : List Int32) (t_x2 : Addr) (k_x2 : ClassId) (d_x2 : Int32) (n_x2 : Int32) (v_x2 : List Value) (ds : List Int32) (G1 : Int32) (G3 : Value) (q4 : Int32) (q5 : Int32)
    (X0 : Stand p l e (own_r 8 0 0 130) s m args below meth c T0 locs 0 0) (hx : p.tables.exec = Jvm.exec) (hZ : Z.Warmed39 s.vm) (hw : ∀ d ∈ tables_1, d.before a0 Z = true) (hby : c.code = prog_43_method_7_code) (hml : c.maxLocals = 6) (hown : s.vm.findClass "com/example/caddis/caddis/StatementSet" = some m.cls) (hret : meth.sig.returnType = some .int) (hlk : meth.locks = false) (e0 : T0.heap = h0) (Nf0 : Fr n0 locs) (Z0 : n0 ≤ h0.size) (E_x1 : Exa Z h0 x1 "java/lang/String") (V_x1 : Fld Z h0 x1 "java/lang/String" "value" "[B" (.ref t_x1)) (C_x1 : Fld Z h0 x1 "java/lang/String" "coder" "B" (.int d_x1)) (K_x1 : Arv Z h0 t_x1 k_x1 .byte n_x1 v_x1 (.int (0 : Int32))) (hcd_x1 : StrChars.Road.CodA cs d_x1 n_x1 v_x1) (hbd_x1 : ∀ c ∈ cs, own_rg c) (hl_x1 : cs.length ≤ 3) (E_x2 : Exa Z h0 x2 "java/lang/String") (V_x2 : Fld Z h0 x2 "java/lang/String" "value" "[B" (.ref t_x2)) (C_x2 : Fld Z h0 x2 "java/lang/String" "coder" "B" (.int d_x2)) (K_x2 : Arv Z h0 t_x2 k_x2 .byte n_x2 v_x2 (.int (0 : Int32))) (hcd_x2 : StrChars.Road.CodA ds d_x2 n_x2 v_x2) (hbd_x2 : ∀ c ∈ ds, own_rg c) (hl_x2 : ds.length ≤ 3) (O0 : Old Z n0 h0) (O2 : Sta Z Z.heap "java/lang/String" "COMPACT_STRINGS" "Z" (.int G1)) (P5 : ¬ (G1 = (0 : Int32))) (O4 : Sta Z Z.heap "jdk/internal/util/Preconditions" "SIOOBE_FORMATTER" "Ljava/util/function/BiFunction;" G3) (rG3 : G3.isRef = true) (U1 : Sta Z Z.heap "java/lang/StringUTF16" "$assertionsDisabled" "Z" (.int (1 : Int32))) (U2 : Sta Z Z.heap "java/lang/StringUTF16" "HI_BYTE_SHIFT" "I" (.int (0 : Int32))) (U3 : Sta Z Z.heap "java/lang/StringUTF16" "LO_BYTE_SHIFT" "I" (.int (8 : Int32))) (hv : own_cmp cs ds 0 3 = own_cmp cs ds 3 0) :
    ∃ s₂ o, Steps p.tables e below (T0.setTop (mkF m 14 #[.val (.ref x1), .val (.ref x2), .val (.int (Int32.ofNat (min cs.length ds.length))), .val (.int 3), .val (.int q4), .val (.int q5)] [])) s₂ ∧ s₂.status = .running ∧ Ended s₂ below o ∧ ∃ v L, o = .returned v ∧ Q7 Z x1 x2 t_x1 k_x1 d_x1 n_x1 v_x1 cs t_x2 k_x2 d_x2 n_x2 v_x2 ds G1 G3 h0 n0 v s₂.heap L ∧ FrameEnd s o s₂ L (own_r 8 0 0 130).cells (own_r 8 0 0 130).slots := by
  have kn0 : ∀ t, own_S p e below T0 (mkF m 14 #[.val (.ref x1), .val (.ref x2), .val (.int (Int32.ofNat (min cs.length ds.length))), .val (.int 3), .val (.int q4), .val (.int q5)] []) t → own_S p e below T0 (mkF m 14 #[.val (.ref x1), .val (.ref x2), .val (.int (Int32.ofNat (min cs.length ds.length))), .val (.int 3), .val (.int q4), .val (.int q5)] []) t := fun t k => k
  have kn1 : ∀ t, own_S p e below T0 (mkF m 16 #[.val (.ref x1), .val (.ref x2), .val (.int (Int32.ofNat (min cs.length ds.length))), .val (.int 3), .val (.int q4), .val (.int q5)] [(.int (Int32.ofNat (min cs.length ds.length))), (.int 3)]) t → own_S p e below T0 (mkF m 14 #[.val (.ref x1), .val (.ref x2), .val (.int (Int32.ofNat (min cs.length ds.length))), .val (.int 3), .val (.int q4), .val (.int q5)] []) t := fun t kt => kn0 t (by
    show own_S p e below T0 (mkF m 14 #[.val (.ref x1), .val (.ref x2), .val (.int (Int32.ofNat (min cs.length ds.length))), .val (.int 3), .val (.int q4), .val (.int q5)] []) _
    refine XS.iloadN X0.here hx rfl (hb hby d7_14) rfl ?_
    refine XS.iloadN X0.here hx rfl (hb hby d7_15) rfl ?_
    exact kt)
  have hc16_2 : ¬ ((3 : Int32) < (Int32.ofNat (min cs.length ds.length))) := own_n3 hl_x1 hl_x2
  have kn3 : ∀ t, own_S p e below T0 (mkF m 59 #[.val (.ref x1), .val (.ref x2), .val (.int (Int32.ofNat (min cs.length ds.length))), .val (.int 3), .val (.int q4), .val (.int q5)] [(.ref x1)]) t → own_S p e below T0 (mkF m 14 #[.val (.ref x1), .val (.ref x2), .val (.int (Int32.ofNat (min cs.length ds.length))), .val (.int 3), .val (.int q4), .val (.int q5)] []) t := fun t kt => kn1 t (by
    show own_S p e below T0 (mkF m 16 #[.val (.ref x1), .val (.ref x2), .val (.int (Int32.ofNat (min cs.length ds.length))), .val (.int 3), .val (.int q4), .val (.int q5)] [(.int (Int32.ofNat (min cs.length ds.length))), (.int 3)]) _
    refine XS.icmpYes X0.here hx rfl (pc0 := 16) (pc' := 58) rfl (hb hby d7_16) rfl (flt hc16_2).2.1 (by decide) (by decide) ?_
    refine XS.aloadN X0.here hx rfl (hb hby d7_58) rfl rfl ?_
    exact kt)
  have hln : ∀ d ∈ StrChars.Road.wordsLen, d.before a0 Z = true := fun d hd => hw d ((by decide +kernel : ∀ d ∈ StrChars.Road.wordsLen, d ∈ tables_1) d hd)
  obtain ⟨cq4, kq4, qa4, qb4, qc4⟩ := isOf hZ e0 E_x1
  obtain ⟨_, _, ⟨T4, L4, cc4, ss4⟩, -, X4, ⟨Lc4, hQ4, l4, y4, z4⟩, st4⟩ := X0.virtualBack hx (y := mN14) (z := mN14) hown (mvT hZ (own_w hw 37 rfl)) (mvT hZ (own_w hw 38 rfl)) (notFace_of_selects (args := #[]) (mvT hZ (own_w hw 40 rfl))) (mvT hZ (own_w hw 40 rfl)) (mvT hZ (own_w hw 39 rfl)) (by decide) (StrChars.Road.lenW (W := 0) hZ hln (kI := 4) (own_w hw 7 rfl) E_x1 V_x1 C_x1 K_x1 hcd_x1 hbd_x1 (O2.ext O0.2) P5 (Nat.le_trans hl_x1 (by decide)) (by decide) (by decide)) qa4 qc4 (g := (mkF m 59 #[.val (.ref x1), .val (.ref x2), .val (.int (Int32.ofNat (min cs.length ds.length))), .val (.int 3), .val (.int q4), .val (.int q5)] [(.ref x1)])) rfl (by rw [hml]; rfl) (Steps.refl _) (argsL := []) (rest := []) (lenOf pd_8 rfl) rfl (by show 2 * 0 + _ ≤ _; exact Nat.le_of_eq rfl) (hb hby d7_59) (fun _ _ => ⟨rfl, e0, (by decide : 0 + 0 ≤ _), (by decide : 0 + 0 ≤ _)⟩)
  dsimp only [Pt.U, Pt.locs, Pt.cells, Pt.slots] at X4 l4 y4 z4 st4 hQ4
  subst l4 y4 z4
  have X4 : Stand p l e _ _ m _ below meth c T4 _ 0 0 := X4
  obtain ⟨rfl, rfl, eq4⟩ := hQ4
  have Nq4 : Fr n0 ([] : List Loc) := Fr.nil n0
  have Nf4 := Fr.app Nf0 Nq4
  have kn5 : ∀ t, own_S p e below T4 (mkF m 63 #[.val (.ref x1), .val (.ref x2), .val (.int (Int32.ofNat (min cs.length ds.length))), .val (.int 3), .val (.int q4), .val (.int q5)] [(.ref x2), (.int (Int32.ofNat cs.length))]) t → own_S p e below T0 (mkF m 14 #[.val (.ref x1), .val (.ref x2), .val (.int (Int32.ofNat (min cs.length ds.length))), .val (.int 3), .val (.int q4), .val (.int q5)] []) t := fun t kt => kn3 t (st4.trans (by
    show own_S p e below T4 (mkF m 62 #[.val (.ref x1), .val (.ref x2), .val (.int (Int32.ofNat (min cs.length ds.length))), .val (.int 3), .val (.int q4), .val (.int q5)] [(.int (Int32.ofNat cs.length))]) _
    refine XS.aloadN X4.here hx rfl (hb hby d7_62) rfl rfl ?_
    exact kt))
  obtain ⟨cq6, kq6, qa6, qb6, qc6⟩ := isOf hZ eq4 E_x2
  obtain ⟨_, _, ⟨T6, L6, cc6, ss6⟩, -, X6, ⟨Lc6, hQ6, l6, y6, z6⟩, st6⟩ := X4.virtualBack hx (y := mN14) (z := mN14) hown (mvT hZ (own_w hw 37 rfl)) (mvT hZ (own_w hw 38 rfl)) (notFace_of_selects (args := #[]) (mvT hZ (own_w hw 40 rfl))) (mvT hZ (own_w hw 40 rfl)) (mvT hZ (own_w hw 39 rfl)) (by decide) (StrChars.Road.lenW (W := 1) hZ hln (kI := 4) (own_w hw 7 rfl) E_x2 V_x2 C_x2 K_x2 hcd_x2 hbd_x2 (O2.ext O0.2) P5 (Nat.le_trans hl_x2 (by decide)) (by decide) (by decide)) qa6 qc6 (g := (mkF m 63 #[.val (.ref x1), .val (.ref x2), .val (.int (Int32.ofNat (min cs.length ds.length))), .val (.int 3), .val (.int q4), .val (.int q5)] [(.ref x2), (.int (Int32.ofNat cs.length))])) rfl (by rw [hml]; rfl) (Steps.refl _) (argsL := []) (rest := [(.int (Int32.ofNat cs.length))]) (lenOf pd_8 rfl) rfl (by show 2 * 0 + _ ≤ _; exact Nat.le_of_eq rfl) (hb hby d7_63) (fun _ _ => ⟨rfl, eq4, (by decide : 0 + 0 ≤ _), (by decide : 0 + 0 ≤ _)⟩)
  dsimp only [Pt.U, Pt.locs, Pt.cells, Pt.slots] at X6 l6 y6 z6 st6 hQ6
  subst l6 y6 z6
  have X6 : Stand p l e _ _ m _ below meth c T6 _ 0 0 := X6
  obtain ⟨rfl, rfl, eq6⟩ := hQ6
  have Nq6 : Fr n0 ([] : List Loc) := Fr.nil n0
  have Nf6 := Fr.app Nf4 Nq6
  have kn7 : ∀ t, own_S p e below T6 (mkF m 67 #[.val (.ref x1), .val (.ref x2), .val (.int (Int32.ofNat (min cs.length ds.length))), .val (.int 3), .val (.int q4), .val (.int q5)] [(.int ((Int32.ofNat cs.length) - (Int32.ofNat ds.length)))]) t → own_S p e below T0 (mkF m 14 #[.val (.ref x1), .val (.ref x2), .val (.int (Int32.ofNat (min cs.length ds.length))), .val (.int 3), .val (.int q4), .val (.int q5)] []) t := fun t kt => kn5 t (st6.trans (by
    show own_S p e below T6 (mkF m 66 #[.val (.ref x1), .val (.ref x2), .val (.int (Int32.ofNat (min cs.length ds.length))), .val (.int 3), .val (.int q4), .val (.int q5)] [(.int (Int32.ofNat ds.length)), (.int (Int32.ofNat cs.length))]) _
    refine XS.isub X6.here hx rfl (hb hby d7_66) rfl ?_
    exact kt))
  obtain ⟨fs, hr, hrun, hended, hW, hsame⟩ := X6.leave (v := some (.int ((Int32.ofNat cs.length) - (Int32.ofNat ds.length)))) (fun h => by rw [hret] at h; cases h)
  refine ⟨_, _, id (kn7 _ (retI X6 hx hret (hb hby d7_67) hr)), hrun, hended, _, _, rfl, ?_, ⟨_, rfl⟩, hW, hsame.mono (by decide) (by decide)⟩
  show Q7 Z x1 x2 t_x1 k_x1 d_x1 n_x1 v_x1 cs t_x2 k_x2 d_x2 n_x2 v_x2 ds G1 G3 h0 n0 _ T6.heap _
  rw [eq6]
  exact ⟨congrArg own_sv (hv.trans own_cz).symm, Nf6, rfl⟩

theorem d7_19 : decode prog_43_method_7_code 19 = .ok (.aload_n 0, 1) := by decide +kernel
theorem d7_20 : decode prog_43_method_7_code 20 = .ok (.iload_n 3, 1) := by decide +kernel
theorem d7_21 : decode prog_43_method_7_code 21 = .ok (.invokevirtual 110, 3) := by decide +kernel
theorem d7_24 : decode prog_43_method_7_code 24 = .ok (.istore 4, 2) := by decide +kernel
theorem d7_26 : decode prog_43_method_7_code 26 = .ok (.aload_n 1, 1) := by decide +kernel
theorem d7_27 : decode prog_43_method_7_code 27 = .ok (.iload_n 3, 1) := by decide +kernel
theorem d7_28 : decode prog_43_method_7_code 28 = .ok (.invokevirtual 110, 3) := by decide +kernel
theorem d7_31 : decode prog_43_method_7_code 31 = .ok (.istore 5, 2) := by decide +kernel
theorem d7_33 : decode prog_43_method_7_code 33 = .ok (.iload 4, 2) := by decide +kernel
theorem d7_35 : decode prog_43_method_7_code 35 = .ok (.iload 5, 2) := by decide +kernel
theorem d7_37 : decode prog_43_method_7_code 37 = .ok (.if_icmp .eq 15, 3) := by decide +kernel
theorem d7_40 : decode prog_43_method_7_code 40 = .ok (.iload 4, 2) := by decide +kernel
theorem d7_42 : decode prog_43_method_7_code 42 = .ok (.invokestatic 114, 3) := by decide +kernel
theorem d7_45 : decode prog_43_method_7_code 45 = .ok (.iload 5, 2) := by decide +kernel
theorem d7_47 : decode prog_43_method_7_code 47 = .ok (.invokestatic 114, 3) := by decide +kernel
theorem d7_50 : decode prog_43_method_7_code 50 = .ok (.isub, 1) := by decide +kernel
theorem d7_51 : decode prog_43_method_7_code 51 = .ok (.ireturn, 1) := by decide +kernel
theorem d7_52 : decode prog_43_method_7_code 52 = .ok (.iinc 3 1, 3) := by decide +kernel
theorem d7_55 : decode prog_43_method_7_code 55 = .ok (.goto (-41), 3) := by decide +kernel
theorem pd_9 : parseMethodDescriptor "(I)C" = some ⟨[.int], some .char⟩ := by decide +kernel
theorem cm_2 {p : Program} {l : Launch} {e : Env} {s : State} {m : MethodId} {args : Array Value} {below : List Frame} {meth : Method} {c : Code} {T0 : State} {locs : List Loc} {Z : State} {a0 : Array Value} {h0 : Heap} {n0 : Nat} (x1 : Addr) (x2 : Addr) (t_x1 : Addr) (k_x1 : ClassId) (d_x1 : Int32) (n_x1 : Int32) (v_x1 : List Value) (cs : List Int32) (t_x2 : Addr) (k_x2 : ClassId) (d_x2 : Int32) (n_x2 : Int32) (v_x2 : List Value) (ds : List Int32) (G1 : Int32) (G3 : Value) (q4 : Int32) (q5 : Int32)
    (X0 : Stand p l e (own_r 8 0 0 130) s m args below meth c T0 locs 0 0) (hx : p.tables.exec = Jvm.exec) (hZ : Z.Warmed39 s.vm) (hw : ∀ d ∈ tables_1, d.before a0 Z = true) (hby : c.code = prog_43_method_7_code) (hml : c.maxLocals = 6) (hown : s.vm.findClass "com/example/caddis/caddis/StatementSet" = some m.cls) (hret : meth.sig.returnType = some .int) (hlk : meth.locks = false) (e0 : T0.heap = h0) (Nf0 : Fr n0 locs) (Z0 : n0 ≤ h0.size) (E_x1 : Exa Z h0 x1 "java/lang/String") (V_x1 : Fld Z h0 x1 "java/lang/String" "value" "[B" (.ref t_x1)) (C_x1 : Fld Z h0 x1 "java/lang/String" "coder" "B" (.int d_x1)) (K_x1 : Arv Z h0 t_x1 k_x1 .byte n_x1 v_x1 (.int (0 : Int32))) (hcd_x1 : StrChars.Road.CodA cs d_x1 n_x1 v_x1) (hbd_x1 : ∀ c ∈ cs, own_rg c) (hl_x1 : cs.length ≤ 3) (E_x2 : Exa Z h0 x2 "java/lang/String") (V_x2 : Fld Z h0 x2 "java/lang/String" "value" "[B" (.ref t_x2)) (C_x2 : Fld Z h0 x2 "java/lang/String" "coder" "B" (.int d_x2)) (K_x2 : Arv Z h0 t_x2 k_x2 .byte n_x2 v_x2 (.int (0 : Int32))) (hcd_x2 : StrChars.Road.CodA ds d_x2 n_x2 v_x2) (hbd_x2 : ∀ c ∈ ds, own_rg c) (hl_x2 : ds.length ≤ 3) (O0 : Old Z n0 h0) (O2 : Sta Z Z.heap "java/lang/String" "COMPACT_STRINGS" "Z" (.int G1)) (P5 : ¬ (G1 = (0 : Int32))) (O4 : Sta Z Z.heap "jdk/internal/util/Preconditions" "SIOOBE_FORMATTER" "Ljava/util/function/BiFunction;" G3) (rG3 : G3.isRef = true) (U1 : Sta Z Z.heap "java/lang/StringUTF16" "$assertionsDisabled" "Z" (.int (1 : Int32))) (U2 : Sta Z Z.heap "java/lang/StringUTF16" "HI_BYTE_SHIFT" "I" (.int (0 : Int32))) (U3 : Sta Z Z.heap "java/lang/StringUTF16" "LO_BYTE_SHIFT" "I" (.int (8 : Int32))) (hv : own_cmp cs ds 0 3 = own_cmp cs ds 2 1) :
    ∃ s₂ o, Steps p.tables e below (T0.setTop (mkF m 14 #[.val (.ref x1), .val (.ref x2), .val (.int (Int32.ofNat (min cs.length ds.length))), .val (.int 2), .val (.int q4), .val (.int q5)] [])) s₂ ∧ s₂.status = .running ∧ Ended s₂ below o ∧ ∃ v L, o = .returned v ∧ Q7 Z x1 x2 t_x1 k_x1 d_x1 n_x1 v_x1 cs t_x2 k_x2 d_x2 n_x2 v_x2 ds G1 G3 h0 n0 v s₂.heap L ∧ FrameEnd s o s₂ L (own_r 8 0 0 130).cells (own_r 8 0 0 130).slots := by
  have kn0 : ∀ t, own_S p e below T0 (mkF m 14 #[.val (.ref x1), .val (.ref x2), .val (.int (Int32.ofNat (min cs.length ds.length))), .val (.int 2), .val (.int q4), .val (.int q5)] []) t → own_S p e below T0 (mkF m 14 #[.val (.ref x1), .val (.ref x2), .val (.int (Int32.ofNat (min cs.length ds.length))), .val (.int 2), .val (.int q4), .val (.int q5)] []) t := fun t k => k
  have kn1 : ∀ t, own_S p e below T0 (mkF m 16 #[.val (.ref x1), .val (.ref x2), .val (.int (Int32.ofNat (min cs.length ds.length))), .val (.int 2), .val (.int q4), .val (.int q5)] [(.int (Int32.ofNat (min cs.length ds.length))), (.int 2)]) t → own_S p e below T0 (mkF m 14 #[.val (.ref x1), .val (.ref x2), .val (.int (Int32.ofNat (min cs.length ds.length))), .val (.int 2), .val (.int q4), .val (.int q5)] []) t := fun t kt => kn0 t (by
    show own_S p e below T0 (mkF m 14 #[.val (.ref x1), .val (.ref x2), .val (.int (Int32.ofNat (min cs.length ds.length))), .val (.int 2), .val (.int q4), .val (.int q5)] []) _
    refine XS.iloadN X0.here hx rfl (hb hby d7_14) rfl ?_
    refine XS.iloadN X0.here hx rfl (hb hby d7_15) rfl ?_
    exact kt)
  by_cases hc16 : (2 : Int32) < (Int32.ofNat (min cs.length ds.length))
  · have hin := (own_c3 (i := 2) (by decide) hl_x1 hl_x2 rfl rfl).mp hc16
    have kn2 : ∀ t, own_S p e below T0 (mkF m 21 #[.val (.ref x1), .val (.ref x2), .val (.int (Int32.ofNat (min cs.length ds.length))), .val (.int 2), .val (.int q4), .val (.int q5)] [(.int 2), (.ref x1)]) t → own_S p e below T0 (mkF m 14 #[.val (.ref x1), .val (.ref x2), .val (.int (Int32.ofNat (min cs.length ds.length))), .val (.int 2), .val (.int q4), .val (.int q5)] []) t := fun t kt => kn1 t (by
      show own_S p e below T0 (mkF m 16 #[.val (.ref x1), .val (.ref x2), .val (.int (Int32.ofNat (min cs.length ds.length))), .val (.int 2), .val (.int q4), .val (.int q5)] [(.int (Int32.ofNat (min cs.length ds.length))), (.int 2)]) _
      refine XS.icmpNo X0.here hx rfl (hb hby d7_16) rfl (tlt hc16).2.1 ?_
      refine XS.aloadN X0.here hx rfl (hb hby d7_19) rfl rfl ?_
      refine XS.iloadN X0.here hx rfl (hb hby d7_20) rfl ?_
      exact kt)
    obtain ⟨cq3, kq3, qa3, qb3, qc3⟩ := isOf hZ e0 E_x1
    obtain ⟨_, _, ⟨T3, L3, cc3, ss3⟩, -, X3, ⟨Lc3, hQ3, l3, y3, z3⟩, st3⟩ := X0.virtualBack hx (y := mN13) (z := mN13) hown (mvT hZ (own_w hw 66 rfl)) (mvT hZ (own_w hw 67 rfl)) (notFace_of_selects (args := #[]) (mvT hZ (own_w hw 69 rfl))) (mvT hZ (own_w hw 69 rfl)) (mvT hZ (own_w hw 68 rfl)) (by decide) (backOf (W := 0) (rm15_2 l Z a0 hw [] x1 t_x1 k_x1 cs d_x1 n_x1 v_x1 G1 G3 h0 n0 Z0 E_x1 V_x1 C_x1 K_x1 hcd_x1 hin.1 hl_x1 hbd_x1 O0 O2 P5 O4 rG3 U1 U2 U3) hZ (own_w hw 70 rfl) (own_w hw 8 rfl) (by decide) (by decide)) qa3 qc3 (g := (mkF m 21 #[.val (.ref x1), .val (.ref x2), .val (.int (Int32.ofNat (min cs.length ds.length))), .val (.int 2), .val (.int q4), .val (.int q5)] [(.int 2), (.ref x1)])) rfl (by rw [hml]; rfl) (Steps.refl _) (argsL := [(.int 2)]) (rest := []) (lenOf pd_9 rfl) rfl (by show 2 * 0 + _ ≤ _; exact Nat.le_of_eq rfl) (hb hby d7_21) (fun _ _ => ⟨rfl, e0, (by decide : 0 + 0 ≤ _), (by decide : 0 + 0 ≤ _)⟩)
    dsimp only [Pt.U, Pt.locs, Pt.cells, Pt.slots] at X3 l3 y3 z3 st3 hQ3
    subst l3 y3 z3
    have X3 : Stand p l e _ _ m _ below meth c T3 _ 0 0 := X3
    obtain ⟨rfl, Nq3, eq3⟩ := hQ3
    have Nf3 := Fr.app Nf0 Nq3
    have kn4 : ∀ t, own_S p e below T3 (mkF m 28 #[.val (.ref x1), .val (.ref x2), .val (.int (Int32.ofNat (min cs.length ds.length))), .val (.int 2), .val (.int (cs.getD 2 0)), .val (.int q5)] [(.int 2), (.ref x2)]) t → own_S p e below T0 (mkF m 14 #[.val (.ref x1), .val (.ref x2), .val (.int (Int32.ofNat (min cs.length ds.length))), .val (.int 2), .val (.int q4), .val (.int q5)] []) t := fun t kt => kn2 t (st3.trans (by
      show own_S p e below T3 (mkF m 24 #[.val (.ref x1), .val (.ref x2), .val (.int (Int32.ofNat (min cs.length ds.length))), .val (.int 2), .val (.int q4), .val (.int q5)] [(.int (cs.getD 2 0))]) _
      refine XS.istore X3.here hx rfl (hb hby d7_24) rfl (l' := #[.val (.ref x1), .val (.ref x2), .val (.int (Int32.ofNat (min cs.length ds.length))), .val (.int 2), .val (.int (cs.getD 2 0)), .val (.int q5)]) rfl ?_
      refine XS.aloadN X3.here hx rfl (hb hby d7_26) rfl rfl ?_
      refine XS.iloadN X3.here hx rfl (hb hby d7_27) rfl ?_
      exact kt))
    obtain ⟨cq5, kq5, qa5, qb5, qc5⟩ := isOf hZ eq3 E_x2
    obtain ⟨_, _, ⟨T5, L5, cc5, ss5⟩, -, X5, ⟨Lc5, hQ5, l5, y5, z5⟩, st5⟩ := X3.virtualBack hx (y := mN13) (z := mN13) hown (mvT hZ (own_w hw 66 rfl)) (mvT hZ (own_w hw 67 rfl)) (notFace_of_selects (args := #[]) (mvT hZ (own_w hw 69 rfl))) (mvT hZ (own_w hw 69 rfl)) (mvT hZ (own_w hw 68 rfl)) (by decide) (backOf (W := 0) (rm15_2 l Z a0 hw [] x2 t_x2 k_x2 ds d_x2 n_x2 v_x2 G1 G3 h0 n0 Z0 E_x2 V_x2 C_x2 K_x2 hcd_x2 hin.2 hl_x2 hbd_x2 O0 O2 P5 O4 rG3 U1 U2 U3) hZ (own_w hw 70 rfl) (own_w hw 8 rfl) (by decide) (by decide)) qa5 qc5 (g := (mkF m 28 #[.val (.ref x1), .val (.ref x2), .val (.int (Int32.ofNat (min cs.length ds.length))), .val (.int 2), .val (.int (cs.getD 2 0)), .val (.int q5)] [(.int 2), (.ref x2)])) rfl (by rw [hml]; rfl) (Steps.refl _) (argsL := [(.int 2)]) (rest := []) (lenOf pd_9 rfl) rfl (by show 2 * 0 + _ ≤ _; exact Nat.le_of_eq rfl) (hb hby d7_28) (fun _ _ => ⟨rfl, eq3, (by decide : 0 + 0 ≤ _), (by decide : 0 + 0 ≤ _)⟩)
    dsimp only [Pt.U, Pt.locs, Pt.cells, Pt.slots] at X5 l5 y5 z5 st5 hQ5
    subst l5 y5 z5
    have X5 : Stand p l e _ _ m _ below meth c T5 _ 0 0 := X5
    obtain ⟨rfl, Nq5, eq5⟩ := hQ5
    have Nf5 := Fr.app Nf3 Nq5
    have kn6 : ∀ t, own_S p e below T5 (mkF m 37 #[.val (.ref x1), .val (.ref x2), .val (.int (Int32.ofNat (min cs.length ds.length))), .val (.int 2), .val (.int (cs.getD 2 0)), .val (.int (ds.getD 2 0))] [(.int (ds.getD 2 0)), (.int (cs.getD 2 0))]) t → own_S p e below T0 (mkF m 14 #[.val (.ref x1), .val (.ref x2), .val (.int (Int32.ofNat (min cs.length ds.length))), .val (.int 2), .val (.int q4), .val (.int q5)] []) t := fun t kt => kn4 t (st5.trans (by
      show own_S p e below T5 (mkF m 31 #[.val (.ref x1), .val (.ref x2), .val (.int (Int32.ofNat (min cs.length ds.length))), .val (.int 2), .val (.int (cs.getD 2 0)), .val (.int q5)] [(.int (ds.getD 2 0))]) _
      refine XS.istore X5.here hx rfl (hb hby d7_31) rfl (l' := #[.val (.ref x1), .val (.ref x2), .val (.int (Int32.ofNat (min cs.length ds.length))), .val (.int 2), .val (.int (cs.getD 2 0)), .val (.int (ds.getD 2 0))]) rfl ?_
      refine XS.iload X5.here hx rfl (hb hby d7_33) rfl ?_
      refine XS.iload X5.here hx rfl (hb hby d7_35) rfl ?_
      exact kt))
    by_cases hc37 : (cs.getD 2 0) = (ds.getD 2 0)
    · have kn7 : ∀ t, own_S p e below T5 (mkF m 14 #[.val (.ref x1), .val (.ref x2), .val (.int (Int32.ofNat (min cs.length ds.length))), .val (.int 3), .val (.int (cs.getD 2 0)), .val (.int (ds.getD 2 0))] []) t → own_S p e below T0 (mkF m 14 #[.val (.ref x1), .val (.ref x2), .val (.int (Int32.ofNat (min cs.length ds.length))), .val (.int 2), .val (.int q4), .val (.int q5)] []) t := fun t kt => kn6 t (by
        show own_S p e below T5 (mkF m 37 #[.val (.ref x1), .val (.ref x2), .val (.int (Int32.ofNat (min cs.length ds.length))), .val (.int 2), .val (.int (cs.getD 2 0)), .val (.int (ds.getD 2 0))] [(.int (ds.getD 2 0)), (.int (cs.getD 2 0))]) _
        refine XS.icmpYes X5.here hx rfl (pc0 := 37) (pc' := 52) rfl (hb hby d7_37) rfl (teq hc37).1 (by decide) (by decide) ?_
        show own_S p e below T5 (mkF m 52 #[.val (.ref x1), .val (.ref x2), .val (.int (Int32.ofNat (min cs.length ds.length))), .val (.int 2), .val (.int (cs.getD 2 0)), .val (.int (ds.getD 2 0))] []) _
        refine XS.iinc X5.here hx rfl (hb hby d7_52) rfl (l' := #[.val (.ref x1), .val (.ref x2), .val (.int (Int32.ofNat (min cs.length ds.length))), .val (.int ((2 : Int32) + (1 : Int32))), .val (.int (cs.getD 2 0)), .val (.int (ds.getD 2 0))]) rfl ?_
        rw [(by decide : ((2 : Int32) + (1 : Int32)) = (3 : Int32))]
        refine XS.goto X5.here hx rfl (pc0 := 55) (pc' := 14) rfl (hb hby d7_55) (by decide) (by decide) ?_
        exact kt)
      obtain ⟨s2, o2, t1, t2, t3, t4⟩ := cm_3 (n0 := n0) x1 x2 t_x1 k_x1 d_x1 n_x1 v_x1 cs t_x2 k_x2 d_x2 n_x2 v_x2 ds G1 G3 (cs.getD 2 0) (ds.getD 2 0) X5 hx hZ hw hby hml hown hret hlk eq5 Nf5 Z0 E_x1 V_x1 C_x1 K_x1 hcd_x1 hbd_x1 hl_x1 E_x2 V_x2 C_x2 K_x2 hcd_x2 hbd_x2 hl_x2 O0 O2 P5 O4 rG3 U1 U2 U3 (hv.trans (own_cs hin hc37))
      exact ⟨s2, o2, id (kn7 _ (t1)), t2, t3, t4⟩
    · have kn8 : ∀ t, own_S p e below T5 (mkF m 42 #[.val (.ref x1), .val (.ref x2), .val (.int (Int32.ofNat (min cs.length ds.length))), .val (.int 2), .val (.int (cs.getD 2 0)), .val (.int (ds.getD 2 0))] [(.int (cs.getD 2 0))]) t → own_S p e below T0 (mkF m 14 #[.val (.ref x1), .val (.ref x2), .val (.int (Int32.ofNat (min cs.length ds.length))), .val (.int 2), .val (.int q4), .val (.int q5)] []) t := fun t kt => kn6 t (by
        show own_S p e below T5 (mkF m 37 #[.val (.ref x1), .val (.ref x2), .val (.int (Int32.ofNat (min cs.length ds.length))), .val (.int 2), .val (.int (cs.getD 2 0)), .val (.int (ds.getD 2 0))] [(.int (ds.getD 2 0)), (.int (cs.getD 2 0))]) _
        refine XS.icmpNo X5.here hx rfl (hb hby d7_37) rfl (feq hc37).1 ?_
        refine XS.iload X5.here hx rfl (hb hby d7_40) rfl ?_
        exact kt)
      obtain ⟨_, _, ⟨T9, L9, cc9, ss9⟩, -, X9, ⟨Lc9, hQ9, l9, y9, z9⟩, st9⟩ := Jvm.LawKit.callS X5 hx (y := mN2) hown (mvT hZ (own_w hw 88 rfl)) (mvT hZ (own_w hw 89 rfl)) (mvT hZ (own_w hw 35 rfl)) (mvT hZ (own_w hw 90 rfl)) (by decide) (backOf (W := 0) (rm20 l Z a0 hw [] (cs.getD 2 0)  h0 n0 Z0 ) hZ (own_w hw 90 rfl) (own_w hw 35 rfl) (by decide) (by decide)) (g := (mkF m 42 #[.val (.ref x1), .val (.ref x2), .val (.int (Int32.ofNat (min cs.length ds.length))), .val (.int 2), .val (.int (cs.getD 2 0)), .val (.int (ds.getD 2 0))] [(.int (cs.getD 2 0))])) rfl (by rw [hml]; rfl) (argsL := [(.int (cs.getD 2 0))]) (rest := []) (lenOf pd_0 rfl) rfl (by show 2 * 0 + _ ≤ _; exact Nat.le_of_eq rfl) (hb hby d7_42) (fun _ _ => ⟨rfl, eq5, (by decide : 0 + 0 ≤ _), (by decide : 0 + 0 ≤ _)⟩)
      dsimp only [Pt.U, Pt.locs, Pt.cells, Pt.slots] at X9 l9 y9 z9 st9 hQ9
      subst l9 y9 z9
      have X9 : Stand p l e _ _ m _ below meth c T9 _ 0 0 := X9
      obtain ⟨rfl, Nq9, eq9⟩ := hQ9
      have Nf9 := Fr.app Nf5 Nq9
      have kn10 : ∀ t, own_S p e below T9 (mkF m 47 #[.val (.ref x1), .val (.ref x2), .val (.int (Int32.ofNat (min cs.length ds.length))), .val (.int 2), .val (.int (cs.getD 2 0)), .val (.int (ds.getD 2 0))] [(.int (ds.getD 2 0)), (.int (own_rank (cs.getD 2 0)))]) t → own_S p e below T0 (mkF m 14 #[.val (.ref x1), .val (.ref x2), .val (.int (Int32.ofNat (min cs.length ds.length))), .val (.int 2), .val (.int q4), .val (.int q5)] []) t := fun t kt => kn8 t (st9 _ (by
        show own_S p e below T9 (mkF m 45 #[.val (.ref x1), .val (.ref x2), .val (.int (Int32.ofNat (min cs.length ds.length))), .val (.int 2), .val (.int (cs.getD 2 0)), .val (.int (ds.getD 2 0))] [(.int (own_rank (cs.getD 2 0)))]) _
        refine XS.iload X9.here hx rfl (hb hby d7_45) rfl ?_
        exact kt))
      obtain ⟨_, _, ⟨T11, L11, cc11, ss11⟩, -, X11, ⟨Lc11, hQ11, l11, y11, z11⟩, st11⟩ := Jvm.LawKit.callS X9 hx (y := mN2) hown (mvT hZ (own_w hw 88 rfl)) (mvT hZ (own_w hw 89 rfl)) (mvT hZ (own_w hw 35 rfl)) (mvT hZ (own_w hw 90 rfl)) (by decide) (backOf (W := 1) (rm20 l Z a0 hw [] (ds.getD 2 0)  h0 n0 Z0 ) hZ (own_w hw 90 rfl) (own_w hw 35 rfl) (by decide) (by decide)) (g := (mkF m 47 #[.val (.ref x1), .val (.ref x2), .val (.int (Int32.ofNat (min cs.length ds.length))), .val (.int 2), .val (.int (cs.getD 2 0)), .val (.int (ds.getD 2 0))] [(.int (ds.getD 2 0)), (.int (own_rank (cs.getD 2 0)))])) rfl (by rw [hml]; rfl) (argsL := [(.int (ds.getD 2 0))]) (rest := [(.int (own_rank (cs.getD 2 0)))]) (lenOf pd_0 rfl) rfl (by show 2 * 0 + _ ≤ _; exact Nat.le_of_eq rfl) (hb hby d7_47) (fun _ _ => ⟨rfl, eq9, (by decide : 0 + 0 ≤ _), (by decide : 0 + 0 ≤ _)⟩)
      dsimp only [Pt.U, Pt.locs, Pt.cells, Pt.slots] at X11 l11 y11 z11 st11 hQ11
      subst l11 y11 z11
      have X11 : Stand p l e _ _ m _ below meth c T11 _ 0 0 := X11
      obtain ⟨rfl, Nq11, eq11⟩ := hQ11
      have Nf11 := Fr.app Nf9 Nq11
      have kn12 : ∀ t, own_S p e below T11 (mkF m 51 #[.val (.ref x1), .val (.ref x2), .val (.int (Int32.ofNat (min cs.length ds.length))), .val (.int 2), .val (.int (cs.getD 2 0)), .val (.int (ds.getD 2 0))] [(.int ((own_rank (cs.getD 2 0)) - (own_rank (ds.getD 2 0))))]) t → own_S p e below T0 (mkF m 14 #[.val (.ref x1), .val (.ref x2), .val (.int (Int32.ofNat (min cs.length ds.length))), .val (.int 2), .val (.int q4), .val (.int q5)] []) t := fun t kt => kn10 t (st11 _ (by
        show own_S p e below T11 (mkF m 50 #[.val (.ref x1), .val (.ref x2), .val (.int (Int32.ofNat (min cs.length ds.length))), .val (.int 2), .val (.int (cs.getD 2 0)), .val (.int (ds.getD 2 0))] [(.int (own_rank (ds.getD 2 0))), (.int (own_rank (cs.getD 2 0)))]) _
        refine XS.isub X11.here hx rfl (hb hby d7_50) rfl ?_
        exact kt))
      obtain ⟨fs, hr, hrun, hended, hW, hsame⟩ := X11.leave (v := some (.int ((own_rank (cs.getD 2 0)) - (own_rank (ds.getD 2 0))))) (fun h => by rw [hret] at h; cases h)
      refine ⟨_, _, id (kn12 _ (retI X11 hx hret (hb hby d7_51) hr)), hrun, hended, _, _, rfl, ?_, ⟨_, rfl⟩, hW, hsame.mono (by decide) (by decide)⟩
      show Q7 Z x1 x2 t_x1 k_x1 d_x1 n_x1 v_x1 cs t_x2 k_x2 d_x2 n_x2 v_x2 ds G1 G3 h0 n0 _ T11.heap _
      rw [eq11]
      exact ⟨congrArg own_sv (hv.trans (own_cd hin hc37)).symm, Nf11, rfl⟩
  · have kn13 : ∀ t, own_S p e below T0 (mkF m 59 #[.val (.ref x1), .val (.ref x2), .val (.int (Int32.ofNat (min cs.length ds.length))), .val (.int 2), .val (.int q4), .val (.int q5)] [(.ref x1)]) t → own_S p e below T0 (mkF m 14 #[.val (.ref x1), .val (.ref x2), .val (.int (Int32.ofNat (min cs.length ds.length))), .val (.int 2), .val (.int q4), .val (.int q5)] []) t := fun t kt => kn1 t (by
      show own_S p e below T0 (mkF m 16 #[.val (.ref x1), .val (.ref x2), .val (.int (Int32.ofNat (min cs.length ds.length))), .val (.int 2), .val (.int q4), .val (.int q5)] [(.int (Int32.ofNat (min cs.length ds.length))), (.int 2)]) _
      refine XS.icmpYes X0.here hx rfl (pc0 := 16) (pc' := 58) rfl (hb hby d7_16) rfl (flt hc16).2.1 (by decide) (by decide) ?_
      refine XS.aloadN X0.here hx rfl (hb hby d7_58) rfl rfl ?_
      exact kt)
    have hln : ∀ d ∈ StrChars.Road.wordsLen, d.before a0 Z = true := fun d hd => hw d ((by decide +kernel : ∀ d ∈ StrChars.Road.wordsLen, d ∈ tables_1) d hd)
    obtain ⟨cq14, kq14, qa14, qb14, qc14⟩ := isOf hZ e0 E_x1
    obtain ⟨_, _, ⟨T14, L14, cc14, ss14⟩, -, X14, ⟨Lc14, hQ14, l14, y14, z14⟩, st14⟩ := X0.virtualBack hx (y := mN14) (z := mN14) hown (mvT hZ (own_w hw 37 rfl)) (mvT hZ (own_w hw 38 rfl)) (notFace_of_selects (args := #[]) (mvT hZ (own_w hw 40 rfl))) (mvT hZ (own_w hw 40 rfl)) (mvT hZ (own_w hw 39 rfl)) (by decide) (StrChars.Road.lenW (W := 0) hZ hln (kI := 4) (own_w hw 7 rfl) E_x1 V_x1 C_x1 K_x1 hcd_x1 hbd_x1 (O2.ext O0.2) P5 (Nat.le_trans hl_x1 (by decide)) (by decide) (by decide)) qa14 qc14 (g := (mkF m 59 #[.val (.ref x1), .val (.ref x2), .val (.int (Int32.ofNat (min cs.length ds.length))), .val (.int 2), .val (.int q4), .val (.int q5)] [(.ref x1)])) rfl (by rw [hml]; rfl) (Steps.refl _) (argsL := []) (rest := []) (lenOf pd_8 rfl) rfl (by show 2 * 0 + _ ≤ _; exact Nat.le_of_eq rfl) (hb hby d7_59) (fun _ _ => ⟨rfl, e0, (by decide : 0 + 0 ≤ _), (by decide : 0 + 0 ≤ _)⟩)
    dsimp only [Pt.U, Pt.locs, Pt.cells, Pt.slots] at X14 l14 y14 z14 st14 hQ14
    subst l14 y14 z14
    have X14 : Stand p l e _ _ m _ below meth c T14 _ 0 0 := X14
    obtain ⟨rfl, rfl, eq14⟩ := hQ14
    have Nq14 : Fr n0 ([] : List Loc) := Fr.nil n0
    have Nf14 := Fr.app Nf0 Nq14
    have kn15 : ∀ t, own_S p e below T14 (mkF m 63 #[.val (.ref x1), .val (.ref x2), .val (.int (Int32.ofNat (min cs.length ds.length))), .val (.int 2), .val (.int q4), .val (.int q5)] [(.ref x2), (.int (Int32.ofNat cs.length))]) t → own_S p e below T0 (mkF m 14 #[.val (.ref x1), .val (.ref x2), .val (.int (Int32.ofNat (min cs.length ds.length))), .val (.int 2), .val (.int q4), .val (.int q5)] []) t := fun t kt => kn13 t (st14.trans (by
      show own_S p e below T14 (mkF m 62 #[.val (.ref x1), .val (.ref x2), .val (.int (Int32.ofNat (min cs.length ds.length))), .val (.int 2), .val (.int q4), .val (.int q5)] [(.int (Int32.ofNat cs.length))]) _
      refine XS.aloadN X14.here hx rfl (hb hby d7_62) rfl rfl ?_
      exact kt))
    obtain ⟨cq16, kq16, qa16, qb16, qc16⟩ := isOf hZ eq14 E_x2
    obtain ⟨_, _, ⟨T16, L16, cc16, ss16⟩, -, X16, ⟨Lc16, hQ16, l16, y16, z16⟩, st16⟩ := X14.virtualBack hx (y := mN14) (z := mN14) hown (mvT hZ (own_w hw 37 rfl)) (mvT hZ (own_w hw 38 rfl)) (notFace_of_selects (args := #[]) (mvT hZ (own_w hw 40 rfl))) (mvT hZ (own_w hw 40 rfl)) (mvT hZ (own_w hw 39 rfl)) (by decide) (StrChars.Road.lenW (W := 1) hZ hln (kI := 4) (own_w hw 7 rfl) E_x2 V_x2 C_x2 K_x2 hcd_x2 hbd_x2 (O2.ext O0.2) P5 (Nat.le_trans hl_x2 (by decide)) (by decide) (by decide)) qa16 qc16 (g := (mkF m 63 #[.val (.ref x1), .val (.ref x2), .val (.int (Int32.ofNat (min cs.length ds.length))), .val (.int 2), .val (.int q4), .val (.int q5)] [(.ref x2), (.int (Int32.ofNat cs.length))])) rfl (by rw [hml]; rfl) (Steps.refl _) (argsL := []) (rest := [(.int (Int32.ofNat cs.length))]) (lenOf pd_8 rfl) rfl (by show 2 * 0 + _ ≤ _; exact Nat.le_of_eq rfl) (hb hby d7_63) (fun _ _ => ⟨rfl, eq14, (by decide : 0 + 0 ≤ _), (by decide : 0 + 0 ≤ _)⟩)
    dsimp only [Pt.U, Pt.locs, Pt.cells, Pt.slots] at X16 l16 y16 z16 st16 hQ16
    subst l16 y16 z16
    have X16 : Stand p l e _ _ m _ below meth c T16 _ 0 0 := X16
    obtain ⟨rfl, rfl, eq16⟩ := hQ16
    have Nq16 : Fr n0 ([] : List Loc) := Fr.nil n0
    have Nf16 := Fr.app Nf14 Nq16
    have kn17 : ∀ t, own_S p e below T16 (mkF m 67 #[.val (.ref x1), .val (.ref x2), .val (.int (Int32.ofNat (min cs.length ds.length))), .val (.int 2), .val (.int q4), .val (.int q5)] [(.int ((Int32.ofNat cs.length) - (Int32.ofNat ds.length)))]) t → own_S p e below T0 (mkF m 14 #[.val (.ref x1), .val (.ref x2), .val (.int (Int32.ofNat (min cs.length ds.length))), .val (.int 2), .val (.int q4), .val (.int q5)] []) t := fun t kt => kn15 t (st16.trans (by
      show own_S p e below T16 (mkF m 66 #[.val (.ref x1), .val (.ref x2), .val (.int (Int32.ofNat (min cs.length ds.length))), .val (.int 2), .val (.int q4), .val (.int q5)] [(.int (Int32.ofNat ds.length)), (.int (Int32.ofNat cs.length))]) _
      refine XS.isub X16.here hx rfl (hb hby d7_66) rfl ?_
      exact kt))
    obtain ⟨fs, hr, hrun, hended, hW, hsame⟩ := X16.leave (v := some (.int ((Int32.ofNat cs.length) - (Int32.ofNat ds.length)))) (fun h => by rw [hret] at h; cases h)
    refine ⟨_, _, id (kn17 _ (retI X16 hx hret (hb hby d7_67) hr)), hrun, hended, _, _, rfl, ?_, ⟨_, rfl⟩, hW, hsame.mono (by decide) (by decide)⟩
    show Q7 Z x1 x2 t_x1 k_x1 d_x1 n_x1 v_x1 cs t_x2 k_x2 d_x2 n_x2 v_x2 ds G1 G3 h0 n0 _ T16.heap _
    rw [eq16]
    exact ⟨congrArg own_sv (hv.trans (own_ce fun q => hc16 ((own_c3 (i := 2) (by decide) hl_x1 hl_x2 rfl rfl).mpr q))).symm, Nf16, rfl⟩

theorem cm_1 {p : Program} {l : Launch} {e : Env} {s : State} {m : MethodId} {args : Array Value} {below : List Frame} {meth : Method} {c : Code} {T0 : State} {locs : List Loc} {Z : State} {a0 : Array Value} {h0 : Heap} {n0 : Nat} (x1 : Addr) (x2 : Addr) (t_x1 : Addr) (k_x1 : ClassId) (d_x1 : Int32) (n_x1 : Int32) (v_x1 : List Value) (cs : List Int32) (t_x2 : Addr) (k_x2 : ClassId) (d_x2 : Int32) (n_x2 : Int32) (v_x2 : List Value) (ds : List Int32) (G1 : Int32) (G3 : Value) (q4 : Int32) (q5 : Int32)
    (X0 : Stand p l e (own_r 8 0 0 130) s m args below meth c T0 locs 0 0) (hx : p.tables.exec = Jvm.exec) (hZ : Z.Warmed39 s.vm) (hw : ∀ d ∈ tables_1, d.before a0 Z = true) (hby : c.code = prog_43_method_7_code) (hml : c.maxLocals = 6) (hown : s.vm.findClass "com/example/caddis/caddis/StatementSet" = some m.cls) (hret : meth.sig.returnType = some .int) (hlk : meth.locks = false) (e0 : T0.heap = h0) (Nf0 : Fr n0 locs) (Z0 : n0 ≤ h0.size) (E_x1 : Exa Z h0 x1 "java/lang/String") (V_x1 : Fld Z h0 x1 "java/lang/String" "value" "[B" (.ref t_x1)) (C_x1 : Fld Z h0 x1 "java/lang/String" "coder" "B" (.int d_x1)) (K_x1 : Arv Z h0 t_x1 k_x1 .byte n_x1 v_x1 (.int (0 : Int32))) (hcd_x1 : StrChars.Road.CodA cs d_x1 n_x1 v_x1) (hbd_x1 : ∀ c ∈ cs, own_rg c) (hl_x1 : cs.length ≤ 3) (E_x2 : Exa Z h0 x2 "java/lang/String") (V_x2 : Fld Z h0 x2 "java/lang/String" "value" "[B" (.ref t_x2)) (C_x2 : Fld Z h0 x2 "java/lang/String" "coder" "B" (.int d_x2)) (K_x2 : Arv Z h0 t_x2 k_x2 .byte n_x2 v_x2 (.int (0 : Int32))) (hcd_x2 : StrChars.Road.CodA ds d_x2 n_x2 v_x2) (hbd_x2 : ∀ c ∈ ds, own_rg c) (hl_x2 : ds.length ≤ 3) (O0 : Old Z n0 h0) (O2 : Sta Z Z.heap "java/lang/String" "COMPACT_STRINGS" "Z" (.int G1)) (P5 : ¬ (G1 = (0 : Int32))) (O4 : Sta Z Z.heap "jdk/internal/util/Preconditions" "SIOOBE_FORMATTER" "Ljava/util/function/BiFunction;" G3) (rG3 : G3.isRef = true) (U1 : Sta Z Z.heap "java/lang/StringUTF16" "$assertionsDisabled" "Z" (.int (1 : Int32))) (U2 : Sta Z Z.heap "java/lang/StringUTF16" "HI_BYTE_SHIFT" "I" (.int (0 : Int32))) (U3 : Sta Z Z.heap "java/lang/StringUTF16" "LO_BYTE_SHIFT" "I" (.int (8 : Int32))) (hv : own_cmp cs ds 0 3 = own_cmp cs ds 1 2) :
    ∃ s₂ o, Steps p.tables e below (T0.setTop (mkF m 14 #[.val (.ref x1), .val (.ref x2), .val (.int (Int32.ofNat (min cs.length ds.length))), .val (.int 1), .val (.int q4), .val (.int q5)] [])) s₂ ∧ s₂.status = .running ∧ Ended s₂ below o ∧ ∃ v L, o = .returned v ∧ Q7 Z x1 x2 t_x1 k_x1 d_x1 n_x1 v_x1 cs t_x2 k_x2 d_x2 n_x2 v_x2 ds G1 G3 h0 n0 v s₂.heap L ∧ FrameEnd s o s₂ L (own_r 8 0 0 130).cells (own_r 8 0 0 130).slots := by
  have kn0 : ∀ t, own_S p e below T0 (mkF m 14 #[.val (.ref x1), .val (.ref x2), .val (.int (Int32.ofNat (min cs.length ds.length))), .val (.int 1), .val (.int q4), .val (.int q5)] []) t → own_S p e below T0 (mkF m 14 #[.val (.ref x1), .val (.ref x2), .val (.int (Int32.ofNat (min cs.length ds.length))), .val (.int 1), .val (.int q4), .val (.int q5)] []) t := fun t k => k
  have kn1 : ∀ t, own_S p e below T0 (mkF m 16 #[.val (.ref x1), .val (.ref x2), .val (.int (Int32.ofNat (min cs.length ds.length))), .val (.int 1), .val (.int q4), .val (.int q5)] [(.int (Int32.ofNat (min cs.length ds.length))), (.int 1)]) t → own_S p e below T0 (mkF m 14 #[.val (.ref x1), .val (.ref x2), .val (.int (Int32.ofNat (min cs.length ds.length))), .val (.int 1), .val (.int q4), .val (.int q5)] []) t := fun t kt => kn0 t (by
    show own_S p e below T0 (mkF m 14 #[.val (.ref x1), .val (.ref x2), .val (.int (Int32.ofNat (min cs.length ds.length))), .val (.int 1), .val (.int q4), .val (.int q5)] []) _
    refine XS.iloadN X0.here hx rfl (hb hby d7_14) rfl ?_
    refine XS.iloadN X0.here hx rfl (hb hby d7_15) rfl ?_
    exact kt)
  by_cases hc16 : (1 : Int32) < (Int32.ofNat (min cs.length ds.length))
  · have hin := (own_c3 (i := 1) (by decide) hl_x1 hl_x2 rfl rfl).mp hc16
    have kn2 : ∀ t, own_S p e below T0 (mkF m 21 #[.val (.ref x1), .val (.ref x2), .val (.int (Int32.ofNat (min cs.length ds.length))), .val (.int 1), .val (.int q4), .val (.int q5)] [(.int 1), (.ref x1)]) t → own_S p e below T0 (mkF m 14 #[.val (.ref x1), .val (.ref x2), .val (.int (Int32.ofNat (min cs.length ds.length))), .val (.int 1), .val (.int q4), .val (.int q5)] []) t := fun t kt => kn1 t (by
      show own_S p e below T0 (mkF m 16 #[.val (.ref x1), .val (.ref x2), .val (.int (Int32.ofNat (min cs.length ds.length))), .val (.int 1), .val (.int q4), .val (.int q5)] [(.int (Int32.ofNat (min cs.length ds.length))), (.int 1)]) _
      refine XS.icmpNo X0.here hx rfl (hb hby d7_16) rfl (tlt hc16).2.1 ?_
      refine XS.aloadN X0.here hx rfl (hb hby d7_19) rfl rfl ?_
      refine XS.iloadN X0.here hx rfl (hb hby d7_20) rfl ?_
      exact kt)
    obtain ⟨cq3, kq3, qa3, qb3, qc3⟩ := isOf hZ e0 E_x1
    obtain ⟨_, _, ⟨T3, L3, cc3, ss3⟩, -, X3, ⟨Lc3, hQ3, l3, y3, z3⟩, st3⟩ := X0.virtualBack hx (y := mN13) (z := mN13) hown (mvT hZ (own_w hw 66 rfl)) (mvT hZ (own_w hw 67 rfl)) (notFace_of_selects (args := #[]) (mvT hZ (own_w hw 69 rfl))) (mvT hZ (own_w hw 69 rfl)) (mvT hZ (own_w hw 68 rfl)) (by decide) (backOf (W := 0) (rm15_1 l Z a0 hw [] x1 t_x1 k_x1 cs d_x1 n_x1 v_x1 G1 G3 h0 n0 Z0 E_x1 V_x1 C_x1 K_x1 hcd_x1 hin.1 hl_x1 hbd_x1 O0 O2 P5 O4 rG3 U1 U2 U3) hZ (own_w hw 70 rfl) (own_w hw 8 rfl) (by decide) (by decide)) qa3 qc3 (g := (mkF m 21 #[.val (.ref x1), .val (.ref x2), .val (.int (Int32.ofNat (min cs.length ds.length))), .val (.int 1), .val (.int q4), .val (.int q5)] [(.int 1), (.ref x1)])) rfl (by rw [hml]; rfl) (Steps.refl _) (argsL := [(.int 1)]) (rest := []) (lenOf pd_9 rfl) rfl (by show 2 * 0 + _ ≤ _; exact Nat.le_of_eq rfl) (hb hby d7_21) (fun _ _ => ⟨rfl, e0, (by decide : 0 + 0 ≤ _), (by decide : 0 + 0 ≤ _)⟩)
    dsimp only [Pt.U, Pt.locs, Pt.cells, Pt.slots] at X3 l3 y3 z3 st3 hQ3
    subst l3 y3 z3
    have X3 : Stand p l e _ _ m _ below meth c T3 _ 0 0 := X3
    obtain ⟨rfl, Nq3, eq3⟩ := hQ3
    have Nf3 := Fr.app Nf0 Nq3
    have kn4 : ∀ t, own_S p e below T3 (mkF m 28 #[.val (.ref x1), .val (.ref x2), .val (.int (Int32.ofNat (min cs.length ds.length))), .val (.int 1), .val (.int (cs.getD 1 0)), .val (.int q5)] [(.int 1), (.ref x2)]) t → own_S p e below T0 (mkF m 14 #[.val (.ref x1), .val (.ref x2), .val (.int (Int32.ofNat (min cs.length ds.length))), .val (.int 1), .val (.int q4), .val (.int q5)] []) t := fun t kt => kn2 t (st3.trans (by
      show own_S p e below T3 (mkF m 24 #[.val (.ref x1), .val (.ref x2), .val (.int (Int32.ofNat (min cs.length ds.length))), .val (.int 1), .val (.int q4), .val (.int q5)] [(.int (cs.getD 1 0))]) _
      refine XS.istore X3.here hx rfl (hb hby d7_24) rfl (l' := #[.val (.ref x1), .val (.ref x2), .val (.int (Int32.ofNat (min cs.length ds.length))), .val (.int 1), .val (.int (cs.getD 1 0)), .val (.int q5)]) rfl ?_
      refine XS.aloadN X3.here hx rfl (hb hby d7_26) rfl rfl ?_
      refine XS.iloadN X3.here hx rfl (hb hby d7_27) rfl ?_
      exact kt))
    obtain ⟨cq5, kq5, qa5, qb5, qc5⟩ := isOf hZ eq3 E_x2
    obtain ⟨_, _, ⟨T5, L5, cc5, ss5⟩, -, X5, ⟨Lc5, hQ5, l5, y5, z5⟩, st5⟩ := X3.virtualBack hx (y := mN13) (z := mN13) hown (mvT hZ (own_w hw 66 rfl)) (mvT hZ (own_w hw 67 rfl)) (notFace_of_selects (args := #[]) (mvT hZ (own_w hw 69 rfl))) (mvT hZ (own_w hw 69 rfl)) (mvT hZ (own_w hw 68 rfl)) (by decide) (backOf (W := 0) (rm15_1 l Z a0 hw [] x2 t_x2 k_x2 ds d_x2 n_x2 v_x2 G1 G3 h0 n0 Z0 E_x2 V_x2 C_x2 K_x2 hcd_x2 hin.2 hl_x2 hbd_x2 O0 O2 P5 O4 rG3 U1 U2 U3) hZ (own_w hw 70 rfl) (own_w hw 8 rfl) (by decide) (by decide)) qa5 qc5 (g := (mkF m 28 #[.val (.ref x1), .val (.ref x2), .val (.int (Int32.ofNat (min cs.length ds.length))), .val (.int 1), .val (.int (cs.getD 1 0)), .val (.int q5)] [(.int 1), (.ref x2)])) rfl (by rw [hml]; rfl) (Steps.refl _) (argsL := [(.int 1)]) (rest := []) (lenOf pd_9 rfl) rfl (by show 2 * 0 + _ ≤ _; exact Nat.le_of_eq rfl) (hb hby d7_28) (fun _ _ => ⟨rfl, eq3, (by decide : 0 + 0 ≤ _), (by decide : 0 + 0 ≤ _)⟩)
    dsimp only [Pt.U, Pt.locs, Pt.cells, Pt.slots] at X5 l5 y5 z5 st5 hQ5
    subst l5 y5 z5
    have X5 : Stand p l e _ _ m _ below meth c T5 _ 0 0 := X5
    obtain ⟨rfl, Nq5, eq5⟩ := hQ5
    have Nf5 := Fr.app Nf3 Nq5
    have kn6 : ∀ t, own_S p e below T5 (mkF m 37 #[.val (.ref x1), .val (.ref x2), .val (.int (Int32.ofNat (min cs.length ds.length))), .val (.int 1), .val (.int (cs.getD 1 0)), .val (.int (ds.getD 1 0))] [(.int (ds.getD 1 0)), (.int (cs.getD 1 0))]) t → own_S p e below T0 (mkF m 14 #[.val (.ref x1), .val (.ref x2), .val (.int (Int32.ofNat (min cs.length ds.length))), .val (.int 1), .val (.int q4), .val (.int q5)] []) t := fun t kt => kn4 t (st5.trans (by
      show own_S p e below T5 (mkF m 31 #[.val (.ref x1), .val (.ref x2), .val (.int (Int32.ofNat (min cs.length ds.length))), .val (.int 1), .val (.int (cs.getD 1 0)), .val (.int q5)] [(.int (ds.getD 1 0))]) _
      refine XS.istore X5.here hx rfl (hb hby d7_31) rfl (l' := #[.val (.ref x1), .val (.ref x2), .val (.int (Int32.ofNat (min cs.length ds.length))), .val (.int 1), .val (.int (cs.getD 1 0)), .val (.int (ds.getD 1 0))]) rfl ?_
      refine XS.iload X5.here hx rfl (hb hby d7_33) rfl ?_
      refine XS.iload X5.here hx rfl (hb hby d7_35) rfl ?_
      exact kt))
    by_cases hc37 : (cs.getD 1 0) = (ds.getD 1 0)
    · have kn7 : ∀ t, own_S p e below T5 (mkF m 14 #[.val (.ref x1), .val (.ref x2), .val (.int (Int32.ofNat (min cs.length ds.length))), .val (.int 2), .val (.int (cs.getD 1 0)), .val (.int (ds.getD 1 0))] []) t → own_S p e below T0 (mkF m 14 #[.val (.ref x1), .val (.ref x2), .val (.int (Int32.ofNat (min cs.length ds.length))), .val (.int 1), .val (.int q4), .val (.int q5)] []) t := fun t kt => kn6 t (by
        show own_S p e below T5 (mkF m 37 #[.val (.ref x1), .val (.ref x2), .val (.int (Int32.ofNat (min cs.length ds.length))), .val (.int 1), .val (.int (cs.getD 1 0)), .val (.int (ds.getD 1 0))] [(.int (ds.getD 1 0)), (.int (cs.getD 1 0))]) _
        refine XS.icmpYes X5.here hx rfl (pc0 := 37) (pc' := 52) rfl (hb hby d7_37) rfl (teq hc37).1 (by decide) (by decide) ?_
        show own_S p e below T5 (mkF m 52 #[.val (.ref x1), .val (.ref x2), .val (.int (Int32.ofNat (min cs.length ds.length))), .val (.int 1), .val (.int (cs.getD 1 0)), .val (.int (ds.getD 1 0))] []) _
        refine XS.iinc X5.here hx rfl (hb hby d7_52) rfl (l' := #[.val (.ref x1), .val (.ref x2), .val (.int (Int32.ofNat (min cs.length ds.length))), .val (.int ((1 : Int32) + (1 : Int32))), .val (.int (cs.getD 1 0)), .val (.int (ds.getD 1 0))]) rfl ?_
        rw [(by decide : ((1 : Int32) + (1 : Int32)) = (2 : Int32))]
        refine XS.goto X5.here hx rfl (pc0 := 55) (pc' := 14) rfl (hb hby d7_55) (by decide) (by decide) ?_
        exact kt)
      obtain ⟨s2, o2, t1, t2, t3, t4⟩ := cm_2 (n0 := n0) x1 x2 t_x1 k_x1 d_x1 n_x1 v_x1 cs t_x2 k_x2 d_x2 n_x2 v_x2 ds G1 G3 (cs.getD 1 0) (ds.getD 1 0) X5 hx hZ hw hby hml hown hret hlk eq5 Nf5 Z0 E_x1 V_x1 C_x1 K_x1 hcd_x1 hbd_x1 hl_x1 E_x2 V_x2 C_x2 K_x2 hcd_x2 hbd_x2 hl_x2 O0 O2 P5 O4 rG3 U1 U2 U3 (hv.trans (own_cs hin hc37))
      exact ⟨s2, o2, id (kn7 _ (t1)), t2, t3, t4⟩
    · have kn8 : ∀ t, own_S p e below T5 (mkF m 42 #[.val (.ref x1), .val (.ref x2), .val (.int (Int32.ofNat (min cs.length ds.length))), .val (.int 1), .val (.int (cs.getD 1 0)), .val (.int (ds.getD 1 0))] [(.int (cs.getD 1 0))]) t → own_S p e below T0 (mkF m 14 #[.val (.ref x1), .val (.ref x2), .val (.int (Int32.ofNat (min cs.length ds.length))), .val (.int 1), .val (.int q4), .val (.int q5)] []) t := fun t kt => kn6 t (by
        show own_S p e below T5 (mkF m 37 #[.val (.ref x1), .val (.ref x2), .val (.int (Int32.ofNat (min cs.length ds.length))), .val (.int 1), .val (.int (cs.getD 1 0)), .val (.int (ds.getD 1 0))] [(.int (ds.getD 1 0)), (.int (cs.getD 1 0))]) _
        refine XS.icmpNo X5.here hx rfl (hb hby d7_37) rfl (feq hc37).1 ?_
        refine XS.iload X5.here hx rfl (hb hby d7_40) rfl ?_
        exact kt)
      obtain ⟨_, _, ⟨T9, L9, cc9, ss9⟩, -, X9, ⟨Lc9, hQ9, l9, y9, z9⟩, st9⟩ := Jvm.LawKit.callS X5 hx (y := mN2) hown (mvT hZ (own_w hw 88 rfl)) (mvT hZ (own_w hw 89 rfl)) (mvT hZ (own_w hw 35 rfl)) (mvT hZ (own_w hw 90 rfl)) (by decide) (backOf (W := 0) (rm20 l Z a0 hw [] (cs.getD 1 0)  h0 n0 Z0 ) hZ (own_w hw 90 rfl) (own_w hw 35 rfl) (by decide) (by decide)) (g := (mkF m 42 #[.val (.ref x1), .val (.ref x2), .val (.int (Int32.ofNat (min cs.length ds.length))), .val (.int 1), .val (.int (cs.getD 1 0)), .val (.int (ds.getD 1 0))] [(.int (cs.getD 1 0))])) rfl (by rw [hml]; rfl) (argsL := [(.int (cs.getD 1 0))]) (rest := []) (lenOf pd_0 rfl) rfl (by show 2 * 0 + _ ≤ _; exact Nat.le_of_eq rfl) (hb hby d7_42) (fun _ _ => ⟨rfl, eq5, (by decide : 0 + 0 ≤ _), (by decide : 0 + 0 ≤ _)⟩)
      dsimp only [Pt.U, Pt.locs, Pt.cells, Pt.slots] at X9 l9 y9 z9 st9 hQ9
      subst l9 y9 z9
      have X9 : Stand p l e _ _ m _ below meth c T9 _ 0 0 := X9
      obtain ⟨rfl, Nq9, eq9⟩ := hQ9
      have Nf9 := Fr.app Nf5 Nq9
      have kn10 : ∀ t, own_S p e below T9 (mkF m 47 #[.val (.ref x1), .val (.ref x2), .val (.int (Int32.ofNat (min cs.length ds.length))), .val (.int 1), .val (.int (cs.getD 1 0)), .val (.int (ds.getD 1 0))] [(.int (ds.getD 1 0)), (.int (own_rank (cs.getD 1 0)))]) t → own_S p e below T0 (mkF m 14 #[.val (.ref x1), .val (.ref x2), .val (.int (Int32.ofNat (min cs.length ds.length))), .val (.int 1), .val (.int q4), .val (.int q5)] []) t := fun t kt => kn8 t (st9 _ (by
        show own_S p e below T9 (mkF m 45 #[.val (.ref x1), .val (.ref x2), .val (.int (Int32.ofNat (min cs.length ds.length))), .val (.int 1), .val (.int (cs.getD 1 0)), .val (.int (ds.getD 1 0))] [(.int (own_rank (cs.getD 1 0)))]) _
        refine XS.iload X9.here hx rfl (hb hby d7_45) rfl ?_
        exact kt))
      obtain ⟨_, _, ⟨T11, L11, cc11, ss11⟩, -, X11, ⟨Lc11, hQ11, l11, y11, z11⟩, st11⟩ := Jvm.LawKit.callS X9 hx (y := mN2) hown (mvT hZ (own_w hw 88 rfl)) (mvT hZ (own_w hw 89 rfl)) (mvT hZ (own_w hw 35 rfl)) (mvT hZ (own_w hw 90 rfl)) (by decide) (backOf (W := 1) (rm20 l Z a0 hw [] (ds.getD 1 0)  h0 n0 Z0 ) hZ (own_w hw 90 rfl) (own_w hw 35 rfl) (by decide) (by decide)) (g := (mkF m 47 #[.val (.ref x1), .val (.ref x2), .val (.int (Int32.ofNat (min cs.length ds.length))), .val (.int 1), .val (.int (cs.getD 1 0)), .val (.int (ds.getD 1 0))] [(.int (ds.getD 1 0)), (.int (own_rank (cs.getD 1 0)))])) rfl (by rw [hml]; rfl) (argsL := [(.int (ds.getD 1 0))]) (rest := [(.int (own_rank (cs.getD 1 0)))]) (lenOf pd_0 rfl) rfl (by show 2 * 0 + _ ≤ _; exact Nat.le_of_eq rfl) (hb hby d7_47) (fun _ _ => ⟨rfl, eq9, (by decide : 0 + 0 ≤ _), (by decide : 0 + 0 ≤ _)⟩)
      dsimp only [Pt.U, Pt.locs, Pt.cells, Pt.slots] at X11 l11 y11 z11 st11 hQ11
      subst l11 y11 z11
      have X11 : Stand p l e _ _ m _ below meth c T11 _ 0 0 := X11
      obtain ⟨rfl, Nq11, eq11⟩ := hQ11
      have Nf11 := Fr.app Nf9 Nq11
      have kn12 : ∀ t, own_S p e below T11 (mkF m 51 #[.val (.ref x1), .val (.ref x2), .val (.int (Int32.ofNat (min cs.length ds.length))), .val (.int 1), .val (.int (cs.getD 1 0)), .val (.int (ds.getD 1 0))] [(.int ((own_rank (cs.getD 1 0)) - (own_rank (ds.getD 1 0))))]) t → own_S p e below T0 (mkF m 14 #[.val (.ref x1), .val (.ref x2), .val (.int (Int32.ofNat (min cs.length ds.length))), .val (.int 1), .val (.int q4), .val (.int q5)] []) t := fun t kt => kn10 t (st11 _ (by
        show own_S p e below T11 (mkF m 50 #[.val (.ref x1), .val (.ref x2), .val (.int (Int32.ofNat (min cs.length ds.length))), .val (.int 1), .val (.int (cs.getD 1 0)), .val (.int (ds.getD 1 0))] [(.int (own_rank (ds.getD 1 0))), (.int (own_rank (cs.getD 1 0)))]) _
        refine XS.isub X11.here hx rfl (hb hby d7_50) rfl ?_
        exact kt))
      obtain ⟨fs, hr, hrun, hended, hW, hsame⟩ := X11.leave (v := some (.int ((own_rank (cs.getD 1 0)) - (own_rank (ds.getD 1 0))))) (fun h => by rw [hret] at h; cases h)
      refine ⟨_, _, id (kn12 _ (retI X11 hx hret (hb hby d7_51) hr)), hrun, hended, _, _, rfl, ?_, ⟨_, rfl⟩, hW, hsame.mono (by decide) (by decide)⟩
      show Q7 Z x1 x2 t_x1 k_x1 d_x1 n_x1 v_x1 cs t_x2 k_x2 d_x2 n_x2 v_x2 ds G1 G3 h0 n0 _ T11.heap _
      rw [eq11]
      exact ⟨congrArg own_sv (hv.trans (own_cd hin hc37)).symm, Nf11, rfl⟩
  · have kn13 : ∀ t, own_S p e below T0 (mkF m 59 #[.val (.ref x1), .val (.ref x2), .val (.int (Int32.ofNat (min cs.length ds.length))), .val (.int 1), .val (.int q4), .val (.int q5)] [(.ref x1)]) t → own_S p e below T0 (mkF m 14 #[.val (.ref x1), .val (.ref x2), .val (.int (Int32.ofNat (min cs.length ds.length))), .val (.int 1), .val (.int q4), .val (.int q5)] []) t := fun t kt => kn1 t (by
      show own_S p e below T0 (mkF m 16 #[.val (.ref x1), .val (.ref x2), .val (.int (Int32.ofNat (min cs.length ds.length))), .val (.int 1), .val (.int q4), .val (.int q5)] [(.int (Int32.ofNat (min cs.length ds.length))), (.int 1)]) _
      refine XS.icmpYes X0.here hx rfl (pc0 := 16) (pc' := 58) rfl (hb hby d7_16) rfl (flt hc16).2.1 (by decide) (by decide) ?_
      refine XS.aloadN X0.here hx rfl (hb hby d7_58) rfl rfl ?_
      exact kt)
    have hln : ∀ d ∈ StrChars.Road.wordsLen, d.before a0 Z = true := fun d hd => hw d ((by decide +kernel : ∀ d ∈ StrChars.Road.wordsLen, d ∈ tables_1) d hd)
    obtain ⟨cq14, kq14, qa14, qb14, qc14⟩ := isOf hZ e0 E_x1
    obtain ⟨_, _, ⟨T14, L14, cc14, ss14⟩, -, X14, ⟨Lc14, hQ14, l14, y14, z14⟩, st14⟩ := X0.virtualBack hx (y := mN14) (z := mN14) hown (mvT hZ (own_w hw 37 rfl)) (mvT hZ (own_w hw 38 rfl)) (notFace_of_selects (args := #[]) (mvT hZ (own_w hw 40 rfl))) (mvT hZ (own_w hw 40 rfl)) (mvT hZ (own_w hw 39 rfl)) (by decide) (StrChars.Road.lenW (W := 0) hZ hln (kI := 4) (own_w hw 7 rfl) E_x1 V_x1 C_x1 K_x1 hcd_x1 hbd_x1 (O2.ext O0.2) P5 (Nat.le_trans hl_x1 (by decide)) (by decide) (by decide)) qa14 qc14 (g := (mkF m 59 #[.val (.ref x1), .val (.ref x2), .val (.int (Int32.ofNat (min cs.length ds.length))), .val (.int 1), .val (.int q4), .val (.int q5)] [(.ref x1)])) rfl (by rw [hml]; rfl) (Steps.refl _) (argsL := []) (rest := []) (lenOf pd_8 rfl) rfl (by show 2 * 0 + _ ≤ _; exact Nat.le_of_eq rfl) (hb hby d7_59) (fun _ _ => ⟨rfl, e0, (by decide : 0 + 0 ≤ _), (by decide : 0 + 0 ≤ _)⟩)
    dsimp only [Pt.U, Pt.locs, Pt.cells, Pt.slots] at X14 l14 y14 z14 st14 hQ14
    subst l14 y14 z14
    have X14 : Stand p l e _ _ m _ below meth c T14 _ 0 0 := X14
    obtain ⟨rfl, rfl, eq14⟩ := hQ14
    have Nq14 : Fr n0 ([] : List Loc) := Fr.nil n0
    have Nf14 := Fr.app Nf0 Nq14
    have kn15 : ∀ t, own_S p e below T14 (mkF m 63 #[.val (.ref x1), .val (.ref x2), .val (.int (Int32.ofNat (min cs.length ds.length))), .val (.int 1), .val (.int q4), .val (.int q5)] [(.ref x2), (.int (Int32.ofNat cs.length))]) t → own_S p e below T0 (mkF m 14 #[.val (.ref x1), .val (.ref x2), .val (.int (Int32.ofNat (min cs.length ds.length))), .val (.int 1), .val (.int q4), .val (.int q5)] []) t := fun t kt => kn13 t (st14.trans (by
      show own_S p e below T14 (mkF m 62 #[.val (.ref x1), .val (.ref x2), .val (.int (Int32.ofNat (min cs.length ds.length))), .val (.int 1), .val (.int q4), .val (.int q5)] [(.int (Int32.ofNat cs.length))]) _
      refine XS.aloadN X14.here hx rfl (hb hby d7_62) rfl rfl ?_
      exact kt))
    obtain ⟨cq16, kq16, qa16, qb16, qc16⟩ := isOf hZ eq14 E_x2
    obtain ⟨_, _, ⟨T16, L16, cc16, ss16⟩, -, X16, ⟨Lc16, hQ16, l16, y16, z16⟩, st16⟩ := X14.virtualBack hx (y := mN14) (z := mN14) hown (mvT hZ (own_w hw 37 rfl)) (mvT hZ (own_w hw 38 rfl)) (notFace_of_selects (args := #[]) (mvT hZ (own_w hw 40 rfl))) (mvT hZ (own_w hw 40 rfl)) (mvT hZ (own_w hw 39 rfl)) (by decide) (StrChars.Road.lenW (W := 1) hZ hln (kI := 4) (own_w hw 7 rfl) E_x2 V_x2 C_x2 K_x2 hcd_x2 hbd_x2 (O2.ext O0.2) P5 (Nat.le_trans hl_x2 (by decide)) (by decide) (by decide)) qa16 qc16 (g := (mkF m 63 #[.val (.ref x1), .val (.ref x2), .val (.int (Int32.ofNat (min cs.length ds.length))), .val (.int 1), .val (.int q4), .val (.int q5)] [(.ref x2), (.int (Int32.ofNat cs.length))])) rfl (by rw [hml]; rfl) (Steps.refl _) (argsL := []) (rest := [(.int (Int32.ofNat cs.length))]) (lenOf pd_8 rfl) rfl (by show 2 * 0 + _ ≤ _; exact Nat.le_of_eq rfl) (hb hby d7_63) (fun _ _ => ⟨rfl, eq14, (by decide : 0 + 0 ≤ _), (by decide : 0 + 0 ≤ _)⟩)
    dsimp only [Pt.U, Pt.locs, Pt.cells, Pt.slots] at X16 l16 y16 z16 st16 hQ16
    subst l16 y16 z16
    have X16 : Stand p l e _ _ m _ below meth c T16 _ 0 0 := X16
    obtain ⟨rfl, rfl, eq16⟩ := hQ16
    have Nq16 : Fr n0 ([] : List Loc) := Fr.nil n0
    have Nf16 := Fr.app Nf14 Nq16
    have kn17 : ∀ t, own_S p e below T16 (mkF m 67 #[.val (.ref x1), .val (.ref x2), .val (.int (Int32.ofNat (min cs.length ds.length))), .val (.int 1), .val (.int q4), .val (.int q5)] [(.int ((Int32.ofNat cs.length) - (Int32.ofNat ds.length)))]) t → own_S p e below T0 (mkF m 14 #[.val (.ref x1), .val (.ref x2), .val (.int (Int32.ofNat (min cs.length ds.length))), .val (.int 1), .val (.int q4), .val (.int q5)] []) t := fun t kt => kn15 t (st16.trans (by
      show own_S p e below T16 (mkF m 66 #[.val (.ref x1), .val (.ref x2), .val (.int (Int32.ofNat (min cs.length ds.length))), .val (.int 1), .val (.int q4), .val (.int q5)] [(.int (Int32.ofNat ds.length)), (.int (Int32.ofNat cs.length))]) _
      refine XS.isub X16.here hx rfl (hb hby d7_66) rfl ?_
      exact kt))
    obtain ⟨fs, hr, hrun, hended, hW, hsame⟩ := X16.leave (v := some (.int ((Int32.ofNat cs.length) - (Int32.ofNat ds.length)))) (fun h => by rw [hret] at h; cases h)
    refine ⟨_, _, id (kn17 _ (retI X16 hx hret (hb hby d7_67) hr)), hrun, hended, _, _, rfl, ?_, ⟨_, rfl⟩, hW, hsame.mono (by decide) (by decide)⟩
    show Q7 Z x1 x2 t_x1 k_x1 d_x1 n_x1 v_x1 cs t_x2 k_x2 d_x2 n_x2 v_x2 ds G1 G3 h0 n0 _ T16.heap _
    rw [eq16]
    exact ⟨congrArg own_sv (hv.trans (own_ce fun q => hc16 ((own_c3 (i := 1) (by decide) hl_x1 hl_x2 rfl rfl).mpr q))).symm, Nf16, rfl⟩

theorem cm_0 {p : Program} {l : Launch} {e : Env} {s : State} {m : MethodId} {args : Array Value} {below : List Frame} {meth : Method} {c : Code} {T0 : State} {locs : List Loc} {Z : State} {a0 : Array Value} {h0 : Heap} {n0 : Nat} (x1 : Addr) (x2 : Addr) (t_x1 : Addr) (k_x1 : ClassId) (d_x1 : Int32) (n_x1 : Int32) (v_x1 : List Value) (cs : List Int32) (t_x2 : Addr) (k_x2 : ClassId) (d_x2 : Int32) (n_x2 : Int32) (v_x2 : List Value) (ds : List Int32) (G1 : Int32) (G3 : Value)
    (X0 : Stand p l e (own_r 8 0 0 130) s m args below meth c T0 locs 0 0) (hx : p.tables.exec = Jvm.exec) (hZ : Z.Warmed39 s.vm) (hw : ∀ d ∈ tables_1, d.before a0 Z = true) (hby : c.code = prog_43_method_7_code) (hml : c.maxLocals = 6) (hown : s.vm.findClass "com/example/caddis/caddis/StatementSet" = some m.cls) (hret : meth.sig.returnType = some .int) (hlk : meth.locks = false) (e0 : T0.heap = h0) (Nf0 : Fr n0 locs) (Z0 : n0 ≤ h0.size) (E_x1 : Exa Z h0 x1 "java/lang/String") (V_x1 : Fld Z h0 x1 "java/lang/String" "value" "[B" (.ref t_x1)) (C_x1 : Fld Z h0 x1 "java/lang/String" "coder" "B" (.int d_x1)) (K_x1 : Arv Z h0 t_x1 k_x1 .byte n_x1 v_x1 (.int (0 : Int32))) (hcd_x1 : StrChars.Road.CodA cs d_x1 n_x1 v_x1) (hbd_x1 : ∀ c ∈ cs, own_rg c) (hl_x1 : cs.length ≤ 3) (E_x2 : Exa Z h0 x2 "java/lang/String") (V_x2 : Fld Z h0 x2 "java/lang/String" "value" "[B" (.ref t_x2)) (C_x2 : Fld Z h0 x2 "java/lang/String" "coder" "B" (.int d_x2)) (K_x2 : Arv Z h0 t_x2 k_x2 .byte n_x2 v_x2 (.int (0 : Int32))) (hcd_x2 : StrChars.Road.CodA ds d_x2 n_x2 v_x2) (hbd_x2 : ∀ c ∈ ds, own_rg c) (hl_x2 : ds.length ≤ 3) (O0 : Old Z n0 h0) (O2 : Sta Z Z.heap "java/lang/String" "COMPACT_STRINGS" "Z" (.int G1)) (P5 : ¬ (G1 = (0 : Int32))) (O4 : Sta Z Z.heap "jdk/internal/util/Preconditions" "SIOOBE_FORMATTER" "Ljava/util/function/BiFunction;" G3) (rG3 : G3.isRef = true) (U1 : Sta Z Z.heap "java/lang/StringUTF16" "$assertionsDisabled" "Z" (.int (1 : Int32))) (U2 : Sta Z Z.heap "java/lang/StringUTF16" "HI_BYTE_SHIFT" "I" (.int (0 : Int32))) (U3 : Sta Z Z.heap "java/lang/StringUTF16" "LO_BYTE_SHIFT" "I" (.int (8 : Int32))) (hv : own_cmp cs ds 0 3 = own_cmp cs ds 0 3) :
    ∃ s₂ o, Steps p.tables e below (T0.setTop (mkF m 14 #[.val (.ref x1), .val (.ref x2), .val (.int (Int32.ofNat (min cs.length ds.length))), .val (.int 0), .unset, .unset] [])) s₂ ∧ s₂.status = .running ∧ Ended s₂ below o ∧ ∃ v L, o = .returned v ∧ Q7 Z x1 x2 t_x1 k_x1 d_x1 n_x1 v_x1 cs t_x2 k_x2 d_x2 n_x2 v_x2 ds G1 G3 h0 n0 v s₂.heap L ∧ FrameEnd s o s₂ L (own_r 8 0 0 130).cells (own_r 8 0 0 130).slots := by
  have kn0 : ∀ t, own_S p e below T0 (mkF m 14 #[.val (.ref x1), .val (.ref x2), .val (.int (Int32.ofNat (min cs.length ds.length))), .val (.int 0), .unset, .unset] []) t → own_S p e below T0 (mkF m 14 #[.val (.ref x1), .val (.ref x2), .val (.int (Int32.ofNat (min cs.length ds.length))), .val (.int 0), .unset, .unset] []) t := fun t k => k
  have kn1 : ∀ t, own_S p e below T0 (mkF m 16 #[.val (.ref x1), .val (.ref x2), .val (.int (Int32.ofNat (min cs.length ds.length))), .val (.int 0), .unset, .unset] [(.int (Int32.ofNat (min cs.length ds.length))), (.int 0)]) t → own_S p e below T0 (mkF m 14 #[.val (.ref x1), .val (.ref x2), .val (.int (Int32.ofNat (min cs.length ds.length))), .val (.int 0), .unset, .unset] []) t := fun t kt => kn0 t (by
    show own_S p e below T0 (mkF m 14 #[.val (.ref x1), .val (.ref x2), .val (.int (Int32.ofNat (min cs.length ds.length))), .val (.int 0), .unset, .unset] []) _
    refine XS.iloadN X0.here hx rfl (hb hby d7_14) rfl ?_
    refine XS.iloadN X0.here hx rfl (hb hby d7_15) rfl ?_
    exact kt)
  by_cases hc16 : (0 : Int32) < (Int32.ofNat (min cs.length ds.length))
  · have hin := (own_c3 (i := 0) (by decide) hl_x1 hl_x2 rfl rfl).mp hc16
    have kn2 : ∀ t, own_S p e below T0 (mkF m 21 #[.val (.ref x1), .val (.ref x2), .val (.int (Int32.ofNat (min cs.length ds.length))), .val (.int 0), .unset, .unset] [(.int 0), (.ref x1)]) t → own_S p e below T0 (mkF m 14 #[.val (.ref x1), .val (.ref x2), .val (.int (Int32.ofNat (min cs.length ds.length))), .val (.int 0), .unset, .unset] []) t := fun t kt => kn1 t (by
      show own_S p e below T0 (mkF m 16 #[.val (.ref x1), .val (.ref x2), .val (.int (Int32.ofNat (min cs.length ds.length))), .val (.int 0), .unset, .unset] [(.int (Int32.ofNat (min cs.length ds.length))), (.int 0)]) _
      refine XS.icmpNo X0.here hx rfl (hb hby d7_16) rfl (tlt hc16).2.1 ?_
      refine XS.aloadN X0.here hx rfl (hb hby d7_19) rfl rfl ?_
      refine XS.iloadN X0.here hx rfl (hb hby d7_20) rfl ?_
      exact kt)
    obtain ⟨cq3, kq3, qa3, qb3, qc3⟩ := isOf hZ e0 E_x1
    obtain ⟨_, _, ⟨T3, L3, cc3, ss3⟩, -, X3, ⟨Lc3, hQ3, l3, y3, z3⟩, st3⟩ := X0.virtualBack hx (y := mN13) (z := mN13) hown (mvT hZ (own_w hw 66 rfl)) (mvT hZ (own_w hw 67 rfl)) (notFace_of_selects (args := #[]) (mvT hZ (own_w hw 69 rfl))) (mvT hZ (own_w hw 69 rfl)) (mvT hZ (own_w hw 68 rfl)) (by decide) (backOf (W := 0) (rm15_0 l Z a0 hw [] x1 t_x1 k_x1 cs d_x1 n_x1 v_x1 G1 G3 h0 n0 Z0 E_x1 V_x1 C_x1 K_x1 hcd_x1 hin.1 hl_x1 hbd_x1 O0 O2 P5 O4 rG3 U1 U2 U3) hZ (own_w hw 70 rfl) (own_w hw 8 rfl) (by decide) (by decide)) qa3 qc3 (g := (mkF m 21 #[.val (.ref x1), .val (.ref x2), .val (.int (Int32.ofNat (min cs.length ds.length))), .val (.int 0), .unset, .unset] [(.int 0), (.ref x1)])) rfl (by rw [hml]; rfl) (Steps.refl _) (argsL := [(.int 0)]) (rest := []) (lenOf pd_9 rfl) rfl (by show 2 * 0 + _ ≤ _; exact Nat.le_of_eq rfl) (hb hby d7_21) (fun _ _ => ⟨rfl, e0, (by decide : 0 + 0 ≤ _), (by decide : 0 + 0 ≤ _)⟩)
    dsimp only [Pt.U, Pt.locs, Pt.cells, Pt.slots] at X3 l3 y3 z3 st3 hQ3
    subst l3 y3 z3
    have X3 : Stand p l e _ _ m _ below meth c T3 _ 0 0 := X3
    obtain ⟨rfl, Nq3, eq3⟩ := hQ3
    have Nf3 := Fr.app Nf0 Nq3
    have kn4 : ∀ t, own_S p e below T3 (mkF m 28 #[.val (.ref x1), .val (.ref x2), .val (.int (Int32.ofNat (min cs.length ds.length))), .val (.int 0), .val (.int (cs.getD 0 0)), .unset] [(.int 0), (.ref x2)]) t → own_S p e below T0 (mkF m 14 #[.val (.ref x1), .val (.ref x2), .val (.int (Int32.ofNat (min cs.length ds.length))), .val (.int 0), .unset, .unset] []) t := fun t kt => kn2 t (st3.trans (by
      show own_S p e below T3 (mkF m 24 #[.val (.ref x1), .val (.ref x2), .val (.int (Int32.ofNat (min cs.length ds.length))), .val (.int 0), .unset, .unset] [(.int (cs.getD 0 0))]) _
      refine XS.istore X3.here hx rfl (hb hby d7_24) rfl (l' := #[.val (.ref x1), .val (.ref x2), .val (.int (Int32.ofNat (min cs.length ds.length))), .val (.int 0), .val (.int (cs.getD 0 0)), .unset]) rfl ?_
      refine XS.aloadN X3.here hx rfl (hb hby d7_26) rfl rfl ?_
      refine XS.iloadN X3.here hx rfl (hb hby d7_27) rfl ?_
      exact kt))
    obtain ⟨cq5, kq5, qa5, qb5, qc5⟩ := isOf hZ eq3 E_x2
    obtain ⟨_, _, ⟨T5, L5, cc5, ss5⟩, -, X5, ⟨Lc5, hQ5, l5, y5, z5⟩, st5⟩ := X3.virtualBack hx (y := mN13) (z := mN13) hown (mvT hZ (own_w hw 66 rfl)) (mvT hZ (own_w hw 67 rfl)) (notFace_of_selects (args := #[]) (mvT hZ (own_w hw 69 rfl))) (mvT hZ (own_w hw 69 rfl)) (mvT hZ (own_w hw 68 rfl)) (by decide) (backOf (W := 0) (rm15_0 l Z a0 hw [] x2 t_x2 k_x2 ds d_x2 n_x2 v_x2 G1 G3 h0 n0 Z0 E_x2 V_x2 C_x2 K_x2 hcd_x2 hin.2 hl_x2 hbd_x2 O0 O2 P5 O4 rG3 U1 U2 U3) hZ (own_w hw 70 rfl) (own_w hw 8 rfl) (by decide) (by decide)) qa5 qc5 (g := (mkF m 28 #[.val (.ref x1), .val (.ref x2), .val (.int (Int32.ofNat (min cs.length ds.length))), .val (.int 0), .val (.int (cs.getD 0 0)), .unset] [(.int 0), (.ref x2)])) rfl (by rw [hml]; rfl) (Steps.refl _) (argsL := [(.int 0)]) (rest := []) (lenOf pd_9 rfl) rfl (by show 2 * 0 + _ ≤ _; exact Nat.le_of_eq rfl) (hb hby d7_28) (fun _ _ => ⟨rfl, eq3, (by decide : 0 + 0 ≤ _), (by decide : 0 + 0 ≤ _)⟩)
    dsimp only [Pt.U, Pt.locs, Pt.cells, Pt.slots] at X5 l5 y5 z5 st5 hQ5
    subst l5 y5 z5
    have X5 : Stand p l e _ _ m _ below meth c T5 _ 0 0 := X5
    obtain ⟨rfl, Nq5, eq5⟩ := hQ5
    have Nf5 := Fr.app Nf3 Nq5
    have kn6 : ∀ t, own_S p e below T5 (mkF m 37 #[.val (.ref x1), .val (.ref x2), .val (.int (Int32.ofNat (min cs.length ds.length))), .val (.int 0), .val (.int (cs.getD 0 0)), .val (.int (ds.getD 0 0))] [(.int (ds.getD 0 0)), (.int (cs.getD 0 0))]) t → own_S p e below T0 (mkF m 14 #[.val (.ref x1), .val (.ref x2), .val (.int (Int32.ofNat (min cs.length ds.length))), .val (.int 0), .unset, .unset] []) t := fun t kt => kn4 t (st5.trans (by
      show own_S p e below T5 (mkF m 31 #[.val (.ref x1), .val (.ref x2), .val (.int (Int32.ofNat (min cs.length ds.length))), .val (.int 0), .val (.int (cs.getD 0 0)), .unset] [(.int (ds.getD 0 0))]) _
      refine XS.istore X5.here hx rfl (hb hby d7_31) rfl (l' := #[.val (.ref x1), .val (.ref x2), .val (.int (Int32.ofNat (min cs.length ds.length))), .val (.int 0), .val (.int (cs.getD 0 0)), .val (.int (ds.getD 0 0))]) rfl ?_
      refine XS.iload X5.here hx rfl (hb hby d7_33) rfl ?_
      refine XS.iload X5.here hx rfl (hb hby d7_35) rfl ?_
      exact kt))
    by_cases hc37 : (cs.getD 0 0) = (ds.getD 0 0)
    · have kn7 : ∀ t, own_S p e below T5 (mkF m 14 #[.val (.ref x1), .val (.ref x2), .val (.int (Int32.ofNat (min cs.length ds.length))), .val (.int 1), .val (.int (cs.getD 0 0)), .val (.int (ds.getD 0 0))] []) t → own_S p e below T0 (mkF m 14 #[.val (.ref x1), .val (.ref x2), .val (.int (Int32.ofNat (min cs.length ds.length))), .val (.int 0), .unset, .unset] []) t := fun t kt => kn6 t (by
        show own_S p e below T5 (mkF m 37 #[.val (.ref x1), .val (.ref x2), .val (.int (Int32.ofNat (min cs.length ds.length))), .val (.int 0), .val (.int (cs.getD 0 0)), .val (.int (ds.getD 0 0))] [(.int (ds.getD 0 0)), (.int (cs.getD 0 0))]) _
        refine XS.icmpYes X5.here hx rfl (pc0 := 37) (pc' := 52) rfl (hb hby d7_37) rfl (teq hc37).1 (by decide) (by decide) ?_
        show own_S p e below T5 (mkF m 52 #[.val (.ref x1), .val (.ref x2), .val (.int (Int32.ofNat (min cs.length ds.length))), .val (.int 0), .val (.int (cs.getD 0 0)), .val (.int (ds.getD 0 0))] []) _
        refine XS.iinc X5.here hx rfl (hb hby d7_52) rfl (l' := #[.val (.ref x1), .val (.ref x2), .val (.int (Int32.ofNat (min cs.length ds.length))), .val (.int ((0 : Int32) + (1 : Int32))), .val (.int (cs.getD 0 0)), .val (.int (ds.getD 0 0))]) rfl ?_
        rw [(by decide : ((0 : Int32) + (1 : Int32)) = (1 : Int32))]
        refine XS.goto X5.here hx rfl (pc0 := 55) (pc' := 14) rfl (hb hby d7_55) (by decide) (by decide) ?_
        exact kt)
      obtain ⟨s2, o2, t1, t2, t3, t4⟩ := cm_1 (n0 := n0) x1 x2 t_x1 k_x1 d_x1 n_x1 v_x1 cs t_x2 k_x2 d_x2 n_x2 v_x2 ds G1 G3 (cs.getD 0 0) (ds.getD 0 0) X5 hx hZ hw hby hml hown hret hlk eq5 Nf5 Z0 E_x1 V_x1 C_x1 K_x1 hcd_x1 hbd_x1 hl_x1 E_x2 V_x2 C_x2 K_x2 hcd_x2 hbd_x2 hl_x2 O0 O2 P5 O4 rG3 U1 U2 U3 (hv.trans (own_cs hin hc37))
      exact ⟨s2, o2, id (kn7 _ (t1)), t2, t3, t4⟩
    · have kn8 : ∀ t, own_S p e below T5 (mkF m 42 #[.val (.ref x1), .val (.ref x2), .val (.int (Int32.ofNat (min cs.length ds.length))), .val (.int 0), .val (.int (cs.getD 0 0)), .val (.int (ds.getD 0 0))] [(.int (cs.getD 0 0))]) t → own_S p e below T0 (mkF m 14 #[.val (.ref x1), .val (.ref x2), .val (.int (Int32.ofNat (min cs.length ds.length))), .val (.int 0), .unset, .unset] []) t := fun t kt => kn6 t (by
        show own_S p e below T5 (mkF m 37 #[.val (.ref x1), .val (.ref x2), .val (.int (Int32.ofNat (min cs.length ds.length))), .val (.int 0), .val (.int (cs.getD 0 0)), .val (.int (ds.getD 0 0))] [(.int (ds.getD 0 0)), (.int (cs.getD 0 0))]) _
        refine XS.icmpNo X5.here hx rfl (hb hby d7_37) rfl (feq hc37).1 ?_
        refine XS.iload X5.here hx rfl (hb hby d7_40) rfl ?_
        exact kt)
      obtain ⟨_, _, ⟨T9, L9, cc9, ss9⟩, -, X9, ⟨Lc9, hQ9, l9, y9, z9⟩, st9⟩ := Jvm.LawKit.callS X5 hx (y := mN2) hown (mvT hZ (own_w hw 88 rfl)) (mvT hZ (own_w hw 89 rfl)) (mvT hZ (own_w hw 35 rfl)) (mvT hZ (own_w hw 90 rfl)) (by decide) (backOf (W := 0) (rm20 l Z a0 hw [] (cs.getD 0 0)  h0 n0 Z0 ) hZ (own_w hw 90 rfl) (own_w hw 35 rfl) (by decide) (by decide)) (g := (mkF m 42 #[.val (.ref x1), .val (.ref x2), .val (.int (Int32.ofNat (min cs.length ds.length))), .val (.int 0), .val (.int (cs.getD 0 0)), .val (.int (ds.getD 0 0))] [(.int (cs.getD 0 0))])) rfl (by rw [hml]; rfl) (argsL := [(.int (cs.getD 0 0))]) (rest := []) (lenOf pd_0 rfl) rfl (by show 2 * 0 + _ ≤ _; exact Nat.le_of_eq rfl) (hb hby d7_42) (fun _ _ => ⟨rfl, eq5, (by decide : 0 + 0 ≤ _), (by decide : 0 + 0 ≤ _)⟩)
      dsimp only [Pt.U, Pt.locs, Pt.cells, Pt.slots] at X9 l9 y9 z9 st9 hQ9
      subst l9 y9 z9
      have X9 : Stand p l e _ _ m _ below meth c T9 _ 0 0 := X9
      obtain ⟨rfl, Nq9, eq9⟩ := hQ9
      have Nf9 := Fr.app Nf5 Nq9
      have kn10 : ∀ t, own_S p e below T9 (mkF m 47 #[.val (.ref x1), .val (.ref x2), .val (.int (Int32.ofNat (min cs.length ds.length))), .val (.int 0), .val (.int (cs.getD 0 0)), .val (.int (ds.getD 0 0))] [(.int (ds.getD 0 0)), (.int (own_rank (cs.getD 0 0)))]) t → own_S p e below T0 (mkF m 14 #[.val (.ref x1), .val (.ref x2), .val (.int (Int32.ofNat (min cs.length ds.length))), .val (.int 0), .unset, .unset] []) t := fun t kt => kn8 t (st9 _ (by
        show own_S p e below T9 (mkF m 45 #[.val (.ref x1), .val (.ref x2), .val (.int (Int32.ofNat (min cs.length ds.length))), .val (.int 0), .val (.int (cs.getD 0 0)), .val (.int (ds.getD 0 0))] [(.int (own_rank (cs.getD 0 0)))]) _
        refine XS.iload X9.here hx rfl (hb hby d7_45) rfl ?_
        exact kt))
      obtain ⟨_, _, ⟨T11, L11, cc11, ss11⟩, -, X11, ⟨Lc11, hQ11, l11, y11, z11⟩, st11⟩ := Jvm.LawKit.callS X9 hx (y := mN2) hown (mvT hZ (own_w hw 88 rfl)) (mvT hZ (own_w hw 89 rfl)) (mvT hZ (own_w hw 35 rfl)) (mvT hZ (own_w hw 90 rfl)) (by decide) (backOf (W := 1) (rm20 l Z a0 hw [] (ds.getD 0 0)  h0 n0 Z0 ) hZ (own_w hw 90 rfl) (own_w hw 35 rfl) (by decide) (by decide)) (g := (mkF m 47 #[.val (.ref x1), .val (.ref x2), .val (.int (Int32.ofNat (min cs.length ds.length))), .val (.int 0), .val (.int (cs.getD 0 0)), .val (.int (ds.getD 0 0))] [(.int (ds.getD 0 0)), (.int (own_rank (cs.getD 0 0)))])) rfl (by rw [hml]; rfl) (argsL := [(.int (ds.getD 0 0))]) (rest := [(.int (own_rank (cs.getD 0 0)))]) (lenOf pd_0 rfl) rfl (by show 2 * 0 + _ ≤ _; exact Nat.le_of_eq rfl) (hb hby d7_47) (fun _ _ => ⟨rfl, eq9, (by decide : 0 + 0 ≤ _), (by decide : 0 + 0 ≤ _)⟩)
      dsimp only [Pt.U, Pt.locs, Pt.cells, Pt.slots] at X11 l11 y11 z11 st11 hQ11
      subst l11 y11 z11
      have X11 : Stand p l e _ _ m _ below meth c T11 _ 0 0 := X11
      obtain ⟨rfl, Nq11, eq11⟩ := hQ11
      have Nf11 := Fr.app Nf9 Nq11
      have kn12 : ∀ t, own_S p e below T11 (mkF m 51 #[.val (.ref x1), .val (.ref x2), .val (.int (Int32.ofNat (min cs.length ds.length))), .val (.int 0), .val (.int (cs.getD 0 0)), .val (.int (ds.getD 0 0))] [(.int ((own_rank (cs.getD 0 0)) - (own_rank (ds.getD 0 0))))]) t → own_S p e below T0 (mkF m 14 #[.val (.ref x1), .val (.ref x2), .val (.int (Int32.ofNat (min cs.length ds.length))), .val (.int 0), .unset, .unset] []) t := fun t kt => kn10 t (st11 _ (by
        show own_S p e below T11 (mkF m 50 #[.val (.ref x1), .val (.ref x2), .val (.int (Int32.ofNat (min cs.length ds.length))), .val (.int 0), .val (.int (cs.getD 0 0)), .val (.int (ds.getD 0 0))] [(.int (own_rank (ds.getD 0 0))), (.int (own_rank (cs.getD 0 0)))]) _
        refine XS.isub X11.here hx rfl (hb hby d7_50) rfl ?_
        exact kt))
      obtain ⟨fs, hr, hrun, hended, hW, hsame⟩ := X11.leave (v := some (.int ((own_rank (cs.getD 0 0)) - (own_rank (ds.getD 0 0))))) (fun h => by rw [hret] at h; cases h)
      refine ⟨_, _, id (kn12 _ (retI X11 hx hret (hb hby d7_51) hr)), hrun, hended, _, _, rfl, ?_, ⟨_, rfl⟩, hW, hsame.mono (by decide) (by decide)⟩
      show Q7 Z x1 x2 t_x1 k_x1 d_x1 n_x1 v_x1 cs t_x2 k_x2 d_x2 n_x2 v_x2 ds G1 G3 h0 n0 _ T11.heap _
      rw [eq11]
      exact ⟨congrArg own_sv (hv.trans (own_cd hin hc37)).symm, Nf11, rfl⟩
  · have kn13 : ∀ t, own_S p e below T0 (mkF m 59 #[.val (.ref x1), .val (.ref x2), .val (.int (Int32.ofNat (min cs.length ds.length))), .val (.int 0), .unset, .unset] [(.ref x1)]) t → own_S p e below T0 (mkF m 14 #[.val (.ref x1), .val (.ref x2), .val (.int (Int32.ofNat (min cs.length ds.length))), .val (.int 0), .unset, .unset] []) t := fun t kt => kn1 t (by
      show own_S p e below T0 (mkF m 16 #[.val (.ref x1), .val (.ref x2), .val (.int (Int32.ofNat (min cs.length ds.length))), .val (.int 0), .unset, .unset] [(.int (Int32.ofNat (min cs.length ds.length))), (.int 0)]) _
      refine XS.icmpYes X0.here hx rfl (pc0 := 16) (pc' := 58) rfl (hb hby d7_16) rfl (flt hc16).2.1 (by decide) (by decide) ?_
      refine XS.aloadN X0.here hx rfl (hb hby d7_58) rfl rfl ?_
      exact kt)
    have hln : ∀ d ∈ StrChars.Road.wordsLen, d.before a0 Z = true := fun d hd => hw d ((by decide +kernel : ∀ d ∈ StrChars.Road.wordsLen, d ∈ tables_1) d hd)
    obtain ⟨cq14, kq14, qa14, qb14, qc14⟩ := isOf hZ e0 E_x1
    obtain ⟨_, _, ⟨T14, L14, cc14, ss14⟩, -, X14, ⟨Lc14, hQ14, l14, y14, z14⟩, st14⟩ := X0.virtualBack hx (y := mN14) (z := mN14) hown (mvT hZ (own_w hw 37 rfl)) (mvT hZ (own_w hw 38 rfl)) (notFace_of_selects (args := #[]) (mvT hZ (own_w hw 40 rfl))) (mvT hZ (own_w hw 40 rfl)) (mvT hZ (own_w hw 39 rfl)) (by decide) (StrChars.Road.lenW (W := 0) hZ hln (kI := 4) (own_w hw 7 rfl) E_x1 V_x1 C_x1 K_x1 hcd_x1 hbd_x1 (O2.ext O0.2) P5 (Nat.le_trans hl_x1 (by decide)) (by decide) (by decide)) qa14 qc14 (g := (mkF m 59 #[.val (.ref x1), .val (.ref x2), .val (.int (Int32.ofNat (min cs.length ds.length))), .val (.int 0), .unset, .unset] [(.ref x1)])) rfl (by rw [hml]; rfl) (Steps.refl _) (argsL := []) (rest := []) (lenOf pd_8 rfl) rfl (by show 2 * 0 + _ ≤ _; exact Nat.le_of_eq rfl) (hb hby d7_59) (fun _ _ => ⟨rfl, e0, (by decide : 0 + 0 ≤ _), (by decide : 0 + 0 ≤ _)⟩)
    dsimp only [Pt.U, Pt.locs, Pt.cells, Pt.slots] at X14 l14 y14 z14 st14 hQ14
    subst l14 y14 z14
    have X14 : Stand p l e _ _ m _ below meth c T14 _ 0 0 := X14
    obtain ⟨rfl, rfl, eq14⟩ := hQ14
    have Nq14 : Fr n0 ([] : List Loc) := Fr.nil n0
    have Nf14 := Fr.app Nf0 Nq14
    have kn15 : ∀ t, own_S p e below T14 (mkF m 63 #[.val (.ref x1), .val (.ref x2), .val (.int (Int32.ofNat (min cs.length ds.length))), .val (.int 0), .unset, .unset] [(.ref x2), (.int (Int32.ofNat cs.length))]) t → own_S p e below T0 (mkF m 14 #[.val (.ref x1), .val (.ref x2), .val (.int (Int32.ofNat (min cs.length ds.length))), .val (.int 0), .unset, .unset] []) t := fun t kt => kn13 t (st14.trans (by
      show own_S p e below T14 (mkF m 62 #[.val (.ref x1), .val (.ref x2), .val (.int (Int32.ofNat (min cs.length ds.length))), .val (.int 0), .unset, .unset] [(.int (Int32.ofNat cs.length))]) _
      refine XS.aloadN X14.here hx rfl (hb hby d7_62) rfl rfl ?_
      exact kt))
    obtain ⟨cq16, kq16, qa16, qb16, qc16⟩ := isOf hZ eq14 E_x2
    obtain ⟨_, _, ⟨T16, L16, cc16, ss16⟩, -, X16, ⟨Lc16, hQ16, l16, y16, z16⟩, st16⟩ := X14.virtualBack hx (y := mN14) (z := mN14) hown (mvT hZ (own_w hw 37 rfl)) (mvT hZ (own_w hw 38 rfl)) (notFace_of_selects (args := #[]) (mvT hZ (own_w hw 40 rfl))) (mvT hZ (own_w hw 40 rfl)) (mvT hZ (own_w hw 39 rfl)) (by decide) (StrChars.Road.lenW (W := 1) hZ hln (kI := 4) (own_w hw 7 rfl) E_x2 V_x2 C_x2 K_x2 hcd_x2 hbd_x2 (O2.ext O0.2) P5 (Nat.le_trans hl_x2 (by decide)) (by decide) (by decide)) qa16 qc16 (g := (mkF m 63 #[.val (.ref x1), .val (.ref x2), .val (.int (Int32.ofNat (min cs.length ds.length))), .val (.int 0), .unset, .unset] [(.ref x2), (.int (Int32.ofNat cs.length))])) rfl (by rw [hml]; rfl) (Steps.refl _) (argsL := []) (rest := [(.int (Int32.ofNat cs.length))]) (lenOf pd_8 rfl) rfl (by show 2 * 0 + _ ≤ _; exact Nat.le_of_eq rfl) (hb hby d7_63) (fun _ _ => ⟨rfl, eq14, (by decide : 0 + 0 ≤ _), (by decide : 0 + 0 ≤ _)⟩)
    dsimp only [Pt.U, Pt.locs, Pt.cells, Pt.slots] at X16 l16 y16 z16 st16 hQ16
    subst l16 y16 z16
    have X16 : Stand p l e _ _ m _ below meth c T16 _ 0 0 := X16
    obtain ⟨rfl, rfl, eq16⟩ := hQ16
    have Nq16 : Fr n0 ([] : List Loc) := Fr.nil n0
    have Nf16 := Fr.app Nf14 Nq16
    have kn17 : ∀ t, own_S p e below T16 (mkF m 67 #[.val (.ref x1), .val (.ref x2), .val (.int (Int32.ofNat (min cs.length ds.length))), .val (.int 0), .unset, .unset] [(.int ((Int32.ofNat cs.length) - (Int32.ofNat ds.length)))]) t → own_S p e below T0 (mkF m 14 #[.val (.ref x1), .val (.ref x2), .val (.int (Int32.ofNat (min cs.length ds.length))), .val (.int 0), .unset, .unset] []) t := fun t kt => kn15 t (st16.trans (by
      show own_S p e below T16 (mkF m 66 #[.val (.ref x1), .val (.ref x2), .val (.int (Int32.ofNat (min cs.length ds.length))), .val (.int 0), .unset, .unset] [(.int (Int32.ofNat ds.length)), (.int (Int32.ofNat cs.length))]) _
      refine XS.isub X16.here hx rfl (hb hby d7_66) rfl ?_
      exact kt))
    obtain ⟨fs, hr, hrun, hended, hW, hsame⟩ := X16.leave (v := some (.int ((Int32.ofNat cs.length) - (Int32.ofNat ds.length)))) (fun h => by rw [hret] at h; cases h)
    refine ⟨_, _, id (kn17 _ (retI X16 hx hret (hb hby d7_67) hr)), hrun, hended, _, _, rfl, ?_, ⟨_, rfl⟩, hW, hsame.mono (by decide) (by decide)⟩
    show Q7 Z x1 x2 t_x1 k_x1 d_x1 n_x1 v_x1 cs t_x2 k_x2 d_x2 n_x2 v_x2 ds G1 G3 h0 n0 _ T16.heap _
    rw [eq16]
    exact ⟨congrArg own_sv (hv.trans (own_ce fun q => hc16 ((own_c3 (i := 0) (by decide) hl_x1 hl_x2 rfl rfl).mpr q))).symm, Nf16, rfl⟩

abbrev mN15 : MethodName := ⟨"com/example/caddis/caddis/StatementSet", "compare", "(Ljava/lang/String;Ljava/lang/String;)I"⟩
theorem d7_0 : decode prog_43_method_7_code 0 = .ok (.aload_n 0, 1) := by decide +kernel
theorem d7_1 : decode prog_43_method_7_code 1 = .ok (.invokevirtual 98, 3) := by decide +kernel
theorem d7_4 : decode prog_43_method_7_code 4 = .ok (.aload_n 1, 1) := by decide +kernel
theorem d7_5 : decode prog_43_method_7_code 5 = .ok (.invokevirtual 98, 3) := by decide +kernel
theorem d7_8 : decode prog_43_method_7_code 8 = .ok (.invokestatic 104, 3) := by decide +kernel
theorem d7_11 : decode prog_43_method_7_code 11 = .ok (.istore_n 2, 1) := by decide +kernel
theorem d7_12 : decode prog_43_method_7_code 12 = .ok (.iconst 0, 1) := by decide +kernel
theorem d7_13 : decode prog_43_method_7_code 13 = .ok (.istore_n 3, 1) := by decide +kernel
theorem pd_10 : parseMethodDescriptor "(II)I" = some ⟨[.int, .int], some .int⟩ := by decide +kernel
theorem ef_rm7 (m : MethodId) (x0 : Addr) (x1 : Addr) : entryFrame m #[(.ref x0), (.ref x1)] 6 = mkF m 0 #[.val (.ref x0), .val (.ref x1), .unset, .unset, .unset, .unset] [] := by first | (simp [entryFrame, mkF, argsToLocals, Value.category]; done) | rfl
 
theorem rm7 (l : Launch) (Z : State) (a0 : Array Value) (hw : ∀ d ∈ tables_1, d.before a0 Z = true) (ws : List Jvm.Cond) (x1 : Addr) (x2 : Addr) (t_x1 : Addr) (k_x1 : ClassId) (d_x1 : Int32) (n_x1 : Int32) (v_x1 : List Value) (cs : List Int32) (t_x2 : Addr) (k_x2 : ClassId) (d_x2 : Int32) (n_x2 : Int32) (v_x2 : List Value) (ds : List Int32) (G1 : Int32) (G3 : Value) (h0 : Heap) (n0 : Nat) (Z0 : n0 ≤ h0.size) (E_x1 : Exa Z h0 x1 "java/lang/String") (V_x1 : Fld Z h0 x1 "java/lang/String" "value" "[B" (.ref t_x1)) (C_x1 : Fld Z h0 x1 "java/lang/String" "coder" "B" (.int d_x1)) (K_x1 : Arv Z h0 t_x1 k_x1 .byte n_x1 v_x1 (.int (0 : Int32))) (hcd_x1 : StrChars.Road.CodA cs d_x1 n_x1 v_x1) (hbd_x1 : ∀ c ∈ cs, own_rg c) (hl_x1 : cs.length ≤ 3) (E_x2 : Exa Z h0 x2 "java/lang/String") (V_x2 : Fld Z h0 x2 "java/lang/String" "value" "[B" (.ref t_x2)) (C_x2 : Fld Z h0 x2 "java/lang/String" "coder" "B" (.int d_x2)) (K_x2 : Arv Z h0 t_x2 k_x2 .byte n_x2 v_x2 (.int (0 : Int32))) (hcd_x2 : StrChars.Road.CodA ds d_x2 n_x2 v_x2) (hbd_x2 : ∀ c ∈ ds, own_rg c) (hl_x2 : ds.length ≤ 3) (O0 : Old Z n0 h0) (O2 : Sta Z Z.heap "java/lang/String" "COMPACT_STRINGS" "Z" (.int G1)) (P5 : ¬ (G1 = (0 : Int32))) (O4 : Sta Z Z.heap "jdk/internal/util/Preconditions" "SIOOBE_FORMATTER" "Ljava/util/function/BiFunction;" G3) (rG3 : G3.isRef = true) (U1 : Sta Z Z.heap "java/lang/StringUTF16" "$assertionsDisabled" "Z" (.int (1 : Int32))) (U2 : Sta Z Z.heap "java/lang/StringUTF16" "HI_BYTE_SHIFT" "I" (.int (0 : Int32))) (U3 : Sta Z Z.heap "java/lang/StringUTF16" "LO_BYTE_SHIFT" "I" (.int (8 : Int32))) :
    MetFree l mN15 (head1 (Jvm.Cond.code mN15 prog_43_method_7_code 6 (some .int) :: ws) (own_r 8 0 0 130)) (fun a U => a = #[(.ref x1), (.ref x2)] ∧ Z.Warmed39 U.vm ∧ U.heap = h0) (fun _ _ _ _ _ => True) (fun _ U o U' => ∃ v L, o = .returned v ∧ Q7 Z x1 x2 t_x1 k_x1 d_x1 n_x1 v_x1 cs t_x2 k_x2 d_x2 n_x2 v_x2 ds G1 G3 h0 n0 v U'.heap L ∧ FrameEnd U o U' L (own_r 8 0 0 130).cells (own_r 8 0 0 130).slots) := by
  refine MetFree.of_bodySF (plainFor_of_name pn_1) hisR ?_
  intro p e s m args below meth c s₁ Bd hml0 hP hK
  obtain ⟨rfl, hZ, hh⟩ := hP
  have hx := Bd.exec
  have hby := Bd.bytes
  have hml : c.maxLocals = 6 := hml0
  have hown : s.vm.findClass "com/example/caddis/caddis/StatementSet" = some m.cls := findClass_of_methodNamed Bd.named
  have hnm := (name_of_methodNamed Bd.named Bd.method).1
  have X0 : Stand p l e (own_r 8 0 0 130) s m #[(.ref x1), (.ref x2)] below meth c s₁ [] 0 0 := Stand.of_body Bd
  have e0 : s₁.heap = h0 := by rw [← hh, Bd.state]; rfl
  have Nf0 := Fr.nil n0
  obtain ⟨Gl, hGl, kn0⟩ := own_gl (p := p) (e := e) (below := below) (s₁ := s₁) (ef_rm7 m x1 x2)
  have kn1 : ∀ t, own_S p e below s₁ (mkF m 1 #[.val (.ref x1), .val (.ref x2), .unset, .unset, .unset, .unset] [(.ref x1)]) t → Gl t := fun t kt => kn0 t (by
    show own_S p e below s₁ (mkF m 0 #[.val (.ref x1), .val (.ref x2), .unset, .unset, .unset, .unset] []) _
    refine XS.aloadN X0.here hx rfl (hb hby d7_0) rfl rfl ?_
    exact kt)
  have hln : ∀ d ∈ StrChars.Road.wordsLen, d.before a0 Z = true := fun d hd => hw d ((by decide +kernel : ∀ d ∈ StrChars.Road.wordsLen, d ∈ tables_1) d hd)
  obtain ⟨cq2, kq2, qa2, qb2, qc2⟩ := isOf hZ e0 E_x1
  obtain ⟨_, _, ⟨T2, L2, cc2, ss2⟩, -, X2, ⟨Lc2, hQ2, l2, y2, z2⟩, st2⟩ := X0.virtualBack hx (y := mN14) (z := mN14) hown (mvT hZ (own_w hw 37 rfl)) (mvT hZ (own_w hw 38 rfl)) (notFace_of_selects (args := #[]) (mvT hZ (own_w hw 40 rfl))) (mvT hZ (own_w hw 40 rfl)) (mvT hZ (own_w hw 39 rfl)) (by decide) (StrChars.Road.lenW (W := 0) hZ hln (kI := 4) (own_w hw 7 rfl) E_x1 V_x1 C_x1 K_x1 hcd_x1 hbd_x1 (O2.ext O0.2) P5 (Nat.le_trans hl_x1 (by decide)) (by decide) (by decide)) qa2 qc2 (g := (mkF m 1 #[.val (.ref x1), .val (.ref x2), .unset, .unset, .unset, .unset] [(.ref x1)])) rfl (by rw [hml]; rfl) (Steps.refl _) (argsL := []) (rest := []) (lenOf pd_8 rfl) rfl (by show 2 * 0 + _ ≤ _; exact Nat.le_of_eq rfl) (hb hby d7_1) (fun _ _ => ⟨rfl, e0, (by decide : 0 + 0 ≤ _), (by decide : 0 + 0 ≤ _)⟩)
  dsimp only [Pt.U, Pt.locs, Pt.cells, Pt.slots] at X2 l2 y2 z2 st2 hQ2
  subst l2 y2 z2
  have X2 : Stand p l e _ _ m _ below meth c T2 _ 0 0 := X2
  obtain ⟨rfl, rfl, eq2⟩ := hQ2
  have Nq2 : Fr n0 ([] : List Loc) := Fr.nil n0
  have Nf2 := Fr.app Nf0 Nq2
  have kn3 : ∀ t, own_S p e below T2 (mkF m 5 #[.val (.ref x1), .val (.ref x2), .unset, .unset, .unset, .unset] [(.ref x2), (.int (Int32.ofNat cs.length))]) t → Gl t := fun t kt => kn1 t (st2.trans (by
    show own_S p e below T2 (mkF m 4 #[.val (.ref x1), .val (.ref x2), .unset, .unset, .unset, .unset] [(.int (Int32.ofNat cs.length))]) _
    refine XS.aloadN X2.here hx rfl (hb hby d7_4) rfl rfl ?_
    exact kt))
  obtain ⟨cq4, kq4, qa4, qb4, qc4⟩ := isOf hZ eq2 E_x2
  obtain ⟨_, _, ⟨T4, L4, cc4, ss4⟩, -, X4, ⟨Lc4, hQ4, l4, y4, z4⟩, st4⟩ := X2.virtualBack hx (y := mN14) (z := mN14) hown (mvT hZ (own_w hw 37 rfl)) (mvT hZ (own_w hw 38 rfl)) (notFace_of_selects (args := #[]) (mvT hZ (own_w hw 40 rfl))) (mvT hZ (own_w hw 40 rfl)) (mvT hZ (own_w hw 39 rfl)) (by decide) (StrChars.Road.lenW (W := 1) hZ hln (kI := 4) (own_w hw 7 rfl) E_x2 V_x2 C_x2 K_x2 hcd_x2 hbd_x2 (O2.ext O0.2) P5 (Nat.le_trans hl_x2 (by decide)) (by decide) (by decide)) qa4 qc4 (g := (mkF m 5 #[.val (.ref x1), .val (.ref x2), .unset, .unset, .unset, .unset] [(.ref x2), (.int (Int32.ofNat cs.length))])) rfl (by rw [hml]; rfl) (Steps.refl _) (argsL := []) (rest := [(.int (Int32.ofNat cs.length))]) (lenOf pd_8 rfl) rfl (by show 2 * 0 + _ ≤ _; exact Nat.le_of_eq rfl) (hb hby d7_5) (fun _ _ => ⟨rfl, eq2, (by decide : 0 + 0 ≤ _), (by decide : 0 + 0 ≤ _)⟩)
  dsimp only [Pt.U, Pt.locs, Pt.cells, Pt.slots] at X4 l4 y4 z4 st4 hQ4
  subst l4 y4 z4
  have X4 : Stand p l e _ _ m _ below meth c T4 _ 0 0 := X4
  obtain ⟨rfl, rfl, eq4⟩ := hQ4
  have Nq4 : Fr n0 ([] : List Loc) := Fr.nil n0
  have Nf4 := Fr.app Nf2 Nq4
  obtain ⟨_, _, ⟨T5, L5, cc5, ss5⟩, -, X5, ⟨Lc5, hQ5, l5, y5, z5⟩, st5⟩ := Jvm.LawKit.callS X4 hx (y := mN3) hown (mvT hZ (own_w hw 48 rfl)) (mvT hZ (own_w hw 49 rfl)) (mvT hZ (own_w hw 50 rfl)) (mvT hZ (own_w hw 51 rfl)) (by decide) (backOf (W := 0) (rm10 l Z a0 hw [] (Int32.ofNat cs.length) (Int32.ofNat ds.length)  h0 n0 Z0 ) hZ (own_w hw 51 rfl) (own_w hw 50 rfl) (by decide) (by decide)) (g := (mkF m 8 #[.val (.ref x1), .val (.ref x2), .unset, .unset, .unset, .unset] [(.int (Int32.ofNat ds.length)), (.int (Int32.ofNat cs.length))])) rfl (by rw [hml]; rfl) (argsL := [(.int (Int32.ofNat cs.length)), (.int (Int32.ofNat ds.length))]) (rest := []) (lenOf pd_10 rfl) rfl (by show 2 * 0 + _ ≤ _; exact Nat.le_of_eq rfl) (hb hby d7_8) (fun _ _ => ⟨rfl, eq4, (by decide : 0 + 0 ≤ _), (by decide : 0 + 0 ≤ _)⟩)
  dsimp only [Pt.U, Pt.locs, Pt.cells, Pt.slots] at X5 l5 y5 z5 st5 hQ5
  subst l5 y5 z5
  have X5 : Stand p l e _ _ m _ below meth c T5 _ 0 0 := X5
  obtain ⟨rfl, Nq5, eq5⟩ := hQ5
  have Nf5 := Fr.app Nf4 Nq5
  have kn6 : ∀ t, own_S p e below T5 (mkF m 11 #[.val (.ref x1), .val (.ref x2), .unset, .unset, .unset, .unset] [(.int (own_min (Int32.ofNat cs.length) (Int32.ofNat ds.length)))]) t → Gl t := fun t kt => kn3 t (st4.trans (st5 _ (kt)))
  rw [(show (own_min (Int32.ofNat cs.length) (Int32.ofNat ds.length)) = (Int32.ofNat (min cs.length ds.length)) from own_mn hl_x1 hl_x2)] at kn6
  have kn7 : ∀ t, own_S p e below T5 (mkF m 14 #[.val (.ref x1), .val (.ref x2), .val (.int (Int32.ofNat (min cs.length ds.length))), .val (.int 0), .unset, .unset] []) t → Gl t := fun t kt => kn6 t (by
    show own_S p e below T5 (mkF m 11 #[.val (.ref x1), .val (.ref x2), .unset, .unset, .unset, .unset] [(.int (Int32.ofNat (min cs.length ds.length)))]) _
    refine XS.istoreN X5.here hx rfl (hb hby d7_11) rfl (l' := #[.val (.ref x1), .val (.ref x2), .val (.int (Int32.ofNat (min cs.length ds.length))), .unset, .unset, .unset]) rfl ?_
    refine XS.iconst X5.here hx rfl (hb hby d7_12) ?_
    refine XS.istoreN X5.here hx rfl (hb hby d7_13) rfl (l' := #[.val (.ref x1), .val (.ref x2), .val (.int (Int32.ofNat (min cs.length ds.length))), .val (.int 0), .unset, .unset]) rfl ?_
    exact kt)
  obtain ⟨s2, o2, t1, t2, t3, t4⟩ := cm_0 (n0 := n0) x1 x2 t_x1 k_x1 d_x1 n_x1 v_x1 cs t_x2 k_x2 d_x2 n_x2 v_x2 ds G1 G3  X5 hx hZ hw hby hml hown Bd.returns (BodyLoose.notSynchronized Bd) eq5 Nf5 Z0 E_x1 V_x1 C_x1 K_x1 hcd_x1 hbd_x1 hl_x1 E_x2 V_x2 C_x2 K_x2 hcd_x2 hbd_x2 hl_x2 O0 O2 P5 O4 rG3 U1 U2 U3 rfl
  exact ⟨s2, o2, hGl _ (kn7 _ (t1)), t2, t3, t4⟩

abbrev mN16 : MethodName := ⟨"java/lang/StringUTF16", "compress", "([CI[BII)I"⟩
theorem d12_0 : decode jdk_52_method_21_code 0 = .ok (.iconst 0, 1) := by decide +kernel
theorem d12_1 : decode jdk_52_method_21_code 1 = .ok (.istore 5, 2) := by decide +kernel
theorem d12_3 : decode jdk_52_method_21_code 3 = .ok (.iload 5, 2) := by decide +kernel
theorem d12_5 : decode jdk_52_method_21_code 5 = .ok (.iload 4, 2) := by decide +kernel
theorem d12_7 : decode jdk_52_method_21_code 7 = .ok (.if_icmp .ge 37, 3) := by decide +kernel
theorem d12_10 : decode jdk_52_method_21_code 10 = .ok (.aload_n 0, 1) := by decide +kernel
theorem d12_11 : decode jdk_52_method_21_code 11 = .ok (.iload_n 1, 1) := by decide +kernel
theorem d12_12 : decode jdk_52_method_21_code 12 = .ok (.caload, 1) := by decide +kernel
theorem d12_13 : decode jdk_52_method_21_code 13 = .ok (.istore 6, 2) := by decide +kernel
theorem d12_15 : decode jdk_52_method_21_code 15 = .ok (.iload 6, 2) := by decide +kernel
theorem d12_17 : decode jdk_52_method_21_code 17 = .ok (.sipush 255, 3) := by decide +kernel
theorem d12_20 : decode jdk_52_method_21_code 20 = .ok (.if_icmp .le 6, 3) := by decide +kernel
theorem d12_23 : decode jdk_52_method_21_code 23 = .ok (.iload 5, 2) := by decide +kernel
theorem d12_25 : decode jdk_52_method_21_code 25 = .ok (.ireturn, 1) := by decide +kernel
theorem ef_rm12_1_0 (m : MethodId) (x0 : Addr) (x2 : Addr) : entryFrame m #[(.ref x0), (.int (0 : Int32)), (.ref x2), (.int (0 : Int32)), (.int (1 : Int32))] 7 = mkF m 0 #[.val (.ref x0), .val (.int (0 : Int32)), .val (.ref x2), .val (.int (0 : Int32)), .val (.int (1 : Int32)), .unset, .unset] [] := by first | (simp [entryFrame, mkF, argsToLocals, Value.category]; done) | rfl
def Q12_1_0 (Z : State) (a1 : Addr) (b3 : Addr) (ka : ClassId) (kb : ClassId) (c0 : Int32) (h0 : Heap) (n0 : Nat) (v : Option Value) (h : Heap) (L : List Loc) : Prop := v = some (.int (0 : Int32)) ∧ Fr n0 L ∧ Keep h0 h [b3]
theorem rm12_1_0 (l : Launch) (Z : State) (a0 : Array Value) (hw : ∀ d ∈ tables_1, d.before a0 Z = true) (ws : List Jvm.Cond) (a1 : Addr) (b3 : Addr) (ka : ClassId) (kb : ClassId) (c0 : Int32) (h0 : Heap) (n0 : Nat) (Z0 : n0 ≤ h0.size) (A1 : Arv Z h0 a1 ka .char (1 : Int32) [(.int c0)] (.int (0 : Int32))) (A3 : Arv Z h0 b3 kb .byte (1 : Int32) [(.int (0 : Int32))] (.int (0 : Int32))) (nab : @Ne Nat a1 b3) (g_b3 : n0 ≤ b3) (wq0 : (255 : Int32) < c0) :
    MetFree l mN16 (head1 (Jvm.Cond.code mN16 jdk_52_method_21_code 7 (some .int) :: ws) (own_r 0 0 0 0)) (fun a U => a = #[(.ref a1), (.int (0 : Int32)), (.ref b3), (.int (0 : Int32)), (.int (1 : Int32))] ∧ Z.Warmed39 U.vm ∧ U.heap = h0) (fun _ _ _ _ _ => True) (fun _ U o U' => ∃ v L, o = .returned v ∧ Q12_1_0 Z a1 b3 ka kb c0 h0 n0 v U'.heap L ∧ FrameEnd U o U' L (own_r 0 0 0 0).cells (own_r 0 0 0 0).slots) := by
  refine MetFree.of_bodySF (plainFor_of_name pn_4) hisR ?_
  intro p e s m args below meth c s₁ Bd hml0 hP hK
  obtain ⟨rfl, hZ, hh⟩ := hP
  have hx := Bd.exec
  have hby := Bd.bytes
  have hml : c.maxLocals = 7 := hml0
  have hown : s.vm.findClass "java/lang/StringUTF16" = some m.cls := findClass_of_methodNamed Bd.named
  have hnm := (name_of_methodNamed Bd.named Bd.method).1
  have X0 : Stand p l e (own_r 0 0 0 0) s m #[(.ref a1), (.int (0 : Int32)), (.ref b3), (.int (0 : Int32)), (.int (1 : Int32))] below meth c s₁ [] 0 0 := Stand.of_body Bd
  have e0 : s₁.heap = h0 := by rw [← hh, Bd.state]; rfl
  have Nf0 := Fr.nil n0
  obtain ⟨Gl, hGl, kn0⟩ := own_gl (p := p) (e := e) (below := below) (s₁ := s₁) (ef_rm12_1_0 m a1 b3)
  have kn1 : ∀ t, own_S p e below s₁ (mkF m 12 #[.val (.ref a1), .val (.int 0), .val (.ref b3), .val (.int 0), .val (.int 1), .val (.int 0), .unset] [(.int 0), (.ref a1)]) t → Gl t := fun t kt => kn0 t (by
    show own_S p e below s₁ (mkF m 0 #[.val (.ref a1), .val (.int 0), .val (.ref b3), .val (.int 0), .val (.int 1), .unset, .unset] []) _
    refine XS.iconst X0.here hx rfl (hb hby d12_0) ?_
    refine XS.istore X0.here hx rfl (hb hby d12_1) rfl (l' := #[.val (.ref a1), .val (.int 0), .val (.ref b3), .val (.int 0), .val (.int 1), .val (.int 0), .unset]) rfl ?_
    refine XS.iload X0.here hx rfl (hb hby d12_3) rfl ?_
    refine XS.iload X0.here hx rfl (hb hby d12_5) rfl ?_
    refine XS.icmpNo X0.here hx rfl (hb hby d12_7) rfl (tlt (by decide : (0 : Int32) < (1 : Int32))).2.1 ?_
    refine XS.aloadN X0.here hx rfl (hb hby d12_10) rfl rfl ?_
    refine XS.iloadN X0.here hx rfl (hb hby d12_11) rfl ?_
    exact kt)
  obtain ⟨cl2, Ar2, q2, Sz2, Ng2, Hs2, Gs2⟩ := id A1
  have hin2 : ¬ ((0 : Int32) < 0 ∨ cl2.slots.size ≤ ((0 : Int32)).toNatClampNeg) := inb_of Sz2 ⟨by decide, by decide⟩
  have hat2 : cl2.slots[((0 : Int32)).toNatClampNeg]? = some (.int c0) := Hs2.at hin2 rfl
  have kn3 : ∀ t, own_S p e below s₁ (mkF m 20 #[.val (.ref a1), .val (.int 0), .val (.ref b3), .val (.int 0), .val (.int 1), .val (.int 0), .val (.int c0)] [(.int 255), (.int c0)]) t → Gl t := fun t kt => kn1 t (by
    show own_S p e below s₁ (mkF m 12 #[.val (.ref a1), .val (.int 0), .val (.ref b3), .val (.int 0), .val (.int 1), .val (.int 0), .unset] [(.int 0), (.ref a1)]) _
    refine X0.caload hx (j := (0 : Int32)) (v := (.int c0)) (by rw [e0]; exact Ar2.1) (State.isArrayOf_alike hZ.alike Ar2.2.1) Ar2.2.2 hin2 hat2 (g := (mkF m 12 #[.val (.ref a1), .val (.int 0), .val (.ref b3), .val (.int 0), .val (.int 1), .val (.int 0), .unset] [(.int 0), (.ref a1)])) rfl rfl (hb hby d12_12) _ ?_
    refine XS.istore X0.here hx rfl (hb hby d12_13) rfl (l' := #[.val (.ref a1), .val (.int 0), .val (.ref b3), .val (.int 0), .val (.int 1), .val (.int 0), .val (.int c0)]) rfl ?_
    refine XS.iload X0.here hx rfl (hb hby d12_15) rfl ?_
    refine XS.sipush X0.here hx rfl (hb hby d12_17) ?_
    exact kt)
  have hc20_4 : (255 : Int32) < c0 := wq0
  have kn5 : ∀ t, own_S p e below s₁ (mkF m 25 #[.val (.ref a1), .val (.int 0), .val (.ref b3), .val (.int 0), .val (.int 1), .val (.int 0), .val (.int c0)] [(.int 0)]) t → Gl t := fun t kt => kn3 t (by
    show own_S p e below s₁ (mkF m 20 #[.val (.ref a1), .val (.int 0), .val (.ref b3), .val (.int 0), .val (.int 1), .val (.int 0), .val (.int c0)] [(.int 255), (.int c0)]) _
    refine XS.icmpNo X0.here hx rfl (hb hby d12_20) rfl (tlt hc20_4).2.2.2 ?_
    refine XS.iload X0.here hx rfl (hb hby d12_23) rfl ?_
    exact kt)
  obtain ⟨fs, hr, hrun, hended, hW, hsame⟩ := X0.leave (v := some (.int (0 : Int32))) (fun h => by rw [Bd.returns] at h; cases h)
  refine ⟨_, _, hGl _ (kn5 _ (retI X0 hx Bd.returns (hb hby d12_25) hr)), hrun, hended, _, _, rfl, ?_, ⟨_, rfl⟩, hW, hsame.mono (by decide) (by decide)⟩
  show Q12_1_0 Z a1 b3 ka kb c0 h0 n0 _ s₁.heap _
  rw [e0]
  exact ⟨rfl, Nf0, Keep.refl h0 [b3]⟩

abbrev mN17 : MethodName := ⟨"java/lang/StringUTF16", "newBytesLength", "(I)I"⟩
theorem d23_0 : decode jdk_52_method_3_code 0 = .ok (.iload_n 0, 1) := by decide +kernel
theorem d23_1 : decode jdk_52_method_3_code 1 = .ok (.ifCond .ge 11, 3) := by decide +kernel
theorem d23_12 : decode jdk_52_method_3_code 12 = .ok (.iload_n 0, 1) := by decide +kernel
theorem d23_13 : decode jdk_52_method_3_code 13 = .ok (.ldc 20, 2) := by decide +kernel
theorem d23_15 : decode jdk_52_method_3_code 15 = .ok (.if_icmp .lt 40, 3) := by decide +kernel
theorem d23_55 : decode jdk_52_method_3_code 55 = .ok (.iload_n 0, 1) := by decide +kernel
theorem d23_56 : decode jdk_52_method_3_code 56 = .ok (.iconst 1, 1) := by decide +kernel
theorem d23_57 : decode jdk_52_method_3_code 57 = .ok (.ishl, 1) := by decide +kernel
theorem d23_58 : decode jdk_52_method_3_code 58 = .ok (.ireturn, 1) := by decide +kernel
theorem ef_rm23_1 (m : MethodId)  : entryFrame m #[(.int (1 : Int32))] 1 = mkF m 0 #[.val (.int (1 : Int32))] [] := by first | (simp [entryFrame, mkF, argsToLocals, Value.category]; done) | rfl
def Q23_1 (Z : State)  (h0 : Heap) (n0 : Nat) (v : Option Value) (h : Heap) (L : List Loc) : Prop := v = some (.int (2 : Int32)) ∧ Fr n0 L ∧ h = h0
theorem rm23_1 (l : Launch) (Z : State) (a0 : Array Value) (hw : ∀ d ∈ tables_1, d.before a0 Z = true) (ws : List Jvm.Cond)  (h0 : Heap) (n0 : Nat) (Z0 : n0 ≤ h0.size) :
    MetFree l mN17 (head1 (Jvm.Cond.code mN17 jdk_52_method_3_code 1 (some .int) :: ws) (own_r 0 0 0 0)) (fun a U => a = #[(.int (1 : Int32))] ∧ Z.Warmed39 U.vm ∧ U.heap = h0) (fun _ _ _ _ _ => True) (fun _ U o U' => ∃ v L, o = .returned v ∧ Q23_1 Z  h0 n0 v U'.heap L ∧ FrameEnd U o U' L (own_r 0 0 0 0).cells (own_r 0 0 0 0).slots) := by
  refine MetFree.of_bodySF (plainFor_of_name pn_4) hisR ?_
  intro p e s m args below meth c s₁ Bd hml0 hP hK
  obtain ⟨rfl, hZ, hh⟩ := hP
  have hx := Bd.exec
  have hby := Bd.bytes
  have hml : c.maxLocals = 1 := hml0
  have hown : s.vm.findClass "java/lang/StringUTF16" = some m.cls := findClass_of_methodNamed Bd.named
  have hnm := (name_of_methodNamed Bd.named Bd.method).1
  have X0 : Stand p l e (own_r 0 0 0 0) s m #[(.int (1 : Int32))] below meth c s₁ [] 0 0 := Stand.of_body Bd
  have e0 : s₁.heap = h0 := by rw [← hh, Bd.state]; rfl
  have Nf0 := Fr.nil n0
  obtain ⟨Gl, hGl, kn0⟩ := own_gl (p := p) (e := e) (below := below) (s₁ := s₁) (ef_rm23_1 m )
  have kn1 : ∀ t, own_S p e below s₁ (mkF m 58 #[.val (.int 1)] [(.int 2)]) t → Gl t := fun t kt => kn0 t (by
    show own_S p e below s₁ (mkF m 0 #[.val (.int 1)] []) _
    refine XS.iloadN X0.here hx rfl (hb hby d23_0) rfl ?_
    refine XS.ifYes X0.here hx rfl (pc0 := 1) (pc' := 12) rfl (hb hby d23_1) rfl ((if0 _ _).trans (flt (by decide : ¬ ((1 : Int32) < (0 : Int32)))).2.1) (by decide) (by decide) ?_
    refine XS.iloadN X0.here hx rfl (hb hby d23_12) rfl ?_
    refine X0.ldcInt hx hown (mvT hZ (own_w hw 102 rfl)) (g := (mkF m 13 #[.val (.int 1)] [(.int 1)])) rfl (hb hby d23_13) _ ?_
    refine XS.icmpYes X0.here hx rfl (pc0 := 15) (pc' := 55) rfl (hb hby d23_15) rfl (tlt (by decide : (1 : Int32) < (1073741823 : Int32))).1 (by decide) (by decide) ?_
    refine XS.iloadN X0.here hx rfl (hb hby d23_55) rfl ?_
    refine XS.iconst X0.here hx rfl (hb hby d23_56) ?_
    show own_S p e below s₁ (mkF m 57 #[.val (.int 1)] [(.int 1), (.int 1)]) _
    refine XS.ishl X0.here hx rfl (hb hby d23_57) rfl ?_
    rw [(by decide : ((1 : Int32) <<< ((1 : Int32) &&& 31)) = (2 : Int32))]
    exact kt)
  obtain ⟨fs, hr, hrun, hended, hW, hsame⟩ := X0.leave (v := some (.int (2 : Int32))) (fun h => by rw [Bd.returns] at h; cases h)
  refine ⟨_, _, hGl _ (kn1 _ (retI X0 hx Bd.returns (hb hby d23_58) hr)), hrun, hended, _, _, rfl, ?_, ⟨_, rfl⟩, hW, hsame.mono (by decide) (by decide)⟩
  show Q23_1 Z  h0 n0 _ s₁.heap _
  rw [e0]
  exact ⟨rfl, Nf0, rfl⟩

abbrev mN18 : MethodName := ⟨"java/lang/StringUTF16", "newBytesFor", "(I)[B"⟩
theorem d22_0 : decode jdk_52_method_2_code 0 = .ok (.iload_n 0, 1) := by decide +kernel
theorem d22_1 : decode jdk_52_method_2_code 1 = .ok (.invokestatic 11, 3) := by decide +kernel
theorem d22_4 : decode jdk_52_method_2_code 4 = .ok (.newarray .byte, 2) := by decide +kernel
theorem d22_6 : decode jdk_52_method_2_code 6 = .ok (.areturn, 1) := by decide +kernel
theorem ef_rm22_1 (m : MethodId)  : entryFrame m #[(.int (1 : Int32))] 1 = mkF m 0 #[.val (.int (1 : Int32))] [] := by first | (simp [entryFrame, mkF, argsToLocals, Value.category]; done) | rfl
def Q22_1 (Z : State)  (h0 : Heap) (n0 : Nat) (v : Option Value) (h : Heap) (L : List Loc) : Prop := ∃ (b : Addr) (kb : ClassId), v = some (.ref b) ∧ Fr n0 L ∧ n0 ≤ b ∧ h0.size ≤ b ∧ Keep h0 h [] ∧ Arv Z h b kb .byte (2 : Int32) [(.int (0 : Int32)), (.int (0 : Int32))] (.int (0 : Int32))
theorem rm22_1 (l : Launch) (Z : State) (a0 : Array Value) (hw : ∀ d ∈ tables_1, d.before a0 Z = true) (ws : List Jvm.Cond)  (h0 : Heap) (n0 : Nat) (Z0 : n0 ≤ h0.size) :
    MetFree l mN18 (head1 (Jvm.Cond.code mN18 jdk_52_method_2_code 1 (some (.array .byte)) :: ws) (own_r 1 1 2 12)) (fun a U => a = #[(.int (1 : Int32))] ∧ Z.Warmed39 U.vm ∧ U.heap = h0) (fun _ _ _ _ _ => True) (fun _ U o U' => ∃ v L, o = .returned v ∧ Q22_1 Z  h0 n0 v U'.heap L ∧ FrameEnd U o U' L (own_r 1 1 2 12).cells (own_r 1 1 2 12).slots) := by
  refine MetFree.of_bodySF (plainFor_of_name pn_4) hisR ?_
  intro p e s m args below meth c s₁ Bd hml0 hP hK
  obtain ⟨rfl, hZ, hh⟩ := hP
  have hx := Bd.exec
  have hby := Bd.bytes
  have hml : c.maxLocals = 1 := hml0
  have hown : s.vm.findClass "java/lang/StringUTF16" = some m.cls := findClass_of_methodNamed Bd.named
  have hnm := (name_of_methodNamed Bd.named Bd.method).1
  have X0 : Stand p l e (own_r 1 1 2 12) s m #[(.int (1 : Int32))] below meth c s₁ [] 0 0 := Stand.of_body Bd
  have e0 : s₁.heap = h0 := by rw [← hh, Bd.state]; rfl
  have Nf0 := Fr.nil n0
  obtain ⟨Gl, hGl, kn0⟩ := own_gl (p := p) (e := e) (below := below) (s₁ := s₁) (ef_rm22_1 m )
  have kn1 : ∀ t, own_S p e below s₁ (mkF m 1 #[.val (.int 1)] [(.int 1)]) t → Gl t := fun t kt => kn0 t (by
    show own_S p e below s₁ (mkF m 0 #[.val (.int 1)] []) _
    refine XS.iloadN X0.here hx rfl (hb hby d22_0) rfl ?_
    exact kt)
  obtain ⟨_, _, ⟨T2, L2, cc2, ss2⟩, -, X2, ⟨Lc2, hQ2, l2, y2, z2⟩, st2⟩ := Jvm.LawKit.callS X0 hx (y := mN17) hown (mvT hZ (own_w hw 99 rfl)) (mvT hZ (own_w hw 100 rfl)) (mvT hZ (own_w hw 54 rfl)) (mvT hZ (own_w hw 101 rfl)) (by decide) (backOf (W := 0) (rm23_1 l Z a0 hw []   h0 n0 Z0 ) hZ (own_w hw 101 rfl) (own_w hw 54 rfl) (by decide) (by decide)) (g := (mkF m 1 #[.val (.int 1)] [(.int 1)])) rfl (by rw [hml]; rfl) (argsL := [(.int 1)]) (rest := []) (lenOf pd_1 rfl) rfl (by show 2 * 0 + _ ≤ _; exact Nat.le_of_eq rfl) (hb hby d22_1) (fun _ _ => ⟨rfl, e0, (by decide : 0 + 0 ≤ _), (by decide : 0 + 0 ≤ _)⟩)
  dsimp only [Pt.U, Pt.locs, Pt.cells, Pt.slots] at X2 l2 y2 z2 st2 hQ2
  subst l2 y2 z2
  have X2 : Stand p l e _ _ m _ below meth c T2 _ 0 0 := X2
  obtain ⟨rfl, Nq2, eq2⟩ := hQ2
  have Nf2 := Fr.app Nf0 Nq2
  obtain ⟨T3, h3, kk3, X3, e3, E3, A3, st3⟩ := newP X2 hx hZ (own_w hw 20 rfl) eq2 (g := (mkF m 4 #[.val (.int 1)] [(.int 2)])) rfl (hb hby d22_4) rfl (by decide) (cap := 2) (by decide) (by decide) (by decide) (by decide)
  obtain ⟨b3, g3⟩ : ∃ z, z = h0.size := ⟨_, rfl⟩
  rw [← g3] at A3 st3
  have sz_b3 : h0.size ≤ b3 := Nat.le_trans (Keep.refl h0 []).1 (Nat.le_of_eq g3.symm)
  have g_b3 : n0 ≤ b3 := Nat.le_trans Z0 (Nat.le_of_eq g3.symm)
  have Z4 := Nat.le_trans Z0 E3.1
  have K5 := (Keep.refl h0 []).ext E3
  have V3 : Arv Z h3 b3 kk3 .byte (2 : Int32) [(.int (0 : Int32)), (.int (0 : Int32))] (.int (0 : Int32)) := (Arv.new A3 (by decide)).pad (pad_rep [] (.int (0 : Int32)) 2)
  obtain ⟨fs, hr, hrun, hended, hW, hsame⟩ := X3.leave (v := some (.ref b3)) (fun h => by rw [Bd.returns] at h; cases h)
  refine ⟨_, _, hGl _ (kn1 _ (st2 _ (st3 _ (by
      show own_S p e below T3 (mkF m 6 #[.val (.int 1)] [(.ref b3)]) _
      jvm_step X3.here [X3.here.top, hx, (hb hby d22_6), X3.method', Bd.returns, Value.isRef, FieldType.isReference]
      first | (intro acts; rw [hr _ acts rfl rfl rfl]) | rw [hr _ _ rfl rfl rfl]
      exact Steps.refl _)))), hrun, hended, _, _, rfl, ?_, ⟨_, rfl⟩, hW, hsame.mono (by decide) (by decide)⟩
  show Q22_1 Z  h0 n0 _ T3.heap _
  rw [e3]
  exact ⟨b3, _, rfl, Nf2, g_b3, sz_b3, K5, V3⟩

abbrev mN19 : MethodName := ⟨"java/lang/StringUTF16", "putChar", "([BII)V"⟩
theorem d24_0 : decode jdk_52_method_4_code 0 = .ok (.getstatic 44, 3) := by decide +kernel
theorem d24_3 : decode jdk_52_method_4_code 3 = .ok (.ifCond .ne 25, 3) := by decide +kernel
theorem d24_28 : decode jdk_52_method_4_code 28 = .ok (.iload_n 1, 1) := by decide +kernel
theorem d24_29 : decode jdk_52_method_4_code 29 = .ok (.iconst 1, 1) := by decide +kernel
theorem d24_30 : decode jdk_52_method_4_code 30 = .ok (.ishl, 1) := by decide +kernel
theorem d24_31 : decode jdk_52_method_4_code 31 = .ok (.istore_n 1, 1) := by decide +kernel
theorem d24_32 : decode jdk_52_method_4_code 32 = .ok (.aload_n 0, 1) := by decide +kernel
theorem d24_33 : decode jdk_52_method_4_code 33 = .ok (.iload_n 1, 1) := by decide +kernel
theorem d24_34 : decode jdk_52_method_4_code 34 = .ok (.iinc 1 1, 3) := by decide +kernel
theorem d24_37 : decode jdk_52_method_4_code 37 = .ok (.iload_n 2, 1) := by decide +kernel
theorem d24_38 : decode jdk_52_method_4_code 38 = .ok (.getstatic 59, 3) := by decide +kernel
theorem d24_41 : decode jdk_52_method_4_code 41 = .ok (.ishr, 1) := by decide +kernel
theorem d24_42 : decode jdk_52_method_4_code 42 = .ok (.i2b, 1) := by decide +kernel
theorem d24_43 : decode jdk_52_method_4_code 43 = .ok (.bastore, 1) := by decide +kernel
theorem d24_44 : decode jdk_52_method_4_code 44 = .ok (.aload_n 0, 1) := by decide +kernel
theorem d24_45 : decode jdk_52_method_4_code 45 = .ok (.iload_n 1, 1) := by decide +kernel
theorem d24_46 : decode jdk_52_method_4_code 46 = .ok (.iload_n 2, 1) := by decide +kernel
theorem d24_47 : decode jdk_52_method_4_code 47 = .ok (.getstatic 63, 3) := by decide +kernel
theorem d24_50 : decode jdk_52_method_4_code 50 = .ok (.ishr, 1) := by decide +kernel
theorem d24_51 : decode jdk_52_method_4_code 51 = .ok (.i2b, 1) := by decide +kernel
theorem d24_52 : decode jdk_52_method_4_code 52 = .ok (.bastore, 1) := by decide +kernel
theorem d24_53 : decode jdk_52_method_4_code 53 = .ok (.return_, 1) := by decide +kernel
theorem ef_rm24_1_0 (m : MethodId) (x0 : Addr) (x2 : Int32) : entryFrame m #[(.ref x0), (.int (0 : Int32)), (.int x2)] 3 = mkF m 0 #[.val (.ref x0), .val (.int (0 : Int32)), .val (.int x2)] [] := by first | (simp [entryFrame, mkF, argsToLocals, Value.category]; done) | rfl
def Q24_1_0 (Z : State) (b1 : Addr) (cc : Int32) (kb : ClassId) (v0 : Value) (v1 : Value) (h0 : Heap) (n0 : Nat) (v : Option Value) (h : Heap) (L : List Loc) : Prop := v = none ∧ Fr n0 L ∧ Keep h0 h [b1] ∧ Arv Z h b1 kb .byte (2 : Int32) [(.int (StrChars.lo8 cc)), (.int (StrChars.hi8 cc))] (.int (0 : Int32))
theorem rm24_1_0 (l : Launch) (Z : State) (a0 : Array Value) (hw : ∀ d ∈ tables_1, d.before a0 Z = true) (ws : List Jvm.Cond) (b1 : Addr) (cc : Int32) (kb : ClassId) (v0 : Value) (v1 : Value) (h0 : Heap) (n0 : Nat) (Z0 : n0 ≤ h0.size) (A1 : Arv Z h0 b1 kb .byte (2 : Int32) [v0, v1] (.int (0 : Int32))) (g_b1 : n0 ≤ b1) (O0 : Old Z n0 h0) (U1 : Sta Z Z.heap "java/lang/StringUTF16" "$assertionsDisabled" "Z" (.int (1 : Int32))) (U2 : Sta Z Z.heap "java/lang/StringUTF16" "HI_BYTE_SHIFT" "I" (.int (0 : Int32))) (U3 : Sta Z Z.heap "java/lang/StringUTF16" "LO_BYTE_SHIFT" "I" (.int (8 : Int32))) :
    MetFree l mN19 (head1 (Jvm.Cond.code mN19 jdk_52_method_4_code 3 none :: ws) (own_r 0 0 0 0)) (fun a U => a = #[(.ref b1), (.int (0 : Int32)), (.int cc)] ∧ Z.Warmed39 U.vm ∧ U.heap = h0) (fun _ _ _ _ _ => True) (fun _ U o U' => ∃ v L, o = .returned v ∧ Q24_1_0 Z b1 cc kb v0 v1 h0 n0 v U'.heap L ∧ FrameEnd U o U' L (own_r 0 0 0 0).cells (own_r 0 0 0 0).slots) := by
  refine MetFree.of_bodySF (plainFor_of_name pn_4) hisR ?_
  intro p e s m args below meth c s₁ Bd hml0 hP hK
  obtain ⟨rfl, hZ, hh⟩ := hP
  have hx := Bd.exec
  have hby := Bd.bytes
  have hml : c.maxLocals = 3 := hml0
  have hown : s.vm.findClass "java/lang/StringUTF16" = some m.cls := findClass_of_methodNamed Bd.named
  have hnm := (name_of_methodNamed Bd.named Bd.method).1
  have X0 : Stand p l e (own_r 0 0 0 0) s m #[(.ref b1), (.int (0 : Int32)), (.int cc)] below meth c s₁ [] 0 0 := Stand.of_body Bd
  have e0 : s₁.heap = h0 := by rw [← hh, Bd.state]; rfl
  have Nf0 := Fr.nil n0
  obtain ⟨Gl, hGl, kn0⟩ := own_gl (p := p) (e := e) (below := below) (s₁ := s₁) (ef_rm24_1_0 m b1 cc)
  obtain ⟨T1, X1, e1, st1⟩ := getS2 X0 hx hZ hown (host := "") (Or.inl (own_w hw 106 rfl)) Via.refl e0 (U1.ext O0.2) (g := (mkF m 0 #[.val (.ref b1), .val (.int 0), .val (.int cc)] [])) rfl (hb hby d24_0)
  have kn2 : ∀ t, own_S p e below T1 (mkF m 38 #[.val (.ref b1), .val (.int 1), .val (.int cc)] [(.int cc), (.int 0), (.ref b1)]) t → Gl t := fun t kt => kn0 t (st1 _ (by
    show own_S p e below T1 (mkF m 3 #[.val (.ref b1), .val (.int 0), .val (.int cc)] [(.int 1)]) _
    refine XS.ifYes X1.here hx rfl (pc0 := 3) (pc' := 28) rfl (hb hby d24_3) rfl ((if0 _ _).trans (feq (by decide : ¬ ((1 : Int32) = (0 : Int32)))).2) (by decide) (by decide) ?_
    refine XS.iloadN X1.here hx rfl (hb hby d24_28) rfl ?_
    refine XS.iconst X1.here hx rfl (hb hby d24_29) ?_
    show own_S p e below T1 (mkF m 30 #[.val (.ref b1), .val (.int 0), .val (.int cc)] [(.int 1), (.int 0)]) _
    refine XS.ishl X1.here hx rfl (hb hby d24_30) rfl ?_
    rw [(by decide : ((0 : Int32) <<< ((1 : Int32) &&& 31)) = (0 : Int32))]
    refine XS.istoreN X1.here hx rfl (hb hby d24_31) rfl (l' := #[.val (.ref b1), .val (.int 0), .val (.int cc)]) rfl ?_
    refine XS.aloadN X1.here hx rfl (hb hby d24_32) rfl rfl ?_
    refine XS.iloadN X1.here hx rfl (hb hby d24_33) rfl ?_
    show own_S p e below T1 (mkF m 34 #[.val (.ref b1), .val (.int 0), .val (.int cc)] [(.int 0), (.ref b1)]) _
    refine XS.iinc X1.here hx rfl (hb hby d24_34) rfl (l' := #[.val (.ref b1), .val (.int ((0 : Int32) + (1 : Int32))), .val (.int cc)]) rfl ?_
    rw [(by decide : ((0 : Int32) + (1 : Int32)) = (1 : Int32))]
    refine XS.iloadN X1.here hx rfl (hb hby d24_37) rfl ?_
    exact kt))
  obtain ⟨T3, X3, e3, st3⟩ := getS2 X1 hx hZ hown (host := "") (Or.inl (own_w hw 107 rfl)) Via.refl e1 (U2.ext O0.2) (g := (mkF m 38 #[.val (.ref b1), .val (.int 1), .val (.int cc)] [(.int cc), (.int 0), (.ref b1)])) rfl (hb hby d24_38)
  have kn4 : ∀ t, own_S p e below T3 (mkF m 43 #[.val (.ref b1), .val (.int 1), .val (.int cc)] [(.int ((cc >>> ((0 : Int32) &&& 31)).toInt8.toInt32)), (.int 0), (.ref b1)]) t → Gl t := fun t kt => kn2 t (st3 _ (by
    show own_S p e below T3 (mkF m 41 #[.val (.ref b1), .val (.int 1), .val (.int cc)] [(.int 0), (.int cc), (.int 0), (.ref b1)]) _
    refine XS.ishr X3.here hx rfl (hb hby d24_41) rfl ?_
    refine XS.i2b X3.here hx rfl (hb hby d24_42) rfl ?_
    exact kt))
  obtain ⟨cl5, Ar5, q5, Sz5, Ng5, Hs5, Gs5⟩ := id A1
  have hin5 : ¬ ((0 : Int32) < 0 ∨ cl5.slots.size ≤ ((0 : Int32)).toNatClampNeg) := inb_of Sz5 ⟨by decide, by decide⟩
  obtain ⟨T5, h5, X5, e5, W5, st5⟩ := stB X3 hx hZ e3 Ar5 (j := (0 : Int32)) hin5 (g := (mkF m 43 #[.val (.ref b1), .val (.int 1), .val (.int cc)] [(.int ((cc >>> ((0 : Int32) &&& 31)).toInt8.toInt32)), (.int 0), (.ref b1)])) rfl rfl (hb hby d24_43)
  have Z6 := Nat.le_trans Z0 (Keep.of_wr W5).1
  have Od7 := O0.wr W5 g_b1
  have K8 := (Keep.refl h0 [b1]).wr W5 (Or.inl (List.mem_of_getElem? (i := 0) rfl))
  have V5 : Arv Z h5 b1 kb .byte (2 : Int32) [(.int (((cc >>> ((0 : Int32) &&& 31)).toInt8.toInt32).toInt8.toInt32)), v1] (.int (0 : Int32)) := Arv.set Ar5 q5 Sz5 Ng5 Hs5 Gs5 (fits_nar_byte _) W5 0 rfl (Nat.le_of_ble_eq_true rfl)
  rw [(show (((cc >>> ((0 : Int32) &&& 31)).toInt8.toInt32).toInt8.toInt32) = (StrChars.lo8 cc) from own_lo cc)] at V5
  have Nf9 := Fr.snoc X5 Nf0 g_b1
  have kn10 : ∀ t, own_S p e below T5 (mkF m 47 #[.val (.ref b1), .val (.int 1), .val (.int cc)] [(.int cc), (.int 1), (.ref b1)]) t → Gl t := fun t kt => kn4 t (st5 _ (by
    show own_S p e below T5 (mkF m 44 #[.val (.ref b1), .val (.int 1), .val (.int cc)] []) _
    refine XS.aloadN X5.here hx rfl (hb hby d24_44) rfl rfl ?_
    refine XS.iloadN X5.here hx rfl (hb hby d24_45) rfl ?_
    refine XS.iloadN X5.here hx rfl (hb hby d24_46) rfl ?_
    exact kt))
  obtain ⟨T11, X11, e11, st11⟩ := getS2 X5 hx hZ hown (host := "") (Or.inl (own_w hw 108 rfl)) Via.refl e5 (U3.ext Od7.2) (g := (mkF m 47 #[.val (.ref b1), .val (.int 1), .val (.int cc)] [(.int cc), (.int 1), (.ref b1)])) rfl (hb hby d24_47)
  have kn12 : ∀ t, own_S p e below T11 (mkF m 52 #[.val (.ref b1), .val (.int 1), .val (.int cc)] [(.int ((cc >>> ((8 : Int32) &&& 31)).toInt8.toInt32)), (.int 1), (.ref b1)]) t → Gl t := fun t kt => kn10 t (st11 _ (by
    show own_S p e below T11 (mkF m 50 #[.val (.ref b1), .val (.int 1), .val (.int cc)] [(.int 8), (.int cc), (.int 1), (.ref b1)]) _
    refine XS.ishr X11.here hx rfl (hb hby d24_50) rfl ?_
    refine XS.i2b X11.here hx rfl (hb hby d24_51) rfl ?_
    exact kt))
  obtain ⟨cl13, Ar13, q13, Sz13, Ng13, Hs13, Gs13⟩ := id V5
  have hin13 : ¬ ((1 : Int32) < 0 ∨ cl13.slots.size ≤ ((1 : Int32)).toNatClampNeg) := inb_of Sz13 ⟨by decide, by decide⟩
  obtain ⟨T13, h13, X13, e13, W13, st13⟩ := stB X11 hx hZ e11 Ar13 (j := (1 : Int32)) hin13 (g := (mkF m 52 #[.val (.ref b1), .val (.int 1), .val (.int cc)] [(.int ((cc >>> ((8 : Int32) &&& 31)).toInt8.toInt32)), (.int 1), (.ref b1)])) rfl rfl (hb hby d24_52)
  have Z14 := Nat.le_trans Z6 (Keep.of_wr W13).1
  have Od15 := Od7.wr W13 g_b1
  have K16 := K8.wr W13 (Or.inl (List.mem_of_getElem? (i := 0) rfl))
  have V13 : Arv Z h13 b1 kb .byte (2 : Int32) [(.int (StrChars.lo8 cc)), (.int (((cc >>> ((8 : Int32) &&& 31)).toInt8.toInt32).toInt8.toInt32))] (.int (0 : Int32)) := Arv.set Ar13 q13 Sz13 Ng13 Hs13 Gs13 (fits_nar_byte _) W13 1 rfl (Nat.le_of_ble_eq_true rfl)
  rw [(show (((cc >>> ((8 : Int32) &&& 31)).toInt8.toInt32).toInt8.toInt32) = (StrChars.hi8 cc) from own_hi cc)] at V13
  have Nf17 := Fr.snoc X13 Nf9 g_b1
  obtain ⟨fs, hr, hrun, hended, hW, hsame⟩ := X13.leave (v := none) (fun _ => rfl)
  refine ⟨_, _, hGl _ (kn12 _ (st13 _ (X13.returnOut hx Bd.returns (hb hby d24_53) hr))), hrun, hended, _, _, rfl, ?_, ⟨_, rfl⟩, hW, hsame.mono (by decide) (by decide)⟩
  show Q24_1_0 Z b1 cc kb v0 v1 h0 n0 _ T13.heap _
  rw [e13]
  exact ⟨rfl, Nf17, K16, V13⟩

abbrev mN20 : MethodName := ⟨"java/lang/StringUTF16", "toBytes", "([CII)[B"⟩
theorem d21_0 : decode jdk_52_method_14_code 0 = .ok (.iload_n 2, 1) := by decide +kernel
theorem d21_1 : decode jdk_52_method_14_code 1 = .ok (.invokestatic 107, 3) := by decide +kernel
theorem d21_4 : decode jdk_52_method_14_code 4 = .ok (.astore_n 3, 1) := by decide +kernel
theorem d21_5 : decode jdk_52_method_14_code 5 = .ok (.iconst 0, 1) := by decide +kernel
theorem d21_6 : decode jdk_52_method_14_code 6 = .ok (.istore 4, 2) := by decide +kernel
theorem d21_8 : decode jdk_52_method_14_code 8 = .ok (.iload 4, 2) := by decide +kernel
theorem d21_10 : decode jdk_52_method_14_code 10 = .ok (.iload_n 2, 1) := by decide +kernel
theorem d21_11 : decode jdk_52_method_14_code 11 = .ok (.if_icmp .ge 21, 3) := by decide +kernel
theorem d21_14 : decode jdk_52_method_14_code 14 = .ok (.aload_n 3, 1) := by decide +kernel
theorem d21_15 : decode jdk_52_method_14_code 15 = .ok (.iload 4, 2) := by decide +kernel
theorem d21_17 : decode jdk_52_method_14_code 17 = .ok (.aload_n 0, 1) := by decide +kernel
theorem d21_18 : decode jdk_52_method_14_code 18 = .ok (.iload_n 1, 1) := by decide +kernel
theorem d21_19 : decode jdk_52_method_14_code 19 = .ok (.caload, 1) := by decide +kernel
theorem d21_20 : decode jdk_52_method_14_code 20 = .ok (.invokestatic 111, 3) := by decide +kernel
theorem d21_23 : decode jdk_52_method_14_code 23 = .ok (.iinc 1 1, 3) := by decide +kernel
theorem d21_26 : decode jdk_52_method_14_code 26 = .ok (.iinc 4 1, 3) := by decide +kernel
theorem d21_29 : decode jdk_52_method_14_code 29 = .ok (.goto (-21), 3) := by decide +kernel
theorem d21_32 : decode jdk_52_method_14_code 32 = .ok (.aload_n 3, 1) := by decide +kernel
theorem d21_33 : decode jdk_52_method_14_code 33 = .ok (.areturn, 1) := by decide +kernel
theorem pd_11 : parseMethodDescriptor "(I)[B" = some ⟨[.int], some (.array .byte)⟩ := by decide +kernel
theorem pd_12 : parseMethodDescriptor "([BII)V" = some ⟨[(.array .byte), .int, .int], none⟩ := by decide +kernel
theorem ef_rm21_1 (m : MethodId) (x0 : Addr) : entryFrame m #[(.ref x0), (.int (0 : Int32)), (.int (1 : Int32))] 5 = mkF m 0 #[.val (.ref x0), .val (.int (0 : Int32)), .val (.int (1 : Int32)), .unset, .unset] [] := by first | (simp [entryFrame, mkF, argsToLocals, Value.category]; done) | rfl
def Q21_1 (Z : State) (a1 : Addr) (ka : ClassId) (c0 : Int32) (h0 : Heap) (n0 : Nat) (v : Option Value) (h : Heap) (L : List Loc) : Prop := ∃ (b : Addr) (kb : ClassId), v = some (.ref b) ∧ Fr n0 L ∧ n0 ≤ b ∧ h0.size ≤ b ∧ Keep h0 h [] ∧ Arv Z h b kb .byte (2 : Int32) [(.int (StrChars.lo8 c0)), (.int (StrChars.hi8 c0))] (.int (0 : Int32))
theorem rm21_1 (l : Launch) (Z : State) (a0 : Array Value) (hw : ∀ d ∈ tables_1, d.before a0 Z = true) (ws : List Jvm.Cond) (a1 : Addr) (ka : ClassId) (c0 : Int32) (h0 : Heap) (n0 : Nat) (Z0 : n0 ≤ h0.size) (A1 : Arv Z h0 a1 ka .char (1 : Int32) [(.int c0)] (.int (0 : Int32))) (O0 : Old Z n0 h0) (U1 : Sta Z Z.heap "java/lang/StringUTF16" "$assertionsDisabled" "Z" (.int (1 : Int32))) (U2 : Sta Z Z.heap "java/lang/StringUTF16" "HI_BYTE_SHIFT" "I" (.int (0 : Int32))) (U3 : Sta Z Z.heap "java/lang/StringUTF16" "LO_BYTE_SHIFT" "I" (.int (8 : Int32))) :
    MetFree l mN20 (head1 (Jvm.Cond.code mN20 jdk_52_method_14_code 5 (some (.array .byte)) :: ws) (own_r 2 1 2 24)) (fun a U => a = #[(.ref a1), (.int (0 : Int32)), (.int (1 : Int32))] ∧ Z.Warmed39 U.vm ∧ U.heap = h0) (fun _ _ _ _ _ => True) (fun _ U o U' => ∃ v L, o = .returned v ∧ Q21_1 Z a1 ka c0 h0 n0 v U'.heap L ∧ FrameEnd U o U' L (own_r 2 1 2 24).cells (own_r 2 1 2 24).slots) := by
  refine MetFree.of_bodySF (plainFor_of_name pn_4) hisR ?_
  intro p e s m args below meth c s₁ Bd hml0 hP hK
  obtain ⟨rfl, hZ, hh⟩ := hP
  have hx := Bd.exec
  have hby := Bd.bytes
  have hml : c.maxLocals = 5 := hml0
  have hown : s.vm.findClass "java/lang/StringUTF16" = some m.cls := findClass_of_methodNamed Bd.named
  have hnm := (name_of_methodNamed Bd.named Bd.method).1
  have X0 : Stand p l e (own_r 2 1 2 24) s m #[(.ref a1), (.int (0 : Int32)), (.int (1 : Int32))] below meth c s₁ [] 0 0 := Stand.of_body Bd
  have e0 : s₁.heap = h0 := by rw [← hh, Bd.state]; rfl
  have Nf0 := Fr.nil n0
  obtain ⟨Gl, hGl, kn0⟩ := own_gl (p := p) (e := e) (below := below) (s₁ := s₁) (ef_rm21_1 m a1)
  have kn1 : ∀ t, own_S p e below s₁ (mkF m 1 #[.val (.ref a1), .val (.int 0), .val (.int 1), .unset, .unset] [(.int 1)]) t → Gl t := fun t kt => kn0 t (by
    show own_S p e below s₁ (mkF m 0 #[.val (.ref a1), .val (.int 0), .val (.int 1), .unset, .unset] []) _
    refine XS.iloadN X0.here hx rfl (hb hby d21_0) rfl ?_
    exact kt)
  obtain ⟨_, _, ⟨T2, L2, cc2, ss2⟩, -, X2, ⟨Lc2, hQ2, l2, y2, z2⟩, st2⟩ := Jvm.LawKit.callS X0 hx (y := mN18) hown (mvT hZ (own_w hw 96 rfl)) (mvT hZ (own_w hw 97 rfl)) (mvT hZ (own_w hw 54 rfl)) (mvT hZ (own_w hw 98 rfl)) (by decide) (backOf (W := 0) (rm22_1 l Z a0 hw []   h0 n0 Z0 ) hZ (own_w hw 98 rfl) (own_w hw 54 rfl) (by decide) (by decide)) (g := (mkF m 1 #[.val (.ref a1), .val (.int 0), .val (.int 1), .unset, .unset] [(.int 1)])) rfl (by rw [hml]; rfl) (argsL := [(.int 1)]) (rest := []) (lenOf pd_11 rfl) rfl (by show 2 * 0 + _ ≤ _; exact Nat.le_of_eq rfl) (hb hby d21_1) (fun _ _ => ⟨rfl, e0, (by decide : 0 + 1 ≤ _), (by decide : 0 + 2 ≤ _)⟩)
  dsimp only [Pt.U, Pt.locs, Pt.cells, Pt.slots] at X2 l2 y2 z2 st2 hQ2
  subst l2 y2 z2
  have X2 : Stand p l e _ _ m _ below meth c T2 _ 1 2 := X2
  obtain ⟨b2, kb2, rfl, Nq2, gb2, sb2, K2, V2⟩ := hQ2
  have Nf2 := Fr.app Nf0 Nq2
  have ne_a1_b2 : a1 ≠ b2 := Nat.ne_of_lt (Nat.lt_of_lt_of_le A1.lt sb2)
  have szz2 : h0.size ≤ b2 := sb2
  have Z3 := Nat.le_trans Z0 K2.1
  have Od4 := O0.keep K2 all0
  have K5 := (Keep.refl h0 []).trans K2 (all0)
  have kn6 : ∀ t, own_S p e below T2 (mkF m 19 #[.val (.ref a1), .val (.int 0), .val (.int 1), .val (.ref b2), .val (.int 0)] [(.int 0), (.ref a1), (.int 0), (.ref b2)]) t → Gl t := fun t kt => kn1 t (st2 _ (by
    show own_S p e below T2 (mkF m 4 #[.val (.ref a1), .val (.int 0), .val (.int 1), .unset, .unset] [(.ref b2)]) _
    refine XS.astoreN X2.here hx rfl (hb hby d21_4) rfl rfl (l' := #[.val (.ref a1), .val (.int 0), .val (.int 1), .val (.ref b2), .unset]) rfl ?_
    refine XS.iconst X2.here hx rfl (hb hby d21_5) ?_
    refine XS.istore X2.here hx rfl (hb hby d21_6) rfl (l' := #[.val (.ref a1), .val (.int 0), .val (.int 1), .val (.ref b2), .val (.int 0)]) rfl ?_
    refine XS.iload X2.here hx rfl (hb hby d21_8) rfl ?_
    refine XS.iloadN X2.here hx rfl (hb hby d21_10) rfl ?_
    refine XS.icmpNo X2.here hx rfl (hb hby d21_11) rfl (tlt (by decide : (0 : Int32) < (1 : Int32))).2.1 ?_
    refine XS.aloadN X2.here hx rfl (hb hby d21_14) rfl rfl ?_
    refine XS.iload X2.here hx rfl (hb hby d21_15) rfl ?_
    refine XS.aloadN X2.here hx rfl (hb hby d21_17) rfl rfl ?_
    refine XS.iloadN X2.here hx rfl (hb hby d21_18) rfl ?_
    exact kt))
  have f7 := (A1.keep K2 nin0)
  obtain ⟨cl8, Ar8, q8, Sz8, Ng8, Hs8, Gs8⟩ := id f7
  have hin8 : ¬ ((0 : Int32) < 0 ∨ cl8.slots.size ≤ ((0 : Int32)).toNatClampNeg) := inb_of Sz8 ⟨by decide, by decide⟩
  have hat8 : cl8.slots[((0 : Int32)).toNatClampNeg]? = some (.int c0) := Hs8.at hin8 rfl
  have kn9 : ∀ t, own_S p e below T2 (mkF m 20 #[.val (.ref a1), .val (.int 0), .val (.int 1), .val (.ref b2), .val (.int 0)] [(.int c0), (.int 0), (.ref b2)]) t → Gl t := fun t kt => kn6 t (by
    show own_S p e below T2 (mkF m 19 #[.val (.ref a1), .val (.int 0), .val (.int 1), .val (.ref b2), .val (.int 0)] [(.int 0), (.ref a1), (.int 0), (.ref b2)]) _
    refine X2.caload hx (j := (0 : Int32)) (v := (.int c0)) Ar8.1 (State.isArrayOf_alike hZ.alike Ar8.2.1) Ar8.2.2 hin8 hat8 (g := (mkF m 19 #[.val (.ref a1), .val (.int 0), .val (.int 1), .val (.ref b2), .val (.int 0)] [(.int 0), (.ref a1), (.int 0), (.ref b2)])) rfl rfl (hb hby d21_19) _ ?_
    exact kt)
  obtain ⟨_, _, ⟨T10, L10, cc10, ss10⟩, -, X10, ⟨Lc10, hQ10, l10, y10, z10⟩, st10⟩ := Jvm.LawKit.callS X2 hx (y := mN19) hown (mvT hZ (own_w hw 103 rfl)) (mvT hZ (own_w hw 104 rfl)) (mvT hZ (own_w hw 54 rfl)) (mvT hZ (own_w hw 105 rfl)) (by decide) (backOf (W := 0) (rm24_1_0 l Z a0 hw [] b2 c0 kb2 (.int (0 : Int32)) (.int (0 : Int32)) T2.heap n0 Z3 V2 gb2 Od4 U1 U2 U3) hZ (own_w hw 105 rfl) (own_w hw 54 rfl) (by decide) (by decide)) (g := (mkF m 20 #[.val (.ref a1), .val (.int 0), .val (.int 1), .val (.ref b2), .val (.int 0)] [(.int c0), (.int 0), (.ref b2)])) rfl (by rw [hml]; rfl) (argsL := [(.ref b2), (.int 0), (.int c0)]) (rest := []) (lenOf pd_12 rfl) rfl (by show 2 * 0 + _ ≤ _; exact Nat.le_of_eq rfl) (hb hby d21_20) (fun _ _ => ⟨rfl, rfl, (by decide : 1 + 0 ≤ _), (by decide : 2 + 0 ≤ _)⟩)
  dsimp only [Pt.U, Pt.locs, Pt.cells, Pt.slots] at X10 l10 y10 z10 st10 hQ10
  subst l10 y10 z10
  have X10 : Stand p l e _ _ m _ below meth c T10 _ 1 2 := X10
  obtain ⟨rfl, Nq10, K10, V10⟩ := hQ10
  have Nf10 := Fr.app Nf2 Nq10
  have Z11 := Nat.le_trans Z3 K10.1
  have Od12 := Od4.keep K10 (allS gb2 all0)
  have K13 := K5.trans K10 (allS (Or.inr szz2) all0)
  have kn14 : ∀ t, own_S p e below T10 (mkF m 33 #[.val (.ref a1), .val (.int 1), .val (.int 1), .val (.ref b2), .val (.int 1)] [(.ref b2)]) t → Gl t := fun t kt => kn9 t (st10 _ (by
    show own_S p e below T10 (mkF m 23 #[.val (.ref a1), .val (.int 0), .val (.int 1), .val (.ref b2), .val (.int 0)] []) _
    refine XS.iinc X10.here hx rfl (hb hby d21_23) rfl (l' := #[.val (.ref a1), .val (.int ((0 : Int32) + (1 : Int32))), .val (.int 1), .val (.ref b2), .val (.int 0)]) rfl ?_
    rw [(by decide : ((0 : Int32) + (1 : Int32)) = (1 : Int32))]
    show own_S p e below T10 (mkF m 26 #[.val (.ref a1), .val (.int 1), .val (.int 1), .val (.ref b2), .val (.int 0)] []) _
    refine XS.iinc X10.here hx rfl (hb hby d21_26) rfl (l' := #[.val (.ref a1), .val (.int 1), .val (.int 1), .val (.ref b2), .val (.int ((0 : Int32) + (1 : Int32)))]) rfl ?_
    rw [(by decide : ((0 : Int32) + (1 : Int32)) = (1 : Int32))]
    refine XS.goto X10.here hx rfl (pc0 := 29) (pc' := 8) rfl (hb hby d21_29) (by decide) (by decide) ?_
    refine XS.iload X10.here hx rfl (hb hby d21_8) rfl ?_
    refine XS.iloadN X10.here hx rfl (hb hby d21_10) rfl ?_
    refine XS.icmpYes X10.here hx rfl (pc0 := 11) (pc' := 32) rfl (hb hby d21_11) rfl (flt (by decide : ¬ ((1 : Int32) < (1 : Int32)))).2.1 (by decide) (by decide) ?_
    refine XS.aloadN X10.here hx rfl (hb hby d21_32) rfl rfl ?_
    exact kt))
  obtain ⟨fs, hr, hrun, hended, hW, hsame⟩ := X10.leave (v := some (.ref b2)) (fun h => by rw [Bd.returns] at h; cases h)
  refine ⟨_, _, hGl _ (kn14 _ (by
      show own_S p e below T10 (mkF m 33 #[.val (.ref a1), .val (.int 1), .val (.int 1), .val (.ref b2), .val (.int 1)] [(.ref b2)]) _
      jvm_step X10.here [X10.here.top, hx, (hb hby d21_33), X10.method', Bd.returns, Value.isRef, FieldType.isReference]
      first | (intro acts; rw [hr _ acts rfl rfl rfl]) | rw [hr _ _ rfl rfl rfl]
      exact Steps.refl _)), hrun, hended, _, _, rfl, ?_, ⟨_, rfl⟩, hW, hsame.mono (by decide) (by decide)⟩
  show Q21_1 Z a1 ka c0 h0 n0 _ T10.heap _
  exact ⟨b2, _, rfl, Nf10, gb2, szz2, K13, V10⟩

abbrev mN21 : MethodName := ⟨"java/lang/StringUTF16", "compress", "([CII)[B"⟩
theorem d11_0 : decode jdk_52_method_16_code 0 = .ok (.iload_n 2, 1) := by decide +kernel
theorem d11_1 : decode jdk_52_method_16_code 1 = .ok (.newarray .byte, 2) := by decide +kernel
theorem d11_3 : decode jdk_52_method_16_code 3 = .ok (.astore_n 3, 1) := by decide +kernel
theorem d11_4 : decode jdk_52_method_16_code 4 = .ok (.aload_n 0, 1) := by decide +kernel
theorem d11_5 : decode jdk_52_method_16_code 5 = .ok (.iload_n 1, 1) := by decide +kernel
theorem d11_6 : decode jdk_52_method_16_code 6 = .ok (.aload_n 3, 1) := by decide +kernel
theorem d11_7 : decode jdk_52_method_16_code 7 = .ok (.iconst 0, 1) := by decide +kernel
theorem d11_8 : decode jdk_52_method_16_code 8 = .ok (.iload_n 2, 1) := by decide +kernel
theorem d11_9 : decode jdk_52_method_16_code 9 = .ok (.invokestatic 115, 3) := by decide +kernel
theorem d11_12 : decode jdk_52_method_16_code 12 = .ok (.istore 4, 2) := by decide +kernel
theorem d11_14 : decode jdk_52_method_16_code 14 = .ok (.iload 4, 2) := by decide +kernel
theorem d11_16 : decode jdk_52_method_16_code 16 = .ok (.iload_n 2, 1) := by decide +kernel
theorem d11_17 : decode jdk_52_method_16_code 17 = .ok (.if_icmp .eq 40, 3) := by decide +kernel
theorem d11_20 : decode jdk_52_method_16_code 20 = .ok (.aload_n 0, 1) := by decide +kernel
theorem d11_21 : decode jdk_52_method_16_code 21 = .ok (.iload_n 1, 1) := by decide +kernel
theorem d11_22 : decode jdk_52_method_16_code 22 = .ok (.iload_n 2, 1) := by decide +kernel
theorem d11_23 : decode jdk_52_method_16_code 23 = .ok (.invokestatic 119, 3) := by decide +kernel
theorem d11_26 : decode jdk_52_method_16_code 26 = .ok (.astore 5, 2) := by decide +kernel
theorem d11_28 : decode jdk_52_method_16_code 28 = .ok (.aload 5, 2) := by decide +kernel
theorem d11_30 : decode jdk_52_method_16_code 30 = .ok (.iload 4, 2) := by decide +kernel
theorem d11_32 : decode jdk_52_method_16_code 32 = .ok (.invokestatic 71, 3) := by decide +kernel
theorem d11_35 : decode jdk_52_method_16_code 35 = .ok (.sipush 255, 3) := by decide +kernel
theorem d11_38 : decode jdk_52_method_16_code 38 = .ok (.if_icmp .gt 16, 3) := by decide +kernel
theorem d11_54 : decode jdk_52_method_16_code 54 = .ok (.aload 5, 2) := by decide +kernel
theorem d11_56 : decode jdk_52_method_16_code 56 = .ok (.areturn, 1) := by decide +kernel
theorem pd_13 : parseMethodDescriptor "([CI[BII)I" = some ⟨[(.array .char), .int, (.array .byte), .int, .int], some .int⟩ := by decide +kernel
theorem pd_14 : parseMethodDescriptor "([CII)[B" = some ⟨[(.array .char), .int, .int], some (.array .byte)⟩ := by decide +kernel
theorem ef_rm11_1 (m : MethodId) (x0 : Addr) : entryFrame m #[(.ref x0), (.int (0 : Int32)), (.int (1 : Int32))] 6 = mkF m 0 #[.val (.ref x0), .val (.int (0 : Int32)), .val (.int (1 : Int32)), .unset, .unset, .unset] [] := by first | (simp [entryFrame, mkF, argsToLocals, Value.category]; done) | rfl
def Q11_1 (Z : State) (a1 : Addr) (ka : ClassId) (c0 : Int32) (h0 : Heap) (n0 : Nat) (v : Option Value) (h : Heap) (L : List Loc) : Prop := ∃ (b : Addr) (kb : ClassId), v = some (.ref b) ∧ Fr n0 L ∧ n0 ≤ b ∧ h0.size ≤ b ∧ Keep h0 h [] ∧ Arv Z h b kb .byte (2 : Int32) [(.int (StrChars.lo8 c0)), (.int (StrChars.hi8 c0))] (.int (0 : Int32))
theorem rm11_1 (l : Launch) (Z : State) (a0 : Array Value) (hw : ∀ d ∈ tables_1, d.before a0 Z = true) (ws : List Jvm.Cond) (a1 : Addr) (ka : ClassId) (c0 : Int32) (h0 : Heap) (n0 : Nat) (Z0 : n0 ≤ h0.size) (A1 : Arv Z h0 a1 ka .char (1 : Int32) [(.int c0)] (.int (0 : Int32))) (rg0 : own_rg c0) (hwide : (255 : Int32) < c0) (O0 : Old Z n0 h0) (U1 : Sta Z Z.heap "java/lang/StringUTF16" "$assertionsDisabled" "Z" (.int (1 : Int32))) (U2 : Sta Z Z.heap "java/lang/StringUTF16" "HI_BYTE_SHIFT" "I" (.int (0 : Int32))) (U3 : Sta Z Z.heap "java/lang/StringUTF16" "LO_BYTE_SHIFT" "I" (.int (8 : Int32))) :
    MetFree l mN21 (head1 (Jvm.Cond.code mN21 jdk_52_method_16_code 6 (some (.array .byte)) :: ws) (own_r 3 2 3 40)) (fun a U => a = #[(.ref a1), (.int (0 : Int32)), (.int (1 : Int32))] ∧ Z.Warmed39 U.vm ∧ U.heap = h0) (fun _ _ _ _ _ => True) (fun _ U o U' => ∃ v L, o = .returned v ∧ Q11_1 Z a1 ka c0 h0 n0 v U'.heap L ∧ FrameEnd U o U' L (own_r 3 2 3 40).cells (own_r 3 2 3 40).slots) := by
  refine MetFree.of_bodySF (plainFor_of_name pn_4) hisR ?_
  intro p e s m args below meth c s₁ Bd hml0 hP hK
  obtain ⟨rfl, hZ, hh⟩ := hP
  have hx := Bd.exec
  have hby := Bd.bytes
  have hml : c.maxLocals = 6 := hml0
  have hown : s.vm.findClass "java/lang/StringUTF16" = some m.cls := findClass_of_methodNamed Bd.named
  have hnm := (name_of_methodNamed Bd.named Bd.method).1
  have X0 : Stand p l e (own_r 3 2 3 40) s m #[(.ref a1), (.int (0 : Int32)), (.int (1 : Int32))] below meth c s₁ [] 0 0 := Stand.of_body Bd
  have e0 : s₁.heap = h0 := by rw [← hh, Bd.state]; rfl
  have Nf0 := Fr.nil n0
  obtain ⟨Gl, hGl, kn0⟩ := own_gl (p := p) (e := e) (below := below) (s₁ := s₁) (ef_rm11_1 m a1)
  have w0 := hwide
  have kn1 : ∀ t, own_S p e below s₁ (mkF m 1 #[.val (.ref a1), .val (.int 0), .val (.int 1), .unset, .unset, .unset] [(.int 1)]) t → Gl t := fun t kt => kn0 t (by
    show own_S p e below s₁ (mkF m 0 #[.val (.ref a1), .val (.int 0), .val (.int 1), .unset, .unset, .unset] []) _
    refine XS.iloadN X0.here hx rfl (hb hby d11_0) rfl ?_
    exact kt)
  obtain ⟨T2, h2, kk2, X2, e2, E2, A2, st2⟩ := newP X0 hx hZ (own_w hw 20 rfl) e0 (g := (mkF m 1 #[.val (.ref a1), .val (.int 0), .val (.int 1), .unset, .unset, .unset] [(.int 1)])) rfl (hb hby d11_1) rfl (by decide) (cap := 1) (by decide) (by decide) (by decide) (by decide)
  obtain ⟨b2, g2⟩ : ∃ z, z = h0.size := ⟨_, rfl⟩
  rw [← g2] at A2 st2
  have sz_b2 : h0.size ≤ b2 := Nat.le_trans (Keep.refl h0 []).1 (Nat.le_of_eq g2.symm)
  have g_b2 : n0 ≤ b2 := Nat.le_trans Z0 (Nat.le_of_eq g2.symm)
  have ne_a1_b2 : a1 ≠ b2 := Nat.ne_of_lt (Nat.lt_of_lt_of_le A1.lt (Nat.le_of_eq g2.symm))
  have Z3 := Nat.le_trans Z0 E2.1
  have Od4 := O0.ext E2
  have K5 := (Keep.refl h0 []).ext E2
  have V2 : Arv Z h2 b2 kk2 .byte (1 : Int32) [(.int (0 : Int32))] (.int (0 : Int32)) := (Arv.new A2 (by decide)).pad (pad_rep [] (.int (0 : Int32)) 1)
  have kn6 : ∀ t, own_S p e below T2 (mkF m 9 #[.val (.ref a1), .val (.int 0), .val (.int 1), .val (.ref b2), .unset, .unset] [(.int 1), (.int 0), (.ref b2), (.int 0), (.ref a1)]) t → Gl t := fun t kt => kn1 t (st2 _ (by
    show own_S p e below T2 (mkF m 3 #[.val (.ref a1), .val (.int 0), .val (.int 1), .unset, .unset, .unset] [(.ref b2)]) _
    refine XS.astoreN X2.here hx rfl (hb hby d11_3) rfl rfl (l' := #[.val (.ref a1), .val (.int 0), .val (.int 1), .val (.ref b2), .unset, .unset]) rfl ?_
    refine XS.aloadN X2.here hx rfl (hb hby d11_4) rfl rfl ?_
    refine XS.iloadN X2.here hx rfl (hb hby d11_5) rfl ?_
    refine XS.aloadN X2.here hx rfl (hb hby d11_6) rfl rfl ?_
    refine XS.iconst X2.here hx rfl (hb hby d11_7) ?_
    refine XS.iloadN X2.here hx rfl (hb hby d11_8) rfl ?_
    exact kt))
  have f8 := (A1.ext E2)
  obtain ⟨_, _, ⟨T7, L7, cc7, ss7⟩, -, X7, ⟨Lc7, hQ7, l7, y7, z7⟩, st7⟩ := Jvm.LawKit.callS X2 hx (y := mN16) hown (mvT hZ (own_w hw 56 rfl)) (mvT hZ (own_w hw 57 rfl)) (mvT hZ (own_w hw 54 rfl)) (mvT hZ (own_w hw 58 rfl)) (by decide) (backOf (W := 0) (rm12_1_0 l Z a0 hw [] a1 b2 ka kk2 c0 h2 n0 Z3 f8 V2 ne_a1_b2 g_b2 w0) hZ (own_w hw 58 rfl) (own_w hw 54 rfl) (by decide) (by decide)) (g := (mkF m 9 #[.val (.ref a1), .val (.int 0), .val (.int 1), .val (.ref b2), .unset, .unset] [(.int 1), (.int 0), (.ref b2), (.int 0), (.ref a1)])) rfl (by rw [hml]; rfl) (argsL := [(.ref a1), (.int 0), (.ref b2), (.int 0), (.int 1)]) (rest := []) (lenOf pd_13 rfl) rfl (by show 2 * 0 + _ ≤ _; exact Nat.le_of_eq rfl) (hb hby d11_9) (fun _ _ => ⟨rfl, e2, (by decide : 1 + 0 ≤ _), (by decide : 1 + 0 ≤ _)⟩)
  dsimp only [Pt.U, Pt.locs, Pt.cells, Pt.slots] at X7 l7 y7 z7 st7 hQ7
  subst l7 y7 z7
  have X7 : Stand p l e _ _ m _ below meth c T7 _ 1 1 := X7
  obtain ⟨rfl, Nq7, K7⟩ := hQ7
  have Nf7 := Fr.app Nf0 Nq7
  have Z9 := Nat.le_trans Z3 K7.1
  have Od10 := Od4.keep K7 (allS g_b2 all0)
  have K11 := K5.trans K7 (allS (Or.inr sz_b2) all0)
  have kn12 : ∀ t, own_S p e below T7 (mkF m 23 #[.val (.ref a1), .val (.int 0), .val (.int 1), .val (.ref b2), .val (.int 0), .unset] [(.int 1), (.int 0), (.ref a1)]) t → Gl t := fun t kt => kn6 t (st7 _ (by
    show own_S p e below T7 (mkF m 12 #[.val (.ref a1), .val (.int 0), .val (.int 1), .val (.ref b2), .unset, .unset] [(.int 0)]) _
    refine XS.istore X7.here hx rfl (hb hby d11_12) rfl (l' := #[.val (.ref a1), .val (.int 0), .val (.int 1), .val (.ref b2), .val (.int 0), .unset]) rfl ?_
    refine XS.iload X7.here hx rfl (hb hby d11_14) rfl ?_
    refine XS.iloadN X7.here hx rfl (hb hby d11_16) rfl ?_
    refine XS.icmpNo X7.here hx rfl (hb hby d11_17) rfl (feq (by decide : ¬ ((0 : Int32) = (1 : Int32)))).1 ?_
    refine XS.aloadN X7.here hx rfl (hb hby d11_20) rfl rfl ?_
    refine XS.iloadN X7.here hx rfl (hb hby d11_21) rfl ?_
    refine XS.iloadN X7.here hx rfl (hb hby d11_22) rfl ?_
    exact kt))
  have f14 := (f8.keep K7 (ninS ne_a1_b2 nin0))
  obtain ⟨_, _, ⟨T13, L13, cc13, ss13⟩, -, X13, ⟨Lc13, hQ13, l13, y13, z13⟩, st13⟩ := Jvm.LawKit.callS X7 hx (y := mN20) hown (mvT hZ (own_w hw 93 rfl)) (mvT hZ (own_w hw 94 rfl)) (mvT hZ (own_w hw 54 rfl)) (mvT hZ (own_w hw 95 rfl)) (by decide) (backOf (W := 0) (rm21_1 l Z a0 hw [] a1 ka c0 T7.heap n0 Z9 f14 Od10 U1 U2 U3) hZ (own_w hw 95 rfl) (own_w hw 54 rfl) (by decide) (by decide)) (g := (mkF m 23 #[.val (.ref a1), .val (.int 0), .val (.int 1), .val (.ref b2), .val (.int 0), .unset] [(.int 1), (.int 0), (.ref a1)])) rfl (by rw [hml]; rfl) (argsL := [(.ref a1), (.int 0), (.int 1)]) (rest := []) (lenOf pd_14 rfl) rfl (by show 2 * 0 + _ ≤ _; exact Nat.le_of_eq rfl) (hb hby d11_23) (fun _ _ => ⟨rfl, rfl, (by decide : 1 + 1 ≤ _), (by decide : 1 + 2 ≤ _)⟩)
  dsimp only [Pt.U, Pt.locs, Pt.cells, Pt.slots] at X13 l13 y13 z13 st13 hQ13
  subst l13 y13 z13
  have X13 : Stand p l e _ _ m _ below meth c T13 _ 2 3 := X13
  obtain ⟨b13, kb13, rfl, Nq13, gb13, sb13, K13, V13⟩ := hQ13
  have Nf13 := Fr.app Nf7 Nq13
  have ne_a1_b13 : a1 ≠ b13 := Nat.ne_of_lt (Nat.lt_of_lt_of_le f14.lt sb13)
  have szz13 : h0.size ≤ b13 := Nat.le_trans K11.1 sb13
  have Z15 := Nat.le_trans Z9 K13.1
  have Od16 := Od10.keep K13 all0
  have K17 := K11.trans K13 (all0)
  have kn18 : ∀ t, own_S p e below T13 (mkF m 32 #[.val (.ref a1), .val (.int 0), .val (.int 1), .val (.ref b2), .val (.int 0), .val (.ref b13)] [(.int 0), (.ref b13)]) t → Gl t := fun t kt => kn12 t (st13 _ (by
    show own_S p e below T13 (mkF m 26 #[.val (.ref a1), .val (.int 0), .val (.int 1), .val (.ref b2), .val (.int 0), .unset] [(.ref b13)]) _
    refine XS.astore X13.here hx rfl (hb hby d11_26) rfl rfl (l' := #[.val (.ref a1), .val (.int 0), .val (.int 1), .val (.ref b2), .val (.int 0), .val (.ref b13)]) rfl ?_
    refine XS.aload X13.here hx rfl (hb hby d11_28) rfl rfl ?_
    refine XS.iload X13.here hx rfl (hb hby d11_30) rfl ?_
    exact kt))
  obtain ⟨_, _, ⟨T19, L19, cc19, ss19⟩, -, X19, ⟨Lc19, hQ19, l19, y19, z19⟩, st19⟩ := Jvm.LawKit.callS X13 hx (y := mN9) hown (mvT hZ (own_w hw 109 rfl)) (mvT hZ (own_w hw 110 rfl)) (mvT hZ (own_w hw 54 rfl)) (mvT hZ (own_w hw 111 rfl)) (by decide) (backOf (W := 0) (rm25_0 l Z a0 hw [] b13 kb13 (2 : Int32) [(.int (StrChars.lo8 c0)), (.int (StrChars.hi8 c0))] (StrChars.lo8 c0) (StrChars.hi8 c0) T13.heap n0 Z15 V13 (by decide) (by decide) rfl rfl Od16 U1 U2 U3) hZ (own_w hw 111 rfl) (own_w hw 54 rfl) (by decide) (by decide)) (g := (mkF m 32 #[.val (.ref a1), .val (.int 0), .val (.int 1), .val (.ref b2), .val (.int 0), .val (.ref b13)] [(.int 0), (.ref b13)])) rfl (by rw [hml]; rfl) (argsL := [(.ref b13), (.int 0)]) (rest := []) (lenOf pd_6 rfl) rfl (by show 2 * 0 + _ ≤ _; exact Nat.le_of_eq rfl) (hb hby d11_32) (fun _ _ => ⟨rfl, rfl, (by decide : 2 + 0 ≤ _), (by decide : 3 + 0 ≤ _)⟩)
  dsimp only [Pt.U, Pt.locs, Pt.cells, Pt.slots] at X19 l19 y19 z19 st19 hQ19
  subst l19 y19 z19
  have X19 : Stand p l e _ _ m _ below meth c T19 _ 2 3 := X19
  obtain ⟨rfl, Nq19, eq19⟩ := hQ19
  have Nf19 := Fr.app Nf13 Nq19
  have kn20 : ∀ t, own_S p e below T19 (mkF m 38 #[.val (.ref a1), .val (.int 0), .val (.int 1), .val (.ref b2), .val (.int 0), .val (.ref b13)] [(.int 255), (.int (nar .char (StrChars.pairCh (StrChars.lo8 c0) (StrChars.hi8 c0))))]) t → Gl t := fun t kt => kn18 t (st19 _ (by
    show own_S p e below T19 (mkF m 35 #[.val (.ref a1), .val (.int 0), .val (.int 1), .val (.ref b2), .val (.int 0), .val (.ref b13)] [(.int (nar .char (StrChars.pairCh (StrChars.lo8 c0) (StrChars.hi8 c0))))]) _
    refine XS.sipush X19.here hx rfl (hb hby d11_35) ?_
    exact kt))
  have hc38_21 : (255 : Int32) < (nar .char (StrChars.pairCh (StrChars.lo8 c0) (StrChars.hi8 c0))) := by rw [own_pr rg0]; exact w0
  have kn22 : ∀ t, own_S p e below T19 (mkF m 56 #[.val (.ref a1), .val (.int 0), .val (.int 1), .val (.ref b2), .val (.int 0), .val (.ref b13)] [(.ref b13)]) t → Gl t := fun t kt => kn20 t (by
    show own_S p e below T19 (mkF m 38 #[.val (.ref a1), .val (.int 0), .val (.int 1), .val (.ref b2), .val (.int 0), .val (.ref b13)] [(.int 255), (.int (nar .char (StrChars.pairCh (StrChars.lo8 c0) (StrChars.hi8 c0))))]) _
    refine XS.icmpYes X19.here hx rfl (pc0 := 38) (pc' := 54) rfl (hb hby d11_38) rfl (tlt hc38_21).2.2.1 (by decide) (by decide) ?_
    refine XS.aload X19.here hx rfl (hb hby d11_54) rfl rfl ?_
    exact kt)
  obtain ⟨fs, hr, hrun, hended, hW, hsame⟩ := X19.leave (v := some (.ref b13)) (fun h => by rw [Bd.returns] at h; cases h)
  refine ⟨_, _, hGl _ (kn22 _ (by
      show own_S p e below T19 (mkF m 56 #[.val (.ref a1), .val (.int 0), .val (.int 1), .val (.ref b2), .val (.int 0), .val (.ref b13)] [(.ref b13)]) _
      jvm_step X19.here [X19.here.top, hx, (hb hby d11_56), X19.method', Bd.returns, Value.isRef, FieldType.isReference]
      first | (intro acts; rw [hr _ acts rfl rfl rfl]) | rw [hr _ _ rfl rfl rfl]
      exact Steps.refl _)), hrun, hended, _, _, rfl, ?_, ⟨_, rfl⟩, hW, hsame.mono (by decide) (by decide)⟩
  show Q11_1 Z a1 ka c0 h0 n0 _ T19.heap _
  rw [eq19]
  exact ⟨b13, _, rfl, Nf19, gb13, szz13, K17, V13⟩

abbrev mN22 : MethodName := ⟨"java/lang/StringUTF16", "coderFromArrayLen", "([BI)B"⟩
theorem d13_0 : decode jdk_52_method_15_code 0 = .ok (.iload_n 1, 1) := by decide +kernel
theorem d13_1 : decode jdk_52_method_15_code 1 = .ok (.aload_n 0, 1) := by decide +kernel
theorem d13_2 : decode jdk_52_method_15_code 2 = .ok (.arraylength, 1) := by decide +kernel
theorem d13_3 : decode jdk_52_method_15_code 3 = .ok (.isub, 1) := by decide +kernel
theorem d13_4 : decode jdk_52_method_15_code 4 = .ok (.bipush 31, 2) := by decide +kernel
theorem d13_6 : decode jdk_52_method_15_code 6 = .ok (.iushr, 1) := by decide +kernel
theorem d13_7 : decode jdk_52_method_15_code 7 = .ok (.i2b, 1) := by decide +kernel
theorem d13_8 : decode jdk_52_method_15_code 8 = .ok (.ireturn, 1) := by decide +kernel
theorem ef_rm13_1 (m : MethodId) (x0 : Addr) : entryFrame m #[(.ref x0), (.int (1 : Int32))] 2 = mkF m 0 #[.val (.ref x0), .val (.int (1 : Int32))] [] := by first | (simp [entryFrame, mkF, argsToLocals, Value.category]; done) | rfl
def Q13_1 (Z : State) (b1 : Addr) (kb : ClassId) (vs : List Value) (h0 : Heap) (n0 : Nat) (v : Option Value) (h : Heap) (L : List Loc) : Prop := v = some (.int (1 : Int32)) ∧ Fr n0 L ∧ h = h0
theorem rm13_1 (l : Launch) (Z : State) (a0 : Array Value) (hw : ∀ d ∈ tables_1, d.before a0 Z = true) (ws : List Jvm.Cond) (b1 : Addr) (kb : ClassId) (vs : List Value) (h0 : Heap) (n0 : Nat) (Z0 : n0 ≤ h0.size) (A1 : Arv Z h0 b1 kb .byte (2 : Int32) vs (.int (0 : Int32))) :
    MetFree l mN22 (head1 (Jvm.Cond.code mN22 jdk_52_method_15_code 2 (some .byte) :: ws) (own_r 0 0 0 0)) (fun a U => a = #[(.ref b1), (.int (1 : Int32))] ∧ Z.Warmed39 U.vm ∧ U.heap = h0) (fun _ _ _ _ _ => True) (fun _ U o U' => ∃ v L, o = .returned v ∧ Q13_1 Z b1 kb vs h0 n0 v U'.heap L ∧ FrameEnd U o U' L (own_r 0 0 0 0).cells (own_r 0 0 0 0).slots) := by
  refine MetFree.of_bodySF (plainFor_of_name pn_4) hisR ?_
  intro p e s m args below meth c s₁ Bd hml0 hP hK
  obtain ⟨rfl, hZ, hh⟩ := hP
  have hx := Bd.exec
  have hby := Bd.bytes
  have hml : c.maxLocals = 2 := hml0
  have hown : s.vm.findClass "java/lang/StringUTF16" = some m.cls := findClass_of_methodNamed Bd.named
  have hnm := (name_of_methodNamed Bd.named Bd.method).1
  have X0 : Stand p l e (own_r 0 0 0 0) s m #[(.ref b1), (.int (1 : Int32))] below meth c s₁ [] 0 0 := Stand.of_body Bd
  have e0 : s₁.heap = h0 := by rw [← hh, Bd.state]; rfl
  have Nf0 := Fr.nil n0
  obtain ⟨Gl, hGl, kn0⟩ := own_gl (p := p) (e := e) (below := below) (s₁ := s₁) (ef_rm13_1 m b1)
  have kn1 : ∀ t, own_S p e below s₁ (mkF m 2 #[.val (.ref b1), .val (.int 1)] [(.ref b1), (.int 1)]) t → Gl t := fun t kt => kn0 t (by
    show own_S p e below s₁ (mkF m 0 #[.val (.ref b1), .val (.int 1)] []) _
    refine XS.iloadN X0.here hx rfl (hb hby d13_0) rfl ?_
    refine XS.aloadN X0.here hx rfl (hb hby d13_1) rfl rfl ?_
    exact kt)
  obtain ⟨cl2, Ar2, -, Sz2, Ng2, -, -⟩ := id A1
  have kn3 : ∀ t, own_S p e below s₁ (mkF m 8 #[.val (.ref b1), .val (.int 1)] [(.int 1)]) t → Gl t := fun t kt => kn1 t (by
    show own_S p e below s₁ (mkF m 2 #[.val (.ref b1), .val (.int 1)] [(.ref b1), (.int 1)]) _
    refine X0.arraylength hx (by rw [e0]; exact Ar2.1) (State.isArrayOf_alike hZ.alike Ar2.2.1) (g := (mkF m 2 #[.val (.ref b1), .val (.int 1)] [(.ref b1), (.int 1)])) rfl rfl (hb hby d13_2) _ ?_
    rw [len_of Sz2 Ng2]
    show own_S p e below s₁ (mkF m 3 #[.val (.ref b1), .val (.int 1)] [(.int 2), (.int 1)]) _
    refine XS.isub X0.here hx rfl (hb hby d13_3) rfl ?_
    rw [(by decide : ((1 : Int32) - (2 : Int32)) = (-1 : Int32))]
    refine XS.bipush X0.here hx rfl (hb hby d13_4) ?_
    show own_S p e below s₁ (mkF m 6 #[.val (.ref b1), .val (.int 1)] [(.int 31), (.int (-1))]) _
    refine XS.iushr X0.here hx rfl (hb hby d13_6) rfl ?_
    rw [(by decide : (((-1 : Int32).toUInt32 >>> ((31 : Int32) &&& 31).toUInt32).toInt32) = (1 : Int32))]
    show own_S p e below s₁ (mkF m 7 #[.val (.ref b1), .val (.int 1)] [(.int 1)]) _
    refine XS.i2b X0.here hx rfl (hb hby d13_7) rfl ?_
    rw [(by decide : ((1 : Int32).toInt8.toInt32) = (1 : Int32))]
    exact kt)
  obtain ⟨fs, hr, hrun, hended, hW, hsame⟩ := X0.leave (v := some (.int (1 : Int32))) (fun h => by rw [Bd.returns] at h; cases h)
  refine ⟨_, _, hGl _ (kn3 _ (retN X0 hx (t := .byte) Bd.returns (by simp) (hb hby d13_8) hr)), hrun, hended, _, _, rfl, ?_, ⟨_, rfl⟩, hW, hsame.mono (by decide) (by decide)⟩
  show Q13_1 Z b1 kb vs h0 n0 _ s₁.heap _
  rw [e0]
  exact ⟨rfl, Nf0, rfl⟩

abbrev mN23 : MethodName := ⟨"java/lang/String", "<init>", "([CIILjava/lang/Void;)V"⟩
theorem d3_0 : decode jdk_42_method_149_code 0 = .ok (.aload_n 0, 1) := by decide +kernel
theorem d3_1 : decode jdk_42_method_149_code 1 = .ok (.invokespecial 1, 3) := by decide +kernel
theorem d3_4 : decode jdk_42_method_149_code 4 = .ok (.iload_n 3, 1) := by decide +kernel
theorem d3_5 : decode jdk_42_method_149_code 5 = .ok (.ifCond .ne 22, 3) := by decide +kernel
theorem d3_27 : decode jdk_42_method_149_code 27 = .ok (.getstatic 38, 3) := by decide +kernel
theorem d3_30 : decode jdk_42_method_149_code 30 = .ok (.ifCond .eq 28, 3) := by decide +kernel
theorem d3_33 : decode jdk_42_method_149_code 33 = .ok (.aload_n 1, 1) := by decide +kernel
theorem d3_34 : decode jdk_42_method_149_code 34 = .ok (.iload_n 2, 1) := by decide +kernel
theorem d3_35 : decode jdk_42_method_149_code 35 = .ok (.iload_n 3, 1) := by decide +kernel
theorem d3_36 : decode jdk_42_method_149_code 36 = .ok (.invokestatic 177, 3) := by decide +kernel
theorem d3_39 : decode jdk_42_method_149_code 39 = .ok (.astore 5, 2) := by decide +kernel
theorem d3_41 : decode jdk_42_method_149_code 41 = .ok (.aload_n 0, 1) := by decide +kernel
theorem d3_42 : decode jdk_42_method_149_code 42 = .ok (.aload 5, 2) := by decide +kernel
theorem d3_44 : decode jdk_42_method_149_code 44 = .ok (.iload_n 3, 1) := by decide +kernel
theorem d3_45 : decode jdk_42_method_149_code 45 = .ok (.invokestatic 47, 3) := by decide +kernel
theorem d3_48 : decode jdk_42_method_149_code 48 = .ok (.putfield 15, 3) := by decide +kernel
theorem d3_51 : decode jdk_42_method_149_code 51 = .ok (.aload_n 0, 1) := by decide +kernel
theorem d3_52 : decode jdk_42_method_149_code 52 = .ok (.aload 5, 2) := by decide +kernel
theorem d3_54 : decode jdk_42_method_149_code 54 = .ok (.putfield 9, 3) := by decide +kernel
theorem d3_57 : decode jdk_42_method_149_code 57 = .ok (.return_, 1) := by decide +kernel
theorem pd_15 : parseMethodDescriptor "([BI)B" = some ⟨[(.array .byte), .int], some .byte⟩ := by decide +kernel
theorem ef_rm3_1 (m : MethodId) (x0 : Addr) (x1 : Addr) : entryFrame m #[(.ref x0), (.ref x1), (.int (0 : Int32)), (.int (1 : Int32)), .null] 6 = mkF m 0 #[.val (.ref x0), .val (.ref x1), .val (.int (0 : Int32)), .val (.int (1 : Int32)), .val .null, .unset] [] := by first | (simp [entryFrame, mkF, argsToLocals, Value.category]; done) | rfl
def Q3_1 (Z : State) (s1 : Addr) (a1 : Addr) (ka : ClassId) (c0 : Int32) (G1 : Int32) (h0 : Heap) (n0 : Nat) (v : Option Value) (h : Heap) (L : List Loc) : Prop := v = none ∧ Fr n0 L ∧ ∃ (t : Addr) (kb : ClassId), Keep h0 h [s1] ∧ Exa Z h s1 "java/lang/String" ∧ Fld Z h s1 "java/lang/String" "coder" "B" (.int (1 : Int32)) ∧ Fld Z h s1 "java/lang/String" "value" "[B" (.ref t) ∧ Arv Z h t kb .byte (2 : Int32) [(.int (StrChars.lo8 c0)), (.int (StrChars.hi8 c0))] (.int (0 : Int32))
theorem rm3_1 (l : Launch) (Z : State) (a0 : Array Value) (hw : ∀ d ∈ tables_1, d.before a0 Z = true) (ws : List Jvm.Cond) (s1 : Addr) (a1 : Addr) (ka : ClassId) (c0 : Int32) (G1 : Int32) (h0 : Heap) (n0 : Nat) (Z0 : n0 ≤ h0.size) (F1 : Fld Z h0 s1 "java/lang/String" "value" "[B" .null) (F2 : Fld Z h0 s1 "java/lang/String" "coder" "B" (.int (0 : Int32))) (E1 : Exa Z h0 s1 "java/lang/String") (g_s1 : n0 ≤ s1) (A1 : Arv Z h0 a1 ka .char (1 : Int32) [(.int c0)] (.int (0 : Int32))) (nsa : @Ne Nat a1 s1) (rg0 : own_rg c0) (hwide : (255 : Int32) < c0) (O0 : Old Z n0 h0) (O2 : Sta Z Z.heap "java/lang/String" "COMPACT_STRINGS" "Z" (.int G1)) (P5 : ¬ (G1 = (0 : Int32))) (U1 : Sta Z Z.heap "java/lang/StringUTF16" "$assertionsDisabled" "Z" (.int (1 : Int32))) (U2 : Sta Z Z.heap "java/lang/StringUTF16" "HI_BYTE_SHIFT" "I" (.int (0 : Int32))) (U3 : Sta Z Z.heap "java/lang/StringUTF16" "LO_BYTE_SHIFT" "I" (.int (8 : Int32))) :
    MetFree l mN23 (head1 (Jvm.Cond.code mN23 jdk_42_method_149_code 6 none :: ws) (own_r 4 2 3 57)) (fun a U => a = #[(.ref s1), (.ref a1), (.int (0 : Int32)), (.int (1 : Int32)), .null] ∧ Z.Warmed39 U.vm ∧ U.heap = h0) (fun _ _ _ _ _ => True) (fun _ U o U' => ∃ v L, o = .returned v ∧ Q3_1 Z s1 a1 ka c0 G1 h0 n0 v U'.heap L ∧ FrameEnd U o U' L (own_r 4 2 3 57).cells (own_r 4 2 3 57).slots) := by
  refine MetFree.of_bodySF (plainFor_of_name pn_3) hisR ?_
  intro p e s m args below meth c s₁ Bd hml0 hP hK
  obtain ⟨rfl, hZ, hh⟩ := hP
  have hx := Bd.exec
  have hby := Bd.bytes
  have hml : c.maxLocals = 6 := hml0
  have hown : s.vm.findClass "java/lang/String" = some m.cls := findClass_of_methodNamed Bd.named
  have hnm := (name_of_methodNamed Bd.named Bd.method).1
  have X0 : Stand p l e (own_r 4 2 3 57) s m #[(.ref s1), (.ref a1), (.int (0 : Int32)), (.int (1 : Int32)), .null] below meth c s₁ [] 0 0 := Stand.of_body Bd
  have e0 : s₁.heap = h0 := by rw [← hh, Bd.state]; rfl
  have Nf0 := Fr.nil n0
  obtain ⟨Gl, hGl, kn0⟩ := own_gl (p := p) (e := e) (below := below) (s₁ := s₁) (ef_rm3_1 m s1 a1)
  have kn1 : ∀ t, own_S p e below s₁ (mkF m 1 #[.val (.ref s1), .val (.ref a1), .val (.int 0), .val (.int 1), .val .null, .unset] [(.ref s1)]) t → Gl t := fun t kt => kn0 t (by
    show own_S p e below s₁ (mkF m 0 #[.val (.ref s1), .val (.ref a1), .val (.int 0), .val (.int 1), .val .null, .unset] []) _
    refine XS.aloadN X0.here hx rfl (hb hby d3_0) rfl rfl ?_
    exact kt)
  obtain ⟨T2, X2, e2, st2⟩ := initO X0 hx hZ hown (own_w hw 16 rfl) (own_w hw 17 rfl) (own_w hw 18 rfl) e0 (g := (mkF m 1 #[.val (.ref s1), .val (.ref a1), .val (.int 0), .val (.int 1), .val .null, .unset] [(.ref s1)])) rfl (by rw [hml]; rfl) rfl (hb hby d3_1) (by decide) (W := 0) (by show 2 * 0 + _ ≤ _; exact Nat.le_of_eq rfl) (by decide)
  have kn3 : ∀ t, own_S p e below T2 (mkF m 27 #[.val (.ref s1), .val (.ref a1), .val (.int 0), .val (.int 1), .val .null, .unset] []) t → Gl t := fun t kt => kn1 t (st2 _ (by
    show own_S p e below T2 (mkF m 4 #[.val (.ref s1), .val (.ref a1), .val (.int 0), .val (.int 1), .val .null, .unset] []) _
    refine XS.iloadN X2.here hx rfl (hb hby d3_4) rfl ?_
    refine XS.ifYes X2.here hx rfl (pc0 := 5) (pc' := 27) rfl (hb hby d3_5) rfl ((if0 _ _).trans (feq (by decide : ¬ ((1 : Int32) = (0 : Int32)))).2) (by decide) (by decide) ?_
    exact kt))
  obtain ⟨T4, X4, e4, st4⟩ := getS2 X2 hx hZ hown (host := "") (Or.inl (own_w hw 47 rfl)) Via.refl e2 (O2.ext O0.2) (g := (mkF m 27 #[.val (.ref s1), .val (.ref a1), .val (.int 0), .val (.int 1), .val .null, .unset] [])) rfl (hb hby d3_27)
  have hc30_5 : ¬ (G1 = (0 : Int32)) := P5
  have kn6 : ∀ t, own_S p e below T4 (mkF m 36 #[.val (.ref s1), .val (.ref a1), .val (.int 0), .val (.int 1), .val .null, .unset] [(.int 1), (.int 0), (.ref a1)]) t → Gl t := fun t kt => kn3 t (st4 _ (by
    show own_S p e below T4 (mkF m 30 #[.val (.ref s1), .val (.ref a1), .val (.int 0), .val (.int 1), .val .null, .unset] [(.int G1)]) _
    refine XS.ifNo X4.here hx rfl (hb hby d3_30) rfl ((if0 _ _).trans (feq hc30_5).1) ?_
    refine XS.aloadN X4.here hx rfl (hb hby d3_33) rfl rfl ?_
    refine XS.iloadN X4.here hx rfl (hb hby d3_34) rfl ?_
    refine XS.iloadN X4.here hx rfl (hb hby d3_35) rfl ?_
    exact kt))
  obtain ⟨_, _, ⟨T7, L7, cc7, ss7⟩, -, X7, ⟨Lc7, hQ7, l7, y7, z7⟩, st7⟩ := Jvm.LawKit.callS X4 hx (y := mN21) hown (mvT hZ (own_w hw 52 rfl)) (mvT hZ (own_w hw 53 rfl)) (mvT hZ (own_w hw 54 rfl)) (mvT hZ (own_w hw 55 rfl)) (by decide) (backOf (W := 0) (rm11_1 l Z a0 hw [] a1 ka c0 h0 n0 Z0 A1 rg0 hwide O0 U1 U2 U3) hZ (own_w hw 55 rfl) (own_w hw 54 rfl) (by decide) (by decide)) (g := (mkF m 36 #[.val (.ref s1), .val (.ref a1), .val (.int 0), .val (.int 1), .val .null, .unset] [(.int 1), (.int 0), (.ref a1)])) rfl (by rw [hml]; rfl) (argsL := [(.ref a1), (.int 0), (.int 1)]) (rest := []) (lenOf pd_14 rfl) rfl (by show 2 * 0 + _ ≤ _; exact Nat.le_of_eq rfl) (hb hby d3_36) (fun _ _ => ⟨rfl, e4, (by decide : 0 + 2 ≤ _), (by decide : 0 + 3 ≤ _)⟩)
  dsimp only [Pt.U, Pt.locs, Pt.cells, Pt.slots] at X7 l7 y7 z7 st7 hQ7
  subst l7 y7 z7
  have X7 : Stand p l e _ _ m _ below meth c T7 _ 2 3 := X7
  obtain ⟨b7, kb7, rfl, Nq7, gb7, sb7, K7, V7⟩ := hQ7
  have Nf7 := Fr.app Nf0 Nq7
  have ne_s1_b7 : s1 ≠ b7 := Nat.ne_of_lt (Nat.lt_of_lt_of_le E1.lt sb7)
  have ne_a1_b7 : a1 ≠ b7 := Nat.ne_of_lt (Nat.lt_of_lt_of_le A1.lt sb7)
  have szz7 : h0.size ≤ b7 := sb7
  have Z8 := Nat.le_trans Z0 K7.1
  have Od9 := O0.keep K7 all0
  have K10 := (Keep.refl h0 [s1]).trans K7 (all0)
  have kn11 : ∀ t, own_S p e below T7 (mkF m 45 #[.val (.ref s1), .val (.ref a1), .val (.int 0), .val (.int 1), .val .null, .val (.ref b7)] [(.int 1), (.ref b7), (.ref s1)]) t → Gl t := fun t kt => kn6 t (st7 _ (by
    show own_S p e below T7 (mkF m 39 #[.val (.ref s1), .val (.ref a1), .val (.int 0), .val (.int 1), .val .null, .unset] [(.ref b7)]) _
    refine XS.astore X7.here hx rfl (hb hby d3_39) rfl rfl (l' := #[.val (.ref s1), .val (.ref a1), .val (.int 0), .val (.int 1), .val .null, .val (.ref b7)]) rfl ?_
    refine XS.aloadN X7.here hx rfl (hb hby d3_41) rfl rfl ?_
    refine XS.aload X7.here hx rfl (hb hby d3_42) rfl rfl ?_
    refine XS.iloadN X7.here hx rfl (hb hby d3_44) rfl ?_
    exact kt))
  obtain ⟨_, _, ⟨T12, L12, cc12, ss12⟩, -, X12, ⟨Lc12, hQ12, l12, y12, z12⟩, st12⟩ := Jvm.LawKit.callS X7 hx (y := mN22) hown (mvT hZ (own_w hw 59 rfl)) (mvT hZ (own_w hw 60 rfl)) (mvT hZ (own_w hw 54 rfl)) (mvT hZ (own_w hw 61 rfl)) (by decide) (backOf (W := 1) (rm13_1 l Z a0 hw [] b7 kb7 [(.int (StrChars.lo8 c0)), (.int (StrChars.hi8 c0))] T7.heap n0 Z8 V7) hZ (own_w hw 61 rfl) (own_w hw 54 rfl) (by decide) (by decide)) (g := (mkF m 45 #[.val (.ref s1), .val (.ref a1), .val (.int 0), .val (.int 1), .val .null, .val (.ref b7)] [(.int 1), (.ref b7), (.ref s1)])) rfl (by rw [hml]; rfl) (argsL := [(.ref b7), (.int 1)]) (rest := [(.ref s1)]) (lenOf pd_15 rfl) rfl (by show 2 * 0 + _ ≤ _; exact Nat.le_of_eq rfl) (hb hby d3_45) (fun _ _ => ⟨rfl, rfl, (by decide : 2 + 0 ≤ _), (by decide : 3 + 0 ≤ _)⟩)
  dsimp only [Pt.U, Pt.locs, Pt.cells, Pt.slots] at X12 l12 y12 z12 st12 hQ12
  subst l12 y12 z12
  have X12 : Stand p l e _ _ m _ below meth c T12 _ 2 3 := X12
  obtain ⟨rfl, Nq12, eq12⟩ := hQ12
  have Nf12 := Fr.app Nf7 Nq12
  have f13 := (F2.keep K7 nin0)
  have f14 := (E1.keep K7)
  obtain ⟨T15, h15, X15, e15, W15, st15⟩ := putFN X12 hx hZ hown (own_w hw 26 rfl) Via.refl eq12 f13 f14 (Or.inr ⟨(own_w hw 22 rfl), rfl, hnm⟩) (own_w hw 7 rfl) (ty := .byte) (v' := (.int (1 : Int32))) (by decide) rfl (by decide) (g := (mkF m 48 #[.val (.ref s1), .val (.ref a1), .val (.int 0), .val (.int 1), .val .null, .val (.ref b7)] [(.int 1), (.ref s1)])) rfl rfl (hb hby d3_48)
  have Z16 := Nat.le_trans Z8 (Keep.of_wr W15).1
  have Od17 := Od9.wr W15 g_s1
  have K18 := K10.wr W15 (Or.inl (List.mem_of_getElem? (i := 0) rfl))
  have Fw15 := f13.same W15
  have Nf19 := Fr.snoc X15 Nf12 g_s1
  have kn20 : ∀ t, own_S p e below T15 (mkF m 54 #[.val (.ref s1), .val (.ref a1), .val (.int 0), .val (.int 1), .val .null, .val (.ref b7)] [(.ref b7), (.ref s1)]) t → Gl t := fun t kt => kn11 t (st12 _ (st15 _ (by
    show own_S p e below T15 (mkF m 51 #[.val (.ref s1), .val (.ref a1), .val (.int 0), .val (.int 1), .val .null, .val (.ref b7)] []) _
    refine XS.aloadN X15.here hx rfl (hb hby d3_51) rfl rfl ?_
    refine XS.aload X15.here hx rfl (hb hby d3_52) rfl rfl ?_
    exact kt)))
  have f21 := ((F1.keep K7 nin0).other W15 (Or.inr (slot_ne (Or.inr (own_w hw 21 rfl)) (Or.inr (own_w hw 22 rfl)) (by decide) (t := (.array .byte)) (t' := .byte) (by decide) (by decide))))
  have f22 := (f14.wr W15)
  obtain ⟨T23, h23, X23, e23, W23, st23⟩ := putF X15 hx hZ hown (host := "") (Or.inl (own_w hw 25 rfl)) Via.refl e15 f21 f22 (Or.inr ⟨(own_w hw 21 rfl), rfl, hnm⟩) (own_w hw 7 rfl) (ty := (.array .byte)) (by decide) rfl rfl (g := (mkF m 54 #[.val (.ref s1), .val (.ref a1), .val (.int 0), .val (.int 1), .val .null, .val (.ref b7)] [(.ref b7), (.ref s1)])) rfl rfl (hb hby d3_54)
  have Z24 := Nat.le_trans Z16 (Keep.of_wr W23).1
  have Od25 := Od17.wr W23 g_s1
  have K26 := K18.wr W23 (Or.inl (List.mem_of_getElem? (i := 0) rfl))
  have Fw23 := f21.same W23
  have Nf27 := Fr.snoc X23 Nf19 g_s1
  obtain ⟨fs, hr, hrun, hended, hW, hsame⟩ := X23.leave (v := none) (fun _ => rfl)
  refine ⟨_, _, hGl _ (kn20 _ (st23 _ (X23.returnOut hx Bd.returns (hb hby d3_57) hr))), hrun, hended, _, _, rfl, ?_, ⟨_, rfl⟩, hW, hsame.mono (by decide) (by decide)⟩
  show Q3_1 Z s1 a1 ka c0 G1 h0 n0 _ T23.heap _
  rw [e23]
  have f28 := (f22.wr W23)
  have f29 := (Fw15.other W23 (Or.inr (slot_ne (Or.inr (own_w hw 22 rfl)) (Or.inr (own_w hw 21 rfl)) (by decide) (t := .byte) (t' := (.array .byte)) (by decide) (by decide))))
  have f30 := ((V7.other W15 (Ne.symm ne_s1_b7)).other W23 (Ne.symm ne_s1_b7))
  exact ⟨rfl, Nf27, b7, _, K26, f28, f29, Fw23, f30⟩

abbrev mN24 : MethodName := ⟨"java/lang/String", "<init>", "([C)V"⟩
theorem d2_0 : decode jdk_42_method_3_code 0 = .ok (.aload_n 0, 1) := by decide +kernel
theorem d2_1 : decode jdk_42_method_3_code 1 = .ok (.aload_n 1, 1) := by decide +kernel
theorem d2_2 : decode jdk_42_method_3_code 2 = .ok (.iconst 0, 1) := by decide +kernel
theorem d2_3 : decode jdk_42_method_3_code 3 = .ok (.aload_n 1, 1) := by decide +kernel
theorem d2_4 : decode jdk_42_method_3_code 4 = .ok (.arraylength, 1) := by decide +kernel
theorem d2_5 : decode jdk_42_method_3_code 5 = .ok (.aconst_null, 1) := by decide +kernel
theorem d2_6 : decode jdk_42_method_3_code 6 = .ok (.invokespecial 27, 3) := by decide +kernel
theorem d2_9 : decode jdk_42_method_3_code 9 = .ok (.return_, 1) := by decide +kernel
theorem pd_16 : parseMethodDescriptor "([CIILjava/lang/Void;)V" = some ⟨[(.array .char), .int, .int, (.object "java/lang/Void")], none⟩ := by decide +kernel
theorem ef_rm2_1 (m : MethodId) (x0 : Addr) (x1 : Addr) : entryFrame m #[(.ref x0), (.ref x1)] 2 = mkF m 0 #[.val (.ref x0), .val (.ref x1)] [] := by first | (simp [entryFrame, mkF, argsToLocals, Value.category]; done) | rfl
def Q2_1 (Z : State) (s1 : Addr) (a1 : Addr) (ka : ClassId) (c0 : Int32) (G1 : Int32) (h0 : Heap) (n0 : Nat) (v : Option Value) (h : Heap) (L : List Loc) : Prop := v = none ∧ Fr n0 L ∧ ∃ (t : Addr) (kb : ClassId), Keep h0 h [s1] ∧ Exa Z h s1 "java/lang/String" ∧ Fld Z h s1 "java/lang/String" "coder" "B" (.int (1 : Int32)) ∧ Fld Z h s1 "java/lang/String" "value" "[B" (.ref t) ∧ Arv Z h t kb .byte (2 : Int32) [(.int (StrChars.lo8 c0)), (.int (StrChars.hi8 c0))] (.int (0 : Int32))
theorem rm2_1 (l : Launch) (Z : State) (a0 : Array Value) (hw : ∀ d ∈ tables_1, d.before a0 Z = true) (ws : List Jvm.Cond) (s1 : Addr) (a1 : Addr) (ka : ClassId) (c0 : Int32) (G1 : Int32) (h0 : Heap) (n0 : Nat) (Z0 : n0 ≤ h0.size) (F1 : Fld Z h0 s1 "java/lang/String" "value" "[B" .null) (F2 : Fld Z h0 s1 "java/lang/String" "coder" "B" (.int (0 : Int32))) (E1 : Exa Z h0 s1 "java/lang/String") (g_s1 : n0 ≤ s1) (A1 : Arv Z h0 a1 ka .char (1 : Int32) [(.int c0)] (.int (0 : Int32))) (nsa : @Ne Nat a1 s1) (rg0 : own_rg c0) (hwide : (255 : Int32) < c0) (O0 : Old Z n0 h0) (O2 : Sta Z Z.heap "java/lang/String" "COMPACT_STRINGS" "Z" (.int G1)) (P5 : ¬ (G1 = (0 : Int32))) (U1 : Sta Z Z.heap "java/lang/StringUTF16" "$assertionsDisabled" "Z" (.int (1 : Int32))) (U2 : Sta Z Z.heap "java/lang/StringUTF16" "HI_BYTE_SHIFT" "I" (.int (0 : Int32))) (U3 : Sta Z Z.heap "java/lang/StringUTF16" "LO_BYTE_SHIFT" "I" (.int (8 : Int32))) :
    MetFree l mN24 (head1 (Jvm.Cond.code mN24 jdk_42_method_3_code 2 none :: ws) (own_r 5 2 3 74)) (fun a U => a = #[(.ref s1), (.ref a1)] ∧ Z.Warmed39 U.vm ∧ U.heap = h0) (fun _ _ _ _ _ => True) (fun _ U o U' => ∃ v L, o = .returned v ∧ Q2_1 Z s1 a1 ka c0 G1 h0 n0 v U'.heap L ∧ FrameEnd U o U' L (own_r 5 2 3 74).cells (own_r 5 2 3 74).slots) := by
  refine MetFree.of_bodySF (plainFor_of_name pn_3) hisR ?_
  intro p e s m args below meth c s₁ Bd hml0 hP hK
  obtain ⟨rfl, hZ, hh⟩ := hP
  have hx := Bd.exec
  have hby := Bd.bytes
  have hml : c.maxLocals = 2 := hml0
  have hown : s.vm.findClass "java/lang/String" = some m.cls := findClass_of_methodNamed Bd.named
  have hnm := (name_of_methodNamed Bd.named Bd.method).1
  have X0 : Stand p l e (own_r 5 2 3 74) s m #[(.ref s1), (.ref a1)] below meth c s₁ [] 0 0 := Stand.of_body Bd
  have e0 : s₁.heap = h0 := by rw [← hh, Bd.state]; rfl
  have Nf0 := Fr.nil n0
  obtain ⟨Gl, hGl, kn0⟩ := own_gl (p := p) (e := e) (below := below) (s₁ := s₁) (ef_rm2_1 m s1 a1)
  have kn1 : ∀ t, own_S p e below s₁ (mkF m 4 #[.val (.ref s1), .val (.ref a1)] [(.ref a1), (.int 0), (.ref a1), (.ref s1)]) t → Gl t := fun t kt => kn0 t (by
    show own_S p e below s₁ (mkF m 0 #[.val (.ref s1), .val (.ref a1)] []) _
    refine XS.aloadN X0.here hx rfl (hb hby d2_0) rfl rfl ?_
    refine XS.aloadN X0.here hx rfl (hb hby d2_1) rfl rfl ?_
    refine XS.iconst X0.here hx rfl (hb hby d2_2) ?_
    refine XS.aloadN X0.here hx rfl (hb hby d2_3) rfl rfl ?_
    exact kt)
  obtain ⟨cl2, Ar2, -, Sz2, Ng2, -, -⟩ := id A1
  have kn3 : ∀ t, own_S p e below s₁ (mkF m 6 #[.val (.ref s1), .val (.ref a1)] [.null, (.int 1), (.int 0), (.ref a1), (.ref s1)]) t → Gl t := fun t kt => kn1 t (by
    show own_S p e below s₁ (mkF m 4 #[.val (.ref s1), .val (.ref a1)] [(.ref a1), (.int 0), (.ref a1), (.ref s1)]) _
    refine X0.arraylength hx (by rw [e0]; exact Ar2.1) (State.isArrayOf_alike hZ.alike Ar2.2.1) (g := (mkF m 4 #[.val (.ref s1), .val (.ref a1)] [(.ref a1), (.int 0), (.ref a1), (.ref s1)])) rfl rfl (hb hby d2_4) _ ?_
    rw [len_of Sz2 Ng2]
    refine XS.aconstNull X0.here hx rfl (hb hby d2_5) ?_
    exact kt)
  obtain ⟨_, _, ⟨T4, L4, cc4, ss4⟩, -, X4, ⟨Lc4, hQ4, l4, y4, z4⟩, st4⟩ := X0.specialBack hx (y := mN23) rfl hown (mvT hZ (own_w hw 12 rfl)) (mvT hZ (own_w hw 13 rfl)) (mvT hZ (own_w hw 15 rfl)) (by decide) (backOf (W := 0) (rm3_1 l Z a0 hw [] s1 a1 ka c0 G1 h0 n0 Z0 F1 F2 E1 g_s1 A1 nsa rg0 hwide O0 O2 P5 U1 U2 U3) hZ (own_w hw 15 rfl) (own_w hw 8 rfl) (by decide) (by decide)) (g := (mkF m 6 #[.val (.ref s1), .val (.ref a1)] [.null, (.int 1), (.int 0), (.ref a1), (.ref s1)])) rfl (by rw [hml]; rfl) (Steps.refl _) (a := s1) (argsL := [(.ref a1), (.int 0), (.int 1), .null]) (rest := []) (lenOf pd_16 rfl) rfl (by show 2 * 0 + _ ≤ _; exact Nat.le_of_eq rfl) (hb hby d2_6) (fun _ _ => ⟨rfl, e0, (by decide : 0 + 2 ≤ _), (by decide : 0 + 3 ≤ _)⟩)
  dsimp only [Pt.U, Pt.locs, Pt.cells, Pt.slots] at X4 l4 y4 z4 st4 hQ4
  subst l4 y4 z4
  have X4 : Stand p l e _ _ m _ below meth c T4 _ 2 3 := X4
  obtain ⟨rfl, Nq4, t4, kb4, K4, Ex4, Co4, Va4, Ar4⟩ := hQ4
  have Nf4 := Fr.app Nf0 Nq4
  have Z5 := Nat.le_trans Z0 K4.1
  have Od6 := O0.keep K4 (allS g_s1 all0)
  have K7 := (Keep.refl h0 [s1]).trans K4 (allS (Or.inl (List.mem_of_getElem? (i := 0) rfl)) all0)
  obtain ⟨fs, hr, hrun, hended, hW, hsame⟩ := X4.leave (v := none) (fun _ => rfl)
  refine ⟨_, _, hGl _ (kn3 _ (st4.trans (X4.returnOut hx Bd.returns (hb hby d2_9) hr))), hrun, hended, _, _, rfl, ?_, ⟨_, rfl⟩, hW, hsame.mono (by decide) (by decide)⟩
  show Q2_1 Z s1 a1 ka c0 G1 h0 n0 _ T4.heap _
  exact ⟨rfl, Nf4, t4, _, K7, Ex4, Co4, Va4, Ar4⟩

theorem ef_rm12_2_0 (m : MethodId) (x0 : Addr) (x2 : Addr) : entryFrame m #[(.ref x0), (.int (0 : Int32)), (.ref x2), (.int (0 : Int32)), (.int (2 : Int32))] 7 = mkF m 0 #[.val (.ref x0), .val (.int (0 : Int32)), .val (.ref x2), .val (.int (0 : Int32)), .val (.int (2 : Int32)), .unset, .unset] [] := by first | (simp [entryFrame, mkF, argsToLocals, Value.category]; done) | rfl
def Q12_2_0 (Z : State) (a1 : Addr) (b3 : Addr) (ka : ClassId) (kb : ClassId) (c0 : Int32) (c1 : Int32) (h0 : Heap) (n0 : Nat) (v : Option Value) (h : Heap) (L : List Loc) : Prop := v = some (.int (0 : Int32)) ∧ Fr n0 L ∧ Keep h0 h [b3]
theorem rm12_2_0 (l : Launch) (Z : State) (a0 : Array Value) (hw : ∀ d ∈ tables_1, d.before a0 Z = true) (ws : List Jvm.Cond) (a1 : Addr) (b3 : Addr) (ka : ClassId) (kb : ClassId) (c0 : Int32) (c1 : Int32) (h0 : Heap) (n0 : Nat) (Z0 : n0 ≤ h0.size) (A1 : Arv Z h0 a1 ka .char (2 : Int32) [(.int c0), (.int c1)] (.int (0 : Int32))) (A3 : Arv Z h0 b3 kb .byte (2 : Int32) [(.int (0 : Int32)), (.int (0 : Int32))] (.int (0 : Int32))) (nab : @Ne Nat a1 b3) (g_b3 : n0 ≤ b3) (wq0 : (255 : Int32) < c0) :
    MetFree l mN16 (head1 (Jvm.Cond.code mN16 jdk_52_method_21_code 7 (some .int) :: ws) (own_r 0 0 0 0)) (fun a U => a = #[(.ref a1), (.int (0 : Int32)), (.ref b3), (.int (0 : Int32)), (.int (2 : Int32))] ∧ Z.Warmed39 U.vm ∧ U.heap = h0) (fun _ _ _ _ _ => True) (fun _ U o U' => ∃ v L, o = .returned v ∧ Q12_2_0 Z a1 b3 ka kb c0 c1 h0 n0 v U'.heap L ∧ FrameEnd U o U' L (own_r 0 0 0 0).cells (own_r 0 0 0 0).slots) := by
  refine MetFree.of_bodySF (plainFor_of_name pn_4) hisR ?_
  intro p e s m args below meth c s₁ Bd hml0 hP hK
  obtain ⟨rfl, hZ, hh⟩ := hP
  have hx := Bd.exec
  have hby := Bd.bytes
  have hml : c.maxLocals = 7 := hml0
  have hown : s.vm.findClass "java/lang/StringUTF16" = some m.cls := findClass_of_methodNamed Bd.named
  have hnm := (name_of_methodNamed Bd.named Bd.method).1
  have X0 : Stand p l e (own_r 0 0 0 0) s m #[(.ref a1), (.int (0 : Int32)), (.ref b3), (.int (0 : Int32)), (.int (2 : Int32))] below meth c s₁ [] 0 0 := Stand.of_body Bd
  have e0 : s₁.heap = h0 := by rw [← hh, Bd.state]; rfl
  have Nf0 := Fr.nil n0
  obtain ⟨Gl, hGl, kn0⟩ := own_gl (p := p) (e := e) (below := below) (s₁ := s₁) (ef_rm12_2_0 m a1 b3)
  have kn1 : ∀ t, own_S p e below s₁ (mkF m 12 #[.val (.ref a1), .val (.int 0), .val (.ref b3), .val (.int 0), .val (.int 2), .val (.int 0), .unset] [(.int 0), (.ref a1)]) t → Gl t := fun t kt => kn0 t (by
    show own_S p e below s₁ (mkF m 0 #[.val (.ref a1), .val (.int 0), .val (.ref b3), .val (.int 0), .val (.int 2), .unset, .unset] []) _
    refine XS.iconst X0.here hx rfl (hb hby d12_0) ?_
    refine XS.istore X0.here hx rfl (hb hby d12_1) rfl (l' := #[.val (.ref a1), .val (.int 0), .val (.ref b3), .val (.int 0), .val (.int 2), .val (.int 0), .unset]) rfl ?_
    refine XS.iload X0.here hx rfl (hb hby d12_3) rfl ?_
    refine XS.iload X0.here hx rfl (hb hby d12_5) rfl ?_
    refine XS.icmpNo X0.here hx rfl (hb hby d12_7) rfl (tlt (by decide : (0 : Int32) < (2 : Int32))).2.1 ?_
    refine XS.aloadN X0.here hx rfl (hb hby d12_10) rfl rfl ?_
    refine XS.iloadN X0.here hx rfl (hb hby d12_11) rfl ?_
    exact kt)
  obtain ⟨cl2, Ar2, q2, Sz2, Ng2, Hs2, Gs2⟩ := id A1
  have hin2 : ¬ ((0 : Int32) < 0 ∨ cl2.slots.size ≤ ((0 : Int32)).toNatClampNeg) := inb_of Sz2 ⟨by decide, by decide⟩
  have hat2 : cl2.slots[((0 : Int32)).toNatClampNeg]? = some (.int c0) := Hs2.at hin2 rfl
  have kn3 : ∀ t, own_S p e below s₁ (mkF m 20 #[.val (.ref a1), .val (.int 0), .val (.ref b3), .val (.int 0), .val (.int 2), .val (.int 0), .val (.int c0)] [(.int 255), (.int c0)]) t → Gl t := fun t kt => kn1 t (by
    show own_S p e below s₁ (mkF m 12 #[.val (.ref a1), .val (.int 0), .val (.ref b3), .val (.int 0), .val (.int 2), .val (.int 0), .unset] [(.int 0), (.ref a1)]) _
    refine X0.caload hx (j := (0 : Int32)) (v := (.int c0)) (by rw [e0]; exact Ar2.1) (State.isArrayOf_alike hZ.alike Ar2.2.1) Ar2.2.2 hin2 hat2 (g := (mkF m 12 #[.val (.ref a1), .val (.int 0), .val (.ref b3), .val (.int 0), .val (.int 2), .val (.int 0), .unset] [(.int 0), (.ref a1)])) rfl rfl (hb hby d12_12) _ ?_
    refine XS.istore X0.here hx rfl (hb hby d12_13) rfl (l' := #[.val (.ref a1), .val (.int 0), .val (.ref b3), .val (.int 0), .val (.int 2), .val (.int 0), .val (.int c0)]) rfl ?_
    refine XS.iload X0.here hx rfl (hb hby d12_15) rfl ?_
    refine XS.sipush X0.here hx rfl (hb hby d12_17) ?_
    exact kt)
  have hc20_4 : (255 : Int32) < c0 := wq0
  have kn5 : ∀ t, own_S p e below s₁ (mkF m 25 #[.val (.ref a1), .val (.int 0), .val (.ref b3), .val (.int 0), .val (.int 2), .val (.int 0), .val (.int c0)] [(.int 0)]) t → Gl t := fun t kt => kn3 t (by
    show own_S p e below s₁ (mkF m 20 #[.val (.ref a1), .val (.int 0), .val (.ref b3), .val (.int 0), .val (.int 2), .val (.int 0), .val (.int c0)] [(.int 255), (.int c0)]) _
    refine XS.icmpNo X0.here hx rfl (hb hby d12_20) rfl (tlt hc20_4).2.2.2 ?_
    refine XS.iload X0.here hx rfl (hb hby d12_23) rfl ?_
    exact kt)
  obtain ⟨fs, hr, hrun, hended, hW, hsame⟩ := X0.leave (v := some (.int (0 : Int32))) (fun h => by rw [Bd.returns] at h; cases h)
  refine ⟨_, _, hGl _ (kn5 _ (retI X0 hx Bd.returns (hb hby d12_25) hr)), hrun, hended, _, _, rfl, ?_, ⟨_, rfl⟩, hW, hsame.mono (by decide) (by decide)⟩
  show Q12_2_0 Z a1 b3 ka kb c0 c1 h0 n0 _ s₁.heap _
  rw [e0]
  exact ⟨rfl, Nf0, Keep.refl h0 [b3]⟩

theorem d12_26 : decode jdk_52_method_21_code 26 = .ok (.aload_n 2, 1) := by decide +kernel
theorem d12_27 : decode jdk_52_method_21_code 27 = .ok (.iload_n 3, 1) := by decide +kernel
theorem d12_28 : decode jdk_52_method_21_code 28 = .ok (.iload 6, 2) := by decide +kernel
theorem d12_30 : decode jdk_52_method_21_code 30 = .ok (.i2b, 1) := by decide +kernel
theorem d12_31 : decode jdk_52_method_21_code 31 = .ok (.bastore, 1) := by decide +kernel
theorem d12_32 : decode jdk_52_method_21_code 32 = .ok (.iinc 1 1, 3) := by decide +kernel
theorem d12_35 : decode jdk_52_method_21_code 35 = .ok (.iinc 3 1, 3) := by decide +kernel
theorem d12_38 : decode jdk_52_method_21_code 38 = .ok (.iinc 5 1, 3) := by decide +kernel
theorem d12_41 : decode jdk_52_method_21_code 41 = .ok (.goto (-38), 3) := by decide +kernel
theorem ef_rm12_2_1 (m : MethodId) (x0 : Addr) (x2 : Addr) : entryFrame m #[(.ref x0), (.int (0 : Int32)), (.ref x2), (.int (0 : Int32)), (.int (2 : Int32))] 7 = mkF m 0 #[.val (.ref x0), .val (.int (0 : Int32)), .val (.ref x2), .val (.int (0 : Int32)), .val (.int (2 : Int32)), .unset, .unset] [] := by first | (simp [entryFrame, mkF, argsToLocals, Value.category]; done) | rfl
def Q12_2_1 (Z : State) (a1 : Addr) (b3 : Addr) (ka : ClassId) (kb : ClassId) (c0 : Int32) (c1 : Int32) (h0 : Heap) (n0 : Nat) (v : Option Value) (h : Heap) (L : List Loc) : Prop := v = some (.int (1 : Int32)) ∧ Fr n0 L ∧ Keep h0 h [b3]
theorem rm12_2_1 (l : Launch) (Z : State) (a0 : Array Value) (hw : ∀ d ∈ tables_1, d.before a0 Z = true) (ws : List Jvm.Cond) (a1 : Addr) (b3 : Addr) (ka : ClassId) (kb : ClassId) (c0 : Int32) (c1 : Int32) (h0 : Heap) (n0 : Nat) (Z0 : n0 ≤ h0.size) (A1 : Arv Z h0 a1 ka .char (2 : Int32) [(.int c0), (.int c1)] (.int (0 : Int32))) (A3 : Arv Z h0 b3 kb .byte (2 : Int32) [(.int (0 : Int32)), (.int (0 : Int32))] (.int (0 : Int32))) (nab : @Ne Nat a1 b3) (g_b3 : n0 ≤ b3) (wq0 : ¬ (255 : Int32) < c0) (wq1 : (255 : Int32) < c1) :
    MetFree l mN16 (head1 (Jvm.Cond.code mN16 jdk_52_method_21_code 7 (some .int) :: ws) (own_r 0 0 0 0)) (fun a U => a = #[(.ref a1), (.int (0 : Int32)), (.ref b3), (.int (0 : Int32)), (.int (2 : Int32))] ∧ Z.Warmed39 U.vm ∧ U.heap = h0) (fun _ _ _ _ _ => True) (fun _ U o U' => ∃ v L, o = .returned v ∧ Q12_2_1 Z a1 b3 ka kb c0 c1 h0 n0 v U'.heap L ∧ FrameEnd U o U' L (own_r 0 0 0 0).cells (own_r 0 0 0 0).slots) := by
  refine MetFree.of_bodySF (plainFor_of_name pn_4) hisR ?_
  intro p e s m args below meth c s₁ Bd hml0 hP hK
  obtain ⟨rfl, hZ, hh⟩ := hP
  have hx := Bd.exec
  have hby := Bd.bytes
  have hml : c.maxLocals = 7 := hml0
  have hown : s.vm.findClass "java/lang/StringUTF16" = some m.cls := findClass_of_methodNamed Bd.named
  have hnm := (name_of_methodNamed Bd.named Bd.method).1
  have X0 : Stand p l e (own_r 0 0 0 0) s m #[(.ref a1), (.int (0 : Int32)), (.ref b3), (.int (0 : Int32)), (.int (2 : Int32))] below meth c s₁ [] 0 0 := Stand.of_body Bd
  have e0 : s₁.heap = h0 := by rw [← hh, Bd.state]; rfl
  have Nf0 := Fr.nil n0
  obtain ⟨Gl, hGl, kn0⟩ := own_gl (p := p) (e := e) (below := below) (s₁ := s₁) (ef_rm12_2_1 m a1 b3)
  have kn1 : ∀ t, own_S p e below s₁ (mkF m 12 #[.val (.ref a1), .val (.int 0), .val (.ref b3), .val (.int 0), .val (.int 2), .val (.int 0), .unset] [(.int 0), (.ref a1)]) t → Gl t := fun t kt => kn0 t (by
    show own_S p e below s₁ (mkF m 0 #[.val (.ref a1), .val (.int 0), .val (.ref b3), .val (.int 0), .val (.int 2), .unset, .unset] []) _
    refine XS.iconst X0.here hx rfl (hb hby d12_0) ?_
    refine XS.istore X0.here hx rfl (hb hby d12_1) rfl (l' := #[.val (.ref a1), .val (.int 0), .val (.ref b3), .val (.int 0), .val (.int 2), .val (.int 0), .unset]) rfl ?_
    refine XS.iload X0.here hx rfl (hb hby d12_3) rfl ?_
    refine XS.iload X0.here hx rfl (hb hby d12_5) rfl ?_
    refine XS.icmpNo X0.here hx rfl (hb hby d12_7) rfl (tlt (by decide : (0 : Int32) < (2 : Int32))).2.1 ?_
    refine XS.aloadN X0.here hx rfl (hb hby d12_10) rfl rfl ?_
    refine XS.iloadN X0.here hx rfl (hb hby d12_11) rfl ?_
    exact kt)
  obtain ⟨cl2, Ar2, q2, Sz2, Ng2, Hs2, Gs2⟩ := id A1
  have hin2 : ¬ ((0 : Int32) < 0 ∨ cl2.slots.size ≤ ((0 : Int32)).toNatClampNeg) := inb_of Sz2 ⟨by decide, by decide⟩
  have hat2 : cl2.slots[((0 : Int32)).toNatClampNeg]? = some (.int c0) := Hs2.at hin2 rfl
  have kn3 : ∀ t, own_S p e below s₁ (mkF m 20 #[.val (.ref a1), .val (.int 0), .val (.ref b3), .val (.int 0), .val (.int 2), .val (.int 0), .val (.int c0)] [(.int 255), (.int c0)]) t → Gl t := fun t kt => kn1 t (by
    show own_S p e below s₁ (mkF m 12 #[.val (.ref a1), .val (.int 0), .val (.ref b3), .val (.int 0), .val (.int 2), .val (.int 0), .unset] [(.int 0), (.ref a1)]) _
    refine X0.caload hx (j := (0 : Int32)) (v := (.int c0)) (by rw [e0]; exact Ar2.1) (State.isArrayOf_alike hZ.alike Ar2.2.1) Ar2.2.2 hin2 hat2 (g := (mkF m 12 #[.val (.ref a1), .val (.int 0), .val (.ref b3), .val (.int 0), .val (.int 2), .val (.int 0), .unset] [(.int 0), (.ref a1)])) rfl rfl (hb hby d12_12) _ ?_
    refine XS.istore X0.here hx rfl (hb hby d12_13) rfl (l' := #[.val (.ref a1), .val (.int 0), .val (.ref b3), .val (.int 0), .val (.int 2), .val (.int 0), .val (.int c0)]) rfl ?_
    refine XS.iload X0.here hx rfl (hb hby d12_15) rfl ?_
    refine XS.sipush X0.here hx rfl (hb hby d12_17) ?_
    exact kt)
  have hc20_4 : ¬ ((255 : Int32) < c0) := wq0
  have kn5 : ∀ t, own_S p e below s₁ (mkF m 31 #[.val (.ref a1), .val (.int 0), .val (.ref b3), .val (.int 0), .val (.int 2), .val (.int 0), .val (.int c0)] [(.int (c0.toInt8.toInt32)), (.int 0), (.ref b3)]) t → Gl t := fun t kt => kn3 t (by
    show own_S p e below s₁ (mkF m 20 #[.val (.ref a1), .val (.int 0), .val (.ref b3), .val (.int 0), .val (.int 2), .val (.int 0), .val (.int c0)] [(.int 255), (.int c0)]) _
    refine XS.icmpYes X0.here hx rfl (pc0 := 20) (pc' := 26) rfl (hb hby d12_20) rfl (flt hc20_4).2.2.2 (by decide) (by decide) ?_
    refine XS.aloadN X0.here hx rfl (hb hby d12_26) rfl rfl ?_
    refine XS.iloadN X0.here hx rfl (hb hby d12_27) rfl ?_
    refine XS.iload X0.here hx rfl (hb hby d12_28) rfl ?_
    refine XS.i2b X0.here hx rfl (hb hby d12_30) rfl ?_
    exact kt)
  obtain ⟨cl6, Ar6, q6, Sz6, Ng6, Hs6, Gs6⟩ := id A3
  have hin6 : ¬ ((0 : Int32) < 0 ∨ cl6.slots.size ≤ ((0 : Int32)).toNatClampNeg) := inb_of Sz6 ⟨by decide, by decide⟩
  obtain ⟨T6, h6, X6, e6, W6, st6⟩ := stB X0 hx hZ e0 Ar6 (j := (0 : Int32)) hin6 (g := (mkF m 31 #[.val (.ref a1), .val (.int 0), .val (.ref b3), .val (.int 0), .val (.int 2), .val (.int 0), .val (.int c0)] [(.int (c0.toInt8.toInt32)), (.int 0), (.ref b3)])) rfl rfl (hb hby d12_31)
  have Z7 := Nat.le_trans Z0 (Keep.of_wr W6).1
  have K8 := (Keep.refl h0 [b3]).wr W6 (Or.inl (List.mem_of_getElem? (i := 0) rfl))
  have V6 : Arv Z h6 b3 kb .byte (2 : Int32) [(.int ((c0.toInt8.toInt32).toInt8.toInt32)), (.int (0 : Int32))] (.int (0 : Int32)) := Arv.set Ar6 q6 Sz6 Ng6 Hs6 Gs6 (fits_nar_byte _) W6 0 rfl (Nat.le_of_ble_eq_true rfl)
  have Nf9 := Fr.snoc X6 Nf0 g_b3
  have kn10 : ∀ t, own_S p e below T6 (mkF m 12 #[.val (.ref a1), .val (.int 1), .val (.ref b3), .val (.int 1), .val (.int 2), .val (.int 1), .val (.int c0)] [(.int 1), (.ref a1)]) t → Gl t := fun t kt => kn5 t (st6 _ (by
    show own_S p e below T6 (mkF m 32 #[.val (.ref a1), .val (.int 0), .val (.ref b3), .val (.int 0), .val (.int 2), .val (.int 0), .val (.int c0)] []) _
    refine XS.iinc X6.here hx rfl (hb hby d12_32) rfl (l' := #[.val (.ref a1), .val (.int ((0 : Int32) + (1 : Int32))), .val (.ref b3), .val (.int 0), .val (.int 2), .val (.int 0), .val (.int c0)]) rfl ?_
    rw [(by decide : ((0 : Int32) + (1 : Int32)) = (1 : Int32))]
    show own_S p e below T6 (mkF m 35 #[.val (.ref a1), .val (.int 1), .val (.ref b3), .val (.int 0), .val (.int 2), .val (.int 0), .val (.int c0)] []) _
    refine XS.iinc X6.here hx rfl (hb hby d12_35) rfl (l' := #[.val (.ref a1), .val (.int 1), .val (.ref b3), .val (.int ((0 : Int32) + (1 : Int32))), .val (.int 2), .val (.int 0), .val (.int c0)]) rfl ?_
    rw [(by decide : ((0 : Int32) + (1 : Int32)) = (1 : Int32))]
    show own_S p e below T6 (mkF m 38 #[.val (.ref a1), .val (.int 1), .val (.ref b3), .val (.int 1), .val (.int 2), .val (.int 0), .val (.int c0)] []) _
    refine XS.iinc X6.here hx rfl (hb hby d12_38) rfl (l' := #[.val (.ref a1), .val (.int 1), .val (.ref b3), .val (.int 1), .val (.int 2), .val (.int ((0 : Int32) + (1 : Int32))), .val (.int c0)]) rfl ?_
    rw [(by decide : ((0 : Int32) + (1 : Int32)) = (1 : Int32))]
    refine XS.goto X6.here hx rfl (pc0 := 41) (pc' := 3) rfl (hb hby d12_41) (by decide) (by decide) ?_
    refine XS.iload X6.here hx rfl (hb hby d12_3) rfl ?_
    refine XS.iload X6.here hx rfl (hb hby d12_5) rfl ?_
    refine XS.icmpNo X6.here hx rfl (hb hby d12_7) rfl (tlt (by decide : (1 : Int32) < (2 : Int32))).2.1 ?_
    refine XS.aloadN X6.here hx rfl (hb hby d12_10) rfl rfl ?_
    refine XS.iloadN X6.here hx rfl (hb hby d12_11) rfl ?_
    exact kt))
  have f11 := (A1.other W6 nab)
  obtain ⟨cl12, Ar12, q12, Sz12, Ng12, Hs12, Gs12⟩ := id f11
  have hin12 : ¬ ((1 : Int32) < 0 ∨ cl12.slots.size ≤ ((1 : Int32)).toNatClampNeg) := inb_of Sz12 ⟨by decide, by decide⟩
  have hat12 : cl12.slots[((1 : Int32)).toNatClampNeg]? = some (.int c1) := Hs12.at hin12 rfl
  have kn13 : ∀ t, own_S p e below T6 (mkF m 20 #[.val (.ref a1), .val (.int 1), .val (.ref b3), .val (.int 1), .val (.int 2), .val (.int 1), .val (.int c1)] [(.int 255), (.int c1)]) t → Gl t := fun t kt => kn10 t (by
    show own_S p e below T6 (mkF m 12 #[.val (.ref a1), .val (.int 1), .val (.ref b3), .val (.int 1), .val (.int 2), .val (.int 1), .val (.int c0)] [(.int 1), (.ref a1)]) _
    refine X6.caload hx (j := (1 : Int32)) (v := (.int c1)) (by rw [e6]; exact Ar12.1) (State.isArrayOf_alike hZ.alike Ar12.2.1) Ar12.2.2 hin12 hat12 (g := (mkF m 12 #[.val (.ref a1), .val (.int 1), .val (.ref b3), .val (.int 1), .val (.int 2), .val (.int 1), .val (.int c0)] [(.int 1), (.ref a1)])) rfl rfl (hb hby d12_12) _ ?_
    refine XS.istore X6.here hx rfl (hb hby d12_13) rfl (l' := #[.val (.ref a1), .val (.int 1), .val (.ref b3), .val (.int 1), .val (.int 2), .val (.int 1), .val (.int c1)]) rfl ?_
    refine XS.iload X6.here hx rfl (hb hby d12_15) rfl ?_
    refine XS.sipush X6.here hx rfl (hb hby d12_17) ?_
    exact kt)
  have hc20_14 : (255 : Int32) < c1 := wq1
  have kn15 : ∀ t, own_S p e below T6 (mkF m 25 #[.val (.ref a1), .val (.int 1), .val (.ref b3), .val (.int 1), .val (.int 2), .val (.int 1), .val (.int c1)] [(.int 1)]) t → Gl t := fun t kt => kn13 t (by
    show own_S p e below T6 (mkF m 20 #[.val (.ref a1), .val (.int 1), .val (.ref b3), .val (.int 1), .val (.int 2), .val (.int 1), .val (.int c1)] [(.int 255), (.int c1)]) _
    refine XS.icmpNo X6.here hx rfl (hb hby d12_20) rfl (tlt hc20_14).2.2.2 ?_
    refine XS.iload X6.here hx rfl (hb hby d12_23) rfl ?_
    exact kt)
  obtain ⟨fs, hr, hrun, hended, hW, hsame⟩ := X6.leave (v := some (.int (1 : Int32))) (fun h => by rw [Bd.returns] at h; cases h)
  refine ⟨_, _, hGl _ (kn15 _ (retI X6 hx Bd.returns (hb hby d12_25) hr)), hrun, hended, _, _, rfl, ?_, ⟨_, rfl⟩, hW, hsame.mono (by decide) (by decide)⟩
  show Q12_2_1 Z a1 b3 ka kb c0 c1 h0 n0 _ T6.heap _
  rw [e6]
  exact ⟨rfl, Nf9, K8⟩

theorem ef_rm23_2 (m : MethodId)  : entryFrame m #[(.int (2 : Int32))] 1 = mkF m 0 #[.val (.int (2 : Int32))] [] := by first | (simp [entryFrame, mkF, argsToLocals, Value.category]; done) | rfl
def Q23_2 (Z : State)  (h0 : Heap) (n0 : Nat) (v : Option Value) (h : Heap) (L : List Loc) : Prop := v = some (.int (4 : Int32)) ∧ Fr n0 L ∧ h = h0
theorem rm23_2 (l : Launch) (Z : State) (a0 : Array Value) (hw : ∀ d ∈ tables_1, d.before a0 Z = true) (ws : List Jvm.Cond)  (h0 : Heap) (n0 : Nat) (Z0 : n0 ≤ h0.size) :
    MetFree l mN17 (head1 (Jvm.Cond.code mN17 jdk_52_method_3_code 1 (some .int) :: ws) (own_r 0 0 0 0)) (fun a U => a = #[(.int (2 : Int32))] ∧ Z.Warmed39 U.vm ∧ U.heap = h0) (fun _ _ _ _ _ => True) (fun _ U o U' => ∃ v L, o = .returned v ∧ Q23_2 Z  h0 n0 v U'.heap L ∧ FrameEnd U o U' L (own_r 0 0 0 0).cells (own_r 0 0 0 0).slots) := by
  refine MetFree.of_bodySF (plainFor_of_name pn_4) hisR ?_
  intro p e s m args below meth c s₁ Bd hml0 hP hK
  obtain ⟨rfl, hZ, hh⟩ := hP
  have hx := Bd.exec
  have hby := Bd.bytes
  have hml : c.maxLocals = 1 := hml0
  have hown : s.vm.findClass "java/lang/StringUTF16" = some m.cls := findClass_of_methodNamed Bd.named
  have hnm := (name_of_methodNamed Bd.named Bd.method).1
  have X0 : Stand p l e (own_r 0 0 0 0) s m #[(.int (2 : Int32))] below meth c s₁ [] 0 0 := Stand.of_body Bd
  have e0 : s₁.heap = h0 := by rw [← hh, Bd.state]; rfl
  have Nf0 := Fr.nil n0
  obtain ⟨Gl, hGl, kn0⟩ := own_gl (p := p) (e := e) (below := below) (s₁ := s₁) (ef_rm23_2 m )
  have kn1 : ∀ t, own_S p e below s₁ (mkF m 58 #[.val (.int 2)] [(.int 4)]) t → Gl t := fun t kt => kn0 t (by
    show own_S p e below s₁ (mkF m 0 #[.val (.int 2)] []) _
    refine XS.iloadN X0.here hx rfl (hb hby d23_0) rfl ?_
    refine XS.ifYes X0.here hx rfl (pc0 := 1) (pc' := 12) rfl (hb hby d23_1) rfl ((if0 _ _).trans (flt (by decide : ¬ ((2 : Int32) < (0 : Int32)))).2.1) (by decide) (by decide) ?_
    refine XS.iloadN X0.here hx rfl (hb hby d23_12) rfl ?_
    refine X0.ldcInt hx hown (mvT hZ (own_w hw 102 rfl)) (g := (mkF m 13 #[.val (.int 2)] [(.int 2)])) rfl (hb hby d23_13) _ ?_
    refine XS.icmpYes X0.here hx rfl (pc0 := 15) (pc' := 55) rfl (hb hby d23_15) rfl (tlt (by decide : (2 : Int32) < (1073741823 : Int32))).1 (by decide) (by decide) ?_
    refine XS.iloadN X0.here hx rfl (hb hby d23_55) rfl ?_
    refine XS.iconst X0.here hx rfl (hb hby d23_56) ?_
    show own_S p e below s₁ (mkF m 57 #[.val (.int 2)] [(.int 1), (.int 2)]) _
    refine XS.ishl X0.here hx rfl (hb hby d23_57) rfl ?_
    rw [(by decide : ((2 : Int32) <<< ((1 : Int32) &&& 31)) = (4 : Int32))]
    exact kt)
  obtain ⟨fs, hr, hrun, hended, hW, hsame⟩ := X0.leave (v := some (.int (4 : Int32))) (fun h => by rw [Bd.returns] at h; cases h)
  refine ⟨_, _, hGl _ (kn1 _ (retI X0 hx Bd.returns (hb hby d23_58) hr)), hrun, hended, _, _, rfl, ?_, ⟨_, rfl⟩, hW, hsame.mono (by decide) (by decide)⟩
  show Q23_2 Z  h0 n0 _ s₁.heap _
  rw [e0]
  exact ⟨rfl, Nf0, rfl⟩

theorem ef_rm22_2 (m : MethodId)  : entryFrame m #[(.int (2 : Int32))] 1 = mkF m 0 #[.val (.int (2 : Int32))] [] := by first | (simp [entryFrame, mkF, argsToLocals, Value.category]; done) | rfl
def Q22_2 (Z : State)  (h0 : Heap) (n0 : Nat) (v : Option Value) (h : Heap) (L : List Loc) : Prop := ∃ (b : Addr) (kb : ClassId), v = some (.ref b) ∧ Fr n0 L ∧ n0 ≤ b ∧ h0.size ≤ b ∧ Keep h0 h [] ∧ Arv Z h b kb .byte (4 : Int32) [(.int (0 : Int32)), (.int (0 : Int32)), (.int (0 : Int32)), (.int (0 : Int32))] (.int (0 : Int32))
theorem rm22_2 (l : Launch) (Z : State) (a0 : Array Value) (hw : ∀ d ∈ tables_1, d.before a0 Z = true) (ws : List Jvm.Cond)  (h0 : Heap) (n0 : Nat) (Z0 : n0 ≤ h0.size) :
    MetFree l mN18 (head1 (Jvm.Cond.code mN18 jdk_52_method_2_code 1 (some (.array .byte)) :: ws) (own_r 1 1 4 12)) (fun a U => a = #[(.int (2 : Int32))] ∧ Z.Warmed39 U.vm ∧ U.heap = h0) (fun _ _ _ _ _ => True) (fun _ U o U' => ∃ v L, o = .returned v ∧ Q22_2 Z  h0 n0 v U'.heap L ∧ FrameEnd U o U' L (own_r 1 1 4 12).cells (own_r 1 1 4 12).slots) := by
  refine MetFree.of_bodySF (plainFor_of_name pn_4) hisR ?_
  intro p e s m args below meth c s₁ Bd hml0 hP hK
  obtain ⟨rfl, hZ, hh⟩ := hP
  have hx := Bd.exec
  have hby := Bd.bytes
  have hml : c.maxLocals = 1 := hml0
  have hown : s.vm.findClass "java/lang/StringUTF16" = some m.cls := findClass_of_methodNamed Bd.named
  have hnm := (name_of_methodNamed Bd.named Bd.method).1
  have X0 : Stand p l e (own_r 1 1 4 12) s m #[(.int (2 : Int32))] below meth c s₁ [] 0 0 := Stand.of_body Bd
  have e0 : s₁.heap = h0 := by rw [← hh, Bd.state]; rfl
  have Nf0 := Fr.nil n0
  obtain ⟨Gl, hGl, kn0⟩ := own_gl (p := p) (e := e) (below := below) (s₁ := s₁) (ef_rm22_2 m )
  have kn1 : ∀ t, own_S p e below s₁ (mkF m 1 #[.val (.int 2)] [(.int 2)]) t → Gl t := fun t kt => kn0 t (by
    show own_S p e below s₁ (mkF m 0 #[.val (.int 2)] []) _
    refine XS.iloadN X0.here hx rfl (hb hby d22_0) rfl ?_
    exact kt)
  obtain ⟨_, _, ⟨T2, L2, cc2, ss2⟩, -, X2, ⟨Lc2, hQ2, l2, y2, z2⟩, st2⟩ := Jvm.LawKit.callS X0 hx (y := mN17) hown (mvT hZ (own_w hw 99 rfl)) (mvT hZ (own_w hw 100 rfl)) (mvT hZ (own_w hw 54 rfl)) (mvT hZ (own_w hw 101 rfl)) (by decide) (backOf (W := 0) (rm23_2 l Z a0 hw []   h0 n0 Z0 ) hZ (own_w hw 101 rfl) (own_w hw 54 rfl) (by decide) (by decide)) (g := (mkF m 1 #[.val (.int 2)] [(.int 2)])) rfl (by rw [hml]; rfl) (argsL := [(.int 2)]) (rest := []) (lenOf pd_1 rfl) rfl (by show 2 * 0 + _ ≤ _; exact Nat.le_of_eq rfl) (hb hby d22_1) (fun _ _ => ⟨rfl, e0, (by decide : 0 + 0 ≤ _), (by decide : 0 + 0 ≤ _)⟩)
  dsimp only [Pt.U, Pt.locs, Pt.cells, Pt.slots] at X2 l2 y2 z2 st2 hQ2
  subst l2 y2 z2
  have X2 : Stand p l e _ _ m _ below meth c T2 _ 0 0 := X2
  obtain ⟨rfl, Nq2, eq2⟩ := hQ2
  have Nf2 := Fr.app Nf0 Nq2
  obtain ⟨T3, h3, kk3, X3, e3, E3, A3, st3⟩ := newP X2 hx hZ (own_w hw 20 rfl) eq2 (g := (mkF m 4 #[.val (.int 2)] [(.int 4)])) rfl (hb hby d22_4) rfl (by decide) (cap := 4) (by decide) (by decide) (by decide) (by decide)
  obtain ⟨b3, g3⟩ : ∃ z, z = h0.size := ⟨_, rfl⟩
  rw [← g3] at A3 st3
  have sz_b3 : h0.size ≤ b3 := Nat.le_trans (Keep.refl h0 []).1 (Nat.le_of_eq g3.symm)
  have g_b3 : n0 ≤ b3 := Nat.le_trans Z0 (Nat.le_of_eq g3.symm)
  have Z4 := Nat.le_trans Z0 E3.1
  have K5 := (Keep.refl h0 []).ext E3
  have V3 : Arv Z h3 b3 kk3 .byte (4 : Int32) [(.int (0 : Int32)), (.int (0 : Int32)), (.int (0 : Int32)), (.int (0 : Int32))] (.int (0 : Int32)) := (Arv.new A3 (by decide)).pad (pad_rep [] (.int (0 : Int32)) 4)
  obtain ⟨fs, hr, hrun, hended, hW, hsame⟩ := X3.leave (v := some (.ref b3)) (fun h => by rw [Bd.returns] at h; cases h)
  refine ⟨_, _, hGl _ (kn1 _ (st2 _ (st3 _ (by
      show own_S p e below T3 (mkF m 6 #[.val (.int 2)] [(.ref b3)]) _
      jvm_step X3.here [X3.here.top, hx, (hb hby d22_6), X3.method', Bd.returns, Value.isRef, FieldType.isReference]
      first | (intro acts; rw [hr _ acts rfl rfl rfl]) | rw [hr _ _ rfl rfl rfl]
      exact Steps.refl _)))), hrun, hended, _, _, rfl, ?_, ⟨_, rfl⟩, hW, hsame.mono (by decide) (by decide)⟩
  show Q22_2 Z  h0 n0 _ T3.heap _
  rw [e3]
  exact ⟨b3, _, rfl, Nf2, g_b3, sz_b3, K5, V3⟩

theorem ef_rm24_2_0 (m : MethodId) (x0 : Addr) (x2 : Int32) : entryFrame m #[(.ref x0), (.int (0 : Int32)), (.int x2)] 3 = mkF m 0 #[.val (.ref x0), .val (.int (0 : Int32)), .val (.int x2)] [] := by first | (simp [entryFrame, mkF, argsToLocals, Value.category]; done) | rfl
def Q24_2_0 (Z : State) (b1 : Addr) (cc : Int32) (kb : ClassId) (v0 : Value) (v1 : Value) (v2 : Value) (v3 : Value) (h0 : Heap) (n0 : Nat) (v : Option Value) (h : Heap) (L : List Loc) : Prop := v = none ∧ Fr n0 L ∧ Keep h0 h [b1] ∧ Arv Z h b1 kb .byte (4 : Int32) [(.int (StrChars.lo8 cc)), (.int (StrChars.hi8 cc)), v2, v3] (.int (0 : Int32))
theorem rm24_2_0 (l : Launch) (Z : State) (a0 : Array Value) (hw : ∀ d ∈ tables_1, d.before a0 Z = true) (ws : List Jvm.Cond) (b1 : Addr) (cc : Int32) (kb : ClassId) (v0 : Value) (v1 : Value) (v2 : Value) (v3 : Value) (h0 : Heap) (n0 : Nat) (Z0 : n0 ≤ h0.size) (A1 : Arv Z h0 b1 kb .byte (4 : Int32) [v0, v1, v2, v3] (.int (0 : Int32))) (g_b1 : n0 ≤ b1) (O0 : Old Z n0 h0) (U1 : Sta Z Z.heap "java/lang/StringUTF16" "$assertionsDisabled" "Z" (.int (1 : Int32))) (U2 : Sta Z Z.heap "java/lang/StringUTF16" "HI_BYTE_SHIFT" "I" (.int (0 : Int32))) (U3 : Sta Z Z.heap "java/lang/StringUTF16" "LO_BYTE_SHIFT" "I" (.int (8 : Int32))) :
    MetFree l mN19 (head1 (Jvm.Cond.code mN19 jdk_52_method_4_code 3 none :: ws) (own_r 0 0 0 0)) (fun a U => a = #[(.ref b1), (.int (0 : Int32)), (.int cc)] ∧ Z.Warmed39 U.vm ∧ U.heap = h0) (fun _ _ _ _ _ => True) (fun _ U o U' => ∃ v L, o = .returned v ∧ Q24_2_0 Z b1 cc kb v0 v1 v2 v3 h0 n0 v U'.heap L ∧ FrameEnd U o U' L (own_r 0 0 0 0).cells (own_r 0 0 0 0).slots) := by
  refine MetFree.of_bodySF (plainFor_of_name pn_4) hisR ?_
  intro p e s m args below meth c s₁ Bd hml0 hP hK
  obtain ⟨rfl, hZ, hh⟩ := hP
  have hx := Bd.exec
  have hby := Bd.bytes
  have hml : c.maxLocals = 3 := hml0
  have hown : s.vm.findClass "java/lang/StringUTF16" = some m.cls := findClass_of_methodNamed Bd.named
  have hnm := (name_of_methodNamed Bd.named Bd.method).1
  have X0 : Stand p l e (own_r 0 0 0 0) s m #[(.ref b1), (.int (0 : Int32)), (.int cc)] below meth c s₁ [] 0 0 := Stand.of_body Bd
  have e0 : s₁.heap = h0 := by rw [← hh, Bd.state]; rfl
  have Nf0 := Fr.nil n0
  obtain ⟨Gl, hGl, kn0⟩ := own_gl (p := p) (e := e) (below := below) (s₁ := s₁) (ef_rm24_2_0 m b1 cc)
  obtain ⟨T1, X1, e1, st1⟩ := getS2 X0 hx hZ hown (host := "") (Or.inl (own_w hw 106 rfl)) Via.refl e0 (U1.ext O0.2) (g := (mkF m 0 #[.val (.ref b1), .val (.int 0), .val (.int cc)] [])) rfl (hb hby d24_0)
  have kn2 : ∀ t, own_S p e below T1 (mkF m 38 #[.val (.ref b1), .val (.int 1), .val (.int cc)] [(.int cc), (.int 0), (.ref b1)]) t → Gl t := fun t kt => kn0 t (st1 _ (by
    show own_S p e below T1 (mkF m 3 #[.val (.ref b1), .val (.int 0), .val (.int cc)] [(.int 1)]) _
    refine XS.ifYes X1.here hx rfl (pc0 := 3) (pc' := 28) rfl (hb hby d24_3) rfl ((if0 _ _).trans (feq (by decide : ¬ ((1 : Int32) = (0 : Int32)))).2) (by decide) (by decide) ?_
    refine XS.iloadN X1.here hx rfl (hb hby d24_28) rfl ?_
    refine XS.iconst X1.here hx rfl (hb hby d24_29) ?_
    show own_S p e below T1 (mkF m 30 #[.val (.ref b1), .val (.int 0), .val (.int cc)] [(.int 1), (.int 0)]) _
    refine XS.ishl X1.here hx rfl (hb hby d24_30) rfl ?_
    rw [(by decide : ((0 : Int32) <<< ((1 : Int32) &&& 31)) = (0 : Int32))]
    refine XS.istoreN X1.here hx rfl (hb hby d24_31) rfl (l' := #[.val (.ref b1), .val (.int 0), .val (.int cc)]) rfl ?_
    refine XS.aloadN X1.here hx rfl (hb hby d24_32) rfl rfl ?_
    refine XS.iloadN X1.here hx rfl (hb hby d24_33) rfl ?_
    show own_S p e below T1 (mkF m 34 #[.val (.ref b1), .val (.int 0), .val (.int cc)] [(.int 0), (.ref b1)]) _
    refine XS.iinc X1.here hx rfl (hb hby d24_34) rfl (l' := #[.val (.ref b1), .val (.int ((0 : Int32) + (1 : Int32))), .val (.int cc)]) rfl ?_
    rw [(by decide : ((0 : Int32) + (1 : Int32)) = (1 : Int32))]
    refine XS.iloadN X1.here hx rfl (hb hby d24_37) rfl ?_
    exact kt))
  obtain ⟨T3, X3, e3, st3⟩ := getS2 X1 hx hZ hown (host := "") (Or.inl (own_w hw 107 rfl)) Via.refl e1 (U2.ext O0.2) (g := (mkF m 38 #[.val (.ref b1), .val (.int 1), .val (.int cc)] [(.int cc), (.int 0), (.ref b1)])) rfl (hb hby d24_38)
  have kn4 : ∀ t, own_S p e below T3 (mkF m 43 #[.val (.ref b1), .val (.int 1), .val (.int cc)] [(.int ((cc >>> ((0 : Int32) &&& 31)).toInt8.toInt32)), (.int 0), (.ref b1)]) t → Gl t := fun t kt => kn2 t (st3 _ (by
    show own_S p e below T3 (mkF m 41 #[.val (.ref b1), .val (.int 1), .val (.int cc)] [(.int 0), (.int cc), (.int 0), (.ref b1)]) _
    refine XS.ishr X3.here hx rfl (hb hby d24_41) rfl ?_
    refine XS.i2b X3.here hx rfl (hb hby d24_42) rfl ?_
    exact kt))
  obtain ⟨cl5, Ar5, q5, Sz5, Ng5, Hs5, Gs5⟩ := id A1
  have hin5 : ¬ ((0 : Int32) < 0 ∨ cl5.slots.size ≤ ((0 : Int32)).toNatClampNeg) := inb_of Sz5 ⟨by decide, by decide⟩
  obtain ⟨T5, h5, X5, e5, W5, st5⟩ := stB X3 hx hZ e3 Ar5 (j := (0 : Int32)) hin5 (g := (mkF m 43 #[.val (.ref b1), .val (.int 1), .val (.int cc)] [(.int ((cc >>> ((0 : Int32) &&& 31)).toInt8.toInt32)), (.int 0), (.ref b1)])) rfl rfl (hb hby d24_43)
  have Z6 := Nat.le_trans Z0 (Keep.of_wr W5).1
  have Od7 := O0.wr W5 g_b1
  have K8 := (Keep.refl h0 [b1]).wr W5 (Or.inl (List.mem_of_getElem? (i := 0) rfl))
  have V5 : Arv Z h5 b1 kb .byte (4 : Int32) [(.int (((cc >>> ((0 : Int32) &&& 31)).toInt8.toInt32).toInt8.toInt32)), v1, v2, v3] (.int (0 : Int32)) := Arv.set Ar5 q5 Sz5 Ng5 Hs5 Gs5 (fits_nar_byte _) W5 0 rfl (Nat.le_of_ble_eq_true rfl)
  rw [(show (((cc >>> ((0 : Int32) &&& 31)).toInt8.toInt32).toInt8.toInt32) = (StrChars.lo8 cc) from own_lo cc)] at V5
  have Nf9 := Fr.snoc X5 Nf0 g_b1
  have kn10 : ∀ t, own_S p e below T5 (mkF m 47 #[.val (.ref b1), .val (.int 1), .val (.int cc)] [(.int cc), (.int 1), (.ref b1)]) t → Gl t := fun t kt => kn4 t (st5 _ (by
    show own_S p e below T5 (mkF m 44 #[.val (.ref b1), .val (.int 1), .val (.int cc)] []) _
    refine XS.aloadN X5.here hx rfl (hb hby d24_44) rfl rfl ?_
    refine XS.iloadN X5.here hx rfl (hb hby d24_45) rfl ?_
    refine XS.iloadN X5.here hx rfl (hb hby d24_46) rfl ?_
    exact kt))
  obtain ⟨T11, X11, e11, st11⟩ := getS2 X5 hx hZ hown (host := "") (Or.inl (own_w hw 108 rfl)) Via.refl e5 (U3.ext Od7.2) (g := (mkF m 47 #[.val (.ref b1), .val (.int 1), .val (.int cc)] [(.int cc), (.int 1), (.ref b1)])) rfl (hb hby d24_47)
  have kn12 : ∀ t, own_S p e below T11 (mkF m 52 #[.val (.ref b1), .val (.int 1), .val (.int cc)] [(.int ((cc >>> ((8 : Int32) &&& 31)).toInt8.toInt32)), (.int 1), (.ref b1)]) t → Gl t := fun t kt => kn10 t (st11 _ (by
    show own_S p e below T11 (mkF m 50 #[.val (.ref b1), .val (.int 1), .val (.int cc)] [(.int 8), (.int cc), (.int 1), (.ref b1)]) _
    refine XS.ishr X11.here hx rfl (hb hby d24_50) rfl ?_
    refine XS.i2b X11.here hx rfl (hb hby d24_51) rfl ?_
    exact kt))
  obtain ⟨cl13, Ar13, q13, Sz13, Ng13, Hs13, Gs13⟩ := id V5
  have hin13 : ¬ ((1 : Int32) < 0 ∨ cl13.slots.size ≤ ((1 : Int32)).toNatClampNeg) := inb_of Sz13 ⟨by decide, by decide⟩
  obtain ⟨T13, h13, X13, e13, W13, st13⟩ := stB X11 hx hZ e11 Ar13 (j := (1 : Int32)) hin13 (g := (mkF m 52 #[.val (.ref b1), .val (.int 1), .val (.int cc)] [(.int ((cc >>> ((8 : Int32) &&& 31)).toInt8.toInt32)), (.int 1), (.ref b1)])) rfl rfl (hb hby d24_52)
  have Z14 := Nat.le_trans Z6 (Keep.of_wr W13).1
  have Od15 := Od7.wr W13 g_b1
  have K16 := K8.wr W13 (Or.inl (List.mem_of_getElem? (i := 0) rfl))
  have V13 : Arv Z h13 b1 kb .byte (4 : Int32) [(.int (StrChars.lo8 cc)), (.int (((cc >>> ((8 : Int32) &&& 31)).toInt8.toInt32).toInt8.toInt32)), v2, v3] (.int (0 : Int32)) := Arv.set Ar13 q13 Sz13 Ng13 Hs13 Gs13 (fits_nar_byte _) W13 1 rfl (Nat.le_of_ble_eq_true rfl)
  rw [(show (((cc >>> ((8 : Int32) &&& 31)).toInt8.toInt32).toInt8.toInt32) = (StrChars.hi8 cc) from own_hi cc)] at V13
  have Nf17 := Fr.snoc X13 Nf9 g_b1
  obtain ⟨fs, hr, hrun, hended, hW, hsame⟩ := X13.leave (v := none) (fun _ => rfl)
  refine ⟨_, _, hGl _ (kn12 _ (st13 _ (X13.returnOut hx Bd.returns (hb hby d24_53) hr))), hrun, hended, _, _, rfl, ?_, ⟨_, rfl⟩, hW, hsame.mono (by decide) (by decide)⟩
  show Q24_2_0 Z b1 cc kb v0 v1 v2 v3 h0 n0 _ T13.heap _
  rw [e13]
  exact ⟨rfl, Nf17, K16, V13⟩

theorem ef_rm24_2_1 (m : MethodId) (x0 : Addr) (x2 : Int32) : entryFrame m #[(.ref x0), (.int (1 : Int32)), (.int x2)] 3 = mkF m 0 #[.val (.ref x0), .val (.int (1 : Int32)), .val (.int x2)] [] := by first | (simp [entryFrame, mkF, argsToLocals, Value.category]; done) | rfl
def Q24_2_1 (Z : State) (b1 : Addr) (cc : Int32) (kb : ClassId) (v0 : Value) (v1 : Value) (v2 : Value) (v3 : Value) (h0 : Heap) (n0 : Nat) (v : Option Value) (h : Heap) (L : List Loc) : Prop := v = none ∧ Fr n0 L ∧ Keep h0 h [b1] ∧ Arv Z h b1 kb .byte (4 : Int32) [v0, v1, (.int (StrChars.lo8 cc)), (.int (StrChars.hi8 cc))] (.int (0 : Int32))
theorem rm24_2_1 (l : Launch) (Z : State) (a0 : Array Value) (hw : ∀ d ∈ tables_1, d.before a0 Z = true) (ws : List Jvm.Cond) (b1 : Addr) (cc : Int32) (kb : ClassId) (v0 : Value) (v1 : Value) (v2 : Value) (v3 : Value) (h0 : Heap) (n0 : Nat) (Z0 : n0 ≤ h0.size) (A1 : Arv Z h0 b1 kb .byte (4 : Int32) [v0, v1, v2, v3] (.int (0 : Int32))) (g_b1 : n0 ≤ b1) (O0 : Old Z n0 h0) (U1 : Sta Z Z.heap "java/lang/StringUTF16" "$assertionsDisabled" "Z" (.int (1 : Int32))) (U2 : Sta Z Z.heap "java/lang/StringUTF16" "HI_BYTE_SHIFT" "I" (.int (0 : Int32))) (U3 : Sta Z Z.heap "java/lang/StringUTF16" "LO_BYTE_SHIFT" "I" (.int (8 : Int32))) :
    MetFree l mN19 (head1 (Jvm.Cond.code mN19 jdk_52_method_4_code 3 none :: ws) (own_r 0 0 0 0)) (fun a U => a = #[(.ref b1), (.int (1 : Int32)), (.int cc)] ∧ Z.Warmed39 U.vm ∧ U.heap = h0) (fun _ _ _ _ _ => True) (fun _ U o U' => ∃ v L, o = .returned v ∧ Q24_2_1 Z b1 cc kb v0 v1 v2 v3 h0 n0 v U'.heap L ∧ FrameEnd U o U' L (own_r 0 0 0 0).cells (own_r 0 0 0 0).slots) := by
  refine MetFree.of_bodySF (plainFor_of_name pn_4) hisR ?_
  intro p e s m args below meth c s₁ Bd hml0 hP hK
  obtain ⟨rfl, hZ, hh⟩ := hP
  have hx := Bd.exec
  have hby := Bd.bytes
  have hml : c.maxLocals = 3 := hml0
  have hown : s.vm.findClass "java/lang/StringUTF16" = some m.cls := findClass_of_methodNamed Bd.named
  have hnm := (name_of_methodNamed Bd.named Bd.method).1
  have X0 : Stand p l e (own_r 0 0 0 0) s m #[(.ref b1), (.int (1 : Int32)), (.int cc)] below meth c s₁ [] 0 0 := Stand.of_body Bd
  have e0 : s₁.heap = h0 := by rw [← hh, Bd.state]; rfl
  have Nf0 := Fr.nil n0
  obtain ⟨Gl, hGl, kn0⟩ := own_gl (p := p) (e := e) (below := below) (s₁ := s₁) (ef_rm24_2_1 m b1 cc)
  obtain ⟨T1, X1, e1, st1⟩ := getS2 X0 hx hZ hown (host := "") (Or.inl (own_w hw 106 rfl)) Via.refl e0 (U1.ext O0.2) (g := (mkF m 0 #[.val (.ref b1), .val (.int 1), .val (.int cc)] [])) rfl (hb hby d24_0)
  have kn2 : ∀ t, own_S p e below T1 (mkF m 38 #[.val (.ref b1), .val (.int 3), .val (.int cc)] [(.int cc), (.int 2), (.ref b1)]) t → Gl t := fun t kt => kn0 t (st1 _ (by
    show own_S p e below T1 (mkF m 3 #[.val (.ref b1), .val (.int 1), .val (.int cc)] [(.int 1)]) _
    refine XS.ifYes X1.here hx rfl (pc0 := 3) (pc' := 28) rfl (hb hby d24_3) rfl ((if0 _ _).trans (feq (by decide : ¬ ((1 : Int32) = (0 : Int32)))).2) (by decide) (by decide) ?_
    refine XS.iloadN X1.here hx rfl (hb hby d24_28) rfl ?_
    refine XS.iconst X1.here hx rfl (hb hby d24_29) ?_
    show own_S p e below T1 (mkF m 30 #[.val (.ref b1), .val (.int 1), .val (.int cc)] [(.int 1), (.int 1)]) _
    refine XS.ishl X1.here hx rfl (hb hby d24_30) rfl ?_
    rw [(by decide : ((1 : Int32) <<< ((1 : Int32) &&& 31)) = (2 : Int32))]
    refine XS.istoreN X1.here hx rfl (hb hby d24_31) rfl (l' := #[.val (.ref b1), .val (.int 2), .val (.int cc)]) rfl ?_
    refine XS.aloadN X1.here hx rfl (hb hby d24_32) rfl rfl ?_
    refine XS.iloadN X1.here hx rfl (hb hby d24_33) rfl ?_
    show own_S p e below T1 (mkF m 34 #[.val (.ref b1), .val (.int 2), .val (.int cc)] [(.int 2), (.ref b1)]) _
    refine XS.iinc X1.here hx rfl (hb hby d24_34) rfl (l' := #[.val (.ref b1), .val (.int ((2 : Int32) + (1 : Int32))), .val (.int cc)]) rfl ?_
    rw [(by decide : ((2 : Int32) + (1 : Int32)) = (3 : Int32))]
    refine XS.iloadN X1.here hx rfl (hb hby d24_37) rfl ?_
    exact kt))
  obtain ⟨T3, X3, e3, st3⟩ := getS2 X1 hx hZ hown (host := "") (Or.inl (own_w hw 107 rfl)) Via.refl e1 (U2.ext O0.2) (g := (mkF m 38 #[.val (.ref b1), .val (.int 3), .val (.int cc)] [(.int cc), (.int 2), (.ref b1)])) rfl (hb hby d24_38)
  have kn4 : ∀ t, own_S p e below T3 (mkF m 43 #[.val (.ref b1), .val (.int 3), .val (.int cc)] [(.int ((cc >>> ((0 : Int32) &&& 31)).toInt8.toInt32)), (.int 2), (.ref b1)]) t → Gl t := fun t kt => kn2 t (st3 _ (by
    show own_S p e below T3 (mkF m 41 #[.val (.ref b1), .val (.int 3), .val (.int cc)] [(.int 0), (.int cc), (.int 2), (.ref b1)]) _
    refine XS.ishr X3.here hx rfl (hb hby d24_41) rfl ?_
    refine XS.i2b X3.here hx rfl (hb hby d24_42) rfl ?_
    exact kt))
  obtain ⟨cl5, Ar5, q5, Sz5, Ng5, Hs5, Gs5⟩ := id A1
  have hin5 : ¬ ((2 : Int32) < 0 ∨ cl5.slots.size ≤ ((2 : Int32)).toNatClampNeg) := inb_of Sz5 ⟨by decide, by decide⟩
  obtain ⟨T5, h5, X5, e5, W5, st5⟩ := stB X3 hx hZ e3 Ar5 (j := (2 : Int32)) hin5 (g := (mkF m 43 #[.val (.ref b1), .val (.int 3), .val (.int cc)] [(.int ((cc >>> ((0 : Int32) &&& 31)).toInt8.toInt32)), (.int 2), (.ref b1)])) rfl rfl (hb hby d24_43)
  have Z6 := Nat.le_trans Z0 (Keep.of_wr W5).1
  have Od7 := O0.wr W5 g_b1
  have K8 := (Keep.refl h0 [b1]).wr W5 (Or.inl (List.mem_of_getElem? (i := 0) rfl))
  have V5 : Arv Z h5 b1 kb .byte (4 : Int32) [v0, v1, (.int (((cc >>> ((0 : Int32) &&& 31)).toInt8.toInt32).toInt8.toInt32)), v3] (.int (0 : Int32)) := Arv.set Ar5 q5 Sz5 Ng5 Hs5 Gs5 (fits_nar_byte _) W5 2 rfl (Nat.le_of_ble_eq_true rfl)
  rw [(show (((cc >>> ((0 : Int32) &&& 31)).toInt8.toInt32).toInt8.toInt32) = (StrChars.lo8 cc) from own_lo cc)] at V5
  have Nf9 := Fr.snoc X5 Nf0 g_b1
  have kn10 : ∀ t, own_S p e below T5 (mkF m 47 #[.val (.ref b1), .val (.int 3), .val (.int cc)] [(.int cc), (.int 3), (.ref b1)]) t → Gl t := fun t kt => kn4 t (st5 _ (by
    show own_S p e below T5 (mkF m 44 #[.val (.ref b1), .val (.int 3), .val (.int cc)] []) _
    refine XS.aloadN X5.here hx rfl (hb hby d24_44) rfl rfl ?_
    refine XS.iloadN X5.here hx rfl (hb hby d24_45) rfl ?_
    refine XS.iloadN X5.here hx rfl (hb hby d24_46) rfl ?_
    exact kt))
  obtain ⟨T11, X11, e11, st11⟩ := getS2 X5 hx hZ hown (host := "") (Or.inl (own_w hw 108 rfl)) Via.refl e5 (U3.ext Od7.2) (g := (mkF m 47 #[.val (.ref b1), .val (.int 3), .val (.int cc)] [(.int cc), (.int 3), (.ref b1)])) rfl (hb hby d24_47)
  have kn12 : ∀ t, own_S p e below T11 (mkF m 52 #[.val (.ref b1), .val (.int 3), .val (.int cc)] [(.int ((cc >>> ((8 : Int32) &&& 31)).toInt8.toInt32)), (.int 3), (.ref b1)]) t → Gl t := fun t kt => kn10 t (st11 _ (by
    show own_S p e below T11 (mkF m 50 #[.val (.ref b1), .val (.int 3), .val (.int cc)] [(.int 8), (.int cc), (.int 3), (.ref b1)]) _
    refine XS.ishr X11.here hx rfl (hb hby d24_50) rfl ?_
    refine XS.i2b X11.here hx rfl (hb hby d24_51) rfl ?_
    exact kt))
  obtain ⟨cl13, Ar13, q13, Sz13, Ng13, Hs13, Gs13⟩ := id V5
  have hin13 : ¬ ((3 : Int32) < 0 ∨ cl13.slots.size ≤ ((3 : Int32)).toNatClampNeg) := inb_of Sz13 ⟨by decide, by decide⟩
  obtain ⟨T13, h13, X13, e13, W13, st13⟩ := stB X11 hx hZ e11 Ar13 (j := (3 : Int32)) hin13 (g := (mkF m 52 #[.val (.ref b1), .val (.int 3), .val (.int cc)] [(.int ((cc >>> ((8 : Int32) &&& 31)).toInt8.toInt32)), (.int 3), (.ref b1)])) rfl rfl (hb hby d24_52)
  have Z14 := Nat.le_trans Z6 (Keep.of_wr W13).1
  have Od15 := Od7.wr W13 g_b1
  have K16 := K8.wr W13 (Or.inl (List.mem_of_getElem? (i := 0) rfl))
  have V13 : Arv Z h13 b1 kb .byte (4 : Int32) [v0, v1, (.int (StrChars.lo8 cc)), (.int (((cc >>> ((8 : Int32) &&& 31)).toInt8.toInt32).toInt8.toInt32))] (.int (0 : Int32)) := Arv.set Ar13 q13 Sz13 Ng13 Hs13 Gs13 (fits_nar_byte _) W13 3 rfl (Nat.le_of_ble_eq_true rfl)
  rw [(show (((cc >>> ((8 : Int32) &&& 31)).toInt8.toInt32).toInt8.toInt32) = (StrChars.hi8 cc) from own_hi cc)] at V13
  have Nf17 := Fr.snoc X13 Nf9 g_b1
  obtain ⟨fs, hr, hrun, hended, hW, hsame⟩ := X13.leave (v := none) (fun _ => rfl)
  refine ⟨_, _, hGl _ (kn12 _ (st13 _ (X13.returnOut hx Bd.returns (hb hby d24_53) hr))), hrun, hended, _, _, rfl, ?_, ⟨_, rfl⟩, hW, hsame.mono (by decide) (by decide)⟩
  show Q24_2_1 Z b1 cc kb v0 v1 v2 v3 h0 n0 _ T13.heap _
  rw [e13]
  exact ⟨rfl, Nf17, K16, V13⟩

theorem ef_rm21_2 (m : MethodId) (x0 : Addr) : entryFrame m #[(.ref x0), (.int (0 : Int32)), (.int (2 : Int32))] 5 = mkF m 0 #[.val (.ref x0), .val (.int (0 : Int32)), .val (.int (2 : Int32)), .unset, .unset] [] := by first | (simp [entryFrame, mkF, argsToLocals, Value.category]; done) | rfl
def Q21_2 (Z : State) (a1 : Addr) (ka : ClassId) (c0 : Int32) (c1 : Int32) (h0 : Heap) (n0 : Nat) (v : Option Value) (h : Heap) (L : List Loc) : Prop := ∃ (b : Addr) (kb : ClassId), v = some (.ref b) ∧ Fr n0 L ∧ n0 ≤ b ∧ h0.size ≤ b ∧ Keep h0 h [] ∧ Arv Z h b kb .byte (4 : Int32) [(.int (StrChars.lo8 c0)), (.int (StrChars.hi8 c0)), (.int (StrChars.lo8 c1)), (.int (StrChars.hi8 c1))] (.int (0 : Int32))
theorem rm21_2 (l : Launch) (Z : State) (a0 : Array Value) (hw : ∀ d ∈ tables_1, d.before a0 Z = true) (ws : List Jvm.Cond) (a1 : Addr) (ka : ClassId) (c0 : Int32) (c1 : Int32) (h0 : Heap) (n0 : Nat) (Z0 : n0 ≤ h0.size) (A1 : Arv Z h0 a1 ka .char (2 : Int32) [(.int c0), (.int c1)] (.int (0 : Int32))) (O0 : Old Z n0 h0) (U1 : Sta Z Z.heap "java/lang/StringUTF16" "$assertionsDisabled" "Z" (.int (1 : Int32))) (U2 : Sta Z Z.heap "java/lang/StringUTF16" "HI_BYTE_SHIFT" "I" (.int (0 : Int32))) (U3 : Sta Z Z.heap "java/lang/StringUTF16" "LO_BYTE_SHIFT" "I" (.int (8 : Int32))) :
    MetFree l mN20 (head1 (Jvm.Cond.code mN20 jdk_52_method_14_code 5 (some (.array .byte)) :: ws) (own_r 2 1 4 24)) (fun a U => a = #[(.ref a1), (.int (0 : Int32)), (.int (2 : Int32))] ∧ Z.Warmed39 U.vm ∧ U.heap = h0) (fun _ _ _ _ _ => True) (fun _ U o U' => ∃ v L, o = .returned v ∧ Q21_2 Z a1 ka c0 c1 h0 n0 v U'.heap L ∧ FrameEnd U o U' L (own_r 2 1 4 24).cells (own_r 2 1 4 24).slots) := by
  refine MetFree.of_bodySF (plainFor_of_name pn_4) hisR ?_
  intro p e s m args below meth c s₁ Bd hml0 hP hK
  obtain ⟨rfl, hZ, hh⟩ := hP
  have hx := Bd.exec
  have hby := Bd.bytes
  have hml : c.maxLocals = 5 := hml0
  have hown : s.vm.findClass "java/lang/StringUTF16" = some m.cls := findClass_of_methodNamed Bd.named
  have hnm := (name_of_methodNamed Bd.named Bd.method).1
  have X0 : Stand p l e (own_r 2 1 4 24) s m #[(.ref a1), (.int (0 : Int32)), (.int (2 : Int32))] below meth c s₁ [] 0 0 := Stand.of_body Bd
  have e0 : s₁.heap = h0 := by rw [← hh, Bd.state]; rfl
  have Nf0 := Fr.nil n0
  obtain ⟨Gl, hGl, kn0⟩ := own_gl (p := p) (e := e) (below := below) (s₁ := s₁) (ef_rm21_2 m a1)
  have kn1 : ∀ t, own_S p e below s₁ (mkF m 1 #[.val (.ref a1), .val (.int 0), .val (.int 2), .unset, .unset] [(.int 2)]) t → Gl t := fun t kt => kn0 t (by
    show own_S p e below s₁ (mkF m 0 #[.val (.ref a1), .val (.int 0), .val (.int 2), .unset, .unset] []) _
    refine XS.iloadN X0.here hx rfl (hb hby d21_0) rfl ?_
    exact kt)
  obtain ⟨_, _, ⟨T2, L2, cc2, ss2⟩, -, X2, ⟨Lc2, hQ2, l2, y2, z2⟩, st2⟩ := Jvm.LawKit.callS X0 hx (y := mN18) hown (mvT hZ (own_w hw 96 rfl)) (mvT hZ (own_w hw 97 rfl)) (mvT hZ (own_w hw 54 rfl)) (mvT hZ (own_w hw 98 rfl)) (by decide) (backOf (W := 0) (rm22_2 l Z a0 hw []   h0 n0 Z0 ) hZ (own_w hw 98 rfl) (own_w hw 54 rfl) (by decide) (by decide)) (g := (mkF m 1 #[.val (.ref a1), .val (.int 0), .val (.int 2), .unset, .unset] [(.int 2)])) rfl (by rw [hml]; rfl) (argsL := [(.int 2)]) (rest := []) (lenOf pd_11 rfl) rfl (by show 2 * 0 + _ ≤ _; exact Nat.le_of_eq rfl) (hb hby d21_1) (fun _ _ => ⟨rfl, e0, (by decide : 0 + 1 ≤ _), (by decide : 0 + 4 ≤ _)⟩)
  dsimp only [Pt.U, Pt.locs, Pt.cells, Pt.slots] at X2 l2 y2 z2 st2 hQ2
  subst l2 y2 z2
  have X2 : Stand p l e _ _ m _ below meth c T2 _ 1 4 := X2
  obtain ⟨b2, kb2, rfl, Nq2, gb2, sb2, K2, V2⟩ := hQ2
  have Nf2 := Fr.app Nf0 Nq2
  have ne_a1_b2 : a1 ≠ b2 := Nat.ne_of_lt (Nat.lt_of_lt_of_le A1.lt sb2)
  have szz2 : h0.size ≤ b2 := sb2
  have Z3 := Nat.le_trans Z0 K2.1
  have Od4 := O0.keep K2 all0
  have K5 := (Keep.refl h0 []).trans K2 (all0)
  have kn6 : ∀ t, own_S p e below T2 (mkF m 19 #[.val (.ref a1), .val (.int 0), .val (.int 2), .val (.ref b2), .val (.int 0)] [(.int 0), (.ref a1), (.int 0), (.ref b2)]) t → Gl t := fun t kt => kn1 t (st2 _ (by
    show own_S p e below T2 (mkF m 4 #[.val (.ref a1), .val (.int 0), .val (.int 2), .unset, .unset] [(.ref b2)]) _
    refine XS.astoreN X2.here hx rfl (hb hby d21_4) rfl rfl (l' := #[.val (.ref a1), .val (.int 0), .val (.int 2), .val (.ref b2), .unset]) rfl ?_
    refine XS.iconst X2.here hx rfl (hb hby d21_5) ?_
    refine XS.istore X2.here hx rfl (hb hby d21_6) rfl (l' := #[.val (.ref a1), .val (.int 0), .val (.int 2), .val (.ref b2), .val (.int 0)]) rfl ?_
    refine XS.iload X2.here hx rfl (hb hby d21_8) rfl ?_
    refine XS.iloadN X2.here hx rfl (hb hby d21_10) rfl ?_
    refine XS.icmpNo X2.here hx rfl (hb hby d21_11) rfl (tlt (by decide : (0 : Int32) < (2 : Int32))).2.1 ?_
    refine XS.aloadN X2.here hx rfl (hb hby d21_14) rfl rfl ?_
    refine XS.iload X2.here hx rfl (hb hby d21_15) rfl ?_
    refine XS.aloadN X2.here hx rfl (hb hby d21_17) rfl rfl ?_
    refine XS.iloadN X2.here hx rfl (hb hby d21_18) rfl ?_
    exact kt))
  have f7 := (A1.keep K2 nin0)
  obtain ⟨cl8, Ar8, q8, Sz8, Ng8, Hs8, Gs8⟩ := id f7
  have hin8 : ¬ ((0 : Int32) < 0 ∨ cl8.slots.size ≤ ((0 : Int32)).toNatClampNeg) := inb_of Sz8 ⟨by decide, by decide⟩
  have hat8 : cl8.slots[((0 : Int32)).toNatClampNeg]? = some (.int c0) := Hs8.at hin8 rfl
  have kn9 : ∀ t, own_S p e below T2 (mkF m 20 #[.val (.ref a1), .val (.int 0), .val (.int 2), .val (.ref b2), .val (.int 0)] [(.int c0), (.int 0), (.ref b2)]) t → Gl t := fun t kt => kn6 t (by
    show own_S p e below T2 (mkF m 19 #[.val (.ref a1), .val (.int 0), .val (.int 2), .val (.ref b2), .val (.int 0)] [(.int 0), (.ref a1), (.int 0), (.ref b2)]) _
    refine X2.caload hx (j := (0 : Int32)) (v := (.int c0)) Ar8.1 (State.isArrayOf_alike hZ.alike Ar8.2.1) Ar8.2.2 hin8 hat8 (g := (mkF m 19 #[.val (.ref a1), .val (.int 0), .val (.int 2), .val (.ref b2), .val (.int 0)] [(.int 0), (.ref a1), (.int 0), (.ref b2)])) rfl rfl (hb hby d21_19) _ ?_
    exact kt)
  obtain ⟨_, _, ⟨T10, L10, cc10, ss10⟩, -, X10, ⟨Lc10, hQ10, l10, y10, z10⟩, st10⟩ := Jvm.LawKit.callS X2 hx (y := mN19) hown (mvT hZ (own_w hw 103 rfl)) (mvT hZ (own_w hw 104 rfl)) (mvT hZ (own_w hw 54 rfl)) (mvT hZ (own_w hw 105 rfl)) (by decide) (backOf (W := 0) (rm24_2_0 l Z a0 hw [] b2 c0 kb2 (.int (0 : Int32)) (.int (0 : Int32)) (.int (0 : Int32)) (.int (0 : Int32)) T2.heap n0 Z3 V2 gb2 Od4 U1 U2 U3) hZ (own_w hw 105 rfl) (own_w hw 54 rfl) (by decide) (by decide)) (g := (mkF m 20 #[.val (.ref a1), .val (.int 0), .val (.int 2), .val (.ref b2), .val (.int 0)] [(.int c0), (.int 0), (.ref b2)])) rfl (by rw [hml]; rfl) (argsL := [(.ref b2), (.int 0), (.int c0)]) (rest := []) (lenOf pd_12 rfl) rfl (by show 2 * 0 + _ ≤ _; exact Nat.le_of_eq rfl) (hb hby d21_20) (fun _ _ => ⟨rfl, rfl, (by decide : 1 + 0 ≤ _), (by decide : 4 + 0 ≤ _)⟩)
  dsimp only [Pt.U, Pt.locs, Pt.cells, Pt.slots] at X10 l10 y10 z10 st10 hQ10
  subst l10 y10 z10
  have X10 : Stand p l e _ _ m _ below meth c T10 _ 1 4 := X10
  obtain ⟨rfl, Nq10, K10, V10⟩ := hQ10
  have Nf10 := Fr.app Nf2 Nq10
  have Z11 := Nat.le_trans Z3 K10.1
  have Od12 := Od4.keep K10 (allS gb2 all0)
  have K13 := K5.trans K10 (allS (Or.inr szz2) all0)
  have kn14 : ∀ t, own_S p e below T10 (mkF m 19 #[.val (.ref a1), .val (.int 1), .val (.int 2), .val (.ref b2), .val (.int 1)] [(.int 1), (.ref a1), (.int 1), (.ref b2)]) t → Gl t := fun t kt => kn9 t (st10 _ (by
    show own_S p e below T10 (mkF m 23 #[.val (.ref a1), .val (.int 0), .val (.int 2), .val (.ref b2), .val (.int 0)] []) _
    refine XS.iinc X10.here hx rfl (hb hby d21_23) rfl (l' := #[.val (.ref a1), .val (.int ((0 : Int32) + (1 : Int32))), .val (.int 2), .val (.ref b2), .val (.int 0)]) rfl ?_
    rw [(by decide : ((0 : Int32) + (1 : Int32)) = (1 : Int32))]
    show own_S p e below T10 (mkF m 26 #[.val (.ref a1), .val (.int 1), .val (.int 2), .val (.ref b2), .val (.int 0)] []) _
    refine XS.iinc X10.here hx rfl (hb hby d21_26) rfl (l' := #[.val (.ref a1), .val (.int 1), .val (.int 2), .val (.ref b2), .val (.int ((0 : Int32) + (1 : Int32)))]) rfl ?_
    rw [(by decide : ((0 : Int32) + (1 : Int32)) = (1 : Int32))]
    refine XS.goto X10.here hx rfl (pc0 := 29) (pc' := 8) rfl (hb hby d21_29) (by decide) (by decide) ?_
    refine XS.iload X10.here hx rfl (hb hby d21_8) rfl ?_
    refine XS.iloadN X10.here hx rfl (hb hby d21_10) rfl ?_
    refine XS.icmpNo X10.here hx rfl (hb hby d21_11) rfl (tlt (by decide : (1 : Int32) < (2 : Int32))).2.1 ?_
    refine XS.aloadN X10.here hx rfl (hb hby d21_14) rfl rfl ?_
    refine XS.iload X10.here hx rfl (hb hby d21_15) rfl ?_
    refine XS.aloadN X10.here hx rfl (hb hby d21_17) rfl rfl ?_
    refine XS.iloadN X10.here hx rfl (hb hby d21_18) rfl ?_
    exact kt))
  have f15 := (f7.keep K10 (ninS ne_a1_b2 nin0))
  obtain ⟨cl16, Ar16, q16, Sz16, Ng16, Hs16, Gs16⟩ := id f15
  have hin16 : ¬ ((1 : Int32) < 0 ∨ cl16.slots.size ≤ ((1 : Int32)).toNatClampNeg) := inb_of Sz16 ⟨by decide, by decide⟩
  have hat16 : cl16.slots[((1 : Int32)).toNatClampNeg]? = some (.int c1) := Hs16.at hin16 rfl
  have kn17 : ∀ t, own_S p e below T10 (mkF m 20 #[.val (.ref a1), .val (.int 1), .val (.int 2), .val (.ref b2), .val (.int 1)] [(.int c1), (.int 1), (.ref b2)]) t → Gl t := fun t kt => kn14 t (by
    show own_S p e below T10 (mkF m 19 #[.val (.ref a1), .val (.int 1), .val (.int 2), .val (.ref b2), .val (.int 1)] [(.int 1), (.ref a1), (.int 1), (.ref b2)]) _
    refine X10.caload hx (j := (1 : Int32)) (v := (.int c1)) Ar16.1 (State.isArrayOf_alike hZ.alike Ar16.2.1) Ar16.2.2 hin16 hat16 (g := (mkF m 19 #[.val (.ref a1), .val (.int 1), .val (.int 2), .val (.ref b2), .val (.int 1)] [(.int 1), (.ref a1), (.int 1), (.ref b2)])) rfl rfl (hb hby d21_19) _ ?_
    exact kt)
  obtain ⟨_, _, ⟨T18, L18, cc18, ss18⟩, -, X18, ⟨Lc18, hQ18, l18, y18, z18⟩, st18⟩ := Jvm.LawKit.callS X10 hx (y := mN19) hown (mvT hZ (own_w hw 103 rfl)) (mvT hZ (own_w hw 104 rfl)) (mvT hZ (own_w hw 54 rfl)) (mvT hZ (own_w hw 105 rfl)) (by decide) (backOf (W := 0) (rm24_2_1 l Z a0 hw [] b2 c1 kb2 (.int (StrChars.lo8 c0)) (.int (StrChars.hi8 c0)) (.int (0 : Int32)) (.int (0 : Int32)) T10.heap n0 Z11 V10 gb2 Od12 U1 U2 U3) hZ (own_w hw 105 rfl) (own_w hw 54 rfl) (by decide) (by decide)) (g := (mkF m 20 #[.val (.ref a1), .val (.int 1), .val (.int 2), .val (.ref b2), .val (.int 1)] [(.int c1), (.int 1), (.ref b2)])) rfl (by rw [hml]; rfl) (argsL := [(.ref b2), (.int 1), (.int c1)]) (rest := []) (lenOf pd_12 rfl) rfl (by show 2 * 0 + _ ≤ _; exact Nat.le_of_eq rfl) (hb hby d21_20) (fun _ _ => ⟨rfl, rfl, (by decide : 1 + 0 ≤ _), (by decide : 4 + 0 ≤ _)⟩)
  dsimp only [Pt.U, Pt.locs, Pt.cells, Pt.slots] at X18 l18 y18 z18 st18 hQ18
  subst l18 y18 z18
  have X18 : Stand p l e _ _ m _ below meth c T18 _ 1 4 := X18
  obtain ⟨rfl, Nq18, K18, V18⟩ := hQ18
  have Nf18 := Fr.app Nf10 Nq18
  have Z19 := Nat.le_trans Z11 K18.1
  have Od20 := Od12.keep K18 (allS gb2 all0)
  have K21 := K13.trans K18 (allS (Or.inr szz2) all0)
  have kn22 : ∀ t, own_S p e below T18 (mkF m 33 #[.val (.ref a1), .val (.int 2), .val (.int 2), .val (.ref b2), .val (.int 2)] [(.ref b2)]) t → Gl t := fun t kt => kn17 t (st18 _ (by
    show own_S p e below T18 (mkF m 23 #[.val (.ref a1), .val (.int 1), .val (.int 2), .val (.ref b2), .val (.int 1)] []) _
    refine XS.iinc X18.here hx rfl (hb hby d21_23) rfl (l' := #[.val (.ref a1), .val (.int ((1 : Int32) + (1 : Int32))), .val (.int 2), .val (.ref b2), .val (.int 1)]) rfl ?_
    rw [(by decide : ((1 : Int32) + (1 : Int32)) = (2 : Int32))]
    show own_S p e below T18 (mkF m 26 #[.val (.ref a1), .val (.int 2), .val (.int 2), .val (.ref b2), .val (.int 1)] []) _
    refine XS.iinc X18.here hx rfl (hb hby d21_26) rfl (l' := #[.val (.ref a1), .val (.int 2), .val (.int 2), .val (.ref b2), .val (.int ((1 : Int32) + (1 : Int32)))]) rfl ?_
    rw [(by decide : ((1 : Int32) + (1 : Int32)) = (2 : Int32))]
    refine XS.goto X18.here hx rfl (pc0 := 29) (pc' := 8) rfl (hb hby d21_29) (by decide) (by decide) ?_
    refine XS.iload X18.here hx rfl (hb hby d21_8) rfl ?_
    refine XS.iloadN X18.here hx rfl (hb hby d21_10) rfl ?_
    refine XS.icmpYes X18.here hx rfl (pc0 := 11) (pc' := 32) rfl (hb hby d21_11) rfl (flt (by decide : ¬ ((2 : Int32) < (2 : Int32)))).2.1 (by decide) (by decide) ?_
    refine XS.aloadN X18.here hx rfl (hb hby d21_32) rfl rfl ?_
    exact kt))
  obtain ⟨fs, hr, hrun, hended, hW, hsame⟩ := X18.leave (v := some (.ref b2)) (fun h => by rw [Bd.returns] at h; cases h)
  refine ⟨_, _, hGl _ (kn22 _ (by
      show own_S p e below T18 (mkF m 33 #[.val (.ref a1), .val (.int 2), .val (.int 2), .val (.ref b2), .val (.int 2)] [(.ref b2)]) _
      jvm_step X18.here [X18.here.top, hx, (hb hby d21_33), X18.method', Bd.returns, Value.isRef, FieldType.isReference]
      first | (intro acts; rw [hr _ acts rfl rfl rfl]) | rw [hr _ _ rfl rfl rfl]
      exact Steps.refl _)), hrun, hended, _, _, rfl, ?_, ⟨_, rfl⟩, hW, hsame.mono (by decide) (by decide)⟩
  show Q21_2 Z a1 ka c0 c1 h0 n0 _ T18.heap _
  exact ⟨b2, _, rfl, Nf18, gb2, szz2, K21, V18⟩

theorem ef_rm11_2 (m : MethodId) (x0 : Addr) : entryFrame m #[(.ref x0), (.int (0 : Int32)), (.int (2 : Int32))] 6 = mkF m 0 #[.val (.ref x0), .val (.int (0 : Int32)), .val (.int (2 : Int32)), .unset, .unset, .unset] [] := by first | (simp [entryFrame, mkF, argsToLocals, Value.category]; done) | rfl
def Q11_2 (Z : State) (a1 : Addr) (ka : ClassId) (c0 : Int32) (c1 : Int32) (h0 : Heap) (n0 : Nat) (v : Option Value) (h : Heap) (L : List Loc) : Prop := ∃ (b : Addr) (kb : ClassId), v = some (.ref b) ∧ Fr n0 L ∧ n0 ≤ b ∧ h0.size ≤ b ∧ Keep h0 h [] ∧ Arv Z h b kb .byte (4 : Int32) [(.int (StrChars.lo8 c0)), (.int (StrChars.hi8 c0)), (.int (StrChars.lo8 c1)), (.int (StrChars.hi8 c1))] (.int (0 : Int32))
theorem rm11_2 (l : Launch) (Z : State) (a0 : Array Value) (hw : ∀ d ∈ tables_1, d.before a0 Z = true) (ws : List Jvm.Cond) (a1 : Addr) (ka : ClassId) (c0 : Int32) (c1 : Int32) (h0 : Heap) (n0 : Nat) (Z0 : n0 ≤ h0.size) (A1 : Arv Z h0 a1 ka .char (2 : Int32) [(.int c0), (.int c1)] (.int (0 : Int32))) (rg0 : own_rg c0) (rg1 : own_rg c1) (hwide : (255 : Int32) < c0 ∨ (¬ (255 : Int32) < c0 ∧ (255 : Int32) < c1)) (O0 : Old Z n0 h0) (U1 : Sta Z Z.heap "java/lang/StringUTF16" "$assertionsDisabled" "Z" (.int (1 : Int32))) (U2 : Sta Z Z.heap "java/lang/StringUTF16" "HI_BYTE_SHIFT" "I" (.int (0 : Int32))) (U3 : Sta Z Z.heap "java/lang/StringUTF16" "LO_BYTE_SHIFT" "I" (.int (8 : Int32))) :
    MetFree l mN21 (head1 (Jvm.Cond.code mN21 jdk_52_method_16_code 6 (some (.array .byte)) :: ws) (own_r 3 2 6 40)) (fun a U => a = #[(.ref a1), (.int (0 : Int32)), (.int (2 : Int32))] ∧ Z.Warmed39 U.vm ∧ U.heap = h0) (fun _ _ _ _ _ => True) (fun _ U o U' => ∃ v L, o = .returned v ∧ Q11_2 Z a1 ka c0 c1 h0 n0 v U'.heap L ∧ FrameEnd U o U' L (own_r 3 2 6 40).cells (own_r 3 2 6 40).slots) := by
  refine MetFree.of_bodySF (plainFor_of_name pn_4) hisR ?_
  intro p e s m args below meth c s₁ Bd hml0 hP hK
  obtain ⟨rfl, hZ, hh⟩ := hP
  have hx := Bd.exec
  have hby := Bd.bytes
  have hml : c.maxLocals = 6 := hml0
  have hown : s.vm.findClass "java/lang/StringUTF16" = some m.cls := findClass_of_methodNamed Bd.named
  have hnm := (name_of_methodNamed Bd.named Bd.method).1
  have X0 : Stand p l e (own_r 3 2 6 40) s m #[(.ref a1), (.int (0 : Int32)), (.int (2 : Int32))] below meth c s₁ [] 0 0 := Stand.of_body Bd
  have e0 : s₁.heap = h0 := by rw [← hh, Bd.state]; rfl
  have Nf0 := Fr.nil n0
  obtain ⟨Gl, hGl, kn0⟩ := own_gl (p := p) (e := e) (below := below) (s₁ := s₁) (ef_rm11_2 m a1)
  rcases hwide with w0 | w1
  · have kn1 : ∀ t, own_S p e below s₁ (mkF m 1 #[.val (.ref a1), .val (.int 0), .val (.int 2), .unset, .unset, .unset] [(.int 2)]) t → Gl t := fun t kt => kn0 t (by
      show own_S p e below s₁ (mkF m 0 #[.val (.ref a1), .val (.int 0), .val (.int 2), .unset, .unset, .unset] []) _
      refine XS.iloadN X0.here hx rfl (hb hby d11_0) rfl ?_
      exact kt)
    obtain ⟨T2, h2, kk2, X2, e2, E2, A2, st2⟩ := newP X0 hx hZ (own_w hw 20 rfl) e0 (g := (mkF m 1 #[.val (.ref a1), .val (.int 0), .val (.int 2), .unset, .unset, .unset] [(.int 2)])) rfl (hb hby d11_1) rfl (by decide) (cap := 2) (by decide) (by decide) (by decide) (by decide)
    obtain ⟨b2, g2⟩ : ∃ z, z = h0.size := ⟨_, rfl⟩
    rw [← g2] at A2 st2
    have sz_b2 : h0.size ≤ b2 := Nat.le_trans (Keep.refl h0 []).1 (Nat.le_of_eq g2.symm)
    have g_b2 : n0 ≤ b2 := Nat.le_trans Z0 (Nat.le_of_eq g2.symm)
    have ne_a1_b2 : a1 ≠ b2 := Nat.ne_of_lt (Nat.lt_of_lt_of_le A1.lt (Nat.le_of_eq g2.symm))
    have Z3 := Nat.le_trans Z0 E2.1
    have Od4 := O0.ext E2
    have K5 := (Keep.refl h0 []).ext E2
    have V2 : Arv Z h2 b2 kk2 .byte (2 : Int32) [(.int (0 : Int32)), (.int (0 : Int32))] (.int (0 : Int32)) := (Arv.new A2 (by decide)).pad (pad_rep [] (.int (0 : Int32)) 2)
    have kn6 : ∀ t, own_S p e below T2 (mkF m 9 #[.val (.ref a1), .val (.int 0), .val (.int 2), .val (.ref b2), .unset, .unset] [(.int 2), (.int 0), (.ref b2), (.int 0), (.ref a1)]) t → Gl t := fun t kt => kn1 t (st2 _ (by
      show own_S p e below T2 (mkF m 3 #[.val (.ref a1), .val (.int 0), .val (.int 2), .unset, .unset, .unset] [(.ref b2)]) _
      refine XS.astoreN X2.here hx rfl (hb hby d11_3) rfl rfl (l' := #[.val (.ref a1), .val (.int 0), .val (.int 2), .val (.ref b2), .unset, .unset]) rfl ?_
      refine XS.aloadN X2.here hx rfl (hb hby d11_4) rfl rfl ?_
      refine XS.iloadN X2.here hx rfl (hb hby d11_5) rfl ?_
      refine XS.aloadN X2.here hx rfl (hb hby d11_6) rfl rfl ?_
      refine XS.iconst X2.here hx rfl (hb hby d11_7) ?_
      refine XS.iloadN X2.here hx rfl (hb hby d11_8) rfl ?_
      exact kt))
    have f8 := (A1.ext E2)
    obtain ⟨_, _, ⟨T7, L7, cc7, ss7⟩, -, X7, ⟨Lc7, hQ7, l7, y7, z7⟩, st7⟩ := Jvm.LawKit.callS X2 hx (y := mN16) hown (mvT hZ (own_w hw 56 rfl)) (mvT hZ (own_w hw 57 rfl)) (mvT hZ (own_w hw 54 rfl)) (mvT hZ (own_w hw 58 rfl)) (by decide) (backOf (W := 0) (rm12_2_0 l Z a0 hw [] a1 b2 ka kk2 c0 c1 h2 n0 Z3 f8 V2 ne_a1_b2 g_b2 w0) hZ (own_w hw 58 rfl) (own_w hw 54 rfl) (by decide) (by decide)) (g := (mkF m 9 #[.val (.ref a1), .val (.int 0), .val (.int 2), .val (.ref b2), .unset, .unset] [(.int 2), (.int 0), (.ref b2), (.int 0), (.ref a1)])) rfl (by rw [hml]; rfl) (argsL := [(.ref a1), (.int 0), (.ref b2), (.int 0), (.int 2)]) (rest := []) (lenOf pd_13 rfl) rfl (by show 2 * 0 + _ ≤ _; exact Nat.le_of_eq rfl) (hb hby d11_9) (fun _ _ => ⟨rfl, e2, (by decide : 1 + 0 ≤ _), (by decide : 2 + 0 ≤ _)⟩)
    dsimp only [Pt.U, Pt.locs, Pt.cells, Pt.slots] at X7 l7 y7 z7 st7 hQ7
    subst l7 y7 z7
    have X7 : Stand p l e _ _ m _ below meth c T7 _ 1 2 := X7
    obtain ⟨rfl, Nq7, K7⟩ := hQ7
    have Nf7 := Fr.app Nf0 Nq7
    have Z9 := Nat.le_trans Z3 K7.1
    have Od10 := Od4.keep K7 (allS g_b2 all0)
    have K11 := K5.trans K7 (allS (Or.inr sz_b2) all0)
    have kn12 : ∀ t, own_S p e below T7 (mkF m 23 #[.val (.ref a1), .val (.int 0), .val (.int 2), .val (.ref b2), .val (.int 0), .unset] [(.int 2), (.int 0), (.ref a1)]) t → Gl t := fun t kt => kn6 t (st7 _ (by
      show own_S p e below T7 (mkF m 12 #[.val (.ref a1), .val (.int 0), .val (.int 2), .val (.ref b2), .unset, .unset] [(.int 0)]) _
      refine XS.istore X7.here hx rfl (hb hby d11_12) rfl (l' := #[.val (.ref a1), .val (.int 0), .val (.int 2), .val (.ref b2), .val (.int 0), .unset]) rfl ?_
      refine XS.iload X7.here hx rfl (hb hby d11_14) rfl ?_
      refine XS.iloadN X7.here hx rfl (hb hby d11_16) rfl ?_
      refine XS.icmpNo X7.here hx rfl (hb hby d11_17) rfl (feq (by decide : ¬ ((0 : Int32) = (2 : Int32)))).1 ?_
      refine XS.aloadN X7.here hx rfl (hb hby d11_20) rfl rfl ?_
      refine XS.iloadN X7.here hx rfl (hb hby d11_21) rfl ?_
      refine XS.iloadN X7.here hx rfl (hb hby d11_22) rfl ?_
      exact kt))
    have f14 := (f8.keep K7 (ninS ne_a1_b2 nin0))
    obtain ⟨_, _, ⟨T13, L13, cc13, ss13⟩, -, X13, ⟨Lc13, hQ13, l13, y13, z13⟩, st13⟩ := Jvm.LawKit.callS X7 hx (y := mN20) hown (mvT hZ (own_w hw 93 rfl)) (mvT hZ (own_w hw 94 rfl)) (mvT hZ (own_w hw 54 rfl)) (mvT hZ (own_w hw 95 rfl)) (by decide) (backOf (W := 0) (rm21_2 l Z a0 hw [] a1 ka c0 c1 T7.heap n0 Z9 f14 Od10 U1 U2 U3) hZ (own_w hw 95 rfl) (own_w hw 54 rfl) (by decide) (by decide)) (g := (mkF m 23 #[.val (.ref a1), .val (.int 0), .val (.int 2), .val (.ref b2), .val (.int 0), .unset] [(.int 2), (.int 0), (.ref a1)])) rfl (by rw [hml]; rfl) (argsL := [(.ref a1), (.int 0), (.int 2)]) (rest := []) (lenOf pd_14 rfl) rfl (by show 2 * 0 + _ ≤ _; exact Nat.le_of_eq rfl) (hb hby d11_23) (fun _ _ => ⟨rfl, rfl, (by decide : 1 + 1 ≤ _), (by decide : 2 + 4 ≤ _)⟩)
    dsimp only [Pt.U, Pt.locs, Pt.cells, Pt.slots] at X13 l13 y13 z13 st13 hQ13
    subst l13 y13 z13
    have X13 : Stand p l e _ _ m _ below meth c T13 _ 2 6 := X13
    obtain ⟨b13, kb13, rfl, Nq13, gb13, sb13, K13, V13⟩ := hQ13
    have Nf13 := Fr.app Nf7 Nq13
    have ne_a1_b13 : a1 ≠ b13 := Nat.ne_of_lt (Nat.lt_of_lt_of_le f14.lt sb13)
    have szz13 : h0.size ≤ b13 := Nat.le_trans K11.1 sb13
    have Z15 := Nat.le_trans Z9 K13.1
    have Od16 := Od10.keep K13 all0
    have K17 := K11.trans K13 (all0)
    have kn18 : ∀ t, own_S p e below T13 (mkF m 32 #[.val (.ref a1), .val (.int 0), .val (.int 2), .val (.ref b2), .val (.int 0), .val (.ref b13)] [(.int 0), (.ref b13)]) t → Gl t := fun t kt => kn12 t (st13 _ (by
      show own_S p e below T13 (mkF m 26 #[.val (.ref a1), .val (.int 0), .val (.int 2), .val (.ref b2), .val (.int 0), .unset] [(.ref b13)]) _
      refine XS.astore X13.here hx rfl (hb hby d11_26) rfl rfl (l' := #[.val (.ref a1), .val (.int 0), .val (.int 2), .val (.ref b2), .val (.int 0), .val (.ref b13)]) rfl ?_
      refine XS.aload X13.here hx rfl (hb hby d11_28) rfl rfl ?_
      refine XS.iload X13.here hx rfl (hb hby d11_30) rfl ?_
      exact kt))
    obtain ⟨_, _, ⟨T19, L19, cc19, ss19⟩, -, X19, ⟨Lc19, hQ19, l19, y19, z19⟩, st19⟩ := Jvm.LawKit.callS X13 hx (y := mN9) hown (mvT hZ (own_w hw 109 rfl)) (mvT hZ (own_w hw 110 rfl)) (mvT hZ (own_w hw 54 rfl)) (mvT hZ (own_w hw 111 rfl)) (by decide) (backOf (W := 0) (rm25_0 l Z a0 hw [] b13 kb13 (4 : Int32) [(.int (StrChars.lo8 c0)), (.int (StrChars.hi8 c0)), (.int (StrChars.lo8 c1)), (.int (StrChars.hi8 c1))] (StrChars.lo8 c0) (StrChars.hi8 c0) T13.heap n0 Z15 V13 (by decide) (by decide) rfl rfl Od16 U1 U2 U3) hZ (own_w hw 111 rfl) (own_w hw 54 rfl) (by decide) (by decide)) (g := (mkF m 32 #[.val (.ref a1), .val (.int 0), .val (.int 2), .val (.ref b2), .val (.int 0), .val (.ref b13)] [(.int 0), (.ref b13)])) rfl (by rw [hml]; rfl) (argsL := [(.ref b13), (.int 0)]) (rest := []) (lenOf pd_6 rfl) rfl (by show 2 * 0 + _ ≤ _; exact Nat.le_of_eq rfl) (hb hby d11_32) (fun _ _ => ⟨rfl, rfl, (by decide : 2 + 0 ≤ _), (by decide : 6 + 0 ≤ _)⟩)
    dsimp only [Pt.U, Pt.locs, Pt.cells, Pt.slots] at X19 l19 y19 z19 st19 hQ19
    subst l19 y19 z19
    have X19 : Stand p l e _ _ m _ below meth c T19 _ 2 6 := X19
    obtain ⟨rfl, Nq19, eq19⟩ := hQ19
    have Nf19 := Fr.app Nf13 Nq19
    have kn20 : ∀ t, own_S p e below T19 (mkF m 38 #[.val (.ref a1), .val (.int 0), .val (.int 2), .val (.ref b2), .val (.int 0), .val (.ref b13)] [(.int 255), (.int (nar .char (StrChars.pairCh (StrChars.lo8 c0) (StrChars.hi8 c0))))]) t → Gl t := fun t kt => kn18 t (st19 _ (by
      show own_S p e below T19 (mkF m 35 #[.val (.ref a1), .val (.int 0), .val (.int 2), .val (.ref b2), .val (.int 0), .val (.ref b13)] [(.int (nar .char (StrChars.pairCh (StrChars.lo8 c0) (StrChars.hi8 c0))))]) _
      refine XS.sipush X19.here hx rfl (hb hby d11_35) ?_
      exact kt))
    have hc38_21 : (255 : Int32) < (nar .char (StrChars.pairCh (StrChars.lo8 c0) (StrChars.hi8 c0))) := by rw [own_pr rg0]; exact w0
    have kn22 : ∀ t, own_S p e below T19 (mkF m 56 #[.val (.ref a1), .val (.int 0), .val (.int 2), .val (.ref b2), .val (.int 0), .val (.ref b13)] [(.ref b13)]) t → Gl t := fun t kt => kn20 t (by
      show own_S p e below T19 (mkF m 38 #[.val (.ref a1), .val (.int 0), .val (.int 2), .val (.ref b2), .val (.int 0), .val (.ref b13)] [(.int 255), (.int (nar .char (StrChars.pairCh (StrChars.lo8 c0) (StrChars.hi8 c0))))]) _
      refine XS.icmpYes X19.here hx rfl (pc0 := 38) (pc' := 54) rfl (hb hby d11_38) rfl (tlt hc38_21).2.2.1 (by decide) (by decide) ?_
      refine XS.aload X19.here hx rfl (hb hby d11_54) rfl rfl ?_
      exact kt)
    obtain ⟨fs, hr, hrun, hended, hW, hsame⟩ := X19.leave (v := some (.ref b13)) (fun h => by rw [Bd.returns] at h; cases h)
    refine ⟨_, _, hGl _ (kn22 _ (by
        show own_S p e below T19 (mkF m 56 #[.val (.ref a1), .val (.int 0), .val (.int 2), .val (.ref b2), .val (.int 0), .val (.ref b13)] [(.ref b13)]) _
        jvm_step X19.here [X19.here.top, hx, (hb hby d11_56), X19.method', Bd.returns, Value.isRef, FieldType.isReference]
        first | (intro acts; rw [hr _ acts rfl rfl rfl]) | rw [hr _ _ rfl rfl rfl]
        exact Steps.refl _)), hrun, hended, _, _, rfl, ?_, ⟨_, rfl⟩, hW, hsame.mono (by decide) (by decide)⟩
    show Q11_2 Z a1 ka c0 c1 h0 n0 _ T19.heap _
    rw [eq19]
    exact ⟨b13, _, rfl, Nf19, gb13, szz13, K17, V13⟩
  · have kn23 : ∀ t, own_S p e below s₁ (mkF m 1 #[.val (.ref a1), .val (.int 0), .val (.int 2), .unset, .unset, .unset] [(.int 2)]) t → Gl t := fun t kt => kn0 t (by
      show own_S p e below s₁ (mkF m 0 #[.val (.ref a1), .val (.int 0), .val (.int 2), .unset, .unset, .unset] []) _
      refine XS.iloadN X0.here hx rfl (hb hby d11_0) rfl ?_
      exact kt)
    obtain ⟨T24, h24, kk24, X24, e24, E24, A24, st24⟩ := newP X0 hx hZ (own_w hw 20 rfl) e0 (g := (mkF m 1 #[.val (.ref a1), .val (.int 0), .val (.int 2), .unset, .unset, .unset] [(.int 2)])) rfl (hb hby d11_1) rfl (by decide) (cap := 2) (by decide) (by decide) (by decide) (by decide)
    obtain ⟨b24, g24⟩ : ∃ z, z = h0.size := ⟨_, rfl⟩
    rw [← g24] at A24 st24
    have sz_b24 : h0.size ≤ b24 := Nat.le_trans (Keep.refl h0 []).1 (Nat.le_of_eq g24.symm)
    have g_b24 : n0 ≤ b24 := Nat.le_trans Z0 (Nat.le_of_eq g24.symm)
    have ne_a1_b24 : a1 ≠ b24 := Nat.ne_of_lt (Nat.lt_of_lt_of_le A1.lt (Nat.le_of_eq g24.symm))
    have Z25 := Nat.le_trans Z0 E24.1
    have Od26 := O0.ext E24
    have K27 := (Keep.refl h0 []).ext E24
    have V24 : Arv Z h24 b24 kk24 .byte (2 : Int32) [(.int (0 : Int32)), (.int (0 : Int32))] (.int (0 : Int32)) := (Arv.new A24 (by decide)).pad (pad_rep [] (.int (0 : Int32)) 2)
    have kn28 : ∀ t, own_S p e below T24 (mkF m 9 #[.val (.ref a1), .val (.int 0), .val (.int 2), .val (.ref b24), .unset, .unset] [(.int 2), (.int 0), (.ref b24), (.int 0), (.ref a1)]) t → Gl t := fun t kt => kn23 t (st24 _ (by
      show own_S p e below T24 (mkF m 3 #[.val (.ref a1), .val (.int 0), .val (.int 2), .unset, .unset, .unset] [(.ref b24)]) _
      refine XS.astoreN X24.here hx rfl (hb hby d11_3) rfl rfl (l' := #[.val (.ref a1), .val (.int 0), .val (.int 2), .val (.ref b24), .unset, .unset]) rfl ?_
      refine XS.aloadN X24.here hx rfl (hb hby d11_4) rfl rfl ?_
      refine XS.iloadN X24.here hx rfl (hb hby d11_5) rfl ?_
      refine XS.aloadN X24.here hx rfl (hb hby d11_6) rfl rfl ?_
      refine XS.iconst X24.here hx rfl (hb hby d11_7) ?_
      refine XS.iloadN X24.here hx rfl (hb hby d11_8) rfl ?_
      exact kt))
    have f30 := (A1.ext E24)
    obtain ⟨_, _, ⟨T29, L29, cc29, ss29⟩, -, X29, ⟨Lc29, hQ29, l29, y29, z29⟩, st29⟩ := Jvm.LawKit.callS X24 hx (y := mN16) hown (mvT hZ (own_w hw 56 rfl)) (mvT hZ (own_w hw 57 rfl)) (mvT hZ (own_w hw 54 rfl)) (mvT hZ (own_w hw 58 rfl)) (by decide) (backOf (W := 0) (rm12_2_1 l Z a0 hw [] a1 b24 ka kk24 c0 c1 h24 n0 Z25 f30 V24 ne_a1_b24 g_b24 w1.1 w1.2) hZ (own_w hw 58 rfl) (own_w hw 54 rfl) (by decide) (by decide)) (g := (mkF m 9 #[.val (.ref a1), .val (.int 0), .val (.int 2), .val (.ref b24), .unset, .unset] [(.int 2), (.int 0), (.ref b24), (.int 0), (.ref a1)])) rfl (by rw [hml]; rfl) (argsL := [(.ref a1), (.int 0), (.ref b24), (.int 0), (.int 2)]) (rest := []) (lenOf pd_13 rfl) rfl (by show 2 * 0 + _ ≤ _; exact Nat.le_of_eq rfl) (hb hby d11_9) (fun _ _ => ⟨rfl, e24, (by decide : 1 + 0 ≤ _), (by decide : 2 + 0 ≤ _)⟩)
    dsimp only [Pt.U, Pt.locs, Pt.cells, Pt.slots] at X29 l29 y29 z29 st29 hQ29
    subst l29 y29 z29
    have X29 : Stand p l e _ _ m _ below meth c T29 _ 1 2 := X29
    obtain ⟨rfl, Nq29, K29⟩ := hQ29
    have Nf29 := Fr.app Nf0 Nq29
    have Z31 := Nat.le_trans Z25 K29.1
    have Od32 := Od26.keep K29 (allS g_b24 all0)
    have K33 := K27.trans K29 (allS (Or.inr sz_b24) all0)
    have kn34 : ∀ t, own_S p e below T29 (mkF m 23 #[.val (.ref a1), .val (.int 0), .val (.int 2), .val (.ref b24), .val (.int 1), .unset] [(.int 2), (.int 0), (.ref a1)]) t → Gl t := fun t kt => kn28 t (st29 _ (by
      show own_S p e below T29 (mkF m 12 #[.val (.ref a1), .val (.int 0), .val (.int 2), .val (.ref b24), .unset, .unset] [(.int 1)]) _
      refine XS.istore X29.here hx rfl (hb hby d11_12) rfl (l' := #[.val (.ref a1), .val (.int 0), .val (.int 2), .val (.ref b24), .val (.int 1), .unset]) rfl ?_
      refine XS.iload X29.here hx rfl (hb hby d11_14) rfl ?_
      refine XS.iloadN X29.here hx rfl (hb hby d11_16) rfl ?_
      refine XS.icmpNo X29.here hx rfl (hb hby d11_17) rfl (feq (by decide : ¬ ((1 : Int32) = (2 : Int32)))).1 ?_
      refine XS.aloadN X29.here hx rfl (hb hby d11_20) rfl rfl ?_
      refine XS.iloadN X29.here hx rfl (hb hby d11_21) rfl ?_
      refine XS.iloadN X29.here hx rfl (hb hby d11_22) rfl ?_
      exact kt))
    have f36 := (f30.keep K29 (ninS ne_a1_b24 nin0))
    obtain ⟨_, _, ⟨T35, L35, cc35, ss35⟩, -, X35, ⟨Lc35, hQ35, l35, y35, z35⟩, st35⟩ := Jvm.LawKit.callS X29 hx (y := mN20) hown (mvT hZ (own_w hw 93 rfl)) (mvT hZ (own_w hw 94 rfl)) (mvT hZ (own_w hw 54 rfl)) (mvT hZ (own_w hw 95 rfl)) (by decide) (backOf (W := 0) (rm21_2 l Z a0 hw [] a1 ka c0 c1 T29.heap n0 Z31 f36 Od32 U1 U2 U3) hZ (own_w hw 95 rfl) (own_w hw 54 rfl) (by decide) (by decide)) (g := (mkF m 23 #[.val (.ref a1), .val (.int 0), .val (.int 2), .val (.ref b24), .val (.int 1), .unset] [(.int 2), (.int 0), (.ref a1)])) rfl (by rw [hml]; rfl) (argsL := [(.ref a1), (.int 0), (.int 2)]) (rest := []) (lenOf pd_14 rfl) rfl (by show 2 * 0 + _ ≤ _; exact Nat.le_of_eq rfl) (hb hby d11_23) (fun _ _ => ⟨rfl, rfl, (by decide : 1 + 1 ≤ _), (by decide : 2 + 4 ≤ _)⟩)
    dsimp only [Pt.U, Pt.locs, Pt.cells, Pt.slots] at X35 l35 y35 z35 st35 hQ35
    subst l35 y35 z35
    have X35 : Stand p l e _ _ m _ below meth c T35 _ 2 6 := X35
    obtain ⟨b35, kb35, rfl, Nq35, gb35, sb35, K35, V35⟩ := hQ35
    have Nf35 := Fr.app Nf29 Nq35
    have ne_a1_b35 : a1 ≠ b35 := Nat.ne_of_lt (Nat.lt_of_lt_of_le f36.lt sb35)
    have szz35 : h0.size ≤ b35 := Nat.le_trans K33.1 sb35
    have Z37 := Nat.le_trans Z31 K35.1
    have Od38 := Od32.keep K35 all0
    have K39 := K33.trans K35 (all0)
    have kn40 : ∀ t, own_S p e below T35 (mkF m 32 #[.val (.ref a1), .val (.int 0), .val (.int 2), .val (.ref b24), .val (.int 1), .val (.ref b35)] [(.int 1), (.ref b35)]) t → Gl t := fun t kt => kn34 t (st35 _ (by
      show own_S p e below T35 (mkF m 26 #[.val (.ref a1), .val (.int 0), .val (.int 2), .val (.ref b24), .val (.int 1), .unset] [(.ref b35)]) _
      refine XS.astore X35.here hx rfl (hb hby d11_26) rfl rfl (l' := #[.val (.ref a1), .val (.int 0), .val (.int 2), .val (.ref b24), .val (.int 1), .val (.ref b35)]) rfl ?_
      refine XS.aload X35.here hx rfl (hb hby d11_28) rfl rfl ?_
      refine XS.iload X35.here hx rfl (hb hby d11_30) rfl ?_
      exact kt))
    obtain ⟨_, _, ⟨T41, L41, cc41, ss41⟩, -, X41, ⟨Lc41, hQ41, l41, y41, z41⟩, st41⟩ := Jvm.LawKit.callS X35 hx (y := mN9) hown (mvT hZ (own_w hw 109 rfl)) (mvT hZ (own_w hw 110 rfl)) (mvT hZ (own_w hw 54 rfl)) (mvT hZ (own_w hw 111 rfl)) (by decide) (backOf (W := 0) (rm25_1 l Z a0 hw [] b35 kb35 (4 : Int32) [(.int (StrChars.lo8 c0)), (.int (StrChars.hi8 c0)), (.int (StrChars.lo8 c1)), (.int (StrChars.hi8 c1))] (StrChars.lo8 c1) (StrChars.hi8 c1) T35.heap n0 Z37 V35 (by decide) (by decide) rfl rfl Od38 U1 U2 U3) hZ (own_w hw 111 rfl) (own_w hw 54 rfl) (by decide) (by decide)) (g := (mkF m 32 #[.val (.ref a1), .val (.int 0), .val (.int 2), .val (.ref b24), .val (.int 1), .val (.ref b35)] [(.int 1), (.ref b35)])) rfl (by rw [hml]; rfl) (argsL := [(.ref b35), (.int 1)]) (rest := []) (lenOf pd_6 rfl) rfl (by show 2 * 0 + _ ≤ _; exact Nat.le_of_eq rfl) (hb hby d11_32) (fun _ _ => ⟨rfl, rfl, (by decide : 2 + 0 ≤ _), (by decide : 6 + 0 ≤ _)⟩)
    dsimp only [Pt.U, Pt.locs, Pt.cells, Pt.slots] at X41 l41 y41 z41 st41 hQ41
    subst l41 y41 z41
    have X41 : Stand p l e _ _ m _ below meth c T41 _ 2 6 := X41
    obtain ⟨rfl, Nq41, eq41⟩ := hQ41
    have Nf41 := Fr.app Nf35 Nq41
    have kn42 : ∀ t, own_S p e below T41 (mkF m 38 #[.val (.ref a1), .val (.int 0), .val (.int 2), .val (.ref b24), .val (.int 1), .val (.ref b35)] [(.int 255), (.int (nar .char (StrChars.pairCh (StrChars.lo8 c1) (StrChars.hi8 c1))))]) t → Gl t := fun t kt => kn40 t (st41 _ (by
      show own_S p e below T41 (mkF m 35 #[.val (.ref a1), .val (.int 0), .val (.int 2), .val (.ref b24), .val (.int 1), .val (.ref b35)] [(.int (nar .char (StrChars.pairCh (StrChars.lo8 c1) (StrChars.hi8 c1))))]) _
      refine XS.sipush X41.here hx rfl (hb hby d11_35) ?_
      exact kt))
    have hc38_43 : (255 : Int32) < (nar .char (StrChars.pairCh (StrChars.lo8 c1) (StrChars.hi8 c1))) := by rw [own_pr rg1]; exact w1.2
    have kn44 : ∀ t, own_S p e below T41 (mkF m 56 #[.val (.ref a1), .val (.int 0), .val (.int 2), .val (.ref b24), .val (.int 1), .val (.ref b35)] [(.ref b35)]) t → Gl t := fun t kt => kn42 t (by
      show own_S p e below T41 (mkF m 38 #[.val (.ref a1), .val (.int 0), .val (.int 2), .val (.ref b24), .val (.int 1), .val (.ref b35)] [(.int 255), (.int (nar .char (StrChars.pairCh (StrChars.lo8 c1) (StrChars.hi8 c1))))]) _
      refine XS.icmpYes X41.here hx rfl (pc0 := 38) (pc' := 54) rfl (hb hby d11_38) rfl (tlt hc38_43).2.2.1 (by decide) (by decide) ?_
      refine XS.aload X41.here hx rfl (hb hby d11_54) rfl rfl ?_
      exact kt)
    obtain ⟨fs, hr, hrun, hended, hW, hsame⟩ := X41.leave (v := some (.ref b35)) (fun h => by rw [Bd.returns] at h; cases h)
    refine ⟨_, _, hGl _ (kn44 _ (by
        show own_S p e below T41 (mkF m 56 #[.val (.ref a1), .val (.int 0), .val (.int 2), .val (.ref b24), .val (.int 1), .val (.ref b35)] [(.ref b35)]) _
        jvm_step X41.here [X41.here.top, hx, (hb hby d11_56), X41.method', Bd.returns, Value.isRef, FieldType.isReference]
        first | (intro acts; rw [hr _ acts rfl rfl rfl]) | rw [hr _ _ rfl rfl rfl]
        exact Steps.refl _)), hrun, hended, _, _, rfl, ?_, ⟨_, rfl⟩, hW, hsame.mono (by decide) (by decide)⟩
    show Q11_2 Z a1 ka c0 c1 h0 n0 _ T41.heap _
    rw [eq41]
    exact ⟨b35, _, rfl, Nf41, gb35, szz35, K39, V35⟩

theorem ef_rm13_2 (m : MethodId) (x0 : Addr) : entryFrame m #[(.ref x0), (.int (2 : Int32))] 2 = mkF m 0 #[.val (.ref x0), .val (.int (2 : Int32))] [] := by first | (simp [entryFrame, mkF, argsToLocals, Value.category]; done) | rfl
def Q13_2 (Z : State) (b1 : Addr) (kb : ClassId) (vs : List Value) (h0 : Heap) (n0 : Nat) (v : Option Value) (h : Heap) (L : List Loc) : Prop := v = some (.int (1 : Int32)) ∧ Fr n0 L ∧ h = h0
theorem rm13_2 (l : Launch) (Z : State) (a0 : Array Value) (hw : ∀ d ∈ tables_1, d.before a0 Z = true) (ws : List Jvm.Cond) (b1 : Addr) (kb : ClassId) (vs : List Value) (h0 : Heap) (n0 : Nat) (Z0 : n0 ≤ h0.size) (A1 : Arv Z h0 b1 kb .byte (4 : Int32) vs (.int (0 : Int32))) :
    MetFree l mN22 (head1 (Jvm.Cond.code mN22 jdk_52_method_15_code 2 (some .byte) :: ws) (own_r 0 0 0 0)) (fun a U => a = #[(.ref b1), (.int (2 : Int32))] ∧ Z.Warmed39 U.vm ∧ U.heap = h0) (fun _ _ _ _ _ => True) (fun _ U o U' => ∃ v L, o = .returned v ∧ Q13_2 Z b1 kb vs h0 n0 v U'.heap L ∧ FrameEnd U o U' L (own_r 0 0 0 0).cells (own_r 0 0 0 0).slots) := by
  refine MetFree.of_bodySF (plainFor_of_name pn_4) hisR ?_
  intro p e s m args below meth c s₁ Bd hml0 hP hK
  obtain ⟨rfl, hZ, hh⟩ := hP
  have hx := Bd.exec
  have hby := Bd.bytes
  have hml : c.maxLocals = 2 := hml0
  have hown : s.vm.findClass "java/lang/StringUTF16" = some m.cls := findClass_of_methodNamed Bd.named
  have hnm := (name_of_methodNamed Bd.named Bd.method).1
  have X0 : Stand p l e (own_r 0 0 0 0) s m #[(.ref b1), (.int (2 : Int32))] below meth c s₁ [] 0 0 := Stand.of_body Bd
  have e0 : s₁.heap = h0 := by rw [← hh, Bd.state]; rfl
  have Nf0 := Fr.nil n0
  obtain ⟨Gl, hGl, kn0⟩ := own_gl (p := p) (e := e) (below := below) (s₁ := s₁) (ef_rm13_2 m b1)
  have kn1 : ∀ t, own_S p e below s₁ (mkF m 2 #[.val (.ref b1), .val (.int 2)] [(.ref b1), (.int 2)]) t → Gl t := fun t kt => kn0 t (by
    show own_S p e below s₁ (mkF m 0 #[.val (.ref b1), .val (.int 2)] []) _
    refine XS.iloadN X0.here hx rfl (hb hby d13_0) rfl ?_
    refine XS.aloadN X0.here hx rfl (hb hby d13_1) rfl rfl ?_
    exact kt)
  obtain ⟨cl2, Ar2, -, Sz2, Ng2, -, -⟩ := id A1
  have kn3 : ∀ t, own_S p e below s₁ (mkF m 8 #[.val (.ref b1), .val (.int 2)] [(.int 1)]) t → Gl t := fun t kt => kn1 t (by
    show own_S p e below s₁ (mkF m 2 #[.val (.ref b1), .val (.int 2)] [(.ref b1), (.int 2)]) _
    refine X0.arraylength hx (by rw [e0]; exact Ar2.1) (State.isArrayOf_alike hZ.alike Ar2.2.1) (g := (mkF m 2 #[.val (.ref b1), .val (.int 2)] [(.ref b1), (.int 2)])) rfl rfl (hb hby d13_2) _ ?_
    rw [len_of Sz2 Ng2]
    show own_S p e below s₁ (mkF m 3 #[.val (.ref b1), .val (.int 2)] [(.int 4), (.int 2)]) _
    refine XS.isub X0.here hx rfl (hb hby d13_3) rfl ?_
    rw [(by decide : ((2 : Int32) - (4 : Int32)) = (-2 : Int32))]
    refine XS.bipush X0.here hx rfl (hb hby d13_4) ?_
    show own_S p e below s₁ (mkF m 6 #[.val (.ref b1), .val (.int 2)] [(.int 31), (.int (-2))]) _
    refine XS.iushr X0.here hx rfl (hb hby d13_6) rfl ?_
    rw [(by decide : (((-2 : Int32).toUInt32 >>> ((31 : Int32) &&& 31).toUInt32).toInt32) = (1 : Int32))]
    show own_S p e below s₁ (mkF m 7 #[.val (.ref b1), .val (.int 2)] [(.int 1)]) _
    refine XS.i2b X0.here hx rfl (hb hby d13_7) rfl ?_
    rw [(by decide : ((1 : Int32).toInt8.toInt32) = (1 : Int32))]
    exact kt)
  obtain ⟨fs, hr, hrun, hended, hW, hsame⟩ := X0.leave (v := some (.int (1 : Int32))) (fun h => by rw [Bd.returns] at h; cases h)
  refine ⟨_, _, hGl _ (kn3 _ (retN X0 hx (t := .byte) Bd.returns (by simp) (hb hby d13_8) hr)), hrun, hended, _, _, rfl, ?_, ⟨_, rfl⟩, hW, hsame.mono (by decide) (by decide)⟩
  show Q13_2 Z b1 kb vs h0 n0 _ s₁.heap _
  rw [e0]
  exact ⟨rfl, Nf0, rfl⟩

theorem ef_rm3_2 (m : MethodId) (x0 : Addr) (x1 : Addr) : entryFrame m #[(.ref x0), (.ref x1), (.int (0 : Int32)), (.int (2 : Int32)), .null] 6 = mkF m 0 #[.val (.ref x0), .val (.ref x1), .val (.int (0 : Int32)), .val (.int (2 : Int32)), .val .null, .unset] [] := by first | (simp [entryFrame, mkF, argsToLocals, Value.category]; done) | rfl
def Q3_2 (Z : State) (s1 : Addr) (a1 : Addr) (ka : ClassId) (c0 : Int32) (c1 : Int32) (G1 : Int32) (h0 : Heap) (n0 : Nat) (v : Option Value) (h : Heap) (L : List Loc) : Prop := v = none ∧ Fr n0 L ∧ ∃ (t : Addr) (kb : ClassId), Keep h0 h [s1] ∧ Exa Z h s1 "java/lang/String" ∧ Fld Z h s1 "java/lang/String" "coder" "B" (.int (1 : Int32)) ∧ Fld Z h s1 "java/lang/String" "value" "[B" (.ref t) ∧ Arv Z h t kb .byte (4 : Int32) [(.int (StrChars.lo8 c0)), (.int (StrChars.hi8 c0)), (.int (StrChars.lo8 c1)), (.int (StrChars.hi8 c1))] (.int (0 : Int32))
theorem rm3_2 (l : Launch) (Z : State) (a0 : Array Value) (hw : ∀ d ∈ tables_1, d.before a0 Z = true) (ws : List Jvm.Cond) (s1 : Addr) (a1 : Addr) (ka : ClassId) (c0 : Int32) (c1 : Int32) (G1 : Int32) (h0 : Heap) (n0 : Nat) (Z0 : n0 ≤ h0.size) (F1 : Fld Z h0 s1 "java/lang/String" "value" "[B" .null) (F2 : Fld Z h0 s1 "java/lang/String" "coder" "B" (.int (0 : Int32))) (E1 : Exa Z h0 s1 "java/lang/String") (g_s1 : n0 ≤ s1) (A1 : Arv Z h0 a1 ka .char (2 : Int32) [(.int c0), (.int c1)] (.int (0 : Int32))) (nsa : @Ne Nat a1 s1) (rg0 : own_rg c0) (rg1 : own_rg c1) (hwide : (255 : Int32) < c0 ∨ (¬ (255 : Int32) < c0 ∧ (255 : Int32) < c1)) (O0 : Old Z n0 h0) (O2 : Sta Z Z.heap "java/lang/String" "COMPACT_STRINGS" "Z" (.int G1)) (P5 : ¬ (G1 = (0 : Int32))) (U1 : Sta Z Z.heap "java/lang/StringUTF16" "$assertionsDisabled" "Z" (.int (1 : Int32))) (U2 : Sta Z Z.heap "java/lang/StringUTF16" "HI_BYTE_SHIFT" "I" (.int (0 : Int32))) (U3 : Sta Z Z.heap "java/lang/StringUTF16" "LO_BYTE_SHIFT" "I" (.int (8 : Int32))) :
    MetFree l mN23 (head1 (Jvm.Cond.code mN23 jdk_42_method_149_code 6 none :: ws) (own_r 4 2 6 57)) (fun a U => a = #[(.ref s1), (.ref a1), (.int (0 : Int32)), (.int (2 : Int32)), .null] ∧ Z.Warmed39 U.vm ∧ U.heap = h0) (fun _ _ _ _ _ => True) (fun _ U o U' => ∃ v L, o = .returned v ∧ Q3_2 Z s1 a1 ka c0 c1 G1 h0 n0 v U'.heap L ∧ FrameEnd U o U' L (own_r 4 2 6 57).cells (own_r 4 2 6 57).slots) := by
  refine MetFree.of_bodySF (plainFor_of_name pn_3) hisR ?_
  intro p e s m args below meth c s₁ Bd hml0 hP hK
  obtain ⟨rfl, hZ, hh⟩ := hP
  have hx := Bd.exec
  have hby := Bd.bytes
  have hml : c.maxLocals = 6 := hml0
  have hown : s.vm.findClass "java/lang/String" = some m.cls := findClass_of_methodNamed Bd.named
  have hnm := (name_of_methodNamed Bd.named Bd.method).1
  have X0 : Stand p l e (own_r 4 2 6 57) s m #[(.ref s1), (.ref a1), (.int (0 : Int32)), (.int (2 : Int32)), .null] below meth c s₁ [] 0 0 := Stand.of_body Bd
  have e0 : s₁.heap = h0 := by rw [← hh, Bd.state]; rfl
  have Nf0 := Fr.nil n0
  obtain ⟨Gl, hGl, kn0⟩ := own_gl (p := p) (e := e) (below := below) (s₁ := s₁) (ef_rm3_2 m s1 a1)
  have kn1 : ∀ t, own_S p e below s₁ (mkF m 1 #[.val (.ref s1), .val (.ref a1), .val (.int 0), .val (.int 2), .val .null, .unset] [(.ref s1)]) t → Gl t := fun t kt => kn0 t (by
    show own_S p e below s₁ (mkF m 0 #[.val (.ref s1), .val (.ref a1), .val (.int 0), .val (.int 2), .val .null, .unset] []) _
    refine XS.aloadN X0.here hx rfl (hb hby d3_0) rfl rfl ?_
    exact kt)
  obtain ⟨T2, X2, e2, st2⟩ := initO X0 hx hZ hown (own_w hw 16 rfl) (own_w hw 17 rfl) (own_w hw 18 rfl) e0 (g := (mkF m 1 #[.val (.ref s1), .val (.ref a1), .val (.int 0), .val (.int 2), .val .null, .unset] [(.ref s1)])) rfl (by rw [hml]; rfl) rfl (hb hby d3_1) (by decide) (W := 0) (by show 2 * 0 + _ ≤ _; exact Nat.le_of_eq rfl) (by decide)
  have kn3 : ∀ t, own_S p e below T2 (mkF m 27 #[.val (.ref s1), .val (.ref a1), .val (.int 0), .val (.int 2), .val .null, .unset] []) t → Gl t := fun t kt => kn1 t (st2 _ (by
    show own_S p e below T2 (mkF m 4 #[.val (.ref s1), .val (.ref a1), .val (.int 0), .val (.int 2), .val .null, .unset] []) _
    refine XS.iloadN X2.here hx rfl (hb hby d3_4) rfl ?_
    refine XS.ifYes X2.here hx rfl (pc0 := 5) (pc' := 27) rfl (hb hby d3_5) rfl ((if0 _ _).trans (feq (by decide : ¬ ((2 : Int32) = (0 : Int32)))).2) (by decide) (by decide) ?_
    exact kt))
  obtain ⟨T4, X4, e4, st4⟩ := getS2 X2 hx hZ hown (host := "") (Or.inl (own_w hw 47 rfl)) Via.refl e2 (O2.ext O0.2) (g := (mkF m 27 #[.val (.ref s1), .val (.ref a1), .val (.int 0), .val (.int 2), .val .null, .unset] [])) rfl (hb hby d3_27)
  have hc30_5 : ¬ (G1 = (0 : Int32)) := P5
  have kn6 : ∀ t, own_S p e below T4 (mkF m 36 #[.val (.ref s1), .val (.ref a1), .val (.int 0), .val (.int 2), .val .null, .unset] [(.int 2), (.int 0), (.ref a1)]) t → Gl t := fun t kt => kn3 t (st4 _ (by
    show own_S p e below T4 (mkF m 30 #[.val (.ref s1), .val (.ref a1), .val (.int 0), .val (.int 2), .val .null, .unset] [(.int G1)]) _
    refine XS.ifNo X4.here hx rfl (hb hby d3_30) rfl ((if0 _ _).trans (feq hc30_5).1) ?_
    refine XS.aloadN X4.here hx rfl (hb hby d3_33) rfl rfl ?_
    refine XS.iloadN X4.here hx rfl (hb hby d3_34) rfl ?_
    refine XS.iloadN X4.here hx rfl (hb hby d3_35) rfl ?_
    exact kt))
  obtain ⟨_, _, ⟨T7, L7, cc7, ss7⟩, -, X7, ⟨Lc7, hQ7, l7, y7, z7⟩, st7⟩ := Jvm.LawKit.callS X4 hx (y := mN21) hown (mvT hZ (own_w hw 52 rfl)) (mvT hZ (own_w hw 53 rfl)) (mvT hZ (own_w hw 54 rfl)) (mvT hZ (own_w hw 55 rfl)) (by decide) (backOf (W := 0) (rm11_2 l Z a0 hw [] a1 ka c0 c1 h0 n0 Z0 A1 rg0 rg1 hwide O0 U1 U2 U3) hZ (own_w hw 55 rfl) (own_w hw 54 rfl) (by decide) (by decide)) (g := (mkF m 36 #[.val (.ref s1), .val (.ref a1), .val (.int 0), .val (.int 2), .val .null, .unset] [(.int 2), (.int 0), (.ref a1)])) rfl (by rw [hml]; rfl) (argsL := [(.ref a1), (.int 0), (.int 2)]) (rest := []) (lenOf pd_14 rfl) rfl (by show 2 * 0 + _ ≤ _; exact Nat.le_of_eq rfl) (hb hby d3_36) (fun _ _ => ⟨rfl, e4, (by decide : 0 + 2 ≤ _), (by decide : 0 + 6 ≤ _)⟩)
  dsimp only [Pt.U, Pt.locs, Pt.cells, Pt.slots] at X7 l7 y7 z7 st7 hQ7
  subst l7 y7 z7
  have X7 : Stand p l e _ _ m _ below meth c T7 _ 2 6 := X7
  obtain ⟨b7, kb7, rfl, Nq7, gb7, sb7, K7, V7⟩ := hQ7
  have Nf7 := Fr.app Nf0 Nq7
  have ne_s1_b7 : s1 ≠ b7 := Nat.ne_of_lt (Nat.lt_of_lt_of_le E1.lt sb7)
  have ne_a1_b7 : a1 ≠ b7 := Nat.ne_of_lt (Nat.lt_of_lt_of_le A1.lt sb7)
  have szz7 : h0.size ≤ b7 := sb7
  have Z8 := Nat.le_trans Z0 K7.1
  have Od9 := O0.keep K7 all0
  have K10 := (Keep.refl h0 [s1]).trans K7 (all0)
  have kn11 : ∀ t, own_S p e below T7 (mkF m 45 #[.val (.ref s1), .val (.ref a1), .val (.int 0), .val (.int 2), .val .null, .val (.ref b7)] [(.int 2), (.ref b7), (.ref s1)]) t → Gl t := fun t kt => kn6 t (st7 _ (by
    show own_S p e below T7 (mkF m 39 #[.val (.ref s1), .val (.ref a1), .val (.int 0), .val (.int 2), .val .null, .unset] [(.ref b7)]) _
    refine XS.astore X7.here hx rfl (hb hby d3_39) rfl rfl (l' := #[.val (.ref s1), .val (.ref a1), .val (.int 0), .val (.int 2), .val .null, .val (.ref b7)]) rfl ?_
    refine XS.aloadN X7.here hx rfl (hb hby d3_41) rfl rfl ?_
    refine XS.aload X7.here hx rfl (hb hby d3_42) rfl rfl ?_
    refine XS.iloadN X7.here hx rfl (hb hby d3_44) rfl ?_
    exact kt))
  obtain ⟨_, _, ⟨T12, L12, cc12, ss12⟩, -, X12, ⟨Lc12, hQ12, l12, y12, z12⟩, st12⟩ := Jvm.LawKit.callS X7 hx (y := mN22) hown (mvT hZ (own_w hw 59 rfl)) (mvT hZ (own_w hw 60 rfl)) (mvT hZ (own_w hw 54 rfl)) (mvT hZ (own_w hw 61 rfl)) (by decide) (backOf (W := 1) (rm13_2 l Z a0 hw [] b7 kb7 [(.int (StrChars.lo8 c0)), (.int (StrChars.hi8 c0)), (.int (StrChars.lo8 c1)), (.int (StrChars.hi8 c1))] T7.heap n0 Z8 V7) hZ (own_w hw 61 rfl) (own_w hw 54 rfl) (by decide) (by decide)) (g := (mkF m 45 #[.val (.ref s1), .val (.ref a1), .val (.int 0), .val (.int 2), .val .null, .val (.ref b7)] [(.int 2), (.ref b7), (.ref s1)])) rfl (by rw [hml]; rfl) (argsL := [(.ref b7), (.int 2)]) (rest := [(.ref s1)]) (lenOf pd_15 rfl) rfl (by show 2 * 0 + _ ≤ _; exact Nat.le_of_eq rfl) (hb hby d3_45) (fun _ _ => ⟨rfl, rfl, (by decide : 2 + 0 ≤ _), (by decide : 6 + 0 ≤ _)⟩)
  dsimp only [Pt.U, Pt.locs, Pt.cells, Pt.slots] at X12 l12 y12 z12 st12 hQ12
  subst l12 y12 z12
  have X12 : Stand p l e _ _ m _ below meth c T12 _ 2 6 := X12
  obtain ⟨rfl, Nq12, eq12⟩ := hQ12
  have Nf12 := Fr.app Nf7 Nq12
  have f13 := (F2.keep K7 nin0)
  have f14 := (E1.keep K7)
  obtain ⟨T15, h15, X15, e15, W15, st15⟩ := putFN X12 hx hZ hown (own_w hw 26 rfl) Via.refl eq12 f13 f14 (Or.inr ⟨(own_w hw 22 rfl), rfl, hnm⟩) (own_w hw 7 rfl) (ty := .byte) (v' := (.int (1 : Int32))) (by decide) rfl (by decide) (g := (mkF m 48 #[.val (.ref s1), .val (.ref a1), .val (.int 0), .val (.int 2), .val .null, .val (.ref b7)] [(.int 1), (.ref s1)])) rfl rfl (hb hby d3_48)
  have Z16 := Nat.le_trans Z8 (Keep.of_wr W15).1
  have Od17 := Od9.wr W15 g_s1
  have K18 := K10.wr W15 (Or.inl (List.mem_of_getElem? (i := 0) rfl))
  have Fw15 := f13.same W15
  have Nf19 := Fr.snoc X15 Nf12 g_s1
  have kn20 : ∀ t, own_S p e below T15 (mkF m 54 #[.val (.ref s1), .val (.ref a1), .val (.int 0), .val (.int 2), .val .null, .val (.ref b7)] [(.ref b7), (.ref s1)]) t → Gl t := fun t kt => kn11 t (st12 _ (st15 _ (by
    show own_S p e below T15 (mkF m 51 #[.val (.ref s1), .val (.ref a1), .val (.int 0), .val (.int 2), .val .null, .val (.ref b7)] []) _
    refine XS.aloadN X15.here hx rfl (hb hby d3_51) rfl rfl ?_
    refine XS.aload X15.here hx rfl (hb hby d3_52) rfl rfl ?_
    exact kt)))
  have f21 := ((F1.keep K7 nin0).other W15 (Or.inr (slot_ne (Or.inr (own_w hw 21 rfl)) (Or.inr (own_w hw 22 rfl)) (by decide) (t := (.array .byte)) (t' := .byte) (by decide) (by decide))))
  have f22 := (f14.wr W15)
  obtain ⟨T23, h23, X23, e23, W23, st23⟩ := putF X15 hx hZ hown (host := "") (Or.inl (own_w hw 25 rfl)) Via.refl e15 f21 f22 (Or.inr ⟨(own_w hw 21 rfl), rfl, hnm⟩) (own_w hw 7 rfl) (ty := (.array .byte)) (by decide) rfl rfl (g := (mkF m 54 #[.val (.ref s1), .val (.ref a1), .val (.int 0), .val (.int 2), .val .null, .val (.ref b7)] [(.ref b7), (.ref s1)])) rfl rfl (hb hby d3_54)
  have Z24 := Nat.le_trans Z16 (Keep.of_wr W23).1
  have Od25 := Od17.wr W23 g_s1
  have K26 := K18.wr W23 (Or.inl (List.mem_of_getElem? (i := 0) rfl))
  have Fw23 := f21.same W23
  have Nf27 := Fr.snoc X23 Nf19 g_s1
  obtain ⟨fs, hr, hrun, hended, hW, hsame⟩ := X23.leave (v := none) (fun _ => rfl)
  refine ⟨_, _, hGl _ (kn20 _ (st23 _ (X23.returnOut hx Bd.returns (hb hby d3_57) hr))), hrun, hended, _, _, rfl, ?_, ⟨_, rfl⟩, hW, hsame.mono (by decide) (by decide)⟩
  show Q3_2 Z s1 a1 ka c0 c1 G1 h0 n0 _ T23.heap _
  rw [e23]
  have f28 := (f22.wr W23)
  have f29 := (Fw15.other W23 (Or.inr (slot_ne (Or.inr (own_w hw 22 rfl)) (Or.inr (own_w hw 21 rfl)) (by decide) (t := .byte) (t' := (.array .byte)) (by decide) (by decide))))
  have f30 := ((V7.other W15 (Ne.symm ne_s1_b7)).other W23 (Ne.symm ne_s1_b7))
  exact ⟨rfl, Nf27, b7, _, K26, f28, f29, Fw23, f30⟩

theorem ef_rm2_2 (m : MethodId) (x0 : Addr) (x1 : Addr) : entryFrame m #[(.ref x0), (.ref x1)] 2 = mkF m 0 #[.val (.ref x0), .val (.ref x1)] [] := by first | (simp [entryFrame, mkF, argsToLocals, Value.category]; done) | rfl
def Q2_2 (Z : State) (s1 : Addr) (a1 : Addr) (ka : ClassId) (c0 : Int32) (c1 : Int32) (G1 : Int32) (h0 : Heap) (n0 : Nat) (v : Option Value) (h : Heap) (L : List Loc) : Prop := v = none ∧ Fr n0 L ∧ ∃ (t : Addr) (kb : ClassId), Keep h0 h [s1] ∧ Exa Z h s1 "java/lang/String" ∧ Fld Z h s1 "java/lang/String" "coder" "B" (.int (1 : Int32)) ∧ Fld Z h s1 "java/lang/String" "value" "[B" (.ref t) ∧ Arv Z h t kb .byte (4 : Int32) [(.int (StrChars.lo8 c0)), (.int (StrChars.hi8 c0)), (.int (StrChars.lo8 c1)), (.int (StrChars.hi8 c1))] (.int (0 : Int32))
theorem rm2_2 (l : Launch) (Z : State) (a0 : Array Value) (hw : ∀ d ∈ tables_1, d.before a0 Z = true) (ws : List Jvm.Cond) (s1 : Addr) (a1 : Addr) (ka : ClassId) (c0 : Int32) (c1 : Int32) (G1 : Int32) (h0 : Heap) (n0 : Nat) (Z0 : n0 ≤ h0.size) (F1 : Fld Z h0 s1 "java/lang/String" "value" "[B" .null) (F2 : Fld Z h0 s1 "java/lang/String" "coder" "B" (.int (0 : Int32))) (E1 : Exa Z h0 s1 "java/lang/String") (g_s1 : n0 ≤ s1) (A1 : Arv Z h0 a1 ka .char (2 : Int32) [(.int c0), (.int c1)] (.int (0 : Int32))) (nsa : @Ne Nat a1 s1) (rg0 : own_rg c0) (rg1 : own_rg c1) (hwide : (255 : Int32) < c0 ∨ (¬ (255 : Int32) < c0 ∧ (255 : Int32) < c1)) (O0 : Old Z n0 h0) (O2 : Sta Z Z.heap "java/lang/String" "COMPACT_STRINGS" "Z" (.int G1)) (P5 : ¬ (G1 = (0 : Int32))) (U1 : Sta Z Z.heap "java/lang/StringUTF16" "$assertionsDisabled" "Z" (.int (1 : Int32))) (U2 : Sta Z Z.heap "java/lang/StringUTF16" "HI_BYTE_SHIFT" "I" (.int (0 : Int32))) (U3 : Sta Z Z.heap "java/lang/StringUTF16" "LO_BYTE_SHIFT" "I" (.int (8 : Int32))) :
    MetFree l mN24 (head1 (Jvm.Cond.code mN24 jdk_42_method_3_code 2 none :: ws) (own_r 5 2 6 74)) (fun a U => a = #[(.ref s1), (.ref a1)] ∧ Z.Warmed39 U.vm ∧ U.heap = h0) (fun _ _ _ _ _ => True) (fun _ U o U' => ∃ v L, o = .returned v ∧ Q2_2 Z s1 a1 ka c0 c1 G1 h0 n0 v U'.heap L ∧ FrameEnd U o U' L (own_r 5 2 6 74).cells (own_r 5 2 6 74).slots) := by
  refine MetFree.of_bodySF (plainFor_of_name pn_3) hisR ?_
  intro p e s m args below meth c s₁ Bd hml0 hP hK
  obtain ⟨rfl, hZ, hh⟩ := hP
  have hx := Bd.exec
  have hby := Bd.bytes
  have hml : c.maxLocals = 2 := hml0
  have hown : s.vm.findClass "java/lang/String" = some m.cls := findClass_of_methodNamed Bd.named
  have hnm := (name_of_methodNamed Bd.named Bd.method).1
  have X0 : Stand p l e (own_r 5 2 6 74) s m #[(.ref s1), (.ref a1)] below meth c s₁ [] 0 0 := Stand.of_body Bd
  have e0 : s₁.heap = h0 := by rw [← hh, Bd.state]; rfl
  have Nf0 := Fr.nil n0
  obtain ⟨Gl, hGl, kn0⟩ := own_gl (p := p) (e := e) (below := below) (s₁ := s₁) (ef_rm2_2 m s1 a1)
  have kn1 : ∀ t, own_S p e below s₁ (mkF m 4 #[.val (.ref s1), .val (.ref a1)] [(.ref a1), (.int 0), (.ref a1), (.ref s1)]) t → Gl t := fun t kt => kn0 t (by
    show own_S p e below s₁ (mkF m 0 #[.val (.ref s1), .val (.ref a1)] []) _
    refine XS.aloadN X0.here hx rfl (hb hby d2_0) rfl rfl ?_
    refine XS.aloadN X0.here hx rfl (hb hby d2_1) rfl rfl ?_
    refine XS.iconst X0.here hx rfl (hb hby d2_2) ?_
    refine XS.aloadN X0.here hx rfl (hb hby d2_3) rfl rfl ?_
    exact kt)
  obtain ⟨cl2, Ar2, -, Sz2, Ng2, -, -⟩ := id A1
  have kn3 : ∀ t, own_S p e below s₁ (mkF m 6 #[.val (.ref s1), .val (.ref a1)] [.null, (.int 2), (.int 0), (.ref a1), (.ref s1)]) t → Gl t := fun t kt => kn1 t (by
    show own_S p e below s₁ (mkF m 4 #[.val (.ref s1), .val (.ref a1)] [(.ref a1), (.int 0), (.ref a1), (.ref s1)]) _
    refine X0.arraylength hx (by rw [e0]; exact Ar2.1) (State.isArrayOf_alike hZ.alike Ar2.2.1) (g := (mkF m 4 #[.val (.ref s1), .val (.ref a1)] [(.ref a1), (.int 0), (.ref a1), (.ref s1)])) rfl rfl (hb hby d2_4) _ ?_
    rw [len_of Sz2 Ng2]
    refine XS.aconstNull X0.here hx rfl (hb hby d2_5) ?_
    exact kt)
  obtain ⟨_, _, ⟨T4, L4, cc4, ss4⟩, -, X4, ⟨Lc4, hQ4, l4, y4, z4⟩, st4⟩ := X0.specialBack hx (y := mN23) rfl hown (mvT hZ (own_w hw 12 rfl)) (mvT hZ (own_w hw 13 rfl)) (mvT hZ (own_w hw 15 rfl)) (by decide) (backOf (W := 0) (rm3_2 l Z a0 hw [] s1 a1 ka c0 c1 G1 h0 n0 Z0 F1 F2 E1 g_s1 A1 nsa rg0 rg1 hwide O0 O2 P5 U1 U2 U3) hZ (own_w hw 15 rfl) (own_w hw 8 rfl) (by decide) (by decide)) (g := (mkF m 6 #[.val (.ref s1), .val (.ref a1)] [.null, (.int 2), (.int 0), (.ref a1), (.ref s1)])) rfl (by rw [hml]; rfl) (Steps.refl _) (a := s1) (argsL := [(.ref a1), (.int 0), (.int 2), .null]) (rest := []) (lenOf pd_16 rfl) rfl (by show 2 * 0 + _ ≤ _; exact Nat.le_of_eq rfl) (hb hby d2_6) (fun _ _ => ⟨rfl, e0, (by decide : 0 + 2 ≤ _), (by decide : 0 + 6 ≤ _)⟩)
  dsimp only [Pt.U, Pt.locs, Pt.cells, Pt.slots] at X4 l4 y4 z4 st4 hQ4
  subst l4 y4 z4
  have X4 : Stand p l e _ _ m _ below meth c T4 _ 2 6 := X4
  obtain ⟨rfl, Nq4, t4, kb4, K4, Ex4, Co4, Va4, Ar4⟩ := hQ4
  have Nf4 := Fr.app Nf0 Nq4
  have Z5 := Nat.le_trans Z0 K4.1
  have Od6 := O0.keep K4 (allS g_s1 all0)
  have K7 := (Keep.refl h0 [s1]).trans K4 (allS (Or.inl (List.mem_of_getElem? (i := 0) rfl)) all0)
  obtain ⟨fs, hr, hrun, hended, hW, hsame⟩ := X4.leave (v := none) (fun _ => rfl)
  refine ⟨_, _, hGl _ (kn3 _ (st4.trans (X4.returnOut hx Bd.returns (hb hby d2_9) hr))), hrun, hended, _, _, rfl, ?_, ⟨_, rfl⟩, hW, hsame.mono (by decide) (by decide)⟩
  show Q2_2 Z s1 a1 ka c0 c1 G1 h0 n0 _ T4.heap _
  exact ⟨rfl, Nf4, t4, _, K7, Ex4, Co4, Va4, Ar4⟩

theorem ef_rm12_3_0 (m : MethodId) (x0 : Addr) (x2 : Addr) : entryFrame m #[(.ref x0), (.int (0 : Int32)), (.ref x2), (.int (0 : Int32)), (.int (3 : Int32))] 7 = mkF m 0 #[.val (.ref x0), .val (.int (0 : Int32)), .val (.ref x2), .val (.int (0 : Int32)), .val (.int (3 : Int32)), .unset, .unset] [] := by first | (simp [entryFrame, mkF, argsToLocals, Value.category]; done) | rfl
def Q12_3_0 (Z : State) (a1 : Addr) (b3 : Addr) (ka : ClassId) (kb : ClassId) (c0 : Int32) (c1 : Int32) (c2 : Int32) (h0 : Heap) (n0 : Nat) (v : Option Value) (h : Heap) (L : List Loc) : Prop := v = some (.int (0 : Int32)) ∧ Fr n0 L ∧ Keep h0 h [b3]
theorem rm12_3_0 (l : Launch) (Z : State) (a0 : Array Value) (hw : ∀ d ∈ tables_1, d.before a0 Z = true) (ws : List Jvm.Cond) (a1 : Addr) (b3 : Addr) (ka : ClassId) (kb : ClassId) (c0 : Int32) (c1 : Int32) (c2 : Int32) (h0 : Heap) (n0 : Nat) (Z0 : n0 ≤ h0.size) (A1 : Arv Z h0 a1 ka .char (3 : Int32) [(.int c0), (.int c1), (.int c2)] (.int (0 : Int32))) (A3 : Arv Z h0 b3 kb .byte (3 : Int32) [(.int (0 : Int32)), (.int (0 : Int32)), (.int (0 : Int32))] (.int (0 : Int32))) (nab : @Ne Nat a1 b3) (g_b3 : n0 ≤ b3) (wq0 : (255 : Int32) < c0) :
    MetFree l mN16 (head1 (Jvm.Cond.code mN16 jdk_52_method_21_code 7 (some .int) :: ws) (own_r 0 0 0 0)) (fun a U => a = #[(.ref a1), (.int (0 : Int32)), (.ref b3), (.int (0 : Int32)), (.int (3 : Int32))] ∧ Z.Warmed39 U.vm ∧ U.heap = h0) (fun _ _ _ _ _ => True) (fun _ U o U' => ∃ v L, o = .returned v ∧ Q12_3_0 Z a1 b3 ka kb c0 c1 c2 h0 n0 v U'.heap L ∧ FrameEnd U o U' L (own_r 0 0 0 0).cells (own_r 0 0 0 0).slots) := by
  refine MetFree.of_bodySF (plainFor_of_name pn_4) hisR ?_
  intro p e s m args below meth c s₁ Bd hml0 hP hK
  obtain ⟨rfl, hZ, hh⟩ := hP
  have hx := Bd.exec
  have hby := Bd.bytes
  have hml : c.maxLocals = 7 := hml0
  have hown : s.vm.findClass "java/lang/StringUTF16" = some m.cls := findClass_of_methodNamed Bd.named
  have hnm := (name_of_methodNamed Bd.named Bd.method).1
  have X0 : Stand p l e (own_r 0 0 0 0) s m #[(.ref a1), (.int (0 : Int32)), (.ref b3), (.int (0 : Int32)), (.int (3 : Int32))] below meth c s₁ [] 0 0 := Stand.of_body Bd
  have e0 : s₁.heap = h0 := by rw [← hh, Bd.state]; rfl
  have Nf0 := Fr.nil n0
  obtain ⟨Gl, hGl, kn0⟩ := own_gl (p := p) (e := e) (below := below) (s₁ := s₁) (ef_rm12_3_0 m a1 b3)
  have kn1 : ∀ t, own_S p e below s₁ (mkF m 12 #[.val (.ref a1), .val (.int 0), .val (.ref b3), .val (.int 0), .val (.int 3), .val (.int 0), .unset] [(.int 0), (.ref a1)]) t → Gl t := fun t kt => kn0 t (by
    show own_S p e below s₁ (mkF m 0 #[.val (.ref a1), .val (.int 0), .val (.ref b3), .val (.int 0), .val (.int 3), .unset, .unset] []) _
    refine XS.iconst X0.here hx rfl (hb hby d12_0) ?_
    refine XS.istore X0.here hx rfl (hb hby d12_1) rfl (l' := #[.val (.ref a1), .val (.int 0), .val (.ref b3), .val (.int 0), .val (.int 3), .val (.int 0), .unset]) rfl ?_
    refine XS.iload X0.here hx rfl (hb hby d12_3) rfl ?_
    refine XS.iload X0.here hx rfl (hb hby d12_5) rfl ?_
    refine XS.icmpNo X0.here hx rfl (hb hby d12_7) rfl (tlt (by decide : (0 : Int32) < (3 : Int32))).2.1 ?_
    refine XS.aloadN X0.here hx rfl (hb hby d12_10) rfl rfl ?_
    refine XS.iloadN X0.here hx rfl (hb hby d12_11) rfl ?_
    exact kt)
  obtain ⟨cl2, Ar2, q2, Sz2, Ng2, Hs2, Gs2⟩ := id A1
  have hin2 : ¬ ((0 : Int32) < 0 ∨ cl2.slots.size ≤ ((0 : Int32)).toNatClampNeg) := inb_of Sz2 ⟨by decide, by decide⟩
  have hat2 : cl2.slots[((0 : Int32)).toNatClampNeg]? = some (.int c0) := Hs2.at hin2 rfl
  have kn3 : ∀ t, own_S p e below s₁ (mkF m 20 #[.val (.ref a1), .val (.int 0), .val (.ref b3), .val (.int 0), .val (.int 3), .val (.int 0), .val (.int c0)] [(.int 255), (.int c0)]) t → Gl t := fun t kt => kn1 t (by
    show own_S p e below s₁ (mkF m 12 #[.val (.ref a1), .val (.int 0), .val (.ref b3), .val (.int 0), .val (.int 3), .val (.int 0), .unset] [(.int 0), (.ref a1)]) _
    refine X0.caload hx (j := (0 : Int32)) (v := (.int c0)) (by rw [e0]; exact Ar2.1) (State.isArrayOf_alike hZ.alike Ar2.2.1) Ar2.2.2 hin2 hat2 (g := (mkF m 12 #[.val (.ref a1), .val (.int 0), .val (.ref b3), .val (.int 0), .val (.int 3), .val (.int 0), .unset] [(.int 0), (.ref a1)])) rfl rfl (hb hby d12_12) _ ?_
    refine XS.istore X0.here hx rfl (hb hby d12_13) rfl (l' := #[.val (.ref a1), .val (.int 0), .val (.ref b3), .val (.int 0), .val (.int 3), .val (.int 0), .val (.int c0)]) rfl ?_
    refine XS.iload X0.here hx rfl (hb hby d12_15) rfl ?_
    refine XS.sipush X0.here hx rfl (hb hby d12_17) ?_
    exact kt)
  have hc20_4 : (255 : Int32) < c0 := wq0
  have kn5 : ∀ t, own_S p e below s₁ (mkF m 25 #[.val (.ref a1), .val (.int 0), .val (.ref b3), .val (.int 0), .val (.int 3), .val (.int 0), .val (.int c0)] [(.int 0)]) t → Gl t := fun t kt => kn3 t (by
    show own_S p e below s₁ (mkF m 20 #[.val (.ref a1), .val (.int 0), .val (.ref b3), .val (.int 0), .val (.int 3), .val (.int 0), .val (.int c0)] [(.int 255), (.int c0)]) _
    refine XS.icmpNo X0.here hx rfl (hb hby d12_20) rfl (tlt hc20_4).2.2.2 ?_
    refine XS.iload X0.here hx rfl (hb hby d12_23) rfl ?_
    exact kt)
  obtain ⟨fs, hr, hrun, hended, hW, hsame⟩ := X0.leave (v := some (.int (0 : Int32))) (fun h => by rw [Bd.returns] at h; cases h)
  refine ⟨_, _, hGl _ (kn5 _ (retI X0 hx Bd.returns (hb hby d12_25) hr)), hrun, hended, _, _, rfl, ?_, ⟨_, rfl⟩, hW, hsame.mono (by decide) (by decide)⟩
  show Q12_3_0 Z a1 b3 ka kb c0 c1 c2 h0 n0 _ s₁.heap _
  rw [e0]
  exact ⟨rfl, Nf0, Keep.refl h0 [b3]⟩

theorem ef_rm12_3_1 (m : MethodId) (x0 : Addr) (x2 : Addr) : entryFrame m #[(.ref x0), (.int (0 : Int32)), (.ref x2), (.int (0 : Int32)), (.int (3 : Int32))] 7 = mkF m 0 #[.val (.ref x0), .val (.int (0 : Int32)), .val (.ref x2), .val (.int (0 : Int32)), .val (.int (3 : Int32)), .unset, .unset] [] := by first | (simp [entryFrame, mkF, argsToLocals, Value.category]; done) | rfl
def Q12_3_1 (Z : State) (a1 : Addr) (b3 : Addr) (ka : ClassId) (kb : ClassId) (c0 : Int32) (c1 : Int32) (c2 : Int32) (h0 : Heap) (n0 : Nat) (v : Option Value) (h : Heap) (L : List Loc) : Prop := v = some (.int (1 : Int32)) ∧ Fr n0 L ∧ Keep h0 h [b3]
theorem rm12_3_1 (l : Launch) (Z : State) (a0 : Array Value) (hw : ∀ d ∈ tables_1, d.before a0 Z = true) (ws : List Jvm.Cond) (a1 : Addr) (b3 : Addr) (ka : ClassId) (kb : ClassId) (c0 : Int32) (c1 : Int32) (c2 : Int32) (h0 : Heap) (n0 : Nat) (Z0 : n0 ≤ h0.size) (A1 : Arv Z h0 a1 ka .char (3 : Int32) [(.int c0), (.int c1), (.int c2)] (.int (0 : Int32))) (A3 : Arv Z h0 b3 kb .byte (3 : Int32) [(.int (0 : Int32)), (.int (0 : Int32)), (.int (0 : Int32))] (.int (0 : Int32))) (nab : @Ne Nat a1 b3) (g_b3 : n0 ≤ b3) (wq0 : ¬ (255 : Int32) < c0) (wq1 : (255 : Int32) < c1) :
    MetFree l mN16 (head1 (Jvm.Cond.code mN16 jdk_52_method_21_code 7 (some .int) :: ws) (own_r 0 0 0 0)) (fun a U => a = #[(.ref a1), (.int (0 : Int32)), (.ref b3), (.int (0 : Int32)), (.int (3 : Int32))] ∧ Z.Warmed39 U.vm ∧ U.heap = h0) (fun _ _ _ _ _ => True) (fun _ U o U' => ∃ v L, o = .returned v ∧ Q12_3_1 Z a1 b3 ka kb c0 c1 c2 h0 n0 v U'.heap L ∧ FrameEnd U o U' L (own_r 0 0 0 0).cells (own_r 0 0 0 0).slots) := by
  refine MetFree.of_bodySF (plainFor_of_name pn_4) hisR ?_
  intro p e s m args below meth c s₁ Bd hml0 hP hK
  obtain ⟨rfl, hZ, hh⟩ := hP
  have hx := Bd.exec
  have hby := Bd.bytes
  have hml : c.maxLocals = 7 := hml0
  have hown : s.vm.findClass "java/lang/StringUTF16" = some m.cls := findClass_of_methodNamed Bd.named
  have hnm := (name_of_methodNamed Bd.named Bd.method).1
  have X0 : Stand p l e (own_r 0 0 0 0) s m #[(.ref a1), (.int (0 : Int32)), (.ref b3), (.int (0 : Int32)), (.int (3 : Int32))] below meth c s₁ [] 0 0 := Stand.of_body Bd
  have e0 : s₁.heap = h0 := by rw [← hh, Bd.state]; rfl
  have Nf0 := Fr.nil n0
  obtain ⟨Gl, hGl, kn0⟩ := own_gl (p := p) (e := e) (below := below) (s₁ := s₁) (ef_rm12_3_1 m a1 b3)
  have kn1 : ∀ t, own_S p e below s₁ (mkF m 12 #[.val (.ref a1), .val (.int 0), .val (.ref b3), .val (.int 0), .val (.int 3), .val (.int 0), .unset] [(.int 0), (.ref a1)]) t → Gl t := fun t kt => kn0 t (by
    show own_S p e below s₁ (mkF m 0 #[.val (.ref a1), .val (.int 0), .val (.ref b3), .val (.int 0), .val (.int 3), .unset, .unset] []) _
    refine XS.iconst X0.here hx rfl (hb hby d12_0) ?_
    refine XS.istore X0.here hx rfl (hb hby d12_1) rfl (l' := #[.val (.ref a1), .val (.int 0), .val (.ref b3), .val (.int 0), .val (.int 3), .val (.int 0), .unset]) rfl ?_
    refine XS.iload X0.here hx rfl (hb hby d12_3) rfl ?_
    refine XS.iload X0.here hx rfl (hb hby d12_5) rfl ?_
    refine XS.icmpNo X0.here hx rfl (hb hby d12_7) rfl (tlt (by decide : (0 : Int32) < (3 : Int32))).2.1 ?_
    refine XS.aloadN X0.here hx rfl (hb hby d12_10) rfl rfl ?_
    refine XS.iloadN X0.here hx rfl (hb hby d12_11) rfl ?_
    exact kt)
  obtain ⟨cl2, Ar2, q2, Sz2, Ng2, Hs2, Gs2⟩ := id A1
  have hin2 : ¬ ((0 : Int32) < 0 ∨ cl2.slots.size ≤ ((0 : Int32)).toNatClampNeg) := inb_of Sz2 ⟨by decide, by decide⟩
  have hat2 : cl2.slots[((0 : Int32)).toNatClampNeg]? = some (.int c0) := Hs2.at hin2 rfl
  have kn3 : ∀ t, own_S p e below s₁ (mkF m 20 #[.val (.ref a1), .val (.int 0), .val (.ref b3), .val (.int 0), .val (.int 3), .val (.int 0), .val (.int c0)] [(.int 255), (.int c0)]) t → Gl t := fun t kt => kn1 t (by
    show own_S p e below s₁ (mkF m 12 #[.val (.ref a1), .val (.int 0), .val (.ref b3), .val (.int 0), .val (.int 3), .val (.int 0), .unset] [(.int 0), (.ref a1)]) _
    refine X0.caload hx (j := (0 : Int32)) (v := (.int c0)) (by rw [e0]; exact Ar2.1) (State.isArrayOf_alike hZ.alike Ar2.2.1) Ar2.2.2 hin2 hat2 (g := (mkF m 12 #[.val (.ref a1), .val (.int 0), .val (.ref b3), .val (.int 0), .val (.int 3), .val (.int 0), .unset] [(.int 0), (.ref a1)])) rfl rfl (hb hby d12_12) _ ?_
    refine XS.istore X0.here hx rfl (hb hby d12_13) rfl (l' := #[.val (.ref a1), .val (.int 0), .val (.ref b3), .val (.int 0), .val (.int 3), .val (.int 0), .val (.int c0)]) rfl ?_
    refine XS.iload X0.here hx rfl (hb hby d12_15) rfl ?_
    refine XS.sipush X0.here hx rfl (hb hby d12_17) ?_
    exact kt)
  have hc20_4 : ¬ ((255 : Int32) < c0) := wq0
  have kn5 : ∀ t, own_S p e below s₁ (mkF m 31 #[.val (.ref a1), .val (.int 0), .val (.ref b3), .val (.int 0), .val (.int 3), .val (.int 0), .val (.int c0)] [(.int (c0.toInt8.toInt32)), (.int 0), (.ref b3)]) t → Gl t := fun t kt => kn3 t (by
    show own_S p e below s₁ (mkF m 20 #[.val (.ref a1), .val (.int 0), .val (.ref b3), .val (.int 0), .val (.int 3), .val (.int 0), .val (.int c0)] [(.int 255), (.int c0)]) _
    refine XS.icmpYes X0.here hx rfl (pc0 := 20) (pc' := 26) rfl (hb hby d12_20) rfl (flt hc20_4).2.2.2 (by decide) (by decide) ?_
    refine XS.aloadN X0.here hx rfl (hb hby d12_26) rfl rfl ?_
    refine XS.iloadN X0.here hx rfl (hb hby d12_27) rfl ?_
    refine XS.iload X0.here hx rfl (hb hby d12_28) rfl ?_
    refine XS.i2b X0.here hx rfl (hb hby d12_30) rfl ?_
    exact kt)
  obtain ⟨cl6, Ar6, q6, Sz6, Ng6, Hs6, Gs6⟩ := id A3
  have hin6 : ¬ ((0 : Int32) < 0 ∨ cl6.slots.size ≤ ((0 : Int32)).toNatClampNeg) := inb_of Sz6 ⟨by decide, by decide⟩
  obtain ⟨T6, h6, X6, e6, W6, st6⟩ := stB X0 hx hZ e0 Ar6 (j := (0 : Int32)) hin6 (g := (mkF m 31 #[.val (.ref a1), .val (.int 0), .val (.ref b3), .val (.int 0), .val (.int 3), .val (.int 0), .val (.int c0)] [(.int (c0.toInt8.toInt32)), (.int 0), (.ref b3)])) rfl rfl (hb hby d12_31)
  have Z7 := Nat.le_trans Z0 (Keep.of_wr W6).1
  have K8 := (Keep.refl h0 [b3]).wr W6 (Or.inl (List.mem_of_getElem? (i := 0) rfl))
  have V6 : Arv Z h6 b3 kb .byte (3 : Int32) [(.int ((c0.toInt8.toInt32).toInt8.toInt32)), (.int (0 : Int32)), (.int (0 : Int32))] (.int (0 : Int32)) := Arv.set Ar6 q6 Sz6 Ng6 Hs6 Gs6 (fits_nar_byte _) W6 0 rfl (Nat.le_of_ble_eq_true rfl)
  have Nf9 := Fr.snoc X6 Nf0 g_b3
  have kn10 : ∀ t, own_S p e below T6 (mkF m 12 #[.val (.ref a1), .val (.int 1), .val (.ref b3), .val (.int 1), .val (.int 3), .val (.int 1), .val (.int c0)] [(.int 1), (.ref a1)]) t → Gl t := fun t kt => kn5 t (st6 _ (by
    show own_S p e below T6 (mkF m 32 #[.val (.ref a1), .val (.int 0), .val (.ref b3), .val (.int 0), .val (.int 3), .val (.int 0), .val (.int c0)] []) _
    refine XS.iinc X6.here hx rfl (hb hby d12_32) rfl (l' := #[.val (.ref a1), .val (.int ((0 : Int32) + (1 : Int32))), .val (.ref b3), .val (.int 0), .val (.int 3), .val (.int 0), .val (.int c0)]) rfl ?_
    rw [(by decide : ((0 : Int32) + (1 : Int32)) = (1 : Int32))]
    show own_S p e below T6 (mkF m 35 #[.val (.ref a1), .val (.int 1), .val (.ref b3), .val (.int 0), .val (.int 3), .val (.int 0), .val (.int c0)] []) _
    refine XS.iinc X6.here hx rfl (hb hby d12_35) rfl (l' := #[.val (.ref a1), .val (.int 1), .val (.ref b3), .val (.int ((0 : Int32) + (1 : Int32))), .val (.int 3), .val (.int 0), .val (.int c0)]) rfl ?_
    rw [(by decide : ((0 : Int32) + (1 : Int32)) = (1 : Int32))]
    show own_S p e below T6 (mkF m 38 #[.val (.ref a1), .val (.int 1), .val (.ref b3), .val (.int 1), .val (.int 3), .val (.int 0), .val (.int c0)] []) _
    refine XS.iinc X6.here hx rfl (hb hby d12_38) rfl (l' := #[.val (.ref a1), .val (.int 1), .val (.ref b3), .val (.int 1), .val (.int 3), .val (.int ((0 : Int32) + (1 : Int32))), .val (.int c0)]) rfl ?_
    rw [(by decide : ((0 : Int32) + (1 : Int32)) = (1 : Int32))]
    refine XS.goto X6.here hx rfl (pc0 := 41) (pc' := 3) rfl (hb hby d12_41) (by decide) (by decide) ?_
    refine XS.iload X6.here hx rfl (hb hby d12_3) rfl ?_
    refine XS.iload X6.here hx rfl (hb hby d12_5) rfl ?_
    refine XS.icmpNo X6.here hx rfl (hb hby d12_7) rfl (tlt (by decide : (1 : Int32) < (3 : Int32))).2.1 ?_
    refine XS.aloadN X6.here hx rfl (hb hby d12_10) rfl rfl ?_
    refine XS.iloadN X6.here hx rfl (hb hby d12_11) rfl ?_
    exact kt))
  have f11 := (A1.other W6 nab)
  obtain ⟨cl12, Ar12, q12, Sz12, Ng12, Hs12, Gs12⟩ := id f11
  have hin12 : ¬ ((1 : Int32) < 0 ∨ cl12.slots.size ≤ ((1 : Int32)).toNatClampNeg) := inb_of Sz12 ⟨by decide, by decide⟩
  have hat12 : cl12.slots[((1 : Int32)).toNatClampNeg]? = some (.int c1) := Hs12.at hin12 rfl
  have kn13 : ∀ t, own_S p e below T6 (mkF m 20 #[.val (.ref a1), .val (.int 1), .val (.ref b3), .val (.int 1), .val (.int 3), .val (.int 1), .val (.int c1)] [(.int 255), (.int c1)]) t → Gl t := fun t kt => kn10 t (by
    show own_S p e below T6 (mkF m 12 #[.val (.ref a1), .val (.int 1), .val (.ref b3), .val (.int 1), .val (.int 3), .val (.int 1), .val (.int c0)] [(.int 1), (.ref a1)]) _
    refine X6.caload hx (j := (1 : Int32)) (v := (.int c1)) (by rw [e6]; exact Ar12.1) (State.isArrayOf_alike hZ.alike Ar12.2.1) Ar12.2.2 hin12 hat12 (g := (mkF m 12 #[.val (.ref a1), .val (.int 1), .val (.ref b3), .val (.int 1), .val (.int 3), .val (.int 1), .val (.int c0)] [(.int 1), (.ref a1)])) rfl rfl (hb hby d12_12) _ ?_
    refine XS.istore X6.here hx rfl (hb hby d12_13) rfl (l' := #[.val (.ref a1), .val (.int 1), .val (.ref b3), .val (.int 1), .val (.int 3), .val (.int 1), .val (.int c1)]) rfl ?_
    refine XS.iload X6.here hx rfl (hb hby d12_15) rfl ?_
    refine XS.sipush X6.here hx rfl (hb hby d12_17) ?_
    exact kt)
  have hc20_14 : (255 : Int32) < c1 := wq1
  have kn15 : ∀ t, own_S p e below T6 (mkF m 25 #[.val (.ref a1), .val (.int 1), .val (.ref b3), .val (.int 1), .val (.int 3), .val (.int 1), .val (.int c1)] [(.int 1)]) t → Gl t := fun t kt => kn13 t (by
    show own_S p e below T6 (mkF m 20 #[.val (.ref a1), .val (.int 1), .val (.ref b3), .val (.int 1), .val (.int 3), .val (.int 1), .val (.int c1)] [(.int 255), (.int c1)]) _
    refine XS.icmpNo X6.here hx rfl (hb hby d12_20) rfl (tlt hc20_14).2.2.2 ?_
    refine XS.iload X6.here hx rfl (hb hby d12_23) rfl ?_
    exact kt)
  obtain ⟨fs, hr, hrun, hended, hW, hsame⟩ := X6.leave (v := some (.int (1 : Int32))) (fun h => by rw [Bd.returns] at h; cases h)
  refine ⟨_, _, hGl _ (kn15 _ (retI X6 hx Bd.returns (hb hby d12_25) hr)), hrun, hended, _, _, rfl, ?_, ⟨_, rfl⟩, hW, hsame.mono (by decide) (by decide)⟩
  show Q12_3_1 Z a1 b3 ka kb c0 c1 c2 h0 n0 _ T6.heap _
  rw [e6]
  exact ⟨rfl, Nf9, K8⟩

theorem ef_rm12_3_2 (m : MethodId) (x0 : Addr) (x2 : Addr) : entryFrame m #[(.ref x0), (.int (0 : Int32)), (.ref x2), (.int (0 : Int32)), (.int (3 : Int32))] 7 = mkF m 0 #[.val (.ref x0), .val (.int (0 : Int32)), .val (.ref x2), .val (.int (0 : Int32)), .val (.int (3 : Int32)), .unset, .unset] [] := by first | (simp [entryFrame, mkF, argsToLocals, Value.category]; done) | rfl
def Q12_3_2 (Z : State) (a1 : Addr) (b3 : Addr) (ka : ClassId) (kb : ClassId) (c0 : Int32) (c1 : Int32) (c2 : Int32) (h0 : Heap) (n0 : Nat) (v : Option Value) (h : Heap) (L : List Loc) : Prop := v = some (.int (2 : Int32)) ∧ Fr n0 L ∧ Keep h0 h [b3]
theorem rm12_3_2 (l : Launch) (Z : State) (a0 : Array Value) (hw : ∀ d ∈ tables_1, d.before a0 Z = true) (ws : List Jvm.Cond) (a1 : Addr) (b3 : Addr) (ka : ClassId) (kb : ClassId) (c0 : Int32) (c1 : Int32) (c2 : Int32) (h0 : Heap) (n0 : Nat) (Z0 : n0 ≤ h0.size) (A1 : Arv Z h0 a1 ka .char (3 : Int32) [(.int c0), (.int c1), (.int c2)] (.int (0 : Int32))) (A3 : Arv Z h0 b3 kb .byte (3 : Int32) [(.int (0 : Int32)), (.int (0 : Int32)), (.int (0 : Int32))] (.int (0 : Int32))) (nab : @Ne Nat a1 b3) (g_b3 : n0 ≤ b3) (wq0 : ¬ (255 : Int32) < c0) (wq1 : ¬ (255 : Int32) < c1) (wq2 : (255 : Int32) < c2) :
    MetFree l mN16 (head1 (Jvm.Cond.code mN16 jdk_52_method_21_code 7 (some .int) :: ws) (own_r 0 0 0 0)) (fun a U => a = #[(.ref a1), (.int (0 : Int32)), (.ref b3), (.int (0 : Int32)), (.int (3 : Int32))] ∧ Z.Warmed39 U.vm ∧ U.heap = h0) (fun _ _ _ _ _ => True) (fun _ U o U' => ∃ v L, o = .returned v ∧ Q12_3_2 Z a1 b3 ka kb c0 c1 c2 h0 n0 v U'.heap L ∧ FrameEnd U o U' L (own_r 0 0 0 0).cells (own_r 0 0 0 0).slots) := by
  refine MetFree.of_bodySF (plainFor_of_name pn_4) hisR ?_
  intro p e s m args below meth c s₁ Bd hml0 hP hK
  obtain ⟨rfl, hZ, hh⟩ := hP
  have hx := Bd.exec
  have hby := Bd.bytes
  have hml : c.maxLocals = 7 := hml0
  have hown : s.vm.findClass "java/lang/StringUTF16" = some m.cls := findClass_of_methodNamed Bd.named
  have hnm := (name_of_methodNamed Bd.named Bd.method).1
  have X0 : Stand p l e (own_r 0 0 0 0) s m #[(.ref a1), (.int (0 : Int32)), (.ref b3), (.int (0 : Int32)), (.int (3 : Int32))] below meth c s₁ [] 0 0 := Stand.of_body Bd
  have e0 : s₁.heap = h0 := by rw [← hh, Bd.state]; rfl
  have Nf0 := Fr.nil n0
  obtain ⟨Gl, hGl, kn0⟩ := own_gl (p := p) (e := e) (below := below) (s₁ := s₁) (ef_rm12_3_2 m a1 b3)
  have kn1 : ∀ t, own_S p e below s₁ (mkF m 12 #[.val (.ref a1), .val (.int 0), .val (.ref b3), .val (.int 0), .val (.int 3), .val (.int 0), .unset] [(.int 0), (.ref a1)]) t → Gl t := fun t kt => kn0 t (by
    show own_S p e below s₁ (mkF m 0 #[.val (.ref a1), .val (.int 0), .val (.ref b3), .val (.int 0), .val (.int 3), .unset, .unset] []) _
    refine XS.iconst X0.here hx rfl (hb hby d12_0) ?_
    refine XS.istore X0.here hx rfl (hb hby d12_1) rfl (l' := #[.val (.ref a1), .val (.int 0), .val (.ref b3), .val (.int 0), .val (.int 3), .val (.int 0), .unset]) rfl ?_
    refine XS.iload X0.here hx rfl (hb hby d12_3) rfl ?_
    refine XS.iload X0.here hx rfl (hb hby d12_5) rfl ?_
    refine XS.icmpNo X0.here hx rfl (hb hby d12_7) rfl (tlt (by decide : (0 : Int32) < (3 : Int32))).2.1 ?_
    refine XS.aloadN X0.here hx rfl (hb hby d12_10) rfl rfl ?_
    refine XS.iloadN X0.here hx rfl (hb hby d12_11) rfl ?_
    exact kt)
  obtain ⟨cl2, Ar2, q2, Sz2, Ng2, Hs2, Gs2⟩ := id A1
  have hin2 : ¬ ((0 : Int32) < 0 ∨ cl2.slots.size ≤ ((0 : Int32)).toNatClampNeg) := inb_of Sz2 ⟨by decide, by decide⟩
  have hat2 : cl2.slots[((0 : Int32)).toNatClampNeg]? = some (.int c0) := Hs2.at hin2 rfl
  have kn3 : ∀ t, own_S p e below s₁ (mkF m 20 #[.val (.ref a1), .val (.int 0), .val (.ref b3), .val (.int 0), .val (.int 3), .val (.int 0), .val (.int c0)] [(.int 255), (.int c0)]) t → Gl t := fun t kt => kn1 t (by
    show own_S p e below s₁ (mkF m 12 #[.val (.ref a1), .val (.int 0), .val (.ref b3), .val (.int 0), .val (.int 3), .val (.int 0), .unset] [(.int 0), (.ref a1)]) _
    refine X0.caload hx (j := (0 : Int32)) (v := (.int c0)) (by rw [e0]; exact Ar2.1) (State.isArrayOf_alike hZ.alike Ar2.2.1) Ar2.2.2 hin2 hat2 (g := (mkF m 12 #[.val (.ref a1), .val (.int 0), .val (.ref b3), .val (.int 0), .val (.int 3), .val (.int 0), .unset] [(.int 0), (.ref a1)])) rfl rfl (hb hby d12_12) _ ?_
    refine XS.istore X0.here hx rfl (hb hby d12_13) rfl (l' := #[.val (.ref a1), .val (.int 0), .val (.ref b3), .val (.int 0), .val (.int 3), .val (.int 0), .val (.int c0)]) rfl ?_
    refine XS.iload X0.here hx rfl (hb hby d12_15) rfl ?_
    refine XS.sipush X0.here hx rfl (hb hby d12_17) ?_
    exact kt)
  have hc20_4 : ¬ ((255 : Int32) < c0) := wq0
  have kn5 : ∀ t, own_S p e below s₁ (mkF m 31 #[.val (.ref a1), .val (.int 0), .val (.ref b3), .val (.int 0), .val (.int 3), .val (.int 0), .val (.int c0)] [(.int (c0.toInt8.toInt32)), (.int 0), (.ref b3)]) t → Gl t := fun t kt => kn3 t (by
    show own_S p e below s₁ (mkF m 20 #[.val (.ref a1), .val (.int 0), .val (.ref b3), .val (.int 0), .val (.int 3), .val (.int 0), .val (.int c0)] [(.int 255), (.int c0)]) _
    refine XS.icmpYes X0.here hx rfl (pc0 := 20) (pc' := 26) rfl (hb hby d12_20) rfl (flt hc20_4).2.2.2 (by decide) (by decide) ?_
    refine XS.aloadN X0.here hx rfl (hb hby d12_26) rfl rfl ?_
    refine XS.iloadN X0.here hx rfl (hb hby d12_27) rfl ?_
    refine XS.iload X0.here hx rfl (hb hby d12_28) rfl ?_
    refine XS.i2b X0.here hx rfl (hb hby d12_30) rfl ?_
    exact kt)
  obtain ⟨cl6, Ar6, q6, Sz6, Ng6, Hs6, Gs6⟩ := id A3
  have hin6 : ¬ ((0 : Int32) < 0 ∨ cl6.slots.size ≤ ((0 : Int32)).toNatClampNeg) := inb_of Sz6 ⟨by decide, by decide⟩
  obtain ⟨T6, h6, X6, e6, W6, st6⟩ := stB X0 hx hZ e0 Ar6 (j := (0 : Int32)) hin6 (g := (mkF m 31 #[.val (.ref a1), .val (.int 0), .val (.ref b3), .val (.int 0), .val (.int 3), .val (.int 0), .val (.int c0)] [(.int (c0.toInt8.toInt32)), (.int 0), (.ref b3)])) rfl rfl (hb hby d12_31)
  have Z7 := Nat.le_trans Z0 (Keep.of_wr W6).1
  have K8 := (Keep.refl h0 [b3]).wr W6 (Or.inl (List.mem_of_getElem? (i := 0) rfl))
  have V6 : Arv Z h6 b3 kb .byte (3 : Int32) [(.int ((c0.toInt8.toInt32).toInt8.toInt32)), (.int (0 : Int32)), (.int (0 : Int32))] (.int (0 : Int32)) := Arv.set Ar6 q6 Sz6 Ng6 Hs6 Gs6 (fits_nar_byte _) W6 0 rfl (Nat.le_of_ble_eq_true rfl)
  have Nf9 := Fr.snoc X6 Nf0 g_b3
  have kn10 : ∀ t, own_S p e below T6 (mkF m 12 #[.val (.ref a1), .val (.int 1), .val (.ref b3), .val (.int 1), .val (.int 3), .val (.int 1), .val (.int c0)] [(.int 1), (.ref a1)]) t → Gl t := fun t kt => kn5 t (st6 _ (by
    show own_S p e below T6 (mkF m 32 #[.val (.ref a1), .val (.int 0), .val (.ref b3), .val (.int 0), .val (.int 3), .val (.int 0), .val (.int c0)] []) _
    refine XS.iinc X6.here hx rfl (hb hby d12_32) rfl (l' := #[.val (.ref a1), .val (.int ((0 : Int32) + (1 : Int32))), .val (.ref b3), .val (.int 0), .val (.int 3), .val (.int 0), .val (.int c0)]) rfl ?_
    rw [(by decide : ((0 : Int32) + (1 : Int32)) = (1 : Int32))]
    show own_S p e below T6 (mkF m 35 #[.val (.ref a1), .val (.int 1), .val (.ref b3), .val (.int 0), .val (.int 3), .val (.int 0), .val (.int c0)] []) _
    refine XS.iinc X6.here hx rfl (hb hby d12_35) rfl (l' := #[.val (.ref a1), .val (.int 1), .val (.ref b3), .val (.int ((0 : Int32) + (1 : Int32))), .val (.int 3), .val (.int 0), .val (.int c0)]) rfl ?_
    rw [(by decide : ((0 : Int32) + (1 : Int32)) = (1 : Int32))]
    show own_S p e below T6 (mkF m 38 #[.val (.ref a1), .val (.int 1), .val (.ref b3), .val (.int 1), .val (.int 3), .val (.int 0), .val (.int c0)] []) _
    refine XS.iinc X6.here hx rfl (hb hby d12_38) rfl (l' := #[.val (.ref a1), .val (.int 1), .val (.ref b3), .val (.int 1), .val (.int 3), .val (.int ((0 : Int32) + (1 : Int32))), .val (.int c0)]) rfl ?_
    rw [(by decide : ((0 : Int32) + (1 : Int32)) = (1 : Int32))]
    refine XS.goto X6.here hx rfl (pc0 := 41) (pc' := 3) rfl (hb hby d12_41) (by decide) (by decide) ?_
    refine XS.iload X6.here hx rfl (hb hby d12_3) rfl ?_
    refine XS.iload X6.here hx rfl (hb hby d12_5) rfl ?_
    refine XS.icmpNo X6.here hx rfl (hb hby d12_7) rfl (tlt (by decide : (1 : Int32) < (3 : Int32))).2.1 ?_
    refine XS.aloadN X6.here hx rfl (hb hby d12_10) rfl rfl ?_
    refine XS.iloadN X6.here hx rfl (hb hby d12_11) rfl ?_
    exact kt))
  have f11 := (A1.other W6 nab)
  obtain ⟨cl12, Ar12, q12, Sz12, Ng12, Hs12, Gs12⟩ := id f11
  have hin12 : ¬ ((1 : Int32) < 0 ∨ cl12.slots.size ≤ ((1 : Int32)).toNatClampNeg) := inb_of Sz12 ⟨by decide, by decide⟩
  have hat12 : cl12.slots[((1 : Int32)).toNatClampNeg]? = some (.int c1) := Hs12.at hin12 rfl
  have kn13 : ∀ t, own_S p e below T6 (mkF m 20 #[.val (.ref a1), .val (.int 1), .val (.ref b3), .val (.int 1), .val (.int 3), .val (.int 1), .val (.int c1)] [(.int 255), (.int c1)]) t → Gl t := fun t kt => kn10 t (by
    show own_S p e below T6 (mkF m 12 #[.val (.ref a1), .val (.int 1), .val (.ref b3), .val (.int 1), .val (.int 3), .val (.int 1), .val (.int c0)] [(.int 1), (.ref a1)]) _
    refine X6.caload hx (j := (1 : Int32)) (v := (.int c1)) (by rw [e6]; exact Ar12.1) (State.isArrayOf_alike hZ.alike Ar12.2.1) Ar12.2.2 hin12 hat12 (g := (mkF m 12 #[.val (.ref a1), .val (.int 1), .val (.ref b3), .val (.int 1), .val (.int 3), .val (.int 1), .val (.int c0)] [(.int 1), (.ref a1)])) rfl rfl (hb hby d12_12) _ ?_
    refine XS.istore X6.here hx rfl (hb hby d12_13) rfl (l' := #[.val (.ref a1), .val (.int 1), .val (.ref b3), .val (.int 1), .val (.int 3), .val (.int 1), .val (.int c1)]) rfl ?_
    refine XS.iload X6.here hx rfl (hb hby d12_15) rfl ?_
    refine XS.sipush X6.here hx rfl (hb hby d12_17) ?_
    exact kt)
  have hc20_14 : ¬ ((255 : Int32) < c1) := wq1
  have kn15 : ∀ t, own_S p e below T6 (mkF m 31 #[.val (.ref a1), .val (.int 1), .val (.ref b3), .val (.int 1), .val (.int 3), .val (.int 1), .val (.int c1)] [(.int (c1.toInt8.toInt32)), (.int 1), (.ref b3)]) t → Gl t := fun t kt => kn13 t (by
    show own_S p e below T6 (mkF m 20 #[.val (.ref a1), .val (.int 1), .val (.ref b3), .val (.int 1), .val (.int 3), .val (.int 1), .val (.int c1)] [(.int 255), (.int c1)]) _
    refine XS.icmpYes X6.here hx rfl (pc0 := 20) (pc' := 26) rfl (hb hby d12_20) rfl (flt hc20_14).2.2.2 (by decide) (by decide) ?_
    refine XS.aloadN X6.here hx rfl (hb hby d12_26) rfl rfl ?_
    refine XS.iloadN X6.here hx rfl (hb hby d12_27) rfl ?_
    refine XS.iload X6.here hx rfl (hb hby d12_28) rfl ?_
    refine XS.i2b X6.here hx rfl (hb hby d12_30) rfl ?_
    exact kt)
  obtain ⟨cl16, Ar16, q16, Sz16, Ng16, Hs16, Gs16⟩ := id V6
  have hin16 : ¬ ((1 : Int32) < 0 ∨ cl16.slots.size ≤ ((1 : Int32)).toNatClampNeg) := inb_of Sz16 ⟨by decide, by decide⟩
  obtain ⟨T16, h16, X16, e16, W16, st16⟩ := stB X6 hx hZ e6 Ar16 (j := (1 : Int32)) hin16 (g := (mkF m 31 #[.val (.ref a1), .val (.int 1), .val (.ref b3), .val (.int 1), .val (.int 3), .val (.int 1), .val (.int c1)] [(.int (c1.toInt8.toInt32)), (.int 1), (.ref b3)])) rfl rfl (hb hby d12_31)
  have Z17 := Nat.le_trans Z7 (Keep.of_wr W16).1
  have K18 := K8.wr W16 (Or.inl (List.mem_of_getElem? (i := 0) rfl))
  have V16 : Arv Z h16 b3 kb .byte (3 : Int32) [(.int ((c0.toInt8.toInt32).toInt8.toInt32)), (.int ((c1.toInt8.toInt32).toInt8.toInt32)), (.int (0 : Int32))] (.int (0 : Int32)) := Arv.set Ar16 q16 Sz16 Ng16 Hs16 Gs16 (fits_nar_byte _) W16 1 rfl (Nat.le_of_ble_eq_true rfl)
  have Nf19 := Fr.snoc X16 Nf9 g_b3
  have kn20 : ∀ t, own_S p e below T16 (mkF m 12 #[.val (.ref a1), .val (.int 2), .val (.ref b3), .val (.int 2), .val (.int 3), .val (.int 2), .val (.int c1)] [(.int 2), (.ref a1)]) t → Gl t := fun t kt => kn15 t (st16 _ (by
    show own_S p e below T16 (mkF m 32 #[.val (.ref a1), .val (.int 1), .val (.ref b3), .val (.int 1), .val (.int 3), .val (.int 1), .val (.int c1)] []) _
    refine XS.iinc X16.here hx rfl (hb hby d12_32) rfl (l' := #[.val (.ref a1), .val (.int ((1 : Int32) + (1 : Int32))), .val (.ref b3), .val (.int 1), .val (.int 3), .val (.int 1), .val (.int c1)]) rfl ?_
    rw [(by decide : ((1 : Int32) + (1 : Int32)) = (2 : Int32))]
    show own_S p e below T16 (mkF m 35 #[.val (.ref a1), .val (.int 2), .val (.ref b3), .val (.int 1), .val (.int 3), .val (.int 1), .val (.int c1)] []) _
    refine XS.iinc X16.here hx rfl (hb hby d12_35) rfl (l' := #[.val (.ref a1), .val (.int 2), .val (.ref b3), .val (.int ((1 : Int32) + (1 : Int32))), .val (.int 3), .val (.int 1), .val (.int c1)]) rfl ?_
    rw [(by decide : ((1 : Int32) + (1 : Int32)) = (2 : Int32))]
    show own_S p e below T16 (mkF m 38 #[.val (.ref a1), .val (.int 2), .val (.ref b3), .val (.int 2), .val (.int 3), .val (.int 1), .val (.int c1)] []) _
    refine XS.iinc X16.here hx rfl (hb hby d12_38) rfl (l' := #[.val (.ref a1), .val (.int 2), .val (.ref b3), .val (.int 2), .val (.int 3), .val (.int ((1 : Int32) + (1 : Int32))), .val (.int c1)]) rfl ?_
    rw [(by decide : ((1 : Int32) + (1 : Int32)) = (2 : Int32))]
    refine XS.goto X16.here hx rfl (pc0 := 41) (pc' := 3) rfl (hb hby d12_41) (by decide) (by decide) ?_
    refine XS.iload X16.here hx rfl (hb hby d12_3) rfl ?_
    refine XS.iload X16.here hx rfl (hb hby d12_5) rfl ?_
    refine XS.icmpNo X16.here hx rfl (hb hby d12_7) rfl (tlt (by decide : (2 : Int32) < (3 : Int32))).2.1 ?_
    refine XS.aloadN X16.here hx rfl (hb hby d12_10) rfl rfl ?_
    refine XS.iloadN X16.here hx rfl (hb hby d12_11) rfl ?_
    exact kt))
  have f21 := (f11.other W16 nab)
  obtain ⟨cl22, Ar22, q22, Sz22, Ng22, Hs22, Gs22⟩ := id f21
  have hin22 : ¬ ((2 : Int32) < 0 ∨ cl22.slots.size ≤ ((2 : Int32)).toNatClampNeg) := inb_of Sz22 ⟨by decide, by decide⟩
  have hat22 : cl22.slots[((2 : Int32)).toNatClampNeg]? = some (.int c2) := Hs22.at hin22 rfl
  have kn23 : ∀ t, own_S p e below T16 (mkF m 20 #[.val (.ref a1), .val (.int 2), .val (.ref b3), .val (.int 2), .val (.int 3), .val (.int 2), .val (.int c2)] [(.int 255), (.int c2)]) t → Gl t := fun t kt => kn20 t (by
    show own_S p e below T16 (mkF m 12 #[.val (.ref a1), .val (.int 2), .val (.ref b3), .val (.int 2), .val (.int 3), .val (.int 2), .val (.int c1)] [(.int 2), (.ref a1)]) _
    refine X16.caload hx (j := (2 : Int32)) (v := (.int c2)) (by rw [e16]; exact Ar22.1) (State.isArrayOf_alike hZ.alike Ar22.2.1) Ar22.2.2 hin22 hat22 (g := (mkF m 12 #[.val (.ref a1), .val (.int 2), .val (.ref b3), .val (.int 2), .val (.int 3), .val (.int 2), .val (.int c1)] [(.int 2), (.ref a1)])) rfl rfl (hb hby d12_12) _ ?_
    refine XS.istore X16.here hx rfl (hb hby d12_13) rfl (l' := #[.val (.ref a1), .val (.int 2), .val (.ref b3), .val (.int 2), .val (.int 3), .val (.int 2), .val (.int c2)]) rfl ?_
    refine XS.iload X16.here hx rfl (hb hby d12_15) rfl ?_
    refine XS.sipush X16.here hx rfl (hb hby d12_17) ?_
    exact kt)
  have hc20_24 : (255 : Int32) < c2 := wq2
  have kn25 : ∀ t, own_S p e below T16 (mkF m 25 #[.val (.ref a1), .val (.int 2), .val (.ref b3), .val (.int 2), .val (.int 3), .val (.int 2), .val (.int c2)] [(.int 2)]) t → Gl t := fun t kt => kn23 t (by
    show own_S p e below T16 (mkF m 20 #[.val (.ref a1), .val (.int 2), .val (.ref b3), .val (.int 2), .val (.int 3), .val (.int 2), .val (.int c2)] [(.int 255), (.int c2)]) _
    refine XS.icmpNo X16.here hx rfl (hb hby d12_20) rfl (tlt hc20_24).2.2.2 ?_
    refine XS.iload X16.here hx rfl (hb hby d12_23) rfl ?_
    exact kt)
  obtain ⟨fs, hr, hrun, hended, hW, hsame⟩ := X16.leave (v := some (.int (2 : Int32))) (fun h => by rw [Bd.returns] at h; cases h)
  refine ⟨_, _, hGl _ (kn25 _ (retI X16 hx Bd.returns (hb hby d12_25) hr)), hrun, hended, _, _, rfl, ?_, ⟨_, rfl⟩, hW, hsame.mono (by decide) (by decide)⟩
  show Q12_3_2 Z a1 b3 ka kb c0 c1 c2 h0 n0 _ T16.heap _
  rw [e16]
  exact ⟨rfl, Nf19, K18⟩

theorem ef_rm23_3 (m : MethodId)  : entryFrame m #[(.int (3 : Int32))] 1 = mkF m 0 #[.val (.int (3 : Int32))] [] := by first | (simp [entryFrame, mkF, argsToLocals, Value.category]; done) | rfl
def Q23_3 (Z : State)  (h0 : Heap) (n0 : Nat) (v : Option Value) (h : Heap) (L : List Loc) : Prop := v = some (.int (6 : Int32)) ∧ Fr n0 L ∧ h = h0
theorem rm23_3 (l : Launch) (Z : State) (a0 : Array Value) (hw : ∀ d ∈ tables_1, d.before a0 Z = true) (ws : List Jvm.Cond)  (h0 : Heap) (n0 : Nat) (Z0 : n0 ≤ h0.size) :
    MetFree l mN17 (head1 (Jvm.Cond.code mN17 jdk_52_method_3_code 1 (some .int) :: ws) (own_r 0 0 0 0)) (fun a U => a = #[(.int (3 : Int32))] ∧ Z.Warmed39 U.vm ∧ U.heap = h0) (fun _ _ _ _ _ => True) (fun _ U o U' => ∃ v L, o = .returned v ∧ Q23_3 Z  h0 n0 v U'.heap L ∧ FrameEnd U o U' L (own_r 0 0 0 0).cells (own_r 0 0 0 0).slots) := by
  refine MetFree.of_bodySF (plainFor_of_name pn_4) hisR ?_
  intro p e s m args below meth c s₁ Bd hml0 hP hK
  obtain ⟨rfl, hZ, hh⟩ := hP
  have hx := Bd.exec
  have hby := Bd.bytes
  have hml : c.maxLocals = 1 := hml0
  have hown : s.vm.findClass "java/lang/StringUTF16" = some m.cls := findClass_of_methodNamed Bd.named
  have hnm := (name_of_methodNamed Bd.named Bd.method).1
  have X0 : Stand p l e (own_r 0 0 0 0) s m #[(.int (3 : Int32))] below meth c s₁ [] 0 0 := Stand.of_body Bd
  have e0 : s₁.heap = h0 := by rw [← hh, Bd.state]; rfl
  have Nf0 := Fr.nil n0
  obtain ⟨Gl, hGl, kn0⟩ := own_gl (p := p) (e := e) (below := below) (s₁ := s₁) (ef_rm23_3 m )
  have kn1 : ∀ t, own_S p e below s₁ (mkF m 58 #[.val (.int 3)] [(.int 6)]) t → Gl t := fun t kt => kn0 t (by
    show own_S p e below s₁ (mkF m 0 #[.val (.int 3)] []) _
    refine XS.iloadN X0.here hx rfl (hb hby d23_0) rfl ?_
    refine XS.ifYes X0.here hx rfl (pc0 := 1) (pc' := 12) rfl (hb hby d23_1) rfl ((if0 _ _).trans (flt (by decide : ¬ ((3 : Int32) < (0 : Int32)))).2.1) (by decide) (by decide) ?_
    refine XS.iloadN X0.here hx rfl (hb hby d23_12) rfl ?_
    refine X0.ldcInt hx hown (mvT hZ (own_w hw 102 rfl)) (g := (mkF m 13 #[.val (.int 3)] [(.int 3)])) rfl (hb hby d23_13) _ ?_
    refine XS.icmpYes X0.here hx rfl (pc0 := 15) (pc' := 55) rfl (hb hby d23_15) rfl (tlt (by decide : (3 : Int32) < (1073741823 : Int32))).1 (by decide) (by decide) ?_
    refine XS.iloadN X0.here hx rfl (hb hby d23_55) rfl ?_
    refine XS.iconst X0.here hx rfl (hb hby d23_56) ?_
    show own_S p e below s₁ (mkF m 57 #[.val (.int 3)] [(.int 1), (.int 3)]) _
    refine XS.ishl X0.here hx rfl (hb hby d23_57) rfl ?_
    rw [(by decide : ((3 : Int32) <<< ((1 : Int32) &&& 31)) = (6 : Int32))]
    exact kt)
  obtain ⟨fs, hr, hrun, hended, hW, hsame⟩ := X0.leave (v := some (.int (6 : Int32))) (fun h => by rw [Bd.returns] at h; cases h)
  refine ⟨_, _, hGl _ (kn1 _ (retI X0 hx Bd.returns (hb hby d23_58) hr)), hrun, hended, _, _, rfl, ?_, ⟨_, rfl⟩, hW, hsame.mono (by decide) (by decide)⟩
  show Q23_3 Z  h0 n0 _ s₁.heap _
  rw [e0]
  exact ⟨rfl, Nf0, rfl⟩

theorem ef_rm22_3 (m : MethodId)  : entryFrame m #[(.int (3 : Int32))] 1 = mkF m 0 #[.val (.int (3 : Int32))] [] := by first | (simp [entryFrame, mkF, argsToLocals, Value.category]; done) | rfl
def Q22_3 (Z : State)  (h0 : Heap) (n0 : Nat) (v : Option Value) (h : Heap) (L : List Loc) : Prop := ∃ (b : Addr) (kb : ClassId), v = some (.ref b) ∧ Fr n0 L ∧ n0 ≤ b ∧ h0.size ≤ b ∧ Keep h0 h [] ∧ Arv Z h b kb .byte (6 : Int32) [(.int (0 : Int32)), (.int (0 : Int32)), (.int (0 : Int32)), (.int (0 : Int32)), (.int (0 : Int32)), (.int (0 : Int32))] (.int (0 : Int32))
theorem rm22_3 (l : Launch) (Z : State) (a0 : Array Value) (hw : ∀ d ∈ tables_1, d.before a0 Z = true) (ws : List Jvm.Cond)  (h0 : Heap) (n0 : Nat) (Z0 : n0 ≤ h0.size) :
    MetFree l mN18 (head1 (Jvm.Cond.code mN18 jdk_52_method_2_code 1 (some (.array .byte)) :: ws) (own_r 1 1 6 12)) (fun a U => a = #[(.int (3 : Int32))] ∧ Z.Warmed39 U.vm ∧ U.heap = h0) (fun _ _ _ _ _ => True) (fun _ U o U' => ∃ v L, o = .returned v ∧ Q22_3 Z  h0 n0 v U'.heap L ∧ FrameEnd U o U' L (own_r 1 1 6 12).cells (own_r 1 1 6 12).slots) := by
  refine MetFree.of_bodySF (plainFor_of_name pn_4) hisR ?_
  intro p e s m args below meth c s₁ Bd hml0 hP hK
  obtain ⟨rfl, hZ, hh⟩ := hP
  have hx := Bd.exec
  have hby := Bd.bytes
  have hml : c.maxLocals = 1 := hml0
  have hown : s.vm.findClass "java/lang/StringUTF16" = some m.cls := findClass_of_methodNamed Bd.named
  have hnm := (name_of_methodNamed Bd.named Bd.method).1
  have X0 : Stand p l e (own_r 1 1 6 12) s m #[(.int (3 : Int32))] below meth c s₁ [] 0 0 := Stand.of_body Bd
  have e0 : s₁.heap = h0 := by rw [← hh, Bd.state]; rfl
  have Nf0 := Fr.nil n0
  obtain ⟨Gl, hGl, kn0⟩ := own_gl (p := p) (e := e) (below := below) (s₁ := s₁) (ef_rm22_3 m )
  have kn1 : ∀ t, own_S p e below s₁ (mkF m 1 #[.val (.int 3)] [(.int 3)]) t → Gl t := fun t kt => kn0 t (by
    show own_S p e below s₁ (mkF m 0 #[.val (.int 3)] []) _
    refine XS.iloadN X0.here hx rfl (hb hby d22_0) rfl ?_
    exact kt)
  obtain ⟨_, _, ⟨T2, L2, cc2, ss2⟩, -, X2, ⟨Lc2, hQ2, l2, y2, z2⟩, st2⟩ := Jvm.LawKit.callS X0 hx (y := mN17) hown (mvT hZ (own_w hw 99 rfl)) (mvT hZ (own_w hw 100 rfl)) (mvT hZ (own_w hw 54 rfl)) (mvT hZ (own_w hw 101 rfl)) (by decide) (backOf (W := 0) (rm23_3 l Z a0 hw []   h0 n0 Z0 ) hZ (own_w hw 101 rfl) (own_w hw 54 rfl) (by decide) (by decide)) (g := (mkF m 1 #[.val (.int 3)] [(.int 3)])) rfl (by rw [hml]; rfl) (argsL := [(.int 3)]) (rest := []) (lenOf pd_1 rfl) rfl (by show 2 * 0 + _ ≤ _; exact Nat.le_of_eq rfl) (hb hby d22_1) (fun _ _ => ⟨rfl, e0, (by decide : 0 + 0 ≤ _), (by decide : 0 + 0 ≤ _)⟩)
  dsimp only [Pt.U, Pt.locs, Pt.cells, Pt.slots] at X2 l2 y2 z2 st2 hQ2
  subst l2 y2 z2
  have X2 : Stand p l e _ _ m _ below meth c T2 _ 0 0 := X2
  obtain ⟨rfl, Nq2, eq2⟩ := hQ2
  have Nf2 := Fr.app Nf0 Nq2
  obtain ⟨T3, h3, kk3, X3, e3, E3, A3, st3⟩ := newP X2 hx hZ (own_w hw 20 rfl) eq2 (g := (mkF m 4 #[.val (.int 3)] [(.int 6)])) rfl (hb hby d22_4) rfl (by decide) (cap := 6) (by decide) (by decide) (by decide) (by decide)
  obtain ⟨b3, g3⟩ : ∃ z, z = h0.size := ⟨_, rfl⟩
  rw [← g3] at A3 st3
  have sz_b3 : h0.size ≤ b3 := Nat.le_trans (Keep.refl h0 []).1 (Nat.le_of_eq g3.symm)
  have g_b3 : n0 ≤ b3 := Nat.le_trans Z0 (Nat.le_of_eq g3.symm)
  have Z4 := Nat.le_trans Z0 E3.1
  have K5 := (Keep.refl h0 []).ext E3
  have V3 : Arv Z h3 b3 kk3 .byte (6 : Int32) [(.int (0 : Int32)), (.int (0 : Int32)), (.int (0 : Int32)), (.int (0 : Int32)), (.int (0 : Int32)), (.int (0 : Int32))] (.int (0 : Int32)) := (Arv.new A3 (by decide)).pad (pad_rep [] (.int (0 : Int32)) 6)
  obtain ⟨fs, hr, hrun, hended, hW, hsame⟩ := X3.leave (v := some (.ref b3)) (fun h => by rw [Bd.returns] at h; cases h)
  refine ⟨_, _, hGl _ (kn1 _ (st2 _ (st3 _ (by
      show own_S p e below T3 (mkF m 6 #[.val (.int 3)] [(.ref b3)]) _
      jvm_step X3.here [X3.here.top, hx, (hb hby d22_6), X3.method', Bd.returns, Value.isRef, FieldType.isReference]
      first | (intro acts; rw [hr _ acts rfl rfl rfl]) | rw [hr _ _ rfl rfl rfl]
      exact Steps.refl _)))), hrun, hended, _, _, rfl, ?_, ⟨_, rfl⟩, hW, hsame.mono (by decide) (by decide)⟩
  show Q22_3 Z  h0 n0 _ T3.heap _
  rw [e3]
  exact ⟨b3, _, rfl, Nf2, g_b3, sz_b3, K5, V3⟩

theorem ef_rm24_3_0 (m : MethodId) (x0 : Addr) (x2 : Int32) : entryFrame m #[(.ref x0), (.int (0 : Int32)), (.int x2)] 3 = mkF m 0 #[.val (.ref x0), .val (.int (0 : Int32)), .val (.int x2)] [] := by first | (simp [entryFrame, mkF, argsToLocals, Value.category]; done) | rfl
def Q24_3_0 (Z : State) (b1 : Addr) (cc : Int32) (kb : ClassId) (v0 : Value) (v1 : Value) (v2 : Value) (v3 : Value) (v4 : Value) (v5 : Value) (h0 : Heap) (n0 : Nat) (v : Option Value) (h : Heap) (L : List Loc) : Prop := v = none ∧ Fr n0 L ∧ Keep h0 h [b1] ∧ Arv Z h b1 kb .byte (6 : Int32) [(.int (StrChars.lo8 cc)), (.int (StrChars.hi8 cc)), v2, v3, v4, v5] (.int (0 : Int32))
theorem rm24_3_0 (l : Launch) (Z : State) (a0 : Array Value) (hw : ∀ d ∈ tables_1, d.before a0 Z = true) (ws : List Jvm.Cond) (b1 : Addr) (cc : Int32) (kb : ClassId) (v0 : Value) (v1 : Value) (v2 : Value) (v3 : Value) (v4 : Value) (v5 : Value) (h0 : Heap) (n0 : Nat) (Z0 : n0 ≤ h0.size) (A1 : Arv Z h0 b1 kb .byte (6 : Int32) [v0, v1, v2, v3, v4, v5] (.int (0 : Int32))) (g_b1 : n0 ≤ b1) (O0 : Old Z n0 h0) (U1 : Sta Z Z.heap "java/lang/StringUTF16" "$assertionsDisabled" "Z" (.int (1 : Int32))) (U2 : Sta Z Z.heap "java/lang/StringUTF16" "HI_BYTE_SHIFT" "I" (.int (0 : Int32))) (U3 : Sta Z Z.heap "java/lang/StringUTF16" "LO_BYTE_SHIFT" "I" (.int (8 : Int32))) :
    MetFree l mN19 (head1 (Jvm.Cond.code mN19 jdk_52_method_4_code 3 none :: ws) (own_r 0 0 0 0)) (fun a U => a = #[(.ref b1), (.int (0 : Int32)), (.int cc)] ∧ Z.Warmed39 U.vm ∧ U.heap = h0) (fun _ _ _ _ _ => True) (fun _ U o U' => ∃ v L, o = .returned v ∧ Q24_3_0 Z b1 cc kb v0 v1 v2 v3 v4 v5 h0 n0 v U'.heap L ∧ FrameEnd U o U' L (own_r 0 0 0 0).cells (own_r 0 0 0 0).slots) := by
  refine MetFree.of_bodySF (plainFor_of_name pn_4) hisR ?_
  intro p e s m args below meth c s₁ Bd hml0 hP hK
  obtain ⟨rfl, hZ, hh⟩ := hP
  have hx := Bd.exec
  have hby := Bd.bytes
  have hml : c.maxLocals = 3 := hml0
  have hown : s.vm.findClass "java/lang/StringUTF16" = some m.cls := findClass_of_methodNamed Bd.named
  have hnm := (name_of_methodNamed Bd.named Bd.method).1
  have X0 : Stand p l e (own_r 0 0 0 0) s m #[(.ref b1), (.int (0 : Int32)), (.int cc)] below meth c s₁ [] 0 0 := Stand.of_body Bd
  have e0 : s₁.heap = h0 := by rw [← hh, Bd.state]; rfl
  have Nf0 := Fr.nil n0
  obtain ⟨Gl, hGl, kn0⟩ := own_gl (p := p) (e := e) (below := below) (s₁ := s₁) (ef_rm24_3_0 m b1 cc)
  obtain ⟨T1, X1, e1, st1⟩ := getS2 X0 hx hZ hown (host := "") (Or.inl (own_w hw 106 rfl)) Via.refl e0 (U1.ext O0.2) (g := (mkF m 0 #[.val (.ref b1), .val (.int 0), .val (.int cc)] [])) rfl (hb hby d24_0)
  have kn2 : ∀ t, own_S p e below T1 (mkF m 38 #[.val (.ref b1), .val (.int 1), .val (.int cc)] [(.int cc), (.int 0), (.ref b1)]) t → Gl t := fun t kt => kn0 t (st1 _ (by
    show own_S p e below T1 (mkF m 3 #[.val (.ref b1), .val (.int 0), .val (.int cc)] [(.int 1)]) _
    refine XS.ifYes X1.here hx rfl (pc0 := 3) (pc' := 28) rfl (hb hby d24_3) rfl ((if0 _ _).trans (feq (by decide : ¬ ((1 : Int32) = (0 : Int32)))).2) (by decide) (by decide) ?_
    refine XS.iloadN X1.here hx rfl (hb hby d24_28) rfl ?_
    refine XS.iconst X1.here hx rfl (hb hby d24_29) ?_
    show own_S p e below T1 (mkF m 30 #[.val (.ref b1), .val (.int 0), .val (.int cc)] [(.int 1), (.int 0)]) _
    refine XS.ishl X1.here hx rfl (hb hby d24_30) rfl ?_
    rw [(by decide : ((0 : Int32) <<< ((1 : Int32) &&& 31)) = (0 : Int32))]
    refine XS.istoreN X1.here hx rfl (hb hby d24_31) rfl (l' := #[.val (.ref b1), .val (.int 0), .val (.int cc)]) rfl ?_
    refine XS.aloadN X1.here hx rfl (hb hby d24_32) rfl rfl ?_
    refine XS.iloadN X1.here hx rfl (hb hby d24_33) rfl ?_
    show own_S p e below T1 (mkF m 34 #[.val (.ref b1), .val (.int 0), .val (.int cc)] [(.int 0), (.ref b1)]) _
    refine XS.iinc X1.here hx rfl (hb hby d24_34) rfl (l' := #[.val (.ref b1), .val (.int ((0 : Int32) + (1 : Int32))), .val (.int cc)]) rfl ?_
    rw [(by decide : ((0 : Int32) + (1 : Int32)) = (1 : Int32))]
    refine XS.iloadN X1.here hx rfl (hb hby d24_37) rfl ?_
    exact kt))
  obtain ⟨T3, X3, e3, st3⟩ := getS2 X1 hx hZ hown (host := "") (Or.inl (own_w hw 107 rfl)) Via.refl e1 (U2.ext O0.2) (g := (mkF m 38 #[.val (.ref b1), .val (.int 1), .val (.int cc)] [(.int cc), (.int 0), (.ref b1)])) rfl (hb hby d24_38)
  have kn4 : ∀ t, own_S p e below T3 (mkF m 43 #[.val (.ref b1), .val (.int 1), .val (.int cc)] [(.int ((cc >>> ((0 : Int32) &&& 31)).toInt8.toInt32)), (.int 0), (.ref b1)]) t → Gl t := fun t kt => kn2 t (st3 _ (by
    show own_S p e below T3 (mkF m 41 #[.val (.ref b1), .val (.int 1), .val (.int cc)] [(.int 0), (.int cc), (.int 0), (.ref b1)]) _
    refine XS.ishr X3.here hx rfl (hb hby d24_41) rfl ?_
    refine XS.i2b X3.here hx rfl (hb hby d24_42) rfl ?_
    exact kt))
  obtain ⟨cl5, Ar5, q5, Sz5, Ng5, Hs5, Gs5⟩ := id A1
  have hin5 : ¬ ((0 : Int32) < 0 ∨ cl5.slots.size ≤ ((0 : Int32)).toNatClampNeg) := inb_of Sz5 ⟨by decide, by decide⟩
  obtain ⟨T5, h5, X5, e5, W5, st5⟩ := stB X3 hx hZ e3 Ar5 (j := (0 : Int32)) hin5 (g := (mkF m 43 #[.val (.ref b1), .val (.int 1), .val (.int cc)] [(.int ((cc >>> ((0 : Int32) &&& 31)).toInt8.toInt32)), (.int 0), (.ref b1)])) rfl rfl (hb hby d24_43)
  have Z6 := Nat.le_trans Z0 (Keep.of_wr W5).1
  have Od7 := O0.wr W5 g_b1
  have K8 := (Keep.refl h0 [b1]).wr W5 (Or.inl (List.mem_of_getElem? (i := 0) rfl))
  have V5 : Arv Z h5 b1 kb .byte (6 : Int32) [(.int (((cc >>> ((0 : Int32) &&& 31)).toInt8.toInt32).toInt8.toInt32)), v1, v2, v3, v4, v5] (.int (0 : Int32)) := Arv.set Ar5 q5 Sz5 Ng5 Hs5 Gs5 (fits_nar_byte _) W5 0 rfl (Nat.le_of_ble_eq_true rfl)
  rw [(show (((cc >>> ((0 : Int32) &&& 31)).toInt8.toInt32).toInt8.toInt32) = (StrChars.lo8 cc) from own_lo cc)] at V5
  have Nf9 := Fr.snoc X5 Nf0 g_b1
  have kn10 : ∀ t, own_S p e below T5 (mkF m 47 #[.val (.ref b1), .val (.int 1), .val (.int cc)] [(.int cc), (.int 1), (.ref b1)]) t → Gl t := fun t kt => kn4 t (st5 _ (by
    show own_S p e below T5 (mkF m 44 #[.val (.ref b1), .val (.int 1), .val (.int cc)] []) _
    refine XS.aloadN X5.here hx rfl (hb hby d24_44) rfl rfl ?_
    refine XS.iloadN X5.here hx rfl (hb hby d24_45) rfl ?_
    refine XS.iloadN X5.here hx rfl (hb hby d24_46) rfl ?_
    exact kt))
  obtain ⟨T11, X11, e11, st11⟩ := getS2 X5 hx hZ hown (host := "") (Or.inl (own_w hw 108 rfl)) Via.refl e5 (U3.ext Od7.2) (g := (mkF m 47 #[.val (.ref b1), .val (.int 1), .val (.int cc)] [(.int cc), (.int 1), (.ref b1)])) rfl (hb hby d24_47)
  have kn12 : ∀ t, own_S p e below T11 (mkF m 52 #[.val (.ref b1), .val (.int 1), .val (.int cc)] [(.int ((cc >>> ((8 : Int32) &&& 31)).toInt8.toInt32)), (.int 1), (.ref b1)]) t → Gl t := fun t kt => kn10 t (st11 _ (by
    show own_S p e below T11 (mkF m 50 #[.val (.ref b1), .val (.int 1), .val (.int cc)] [(.int 8), (.int cc), (.int 1), (.ref b1)]) _
    refine XS.ishr X11.here hx rfl (hb hby d24_50) rfl ?_
    refine XS.i2b X11.here hx rfl (hb hby d24_51) rfl ?_
    exact kt))
  obtain ⟨cl13, Ar13, q13, Sz13, Ng13, Hs13, Gs13⟩ := id V5
  have hin13 : ¬ ((1 : Int32) < 0 ∨ cl13.slots.size ≤ ((1 : Int32)).toNatClampNeg) := inb_of Sz13 ⟨by decide, by decide⟩
  obtain ⟨T13, h13, X13, e13, W13, st13⟩ := stB X11 hx hZ e11 Ar13 (j := (1 : Int32)) hin13 (g := (mkF m 52 #[.val (.ref b1), .val (.int 1), .val (.int cc)] [(.int ((cc >>> ((8 : Int32) &&& 31)).toInt8.toInt32)), (.int 1), (.ref b1)])) rfl rfl (hb hby d24_52)
  have Z14 := Nat.le_trans Z6 (Keep.of_wr W13).1
  have Od15 := Od7.wr W13 g_b1
  have K16 := K8.wr W13 (Or.inl (List.mem_of_getElem? (i := 0) rfl))
  have V13 : Arv Z h13 b1 kb .byte (6 : Int32) [(.int (StrChars.lo8 cc)), (.int (((cc >>> ((8 : Int32) &&& 31)).toInt8.toInt32).toInt8.toInt32)), v2, v3, v4, v5] (.int (0 : Int32)) := Arv.set Ar13 q13 Sz13 Ng13 Hs13 Gs13 (fits_nar_byte _) W13 1 rfl (Nat.le_of_ble_eq_true rfl)
  rw [(show (((cc >>> ((8 : Int32) &&& 31)).toInt8.toInt32).toInt8.toInt32) = (StrChars.hi8 cc) from own_hi cc)] at V13
  have Nf17 := Fr.snoc X13 Nf9 g_b1
  obtain ⟨fs, hr, hrun, hended, hW, hsame⟩ := X13.leave (v := none) (fun _ => rfl)
  refine ⟨_, _, hGl _ (kn12 _ (st13 _ (X13.returnOut hx Bd.returns (hb hby d24_53) hr))), hrun, hended, _, _, rfl, ?_, ⟨_, rfl⟩, hW, hsame.mono (by decide) (by decide)⟩
  show Q24_3_0 Z b1 cc kb v0 v1 v2 v3 v4 v5 h0 n0 _ T13.heap _
  rw [e13]
  exact ⟨rfl, Nf17, K16, V13⟩

theorem ef_rm24_3_1 (m : MethodId) (x0 : Addr) (x2 : Int32) : entryFrame m #[(.ref x0), (.int (1 : Int32)), (.int x2)] 3 = mkF m 0 #[.val (.ref x0), .val (.int (1 : Int32)), .val (.int x2)] [] := by first | (simp [entryFrame, mkF, argsToLocals, Value.category]; done) | rfl
def Q24_3_1 (Z : State) (b1 : Addr) (cc : Int32) (kb : ClassId) (v0 : Value) (v1 : Value) (v2 : Value) (v3 : Value) (v4 : Value) (v5 : Value) (h0 : Heap) (n0 : Nat) (v : Option Value) (h : Heap) (L : List Loc) : Prop := v = none ∧ Fr n0 L ∧ Keep h0 h [b1] ∧ Arv Z h b1 kb .byte (6 : Int32) [v0, v1, (.int (StrChars.lo8 cc)), (.int (StrChars.hi8 cc)), v4, v5] (.int (0 : Int32))
theorem rm24_3_1 (l : Launch) (Z : State) (a0 : Array Value) (hw : ∀ d ∈ tables_1, d.before a0 Z = true) (ws : List Jvm.Cond) (b1 : Addr) (cc : Int32) (kb : ClassId) (v0 : Value) (v1 : Value) (v2 : Value) (v3 : Value) (v4 : Value) (v5 : Value) (h0 : Heap) (n0 : Nat) (Z0 : n0 ≤ h0.size) (A1 : Arv Z h0 b1 kb .byte (6 : Int32) [v0, v1, v2, v3, v4, v5] (.int (0 : Int32))) (g_b1 : n0 ≤ b1) (O0 : Old Z n0 h0) (U1 : Sta Z Z.heap "java/lang/StringUTF16" "$assertionsDisabled" "Z" (.int (1 : Int32))) (U2 : Sta Z Z.heap "java/lang/StringUTF16" "HI_BYTE_SHIFT" "I" (.int (0 : Int32))) (U3 : Sta Z Z.heap "java/lang/StringUTF16" "LO_BYTE_SHIFT" "I" (.int (8 : Int32))) :
    MetFree l mN19 (head1 (Jvm.Cond.code mN19 jdk_52_method_4_code 3 none :: ws) (own_r 0 0 0 0)) (fun a U => a = #[(.ref b1), (.int (1 : Int32)), (.int cc)] ∧ Z.Warmed39 U.vm ∧ U.heap = h0) (fun _ _ _ _ _ => True) (fun _ U o U' => ∃ v L, o = .returned v ∧ Q24_3_1 Z b1 cc kb v0 v1 v2 v3 v4 v5 h0 n0 v U'.heap L ∧ FrameEnd U o U' L (own_r 0 0 0 0).cells (own_r 0 0 0 0).slots) := by
  refine MetFree.of_bodySF (plainFor_of_name pn_4) hisR ?_
  intro p e s m args below meth c s₁ Bd hml0 hP hK
  obtain ⟨rfl, hZ, hh⟩ := hP
  have hx := Bd.exec
  have hby := Bd.bytes
  have hml : c.maxLocals = 3 := hml0
  have hown : s.vm.findClass "java/lang/StringUTF16" = some m.cls := findClass_of_methodNamed Bd.named
  have hnm := (name_of_methodNamed Bd.named Bd.method).1
  have X0 : Stand p l e (own_r 0 0 0 0) s m #[(.ref b1), (.int (1 : Int32)), (.int cc)] below meth c s₁ [] 0 0 := Stand.of_body Bd
  have e0 : s₁.heap = h0 := by rw [← hh, Bd.state]; rfl
  have Nf0 := Fr.nil n0
  obtain ⟨Gl, hGl, kn0⟩ := own_gl (p := p) (e := e) (below := below) (s₁ := s₁) (ef_rm24_3_1 m b1 cc)
  obtain ⟨T1, X1, e1, st1⟩ := getS2 X0 hx hZ hown (host := "") (Or.inl (own_w hw 106 rfl)) Via.refl e0 (U1.ext O0.2) (g := (mkF m 0 #[.val (.ref b1), .val (.int 1), .val (.int cc)] [])) rfl (hb hby d24_0)
  have kn2 : ∀ t, own_S p e below T1 (mkF m 38 #[.val (.ref b1), .val (.int 3), .val (.int cc)] [(.int cc), (.int 2), (.ref b1)]) t → Gl t := fun t kt => kn0 t (st1 _ (by
    show own_S p e below T1 (mkF m 3 #[.val (.ref b1), .val (.int 1), .val (.int cc)] [(.int 1)]) _
    refine XS.ifYes X1.here hx rfl (pc0 := 3) (pc' := 28) rfl (hb hby d24_3) rfl ((if0 _ _).trans (feq (by decide : ¬ ((1 : Int32) = (0 : Int32)))).2) (by decide) (by decide) ?_
    refine XS.iloadN X1.here hx rfl (hb hby d24_28) rfl ?_
    refine XS.iconst X1.here hx rfl (hb hby d24_29) ?_
    show own_S p e below T1 (mkF m 30 #[.val (.ref b1), .val (.int 1), .val (.int cc)] [(.int 1), (.int 1)]) _
    refine XS.ishl X1.here hx rfl (hb hby d24_30) rfl ?_
    rw [(by decide : ((1 : Int32) <<< ((1 : Int32) &&& 31)) = (2 : Int32))]
    refine XS.istoreN X1.here hx rfl (hb hby d24_31) rfl (l' := #[.val (.ref b1), .val (.int 2), .val (.int cc)]) rfl ?_
    refine XS.aloadN X1.here hx rfl (hb hby d24_32) rfl rfl ?_
    refine XS.iloadN X1.here hx rfl (hb hby d24_33) rfl ?_
    show own_S p e below T1 (mkF m 34 #[.val (.ref b1), .val (.int 2), .val (.int cc)] [(.int 2), (.ref b1)]) _
    refine XS.iinc X1.here hx rfl (hb hby d24_34) rfl (l' := #[.val (.ref b1), .val (.int ((2 : Int32) + (1 : Int32))), .val (.int cc)]) rfl ?_
    rw [(by decide : ((2 : Int32) + (1 : Int32)) = (3 : Int32))]
    refine XS.iloadN X1.here hx rfl (hb hby d24_37) rfl ?_
    exact kt))
  obtain ⟨T3, X3, e3, st3⟩ := getS2 X1 hx hZ hown (host := "") (Or.inl (own_w hw 107 rfl)) Via.refl e1 (U2.ext O0.2) (g := (mkF m 38 #[.val (.ref b1), .val (.int 3), .val (.int cc)] [(.int cc), (.int 2), (.ref b1)])) rfl (hb hby d24_38)
  have kn4 : ∀ t, own_S p e below T3 (mkF m 43 #[.val (.ref b1), .val (.int 3), .val (.int cc)] [(.int ((cc >>> ((0 : Int32) &&& 31)).toInt8.toInt32)), (.int 2), (.ref b1)]) t → Gl t := fun t kt => kn2 t (st3 _ (by
    show own_S p e below T3 (mkF m 41 #[.val (.ref b1), .val (.int 3), .val (.int cc)] [(.int 0), (.int cc), (.int 2), (.ref b1)]) _
    refine XS.ishr X3.here hx rfl (hb hby d24_41) rfl ?_
    refine XS.i2b X3.here hx rfl (hb hby d24_42) rfl ?_
    exact kt))
  obtain ⟨cl5, Ar5, q5, Sz5, Ng5, Hs5, Gs5⟩ := id A1
  have hin5 : ¬ ((2 : Int32) < 0 ∨ cl5.slots.size ≤ ((2 : Int32)).toNatClampNeg) := inb_of Sz5 ⟨by decide, by decide⟩
  obtain ⟨T5, h5, X5, e5, W5, st5⟩ := stB X3 hx hZ e3 Ar5 (j := (2 : Int32)) hin5 (g := (mkF m 43 #[.val (.ref b1), .val (.int 3), .val (.int cc)] [(.int ((cc >>> ((0 : Int32) &&& 31)).toInt8.toInt32)), (.int 2), (.ref b1)])) rfl rfl (hb hby d24_43)
  have Z6 := Nat.le_trans Z0 (Keep.of_wr W5).1
  have Od7 := O0.wr W5 g_b1
  have K8 := (Keep.refl h0 [b1]).wr W5 (Or.inl (List.mem_of_getElem? (i := 0) rfl))
  have V5 : Arv Z h5 b1 kb .byte (6 : Int32) [v0, v1, (.int (((cc >>> ((0 : Int32) &&& 31)).toInt8.toInt32).toInt8.toInt32)), v3, v4, v5] (.int (0 : Int32)) := Arv.set Ar5 q5 Sz5 Ng5 Hs5 Gs5 (fits_nar_byte _) W5 2 rfl (Nat.le_of_ble_eq_true rfl)
  rw [(show (((cc >>> ((0 : Int32) &&& 31)).toInt8.toInt32).toInt8.toInt32) = (StrChars.lo8 cc) from own_lo cc)] at V5
  have Nf9 := Fr.snoc X5 Nf0 g_b1
  have kn10 : ∀ t, own_S p e below T5 (mkF m 47 #[.val (.ref b1), .val (.int 3), .val (.int cc)] [(.int cc), (.int 3), (.ref b1)]) t → Gl t := fun t kt => kn4 t (st5 _ (by
    show own_S p e below T5 (mkF m 44 #[.val (.ref b1), .val (.int 3), .val (.int cc)] []) _
    refine XS.aloadN X5.here hx rfl (hb hby d24_44) rfl rfl ?_
    refine XS.iloadN X5.here hx rfl (hb hby d24_45) rfl ?_
    refine XS.iloadN X5.here hx rfl (hb hby d24_46) rfl ?_
    exact kt))
  obtain ⟨T11, X11, e11, st11⟩ := getS2 X5 hx hZ hown (host := "") (Or.inl (own_w hw 108 rfl)) Via.refl e5 (U3.ext Od7.2) (g := (mkF m 47 #[.val (.ref b1), .val (.int 3), .val (.int cc)] [(.int cc), (.int 3), (.ref b1)])) rfl (hb hby d24_47)
  have kn12 : ∀ t, own_S p e below T11 (mkF m 52 #[.val (.ref b1), .val (.int 3), .val (.int cc)] [(.int ((cc >>> ((8 : Int32) &&& 31)).toInt8.toInt32)), (.int 3), (.ref b1)]) t → Gl t := fun t kt => kn10 t (st11 _ (by
    show own_S p e below T11 (mkF m 50 #[.val (.ref b1), .val (.int 3), .val (.int cc)] [(.int 8), (.int cc), (.int 3), (.ref b1)]) _
    refine XS.ishr X11.here hx rfl (hb hby d24_50) rfl ?_
    refine XS.i2b X11.here hx rfl (hb hby d24_51) rfl ?_
    exact kt))
  obtain ⟨cl13, Ar13, q13, Sz13, Ng13, Hs13, Gs13⟩ := id V5
  have hin13 : ¬ ((3 : Int32) < 0 ∨ cl13.slots.size ≤ ((3 : Int32)).toNatClampNeg) := inb_of Sz13 ⟨by decide, by decide⟩
  obtain ⟨T13, h13, X13, e13, W13, st13⟩ := stB X11 hx hZ e11 Ar13 (j := (3 : Int32)) hin13 (g := (mkF m 52 #[.val (.ref b1), .val (.int 3), .val (.int cc)] [(.int ((cc >>> ((8 : Int32) &&& 31)).toInt8.toInt32)), (.int 3), (.ref b1)])) rfl rfl (hb hby d24_52)
  have Z14 := Nat.le_trans Z6 (Keep.of_wr W13).1
  have Od15 := Od7.wr W13 g_b1
  have K16 := K8.wr W13 (Or.inl (List.mem_of_getElem? (i := 0) rfl))
  have V13 : Arv Z h13 b1 kb .byte (6 : Int32) [v0, v1, (.int (StrChars.lo8 cc)), (.int (((cc >>> ((8 : Int32) &&& 31)).toInt8.toInt32).toInt8.toInt32)), v4, v5] (.int (0 : Int32)) := Arv.set Ar13 q13 Sz13 Ng13 Hs13 Gs13 (fits_nar_byte _) W13 3 rfl (Nat.le_of_ble_eq_true rfl)
  rw [(show (((cc >>> ((8 : Int32) &&& 31)).toInt8.toInt32).toInt8.toInt32) = (StrChars.hi8 cc) from own_hi cc)] at V13
  have Nf17 := Fr.snoc X13 Nf9 g_b1
  obtain ⟨fs, hr, hrun, hended, hW, hsame⟩ := X13.leave (v := none) (fun _ => rfl)
  refine ⟨_, _, hGl _ (kn12 _ (st13 _ (X13.returnOut hx Bd.returns (hb hby d24_53) hr))), hrun, hended, _, _, rfl, ?_, ⟨_, rfl⟩, hW, hsame.mono (by decide) (by decide)⟩
  show Q24_3_1 Z b1 cc kb v0 v1 v2 v3 v4 v5 h0 n0 _ T13.heap _
  rw [e13]
  exact ⟨rfl, Nf17, K16, V13⟩

theorem ef_rm24_3_2 (m : MethodId) (x0 : Addr) (x2 : Int32) : entryFrame m #[(.ref x0), (.int (2 : Int32)), (.int x2)] 3 = mkF m 0 #[.val (.ref x0), .val (.int (2 : Int32)), .val (.int x2)] [] := by first | (simp [entryFrame, mkF, argsToLocals, Value.category]; done) | rfl
def Q24_3_2 (Z : State) (b1 : Addr) (cc : Int32) (kb : ClassId) (v0 : Value) (v1 : Value) (v2 : Value) (v3 : Value) (v4 : Value) (v5 : Value) (h0 : Heap) (n0 : Nat) (v : Option Value) (h : Heap) (L : List Loc) : Prop := v = none ∧ Fr n0 L ∧ Keep h0 h [b1] ∧ Arv Z h b1 kb .byte (6 : Int32) [v0, v1, v2, v3, (.int (StrChars.lo8 cc)), (.int (StrChars.hi8 cc))] (.int (0 : Int32))
theorem rm24_3_2 (l : Launch) (Z : State) (a0 : Array Value) (hw : ∀ d ∈ tables_1, d.before a0 Z = true) (ws : List Jvm.Cond) (b1 : Addr) (cc : Int32) (kb : ClassId) (v0 : Value) (v1 : Value) (v2 : Value) (v3 : Value) (v4 : Value) (v5 : Value) (h0 : Heap) (n0 : Nat) (Z0 : n0 ≤ h0.size) (A1 : Arv Z h0 b1 kb .byte (6 : Int32) [v0, v1, v2, v3, v4, v5] (.int (0 : Int32))) (g_b1 : n0 ≤ b1) (O0 : Old Z n0 h0) (U1 : Sta Z Z.heap "java/lang/StringUTF16" "$assertionsDisabled" "Z" (.int (1 : Int32))) (U2 : Sta Z Z.heap "java/lang/StringUTF16" "HI_BYTE_SHIFT" "I" (.int (0 : Int32))) (U3 : Sta Z Z.heap "java/lang/StringUTF16" "LO_BYTE_SHIFT" "I" (.int (8 : Int32))) :
    MetFree l mN19 (head1 (Jvm.Cond.code mN19 jdk_52_method_4_code 3 none :: ws) (own_r 0 0 0 0)) (fun a U => a = #[(.ref b1), (.int (2 : Int32)), (.int cc)] ∧ Z.Warmed39 U.vm ∧ U.heap = h0) (fun _ _ _ _ _ => True) (fun _ U o U' => ∃ v L, o = .returned v ∧ Q24_3_2 Z b1 cc kb v0 v1 v2 v3 v4 v5 h0 n0 v U'.heap L ∧ FrameEnd U o U' L (own_r 0 0 0 0).cells (own_r 0 0 0 0).slots) := by
  refine MetFree.of_bodySF (plainFor_of_name pn_4) hisR ?_
  intro p e s m args below meth c s₁ Bd hml0 hP hK
  obtain ⟨rfl, hZ, hh⟩ := hP
  have hx := Bd.exec
  have hby := Bd.bytes
  have hml : c.maxLocals = 3 := hml0
  have hown : s.vm.findClass "java/lang/StringUTF16" = some m.cls := findClass_of_methodNamed Bd.named
  have hnm := (name_of_methodNamed Bd.named Bd.method).1
  have X0 : Stand p l e (own_r 0 0 0 0) s m #[(.ref b1), (.int (2 : Int32)), (.int cc)] below meth c s₁ [] 0 0 := Stand.of_body Bd
  have e0 : s₁.heap = h0 := by rw [← hh, Bd.state]; rfl
  have Nf0 := Fr.nil n0
  obtain ⟨Gl, hGl, kn0⟩ := own_gl (p := p) (e := e) (below := below) (s₁ := s₁) (ef_rm24_3_2 m b1 cc)
  obtain ⟨T1, X1, e1, st1⟩ := getS2 X0 hx hZ hown (host := "") (Or.inl (own_w hw 106 rfl)) Via.refl e0 (U1.ext O0.2) (g := (mkF m 0 #[.val (.ref b1), .val (.int 2), .val (.int cc)] [])) rfl (hb hby d24_0)
  have kn2 : ∀ t, own_S p e below T1 (mkF m 38 #[.val (.ref b1), .val (.int 5), .val (.int cc)] [(.int cc), (.int 4), (.ref b1)]) t → Gl t := fun t kt => kn0 t (st1 _ (by
    show own_S p e below T1 (mkF m 3 #[.val (.ref b1), .val (.int 2), .val (.int cc)] [(.int 1)]) _
    refine XS.ifYes X1.here hx rfl (pc0 := 3) (pc' := 28) rfl (hb hby d24_3) rfl ((if0 _ _).trans (feq (by decide : ¬ ((1 : Int32) = (0 : Int32)))).2) (by decide) (by decide) ?_
    refine XS.iloadN X1.here hx rfl (hb hby d24_28) rfl ?_
    refine XS.iconst X1.here hx rfl (hb hby d24_29) ?_
    show own_S p e below T1 (mkF m 30 #[.val (.ref b1), .val (.int 2), .val (.int cc)] [(.int 1), (.int 2)]) _
    refine XS.ishl X1.here hx rfl (hb hby d24_30) rfl ?_
    rw [(by decide : ((2 : Int32) <<< ((1 : Int32) &&& 31)) = (4 : Int32))]
    refine XS.istoreN X1.here hx rfl (hb hby d24_31) rfl (l' := #[.val (.ref b1), .val (.int 4), .val (.int cc)]) rfl ?_
    refine XS.aloadN X1.here hx rfl (hb hby d24_32) rfl rfl ?_
    refine XS.iloadN X1.here hx rfl (hb hby d24_33) rfl ?_
    show own_S p e below T1 (mkF m 34 #[.val (.ref b1), .val (.int 4), .val (.int cc)] [(.int 4), (.ref b1)]) _
    refine XS.iinc X1.here hx rfl (hb hby d24_34) rfl (l' := #[.val (.ref b1), .val (.int ((4 : Int32) + (1 : Int32))), .val (.int cc)]) rfl ?_
    rw [(by decide : ((4 : Int32) + (1 : Int32)) = (5 : Int32))]
    refine XS.iloadN X1.here hx rfl (hb hby d24_37) rfl ?_
    exact kt))
  obtain ⟨T3, X3, e3, st3⟩ := getS2 X1 hx hZ hown (host := "") (Or.inl (own_w hw 107 rfl)) Via.refl e1 (U2.ext O0.2) (g := (mkF m 38 #[.val (.ref b1), .val (.int 5), .val (.int cc)] [(.int cc), (.int 4), (.ref b1)])) rfl (hb hby d24_38)
  have kn4 : ∀ t, own_S p e below T3 (mkF m 43 #[.val (.ref b1), .val (.int 5), .val (.int cc)] [(.int ((cc >>> ((0 : Int32) &&& 31)).toInt8.toInt32)), (.int 4), (.ref b1)]) t → Gl t := fun t kt => kn2 t (st3 _ (by
    show own_S p e below T3 (mkF m 41 #[.val (.ref b1), .val (.int 5), .val (.int cc)] [(.int 0), (.int cc), (.int 4), (.ref b1)]) _
    refine XS.ishr X3.here hx rfl (hb hby d24_41) rfl ?_
    refine XS.i2b X3.here hx rfl (hb hby d24_42) rfl ?_
    exact kt))
  obtain ⟨cl5, Ar5, q5, Sz5, Ng5, Hs5, Gs5⟩ := id A1
  have hin5 : ¬ ((4 : Int32) < 0 ∨ cl5.slots.size ≤ ((4 : Int32)).toNatClampNeg) := inb_of Sz5 ⟨by decide, by decide⟩
  obtain ⟨T5, h5, X5, e5, W5, st5⟩ := stB X3 hx hZ e3 Ar5 (j := (4 : Int32)) hin5 (g := (mkF m 43 #[.val (.ref b1), .val (.int 5), .val (.int cc)] [(.int ((cc >>> ((0 : Int32) &&& 31)).toInt8.toInt32)), (.int 4), (.ref b1)])) rfl rfl (hb hby d24_43)
  have Z6 := Nat.le_trans Z0 (Keep.of_wr W5).1
  have Od7 := O0.wr W5 g_b1
  have K8 := (Keep.refl h0 [b1]).wr W5 (Or.inl (List.mem_of_getElem? (i := 0) rfl))
  have V5 : Arv Z h5 b1 kb .byte (6 : Int32) [v0, v1, v2, v3, (.int (((cc >>> ((0 : Int32) &&& 31)).toInt8.toInt32).toInt8.toInt32)), v5] (.int (0 : Int32)) := Arv.set Ar5 q5 Sz5 Ng5 Hs5 Gs5 (fits_nar_byte _) W5 4 rfl (Nat.le_of_ble_eq_true rfl)
  rw [(show (((cc >>> ((0 : Int32) &&& 31)).toInt8.toInt32).toInt8.toInt32) = (StrChars.lo8 cc) from own_lo cc)] at V5
  have Nf9 := Fr.snoc X5 Nf0 g_b1
  have kn10 : ∀ t, own_S p e below T5 (mkF m 47 #[.val (.ref b1), .val (.int 5), .val (.int cc)] [(.int cc), (.int 5), (.ref b1)]) t → Gl t := fun t kt => kn4 t (st5 _ (by
    show own_S p e below T5 (mkF m 44 #[.val (.ref b1), .val (.int 5), .val (.int cc)] []) _
    refine XS.aloadN X5.here hx rfl (hb hby d24_44) rfl rfl ?_
    refine XS.iloadN X5.here hx rfl (hb hby d24_45) rfl ?_
    refine XS.iloadN X5.here hx rfl (hb hby d24_46) rfl ?_
    exact kt))
  obtain ⟨T11, X11, e11, st11⟩ := getS2 X5 hx hZ hown (host := "") (Or.inl (own_w hw 108 rfl)) Via.refl e5 (U3.ext Od7.2) (g := (mkF m 47 #[.val (.ref b1), .val (.int 5), .val (.int cc)] [(.int cc), (.int 5), (.ref b1)])) rfl (hb hby d24_47)
  have kn12 : ∀ t, own_S p e below T11 (mkF m 52 #[.val (.ref b1), .val (.int 5), .val (.int cc)] [(.int ((cc >>> ((8 : Int32) &&& 31)).toInt8.toInt32)), (.int 5), (.ref b1)]) t → Gl t := fun t kt => kn10 t (st11 _ (by
    show own_S p e below T11 (mkF m 50 #[.val (.ref b1), .val (.int 5), .val (.int cc)] [(.int 8), (.int cc), (.int 5), (.ref b1)]) _
    refine XS.ishr X11.here hx rfl (hb hby d24_50) rfl ?_
    refine XS.i2b X11.here hx rfl (hb hby d24_51) rfl ?_
    exact kt))
  obtain ⟨cl13, Ar13, q13, Sz13, Ng13, Hs13, Gs13⟩ := id V5
  have hin13 : ¬ ((5 : Int32) < 0 ∨ cl13.slots.size ≤ ((5 : Int32)).toNatClampNeg) := inb_of Sz13 ⟨by decide, by decide⟩
  obtain ⟨T13, h13, X13, e13, W13, st13⟩ := stB X11 hx hZ e11 Ar13 (j := (5 : Int32)) hin13 (g := (mkF m 52 #[.val (.ref b1), .val (.int 5), .val (.int cc)] [(.int ((cc >>> ((8 : Int32) &&& 31)).toInt8.toInt32)), (.int 5), (.ref b1)])) rfl rfl (hb hby d24_52)
  have Z14 := Nat.le_trans Z6 (Keep.of_wr W13).1
  have Od15 := Od7.wr W13 g_b1
  have K16 := K8.wr W13 (Or.inl (List.mem_of_getElem? (i := 0) rfl))
  have V13 : Arv Z h13 b1 kb .byte (6 : Int32) [v0, v1, v2, v3, (.int (StrChars.lo8 cc)), (.int (((cc >>> ((8 : Int32) &&& 31)).toInt8.toInt32).toInt8.toInt32))] (.int (0 : Int32)) := Arv.set Ar13 q13 Sz13 Ng13 Hs13 Gs13 (fits_nar_byte _) W13 5 rfl (Nat.le_of_ble_eq_true rfl)
  rw [(show (((cc >>> ((8 : Int32) &&& 31)).toInt8.toInt32).toInt8.toInt32) = (StrChars.hi8 cc) from own_hi cc)] at V13
  have Nf17 := Fr.snoc X13 Nf9 g_b1
  obtain ⟨fs, hr, hrun, hended, hW, hsame⟩ := X13.leave (v := none) (fun _ => rfl)
  refine ⟨_, _, hGl _ (kn12 _ (st13 _ (X13.returnOut hx Bd.returns (hb hby d24_53) hr))), hrun, hended, _, _, rfl, ?_, ⟨_, rfl⟩, hW, hsame.mono (by decide) (by decide)⟩
  show Q24_3_2 Z b1 cc kb v0 v1 v2 v3 v4 v5 h0 n0 _ T13.heap _
  rw [e13]
  exact ⟨rfl, Nf17, K16, V13⟩

theorem ef_rm21_3 (m : MethodId) (x0 : Addr) : entryFrame m #[(.ref x0), (.int (0 : Int32)), (.int (3 : Int32))] 5 = mkF m 0 #[.val (.ref x0), .val (.int (0 : Int32)), .val (.int (3 : Int32)), .unset, .unset] [] := by first | (simp [entryFrame, mkF, argsToLocals, Value.category]; done) | rfl
def Q21_3 (Z : State) (a1 : Addr) (ka : ClassId) (c0 : Int32) (c1 : Int32) (c2 : Int32) (h0 : Heap) (n0 : Nat) (v : Option Value) (h : Heap) (L : List Loc) : Prop := ∃ (b : Addr) (kb : ClassId), v = some (.ref b) ∧ Fr n0 L ∧ n0 ≤ b ∧ h0.size ≤ b ∧ Keep h0 h [] ∧ Arv Z h b kb .byte (6 : Int32) [(.int (StrChars.lo8 c0)), (.int (StrChars.hi8 c0)), (.int (StrChars.lo8 c1)), (.int (StrChars.hi8 c1)), (.int (StrChars.lo8 c2)), (.int (StrChars.hi8 c2))] (.int (0 : Int32))
theorem rm21_3 (l : Launch) (Z : State) (a0 : Array Value) (hw : ∀ d ∈ tables_1, d.before a0 Z = true) (ws : List Jvm.Cond) (a1 : Addr) (ka : ClassId) (c0 : Int32) (c1 : Int32) (c2 : Int32) (h0 : Heap) (n0 : Nat) (Z0 : n0 ≤ h0.size) (A1 : Arv Z h0 a1 ka .char (3 : Int32) [(.int c0), (.int c1), (.int c2)] (.int (0 : Int32))) (O0 : Old Z n0 h0) (U1 : Sta Z Z.heap "java/lang/StringUTF16" "$assertionsDisabled" "Z" (.int (1 : Int32))) (U2 : Sta Z Z.heap "java/lang/StringUTF16" "HI_BYTE_SHIFT" "I" (.int (0 : Int32))) (U3 : Sta Z Z.heap "java/lang/StringUTF16" "LO_BYTE_SHIFT" "I" (.int (8 : Int32))) :
    MetFree l mN20 (head1 (Jvm.Cond.code mN20 jdk_52_method_14_code 5 (some (.array .byte)) :: ws) (own_r 2 1 6 24)) (fun a U => a = #[(.ref a1), (.int (0 : Int32)), (.int (3 : Int32))] ∧ Z.Warmed39 U.vm ∧ U.heap = h0) (fun _ _ _ _ _ => True) (fun _ U o U' => ∃ v L, o = .returned v ∧ Q21_3 Z a1 ka c0 c1 c2 h0 n0 v U'.heap L ∧ FrameEnd U o U' L (own_r 2 1 6 24).cells (own_r 2 1 6 24).slots) := by
  refine MetFree.of_bodySF (plainFor_of_name pn_4) hisR ?_
  intro p e s m args below meth c s₁ Bd hml0 hP hK
  obtain ⟨rfl, hZ, hh⟩ := hP
  have hx := Bd.exec
  have hby := Bd.bytes
  have hml : c.maxLocals = 5 := hml0
  have hown : s.vm.findClass "java/lang/StringUTF16" = some m.cls := findClass_of_methodNamed Bd.named
  have hnm := (name_of_methodNamed Bd.named Bd.method).1
  have X0 : Stand p l e (own_r 2 1 6 24) s m #[(.ref a1), (.int (0 : Int32)), (.int (3 : Int32))] below meth c s₁ [] 0 0 := Stand.of_body Bd
  have e0 : s₁.heap = h0 := by rw [← hh, Bd.state]; rfl
  have Nf0 := Fr.nil n0
  obtain ⟨Gl, hGl, kn0⟩ := own_gl (p := p) (e := e) (below := below) (s₁ := s₁) (ef_rm21_3 m a1)
  have kn1 : ∀ t, own_S p e below s₁ (mkF m 1 #[.val (.ref a1), .val (.int 0), .val (.int 3), .unset, .unset] [(.int 3)]) t → Gl t := fun t kt => kn0 t (by
    show own_S p e below s₁ (mkF m 0 #[.val (.ref a1), .val (.int 0), .val (.int 3), .unset, .unset] []) _
    refine XS.iloadN X0.here hx rfl (hb hby d21_0) rfl ?_
    exact kt)
  obtain ⟨_, _, ⟨T2, L2, cc2, ss2⟩, -, X2, ⟨Lc2, hQ2, l2, y2, z2⟩, st2⟩ := Jvm.LawKit.callS X0 hx (y := mN18) hown (mvT hZ (own_w hw 96 rfl)) (mvT hZ (own_w hw 97 rfl)) (mvT hZ (own_w hw 54 rfl)) (mvT hZ (own_w hw 98 rfl)) (by decide) (backOf (W := 0) (rm22_3 l Z a0 hw []   h0 n0 Z0 ) hZ (own_w hw 98 rfl) (own_w hw 54 rfl) (by decide) (by decide)) (g := (mkF m 1 #[.val (.ref a1), .val (.int 0), .val (.int 3), .unset, .unset] [(.int 3)])) rfl (by rw [hml]; rfl) (argsL := [(.int 3)]) (rest := []) (lenOf pd_11 rfl) rfl (by show 2 * 0 + _ ≤ _; exact Nat.le_of_eq rfl) (hb hby d21_1) (fun _ _ => ⟨rfl, e0, (by decide : 0 + 1 ≤ _), (by decide : 0 + 6 ≤ _)⟩)
  dsimp only [Pt.U, Pt.locs, Pt.cells, Pt.slots] at X2 l2 y2 z2 st2 hQ2
  subst l2 y2 z2
  have X2 : Stand p l e _ _ m _ below meth c T2 _ 1 6 := X2
  obtain ⟨b2, kb2, rfl, Nq2, gb2, sb2, K2, V2⟩ := hQ2
  have Nf2 := Fr.app Nf0 Nq2
  have ne_a1_b2 : a1 ≠ b2 := Nat.ne_of_lt (Nat.lt_of_lt_of_le A1.lt sb2)
  have szz2 : h0.size ≤ b2 := sb2
  have Z3 := Nat.le_trans Z0 K2.1
  have Od4 := O0.keep K2 all0
  have K5 := (Keep.refl h0 []).trans K2 (all0)
  have kn6 : ∀ t, own_S p e below T2 (mkF m 19 #[.val (.ref a1), .val (.int 0), .val (.int 3), .val (.ref b2), .val (.int 0)] [(.int 0), (.ref a1), (.int 0), (.ref b2)]) t → Gl t := fun t kt => kn1 t (st2 _ (by
    show own_S p e below T2 (mkF m 4 #[.val (.ref a1), .val (.int 0), .val (.int 3), .unset, .unset] [(.ref b2)]) _
    refine XS.astoreN X2.here hx rfl (hb hby d21_4) rfl rfl (l' := #[.val (.ref a1), .val (.int 0), .val (.int 3), .val (.ref b2), .unset]) rfl ?_
    refine XS.iconst X2.here hx rfl (hb hby d21_5) ?_
    refine XS.istore X2.here hx rfl (hb hby d21_6) rfl (l' := #[.val (.ref a1), .val (.int 0), .val (.int 3), .val (.ref b2), .val (.int 0)]) rfl ?_
    refine XS.iload X2.here hx rfl (hb hby d21_8) rfl ?_
    refine XS.iloadN X2.here hx rfl (hb hby d21_10) rfl ?_
    refine XS.icmpNo X2.here hx rfl (hb hby d21_11) rfl (tlt (by decide : (0 : Int32) < (3 : Int32))).2.1 ?_
    refine XS.aloadN X2.here hx rfl (hb hby d21_14) rfl rfl ?_
    refine XS.iload X2.here hx rfl (hb hby d21_15) rfl ?_
    refine XS.aloadN X2.here hx rfl (hb hby d21_17) rfl rfl ?_
    refine XS.iloadN X2.here hx rfl (hb hby d21_18) rfl ?_
    exact kt))
  have f7 := (A1.keep K2 nin0)
  obtain ⟨cl8, Ar8, q8, Sz8, Ng8, Hs8, Gs8⟩ := id f7
  have hin8 : ¬ ((0 : Int32) < 0 ∨ cl8.slots.size ≤ ((0 : Int32)).toNatClampNeg) := inb_of Sz8 ⟨by decide, by decide⟩
  have hat8 : cl8.slots[((0 : Int32)).toNatClampNeg]? = some (.int c0) := Hs8.at hin8 rfl
  have kn9 : ∀ t, own_S p e below T2 (mkF m 20 #[.val (.ref a1), .val (.int 0), .val (.int 3), .val (.ref b2), .val (.int 0)] [(.int c0), (.int 0), (.ref b2)]) t → Gl t := fun t kt => kn6 t (by
    show own_S p e below T2 (mkF m 19 #[.val (.ref a1), .val (.int 0), .val (.int 3), .val (.ref b2), .val (.int 0)] [(.int 0), (.ref a1), (.int 0), (.ref b2)]) _
    refine X2.caload hx (j := (0 : Int32)) (v := (.int c0)) Ar8.1 (State.isArrayOf_alike hZ.alike Ar8.2.1) Ar8.2.2 hin8 hat8 (g := (mkF m 19 #[.val (.ref a1), .val (.int 0), .val (.int 3), .val (.ref b2), .val (.int 0)] [(.int 0), (.ref a1), (.int 0), (.ref b2)])) rfl rfl (hb hby d21_19) _ ?_
    exact kt)
  obtain ⟨_, _, ⟨T10, L10, cc10, ss10⟩, -, X10, ⟨Lc10, hQ10, l10, y10, z10⟩, st10⟩ := Jvm.LawKit.callS X2 hx (y := mN19) hown (mvT hZ (own_w hw 103 rfl)) (mvT hZ (own_w hw 104 rfl)) (mvT hZ (own_w hw 54 rfl)) (mvT hZ (own_w hw 105 rfl)) (by decide) (backOf (W := 0) (rm24_3_0 l Z a0 hw [] b2 c0 kb2 (.int (0 : Int32)) (.int (0 : Int32)) (.int (0 : Int32)) (.int (0 : Int32)) (.int (0 : Int32)) (.int (0 : Int32)) T2.heap n0 Z3 V2 gb2 Od4 U1 U2 U3) hZ (own_w hw 105 rfl) (own_w hw 54 rfl) (by decide) (by decide)) (g := (mkF m 20 #[.val (.ref a1), .val (.int 0), .val (.int 3), .val (.ref b2), .val (.int 0)] [(.int c0), (.int 0), (.ref b2)])) rfl (by rw [hml]; rfl) (argsL := [(.ref b2), (.int 0), (.int c0)]) (rest := []) (lenOf pd_12 rfl) rfl (by show 2 * 0 + _ ≤ _; exact Nat.le_of_eq rfl) (hb hby d21_20) (fun _ _ => ⟨rfl, rfl, (by decide : 1 + 0 ≤ _), (by decide : 6 + 0 ≤ _)⟩)
  dsimp only [Pt.U, Pt.locs, Pt.cells, Pt.slots] at X10 l10 y10 z10 st10 hQ10
  subst l10 y10 z10
  have X10 : Stand p l e _ _ m _ below meth c T10 _ 1 6 := X10
  obtain ⟨rfl, Nq10, K10, V10⟩ := hQ10
  have Nf10 := Fr.app Nf2 Nq10
  have Z11 := Nat.le_trans Z3 K10.1
  have Od12 := Od4.keep K10 (allS gb2 all0)
  have K13 := K5.trans K10 (allS (Or.inr szz2) all0)
  have kn14 : ∀ t, own_S p e below T10 (mkF m 19 #[.val (.ref a1), .val (.int 1), .val (.int 3), .val (.ref b2), .val (.int 1)] [(.int 1), (.ref a1), (.int 1), (.ref b2)]) t → Gl t := fun t kt => kn9 t (st10 _ (by
    show own_S p e below T10 (mkF m 23 #[.val (.ref a1), .val (.int 0), .val (.int 3), .val (.ref b2), .val (.int 0)] []) _
    refine XS.iinc X10.here hx rfl (hb hby d21_23) rfl (l' := #[.val (.ref a1), .val (.int ((0 : Int32) + (1 : Int32))), .val (.int 3), .val (.ref b2), .val (.int 0)]) rfl ?_
    rw [(by decide : ((0 : Int32) + (1 : Int32)) = (1 : Int32))]
    show own_S p e below T10 (mkF m 26 #[.val (.ref a1), .val (.int 1), .val (.int 3), .val (.ref b2), .val (.int 0)] []) _
    refine XS.iinc X10.here hx rfl (hb hby d21_26) rfl (l' := #[.val (.ref a1), .val (.int 1), .val (.int 3), .val (.ref b2), .val (.int ((0 : Int32) + (1 : Int32)))]) rfl ?_
    rw [(by decide : ((0 : Int32) + (1 : Int32)) = (1 : Int32))]
    refine XS.goto X10.here hx rfl (pc0 := 29) (pc' := 8) rfl (hb hby d21_29) (by decide) (by decide) ?_
    refine XS.iload X10.here hx rfl (hb hby d21_8) rfl ?_
    refine XS.iloadN X10.here hx rfl (hb hby d21_10) rfl ?_
    refine XS.icmpNo X10.here hx rfl (hb hby d21_11) rfl (tlt (by decide : (1 : Int32) < (3 : Int32))).2.1 ?_
    refine XS.aloadN X10.here hx rfl (hb hby d21_14) rfl rfl ?_
    refine XS.iload X10.here hx rfl (hb hby d21_15) rfl ?_
    refine XS.aloadN X10.here hx rfl (hb hby d21_17) rfl rfl ?_
    refine XS.iloadN X10.here hx rfl (hb hby d21_18) rfl ?_
    exact kt))
  have f15 := (f7.keep K10 (ninS ne_a1_b2 nin0))
  obtain ⟨cl16, Ar16, q16, Sz16, Ng16, Hs16, Gs16⟩ := id f15
  have hin16 : ¬ ((1 : Int32) < 0 ∨ cl16.slots.size ≤ ((1 : Int32)).toNatClampNeg) := inb_of Sz16 ⟨by decide, by decide⟩
  have hat16 : cl16.slots[((1 : Int32)).toNatClampNeg]? = some (.int c1) := Hs16.at hin16 rfl
  have kn17 : ∀ t, own_S p e below T10 (mkF m 20 #[.val (.ref a1), .val (.int 1), .val (.int 3), .val (.ref b2), .val (.int 1)] [(.int c1), (.int 1), (.ref b2)]) t → Gl t := fun t kt => kn14 t (by
    show own_S p e below T10 (mkF m 19 #[.val (.ref a1), .val (.int 1), .val (.int 3), .val (.ref b2), .val (.int 1)] [(.int 1), (.ref a1), (.int 1), (.ref b2)]) _
    refine X10.caload hx (j := (1 : Int32)) (v := (.int c1)) Ar16.1 (State.isArrayOf_alike hZ.alike Ar16.2.1) Ar16.2.2 hin16 hat16 (g := (mkF m 19 #[.val (.ref a1), .val (.int 1), .val (.int 3), .val (.ref b2), .val (.int 1)] [(.int 1), (.ref a1), (.int 1), (.ref b2)])) rfl rfl (hb hby d21_19) _ ?_
    exact kt)
  obtain ⟨_, _, ⟨T18, L18, cc18, ss18⟩, -, X18, ⟨Lc18, hQ18, l18, y18, z18⟩, st18⟩ := Jvm.LawKit.callS X10 hx (y := mN19) hown (mvT hZ (own_w hw 103 rfl)) (mvT hZ (own_w hw 104 rfl)) (mvT hZ (own_w hw 54 rfl)) (mvT hZ (own_w hw 105 rfl)) (by decide) (backOf (W := 0) (rm24_3_1 l Z a0 hw [] b2 c1 kb2 (.int (StrChars.lo8 c0)) (.int (StrChars.hi8 c0)) (.int (0 : Int32)) (.int (0 : Int32)) (.int (0 : Int32)) (.int (0 : Int32)) T10.heap n0 Z11 V10 gb2 Od12 U1 U2 U3) hZ (own_w hw 105 rfl) (own_w hw 54 rfl) (by decide) (by decide)) (g := (mkF m 20 #[.val (.ref a1), .val (.int 1), .val (.int 3), .val (.ref b2), .val (.int 1)] [(.int c1), (.int 1), (.ref b2)])) rfl (by rw [hml]; rfl) (argsL := [(.ref b2), (.int 1), (.int c1)]) (rest := []) (lenOf pd_12 rfl) rfl (by show 2 * 0 + _ ≤ _; exact Nat.le_of_eq rfl) (hb hby d21_20) (fun _ _ => ⟨rfl, rfl, (by decide : 1 + 0 ≤ _), (by decide : 6 + 0 ≤ _)⟩)
  dsimp only [Pt.U, Pt.locs, Pt.cells, Pt.slots] at X18 l18 y18 z18 st18 hQ18
  subst l18 y18 z18
  have X18 : Stand p l e _ _ m _ below meth c T18 _ 1 6 := X18
  obtain ⟨rfl, Nq18, K18, V18⟩ := hQ18
  have Nf18 := Fr.app Nf10 Nq18
  have Z19 := Nat.le_trans Z11 K18.1
  have Od20 := Od12.keep K18 (allS gb2 all0)
  have K21 := K13.trans K18 (allS (Or.inr szz2) all0)
  have kn22 : ∀ t, own_S p e below T18 (mkF m 19 #[.val (.ref a1), .val (.int 2), .val (.int 3), .val (.ref b2), .val (.int 2)] [(.int 2), (.ref a1), (.int 2), (.ref b2)]) t → Gl t := fun t kt => kn17 t (st18 _ (by
    show own_S p e below T18 (mkF m 23 #[.val (.ref a1), .val (.int 1), .val (.int 3), .val (.ref b2), .val (.int 1)] []) _
    refine XS.iinc X18.here hx rfl (hb hby d21_23) rfl (l' := #[.val (.ref a1), .val (.int ((1 : Int32) + (1 : Int32))), .val (.int 3), .val (.ref b2), .val (.int 1)]) rfl ?_
    rw [(by decide : ((1 : Int32) + (1 : Int32)) = (2 : Int32))]
    show own_S p e below T18 (mkF m 26 #[.val (.ref a1), .val (.int 2), .val (.int 3), .val (.ref b2), .val (.int 1)] []) _
    refine XS.iinc X18.here hx rfl (hb hby d21_26) rfl (l' := #[.val (.ref a1), .val (.int 2), .val (.int 3), .val (.ref b2), .val (.int ((1 : Int32) + (1 : Int32)))]) rfl ?_
    rw [(by decide : ((1 : Int32) + (1 : Int32)) = (2 : Int32))]
    refine XS.goto X18.here hx rfl (pc0 := 29) (pc' := 8) rfl (hb hby d21_29) (by decide) (by decide) ?_
    refine XS.iload X18.here hx rfl (hb hby d21_8) rfl ?_
    refine XS.iloadN X18.here hx rfl (hb hby d21_10) rfl ?_
    refine XS.icmpNo X18.here hx rfl (hb hby d21_11) rfl (tlt (by decide : (2 : Int32) < (3 : Int32))).2.1 ?_
    refine XS.aloadN X18.here hx rfl (hb hby d21_14) rfl rfl ?_
    refine XS.iload X18.here hx rfl (hb hby d21_15) rfl ?_
    refine XS.aloadN X18.here hx rfl (hb hby d21_17) rfl rfl ?_
    refine XS.iloadN X18.here hx rfl (hb hby d21_18) rfl ?_
    exact kt))
  have f23 := (f15.keep K18 (ninS ne_a1_b2 nin0))
  obtain ⟨cl24, Ar24, q24, Sz24, Ng24, Hs24, Gs24⟩ := id f23
  have hin24 : ¬ ((2 : Int32) < 0 ∨ cl24.slots.size ≤ ((2 : Int32)).toNatClampNeg) := inb_of Sz24 ⟨by decide, by decide⟩
  have hat24 : cl24.slots[((2 : Int32)).toNatClampNeg]? = some (.int c2) := Hs24.at hin24 rfl
  have kn25 : ∀ t, own_S p e below T18 (mkF m 20 #[.val (.ref a1), .val (.int 2), .val (.int 3), .val (.ref b2), .val (.int 2)] [(.int c2), (.int 2), (.ref b2)]) t → Gl t := fun t kt => kn22 t (by
    show own_S p e below T18 (mkF m 19 #[.val (.ref a1), .val (.int 2), .val (.int 3), .val (.ref b2), .val (.int 2)] [(.int 2), (.ref a1), (.int 2), (.ref b2)]) _
    refine X18.caload hx (j := (2 : Int32)) (v := (.int c2)) Ar24.1 (State.isArrayOf_alike hZ.alike Ar24.2.1) Ar24.2.2 hin24 hat24 (g := (mkF m 19 #[.val (.ref a1), .val (.int 2), .val (.int 3), .val (.ref b2), .val (.int 2)] [(.int 2), (.ref a1), (.int 2), (.ref b2)])) rfl rfl (hb hby d21_19) _ ?_
    exact kt)
  obtain ⟨_, _, ⟨T26, L26, cc26, ss26⟩, -, X26, ⟨Lc26, hQ26, l26, y26, z26⟩, st26⟩ := Jvm.LawKit.callS X18 hx (y := mN19) hown (mvT hZ (own_w hw 103 rfl)) (mvT hZ (own_w hw 104 rfl)) (mvT hZ (own_w hw 54 rfl)) (mvT hZ (own_w hw 105 rfl)) (by decide) (backOf (W := 0) (rm24_3_2 l Z a0 hw [] b2 c2 kb2 (.int (StrChars.lo8 c0)) (.int (StrChars.hi8 c0)) (.int (StrChars.lo8 c1)) (.int (StrChars.hi8 c1)) (.int (0 : Int32)) (.int (0 : Int32)) T18.heap n0 Z19 V18 gb2 Od20 U1 U2 U3) hZ (own_w hw 105 rfl) (own_w hw 54 rfl) (by decide) (by decide)) (g := (mkF m 20 #[.val (.ref a1), .val (.int 2), .val (.int 3), .val (.ref b2), .val (.int 2)] [(.int c2), (.int 2), (.ref b2)])) rfl (by rw [hml]; rfl) (argsL := [(.ref b2), (.int 2), (.int c2)]) (rest := []) (lenOf pd_12 rfl) rfl (by show 2 * 0 + _ ≤ _; exact Nat.le_of_eq rfl) (hb hby d21_20) (fun _ _ => ⟨rfl, rfl, (by decide : 1 + 0 ≤ _), (by decide : 6 + 0 ≤ _)⟩)
  dsimp only [Pt.U, Pt.locs, Pt.cells, Pt.slots] at X26 l26 y26 z26 st26 hQ26
  subst l26 y26 z26
  have X26 : Stand p l e _ _ m _ below meth c T26 _ 1 6 := X26
  obtain ⟨rfl, Nq26, K26, V26⟩ := hQ26
  have Nf26 := Fr.app Nf18 Nq26
  have Z27 := Nat.le_trans Z19 K26.1
  have Od28 := Od20.keep K26 (allS gb2 all0)
  have K29 := K21.trans K26 (allS (Or.inr szz2) all0)
  have kn30 : ∀ t, own_S p e below T26 (mkF m 33 #[.val (.ref a1), .val (.int 3), .val (.int 3), .val (.ref b2), .val (.int 3)] [(.ref b2)]) t → Gl t := fun t kt => kn25 t (st26 _ (by
    show own_S p e below T26 (mkF m 23 #[.val (.ref a1), .val (.int 2), .val (.int 3), .val (.ref b2), .val (.int 2)] []) _
    refine XS.iinc X26.here hx rfl (hb hby d21_23) rfl (l' := #[.val (.ref a1), .val (.int ((2 : Int32) + (1 : Int32))), .val (.int 3), .val (.ref b2), .val (.int 2)]) rfl ?_
    rw [(by decide : ((2 : Int32) + (1 : Int32)) = (3 : Int32))]
    show own_S p e below T26 (mkF m 26 #[.val (.ref a1), .val (.int 3), .val (.int 3), .val (.ref b2), .val (.int 2)] []) _
    refine XS.iinc X26.here hx rfl (hb hby d21_26) rfl (l' := #[.val (.ref a1), .val (.int 3), .val (.int 3), .val (.ref b2), .val (.int ((2 : Int32) + (1 : Int32)))]) rfl ?_
    rw [(by decide : ((2 : Int32) + (1 : Int32)) = (3 : Int32))]
    refine XS.goto X26.here hx rfl (pc0 := 29) (pc' := 8) rfl (hb hby d21_29) (by decide) (by decide) ?_
    refine XS.iload X26.here hx rfl (hb hby d21_8) rfl ?_
    refine XS.iloadN X26.here hx rfl (hb hby d21_10) rfl ?_
    refine XS.icmpYes X26.here hx rfl (pc0 := 11) (pc' := 32) rfl (hb hby d21_11) rfl (flt (by decide : ¬ ((3 : Int32) < (3 : Int32)))).2.1 (by decide) (by decide) ?_
    refine XS.aloadN X26.here hx rfl (hb hby d21_32) rfl rfl ?_
    exact kt))
  obtain ⟨fs, hr, hrun, hended, hW, hsame⟩ := X26.leave (v := some (.ref b2)) (fun h => by rw [Bd.returns] at h; cases h)
  refine ⟨_, _, hGl _ (kn30 _ (by
      show own_S p e below T26 (mkF m 33 #[.val (.ref a1), .val (.int 3), .val (.int 3), .val (.ref b2), .val (.int 3)] [(.ref b2)]) _
      jvm_step X26.here [X26.here.top, hx, (hb hby d21_33), X26.method', Bd.returns, Value.isRef, FieldType.isReference]
      first | (intro acts; rw [hr _ acts rfl rfl rfl]) | rw [hr _ _ rfl rfl rfl]
      exact Steps.refl _)), hrun, hended, _, _, rfl, ?_, ⟨_, rfl⟩, hW, hsame.mono (by decide) (by decide)⟩
  show Q21_3 Z a1 ka c0 c1 c2 h0 n0 _ T26.heap _
  exact ⟨b2, _, rfl, Nf26, gb2, szz2, K29, V26⟩

theorem ef_rm11_3 (m : MethodId) (x0 : Addr) : entryFrame m #[(.ref x0), (.int (0 : Int32)), (.int (3 : Int32))] 6 = mkF m 0 #[.val (.ref x0), .val (.int (0 : Int32)), .val (.int (3 : Int32)), .unset, .unset, .unset] [] := by first | (simp [entryFrame, mkF, argsToLocals, Value.category]; done) | rfl
def Q11_3 (Z : State) (a1 : Addr) (ka : ClassId) (c0 : Int32) (c1 : Int32) (c2 : Int32) (h0 : Heap) (n0 : Nat) (v : Option Value) (h : Heap) (L : List Loc) : Prop := ∃ (b : Addr) (kb : ClassId), v = some (.ref b) ∧ Fr n0 L ∧ n0 ≤ b ∧ h0.size ≤ b ∧ Keep h0 h [] ∧ Arv Z h b kb .byte (6 : Int32) [(.int (StrChars.lo8 c0)), (.int (StrChars.hi8 c0)), (.int (StrChars.lo8 c1)), (.int (StrChars.hi8 c1)), (.int (StrChars.lo8 c2)), (.int (StrChars.hi8 c2))] (.int (0 : Int32))
theorem rm11_3 (l : Launch) (Z : State) (a0 : Array Value) (hw : ∀ d ∈ tables_1, d.before a0 Z = true) (ws : List Jvm.Cond) (a1 : Addr) (ka : ClassId) (c0 : Int32) (c1 : Int32) (c2 : Int32) (h0 : Heap) (n0 : Nat) (Z0 : n0 ≤ h0.size) (A1 : Arv Z h0 a1 ka .char (3 : Int32) [(.int c0), (.int c1), (.int c2)] (.int (0 : Int32))) (rg0 : own_rg c0) (rg1 : own_rg c1) (rg2 : own_rg c2) (hwide : (255 : Int32) < c0 ∨ (¬ (255 : Int32) < c0 ∧ (255 : Int32) < c1) ∨ (¬ (255 : Int32) < c0 ∧ ¬ (255 : Int32) < c1 ∧ (255 : Int32) < c2)) (O0 : Old Z n0 h0) (U1 : Sta Z Z.heap "java/lang/StringUTF16" "$assertionsDisabled" "Z" (.int (1 : Int32))) (U2 : Sta Z Z.heap "java/lang/StringUTF16" "HI_BYTE_SHIFT" "I" (.int (0 : Int32))) (U3 : Sta Z Z.heap "java/lang/StringUTF16" "LO_BYTE_SHIFT" "I" (.int (8 : Int32))) :
    MetFree l mN21 (head1 (Jvm.Cond.code mN21 jdk_52_method_16_code 6 (some (.array .byte)) :: ws) (own_r 3 2 9 40)) (fun a U => a = #[(.ref a1), (.int (0 : Int32)), (.int (3 : Int32))] ∧ Z.Warmed39 U.vm ∧ U.heap = h0) (fun _ _ _ _ _ => True) (fun _ U o U' => ∃ v L, o = .returned v ∧ Q11_3 Z a1 ka c0 c1 c2 h0 n0 v U'.heap L ∧ FrameEnd U o U' L (own_r 3 2 9 40).cells (own_r 3 2 9 40).slots) := by
  refine MetFree.of_bodySF (plainFor_of_name pn_4) hisR ?_
  intro p e s m args below meth c s₁ Bd hml0 hP hK
  obtain ⟨rfl, hZ, hh⟩ := hP
  have hx := Bd.exec
  have hby := Bd.bytes
  have hml : c.maxLocals = 6 := hml0
  have hown : s.vm.findClass "java/lang/StringUTF16" = some m.cls := findClass_of_methodNamed Bd.named
  have hnm := (name_of_methodNamed Bd.named Bd.method).1
  have X0 : Stand p l e (own_r 3 2 9 40) s m #[(.ref a1), (.int (0 : Int32)), (.int (3 : Int32))] below meth c s₁ [] 0 0 := Stand.of_body Bd
  have e0 : s₁.heap = h0 := by rw [← hh, Bd.state]; rfl
  have Nf0 := Fr.nil n0
  obtain ⟨Gl, hGl, kn0⟩ := own_gl (p := p) (e := e) (below := below) (s₁ := s₁) (ef_rm11_3 m a1)
  rcases hwide with w0 | w1 | w2
  · have kn1 : ∀ t, own_S p e below s₁ (mkF m 1 #[.val (.ref a1), .val (.int 0), .val (.int 3), .unset, .unset, .unset] [(.int 3)]) t → Gl t := fun t kt => kn0 t (by
      show own_S p e below s₁ (mkF m 0 #[.val (.ref a1), .val (.int 0), .val (.int 3), .unset, .unset, .unset] []) _
      refine XS.iloadN X0.here hx rfl (hb hby d11_0) rfl ?_
      exact kt)
    obtain ⟨T2, h2, kk2, X2, e2, E2, A2, st2⟩ := newP X0 hx hZ (own_w hw 20 rfl) e0 (g := (mkF m 1 #[.val (.ref a1), .val (.int 0), .val (.int 3), .unset, .unset, .unset] [(.int 3)])) rfl (hb hby d11_1) rfl (by decide) (cap := 3) (by decide) (by decide) (by decide) (by decide)
    obtain ⟨b2, g2⟩ : ∃ z, z = h0.size := ⟨_, rfl⟩
    rw [← g2] at A2 st2
    have sz_b2 : h0.size ≤ b2 := Nat.le_trans (Keep.refl h0 []).1 (Nat.le_of_eq g2.symm)
    have g_b2 : n0 ≤ b2 := Nat.le_trans Z0 (Nat.le_of_eq g2.symm)
    have ne_a1_b2 : a1 ≠ b2 := Nat.ne_of_lt (Nat.lt_of_lt_of_le A1.lt (Nat.le_of_eq g2.symm))
    have Z3 := Nat.le_trans Z0 E2.1
    have Od4 := O0.ext E2
    have K5 := (Keep.refl h0 []).ext E2
    have V2 : Arv Z h2 b2 kk2 .byte (3 : Int32) [(.int (0 : Int32)), (.int (0 : Int32)), (.int (0 : Int32))] (.int (0 : Int32)) := (Arv.new A2 (by decide)).pad (pad_rep [] (.int (0 : Int32)) 3)
    have kn6 : ∀ t, own_S p e below T2 (mkF m 9 #[.val (.ref a1), .val (.int 0), .val (.int 3), .val (.ref b2), .unset, .unset] [(.int 3), (.int 0), (.ref b2), (.int 0), (.ref a1)]) t → Gl t := fun t kt => kn1 t (st2 _ (by
      show own_S p e below T2 (mkF m 3 #[.val (.ref a1), .val (.int 0), .val (.int 3), .unset, .unset, .unset] [(.ref b2)]) _
      refine XS.astoreN X2.here hx rfl (hb hby d11_3) rfl rfl (l' := #[.val (.ref a1), .val (.int 0), .val (.int 3), .val (.ref b2), .unset, .unset]) rfl ?_
      refine XS.aloadN X2.here hx rfl (hb hby d11_4) rfl rfl ?_
      refine XS.iloadN X2.here hx rfl (hb hby d11_5) rfl ?_
      refine XS.aloadN X2.here hx rfl (hb hby d11_6) rfl rfl ?_
      refine XS.iconst X2.here hx rfl (hb hby d11_7) ?_
      refine XS.iloadN X2.here hx rfl (hb hby d11_8) rfl ?_
      exact kt))
    have f8 := (A1.ext E2)
    obtain ⟨_, _, ⟨T7, L7, cc7, ss7⟩, -, X7, ⟨Lc7, hQ7, l7, y7, z7⟩, st7⟩ := Jvm.LawKit.callS X2 hx (y := mN16) hown (mvT hZ (own_w hw 56 rfl)) (mvT hZ (own_w hw 57 rfl)) (mvT hZ (own_w hw 54 rfl)) (mvT hZ (own_w hw 58 rfl)) (by decide) (backOf (W := 0) (rm12_3_0 l Z a0 hw [] a1 b2 ka kk2 c0 c1 c2 h2 n0 Z3 f8 V2 ne_a1_b2 g_b2 w0) hZ (own_w hw 58 rfl) (own_w hw 54 rfl) (by decide) (by decide)) (g := (mkF m 9 #[.val (.ref a1), .val (.int 0), .val (.int 3), .val (.ref b2), .unset, .unset] [(.int 3), (.int 0), (.ref b2), (.int 0), (.ref a1)])) rfl (by rw [hml]; rfl) (argsL := [(.ref a1), (.int 0), (.ref b2), (.int 0), (.int 3)]) (rest := []) (lenOf pd_13 rfl) rfl (by show 2 * 0 + _ ≤ _; exact Nat.le_of_eq rfl) (hb hby d11_9) (fun _ _ => ⟨rfl, e2, (by decide : 1 + 0 ≤ _), (by decide : 3 + 0 ≤ _)⟩)
    dsimp only [Pt.U, Pt.locs, Pt.cells, Pt.slots] at X7 l7 y7 z7 st7 hQ7
    subst l7 y7 z7
    have X7 : Stand p l e _ _ m _ below meth c T7 _ 1 3 := X7
    obtain ⟨rfl, Nq7, K7⟩ := hQ7
    have Nf7 := Fr.app Nf0 Nq7
    have Z9 := Nat.le_trans Z3 K7.1
    have Od10 := Od4.keep K7 (allS g_b2 all0)
    have K11 := K5.trans K7 (allS (Or.inr sz_b2) all0)
    have kn12 : ∀ t, own_S p e below T7 (mkF m 23 #[.val (.ref a1), .val (.int 0), .val (.int 3), .val (.ref b2), .val (.int 0), .unset] [(.int 3), (.int 0), (.ref a1)]) t → Gl t := fun t kt => kn6 t (st7 _ (by
      show own_S p e below T7 (mkF m 12 #[.val (.ref a1), .val (.int 0), .val (.int 3), .val (.ref b2), .unset, .unset] [(.int 0)]) _
      refine XS.istore X7.here hx rfl (hb hby d11_12) rfl (l' := #[.val (.ref a1), .val (.int 0), .val (.int 3), .val (.ref b2), .val (.int 0), .unset]) rfl ?_
      refine XS.iload X7.here hx rfl (hb hby d11_14) rfl ?_
      refine XS.iloadN X7.here hx rfl (hb hby d11_16) rfl ?_
      refine XS.icmpNo X7.here hx rfl (hb hby d11_17) rfl (feq (by decide : ¬ ((0 : Int32) = (3 : Int32)))).1 ?_
      refine XS.aloadN X7.here hx rfl (hb hby d11_20) rfl rfl ?_
      refine XS.iloadN X7.here hx rfl (hb hby d11_21) rfl ?_
      refine XS.iloadN X7.here hx rfl (hb hby d11_22) rfl ?_
      exact kt))
    have f14 := (f8.keep K7 (ninS ne_a1_b2 nin0))
    obtain ⟨_, _, ⟨T13, L13, cc13, ss13⟩, -, X13, ⟨Lc13, hQ13, l13, y13, z13⟩, st13⟩ := Jvm.LawKit.callS X7 hx (y := mN20) hown (mvT hZ (own_w hw 93 rfl)) (mvT hZ (own_w hw 94 rfl)) (mvT hZ (own_w hw 54 rfl)) (mvT hZ (own_w hw 95 rfl)) (by decide) (backOf (W := 0) (rm21_3 l Z a0 hw [] a1 ka c0 c1 c2 T7.heap n0 Z9 f14 Od10 U1 U2 U3) hZ (own_w hw 95 rfl) (own_w hw 54 rfl) (by decide) (by decide)) (g := (mkF m 23 #[.val (.ref a1), .val (.int 0), .val (.int 3), .val (.ref b2), .val (.int 0), .unset] [(.int 3), (.int 0), (.ref a1)])) rfl (by rw [hml]; rfl) (argsL := [(.ref a1), (.int 0), (.int 3)]) (rest := []) (lenOf pd_14 rfl) rfl (by show 2 * 0 + _ ≤ _; exact Nat.le_of_eq rfl) (hb hby d11_23) (fun _ _ => ⟨rfl, rfl, (by decide : 1 + 1 ≤ _), (by decide : 3 + 6 ≤ _)⟩)
    dsimp only [Pt.U, Pt.locs, Pt.cells, Pt.slots] at X13 l13 y13 z13 st13 hQ13
    subst l13 y13 z13
    have X13 : Stand p l e _ _ m _ below meth c T13 _ 2 9 := X13
    obtain ⟨b13, kb13, rfl, Nq13, gb13, sb13, K13, V13⟩ := hQ13
    have Nf13 := Fr.app Nf7 Nq13
    have ne_a1_b13 : a1 ≠ b13 := Nat.ne_of_lt (Nat.lt_of_lt_of_le f14.lt sb13)
    have szz13 : h0.size ≤ b13 := Nat.le_trans K11.1 sb13
    have Z15 := Nat.le_trans Z9 K13.1
    have Od16 := Od10.keep K13 all0
    have K17 := K11.trans K13 (all0)
    have kn18 : ∀ t, own_S p e below T13 (mkF m 32 #[.val (.ref a1), .val (.int 0), .val (.int 3), .val (.ref b2), .val (.int 0), .val (.ref b13)] [(.int 0), (.ref b13)]) t → Gl t := fun t kt => kn12 t (st13 _ (by
      show own_S p e below T13 (mkF m 26 #[.val (.ref a1), .val (.int 0), .val (.int 3), .val (.ref b2), .val (.int 0), .unset] [(.ref b13)]) _
      refine XS.astore X13.here hx rfl (hb hby d11_26) rfl rfl (l' := #[.val (.ref a1), .val (.int 0), .val (.int 3), .val (.ref b2), .val (.int 0), .val (.ref b13)]) rfl ?_
      refine XS.aload X13.here hx rfl (hb hby d11_28) rfl rfl ?_
      refine XS.iload X13.here hx rfl (hb hby d11_30) rfl ?_
      exact kt))
    obtain ⟨_, _, ⟨T19, L19, cc19, ss19⟩, -, X19, ⟨Lc19, hQ19, l19, y19, z19⟩, st19⟩ := Jvm.LawKit.callS X13 hx (y := mN9) hown (mvT hZ (own_w hw 109 rfl)) (mvT hZ (own_w hw 110 rfl)) (mvT hZ (own_w hw 54 rfl)) (mvT hZ (own_w hw 111 rfl)) (by decide) (backOf (W := 0) (rm25_0 l Z a0 hw [] b13 kb13 (6 : Int32) [(.int (StrChars.lo8 c0)), (.int (StrChars.hi8 c0)), (.int (StrChars.lo8 c1)), (.int (StrChars.hi8 c1)), (.int (StrChars.lo8 c2)), (.int (StrChars.hi8 c2))] (StrChars.lo8 c0) (StrChars.hi8 c0) T13.heap n0 Z15 V13 (by decide) (by decide) rfl rfl Od16 U1 U2 U3) hZ (own_w hw 111 rfl) (own_w hw 54 rfl) (by decide) (by decide)) (g := (mkF m 32 #[.val (.ref a1), .val (.int 0), .val (.int 3), .val (.ref b2), .val (.int 0), .val (.ref b13)] [(.int 0), (.ref b13)])) rfl (by rw [hml]; rfl) (argsL := [(.ref b13), (.int 0)]) (rest := []) (lenOf pd_6 rfl) rfl (by show 2 * 0 + _ ≤ _; exact Nat.le_of_eq rfl) (hb hby d11_32) (fun _ _ => ⟨rfl, rfl, (by decide : 2 + 0 ≤ _), (by decide : 9 + 0 ≤ _)⟩)
    dsimp only [Pt.U, Pt.locs, Pt.cells, Pt.slots] at X19 l19 y19 z19 st19 hQ19
    subst l19 y19 z19
    have X19 : Stand p l e _ _ m _ below meth c T19 _ 2 9 := X19
    obtain ⟨rfl, Nq19, eq19⟩ := hQ19
    have Nf19 := Fr.app Nf13 Nq19
    have kn20 : ∀ t, own_S p e below T19 (mkF m 38 #[.val (.ref a1), .val (.int 0), .val (.int 3), .val (.ref b2), .val (.int 0), .val (.ref b13)] [(.int 255), (.int (nar .char (StrChars.pairCh (StrChars.lo8 c0) (StrChars.hi8 c0))))]) t → Gl t := fun t kt => kn18 t (st19 _ (by
      show own_S p e below T19 (mkF m 35 #[.val (.ref a1), .val (.int 0), .val (.int 3), .val (.ref b2), .val (.int 0), .val (.ref b13)] [(.int (nar .char (StrChars.pairCh (StrChars.lo8 c0) (StrChars.hi8 c0))))]) _
      refine XS.sipush X19.here hx rfl (hb hby d11_35) ?_
      exact kt))
    have hc38_21 : (255 : Int32) < (nar .char (StrChars.pairCh (StrChars.lo8 c0) (StrChars.hi8 c0))) := by rw [own_pr rg0]; exact w0
    have kn22 : ∀ t, own_S p e below T19 (mkF m 56 #[.val (.ref a1), .val (.int 0), .val (.int 3), .val (.ref b2), .val (.int 0), .val (.ref b13)] [(.ref b13)]) t → Gl t := fun t kt => kn20 t (by
      show own_S p e below T19 (mkF m 38 #[.val (.ref a1), .val (.int 0), .val (.int 3), .val (.ref b2), .val (.int 0), .val (.ref b13)] [(.int 255), (.int (nar .char (StrChars.pairCh (StrChars.lo8 c0) (StrChars.hi8 c0))))]) _
      refine XS.icmpYes X19.here hx rfl (pc0 := 38) (pc' := 54) rfl (hb hby d11_38) rfl (tlt hc38_21).2.2.1 (by decide) (by decide) ?_
      refine XS.aload X19.here hx rfl (hb hby d11_54) rfl rfl ?_
      exact kt)
    obtain ⟨fs, hr, hrun, hended, hW, hsame⟩ := X19.leave (v := some (.ref b13)) (fun h => by rw [Bd.returns] at h; cases h)
    refine ⟨_, _, hGl _ (kn22 _ (by
        show own_S p e below T19 (mkF m 56 #[.val (.ref a1), .val (.int 0), .val (.int 3), .val (.ref b2), .val (.int 0), .val (.ref b13)] [(.ref b13)]) _
        jvm_step X19.here [X19.here.top, hx, (hb hby d11_56), X19.method', Bd.returns, Value.isRef, FieldType.isReference]
        first | (intro acts; rw [hr _ acts rfl rfl rfl]) | rw [hr _ _ rfl rfl rfl]
        exact Steps.refl _)), hrun, hended, _, _, rfl, ?_, ⟨_, rfl⟩, hW, hsame.mono (by decide) (by decide)⟩
    show Q11_3 Z a1 ka c0 c1 c2 h0 n0 _ T19.heap _
    rw [eq19]
    exact ⟨b13, _, rfl, Nf19, gb13, szz13, K17, V13⟩
  · have kn23 : ∀ t, own_S p e below s₁ (mkF m 1 #[.val (.ref a1), .val (.int 0), .val (.int 3), .unset, .unset, .unset] [(.int 3)]) t → Gl t := fun t kt => kn0 t (by
      show own_S p e below s₁ (mkF m 0 #[.val (.ref a1), .val (.int 0), .val (.int 3), .unset, .unset, .unset] []) _
      refine XS.iloadN X0.here hx rfl (hb hby d11_0) rfl ?_
      exact kt)
    obtain ⟨T24, h24, kk24, X24, e24, E24, A24, st24⟩ := newP X0 hx hZ (own_w hw 20 rfl) e0 (g := (mkF m 1 #[.val (.ref a1), .val (.int 0), .val (.int 3), .unset, .unset, .unset] [(.int 3)])) rfl (hb hby d11_1) rfl (by decide) (cap := 3) (by decide) (by decide) (by decide) (by decide)
    obtain ⟨b24, g24⟩ : ∃ z, z = h0.size := ⟨_, rfl⟩
    rw [← g24] at A24 st24
    have sz_b24 : h0.size ≤ b24 := Nat.le_trans (Keep.refl h0 []).1 (Nat.le_of_eq g24.symm)
    have g_b24 : n0 ≤ b24 := Nat.le_trans Z0 (Nat.le_of_eq g24.symm)
    have ne_a1_b24 : a1 ≠ b24 := Nat.ne_of_lt (Nat.lt_of_lt_of_le A1.lt (Nat.le_of_eq g24.symm))
    have Z25 := Nat.le_trans Z0 E24.1
    have Od26 := O0.ext E24
    have K27 := (Keep.refl h0 []).ext E24
    have V24 : Arv Z h24 b24 kk24 .byte (3 : Int32) [(.int (0 : Int32)), (.int (0 : Int32)), (.int (0 : Int32))] (.int (0 : Int32)) := (Arv.new A24 (by decide)).pad (pad_rep [] (.int (0 : Int32)) 3)
    have kn28 : ∀ t, own_S p e below T24 (mkF m 9 #[.val (.ref a1), .val (.int 0), .val (.int 3), .val (.ref b24), .unset, .unset] [(.int 3), (.int 0), (.ref b24), (.int 0), (.ref a1)]) t → Gl t := fun t kt => kn23 t (st24 _ (by
      show own_S p e below T24 (mkF m 3 #[.val (.ref a1), .val (.int 0), .val (.int 3), .unset, .unset, .unset] [(.ref b24)]) _
      refine XS.astoreN X24.here hx rfl (hb hby d11_3) rfl rfl (l' := #[.val (.ref a1), .val (.int 0), .val (.int 3), .val (.ref b24), .unset, .unset]) rfl ?_
      refine XS.aloadN X24.here hx rfl (hb hby d11_4) rfl rfl ?_
      refine XS.iloadN X24.here hx rfl (hb hby d11_5) rfl ?_
      refine XS.aloadN X24.here hx rfl (hb hby d11_6) rfl rfl ?_
      refine XS.iconst X24.here hx rfl (hb hby d11_7) ?_
      refine XS.iloadN X24.here hx rfl (hb hby d11_8) rfl ?_
      exact kt))
    have f30 := (A1.ext E24)
    obtain ⟨_, _, ⟨T29, L29, cc29, ss29⟩, -, X29, ⟨Lc29, hQ29, l29, y29, z29⟩, st29⟩ := Jvm.LawKit.callS X24 hx (y := mN16) hown (mvT hZ (own_w hw 56 rfl)) (mvT hZ (own_w hw 57 rfl)) (mvT hZ (own_w hw 54 rfl)) (mvT hZ (own_w hw 58 rfl)) (by decide) (backOf (W := 0) (rm12_3_1 l Z a0 hw [] a1 b24 ka kk24 c0 c1 c2 h24 n0 Z25 f30 V24 ne_a1_b24 g_b24 w1.1 w1.2) hZ (own_w hw 58 rfl) (own_w hw 54 rfl) (by decide) (by decide)) (g := (mkF m 9 #[.val (.ref a1), .val (.int 0), .val (.int 3), .val (.ref b24), .unset, .unset] [(.int 3), (.int 0), (.ref b24), (.int 0), (.ref a1)])) rfl (by rw [hml]; rfl) (argsL := [(.ref a1), (.int 0), (.ref b24), (.int 0), (.int 3)]) (rest := []) (lenOf pd_13 rfl) rfl (by show 2 * 0 + _ ≤ _; exact Nat.le_of_eq rfl) (hb hby d11_9) (fun _ _ => ⟨rfl, e24, (by decide : 1 + 0 ≤ _), (by decide : 3 + 0 ≤ _)⟩)
    dsimp only [Pt.U, Pt.locs, Pt.cells, Pt.slots] at X29 l29 y29 z29 st29 hQ29
    subst l29 y29 z29
    have X29 : Stand p l e _ _ m _ below meth c T29 _ 1 3 := X29
    obtain ⟨rfl, Nq29, K29⟩ := hQ29
    have Nf29 := Fr.app Nf0 Nq29
    have Z31 := Nat.le_trans Z25 K29.1
    have Od32 := Od26.keep K29 (allS g_b24 all0)
    have K33 := K27.trans K29 (allS (Or.inr sz_b24) all0)
    have kn34 : ∀ t, own_S p e below T29 (mkF m 23 #[.val (.ref a1), .val (.int 0), .val (.int 3), .val (.ref b24), .val (.int 1), .unset] [(.int 3), (.int 0), (.ref a1)]) t → Gl t := fun t kt => kn28 t (st29 _ (by
      show own_S p e below T29 (mkF m 12 #[.val (.ref a1), .val (.int 0), .val (.int 3), .val (.ref b24), .unset, .unset] [(.int 1)]) _
      refine XS.istore X29.here hx rfl (hb hby d11_12) rfl (l' := #[.val (.ref a1), .val (.int 0), .val (.int 3), .val (.ref b24), .val (.int 1), .unset]) rfl ?_
      refine XS.iload X29.here hx rfl (hb hby d11_14) rfl ?_
      refine XS.iloadN X29.here hx rfl (hb hby d11_16) rfl ?_
      refine XS.icmpNo X29.here hx rfl (hb hby d11_17) rfl (feq (by decide : ¬ ((1 : Int32) = (3 : Int32)))).1 ?_
      refine XS.aloadN X29.here hx rfl (hb hby d11_20) rfl rfl ?_
      refine XS.iloadN X29.here hx rfl (hb hby d11_21) rfl ?_
      refine XS.iloadN X29.here hx rfl (hb hby d11_22) rfl ?_
      exact kt))
    have f36 := (f30.keep K29 (ninS ne_a1_b24 nin0))
    obtain ⟨_, _, ⟨T35, L35, cc35, ss35⟩, -, X35, ⟨Lc35, hQ35, l35, y35, z35⟩, st35⟩ := Jvm.LawKit.callS X29 hx (y := mN20) hown (mvT hZ (own_w hw 93 rfl)) (mvT hZ (own_w hw 94 rfl)) (mvT hZ (own_w hw 54 rfl)) (mvT hZ (own_w hw 95 rfl)) (by decide) (backOf (W := 0) (rm21_3 l Z a0 hw [] a1 ka c0 c1 c2 T29.heap n0 Z31 f36 Od32 U1 U2 U3) hZ (own_w hw 95 rfl) (own_w hw 54 rfl) (by decide) (by decide)) (g := (mkF m 23 #[.val (.ref a1), .val (.int 0), .val (.int 3), .val (.ref b24), .val (.int 1), .unset] [(.int 3), (.int 0), (.ref a1)])) rfl (by rw [hml]; rfl) (argsL := [(.ref a1), (.int 0), (.int 3)]) (rest := []) (lenOf pd_14 rfl) rfl (by show 2 * 0 + _ ≤ _; exact Nat.le_of_eq rfl) (hb hby d11_23) (fun _ _ => ⟨rfl, rfl, (by decide : 1 + 1 ≤ _), (by decide : 3 + 6 ≤ _)⟩)
    dsimp only [Pt.U, Pt.locs, Pt.cells, Pt.slots] at X35 l35 y35 z35 st35 hQ35
    subst l35 y35 z35
    have X35 : Stand p l e _ _ m _ below meth c T35 _ 2 9 := X35
    obtain ⟨b35, kb35, rfl, Nq35, gb35, sb35, K35, V35⟩ := hQ35
    have Nf35 := Fr.app Nf29 Nq35
    have ne_a1_b35 : a1 ≠ b35 := Nat.ne_of_lt (Nat.lt_of_lt_of_le f36.lt sb35)
    have szz35 : h0.size ≤ b35 := Nat.le_trans K33.1 sb35
    have Z37 := Nat.le_trans Z31 K35.1
    have Od38 := Od32.keep K35 all0
    have K39 := K33.trans K35 (all0)
    have kn40 : ∀ t, own_S p e below T35 (mkF m 32 #[.val (.ref a1), .val (.int 0), .val (.int 3), .val (.ref b24), .val (.int 1), .val (.ref b35)] [(.int 1), (.ref b35)]) t → Gl t := fun t kt => kn34 t (st35 _ (by
      show own_S p e below T35 (mkF m 26 #[.val (.ref a1), .val (.int 0), .val (.int 3), .val (.ref b24), .val (.int 1), .unset] [(.ref b35)]) _
      refine XS.astore X35.here hx rfl (hb hby d11_26) rfl rfl (l' := #[.val (.ref a1), .val (.int 0), .val (.int 3), .val (.ref b24), .val (.int 1), .val (.ref b35)]) rfl ?_
      refine XS.aload X35.here hx rfl (hb hby d11_28) rfl rfl ?_
      refine XS.iload X35.here hx rfl (hb hby d11_30) rfl ?_
      exact kt))
    obtain ⟨_, _, ⟨T41, L41, cc41, ss41⟩, -, X41, ⟨Lc41, hQ41, l41, y41, z41⟩, st41⟩ := Jvm.LawKit.callS X35 hx (y := mN9) hown (mvT hZ (own_w hw 109 rfl)) (mvT hZ (own_w hw 110 rfl)) (mvT hZ (own_w hw 54 rfl)) (mvT hZ (own_w hw 111 rfl)) (by decide) (backOf (W := 0) (rm25_1 l Z a0 hw [] b35 kb35 (6 : Int32) [(.int (StrChars.lo8 c0)), (.int (StrChars.hi8 c0)), (.int (StrChars.lo8 c1)), (.int (StrChars.hi8 c1)), (.int (StrChars.lo8 c2)), (.int (StrChars.hi8 c2))] (StrChars.lo8 c1) (StrChars.hi8 c1) T35.heap n0 Z37 V35 (by decide) (by decide) rfl rfl Od38 U1 U2 U3) hZ (own_w hw 111 rfl) (own_w hw 54 rfl) (by decide) (by decide)) (g := (mkF m 32 #[.val (.ref a1), .val (.int 0), .val (.int 3), .val (.ref b24), .val (.int 1), .val (.ref b35)] [(.int 1), (.ref b35)])) rfl (by rw [hml]; rfl) (argsL := [(.ref b35), (.int 1)]) (rest := []) (lenOf pd_6 rfl) rfl (by show 2 * 0 + _ ≤ _; exact Nat.le_of_eq rfl) (hb hby d11_32) (fun _ _ => ⟨rfl, rfl, (by decide : 2 + 0 ≤ _), (by decide : 9 + 0 ≤ _)⟩)
    dsimp only [Pt.U, Pt.locs, Pt.cells, Pt.slots] at X41 l41 y41 z41 st41 hQ41
    subst l41 y41 z41
    have X41 : Stand p l e _ _ m _ below meth c T41 _ 2 9 := X41
    obtain ⟨rfl, Nq41, eq41⟩ := hQ41
    have Nf41 := Fr.app Nf35 Nq41
    have kn42 : ∀ t, own_S p e below T41 (mkF m 38 #[.val (.ref a1), .val (.int 0), .val (.int 3), .val (.ref b24), .val (.int 1), .val (.ref b35)] [(.int 255), (.int (nar .char (StrChars.pairCh (StrChars.lo8 c1) (StrChars.hi8 c1))))]) t → Gl t := fun t kt => kn40 t (st41 _ (by
      show own_S p e below T41 (mkF m 35 #[.val (.ref a1), .val (.int 0), .val (.int 3), .val (.ref b24), .val (.int 1), .val (.ref b35)] [(.int (nar .char (StrChars.pairCh (StrChars.lo8 c1) (StrChars.hi8 c1))))]) _
      refine XS.sipush X41.here hx rfl (hb hby d11_35) ?_
      exact kt))
    have hc38_43 : (255 : Int32) < (nar .char (StrChars.pairCh (StrChars.lo8 c1) (StrChars.hi8 c1))) := by rw [own_pr rg1]; exact w1.2
    have kn44 : ∀ t, own_S p e below T41 (mkF m 56 #[.val (.ref a1), .val (.int 0), .val (.int 3), .val (.ref b24), .val (.int 1), .val (.ref b35)] [(.ref b35)]) t → Gl t := fun t kt => kn42 t (by
      show own_S p e below T41 (mkF m 38 #[.val (.ref a1), .val (.int 0), .val (.int 3), .val (.ref b24), .val (.int 1), .val (.ref b35)] [(.int 255), (.int (nar .char (StrChars.pairCh (StrChars.lo8 c1) (StrChars.hi8 c1))))]) _
      refine XS.icmpYes X41.here hx rfl (pc0 := 38) (pc' := 54) rfl (hb hby d11_38) rfl (tlt hc38_43).2.2.1 (by decide) (by decide) ?_
      refine XS.aload X41.here hx rfl (hb hby d11_54) rfl rfl ?_
      exact kt)
    obtain ⟨fs, hr, hrun, hended, hW, hsame⟩ := X41.leave (v := some (.ref b35)) (fun h => by rw [Bd.returns] at h; cases h)
    refine ⟨_, _, hGl _ (kn44 _ (by
        show own_S p e below T41 (mkF m 56 #[.val (.ref a1), .val (.int 0), .val (.int 3), .val (.ref b24), .val (.int 1), .val (.ref b35)] [(.ref b35)]) _
        jvm_step X41.here [X41.here.top, hx, (hb hby d11_56), X41.method', Bd.returns, Value.isRef, FieldType.isReference]
        first | (intro acts; rw [hr _ acts rfl rfl rfl]) | rw [hr _ _ rfl rfl rfl]
        exact Steps.refl _)), hrun, hended, _, _, rfl, ?_, ⟨_, rfl⟩, hW, hsame.mono (by decide) (by decide)⟩
    show Q11_3 Z a1 ka c0 c1 c2 h0 n0 _ T41.heap _
    rw [eq41]
    exact ⟨b35, _, rfl, Nf41, gb35, szz35, K39, V35⟩
  · have kn45 : ∀ t, own_S p e below s₁ (mkF m 1 #[.val (.ref a1), .val (.int 0), .val (.int 3), .unset, .unset, .unset] [(.int 3)]) t → Gl t := fun t kt => kn0 t (by
      show own_S p e below s₁ (mkF m 0 #[.val (.ref a1), .val (.int 0), .val (.int 3), .unset, .unset, .unset] []) _
      refine XS.iloadN X0.here hx rfl (hb hby d11_0) rfl ?_
      exact kt)
    obtain ⟨T46, h46, kk46, X46, e46, E46, A46, st46⟩ := newP X0 hx hZ (own_w hw 20 rfl) e0 (g := (mkF m 1 #[.val (.ref a1), .val (.int 0), .val (.int 3), .unset, .unset, .unset] [(.int 3)])) rfl (hb hby d11_1) rfl (by decide) (cap := 3) (by decide) (by decide) (by decide) (by decide)
    obtain ⟨b46, g46⟩ : ∃ z, z = h0.size := ⟨_, rfl⟩
    rw [← g46] at A46 st46
    have sz_b46 : h0.size ≤ b46 := Nat.le_trans (Keep.refl h0 []).1 (Nat.le_of_eq g46.symm)
    have g_b46 : n0 ≤ b46 := Nat.le_trans Z0 (Nat.le_of_eq g46.symm)
    have ne_a1_b46 : a1 ≠ b46 := Nat.ne_of_lt (Nat.lt_of_lt_of_le A1.lt (Nat.le_of_eq g46.symm))
    have Z47 := Nat.le_trans Z0 E46.1
    have Od48 := O0.ext E46
    have K49 := (Keep.refl h0 []).ext E46
    have V46 : Arv Z h46 b46 kk46 .byte (3 : Int32) [(.int (0 : Int32)), (.int (0 : Int32)), (.int (0 : Int32))] (.int (0 : Int32)) := (Arv.new A46 (by decide)).pad (pad_rep [] (.int (0 : Int32)) 3)
    have kn50 : ∀ t, own_S p e below T46 (mkF m 9 #[.val (.ref a1), .val (.int 0), .val (.int 3), .val (.ref b46), .unset, .unset] [(.int 3), (.int 0), (.ref b46), (.int 0), (.ref a1)]) t → Gl t := fun t kt => kn45 t (st46 _ (by
      show own_S p e below T46 (mkF m 3 #[.val (.ref a1), .val (.int 0), .val (.int 3), .unset, .unset, .unset] [(.ref b46)]) _
      refine XS.astoreN X46.here hx rfl (hb hby d11_3) rfl rfl (l' := #[.val (.ref a1), .val (.int 0), .val (.int 3), .val (.ref b46), .unset, .unset]) rfl ?_
      refine XS.aloadN X46.here hx rfl (hb hby d11_4) rfl rfl ?_
      refine XS.iloadN X46.here hx rfl (hb hby d11_5) rfl ?_
      refine XS.aloadN X46.here hx rfl (hb hby d11_6) rfl rfl ?_
      refine XS.iconst X46.here hx rfl (hb hby d11_7) ?_
      refine XS.iloadN X46.here hx rfl (hb hby d11_8) rfl ?_
      exact kt))
    have f52 := (A1.ext E46)
    obtain ⟨_, _, ⟨T51, L51, cc51, ss51⟩, -, X51, ⟨Lc51, hQ51, l51, y51, z51⟩, st51⟩ := Jvm.LawKit.callS X46 hx (y := mN16) hown (mvT hZ (own_w hw 56 rfl)) (mvT hZ (own_w hw 57 rfl)) (mvT hZ (own_w hw 54 rfl)) (mvT hZ (own_w hw 58 rfl)) (by decide) (backOf (W := 0) (rm12_3_2 l Z a0 hw [] a1 b46 ka kk46 c0 c1 c2 h46 n0 Z47 f52 V46 ne_a1_b46 g_b46 w2.1 w2.2.1 w2.2.2) hZ (own_w hw 58 rfl) (own_w hw 54 rfl) (by decide) (by decide)) (g := (mkF m 9 #[.val (.ref a1), .val (.int 0), .val (.int 3), .val (.ref b46), .unset, .unset] [(.int 3), (.int 0), (.ref b46), (.int 0), (.ref a1)])) rfl (by rw [hml]; rfl) (argsL := [(.ref a1), (.int 0), (.ref b46), (.int 0), (.int 3)]) (rest := []) (lenOf pd_13 rfl) rfl (by show 2 * 0 + _ ≤ _; exact Nat.le_of_eq rfl) (hb hby d11_9) (fun _ _ => ⟨rfl, e46, (by decide : 1 + 0 ≤ _), (by decide : 3 + 0 ≤ _)⟩)
    dsimp only [Pt.U, Pt.locs, Pt.cells, Pt.slots] at X51 l51 y51 z51 st51 hQ51
    subst l51 y51 z51
    have X51 : Stand p l e _ _ m _ below meth c T51 _ 1 3 := X51
    obtain ⟨rfl, Nq51, K51⟩ := hQ51
    have Nf51 := Fr.app Nf0 Nq51
    have Z53 := Nat.le_trans Z47 K51.1
    have Od54 := Od48.keep K51 (allS g_b46 all0)
    have K55 := K49.trans K51 (allS (Or.inr sz_b46) all0)
    have kn56 : ∀ t, own_S p e below T51 (mkF m 23 #[.val (.ref a1), .val (.int 0), .val (.int 3), .val (.ref b46), .val (.int 2), .unset] [(.int 3), (.int 0), (.ref a1)]) t → Gl t := fun t kt => kn50 t (st51 _ (by
      show own_S p e below T51 (mkF m 12 #[.val (.ref a1), .val (.int 0), .val (.int 3), .val (.ref b46), .unset, .unset] [(.int 2)]) _
      refine XS.istore X51.here hx rfl (hb hby d11_12) rfl (l' := #[.val (.ref a1), .val (.int 0), .val (.int 3), .val (.ref b46), .val (.int 2), .unset]) rfl ?_
      refine XS.iload X51.here hx rfl (hb hby d11_14) rfl ?_
      refine XS.iloadN X51.here hx rfl (hb hby d11_16) rfl ?_
      refine XS.icmpNo X51.here hx rfl (hb hby d11_17) rfl (feq (by decide : ¬ ((2 : Int32) = (3 : Int32)))).1 ?_
      refine XS.aloadN X51.here hx rfl (hb hby d11_20) rfl rfl ?_
      refine XS.iloadN X51.here hx rfl (hb hby d11_21) rfl ?_
      refine XS.iloadN X51.here hx rfl (hb hby d11_22) rfl ?_
      exact kt))
    have f58 := (f52.keep K51 (ninS ne_a1_b46 nin0))
    obtain ⟨_, _, ⟨T57, L57, cc57, ss57⟩, -, X57, ⟨Lc57, hQ57, l57, y57, z57⟩, st57⟩ := Jvm.LawKit.callS X51 hx (y := mN20) hown (mvT hZ (own_w hw 93 rfl)) (mvT hZ (own_w hw 94 rfl)) (mvT hZ (own_w hw 54 rfl)) (mvT hZ (own_w hw 95 rfl)) (by decide) (backOf (W := 0) (rm21_3 l Z a0 hw [] a1 ka c0 c1 c2 T51.heap n0 Z53 f58 Od54 U1 U2 U3) hZ (own_w hw 95 rfl) (own_w hw 54 rfl) (by decide) (by decide)) (g := (mkF m 23 #[.val (.ref a1), .val (.int 0), .val (.int 3), .val (.ref b46), .val (.int 2), .unset] [(.int 3), (.int 0), (.ref a1)])) rfl (by rw [hml]; rfl) (argsL := [(.ref a1), (.int 0), (.int 3)]) (rest := []) (lenOf pd_14 rfl) rfl (by show 2 * 0 + _ ≤ _; exact Nat.le_of_eq rfl) (hb hby d11_23) (fun _ _ => ⟨rfl, rfl, (by decide : 1 + 1 ≤ _), (by decide : 3 + 6 ≤ _)⟩)
    dsimp only [Pt.U, Pt.locs, Pt.cells, Pt.slots] at X57 l57 y57 z57 st57 hQ57
    subst l57 y57 z57
    have X57 : Stand p l e _ _ m _ below meth c T57 _ 2 9 := X57
    obtain ⟨b57, kb57, rfl, Nq57, gb57, sb57, K57, V57⟩ := hQ57
    have Nf57 := Fr.app Nf51 Nq57
    have ne_a1_b57 : a1 ≠ b57 := Nat.ne_of_lt (Nat.lt_of_lt_of_le f58.lt sb57)
    have szz57 : h0.size ≤ b57 := Nat.le_trans K55.1 sb57
    have Z59 := Nat.le_trans Z53 K57.1
    have Od60 := Od54.keep K57 all0
    have K61 := K55.trans K57 (all0)
    have kn62 : ∀ t, own_S p e below T57 (mkF m 32 #[.val (.ref a1), .val (.int 0), .val (.int 3), .val (.ref b46), .val (.int 2), .val (.ref b57)] [(.int 2), (.ref b57)]) t → Gl t := fun t kt => kn56 t (st57 _ (by
      show own_S p e below T57 (mkF m 26 #[.val (.ref a1), .val (.int 0), .val (.int 3), .val (.ref b46), .val (.int 2), .unset] [(.ref b57)]) _
      refine XS.astore X57.here hx rfl (hb hby d11_26) rfl rfl (l' := #[.val (.ref a1), .val (.int 0), .val (.int 3), .val (.ref b46), .val (.int 2), .val (.ref b57)]) rfl ?_
      refine XS.aload X57.here hx rfl (hb hby d11_28) rfl rfl ?_
      refine XS.iload X57.here hx rfl (hb hby d11_30) rfl ?_
      exact kt))
    obtain ⟨_, _, ⟨T63, L63, cc63, ss63⟩, -, X63, ⟨Lc63, hQ63, l63, y63, z63⟩, st63⟩ := Jvm.LawKit.callS X57 hx (y := mN9) hown (mvT hZ (own_w hw 109 rfl)) (mvT hZ (own_w hw 110 rfl)) (mvT hZ (own_w hw 54 rfl)) (mvT hZ (own_w hw 111 rfl)) (by decide) (backOf (W := 0) (rm25_2 l Z a0 hw [] b57 kb57 (6 : Int32) [(.int (StrChars.lo8 c0)), (.int (StrChars.hi8 c0)), (.int (StrChars.lo8 c1)), (.int (StrChars.hi8 c1)), (.int (StrChars.lo8 c2)), (.int (StrChars.hi8 c2))] (StrChars.lo8 c2) (StrChars.hi8 c2) T57.heap n0 Z59 V57 (by decide) (by decide) rfl rfl Od60 U1 U2 U3) hZ (own_w hw 111 rfl) (own_w hw 54 rfl) (by decide) (by decide)) (g := (mkF m 32 #[.val (.ref a1), .val (.int 0), .val (.int 3), .val (.ref b46), .val (.int 2), .val (.ref b57)] [(.int 2), (.ref b57)])) rfl (by rw [hml]; rfl) (argsL := [(.ref b57), (.int 2)]) (rest := []) (lenOf pd_6 rfl) rfl (by show 2 * 0 + _ ≤ _; exact Nat.le_of_eq rfl) (hb hby d11_32) (fun _ _ => ⟨rfl, rfl, (by decide : 2 + 0 ≤ _), (by decide : 9 + 0 ≤ _)⟩)
    dsimp only [Pt.U, Pt.locs, Pt.cells, Pt.slots] at X63 l63 y63 z63 st63 hQ63
    subst l63 y63 z63
    have X63 : Stand p l e _ _ m _ below meth c T63 _ 2 9 := X63
    obtain ⟨rfl, Nq63, eq63⟩ := hQ63
    have Nf63 := Fr.app Nf57 Nq63
    have kn64 : ∀ t, own_S p e below T63 (mkF m 38 #[.val (.ref a1), .val (.int 0), .val (.int 3), .val (.ref b46), .val (.int 2), .val (.ref b57)] [(.int 255), (.int (nar .char (StrChars.pairCh (StrChars.lo8 c2) (StrChars.hi8 c2))))]) t → Gl t := fun t kt => kn62 t (st63 _ (by
      show own_S p e below T63 (mkF m 35 #[.val (.ref a1), .val (.int 0), .val (.int 3), .val (.ref b46), .val (.int 2), .val (.ref b57)] [(.int (nar .char (StrChars.pairCh (StrChars.lo8 c2) (StrChars.hi8 c2))))]) _
      refine XS.sipush X63.here hx rfl (hb hby d11_35) ?_
      exact kt))
    have hc38_65 : (255 : Int32) < (nar .char (StrChars.pairCh (StrChars.lo8 c2) (StrChars.hi8 c2))) := by rw [own_pr rg2]; exact w2.2.2
    have kn66 : ∀ t, own_S p e below T63 (mkF m 56 #[.val (.ref a1), .val (.int 0), .val (.int 3), .val (.ref b46), .val (.int 2), .val (.ref b57)] [(.ref b57)]) t → Gl t := fun t kt => kn64 t (by
      show own_S p e below T63 (mkF m 38 #[.val (.ref a1), .val (.int 0), .val (.int 3), .val (.ref b46), .val (.int 2), .val (.ref b57)] [(.int 255), (.int (nar .char (StrChars.pairCh (StrChars.lo8 c2) (StrChars.hi8 c2))))]) _
      refine XS.icmpYes X63.here hx rfl (pc0 := 38) (pc' := 54) rfl (hb hby d11_38) rfl (tlt hc38_65).2.2.1 (by decide) (by decide) ?_
      refine XS.aload X63.here hx rfl (hb hby d11_54) rfl rfl ?_
      exact kt)
    obtain ⟨fs, hr, hrun, hended, hW, hsame⟩ := X63.leave (v := some (.ref b57)) (fun h => by rw [Bd.returns] at h; cases h)
    refine ⟨_, _, hGl _ (kn66 _ (by
        show own_S p e below T63 (mkF m 56 #[.val (.ref a1), .val (.int 0), .val (.int 3), .val (.ref b46), .val (.int 2), .val (.ref b57)] [(.ref b57)]) _
        jvm_step X63.here [X63.here.top, hx, (hb hby d11_56), X63.method', Bd.returns, Value.isRef, FieldType.isReference]
        first | (intro acts; rw [hr _ acts rfl rfl rfl]) | rw [hr _ _ rfl rfl rfl]
        exact Steps.refl _)), hrun, hended, _, _, rfl, ?_, ⟨_, rfl⟩, hW, hsame.mono (by decide) (by decide)⟩
    show Q11_3 Z a1 ka c0 c1 c2 h0 n0 _ T63.heap _
    rw [eq63]
    exact ⟨b57, _, rfl, Nf63, gb57, szz57, K61, V57⟩

theorem ef_rm13_3 (m : MethodId) (x0 : Addr) : entryFrame m #[(.ref x0), (.int (3 : Int32))] 2 = mkF m 0 #[.val (.ref x0), .val (.int (3 : Int32))] [] := by first | (simp [entryFrame, mkF, argsToLocals, Value.category]; done) | rfl
def Q13_3 (Z : State) (b1 : Addr) (kb : ClassId) (vs : List Value) (h0 : Heap) (n0 : Nat) (v : Option Value) (h : Heap) (L : List Loc) : Prop := v = some (.int (1 : Int32)) ∧ Fr n0 L ∧ h = h0
theorem rm13_3 (l : Launch) (Z : State) (a0 : Array Value) (hw : ∀ d ∈ tables_1, d.before a0 Z = true) (ws : List Jvm.Cond) (b1 : Addr) (kb : ClassId) (vs : List Value) (h0 : Heap) (n0 : Nat) (Z0 : n0 ≤ h0.size) (A1 : Arv Z h0 b1 kb .byte (6 : Int32) vs (.int (0 : Int32))) :
    MetFree l mN22 (head1 (Jvm.Cond.code mN22 jdk_52_method_15_code 2 (some .byte) :: ws) (own_r 0 0 0 0)) (fun a U => a = #[(.ref b1), (.int (3 : Int32))] ∧ Z.Warmed39 U.vm ∧ U.heap = h0) (fun _ _ _ _ _ => True) (fun _ U o U' => ∃ v L, o = .returned v ∧ Q13_3 Z b1 kb vs h0 n0 v U'.heap L ∧ FrameEnd U o U' L (own_r 0 0 0 0).cells (own_r 0 0 0 0).slots) := by
  refine MetFree.of_bodySF (plainFor_of_name pn_4) hisR ?_
  intro p e s m args below meth c s₁ Bd hml0 hP hK
  obtain ⟨rfl, hZ, hh⟩ := hP
  have hx := Bd.exec
  have hby := Bd.bytes
  have hml : c.maxLocals = 2 := hml0
  have hown : s.vm.findClass "java/lang/StringUTF16" = some m.cls := findClass_of_methodNamed Bd.named
  have hnm := (name_of_methodNamed Bd.named Bd.method).1
  have X0 : Stand p l e (own_r 0 0 0 0) s m #[(.ref b1), (.int (3 : Int32))] below meth c s₁ [] 0 0 := Stand.of_body Bd
  have e0 : s₁.heap = h0 := by rw [← hh, Bd.state]; rfl
  have Nf0 := Fr.nil n0
  obtain ⟨Gl, hGl, kn0⟩ := own_gl (p := p) (e := e) (below := below) (s₁ := s₁) (ef_rm13_3 m b1)
  have kn1 : ∀ t, own_S p e below s₁ (mkF m 2 #[.val (.ref b1), .val (.int 3)] [(.ref b1), (.int 3)]) t → Gl t := fun t kt => kn0 t (by
    show own_S p e below s₁ (mkF m 0 #[.val (.ref b1), .val (.int 3)] []) _
    refine XS.iloadN X0.here hx rfl (hb hby d13_0) rfl ?_
    refine XS.aloadN X0.here hx rfl (hb hby d13_1) rfl rfl ?_
    exact kt)
  obtain ⟨cl2, Ar2, -, Sz2, Ng2, -, -⟩ := id A1
  have kn3 : ∀ t, own_S p e below s₁ (mkF m 8 #[.val (.ref b1), .val (.int 3)] [(.int 1)]) t → Gl t := fun t kt => kn1 t (by
    show own_S p e below s₁ (mkF m 2 #[.val (.ref b1), .val (.int 3)] [(.ref b1), (.int 3)]) _
    refine X0.arraylength hx (by rw [e0]; exact Ar2.1) (State.isArrayOf_alike hZ.alike Ar2.2.1) (g := (mkF m 2 #[.val (.ref b1), .val (.int 3)] [(.ref b1), (.int 3)])) rfl rfl (hb hby d13_2) _ ?_
    rw [len_of Sz2 Ng2]
    show own_S p e below s₁ (mkF m 3 #[.val (.ref b1), .val (.int 3)] [(.int 6), (.int 3)]) _
    refine XS.isub X0.here hx rfl (hb hby d13_3) rfl ?_
    rw [(by decide : ((3 : Int32) - (6 : Int32)) = (-3 : Int32))]
    refine XS.bipush X0.here hx rfl (hb hby d13_4) ?_
    show own_S p e below s₁ (mkF m 6 #[.val (.ref b1), .val (.int 3)] [(.int 31), (.int (-3))]) _
    refine XS.iushr X0.here hx rfl (hb hby d13_6) rfl ?_
    rw [(by decide : (((-3 : Int32).toUInt32 >>> ((31 : Int32) &&& 31).toUInt32).toInt32) = (1 : Int32))]
    show own_S p e below s₁ (mkF m 7 #[.val (.ref b1), .val (.int 3)] [(.int 1)]) _
    refine XS.i2b X0.here hx rfl (hb hby d13_7) rfl ?_
    rw [(by decide : ((1 : Int32).toInt8.toInt32) = (1 : Int32))]
    exact kt)
  obtain ⟨fs, hr, hrun, hended, hW, hsame⟩ := X0.leave (v := some (.int (1 : Int32))) (fun h => by rw [Bd.returns] at h; cases h)
  refine ⟨_, _, hGl _ (kn3 _ (retN X0 hx (t := .byte) Bd.returns (by simp) (hb hby d13_8) hr)), hrun, hended, _, _, rfl, ?_, ⟨_, rfl⟩, hW, hsame.mono (by decide) (by decide)⟩
  show Q13_3 Z b1 kb vs h0 n0 _ s₁.heap _
  rw [e0]
  exact ⟨rfl, Nf0, rfl⟩

theorem ef_rm3_3 (m : MethodId) (x0 : Addr) (x1 : Addr) : entryFrame m #[(.ref x0), (.ref x1), (.int (0 : Int32)), (.int (3 : Int32)), .null] 6 = mkF m 0 #[.val (.ref x0), .val (.ref x1), .val (.int (0 : Int32)), .val (.int (3 : Int32)), .val .null, .unset] [] := by first | (simp [entryFrame, mkF, argsToLocals, Value.category]; done) | rfl
def Q3_3 (Z : State) (s1 : Addr) (a1 : Addr) (ka : ClassId) (c0 : Int32) (c1 : Int32) (c2 : Int32) (G1 : Int32) (h0 : Heap) (n0 : Nat) (v : Option Value) (h : Heap) (L : List Loc) : Prop := v = none ∧ Fr n0 L ∧ ∃ (t : Addr) (kb : ClassId), Keep h0 h [s1] ∧ Exa Z h s1 "java/lang/String" ∧ Fld Z h s1 "java/lang/String" "coder" "B" (.int (1 : Int32)) ∧ Fld Z h s1 "java/lang/String" "value" "[B" (.ref t) ∧ Arv Z h t kb .byte (6 : Int32) [(.int (StrChars.lo8 c0)), (.int (StrChars.hi8 c0)), (.int (StrChars.lo8 c1)), (.int (StrChars.hi8 c1)), (.int (StrChars.lo8 c2)), (.int (StrChars.hi8 c2))] (.int (0 : Int32))
theorem rm3_3 (l : Launch) (Z : State) (a0 : Array Value) (hw : ∀ d ∈ tables_1, d.before a0 Z = true) (ws : List Jvm.Cond) (s1 : Addr) (a1 : Addr) (ka : ClassId) (c0 : Int32) (c1 : Int32) (c2 : Int32) (G1 : Int32) (h0 : Heap) (n0 : Nat) (Z0 : n0 ≤ h0.size) (F1 : Fld Z h0 s1 "java/lang/String" "value" "[B" .null) (F2 : Fld Z h0 s1 "java/lang/String" "coder" "B" (.int (0 : Int32))) (E1 : Exa Z h0 s1 "java/lang/String") (g_s1 : n0 ≤ s1) (A1 : Arv Z h0 a1 ka .char (3 : Int32) [(.int c0), (.int c1), (.int c2)] (.int (0 : Int32))) (nsa : @Ne Nat a1 s1) (rg0 : own_rg c0) (rg1 : own_rg c1) (rg2 : own_rg c2) (hwide : (255 : Int32) < c0 ∨ (¬ (255 : Int32) < c0 ∧ (255 : Int32) < c1) ∨ (¬ (255 : Int32) < c0 ∧ ¬ (255 : Int32) < c1 ∧ (255 : Int32) < c2)) (O0 : Old Z n0 h0) (O2 : Sta Z Z.heap "java/lang/String" "COMPACT_STRINGS" "Z" (.int G1)) (P5 : ¬ (G1 = (0 : Int32))) (U1 : Sta Z Z.heap "java/lang/StringUTF16" "$assertionsDisabled" "Z" (.int (1 : Int32))) (U2 : Sta Z Z.heap "java/lang/StringUTF16" "HI_BYTE_SHIFT" "I" (.int (0 : Int32))) (U3 : Sta Z Z.heap "java/lang/StringUTF16" "LO_BYTE_SHIFT" "I" (.int (8 : Int32))) :
    MetFree l mN23 (head1 (Jvm.Cond.code mN23 jdk_42_method_149_code 6 none :: ws) (own_r 4 2 9 57)) (fun a U => a = #[(.ref s1), (.ref a1), (.int (0 : Int32)), (.int (3 : Int32)), .null] ∧ Z.Warmed39 U.vm ∧ U.heap = h0) (fun _ _ _ _ _ => True) (fun _ U o U' => ∃ v L, o = .returned v ∧ Q3_3 Z s1 a1 ka c0 c1 c2 G1 h0 n0 v U'.heap L ∧ FrameEnd U o U' L (own_r 4 2 9 57).cells (own_r 4 2 9 57).slots) := by
  refine MetFree.of_bodySF (plainFor_of_name pn_3) hisR ?_
  intro p e s m args below meth c s₁ Bd hml0 hP hK
  obtain ⟨rfl, hZ, hh⟩ := hP
  have hx := Bd.exec
  have hby := Bd.bytes
  have hml : c.maxLocals = 6 := hml0
  have hown : s.vm.findClass "java/lang/String" = some m.cls := findClass_of_methodNamed Bd.named
  have hnm := (name_of_methodNamed Bd.named Bd.method).1
  have X0 : Stand p l e (own_r 4 2 9 57) s m #[(.ref s1), (.ref a1), (.int (0 : Int32)), (.int (3 : Int32)), .null] below meth c s₁ [] 0 0 := Stand.of_body Bd
  have e0 : s₁.heap = h0 := by rw [← hh, Bd.state]; rfl
  have Nf0 := Fr.nil n0
  obtain ⟨Gl, hGl, kn0⟩ := own_gl (p := p) (e := e) (below := below) (s₁ := s₁) (ef_rm3_3 m s1 a1)
  have kn1 : ∀ t, own_S p e below s₁ (mkF m 1 #[.val (.ref s1), .val (.ref a1), .val (.int 0), .val (.int 3), .val .null, .unset] [(.ref s1)]) t → Gl t := fun t kt => kn0 t (by
    show own_S p e below s₁ (mkF m 0 #[.val (.ref s1), .val (.ref a1), .val (.int 0), .val (.int 3), .val .null, .unset] []) _
    refine XS.aloadN X0.here hx rfl (hb hby d3_0) rfl rfl ?_
    exact kt)
  obtain ⟨T2, X2, e2, st2⟩ := initO X0 hx hZ hown (own_w hw 16 rfl) (own_w hw 17 rfl) (own_w hw 18 rfl) e0 (g := (mkF m 1 #[.val (.ref s1), .val (.ref a1), .val (.int 0), .val (.int 3), .val .null, .unset] [(.ref s1)])) rfl (by rw [hml]; rfl) rfl (hb hby d3_1) (by decide) (W := 0) (by show 2 * 0 + _ ≤ _; exact Nat.le_of_eq rfl) (by decide)
  have kn3 : ∀ t, own_S p e below T2 (mkF m 27 #[.val (.ref s1), .val (.ref a1), .val (.int 0), .val (.int 3), .val .null, .unset] []) t → Gl t := fun t kt => kn1 t (st2 _ (by
    show own_S p e below T2 (mkF m 4 #[.val (.ref s1), .val (.ref a1), .val (.int 0), .val (.int 3), .val .null, .unset] []) _
    refine XS.iloadN X2.here hx rfl (hb hby d3_4) rfl ?_
    refine XS.ifYes X2.here hx rfl (pc0 := 5) (pc' := 27) rfl (hb hby d3_5) rfl ((if0 _ _).trans (feq (by decide : ¬ ((3 : Int32) = (0 : Int32)))).2) (by decide) (by decide) ?_
    exact kt))
  obtain ⟨T4, X4, e4, st4⟩ := getS2 X2 hx hZ hown (host := "") (Or.inl (own_w hw 47 rfl)) Via.refl e2 (O2.ext O0.2) (g := (mkF m 27 #[.val (.ref s1), .val (.ref a1), .val (.int 0), .val (.int 3), .val .null, .unset] [])) rfl (hb hby d3_27)
  have hc30_5 : ¬ (G1 = (0 : Int32)) := P5
  have kn6 : ∀ t, own_S p e below T4 (mkF m 36 #[.val (.ref s1), .val (.ref a1), .val (.int 0), .val (.int 3), .val .null, .unset] [(.int 3), (.int 0), (.ref a1)]) t → Gl t := fun t kt => kn3 t (st4 _ (by
    show own_S p e below T4 (mkF m 30 #[.val (.ref s1), .val (.ref a1), .val (.int 0), .val (.int 3), .val .null, .unset] [(.int G1)]) _
    refine XS.ifNo X4.here hx rfl (hb hby d3_30) rfl ((if0 _ _).trans (feq hc30_5).1) ?_
    refine XS.aloadN X4.here hx rfl (hb hby d3_33) rfl rfl ?_
    refine XS.iloadN X4.here hx rfl (hb hby d3_34) rfl ?_
    refine XS.iloadN X4.here hx rfl (hb hby d3_35) rfl ?_
    exact kt))
  obtain ⟨_, _, ⟨T7, L7, cc7, ss7⟩, -, X7, ⟨Lc7, hQ7, l7, y7, z7⟩, st7⟩ := Jvm.LawKit.callS X4 hx (y := mN21) hown (mvT hZ (own_w hw 52 rfl)) (mvT hZ (own_w hw 53 rfl)) (mvT hZ (own_w hw 54 rfl)) (mvT hZ (own_w hw 55 rfl)) (by decide) (backOf (W := 0) (rm11_3 l Z a0 hw [] a1 ka c0 c1 c2 h0 n0 Z0 A1 rg0 rg1 rg2 hwide O0 U1 U2 U3) hZ (own_w hw 55 rfl) (own_w hw 54 rfl) (by decide) (by decide)) (g := (mkF m 36 #[.val (.ref s1), .val (.ref a1), .val (.int 0), .val (.int 3), .val .null, .unset] [(.int 3), (.int 0), (.ref a1)])) rfl (by rw [hml]; rfl) (argsL := [(.ref a1), (.int 0), (.int 3)]) (rest := []) (lenOf pd_14 rfl) rfl (by show 2 * 0 + _ ≤ _; exact Nat.le_of_eq rfl) (hb hby d3_36) (fun _ _ => ⟨rfl, e4, (by decide : 0 + 2 ≤ _), (by decide : 0 + 9 ≤ _)⟩)
  dsimp only [Pt.U, Pt.locs, Pt.cells, Pt.slots] at X7 l7 y7 z7 st7 hQ7
  subst l7 y7 z7
  have X7 : Stand p l e _ _ m _ below meth c T7 _ 2 9 := X7
  obtain ⟨b7, kb7, rfl, Nq7, gb7, sb7, K7, V7⟩ := hQ7
  have Nf7 := Fr.app Nf0 Nq7
  have ne_s1_b7 : s1 ≠ b7 := Nat.ne_of_lt (Nat.lt_of_lt_of_le E1.lt sb7)
  have ne_a1_b7 : a1 ≠ b7 := Nat.ne_of_lt (Nat.lt_of_lt_of_le A1.lt sb7)
  have szz7 : h0.size ≤ b7 := sb7
  have Z8 := Nat.le_trans Z0 K7.1
  have Od9 := O0.keep K7 all0
  have K10 := (Keep.refl h0 [s1]).trans K7 (all0)
  have kn11 : ∀ t, own_S p e below T7 (mkF m 45 #[.val (.ref s1), .val (.ref a1), .val (.int 0), .val (.int 3), .val .null, .val (.ref b7)] [(.int 3), (.ref b7), (.ref s1)]) t → Gl t := fun t kt => kn6 t (st7 _ (by
    show own_S p e below T7 (mkF m 39 #[.val (.ref s1), .val (.ref a1), .val (.int 0), .val (.int 3), .val .null, .unset] [(.ref b7)]) _
    refine XS.astore X7.here hx rfl (hb hby d3_39) rfl rfl (l' := #[.val (.ref s1), .val (.ref a1), .val (.int 0), .val (.int 3), .val .null, .val (.ref b7)]) rfl ?_
    refine XS.aloadN X7.here hx rfl (hb hby d3_41) rfl rfl ?_
    refine XS.aload X7.here hx rfl (hb hby d3_42) rfl rfl ?_
    refine XS.iloadN X7.here hx rfl (hb hby d3_44) rfl ?_
    exact kt))
  obtain ⟨_, _, ⟨T12, L12, cc12, ss12⟩, -, X12, ⟨Lc12, hQ12, l12, y12, z12⟩, st12⟩ := Jvm.LawKit.callS X7 hx (y := mN22) hown (mvT hZ (own_w hw 59 rfl)) (mvT hZ (own_w hw 60 rfl)) (mvT hZ (own_w hw 54 rfl)) (mvT hZ (own_w hw 61 rfl)) (by decide) (backOf (W := 1) (rm13_3 l Z a0 hw [] b7 kb7 [(.int (StrChars.lo8 c0)), (.int (StrChars.hi8 c0)), (.int (StrChars.lo8 c1)), (.int (StrChars.hi8 c1)), (.int (StrChars.lo8 c2)), (.int (StrChars.hi8 c2))] T7.heap n0 Z8 V7) hZ (own_w hw 61 rfl) (own_w hw 54 rfl) (by decide) (by decide)) (g := (mkF m 45 #[.val (.ref s1), .val (.ref a1), .val (.int 0), .val (.int 3), .val .null, .val (.ref b7)] [(.int 3), (.ref b7), (.ref s1)])) rfl (by rw [hml]; rfl) (argsL := [(.ref b7), (.int 3)]) (rest := [(.ref s1)]) (lenOf pd_15 rfl) rfl (by show 2 * 0 + _ ≤ _; exact Nat.le_of_eq rfl) (hb hby d3_45) (fun _ _ => ⟨rfl, rfl, (by decide : 2 + 0 ≤ _), (by decide : 9 + 0 ≤ _)⟩)
  dsimp only [Pt.U, Pt.locs, Pt.cells, Pt.slots] at X12 l12 y12 z12 st12 hQ12
  subst l12 y12 z12
  have X12 : Stand p l e _ _ m _ below meth c T12 _ 2 9 := X12
  obtain ⟨rfl, Nq12, eq12⟩ := hQ12
  have Nf12 := Fr.app Nf7 Nq12
  have f13 := (F2.keep K7 nin0)
  have f14 := (E1.keep K7)
  obtain ⟨T15, h15, X15, e15, W15, st15⟩ := putFN X12 hx hZ hown (own_w hw 26 rfl) Via.refl eq12 f13 f14 (Or.inr ⟨(own_w hw 22 rfl), rfl, hnm⟩) (own_w hw 7 rfl) (ty := .byte) (v' := (.int (1 : Int32))) (by decide) rfl (by decide) (g := (mkF m 48 #[.val (.ref s1), .val (.ref a1), .val (.int 0), .val (.int 3), .val .null, .val (.ref b7)] [(.int 1), (.ref s1)])) rfl rfl (hb hby d3_48)
  have Z16 := Nat.le_trans Z8 (Keep.of_wr W15).1
  have Od17 := Od9.wr W15 g_s1
  have K18 := K10.wr W15 (Or.inl (List.mem_of_getElem? (i := 0) rfl))
  have Fw15 := f13.same W15
  have Nf19 := Fr.snoc X15 Nf12 g_s1
  have kn20 : ∀ t, own_S p e below T15 (mkF m 54 #[.val (.ref s1), .val (.ref a1), .val (.int 0), .val (.int 3), .val .null, .val (.ref b7)] [(.ref b7), (.ref s1)]) t → Gl t := fun t kt => kn11 t (st12 _ (st15 _ (by
    show own_S p e below T15 (mkF m 51 #[.val (.ref s1), .val (.ref a1), .val (.int 0), .val (.int 3), .val .null, .val (.ref b7)] []) _
    refine XS.aloadN X15.here hx rfl (hb hby d3_51) rfl rfl ?_
    refine XS.aload X15.here hx rfl (hb hby d3_52) rfl rfl ?_
    exact kt)))
  have f21 := ((F1.keep K7 nin0).other W15 (Or.inr (slot_ne (Or.inr (own_w hw 21 rfl)) (Or.inr (own_w hw 22 rfl)) (by decide) (t := (.array .byte)) (t' := .byte) (by decide) (by decide))))
  have f22 := (f14.wr W15)
  obtain ⟨T23, h23, X23, e23, W23, st23⟩ := putF X15 hx hZ hown (host := "") (Or.inl (own_w hw 25 rfl)) Via.refl e15 f21 f22 (Or.inr ⟨(own_w hw 21 rfl), rfl, hnm⟩) (own_w hw 7 rfl) (ty := (.array .byte)) (by decide) rfl rfl (g := (mkF m 54 #[.val (.ref s1), .val (.ref a1), .val (.int 0), .val (.int 3), .val .null, .val (.ref b7)] [(.ref b7), (.ref s1)])) rfl rfl (hb hby d3_54)
  have Z24 := Nat.le_trans Z16 (Keep.of_wr W23).1
  have Od25 := Od17.wr W23 g_s1
  have K26 := K18.wr W23 (Or.inl (List.mem_of_getElem? (i := 0) rfl))
  have Fw23 := f21.same W23
  have Nf27 := Fr.snoc X23 Nf19 g_s1
  obtain ⟨fs, hr, hrun, hended, hW, hsame⟩ := X23.leave (v := none) (fun _ => rfl)
  refine ⟨_, _, hGl _ (kn20 _ (st23 _ (X23.returnOut hx Bd.returns (hb hby d3_57) hr))), hrun, hended, _, _, rfl, ?_, ⟨_, rfl⟩, hW, hsame.mono (by decide) (by decide)⟩
  show Q3_3 Z s1 a1 ka c0 c1 c2 G1 h0 n0 _ T23.heap _
  rw [e23]
  have f28 := (f22.wr W23)
  have f29 := (Fw15.other W23 (Or.inr (slot_ne (Or.inr (own_w hw 22 rfl)) (Or.inr (own_w hw 21 rfl)) (by decide) (t := .byte) (t' := (.array .byte)) (by decide) (by decide))))
  have f30 := ((V7.other W15 (Ne.symm ne_s1_b7)).other W23 (Ne.symm ne_s1_b7))
  exact ⟨rfl, Nf27, b7, _, K26, f28, f29, Fw23, f30⟩

theorem ef_rm2_3 (m : MethodId) (x0 : Addr) (x1 : Addr) : entryFrame m #[(.ref x0), (.ref x1)] 2 = mkF m 0 #[.val (.ref x0), .val (.ref x1)] [] := by first | (simp [entryFrame, mkF, argsToLocals, Value.category]; done) | rfl
def Q2_3 (Z : State) (s1 : Addr) (a1 : Addr) (ka : ClassId) (c0 : Int32) (c1 : Int32) (c2 : Int32) (G1 : Int32) (h0 : Heap) (n0 : Nat) (v : Option Value) (h : Heap) (L : List Loc) : Prop := v = none ∧ Fr n0 L ∧ ∃ (t : Addr) (kb : ClassId), Keep h0 h [s1] ∧ Exa Z h s1 "java/lang/String" ∧ Fld Z h s1 "java/lang/String" "coder" "B" (.int (1 : Int32)) ∧ Fld Z h s1 "java/lang/String" "value" "[B" (.ref t) ∧ Arv Z h t kb .byte (6 : Int32) [(.int (StrChars.lo8 c0)), (.int (StrChars.hi8 c0)), (.int (StrChars.lo8 c1)), (.int (StrChars.hi8 c1)), (.int (StrChars.lo8 c2)), (.int (StrChars.hi8 c2))] (.int (0 : Int32))
theorem rm2_3 (l : Launch) (Z : State) (a0 : Array Value) (hw : ∀ d ∈ tables_1, d.before a0 Z = true) (ws : List Jvm.Cond) (s1 : Addr) (a1 : Addr) (ka : ClassId) (c0 : Int32) (c1 : Int32) (c2 : Int32) (G1 : Int32) (h0 : Heap) (n0 : Nat) (Z0 : n0 ≤ h0.size) (F1 : Fld Z h0 s1 "java/lang/String" "value" "[B" .null) (F2 : Fld Z h0 s1 "java/lang/String" "coder" "B" (.int (0 : Int32))) (E1 : Exa Z h0 s1 "java/lang/String") (g_s1 : n0 ≤ s1) (A1 : Arv Z h0 a1 ka .char (3 : Int32) [(.int c0), (.int c1), (.int c2)] (.int (0 : Int32))) (nsa : @Ne Nat a1 s1) (rg0 : own_rg c0) (rg1 : own_rg c1) (rg2 : own_rg c2) (hwide : (255 : Int32) < c0 ∨ (¬ (255 : Int32) < c0 ∧ (255 : Int32) < c1) ∨ (¬ (255 : Int32) < c0 ∧ ¬ (255 : Int32) < c1 ∧ (255 : Int32) < c2)) (O0 : Old Z n0 h0) (O2 : Sta Z Z.heap "java/lang/String" "COMPACT_STRINGS" "Z" (.int G1)) (P5 : ¬ (G1 = (0 : Int32))) (U1 : Sta Z Z.heap "java/lang/StringUTF16" "$assertionsDisabled" "Z" (.int (1 : Int32))) (U2 : Sta Z Z.heap "java/lang/StringUTF16" "HI_BYTE_SHIFT" "I" (.int (0 : Int32))) (U3 : Sta Z Z.heap "java/lang/StringUTF16" "LO_BYTE_SHIFT" "I" (.int (8 : Int32))) :
    MetFree l mN24 (head1 (Jvm.Cond.code mN24 jdk_42_method_3_code 2 none :: ws) (own_r 5 2 9 74)) (fun a U => a = #[(.ref s1), (.ref a1)] ∧ Z.Warmed39 U.vm ∧ U.heap = h0) (fun _ _ _ _ _ => True) (fun _ U o U' => ∃ v L, o = .returned v ∧ Q2_3 Z s1 a1 ka c0 c1 c2 G1 h0 n0 v U'.heap L ∧ FrameEnd U o U' L (own_r 5 2 9 74).cells (own_r 5 2 9 74).slots) := by
  refine MetFree.of_bodySF (plainFor_of_name pn_3) hisR ?_
  intro p e s m args below meth c s₁ Bd hml0 hP hK
  obtain ⟨rfl, hZ, hh⟩ := hP
  have hx := Bd.exec
  have hby := Bd.bytes
  have hml : c.maxLocals = 2 := hml0
  have hown : s.vm.findClass "java/lang/String" = some m.cls := findClass_of_methodNamed Bd.named
  have hnm := (name_of_methodNamed Bd.named Bd.method).1
  have X0 : Stand p l e (own_r 5 2 9 74) s m #[(.ref s1), (.ref a1)] below meth c s₁ [] 0 0 := Stand.of_body Bd
  have e0 : s₁.heap = h0 := by rw [← hh, Bd.state]; rfl
  have Nf0 := Fr.nil n0
  obtain ⟨Gl, hGl, kn0⟩ := own_gl (p := p) (e := e) (below := below) (s₁ := s₁) (ef_rm2_3 m s1 a1)
  have kn1 : ∀ t, own_S p e below s₁ (mkF m 4 #[.val (.ref s1), .val (.ref a1)] [(.ref a1), (.int 0), (.ref a1), (.ref s1)]) t → Gl t := fun t kt => kn0 t (by
    show own_S p e below s₁ (mkF m 0 #[.val (.ref s1), .val (.ref a1)] []) _
    refine XS.aloadN X0.here hx rfl (hb hby d2_0) rfl rfl ?_
    refine XS.aloadN X0.here hx rfl (hb hby d2_1) rfl rfl ?_
    refine XS.iconst X0.here hx rfl (hb hby d2_2) ?_
    refine XS.aloadN X0.here hx rfl (hb hby d2_3) rfl rfl ?_
    exact kt)
  obtain ⟨cl2, Ar2, -, Sz2, Ng2, -, -⟩ := id A1
  have kn3 : ∀ t, own_S p e below s₁ (mkF m 6 #[.val (.ref s1), .val (.ref a1)] [.null, (.int 3), (.int 0), (.ref a1), (.ref s1)]) t → Gl t := fun t kt => kn1 t (by
    show own_S p e below s₁ (mkF m 4 #[.val (.ref s1), .val (.ref a1)] [(.ref a1), (.int 0), (.ref a1), (.ref s1)]) _
    refine X0.arraylength hx (by rw [e0]; exact Ar2.1) (State.isArrayOf_alike hZ.alike Ar2.2.1) (g := (mkF m 4 #[.val (.ref s1), .val (.ref a1)] [(.ref a1), (.int 0), (.ref a1), (.ref s1)])) rfl rfl (hb hby d2_4) _ ?_
    rw [len_of Sz2 Ng2]
    refine XS.aconstNull X0.here hx rfl (hb hby d2_5) ?_
    exact kt)
  obtain ⟨_, _, ⟨T4, L4, cc4, ss4⟩, -, X4, ⟨Lc4, hQ4, l4, y4, z4⟩, st4⟩ := X0.specialBack hx (y := mN23) rfl hown (mvT hZ (own_w hw 12 rfl)) (mvT hZ (own_w hw 13 rfl)) (mvT hZ (own_w hw 15 rfl)) (by decide) (backOf (W := 0) (rm3_3 l Z a0 hw [] s1 a1 ka c0 c1 c2 G1 h0 n0 Z0 F1 F2 E1 g_s1 A1 nsa rg0 rg1 rg2 hwide O0 O2 P5 U1 U2 U3) hZ (own_w hw 15 rfl) (own_w hw 8 rfl) (by decide) (by decide)) (g := (mkF m 6 #[.val (.ref s1), .val (.ref a1)] [.null, (.int 3), (.int 0), (.ref a1), (.ref s1)])) rfl (by rw [hml]; rfl) (Steps.refl _) (a := s1) (argsL := [(.ref a1), (.int 0), (.int 3), .null]) (rest := []) (lenOf pd_16 rfl) rfl (by show 2 * 0 + _ ≤ _; exact Nat.le_of_eq rfl) (hb hby d2_6) (fun _ _ => ⟨rfl, e0, (by decide : 0 + 2 ≤ _), (by decide : 0 + 9 ≤ _)⟩)
  dsimp only [Pt.U, Pt.locs, Pt.cells, Pt.slots] at X4 l4 y4 z4 st4 hQ4
  subst l4 y4 z4
  have X4 : Stand p l e _ _ m _ below meth c T4 _ 2 9 := X4
  obtain ⟨rfl, Nq4, t4, kb4, K4, Ex4, Co4, Va4, Ar4⟩ := hQ4
  have Nf4 := Fr.app Nf0 Nq4
  have Z5 := Nat.le_trans Z0 K4.1
  have Od6 := O0.keep K4 (allS g_s1 all0)
  have K7 := (Keep.refl h0 [s1]).trans K4 (allS (Or.inl (List.mem_of_getElem? (i := 0) rfl)) all0)
  obtain ⟨fs, hr, hrun, hended, hW, hsame⟩ := X4.leave (v := none) (fun _ => rfl)
  refine ⟨_, _, hGl _ (kn3 _ (st4.trans (X4.returnOut hx Bd.returns (hb hby d2_9) hr))), hrun, hended, _, _, rfl, ?_, ⟨_, rfl⟩, hW, hsame.mono (by decide) (by decide)⟩
  show Q2_3 Z s1 a1 ka c0 c1 c2 G1 h0 n0 _ T4.heap _
  exact ⟨rfl, Nf4, t4, _, K7, Ex4, Co4, Va4, Ar4⟩

theorem d3_8 : decode jdk_42_method_149_code 8 = .ok (.aload_n 0, 1) := by decide +kernel
theorem d3_9 : decode jdk_42_method_149_code 9 = .ok (.ldc 7, 2) := by decide +kernel
theorem d3_11 : decode jdk_42_method_149_code 11 = .ok (.getfield 9, 3) := by decide +kernel
theorem d3_14 : decode jdk_42_method_149_code 14 = .ok (.putfield 9, 3) := by decide +kernel
theorem d3_17 : decode jdk_42_method_149_code 17 = .ok (.aload_n 0, 1) := by decide +kernel
theorem d3_18 : decode jdk_42_method_149_code 18 = .ok (.ldc 7, 2) := by decide +kernel
theorem d3_20 : decode jdk_42_method_149_code 20 = .ok (.getfield 15, 3) := by decide +kernel
theorem d3_23 : decode jdk_42_method_149_code 23 = .ok (.putfield 15, 3) := by decide +kernel
theorem d3_26 : decode jdk_42_method_149_code 26 = .ok (.return_, 1) := by decide +kernel
theorem ef_rmE3 (m : MethodId) (x0 : Addr) (x1 : Addr) : entryFrame m #[(.ref x0), (.ref x1), (.int (0 : Int32)), (.int (0 : Int32)), .null] 6 = mkF m 0 #[.val (.ref x0), .val (.ref x1), .val (.int (0 : Int32)), .val (.int (0 : Int32)), .val .null, .unset] [] := by first | (simp [entryFrame, mkF, argsToLocals, Value.category]; done) | rfl
def QE3 (Z : State) (a1 : Addr) (b2 : Addr) (h0 : Heap) (n0 : Nat) (v : Option Value) (h : Heap) (L : List Loc) : Prop := v = none ∧ Fr n0 L ∧ ∃ (t : Addr) (kb : ClassId), Keep h0 h [a1] ∧ Exa Z h a1 "java/lang/String" ∧ Fld Z h a1 "java/lang/String" "coder" "B" (.int (0 : Int32)) ∧ Fld Z h a1 "java/lang/String" "value" "[B" (.ref t) ∧ Arv Z h t kb .byte (0 : Int32) [] (.int (0 : Int32))
theorem rmE3 (l : Launch) (Z : State) (a0 : Array Value) (hw : ∀ d ∈ tables_1, d.before a0 Z = true) (ws : List Jvm.Cond) (a1 : Addr) (b2 : Addr) (h0 : Heap) (n0 : Nat) (Z0 : n0 ≤ h0.size) (F1 : Fld Z h0 a1 "java/lang/String" "value" "[B" .null) (F2 : Fld Z h0 a1 "java/lang/String" "coder" "B" (.int (0 : Int32))) (E1 : Exa Z h0 a1 "java/lang/String") (g_a1 : n0 ≤ a1) (O0 : Old Z n0 h0) :
    MetFree l mN23 (head1 (Jvm.Cond.code mN23 jdk_42_method_149_code 6 none :: ws) (own_r 1 2 8 12)) (fun a U => a = #[(.ref a1), (.ref b2), (.int (0 : Int32)), (.int (0 : Int32)), .null] ∧ Z.Warmed39 U.vm ∧ U.heap = h0 ∧ CHv Z consts_1 U.vm h0) (fun _ _ _ _ _ => True) (fun _ U o U' => ∃ v L, o = .returned v ∧ QE3 Z a1 b2 h0 n0 v U'.heap L ∧ CHr Z consts_1 U.vm U.heap U'.vm U'.heap ∧ ReturnedEndW U o U' L (own_r 1 2 8 12).cells (own_r 1 2 8 12).slots) := by
  refine MetFree.of_bodySF (plainFor_of_name pn_3) hisR ?_
  intro p e s m args below meth c s₁ Bd hml0 hP hK
  obtain ⟨rfl, hZ, hh, hCH⟩ := hP
  have hx := Bd.exec
  have hby := Bd.bytes
  have hml : c.maxLocals = 6 := hml0
  have hown : s.vm.findClass "java/lang/String" = some m.cls := findClass_of_methodNamed Bd.named
  have hnm := (name_of_methodNamed Bd.named Bd.method).1
  have X0 : Stand p l e (own_r 1 2 8 12) s m #[(.ref a1), (.ref b2), (.int (0 : Int32)), (.int (0 : Int32)), .null] below meth c s₁ [] 0 0 := Stand.of_body Bd
  have e0 : s₁.heap = h0 := by rw [← hh, Bd.state]; rfl
  have Nf0 := Fr.nil n0
  obtain ⟨Gl, hGl, kn0⟩ := own_gl (p := p) (e := e) (below := below) (s₁ := s₁) (ef_rmE3 m a1 b2)
  have X0 : Stand p l e (own_r 1 2 8 12) (s.setVm s.vm) m #[(.ref a1), (.ref b2), (.int (0 : Int32)), (.int (0 : Int32)), .null] below meth c s₁ [] 0 0 := X0
  have hZ : Z.Warmed39 (s.setVm s.vm).vm := hZ
  have hown : (s.setVm s.vm).vm.findClass "java/lang/String" = some m.cls := hown
  have hSt0 : s.Since s.vm 0 := (State.WarmedH.refl s).since 0
  have CR0 := CHr.refl hCH
  have SFs := own_safeN (EL := consts_1) hZ.alike E1 F1
  have kn1 : ∀ t, own_S p e below s₁ (mkF m 1 #[.val (.ref a1), .val (.ref b2), .val (.int 0), .val (.int 0), .val .null, .unset] [(.ref a1)]) t → Gl t := fun t kt => kn0 t (by
    show own_S p e below s₁ (mkF m 0 #[.val (.ref a1), .val (.ref b2), .val (.int 0), .val (.int 0), .val .null, .unset] []) _
    refine XS.aloadN X0.here hx rfl (hb hby d3_0) rfl rfl ?_
    exact kt)
  obtain ⟨T2, X2, e2, st2⟩ := initO X0 hx hZ hown (own_w hw 16 rfl) (own_w hw 17 rfl) (own_w hw 18 rfl) e0 (g := (mkF m 1 #[.val (.ref a1), .val (.ref b2), .val (.int 0), .val (.int 0), .val .null, .unset] [(.ref a1)])) rfl (by rw [hml]; rfl) rfl (hb hby d3_1) (by decide) (W := 0) (by show 2 * 0 + _ ≤ _; exact Nat.le_of_eq rfl) (by decide)
  have kn3 : ∀ t, own_S p e below T2 (mkF m 9 #[.val (.ref a1), .val (.ref b2), .val (.int 0), .val (.int 0), .val .null, .unset] [(.ref a1)]) t → Gl t := fun t kt => kn1 t (st2 _ (by
    show own_S p e below T2 (mkF m 4 #[.val (.ref a1), .val (.ref b2), .val (.int 0), .val (.int 0), .val .null, .unset] []) _
    refine XS.iloadN X2.here hx rfl (hb hby d3_4) rfl ?_
    refine XS.ifNo X2.here hx rfl (hb hby d3_5) rfl ((if0 _ _).trans (teq (by decide : (0 : Int32) = (0 : Int32))).2) ?_
    refine XS.aloadN X2.here hx rfl (hb hby d3_8) rfl rfl ?_
    exact kt))
  obtain ⟨a4, T4, h4, kc4, t4, kk4, X4, e4, E4, hSn4, hkn4, hZ, hown, Ex4, Co4, Va4, Ar4, la4, lb4, CC4, Lt4, sf4, st4⟩ := ldcCH (vm0 := s.vm) X2 hx hZ hown (own_w hw 19 rfl) (own_wS hw) e2 hSt0 (Nat.zero_le _) (own_EW hw) (List.mem_of_getElem? (i := 0) rfl) CR0.1 (vs := []) (z := (0 : Int32)) ⟨by decide, by decide⟩ (by decide) rfl (g := (mkF m 9 #[.val (.ref a1), .val (.ref b2), .val (.int 0), .val (.int 0), .val .null, .unset] [(.ref a1)])) rfl (hb hby d3_9) (n := 4) (by decide) (by decide) (by decide) (by decide)
  have CR5 := CR0.trans CC4
  have SF5_a1 := CC4.safe E1.lt SFs
  have SL5_a1 := Nat.lt_of_lt_of_le E1.lt CC4.2.1
  have Z6 := Nat.le_trans Z0 E4.1
  have hk7 := Nat.le_trans (Nat.zero_le _) E4.1
  have Od8 := O0.ext E4
  have K9 := (Keep.refl h0 [a1]).ext E4
  have na4_a1 : a1 ≠ a4 := (sf4 a1 SF5_a1).1
  have nt4_a1 : a1 ≠ t4 := (sf4 a1 SF5_a1).2
  have Ag4 : Arv Z h4 t4 kk4 .byte (Int32.ofNat ([] : List Int32).length) ((([] : List Int32).map (fun c => c.toInt8.toInt32)).map Value.int) (.int (0 : Int32)) := Ar4
  have hp4 : ∀ c ∈ ([] : List Int32), ¬ c < 0 ∧ ¬ (255 : Int32) < c := by decide
  have hl4 : ([] : List Int32).length ≤ 64 := by decide
  obtain ⟨T10, X10, e10, st10⟩ := getF X4 hx hZ hown (host := "") (Or.inl (own_w hw 25 rfl)) Via.refl e4 Va4 (g := (mkF m 11 #[.val (.ref a1), .val (.ref b2), .val (.int 0), .val (.int 0), .val .null, .unset] [(.ref a4), (.ref a1)])) rfl rfl (hb hby d3_11)
  have f11 := (F1.ext E4)
  have f12 := (E1.ext E4)
  obtain ⟨T13, h13, X13, e13, W13, st13⟩ := putF X10 hx hZ hown (host := "") (Or.inl (own_w hw 25 rfl)) Via.refl e10 f11 f12 (Or.inr ⟨(own_w hw 21 rfl), rfl, hnm⟩) (own_w hw 7 rfl) (ty := (.array .byte)) (by decide) rfl rfl (g := (mkF m 14 #[.val (.ref a1), .val (.ref b2), .val (.int 0), .val (.int 0), .val .null, .unset] [(.ref t4), (.ref a1)])) rfl rfl (hb hby d3_14)
  have CS14 := CHr.wr W13 SF5_a1 CR5.1
  have CR14 := CR5.trans CS14
  have SF14_a1 := CS14.safe SL5_a1 SF5_a1
  have SL14_a1 := Nat.lt_of_lt_of_le SL5_a1 CS14.2.1
  have Z15 := Nat.le_trans Z6 (Keep.of_wr W13).1
  have hk16 := Nat.le_trans hkn4 (Keep.of_wr W13).1
  have Od17 := Od8.wr W13 g_a1
  have K18 := K9.wr W13 (Or.inl (List.mem_of_getElem? (i := 0) rfl))
  have Fw13 := f11.same W13
  have Nf19 := Fr.snoc X13 Nf0 g_a1
  have kn20 : ∀ t, own_S p e below T13 (mkF m 18 #[.val (.ref a1), .val (.ref b2), .val (.int 0), .val (.int 0), .val .null, .unset] [(.ref a1)]) t → Gl t := fun t kt => kn3 t (st4 _ (st10 _ (st13 _ (by
    show own_S p e below T13 (mkF m 17 #[.val (.ref a1), .val (.ref b2), .val (.int 0), .val (.int 0), .val .null, .unset] []) _
    refine XS.aloadN X13.here hx rfl (hb hby d3_17) rfl rfl ?_
    exact kt))))
  have st21 := ldcR (Z := s.setVm T4.vm) (a0 := #[]) X13 hx (State.Warmed39.refl _) hown (own_ref (args := #[]) (mvS (s := s) hZ (own_w hw 19 rfl)) Lt4) Lt4 (g := (mkF m 18 #[.val (.ref a1), .val (.ref b2), .val (.int 0), .val (.int 0), .val .null, .unset] [(.ref a1)])) rfl (hb hby d3_18)
  have f22 := (Co4.other W13 (Or.inl (Ne.symm na4_a1)))
  obtain ⟨T23, X23, e23, st23⟩ := getF X13 hx hZ hown (host := "") (Or.inl (own_w hw 26 rfl)) Via.refl e13 f22 (g := (mkF m 20 #[.val (.ref a1), .val (.ref b2), .val (.int 0), .val (.int 0), .val .null, .unset] [(.ref a4), (.ref a1)])) rfl rfl (hb hby d3_20)
  have f24 := ((F2.ext E4).other W13 (Or.inr (slot_ne (Or.inr (own_w hw 22 rfl)) (Or.inr (own_w hw 21 rfl)) (by decide) (t := .byte) (t' := (.array .byte)) (by decide) (by decide))))
  have f25 := (f12.wr W13)
  obtain ⟨T26, h26, X26, e26, W26, st26⟩ := putFN X23 hx hZ hown (own_w hw 26 rfl) Via.refl e23 f24 f25 (Or.inr ⟨(own_w hw 22 rfl), rfl, hnm⟩) (own_w hw 7 rfl) (ty := .byte) (v' := (.int (0 : Int32))) (by decide) rfl (by decide) (g := (mkF m 23 #[.val (.ref a1), .val (.ref b2), .val (.int 0), .val (.int 0), .val .null, .unset] [(.int 0), (.ref a1)])) rfl rfl (hb hby d3_23)
  have CS27 := CHr.wr W26 SF14_a1 CR14.1
  have CR27 := CR14.trans CS27
  have SF27_a1 := CS27.safe SL14_a1 SF14_a1
  have SL27_a1 := Nat.lt_of_lt_of_le SL14_a1 CS27.2.1
  have Z28 := Nat.le_trans Z15 (Keep.of_wr W26).1
  have hk29 := Nat.le_trans hk16 (Keep.of_wr W26).1
  have Od30 := Od17.wr W26 g_a1
  have K31 := K18.wr W26 (Or.inl (List.mem_of_getElem? (i := 0) rfl))
  have Fw26 := f24.same W26
  have Nf32 := Fr.snoc X26 Nf19 g_a1
  obtain ⟨fs, hr, hrun, hended, hRW⟩ := X26.leaveW hSn4 (by rw [e26]; exact hk29) (v := none) (fun _ => rfl)
  have chE : CHr Z consts_1 s.vm s.heap T26.vm T26.heap := by rw [hh]; rw [e26]; exact CR27.trans (CHv.at X26 hZ (own_EW hw) CR27.1)
  refine ⟨_, _, hGl _ (kn20 _ (st21 _ (st23 _ (st26 _ (X26.returnOut hx Bd.returns (hb hby d3_26) hr))))), hrun, hended, _, _, rfl, ?_, chE, ⟨hRW.1, hRW.2.1, hRW.2.2.1, hRW.2.2.2.mono (by decide) (by decide)⟩⟩
  show QE3 Z a1 b2 h0 n0 _ T26.heap _
  rw [e26]
  have f33 := (f25.wr W26)
  have f34 := (Fw13.other W26 (Or.inr (slot_ne (Or.inr (own_w hw 21 rfl)) (Or.inr (own_w hw 22 rfl)) (by decide) (t := (.array .byte)) (t' := .byte) (by decide) (by decide))))
  have f35 := ((Ar4.other W13 (Ne.symm nt4_a1)).other W26 (Ne.symm nt4_a1))
  exact ⟨rfl, Nf32, t4, _, K31, f33, Fw26, f34, f35⟩

theorem ef_rmE2 (m : MethodId) (x0 : Addr) (x1 : Addr) : entryFrame m #[(.ref x0), (.ref x1)] 2 = mkF m 0 #[.val (.ref x0), .val (.ref x1)] [] := by first | (simp [entryFrame, mkF, argsToLocals, Value.category]; done) | rfl
def QE2 (Z : State) (a1 : Addr) (b2 : Addr) (k2 : ClassId) (h0 : Heap) (n0 : Nat) (v : Option Value) (h : Heap) (L : List Loc) : Prop := v = none ∧ Fr n0 L ∧ ∃ (t : Addr) (kb : ClassId), Keep h0 h [a1] ∧ Exa Z h a1 "java/lang/String" ∧ Fld Z h a1 "java/lang/String" "coder" "B" (.int (0 : Int32)) ∧ Fld Z h a1 "java/lang/String" "value" "[B" (.ref t) ∧ Arv Z h t kb .byte (0 : Int32) [] (.int (0 : Int32))
theorem rmE2 (l : Launch) (Z : State) (a0 : Array Value) (hw : ∀ d ∈ tables_1, d.before a0 Z = true) (ws : List Jvm.Cond) (a1 : Addr) (b2 : Addr) (k2 : ClassId) (h0 : Heap) (n0 : Nat) (Z0 : n0 ≤ h0.size) (F1 : Fld Z h0 a1 "java/lang/String" "value" "[B" .null) (F2 : Fld Z h0 a1 "java/lang/String" "coder" "B" (.int (0 : Int32))) (E1 : Exa Z h0 a1 "java/lang/String") (g_a1 : n0 ≤ a1) (O0 : Old Z n0 h0) (A2 : Arv Z h0 b2 k2 .char (0 : Int32) [] (.int (0 : Int32))) :
    MetFree l mN24 (head1 (Jvm.Cond.code mN24 jdk_42_method_3_code 2 none :: ws) (own_r 2 2 8 29)) (fun a U => a = #[(.ref a1), (.ref b2)] ∧ Z.Warmed39 U.vm ∧ U.heap = h0 ∧ CHv Z consts_1 U.vm h0) (fun _ _ _ _ _ => True) (fun _ U o U' => ∃ v L, o = .returned v ∧ QE2 Z a1 b2 k2 h0 n0 v U'.heap L ∧ CHr Z consts_1 U.vm U.heap U'.vm U'.heap ∧ ReturnedEndW U o U' L (own_r 2 2 8 29).cells (own_r 2 2 8 29).slots) := by
  refine MetFree.of_bodySF (plainFor_of_name pn_3) hisR ?_
  intro p e s m args below meth c s₁ Bd hml0 hP hK
  obtain ⟨rfl, hZ, hh, hCH⟩ := hP
  have hx := Bd.exec
  have hby := Bd.bytes
  have hml : c.maxLocals = 2 := hml0
  have hown : s.vm.findClass "java/lang/String" = some m.cls := findClass_of_methodNamed Bd.named
  have hnm := (name_of_methodNamed Bd.named Bd.method).1
  have X0 : Stand p l e (own_r 2 2 8 29) s m #[(.ref a1), (.ref b2)] below meth c s₁ [] 0 0 := Stand.of_body Bd
  have e0 : s₁.heap = h0 := by rw [← hh, Bd.state]; rfl
  have Nf0 := Fr.nil n0
  obtain ⟨Gl, hGl, kn0⟩ := own_gl (p := p) (e := e) (below := below) (s₁ := s₁) (ef_rmE2 m a1 b2)
  have X0 : Stand p l e (own_r 2 2 8 29) (s.setVm s.vm) m #[(.ref a1), (.ref b2)] below meth c s₁ [] 0 0 := X0
  have hZ : Z.Warmed39 (s.setVm s.vm).vm := hZ
  have hown : (s.setVm s.vm).vm.findClass "java/lang/String" = some m.cls := hown
  have hSt0 : s.Since s.vm 0 := (State.WarmedH.refl s).since 0
  have CR0 := CHr.refl hCH
  have kn1 : ∀ t, own_S p e below s₁ (mkF m 4 #[.val (.ref a1), .val (.ref b2)] [(.ref b2), (.int 0), (.ref b2), (.ref a1)]) t → Gl t := fun t kt => kn0 t (by
    show own_S p e below s₁ (mkF m 0 #[.val (.ref a1), .val (.ref b2)] []) _
    refine XS.aloadN X0.here hx rfl (hb hby d2_0) rfl rfl ?_
    refine XS.aloadN X0.here hx rfl (hb hby d2_1) rfl rfl ?_
    refine XS.iconst X0.here hx rfl (hb hby d2_2) ?_
    refine XS.aloadN X0.here hx rfl (hb hby d2_3) rfl rfl ?_
    exact kt)
  obtain ⟨cl2, Ar2, -, Sz2, Ng2, -, -⟩ := id A2
  have kn3 : ∀ t, own_S p e below s₁ (mkF m 6 #[.val (.ref a1), .val (.ref b2)] [.null, (.int 0), (.int 0), (.ref b2), (.ref a1)]) t → Gl t := fun t kt => kn1 t (by
    show own_S p e below s₁ (mkF m 4 #[.val (.ref a1), .val (.ref b2)] [(.ref b2), (.int 0), (.ref b2), (.ref a1)]) _
    refine X0.arraylength hx (by rw [e0]; exact Ar2.1) (State.isArrayOf_alike hZ.alike Ar2.2.1) (g := (mkF m 4 #[.val (.ref a1), .val (.ref b2)] [(.ref b2), (.int 0), (.ref b2), (.ref a1)])) rfl rfl (hb hby d2_4) _ ?_
    rw [len_of Sz2 Ng2]
    refine XS.aconstNull X0.here hx rfl (hb hby d2_5) ?_
    exact kt)
  obtain ⟨_, _, ⟨T4, L4, cc4, ss4⟩, -, X4, hSn4, hgr4, ⟨Lc4, hQ4, l4, y4, z4, CC4⟩, st4⟩ := X0.specialBackS hx (y := mN23) rfl hown (mvT hZ (own_w hw 12 rfl)) (mvT hZ (own_w hw 13 rfl)) (mvT hZ (own_w hw 15 rfl)) (by decide) (backOfSH (s := s) (vm0 := s.vm) (W := 0) (rmE3 l Z a0 hw [] a1 b2  h0 n0 Z0 F1 F2 E1 g_a1 O0) hZ (own_w hw 15 rfl) (own_w hw 8 rfl) (by decide) (by decide) (own_EW hw) CR0.1) (g := (mkF m 6 #[.val (.ref a1), .val (.ref b2)] [.null, (.int 0), (.int 0), (.ref b2), (.ref a1)])) rfl (by rw [hml]; rfl) (Steps.refl _) (a := a1) (argsL := [(.ref b2), (.int 0), (.int 0), .null]) (rest := []) (lenOf pd_16 rfl) rfl (by show 2 * 0 + _ ≤ _; exact Nat.le_of_eq rfl) (hb hby d2_6) (fun _ _ => ⟨rfl, e0, (by decide : 0 + 2 ≤ _), (by decide : 0 + 8 ≤ _)⟩)
  dsimp only [Pt.U, Pt.locs, Pt.cells, Pt.slots] at CC4
  dsimp only [Pt.U, Pt.locs, Pt.cells, Pt.slots] at X4 l4 y4 z4 st4 hQ4
  subst l4 y4 z4
  have X4 : Stand p l e _ (s.setVm T4.vm) m _ below meth c T4 _ 2 8 := X4
  have hZ : Z.Warmed39 (s.setVm T4.vm).vm := State.Warmed39.trans (t := s.setVm s.vm) hZ hSn4.1
  have hown : (s.setVm T4.vm).vm.findClass "java/lang/String" = some m.cls := by rw [show (s.setVm T4.vm).vm = T4.vm from rfl, hSn4.1.alike.findClass]; exact hown
  have hSn4 : s.Since T4.vm T4.heap.size := foldS hSt0 (by rw [e0]; exact (Nat.zero_le _)) hSn4 hgr4
  obtain ⟨rfl, Nq4, t4, kb4, K4, Ex4, Co4, Va4, Ar4⟩ := hQ4
  have Nf4 := Fr.app Nf0 Nq4
  have CR5 := CR0.trans CC4
  have Z6 := Nat.le_trans Z0 K4.1
  have hk7 := Nat.le_trans (Nat.zero_le _) K4.1
  have Od8 := O0.keep K4 (allS g_a1 all0)
  have K9 := (Keep.refl h0 [a1]).trans K4 (allS (Or.inl (List.mem_of_getElem? (i := 0) rfl)) all0)
  obtain ⟨fs, hr, hrun, hended, hRW⟩ := X4.leaveW hSn4 (Nat.le_refl _) (v := none) (fun _ => rfl)
  have chE : CHr Z consts_1 s.vm s.heap T4.vm T4.heap := by rw [hh]; exact CR5.trans (CHv.at X4 hZ (own_EW hw) CR5.1)
  refine ⟨_, _, hGl _ (kn3 _ (st4.trans (X4.returnOut hx Bd.returns (hb hby d2_9) hr))), hrun, hended, _, _, rfl, ?_, chE, ⟨hRW.1, hRW.2.1, hRW.2.2.1, hRW.2.2.2.mono (by decide) (by decide)⟩⟩
  show QE2 Z a1 b2 k2 h0 n0 _ T4.heap _
  exact ⟨rfl, Nf4, t4, _, K9, Ex4, Co4, Va4, Ar4⟩

def Q1 (Z : State) (a1 : Addr) (p2 : Int32) (k1 : ClassId) (c0 : Int32) (c1 : Int32) (c2 : Int32) (G1 : Int32) (h0 : Heap) (n0 : Nat) (v : Option Value) (h : Heap) (L : List Loc) : Prop := ∃ (b t : Addr) (kb : ClassId) (cd N : Int32) (vs : List Value), v = some (.ref b) ∧ Fr n0 L ∧ n0 ≤ b ∧ Keep h0 h [] ∧ Exa Z h b "java/lang/String" ∧ Fld Z h b "java/lang/String" "value" "[B" (.ref t) ∧ Fld Z h b "java/lang/String" "coder" "B" (.int cd) ∧ Arv Z h t kb .byte N vs (.int (0 : Int32)) ∧ StrChars.Road.CodA (own_take p2 c0 c1 c2) cd N vs
theorem own_e2 {a b : Int32} (h : (255 : Int32) < a ∨ (¬ (255 : Int32) < a ∧ (255 : Int32) < b)) : ∃ c ∈ ([a, b] : List Int32), (255 : Int32) < c := by
  rcases h with h | ⟨-, h⟩
  · exact ⟨a, by simp, h⟩
  · exact ⟨b, by simp, h⟩
theorem own_e3 {a b d : Int32} (h : (255 : Int32) < a ∨ (¬ (255 : Int32) < a ∧ (255 : Int32) < b) ∨ (¬ (255 : Int32) < a ∧ ¬ (255 : Int32) < b ∧ (255 : Int32) < d)) : ∃ c ∈ ([a, b, d] : List Int32), (255 : Int32) < c := by
  rcases h with h | ⟨-, h⟩ | ⟨-, -, h⟩
  · exact ⟨a, by simp, h⟩
  · exact ⟨b, by simp, h⟩
  · exact ⟨d, by simp, h⟩

theorem d1_4 : decode method_5_code 4 = .ok (.new 20, 3) := by decide +kernel
theorem d1_7 : decode method_5_code 7 = .ok (.dup, 1) := by decide +kernel
theorem d1_8 : decode method_5_code 8 = .ok (.iconst 0, 1) := by decide +kernel
theorem d1_9 : decode method_5_code 9 = .ok (.newarray .char, 2) := by decide +kernel
theorem d1_11 : decode method_5_code 11 = .ok (.invokespecial 22, 3) := by decide +kernel
theorem d1_14 : decode method_5_code 14 = .ok (.areturn, 1) := by decide +kernel
theorem pd_17 : parseMethodDescriptor "([C)V" = some ⟨[(.array .char)], none⟩ := by decide +kernel
theorem mk_0 {p : Program} {l : Launch} {e : Env} {s : State} {m : MethodId} {args : Array Value} {below : List Frame} {meth : Method} {c : Code} {T0 : State} {locs : List Loc} {Z : State} {a0 : Array Value} {h0 : Heap} {n0 : Nat} (a1 : Addr) (p2 : Int32) (k1 : ClassId) (c0 : Int32) (c1 : Int32) (c2 : Int32) (G1 : Int32) {vm0 : Vm} {k0 : Nat}
    (X0 : Stand p l e (own_r 9 4 16 170) (s.setVm vm0) m args below meth c T0 locs 0 0) (hx : p.tables.exec = Jvm.exec) (hZ : Z.Warmed39 (s.setVm vm0).vm) (hw : ∀ d ∈ tables_1, d.before a0 Z = true) (hby : c.code = method_5_code) (hml : c.maxLocals = 2) (hown : (s.setVm vm0).vm.findClass "com/example/caddis/caddis/StatementSetComparePinLaw" = some m.cls) (hret : meth.sig.returnType = some (.object "java/lang/String")) (hlk : meth.locks = false) (e0 : T0.heap = h0) (Nf0 : Fr n0 locs) (Z0 : n0 ≤ h0.size) (hS0 : s.Since vm0 k0) (hk0 : k0 ≤ h0.size) (H0 : CHr Z consts_1 s.vm s.heap vm0 h0) (A_a1 : Arv Z h0 a1 k1 .char (3 : Int32) [(.int c0), (.int c1), (.int c2)] (.int (0 : Int32))) (rg0 : own_rg c0) (rg1 : own_rg c1) (rg2 : own_rg c2) (O0 : Old Z n0 h0) (O2 : Sta Z Z.heap "java/lang/String" "COMPACT_STRINGS" "Z" (.int G1)) (P5 : ¬ (G1 = (0 : Int32))) (U1 : Sta Z Z.heap "java/lang/StringUTF16" "$assertionsDisabled" "Z" (.int (1 : Int32))) (U2 : Sta Z Z.heap "java/lang/StringUTF16" "HI_BYTE_SHIFT" "I" (.int (0 : Int32))) (U3 : Sta Z Z.heap "java/lang/StringUTF16" "LO_BYTE_SHIFT" "I" (.int (8 : Int32))) (htk : own_take p2 c0 c1 c2 = []) :
    ∃ s₂ o, Steps p.tables e below (T0.setTop (mkF m 4 #[.val (.ref a1), .val (.int p2)] [])) s₂ ∧ s₂.status = .running ∧ Ended s₂ below o ∧ ∃ v L, o = .returned v ∧ Q1 Z a1 p2 k1 c0 c1 c2 G1 h0 n0 v s₂.heap L ∧ CHr Z consts_1 s.vm s.heap s₂.vm s₂.heap ∧ ReturnedEndW s o s₂ L (own_r 9 4 16 170).cells (own_r 9 4 16 170).slots := by
  have kn0 : ∀ t, own_S p e below T0 (mkF m 4 #[.val (.ref a1), .val (.int p2)] []) t → own_S p e below T0 (mkF m 4 #[.val (.ref a1), .val (.int p2)] []) t := fun t k => k
  have CR0 := H0
  obtain ⟨T1, h1, X1, e1, E1, A1, D1, -, st1⟩ := newO X0 hx hZ hown (own_w hw 6 rfl) (own_w hw 7 rfl) (own_w hw 8 rfl) e0 (g := (mkF m 4 #[.val (.ref a1), .val (.int p2)] [])) rfl (hb hby d1_4) (by decide) (by decide)
  obtain ⟨b1, g1⟩ : ∃ z, z = h0.size := ⟨_, rfl⟩
  rw [← g1] at A1 D1 st1
  have sz_b1 : h0.size ≤ b1 := Nat.le_trans (Keep.refl h0 []).1 (Nat.le_of_eq g1.symm)
  have g_b1 : n0 ≤ b1 := Nat.le_trans Z0 (Nat.le_of_eq g1.symm)
  have ne_a1_b1 : a1 ≠ b1 := Nat.ne_of_lt (Nat.lt_of_lt_of_le A_a1.lt (Nat.le_of_eq g1.symm))
  have CS2 := CHr.ext E1 CR0.1
  have CR2 := CR0.trans CS2
  have Z3 := Nat.le_trans Z0 E1.1
  have hk4 := Nat.le_trans hk0 E1.1
  have Od5 := O0.ext E1
  have K6 := (Keep.refl h0 []).ext E1
  have SFn_b1 := Safe.ext E1 CR0.1 (Safe.new (x := b1) (Nat.le_of_eq g1.symm))
  have F1_21 : Fld Z h1 b1 "java/lang/String" "value" "[B" .null := D1 (Or.inr (own_w hw 21 rfl)) (ty := (.array .byte)) (by decide)
  have F1_22 : Fld Z h1 b1 "java/lang/String" "coder" "B" (.int (0 : Int32)) := D1 (Or.inr (own_w hw 22 rfl)) (ty := .byte) (by decide)
  have kn7 : ∀ t, own_S p e below T1 (mkF m 9 #[.val (.ref a1), .val (.int p2)] [(.int 0), (.ref b1), (.ref b1)]) t → own_S p e below T0 (mkF m 4 #[.val (.ref a1), .val (.int p2)] []) t := fun t kt => kn0 t (st1 _ (by
    show own_S p e below T1 (mkF m 7 #[.val (.ref a1), .val (.int p2)] [(.ref b1)]) _
    refine XS.dup X1.here hx rfl (hb hby d1_7) rfl rfl ?_
    refine XS.iconst X1.here hx rfl (hb hby d1_8) ?_
    exact kt))
  obtain ⟨T8, h8, kk8, X8, e8, E8, A8, st8⟩ := newP X1 hx hZ (own_w hw 0 rfl) e1 (g := (mkF m 9 #[.val (.ref a1), .val (.int p2)] [(.int 0), (.ref b1), (.ref b1)])) rfl (hb hby d1_9) rfl (by decide) (cap := 0) (by decide) (by decide) (by decide) (by decide)
  obtain ⟨b8, g8⟩ : ∃ z, z = h1.size := ⟨_, rfl⟩
  rw [← g8] at A8 st8
  have sz_b8 : h0.size ≤ b8 := Nat.le_trans K6.1 (Nat.le_of_eq g8.symm)
  have g_b8 : n0 ≤ b8 := Nat.le_trans Z3 (Nat.le_of_eq g8.symm)
  have f9 := (A_a1.ext E1)
  have ne_a1_b8 : a1 ≠ b8 := Nat.ne_of_lt (Nat.lt_of_lt_of_le f9.lt (Nat.le_of_eq g8.symm))
  have ne_b1_b8 : b1 ≠ b8 := Nat.ne_of_lt (Nat.lt_of_lt_of_le A1.lt (Nat.le_of_eq g8.symm))
  have CS10 := CHr.ext E8 CR2.1
  have CR10 := CR2.trans CS10
  have SF10_b1 := CS10.safe A1.lt SFn_b1
  have SL10_b1 := Nat.lt_of_lt_of_le A1.lt CS10.2.1
  have Z11 := Nat.le_trans Z3 E8.1
  have hk12 := Nat.le_trans hk4 E8.1
  have Od13 := Od5.ext E8
  have K14 := K6.ext E8
  have V8 : Arv Z h8 b8 kk8 .char (0 : Int32) [] (.int (0 : Int32)) := (Arv.new A8 (by decide)).pad (pad_rep [] (.int (0 : Int32)) 0)
  have f16 := (F1_21.ext E8)
  have f17 := (F1_22.ext E8)
  have f18 := (A1.ext E8)
  obtain ⟨_, _, ⟨T15, L15, cc15, ss15⟩, -, X15, hSn15, hgr15, ⟨Lc15, hQ15, l15, y15, z15, CC15⟩, st15⟩ := X8.specialBackS hx (y := mN24) rfl hown (mvT hZ (own_w hw 9 rfl)) (mvT hZ (own_w hw 10 rfl)) (mvT hZ (own_w hw 11 rfl)) (by decide) (backOfSH (s := s) (vm0 := vm0) (W := 1) (rmE2 l Z a0 hw [] b1 b8 kk8 h8 n0 Z11 f16 f17 f18 g_b1 Od13 V8) hZ (own_w hw 11 rfl) (own_w hw 8 rfl) (by decide) (by decide) (own_EW hw) CR10.1) (g := (mkF m 11 #[.val (.ref a1), .val (.int p2)] [(.ref b8), (.ref b1), (.ref b1)])) rfl (by rw [hml]; rfl) (Steps.refl _) (a := b1) (argsL := [(.ref b8)]) (rest := [(.ref b1)]) (lenOf pd_17 rfl) rfl (by show 2 * 0 + _ ≤ _; exact Nat.le_of_eq rfl) (hb hby d1_11) (fun _ _ => ⟨rfl, e8, (by decide : 2 + 2 ≤ _), (by decide : 4 + 8 ≤ _)⟩)
  dsimp only [Pt.U, Pt.locs, Pt.cells, Pt.slots] at CC15
  dsimp only [Pt.U, Pt.locs, Pt.cells, Pt.slots] at X15 l15 y15 z15 st15 hQ15
  subst l15 y15 z15
  have X15 : Stand p l e _ (s.setVm T15.vm) m _ below meth c T15 _ 4 12 := X15
  have hZ : Z.Warmed39 (s.setVm T15.vm).vm := State.Warmed39.trans (t := s.setVm vm0) hZ hSn15.1
  have hown : (s.setVm T15.vm).vm.findClass "com/example/caddis/caddis/StatementSetComparePinLaw" = some m.cls := by rw [show (s.setVm T15.vm).vm = T15.vm from rfl, hSn15.1.alike.findClass]; exact hown
  have hSn15 : s.Since T15.vm T15.heap.size := foldS hS0 (by rw [e8]; exact hk12) hSn15 hgr15
  obtain ⟨rfl, Nq15, t15, kb15, K15, Ex15, Co15, Va15, Ar15⟩ := hQ15
  have Nf15 := Fr.app Nf0 Nq15
  have CR19 := CR10.trans CC15
  have SF19_b1 := CC15.safe SL10_b1 SF10_b1
  have SL19_b1 := Nat.lt_of_lt_of_le SL10_b1 CC15.2.1
  have Z20 := Nat.le_trans Z11 K15.1
  have hk21 := Nat.le_trans hk12 K15.1
  have Od22 := Od13.keep K15 (allS g_b1 all0)
  have K23 := K14.trans K15 (allS (Or.inr sz_b1) all0)
  have hp15 : ∀ c ∈ ([] : List Int32), ¬ c < 0 ∧ ¬ (255 : Int32) < c := own_f0
  obtain ⟨fs, hr, hrun, hended, hRW⟩ := X15.leaveW hSn15 (Nat.le_refl _) (v := some (.ref b1)) (fun h => by rw [hret] at h; cases h)
  have chE : CHr Z consts_1 s.vm s.heap T15.vm T15.heap := by exact CR19.trans (CHv.at X15 hZ (own_EW hw) CR19.1)
  refine ⟨_, _, id (kn7 _ (st8 _ (st15.trans (by
      show own_S p e below T15 (mkF m 14 #[.val (.ref a1), .val (.int p2)] [(.ref b1)]) _
      jvm_step X15.here [X15.here.top, hx, (hb hby d1_14), X15.method', hret, Value.isRef, FieldType.isReference]
      first | (intro acts; rw [hr _ acts rfl rfl rfl]) | rw [hr _ _ rfl rfl rfl]
      exact Steps.refl _)))), hrun, hended, _, _, rfl, ?_, chE, ⟨hRW.1, hRW.2.1, hRW.2.2.1, hRW.2.2.2.mono (by decide) (by decide)⟩⟩
  show Q1 Z a1 p2 k1 c0 c1 c2 G1 h0 n0 _ T15.heap _
  exact ⟨b1, t15, kb15, (0 : Int32), (0 : Int32), ((([] : List Int32).map (fun c => c.toInt8.toInt32)).map Value.int), rfl, Nf15, g_b1, K23, Ex15, Va15, Co15, Ar15, by rw [htk]; exact StrChars.Road.codOf (cs := ([] : List Int32)) (n := 0) rfl (fun x hx => (hp15 x hx).2)⟩

theorem d1_20 : decode method_5_code 20 = .ok (.new 20, 3) := by decide +kernel
theorem d1_23 : decode method_5_code 23 = .ok (.dup, 1) := by decide +kernel
theorem d1_24 : decode method_5_code 24 = .ok (.iconst 1, 1) := by decide +kernel
theorem d1_25 : decode method_5_code 25 = .ok (.newarray .char, 2) := by decide +kernel
theorem d1_27 : decode method_5_code 27 = .ok (.dup, 1) := by decide +kernel
theorem d1_28 : decode method_5_code 28 = .ok (.iconst 0, 1) := by decide +kernel
theorem d1_29 : decode method_5_code 29 = .ok (.aload_n 0, 1) := by decide +kernel
theorem d1_30 : decode method_5_code 30 = .ok (.iconst 0, 1) := by decide +kernel
theorem d1_31 : decode method_5_code 31 = .ok (.caload, 1) := by decide +kernel
theorem d1_32 : decode method_5_code 32 = .ok (.castore, 1) := by decide +kernel
theorem d1_33 : decode method_5_code 33 = .ok (.invokespecial 22, 3) := by decide +kernel
theorem d1_36 : decode method_5_code 36 = .ok (.areturn, 1) := by decide +kernel
theorem mk_1 {p : Program} {l : Launch} {e : Env} {s : State} {m : MethodId} {args : Array Value} {below : List Frame} {meth : Method} {c : Code} {T0 : State} {locs : List Loc} {Z : State} {a0 : Array Value} {h0 : Heap} {n0 : Nat} (a1 : Addr) (p2 : Int32) (k1 : ClassId) (c0 : Int32) (c1 : Int32) (c2 : Int32) (G1 : Int32) {vm0 : Vm} {k0 : Nat}
    (X0 : Stand p l e (own_r 9 4 16 170) (s.setVm vm0) m args below meth c T0 locs 0 0) (hx : p.tables.exec = Jvm.exec) (hZ : Z.Warmed39 (s.setVm vm0).vm) (hw : ∀ d ∈ tables_1, d.before a0 Z = true) (hby : c.code = method_5_code) (hml : c.maxLocals = 2) (hown : (s.setVm vm0).vm.findClass "com/example/caddis/caddis/StatementSetComparePinLaw" = some m.cls) (hret : meth.sig.returnType = some (.object "java/lang/String")) (hlk : meth.locks = false) (e0 : T0.heap = h0) (Nf0 : Fr n0 locs) (Z0 : n0 ≤ h0.size) (hS0 : s.Since vm0 k0) (hk0 : k0 ≤ h0.size) (H0 : CHr Z consts_1 s.vm s.heap vm0 h0) (A_a1 : Arv Z h0 a1 k1 .char (3 : Int32) [(.int c0), (.int c1), (.int c2)] (.int (0 : Int32))) (rg0 : own_rg c0) (rg1 : own_rg c1) (rg2 : own_rg c2) (O0 : Old Z n0 h0) (O2 : Sta Z Z.heap "java/lang/String" "COMPACT_STRINGS" "Z" (.int G1)) (P5 : ¬ (G1 = (0 : Int32))) (U1 : Sta Z Z.heap "java/lang/StringUTF16" "$assertionsDisabled" "Z" (.int (1 : Int32))) (U2 : Sta Z Z.heap "java/lang/StringUTF16" "HI_BYTE_SHIFT" "I" (.int (0 : Int32))) (U3 : Sta Z Z.heap "java/lang/StringUTF16" "LO_BYTE_SHIFT" "I" (.int (8 : Int32))) (htk : own_take p2 c0 c1 c2 = [c0]) :
    ∃ s₂ o, Steps p.tables e below (T0.setTop (mkF m 20 #[.val (.ref a1), .val (.int p2)] [])) s₂ ∧ s₂.status = .running ∧ Ended s₂ below o ∧ ∃ v L, o = .returned v ∧ Q1 Z a1 p2 k1 c0 c1 c2 G1 h0 n0 v s₂.heap L ∧ CHr Z consts_1 s.vm s.heap s₂.vm s₂.heap ∧ ReturnedEndW s o s₂ L (own_r 9 4 16 170).cells (own_r 9 4 16 170).slots := by
  have kn0 : ∀ t, own_S p e below T0 (mkF m 20 #[.val (.ref a1), .val (.int p2)] []) t → own_S p e below T0 (mkF m 20 #[.val (.ref a1), .val (.int p2)] []) t := fun t k => k
  have CR0 := H0
  obtain ⟨T1, h1, X1, e1, E1, A1, D1, -, st1⟩ := newO X0 hx hZ hown (own_w hw 6 rfl) (own_w hw 7 rfl) (own_w hw 8 rfl) e0 (g := (mkF m 20 #[.val (.ref a1), .val (.int p2)] [])) rfl (hb hby d1_20) (by decide) (by decide)
  obtain ⟨b1, g1⟩ : ∃ z, z = h0.size := ⟨_, rfl⟩
  rw [← g1] at A1 D1 st1
  have sz_b1 : h0.size ≤ b1 := Nat.le_trans (Keep.refl h0 []).1 (Nat.le_of_eq g1.symm)
  have g_b1 : n0 ≤ b1 := Nat.le_trans Z0 (Nat.le_of_eq g1.symm)
  have ne_a1_b1 : a1 ≠ b1 := Nat.ne_of_lt (Nat.lt_of_lt_of_le A_a1.lt (Nat.le_of_eq g1.symm))
  have CS2 := CHr.ext E1 CR0.1
  have CR2 := CR0.trans CS2
  have Z3 := Nat.le_trans Z0 E1.1
  have hk4 := Nat.le_trans hk0 E1.1
  have Od5 := O0.ext E1
  have K6 := (Keep.refl h0 []).ext E1
  have SFn_b1 := Safe.ext E1 CR0.1 (Safe.new (x := b1) (Nat.le_of_eq g1.symm))
  have F1_21 : Fld Z h1 b1 "java/lang/String" "value" "[B" .null := D1 (Or.inr (own_w hw 21 rfl)) (ty := (.array .byte)) (by decide)
  have F1_22 : Fld Z h1 b1 "java/lang/String" "coder" "B" (.int (0 : Int32)) := D1 (Or.inr (own_w hw 22 rfl)) (ty := .byte) (by decide)
  have kn7 : ∀ t, own_S p e below T1 (mkF m 25 #[.val (.ref a1), .val (.int p2)] [(.int 1), (.ref b1), (.ref b1)]) t → own_S p e below T0 (mkF m 20 #[.val (.ref a1), .val (.int p2)] []) t := fun t kt => kn0 t (st1 _ (by
    show own_S p e below T1 (mkF m 23 #[.val (.ref a1), .val (.int p2)] [(.ref b1)]) _
    refine XS.dup X1.here hx rfl (hb hby d1_23) rfl rfl ?_
    refine XS.iconst X1.here hx rfl (hb hby d1_24) ?_
    exact kt))
  obtain ⟨T8, h8, kk8, X8, e8, E8, A8, st8⟩ := newP X1 hx hZ (own_w hw 0 rfl) e1 (g := (mkF m 25 #[.val (.ref a1), .val (.int p2)] [(.int 1), (.ref b1), (.ref b1)])) rfl (hb hby d1_25) rfl (by decide) (cap := 1) (by decide) (by decide) (by decide) (by decide)
  obtain ⟨b8, g8⟩ : ∃ z, z = h1.size := ⟨_, rfl⟩
  rw [← g8] at A8 st8
  have sz_b8 : h0.size ≤ b8 := Nat.le_trans K6.1 (Nat.le_of_eq g8.symm)
  have g_b8 : n0 ≤ b8 := Nat.le_trans Z3 (Nat.le_of_eq g8.symm)
  have f9 := (A_a1.ext E1)
  have ne_a1_b8 : a1 ≠ b8 := Nat.ne_of_lt (Nat.lt_of_lt_of_le f9.lt (Nat.le_of_eq g8.symm))
  have ne_b1_b8 : b1 ≠ b8 := Nat.ne_of_lt (Nat.lt_of_lt_of_le A1.lt (Nat.le_of_eq g8.symm))
  have CS10 := CHr.ext E8 CR2.1
  have CR10 := CR2.trans CS10
  have SF10_b1 := CS10.safe A1.lt SFn_b1
  have SL10_b1 := Nat.lt_of_lt_of_le A1.lt CS10.2.1
  have Z11 := Nat.le_trans Z3 E8.1
  have hk12 := Nat.le_trans hk4 E8.1
  have Od13 := Od5.ext E8
  have K14 := K6.ext E8
  have V8 : Arv Z h8 b8 kk8 .char (1 : Int32) [(.int (0 : Int32))] (.int (0 : Int32)) := (Arv.new A8 (by decide)).pad (pad_rep [] (.int (0 : Int32)) 1)
  have kn15 : ∀ t, own_S p e below T8 (mkF m 31 #[.val (.ref a1), .val (.int p2)] [(.int 0), (.ref a1), (.int 0), (.ref b8), (.ref b8), (.ref b1), (.ref b1)]) t → own_S p e below T0 (mkF m 20 #[.val (.ref a1), .val (.int p2)] []) t := fun t kt => kn7 t (st8 _ (by
    show own_S p e below T8 (mkF m 27 #[.val (.ref a1), .val (.int p2)] [(.ref b8), (.ref b1), (.ref b1)]) _
    refine XS.dup X8.here hx rfl (hb hby d1_27) rfl rfl ?_
    refine XS.iconst X8.here hx rfl (hb hby d1_28) ?_
    refine XS.aloadN X8.here hx rfl (hb hby d1_29) rfl rfl ?_
    refine XS.iconst X8.here hx rfl (hb hby d1_30) ?_
    exact kt))
  have f16 := (f9.ext E8)
  obtain ⟨cl17, Ar17, q17, Sz17, Ng17, Hs17, Gs17⟩ := id f16
  have hin17 : ¬ ((0 : Int32) < 0 ∨ cl17.slots.size ≤ ((0 : Int32)).toNatClampNeg) := inb_of Sz17 ⟨by decide, by decide⟩
  have hat17 : cl17.slots[((0 : Int32)).toNatClampNeg]? = some (.int c0) := Hs17.at hin17 rfl
  have kn18 : ∀ t, own_S p e below T8 (mkF m 32 #[.val (.ref a1), .val (.int p2)] [(.int c0), (.int 0), (.ref b8), (.ref b8), (.ref b1), (.ref b1)]) t → own_S p e below T0 (mkF m 20 #[.val (.ref a1), .val (.int p2)] []) t := fun t kt => kn15 t (by
    show own_S p e below T8 (mkF m 31 #[.val (.ref a1), .val (.int p2)] [(.int 0), (.ref a1), (.int 0), (.ref b8), (.ref b8), (.ref b1), (.ref b1)]) _
    refine X8.caload hx (j := (0 : Int32)) (v := (.int c0)) (by rw [e8]; exact Ar17.1) (State.isArrayOf_alike hZ.alike Ar17.2.1) Ar17.2.2 hin17 hat17 (g := (mkF m 31 #[.val (.ref a1), .val (.int p2)] [(.int 0), (.ref a1), (.int 0), (.ref b8), (.ref b8), (.ref b1), (.ref b1)])) rfl rfl (hb hby d1_31) _ ?_
    exact kt)
  obtain ⟨cl19, Ar19, q19, Sz19, Ng19, Hs19, Gs19⟩ := id V8
  have hin19 : ¬ ((0 : Int32) < 0 ∨ cl19.slots.size ≤ ((0 : Int32)).toNatClampNeg) := inb_of Sz19 ⟨by decide, by decide⟩
  obtain ⟨T19, h19, X19, e19, W19, st19⟩ := stC X8 hx hZ e8 Ar19 (j := (0 : Int32)) hin19 (g := (mkF m 32 #[.val (.ref a1), .val (.int p2)] [(.int c0), (.int 0), (.ref b8), (.ref b8), (.ref b1), (.ref b1)])) rfl rfl (hb hby d1_32)
  have CS20 := CHr.wr W19 (Safe.arr hZ.alike Ar19 nofun) CR10.1
  have CR20 := CR10.trans CS20
  have SF20_b1 := CS20.safe SL10_b1 SF10_b1
  have SL20_b1 := Nat.lt_of_lt_of_le SL10_b1 CS20.2.1
  have Z21 := Nat.le_trans Z11 (Keep.of_wr W19).1
  have hk22 := Nat.le_trans hk12 (Keep.of_wr W19).1
  have Od23 := Od13.wr W19 g_b8
  have K24 := K14.wr W19 (Or.inr sz_b8)
  have V19 : Arv Z h19 b8 kk8 .char (1 : Int32) [(.int (c0.toUInt32.toUInt16.toUInt32.toInt32))] (.int (0 : Int32)) := Arv.set Ar19 q19 Sz19 Ng19 Hs19 Gs19 (fits_nar_char _) W19 0 rfl (Nat.le_of_ble_eq_true rfl)
  rw [(show (c0.toUInt32.toUInt16.toUInt32.toInt32) = c0 from own_ck rg0)] at V19
  have Nf25 := Fr.snoc X19 Nf0 g_b8
  by_cases hlat : ∀ c ∈ ([c0] : List Int32), ¬ (255 : Int32) < c
  · have hws : ∀ d ∈ StrChars.Road.words, d.before a0 Z = true := fun d hd => hw d ((by decide +kernel : ∀ d ∈ StrChars.Road.words, d ∈ tables_1) d hd)
    have hp27 : ∀ c ∈ ([c0] : List Int32), ¬ c < 0 ∧ ¬ (255 : Int32) < c := fun c hc => ⟨(((own_fa (P := own_rg) rg0 own_f0) : ∀ c ∈ ([c0] : List Int32), own_rg c) c hc).1, hlat c hc⟩
    have f28 := ((A1.ext E8).wr W19)
    have f29 := ((F1_21.ext E8).other W19 (Or.inl ne_b1_b8))
    have f30 := ((F1_22.ext E8).other W19 (Or.inl ne_b1_b8))
    obtain ⟨_, _, ⟨T26, L26, cc26, ss26⟩, -, X26, ⟨Lc26, hQ26, l26, y26, z26⟩, st26⟩ := X19.specialBack hx (y := mN24) rfl hown (mvT hZ (own_w hw 9 rfl)) (mvT hZ (own_w hw 10 rfl)) (mvT hZ (own_w hw 11 rfl)) (by decide) (StrChars.Road.backV (W := 1) hZ hws (kI := 4) (own_w hw 7 rfl) (cs := ([c0] : List Int32)) (bs := ([c0] : List Int32).map (fun c => c.toInt8.toInt32)) (n := 1) g_b1 Z21 f28 f29 f30 V19 (O2.ext Od23.2) P5 rfl rfl (by decide) (by decide) hp27 rfl (by decide) (by decide)) (g := (mkF m 33 #[.val (.ref a1), .val (.int p2)] [(.ref b8), (.ref b1), (.ref b1)])) rfl (by rw [hml]; rfl) (Steps.refl _) (a := b1) (argsL := [(.ref b8)]) (rest := [(.ref b1)]) (lenOf pd_17 rfl) rfl (by show 2 * 0 + _ ≤ _; exact Nat.le_of_eq rfl) (hb hby d1_33) (fun _ _ => ⟨rfl, e19, (by decide : 2 + 1 ≤ _), (by decide : 5 + 1 ≤ _)⟩)
    dsimp only [Pt.U, Pt.locs, Pt.cells, Pt.slots] at X26 l26 y26 z26 st26 hQ26
    subst l26 y26 z26
    have X26 : Stand p l e _ _ m _ below meth c T26 _ 3 6 := X26
    obtain ⟨rfl, Nq26, K26, Ex26, Co26, t26, kb26, ga26, sa26, nx26, Va26, Ar26⟩ := hQ26
    have Nf26 := Fr.app Nf25 Nq26
    have CS31 := CHr.keep K26 (allS SF20_b1 all0) CR20.1
    have CR31 := CR20.trans CS31
    have SF31_b1 := CS31.safe SL20_b1 SF20_b1
    have SL31_b1 := Nat.lt_of_lt_of_le SL20_b1 CS31.2.1
    have Z32 := Nat.le_trans Z21 K26.1
    have hk33 := Nat.le_trans hk22 K26.1
    have Od34 := Od23.keep K26 (allS g_b1 all0)
    have K35 := K24.trans K26 (allS (Or.inr sz_b1) all0)
    obtain ⟨fs, hr, hrun, hended, hRW⟩ := X26.leaveW hS0 hk33 (v := some (.ref b1)) (fun h => by rw [hret] at h; cases h)
    have chE : CHr Z consts_1 s.vm s.heap T26.vm T26.heap := by exact CR31.trans (CHv.at X26 hZ (own_EW hw) CR31.1)
    refine ⟨_, _, id (kn18 _ (st19 _ (st26.trans (by
        show own_S p e below T26 (mkF m 36 #[.val (.ref a1), .val (.int p2)] [(.ref b1)]) _
        jvm_step X26.here [X26.here.top, hx, (hb hby d1_36), X26.method', hret, Value.isRef, FieldType.isReference]
        first | (intro acts; rw [hr _ acts rfl rfl rfl]) | rw [hr _ _ rfl rfl rfl]
        exact Steps.refl _)))), hrun, hended, _, _, rfl, ?_, chE, ⟨hRW.1, hRW.2.1, hRW.2.2.1, hRW.2.2.2.mono (by decide) (by decide)⟩⟩
    show Q1 Z a1 p2 k1 c0 c1 c2 G1 h0 n0 _ T26.heap _
    exact ⟨b1, t26, kb26, (0 : Int32), (1 : Int32), ((([c0] : List Int32).map (fun c => c.toInt8.toInt32)).map Value.int), rfl, Nf26, g_b1, K35, Ex26, Va26, Co26, Ar26, by rw [htk]; exact StrChars.Road.codOf (cs := ([c0] : List Int32)) (n := 1) rfl (fun x hx => (hp27 x hx).2)⟩
  · have f37 := ((F1_21.ext E8).other W19 (Or.inl ne_b1_b8))
    have f38 := ((F1_22.ext E8).other W19 (Or.inl ne_b1_b8))
    have f39 := ((A1.ext E8).wr W19)
    obtain ⟨_, _, ⟨T36, L36, cc36, ss36⟩, -, X36, ⟨Lc36, hQ36, l36, y36, z36⟩, st36⟩ := X19.specialBack hx (y := mN24) rfl hown (mvT hZ (own_w hw 9 rfl)) (mvT hZ (own_w hw 10 rfl)) (mvT hZ (own_w hw 11 rfl)) (by decide) (backOf (W := 1) (rm2_1 l Z a0 hw [] b1 b8 kk8 c0 G1 h19 n0 Z21 f37 f38 f39 g_b1 V19 (Ne.symm ne_b1_b8) rg0 (own_w1 hlat) Od23 O2 P5 U1 U2 U3) hZ (own_w hw 11 rfl) (own_w hw 8 rfl) (by decide) (by decide)) (g := (mkF m 33 #[.val (.ref a1), .val (.int p2)] [(.ref b8), (.ref b1), (.ref b1)])) rfl (by rw [hml]; rfl) (Steps.refl _) (a := b1) (argsL := [(.ref b8)]) (rest := [(.ref b1)]) (lenOf pd_17 rfl) rfl (by show 2 * 0 + _ ≤ _; exact Nat.le_of_eq rfl) (hb hby d1_33) (fun _ _ => ⟨rfl, e19, (by decide : 2 + 2 ≤ _), (by decide : 5 + 3 ≤ _)⟩)
    dsimp only [Pt.U, Pt.locs, Pt.cells, Pt.slots] at X36 l36 y36 z36 st36 hQ36
    subst l36 y36 z36
    have X36 : Stand p l e _ _ m _ below meth c T36 _ 4 8 := X36
    obtain ⟨rfl, Nq36, t36, kb36, K36, Ex36, Co36, Va36, Ar36⟩ := hQ36
    have Nf36 := Fr.app Nf25 Nq36
    have CS40 := CHr.keep K36 (allS SF20_b1 all0) CR20.1
    have CR40 := CR20.trans CS40
    have SF40_b1 := CS40.safe SL20_b1 SF20_b1
    have SL40_b1 := Nat.lt_of_lt_of_le SL20_b1 CS40.2.1
    have Z41 := Nat.le_trans Z21 K36.1
    have hk42 := Nat.le_trans hk22 K36.1
    have Od43 := Od23.keep K36 (allS g_b1 all0)
    have K44 := K24.trans K36 (allS (Or.inr sz_b1) all0)
    obtain ⟨fs, hr, hrun, hended, hRW⟩ := X36.leaveW hS0 hk42 (v := some (.ref b1)) (fun h => by rw [hret] at h; cases h)
    have chE : CHr Z consts_1 s.vm s.heap T36.vm T36.heap := by exact CR40.trans (CHv.at X36 hZ (own_EW hw) CR40.1)
    refine ⟨_, _, id (kn18 _ (st19 _ (st36.trans (by
        show own_S p e below T36 (mkF m 36 #[.val (.ref a1), .val (.int p2)] [(.ref b1)]) _
        jvm_step X36.here [X36.here.top, hx, (hb hby d1_36), X36.method', hret, Value.isRef, FieldType.isReference]
        first | (intro acts; rw [hr _ acts rfl rfl rfl]) | rw [hr _ _ rfl rfl rfl]
        exact Steps.refl _)))), hrun, hended, _, _, rfl, ?_, chE, ⟨hRW.1, hRW.2.1, hRW.2.2.1, hRW.2.2.2.mono (by decide) (by decide)⟩⟩
    show Q1 Z a1 p2 k1 c0 c1 c2 G1 h0 n0 _ T36.heap _
    exact ⟨b1, t36, kb36, (1 : Int32), (2 : Int32), [(.int (StrChars.lo8 c0)), (.int (StrChars.hi8 c0))], rfl, Nf36, g_b1, K44, Ex36, Va36, Co36, Ar36, by rw [htk]; exact Or.inr ⟨rfl, rfl, rfl, ⟨c0, List.mem_cons_self, own_w1 hlat⟩⟩⟩

theorem d1_42 : decode method_5_code 42 = .ok (.new 20, 3) := by decide +kernel
theorem d1_45 : decode method_5_code 45 = .ok (.dup, 1) := by decide +kernel
theorem d1_46 : decode method_5_code 46 = .ok (.iconst 2, 1) := by decide +kernel
theorem d1_47 : decode method_5_code 47 = .ok (.newarray .char, 2) := by decide +kernel
theorem d1_49 : decode method_5_code 49 = .ok (.dup, 1) := by decide +kernel
theorem d1_50 : decode method_5_code 50 = .ok (.iconst 0, 1) := by decide +kernel
theorem d1_51 : decode method_5_code 51 = .ok (.aload_n 0, 1) := by decide +kernel
theorem d1_52 : decode method_5_code 52 = .ok (.iconst 0, 1) := by decide +kernel
theorem d1_53 : decode method_5_code 53 = .ok (.caload, 1) := by decide +kernel
theorem d1_54 : decode method_5_code 54 = .ok (.castore, 1) := by decide +kernel
theorem d1_55 : decode method_5_code 55 = .ok (.dup, 1) := by decide +kernel
theorem d1_56 : decode method_5_code 56 = .ok (.iconst 1, 1) := by decide +kernel
theorem d1_57 : decode method_5_code 57 = .ok (.aload_n 0, 1) := by decide +kernel
theorem d1_58 : decode method_5_code 58 = .ok (.iconst 1, 1) := by decide +kernel
theorem d1_59 : decode method_5_code 59 = .ok (.caload, 1) := by decide +kernel
theorem d1_60 : decode method_5_code 60 = .ok (.castore, 1) := by decide +kernel
theorem d1_61 : decode method_5_code 61 = .ok (.invokespecial 22, 3) := by decide +kernel
theorem d1_64 : decode method_5_code 64 = .ok (.areturn, 1) := by decide +kernel
theorem mk_2 {p : Program} {l : Launch} {e : Env} {s : State} {m : MethodId} {args : Array Value} {below : List Frame} {meth : Method} {c : Code} {T0 : State} {locs : List Loc} {Z : State} {a0 : Array Value} {h0 : Heap} {n0 : Nat} (a1 : Addr) (p2 : Int32) (k1 : ClassId) (c0 : Int32) (c1 : Int32) (c2 : Int32) (G1 : Int32) {vm0 : Vm} {k0 : Nat}
    (X0 : Stand p l e (own_r 9 4 16 170) (s.setVm vm0) m args below meth c T0 locs 0 0) (hx : p.tables.exec = Jvm.exec) (hZ : Z.Warmed39 (s.setVm vm0).vm) (hw : ∀ d ∈ tables_1, d.before a0 Z = true) (hby : c.code = method_5_code) (hml : c.maxLocals = 2) (hown : (s.setVm vm0).vm.findClass "com/example/caddis/caddis/StatementSetComparePinLaw" = some m.cls) (hret : meth.sig.returnType = some (.object "java/lang/String")) (hlk : meth.locks = false) (e0 : T0.heap = h0) (Nf0 : Fr n0 locs) (Z0 : n0 ≤ h0.size) (hS0 : s.Since vm0 k0) (hk0 : k0 ≤ h0.size) (H0 : CHr Z consts_1 s.vm s.heap vm0 h0) (A_a1 : Arv Z h0 a1 k1 .char (3 : Int32) [(.int c0), (.int c1), (.int c2)] (.int (0 : Int32))) (rg0 : own_rg c0) (rg1 : own_rg c1) (rg2 : own_rg c2) (O0 : Old Z n0 h0) (O2 : Sta Z Z.heap "java/lang/String" "COMPACT_STRINGS" "Z" (.int G1)) (P5 : ¬ (G1 = (0 : Int32))) (U1 : Sta Z Z.heap "java/lang/StringUTF16" "$assertionsDisabled" "Z" (.int (1 : Int32))) (U2 : Sta Z Z.heap "java/lang/StringUTF16" "HI_BYTE_SHIFT" "I" (.int (0 : Int32))) (U3 : Sta Z Z.heap "java/lang/StringUTF16" "LO_BYTE_SHIFT" "I" (.int (8 : Int32))) (htk : own_take p2 c0 c1 c2 = [c0, c1]) :
    ∃ s₂ o, Steps p.tables e below (T0.setTop (mkF m 42 #[.val (.ref a1), .val (.int p2)] [])) s₂ ∧ s₂.status = .running ∧ Ended s₂ below o ∧ ∃ v L, o = .returned v ∧ Q1 Z a1 p2 k1 c0 c1 c2 G1 h0 n0 v s₂.heap L ∧ CHr Z consts_1 s.vm s.heap s₂.vm s₂.heap ∧ ReturnedEndW s o s₂ L (own_r 9 4 16 170).cells (own_r 9 4 16 170).slots := by
  have kn0 : ∀ t, own_S p e below T0 (mkF m 42 #[.val (.ref a1), .val (.int p2)] []) t → own_S p e below T0 (mkF m 42 #[.val (.ref a1), .val (.int p2)] []) t := fun t k => k
  have CR0 := H0
  obtain ⟨T1, h1, X1, e1, E1, A1, D1, -, st1⟩ := newO X0 hx hZ hown (own_w hw 6 rfl) (own_w hw 7 rfl) (own_w hw 8 rfl) e0 (g := (mkF m 42 #[.val (.ref a1), .val (.int p2)] [])) rfl (hb hby d1_42) (by decide) (by decide)
  obtain ⟨b1, g1⟩ : ∃ z, z = h0.size := ⟨_, rfl⟩
  rw [← g1] at A1 D1 st1
  have sz_b1 : h0.size ≤ b1 := Nat.le_trans (Keep.refl h0 []).1 (Nat.le_of_eq g1.symm)
  have g_b1 : n0 ≤ b1 := Nat.le_trans Z0 (Nat.le_of_eq g1.symm)
  have ne_a1_b1 : a1 ≠ b1 := Nat.ne_of_lt (Nat.lt_of_lt_of_le A_a1.lt (Nat.le_of_eq g1.symm))
  have CS2 := CHr.ext E1 CR0.1
  have CR2 := CR0.trans CS2
  have Z3 := Nat.le_trans Z0 E1.1
  have hk4 := Nat.le_trans hk0 E1.1
  have Od5 := O0.ext E1
  have K6 := (Keep.refl h0 []).ext E1
  have SFn_b1 := Safe.ext E1 CR0.1 (Safe.new (x := b1) (Nat.le_of_eq g1.symm))
  have F1_21 : Fld Z h1 b1 "java/lang/String" "value" "[B" .null := D1 (Or.inr (own_w hw 21 rfl)) (ty := (.array .byte)) (by decide)
  have F1_22 : Fld Z h1 b1 "java/lang/String" "coder" "B" (.int (0 : Int32)) := D1 (Or.inr (own_w hw 22 rfl)) (ty := .byte) (by decide)
  have kn7 : ∀ t, own_S p e below T1 (mkF m 47 #[.val (.ref a1), .val (.int p2)] [(.int 2), (.ref b1), (.ref b1)]) t → own_S p e below T0 (mkF m 42 #[.val (.ref a1), .val (.int p2)] []) t := fun t kt => kn0 t (st1 _ (by
    show own_S p e below T1 (mkF m 45 #[.val (.ref a1), .val (.int p2)] [(.ref b1)]) _
    refine XS.dup X1.here hx rfl (hb hby d1_45) rfl rfl ?_
    refine XS.iconst X1.here hx rfl (hb hby d1_46) ?_
    exact kt))
  obtain ⟨T8, h8, kk8, X8, e8, E8, A8, st8⟩ := newP X1 hx hZ (own_w hw 0 rfl) e1 (g := (mkF m 47 #[.val (.ref a1), .val (.int p2)] [(.int 2), (.ref b1), (.ref b1)])) rfl (hb hby d1_47) rfl (by decide) (cap := 2) (by decide) (by decide) (by decide) (by decide)
  obtain ⟨b8, g8⟩ : ∃ z, z = h1.size := ⟨_, rfl⟩
  rw [← g8] at A8 st8
  have sz_b8 : h0.size ≤ b8 := Nat.le_trans K6.1 (Nat.le_of_eq g8.symm)
  have g_b8 : n0 ≤ b8 := Nat.le_trans Z3 (Nat.le_of_eq g8.symm)
  have f9 := (A_a1.ext E1)
  have ne_a1_b8 : a1 ≠ b8 := Nat.ne_of_lt (Nat.lt_of_lt_of_le f9.lt (Nat.le_of_eq g8.symm))
  have ne_b1_b8 : b1 ≠ b8 := Nat.ne_of_lt (Nat.lt_of_lt_of_le A1.lt (Nat.le_of_eq g8.symm))
  have CS10 := CHr.ext E8 CR2.1
  have CR10 := CR2.trans CS10
  have SF10_b1 := CS10.safe A1.lt SFn_b1
  have SL10_b1 := Nat.lt_of_lt_of_le A1.lt CS10.2.1
  have Z11 := Nat.le_trans Z3 E8.1
  have hk12 := Nat.le_trans hk4 E8.1
  have Od13 := Od5.ext E8
  have K14 := K6.ext E8
  have V8 : Arv Z h8 b8 kk8 .char (2 : Int32) [(.int (0 : Int32)), (.int (0 : Int32))] (.int (0 : Int32)) := (Arv.new A8 (by decide)).pad (pad_rep [] (.int (0 : Int32)) 2)
  have kn15 : ∀ t, own_S p e below T8 (mkF m 53 #[.val (.ref a1), .val (.int p2)] [(.int 0), (.ref a1), (.int 0), (.ref b8), (.ref b8), (.ref b1), (.ref b1)]) t → own_S p e below T0 (mkF m 42 #[.val (.ref a1), .val (.int p2)] []) t := fun t kt => kn7 t (st8 _ (by
    show own_S p e below T8 (mkF m 49 #[.val (.ref a1), .val (.int p2)] [(.ref b8), (.ref b1), (.ref b1)]) _
    refine XS.dup X8.here hx rfl (hb hby d1_49) rfl rfl ?_
    refine XS.iconst X8.here hx rfl (hb hby d1_50) ?_
    refine XS.aloadN X8.here hx rfl (hb hby d1_51) rfl rfl ?_
    refine XS.iconst X8.here hx rfl (hb hby d1_52) ?_
    exact kt))
  have f16 := (f9.ext E8)
  obtain ⟨cl17, Ar17, q17, Sz17, Ng17, Hs17, Gs17⟩ := id f16
  have hin17 : ¬ ((0 : Int32) < 0 ∨ cl17.slots.size ≤ ((0 : Int32)).toNatClampNeg) := inb_of Sz17 ⟨by decide, by decide⟩
  have hat17 : cl17.slots[((0 : Int32)).toNatClampNeg]? = some (.int c0) := Hs17.at hin17 rfl
  have kn18 : ∀ t, own_S p e below T8 (mkF m 54 #[.val (.ref a1), .val (.int p2)] [(.int c0), (.int 0), (.ref b8), (.ref b8), (.ref b1), (.ref b1)]) t → own_S p e below T0 (mkF m 42 #[.val (.ref a1), .val (.int p2)] []) t := fun t kt => kn15 t (by
    show own_S p e below T8 (mkF m 53 #[.val (.ref a1), .val (.int p2)] [(.int 0), (.ref a1), (.int 0), (.ref b8), (.ref b8), (.ref b1), (.ref b1)]) _
    refine X8.caload hx (j := (0 : Int32)) (v := (.int c0)) (by rw [e8]; exact Ar17.1) (State.isArrayOf_alike hZ.alike Ar17.2.1) Ar17.2.2 hin17 hat17 (g := (mkF m 53 #[.val (.ref a1), .val (.int p2)] [(.int 0), (.ref a1), (.int 0), (.ref b8), (.ref b8), (.ref b1), (.ref b1)])) rfl rfl (hb hby d1_53) _ ?_
    exact kt)
  obtain ⟨cl19, Ar19, q19, Sz19, Ng19, Hs19, Gs19⟩ := id V8
  have hin19 : ¬ ((0 : Int32) < 0 ∨ cl19.slots.size ≤ ((0 : Int32)).toNatClampNeg) := inb_of Sz19 ⟨by decide, by decide⟩
  obtain ⟨T19, h19, X19, e19, W19, st19⟩ := stC X8 hx hZ e8 Ar19 (j := (0 : Int32)) hin19 (g := (mkF m 54 #[.val (.ref a1), .val (.int p2)] [(.int c0), (.int 0), (.ref b8), (.ref b8), (.ref b1), (.ref b1)])) rfl rfl (hb hby d1_54)
  have CS20 := CHr.wr W19 (Safe.arr hZ.alike Ar19 nofun) CR10.1
  have CR20 := CR10.trans CS20
  have SF20_b1 := CS20.safe SL10_b1 SF10_b1
  have SL20_b1 := Nat.lt_of_lt_of_le SL10_b1 CS20.2.1
  have Z21 := Nat.le_trans Z11 (Keep.of_wr W19).1
  have hk22 := Nat.le_trans hk12 (Keep.of_wr W19).1
  have Od23 := Od13.wr W19 g_b8
  have K24 := K14.wr W19 (Or.inr sz_b8)
  have V19 : Arv Z h19 b8 kk8 .char (2 : Int32) [(.int (c0.toUInt32.toUInt16.toUInt32.toInt32)), (.int (0 : Int32))] (.int (0 : Int32)) := Arv.set Ar19 q19 Sz19 Ng19 Hs19 Gs19 (fits_nar_char _) W19 0 rfl (Nat.le_of_ble_eq_true rfl)
  rw [(show (c0.toUInt32.toUInt16.toUInt32.toInt32) = c0 from own_ck rg0)] at V19
  have Nf25 := Fr.snoc X19 Nf0 g_b8
  have kn26 : ∀ t, own_S p e below T19 (mkF m 59 #[.val (.ref a1), .val (.int p2)] [(.int 1), (.ref a1), (.int 1), (.ref b8), (.ref b8), (.ref b1), (.ref b1)]) t → own_S p e below T0 (mkF m 42 #[.val (.ref a1), .val (.int p2)] []) t := fun t kt => kn18 t (st19 _ (by
    show own_S p e below T19 (mkF m 55 #[.val (.ref a1), .val (.int p2)] [(.ref b8), (.ref b1), (.ref b1)]) _
    refine XS.dup X19.here hx rfl (hb hby d1_55) rfl rfl ?_
    refine XS.iconst X19.here hx rfl (hb hby d1_56) ?_
    refine XS.aloadN X19.here hx rfl (hb hby d1_57) rfl rfl ?_
    refine XS.iconst X19.here hx rfl (hb hby d1_58) ?_
    exact kt))
  have f27 := (f16.other W19 ne_a1_b8)
  obtain ⟨cl28, Ar28, q28, Sz28, Ng28, Hs28, Gs28⟩ := id f27
  have hin28 : ¬ ((1 : Int32) < 0 ∨ cl28.slots.size ≤ ((1 : Int32)).toNatClampNeg) := inb_of Sz28 ⟨by decide, by decide⟩
  have hat28 : cl28.slots[((1 : Int32)).toNatClampNeg]? = some (.int c1) := Hs28.at hin28 rfl
  have kn29 : ∀ t, own_S p e below T19 (mkF m 60 #[.val (.ref a1), .val (.int p2)] [(.int c1), (.int 1), (.ref b8), (.ref b8), (.ref b1), (.ref b1)]) t → own_S p e below T0 (mkF m 42 #[.val (.ref a1), .val (.int p2)] []) t := fun t kt => kn26 t (by
    show own_S p e below T19 (mkF m 59 #[.val (.ref a1), .val (.int p2)] [(.int 1), (.ref a1), (.int 1), (.ref b8), (.ref b8), (.ref b1), (.ref b1)]) _
    refine X19.caload hx (j := (1 : Int32)) (v := (.int c1)) (by rw [e19]; exact Ar28.1) (State.isArrayOf_alike hZ.alike Ar28.2.1) Ar28.2.2 hin28 hat28 (g := (mkF m 59 #[.val (.ref a1), .val (.int p2)] [(.int 1), (.ref a1), (.int 1), (.ref b8), (.ref b8), (.ref b1), (.ref b1)])) rfl rfl (hb hby d1_59) _ ?_
    exact kt)
  obtain ⟨cl30, Ar30, q30, Sz30, Ng30, Hs30, Gs30⟩ := id V19
  have hin30 : ¬ ((1 : Int32) < 0 ∨ cl30.slots.size ≤ ((1 : Int32)).toNatClampNeg) := inb_of Sz30 ⟨by decide, by decide⟩
  obtain ⟨T30, h30, X30, e30, W30, st30⟩ := stC X19 hx hZ e19 Ar30 (j := (1 : Int32)) hin30 (g := (mkF m 60 #[.val (.ref a1), .val (.int p2)] [(.int c1), (.int 1), (.ref b8), (.ref b8), (.ref b1), (.ref b1)])) rfl rfl (hb hby d1_60)
  have CS31 := CHr.wr W30 (Safe.arr hZ.alike Ar30 nofun) CR20.1
  have CR31 := CR20.trans CS31
  have SF31_b1 := CS31.safe SL20_b1 SF20_b1
  have SL31_b1 := Nat.lt_of_lt_of_le SL20_b1 CS31.2.1
  have Z32 := Nat.le_trans Z21 (Keep.of_wr W30).1
  have hk33 := Nat.le_trans hk22 (Keep.of_wr W30).1
  have Od34 := Od23.wr W30 g_b8
  have K35 := K24.wr W30 (Or.inr sz_b8)
  have V30 : Arv Z h30 b8 kk8 .char (2 : Int32) [(.int c0), (.int (c1.toUInt32.toUInt16.toUInt32.toInt32))] (.int (0 : Int32)) := Arv.set Ar30 q30 Sz30 Ng30 Hs30 Gs30 (fits_nar_char _) W30 1 rfl (Nat.le_of_ble_eq_true rfl)
  rw [(show (c1.toUInt32.toUInt16.toUInt32.toInt32) = c1 from own_ck rg1)] at V30
  have Nf36 := Fr.snoc X30 Nf25 g_b8
  by_cases hlat : ∀ c ∈ ([c0, c1] : List Int32), ¬ (255 : Int32) < c
  · have hws : ∀ d ∈ StrChars.Road.words, d.before a0 Z = true := fun d hd => hw d ((by decide +kernel : ∀ d ∈ StrChars.Road.words, d ∈ tables_1) d hd)
    have hp38 : ∀ c ∈ ([c0, c1] : List Int32), ¬ c < 0 ∧ ¬ (255 : Int32) < c := fun c hc => ⟨(((own_fa (P := own_rg) rg0 (own_fa (P := own_rg) rg1 own_f0)) : ∀ c ∈ ([c0, c1] : List Int32), own_rg c) c hc).1, hlat c hc⟩
    have f39 := (((A1.ext E8).wr W19).wr W30)
    have f40 := (((F1_21.ext E8).other W19 (Or.inl ne_b1_b8)).other W30 (Or.inl ne_b1_b8))
    have f41 := (((F1_22.ext E8).other W19 (Or.inl ne_b1_b8)).other W30 (Or.inl ne_b1_b8))
    obtain ⟨_, _, ⟨T37, L37, cc37, ss37⟩, -, X37, ⟨Lc37, hQ37, l37, y37, z37⟩, st37⟩ := X30.specialBack hx (y := mN24) rfl hown (mvT hZ (own_w hw 9 rfl)) (mvT hZ (own_w hw 10 rfl)) (mvT hZ (own_w hw 11 rfl)) (by decide) (StrChars.Road.backV (W := 1) hZ hws (kI := 4) (own_w hw 7 rfl) (cs := ([c0, c1] : List Int32)) (bs := ([c0, c1] : List Int32).map (fun c => c.toInt8.toInt32)) (n := 2) g_b1 Z32 f39 f40 f41 V30 (O2.ext Od34.2) P5 rfl rfl (by decide) (by decide) hp38 rfl (by decide) (by decide)) (g := (mkF m 61 #[.val (.ref a1), .val (.int p2)] [(.ref b8), (.ref b1), (.ref b1)])) rfl (by rw [hml]; rfl) (Steps.refl _) (a := b1) (argsL := [(.ref b8)]) (rest := [(.ref b1)]) (lenOf pd_17 rfl) rfl (by show 2 * 0 + _ ≤ _; exact Nat.le_of_eq rfl) (hb hby d1_61) (fun _ _ => ⟨rfl, e30, (by decide : 2 + 1 ≤ _), (by decide : 6 + 2 ≤ _)⟩)
    dsimp only [Pt.U, Pt.locs, Pt.cells, Pt.slots] at X37 l37 y37 z37 st37 hQ37
    subst l37 y37 z37
    have X37 : Stand p l e _ _ m _ below meth c T37 _ 3 8 := X37
    obtain ⟨rfl, Nq37, K37, Ex37, Co37, t37, kb37, ga37, sa37, nx37, Va37, Ar37⟩ := hQ37
    have Nf37 := Fr.app Nf36 Nq37
    have CS42 := CHr.keep K37 (allS SF31_b1 all0) CR31.1
    have CR42 := CR31.trans CS42
    have SF42_b1 := CS42.safe SL31_b1 SF31_b1
    have SL42_b1 := Nat.lt_of_lt_of_le SL31_b1 CS42.2.1
    have Z43 := Nat.le_trans Z32 K37.1
    have hk44 := Nat.le_trans hk33 K37.1
    have Od45 := Od34.keep K37 (allS g_b1 all0)
    have K46 := K35.trans K37 (allS (Or.inr sz_b1) all0)
    obtain ⟨fs, hr, hrun, hended, hRW⟩ := X37.leaveW hS0 hk44 (v := some (.ref b1)) (fun h => by rw [hret] at h; cases h)
    have chE : CHr Z consts_1 s.vm s.heap T37.vm T37.heap := by exact CR42.trans (CHv.at X37 hZ (own_EW hw) CR42.1)
    refine ⟨_, _, id (kn29 _ (st30 _ (st37.trans (by
        show own_S p e below T37 (mkF m 64 #[.val (.ref a1), .val (.int p2)] [(.ref b1)]) _
        jvm_step X37.here [X37.here.top, hx, (hb hby d1_64), X37.method', hret, Value.isRef, FieldType.isReference]
        first | (intro acts; rw [hr _ acts rfl rfl rfl]) | rw [hr _ _ rfl rfl rfl]
        exact Steps.refl _)))), hrun, hended, _, _, rfl, ?_, chE, ⟨hRW.1, hRW.2.1, hRW.2.2.1, hRW.2.2.2.mono (by decide) (by decide)⟩⟩
    show Q1 Z a1 p2 k1 c0 c1 c2 G1 h0 n0 _ T37.heap _
    exact ⟨b1, t37, kb37, (0 : Int32), (2 : Int32), ((([c0, c1] : List Int32).map (fun c => c.toInt8.toInt32)).map Value.int), rfl, Nf37, g_b1, K46, Ex37, Va37, Co37, Ar37, by rw [htk]; exact StrChars.Road.codOf (cs := ([c0, c1] : List Int32)) (n := 2) rfl (fun x hx => (hp38 x hx).2)⟩
  · have f48 := (((F1_21.ext E8).other W19 (Or.inl ne_b1_b8)).other W30 (Or.inl ne_b1_b8))
    have f49 := (((F1_22.ext E8).other W19 (Or.inl ne_b1_b8)).other W30 (Or.inl ne_b1_b8))
    have f50 := (((A1.ext E8).wr W19).wr W30)
    obtain ⟨_, _, ⟨T47, L47, cc47, ss47⟩, -, X47, ⟨Lc47, hQ47, l47, y47, z47⟩, st47⟩ := X30.specialBack hx (y := mN24) rfl hown (mvT hZ (own_w hw 9 rfl)) (mvT hZ (own_w hw 10 rfl)) (mvT hZ (own_w hw 11 rfl)) (by decide) (backOf (W := 1) (rm2_2 l Z a0 hw [] b1 b8 kk8 c0 c1 G1 h30 n0 Z32 f48 f49 f50 g_b1 V30 (Ne.symm ne_b1_b8) rg0 rg1 (own_w2 hlat) Od34 O2 P5 U1 U2 U3) hZ (own_w hw 11 rfl) (own_w hw 8 rfl) (by decide) (by decide)) (g := (mkF m 61 #[.val (.ref a1), .val (.int p2)] [(.ref b8), (.ref b1), (.ref b1)])) rfl (by rw [hml]; rfl) (Steps.refl _) (a := b1) (argsL := [(.ref b8)]) (rest := [(.ref b1)]) (lenOf pd_17 rfl) rfl (by show 2 * 0 + _ ≤ _; exact Nat.le_of_eq rfl) (hb hby d1_61) (fun _ _ => ⟨rfl, e30, (by decide : 2 + 2 ≤ _), (by decide : 6 + 6 ≤ _)⟩)
    dsimp only [Pt.U, Pt.locs, Pt.cells, Pt.slots] at X47 l47 y47 z47 st47 hQ47
    subst l47 y47 z47
    have X47 : Stand p l e _ _ m _ below meth c T47 _ 4 12 := X47
    obtain ⟨rfl, Nq47, t47, kb47, K47, Ex47, Co47, Va47, Ar47⟩ := hQ47
    have Nf47 := Fr.app Nf36 Nq47
    have CS51 := CHr.keep K47 (allS SF31_b1 all0) CR31.1
    have CR51 := CR31.trans CS51
    have SF51_b1 := CS51.safe SL31_b1 SF31_b1
    have SL51_b1 := Nat.lt_of_lt_of_le SL31_b1 CS51.2.1
    have Z52 := Nat.le_trans Z32 K47.1
    have hk53 := Nat.le_trans hk33 K47.1
    have Od54 := Od34.keep K47 (allS g_b1 all0)
    have K55 := K35.trans K47 (allS (Or.inr sz_b1) all0)
    obtain ⟨fs, hr, hrun, hended, hRW⟩ := X47.leaveW hS0 hk53 (v := some (.ref b1)) (fun h => by rw [hret] at h; cases h)
    have chE : CHr Z consts_1 s.vm s.heap T47.vm T47.heap := by exact CR51.trans (CHv.at X47 hZ (own_EW hw) CR51.1)
    refine ⟨_, _, id (kn29 _ (st30 _ (st47.trans (by
        show own_S p e below T47 (mkF m 64 #[.val (.ref a1), .val (.int p2)] [(.ref b1)]) _
        jvm_step X47.here [X47.here.top, hx, (hb hby d1_64), X47.method', hret, Value.isRef, FieldType.isReference]
        first | (intro acts; rw [hr _ acts rfl rfl rfl]) | rw [hr _ _ rfl rfl rfl]
        exact Steps.refl _)))), hrun, hended, _, _, rfl, ?_, chE, ⟨hRW.1, hRW.2.1, hRW.2.2.1, hRW.2.2.2.mono (by decide) (by decide)⟩⟩
    show Q1 Z a1 p2 k1 c0 c1 c2 G1 h0 n0 _ T47.heap _
    exact ⟨b1, t47, kb47, (1 : Int32), (4 : Int32), [(.int (StrChars.lo8 c0)), (.int (StrChars.hi8 c0)), (.int (StrChars.lo8 c1)), (.int (StrChars.hi8 c1))], rfl, Nf47, g_b1, K55, Ex47, Va47, Co47, Ar47, by rw [htk]; exact Or.inr ⟨rfl, rfl, rfl, own_e2 (own_w2 hlat)⟩⟩

theorem d1_65 : decode method_5_code 65 = .ok (.new 20, 3) := by decide +kernel
theorem d1_68 : decode method_5_code 68 = .ok (.dup, 1) := by decide +kernel
theorem d1_69 : decode method_5_code 69 = .ok (.iconst 3, 1) := by decide +kernel
theorem d1_70 : decode method_5_code 70 = .ok (.newarray .char, 2) := by decide +kernel
theorem d1_72 : decode method_5_code 72 = .ok (.dup, 1) := by decide +kernel
theorem d1_73 : decode method_5_code 73 = .ok (.iconst 0, 1) := by decide +kernel
theorem d1_74 : decode method_5_code 74 = .ok (.aload_n 0, 1) := by decide +kernel
theorem d1_75 : decode method_5_code 75 = .ok (.iconst 0, 1) := by decide +kernel
theorem d1_76 : decode method_5_code 76 = .ok (.caload, 1) := by decide +kernel
theorem d1_77 : decode method_5_code 77 = .ok (.castore, 1) := by decide +kernel
theorem d1_78 : decode method_5_code 78 = .ok (.dup, 1) := by decide +kernel
theorem d1_79 : decode method_5_code 79 = .ok (.iconst 1, 1) := by decide +kernel
theorem d1_80 : decode method_5_code 80 = .ok (.aload_n 0, 1) := by decide +kernel
theorem d1_81 : decode method_5_code 81 = .ok (.iconst 1, 1) := by decide +kernel
theorem d1_82 : decode method_5_code 82 = .ok (.caload, 1) := by decide +kernel
theorem d1_83 : decode method_5_code 83 = .ok (.castore, 1) := by decide +kernel
theorem d1_84 : decode method_5_code 84 = .ok (.dup, 1) := by decide +kernel
theorem d1_85 : decode method_5_code 85 = .ok (.iconst 2, 1) := by decide +kernel
theorem d1_86 : decode method_5_code 86 = .ok (.aload_n 0, 1) := by decide +kernel
theorem d1_87 : decode method_5_code 87 = .ok (.iconst 2, 1) := by decide +kernel
theorem d1_88 : decode method_5_code 88 = .ok (.caload, 1) := by decide +kernel
theorem d1_89 : decode method_5_code 89 = .ok (.castore, 1) := by decide +kernel
theorem d1_90 : decode method_5_code 90 = .ok (.invokespecial 22, 3) := by decide +kernel
theorem d1_93 : decode method_5_code 93 = .ok (.areturn, 1) := by decide +kernel
theorem mk_3 {p : Program} {l : Launch} {e : Env} {s : State} {m : MethodId} {args : Array Value} {below : List Frame} {meth : Method} {c : Code} {T0 : State} {locs : List Loc} {Z : State} {a0 : Array Value} {h0 : Heap} {n0 : Nat} (a1 : Addr) (p2 : Int32) (k1 : ClassId) (c0 : Int32) (c1 : Int32) (c2 : Int32) (G1 : Int32) {vm0 : Vm} {k0 : Nat}
    (X0 : Stand p l e (own_r 9 4 16 170) (s.setVm vm0) m args below meth c T0 locs 0 0) (hx : p.tables.exec = Jvm.exec) (hZ : Z.Warmed39 (s.setVm vm0).vm) (hw : ∀ d ∈ tables_1, d.before a0 Z = true) (hby : c.code = method_5_code) (hml : c.maxLocals = 2) (hown : (s.setVm vm0).vm.findClass "com/example/caddis/caddis/StatementSetComparePinLaw" = some m.cls) (hret : meth.sig.returnType = some (.object "java/lang/String")) (hlk : meth.locks = false) (e0 : T0.heap = h0) (Nf0 : Fr n0 locs) (Z0 : n0 ≤ h0.size) (hS0 : s.Since vm0 k0) (hk0 : k0 ≤ h0.size) (H0 : CHr Z consts_1 s.vm s.heap vm0 h0) (A_a1 : Arv Z h0 a1 k1 .char (3 : Int32) [(.int c0), (.int c1), (.int c2)] (.int (0 : Int32))) (rg0 : own_rg c0) (rg1 : own_rg c1) (rg2 : own_rg c2) (O0 : Old Z n0 h0) (O2 : Sta Z Z.heap "java/lang/String" "COMPACT_STRINGS" "Z" (.int G1)) (P5 : ¬ (G1 = (0 : Int32))) (U1 : Sta Z Z.heap "java/lang/StringUTF16" "$assertionsDisabled" "Z" (.int (1 : Int32))) (U2 : Sta Z Z.heap "java/lang/StringUTF16" "HI_BYTE_SHIFT" "I" (.int (0 : Int32))) (U3 : Sta Z Z.heap "java/lang/StringUTF16" "LO_BYTE_SHIFT" "I" (.int (8 : Int32))) (htk : own_take p2 c0 c1 c2 = [c0, c1, c2]) :
    ∃ s₂ o, Steps p.tables e below (T0.setTop (mkF m 65 #[.val (.ref a1), .val (.int p2)] [])) s₂ ∧ s₂.status = .running ∧ Ended s₂ below o ∧ ∃ v L, o = .returned v ∧ Q1 Z a1 p2 k1 c0 c1 c2 G1 h0 n0 v s₂.heap L ∧ CHr Z consts_1 s.vm s.heap s₂.vm s₂.heap ∧ ReturnedEndW s o s₂ L (own_r 9 4 16 170).cells (own_r 9 4 16 170).slots := by
  have kn0 : ∀ t, own_S p e below T0 (mkF m 65 #[.val (.ref a1), .val (.int p2)] []) t → own_S p e below T0 (mkF m 65 #[.val (.ref a1), .val (.int p2)] []) t := fun t k => k
  have CR0 := H0
  obtain ⟨T1, h1, X1, e1, E1, A1, D1, -, st1⟩ := newO X0 hx hZ hown (own_w hw 6 rfl) (own_w hw 7 rfl) (own_w hw 8 rfl) e0 (g := (mkF m 65 #[.val (.ref a1), .val (.int p2)] [])) rfl (hb hby d1_65) (by decide) (by decide)
  obtain ⟨b1, g1⟩ : ∃ z, z = h0.size := ⟨_, rfl⟩
  rw [← g1] at A1 D1 st1
  have sz_b1 : h0.size ≤ b1 := Nat.le_trans (Keep.refl h0 []).1 (Nat.le_of_eq g1.symm)
  have g_b1 : n0 ≤ b1 := Nat.le_trans Z0 (Nat.le_of_eq g1.symm)
  have ne_a1_b1 : a1 ≠ b1 := Nat.ne_of_lt (Nat.lt_of_lt_of_le A_a1.lt (Nat.le_of_eq g1.symm))
  have CS2 := CHr.ext E1 CR0.1
  have CR2 := CR0.trans CS2
  have Z3 := Nat.le_trans Z0 E1.1
  have hk4 := Nat.le_trans hk0 E1.1
  have Od5 := O0.ext E1
  have K6 := (Keep.refl h0 []).ext E1
  have SFn_b1 := Safe.ext E1 CR0.1 (Safe.new (x := b1) (Nat.le_of_eq g1.symm))
  have F1_21 : Fld Z h1 b1 "java/lang/String" "value" "[B" .null := D1 (Or.inr (own_w hw 21 rfl)) (ty := (.array .byte)) (by decide)
  have F1_22 : Fld Z h1 b1 "java/lang/String" "coder" "B" (.int (0 : Int32)) := D1 (Or.inr (own_w hw 22 rfl)) (ty := .byte) (by decide)
  have kn7 : ∀ t, own_S p e below T1 (mkF m 70 #[.val (.ref a1), .val (.int p2)] [(.int 3), (.ref b1), (.ref b1)]) t → own_S p e below T0 (mkF m 65 #[.val (.ref a1), .val (.int p2)] []) t := fun t kt => kn0 t (st1 _ (by
    show own_S p e below T1 (mkF m 68 #[.val (.ref a1), .val (.int p2)] [(.ref b1)]) _
    refine XS.dup X1.here hx rfl (hb hby d1_68) rfl rfl ?_
    refine XS.iconst X1.here hx rfl (hb hby d1_69) ?_
    exact kt))
  obtain ⟨T8, h8, kk8, X8, e8, E8, A8, st8⟩ := newP X1 hx hZ (own_w hw 0 rfl) e1 (g := (mkF m 70 #[.val (.ref a1), .val (.int p2)] [(.int 3), (.ref b1), (.ref b1)])) rfl (hb hby d1_70) rfl (by decide) (cap := 3) (by decide) (by decide) (by decide) (by decide)
  obtain ⟨b8, g8⟩ : ∃ z, z = h1.size := ⟨_, rfl⟩
  rw [← g8] at A8 st8
  have sz_b8 : h0.size ≤ b8 := Nat.le_trans K6.1 (Nat.le_of_eq g8.symm)
  have g_b8 : n0 ≤ b8 := Nat.le_trans Z3 (Nat.le_of_eq g8.symm)
  have f9 := (A_a1.ext E1)
  have ne_a1_b8 : a1 ≠ b8 := Nat.ne_of_lt (Nat.lt_of_lt_of_le f9.lt (Nat.le_of_eq g8.symm))
  have ne_b1_b8 : b1 ≠ b8 := Nat.ne_of_lt (Nat.lt_of_lt_of_le A1.lt (Nat.le_of_eq g8.symm))
  have CS10 := CHr.ext E8 CR2.1
  have CR10 := CR2.trans CS10
  have SF10_b1 := CS10.safe A1.lt SFn_b1
  have SL10_b1 := Nat.lt_of_lt_of_le A1.lt CS10.2.1
  have Z11 := Nat.le_trans Z3 E8.1
  have hk12 := Nat.le_trans hk4 E8.1
  have Od13 := Od5.ext E8
  have K14 := K6.ext E8
  have V8 : Arv Z h8 b8 kk8 .char (3 : Int32) [(.int (0 : Int32)), (.int (0 : Int32)), (.int (0 : Int32))] (.int (0 : Int32)) := (Arv.new A8 (by decide)).pad (pad_rep [] (.int (0 : Int32)) 3)
  have kn15 : ∀ t, own_S p e below T8 (mkF m 76 #[.val (.ref a1), .val (.int p2)] [(.int 0), (.ref a1), (.int 0), (.ref b8), (.ref b8), (.ref b1), (.ref b1)]) t → own_S p e below T0 (mkF m 65 #[.val (.ref a1), .val (.int p2)] []) t := fun t kt => kn7 t (st8 _ (by
    show own_S p e below T8 (mkF m 72 #[.val (.ref a1), .val (.int p2)] [(.ref b8), (.ref b1), (.ref b1)]) _
    refine XS.dup X8.here hx rfl (hb hby d1_72) rfl rfl ?_
    refine XS.iconst X8.here hx rfl (hb hby d1_73) ?_
    refine XS.aloadN X8.here hx rfl (hb hby d1_74) rfl rfl ?_
    refine XS.iconst X8.here hx rfl (hb hby d1_75) ?_
    exact kt))
  have f16 := (f9.ext E8)
  obtain ⟨cl17, Ar17, q17, Sz17, Ng17, Hs17, Gs17⟩ := id f16
  have hin17 : ¬ ((0 : Int32) < 0 ∨ cl17.slots.size ≤ ((0 : Int32)).toNatClampNeg) := inb_of Sz17 ⟨by decide, by decide⟩
  have hat17 : cl17.slots[((0 : Int32)).toNatClampNeg]? = some (.int c0) := Hs17.at hin17 rfl
  have kn18 : ∀ t, own_S p e below T8 (mkF m 77 #[.val (.ref a1), .val (.int p2)] [(.int c0), (.int 0), (.ref b8), (.ref b8), (.ref b1), (.ref b1)]) t → own_S p e below T0 (mkF m 65 #[.val (.ref a1), .val (.int p2)] []) t := fun t kt => kn15 t (by
    show own_S p e below T8 (mkF m 76 #[.val (.ref a1), .val (.int p2)] [(.int 0), (.ref a1), (.int 0), (.ref b8), (.ref b8), (.ref b1), (.ref b1)]) _
    refine X8.caload hx (j := (0 : Int32)) (v := (.int c0)) (by rw [e8]; exact Ar17.1) (State.isArrayOf_alike hZ.alike Ar17.2.1) Ar17.2.2 hin17 hat17 (g := (mkF m 76 #[.val (.ref a1), .val (.int p2)] [(.int 0), (.ref a1), (.int 0), (.ref b8), (.ref b8), (.ref b1), (.ref b1)])) rfl rfl (hb hby d1_76) _ ?_
    exact kt)
  obtain ⟨cl19, Ar19, q19, Sz19, Ng19, Hs19, Gs19⟩ := id V8
  have hin19 : ¬ ((0 : Int32) < 0 ∨ cl19.slots.size ≤ ((0 : Int32)).toNatClampNeg) := inb_of Sz19 ⟨by decide, by decide⟩
  obtain ⟨T19, h19, X19, e19, W19, st19⟩ := stC X8 hx hZ e8 Ar19 (j := (0 : Int32)) hin19 (g := (mkF m 77 #[.val (.ref a1), .val (.int p2)] [(.int c0), (.int 0), (.ref b8), (.ref b8), (.ref b1), (.ref b1)])) rfl rfl (hb hby d1_77)
  have CS20 := CHr.wr W19 (Safe.arr hZ.alike Ar19 nofun) CR10.1
  have CR20 := CR10.trans CS20
  have SF20_b1 := CS20.safe SL10_b1 SF10_b1
  have SL20_b1 := Nat.lt_of_lt_of_le SL10_b1 CS20.2.1
  have Z21 := Nat.le_trans Z11 (Keep.of_wr W19).1
  have hk22 := Nat.le_trans hk12 (Keep.of_wr W19).1
  have Od23 := Od13.wr W19 g_b8
  have K24 := K14.wr W19 (Or.inr sz_b8)
  have V19 : Arv Z h19 b8 kk8 .char (3 : Int32) [(.int (c0.toUInt32.toUInt16.toUInt32.toInt32)), (.int (0 : Int32)), (.int (0 : Int32))] (.int (0 : Int32)) := Arv.set Ar19 q19 Sz19 Ng19 Hs19 Gs19 (fits_nar_char _) W19 0 rfl (Nat.le_of_ble_eq_true rfl)
  rw [(show (c0.toUInt32.toUInt16.toUInt32.toInt32) = c0 from own_ck rg0)] at V19
  have Nf25 := Fr.snoc X19 Nf0 g_b8
  have kn26 : ∀ t, own_S p e below T19 (mkF m 82 #[.val (.ref a1), .val (.int p2)] [(.int 1), (.ref a1), (.int 1), (.ref b8), (.ref b8), (.ref b1), (.ref b1)]) t → own_S p e below T0 (mkF m 65 #[.val (.ref a1), .val (.int p2)] []) t := fun t kt => kn18 t (st19 _ (by
    show own_S p e below T19 (mkF m 78 #[.val (.ref a1), .val (.int p2)] [(.ref b8), (.ref b1), (.ref b1)]) _
    refine XS.dup X19.here hx rfl (hb hby d1_78) rfl rfl ?_
    refine XS.iconst X19.here hx rfl (hb hby d1_79) ?_
    refine XS.aloadN X19.here hx rfl (hb hby d1_80) rfl rfl ?_
    refine XS.iconst X19.here hx rfl (hb hby d1_81) ?_
    exact kt))
  have f27 := (f16.other W19 ne_a1_b8)
  obtain ⟨cl28, Ar28, q28, Sz28, Ng28, Hs28, Gs28⟩ := id f27
  have hin28 : ¬ ((1 : Int32) < 0 ∨ cl28.slots.size ≤ ((1 : Int32)).toNatClampNeg) := inb_of Sz28 ⟨by decide, by decide⟩
  have hat28 : cl28.slots[((1 : Int32)).toNatClampNeg]? = some (.int c1) := Hs28.at hin28 rfl
  have kn29 : ∀ t, own_S p e below T19 (mkF m 83 #[.val (.ref a1), .val (.int p2)] [(.int c1), (.int 1), (.ref b8), (.ref b8), (.ref b1), (.ref b1)]) t → own_S p e below T0 (mkF m 65 #[.val (.ref a1), .val (.int p2)] []) t := fun t kt => kn26 t (by
    show own_S p e below T19 (mkF m 82 #[.val (.ref a1), .val (.int p2)] [(.int 1), (.ref a1), (.int 1), (.ref b8), (.ref b8), (.ref b1), (.ref b1)]) _
    refine X19.caload hx (j := (1 : Int32)) (v := (.int c1)) (by rw [e19]; exact Ar28.1) (State.isArrayOf_alike hZ.alike Ar28.2.1) Ar28.2.2 hin28 hat28 (g := (mkF m 82 #[.val (.ref a1), .val (.int p2)] [(.int 1), (.ref a1), (.int 1), (.ref b8), (.ref b8), (.ref b1), (.ref b1)])) rfl rfl (hb hby d1_82) _ ?_
    exact kt)
  obtain ⟨cl30, Ar30, q30, Sz30, Ng30, Hs30, Gs30⟩ := id V19
  have hin30 : ¬ ((1 : Int32) < 0 ∨ cl30.slots.size ≤ ((1 : Int32)).toNatClampNeg) := inb_of Sz30 ⟨by decide, by decide⟩
  obtain ⟨T30, h30, X30, e30, W30, st30⟩ := stC X19 hx hZ e19 Ar30 (j := (1 : Int32)) hin30 (g := (mkF m 83 #[.val (.ref a1), .val (.int p2)] [(.int c1), (.int 1), (.ref b8), (.ref b8), (.ref b1), (.ref b1)])) rfl rfl (hb hby d1_83)
  have CS31 := CHr.wr W30 (Safe.arr hZ.alike Ar30 nofun) CR20.1
  have CR31 := CR20.trans CS31
  have SF31_b1 := CS31.safe SL20_b1 SF20_b1
  have SL31_b1 := Nat.lt_of_lt_of_le SL20_b1 CS31.2.1
  have Z32 := Nat.le_trans Z21 (Keep.of_wr W30).1
  have hk33 := Nat.le_trans hk22 (Keep.of_wr W30).1
  have Od34 := Od23.wr W30 g_b8
  have K35 := K24.wr W30 (Or.inr sz_b8)
  have V30 : Arv Z h30 b8 kk8 .char (3 : Int32) [(.int c0), (.int (c1.toUInt32.toUInt16.toUInt32.toInt32)), (.int (0 : Int32))] (.int (0 : Int32)) := Arv.set Ar30 q30 Sz30 Ng30 Hs30 Gs30 (fits_nar_char _) W30 1 rfl (Nat.le_of_ble_eq_true rfl)
  rw [(show (c1.toUInt32.toUInt16.toUInt32.toInt32) = c1 from own_ck rg1)] at V30
  have Nf36 := Fr.snoc X30 Nf25 g_b8
  have kn37 : ∀ t, own_S p e below T30 (mkF m 88 #[.val (.ref a1), .val (.int p2)] [(.int 2), (.ref a1), (.int 2), (.ref b8), (.ref b8), (.ref b1), (.ref b1)]) t → own_S p e below T0 (mkF m 65 #[.val (.ref a1), .val (.int p2)] []) t := fun t kt => kn29 t (st30 _ (by
    show own_S p e below T30 (mkF m 84 #[.val (.ref a1), .val (.int p2)] [(.ref b8), (.ref b1), (.ref b1)]) _
    refine XS.dup X30.here hx rfl (hb hby d1_84) rfl rfl ?_
    refine XS.iconst X30.here hx rfl (hb hby d1_85) ?_
    refine XS.aloadN X30.here hx rfl (hb hby d1_86) rfl rfl ?_
    refine XS.iconst X30.here hx rfl (hb hby d1_87) ?_
    exact kt))
  have f38 := (f27.other W30 ne_a1_b8)
  obtain ⟨cl39, Ar39, q39, Sz39, Ng39, Hs39, Gs39⟩ := id f38
  have hin39 : ¬ ((2 : Int32) < 0 ∨ cl39.slots.size ≤ ((2 : Int32)).toNatClampNeg) := inb_of Sz39 ⟨by decide, by decide⟩
  have hat39 : cl39.slots[((2 : Int32)).toNatClampNeg]? = some (.int c2) := Hs39.at hin39 rfl
  have kn40 : ∀ t, own_S p e below T30 (mkF m 89 #[.val (.ref a1), .val (.int p2)] [(.int c2), (.int 2), (.ref b8), (.ref b8), (.ref b1), (.ref b1)]) t → own_S p e below T0 (mkF m 65 #[.val (.ref a1), .val (.int p2)] []) t := fun t kt => kn37 t (by
    show own_S p e below T30 (mkF m 88 #[.val (.ref a1), .val (.int p2)] [(.int 2), (.ref a1), (.int 2), (.ref b8), (.ref b8), (.ref b1), (.ref b1)]) _
    refine X30.caload hx (j := (2 : Int32)) (v := (.int c2)) (by rw [e30]; exact Ar39.1) (State.isArrayOf_alike hZ.alike Ar39.2.1) Ar39.2.2 hin39 hat39 (g := (mkF m 88 #[.val (.ref a1), .val (.int p2)] [(.int 2), (.ref a1), (.int 2), (.ref b8), (.ref b8), (.ref b1), (.ref b1)])) rfl rfl (hb hby d1_88) _ ?_
    exact kt)
  obtain ⟨cl41, Ar41, q41, Sz41, Ng41, Hs41, Gs41⟩ := id V30
  have hin41 : ¬ ((2 : Int32) < 0 ∨ cl41.slots.size ≤ ((2 : Int32)).toNatClampNeg) := inb_of Sz41 ⟨by decide, by decide⟩
  obtain ⟨T41, h41, X41, e41, W41, st41⟩ := stC X30 hx hZ e30 Ar41 (j := (2 : Int32)) hin41 (g := (mkF m 89 #[.val (.ref a1), .val (.int p2)] [(.int c2), (.int 2), (.ref b8), (.ref b8), (.ref b1), (.ref b1)])) rfl rfl (hb hby d1_89)
  have CS42 := CHr.wr W41 (Safe.arr hZ.alike Ar41 nofun) CR31.1
  have CR42 := CR31.trans CS42
  have SF42_b1 := CS42.safe SL31_b1 SF31_b1
  have SL42_b1 := Nat.lt_of_lt_of_le SL31_b1 CS42.2.1
  have Z43 := Nat.le_trans Z32 (Keep.of_wr W41).1
  have hk44 := Nat.le_trans hk33 (Keep.of_wr W41).1
  have Od45 := Od34.wr W41 g_b8
  have K46 := K35.wr W41 (Or.inr sz_b8)
  have V41 : Arv Z h41 b8 kk8 .char (3 : Int32) [(.int c0), (.int c1), (.int (c2.toUInt32.toUInt16.toUInt32.toInt32))] (.int (0 : Int32)) := Arv.set Ar41 q41 Sz41 Ng41 Hs41 Gs41 (fits_nar_char _) W41 2 rfl (Nat.le_of_ble_eq_true rfl)
  rw [(show (c2.toUInt32.toUInt16.toUInt32.toInt32) = c2 from own_ck rg2)] at V41
  have Nf47 := Fr.snoc X41 Nf36 g_b8
  by_cases hlat : ∀ c ∈ ([c0, c1, c2] : List Int32), ¬ (255 : Int32) < c
  · have hws : ∀ d ∈ StrChars.Road.words, d.before a0 Z = true := fun d hd => hw d ((by decide +kernel : ∀ d ∈ StrChars.Road.words, d ∈ tables_1) d hd)
    have hp49 : ∀ c ∈ ([c0, c1, c2] : List Int32), ¬ c < 0 ∧ ¬ (255 : Int32) < c := fun c hc => ⟨(((own_fa (P := own_rg) rg0 (own_fa (P := own_rg) rg1 (own_fa (P := own_rg) rg2 own_f0))) : ∀ c ∈ ([c0, c1, c2] : List Int32), own_rg c) c hc).1, hlat c hc⟩
    have f50 := ((((A1.ext E8).wr W19).wr W30).wr W41)
    have f51 := ((((F1_21.ext E8).other W19 (Or.inl ne_b1_b8)).other W30 (Or.inl ne_b1_b8)).other W41 (Or.inl ne_b1_b8))
    have f52 := ((((F1_22.ext E8).other W19 (Or.inl ne_b1_b8)).other W30 (Or.inl ne_b1_b8)).other W41 (Or.inl ne_b1_b8))
    obtain ⟨_, _, ⟨T48, L48, cc48, ss48⟩, -, X48, ⟨Lc48, hQ48, l48, y48, z48⟩, st48⟩ := X41.specialBack hx (y := mN24) rfl hown (mvT hZ (own_w hw 9 rfl)) (mvT hZ (own_w hw 10 rfl)) (mvT hZ (own_w hw 11 rfl)) (by decide) (StrChars.Road.backV (W := 1) hZ hws (kI := 4) (own_w hw 7 rfl) (cs := ([c0, c1, c2] : List Int32)) (bs := ([c0, c1, c2] : List Int32).map (fun c => c.toInt8.toInt32)) (n := 3) g_b1 Z43 f50 f51 f52 V41 (O2.ext Od45.2) P5 rfl rfl (by decide) (by decide) hp49 rfl (by decide) (by decide)) (g := (mkF m 90 #[.val (.ref a1), .val (.int p2)] [(.ref b8), (.ref b1), (.ref b1)])) rfl (by rw [hml]; rfl) (Steps.refl _) (a := b1) (argsL := [(.ref b8)]) (rest := [(.ref b1)]) (lenOf pd_17 rfl) rfl (by show 2 * 0 + _ ≤ _; exact Nat.le_of_eq rfl) (hb hby d1_90) (fun _ _ => ⟨rfl, e41, (by decide : 2 + 1 ≤ _), (by decide : 7 + 3 ≤ _)⟩)
    dsimp only [Pt.U, Pt.locs, Pt.cells, Pt.slots] at X48 l48 y48 z48 st48 hQ48
    subst l48 y48 z48
    have X48 : Stand p l e _ _ m _ below meth c T48 _ 3 10 := X48
    obtain ⟨rfl, Nq48, K48, Ex48, Co48, t48, kb48, ga48, sa48, nx48, Va48, Ar48⟩ := hQ48
    have Nf48 := Fr.app Nf47 Nq48
    have CS53 := CHr.keep K48 (allS SF42_b1 all0) CR42.1
    have CR53 := CR42.trans CS53
    have SF53_b1 := CS53.safe SL42_b1 SF42_b1
    have SL53_b1 := Nat.lt_of_lt_of_le SL42_b1 CS53.2.1
    have Z54 := Nat.le_trans Z43 K48.1
    have hk55 := Nat.le_trans hk44 K48.1
    have Od56 := Od45.keep K48 (allS g_b1 all0)
    have K57 := K46.trans K48 (allS (Or.inr sz_b1) all0)
    obtain ⟨fs, hr, hrun, hended, hRW⟩ := X48.leaveW hS0 hk55 (v := some (.ref b1)) (fun h => by rw [hret] at h; cases h)
    have chE : CHr Z consts_1 s.vm s.heap T48.vm T48.heap := by exact CR53.trans (CHv.at X48 hZ (own_EW hw) CR53.1)
    refine ⟨_, _, id (kn40 _ (st41 _ (st48.trans (by
        show own_S p e below T48 (mkF m 93 #[.val (.ref a1), .val (.int p2)] [(.ref b1)]) _
        jvm_step X48.here [X48.here.top, hx, (hb hby d1_93), X48.method', hret, Value.isRef, FieldType.isReference]
        first | (intro acts; rw [hr _ acts rfl rfl rfl]) | rw [hr _ _ rfl rfl rfl]
        exact Steps.refl _)))), hrun, hended, _, _, rfl, ?_, chE, ⟨hRW.1, hRW.2.1, hRW.2.2.1, hRW.2.2.2.mono (by decide) (by decide)⟩⟩
    show Q1 Z a1 p2 k1 c0 c1 c2 G1 h0 n0 _ T48.heap _
    exact ⟨b1, t48, kb48, (0 : Int32), (3 : Int32), ((([c0, c1, c2] : List Int32).map (fun c => c.toInt8.toInt32)).map Value.int), rfl, Nf48, g_b1, K57, Ex48, Va48, Co48, Ar48, by rw [htk]; exact StrChars.Road.codOf (cs := ([c0, c1, c2] : List Int32)) (n := 3) rfl (fun x hx => (hp49 x hx).2)⟩
  · have f59 := ((((F1_21.ext E8).other W19 (Or.inl ne_b1_b8)).other W30 (Or.inl ne_b1_b8)).other W41 (Or.inl ne_b1_b8))
    have f60 := ((((F1_22.ext E8).other W19 (Or.inl ne_b1_b8)).other W30 (Or.inl ne_b1_b8)).other W41 (Or.inl ne_b1_b8))
    have f61 := ((((A1.ext E8).wr W19).wr W30).wr W41)
    obtain ⟨_, _, ⟨T58, L58, cc58, ss58⟩, -, X58, ⟨Lc58, hQ58, l58, y58, z58⟩, st58⟩ := X41.specialBack hx (y := mN24) rfl hown (mvT hZ (own_w hw 9 rfl)) (mvT hZ (own_w hw 10 rfl)) (mvT hZ (own_w hw 11 rfl)) (by decide) (backOf (W := 1) (rm2_3 l Z a0 hw [] b1 b8 kk8 c0 c1 c2 G1 h41 n0 Z43 f59 f60 f61 g_b1 V41 (Ne.symm ne_b1_b8) rg0 rg1 rg2 (own_w3 hlat) Od45 O2 P5 U1 U2 U3) hZ (own_w hw 11 rfl) (own_w hw 8 rfl) (by decide) (by decide)) (g := (mkF m 90 #[.val (.ref a1), .val (.int p2)] [(.ref b8), (.ref b1), (.ref b1)])) rfl (by rw [hml]; rfl) (Steps.refl _) (a := b1) (argsL := [(.ref b8)]) (rest := [(.ref b1)]) (lenOf pd_17 rfl) rfl (by show 2 * 0 + _ ≤ _; exact Nat.le_of_eq rfl) (hb hby d1_90) (fun _ _ => ⟨rfl, e41, (by decide : 2 + 2 ≤ _), (by decide : 7 + 9 ≤ _)⟩)
    dsimp only [Pt.U, Pt.locs, Pt.cells, Pt.slots] at X58 l58 y58 z58 st58 hQ58
    subst l58 y58 z58
    have X58 : Stand p l e _ _ m _ below meth c T58 _ 4 16 := X58
    obtain ⟨rfl, Nq58, t58, kb58, K58, Ex58, Co58, Va58, Ar58⟩ := hQ58
    have Nf58 := Fr.app Nf47 Nq58
    have CS62 := CHr.keep K58 (allS SF42_b1 all0) CR42.1
    have CR62 := CR42.trans CS62
    have SF62_b1 := CS62.safe SL42_b1 SF42_b1
    have SL62_b1 := Nat.lt_of_lt_of_le SL42_b1 CS62.2.1
    have Z63 := Nat.le_trans Z43 K58.1
    have hk64 := Nat.le_trans hk44 K58.1
    have Od65 := Od45.keep K58 (allS g_b1 all0)
    have K66 := K46.trans K58 (allS (Or.inr sz_b1) all0)
    obtain ⟨fs, hr, hrun, hended, hRW⟩ := X58.leaveW hS0 hk64 (v := some (.ref b1)) (fun h => by rw [hret] at h; cases h)
    have chE : CHr Z consts_1 s.vm s.heap T58.vm T58.heap := by exact CR62.trans (CHv.at X58 hZ (own_EW hw) CR62.1)
    refine ⟨_, _, id (kn40 _ (st41 _ (st58.trans (by
        show own_S p e below T58 (mkF m 93 #[.val (.ref a1), .val (.int p2)] [(.ref b1)]) _
        jvm_step X58.here [X58.here.top, hx, (hb hby d1_93), X58.method', hret, Value.isRef, FieldType.isReference]
        first | (intro acts; rw [hr _ acts rfl rfl rfl]) | rw [hr _ _ rfl rfl rfl]
        exact Steps.refl _)))), hrun, hended, _, _, rfl, ?_, chE, ⟨hRW.1, hRW.2.1, hRW.2.2.1, hRW.2.2.2.mono (by decide) (by decide)⟩⟩
    show Q1 Z a1 p2 k1 c0 c1 c2 G1 h0 n0 _ T58.heap _
    exact ⟨b1, t58, kb58, (1 : Int32), (6 : Int32), [(.int (StrChars.lo8 c0)), (.int (StrChars.hi8 c0)), (.int (StrChars.lo8 c1)), (.int (StrChars.hi8 c1)), (.int (StrChars.lo8 c2)), (.int (StrChars.hi8 c2))], rfl, Nf58, g_b1, K66, Ex58, Va58, Co58, Ar58, by rw [htk]; exact Or.inr ⟨rfl, rfl, rfl, own_e3 (own_w3 hlat)⟩⟩

abbrev mN25 : MethodName := ⟨"com/example/caddis/caddis/StatementSetComparePinLaw", "make", "([CI)Ljava/lang/String;"⟩
theorem d1_0 : decode method_5_code 0 = .ok (.iload_n 1, 1) := by decide +kernel
theorem d1_1 : decode method_5_code 1 = .ok (.ifCond .ne 14, 3) := by decide +kernel
theorem d1_15 : decode method_5_code 15 = .ok (.iload_n 1, 1) := by decide +kernel
theorem d1_16 : decode method_5_code 16 = .ok (.iconst 1, 1) := by decide +kernel
theorem d1_17 : decode method_5_code 17 = .ok (.if_icmp .ne 20, 3) := by decide +kernel
theorem d1_37 : decode method_5_code 37 = .ok (.iload_n 1, 1) := by decide +kernel
theorem d1_38 : decode method_5_code 38 = .ok (.iconst 2, 1) := by decide +kernel
theorem d1_39 : decode method_5_code 39 = .ok (.if_icmp .ne 26, 3) := by decide +kernel
theorem ef_rm1 (m : MethodId) (x0 : Addr) (x1 : Int32) : entryFrame m #[(.ref x0), (.int x1)] 2 = mkF m 0 #[.val (.ref x0), .val (.int x1)] [] := by first | (simp [entryFrame, mkF, argsToLocals, Value.category]; done) | rfl
 
theorem rm1 (l : Launch) (Z : State) (a0 : Array Value) (hw : ∀ d ∈ tables_1, d.before a0 Z = true) (ws : List Jvm.Cond) (a1 : Addr) (p2 : Int32) (k1 : ClassId) (c0 : Int32) (c1 : Int32) (c2 : Int32) (G1 : Int32) (h0 : Heap) (n0 : Nat) (Z0 : n0 ≤ h0.size) (A_a1 : Arv Z h0 a1 k1 .char (3 : Int32) [(.int c0), (.int c1), (.int c2)] (.int (0 : Int32))) (rg0 : own_rg c0) (rg1 : own_rg c1) (rg2 : own_rg c2) (O0 : Old Z n0 h0) (O2 : Sta Z Z.heap "java/lang/String" "COMPACT_STRINGS" "Z" (.int G1)) (P5 : ¬ (G1 = (0 : Int32))) (U1 : Sta Z Z.heap "java/lang/StringUTF16" "$assertionsDisabled" "Z" (.int (1 : Int32))) (U2 : Sta Z Z.heap "java/lang/StringUTF16" "HI_BYTE_SHIFT" "I" (.int (0 : Int32))) (U3 : Sta Z Z.heap "java/lang/StringUTF16" "LO_BYTE_SHIFT" "I" (.int (8 : Int32))) :
    MetFree l mN25 (head1 (Jvm.Cond.code mN25 method_5_code 2 (some (.object "java/lang/String")) :: ws) (own_r 9 4 16 170)) (fun a U => a = #[(.ref a1), (.int p2)] ∧ Z.Warmed39 U.vm ∧ U.heap = h0 ∧ CHv Z consts_1 U.vm h0) (fun _ _ _ _ _ => True) (fun _ U o U' => ∃ v L, o = .returned v ∧ Q1 Z a1 p2 k1 c0 c1 c2 G1 h0 n0 v U'.heap L ∧ CHr Z consts_1 U.vm U.heap U'.vm U'.heap ∧ ReturnedEndW U o U' L (own_r 9 4 16 170).cells (own_r 9 4 16 170).slots) := by
  refine MetFree.of_bodySF (plainFor_of_name pn_0) hisR ?_
  intro p e s m args below meth c s₁ Bd hml0 hP hK
  obtain ⟨rfl, hZ, hh, hCH⟩ := hP
  have hx := Bd.exec
  have hby := Bd.bytes
  have hml : c.maxLocals = 2 := hml0
  have hown : s.vm.findClass "com/example/caddis/caddis/StatementSetComparePinLaw" = some m.cls := findClass_of_methodNamed Bd.named
  have hnm := (name_of_methodNamed Bd.named Bd.method).1
  have X0 : Stand p l e (own_r 9 4 16 170) s m #[(.ref a1), (.int p2)] below meth c s₁ [] 0 0 := Stand.of_body Bd
  have e0 : s₁.heap = h0 := by rw [← hh, Bd.state]; rfl
  have Nf0 := Fr.nil n0
  obtain ⟨Gl, hGl, kn0⟩ := own_gl (p := p) (e := e) (below := below) (s₁ := s₁) (ef_rm1 m a1 p2)
  have X0 : Stand p l e (own_r 9 4 16 170) (s.setVm s.vm) m #[(.ref a1), (.int p2)] below meth c s₁ [] 0 0 := X0
  have hZ : Z.Warmed39 (s.setVm s.vm).vm := hZ
  have hown : (s.setVm s.vm).vm.findClass "com/example/caddis/caddis/StatementSetComparePinLaw" = some m.cls := hown
  have hSt0 : s.Since s.vm 0 := (State.WarmedH.refl s).since 0
  have CR0 := CHr.refl hCH
  have kn1 : ∀ t, own_S p e below s₁ (mkF m 1 #[.val (.ref a1), .val (.int p2)] [(.int p2)]) t → Gl t := fun t kt => kn0 t (by
    show own_S p e below s₁ (mkF m 0 #[.val (.ref a1), .val (.int p2)] []) _
    refine XS.iloadN X0.here hx rfl (hb hby d1_0) rfl ?_
    exact kt)
  by_cases hc1 : p2 = (0 : Int32)
  · have kn2 : ∀ t, own_S p e below s₁ (mkF m 4 #[.val (.ref a1), .val (.int p2)] []) t → Gl t := fun t kt => kn1 t (by
      show own_S p e below s₁ (mkF m 1 #[.val (.ref a1), .val (.int p2)] [(.int p2)]) _
      refine XS.ifNo X0.here hx rfl (hb hby d1_1) rfl ((if0 _ _).trans (teq hc1).2) ?_
      exact kt)
    obtain ⟨s2, o2, t1, t2, t3, t4⟩ := mk_0 (n0 := n0) a1 p2 k1 c0 c1 c2 G1  X0 hx hZ hw hby hml hown Bd.returns (BodyLoose.notSynchronized Bd) e0 Nf0 Z0 hSt0 (Nat.zero_le _) (by rw [hh]; exact CR0) A_a1 rg0 rg1 rg2 O0 O2 P5 U1 U2 U3 (by rw [own_take, if_pos hc1])
    exact ⟨s2, o2, hGl _ (kn2 _ (t1)), t2, t3, t4⟩
  · have kn3 : ∀ t, own_S p e below s₁ (mkF m 17 #[.val (.ref a1), .val (.int p2)] [(.int 1), (.int p2)]) t → Gl t := fun t kt => kn1 t (by
      show own_S p e below s₁ (mkF m 1 #[.val (.ref a1), .val (.int p2)] [(.int p2)]) _
      refine XS.ifYes X0.here hx rfl (pc0 := 1) (pc' := 15) rfl (hb hby d1_1) rfl ((if0 _ _).trans (feq hc1).2) (by decide) (by decide) ?_
      refine XS.iloadN X0.here hx rfl (hb hby d1_15) rfl ?_
      refine XS.iconst X0.here hx rfl (hb hby d1_16) ?_
      exact kt)
    by_cases hc17 : p2 = (1 : Int32)
    · have kn4 : ∀ t, own_S p e below s₁ (mkF m 20 #[.val (.ref a1), .val (.int p2)] []) t → Gl t := fun t kt => kn3 t (by
        show own_S p e below s₁ (mkF m 17 #[.val (.ref a1), .val (.int p2)] [(.int 1), (.int p2)]) _
        refine XS.icmpNo X0.here hx rfl (hb hby d1_17) rfl (teq hc17).2 ?_
        exact kt)
      obtain ⟨s2, o2, t1, t2, t3, t4⟩ := mk_1 (n0 := n0) a1 p2 k1 c0 c1 c2 G1  X0 hx hZ hw hby hml hown Bd.returns (BodyLoose.notSynchronized Bd) e0 Nf0 Z0 hSt0 (Nat.zero_le _) (by rw [hh]; exact CR0) A_a1 rg0 rg1 rg2 O0 O2 P5 U1 U2 U3 (by rw [own_take, if_neg hc1, if_pos hc17])
      exact ⟨s2, o2, hGl _ (kn4 _ (t1)), t2, t3, t4⟩
    · have kn5 : ∀ t, own_S p e below s₁ (mkF m 39 #[.val (.ref a1), .val (.int p2)] [(.int 2), (.int p2)]) t → Gl t := fun t kt => kn3 t (by
        show own_S p e below s₁ (mkF m 17 #[.val (.ref a1), .val (.int p2)] [(.int 1), (.int p2)]) _
        refine XS.icmpYes X0.here hx rfl (pc0 := 17) (pc' := 37) rfl (hb hby d1_17) rfl (feq hc17).2 (by decide) (by decide) ?_
        refine XS.iloadN X0.here hx rfl (hb hby d1_37) rfl ?_
        refine XS.iconst X0.here hx rfl (hb hby d1_38) ?_
        exact kt)
      by_cases hc39 : p2 = (2 : Int32)
      · have kn6 : ∀ t, own_S p e below s₁ (mkF m 42 #[.val (.ref a1), .val (.int p2)] []) t → Gl t := fun t kt => kn5 t (by
          show own_S p e below s₁ (mkF m 39 #[.val (.ref a1), .val (.int p2)] [(.int 2), (.int p2)]) _
          refine XS.icmpNo X0.here hx rfl (hb hby d1_39) rfl (teq hc39).2 ?_
          exact kt)
        obtain ⟨s2, o2, t1, t2, t3, t4⟩ := mk_2 (n0 := n0) a1 p2 k1 c0 c1 c2 G1  X0 hx hZ hw hby hml hown Bd.returns (BodyLoose.notSynchronized Bd) e0 Nf0 Z0 hSt0 (Nat.zero_le _) (by rw [hh]; exact CR0) A_a1 rg0 rg1 rg2 O0 O2 P5 U1 U2 U3 (by rw [own_take, if_neg hc1, if_neg hc17, if_pos hc39])
        exact ⟨s2, o2, hGl _ (kn6 _ (t1)), t2, t3, t4⟩
      · have kn7 : ∀ t, own_S p e below s₁ (mkF m 65 #[.val (.ref a1), .val (.int p2)] []) t → Gl t := fun t kt => kn5 t (by
          show own_S p e below s₁ (mkF m 39 #[.val (.ref a1), .val (.int p2)] [(.int 2), (.int p2)]) _
          refine XS.icmpYes X0.here hx rfl (pc0 := 39) (pc' := 65) rfl (hb hby d1_39) rfl (feq hc39).2 (by decide) (by decide) ?_
          exact kt)
        obtain ⟨s2, o2, t1, t2, t3, t4⟩ := mk_3 (n0 := n0) a1 p2 k1 c0 c1 c2 G1  X0 hx hZ hw hby hml hown Bd.returns (BodyLoose.notSynchronized Bd) e0 Nf0 Z0 hSt0 (Nat.zero_le _) (by rw [hh]; exact CR0) A_a1 rg0 rg1 rg2 O0 O2 P5 U1 U2 U3 (by rw [own_take, if_neg hc1, if_neg hc17, if_neg hc39])
        exact ⟨s2, o2, hGl _ (kn7 _ (t1)), t2, t3, t4⟩

def Q0 (Z : State) (p1 : Int32) (p2 : Int32) (p3 : Int32) (p4 : Int32) (p5 : Int32) (G1 : Int32) (G3 : Value) (h0 : Heap) (n0 : Nat) (v : Option Value) (h : Heap) (L : List Loc) : Prop := v = some (.int (1 : Int32)) ∧ Fr n0 L
theorem pd_18 : parseMethodDescriptor "([C[CIIII)I" = some ⟨[(.array .char), (.array .char), .int, .int, .int, .int], some .int⟩ := by decide +kernel
theorem pd_19 : parseMethodDescriptor "(Ljava/lang/String;Ljava/lang/String;)I" = some ⟨[(.object "java/lang/String"), (.object "java/lang/String")], some .int⟩ := by decide +kernel
theorem tl3 {p : Program} {l : Launch} {e : Env} {s : State} {m : MethodId} {args : Array Value} {below : List Frame} {meth : Method} {c : Code} {T0 : State} {locs : List Loc} {Z : State} {a0 : Array Value} {h0 : Heap} {n0 : Nat} (p1 : Int32) (p2 : Int32) (p3 : Int32) (p4 : Int32) (p5 : Int32) (G1 : Int32) (G3 : Value) (la : Int32) (lb : Int32) (s7 : Slot) (bA : Addr) (kA : ClassId) (bB : Addr) (kB : ClassId) (xa0 : Int32) (xa1 : Int32) (xa2 : Int32) (xb0 : Int32) (xb1 : Int32) (xb2 : Int32) (xA : Addr) (t_xA : Addr) (k_xA : ClassId) (d_xA : Int32) (n_xA : Int32) (v_xA : List Value) (xB : Addr) (t_xB : Addr) (k_xB : ClassId) (d_xB : Int32) (n_xB : Int32) (v_xB : List Value) {vm0 : Vm} {k0 : Nat}
    (X0 : Stand p l e room_1 (s.setVm vm0) m args below meth c T0 locs 10 38) (hx : p.tables.exec = Jvm.exec) (hZ : Z.Warmed39 (s.setVm vm0).vm) (hw : ∀ d ∈ tables_1, d.before a0 Z = true) (hby : c.code = code) (hml : c.maxLocals = 13) (hown : (s.setVm vm0).vm.findClass "com/example/caddis/caddis/StatementSetComparePinLaw" = some m.cls) (hret : meth.sig.returnType = some .boolean) (hlk : meth.locks = false) (e0 : T0.heap = h0) (Nf0 : Fr n0 locs) (Z0 : n0 ≤ h0.size) (hS0 : s.Since vm0 k0) (hk0 : k0 ≤ h0.size) (H0 : CHv Z consts_1 vm0 h0) (A_A : Arv Z h0 bA kA .char (3 : Int32) [(.int xa0), (.int xa1), (.int xa2)] (.int (0 : Int32))) (A_B : Arv Z h0 bB kB .char (3 : Int32) [(.int xb0), (.int xb1), (.int xb2)] (.int (0 : Int32))) (hla : la = (0 : Int32) ∨ la = (1 : Int32) ∨ la = (2 : Int32) ∨ la = (3 : Int32)) (hlb : lb = (0 : Int32) ∨ lb = (1 : Int32) ∨ lb = (2 : Int32) ∨ lb = (3 : Int32)) (rxa0 : own_rg xa0) (rxa1 : own_rg xa1) (rxa2 : own_rg xa2) (rxb0 : own_rg xb0) (rxb1 : own_rg xb1) (rxb2 : own_rg xb2) (E_xA : Exa Z h0 xA "java/lang/String") (V_xA : Fld Z h0 xA "java/lang/String" "value" "[B" (.ref t_xA)) (C_xA : Fld Z h0 xA "java/lang/String" "coder" "B" (.int d_xA)) (K_xA : Arv Z h0 t_xA k_xA .byte n_xA v_xA (.int (0 : Int32))) (hcd_xA : StrChars.Road.CodA (own_take la xa0 xa1 xa2) d_xA n_xA v_xA) (E_xB : Exa Z h0 xB "java/lang/String") (V_xB : Fld Z h0 xB "java/lang/String" "value" "[B" (.ref t_xB)) (C_xB : Fld Z h0 xB "java/lang/String" "coder" "B" (.int d_xB)) (K_xB : Arv Z h0 t_xB k_xB .byte n_xB v_xB (.int (0 : Int32))) (hcd_xB : StrChars.Road.CodA (own_take lb xb0 xb1 xb2) d_xB n_xB v_xB) (O0 : Old Z n0 h0) (O2 : Sta Z Z.heap "java/lang/String" "COMPACT_STRINGS" "Z" (.int G1)) (P5 : ¬ (G1 = (0 : Int32))) (O4 : Sta Z Z.heap "jdk/internal/util/Preconditions" "SIOOBE_FORMATTER" "Ljava/util/function/BiFunction;" G3) (rG3 : G3.isRef = true) (U1 : Sta Z Z.heap "java/lang/StringUTF16" "$assertionsDisabled" "Z" (.int (1 : Int32))) (U2 : Sta Z Z.heap "java/lang/StringUTF16" "HI_BYTE_SHIFT" "I" (.int (0 : Int32))) (U3 : Sta Z Z.heap "java/lang/StringUTF16" "LO_BYTE_SHIFT" "I" (.int (8 : Int32))) :
    ∃ s₂ o, Steps p.tables e below (T0.setTop (mkF m 146 #[.val (.int p1), .val (.int p2), .val (.int p3), .val (.int p4), .val (.int p5), .val (.int la), .val (.int lb), s7, .val (.ref bA), .val (.ref bB), .val (.ref xA), .val (.ref xB), .unset] [])) s₂ ∧ s₂.status = .running ∧ Ended s₂ below o ∧ ∃ v L, o = .returned v ∧ Q0 Z p1 p2 p3 p4 p5 G1 G3 h0 n0 v s₂.heap L ∧ ReturnedEndW s o s₂ L 32 1216 := by
  have kn0 : ∀ t, own_S p e below T0 (mkF m 146 #[.val (.int p1), .val (.int p2), .val (.int p3), .val (.int p4), .val (.int p5), .val (.int la), .val (.int lb), s7, .val (.ref bA), .val (.ref bB), .val (.ref xA), .val (.ref xB), .unset] []) t → own_S p e below T0 (mkF m 146 #[.val (.int p1), .val (.int p2), .val (.int p3), .val (.int p4), .val (.int p5), .val (.int la), .val (.int lb), s7, .val (.ref bA), .val (.ref bB), .val (.ref xA), .val (.ref xB), .unset] []) t := fun t k => k
  have CR0 := CHr.refl H0
  have hbd_xA : ∀ c ∈ (own_take la xa0 xa1 xa2), own_rg c := own_tkr rxa0 rxa1 rxa2
  have hl_xA : (own_take la xa0 xa1 xa2).length ≤ 3 := own_tkl _ _ _ _
  have hbd_xB : ∀ c ∈ (own_take lb xb0 xb1 xb2), own_rg c := own_tkr rxb0 rxb1 rxb2
  have hl_xB : (own_take lb xb0 xb1 xb2).length ≤ 3 := own_tkl _ _ _ _
  have kn1 : ∀ t, own_S p e below T0 (mkF m 178 #[.val (.int p1), .val (.int p2), .val (.int p3), .val (.int p4), .val (.int p5), .val (.int la), .val (.int lb), s7, .val (.ref bA), .val (.ref bB), .val (.ref xA), .val (.ref xB), .unset] [(.int (la - lb)), (.int lb), (.int la), (.int 2), (.ref bB), (.ref bA), (.int lb), (.int la), (.int 1), (.ref bB), (.ref bA), (.int lb), (.int la), (.int 0), (.ref bB), (.ref bA)]) t → own_S p e below T0 (mkF m 146 #[.val (.int p1), .val (.int p2), .val (.int p3), .val (.int p4), .val (.int p5), .val (.int la), .val (.int lb), s7, .val (.ref bA), .val (.ref bB), .val (.ref xA), .val (.ref xB), .unset] []) t := fun t kt => kn0 t (by
    show own_S p e below T0 (mkF m 146 #[.val (.int p1), .val (.int p2), .val (.int p3), .val (.int p4), .val (.int p5), .val (.int la), .val (.int lb), s7, .val (.ref bA), .val (.ref bB), .val (.ref xA), .val (.ref xB), .unset] []) _
    refine XS.aload X0.here hx rfl (hb hby at_146) rfl rfl ?_
    refine XS.aload X0.here hx rfl (hb hby at_148) rfl rfl ?_
    refine XS.iconst X0.here hx rfl (hb hby at_150) ?_
    refine XS.iload X0.here hx rfl (hb hby at_151) rfl ?_
    refine XS.iload X0.here hx rfl (hb hby at_153) rfl ?_
    refine XS.aload X0.here hx rfl (hb hby at_155) rfl rfl ?_
    refine XS.aload X0.here hx rfl (hb hby at_157) rfl rfl ?_
    refine XS.iconst X0.here hx rfl (hb hby at_159) ?_
    refine XS.iload X0.here hx rfl (hb hby at_160) rfl ?_
    refine XS.iload X0.here hx rfl (hb hby at_162) rfl ?_
    refine XS.aload X0.here hx rfl (hb hby at_164) rfl rfl ?_
    refine XS.aload X0.here hx rfl (hb hby at_166) rfl rfl ?_
    refine XS.iconst X0.here hx rfl (hb hby at_168) ?_
    refine XS.iload X0.here hx rfl (hb hby at_169) rfl ?_
    refine XS.iload X0.here hx rfl (hb hby at_171) rfl ?_
    refine XS.iload X0.here hx rfl (hb hby at_173) rfl ?_
    refine XS.iload X0.here hx rfl (hb hby at_175) rfl ?_
    refine XS.isub X0.here hx rfl (hb hby at_177) rfl ?_
    exact kt)
  obtain ⟨_, _, ⟨T2, L2, cc2, ss2⟩, -, X2, ⟨Lc2, hQ2, l2, y2, z2⟩, st2⟩ := Jvm.LawKit.callS X0 hx (y := mN0) hown (mvT hZ (own_w hw 27 rfl)) (mvT hZ (own_w hw 28 rfl)) (mvT hZ (own_w hw 4 rfl)) (mvT hZ (own_w hw 29 rfl)) (by decide) (backOf (W := 15) (rm5 l Z a0 hw [] (la - lb)  h0 n0 Z0 ) hZ (own_w hw 29 rfl) (own_w hw 4 rfl) (by decide) (by decide)) (g := (mkF m 178 #[.val (.int p1), .val (.int p2), .val (.int p3), .val (.int p4), .val (.int p5), .val (.int la), .val (.int lb), s7, .val (.ref bA), .val (.ref bB), .val (.ref xA), .val (.ref xB), .unset] [(.int (la - lb)), (.int lb), (.int la), (.int 2), (.ref bB), (.ref bA), (.int lb), (.int la), (.int 1), (.ref bB), (.ref bA), (.int lb), (.int la), (.int 0), (.ref bB), (.ref bA)])) rfl (by rw [hml]; rfl) (argsL := [(.int (la - lb))]) (rest := [(.int lb), (.int la), (.int 2), (.ref bB), (.ref bA), (.int lb), (.int la), (.int 1), (.ref bB), (.ref bA), (.int lb), (.int la), (.int 0), (.ref bB), (.ref bA)]) (lenOf pd_1 rfl) rfl (by show 2 * 0 + _ ≤ _; exact Nat.le_of_eq rfl) (hb hby at_178) (fun _ _ => ⟨rfl, e0, (by decide : 10 + 0 ≤ _), (by decide : 38 + 0 ≤ _)⟩)
  dsimp only [Pt.U, Pt.locs, Pt.cells, Pt.slots] at X2 l2 y2 z2 st2 hQ2
  subst l2 y2 z2
  have X2 : Stand p l e _ _ m _ below meth c T2 _ 10 38 := X2
  obtain ⟨rfl, Nq2, eq2⟩ := hQ2
  have Nf2 := Fr.app Nf0 Nq2
  obtain ⟨_, _, ⟨T3, L3, cc3, ss3⟩, -, X3, ⟨Lc3, hQ3, l3, y3, z3⟩, st3⟩ := Jvm.LawKit.callS X2 hx (y := mN4) hown (mvT hZ (own_w hw 30 rfl)) (mvT hZ (own_w hw 31 rfl)) (mvT hZ (own_w hw 4 rfl)) (mvT hZ (own_w hw 32 rfl)) (by decide) (backOf (W := 10) (rm6_2 l Z a0 hw [] bA bB la lb (own_sgn (la - lb)) kA kB xa0 xa1 xa2 xb0 xb1 xb2 h0 n0 Z0 A_A A_B) hZ (own_w hw 32 rfl) (own_w hw 4 rfl) (by decide) (by decide)) (g := (mkF m 181 #[.val (.int p1), .val (.int p2), .val (.int p3), .val (.int p4), .val (.int p5), .val (.int la), .val (.int lb), s7, .val (.ref bA), .val (.ref bB), .val (.ref xA), .val (.ref xB), .unset] [(.int (own_sgn (la - lb))), (.int lb), (.int la), (.int 2), (.ref bB), (.ref bA), (.int lb), (.int la), (.int 1), (.ref bB), (.ref bA), (.int lb), (.int la), (.int 0), (.ref bB), (.ref bA)])) rfl (by rw [hml]; rfl) (argsL := [(.ref bA), (.ref bB), (.int 2), (.int la), (.int lb), (.int (own_sgn (la - lb)))]) (rest := [(.int lb), (.int la), (.int 1), (.ref bB), (.ref bA), (.int lb), (.int la), (.int 0), (.ref bB), (.ref bA)]) (lenOf pd_18 rfl) rfl (by show 2 * 0 + _ ≤ _; exact Nat.le_of_eq rfl) (hb hby at_181) (fun _ _ => ⟨rfl, eq2, (by decide : 10 + 0 ≤ _), (by decide : 38 + 0 ≤ _)⟩)
  dsimp only [Pt.U, Pt.locs, Pt.cells, Pt.slots] at X3 l3 y3 z3 st3 hQ3
  subst l3 y3 z3
  have X3 : Stand p l e _ _ m _ below meth c T3 _ 10 38 := X3
  obtain ⟨rfl, Nq3, eq3⟩ := hQ3
  have Nf3 := Fr.app Nf2 Nq3
  obtain ⟨_, _, ⟨T4, L4, cc4, ss4⟩, -, X4, ⟨Lc4, hQ4, l4, y4, z4⟩, st4⟩ := Jvm.LawKit.callS X3 hx (y := mN4) hown (mvT hZ (own_w hw 30 rfl)) (mvT hZ (own_w hw 31 rfl)) (mvT hZ (own_w hw 4 rfl)) (mvT hZ (own_w hw 32 rfl)) (by decide) (backOf (W := 5) (rm6_1 l Z a0 hw [] bA bB la lb (own_step (2 : Int32) la lb (own_sgn (la - lb)) xa2 xb2) kA kB xa0 xa1 xa2 xb0 xb1 xb2 h0 n0 Z0 A_A A_B) hZ (own_w hw 32 rfl) (own_w hw 4 rfl) (by decide) (by decide)) (g := (mkF m 184 #[.val (.int p1), .val (.int p2), .val (.int p3), .val (.int p4), .val (.int p5), .val (.int la), .val (.int lb), s7, .val (.ref bA), .val (.ref bB), .val (.ref xA), .val (.ref xB), .unset] [(.int (own_step (2 : Int32) la lb (own_sgn (la - lb)) xa2 xb2)), (.int lb), (.int la), (.int 1), (.ref bB), (.ref bA), (.int lb), (.int la), (.int 0), (.ref bB), (.ref bA)])) rfl (by rw [hml]; rfl) (argsL := [(.ref bA), (.ref bB), (.int 1), (.int la), (.int lb), (.int (own_step (2 : Int32) la lb (own_sgn (la - lb)) xa2 xb2))]) (rest := [(.int lb), (.int la), (.int 0), (.ref bB), (.ref bA)]) (lenOf pd_18 rfl) rfl (by show 2 * 0 + _ ≤ _; exact Nat.le_of_eq rfl) (hb hby at_184) (fun _ _ => ⟨rfl, eq3, (by decide : 10 + 0 ≤ _), (by decide : 38 + 0 ≤ _)⟩)
  dsimp only [Pt.U, Pt.locs, Pt.cells, Pt.slots] at X4 l4 y4 z4 st4 hQ4
  subst l4 y4 z4
  have X4 : Stand p l e _ _ m _ below meth c T4 _ 10 38 := X4
  obtain ⟨rfl, Nq4, eq4⟩ := hQ4
  have Nf4 := Fr.app Nf3 Nq4
  obtain ⟨_, _, ⟨T5, L5, cc5, ss5⟩, -, X5, ⟨Lc5, hQ5, l5, y5, z5⟩, st5⟩ := Jvm.LawKit.callS X4 hx (y := mN4) hown (mvT hZ (own_w hw 30 rfl)) (mvT hZ (own_w hw 31 rfl)) (mvT hZ (own_w hw 4 rfl)) (mvT hZ (own_w hw 32 rfl)) (by decide) (backOf (W := 0) (rm6_0 l Z a0 hw [] bA bB la lb (own_step (1 : Int32) la lb (own_step (2 : Int32) la lb (own_sgn (la - lb)) xa2 xb2) xa1 xb1) kA kB xa0 xa1 xa2 xb0 xb1 xb2 h0 n0 Z0 A_A A_B) hZ (own_w hw 32 rfl) (own_w hw 4 rfl) (by decide) (by decide)) (g := (mkF m 187 #[.val (.int p1), .val (.int p2), .val (.int p3), .val (.int p4), .val (.int p5), .val (.int la), .val (.int lb), s7, .val (.ref bA), .val (.ref bB), .val (.ref xA), .val (.ref xB), .unset] [(.int (own_step (1 : Int32) la lb (own_step (2 : Int32) la lb (own_sgn (la - lb)) xa2 xb2) xa1 xb1)), (.int lb), (.int la), (.int 0), (.ref bB), (.ref bA)])) rfl (by rw [hml]; rfl) (argsL := [(.ref bA), (.ref bB), (.int 0), (.int la), (.int lb), (.int (own_step (1 : Int32) la lb (own_step (2 : Int32) la lb (own_sgn (la - lb)) xa2 xb2) xa1 xb1))]) (rest := []) (lenOf pd_18 rfl) rfl (by show 2 * 0 + _ ≤ _; exact Nat.le_of_eq rfl) (hb hby at_187) (fun _ _ => ⟨rfl, eq4, (by decide : 10 + 0 ≤ _), (by decide : 38 + 0 ≤ _)⟩)
  dsimp only [Pt.U, Pt.locs, Pt.cells, Pt.slots] at X5 l5 y5 z5 st5 hQ5
  subst l5 y5 z5
  have X5 : Stand p l e _ _ m _ below meth c T5 _ 10 38 := X5
  obtain ⟨rfl, Nq5, eq5⟩ := hQ5
  have Nf5 := Fr.app Nf4 Nq5
  have kn6 : ∀ t, own_S p e below T5 (mkF m 196 #[.val (.int p1), .val (.int p2), .val (.int p3), .val (.int p4), .val (.int p5), .val (.int la), .val (.int lb), s7, .val (.ref bA), .val (.ref bB), .val (.ref xA), .val (.ref xB), .val (.int (own_step (0 : Int32) la lb (own_step (1 : Int32) la lb (own_step (2 : Int32) la lb (own_sgn (la - lb)) xa2 xb2) xa1 xb1) xa0 xb0))] [(.ref xB), (.ref xA)]) t → own_S p e below T0 (mkF m 146 #[.val (.int p1), .val (.int p2), .val (.int p3), .val (.int p4), .val (.int p5), .val (.int la), .val (.int lb), s7, .val (.ref bA), .val (.ref bB), .val (.ref xA), .val (.ref xB), .unset] []) t := fun t kt => kn1 t (st2 _ (st3 _ (st4 _ (st5 _ (by
    show own_S p e below T5 (mkF m 190 #[.val (.int p1), .val (.int p2), .val (.int p3), .val (.int p4), .val (.int p5), .val (.int la), .val (.int lb), s7, .val (.ref bA), .val (.ref bB), .val (.ref xA), .val (.ref xB), .unset] [(.int (own_step (0 : Int32) la lb (own_step (1 : Int32) la lb (own_step (2 : Int32) la lb (own_sgn (la - lb)) xa2 xb2) xa1 xb1) xa0 xb0))]) _
    refine XS.istore X5.here hx rfl (hb hby at_190) rfl (l' := #[.val (.int p1), .val (.int p2), .val (.int p3), .val (.int p4), .val (.int p5), .val (.int la), .val (.int lb), s7, .val (.ref bA), .val (.ref bB), .val (.ref xA), .val (.ref xB), .val (.int (own_step (0 : Int32) la lb (own_step (1 : Int32) la lb (own_step (2 : Int32) la lb (own_sgn (la - lb)) xa2 xb2) xa1 xb1) xa0 xb0))]) rfl ?_
    refine XS.aload X5.here hx rfl (hb hby at_192) rfl rfl ?_
    refine XS.aload X5.here hx rfl (hb hby at_194) rfl rfl ?_
    exact kt)))))
  obtain ⟨_, _, ⟨T7, L7, cc7, ss7⟩, -, X7, ⟨Lc7, hQ7, l7, y7, z7⟩, st7⟩ := Jvm.LawKit.callS X5 hx (y := mN15) hown (mvT hZ (own_w hw 33 rfl)) (mvT hZ (own_w hw 34 rfl)) (mvT hZ (own_w hw 35 rfl)) (mvT hZ (own_w hw 36 rfl)) (by decide) (backOf (W := 0) (rm7 l Z a0 hw [] xA xB t_xA k_xA d_xA n_xA v_xA (own_take la xa0 xa1 xa2) t_xB k_xB d_xB n_xB v_xB (own_take lb xb0 xb1 xb2) G1 G3 h0 n0 Z0 E_xA V_xA C_xA K_xA hcd_xA hbd_xA hl_xA E_xB V_xB C_xB K_xB hcd_xB hbd_xB hl_xB O0 O2 P5 O4 rG3 U1 U2 U3) hZ (own_w hw 36 rfl) (own_w hw 35 rfl) (by decide) (by decide)) (g := (mkF m 196 #[.val (.int p1), .val (.int p2), .val (.int p3), .val (.int p4), .val (.int p5), .val (.int la), .val (.int lb), s7, .val (.ref bA), .val (.ref bB), .val (.ref xA), .val (.ref xB), .val (.int (own_step (0 : Int32) la lb (own_step (1 : Int32) la lb (own_step (2 : Int32) la lb (own_sgn (la - lb)) xa2 xb2) xa1 xb1) xa0 xb0))] [(.ref xB), (.ref xA)])) rfl (by rw [hml]; rfl) (argsL := [(.ref xA), (.ref xB)]) (rest := []) (lenOf pd_19 rfl) rfl (by show 2 * 0 + _ ≤ _; exact Nat.le_of_eq rfl) (hb hby at_196) (fun _ _ => ⟨rfl, eq5, (by decide : 10 + 0 ≤ _), (by decide : 38 + 0 ≤ _)⟩)
  dsimp only [Pt.U, Pt.locs, Pt.cells, Pt.slots] at X7 l7 y7 z7 st7 hQ7
  subst l7 y7 z7
  have X7 : Stand p l e _ _ m _ below meth c T7 _ 10 38 := X7
  obtain ⟨rfl, Nq7, eq7⟩ := hQ7
  have Nf7 := Fr.app Nf5 Nq7
  obtain ⟨_, _, ⟨T8, L8, cc8, ss8⟩, -, X8, ⟨Lc8, hQ8, l8, y8, z8⟩, st8⟩ := Jvm.LawKit.callS X7 hx (y := mN0) hown (mvT hZ (own_w hw 27 rfl)) (mvT hZ (own_w hw 28 rfl)) (mvT hZ (own_w hw 4 rfl)) (mvT hZ (own_w hw 29 rfl)) (by decide) (backOf (W := 0) (rm5 l Z a0 hw [] (own_cmp (own_take la xa0 xa1 xa2) (own_take lb xb0 xb1 xb2) 0 3)  h0 n0 Z0 ) hZ (own_w hw 29 rfl) (own_w hw 4 rfl) (by decide) (by decide)) (g := (mkF m 199 #[.val (.int p1), .val (.int p2), .val (.int p3), .val (.int p4), .val (.int p5), .val (.int la), .val (.int lb), s7, .val (.ref bA), .val (.ref bB), .val (.ref xA), .val (.ref xB), .val (.int (own_step (0 : Int32) la lb (own_step (1 : Int32) la lb (own_step (2 : Int32) la lb (own_sgn (la - lb)) xa2 xb2) xa1 xb1) xa0 xb0))] [(.int (own_cmp (own_take la xa0 xa1 xa2) (own_take lb xb0 xb1 xb2) 0 3))])) rfl (by rw [hml]; rfl) (argsL := [(.int (own_cmp (own_take la xa0 xa1 xa2) (own_take lb xb0 xb1 xb2) 0 3))]) (rest := []) (lenOf pd_1 rfl) rfl (by show 2 * 0 + _ ≤ _; exact Nat.le_of_eq rfl) (hb hby at_199) (fun _ _ => ⟨rfl, eq7, (by decide : 10 + 0 ≤ _), (by decide : 38 + 0 ≤ _)⟩)
  dsimp only [Pt.U, Pt.locs, Pt.cells, Pt.slots] at X8 l8 y8 z8 st8 hQ8
  subst l8 y8 z8
  have X8 : Stand p l e _ _ m _ below meth c T8 _ 10 38 := X8
  obtain ⟨rfl, Nq8, eq8⟩ := hQ8
  have Nf8 := Fr.app Nf7 Nq8
  have kn9 : ∀ t, own_S p e below T8 (mkF m 204 #[.val (.int p1), .val (.int p2), .val (.int p3), .val (.int p4), .val (.int p5), .val (.int la), .val (.int lb), s7, .val (.ref bA), .val (.ref bB), .val (.ref xA), .val (.ref xB), .val (.int (own_step (0 : Int32) la lb (own_step (1 : Int32) la lb (own_step (2 : Int32) la lb (own_sgn (la - lb)) xa2 xb2) xa1 xb1) xa0 xb0))] [(.int (own_step (0 : Int32) la lb (own_step (1 : Int32) la lb (own_step (2 : Int32) la lb (own_sgn (la - lb)) xa2 xb2) xa1 xb1) xa0 xb0)), (.int (own_sgn (own_cmp (own_take la xa0 xa1 xa2) (own_take lb xb0 xb1 xb2) 0 3)))]) t → own_S p e below T0 (mkF m 146 #[.val (.int p1), .val (.int p2), .val (.int p3), .val (.int p4), .val (.int p5), .val (.int la), .val (.int lb), s7, .val (.ref bA), .val (.ref bB), .val (.ref xA), .val (.ref xB), .unset] []) t := fun t kt => kn6 t (st7 _ (st8 _ (by
    show own_S p e below T8 (mkF m 202 #[.val (.int p1), .val (.int p2), .val (.int p3), .val (.int p4), .val (.int p5), .val (.int la), .val (.int lb), s7, .val (.ref bA), .val (.ref bB), .val (.ref xA), .val (.ref xB), .val (.int (own_step (0 : Int32) la lb (own_step (1 : Int32) la lb (own_step (2 : Int32) la lb (own_sgn (la - lb)) xa2 xb2) xa1 xb1) xa0 xb0))] [(.int (own_sgn (own_cmp (own_take la xa0 xa1 xa2) (own_take lb xb0 xb1 xb2) 0 3)))]) _
    refine XS.iload X8.here hx rfl (hb hby at_202) rfl ?_
    exact kt)))
  have hc204_10 : (own_sgn (own_cmp (own_take la xa0 xa1 xa2) (own_take lb xb0 xb1 xb2) 0 3)) = (own_step (0 : Int32) la lb (own_step (1 : Int32) la lb (own_step (2 : Int32) la lb (own_sgn (la - lb)) xa2 xb2) xa1 xb1) xa0 xb0) := own_main hla hlb rxa0 rxa1 rxa2 rxb0 rxb1 rxb2
  have kn11 : ∀ t, own_S p e below T8 (mkF m 212 #[.val (.int p1), .val (.int p2), .val (.int p3), .val (.int p4), .val (.int p5), .val (.int la), .val (.int lb), s7, .val (.ref bA), .val (.ref bB), .val (.ref xA), .val (.ref xB), .val (.int (own_step (0 : Int32) la lb (own_step (1 : Int32) la lb (own_step (2 : Int32) la lb (own_sgn (la - lb)) xa2 xb2) xa1 xb1) xa0 xb0))] [(.int 1)]) t → own_S p e below T0 (mkF m 146 #[.val (.int p1), .val (.int p2), .val (.int p3), .val (.int p4), .val (.int p5), .val (.int la), .val (.int lb), s7, .val (.ref bA), .val (.ref bB), .val (.ref xA), .val (.ref xB), .unset] []) t := fun t kt => kn9 t (by
    show own_S p e below T8 (mkF m 204 #[.val (.int p1), .val (.int p2), .val (.int p3), .val (.int p4), .val (.int p5), .val (.int la), .val (.int lb), s7, .val (.ref bA), .val (.ref bB), .val (.ref xA), .val (.ref xB), .val (.int (own_step (0 : Int32) la lb (own_step (1 : Int32) la lb (own_step (2 : Int32) la lb (own_sgn (la - lb)) xa2 xb2) xa1 xb1) xa0 xb0))] [(.int (own_step (0 : Int32) la lb (own_step (1 : Int32) la lb (own_step (2 : Int32) la lb (own_sgn (la - lb)) xa2 xb2) xa1 xb1) xa0 xb0)), (.int (own_sgn (own_cmp (own_take la xa0 xa1 xa2) (own_take lb xb0 xb1 xb2) 0 3)))]) _
    refine XS.icmpNo X8.here hx rfl (hb hby at_204) rfl (teq hc204_10).2 ?_
    refine XS.iconst X8.here hx rfl (hb hby at_207) ?_
    refine XS.goto X8.here hx rfl (pc0 := 208) (pc' := 212) rfl (hb hby at_208) (by decide) (by decide) ?_
    exact kt)
  obtain ⟨fs, hr, hrun, hended, hRW⟩ := X8.leaveW hS0 (by rw [eq8]; exact hk0) (v := some (.int (1 : Int32))) (fun h => by rw [hret] at h; cases h)
  refine ⟨_, _, id (kn11 _ (retN X8 hx (t := .boolean) hret (by simp) (hb hby at_212) hr)), hrun, hended, _, _, rfl, ?_, ⟨hRW.1, hRW.2.1, hRW.2.2.1, hRW.2.2.2.mono (by decide) (by decide)⟩⟩
  show Q0 Z p1 p2 p3 p4 p5 G1 G3 h0 n0 _ T8.heap _
  rw [eq8]
  exact ⟨rfl, Nf8⟩

theorem pd_20 : parseMethodDescriptor "([CI)Ljava/lang/String;" = some ⟨[(.array .char), .int], some (.object "java/lang/String")⟩ := by decide +kernel
theorem tl2 {p : Program} {l : Launch} {e : Env} {s : State} {m : MethodId} {args : Array Value} {below : List Frame} {meth : Method} {c : Code} {T0 : State} {locs : List Loc} {Z : State} {a0 : Array Value} {h0 : Heap} {n0 : Nat} (p1 : Int32) (p2 : Int32) (p3 : Int32) (p4 : Int32) (p5 : Int32) (G1 : Int32) (G3 : Value) (la : Int32) (lb : Int32) (s7 : Slot) (bA : Addr) (kA : ClassId) (bB : Addr) (kB : ClassId) (xa0 : Int32) (xa1 : Int32) (xa2 : Int32) (xb0 : Int32) (xb1 : Int32) (xb2 : Int32) {vm0 : Vm} {k0 : Nat}
    (X0 : Stand p l e room_1 (s.setVm vm0) m args below meth c T0 locs 2 6) (hx : p.tables.exec = Jvm.exec) (hZ : Z.Warmed39 (s.setVm vm0).vm) (hw : ∀ d ∈ tables_1, d.before a0 Z = true) (hby : c.code = code) (hml : c.maxLocals = 13) (hown : (s.setVm vm0).vm.findClass "com/example/caddis/caddis/StatementSetComparePinLaw" = some m.cls) (hret : meth.sig.returnType = some .boolean) (hlk : meth.locks = false) (e0 : T0.heap = h0) (Nf0 : Fr n0 locs) (Z0 : n0 ≤ h0.size) (hS0 : s.Since vm0 k0) (hk0 : k0 ≤ h0.size) (H0 : CHv Z consts_1 vm0 h0) (A_A : Arv Z h0 bA kA .char (3 : Int32) [(.int xa0), (.int xa1), (.int xa2)] (.int (0 : Int32))) (A_B : Arv Z h0 bB kB .char (3 : Int32) [(.int xb0), (.int xb1), (.int xb2)] (.int (0 : Int32))) (hla : la = (0 : Int32) ∨ la = (1 : Int32) ∨ la = (2 : Int32) ∨ la = (3 : Int32)) (hlb : lb = (0 : Int32) ∨ lb = (1 : Int32) ∨ lb = (2 : Int32) ∨ lb = (3 : Int32)) (rxa0 : own_rg xa0) (rxa1 : own_rg xa1) (rxa2 : own_rg xa2) (rxb0 : own_rg xb0) (rxb1 : own_rg xb1) (rxb2 : own_rg xb2) (O0 : Old Z n0 h0) (O2 : Sta Z Z.heap "java/lang/String" "COMPACT_STRINGS" "Z" (.int G1)) (P5 : ¬ (G1 = (0 : Int32))) (O4 : Sta Z Z.heap "jdk/internal/util/Preconditions" "SIOOBE_FORMATTER" "Ljava/util/function/BiFunction;" G3) (rG3 : G3.isRef = true) (U1 : Sta Z Z.heap "java/lang/StringUTF16" "$assertionsDisabled" "Z" (.int (1 : Int32))) (U2 : Sta Z Z.heap "java/lang/StringUTF16" "HI_BYTE_SHIFT" "I" (.int (0 : Int32))) (U3 : Sta Z Z.heap "java/lang/StringUTF16" "LO_BYTE_SHIFT" "I" (.int (8 : Int32))) :
    ∃ s₂ o, Steps p.tables e below (T0.setTop (mkF m 128 #[.val (.int p1), .val (.int p2), .val (.int p3), .val (.int p4), .val (.int p5), .val (.int la), .val (.int lb), s7, .val (.ref bA), .val (.ref bB), .unset, .unset, .unset] [])) s₂ ∧ s₂.status = .running ∧ Ended s₂ below o ∧ ∃ v L, o = .returned v ∧ Q0 Z p1 p2 p3 p4 p5 G1 G3 h0 n0 v s₂.heap L ∧ ReturnedEndW s o s₂ L 32 1216 := by
  have kn0 : ∀ t, own_S p e below T0 (mkF m 128 #[.val (.int p1), .val (.int p2), .val (.int p3), .val (.int p4), .val (.int p5), .val (.int la), .val (.int lb), s7, .val (.ref bA), .val (.ref bB), .unset, .unset, .unset] []) t → own_S p e below T0 (mkF m 128 #[.val (.int p1), .val (.int p2), .val (.int p3), .val (.int p4), .val (.int p5), .val (.int la), .val (.int lb), s7, .val (.ref bA), .val (.ref bB), .unset, .unset, .unset] []) t := fun t k => k
  have CR0 := CHr.refl H0
  have kn1 : ∀ t, own_S p e below T0 (mkF m 132 #[.val (.int p1), .val (.int p2), .val (.int p3), .val (.int p4), .val (.int p5), .val (.int la), .val (.int lb), s7, .val (.ref bA), .val (.ref bB), .unset, .unset, .unset] [(.int la), (.ref bA)]) t → own_S p e below T0 (mkF m 128 #[.val (.int p1), .val (.int p2), .val (.int p3), .val (.int p4), .val (.int p5), .val (.int la), .val (.int lb), s7, .val (.ref bA), .val (.ref bB), .unset, .unset, .unset] []) t := fun t kt => kn0 t (by
    show own_S p e below T0 (mkF m 128 #[.val (.int p1), .val (.int p2), .val (.int p3), .val (.int p4), .val (.int p5), .val (.int la), .val (.int lb), s7, .val (.ref bA), .val (.ref bB), .unset, .unset, .unset] []) _
    refine XS.aload X0.here hx rfl (hb hby at_128) rfl rfl ?_
    refine XS.iload X0.here hx rfl (hb hby at_130) rfl ?_
    exact kt)
  obtain ⟨_, _, ⟨T2, L2, cc2, ss2⟩, -, X2, hSn2, hgr2, ⟨Lc2, hQ2, l2, y2, z2, CC2⟩, st2⟩ := callSS X0 hx (y := mN25) hown (mvT hZ (own_w hw 2 rfl)) (mvT hZ (own_w hw 3 rfl)) (mvT hZ (own_w hw 4 rfl)) (mvT hZ (own_w hw 5 rfl)) (by decide) (backOfSH (s := s) (vm0 := vm0) (W := 0) (rm1 l Z a0 hw [] bA la kA xa0 xa1 xa2 G1 h0 n0 Z0 A_A rxa0 rxa1 rxa2 O0 O2 P5 U1 U2 U3) hZ (own_w hw 5 rfl) (own_w hw 4 rfl) (by decide) (by decide) (own_EW hw) CR0.1) (g := (mkF m 132 #[.val (.int p1), .val (.int p2), .val (.int p3), .val (.int p4), .val (.int p5), .val (.int la), .val (.int lb), s7, .val (.ref bA), .val (.ref bB), .unset, .unset, .unset] [(.int la), (.ref bA)])) rfl (by rw [hml]; rfl) (argsL := [(.ref bA), (.int la)]) (rest := []) (lenOf pd_20 rfl) rfl (by show 2 * 0 + _ ≤ _; exact Nat.le_of_eq rfl) (hb hby at_132) (fun _ _ => ⟨rfl, e0, (by decide : 2 + 4 ≤ _), (by decide : 6 + 16 ≤ _)⟩)
  dsimp only [Pt.U, Pt.locs, Pt.cells, Pt.slots] at CC2
  dsimp only [Pt.U, Pt.locs, Pt.cells, Pt.slots] at X2 l2 y2 z2 st2 hQ2
  subst l2 y2 z2
  have X2 : Stand p l e _ (s.setVm T2.vm) m _ below meth c T2 _ 6 22 := X2
  have hZ : Z.Warmed39 (s.setVm T2.vm).vm := State.Warmed39.trans (t := s.setVm vm0) hZ hSn2.1
  have hown : (s.setVm T2.vm).vm.findClass "com/example/caddis/caddis/StatementSetComparePinLaw" = some m.cls := by rw [show (s.setVm T2.vm).vm = T2.vm from rfl, hSn2.1.alike.findClass]; exact hown
  have hSn2 : s.Since T2.vm T2.heap.size := foldS hS0 (by rw [e0]; exact hk0) hSn2 hgr2
  obtain ⟨b2, t2, kb2, cd2, N2, vs2, rfl, Nq2, gb2, K2, Ex2, Va2, Co2, Ar2, hcd2⟩ := hQ2
  have Nf2 := Fr.app Nf0 Nq2
  have CR3 := CR0.trans CC2
  have Z4 := Nat.le_trans Z0 K2.1
  have hk5 := Nat.le_trans hk0 K2.1
  have Od6 := O0.keep K2 all0
  have kn7 : ∀ t, own_S p e below T2 (mkF m 141 #[.val (.int p1), .val (.int p2), .val (.int p3), .val (.int p4), .val (.int p5), .val (.int la), .val (.int lb), s7, .val (.ref bA), .val (.ref bB), .val (.ref b2), .unset, .unset] [(.int lb), (.ref bB)]) t → own_S p e below T0 (mkF m 128 #[.val (.int p1), .val (.int p2), .val (.int p3), .val (.int p4), .val (.int p5), .val (.int la), .val (.int lb), s7, .val (.ref bA), .val (.ref bB), .unset, .unset, .unset] []) t := fun t kt => kn1 t (st2.trans (by
    show own_S p e below T2 (mkF m 135 #[.val (.int p1), .val (.int p2), .val (.int p3), .val (.int p4), .val (.int p5), .val (.int la), .val (.int lb), s7, .val (.ref bA), .val (.ref bB), .unset, .unset, .unset] [(.ref b2)]) _
    refine XS.astore X2.here hx rfl (hb hby at_135) rfl rfl (l' := #[.val (.int p1), .val (.int p2), .val (.int p3), .val (.int p4), .val (.int p5), .val (.int la), .val (.int lb), s7, .val (.ref bA), .val (.ref bB), .val (.ref b2), .unset, .unset]) rfl ?_
    refine XS.aload X2.here hx rfl (hb hby at_137) rfl rfl ?_
    refine XS.iload X2.here hx rfl (hb hby at_139) rfl ?_
    exact kt))
  have f9 := (A_B.keep K2 nin0)
  obtain ⟨_, _, ⟨T8, L8, cc8, ss8⟩, -, X8, hSn8, hgr8, ⟨Lc8, hQ8, l8, y8, z8, CC8⟩, st8⟩ := callSS X2 hx (y := mN25) hown (mvT hZ (own_w hw 2 rfl)) (mvT hZ (own_w hw 3 rfl)) (mvT hZ (own_w hw 4 rfl)) (mvT hZ (own_w hw 5 rfl)) (by decide) (backOfSH (s := s) (vm0 := T2.vm) (W := 0) (rm1 l Z a0 hw [] bB lb kB xb0 xb1 xb2 G1 T2.heap n0 Z4 f9 rxb0 rxb1 rxb2 Od6 O2 P5 U1 U2 U3) hZ (own_w hw 5 rfl) (own_w hw 4 rfl) (by decide) (by decide) (own_EW hw) CR3.1) (g := (mkF m 141 #[.val (.int p1), .val (.int p2), .val (.int p3), .val (.int p4), .val (.int p5), .val (.int la), .val (.int lb), s7, .val (.ref bA), .val (.ref bB), .val (.ref b2), .unset, .unset] [(.int lb), (.ref bB)])) rfl (by rw [hml]; rfl) (argsL := [(.ref bB), (.int lb)]) (rest := []) (lenOf pd_20 rfl) rfl (by show 2 * 0 + _ ≤ _; exact Nat.le_of_eq rfl) (hb hby at_141) (fun _ _ => ⟨rfl, rfl, (by decide : 6 + 4 ≤ _), (by decide : 22 + 16 ≤ _)⟩)
  dsimp only [Pt.U, Pt.locs, Pt.cells, Pt.slots] at CC8
  dsimp only [Pt.U, Pt.locs, Pt.cells, Pt.slots] at X8 l8 y8 z8 st8 hQ8
  subst l8 y8 z8
  have X8 : Stand p l e _ (s.setVm T8.vm) m _ below meth c T8 _ 10 38 := X8
  have hZ : Z.Warmed39 (s.setVm T8.vm).vm := State.Warmed39.trans (t := s.setVm T2.vm) hZ hSn8.1
  have hown : (s.setVm T8.vm).vm.findClass "com/example/caddis/caddis/StatementSetComparePinLaw" = some m.cls := by rw [show (s.setVm T8.vm).vm = T8.vm from rfl, hSn8.1.alike.findClass]; exact hown
  have hSn8 : s.Since T8.vm T8.heap.size := foldS hSn2 (Nat.le_refl _) hSn8 hgr8
  obtain ⟨b8, t8, kb8, cd8, N8, vs8, rfl, Nq8, gb8, K8, Ex8, Va8, Co8, Ar8, hcd8⟩ := hQ8
  have Nf8 := Fr.app Nf2 Nq8
  have CR10 := CR3.trans CC8
  have Z11 := Nat.le_trans Z4 K8.1
  have hk12 := Nat.le_trans (Nat.le_refl _) K8.1
  have Od13 := Od6.keep K8 all0
  have f14 := ((A_A.keep K2 nin0).keep K8 nin0)
  have f15 := (f9.keep K8 nin0)
  have f16 := (Ex2.keep K8)
  have f17 := (Va2.keep K8 nin0)
  have f18 := (Co2.keep K8 nin0)
  have f19 := (Ar2.keep K8 nin0)
  have kn20 : ∀ t, own_S p e below T8 (mkF m 146 #[.val (.int p1), .val (.int p2), .val (.int p3), .val (.int p4), .val (.int p5), .val (.int la), .val (.int lb), s7, .val (.ref bA), .val (.ref bB), .val (.ref b2), .val (.ref b8), .unset] []) t → own_S p e below T0 (mkF m 128 #[.val (.int p1), .val (.int p2), .val (.int p3), .val (.int p4), .val (.int p5), .val (.int la), .val (.int lb), s7, .val (.ref bA), .val (.ref bB), .unset, .unset, .unset] []) t := fun t kt => kn7 t (st8.trans (by
    show own_S p e below T8 (mkF m 144 #[.val (.int p1), .val (.int p2), .val (.int p3), .val (.int p4), .val (.int p5), .val (.int la), .val (.int lb), s7, .val (.ref bA), .val (.ref bB), .val (.ref b2), .unset, .unset] [(.ref b8)]) _
    refine XS.astore X8.here hx rfl (hb hby at_144) rfl rfl (l' := #[.val (.int p1), .val (.int p2), .val (.int p3), .val (.int p4), .val (.int p5), .val (.int la), .val (.int lb), s7, .val (.ref bA), .val (.ref bB), .val (.ref b2), .val (.ref b8), .unset]) rfl ?_
    exact kt))
  obtain ⟨s2, o2, t1, t2, t3, t4⟩ := tl3 (n0 := n0) p1 p2 p3 p4 p5 G1 G3 la lb s7 bA kA bB kB xa0 xa1 xa2 xb0 xb1 xb2 b2 t2 kb2 cd2 N2 vs2 b8 t8 kb8 cd8 N8 vs8 (X8.mono (by decide) (by decide)) hx hZ hw hby hml hown hret hlk rfl Nf8 Z11 hSn8 (Nat.le_refl _) CR10.1 f14 f15 hla hlb rxa0 rxa1 rxa2 rxb0 rxb1 rxb2 f16 f17 f18 f19 hcd2 Ex8 Va8 Co8 Ar8 hcd8 Od13 O2 P5 O4 rG3 U1 U2 U3
  exact ⟨s2, o2, id (kn20 _ (t1)), t2, t3, t4⟩

theorem tl1 {p : Program} {l : Launch} {e : Env} {s : State} {m : MethodId} {args : Array Value} {below : List Frame} {meth : Method} {c : Code} {T0 : State} {locs : List Loc} {Z : State} {a0 : Array Value} {h0 : Heap} {n0 : Nat} (p1 : Int32) (p2 : Int32) (p3 : Int32) (p4 : Int32) (p5 : Int32) (G1 : Int32) (G3 : Value) (la : Int32) (lb : Int32) (sd : Int32) (bA : Addr) (kA : ClassId) (bB : Addr) (kB : ClassId) (xa0 : Int32) (xa1 : Int32) (xa2 : Int32) (xb0 : Int32) (xb1 : Int32) (xb2 : Int32) {vm0 : Vm} {k0 : Nat}
    (X0 : Stand p l e room_1 (s.setVm vm0) m args below meth c T0 locs 2 6) (hx : p.tables.exec = Jvm.exec) (hZ : Z.Warmed39 (s.setVm vm0).vm) (hw : ∀ d ∈ tables_1, d.before a0 Z = true) (hby : c.code = code) (hml : c.maxLocals = 13) (hown : (s.setVm vm0).vm.findClass "com/example/caddis/caddis/StatementSetComparePinLaw" = some m.cls) (hret : meth.sig.returnType = some .boolean) (hlk : meth.locks = false) (e0 : T0.heap = h0) (Nf0 : Fr n0 locs) (Z0 : n0 ≤ h0.size) (hS0 : s.Since vm0 k0) (hk0 : k0 ≤ h0.size) (H0 : CHv Z consts_1 vm0 h0) (A_A : Arv Z h0 bA kA .char (3 : Int32) [(.int xa0), (.int xa1), (.int xa2)] (.int (0 : Int32))) (A_B : Arv Z h0 bB kB .char (3 : Int32) [(.int xb0), (.int xb1), (.int xb2)] (.int (0 : Int32))) (nab : @Ne Nat bA bB) (g_bB : n0 ≤ bB) (hla : la = (0 : Int32) ∨ la = (1 : Int32) ∨ la = (2 : Int32) ∨ la = (3 : Int32)) (hlb : lb = (0 : Int32) ∨ lb = (1 : Int32) ∨ lb = (2 : Int32) ∨ lb = (3 : Int32)) (rxa0 : own_rg xa0) (rxa1 : own_rg xa1) (rxa2 : own_rg xa2) (rxb0 : own_rg xb0) (rxb1 : own_rg xb1) (rxb2 : own_rg xb2) (O0 : Old Z n0 h0) (O2 : Sta Z Z.heap "java/lang/String" "COMPACT_STRINGS" "Z" (.int G1)) (P5 : ¬ (G1 = (0 : Int32))) (O4 : Sta Z Z.heap "jdk/internal/util/Preconditions" "SIOOBE_FORMATTER" "Ljava/util/function/BiFunction;" G3) (rG3 : G3.isRef = true) (U1 : Sta Z Z.heap "java/lang/StringUTF16" "$assertionsDisabled" "Z" (.int (1 : Int32))) (U2 : Sta Z Z.heap "java/lang/StringUTF16" "HI_BYTE_SHIFT" "I" (.int (0 : Int32))) (U3 : Sta Z Z.heap "java/lang/StringUTF16" "LO_BYTE_SHIFT" "I" (.int (8 : Int32))) :
    ∃ s₂ o, Steps p.tables e below (T0.setTop (mkF m 86 #[.val (.int p1), .val (.int p2), .val (.int p3), .val (.int p4), .val (.int p5), .val (.int la), .val (.int lb), .val (.int sd), .val (.ref bA), .val (.ref bB), .unset, .unset, .unset] [])) s₂ ∧ s₂.status = .running ∧ Ended s₂ below o ∧ ∃ v L, o = .returned v ∧ Q0 Z p1 p2 p3 p4 p5 G1 G3 h0 n0 v s₂.heap L ∧ ReturnedEndW s o s₂ L 32 1216 := by
  have kn0 : ∀ t, own_S p e below T0 (mkF m 86 #[.val (.int p1), .val (.int p2), .val (.int p3), .val (.int p4), .val (.int p5), .val (.int la), .val (.int lb), .val (.int sd), .val (.ref bA), .val (.ref bB), .unset, .unset, .unset] []) t → own_S p e below T0 (mkF m 86 #[.val (.int p1), .val (.int p2), .val (.int p3), .val (.int p4), .val (.int p5), .val (.int la), .val (.int lb), .val (.int sd), .val (.ref bA), .val (.ref bB), .unset, .unset, .unset] []) t := fun t k => k
  have CR0 := CHr.refl H0
  have kn1 : ∀ t, own_S p e below T0 (mkF m 89 #[.val (.int p1), .val (.int p2), .val (.int p3), .val (.int p4), .val (.int p5), .val (.int la), .val (.int lb), .val (.int sd), .val (.ref bA), .val (.ref bB), .unset, .unset, .unset] [(.int 1), (.int sd)]) t → own_S p e below T0 (mkF m 86 #[.val (.int p1), .val (.int p2), .val (.int p3), .val (.int p4), .val (.int p5), .val (.int la), .val (.int lb), .val (.int sd), .val (.ref bA), .val (.ref bB), .unset, .unset, .unset] []) t := fun t kt => kn0 t (by
    show own_S p e below T0 (mkF m 86 #[.val (.int p1), .val (.int p2), .val (.int p3), .val (.int p4), .val (.int p5), .val (.int la), .val (.int lb), .val (.int sd), .val (.ref bA), .val (.ref bB), .unset, .unset, .unset] []) _
    refine XS.iload X0.here hx rfl (hb hby at_86) rfl ?_
    refine XS.iconst X0.here hx rfl (hb hby at_88) ?_
    exact kt)
  by_cases hc89 : sd < (1 : Int32)
  · have kn2 : ∀ t, own_S p e below T0 (mkF m 103 #[.val (.int p1), .val (.int p2), .val (.int p3), .val (.int p4), .val (.int p5), .val (.int la), .val (.int lb), .val (.int sd), .val (.ref bA), .val (.ref bB), .unset, .unset, .unset] [(.int 2), (.int sd)]) t → own_S p e below T0 (mkF m 86 #[.val (.int p1), .val (.int p2), .val (.int p3), .val (.int p4), .val (.int p5), .val (.int la), .val (.int lb), .val (.int sd), .val (.ref bA), .val (.ref bB), .unset, .unset, .unset] []) t := fun t kt => kn1 t (by
      show own_S p e below T0 (mkF m 89 #[.val (.int p1), .val (.int p2), .val (.int p3), .val (.int p4), .val (.int p5), .val (.int la), .val (.int lb), .val (.int sd), .val (.ref bA), .val (.ref bB), .unset, .unset, .unset] [(.int 1), (.int sd)]) _
      refine XS.icmpYes X0.here hx rfl (pc0 := 89) (pc' := 100) rfl (hb hby at_89) rfl (tlt hc89).1 (by decide) (by decide) ?_
      refine XS.iload X0.here hx rfl (hb hby at_100) rfl ?_
      refine XS.iconst X0.here hx rfl (hb hby at_102) ?_
      exact kt)
    by_cases hc103 : sd < (2 : Int32)
    · have kn3 : ∀ t, own_S p e below T0 (mkF m 117 #[.val (.int p1), .val (.int p2), .val (.int p3), .val (.int p4), .val (.int p5), .val (.int la), .val (.int lb), .val (.int sd), .val (.ref bA), .val (.ref bB), .unset, .unset, .unset] [(.int 3), (.int sd)]) t → own_S p e below T0 (mkF m 86 #[.val (.int p1), .val (.int p2), .val (.int p3), .val (.int p4), .val (.int p5), .val (.int la), .val (.int lb), .val (.int sd), .val (.ref bA), .val (.ref bB), .unset, .unset, .unset] []) t := fun t kt => kn2 t (by
        show own_S p e below T0 (mkF m 103 #[.val (.int p1), .val (.int p2), .val (.int p3), .val (.int p4), .val (.int p5), .val (.int la), .val (.int lb), .val (.int sd), .val (.ref bA), .val (.ref bB), .unset, .unset, .unset] [(.int 2), (.int sd)]) _
        refine XS.icmpYes X0.here hx rfl (pc0 := 103) (pc' := 114) rfl (hb hby at_103) rfl (tlt hc103).1 (by decide) (by decide) ?_
        refine XS.iload X0.here hx rfl (hb hby at_114) rfl ?_
        refine XS.iconst X0.here hx rfl (hb hby at_116) ?_
        exact kt)
      by_cases hc117 : sd < (3 : Int32)
      · have kn4 : ∀ t, own_S p e below T0 (mkF m 128 #[.val (.int p1), .val (.int p2), .val (.int p3), .val (.int p4), .val (.int p5), .val (.int la), .val (.int lb), .val (.int sd), .val (.ref bA), .val (.ref bB), .unset, .unset, .unset] []) t → own_S p e below T0 (mkF m 86 #[.val (.int p1), .val (.int p2), .val (.int p3), .val (.int p4), .val (.int p5), .val (.int la), .val (.int lb), .val (.int sd), .val (.ref bA), .val (.ref bB), .unset, .unset, .unset] []) t := fun t kt => kn3 t (by
          show own_S p e below T0 (mkF m 117 #[.val (.int p1), .val (.int p2), .val (.int p3), .val (.int p4), .val (.int p5), .val (.int la), .val (.int lb), .val (.int sd), .val (.ref bA), .val (.ref bB), .unset, .unset, .unset] [(.int 3), (.int sd)]) _
          refine XS.icmpYes X0.here hx rfl (pc0 := 117) (pc' := 128) rfl (hb hby at_117) rfl (tlt hc117).1 (by decide) (by decide) ?_
          exact kt)
        obtain ⟨s2, o2, t1, t2, t3, t4⟩ := tl2 (n0 := n0) p1 p2 p3 p4 p5 G1 G3 la lb (.val (.int sd)) bA kA bB kB xa0 xa1 xa2 xb0 xb1 xb2 (X0.mono (by decide) (by decide)) hx hZ hw hby hml hown hret hlk e0 Nf0 Z0 hS0 hk0 CR0.1 A_A A_B hla hlb rxa0 rxa1 rxa2 rxb0 rxb1 rxb2 O0 O2 P5 O4 rG3 U1 U2 U3
        exact ⟨s2, o2, id (kn4 _ (t1)), t2, t3, t4⟩
      · have kn5 : ∀ t, own_S p e below T0 (mkF m 126 #[.val (.int p1), .val (.int p2), .val (.int p3), .val (.int p4), .val (.int p5), .val (.int la), .val (.int lb), .val (.int sd), .val (.ref bA), .val (.ref bB), .unset, .unset, .unset] [(.int 2), (.ref bA), (.int 2), (.ref bB)]) t → own_S p e below T0 (mkF m 86 #[.val (.int p1), .val (.int p2), .val (.int p3), .val (.int p4), .val (.int p5), .val (.int la), .val (.int lb), .val (.int sd), .val (.ref bA), .val (.ref bB), .unset, .unset, .unset] []) t := fun t kt => kn3 t (by
          show own_S p e below T0 (mkF m 117 #[.val (.int p1), .val (.int p2), .val (.int p3), .val (.int p4), .val (.int p5), .val (.int la), .val (.int lb), .val (.int sd), .val (.ref bA), .val (.ref bB), .unset, .unset, .unset] [(.int 3), (.int sd)]) _
          refine XS.icmpNo X0.here hx rfl (hb hby at_117) rfl (flt hc117).1 ?_
          refine XS.aload X0.here hx rfl (hb hby at_120) rfl rfl ?_
          refine XS.iconst X0.here hx rfl (hb hby at_122) ?_
          refine XS.aload X0.here hx rfl (hb hby at_123) rfl rfl ?_
          refine XS.iconst X0.here hx rfl (hb hby at_125) ?_
          exact kt)
        obtain ⟨cl6, Ar6, q6, Sz6, Ng6, Hs6, Gs6⟩ := id A_A
        have hin6 : ¬ ((2 : Int32) < 0 ∨ cl6.slots.size ≤ ((2 : Int32)).toNatClampNeg) := inb_of Sz6 ⟨by decide, by decide⟩
        have hat6 : cl6.slots[((2 : Int32)).toNatClampNeg]? = some (.int xa2) := Hs6.at hin6 rfl
        have kn7 : ∀ t, own_S p e below T0 (mkF m 127 #[.val (.int p1), .val (.int p2), .val (.int p3), .val (.int p4), .val (.int p5), .val (.int la), .val (.int lb), .val (.int sd), .val (.ref bA), .val (.ref bB), .unset, .unset, .unset] [(.int xa2), (.int 2), (.ref bB)]) t → own_S p e below T0 (mkF m 86 #[.val (.int p1), .val (.int p2), .val (.int p3), .val (.int p4), .val (.int p5), .val (.int la), .val (.int lb), .val (.int sd), .val (.ref bA), .val (.ref bB), .unset, .unset, .unset] []) t := fun t kt => kn5 t (by
          show own_S p e below T0 (mkF m 126 #[.val (.int p1), .val (.int p2), .val (.int p3), .val (.int p4), .val (.int p5), .val (.int la), .val (.int lb), .val (.int sd), .val (.ref bA), .val (.ref bB), .unset, .unset, .unset] [(.int 2), (.ref bA), (.int 2), (.ref bB)]) _
          refine X0.caload hx (j := (2 : Int32)) (v := (.int xa2)) (by rw [e0]; exact Ar6.1) (State.isArrayOf_alike hZ.alike Ar6.2.1) Ar6.2.2 hin6 hat6 (g := (mkF m 126 #[.val (.int p1), .val (.int p2), .val (.int p3), .val (.int p4), .val (.int p5), .val (.int la), .val (.int lb), .val (.int sd), .val (.ref bA), .val (.ref bB), .unset, .unset, .unset] [(.int 2), (.ref bA), (.int 2), (.ref bB)])) rfl rfl (hb hby at_126) _ ?_
          exact kt)
        obtain ⟨cl8, Ar8, q8, Sz8, Ng8, Hs8, Gs8⟩ := id A_B
        have hin8 : ¬ ((2 : Int32) < 0 ∨ cl8.slots.size ≤ ((2 : Int32)).toNatClampNeg) := inb_of Sz8 ⟨by decide, by decide⟩
        obtain ⟨T8, h8, X8, e8, W8, st8⟩ := stC X0 hx hZ e0 Ar8 (j := (2 : Int32)) hin8 (g := (mkF m 127 #[.val (.int p1), .val (.int p2), .val (.int p3), .val (.int p4), .val (.int p5), .val (.int la), .val (.int lb), .val (.int sd), .val (.ref bA), .val (.ref bB), .unset, .unset, .unset] [(.int xa2), (.int 2), (.ref bB)])) rfl rfl (hb hby at_127)
        have CS9 := CHr.wr W8 (Safe.arr hZ.alike Ar8 nofun) CR0.1
        have CR9 := CR0.trans CS9
        have Z10 := Nat.le_trans Z0 (Keep.of_wr W8).1
        have hk11 := Nat.le_trans hk0 (Keep.of_wr W8).1
        have Od12 := O0.wr W8 g_bB
        have V8 : Arv Z h8 bB kB .char (3 : Int32) [(.int xb0), (.int xb1), (.int (xa2.toUInt32.toUInt16.toUInt32.toInt32))] (.int (0 : Int32)) := Arv.set Ar8 q8 Sz8 Ng8 Hs8 Gs8 (fits_nar_char _) W8 2 rfl (Nat.le_of_ble_eq_true rfl)
        rw [(show (xa2.toUInt32.toUInt16.toUInt32.toInt32) = xa2 from own_ck rxa2)] at V8
        have Nf13 := Fr.snoc X8 Nf0 g_bB
        have f14 := (A_A.other W8 nab)
        obtain ⟨s2, o2, t1, t2, t3, t4⟩ := tl2 (n0 := n0) p1 p2 p3 p4 p5 G1 G3 la lb (.val (.int sd)) bA kA bB kB xa0 xa1 xa2 xb0 xb1 xa2 (X8.mono (by decide) (by decide)) hx hZ hw hby hml hown hret hlk e8 Nf13 Z10 hS0 hk11 CR9.1 f14 V8 hla hlb rxa0 rxa1 rxa2 rxb0 rxb1 rxa2 Od12 O2 P5 O4 rG3 U1 U2 U3
        exact ⟨s2, o2, id (kn7 _ (st8 _ (t1))), t2, t3, t4⟩
    · have kn15 : ∀ t, own_S p e below T0 (mkF m 112 #[.val (.int p1), .val (.int p2), .val (.int p3), .val (.int p4), .val (.int p5), .val (.int la), .val (.int lb), .val (.int sd), .val (.ref bA), .val (.ref bB), .unset, .unset, .unset] [(.int 1), (.ref bA), (.int 1), (.ref bB)]) t → own_S p e below T0 (mkF m 86 #[.val (.int p1), .val (.int p2), .val (.int p3), .val (.int p4), .val (.int p5), .val (.int la), .val (.int lb), .val (.int sd), .val (.ref bA), .val (.ref bB), .unset, .unset, .unset] []) t := fun t kt => kn2 t (by
        show own_S p e below T0 (mkF m 103 #[.val (.int p1), .val (.int p2), .val (.int p3), .val (.int p4), .val (.int p5), .val (.int la), .val (.int lb), .val (.int sd), .val (.ref bA), .val (.ref bB), .unset, .unset, .unset] [(.int 2), (.int sd)]) _
        refine XS.icmpNo X0.here hx rfl (hb hby at_103) rfl (flt hc103).1 ?_
        refine XS.aload X0.here hx rfl (hb hby at_106) rfl rfl ?_
        refine XS.iconst X0.here hx rfl (hb hby at_108) ?_
        refine XS.aload X0.here hx rfl (hb hby at_109) rfl rfl ?_
        refine XS.iconst X0.here hx rfl (hb hby at_111) ?_
        exact kt)
      obtain ⟨cl16, Ar16, q16, Sz16, Ng16, Hs16, Gs16⟩ := id A_A
      have hin16 : ¬ ((1 : Int32) < 0 ∨ cl16.slots.size ≤ ((1 : Int32)).toNatClampNeg) := inb_of Sz16 ⟨by decide, by decide⟩
      have hat16 : cl16.slots[((1 : Int32)).toNatClampNeg]? = some (.int xa1) := Hs16.at hin16 rfl
      have kn17 : ∀ t, own_S p e below T0 (mkF m 113 #[.val (.int p1), .val (.int p2), .val (.int p3), .val (.int p4), .val (.int p5), .val (.int la), .val (.int lb), .val (.int sd), .val (.ref bA), .val (.ref bB), .unset, .unset, .unset] [(.int xa1), (.int 1), (.ref bB)]) t → own_S p e below T0 (mkF m 86 #[.val (.int p1), .val (.int p2), .val (.int p3), .val (.int p4), .val (.int p5), .val (.int la), .val (.int lb), .val (.int sd), .val (.ref bA), .val (.ref bB), .unset, .unset, .unset] []) t := fun t kt => kn15 t (by
        show own_S p e below T0 (mkF m 112 #[.val (.int p1), .val (.int p2), .val (.int p3), .val (.int p4), .val (.int p5), .val (.int la), .val (.int lb), .val (.int sd), .val (.ref bA), .val (.ref bB), .unset, .unset, .unset] [(.int 1), (.ref bA), (.int 1), (.ref bB)]) _
        refine X0.caload hx (j := (1 : Int32)) (v := (.int xa1)) (by rw [e0]; exact Ar16.1) (State.isArrayOf_alike hZ.alike Ar16.2.1) Ar16.2.2 hin16 hat16 (g := (mkF m 112 #[.val (.int p1), .val (.int p2), .val (.int p3), .val (.int p4), .val (.int p5), .val (.int la), .val (.int lb), .val (.int sd), .val (.ref bA), .val (.ref bB), .unset, .unset, .unset] [(.int 1), (.ref bA), (.int 1), (.ref bB)])) rfl rfl (hb hby at_112) _ ?_
        exact kt)
      obtain ⟨cl18, Ar18, q18, Sz18, Ng18, Hs18, Gs18⟩ := id A_B
      have hin18 : ¬ ((1 : Int32) < 0 ∨ cl18.slots.size ≤ ((1 : Int32)).toNatClampNeg) := inb_of Sz18 ⟨by decide, by decide⟩
      obtain ⟨T18, h18, X18, e18, W18, st18⟩ := stC X0 hx hZ e0 Ar18 (j := (1 : Int32)) hin18 (g := (mkF m 113 #[.val (.int p1), .val (.int p2), .val (.int p3), .val (.int p4), .val (.int p5), .val (.int la), .val (.int lb), .val (.int sd), .val (.ref bA), .val (.ref bB), .unset, .unset, .unset] [(.int xa1), (.int 1), (.ref bB)])) rfl rfl (hb hby at_113)
      have CS19 := CHr.wr W18 (Safe.arr hZ.alike Ar18 nofun) CR0.1
      have CR19 := CR0.trans CS19
      have Z20 := Nat.le_trans Z0 (Keep.of_wr W18).1
      have hk21 := Nat.le_trans hk0 (Keep.of_wr W18).1
      have Od22 := O0.wr W18 g_bB
      have V18 : Arv Z h18 bB kB .char (3 : Int32) [(.int xb0), (.int (xa1.toUInt32.toUInt16.toUInt32.toInt32)), (.int xb2)] (.int (0 : Int32)) := Arv.set Ar18 q18 Sz18 Ng18 Hs18 Gs18 (fits_nar_char _) W18 1 rfl (Nat.le_of_ble_eq_true rfl)
      rw [(show (xa1.toUInt32.toUInt16.toUInt32.toInt32) = xa1 from own_ck rxa1)] at V18
      have Nf23 := Fr.snoc X18 Nf0 g_bB
      have kn24 : ∀ t, own_S p e below T18 (mkF m 117 #[.val (.int p1), .val (.int p2), .val (.int p3), .val (.int p4), .val (.int p5), .val (.int la), .val (.int lb), .val (.int sd), .val (.ref bA), .val (.ref bB), .unset, .unset, .unset] [(.int 3), (.int sd)]) t → own_S p e below T0 (mkF m 86 #[.val (.int p1), .val (.int p2), .val (.int p3), .val (.int p4), .val (.int p5), .val (.int la), .val (.int lb), .val (.int sd), .val (.ref bA), .val (.ref bB), .unset, .unset, .unset] []) t := fun t kt => kn17 t (st18 _ (by
        show own_S p e below T18 (mkF m 114 #[.val (.int p1), .val (.int p2), .val (.int p3), .val (.int p4), .val (.int p5), .val (.int la), .val (.int lb), .val (.int sd), .val (.ref bA), .val (.ref bB), .unset, .unset, .unset] []) _
        refine XS.iload X18.here hx rfl (hb hby at_114) rfl ?_
        refine XS.iconst X18.here hx rfl (hb hby at_116) ?_
        exact kt))
      by_cases hc117 : sd < (3 : Int32)
      · have f25 := (A_A.other W18 nab)
        have kn26 : ∀ t, own_S p e below T18 (mkF m 128 #[.val (.int p1), .val (.int p2), .val (.int p3), .val (.int p4), .val (.int p5), .val (.int la), .val (.int lb), .val (.int sd), .val (.ref bA), .val (.ref bB), .unset, .unset, .unset] []) t → own_S p e below T0 (mkF m 86 #[.val (.int p1), .val (.int p2), .val (.int p3), .val (.int p4), .val (.int p5), .val (.int la), .val (.int lb), .val (.int sd), .val (.ref bA), .val (.ref bB), .unset, .unset, .unset] []) t := fun t kt => kn24 t (by
          show own_S p e below T18 (mkF m 117 #[.val (.int p1), .val (.int p2), .val (.int p3), .val (.int p4), .val (.int p5), .val (.int la), .val (.int lb), .val (.int sd), .val (.ref bA), .val (.ref bB), .unset, .unset, .unset] [(.int 3), (.int sd)]) _
          refine XS.icmpYes X18.here hx rfl (pc0 := 117) (pc' := 128) rfl (hb hby at_117) rfl (tlt hc117).1 (by decide) (by decide) ?_
          exact kt)
        obtain ⟨s2, o2, t1, t2, t3, t4⟩ := tl2 (n0 := n0) p1 p2 p3 p4 p5 G1 G3 la lb (.val (.int sd)) bA kA bB kB xa0 xa1 xa2 xb0 xa1 xb2 (X18.mono (by decide) (by decide)) hx hZ hw hby hml hown hret hlk e18 Nf23 Z20 hS0 hk21 CR19.1 f25 V18 hla hlb rxa0 rxa1 rxa2 rxb0 rxa1 rxb2 Od22 O2 P5 O4 rG3 U1 U2 U3
        exact ⟨s2, o2, id (kn26 _ (t1)), t2, t3, t4⟩
      · have kn27 : ∀ t, own_S p e below T18 (mkF m 126 #[.val (.int p1), .val (.int p2), .val (.int p3), .val (.int p4), .val (.int p5), .val (.int la), .val (.int lb), .val (.int sd), .val (.ref bA), .val (.ref bB), .unset, .unset, .unset] [(.int 2), (.ref bA), (.int 2), (.ref bB)]) t → own_S p e below T0 (mkF m 86 #[.val (.int p1), .val (.int p2), .val (.int p3), .val (.int p4), .val (.int p5), .val (.int la), .val (.int lb), .val (.int sd), .val (.ref bA), .val (.ref bB), .unset, .unset, .unset] []) t := fun t kt => kn24 t (by
          show own_S p e below T18 (mkF m 117 #[.val (.int p1), .val (.int p2), .val (.int p3), .val (.int p4), .val (.int p5), .val (.int la), .val (.int lb), .val (.int sd), .val (.ref bA), .val (.ref bB), .unset, .unset, .unset] [(.int 3), (.int sd)]) _
          refine XS.icmpNo X18.here hx rfl (hb hby at_117) rfl (flt hc117).1 ?_
          refine XS.aload X18.here hx rfl (hb hby at_120) rfl rfl ?_
          refine XS.iconst X18.here hx rfl (hb hby at_122) ?_
          refine XS.aload X18.here hx rfl (hb hby at_123) rfl rfl ?_
          refine XS.iconst X18.here hx rfl (hb hby at_125) ?_
          exact kt)
        have f28 := (A_A.other W18 nab)
        obtain ⟨cl29, Ar29, q29, Sz29, Ng29, Hs29, Gs29⟩ := id f28
        have hin29 : ¬ ((2 : Int32) < 0 ∨ cl29.slots.size ≤ ((2 : Int32)).toNatClampNeg) := inb_of Sz29 ⟨by decide, by decide⟩
        have hat29 : cl29.slots[((2 : Int32)).toNatClampNeg]? = some (.int xa2) := Hs29.at hin29 rfl
        have kn30 : ∀ t, own_S p e below T18 (mkF m 127 #[.val (.int p1), .val (.int p2), .val (.int p3), .val (.int p4), .val (.int p5), .val (.int la), .val (.int lb), .val (.int sd), .val (.ref bA), .val (.ref bB), .unset, .unset, .unset] [(.int xa2), (.int 2), (.ref bB)]) t → own_S p e below T0 (mkF m 86 #[.val (.int p1), .val (.int p2), .val (.int p3), .val (.int p4), .val (.int p5), .val (.int la), .val (.int lb), .val (.int sd), .val (.ref bA), .val (.ref bB), .unset, .unset, .unset] []) t := fun t kt => kn27 t (by
          show own_S p e below T18 (mkF m 126 #[.val (.int p1), .val (.int p2), .val (.int p3), .val (.int p4), .val (.int p5), .val (.int la), .val (.int lb), .val (.int sd), .val (.ref bA), .val (.ref bB), .unset, .unset, .unset] [(.int 2), (.ref bA), (.int 2), (.ref bB)]) _
          refine X18.caload hx (j := (2 : Int32)) (v := (.int xa2)) (by rw [e18]; exact Ar29.1) (State.isArrayOf_alike hZ.alike Ar29.2.1) Ar29.2.2 hin29 hat29 (g := (mkF m 126 #[.val (.int p1), .val (.int p2), .val (.int p3), .val (.int p4), .val (.int p5), .val (.int la), .val (.int lb), .val (.int sd), .val (.ref bA), .val (.ref bB), .unset, .unset, .unset] [(.int 2), (.ref bA), (.int 2), (.ref bB)])) rfl rfl (hb hby at_126) _ ?_
          exact kt)
        obtain ⟨cl31, Ar31, q31, Sz31, Ng31, Hs31, Gs31⟩ := id V18
        have hin31 : ¬ ((2 : Int32) < 0 ∨ cl31.slots.size ≤ ((2 : Int32)).toNatClampNeg) := inb_of Sz31 ⟨by decide, by decide⟩
        obtain ⟨T31, h31, X31, e31, W31, st31⟩ := stC X18 hx hZ e18 Ar31 (j := (2 : Int32)) hin31 (g := (mkF m 127 #[.val (.int p1), .val (.int p2), .val (.int p3), .val (.int p4), .val (.int p5), .val (.int la), .val (.int lb), .val (.int sd), .val (.ref bA), .val (.ref bB), .unset, .unset, .unset] [(.int xa2), (.int 2), (.ref bB)])) rfl rfl (hb hby at_127)
        have CS32 := CHr.wr W31 (Safe.arr hZ.alike Ar31 nofun) CR19.1
        have CR32 := CR19.trans CS32
        have Z33 := Nat.le_trans Z20 (Keep.of_wr W31).1
        have hk34 := Nat.le_trans hk21 (Keep.of_wr W31).1
        have Od35 := Od22.wr W31 g_bB
        have V31 : Arv Z h31 bB kB .char (3 : Int32) [(.int xb0), (.int xa1), (.int (xa2.toUInt32.toUInt16.toUInt32.toInt32))] (.int (0 : Int32)) := Arv.set Ar31 q31 Sz31 Ng31 Hs31 Gs31 (fits_nar_char _) W31 2 rfl (Nat.le_of_ble_eq_true rfl)
        rw [(show (xa2.toUInt32.toUInt16.toUInt32.toInt32) = xa2 from own_ck rxa2)] at V31
        have Nf36 := Fr.snoc X31 Nf23 g_bB
        have f37 := (f28.other W31 nab)
        obtain ⟨s2, o2, t1, t2, t3, t4⟩ := tl2 (n0 := n0) p1 p2 p3 p4 p5 G1 G3 la lb (.val (.int sd)) bA kA bB kB xa0 xa1 xa2 xb0 xa1 xa2 (X31.mono (by decide) (by decide)) hx hZ hw hby hml hown hret hlk e31 Nf36 Z33 hS0 hk34 CR32.1 f37 V31 hla hlb rxa0 rxa1 rxa2 rxb0 rxa1 rxa2 Od35 O2 P5 O4 rG3 U1 U2 U3
        exact ⟨s2, o2, id (kn30 _ (st31 _ (t1))), t2, t3, t4⟩
  · have kn38 : ∀ t, own_S p e below T0 (mkF m 98 #[.val (.int p1), .val (.int p2), .val (.int p3), .val (.int p4), .val (.int p5), .val (.int la), .val (.int lb), .val (.int sd), .val (.ref bA), .val (.ref bB), .unset, .unset, .unset] [(.int 0), (.ref bA), (.int 0), (.ref bB)]) t → own_S p e below T0 (mkF m 86 #[.val (.int p1), .val (.int p2), .val (.int p3), .val (.int p4), .val (.int p5), .val (.int la), .val (.int lb), .val (.int sd), .val (.ref bA), .val (.ref bB), .unset, .unset, .unset] []) t := fun t kt => kn1 t (by
      show own_S p e below T0 (mkF m 89 #[.val (.int p1), .val (.int p2), .val (.int p3), .val (.int p4), .val (.int p5), .val (.int la), .val (.int lb), .val (.int sd), .val (.ref bA), .val (.ref bB), .unset, .unset, .unset] [(.int 1), (.int sd)]) _
      refine XS.icmpNo X0.here hx rfl (hb hby at_89) rfl (flt hc89).1 ?_
      refine XS.aload X0.here hx rfl (hb hby at_92) rfl rfl ?_
      refine XS.iconst X0.here hx rfl (hb hby at_94) ?_
      refine XS.aload X0.here hx rfl (hb hby at_95) rfl rfl ?_
      refine XS.iconst X0.here hx rfl (hb hby at_97) ?_
      exact kt)
    obtain ⟨cl39, Ar39, q39, Sz39, Ng39, Hs39, Gs39⟩ := id A_A
    have hin39 : ¬ ((0 : Int32) < 0 ∨ cl39.slots.size ≤ ((0 : Int32)).toNatClampNeg) := inb_of Sz39 ⟨by decide, by decide⟩
    have hat39 : cl39.slots[((0 : Int32)).toNatClampNeg]? = some (.int xa0) := Hs39.at hin39 rfl
    have kn40 : ∀ t, own_S p e below T0 (mkF m 99 #[.val (.int p1), .val (.int p2), .val (.int p3), .val (.int p4), .val (.int p5), .val (.int la), .val (.int lb), .val (.int sd), .val (.ref bA), .val (.ref bB), .unset, .unset, .unset] [(.int xa0), (.int 0), (.ref bB)]) t → own_S p e below T0 (mkF m 86 #[.val (.int p1), .val (.int p2), .val (.int p3), .val (.int p4), .val (.int p5), .val (.int la), .val (.int lb), .val (.int sd), .val (.ref bA), .val (.ref bB), .unset, .unset, .unset] []) t := fun t kt => kn38 t (by
      show own_S p e below T0 (mkF m 98 #[.val (.int p1), .val (.int p2), .val (.int p3), .val (.int p4), .val (.int p5), .val (.int la), .val (.int lb), .val (.int sd), .val (.ref bA), .val (.ref bB), .unset, .unset, .unset] [(.int 0), (.ref bA), (.int 0), (.ref bB)]) _
      refine X0.caload hx (j := (0 : Int32)) (v := (.int xa0)) (by rw [e0]; exact Ar39.1) (State.isArrayOf_alike hZ.alike Ar39.2.1) Ar39.2.2 hin39 hat39 (g := (mkF m 98 #[.val (.int p1), .val (.int p2), .val (.int p3), .val (.int p4), .val (.int p5), .val (.int la), .val (.int lb), .val (.int sd), .val (.ref bA), .val (.ref bB), .unset, .unset, .unset] [(.int 0), (.ref bA), (.int 0), (.ref bB)])) rfl rfl (hb hby at_98) _ ?_
      exact kt)
    obtain ⟨cl41, Ar41, q41, Sz41, Ng41, Hs41, Gs41⟩ := id A_B
    have hin41 : ¬ ((0 : Int32) < 0 ∨ cl41.slots.size ≤ ((0 : Int32)).toNatClampNeg) := inb_of Sz41 ⟨by decide, by decide⟩
    obtain ⟨T41, h41, X41, e41, W41, st41⟩ := stC X0 hx hZ e0 Ar41 (j := (0 : Int32)) hin41 (g := (mkF m 99 #[.val (.int p1), .val (.int p2), .val (.int p3), .val (.int p4), .val (.int p5), .val (.int la), .val (.int lb), .val (.int sd), .val (.ref bA), .val (.ref bB), .unset, .unset, .unset] [(.int xa0), (.int 0), (.ref bB)])) rfl rfl (hb hby at_99)
    have CS42 := CHr.wr W41 (Safe.arr hZ.alike Ar41 nofun) CR0.1
    have CR42 := CR0.trans CS42
    have Z43 := Nat.le_trans Z0 (Keep.of_wr W41).1
    have hk44 := Nat.le_trans hk0 (Keep.of_wr W41).1
    have Od45 := O0.wr W41 g_bB
    have V41 : Arv Z h41 bB kB .char (3 : Int32) [(.int (xa0.toUInt32.toUInt16.toUInt32.toInt32)), (.int xb1), (.int xb2)] (.int (0 : Int32)) := Arv.set Ar41 q41 Sz41 Ng41 Hs41 Gs41 (fits_nar_char _) W41 0 rfl (Nat.le_of_ble_eq_true rfl)
    rw [(show (xa0.toUInt32.toUInt16.toUInt32.toInt32) = xa0 from own_ck rxa0)] at V41
    have Nf46 := Fr.snoc X41 Nf0 g_bB
    have kn47 : ∀ t, own_S p e below T41 (mkF m 103 #[.val (.int p1), .val (.int p2), .val (.int p3), .val (.int p4), .val (.int p5), .val (.int la), .val (.int lb), .val (.int sd), .val (.ref bA), .val (.ref bB), .unset, .unset, .unset] [(.int 2), (.int sd)]) t → own_S p e below T0 (mkF m 86 #[.val (.int p1), .val (.int p2), .val (.int p3), .val (.int p4), .val (.int p5), .val (.int la), .val (.int lb), .val (.int sd), .val (.ref bA), .val (.ref bB), .unset, .unset, .unset] []) t := fun t kt => kn40 t (st41 _ (by
      show own_S p e below T41 (mkF m 100 #[.val (.int p1), .val (.int p2), .val (.int p3), .val (.int p4), .val (.int p5), .val (.int la), .val (.int lb), .val (.int sd), .val (.ref bA), .val (.ref bB), .unset, .unset, .unset] []) _
      refine XS.iload X41.here hx rfl (hb hby at_100) rfl ?_
      refine XS.iconst X41.here hx rfl (hb hby at_102) ?_
      exact kt))
    by_cases hc103 : sd < (2 : Int32)
    · have kn48 : ∀ t, own_S p e below T41 (mkF m 117 #[.val (.int p1), .val (.int p2), .val (.int p3), .val (.int p4), .val (.int p5), .val (.int la), .val (.int lb), .val (.int sd), .val (.ref bA), .val (.ref bB), .unset, .unset, .unset] [(.int 3), (.int sd)]) t → own_S p e below T0 (mkF m 86 #[.val (.int p1), .val (.int p2), .val (.int p3), .val (.int p4), .val (.int p5), .val (.int la), .val (.int lb), .val (.int sd), .val (.ref bA), .val (.ref bB), .unset, .unset, .unset] []) t := fun t kt => kn47 t (by
        show own_S p e below T41 (mkF m 103 #[.val (.int p1), .val (.int p2), .val (.int p3), .val (.int p4), .val (.int p5), .val (.int la), .val (.int lb), .val (.int sd), .val (.ref bA), .val (.ref bB), .unset, .unset, .unset] [(.int 2), (.int sd)]) _
        refine XS.icmpYes X41.here hx rfl (pc0 := 103) (pc' := 114) rfl (hb hby at_103) rfl (tlt hc103).1 (by decide) (by decide) ?_
        refine XS.iload X41.here hx rfl (hb hby at_114) rfl ?_
        refine XS.iconst X41.here hx rfl (hb hby at_116) ?_
        exact kt)
      by_cases hc117 : sd < (3 : Int32)
      · have f49 := (A_A.other W41 nab)
        have kn50 : ∀ t, own_S p e below T41 (mkF m 128 #[.val (.int p1), .val (.int p2), .val (.int p3), .val (.int p4), .val (.int p5), .val (.int la), .val (.int lb), .val (.int sd), .val (.ref bA), .val (.ref bB), .unset, .unset, .unset] []) t → own_S p e below T0 (mkF m 86 #[.val (.int p1), .val (.int p2), .val (.int p3), .val (.int p4), .val (.int p5), .val (.int la), .val (.int lb), .val (.int sd), .val (.ref bA), .val (.ref bB), .unset, .unset, .unset] []) t := fun t kt => kn48 t (by
          show own_S p e below T41 (mkF m 117 #[.val (.int p1), .val (.int p2), .val (.int p3), .val (.int p4), .val (.int p5), .val (.int la), .val (.int lb), .val (.int sd), .val (.ref bA), .val (.ref bB), .unset, .unset, .unset] [(.int 3), (.int sd)]) _
          refine XS.icmpYes X41.here hx rfl (pc0 := 117) (pc' := 128) rfl (hb hby at_117) rfl (tlt hc117).1 (by decide) (by decide) ?_
          exact kt)
        obtain ⟨s2, o2, t1, t2, t3, t4⟩ := tl2 (n0 := n0) p1 p2 p3 p4 p5 G1 G3 la lb (.val (.int sd)) bA kA bB kB xa0 xa1 xa2 xa0 xb1 xb2 (X41.mono (by decide) (by decide)) hx hZ hw hby hml hown hret hlk e41 Nf46 Z43 hS0 hk44 CR42.1 f49 V41 hla hlb rxa0 rxa1 rxa2 rxa0 rxb1 rxb2 Od45 O2 P5 O4 rG3 U1 U2 U3
        exact ⟨s2, o2, id (kn50 _ (t1)), t2, t3, t4⟩
      · have kn51 : ∀ t, own_S p e below T41 (mkF m 126 #[.val (.int p1), .val (.int p2), .val (.int p3), .val (.int p4), .val (.int p5), .val (.int la), .val (.int lb), .val (.int sd), .val (.ref bA), .val (.ref bB), .unset, .unset, .unset] [(.int 2), (.ref bA), (.int 2), (.ref bB)]) t → own_S p e below T0 (mkF m 86 #[.val (.int p1), .val (.int p2), .val (.int p3), .val (.int p4), .val (.int p5), .val (.int la), .val (.int lb), .val (.int sd), .val (.ref bA), .val (.ref bB), .unset, .unset, .unset] []) t := fun t kt => kn48 t (by
          show own_S p e below T41 (mkF m 117 #[.val (.int p1), .val (.int p2), .val (.int p3), .val (.int p4), .val (.int p5), .val (.int la), .val (.int lb), .val (.int sd), .val (.ref bA), .val (.ref bB), .unset, .unset, .unset] [(.int 3), (.int sd)]) _
          refine XS.icmpNo X41.here hx rfl (hb hby at_117) rfl (flt hc117).1 ?_
          refine XS.aload X41.here hx rfl (hb hby at_120) rfl rfl ?_
          refine XS.iconst X41.here hx rfl (hb hby at_122) ?_
          refine XS.aload X41.here hx rfl (hb hby at_123) rfl rfl ?_
          refine XS.iconst X41.here hx rfl (hb hby at_125) ?_
          exact kt)
        have f52 := (A_A.other W41 nab)
        obtain ⟨cl53, Ar53, q53, Sz53, Ng53, Hs53, Gs53⟩ := id f52
        have hin53 : ¬ ((2 : Int32) < 0 ∨ cl53.slots.size ≤ ((2 : Int32)).toNatClampNeg) := inb_of Sz53 ⟨by decide, by decide⟩
        have hat53 : cl53.slots[((2 : Int32)).toNatClampNeg]? = some (.int xa2) := Hs53.at hin53 rfl
        have kn54 : ∀ t, own_S p e below T41 (mkF m 127 #[.val (.int p1), .val (.int p2), .val (.int p3), .val (.int p4), .val (.int p5), .val (.int la), .val (.int lb), .val (.int sd), .val (.ref bA), .val (.ref bB), .unset, .unset, .unset] [(.int xa2), (.int 2), (.ref bB)]) t → own_S p e below T0 (mkF m 86 #[.val (.int p1), .val (.int p2), .val (.int p3), .val (.int p4), .val (.int p5), .val (.int la), .val (.int lb), .val (.int sd), .val (.ref bA), .val (.ref bB), .unset, .unset, .unset] []) t := fun t kt => kn51 t (by
          show own_S p e below T41 (mkF m 126 #[.val (.int p1), .val (.int p2), .val (.int p3), .val (.int p4), .val (.int p5), .val (.int la), .val (.int lb), .val (.int sd), .val (.ref bA), .val (.ref bB), .unset, .unset, .unset] [(.int 2), (.ref bA), (.int 2), (.ref bB)]) _
          refine X41.caload hx (j := (2 : Int32)) (v := (.int xa2)) (by rw [e41]; exact Ar53.1) (State.isArrayOf_alike hZ.alike Ar53.2.1) Ar53.2.2 hin53 hat53 (g := (mkF m 126 #[.val (.int p1), .val (.int p2), .val (.int p3), .val (.int p4), .val (.int p5), .val (.int la), .val (.int lb), .val (.int sd), .val (.ref bA), .val (.ref bB), .unset, .unset, .unset] [(.int 2), (.ref bA), (.int 2), (.ref bB)])) rfl rfl (hb hby at_126) _ ?_
          exact kt)
        obtain ⟨cl55, Ar55, q55, Sz55, Ng55, Hs55, Gs55⟩ := id V41
        have hin55 : ¬ ((2 : Int32) < 0 ∨ cl55.slots.size ≤ ((2 : Int32)).toNatClampNeg) := inb_of Sz55 ⟨by decide, by decide⟩
        obtain ⟨T55, h55, X55, e55, W55, st55⟩ := stC X41 hx hZ e41 Ar55 (j := (2 : Int32)) hin55 (g := (mkF m 127 #[.val (.int p1), .val (.int p2), .val (.int p3), .val (.int p4), .val (.int p5), .val (.int la), .val (.int lb), .val (.int sd), .val (.ref bA), .val (.ref bB), .unset, .unset, .unset] [(.int xa2), (.int 2), (.ref bB)])) rfl rfl (hb hby at_127)
        have CS56 := CHr.wr W55 (Safe.arr hZ.alike Ar55 nofun) CR42.1
        have CR56 := CR42.trans CS56
        have Z57 := Nat.le_trans Z43 (Keep.of_wr W55).1
        have hk58 := Nat.le_trans hk44 (Keep.of_wr W55).1
        have Od59 := Od45.wr W55 g_bB
        have V55 : Arv Z h55 bB kB .char (3 : Int32) [(.int xa0), (.int xb1), (.int (xa2.toUInt32.toUInt16.toUInt32.toInt32))] (.int (0 : Int32)) := Arv.set Ar55 q55 Sz55 Ng55 Hs55 Gs55 (fits_nar_char _) W55 2 rfl (Nat.le_of_ble_eq_true rfl)
        rw [(show (xa2.toUInt32.toUInt16.toUInt32.toInt32) = xa2 from own_ck rxa2)] at V55
        have Nf60 := Fr.snoc X55 Nf46 g_bB
        have f61 := (f52.other W55 nab)
        obtain ⟨s2, o2, t1, t2, t3, t4⟩ := tl2 (n0 := n0) p1 p2 p3 p4 p5 G1 G3 la lb (.val (.int sd)) bA kA bB kB xa0 xa1 xa2 xa0 xb1 xa2 (X55.mono (by decide) (by decide)) hx hZ hw hby hml hown hret hlk e55 Nf60 Z57 hS0 hk58 CR56.1 f61 V55 hla hlb rxa0 rxa1 rxa2 rxa0 rxb1 rxa2 Od59 O2 P5 O4 rG3 U1 U2 U3
        exact ⟨s2, o2, id (kn54 _ (st55 _ (t1))), t2, t3, t4⟩
    · have kn62 : ∀ t, own_S p e below T41 (mkF m 112 #[.val (.int p1), .val (.int p2), .val (.int p3), .val (.int p4), .val (.int p5), .val (.int la), .val (.int lb), .val (.int sd), .val (.ref bA), .val (.ref bB), .unset, .unset, .unset] [(.int 1), (.ref bA), (.int 1), (.ref bB)]) t → own_S p e below T0 (mkF m 86 #[.val (.int p1), .val (.int p2), .val (.int p3), .val (.int p4), .val (.int p5), .val (.int la), .val (.int lb), .val (.int sd), .val (.ref bA), .val (.ref bB), .unset, .unset, .unset] []) t := fun t kt => kn47 t (by
        show own_S p e below T41 (mkF m 103 #[.val (.int p1), .val (.int p2), .val (.int p3), .val (.int p4), .val (.int p5), .val (.int la), .val (.int lb), .val (.int sd), .val (.ref bA), .val (.ref bB), .unset, .unset, .unset] [(.int 2), (.int sd)]) _
        refine XS.icmpNo X41.here hx rfl (hb hby at_103) rfl (flt hc103).1 ?_
        refine XS.aload X41.here hx rfl (hb hby at_106) rfl rfl ?_
        refine XS.iconst X41.here hx rfl (hb hby at_108) ?_
        refine XS.aload X41.here hx rfl (hb hby at_109) rfl rfl ?_
        refine XS.iconst X41.here hx rfl (hb hby at_111) ?_
        exact kt)
      have f63 := (A_A.other W41 nab)
      obtain ⟨cl64, Ar64, q64, Sz64, Ng64, Hs64, Gs64⟩ := id f63
      have hin64 : ¬ ((1 : Int32) < 0 ∨ cl64.slots.size ≤ ((1 : Int32)).toNatClampNeg) := inb_of Sz64 ⟨by decide, by decide⟩
      have hat64 : cl64.slots[((1 : Int32)).toNatClampNeg]? = some (.int xa1) := Hs64.at hin64 rfl
      have kn65 : ∀ t, own_S p e below T41 (mkF m 113 #[.val (.int p1), .val (.int p2), .val (.int p3), .val (.int p4), .val (.int p5), .val (.int la), .val (.int lb), .val (.int sd), .val (.ref bA), .val (.ref bB), .unset, .unset, .unset] [(.int xa1), (.int 1), (.ref bB)]) t → own_S p e below T0 (mkF m 86 #[.val (.int p1), .val (.int p2), .val (.int p3), .val (.int p4), .val (.int p5), .val (.int la), .val (.int lb), .val (.int sd), .val (.ref bA), .val (.ref bB), .unset, .unset, .unset] []) t := fun t kt => kn62 t (by
        show own_S p e below T41 (mkF m 112 #[.val (.int p1), .val (.int p2), .val (.int p3), .val (.int p4), .val (.int p5), .val (.int la), .val (.int lb), .val (.int sd), .val (.ref bA), .val (.ref bB), .unset, .unset, .unset] [(.int 1), (.ref bA), (.int 1), (.ref bB)]) _
        refine X41.caload hx (j := (1 : Int32)) (v := (.int xa1)) (by rw [e41]; exact Ar64.1) (State.isArrayOf_alike hZ.alike Ar64.2.1) Ar64.2.2 hin64 hat64 (g := (mkF m 112 #[.val (.int p1), .val (.int p2), .val (.int p3), .val (.int p4), .val (.int p5), .val (.int la), .val (.int lb), .val (.int sd), .val (.ref bA), .val (.ref bB), .unset, .unset, .unset] [(.int 1), (.ref bA), (.int 1), (.ref bB)])) rfl rfl (hb hby at_112) _ ?_
        exact kt)
      obtain ⟨cl66, Ar66, q66, Sz66, Ng66, Hs66, Gs66⟩ := id V41
      have hin66 : ¬ ((1 : Int32) < 0 ∨ cl66.slots.size ≤ ((1 : Int32)).toNatClampNeg) := inb_of Sz66 ⟨by decide, by decide⟩
      obtain ⟨T66, h66, X66, e66, W66, st66⟩ := stC X41 hx hZ e41 Ar66 (j := (1 : Int32)) hin66 (g := (mkF m 113 #[.val (.int p1), .val (.int p2), .val (.int p3), .val (.int p4), .val (.int p5), .val (.int la), .val (.int lb), .val (.int sd), .val (.ref bA), .val (.ref bB), .unset, .unset, .unset] [(.int xa1), (.int 1), (.ref bB)])) rfl rfl (hb hby at_113)
      have CS67 := CHr.wr W66 (Safe.arr hZ.alike Ar66 nofun) CR42.1
      have CR67 := CR42.trans CS67
      have Z68 := Nat.le_trans Z43 (Keep.of_wr W66).1
      have hk69 := Nat.le_trans hk44 (Keep.of_wr W66).1
      have Od70 := Od45.wr W66 g_bB
      have V66 : Arv Z h66 bB kB .char (3 : Int32) [(.int xa0), (.int (xa1.toUInt32.toUInt16.toUInt32.toInt32)), (.int xb2)] (.int (0 : Int32)) := Arv.set Ar66 q66 Sz66 Ng66 Hs66 Gs66 (fits_nar_char _) W66 1 rfl (Nat.le_of_ble_eq_true rfl)
      rw [(show (xa1.toUInt32.toUInt16.toUInt32.toInt32) = xa1 from own_ck rxa1)] at V66
      have Nf71 := Fr.snoc X66 Nf46 g_bB
      have kn72 : ∀ t, own_S p e below T66 (mkF m 117 #[.val (.int p1), .val (.int p2), .val (.int p3), .val (.int p4), .val (.int p5), .val (.int la), .val (.int lb), .val (.int sd), .val (.ref bA), .val (.ref bB), .unset, .unset, .unset] [(.int 3), (.int sd)]) t → own_S p e below T0 (mkF m 86 #[.val (.int p1), .val (.int p2), .val (.int p3), .val (.int p4), .val (.int p5), .val (.int la), .val (.int lb), .val (.int sd), .val (.ref bA), .val (.ref bB), .unset, .unset, .unset] []) t := fun t kt => kn65 t (st66 _ (by
        show own_S p e below T66 (mkF m 114 #[.val (.int p1), .val (.int p2), .val (.int p3), .val (.int p4), .val (.int p5), .val (.int la), .val (.int lb), .val (.int sd), .val (.ref bA), .val (.ref bB), .unset, .unset, .unset] []) _
        refine XS.iload X66.here hx rfl (hb hby at_114) rfl ?_
        refine XS.iconst X66.here hx rfl (hb hby at_116) ?_
        exact kt))
      by_cases hc117 : sd < (3 : Int32)
      · have f73 := (f63.other W66 nab)
        have kn74 : ∀ t, own_S p e below T66 (mkF m 128 #[.val (.int p1), .val (.int p2), .val (.int p3), .val (.int p4), .val (.int p5), .val (.int la), .val (.int lb), .val (.int sd), .val (.ref bA), .val (.ref bB), .unset, .unset, .unset] []) t → own_S p e below T0 (mkF m 86 #[.val (.int p1), .val (.int p2), .val (.int p3), .val (.int p4), .val (.int p5), .val (.int la), .val (.int lb), .val (.int sd), .val (.ref bA), .val (.ref bB), .unset, .unset, .unset] []) t := fun t kt => kn72 t (by
          show own_S p e below T66 (mkF m 117 #[.val (.int p1), .val (.int p2), .val (.int p3), .val (.int p4), .val (.int p5), .val (.int la), .val (.int lb), .val (.int sd), .val (.ref bA), .val (.ref bB), .unset, .unset, .unset] [(.int 3), (.int sd)]) _
          refine XS.icmpYes X66.here hx rfl (pc0 := 117) (pc' := 128) rfl (hb hby at_117) rfl (tlt hc117).1 (by decide) (by decide) ?_
          exact kt)
        obtain ⟨s2, o2, t1, t2, t3, t4⟩ := tl2 (n0 := n0) p1 p2 p3 p4 p5 G1 G3 la lb (.val (.int sd)) bA kA bB kB xa0 xa1 xa2 xa0 xa1 xb2 (X66.mono (by decide) (by decide)) hx hZ hw hby hml hown hret hlk e66 Nf71 Z68 hS0 hk69 CR67.1 f73 V66 hla hlb rxa0 rxa1 rxa2 rxa0 rxa1 rxb2 Od70 O2 P5 O4 rG3 U1 U2 U3
        exact ⟨s2, o2, id (kn74 _ (t1)), t2, t3, t4⟩
      · have kn75 : ∀ t, own_S p e below T66 (mkF m 126 #[.val (.int p1), .val (.int p2), .val (.int p3), .val (.int p4), .val (.int p5), .val (.int la), .val (.int lb), .val (.int sd), .val (.ref bA), .val (.ref bB), .unset, .unset, .unset] [(.int 2), (.ref bA), (.int 2), (.ref bB)]) t → own_S p e below T0 (mkF m 86 #[.val (.int p1), .val (.int p2), .val (.int p3), .val (.int p4), .val (.int p5), .val (.int la), .val (.int lb), .val (.int sd), .val (.ref bA), .val (.ref bB), .unset, .unset, .unset] []) t := fun t kt => kn72 t (by
          show own_S p e below T66 (mkF m 117 #[.val (.int p1), .val (.int p2), .val (.int p3), .val (.int p4), .val (.int p5), .val (.int la), .val (.int lb), .val (.int sd), .val (.ref bA), .val (.ref bB), .unset, .unset, .unset] [(.int 3), (.int sd)]) _
          refine XS.icmpNo X66.here hx rfl (hb hby at_117) rfl (flt hc117).1 ?_
          refine XS.aload X66.here hx rfl (hb hby at_120) rfl rfl ?_
          refine XS.iconst X66.here hx rfl (hb hby at_122) ?_
          refine XS.aload X66.here hx rfl (hb hby at_123) rfl rfl ?_
          refine XS.iconst X66.here hx rfl (hb hby at_125) ?_
          exact kt)
        have f76 := (f63.other W66 nab)
        obtain ⟨cl77, Ar77, q77, Sz77, Ng77, Hs77, Gs77⟩ := id f76
        have hin77 : ¬ ((2 : Int32) < 0 ∨ cl77.slots.size ≤ ((2 : Int32)).toNatClampNeg) := inb_of Sz77 ⟨by decide, by decide⟩
        have hat77 : cl77.slots[((2 : Int32)).toNatClampNeg]? = some (.int xa2) := Hs77.at hin77 rfl
        have kn78 : ∀ t, own_S p e below T66 (mkF m 127 #[.val (.int p1), .val (.int p2), .val (.int p3), .val (.int p4), .val (.int p5), .val (.int la), .val (.int lb), .val (.int sd), .val (.ref bA), .val (.ref bB), .unset, .unset, .unset] [(.int xa2), (.int 2), (.ref bB)]) t → own_S p e below T0 (mkF m 86 #[.val (.int p1), .val (.int p2), .val (.int p3), .val (.int p4), .val (.int p5), .val (.int la), .val (.int lb), .val (.int sd), .val (.ref bA), .val (.ref bB), .unset, .unset, .unset] []) t := fun t kt => kn75 t (by
          show own_S p e below T66 (mkF m 126 #[.val (.int p1), .val (.int p2), .val (.int p3), .val (.int p4), .val (.int p5), .val (.int la), .val (.int lb), .val (.int sd), .val (.ref bA), .val (.ref bB), .unset, .unset, .unset] [(.int 2), (.ref bA), (.int 2), (.ref bB)]) _
          refine X66.caload hx (j := (2 : Int32)) (v := (.int xa2)) (by rw [e66]; exact Ar77.1) (State.isArrayOf_alike hZ.alike Ar77.2.1) Ar77.2.2 hin77 hat77 (g := (mkF m 126 #[.val (.int p1), .val (.int p2), .val (.int p3), .val (.int p4), .val (.int p5), .val (.int la), .val (.int lb), .val (.int sd), .val (.ref bA), .val (.ref bB), .unset, .unset, .unset] [(.int 2), (.ref bA), (.int 2), (.ref bB)])) rfl rfl (hb hby at_126) _ ?_
          exact kt)
        obtain ⟨cl79, Ar79, q79, Sz79, Ng79, Hs79, Gs79⟩ := id V66
        have hin79 : ¬ ((2 : Int32) < 0 ∨ cl79.slots.size ≤ ((2 : Int32)).toNatClampNeg) := inb_of Sz79 ⟨by decide, by decide⟩
        obtain ⟨T79, h79, X79, e79, W79, st79⟩ := stC X66 hx hZ e66 Ar79 (j := (2 : Int32)) hin79 (g := (mkF m 127 #[.val (.int p1), .val (.int p2), .val (.int p3), .val (.int p4), .val (.int p5), .val (.int la), .val (.int lb), .val (.int sd), .val (.ref bA), .val (.ref bB), .unset, .unset, .unset] [(.int xa2), (.int 2), (.ref bB)])) rfl rfl (hb hby at_127)
        have CS80 := CHr.wr W79 (Safe.arr hZ.alike Ar79 nofun) CR67.1
        have CR80 := CR67.trans CS80
        have Z81 := Nat.le_trans Z68 (Keep.of_wr W79).1
        have hk82 := Nat.le_trans hk69 (Keep.of_wr W79).1
        have Od83 := Od70.wr W79 g_bB
        have V79 : Arv Z h79 bB kB .char (3 : Int32) [(.int xa0), (.int xa1), (.int (xa2.toUInt32.toUInt16.toUInt32.toInt32))] (.int (0 : Int32)) := Arv.set Ar79 q79 Sz79 Ng79 Hs79 Gs79 (fits_nar_char _) W79 2 rfl (Nat.le_of_ble_eq_true rfl)
        rw [(show (xa2.toUInt32.toUInt16.toUInt32.toInt32) = xa2 from own_ck rxa2)] at V79
        have Nf84 := Fr.snoc X79 Nf71 g_bB
        have f85 := (f76.other W79 nab)
        obtain ⟨s2, o2, t1, t2, t3, t4⟩ := tl2 (n0 := n0) p1 p2 p3 p4 p5 G1 G3 la lb (.val (.int sd)) bA kA bB kB xa0 xa1 xa2 xa0 xa1 xa2 (X79.mono (by decide) (by decide)) hx hZ hw hby hml hown hret hlk e79 Nf84 Z81 hS0 hk82 CR80.1 f85 V79 hla hlb rxa0 rxa1 rxa2 rxa0 rxa1 rxa2 Od83 O2 P5 O4 rG3 U1 U2 U3
        exact ⟨s2, o2, id (kn78 _ (st79 _ (t1))), t2, t3, t4⟩

theorem ef_rm0 (m : MethodId) (x0 : Int32) (x1 : Int32) (x2 : Int32) (x3 : Int32) (x4 : Int32) : entryFrame m #[(.int x0), (.int x1), (.int x2), (.int x3), (.int x4)] maxLocals = mkF m 0 #[.val (.int x0), .val (.int x1), .val (.int x2), .val (.int x3), .val (.int x4), .unset, .unset, .unset, .unset, .unset, .unset, .unset, .unset] [] := by first | (simp [entryFrame, mkF, argsToLocals, Value.category, maxLocals]; done) | rfl
 
theorem rm0 (l : Launch) (Z : State) (a0 : Array Value) (hw : ∀ d ∈ tables_1, d.before a0 Z = true) (ws : List Jvm.Cond) (p1 : Int32) (p2 : Int32) (p3 : Int32) (p4 : Int32) (p5 : Int32) (G1 : Int32) (G3 : Value) (h0 : Heap) (n0 : Nat) (Z0 : n0 ≤ h0.size) (O0 : Old Z n0 h0) (O2 : Sta Z Z.heap "java/lang/String" "COMPACT_STRINGS" "Z" (.int G1)) (P5 : ¬ (G1 = (0 : Int32))) (O4 : Sta Z Z.heap "jdk/internal/util/Preconditions" "SIOOBE_FORMATTER" "Ljava/util/function/BiFunction;" G3) (rG3 : G3.isRef = true) (U1 : Sta Z Z.heap "java/lang/StringUTF16" "$assertionsDisabled" "Z" (.int (1 : Int32))) (U2 : Sta Z Z.heap "java/lang/StringUTF16" "HI_BYTE_SHIFT" "I" (.int (0 : Int32))) (U3 : Sta Z Z.heap "java/lang/StringUTF16" "LO_BYTE_SHIFT" "I" (.int (8 : Int32))) (hz0 : h0 = Z.heap) (HC : ∀ p ∈ consts_1, Jvm.Lit.constHeld Z p.1 p.2) (hcw : Jvm.Lit.compactW.before a0 Z = true) :
    MetFree l x (head1 (Jvm.Cond.code x code maxLocals ret :: ws) room_1) (fun a U => a = #[(.int p1), (.int p2), (.int p3), (.int p4), (.int p5)] ∧ Z.Warmed39 U.vm ∧ U.heap = h0 ∧ U.vm = Z.vm) (fun _ _ _ _ _ => True) (fun _ U o U' => ∃ v L, o = .returned v ∧ Q0 Z p1 p2 p3 p4 p5 G1 G3 h0 n0 v U'.heap L ∧ ReturnedEndW U o U' L 32 1216) := by
  refine MetFree.of_bodySF (plainFor_of_name pn_0) hisR ?_
  intro p e s m args below meth c s₁ Bd hml0 hP hK
  obtain ⟨rfl, hZ, hh, hvz⟩ := hP
  have hx := Bd.exec
  have hby := Bd.bytes
  have hml : c.maxLocals = 13 := hml0
  have hown : s.vm.findClass "com/example/caddis/caddis/StatementSetComparePinLaw" = some m.cls := findClass_of_methodNamed Bd.named
  have hnm := (name_of_methodNamed Bd.named Bd.method).1
  have X0 : Stand p l e room_1 s m #[(.int p1), (.int p2), (.int p3), (.int p4), (.int p5)] below meth c s₁ [] 0 0 := Stand.of_body Bd
  have e0 : s₁.heap = h0 := by rw [← hh, Bd.state]; rfl
  have Nf0 := Fr.nil n0
  obtain ⟨Gl, hGl, kn0⟩ := own_gl (p := p) (e := e) (below := below) (s₁ := s₁) (ef_rm0 m p1 p2 p3 p4 p5)
  have hCH : CHv Z consts_1 s.vm h0 := by rw [show s.vm = Z.vm from hvz, hz0]; exact CHv.start (own_EW hw) HC hcw (own_w hw 20 rfl) (own_w hw 7 rfl)
  have X0 : Stand p l e room_1 (s.setVm s.vm) m #[(.int p1), (.int p2), (.int p3), (.int p4), (.int p5)] below meth c s₁ [] 0 0 := X0
  have hZ : Z.Warmed39 (s.setVm s.vm).vm := hZ
  have hown : (s.setVm s.vm).vm.findClass "com/example/caddis/caddis/StatementSetComparePinLaw" = some m.cls := hown
  have hSt0 : s.Since s.vm 0 := (State.WarmedH.refl s).since 0
  have CR0 := CHr.refl hCH
  have kn1 : ∀ t, own_S p e below s₁ (mkF m 23 #[.val (.int p1), .val (.int p2), .val (.int p3), .val (.int p4), .val (.int p5), .val (.int (p5 &&& (3 : Int32))), .val (.int (((p5.toUInt32 >>> ((2 : Int32) &&& 31).toUInt32).toInt32) &&& (3 : Int32))), .val (.int (((p5.toUInt32 >>> ((4 : Int32) &&& 31).toUInt32).toInt32) &&& (3 : Int32))), .unset, .unset, .unset, .unset, .unset] [(.int 3)]) t → Gl t := fun t kt => kn0 t (by
    show own_S p e below s₁ (mkF m 0 #[.val (.int p1), .val (.int p2), .val (.int p3), .val (.int p4), .val (.int p5), .unset, .unset, .unset, .unset, .unset, .unset, .unset, .unset] []) _
    refine XS.iload X0.here hx rfl (hb hby at_0) rfl ?_
    refine XS.iconst X0.here hx rfl (hb hby at_2) ?_
    refine XS.iand X0.here hx rfl (hb hby at_3) rfl ?_
    refine XS.istore X0.here hx rfl (hb hby at_4) rfl (l' := #[.val (.int p1), .val (.int p2), .val (.int p3), .val (.int p4), .val (.int p5), .val (.int (p5 &&& (3 : Int32))), .unset, .unset, .unset, .unset, .unset, .unset, .unset]) rfl ?_
    refine XS.iload X0.here hx rfl (hb hby at_6) rfl ?_
    refine XS.iconst X0.here hx rfl (hb hby at_8) ?_
    refine XS.iushr X0.here hx rfl (hb hby at_9) rfl ?_
    refine XS.iconst X0.here hx rfl (hb hby at_10) ?_
    refine XS.iand X0.here hx rfl (hb hby at_11) rfl ?_
    refine XS.istore X0.here hx rfl (hb hby at_12) rfl (l' := #[.val (.int p1), .val (.int p2), .val (.int p3), .val (.int p4), .val (.int p5), .val (.int (p5 &&& (3 : Int32))), .val (.int (((p5.toUInt32 >>> ((2 : Int32) &&& 31).toUInt32).toInt32) &&& (3 : Int32))), .unset, .unset, .unset, .unset, .unset, .unset]) rfl ?_
    refine XS.iload X0.here hx rfl (hb hby at_14) rfl ?_
    refine XS.iconst X0.here hx rfl (hb hby at_16) ?_
    refine XS.iushr X0.here hx rfl (hb hby at_17) rfl ?_
    refine XS.iconst X0.here hx rfl (hb hby at_18) ?_
    refine XS.iand X0.here hx rfl (hb hby at_19) rfl ?_
    refine XS.istore X0.here hx rfl (hb hby at_20) rfl (l' := #[.val (.int p1), .val (.int p2), .val (.int p3), .val (.int p4), .val (.int p5), .val (.int (p5 &&& (3 : Int32))), .val (.int (((p5.toUInt32 >>> ((2 : Int32) &&& 31).toUInt32).toInt32) &&& (3 : Int32))), .val (.int (((p5.toUInt32 >>> ((4 : Int32) &&& 31).toUInt32).toInt32) &&& (3 : Int32))), .unset, .unset, .unset, .unset, .unset]) rfl ?_
    refine XS.iconst X0.here hx rfl (hb hby at_22) ?_
    exact kt)
  obtain ⟨T2, h2, kk2, X2, e2, E2, A2, st2⟩ := newP X0 hx hZ (own_w hw 0 rfl) e0 (g := (mkF m 23 #[.val (.int p1), .val (.int p2), .val (.int p3), .val (.int p4), .val (.int p5), .val (.int (p5 &&& (3 : Int32))), .val (.int (((p5.toUInt32 >>> ((2 : Int32) &&& 31).toUInt32).toInt32) &&& (3 : Int32))), .val (.int (((p5.toUInt32 >>> ((4 : Int32) &&& 31).toUInt32).toInt32) &&& (3 : Int32))), .unset, .unset, .unset, .unset, .unset] [(.int 3)])) rfl (hb hby at_23) rfl (by decide) (cap := 3) (by decide) (by decide) (by decide) (by decide)
  obtain ⟨b2, g2⟩ : ∃ z, z = h0.size := ⟨_, rfl⟩
  rw [← g2] at A2 st2
  have g_b2 : n0 ≤ b2 := Nat.le_trans Z0 (Nat.le_of_eq g2.symm)
  have CS3 := CHr.ext E2 CR0.1
  have CR3 := CR0.trans CS3
  have Z4 := Nat.le_trans Z0 E2.1
  have hk5 := Nat.le_trans (Nat.zero_le _) E2.1
  have Od6 := O0.ext E2
  have V2 : Arv Z h2 b2 kk2 .char (3 : Int32) [(.int (0 : Int32)), (.int (0 : Int32)), (.int (0 : Int32))] (.int (0 : Int32)) := (Arv.new A2 (by decide)).pad (pad_rep [] (.int (0 : Int32)) 3)
  have kn7 : ∀ t, own_S p e below T2 (mkF m 28 #[.val (.int p1), .val (.int p2), .val (.int p3), .val (.int p4), .val (.int p5), .val (.int (p5 &&& (3 : Int32))), .val (.int (((p5.toUInt32 >>> ((2 : Int32) &&& 31).toUInt32).toInt32) &&& (3 : Int32))), .val (.int (((p5.toUInt32 >>> ((4 : Int32) &&& 31).toUInt32).toInt32) &&& (3 : Int32))), .val (.ref b2), .unset, .unset, .unset, .unset] [(.int 3)]) t → Gl t := fun t kt => kn1 t (st2 _ (by
    show own_S p e below T2 (mkF m 25 #[.val (.int p1), .val (.int p2), .val (.int p3), .val (.int p4), .val (.int p5), .val (.int (p5 &&& (3 : Int32))), .val (.int (((p5.toUInt32 >>> ((2 : Int32) &&& 31).toUInt32).toInt32) &&& (3 : Int32))), .val (.int (((p5.toUInt32 >>> ((4 : Int32) &&& 31).toUInt32).toInt32) &&& (3 : Int32))), .unset, .unset, .unset, .unset, .unset] [(.ref b2)]) _
    refine XS.astore X2.here hx rfl (hb hby at_25) rfl rfl (l' := #[.val (.int p1), .val (.int p2), .val (.int p3), .val (.int p4), .val (.int p5), .val (.int (p5 &&& (3 : Int32))), .val (.int (((p5.toUInt32 >>> ((2 : Int32) &&& 31).toUInt32).toInt32) &&& (3 : Int32))), .val (.int (((p5.toUInt32 >>> ((4 : Int32) &&& 31).toUInt32).toInt32) &&& (3 : Int32))), .val (.ref b2), .unset, .unset, .unset, .unset]) rfl ?_
    refine XS.iconst X2.here hx rfl (hb hby at_27) ?_
    exact kt))
  obtain ⟨T8, h8, kk8, X8, e8, E8, A8, st8⟩ := newP X2 hx hZ (own_w hw 0 rfl) e2 (g := (mkF m 28 #[.val (.int p1), .val (.int p2), .val (.int p3), .val (.int p4), .val (.int p5), .val (.int (p5 &&& (3 : Int32))), .val (.int (((p5.toUInt32 >>> ((2 : Int32) &&& 31).toUInt32).toInt32) &&& (3 : Int32))), .val (.int (((p5.toUInt32 >>> ((4 : Int32) &&& 31).toUInt32).toInt32) &&& (3 : Int32))), .val (.ref b2), .unset, .unset, .unset, .unset] [(.int 3)])) rfl (hb hby at_28) rfl (by decide) (cap := 3) (by decide) (by decide) (by decide) (by decide)
  obtain ⟨b8, g8⟩ : ∃ z, z = h2.size := ⟨_, rfl⟩
  rw [← g8] at A8 st8
  have g_b8 : n0 ≤ b8 := Nat.le_trans Z4 (Nat.le_of_eq g8.symm)
  have ne_b2_b8 : b2 ≠ b8 := Nat.ne_of_lt (Nat.lt_of_lt_of_le V2.lt (Nat.le_of_eq g8.symm))
  have CS9 := CHr.ext E8 CR3.1
  have CR9 := CR3.trans CS9
  have Z10 := Nat.le_trans Z4 E8.1
  have hk11 := Nat.le_trans hk5 E8.1
  have Od12 := Od6.ext E8
  have V8 : Arv Z h8 b8 kk8 .char (3 : Int32) [(.int (0 : Int32)), (.int (0 : Int32)), (.int (0 : Int32))] (.int (0 : Int32)) := (Arv.new A8 (by decide)).pad (pad_rep [] (.int (0 : Int32)) 3)
  have kn13 : ∀ t, own_S p e below T8 (mkF m 40 #[.val (.int p1), .val (.int p2), .val (.int p3), .val (.int p4), .val (.int p5), .val (.int (p5 &&& (3 : Int32))), .val (.int (((p5.toUInt32 >>> ((2 : Int32) &&& 31).toUInt32).toInt32) &&& (3 : Int32))), .val (.int (((p5.toUInt32 >>> ((4 : Int32) &&& 31).toUInt32).toInt32) &&& (3 : Int32))), .val (.ref b2), .val (.ref b8), .unset, .unset, .unset] [(.int ((p1 &&& (65535 : Int32)).toUInt32.toUInt16.toUInt32.toInt32)), (.int 0), (.ref b2)]) t → Gl t := fun t kt => kn7 t (st8 _ (by
    show own_S p e below T8 (mkF m 30 #[.val (.int p1), .val (.int p2), .val (.int p3), .val (.int p4), .val (.int p5), .val (.int (p5 &&& (3 : Int32))), .val (.int (((p5.toUInt32 >>> ((2 : Int32) &&& 31).toUInt32).toInt32) &&& (3 : Int32))), .val (.int (((p5.toUInt32 >>> ((4 : Int32) &&& 31).toUInt32).toInt32) &&& (3 : Int32))), .val (.ref b2), .unset, .unset, .unset, .unset] [(.ref b8)]) _
    refine XS.astore X8.here hx rfl (hb hby at_30) rfl rfl (l' := #[.val (.int p1), .val (.int p2), .val (.int p3), .val (.int p4), .val (.int p5), .val (.int (p5 &&& (3 : Int32))), .val (.int (((p5.toUInt32 >>> ((2 : Int32) &&& 31).toUInt32).toInt32) &&& (3 : Int32))), .val (.int (((p5.toUInt32 >>> ((4 : Int32) &&& 31).toUInt32).toInt32) &&& (3 : Int32))), .val (.ref b2), .val (.ref b8), .unset, .unset, .unset]) rfl ?_
    refine XS.aload X8.here hx rfl (hb hby at_32) rfl rfl ?_
    refine XS.iconst X8.here hx rfl (hb hby at_34) ?_
    refine XS.iloadN X8.here hx rfl (hb hby at_35) rfl ?_
    refine X8.ldcInt hx hown (mvT hZ (own_w hw 1 rfl)) (g := (mkF m 36 #[.val (.int p1), .val (.int p2), .val (.int p3), .val (.int p4), .val (.int p5), .val (.int (p5 &&& (3 : Int32))), .val (.int (((p5.toUInt32 >>> ((2 : Int32) &&& 31).toUInt32).toInt32) &&& (3 : Int32))), .val (.int (((p5.toUInt32 >>> ((4 : Int32) &&& 31).toUInt32).toInt32) &&& (3 : Int32))), .val (.ref b2), .val (.ref b8), .unset, .unset, .unset] [(.int p1), (.int 0), (.ref b2)])) rfl (hb hby at_36) _ ?_
    refine XS.iand X8.here hx rfl (hb hby at_38) rfl ?_
    refine XS.i2c X8.here hx rfl (hb hby at_39) rfl ?_
    exact kt))
  have f14 := (V2.ext E8)
  obtain ⟨cl15, Ar15, q15, Sz15, Ng15, Hs15, Gs15⟩ := id f14
  have hin15 : ¬ ((0 : Int32) < 0 ∨ cl15.slots.size ≤ ((0 : Int32)).toNatClampNeg) := inb_of Sz15 ⟨by decide, by decide⟩
  obtain ⟨T15, h15, X15, e15, W15, st15⟩ := stC X8 hx hZ e8 Ar15 (j := (0 : Int32)) hin15 (g := (mkF m 40 #[.val (.int p1), .val (.int p2), .val (.int p3), .val (.int p4), .val (.int p5), .val (.int (p5 &&& (3 : Int32))), .val (.int (((p5.toUInt32 >>> ((2 : Int32) &&& 31).toUInt32).toInt32) &&& (3 : Int32))), .val (.int (((p5.toUInt32 >>> ((4 : Int32) &&& 31).toUInt32).toInt32) &&& (3 : Int32))), .val (.ref b2), .val (.ref b8), .unset, .unset, .unset] [(.int ((p1 &&& (65535 : Int32)).toUInt32.toUInt16.toUInt32.toInt32)), (.int 0), (.ref b2)])) rfl rfl (hb hby at_40)
  have CS16 := CHr.wr W15 (Safe.arr hZ.alike Ar15 nofun) CR9.1
  have CR16 := CR9.trans CS16
  have Z17 := Nat.le_trans Z10 (Keep.of_wr W15).1
  have hk18 := Nat.le_trans hk11 (Keep.of_wr W15).1
  have Od19 := Od12.wr W15 g_b2
  have V15 : Arv Z h15 b2 kk2 .char (3 : Int32) [(.int (((p1 &&& (65535 : Int32)).toUInt32.toUInt16.toUInt32.toInt32).toUInt32.toUInt16.toUInt32.toInt32)), (.int (0 : Int32)), (.int (0 : Int32))] (.int (0 : Int32)) := Arv.set Ar15 q15 Sz15 Ng15 Hs15 Gs15 (fits_nar_char _) W15 0 rfl (Nat.le_of_ble_eq_true rfl)
  rw [(show (((p1 &&& (65535 : Int32)).toUInt32.toUInt16.toUInt32.toInt32).toUInt32.toUInt16.toUInt32.toInt32) = ((p1 &&& (65535 : Int32)).toUInt32.toUInt16.toUInt32.toInt32) from own_ck (own_rgc _))] at V15
  have Nf20 := Fr.snoc X15 Nf0 g_b2
  have kn21 : ∀ t, own_S p e below T15 (mkF m 49 #[.val (.int p1), .val (.int p2), .val (.int p3), .val (.int p4), .val (.int p5), .val (.int (p5 &&& (3 : Int32))), .val (.int (((p5.toUInt32 >>> ((2 : Int32) &&& 31).toUInt32).toInt32) &&& (3 : Int32))), .val (.int (((p5.toUInt32 >>> ((4 : Int32) &&& 31).toUInt32).toInt32) &&& (3 : Int32))), .val (.ref b2), .val (.ref b8), .unset, .unset, .unset] [(.int (((p1.toUInt32 >>> ((16 : Int32) &&& 31).toUInt32).toInt32).toUInt32.toUInt16.toUInt32.toInt32)), (.int 1), (.ref b2)]) t → Gl t := fun t kt => kn13 t (st15 _ (by
    show own_S p e below T15 (mkF m 41 #[.val (.int p1), .val (.int p2), .val (.int p3), .val (.int p4), .val (.int p5), .val (.int (p5 &&& (3 : Int32))), .val (.int (((p5.toUInt32 >>> ((2 : Int32) &&& 31).toUInt32).toInt32) &&& (3 : Int32))), .val (.int (((p5.toUInt32 >>> ((4 : Int32) &&& 31).toUInt32).toInt32) &&& (3 : Int32))), .val (.ref b2), .val (.ref b8), .unset, .unset, .unset] []) _
    refine XS.aload X15.here hx rfl (hb hby at_41) rfl rfl ?_
    refine XS.iconst X15.here hx rfl (hb hby at_43) ?_
    refine XS.iloadN X15.here hx rfl (hb hby at_44) rfl ?_
    refine XS.bipush X15.here hx rfl (hb hby at_45) ?_
    refine XS.iushr X15.here hx rfl (hb hby at_47) rfl ?_
    refine XS.i2c X15.here hx rfl (hb hby at_48) rfl ?_
    exact kt))
  obtain ⟨cl22, Ar22, q22, Sz22, Ng22, Hs22, Gs22⟩ := id V15
  have hin22 : ¬ ((1 : Int32) < 0 ∨ cl22.slots.size ≤ ((1 : Int32)).toNatClampNeg) := inb_of Sz22 ⟨by decide, by decide⟩
  obtain ⟨T22, h22, X22, e22, W22, st22⟩ := stC X15 hx hZ e15 Ar22 (j := (1 : Int32)) hin22 (g := (mkF m 49 #[.val (.int p1), .val (.int p2), .val (.int p3), .val (.int p4), .val (.int p5), .val (.int (p5 &&& (3 : Int32))), .val (.int (((p5.toUInt32 >>> ((2 : Int32) &&& 31).toUInt32).toInt32) &&& (3 : Int32))), .val (.int (((p5.toUInt32 >>> ((4 : Int32) &&& 31).toUInt32).toInt32) &&& (3 : Int32))), .val (.ref b2), .val (.ref b8), .unset, .unset, .unset] [(.int (((p1.toUInt32 >>> ((16 : Int32) &&& 31).toUInt32).toInt32).toUInt32.toUInt16.toUInt32.toInt32)), (.int 1), (.ref b2)])) rfl rfl (hb hby at_49)
  have CS23 := CHr.wr W22 (Safe.arr hZ.alike Ar22 nofun) CR16.1
  have CR23 := CR16.trans CS23
  have Z24 := Nat.le_trans Z17 (Keep.of_wr W22).1
  have hk25 := Nat.le_trans hk18 (Keep.of_wr W22).1
  have Od26 := Od19.wr W22 g_b2
  have V22 : Arv Z h22 b2 kk2 .char (3 : Int32) [(.int ((p1 &&& (65535 : Int32)).toUInt32.toUInt16.toUInt32.toInt32)), (.int ((((p1.toUInt32 >>> ((16 : Int32) &&& 31).toUInt32).toInt32).toUInt32.toUInt16.toUInt32.toInt32).toUInt32.toUInt16.toUInt32.toInt32)), (.int (0 : Int32))] (.int (0 : Int32)) := Arv.set Ar22 q22 Sz22 Ng22 Hs22 Gs22 (fits_nar_char _) W22 1 rfl (Nat.le_of_ble_eq_true rfl)
  rw [(show ((((p1.toUInt32 >>> ((16 : Int32) &&& 31).toUInt32).toInt32).toUInt32.toUInt16.toUInt32.toInt32).toUInt32.toUInt16.toUInt32.toInt32) = (((p1.toUInt32 >>> ((16 : Int32) &&& 31).toUInt32).toInt32).toUInt32.toUInt16.toUInt32.toInt32) from own_ck (own_rgc _))] at V22
  have Nf27 := Fr.snoc X22 Nf20 g_b2
  have kn28 : ∀ t, own_S p e below T22 (mkF m 58 #[.val (.int p1), .val (.int p2), .val (.int p3), .val (.int p4), .val (.int p5), .val (.int (p5 &&& (3 : Int32))), .val (.int (((p5.toUInt32 >>> ((2 : Int32) &&& 31).toUInt32).toInt32) &&& (3 : Int32))), .val (.int (((p5.toUInt32 >>> ((4 : Int32) &&& 31).toUInt32).toInt32) &&& (3 : Int32))), .val (.ref b2), .val (.ref b8), .unset, .unset, .unset] [(.int ((p2 &&& (65535 : Int32)).toUInt32.toUInt16.toUInt32.toInt32)), (.int 2), (.ref b2)]) t → Gl t := fun t kt => kn21 t (st22 _ (by
    show own_S p e below T22 (mkF m 50 #[.val (.int p1), .val (.int p2), .val (.int p3), .val (.int p4), .val (.int p5), .val (.int (p5 &&& (3 : Int32))), .val (.int (((p5.toUInt32 >>> ((2 : Int32) &&& 31).toUInt32).toInt32) &&& (3 : Int32))), .val (.int (((p5.toUInt32 >>> ((4 : Int32) &&& 31).toUInt32).toInt32) &&& (3 : Int32))), .val (.ref b2), .val (.ref b8), .unset, .unset, .unset] []) _
    refine XS.aload X22.here hx rfl (hb hby at_50) rfl rfl ?_
    refine XS.iconst X22.here hx rfl (hb hby at_52) ?_
    refine XS.iloadN X22.here hx rfl (hb hby at_53) rfl ?_
    refine X22.ldcInt hx hown (mvT hZ (own_w hw 1 rfl)) (g := (mkF m 54 #[.val (.int p1), .val (.int p2), .val (.int p3), .val (.int p4), .val (.int p5), .val (.int (p5 &&& (3 : Int32))), .val (.int (((p5.toUInt32 >>> ((2 : Int32) &&& 31).toUInt32).toInt32) &&& (3 : Int32))), .val (.int (((p5.toUInt32 >>> ((4 : Int32) &&& 31).toUInt32).toInt32) &&& (3 : Int32))), .val (.ref b2), .val (.ref b8), .unset, .unset, .unset] [(.int p2), (.int 2), (.ref b2)])) rfl (hb hby at_54) _ ?_
    refine XS.iand X22.here hx rfl (hb hby at_56) rfl ?_
    refine XS.i2c X22.here hx rfl (hb hby at_57) rfl ?_
    exact kt))
  obtain ⟨cl29, Ar29, q29, Sz29, Ng29, Hs29, Gs29⟩ := id V22
  have hin29 : ¬ ((2 : Int32) < 0 ∨ cl29.slots.size ≤ ((2 : Int32)).toNatClampNeg) := inb_of Sz29 ⟨by decide, by decide⟩
  obtain ⟨T29, h29, X29, e29, W29, st29⟩ := stC X22 hx hZ e22 Ar29 (j := (2 : Int32)) hin29 (g := (mkF m 58 #[.val (.int p1), .val (.int p2), .val (.int p3), .val (.int p4), .val (.int p5), .val (.int (p5 &&& (3 : Int32))), .val (.int (((p5.toUInt32 >>> ((2 : Int32) &&& 31).toUInt32).toInt32) &&& (3 : Int32))), .val (.int (((p5.toUInt32 >>> ((4 : Int32) &&& 31).toUInt32).toInt32) &&& (3 : Int32))), .val (.ref b2), .val (.ref b8), .unset, .unset, .unset] [(.int ((p2 &&& (65535 : Int32)).toUInt32.toUInt16.toUInt32.toInt32)), (.int 2), (.ref b2)])) rfl rfl (hb hby at_58)
  have CS30 := CHr.wr W29 (Safe.arr hZ.alike Ar29 nofun) CR23.1
  have CR30 := CR23.trans CS30
  have Z31 := Nat.le_trans Z24 (Keep.of_wr W29).1
  have hk32 := Nat.le_trans hk25 (Keep.of_wr W29).1
  have Od33 := Od26.wr W29 g_b2
  have V29 : Arv Z h29 b2 kk2 .char (3 : Int32) [(.int ((p1 &&& (65535 : Int32)).toUInt32.toUInt16.toUInt32.toInt32)), (.int (((p1.toUInt32 >>> ((16 : Int32) &&& 31).toUInt32).toInt32).toUInt32.toUInt16.toUInt32.toInt32)), (.int (((p2 &&& (65535 : Int32)).toUInt32.toUInt16.toUInt32.toInt32).toUInt32.toUInt16.toUInt32.toInt32))] (.int (0 : Int32)) := Arv.set Ar29 q29 Sz29 Ng29 Hs29 Gs29 (fits_nar_char _) W29 2 rfl (Nat.le_of_ble_eq_true rfl)
  rw [(show (((p2 &&& (65535 : Int32)).toUInt32.toUInt16.toUInt32.toInt32).toUInt32.toUInt16.toUInt32.toInt32) = ((p2 &&& (65535 : Int32)).toUInt32.toUInt16.toUInt32.toInt32) from own_ck (own_rgc _))] at V29
  have Nf34 := Fr.snoc X29 Nf27 g_b2
  have kn35 : ∀ t, own_S p e below T29 (mkF m 67 #[.val (.int p1), .val (.int p2), .val (.int p3), .val (.int p4), .val (.int p5), .val (.int (p5 &&& (3 : Int32))), .val (.int (((p5.toUInt32 >>> ((2 : Int32) &&& 31).toUInt32).toInt32) &&& (3 : Int32))), .val (.int (((p5.toUInt32 >>> ((4 : Int32) &&& 31).toUInt32).toInt32) &&& (3 : Int32))), .val (.ref b2), .val (.ref b8), .unset, .unset, .unset] [(.int ((p3 &&& (65535 : Int32)).toUInt32.toUInt16.toUInt32.toInt32)), (.int 0), (.ref b8)]) t → Gl t := fun t kt => kn28 t (st29 _ (by
    show own_S p e below T29 (mkF m 59 #[.val (.int p1), .val (.int p2), .val (.int p3), .val (.int p4), .val (.int p5), .val (.int (p5 &&& (3 : Int32))), .val (.int (((p5.toUInt32 >>> ((2 : Int32) &&& 31).toUInt32).toInt32) &&& (3 : Int32))), .val (.int (((p5.toUInt32 >>> ((4 : Int32) &&& 31).toUInt32).toInt32) &&& (3 : Int32))), .val (.ref b2), .val (.ref b8), .unset, .unset, .unset] []) _
    refine XS.aload X29.here hx rfl (hb hby at_59) rfl rfl ?_
    refine XS.iconst X29.here hx rfl (hb hby at_61) ?_
    refine XS.iloadN X29.here hx rfl (hb hby at_62) rfl ?_
    refine X29.ldcInt hx hown (mvT hZ (own_w hw 1 rfl)) (g := (mkF m 63 #[.val (.int p1), .val (.int p2), .val (.int p3), .val (.int p4), .val (.int p5), .val (.int (p5 &&& (3 : Int32))), .val (.int (((p5.toUInt32 >>> ((2 : Int32) &&& 31).toUInt32).toInt32) &&& (3 : Int32))), .val (.int (((p5.toUInt32 >>> ((4 : Int32) &&& 31).toUInt32).toInt32) &&& (3 : Int32))), .val (.ref b2), .val (.ref b8), .unset, .unset, .unset] [(.int p3), (.int 0), (.ref b8)])) rfl (hb hby at_63) _ ?_
    refine XS.iand X29.here hx rfl (hb hby at_65) rfl ?_
    refine XS.i2c X29.here hx rfl (hb hby at_66) rfl ?_
    exact kt))
  have f36 := (((V8.other W15 (Ne.symm ne_b2_b8)).other W22 (Ne.symm ne_b2_b8)).other W29 (Ne.symm ne_b2_b8))
  obtain ⟨cl37, Ar37, q37, Sz37, Ng37, Hs37, Gs37⟩ := id f36
  have hin37 : ¬ ((0 : Int32) < 0 ∨ cl37.slots.size ≤ ((0 : Int32)).toNatClampNeg) := inb_of Sz37 ⟨by decide, by decide⟩
  obtain ⟨T37, h37, X37, e37, W37, st37⟩ := stC X29 hx hZ e29 Ar37 (j := (0 : Int32)) hin37 (g := (mkF m 67 #[.val (.int p1), .val (.int p2), .val (.int p3), .val (.int p4), .val (.int p5), .val (.int (p5 &&& (3 : Int32))), .val (.int (((p5.toUInt32 >>> ((2 : Int32) &&& 31).toUInt32).toInt32) &&& (3 : Int32))), .val (.int (((p5.toUInt32 >>> ((4 : Int32) &&& 31).toUInt32).toInt32) &&& (3 : Int32))), .val (.ref b2), .val (.ref b8), .unset, .unset, .unset] [(.int ((p3 &&& (65535 : Int32)).toUInt32.toUInt16.toUInt32.toInt32)), (.int 0), (.ref b8)])) rfl rfl (hb hby at_67)
  have CS38 := CHr.wr W37 (Safe.arr hZ.alike Ar37 nofun) CR30.1
  have CR38 := CR30.trans CS38
  have Z39 := Nat.le_trans Z31 (Keep.of_wr W37).1
  have hk40 := Nat.le_trans hk32 (Keep.of_wr W37).1
  have Od41 := Od33.wr W37 g_b8
  have V37 : Arv Z h37 b8 kk8 .char (3 : Int32) [(.int (((p3 &&& (65535 : Int32)).toUInt32.toUInt16.toUInt32.toInt32).toUInt32.toUInt16.toUInt32.toInt32)), (.int (0 : Int32)), (.int (0 : Int32))] (.int (0 : Int32)) := Arv.set Ar37 q37 Sz37 Ng37 Hs37 Gs37 (fits_nar_char _) W37 0 rfl (Nat.le_of_ble_eq_true rfl)
  rw [(show (((p3 &&& (65535 : Int32)).toUInt32.toUInt16.toUInt32.toInt32).toUInt32.toUInt16.toUInt32.toInt32) = ((p3 &&& (65535 : Int32)).toUInt32.toUInt16.toUInt32.toInt32) from own_ck (own_rgc _))] at V37
  have Nf42 := Fr.snoc X37 Nf34 g_b8
  have kn43 : ∀ t, own_S p e below T37 (mkF m 76 #[.val (.int p1), .val (.int p2), .val (.int p3), .val (.int p4), .val (.int p5), .val (.int (p5 &&& (3 : Int32))), .val (.int (((p5.toUInt32 >>> ((2 : Int32) &&& 31).toUInt32).toInt32) &&& (3 : Int32))), .val (.int (((p5.toUInt32 >>> ((4 : Int32) &&& 31).toUInt32).toInt32) &&& (3 : Int32))), .val (.ref b2), .val (.ref b8), .unset, .unset, .unset] [(.int (((p3.toUInt32 >>> ((16 : Int32) &&& 31).toUInt32).toInt32).toUInt32.toUInt16.toUInt32.toInt32)), (.int 1), (.ref b8)]) t → Gl t := fun t kt => kn35 t (st37 _ (by
    show own_S p e below T37 (mkF m 68 #[.val (.int p1), .val (.int p2), .val (.int p3), .val (.int p4), .val (.int p5), .val (.int (p5 &&& (3 : Int32))), .val (.int (((p5.toUInt32 >>> ((2 : Int32) &&& 31).toUInt32).toInt32) &&& (3 : Int32))), .val (.int (((p5.toUInt32 >>> ((4 : Int32) &&& 31).toUInt32).toInt32) &&& (3 : Int32))), .val (.ref b2), .val (.ref b8), .unset, .unset, .unset] []) _
    refine XS.aload X37.here hx rfl (hb hby at_68) rfl rfl ?_
    refine XS.iconst X37.here hx rfl (hb hby at_70) ?_
    refine XS.iloadN X37.here hx rfl (hb hby at_71) rfl ?_
    refine XS.bipush X37.here hx rfl (hb hby at_72) ?_
    refine XS.iushr X37.here hx rfl (hb hby at_74) rfl ?_
    refine XS.i2c X37.here hx rfl (hb hby at_75) rfl ?_
    exact kt))
  obtain ⟨cl44, Ar44, q44, Sz44, Ng44, Hs44, Gs44⟩ := id V37
  have hin44 : ¬ ((1 : Int32) < 0 ∨ cl44.slots.size ≤ ((1 : Int32)).toNatClampNeg) := inb_of Sz44 ⟨by decide, by decide⟩
  obtain ⟨T44, h44, X44, e44, W44, st44⟩ := stC X37 hx hZ e37 Ar44 (j := (1 : Int32)) hin44 (g := (mkF m 76 #[.val (.int p1), .val (.int p2), .val (.int p3), .val (.int p4), .val (.int p5), .val (.int (p5 &&& (3 : Int32))), .val (.int (((p5.toUInt32 >>> ((2 : Int32) &&& 31).toUInt32).toInt32) &&& (3 : Int32))), .val (.int (((p5.toUInt32 >>> ((4 : Int32) &&& 31).toUInt32).toInt32) &&& (3 : Int32))), .val (.ref b2), .val (.ref b8), .unset, .unset, .unset] [(.int (((p3.toUInt32 >>> ((16 : Int32) &&& 31).toUInt32).toInt32).toUInt32.toUInt16.toUInt32.toInt32)), (.int 1), (.ref b8)])) rfl rfl (hb hby at_76)
  have CS45 := CHr.wr W44 (Safe.arr hZ.alike Ar44 nofun) CR38.1
  have CR45 := CR38.trans CS45
  have Z46 := Nat.le_trans Z39 (Keep.of_wr W44).1
  have hk47 := Nat.le_trans hk40 (Keep.of_wr W44).1
  have Od48 := Od41.wr W44 g_b8
  have V44 : Arv Z h44 b8 kk8 .char (3 : Int32) [(.int ((p3 &&& (65535 : Int32)).toUInt32.toUInt16.toUInt32.toInt32)), (.int ((((p3.toUInt32 >>> ((16 : Int32) &&& 31).toUInt32).toInt32).toUInt32.toUInt16.toUInt32.toInt32).toUInt32.toUInt16.toUInt32.toInt32)), (.int (0 : Int32))] (.int (0 : Int32)) := Arv.set Ar44 q44 Sz44 Ng44 Hs44 Gs44 (fits_nar_char _) W44 1 rfl (Nat.le_of_ble_eq_true rfl)
  rw [(show ((((p3.toUInt32 >>> ((16 : Int32) &&& 31).toUInt32).toInt32).toUInt32.toUInt16.toUInt32.toInt32).toUInt32.toUInt16.toUInt32.toInt32) = (((p3.toUInt32 >>> ((16 : Int32) &&& 31).toUInt32).toInt32).toUInt32.toUInt16.toUInt32.toInt32) from own_ck (own_rgc _))] at V44
  have Nf49 := Fr.snoc X44 Nf42 g_b8
  have kn50 : ∀ t, own_S p e below T44 (mkF m 85 #[.val (.int p1), .val (.int p2), .val (.int p3), .val (.int p4), .val (.int p5), .val (.int (p5 &&& (3 : Int32))), .val (.int (((p5.toUInt32 >>> ((2 : Int32) &&& 31).toUInt32).toInt32) &&& (3 : Int32))), .val (.int (((p5.toUInt32 >>> ((4 : Int32) &&& 31).toUInt32).toInt32) &&& (3 : Int32))), .val (.ref b2), .val (.ref b8), .unset, .unset, .unset] [(.int ((p4 &&& (65535 : Int32)).toUInt32.toUInt16.toUInt32.toInt32)), (.int 2), (.ref b8)]) t → Gl t := fun t kt => kn43 t (st44 _ (by
    show own_S p e below T44 (mkF m 77 #[.val (.int p1), .val (.int p2), .val (.int p3), .val (.int p4), .val (.int p5), .val (.int (p5 &&& (3 : Int32))), .val (.int (((p5.toUInt32 >>> ((2 : Int32) &&& 31).toUInt32).toInt32) &&& (3 : Int32))), .val (.int (((p5.toUInt32 >>> ((4 : Int32) &&& 31).toUInt32).toInt32) &&& (3 : Int32))), .val (.ref b2), .val (.ref b8), .unset, .unset, .unset] []) _
    refine XS.aload X44.here hx rfl (hb hby at_77) rfl rfl ?_
    refine XS.iconst X44.here hx rfl (hb hby at_79) ?_
    refine XS.iloadN X44.here hx rfl (hb hby at_80) rfl ?_
    refine X44.ldcInt hx hown (mvT hZ (own_w hw 1 rfl)) (g := (mkF m 81 #[.val (.int p1), .val (.int p2), .val (.int p3), .val (.int p4), .val (.int p5), .val (.int (p5 &&& (3 : Int32))), .val (.int (((p5.toUInt32 >>> ((2 : Int32) &&& 31).toUInt32).toInt32) &&& (3 : Int32))), .val (.int (((p5.toUInt32 >>> ((4 : Int32) &&& 31).toUInt32).toInt32) &&& (3 : Int32))), .val (.ref b2), .val (.ref b8), .unset, .unset, .unset] [(.int p4), (.int 2), (.ref b8)])) rfl (hb hby at_81) _ ?_
    refine XS.iand X44.here hx rfl (hb hby at_83) rfl ?_
    refine XS.i2c X44.here hx rfl (hb hby at_84) rfl ?_
    exact kt))
  obtain ⟨cl51, Ar51, q51, Sz51, Ng51, Hs51, Gs51⟩ := id V44
  have hin51 : ¬ ((2 : Int32) < 0 ∨ cl51.slots.size ≤ ((2 : Int32)).toNatClampNeg) := inb_of Sz51 ⟨by decide, by decide⟩
  obtain ⟨T51, h51, X51, e51, W51, st51⟩ := stC X44 hx hZ e44 Ar51 (j := (2 : Int32)) hin51 (g := (mkF m 85 #[.val (.int p1), .val (.int p2), .val (.int p3), .val (.int p4), .val (.int p5), .val (.int (p5 &&& (3 : Int32))), .val (.int (((p5.toUInt32 >>> ((2 : Int32) &&& 31).toUInt32).toInt32) &&& (3 : Int32))), .val (.int (((p5.toUInt32 >>> ((4 : Int32) &&& 31).toUInt32).toInt32) &&& (3 : Int32))), .val (.ref b2), .val (.ref b8), .unset, .unset, .unset] [(.int ((p4 &&& (65535 : Int32)).toUInt32.toUInt16.toUInt32.toInt32)), (.int 2), (.ref b8)])) rfl rfl (hb hby at_85)
  have CS52 := CHr.wr W51 (Safe.arr hZ.alike Ar51 nofun) CR45.1
  have CR52 := CR45.trans CS52
  have Z53 := Nat.le_trans Z46 (Keep.of_wr W51).1
  have hk54 := Nat.le_trans hk47 (Keep.of_wr W51).1
  have Od55 := Od48.wr W51 g_b8
  have V51 : Arv Z h51 b8 kk8 .char (3 : Int32) [(.int ((p3 &&& (65535 : Int32)).toUInt32.toUInt16.toUInt32.toInt32)), (.int (((p3.toUInt32 >>> ((16 : Int32) &&& 31).toUInt32).toInt32).toUInt32.toUInt16.toUInt32.toInt32)), (.int (((p4 &&& (65535 : Int32)).toUInt32.toUInt16.toUInt32.toInt32).toUInt32.toUInt16.toUInt32.toInt32))] (.int (0 : Int32)) := Arv.set Ar51 q51 Sz51 Ng51 Hs51 Gs51 (fits_nar_char _) W51 2 rfl (Nat.le_of_ble_eq_true rfl)
  rw [(show (((p4 &&& (65535 : Int32)).toUInt32.toUInt16.toUInt32.toInt32).toUInt32.toUInt16.toUInt32.toInt32) = ((p4 &&& (65535 : Int32)).toUInt32.toUInt16.toUInt32.toInt32) from own_ck (own_rgc _))] at V51
  have Nf56 := Fr.snoc X51 Nf49 g_b8
  have f57 := (((V29.other W37 ne_b2_b8).other W44 ne_b2_b8).other W51 ne_b2_b8)
  obtain ⟨s2, o2, t1, t2, t3, t4⟩ := tl1 (n0 := n0) p1 p2 p3 p4 p5 G1 G3 (p5 &&& (3 : Int32)) (((p5.toUInt32 >>> ((2 : Int32) &&& 31).toUInt32).toInt32) &&& (3 : Int32)) (((p5.toUInt32 >>> ((4 : Int32) &&& 31).toUInt32).toInt32) &&& (3 : Int32)) b2 kk2 b8 kk8 ((p1 &&& (65535 : Int32)).toUInt32.toUInt16.toUInt32.toInt32) (((p1.toUInt32 >>> ((16 : Int32) &&& 31).toUInt32).toInt32).toUInt32.toUInt16.toUInt32.toInt32) ((p2 &&& (65535 : Int32)).toUInt32.toUInt16.toUInt32.toInt32) ((p3 &&& (65535 : Int32)).toUInt32.toUInt16.toUInt32.toInt32) (((p3.toUInt32 >>> ((16 : Int32) &&& 31).toUInt32).toInt32).toUInt32.toUInt16.toUInt32.toInt32) ((p4 &&& (65535 : Int32)).toUInt32.toUInt16.toUInt32.toInt32) (X51.mono (by decide) (by decide)) hx hZ hw hby hml hown Bd.returns (BodyLoose.notSynchronized Bd) e51 Nf56 Z53 hSt0 hk54 CR52.1 f57 V51 ne_b2_b8 g_b8 (own_3 _) (own_3 _) (own_rgc _) (own_rgc _) (own_rgc _) (own_rgc _) (own_rgc _) (own_rgc _) Od55 O2 P5 O4 rG3 U1 U2 U3
  exact ⟨s2, o2, hGl _ (kn50 _ (st51 _ (t1))), t2, t3, t4⟩

set_option maxRecDepth 65536 in
set_option maxHeartbeats 40000000 in
theorem comes_1 {Post : Tables → Env → Array Value → State → Outcome → State → Prop} (hpost : ∀ tb e args s v u, (limb_1_1.after args s (.returned v) u = true ∧ limb_1_2.after args s (.returned v) u = true ∧ True) → ReturnedEndW s (.returned v) u (Jvm.fieldLocs frame_1_writes args s ++ Jvm.arrayLocs frame_1_arrays args s ++ Jvm.staticLocs frame_1_statics s) 32 1216 → Post tb e args s (.returned v) u) :
    ArmFor flags0 classFile x code maxLocals ret World_1 tables_1 room_1 Calls_1 rest_1 Pre_1 Post := by
  intro l hfl _ _ p e ha hc hk s m args below hf hA hF happ hP
  obtain ⟨hcalls, hrest, hpre⟩ := hP
  obtain ⟨-, -, -, hnamed, -, -, -, hat⟩ := (Spec.applies_iff hf).mp happ
  obtain ⟨hg, hn⟩ := and_e (Cond.before_iff.mp (show (Jvm.Cond.and given_1 narrow_1).before args s = true from hpre))
  obtain ⟨gc, gr0⟩ := and_e hg
  obtain ⟨ga0, gr1⟩ := and_e gr0
  obtain ⟨ga1, gr2⟩ := and_e gr1
  obtain ⟨ga2, gr3⟩ := and_e gr2
  obtain ⟨ga3, gr4⟩ := and_e gr3
  obtain ⟨w0, w1, w2, w3, w4, rfl⟩ : ∃ w0 w1 w2 w3 w4 : Value, args = #[w0, w1, w2, w3, w4] := by
    have hs : args.size = 5 := by simpa [Cond.value, given_1] using gc
    obtain ⟨L⟩ := args
    match L, hs with
    | [w0, w1, w2, w3, w4], _ => exact ⟨w0, w1, w2, w3, w4, rfl⟩
  have hw := fun d (hd : d ∈ tables_1) => atoms_spec (ws := Jvm.Cond.code x code maxLocals ret :: tables_1) hat d (List.mem_cons_of_mem _ hd)
  have hfit : Fit s := fun {y c} hc i hi => by
    obtain ⟨ha, rfl⟩ := Array.getElem?_eq_some_iff.mp hc
    have q := List.all_eq_true.mp ((Array.all_eq_true_iff_forall_mem.mp hF) _ (Array.getElem_mem ha)) i (List.mem_range.mpr hi)
    simpa [Array.getElem?_eq_getElem hi] using q
  obtain ⟨hsets, hown0⟩ := atoms_of _ (rest_1_c_eq ▸ (show rest_1_c.before _ s = true from hrest))
  have hr0 := Cond.before_iff.mp hown0
  obtain ⟨i0, ei0⟩ := is_v ga0
  obtain rfl : w0 = (.int i0) := Option.some.inj ei0
  obtain ⟨i1, ei1⟩ := is_v ga1
  obtain rfl : w1 = (.int i1) := Option.some.inj ei1
  obtain ⟨i2, ei2⟩ := is_v ga2
  obtain rfl : w2 = (.int i2) := Option.some.inj ei2
  obtain ⟨i3, ei3⟩ := is_v ga3
  obtain rfl : w3 = (.int i3) := Option.some.inj ei3
  obtain ⟨i4, ei4⟩ := is_v gr4
  obtain rfl : w4 = (.int i4) := Option.some.inj ei4
  have n5 := not_v (Cond.before_iff.mp (hsets _ (List.mem_of_getElem? (i := 2) rfl)))
  obtain ⟨G1, e10⟩ := is_v (Cond.before_iff.mp (hsets _ (List.mem_of_getElem? (i := 1) rfl)))
  have S12 : Sta s s.heap "java/lang/String" "COMPACT_STRINGS" "Z" (.int G1) := Sta.start e10 (Or.inl (hsets _ (List.mem_of_getElem? (i := 0) rfl)))
  have c17 : ¬ (G1 = (0 : Int32)) := gotF (Cond.eq_ints e10 (Term.int_eval (0))) n5
  obtain ⟨G3, e14, r15⟩ := isR_v (Cond.before_iff.mp (hsets _ (List.mem_of_getElem? (i := 8) rfl)))
  have S16 : Sta s s.heap "jdk/internal/util/Preconditions" "SIOOBE_FORMATTER" "Ljava/util/function/BiFunction;" G3 := Sta.start e14 (Or.inl (hsets _ (List.mem_of_getElem? (i := 7) rfl)))
  obtain ⟨n, o, h1, h2, h3, _, L, rfl, ⟨rfl, N⟩, hq⟩ := rm0 l s _ hw tables_1 i0 i1 i2 i3 i4 G1 G3 s.heap s.heap.size (Nat.le_refl _) (Old.start s) S12 c17 S16 r15 (Sta.start (own_eqi (Cond.before_iff.mp (hsets _ (List.mem_of_getElem? (i := 12) rfl)))) (Or.inl (hsets _ (List.mem_of_getElem? (i := 11) rfl)))) (Sta.start (own_eqi (Cond.before_iff.mp (hsets _ (List.mem_of_getElem? (i := 15) rfl)))) (Or.inl (hsets _ (List.mem_of_getElem? (i := 14) rfl)))) (Sta.start (own_eqi (Cond.before_iff.mp (hsets _ (List.mem_of_getElem? (i := 18) rfl)))) (Or.inl (hsets _ (List.mem_of_getElem? (i := 17) rfl)))) rfl hcalls.1 (hsets _ (List.mem_of_getElem? (i := 2) rfl)) p e ha hc hk s m _ below hf ((Spec.applies_iff_loose hf).mp happ).1 ⟨rfl, State.Warmed39.refl s, rfl, rfl⟩ trivial
  refine ⟨n, _, h1, h2, h3, hpost _ _ _ _ _ _ ⟨Cond.after_iff.mpr rfl, Cond.after_iff.mpr (eq_i res_at (Term.int_eval (1)) rfl), trivial⟩ ⟨hq.1, hq.2.1, hq.2.2.1, (hq.2.2.2.sift fun y hy => Or.inr (N y hy)).mono (by decide) (by decide)⟩⟩
theorem main_1_1 : Claimed_1_1 := comes_1 fun _ _ _ _ _ _ h hF => ⟨h.1, hF⟩
theorem main_1_2 : Claimed_1_2 := comes_1 fun _ _ _ _ _ _ h hF => ⟨h.2.1, hF⟩

end Jvm.Pilot.@@N@@
namespace Jvm.Pilot.@@N@@
open Jvm Jvm.ClassFile Sem Op Lib Jvm.Free Jvm.Stand Jvm.Pilot.@@N@@.Jvm.D
/-! MADE BY PROGRAM (witnessworld.py) out of the Statement's table words and the real class files: 21 classes; the members and pool entries that the words name. The judged class is class 1, her method 5. -/
namespace start1
open Jvm.ClassFile
def u (s : String) : CpInfo := .utf8 (stringToUtf16 s)
/-- a pool by its gaps: so many unusable entries, then the entry; so many at the end -/
def gap : Nat → List CpInfo → List CpInfo
  | 0, r => r
  | n + 1, r => .unusable :: gap n r
def poolList (es : List (Nat × CpInfo)) (last : Nat) : List CpInfo := es.foldr (fun e r => gap e.1 (e.2 :: r)) (gap last [])
def pool (es : List (Nat × CpInfo)) (last : Nat) : Array CpInfo := ⟨poolList es last⟩
def fileOf (pool : Array CpInfo) (this : Nat) (attrs : Array Attribute := #[]) (ms : Array MethodInfo := #[]) (fl : Nat := 33) (sup : Nat := 0) (ifs : Array Nat := #[]) (fds : Array FieldInfo := #[]) : ClassFile where
  minorVersion := 0
  majorVersion := 65
  constantPool := pool
  accessFlags := fl
  thisClass := this
  superClass := sup
  interfaces := ifs
  fields := fds
  methods := ms
  attributes := attrs
def plain (name : String) (sup : Option ClassId) : Class where
  name := name
  kind := .ordinary
  loader := none
  accessFlags := 33
  super := sup
  interfaces := #[]
  cf := none
  fields := #[]
  methods := #[]
  instanceTypes := #[]
  staticTypes := #[]
  resolved := #[]
  callSites := []
  init := .initialized
  statics := none
  mirror := none

def pool0 : Array CpInfo := pool [(5, u "<init>"), (0, u "()V"), (1, .class_ 10), (1, u "java/lang/Object")] 113

def k0c0 : Code := { maxStack := 0, maxLocals := 1, code := object_method_1_code, exceptionTable := #[], attributes := #[] }
def k0m0 : Method := { name := "<init>", desc := "()V", sig := { parameters := [], returnType := none }, accessFlags := 1, code := some k0c0 }
/-- java/lang/Object -/
def k0 : Class := { plain "java/lang/Object" none with
  accessFlags := 33
  interfaces := #[]
  cf := some (fileOf pool0 8 #[] #[{ accessFlags := 1, nameIndex := 5, descriptorIndex := 6, attributes := #[] }] 33 0 #[] #[])
  fields := #[]
  methods := #[k0m0]
  instanceTypes := #[]
  staticTypes := #[]
  resolved := Array.replicate 124 none
  statics := none }

def pool1 : Array CpInfo := pool [(2, .class_ 4), (1, u "java/lang/Object"), (0, u "<init>"), (0, u "()V"), (0, .integer 55296), (0, .integer 57343), (0, .integer 65536), (0, .methodref 11 12), (0, .class_ 13), (0, .nameAndType 14 15), (0, u "com/example/caddis/caddis/StatementSetComparePinLaw"), (0, u "sgn"), (0, u "(I)I"), (0, .methodref 11 17), (0, .nameAndType 18 19), (0, u "lift"), (0, u "(C)I"), (0, .class_ 21), (0, u "java/lang/String"), (0, .methodref 20 23), (0, .nameAndType 5 24), (0, u "([C)V"), (0, .integer 65535), (0, .methodref 11 27), (0, .nameAndType 28 29), (0, u "make"), (0, u "([CI)Ljava/lang/String;"), (0, .methodref 11 31), (0, .nameAndType 32 33), (0, u "step"), (0, u "([C[CIIII)I"), (0, .methodref 35 36), (0, .class_ 37), (0, .nameAndType 38 39), (0, u "com/example/caddis/caddis/StatementSet"), (0, u "compare"), (0, u "(Ljava/lang/String;Ljava/lang/String;)I"), (3, u "law"), (0, u "(IIIII)Z")] 4

def k1m0 : Method := { name := "<init>", desc := "()V", sig := { parameters := [], returnType := none }, accessFlags := 2, code := none }
def k1c1 : Code := { maxStack := 1, maxLocals := 1, code := method_2_code, exceptionTable := #[], attributes := #[] }
def k1m1 : Method := { name := "sgn", desc := "(I)I", sig := { parameters := [.int], returnType := some .int }, accessFlags := 10, code := some k1c1 }
def k1c2 : Code := { maxStack := 2, maxLocals := 1, code := method_3_code, exceptionTable := #[], attributes := #[] }
def k1m2 : Method := { name := "lift", desc := "(C)I", sig := { parameters := [.char], returnType := some .int }, accessFlags := 10, code := some k1c2 }
def k1c3 : Code := { maxStack := 3, maxLocals := 6, code := method_4_code, exceptionTable := #[], attributes := #[] }
def k1m3 : Method := { name := "step", desc := "([C[CIIII)I", sig := { parameters := [(.array .char), (.array .char), .int, .int, .int, .int], returnType := some .int }, accessFlags := 10, code := some k1c3 }
def k1c4 : Code := { maxStack := 7, maxLocals := 2, code := method_5_code, exceptionTable := #[], attributes := #[] }
def k1m4 : Method := { name := "make", desc := "([CI)Ljava/lang/String;", sig := { parameters := [(.array .char), .int], returnType := some (.object "java/lang/String") }, accessFlags := 10, code := some k1c4 }
def k1c5 : Code := { maxStack := 17, maxLocals := 13, code := code, exceptionTable := #[], attributes := #[] }
def k1m5 : Method := { name := "law", desc := "(IIIII)Z", sig := { parameters := [.int, .int, .int, .int, .int], returnType := some .boolean }, accessFlags := 9, code := some k1c5 }
/-- com/example/caddis/caddis/StatementSetComparePinLaw -/
def k1 : Class := { plain "com/example/caddis/caddis/StatementSetComparePinLaw" (some 0) with
  accessFlags := 49
  interfaces := #[]
  cf := some (fileOf pool1 11 #[] #[{ accessFlags := 2, nameIndex := 5, descriptorIndex := 6, attributes := #[] }, { accessFlags := 10, nameIndex := 14, descriptorIndex := 15, attributes := #[] }, { accessFlags := 10, nameIndex := 18, descriptorIndex := 19, attributes := #[] }, { accessFlags := 10, nameIndex := 32, descriptorIndex := 33, attributes := #[] }, { accessFlags := 10, nameIndex := 28, descriptorIndex := 29, attributes := #[] }, { accessFlags := 9, nameIndex := 43, descriptorIndex := 44, attributes := #[] }] 49 2 #[] #[])
  fields := #[]
  methods := #[k1m0, k1m1, k1m2, k1m3, k1m4, k1m5]
  instanceTypes := #[]
  staticTypes := #[]
  resolved := Array.replicate 49 none
  statics := none }

def pool2 : Array CpInfo := pool [(1, .class_ 2), (0, u "java/io/Serializable"), (0, .class_ 4), (0, u "java/lang/Object")] 2

/-- java/io/Serializable -/
def k2 : Class := { plain "java/io/Serializable" (some 0) with
  accessFlags := 1537
  interfaces := #[]
  cf := some (fileOf pool2 1 #[] #[] 1537 3 #[] #[])
  fields := #[]
  methods := #[]
  instanceTypes := #[]
  staticTypes := #[]
  resolved := Array.replicate 7 none
  statics := none }

def pool3 : Array CpInfo := pool [(1, .class_ 2), (0, u "java/lang/Comparable"), (0, .class_ 4), (0, u "java/lang/Object")] 7

/-- java/lang/Comparable -/
def k3 : Class := { plain "java/lang/Comparable" (some 0) with
  accessFlags := 1537
  interfaces := #[]
  cf := some (fileOf pool3 1 #[] #[] 1537 3 #[] #[])
  fields := #[]
  methods := #[]
  instanceTypes := #[]
  staticTypes := #[]
  resolved := Array.replicate 12 none
  statics := none }

def pool4 : Array CpInfo := pool [(2, .class_ 4), (1, u "java/lang/CharSequence"), (42, .class_ 48), (0, u "java/lang/CharSequence$1CodePointIterator"), (10, .class_ 60), (0, u "java/lang/CharSequence$1CharIterator"), (5, .class_ 67), (0, u "java/lang/Object")] 63

/-- java/lang/CharSequence -/
def k4 : Class := { plain "java/lang/CharSequence" (some 0) with
  accessFlags := 1537
  interfaces := #[]
  cf := some (fileOf pool4 2 #[.nestMembers #[47, 59]] #[] 1537 66 #[] #[])
  fields := #[]
  methods := #[]
  instanceTypes := #[]
  staticTypes := #[]
  resolved := Array.replicate 131 none
  statics := none }

def pool5 : Array CpInfo := pool [(1, .class_ 2), (0, u "java/lang/constant/Constable"), (0, .class_ 4), (0, u "java/lang/Object")] 6

/-- java/lang/constant/Constable -/
def k5 : Class := { plain "java/lang/constant/Constable" (some 0) with
  accessFlags := 1537
  interfaces := #[]
  cf := some (fileOf pool5 1 #[] #[] 1537 3 #[] #[])
  fields := #[]
  methods := #[]
  instanceTypes := #[]
  staticTypes := #[]
  resolved := Array.replicate 11 none
  statics := none }

def pool6 : Array CpInfo := pool [(1, .class_ 2), (0, u "java/lang/constant/ConstantDesc"), (0, .class_ 4), (0, u "java/lang/Object")] 32

/-- java/lang/constant/ConstantDesc -/
def k6 : Class := { plain "java/lang/constant/ConstantDesc" (some 0) with
  accessFlags := 1537
  interfaces := #[]
  cf := some (fileOf pool6 1 #[] #[] 1537 3 #[] #[])
  fields := #[]
  methods := #[]
  instanceTypes := #[]
  staticTypes := #[]
  resolved := Array.replicate 37 none
  statics := none }

def pool7 : Array CpInfo := pool [(1, .methodref 2 3), (0, .class_ 4), (0, .nameAndType 5 6), (0, u "java/lang/Object"), (0, u "<init>"), (0, u "()V"), (0, .string 8), (0, u ""), (0, .fieldref 10 11), (0, .class_ 12), (0, .nameAndType 13 14), (0, u "java/lang/String"), (0, u "value"), (0, u "[B"), (0, .fieldref 10 16), (0, .nameAndType 17 18), (0, u "coder"), (0, u "B"), (2, u "hash"), (0, u "I"), (2, u "hashIsZero"), (0, u "Z"), (0, .methodref 10 28), (0, .nameAndType 5 29), (0, u "([CIILjava/lang/Void;)V"), (8, .fieldref 10 39), (0, .nameAndType 40 26), (0, u "COMPACT_STRINGS"), (1, .class_ 44), (1, u "java/lang/StringUTF16"), (0, u "compress"), (1, .methodref 42 48), (0, .nameAndType 49 50), (0, u "coderFromArrayLen"), (0, u "([BI)B"), (56, .class_ 109), (1, u "java/lang/StringLatin1"), (32, u "()Z"), (34, .methodref 42 178), (0, .nameAndType 45 179), (0, u "([CII)[B"), (154, u "()I"), (0, .methodref 10 336), (0, .nameAndType 17 337), (0, u "()B"), (25, u "([BI)C"), (27, u "(II)V"), (35, u "(I)C"), (64, .methodref 10 493), (0, .nameAndType 494 142), (0, u "isLatin1"), (0, .methodref 107 496), (0, .nameAndType 497 363), (0, u "charAt"), (0, .methodref 42 496), (2, u "checkIndex"), (5, u "length"), (67, .class_ 576), (0, u "java/lang/CharSequence"), (22, u "CASE_INSENSITIVE_ORDER"), (0, u "Ljava/util/Comparator;"), (409, u "([C)V"), (42, .fieldref 1054 1055), (0, .class_ 1056), (0, .nameAndType 1057 1058), (0, u "jdk/internal/util/Preconditions"), (0, u "SIOOBE_FORMATTER"), (0, u "Ljava/util/function/BiFunction;"), (0, .methodref 1054 1060), (0, .nameAndType 501 1061), (0, u "(IILjava/util/function/BiFunction;)I"), (39, u "serialPersistentFields"), (0, u "[Ljava/io/ObjectStreamField;"), (0, .class_ 1104), (0, u "java/lang/String$CaseInsensitiveComparator"), (1, .class_ 1107), (0, u "java/io/Serializable"), (0, .class_ 1109), (0, u "java/lang/Comparable"), (0, .class_ 1111), (0, u "java/lang/constant/Constable"), (0, .class_ 1113), (0, u "java/lang/constant/ConstantDesc"), (2, u "serialVersionUID"), (0, u "J"), (3, u "REPL"), (0, u "C"), (2, u "LATIN1"), (1, u "UTF16")] 323

def k7m0 : Method := { name := "<init>", desc := "()V", sig := { parameters := [], returnType := none }, accessFlags := 1, code := none }
def k7c1 : Code := { maxStack := 5, maxLocals := 2, code := jdk_42_method_3_code, exceptionTable := #[], attributes := #[] }
def k7m1 : Method := { name := "<init>", desc := "([C)V", sig := { parameters := [(.array .char)], returnType := none }, accessFlags := 1, code := some k7c1 }
def k7c2 : Code := { maxStack := 2, maxLocals := 1, code := jdk_42_method_54_code, exceptionTable := #[], attributes := #[] }
def k7m2 : Method := { name := "length", desc := "()I", sig := { parameters := [], returnType := some .int }, accessFlags := 1, code := some k7c2 }
def k7c3 : Code := { maxStack := 2, maxLocals := 2, code := jdk_42_method_56_code, exceptionTable := #[], attributes := #[] }
def k7m3 : Method := { name := "charAt", desc := "(I)C", sig := { parameters := [.int], returnType := some .char }, accessFlags := 1, code := some k7c3 }
def k7c4 : Code := { maxStack := 4, maxLocals := 6, code := jdk_42_method_149_code, exceptionTable := #[], attributes := #[] }
def k7m4 : Method := { name := "<init>", desc := "([CIILjava/lang/Void;)V", sig := { parameters := [(.array .char), .int, .int, (.object "java/lang/Void")], returnType := none }, accessFlags := 2, code := some k7c4 }
def k7c5 : Code := { maxStack := 1, maxLocals := 1, code := jdk_42_method_152_code, exceptionTable := #[], attributes := #[] }
def k7m5 : Method := { name := "coder", desc := "()B", sig := { parameters := [], returnType := some .byte }, accessFlags := 0, code := some k7c5 }
def k7c6 : Code := { maxStack := 1, maxLocals := 1, code := jdk_42_method_154_code, exceptionTable := #[], attributes := #[] }
def k7m6 : Method := { name := "isLatin1", desc := "()Z", sig := { parameters := [], returnType := some .boolean }, accessFlags := 0, code := some k7c6 }
def k7c7 : Code := { maxStack := 3, maxLocals := 2, code := jdk_42_method_155_code, exceptionTable := #[], attributes := #[] }
def k7m7 : Method := { name := "checkIndex", desc := "(II)V", sig := { parameters := [.int, .int], returnType := none }, accessFlags := 8, code := some k7c7 }
/-- java/lang/String -/
def k7 : Class := { plain "java/lang/String" (some 0) with
  accessFlags := 49
  interfaces := #[2, 3, 4, 5, 6]
  cf := some (fileOf pool7 10 #[.nestMembers #[1103]] #[{ accessFlags := 1, nameIndex := 5, descriptorIndex := 6, attributes := #[] }, { accessFlags := 1, nameIndex := 5, descriptorIndex := 1010, attributes := #[] }, { accessFlags := 1, nameIndex := 507, descriptorIndex := 334, attributes := #[] }, { accessFlags := 1, nameIndex := 497, descriptorIndex := 427, attributes := #[] }, { accessFlags := 2, nameIndex := 5, descriptorIndex := 29, attributes := #[] }, { accessFlags := 0, nameIndex := 17, descriptorIndex := 337, attributes := #[] }, { accessFlags := 0, nameIndex := 494, descriptorIndex := 142, attributes := #[] }, { accessFlags := 8, nameIndex := 501, descriptorIndex := 391, attributes := #[] }] 49 2 #[1106, 1108, 575, 1110, 1112] #[{ accessFlags := 18, nameIndex := 13, descriptorIndex := 14, attributes := #[] }, { accessFlags := 18, nameIndex := 17, descriptorIndex := 18, attributes := #[] }, { accessFlags := 2, nameIndex := 21, descriptorIndex := 22, attributes := #[] }, { accessFlags := 2, nameIndex := 25, descriptorIndex := 26, attributes := #[] }, { accessFlags := 26, nameIndex := 1116, descriptorIndex := 1117, attributes := #[] }, { accessFlags := 24, nameIndex := 40, descriptorIndex := 26, attributes := #[] }, { accessFlags := 26, nameIndex := 1101, descriptorIndex := 1102, attributes := #[] }, { accessFlags := 26, nameIndex := 1121, descriptorIndex := 1122, attributes := #[] }, { accessFlags := 25, nameIndex := 599, descriptorIndex := 600, attributes := #[] }, { accessFlags := 24, nameIndex := 1125, descriptorIndex := 18, attributes := #[] }, { accessFlags := 24, nameIndex := 1127, descriptorIndex := 18, attributes := #[] }])
  fields := #[{ name := "value", type := (.array .byte), accessFlags := 18, slot := 0, constantValue := 0 }, { name := "coder", type := .byte, accessFlags := 18, slot := 1, constantValue := 0 }, { name := "hash", type := .int, accessFlags := 2, slot := 2, constantValue := 0 }, { name := "hashIsZero", type := .boolean, accessFlags := 2, slot := 3, constantValue := 0 }, { name := "serialVersionUID", type := .long, accessFlags := 26, slot := 0, constantValue := 0 }, { name := "COMPACT_STRINGS", type := .boolean, accessFlags := 24, slot := 1, constantValue := 0 }, { name := "serialPersistentFields", type := (.array (.object "java/io/ObjectStreamField")), accessFlags := 26, slot := 2, constantValue := 0 }, { name := "REPL", type := .char, accessFlags := 26, slot := 3, constantValue := 0 }, { name := "CASE_INSENSITIVE_ORDER", type := (.object "java/util/Comparator"), accessFlags := 25, slot := 4, constantValue := 0 }, { name := "LATIN1", type := .byte, accessFlags := 24, slot := 5, constantValue := 0 }, { name := "UTF16", type := .byte, accessFlags := 24, slot := 6, constantValue := 0 }]
  methods := #[k7m0, k7m1, k7m2, k7m3, k7m4, k7m5, k7m6, k7m7]
  instanceTypes := #[(.array .byte), .byte, .int, .boolean]
  staticTypes := #[.long, .boolean, (.array (.object "java/io/ObjectStreamField")), .char, (.object "java/util/Comparator"), .byte, .byte]
  resolved := Array.replicate 1451 none
  statics := some 0 }

def pool8 : Array CpInfo := pool [(1, .class_ 2), (0, u "java/lang/AutoCloseable"), (0, .class_ 4), (0, u "java/lang/Object")] 7

/-- java/lang/AutoCloseable -/
def k8 : Class := { plain "java/lang/AutoCloseable" (some 0) with
  accessFlags := 1537
  interfaces := #[]
  cf := some (fileOf pool8 1 #[] #[] 1537 3 #[] #[])
  fields := #[]
  methods := #[]
  instanceTypes := #[]
  staticTypes := #[]
  resolved := Array.replicate 12 none
  statics := none }

def pool9 : Array CpInfo := pool [(1, .class_ 2), (0, u "java/io/Closeable"), (0, .class_ 4), (0, u "java/lang/Object"), (0, .class_ 6), (0, u "java/lang/AutoCloseable")] 7

/-- java/io/Closeable -/
def k9 : Class := { plain "java/io/Closeable" (some 0) with
  accessFlags := 1537
  interfaces := #[8]
  cf := some (fileOf pool9 1 #[] #[] 1537 3 #[5] #[])
  fields := #[]
  methods := #[]
  instanceTypes := #[]
  staticTypes := #[]
  resolved := Array.replicate 14 none
  statics := none }

def pool10 : Array CpInfo := pool [(2, .class_ 4), (1, u "java/lang/Object"), (3, .class_ 10), (1, u "com/example/caddis/caddis/StatementSet"), (0, u "inMemory"), (0, u "Ljava/util/List;"), (2, u "runs"), (0, .class_ 17), (0, u "com/example/caddis/caddis/StatementSet$Builder"), (80, .methodref 99 100), (0, .class_ 101), (0, .nameAndType 102 103), (0, u "java/lang/String"), (0, u "length"), (0, u "()I"), (0, .methodref 105 106), (0, .class_ 107), (0, .nameAndType 108 109), (0, u "java/lang/Math"), (0, u "min"), (0, u "(II)I"), (0, .methodref 99 111), (0, .nameAndType 112 113), (0, u "charAt"), (0, u "(I)C"), (0, .methodref 8 115), (0, .nameAndType 116 117), (0, u "codePointRank"), (0, u "(C)I"), (0, .integer 57344), (2, .integer 55296), (4, u "compare"), (4, .class_ 132), (0, u "com/example/caddis/caddis/StatementSet$Cursor"), (3, .class_ 137), (0, u "com/example/caddis/caddis/StatementSet$Head"), (4, .class_ 143), (0, u "com/example/caddis/caddis/StatementSet$Union"), (3, .class_ 148), (0, u "com/example/caddis/caddis/StatementSet$Difference"), (87, .class_ 237), (0, u "com/example/caddis/caddis/StatementSet$RunStream"), (18, .class_ 257), (0, u "java/io/Closeable"), (7, u "(Ljava/lang/String;Ljava/lang/String;)I"), (9, u "CHARS_IN_MEMORY"), (0, u "J"), (1, u "RUNS_PER_MERGE"), (0, u "I"), (1, u "BUFFER_SIZE")] 94

def k10c0 : Code := { maxStack := 2, maxLocals := 6, code := prog_43_method_7_code, exceptionTable := #[], attributes := #[] }
def k10m0 : Method := { name := "compare", desc := "(Ljava/lang/String;Ljava/lang/String;)I", sig := { parameters := [(.object "java/lang/String"), (.object "java/lang/String")], returnType := some .int }, accessFlags := 8, code := some k10c0 }
def k10c1 : Code := { maxStack := 2, maxLocals := 2, code := prog_43_method_8_code, exceptionTable := #[], attributes := #[] }
def k10m1 : Method := { name := "codePointRank", desc := "(C)I", sig := { parameters := [.char], returnType := some .int }, accessFlags := 10, code := some k10c1 }
/-- com/example/caddis/caddis/StatementSet -/
def k10 : Class := { plain "com/example/caddis/caddis/StatementSet" (some 0) with
  accessFlags := 48
  interfaces := #[9]
  cf := some (fileOf pool10 8 #[.nestMembers #[236, 147, 142, 136, 16, 131]] #[{ accessFlags := 8, nameIndex := 126, descriptorIndex := 265, attributes := #[] }, { accessFlags := 10, nameIndex := 116, descriptorIndex := 117, attributes := #[] }] 48 2 #[256] #[{ accessFlags := 24, nameIndex := 275, descriptorIndex := 276, attributes := #[] }, { accessFlags := 26, nameIndex := 278, descriptorIndex := 279, attributes := #[] }, { accessFlags := 26, nameIndex := 281, descriptorIndex := 279, attributes := #[] }, { accessFlags := 18, nameIndex := 11, descriptorIndex := 12, attributes := #[] }, { accessFlags := 18, nameIndex := 15, descriptorIndex := 12, attributes := #[] }])
  fields := #[{ name := "CHARS_IN_MEMORY", type := .long, accessFlags := 24, slot := 0, constantValue := 0 }, { name := "RUNS_PER_MERGE", type := .int, accessFlags := 26, slot := 1, constantValue := 0 }, { name := "BUFFER_SIZE", type := .int, accessFlags := 26, slot := 2, constantValue := 0 }, { name := "inMemory", type := (.object "java/util/List"), accessFlags := 18, slot := 0, constantValue := 0 }, { name := "runs", type := (.object "java/util/List"), accessFlags := 18, slot := 1, constantValue := 0 }]
  methods := #[k10m0, k10m1]
  instanceTypes := #[(.object "java/util/List"), (.object "java/util/List")]
  staticTypes := #[.long, .int, .int]
  resolved := Array.replicate 376 none
  statics := none }

def pool11 : Array CpInfo := pool [(1, .class_ 2), (0, u "java/lang/Math"), (1, .class_ 6), (1, u "java/lang/Object"), (0, u "<init>"), (0, u "()V"), (89, .class_ 100), (1, u "java/lang/Math$RandomNumberGeneratorHolder"), (71, u "negativeZeroFloatBits"), (0, u "J"), (2, u "negativeZeroDoubleBits"), (24, u "min"), (43, u "$assertionsDisabled"), (0, u "Z"), (88, u "(II)I"), (2, u "twoToTheDoubleScaleDown"), (0, u "D"), (4, u "twoToTheDoubleScaleUp"), (9, u "E"), (3, u "PI"), (2, u "TAU"), (2, u "DEGREES_TO_RADIANS"), (0, u "RADIANS_TO_DEGREES")] 94

def k11m0 : Method := { name := "<init>", desc := "()V", sig := { parameters := [], returnType := none }, accessFlags := 2, code := none }
def k11c1 : Code := { maxStack := 2, maxLocals := 2, code := jdk_29_method_69_code, exceptionTable := #[], attributes := #[] }
def k11m1 : Method := { name := "min", desc := "(II)I", sig := { parameters := [.int, .int], returnType := some .int }, accessFlags := 9, code := some k11c1 }
/-- java/lang/Math -/
def k11 : Class := { plain "java/lang/Math" (some 0) with
  accessFlags := 49
  interfaces := #[]
  cf := some (fileOf pool11 1 #[.nestMembers #[98]] #[{ accessFlags := 2, nameIndex := 7, descriptorIndex := 8, attributes := #[] }, { accessFlags := 9, nameIndex := 201, descriptorIndex := 335, attributes := #[] }] 49 4 #[] #[{ accessFlags := 25, nameIndex := 354, descriptorIndex := 339, attributes := #[] }, { accessFlags := 25, nameIndex := 358, descriptorIndex := 339, attributes := #[] }, { accessFlags := 25, nameIndex := 361, descriptorIndex := 339, attributes := #[] }, { accessFlags := 26, nameIndex := 364, descriptorIndex := 339, attributes := #[] }, { accessFlags := 26, nameIndex := 365, descriptorIndex := 339, attributes := #[] }, { accessFlags := 26, nameIndex := 172, descriptorIndex := 173, attributes := #[] }, { accessFlags := 26, nameIndex := 176, descriptorIndex := 173, attributes := #[] }, { accessFlags := 8, nameIndex := 344, descriptorIndex := 339, attributes := #[] }, { accessFlags := 8, nameIndex := 338, descriptorIndex := 339, attributes := #[] }, { accessFlags := 4120, nameIndex := 245, descriptorIndex := 246, attributes := #[] }])
  fields := #[{ name := "E", type := .double, accessFlags := 25, slot := 0, constantValue := 0 }, { name := "PI", type := .double, accessFlags := 25, slot := 1, constantValue := 0 }, { name := "TAU", type := .double, accessFlags := 25, slot := 2, constantValue := 0 }, { name := "DEGREES_TO_RADIANS", type := .double, accessFlags := 26, slot := 3, constantValue := 0 }, { name := "RADIANS_TO_DEGREES", type := .double, accessFlags := 26, slot := 4, constantValue := 0 }, { name := "negativeZeroFloatBits", type := .long, accessFlags := 26, slot := 5, constantValue := 0 }, { name := "negativeZeroDoubleBits", type := .long, accessFlags := 26, slot := 6, constantValue := 0 }, { name := "twoToTheDoubleScaleUp", type := .double, accessFlags := 8, slot := 7, constantValue := 0 }, { name := "twoToTheDoubleScaleDown", type := .double, accessFlags := 8, slot := 8, constantValue := 0 }, { name := "$assertionsDisabled", type := .boolean, accessFlags := 4120, slot := 9, constantValue := 0 }]
  methods := #[k11m0, k11m1]
  instanceTypes := #[]
  staticTypes := #[.double, .double, .double, .double, .double, .long, .long, .double, .double, .boolean]
  resolved := Array.replicate 460 none
  statics := none }

def pool12 : Array CpInfo := pool [(3, .class_ 4), (0, u "java/lang/String"), (1, .class_ 8), (1, u "java/lang/Object"), (0, u "<init>"), (0, u "()V"), (0, .methodref 12 13), (0, .class_ 14), (0, .nameAndType 15 16), (0, u "java/lang/StringUTF16"), (0, u "newBytesLength"), (0, u "(I)I"), (3, .integer 1073741823), (23, .fieldref 12 45), (0, .nameAndType 46 47), (0, u "$assertionsDisabled"), (0, u "Z"), (0, .methodref 12 49), (0, .nameAndType 50 51), (0, u "length"), (0, u "([B)I"), (7, .fieldref 12 60), (0, .nameAndType 61 62), (0, u "HI_BYTE_SHIFT"), (0, u "I"), (0, .fieldref 12 64), (0, .nameAndType 65 62), (0, u "LO_BYTE_SHIFT"), (1, .methodref 12 68), (0, .nameAndType 69 70), (0, u "checkIndex"), (0, u "(I[B)V"), (0, .methodref 12 72), (0, .nameAndType 73 74), (0, u "getChar"), (0, u "([BI)C"), (32, .methodref 12 108), (0, .nameAndType 109 110), (0, u "newBytesFor"), (0, u "(I)[B"), (0, .methodref 12 112), (0, .nameAndType 113 114), (0, u "putChar"), (0, u "([BII)V"), (0, .methodref 12 116), (0, .nameAndType 117 118), (0, u "compress"), (0, u "([CI[BII)I"), (0, .methodref 12 120), (0, .nameAndType 121 122), (0, u "toBytes"), (0, u "([CII)[B"), (138, u "coderFromArrayLen"), (0, u "([BI)B"), (106, .class_ 371), (1, u "java/lang/StringUTF16$LinesSpliterator"), (20, u "charAt"), (21, .methodref 3 415), (0, .nameAndType 69 416), (0, u "(II)V"), (13, u "MAX_LENGTH"), (196, .class_ 628), (0, u "java/lang/StringUTF16$CodePointsSpliterator"), (0, .class_ 630), (0, u "java/lang/StringUTF16$CharsSpliterator")] 4

def k12m0 : Method := { name := "<init>", desc := "()V", sig := { parameters := [], returnType := none }, accessFlags := 0, code := none }
def k12c1 : Code := { maxStack := 1, maxLocals := 1, code := jdk_52_method_2_code, exceptionTable := #[], attributes := #[] }
def k12m1 : Method := { name := "newBytesFor", desc := "(I)[B", sig := { parameters := [.int], returnType := some (.array .byte) }, accessFlags := 9, code := some k12c1 }
def k12c2 : Code := { maxStack := 4, maxLocals := 1, code := jdk_52_method_3_code, exceptionTable := #[], attributes := #[] }
def k12m2 : Method := { name := "newBytesLength", desc := "(I)I", sig := { parameters := [.int], returnType := some .int }, accessFlags := 9, code := some k12c2 }
def k12c3 : Code := { maxStack := 4, maxLocals := 3, code := jdk_52_method_4_code, exceptionTable := #[], attributes := #[] }
def k12m3 : Method := { name := "putChar", desc := "([BII)V", sig := { parameters := [(.array .byte), .int, .int], returnType := none }, accessFlags := 8, code := some k12c3 }
def k12c4 : Code := { maxStack := 3, maxLocals := 2, code := jdk_52_method_5_code, exceptionTable := #[], attributes := #[] }
def k12m4 : Method := { name := "getChar", desc := "([BI)C", sig := { parameters := [(.array .byte), .int], returnType := some .char }, accessFlags := 8, code := some k12c4 }
def k12c5 : Code := { maxStack := 2, maxLocals := 1, code := jdk_52_method_6_code, exceptionTable := #[], attributes := #[] }
def k12m5 : Method := { name := "length", desc := "([B)I", sig := { parameters := [(.array .byte)], returnType := some .int }, accessFlags := 9, code := some k12c5 }
def k12c6 : Code := { maxStack := 4, maxLocals := 5, code := jdk_52_method_14_code, exceptionTable := #[], attributes := #[] }
def k12m6 : Method := { name := "toBytes", desc := "([CII)[B", sig := { parameters := [(.array .char), .int, .int], returnType := some (.array .byte) }, accessFlags := 9, code := some k12c6 }
def k12c7 : Code := { maxStack := 2, maxLocals := 2, code := jdk_52_method_15_code, exceptionTable := #[], attributes := #[] }
def k12m7 : Method := { name := "coderFromArrayLen", desc := "([BI)B", sig := { parameters := [(.array .byte), .int], returnType := some .byte }, accessFlags := 8, code := some k12c7 }
def k12c8 : Code := { maxStack := 5, maxLocals := 6, code := jdk_52_method_16_code, exceptionTable := #[], attributes := #[] }
def k12m8 : Method := { name := "compress", desc := "([CII)[B", sig := { parameters := [(.array .char), .int, .int], returnType := some (.array .byte) }, accessFlags := 9, code := some k12c8 }
def k12c9 : Code := { maxStack := 3, maxLocals := 7, code := jdk_52_method_21_code, exceptionTable := #[], attributes := #[] }
def k12m9 : Method := { name := "compress", desc := "([CI[BII)I", sig := { parameters := [(.array .char), .int, (.array .byte), .int, .int], returnType := some .int }, accessFlags := 9, code := some k12c9 }
def k12c10 : Code := { maxStack := 2, maxLocals := 2, code := jdk_52_method_83_code, exceptionTable := #[], attributes := #[] }
def k12m10 : Method := { name := "charAt", desc := "([BI)C", sig := { parameters := [(.array .byte), .int], returnType := some .char }, accessFlags := 9, code := some k12c10 }
def k12c11 : Code := { maxStack := 2, maxLocals := 2, code := jdk_52_method_91_code, exceptionTable := #[], attributes := #[] }
def k12m11 : Method := { name := "checkIndex", desc := "(I[B)V", sig := { parameters := [.int, (.array .byte)], returnType := none }, accessFlags := 9, code := some k12c11 }
/-- java/lang/StringUTF16 -/
def k12 : Class := { plain "java/lang/StringUTF16" (some 0) with
  accessFlags := 48
  interfaces := #[]
  cf := some (fileOf pool12 12 #[.nestMembers #[627, 629, 369]] #[{ accessFlags := 0, nameIndex := 9, descriptorIndex := 10, attributes := #[] }, { accessFlags := 9, nameIndex := 109, descriptorIndex := 110, attributes := #[] }, { accessFlags := 9, nameIndex := 15, descriptorIndex := 16, attributes := #[] }, { accessFlags := 8, nameIndex := 113, descriptorIndex := 114, attributes := #[] }, { accessFlags := 8, nameIndex := 73, descriptorIndex := 74, attributes := #[] }, { accessFlags := 9, nameIndex := 50, descriptorIndex := 51, attributes := #[] }, { accessFlags := 9, nameIndex := 121, descriptorIndex := 122, attributes := #[] }, { accessFlags := 8, nameIndex := 261, descriptorIndex := 262, attributes := #[] }, { accessFlags := 9, nameIndex := 117, descriptorIndex := 122, attributes := #[] }, { accessFlags := 9, nameIndex := 117, descriptorIndex := 118, attributes := #[] }, { accessFlags := 9, nameIndex := 392, descriptorIndex := 74, attributes := #[] }, { accessFlags := 9, nameIndex := 69, descriptorIndex := 70, attributes := #[] }] 48 6 #[] #[{ accessFlags := 26, nameIndex := 61, descriptorIndex := 62, attributes := #[] }, { accessFlags := 26, nameIndex := 65, descriptorIndex := 62, attributes := #[] }, { accessFlags := 24, nameIndex := 430, descriptorIndex := 62, attributes := #[] }, { accessFlags := 4120, nameIndex := 46, descriptorIndex := 47, attributes := #[] }])
  fields := #[{ name := "HI_BYTE_SHIFT", type := .int, accessFlags := 26, slot := 0, constantValue := 0 }, { name := "LO_BYTE_SHIFT", type := .int, accessFlags := 26, slot := 1, constantValue := 0 }, { name := "MAX_LENGTH", type := .int, accessFlags := 24, slot := 2, constantValue := 0 }, { name := "$assertionsDisabled", type := .boolean, accessFlags := 4120, slot := 3, constantValue := 0 }]
  methods := #[k12m0, k12m1, k12m2, k12m3, k12m4, k12m5, k12m6, k12m7, k12m8, k12m9, k12m10, k12m11]
  instanceTypes := #[]
  staticTypes := #[.int, .int, .int, .boolean]
  resolved := Array.replicate 635 none
  statics := some 1 }

def pool13 : Array CpInfo := pool [(1, .class_ 2), (0, u "java/lang/String"), (1, .class_ 6), (1, u "java/lang/Object"), (0, u "<init>"), (0, u "()V"), (0, .methodref 1 10), (0, .nameAndType 11 12), (0, u "checkIndex"), (0, u "(II)V"), (1, .class_ 16), (1, u "java/lang/StringLatin1"), (36, u "([BI)C"), (67, u "$assertionsDisabled"), (0, u "Z"), (98, .class_ 223), (1, u "java/lang/StringLatin1$LinesSpliterator"), (28, u "charAt"), (137, .class_ 391), (0, u "java/lang/StringLatin1$CharsSpliterator")] 3

def k13m0 : Method := { name := "<init>", desc := "()V", sig := { parameters := [], returnType := none }, accessFlags := 0, code := none }
def k13c1 : Code := { maxStack := 2, maxLocals := 2, code := jdk_43_method_2_code, exceptionTable := #[], attributes := #[] }
def k13m1 : Method := { name := "charAt", desc := "([BI)C", sig := { parameters := [(.array .byte), .int], returnType := some .char }, accessFlags := 9, code := some k13c1 }
/-- java/lang/StringLatin1 -/
def k13 : Class := { plain "java/lang/StringLatin1" (some 0) with
  accessFlags := 48
  interfaces := #[]
  cf := some (fileOf pool13 14 #[.nestMembers #[390, 221]] #[{ accessFlags := 0, nameIndex := 7, descriptorIndex := 8, attributes := #[] }, { accessFlags := 9, nameIndex := 252, descriptorIndex := 53, attributes := #[] }] 48 4 #[] #[{ accessFlags := 4120, nameIndex := 121, descriptorIndex := 122, attributes := #[] }])
  fields := #[{ name := "$assertionsDisabled", type := .boolean, accessFlags := 4120, slot := 0, constantValue := 0 }]
  methods := #[k13m0, k13m1]
  instanceTypes := #[]
  staticTypes := #[.boolean]
  resolved := Array.replicate 395 none
  statics := none }

def pool14 : Array CpInfo := pool [(2, .class_ 4), (1, u "java/lang/Object"), (0, u "<init>"), (0, u "()V"), (17, .class_ 26), (1, u "jdk/internal/util/Preconditions"), (6, u "checkIndex"), (21, .class_ 56), (0, u "jdk/internal/util/Preconditions$4"), (57, .class_ 115), (0, u "jdk/internal/util/Preconditions$1"), (7, u "SIOOBE_FORMATTER"), (0, u "Ljava/util/function/BiFunction;"), (0, .class_ 126), (0, u "jdk/internal/util/Preconditions$2"), (3, u "AIOOBE_FORMATTER"), (0, .class_ 132), (0, u "jdk/internal/util/Preconditions$3"), (3, u "IOOBE_FORMATTER"), (41, u "(IILjava/util/function/BiFunction;)I")] 15

def k14m0 : Method := { name := "<init>", desc := "()V", sig := { parameters := [], returnType := none }, accessFlags := 1, code := none }
def k14c1 : Code := { maxStack := 3, maxLocals := 3, code := jdk_41_method_11_code, exceptionTable := #[], attributes := #[] }
def k14m1 : Method := { name := "checkIndex", desc := "(IILjava/util/function/BiFunction;)I", sig := { parameters := [.int, .int, (.object "java/util/function/BiFunction")], returnType := some .int }, accessFlags := 9, code := some k14c1 }
/-- jdk/internal/util/Preconditions -/
def k14 : Class := { plain "jdk/internal/util/Preconditions" (some 0) with
  accessFlags := 33
  interfaces := #[]
  cf := some (fileOf pool14 24 #[.nestMembers #[55, 131, 125, 114]] #[{ accessFlags := 1, nameIndex := 5, descriptorIndex := 6, attributes := #[] }, { accessFlags := 9, nameIndex := 33, descriptorIndex := 178, attributes := #[] }] 33 2 #[] #[{ accessFlags := 25, nameIndex := 123, descriptorIndex := 124, attributes := #[] }, { accessFlags := 25, nameIndex := 130, descriptorIndex := 124, attributes := #[] }, { accessFlags := 25, nameIndex := 136, descriptorIndex := 124, attributes := #[] }])
  fields := #[{ name := "SIOOBE_FORMATTER", type := (.object "java/util/function/BiFunction"), accessFlags := 25, slot := 0, constantValue := 0 }, { name := "AIOOBE_FORMATTER", type := (.object "java/util/function/BiFunction"), accessFlags := 25, slot := 1, constantValue := 0 }, { name := "IOOBE_FORMATTER", type := (.object "java/util/function/BiFunction"), accessFlags := 25, slot := 2, constantValue := 0 }]
  methods := #[k14m0, k14m1]
  instanceTypes := #[]
  staticTypes := #[(.object "java/util/function/BiFunction"), (.object "java/util/function/BiFunction"), (.object "java/util/function/BiFunction")]
  resolved := Array.replicate 194 none
  statics := some 2 }

def pool15 : Array CpInfo := pool [(9, u "<init>"), (6, .class_ 18), (1, u "java/lang/Object"), (0, u "()V"), (1, .class_ 23), (1, u "jdk/internal/util/ArraysSupport"), (0, u "LOG2_ARRAY_LONG_INDEX_SCALE"), (0, u "I"), (2, u "U"), (0, u "Ljdk/internal/misc/Unsafe;"), (8, u "BIG_ENDIAN"), (0, u "Z"), (8, u "LOG2_BYTE_BIT_SIZE"), (4, u "LOG2_ARRAY_INT_INDEX_SCALE"), (54, u "JLA"), (0, u "Ljdk/internal/access/JavaLangAccess;"), (11, u "LOG2_ARRAY_BOOLEAN_INDEX_SCALE"), (9, u "LOG2_ARRAY_BYTE_INDEX_SCALE"), (5, u "LOG2_ARRAY_CHAR_INDEX_SCALE"), (5, u "LOG2_ARRAY_SHORT_INDEX_SCALE"), (18, u "LOG2_ARRAY_FLOAT_INDEX_SCALE"), (24, u "LOG2_ARRAY_DOUBLE_INDEX_SCALE"), (89, u "T_BOOLEAN"), (2, u "T_CHAR"), (1, u "T_FLOAT"), (1, u "T_DOUBLE"), (1, u "T_BYTE"), (1, u "T_SHORT"), (1, u "T_INT"), (1, u "T_LONG"), (1, u "SOFT_MAX_ARRAY_LENGTH")] 83

def k15m0 : Method := { name := "<init>", desc := "()V", sig := { parameters := [], returnType := none }, accessFlags := 2, code := none }
/-- jdk/internal/util/ArraysSupport -/
def k15 : Class := { plain "jdk/internal/util/ArraysSupport" (some 0) with
  accessFlags := 33
  interfaces := #[]
  cf := some (fileOf pool15 21 #[] #[{ accessFlags := 2, nameIndex := 9, descriptorIndex := 19, attributes := #[] }] 33 16 #[] #[{ accessFlags := 24, nameIndex := 28, descriptorIndex := 29, attributes := #[] }, { accessFlags := 26, nameIndex := 38, descriptorIndex := 39, attributes := #[] }, { accessFlags := 25, nameIndex := 121, descriptorIndex := 25, attributes := #[] }, { accessFlags := 25, nameIndex := 131, descriptorIndex := 25, attributes := #[] }, { accessFlags := 25, nameIndex := 137, descriptorIndex := 25, attributes := #[] }, { accessFlags := 25, nameIndex := 143, descriptorIndex := 25, attributes := #[] }, { accessFlags := 25, nameIndex := 53, descriptorIndex := 25, attributes := #[] }, { accessFlags := 25, nameIndex := 24, descriptorIndex := 25, attributes := #[] }, { accessFlags := 25, nameIndex := 162, descriptorIndex := 25, attributes := #[] }, { accessFlags := 25, nameIndex := 187, descriptorIndex := 25, attributes := #[] }, { accessFlags := 26, nameIndex := 48, descriptorIndex := 25, attributes := #[] }, { accessFlags := 25, nameIndex := 277, descriptorIndex := 25, attributes := #[] }, { accessFlags := 25, nameIndex := 280, descriptorIndex := 25, attributes := #[] }, { accessFlags := 25, nameIndex := 282, descriptorIndex := 25, attributes := #[] }, { accessFlags := 25, nameIndex := 284, descriptorIndex := 25, attributes := #[] }, { accessFlags := 25, nameIndex := 286, descriptorIndex := 25, attributes := #[] }, { accessFlags := 25, nameIndex := 288, descriptorIndex := 25, attributes := #[] }, { accessFlags := 25, nameIndex := 290, descriptorIndex := 25, attributes := #[] }, { accessFlags := 25, nameIndex := 292, descriptorIndex := 25, attributes := #[] }, { accessFlags := 26, nameIndex := 108, descriptorIndex := 109, attributes := #[] }, { accessFlags := 25, nameIndex := 294, descriptorIndex := 25, attributes := #[] }])
  fields := #[{ name := "U", type := (.object "jdk/internal/misc/Unsafe"), accessFlags := 24, slot := 0, constantValue := 0 }, { name := "BIG_ENDIAN", type := .boolean, accessFlags := 26, slot := 1, constantValue := 0 }, { name := "LOG2_ARRAY_BOOLEAN_INDEX_SCALE", type := .int, accessFlags := 25, slot := 2, constantValue := 0 }, { name := "LOG2_ARRAY_BYTE_INDEX_SCALE", type := .int, accessFlags := 25, slot := 3, constantValue := 0 }, { name := "LOG2_ARRAY_CHAR_INDEX_SCALE", type := .int, accessFlags := 25, slot := 4, constantValue := 0 }, { name := "LOG2_ARRAY_SHORT_INDEX_SCALE", type := .int, accessFlags := 25, slot := 5, constantValue := 0 }, { name := "LOG2_ARRAY_INT_INDEX_SCALE", type := .int, accessFlags := 25, slot := 6, constantValue := 0 }, { name := "LOG2_ARRAY_LONG_INDEX_SCALE", type := .int, accessFlags := 25, slot := 7, constantValue := 0 }, { name := "LOG2_ARRAY_FLOAT_INDEX_SCALE", type := .int, accessFlags := 25, slot := 8, constantValue := 0 }, { name := "LOG2_ARRAY_DOUBLE_INDEX_SCALE", type := .int, accessFlags := 25, slot := 9, constantValue := 0 }, { name := "LOG2_BYTE_BIT_SIZE", type := .int, accessFlags := 26, slot := 10, constantValue := 0 }, { name := "T_BOOLEAN", type := .int, accessFlags := 25, slot := 11, constantValue := 0 }, { name := "T_CHAR", type := .int, accessFlags := 25, slot := 12, constantValue := 0 }, { name := "T_FLOAT", type := .int, accessFlags := 25, slot := 13, constantValue := 0 }, { name := "T_DOUBLE", type := .int, accessFlags := 25, slot := 14, constantValue := 0 }, { name := "T_BYTE", type := .int, accessFlags := 25, slot := 15, constantValue := 0 }, { name := "T_SHORT", type := .int, accessFlags := 25, slot := 16, constantValue := 0 }, { name := "T_INT", type := .int, accessFlags := 25, slot := 17, constantValue := 0 }, { name := "T_LONG", type := .int, accessFlags := 25, slot := 18, constantValue := 0 }, { name := "JLA", type := (.object "jdk/internal/access/JavaLangAccess"), accessFlags := 26, slot := 19, constantValue := 0 }, { name := "SOFT_MAX_ARRAY_LENGTH", type := .int, accessFlags := 25, slot := 20, constantValue := 0 }]
  methods := #[k15m0]
  instanceTypes := #[]
  staticTypes := #[(.object "jdk/internal/misc/Unsafe"), .boolean, .int, .int, .int, .int, .int, .int, .int, .int, .int, .int, .int, .int, .int, .int, .int, .int, .int, (.object "jdk/internal/access/JavaLangAccess"), .int]
  resolved := Array.replicate 378 none
  statics := none }

def pool16 : Array CpInfo := pool [(1, u "java/lang/Cloneable"), (0, .class_ 1), (0, u "java/lang/Object"), (0, .class_ 3)] 3

/-- java/lang/Cloneable -/
def k16 : Class := { plain "java/lang/Cloneable" (some 0) with
  accessFlags := 1537
  interfaces := #[]
  cf := some (fileOf pool16 2 #[] #[] 1537 4 #[] #[])
  fields := #[]
  methods := #[]
  instanceTypes := #[]
  staticTypes := #[]
  resolved := Array.replicate 8 none
  statics := none }

/-- the primitive byte -/
def k17 : Class := { plain "byte" none with kind := .primitive 'B', accessFlags := 0x411 }
/-- [B -/
def k18 : Class := { plain "[B" (some 0) with kind := .array 17 .byte, interfaces := #[16, 2], accessFlags := 1041 }

/-- the primitive char -/
def k19 : Class := { plain "char" none with kind := .primitive 'C', accessFlags := 0x411 }
/-- [C -/
def k20 : Class := { plain "[C" (some 0) with kind := .array 19 .char, interfaces := #[16, 2], accessFlags := 1041 }

def heap : Heap := #[{ cls := 7, slots := #[.long 0, .int 1, .null, .int 0, .null, .int 0, .int 0], vm := .statics 7 },
  { cls := 12, slots := #[.int 0, .int 8, .int 0, .int 1], vm := .statics 12 },
  { cls := 14, slots := #[.null, .null, .null], vm := .statics 14 }]
def classes : Array Class := #[k0, k1, k2, k3, k4, k5, k6, k7, k8, k9, k10, k11, k12, k13, k14, k15, k16, k17, k18, k19, k20]
def interned : List (Array UInt16 × Addr) := []
def slotsUsed : Nat := 14
def theMethod : MethodId := ⟨1, 5⟩
def args0 : Array Value := #[.int 1, .int 2, .int 3, .int 4, .int 5]
def aboutOver (below : List Frame) : State where
  vm := { classes := classes, interned := interned.toArray }
  heap := heap
  slotsUsed := slotsUsed
  threads := #[{ frames := .invoking theMethod args0 :: below }]
def below0 : List Frame := [.native { method := ⟨0, 0⟩, args := #[] }]
def about1 : State := aboutOver below0
def p0 : Program := .bare "" "" ""
def e0 : Env := launch0.env 0 0 0
theorem w_frames : about1.frames = Frame.invoking theMethod args0 :: below0 := rfl
set_option maxRecDepth 65536 in
theorem w_args : argsFit about1.vm theMethod args0 = true := by decide +kernel
set_option maxRecDepth 65536 in
theorem w_heap : heapFits about1 = true := by decide +kernel
set_option maxRecDepth 65536 in
theorem w_runnable : about1.curStatus? = some .runnable := by decide +kernel
set_option maxRecDepth 65536 in
theorem w_alone : about1.alone = true := by decide +kernel
set_option maxRecDepth 65536 in
theorem w_named : about1.methodNamed? x = some theMethod := by decide +kernel
set_option maxRecDepth 65536 in
theorem w_hears : about1.hears theMethod below0 = true := by decide +kernel
set_option maxRecDepth 65536 in
theorem w_ripe : about1.ripe theMethod args0 below0 = true := by decide +kernel
theorem w_running : about1.status = .running := rfl
set_option maxRecDepth 65536 in
theorem w_room : about1.hasRoom e0.platform room_1 = true :=
  launch0.hasRoom_least _ room_1 (by decide +kernel) (by decide +kernel) (by decide +kernel) (by decide +kernel) (by decide +kernel) (by decide +kernel)
theorem allAtoms_all (ts : List Jvm.Cond) (a : Array Jvm.Value) (st : Jvm.State) : (allAtoms ts).before a st = ts.all (fun c => c.before a st) := by
  induction ts with
  | nil => rfl
  | cons c t ih =>
    show (Jvm.Cond.and c (allAtoms t)).before a st = _
    rw [Jvm.Cond.before_and, ih, List.all_cons]
def words1 : List Jvm.Cond := Jvm.Cond.code x code maxLocals ret :: tables_1
/-- a 'code' word, met by the world's own term for the bytes: nothing is compared byte by byte -/
theorem code_word {y : MethodName} {bytes : ByteArray} {mx : Nat} {rt : Option FieldType} {a : Array Value} {s : State} {m : MethodId} {meth : Method} {c : Code} (h1 : s.methodNamed? y = some m) (h2 : s.vm.method? m = some meth) (h3 : meth.code = some c) (h4 : c.code = bytes)
    (h5 : (c.maxLocals == mx && c.exceptionTable.isEmpty && decide (c.maxStack ≤ mostOperands) && decide (meth.sig.returnType = rt) && !meth.locks && decide (parseMethodDescriptor y.desc = some meth.sig)) = true) : (Jvm.Cond.code y bytes mx rt).before a s = true := by
  simp only [Bool.and_eq_true, beq_iff_eq, Bool.not_eq_true', decide_eq_true_eq] at h5
  obtain ⟨⟨⟨⟨⟨g1, g2⟩, g3⟩, g4⟩, g5⟩, g6⟩ := h5
  simp [Cond.before, Cond.holds, Cond.value, h1, h2, h3, h4, g1, g2, g3, g4, g5, g6]
def isCode : Jvm.Cond → Bool
  | .code _ _ _ _ => true
  | _ => false
theorem all_split {L : List Jvm.Cond} {P : Jvm.Cond → Bool} (h1 : L.all (fun c => isCode c || P c) = true) (h2 : ∀ c ∈ L.filter isCode, P c = true) : L.all P = true := by
  refine List.all_eq_true.mpr fun c hc => ?_
  have h := List.all_eq_true.mp h1 c hc
  rcases Bool.eq_false_or_eq_true (isCode c) with hi | hi
  · exact h2 c (List.mem_filter.mpr ⟨hc, hi⟩)
  · simpa [hi] using h
set_option maxRecDepth 65536 in
theorem w_c0 : (Jvm.Cond.code x code maxLocals ret).before args0 about1 = true := code_word (m := ⟨1, 5⟩) (meth := k1m5) (c := k1c5) (by decide +kernel) rfl rfl rfl (by decide +kernel)
set_option maxRecDepth 65536 in
theorem w_c1 : (Jvm.Cond.code ({ cls := "com/example/caddis/caddis/StatementSetComparePinLaw", name := "make", desc := "([CI)Ljava/lang/String;" } : Jvm.MethodName) method_5_code (2 : Nat) (Option.some (Jvm.ClassFile.FieldType.object "java/lang/String"))).before args0 about1 = true := code_word (m := ⟨1, 4⟩) (meth := k1m4) (c := k1c4) (by decide +kernel) rfl rfl rfl (by decide +kernel)
set_option maxRecDepth 65536 in
theorem w_c2 : (Jvm.Cond.code ({ cls := "java/lang/String", name := "<init>", desc := "([C)V" } : Jvm.MethodName) jdk_42_method_3_code (2 : Nat) (Option.none : Option Jvm.ClassFile.FieldType)).before args0 about1 = true := code_word (m := ⟨7, 1⟩) (meth := k7m1) (c := k7c1) (by decide +kernel) rfl rfl rfl (by decide +kernel)
set_option maxRecDepth 65536 in
theorem w_c3 : (Jvm.Cond.code ({ cls := "java/lang/String", name := "<init>", desc := "([CIILjava/lang/Void;)V" } : Jvm.MethodName) jdk_42_method_149_code (6 : Nat) (Option.none : Option Jvm.ClassFile.FieldType)).before args0 about1 = true := code_word (m := ⟨7, 4⟩) (meth := k7m4) (c := k7c4) (by decide +kernel) rfl rfl rfl (by decide +kernel)
set_option maxRecDepth 65536 in
theorem w_c4 : (Jvm.Cond.code ({ cls := "java/lang/Object", name := "<init>", desc := "()V" } : Jvm.MethodName) object_method_1_code (1 : Nat) (Option.none : Option Jvm.ClassFile.FieldType)).before args0 about1 = true := code_word (m := ⟨0, 0⟩) (meth := k0m0) (c := k0c0) (by decide +kernel) rfl rfl rfl (by decide +kernel)
set_option maxRecDepth 65536 in
theorem w_c5 : (Jvm.Cond.code ({ cls := "com/example/caddis/caddis/StatementSetComparePinLaw", name := "sgn", desc := "(I)I" } : Jvm.MethodName) method_2_code (1 : Nat) (Option.some Jvm.ClassFile.FieldType.int)).before args0 about1 = true := code_word (m := ⟨1, 1⟩) (meth := k1m1) (c := k1c1) (by decide +kernel) rfl rfl rfl (by decide +kernel)
set_option maxRecDepth 65536 in
theorem w_c6 : (Jvm.Cond.code ({ cls := "com/example/caddis/caddis/StatementSetComparePinLaw", name := "step", desc := "([C[CIIII)I" } : Jvm.MethodName) method_4_code (6 : Nat) (Option.some Jvm.ClassFile.FieldType.int)).before args0 about1 = true := code_word (m := ⟨1, 3⟩) (meth := k1m3) (c := k1c3) (by decide +kernel) rfl rfl rfl (by decide +kernel)
set_option maxRecDepth 65536 in
theorem w_c7 : (Jvm.Cond.code ({ cls := "com/example/caddis/caddis/StatementSet", name := "compare", desc := "(Ljava/lang/String;Ljava/lang/String;)I" } : Jvm.MethodName) prog_43_method_7_code (6 : Nat) (Option.some Jvm.ClassFile.FieldType.int)).before args0 about1 = true := code_word (m := ⟨10, 0⟩) (meth := k10m0) (c := k10c0) (by decide +kernel) rfl rfl rfl (by decide +kernel)
set_option maxRecDepth 65536 in
theorem w_c8 : (Jvm.Cond.code ({ cls := "java/lang/String", name := "length", desc := "()I" } : Jvm.MethodName) jdk_42_method_54_code (1 : Nat) (Option.some Jvm.ClassFile.FieldType.int)).before args0 about1 = true := code_word (m := ⟨7, 2⟩) (meth := k7m2) (c := k7c2) (by decide +kernel) rfl rfl rfl (by decide +kernel)
set_option maxRecDepth 65536 in
theorem w_c9 : (Jvm.Cond.code ({ cls := "java/lang/String", name := "coder", desc := "()B" } : Jvm.MethodName) jdk_42_method_152_code (1 : Nat) (Option.some Jvm.ClassFile.FieldType.byte)).before args0 about1 = true := code_word (m := ⟨7, 5⟩) (meth := k7m5) (c := k7c5) (by decide +kernel) rfl rfl rfl (by decide +kernel)
set_option maxRecDepth 65536 in
theorem w_c10 : (Jvm.Cond.code ({ cls := "java/lang/Math", name := "min", desc := "(II)I" } : Jvm.MethodName) jdk_29_method_69_code (2 : Nat) (Option.some Jvm.ClassFile.FieldType.int)).before args0 about1 = true := code_word (m := ⟨11, 1⟩) (meth := k11m1) (c := k11c1) (by decide +kernel) rfl rfl rfl (by decide +kernel)
set_option maxRecDepth 65536 in
theorem w_c11 : (Jvm.Cond.code ({ cls := "java/lang/StringUTF16", name := "compress", desc := "([CII)[B" } : Jvm.MethodName) jdk_52_method_16_code (6 : Nat) (Option.some (Jvm.ClassFile.FieldType.array Jvm.ClassFile.FieldType.byte))).before args0 about1 = true := code_word (m := ⟨12, 8⟩) (meth := k12m8) (c := k12c8) (by decide +kernel) rfl rfl rfl (by decide +kernel)
set_option maxRecDepth 65536 in
theorem w_c12 : (Jvm.Cond.code ({ cls := "java/lang/StringUTF16", name := "compress", desc := "([CI[BII)I" } : Jvm.MethodName) jdk_52_method_21_code (7 : Nat) (Option.some Jvm.ClassFile.FieldType.int)).before args0 about1 = true := code_word (m := ⟨12, 9⟩) (meth := k12m9) (c := k12c9) (by decide +kernel) rfl rfl rfl (by decide +kernel)
set_option maxRecDepth 65536 in
theorem w_c13 : (Jvm.Cond.code ({ cls := "java/lang/StringUTF16", name := "coderFromArrayLen", desc := "([BI)B" } : Jvm.MethodName) jdk_52_method_15_code (2 : Nat) (Option.some Jvm.ClassFile.FieldType.byte)).before args0 about1 = true := code_word (m := ⟨12, 7⟩) (meth := k12m7) (c := k12c7) (by decide +kernel) rfl rfl rfl (by decide +kernel)
set_option maxRecDepth 65536 in
theorem w_c14 : (Jvm.Cond.code ({ cls := "com/example/caddis/caddis/StatementSetComparePinLaw", name := "lift", desc := "(C)I" } : Jvm.MethodName) method_3_code (1 : Nat) (Option.some Jvm.ClassFile.FieldType.int)).before args0 about1 = true := code_word (m := ⟨1, 2⟩) (meth := k1m2) (c := k1c2) (by decide +kernel) rfl rfl rfl (by decide +kernel)
set_option maxRecDepth 65536 in
theorem w_c15 : (Jvm.Cond.code ({ cls := "java/lang/String", name := "charAt", desc := "(I)C" } : Jvm.MethodName) jdk_42_method_56_code (2 : Nat) (Option.some Jvm.ClassFile.FieldType.char)).before args0 about1 = true := code_word (m := ⟨7, 3⟩) (meth := k7m3) (c := k7c3) (by decide +kernel) rfl rfl rfl (by decide +kernel)
set_option maxRecDepth 65536 in
theorem w_c16 : (Jvm.Cond.code ({ cls := "java/lang/String", name := "isLatin1", desc := "()Z" } : Jvm.MethodName) jdk_42_method_154_code (1 : Nat) (Option.some Jvm.ClassFile.FieldType.boolean)).before args0 about1 = true := code_word (m := ⟨7, 6⟩) (meth := k7m6) (c := k7c6) (by decide +kernel) rfl rfl rfl (by decide +kernel)
set_option maxRecDepth 65536 in
theorem w_c17 : (Jvm.Cond.code ({ cls := "java/lang/StringLatin1", name := "charAt", desc := "([BI)C" } : Jvm.MethodName) jdk_43_method_2_code (2 : Nat) (Option.some Jvm.ClassFile.FieldType.char)).before args0 about1 = true := code_word (m := ⟨13, 1⟩) (meth := k13m1) (c := k13c1) (by decide +kernel) rfl rfl rfl (by decide +kernel)
set_option maxRecDepth 65536 in
theorem w_c18 : (Jvm.Cond.code ({ cls := "java/lang/String", name := "checkIndex", desc := "(II)V" } : Jvm.MethodName) jdk_42_method_155_code (2 : Nat) (Option.none : Option Jvm.ClassFile.FieldType)).before args0 about1 = true := code_word (m := ⟨7, 7⟩) (meth := k7m7) (c := k7c7) (by decide +kernel) rfl rfl rfl (by decide +kernel)
set_option maxRecDepth 65536 in
theorem w_c19 : (Jvm.Cond.code ({ cls := "jdk/internal/util/Preconditions", name := "checkIndex", desc := "(IILjava/util/function/BiFunction;)I" } : Jvm.MethodName) jdk_41_method_11_code (3 : Nat) (Option.some Jvm.ClassFile.FieldType.int)).before args0 about1 = true := code_word (m := ⟨14, 1⟩) (meth := k14m1) (c := k14c1) (by decide +kernel) rfl rfl rfl (by decide +kernel)
set_option maxRecDepth 65536 in
theorem w_c20 : (Jvm.Cond.code ({ cls := "com/example/caddis/caddis/StatementSet", name := "codePointRank", desc := "(C)I" } : Jvm.MethodName) prog_43_method_8_code (2 : Nat) (Option.some Jvm.ClassFile.FieldType.int)).before args0 about1 = true := code_word (m := ⟨10, 1⟩) (meth := k10m1) (c := k10c1) (by decide +kernel) rfl rfl rfl (by decide +kernel)
set_option maxRecDepth 65536 in
theorem w_c21 : (Jvm.Cond.code ({ cls := "java/lang/StringUTF16", name := "toBytes", desc := "([CII)[B" } : Jvm.MethodName) jdk_52_method_14_code (5 : Nat) (Option.some (Jvm.ClassFile.FieldType.array Jvm.ClassFile.FieldType.byte))).before args0 about1 = true := code_word (m := ⟨12, 6⟩) (meth := k12m6) (c := k12c6) (by decide +kernel) rfl rfl rfl (by decide +kernel)
set_option maxRecDepth 65536 in
theorem w_c22 : (Jvm.Cond.code ({ cls := "java/lang/StringUTF16", name := "newBytesFor", desc := "(I)[B" } : Jvm.MethodName) jdk_52_method_2_code (1 : Nat) (Option.some (Jvm.ClassFile.FieldType.array Jvm.ClassFile.FieldType.byte))).before args0 about1 = true := code_word (m := ⟨12, 1⟩) (meth := k12m1) (c := k12c1) (by decide +kernel) rfl rfl rfl (by decide +kernel)
set_option maxRecDepth 65536 in
theorem w_c23 : (Jvm.Cond.code ({ cls := "java/lang/StringUTF16", name := "newBytesLength", desc := "(I)I" } : Jvm.MethodName) jdk_52_method_3_code (1 : Nat) (Option.some Jvm.ClassFile.FieldType.int)).before args0 about1 = true := code_word (m := ⟨12, 2⟩) (meth := k12m2) (c := k12c2) (by decide +kernel) rfl rfl rfl (by decide +kernel)
set_option maxRecDepth 65536 in
theorem w_c24 : (Jvm.Cond.code ({ cls := "java/lang/StringUTF16", name := "putChar", desc := "([BII)V" } : Jvm.MethodName) jdk_52_method_4_code (3 : Nat) (Option.none : Option Jvm.ClassFile.FieldType)).before args0 about1 = true := code_word (m := ⟨12, 3⟩) (meth := k12m3) (c := k12c3) (by decide +kernel) rfl rfl rfl (by decide +kernel)
set_option maxRecDepth 65536 in
theorem w_c25 : (Jvm.Cond.code ({ cls := "java/lang/StringUTF16", name := "getChar", desc := "([BI)C" } : Jvm.MethodName) jdk_52_method_5_code (2 : Nat) (Option.some Jvm.ClassFile.FieldType.char)).before args0 about1 = true := code_word (m := ⟨12, 4⟩) (meth := k12m4) (c := k12c4) (by decide +kernel) rfl rfl rfl (by decide +kernel)
set_option maxRecDepth 65536 in
theorem w_c26 : (Jvm.Cond.code ({ cls := "java/lang/StringUTF16", name := "charAt", desc := "([BI)C" } : Jvm.MethodName) jdk_52_method_83_code (2 : Nat) (Option.some Jvm.ClassFile.FieldType.char)).before args0 about1 = true := code_word (m := ⟨12, 10⟩) (meth := k12m10) (c := k12c10) (by decide +kernel) rfl rfl rfl (by decide +kernel)
set_option maxRecDepth 65536 in
theorem w_c27 : (Jvm.Cond.code ({ cls := "java/lang/StringUTF16", name := "checkIndex", desc := "(I[B)V" } : Jvm.MethodName) jdk_52_method_91_code (2 : Nat) (Option.none : Option Jvm.ClassFile.FieldType)).before args0 about1 = true := code_word (m := ⟨12, 11⟩) (meth := k12m11) (c := k12c11) (by decide +kernel) rfl rfl rfl (by decide +kernel)
set_option maxRecDepth 65536 in
theorem w_c28 : (Jvm.Cond.code ({ cls := "java/lang/StringUTF16", name := "length", desc := "([B)I" } : Jvm.MethodName) jdk_52_method_6_code (1 : Nat) (Option.some Jvm.ClassFile.FieldType.int)).before args0 about1 = true := code_word (m := ⟨12, 5⟩) (meth := k12m5) (c := k12c5) (by decide +kernel) rfl rfl rfl (by decide +kernel)
def codes1 : List Jvm.Cond := [Jvm.Cond.code x code maxLocals ret, Jvm.Cond.code ({ cls := "com/example/caddis/caddis/StatementSetComparePinLaw", name := "make", desc := "([CI)Ljava/lang/String;" } : Jvm.MethodName) method_5_code (2 : Nat) (Option.some (Jvm.ClassFile.FieldType.object "java/lang/String")), Jvm.Cond.code ({ cls := "java/lang/String", name := "<init>", desc := "([C)V" } : Jvm.MethodName) jdk_42_method_3_code (2 : Nat) (Option.none : Option Jvm.ClassFile.FieldType), Jvm.Cond.code ({ cls := "java/lang/String", name := "<init>", desc := "([CIILjava/lang/Void;)V" } : Jvm.MethodName) jdk_42_method_149_code (6 : Nat) (Option.none : Option Jvm.ClassFile.FieldType), Jvm.Cond.code ({ cls := "java/lang/Object", name := "<init>", desc := "()V" } : Jvm.MethodName) object_method_1_code (1 : Nat) (Option.none : Option Jvm.ClassFile.FieldType), Jvm.Cond.code ({ cls := "com/example/caddis/caddis/StatementSetComparePinLaw", name := "sgn", desc := "(I)I" } : Jvm.MethodName) method_2_code (1 : Nat) (Option.some Jvm.ClassFile.FieldType.int), Jvm.Cond.code ({ cls := "com/example/caddis/caddis/StatementSetComparePinLaw", name := "step", desc := "([C[CIIII)I" } : Jvm.MethodName) method_4_code (6 : Nat) (Option.some Jvm.ClassFile.FieldType.int), Jvm.Cond.code ({ cls := "com/example/caddis/caddis/StatementSet", name := "compare", desc := "(Ljava/lang/String;Ljava/lang/String;)I" } : Jvm.MethodName) prog_43_method_7_code (6 : Nat) (Option.some Jvm.ClassFile.FieldType.int), Jvm.Cond.code ({ cls := "java/lang/String", name := "length", desc := "()I" } : Jvm.MethodName) jdk_42_method_54_code (1 : Nat) (Option.some Jvm.ClassFile.FieldType.int), Jvm.Cond.code ({ cls := "java/lang/String", name := "coder", desc := "()B" } : Jvm.MethodName) jdk_42_method_152_code (1 : Nat) (Option.some Jvm.ClassFile.FieldType.byte), Jvm.Cond.code ({ cls := "java/lang/Math", name := "min", desc := "(II)I" } : Jvm.MethodName) jdk_29_method_69_code (2 : Nat) (Option.some Jvm.ClassFile.FieldType.int), Jvm.Cond.code ({ cls := "java/lang/StringUTF16", name := "compress", desc := "([CII)[B" } : Jvm.MethodName) jdk_52_method_16_code (6 : Nat) (Option.some (Jvm.ClassFile.FieldType.array Jvm.ClassFile.FieldType.byte)), Jvm.Cond.code ({ cls := "java/lang/StringUTF16", name := "compress", desc := "([CI[BII)I" } : Jvm.MethodName) jdk_52_method_21_code (7 : Nat) (Option.some Jvm.ClassFile.FieldType.int), Jvm.Cond.code ({ cls := "java/lang/StringUTF16", name := "coderFromArrayLen", desc := "([BI)B" } : Jvm.MethodName) jdk_52_method_15_code (2 : Nat) (Option.some Jvm.ClassFile.FieldType.byte), Jvm.Cond.code ({ cls := "com/example/caddis/caddis/StatementSetComparePinLaw", name := "lift", desc := "(C)I" } : Jvm.MethodName) method_3_code (1 : Nat) (Option.some Jvm.ClassFile.FieldType.int), Jvm.Cond.code ({ cls := "java/lang/String", name := "charAt", desc := "(I)C" } : Jvm.MethodName) jdk_42_method_56_code (2 : Nat) (Option.some Jvm.ClassFile.FieldType.char), Jvm.Cond.code ({ cls := "java/lang/String", name := "isLatin1", desc := "()Z" } : Jvm.MethodName) jdk_42_method_154_code (1 : Nat) (Option.some Jvm.ClassFile.FieldType.boolean), Jvm.Cond.code ({ cls := "java/lang/StringLatin1", name := "charAt", desc := "([BI)C" } : Jvm.MethodName) jdk_43_method_2_code (2 : Nat) (Option.some Jvm.ClassFile.FieldType.char), Jvm.Cond.code ({ cls := "java/lang/String", name := "checkIndex", desc := "(II)V" } : Jvm.MethodName) jdk_42_method_155_code (2 : Nat) (Option.none : Option Jvm.ClassFile.FieldType), Jvm.Cond.code ({ cls := "jdk/internal/util/Preconditions", name := "checkIndex", desc := "(IILjava/util/function/BiFunction;)I" } : Jvm.MethodName) jdk_41_method_11_code (3 : Nat) (Option.some Jvm.ClassFile.FieldType.int), Jvm.Cond.code ({ cls := "com/example/caddis/caddis/StatementSet", name := "codePointRank", desc := "(C)I" } : Jvm.MethodName) prog_43_method_8_code (2 : Nat) (Option.some Jvm.ClassFile.FieldType.int), Jvm.Cond.code ({ cls := "java/lang/StringUTF16", name := "toBytes", desc := "([CII)[B" } : Jvm.MethodName) jdk_52_method_14_code (5 : Nat) (Option.some (Jvm.ClassFile.FieldType.array Jvm.ClassFile.FieldType.byte)), Jvm.Cond.code ({ cls := "java/lang/StringUTF16", name := "newBytesFor", desc := "(I)[B" } : Jvm.MethodName) jdk_52_method_2_code (1 : Nat) (Option.some (Jvm.ClassFile.FieldType.array Jvm.ClassFile.FieldType.byte)), Jvm.Cond.code ({ cls := "java/lang/StringUTF16", name := "newBytesLength", desc := "(I)I" } : Jvm.MethodName) jdk_52_method_3_code (1 : Nat) (Option.some Jvm.ClassFile.FieldType.int), Jvm.Cond.code ({ cls := "java/lang/StringUTF16", name := "putChar", desc := "([BII)V" } : Jvm.MethodName) jdk_52_method_4_code (3 : Nat) (Option.none : Option Jvm.ClassFile.FieldType), Jvm.Cond.code ({ cls := "java/lang/StringUTF16", name := "getChar", desc := "([BI)C" } : Jvm.MethodName) jdk_52_method_5_code (2 : Nat) (Option.some Jvm.ClassFile.FieldType.char), Jvm.Cond.code ({ cls := "java/lang/StringUTF16", name := "charAt", desc := "([BI)C" } : Jvm.MethodName) jdk_52_method_83_code (2 : Nat) (Option.some Jvm.ClassFile.FieldType.char), Jvm.Cond.code ({ cls := "java/lang/StringUTF16", name := "checkIndex", desc := "(I[B)V" } : Jvm.MethodName) jdk_52_method_91_code (2 : Nat) (Option.none : Option Jvm.ClassFile.FieldType), Jvm.Cond.code ({ cls := "java/lang/StringUTF16", name := "length", desc := "([B)I" } : Jvm.MethodName) jdk_52_method_6_code (1 : Nat) (Option.some Jvm.ClassFile.FieldType.int)]
set_option maxRecDepth 65536 in
theorem codes_eq : words1.filter isCode = codes1 := rfl
theorem w_codes : ∀ c ∈ words1.filter isCode, c.before args0 about1 = true := by
  rw [codes_eq]
  intro c hc
  simp only [codes1, List.mem_cons, List.not_mem_nil, or_false] at hc
  rcases hc with rfl | rfl | rfl | rfl | rfl | rfl | rfl | rfl | rfl | rfl | rfl | rfl | rfl | rfl | rfl | rfl | rfl | rfl | rfl | rfl | rfl | rfl | rfl | rfl | rfl | rfl | rfl | rfl | rfl
  · exact w_c0
  · exact w_c1
  · exact w_c2
  · exact w_c3
  · exact w_c4
  · exact w_c5
  · exact w_c6
  · exact w_c7
  · exact w_c8
  · exact w_c9
  · exact w_c10
  · exact w_c11
  · exact w_c12
  · exact w_c13
  · exact w_c14
  · exact w_c15
  · exact w_c16
  · exact w_c17
  · exact w_c18
  · exact w_c19
  · exact w_c20
  · exact w_c21
  · exact w_c22
  · exact w_c23
  · exact w_c24
  · exact w_c25
  · exact w_c26
  · exact w_c27
  · exact w_c28
set_option maxRecDepth 65536 in
theorem w_t1 : (words1.take 24).all (fun c => isCode c || c.before args0 about1) = true := by decide +kernel
set_option maxRecDepth 65536 in
theorem w_t2 : ((words1.drop 24).take 24).all (fun c => isCode c || c.before args0 about1) = true := by decide +kernel
set_option maxRecDepth 65536 in
theorem w_t3 : (((words1.drop 24).drop 24).take 24).all (fun c => isCode c || c.before args0 about1) = true := by decide +kernel
set_option maxRecDepth 65536 in
theorem w_t4 : ((((words1.drop 24).drop 24).drop 24).take 24).all (fun c => isCode c || c.before args0 about1) = true := by decide +kernel
set_option maxRecDepth 65536 in
theorem w_t5 : (((((words1.drop 24).drop 24).drop 24).drop 24).take 24).all (fun c => isCode c || c.before args0 about1) = true := by decide +kernel
set_option maxRecDepth 65536 in
theorem w_t6 : (((((words1.drop 24).drop 24).drop 24).drop 24).drop 24).all (fun c => isCode c || c.before args0 about1) = true := by decide +kernel
theorem w_tables : (allAtoms (Jvm.Cond.code x code maxLocals ret :: tables_1)).before args0 about1 = true := by
  rw [allAtoms_all]
  show words1.all (fun c => c.before args0 about1) = true
  refine all_split ?_ w_codes
  rw [← List.take_append_drop 24 words1, List.all_append, w_t1, ← List.take_append_drop 24 (words1.drop 24), List.all_append, w_t2, ← List.take_append_drop 24 ((words1.drop 24).drop 24), List.all_append, w_t3, ← List.take_append_drop 24 (((words1.drop 24).drop 24).drop 24), List.all_append, w_t4, ← List.take_append_drop 24 ((((words1.drop 24).drop 24).drop 24).drop 24), List.all_append, w_t5, w_t6]
  rfl
set_option maxRecDepth 65536 in
theorem w_rest : rest_1_c.before args0 about1 = true := by decide +kernel
set_option maxRecDepth 65536 in
theorem w_case : (Jvm.Cond.and given_1 narrow_1).before args0 about1 = true := by decide +kernel
set_option maxRecDepth 65536 in
theorem w_consts : constsHeld consts_1 about1 := Jvm.Lit.constsHeldB_iff.mp (by decide +kernel)
theorem w_applies : (headSpec (Jvm.Cond.code x code maxLocals ret :: tables_1) room_1).applies x e0.platform about1 = true :=
  (Spec.applies_iff w_frames).mpr ⟨w_running, w_runnable, w_alone, w_named, w_hears, w_ripe, w_room, w_tables⟩
theorem atStart : AtStart classFile x code maxLocals ret World_1 tables_1 room_1 Calls_1 rest_1 Pre_1 launch0 p0 e0 about1 theMethod args0 below0 :=
  ⟨lists_1, trivial, launch0.admits_env _ _ _, launch0.least_env, fairChoices_fair.cas, fairChoices_fair.clock, w_frames, w_args, w_heap, w_applies, ⟨w_consts, trivial⟩, w_rest, w_case⟩
end start1
theorem witness_1 : WitnessClaimed_1 := ⟨start1.p0, start1.e0, start1.about1, start1.theMethod, start1.args0, start1.below0, start1.atStart⟩
end Jvm.Pilot.@@N@@
