import JvmDerived
import JvmDerived.Pilot.@@N@@Statement
import JvmDerived.Pilot.@@N@@Code
set_option linter.unusedVariables false
set_option linter.unusedSimpArgs false

namespace Jvm.RoadKit
open Sem ClassFile Op Lib Jvm.Stand Jvm.Free Jvm.LawKit
section New
variable {p : Program} {l : Launch} {e : Env} {R : Room} {s : State} {m : MethodId} {args : Array Value} {below : List Frame} {meth : Method} {c : Code} {T : State} {locs : List Loc} {cells slots : Nat}
theorem retI (X : Stand p l e R s m args below meth c T locs cells slots) (hx : p.tables.exec = Jvm.exec) {pc : Nat} {Ls : Array Slot} {z : Int32} {rest : List Value} (hret : meth.sig.returnType = some .int) (hd : decode c.code pc = .ok (.ireturn, 1)) {fs : List Frame}
    (hl : ∀ (f : JFrame) (acts : List Action), f.method = m → f.locked = none → f.entered = [] → (doReturn e (T.setTop f) acts (some (.int z))).1 = T.setFrames fs) : Steps p.tables e below (T.setTop (mkF m pc Ls (.int z :: rest))) (T.setFrames fs) := by
  have hm' : T.vm.method? m = some meth := X.method'
  have hn : narrow .int (.int z) = .int z := rfl
  show Steps p.tables e below (T.setTop { method := m, pc := pc, locals := Ls, stack := _ :: rest, locked := none }) _
  jvm_step X.here [X.here.top, hx, hd, hm', hret, hn]
  first | (intro acts; rw [hl _ acts rfl rfl rfl]) | rw [hl _ _ rfl rfl rfl]
  exact Steps.refl _
end New
end Jvm.RoadKit

namespace Jvm.Pilot.@@N@@
namespace StrChars
open Jvm Sem ClassFile Op Lib Jvm.Stand Jvm.Free.XT Jvm.Free.ALB Jvm.Free.JM Jvm.Free
open Jvm.Lib.Cold (StaticIs)
def Ch (a : Addr) (A : Cell) (U : State) : Prop := Arr .char a A U ∧ Typed .char A
theorem Ch.mv {a : Addr} {A : Cell} {U U' : State} (h : Ch a A U) (hal : U.vm.Alike U'.vm) (hh : U'.heap = U.heap) : Ch a A U' := ⟨h.1.mv hal hh, h.2⟩
theorem Ch.keep {a : Addr} {A : Cell} {U U' : State} (h : Ch a A U) (hal : U.vm.Alike U'.vm) (hk : U'.heap[a]? = some A) : Ch a A U' := ⟨h.1.keep hal hk, h.2⟩
def cv (A : Cell) (i : Nat) : Int32 := match A.slots[i]? with | some (.int x) => x | _ => 0
theorem Ch.get {a : Addr} {A : Cell} {U : State} (h : Ch a A U) {i : Nat} (hi : i < A.slots.size) : A.slots[i]? = some (.int (cv A i)) := by
  have e := Array.getElem?_eq_getElem hi
  have f := h.2 i _ e
  unfold cv; rw [e]
  generalize A.slots[i] = v at f
  cases v <;> simp [fits] at f ⊢
def lo8 (x : Int32) : Int32 := x.toInt8.toInt32
theorem fits_lo8 (y : Int32) : fits .byte (.int (lo8 y)) = true := by
  have h1 := y.toInt8.le_toInt
  have h2 := y.toInt8.toInt_lt
  simp only [lo8, fits, Bool.and_eq_true, decide_eq_true_eq, Int32.le_iff_toInt_le, Int8.toInt_toInt32, show (-128 : Int32).toInt = -128 from by decide, show (127 : Int32).toInt = 127 from by decide]
  omega
def Laid (A A' : Cell) (lo hi : Nat) (f : Nat → Value) : Prop := A'.cls = A.cls ∧ A'.vm = A.vm ∧ A'.slots.size = A.slots.size ∧ ∀ i, A'.slots[i]? = if lo ≤ i ∧ i < hi then some (f i) else A.slots[i]?
theorem Laid.zero (A : Cell) (lo : Nat) (f : Nat → Value) : Laid A A lo (lo + 0) f := ⟨rfl, rfl, rfl, fun i => by rw [if_neg (by omega)]⟩
theorem Laid.step {A Ak : Cell} {lo k : Nat} {f : Nat → Value} {v : Value} (h : Laid A Ak lo k f) (hlo : lo ≤ k) (hk : k < Ak.slots.size) (hv : v = f k) : Laid A (Ak.setSlot k v) lo (k + 1) f := by
  refine ⟨h.1, h.2.1, by simpa [Cell.setSlot] using h.2.2.1, fun i => ?_⟩
  by_cases e : k = i
  · subst e; rw [Cell.slots_setSlot_self v hk, if_pos (by omega), hv]
  · rw [Cell.slots_setSlot_ne v e, h.2.2.2 i]
    by_cases q : lo ≤ i ∧ i < k
    · rw [if_pos q, if_pos (by omega)]
    · rw [if_neg q, if_neg (by omega)]
def U16 : String := "java/lang/StringUTF16"
namespace Cmp5
def yN : MethodName := ⟨"java/lang/StringUTF16", "compress", "([CI[BII)I"⟩
abbrev yB : ByteArray := jdk_52_method_21_code
theorem d0 : decode yB 0 = .ok (.iconst 0, 1) := by decide +kernel
theorem d1 : decode yB 1 = .ok (.istore 5, 2) := by decide +kernel
theorem d3 : decode yB 3 = .ok (.iload 5, 2) := by decide +kernel
theorem d5 : decode yB 5 = .ok (.iload 4, 2) := by decide +kernel
theorem d7 : decode yB 7 = .ok (.if_icmp (.ge) 37, 3) := by decide +kernel
theorem d10 : decode yB 10 = .ok (.aload_n 0, 1) := by decide +kernel
theorem d11 : decode yB 11 = .ok (.iload_n 1, 1) := by decide +kernel
theorem d12 : decode yB 12 = .ok (.caload, 1) := by decide +kernel
theorem d13 : decode yB 13 = .ok (.istore 6, 2) := by decide +kernel
theorem d15 : decode yB 15 = .ok (.iload 6, 2) := by decide +kernel
theorem d17 : decode yB 17 = .ok (.sipush 255, 3) := by decide +kernel
theorem d20 : decode yB 20 = .ok (.if_icmp (.le) 6, 3) := by decide +kernel
theorem d26 : decode yB 26 = .ok (.aload_n 2, 1) := by decide +kernel
theorem d27 : decode yB 27 = .ok (.iload_n 3, 1) := by decide +kernel
theorem d28 : decode yB 28 = .ok (.iload 6, 2) := by decide +kernel
theorem d30 : decode yB 30 = .ok (.i2b, 1) := by decide +kernel
theorem d31 : decode yB 31 = .ok (.bastore, 1) := by decide +kernel
theorem d32 : decode yB 32 = .ok (.iinc 1 1, 3) := by decide +kernel
theorem d35 : decode yB 35 = .ok (.iinc 3 1, 3) := by decide +kernel
theorem d38 : decode yB 38 = .ok (.iinc 5 1, 3) := by decide +kernel
theorem d41 : decode yB 41 = .ok (.goto (-38), 3) := by decide +kernel
theorem d44 : decode yB 44 = .ok (.iload 4, 2) := by decide +kernel
theorem d46 : decode yB 46 = .ok (.ireturn, 1) := by decide +kernel
def site : List Cond := []
def tab : Cond := tabOf yN yB 7 (some .int) site
def P (b : Addr) (A : Cell) (d : Addr) (B : Cell) (o q len : Nat) (args : Array Value) (s : State) : Prop := args = #[.ref b, .int (Int32.ofNat o), .ref d, .int (Int32.ofNat q), .int (Int32.ofNat len)] ∧ Ch b A s ∧ Arr .byte d B s ∧ b ≠ d ∧ o + len ≤ A.slots.size ∧ q + len ≤ B.slots.size ∧ ∀ i, i < len → ¬ 255 < cv A (o + i)
def E (b : Addr) (A : Cell) (d : Addr) (B : Cell) (o q len : Nat) (r : Option Value) (s u : State) : Prop := r = some (.int (Int32.ofNat len)) ∧ ∃ B', Put d B' s u ∧ Laid B B' q (q + len) (fun j => Value.int (lo8 (cv A (o + (j - q)))))
theorem law (l : Launch) (b : Addr) (A : Cell) (d : Addr) (B : Cell) (o q len : Nat) : Law l yN 5 5 0 0 yB 7 (some .int) site (P b A d B o q len) (E b A d B o q len) (copyLocs d q len) 0 0 := by
  refine Law.of_walk (plainFor_of_name (by decide +kernel)) (by decide +kernel) (by decide +kernel) (by decide) (fun _ _ h => by rw [h.1]; rfl) (fun _ U U' hal hh h => ⟨h.1, h.2.1.mv hal hh, h.2.2.1.mv hal hh, h.2.2.2⟩) (fun r U U' V V' h1 hal h2 h => ⟨h.1, h.2.elim fun B' q => ⟨B', q.1.mv h1 h2, q.2⟩⟩) ?_
  intro p e s m args below meth c s₁ X0 hexec hbytes hml hret hlk hnm hown hh0 W hP
  obtain ⟨rfl, hA, hB, hne, l1, l2, hp⟩ := hP
  have c1 : Steps p.tables e below (s₁.setTop (entryFrame m #[.ref b, .int (Int32.ofNat o), .ref d, .int (Int32.ofNat q), .int (Int32.ofNat len)] 7)) (s₁.setTop (mkF m 0 #[.val (.ref b), .val (.int (Int32.ofNat o)), .val (.ref d), .val (.int (Int32.ofNat q)), .val (.int (Int32.ofNat len)), .unset, .unset] [])) := entry rfl
  have hA0 := hA.1.mv X0.warmed.alike hh0
  have hB0 := hB.mv X0.warmed.alike hh0
  have a31 := hA.1.2.2.2
  have c2 : Steps p.tables e below (s₁.setTop (entryFrame m #[.ref b, .int (Int32.ofNat o), .ref d, .int (Int32.ofNat q), .int (Int32.ofNat len)] 7)) (s₁.setTop (mkF m 3 #[.val (.ref b), .val (.int (Int32.ofNat o)), .val (.ref d), .val (.int (Int32.ofNat q)), .val (.int (Int32.ofNat len)), .val (.int 0), .unset] [])) := c1.trans (by
    refine iconstV X0.here hexec rfl 0 (hb hbytes d0) (by decide) ?_
    refine XS.istore X0.here hexec rfl (hb hbytes d1) rfl rfl ?_
    exact Steps.refl _)
  have loop : ∀ (r i : Nat), i + r = len → ∀ (z : Slot), (z = .unset ∨ ∃ w, z = .val w ∧ w.category = 1) → ∀ (Tl : State) (Bk : Cell), Stand p l e { frames := 0, locals := 0, cells := 0, slots := 0 } s m #[.ref b, .int (Int32.ofNat o), .ref d, .int (Int32.ofNat q), .int (Int32.ofNat len)] below meth c Tl ([] ++ copyLocs d q i) 0 0 → Put d Bk s₁ Tl → Laid B Bk q (q + i) (fun j => Value.int (lo8 (cv A (o + (j - q))))) →
      Steps p.tables e below (s₁.setTop (entryFrame m #[.ref b, .int (Int32.ofNat o), .ref d, .int (Int32.ofNat q), .int (Int32.ofNat len)] 7)) (Tl.setTop (mkF m 3 #[.val (.ref b), .val (.int (Int32.ofNat (o + i))), .val (.ref d), .val (.int (Int32.ofNat (q + i))), .val (.int (Int32.ofNat len)), .val (.int (Int32.ofNat i)), z] [])) → ∃ (T' : State) (B' : Cell) (z' : Slot), Stand p l e { frames := 0, locals := 0, cells := 0, slots := 0 } s m #[.ref b, .int (Int32.ofNat o), .ref d, .int (Int32.ofNat q), .int (Int32.ofNat len)] below meth c T' ([] ++ copyLocs d q len) 0 0 ∧ Put d B' s₁ T' ∧ Laid B B' q (q + len) (fun j => Value.int (lo8 (cv A (o + (j - q))))) ∧
      Steps p.tables e below (s₁.setTop (entryFrame m #[.ref b, .int (Int32.ofNat o), .ref d, .int (Int32.ofNat q), .int (Int32.ofNat len)] 7)) (T'.setTop (mkF m 3 #[.val (.ref b), .val (.int (Int32.ofNat (o + len))), .val (.ref d), .val (.int (Int32.ofNat (q + len))), .val (.int (Int32.ofNat len)), .val (.int (Int32.ofNat len)), z'] [])) := by
    intro r
    induction r with
    | zero =>
      intro i hi z hz Tl Bk Xl pl fl cl
      have hil : i = len := by omega
      rw [hil] at Xl fl cl
      exact ⟨Tl, Bk, z, Xl, pl, fl, cl⟩
    | succ r ih =>
      intro i hi z hz Tl Bk Xl pl fl cl
      have all := X0.warmed.alike.symm.trans Xl.warmed.alike
      have hAl := hA0.keep all (pl.other hne hA0.1)
      have hBk := hB0.like all pl.1 fl.1 fl.2.1 fl.2.2.1
      have hlt : q + i < Bk.slots.size := by rw [fl.2.2.1]; omega
      have c3 : Steps p.tables e below (s₁.setTop (entryFrame m #[.ref b, .int (Int32.ofNat o), .ref d, .int (Int32.ofNat q), .int (Int32.ofNat len)] 7)) (Tl.setTop (mkF m 12 #[.val (.ref b), .val (.int (Int32.ofNat (o + i))), .val (.ref d), .val (.int (Int32.ofNat (q + i))), .val (.int (Int32.ofNat len)), .val (.int (Int32.ofNat i)), z] [.int (Int32.ofNat (o + i)), .ref b])) := cl.trans (by
        refine XS.iload Xl.here hexec rfl (hb hbytes d3) rfl ?_
        refine XS.iload Xl.here hexec rfl (hb hbytes d5) rfl ?_
        refine XS.icmpNo Xl.here hexec rfl (hb hbytes d7) rfl (ii_ge_f (lt32 (by omega) (by omega))) ?_
        refine XS.aloadN Xl.here hexec rfl (hb hbytes d10) rfl rfl ?_
        refine XS.iloadN Xl.here hexec rfl (hb hbytes d11) rfl ?_
        exact Steps.refl _)
      have c4 : Steps p.tables e below (s₁.setTop (entryFrame m #[.ref b, .int (Int32.ofNat o), .ref d, .int (Int32.ofNat q), .int (Int32.ofNat len)] 7)) (Tl.setTop (mkF m 13 #[.val (.ref b), .val (.int (Int32.ofNat (o + i))), .val (.ref d), .val (.int (Int32.ofNat (q + i))), .val (.int (Int32.ofNat len)), .val (.int (Int32.ofNat i)), z] [.int (cv A (o + i))])) := c3.trans (by
        refine Xl.aget hexec hAl rfl (hA.get (i := o + i) (by omega)) rfl rfl (hb hbytes d12) ?_
        exact Steps.refl _)
      have c5 : Steps p.tables e below (s₁.setTop (entryFrame m #[.ref b, .int (Int32.ofNat o), .ref d, .int (Int32.ofNat q), .int (Int32.ofNat len)] 7)) (Tl.setTop (mkF m 15 #[.val (.ref b), .val (.int (Int32.ofNat (o + i))), .val (.ref d), .val (.int (Int32.ofNat (q + i))), .val (.int (Int32.ofNat len)), .val (.int (Int32.ofNat i)), .val (.int (cv A (o + i)))] [])) := c4.trans (by
        refine XS.istoreS Xl.here hexec rfl (hb hbytes d13) rfl rfl hz ?_
        exact Steps.refl _)
      have c6 : Steps p.tables e below (s₁.setTop (entryFrame m #[.ref b, .int (Int32.ofNat o), .ref d, .int (Int32.ofNat q), .int (Int32.ofNat len)] 7)) (Tl.setTop (mkF m 31 #[.val (.ref b), .val (.int (Int32.ofNat (o + i))), .val (.ref d), .val (.int (Int32.ofNat (q + i))), .val (.int (Int32.ofNat len)), .val (.int (Int32.ofNat i)), .val (.int (cv A (o + i)))] [.int (lo8 (cv A (o + i))), .int (Int32.ofNat (q + i)), .ref d])) := c5.trans (by
        refine XS.iload Xl.here hexec rfl (hb hbytes d15) rfl ?_
        refine sipushV Xl.here hexec rfl 255 (hb hbytes d17) (by decide) ?_
        refine XS.icmpYes Xl.here hexec rfl (pc0 := 20) rfl (hb hbytes d20) rfl (ii_le_t (hp i (by omega))) (by decide) rfl ?_
        refine XS.aloadN Xl.here hexec rfl (hb hbytes d26) rfl rfl ?_
        refine XS.iloadN Xl.here hexec rfl (hb hbytes d27) rfl ?_
        refine XS.iload Xl.here hexec rfl (hb hbytes d28) rfl ?_
        refine i2b Xl.here hexec rfl (hb hbytes d30) rfl ?_
        exact Steps.refl _)
      obtain ⟨T7, X7, p7, st7⟩ := Xl.aput hexec hBk rfl hlt rfl (fits_lo8 (cv A (o + i))) (g := (mkF m 31 #[.val (.ref b), .val (.int (Int32.ofNat (o + i))), .val (.ref d), .val (.int (Int32.ofNat (q + i))), .val (.int (Int32.ofNat len)), .val (.int (Int32.ofNat i)), .val (.int (cv A (o + i)))] [.int (lo8 (cv A (o + i))), .int (Int32.ofNat (q + i)), .ref d])) rfl (rest := []) rfl (hb hbytes d31)
      have c8 : Steps p.tables e below (s₁.setTop (entryFrame m #[.ref b, .int (Int32.ofNat o), .ref d, .int (Int32.ofNat q), .int (Int32.ofNat len)] 7)) (T7.setTop (mkF m 32 #[.val (.ref b), .val (.int (Int32.ofNat (o + i))), .val (.ref d), .val (.int (Int32.ofNat (q + i))), .val (.int (Int32.ofNat len)), .val (.int (Int32.ofNat i)), .val (.int (cv A (o + i)))] [])) := c6.trans (st7 _ (Steps.refl _))
      have c9 : Steps p.tables e below (s₁.setTop (entryFrame m #[.ref b, .int (Int32.ofNat o), .ref d, .int (Int32.ofNat q), .int (Int32.ofNat len)] 7)) (T7.setTop (mkF m 3 #[.val (.ref b), .val (.int (Int32.ofNat (o + i) + 1)), .val (.ref d), .val (.int (Int32.ofNat (q + i) + 1)), .val (.int (Int32.ofNat len)), .val (.int (Int32.ofNat i + 1)), .val (.int (cv A (o + i)))] [])) := c8.trans (by
        refine iincV X7.here hexec rfl 1 (hb hbytes d32) (by decide) rfl rfl ?_
        refine iincV X7.here hexec rfl 1 (hb hbytes d35) (by decide) rfl rfl ?_
        refine iincV X7.here hexec rfl 1 (hb hbytes d38) (by decide) rfl rfl ?_
        refine XS.goto X7.here hexec rfl (pc0 := 41) rfl (hb hbytes d41) (by decide) rfl ?_
        exact Steps.refl _)
      have c10 : Steps p.tables e below (s₁.setTop (entryFrame m #[.ref b, .int (Int32.ofNat o), .ref d, .int (Int32.ofNat q), .int (Int32.ofNat len)] 7)) (T7.setTop (mkF m 3 #[.val (.ref b), .val (.int (Int32.ofNat (o + (i + 1)))), .val (.ref d), .val (.int (Int32.ofNat (q + (i + 1)))), .val (.int (Int32.ofNat len)), .val (.int (Int32.ofNat (i + 1))), .val (.int (cv A (o + i)))] [])) := by
        have := c9
        rw [succ32, succ32, succ32] at this
        exact this
      exact ih (i + 1) (by omega) _ (Or.inr ⟨_, rfl, rfl⟩) T7 _ (by rw [copyLocs_step, ← List.append_assoc]; exact X7) (pl.trans p7) (fl.step (by omega) hlt (by simp)) c10
  obtain ⟨T9, B9, z9, X9, p9, f9, g9⟩ := loop len 0 (by omega) .unset (Or.inl rfl) s₁ B (by simpa [copyLocs] using X0) ⟨hB0.1, fun _ _ => rfl, rfl⟩ (Laid.zero _ _ _) c2
  have c11 : Steps p.tables e below (s₁.setTop (entryFrame m #[.ref b, .int (Int32.ofNat o), .ref d, .int (Int32.ofNat q), .int (Int32.ofNat len)] 7)) (T9.setTop (mkF m 46 #[.val (.ref b), .val (.int (Int32.ofNat (o + len))), .val (.ref d), .val (.int (Int32.ofNat (q + len))), .val (.int (Int32.ofNat len)), .val (.int (Int32.ofNat len)), z9] [.int (Int32.ofNat len)])) := g9.trans (by
    refine XS.iload X9.here hexec rfl (hb hbytes d3) rfl ?_
    refine XS.iload X9.here hexec rfl (hb hbytes d5) rfl ?_
    refine XS.icmpYes X9.here hexec rfl (pc0 := 7) rfl (hb hbytes d7) rfl (ii_ge_t (nlt32 (by omega) (Nat.le_refl _))) (by decide) rfl ?_
    refine XS.iload X9.here hexec rfl (hb hbytes d44) rfl ?_
    exact Steps.refl _)
  exact ⟨T9, some (.int (Int32.ofNat len)), _, _, _, X9, by simp, rfl, rfl, (fun h => by cases h), ⟨rfl, B9, p9.from hh0, f9⟩, fun fs hl => c11.trans (X9.ireturnOut hexec hret rfl (Or.inl rfl) (hb hbytes d46) hl)⟩
end Cmp5
namespace Cmp3
def yN : MethodName := ⟨"java/lang/StringUTF16", "compress", "([CII)[B"⟩
abbrev yB : ByteArray := jdk_52_method_16_code
theorem d0 : decode yB 0 = .ok (.iload_n 2, 1) := by decide +kernel
theorem d1 : decode yB 1 = .ok (.newarray .byte, 2) := by decide +kernel
theorem d3 : decode yB 3 = .ok (.astore_n 3, 1) := by decide +kernel
theorem d4 : decode yB 4 = .ok (.aload_n 0, 1) := by decide +kernel
theorem d5 : decode yB 5 = .ok (.iload_n 1, 1) := by decide +kernel
theorem d6 : decode yB 6 = .ok (.aload_n 3, 1) := by decide +kernel
theorem d7 : decode yB 7 = .ok (.iconst 0, 1) := by decide +kernel
theorem d8 : decode yB 8 = .ok (.iload_n 2, 1) := by decide +kernel
theorem d9 : decode yB 9 = .ok (.invokestatic 115, 3) := by decide +kernel
theorem d12 : decode yB 12 = .ok (.istore 4, 2) := by decide +kernel
theorem d14 : decode yB 14 = .ok (.iload 4, 2) := by decide +kernel
theorem d16 : decode yB 16 = .ok (.iload_n 2, 1) := by decide +kernel
theorem d17 : decode yB 17 = .ok (.if_icmp (.eq) 40, 3) := by decide +kernel
theorem d57 : decode yB 57 = .ok (.aload_n 3, 1) := by decide +kernel
theorem d58 : decode yB 58 = .ok (.areturn, 1) := by decide +kernel
def site : List Cond := [.arrayClass .byte, Cmp5.tab] ++ staticW U16 115 Cmp5.yN
def tab : Cond := tabOf yN yB 6 (some (.array .byte)) site
def P (b : Addr) (A : Cell) (o len : Nat) (args : Array Value) (s : State) : Prop := args = #[.ref b, .int (Int32.ofNat o), .int (Int32.ofNat len)] ∧ Ch b A s ∧ o + len ≤ A.slots.size ∧ len ≤ 536870912 ∧ ∀ i, i < len → ¬ 255 < cv A (o + i)
def E (b : Addr) (A : Cell) (o len : Nat) (r : Option Value) (s u : State) : Prop := NewArr .byte "[B" len (fun j => .int (lo8 (cv A (o + j)))) r s u ∧ u.heap.size = s.heap.size + 1
theorem law (l : Launch) (b : Addr) (A : Cell) (o len : Nat) : Law l yN 3 3 1 18 yB 6 (some (.array .byte)) site (P b A o len) (E b A o len) [] 1 len := by
  refine Law.of_walk (plainFor_of_name (by decide +kernel)) (by decide +kernel) (by decide +kernel) (by decide) (fun _ _ h => by rw [h.1]; rfl) (fun _ U U' hal hh h => ⟨h.1, h.2.1.mv hal hh, h.2.2⟩) (fun r U U' V V' h1 hal h2 h => ⟨NewArr.mv r U U' V V' h1 hal h2 h.1, by rw [h1, h2]; exact h.2⟩) ?_
  intro p e s m args below meth c s₁ X0 hexec hbytes hml hret hlk hnm hown hh0 W hP
  obtain ⟨rfl, hA, l1, l2, hp⟩ := hP
  have a31 := hA.1.2.2.2
  have c1 : Steps p.tables e below (s₁.setTop (entryFrame m #[.ref b, .int (Int32.ofNat o), .int (Int32.ofNat len)] 6)) (s₁.setTop (mkF m 0 #[.val (.ref b), .val (.int (Int32.ofNat o)), .val (.int (Int32.ofNat len)), .unset, .unset, .unset] [])) := entry rfl
  have c2 : Steps p.tables e below (s₁.setTop (entryFrame m #[.ref b, .int (Int32.ofNat o), .int (Int32.ofNat len)] 6)) (s₁.setTop (mkF m 1 #[.val (.ref b), .val (.int (Int32.ofNat o)), .val (.int (Int32.ofNat len)), .unset, .unset, .unset] [.int (Int32.ofNat len)])) := c1.trans (by
    refine XS.iloadN X0.here hexec rfl (hb hbytes d0) rfl ?_
    exact Steps.refl _)
  obtain ⟨T3, B3, X3, ba3, bs3, bv3, bh3, bf3, st3⟩ := X0.anew hexec (atype := .byte) (wk W (.arrayClass .byte)) rfl (by show len * 1 ≤ _; omega) (by omega) (g := (mkF m 1 #[.val (.ref b), .val (.int (Int32.ofNat o)), .val (.int (Int32.ofNat len)), .unset, .unset, .unset] [.int (Int32.ofNat len)])) rfl (hb hbytes d1) (rest := []) rfl (Nat.le_refl _) (by show 0 + len ≤ len; omega)
  rw [hh0] at ba3 st3
  have kp3 : XT.Kept s T3 := (XT.Kept.of_eq hh0).push bh3
  have hA3 := hA.keep X3.warmed.alike (kp3 _ _ hA.1.1)
  have hne : b ≠ s.heap.size := hA.1.ne
  have c4 : Steps p.tables e below (s₁.setTop (entryFrame m #[.ref b, .int (Int32.ofNat o), .int (Int32.ofNat len)] 6)) (T3.setTop (mkF m 3 #[.val (.ref b), .val (.int (Int32.ofNat o)), .val (.int (Int32.ofNat len)), .unset, .unset, .unset] [.ref s.heap.size])) := c2.trans (st3 _ (Steps.refl _))
  have c5 : Steps p.tables e below (s₁.setTop (entryFrame m #[.ref b, .int (Int32.ofNat o), .int (Int32.ofNat len)] 6)) (T3.setTop (mkF m 9 #[.val (.ref b), .val (.int (Int32.ofNat o)), .val (.int (Int32.ofNat len)), .val (.ref s.heap.size), .unset, .unset] [.int (Int32.ofNat len), .int 0, .ref s.heap.size, .int (Int32.ofNat o), .ref b])) := c4.trans (by
    refine XS.astoreN X3.here hexec rfl (hb hbytes d3) rfl rfl rfl ?_
    refine XS.aloadN X3.here hexec rfl (hb hbytes d4) rfl rfl ?_
    refine XS.iloadN X3.here hexec rfl (hb hbytes d5) rfl ?_
    refine XS.aloadN X3.here hexec rfl (hb hbytes d6) rfl rfl ?_
    refine iconstV X3.here hexec rfl 0 (hb hbytes d7) (by decide) ?_
    refine XS.iloadN X3.here hexec rfl (hb hbytes d8) rfl ?_
    exact Steps.refl _)
  obtain ⟨v6, T6, X6, E6, g6⟩ := X3.callS hexec (Cmp5.law l b A s.heap.size B3 o 0 len) hown (wks W (staticW U16 115 Cmp5.yN)) (wk W Cmp5.tab) (W := 0) (Nat.le_of_ble_eq_true rfl) (Nat.le_of_ble_eq_true rfl) (Nat.le_refl _) (by show 0 + len + 0 ≤ len; omega) (g := (mkF m 9 #[.val (.ref b), .val (.int (Int32.ofNat o)), .val (.int (Int32.ofNat len)), .val (.ref s.heap.size), .unset, .unset] [.int (Int32.ofNat len), .int (Int32.ofNat 0), .ref s.heap.size, .int (Int32.ofNat o), .ref b])) rfl (by rw [hml]; rfl) c5 (argsL := [.ref b, .int (Int32.ofNat o), .ref s.heap.size, .int (Int32.ofNat 0), .int (Int32.ofNat len)]) (rest := []) rfl rfl (by show 2 * 0 + 0 ≤ _; decide) (hb hbytes d9) (⟨rfl, hA3, ba3, hne, l1, by rw [bs3]; simp, hp⟩)
  obtain ⟨rfl, B6, p6, f6⟩ := E6
  have c7 : Steps p.tables e below (s₁.setTop (entryFrame m #[.ref b, .int (Int32.ofNat o), .int (Int32.ofNat len)] 6)) (T6.setTop (mkF m 12 #[.val (.ref b), .val (.int (Int32.ofNat o)), .val (.int (Int32.ofNat len)), .val (.ref s.heap.size), .unset, .unset] [.int (Int32.ofNat len)])) := g6
  have c8 : Steps p.tables e below (s₁.setTop (entryFrame m #[.ref b, .int (Int32.ofNat o), .int (Int32.ofNat len)] 6)) (T6.setTop (mkF m 58 #[.val (.ref b), .val (.int (Int32.ofNat o)), .val (.int (Int32.ofNat len)), .val (.ref s.heap.size), .val (.int (Int32.ofNat len)), .unset] [.ref s.heap.size])) := c7.trans (by
    refine XS.istore X6.here hexec rfl (hb hbytes d12) rfl rfl ?_
    refine XS.iload X6.here hexec rfl (hb hbytes d14) rfl ?_
    refine XS.iloadN X6.here hexec rfl (hb hbytes d16) rfl ?_
    refine XS.icmpYes X6.here hexec rfl (pc0 := 17) rfl (hb hbytes d17) rfl (ii_eq_t rfl) (by decide) rfl ?_
    refine XS.aloadN X6.here hexec rfl (hb hbytes d57) rfl rfl ?_
    exact Steps.refl _)
  have X8 := X6.wide (L' := []) (cells' := 1) (slots' := len) (fun x hx hlt => by
    simp only [List.nil_append, copyLocs, List.mem_map, List.mem_range] at hx
    obtain ⟨i, -, rfl⟩ := hx
    exact absurd hlt (Nat.lt_irrefl _)) (Nat.le_refl _) (by omega)
  exact ⟨T6, some (.ref s.heap.size), _, _, _, X8, rfl, rfl, rfl, (fun h => by cases h), ⟨⟨rfl, B6, ba3.like (X3.warmed.alike.symm.trans X6.warmed.alike) p6.1 f6.1 f6.2.1 f6.2.2.1, f6.2.1.trans bv3, by rw [X6.warmed.alike.findClass, f6.1]; exact bf3, by rw [f6.2.2.1, bs3]; simp, fun j hj => by rw [f6.2.2.2 j, if_pos (by omega)]; rfl, kp3.put p6 (Nat.le_refl _)⟩, by rw [p6.2.2, bh3, hh0]; simp⟩, fun fs hl => c8.trans (X8.areturnOut hexec rfl hret rfl (hb hbytes d58) hl)⟩
end Cmp3
namespace CodL
def yN : MethodName := ⟨"java/lang/StringUTF16", "coderFromArrayLen", "([BI)B"⟩
abbrev yB : ByteArray := jdk_52_method_15_code
theorem d0 : decode yB 0 = .ok (.iload_n 1, 1) := by decide +kernel
theorem d1 : decode yB 1 = .ok (.aload_n 0, 1) := by decide +kernel
theorem d2 : decode yB 2 = .ok (.arraylength, 1) := by decide +kernel
theorem d3 : decode yB 3 = .ok (.isub, 1) := by decide +kernel
theorem d4 : decode yB 4 = .ok (.bipush 31, 2) := by decide +kernel
theorem d6 : decode yB 6 = .ok (.iushr, 1) := by decide +kernel
theorem d7 : decode yB 7 = .ok (.i2b, 1) := by decide +kernel
theorem d8 : decode yB 8 = .ok (.ireturn, 1) := by decide +kernel
def site : List Cond := []
def tab : Cond := tabOf yN yB 2 (some .byte) site
def P (d : Addr) (B : Cell) (args : Array Value) (s : State) : Prop := args = #[.ref d, .int (Int32.ofNat B.slots.size)] ∧ Arr .byte d B s
def E (r : Option Value) (s u : State) : Prop := XT.PureE (some (.int 0)) r s u
theorem law (l : Launch) (d : Addr) (B : Cell) : Law l yN 2 2 0 0 yB 2 (some .byte) site (P d B) E [] 0 0 := by
  refine Law.of_walk (plainFor_of_name (by decide +kernel)) (by decide +kernel) (by decide +kernel) (by decide) (fun _ _ h => by rw [h.1]; rfl) (fun _ U U' hal hh h => ⟨h.1, h.2.mv hal hh⟩) (fun r U U' V V' h1 hal h2 h => XT.PureE.mv r U U' V V' h1 hal h2 h) ?_
  intro p e s m args below meth c s₁ X0 hexec hbytes hml hret hlk hnm hown hh0 W hP
  obtain ⟨rfl, hB⟩ := hP
  have hB0 := hB.mv X0.warmed.alike hh0
  have c1 : Steps p.tables e below (s₁.setTop (entryFrame m #[.ref d, .int (Int32.ofNat B.slots.size)] 2)) (s₁.setTop (mkF m 0 #[.val (.ref d), .val (.int (Int32.ofNat B.slots.size))] [])) := entry rfl
  have c2 : Steps p.tables e below (s₁.setTop (entryFrame m #[.ref d, .int (Int32.ofNat B.slots.size)] 2)) (s₁.setTop (mkF m 2 #[.val (.ref d), .val (.int (Int32.ofNat B.slots.size))] [.ref d, .int (Int32.ofNat B.slots.size)])) := c1.trans (by
    refine XS.iloadN X0.here hexec rfl (hb hbytes d0) rfl ?_
    refine XS.aloadN X0.here hexec rfl (hb hbytes d1) rfl rfl ?_
    exact Steps.refl _)
  have c3 : Steps p.tables e below (s₁.setTop (entryFrame m #[.ref d, .int (Int32.ofNat B.slots.size)] 2)) (s₁.setTop (mkF m 8 #[.val (.ref d), .val (.int (Int32.ofNat B.slots.size))] [.int (lo8 (ushr (Int32.ofNat B.slots.size - Int32.ofNat B.slots.size) 31))])) := c2.trans (by
    refine X0.alen hexec hB0 rfl rfl (hb hbytes d2) ?_
    refine XS.isub X0.here hexec rfl (hb hbytes d3) rfl ?_
    refine bipushV X0.here hexec rfl 31 (hb hbytes d4) (by decide) ?_
    refine iushr X0.here hexec rfl (hb hbytes d6) rfl ?_
    refine i2b X0.here hexec rfl (hb hbytes d7) rfl ?_
    exact Steps.refl _)
  have e0 : lo8 (ushr (Int32.ofNat B.slots.size - Int32.ofNat B.slots.size) 31) = 0 := by rw [Int32.sub_self]; decide
  rw [e0] at c3
  exact ⟨s₁, some (.int 0), _, _, _, X0, rfl, rfl, rfl, (fun h => by cases h), ⟨rfl, hh0⟩, fun fs hl => c3.trans (X0.ireturnOut hexec hret rfl (Or.inr (Or.inr (Or.inl rfl))) (hb hbytes d8) hl)⟩
end CodL
def Got (a : Addr) (D : Cell) (fV fC : Field) (A : Cell) (o len : Nat) (r : Option Value) (s u : State) : Prop := r = none ∧ ∃ D' V : Cell, Blank "java/lang/String" a D' u ∧ Same D D' [fV.slot, fC.slot] ∧ D'.slots[fV.slot]? = some (.ref s.heap.size) ∧ D'.slots[fC.slot]? = some (.int 0) ∧ Arr .byte s.heap.size V u ∧ V.vm = .none ∧ u.vm.findClass "[B" = some V.cls ∧ V.slots.size = len ∧ (∀ j, j < len → V.slots[j]? = some (.int (lo8 (cv A (o + j))))) ∧ (∀ (y : Addr) (c : Cell), y ≠ a → s.heap[y]? = some c → u.heap[y]? = some c) ∧ u.heap.size = s.heap.size + 1
theorem Got.mv {a : Addr} {D A : Cell} {fV fC : Field} {o len : Nat} : ∀ r (U U' V V' : State), U'.heap = U.heap → V.vm.Alike V'.vm → V'.heap = V.heap → Got a D fV fC A o len r U V → Got a D fV fC A o len r U' V' :=
  fun r U U' V V' h1 hal h2 ⟨e0, D', X, a1, a2, a3, a4, a5, a6, a7, a8, a9, a10, a11⟩ => ⟨e0, D', X, a1.mv hal h2, a2, by rw [h1]; exact a3, a4, by rw [h1]; exact a5.mv hal h2, a6, by rw [hal.findClass]; exact a7, a8, a9, by rw [h1, h2]; exact a10, by rw [h1, h2]; exact a11⟩
namespace New4
def yN : MethodName := ⟨"java/lang/String", "<init>", "([CIILjava/lang/Void;)V"⟩
abbrev yB : ByteArray := jdk_42_method_149_code
theorem d0 : decode yB 0 = .ok (.aload_n 0, 1) := by decide +kernel
theorem d1 : decode yB 1 = .ok (.invokespecial 1, 3) := by decide +kernel
theorem d4 : decode yB 4 = .ok (.iload_n 3, 1) := by decide +kernel
theorem d5 : decode yB 5 = .ok (.ifCond (.ne) 22, 3) := by decide +kernel
theorem d27 : decode yB 27 = .ok (.getstatic 38, 3) := by decide +kernel
theorem d30 : decode yB 30 = .ok (.ifCond (.eq) 28, 3) := by decide +kernel
theorem d33 : decode yB 33 = .ok (.aload_n 1, 1) := by decide +kernel
theorem d34 : decode yB 34 = .ok (.iload_n 2, 1) := by decide +kernel
theorem d35 : decode yB 35 = .ok (.iload_n 3, 1) := by decide +kernel
theorem d36 : decode yB 36 = .ok (.invokestatic 177, 3) := by decide +kernel
theorem d39 : decode yB 39 = .ok (.astore 5, 2) := by decide +kernel
theorem d41 : decode yB 41 = .ok (.aload_n 0, 1) := by decide +kernel
theorem d42 : decode yB 42 = .ok (.aload 5, 2) := by decide +kernel
theorem d44 : decode yB 44 = .ok (.iload_n 3, 1) := by decide +kernel
theorem d45 : decode yB 45 = .ok (.invokestatic 47, 3) := by decide +kernel
theorem d48 : decode yB 48 = .ok (.putfield 15, 3) := by decide +kernel
theorem d51 : decode yB 51 = .ok (.aload_n 0, 1) := by decide +kernel
theorem d52 : decode yB 52 = .ok (.aload 5, 2) := by decide +kernel
theorem d54 : decode yB 54 = .ok (.putfield 9, 3) := by decide +kernel
theorem d57 : decode yB 57 = .ok (.return_, 1) := by decide +kernel
def site : List Cond := [.fieldLink "java/lang/String" 38 "java/lang/String" "COMPACT_STRINGS" "Z", Cmp3.tab, CodL.tab, .laysFinal "java/lang/String" "java/lang/String" "value" "[B", .fieldLink "java/lang/String" 9 "java/lang/String" "value" "[B", .laysFinal "java/lang/String" "java/lang/String" "coder" "B", .fieldLink "java/lang/String" 15 "java/lang/String" "coder" "B"] ++ objW "java/lang/String" 1 ++ staticW "java/lang/String" 177 Cmp3.yN ++ staticW "java/lang/String" 47 CodL.yN
def tab : Cond := tabOf yN yB 6 none site
def P (a : Addr) (D : Cell) (fV fC : Field) (b : Addr) (A : Cell) (z : Int32) (o len : Nat) (args : Array Value) (s : State) : Prop := args = #[.ref a, .ref b, .int (Int32.ofNat o), .int (Int32.ofNat len), .null] ∧ Blank "java/lang/String" a D s ∧ Found "java/lang/String" "value" "[B" fV s ∧ Found "java/lang/String" "coder" "B" fC s ∧ Ch b A s ∧ StaticIs s "java/lang/String" "COMPACT_STRINGS" "Z" (.int z) ∧ ¬ z = 0 ∧ 0 < len ∧ o + len ≤ A.slots.size ∧ len ≤ 536870912 ∧ ∀ i, i < len → ¬ 255 < cv A (o + i)
def E (a : Addr) (D : Cell) (fV fC : Field) (A : Cell) (o len : Nat) (r : Option Value) (s u : State) : Prop := Got a D fV fC A o len r s u
theorem law (l : Launch) (a : Addr) (D : Cell) (fV fC : Field) (b : Addr) (A : Cell) (z : Int32) (o len : Nat) : Law l yN 5 4 2 35 yB 6 none site (P a D fV fC b A z o len) (E a D fV fC A o len) [⟨a, fC.slot⟩, ⟨a, fV.slot⟩] 1 len := by
  refine Law.of_walk (plainFor_of_name (by decide +kernel)) (by decide +kernel) (by decide +kernel) (by decide) (fun _ _ h => by rw [h.1]; rfl) (fun _ U U' hal hh h => ⟨h.1, h.2.1.mv hal hh, h.2.2.1.al hal, h.2.2.2.1.al hal, h.2.2.2.2.1.mv hal hh, h.2.2.2.2.2.1.there hal hh, h.2.2.2.2.2.2⟩) (fun r U U' V V' h1 hal h2 h => Got.mv r U U' V V' h1 hal h2 h) ?_
  intro p e s m args below meth c s₁ X0 hexec hbytes hml hret hlk hnm hown hh0 W hP
  obtain ⟨rfl, hB, f1, f2, hA, s1, hz, l0, l1, l2, hp⟩ := hP
  have a31 := hA.1.2.2.2
  have c1 : Steps p.tables e below (s₁.setTop (entryFrame m #[.ref a, .ref b, .int (Int32.ofNat o), .int (Int32.ofNat len), .null] 6)) (s₁.setTop (mkF m 0 #[.val (.ref a), .val (.ref b), .val (.int (Int32.ofNat o)), .val (.int (Int32.ofNat len)), .val .null, .unset] [])) := entry rfl
  have c2 : Steps p.tables e below (s₁.setTop (entryFrame m #[.ref a, .ref b, .int (Int32.ofNat o), .int (Int32.ofNat len), .null] 6)) (s₁.setTop (mkF m 1 #[.val (.ref a), .val (.ref b), .val (.int (Int32.ofNat o)), .val (.int (Int32.ofNat len)), .val .null, .unset] [.ref a])) := c1.trans (by
    refine XS.aloadN X0.here hexec rfl (hb hbytes d0) rfl rfl ?_
    exact Steps.refl _)
  obtain ⟨T3, X3, q3, st3⟩ := X0.oinit hexec hown (wks W (objW "java/lang/String" 1)) (g := (mkF m 1 #[.val (.ref a), .val (.ref b), .val (.int (Int32.ofNat o)), .val (.int (Int32.ofNat len)), .val .null, .unset] [.ref a])) rfl (by rw [hml]; rfl) (rest := []) rfl (hb hbytes d1) (W := 0) (by show 2 * 0 + 0 ≤ _; decide) (Nat.le_of_ble_eq_true rfl) (Nat.le_of_ble_eq_true rfl)
  have hh3 := q3.trans hh0
  have c4 : Steps p.tables e below (s₁.setTop (entryFrame m #[.ref a, .ref b, .int (Int32.ofNat o), .int (Int32.ofNat len), .null] 6)) (T3.setTop (mkF m 27 #[.val (.ref a), .val (.ref b), .val (.int (Int32.ofNat o)), .val (.int (Int32.ofNat len)), .val .null, .unset] [])) := (c2.trans (st3 _ (Steps.refl _))).trans (by
    refine XS.iloadN X3.here hexec rfl (hb hbytes d4) rfl ?_
    refine XS.ifYes X3.here hexec rfl (pc0 := 5) rfl (hb hbytes d5) rfl (i0_ne_t (nz32 (by omega) l0)) (by decide) rfl ?_
    exact Steps.refl _)
  obtain ⟨T5, X5, q5, st5⟩ := X3.sget hexec hown (wk W (.fieldLink "java/lang/String" 38 "java/lang/String" "COMPACT_STRINGS" "Z")) s1 (fun _ _ h => by rw [hh3]; exact h) (g := (mkF m 27 #[.val (.ref a), .val (.ref b), .val (.int (Int32.ofNat o)), .val (.int (Int32.ofNat len)), .val .null, .unset] [])) rfl (hb hbytes d27)
  have hh5 := q5.trans hh3
  have c6 : Steps p.tables e below (s₁.setTop (entryFrame m #[.ref a, .ref b, .int (Int32.ofNat o), .int (Int32.ofNat len), .null] 6)) (T5.setTop (mkF m 30 #[.val (.ref a), .val (.ref b), .val (.int (Int32.ofNat o)), .val (.int (Int32.ofNat len)), .val .null, .unset] [.int z])) := c4.trans (st5 _ (Steps.refl _))
  have c7 : Steps p.tables e below (s₁.setTop (entryFrame m #[.ref a, .ref b, .int (Int32.ofNat o), .int (Int32.ofNat len), .null] 6)) (T5.setTop (mkF m 36 #[.val (.ref a), .val (.ref b), .val (.int (Int32.ofNat o)), .val (.int (Int32.ofNat len)), .val .null, .unset] [.int (Int32.ofNat len), .int (Int32.ofNat o), .ref b])) := c6.trans (by
    refine XS.ifNo X5.here hexec rfl (hb hbytes d30) rfl (i0_eq_f hz) ?_
    refine XS.aloadN X5.here hexec rfl (hb hbytes d33) rfl rfl ?_
    refine XS.iloadN X5.here hexec rfl (hb hbytes d34) rfl ?_
    refine XS.iloadN X5.here hexec rfl (hb hbytes d35) rfl ?_
    exact Steps.refl _)
  obtain ⟨v8, T8, X8, E8, g8⟩ := X5.callS hexec (Cmp3.law l b A o len) hown (wks W (staticW "java/lang/String" 177 Cmp3.yN)) (wk W Cmp3.tab) (W := 0) (Nat.le_of_ble_eq_true rfl) (Nat.le_of_ble_eq_true rfl) (Nat.le_refl _) (by show 0 + len ≤ len; omega) (g := (mkF m 36 #[.val (.ref a), .val (.ref b), .val (.int (Int32.ofNat o)), .val (.int (Int32.ofNat len)), .val .null, .unset] [.int (Int32.ofNat len), .int (Int32.ofNat o), .ref b])) rfl (by rw [hml]; rfl) c7 (argsL := [.ref b, .int (Int32.ofNat o), .int (Int32.ofNat len)]) (rest := []) rfl rfl (by show 2 * 0 + 0 ≤ _; decide) (hb hbytes d36) (⟨rfl, hA.mv X5.warmed.alike hh5, l1, l2, hp⟩)
  obtain ⟨e8, z8⟩ := E8
  obtain ⟨rfl, N, n1, n2, n3, n4, n5, n6⟩ := NewArr.mv _ T5 s _ _ hh5.symm (Vm.Alike.refl _) rfl e8
  rw [hh5] at z8
  have hB1 := hB.keep X8.warmed.alike (n6 _ _ hB.1)
  have hne : s.heap.size ≠ a := (Nat.ne_of_lt (Array.getElem?_eq_some_iff.mp hB.1).1).symm
  have c9 : Steps p.tables e below (s₁.setTop (entryFrame m #[.ref a, .ref b, .int (Int32.ofNat o), .int (Int32.ofNat len), .null] 6)) (T8.setTop (mkF m 39 #[.val (.ref a), .val (.ref b), .val (.int (Int32.ofNat o)), .val (.int (Int32.ofNat len)), .val .null, .unset] [.ref s.heap.size])) := g8
  have c10 : Steps p.tables e below (s₁.setTop (entryFrame m #[.ref a, .ref b, .int (Int32.ofNat o), .int (Int32.ofNat len), .null] 6)) (T8.setTop (mkF m 45 #[.val (.ref a), .val (.ref b), .val (.int (Int32.ofNat o)), .val (.int (Int32.ofNat len)), .val .null, .val (.ref s.heap.size)] [.int (Int32.ofNat N.slots.size), .ref s.heap.size, .ref a])) := by
    have hc : Steps p.tables e below (s₁.setTop (entryFrame m #[.ref a, .ref b, .int (Int32.ofNat o), .int (Int32.ofNat len), .null] 6)) (T8.setTop (mkF m 45 #[.val (.ref a), .val (.ref b), .val (.int (Int32.ofNat o)), .val (.int (Int32.ofNat len)), .val .null, .val (.ref s.heap.size)] [.int (Int32.ofNat len), .ref s.heap.size, .ref a])) := c9.trans (by
      refine XS.astore X8.here hexec rfl (hb hbytes d39) rfl rfl rfl ?_
      refine XS.aloadN X8.here hexec rfl (hb hbytes d41) rfl rfl ?_
      refine XS.aload X8.here hexec rfl (hb hbytes d42) rfl rfl ?_
      refine XS.iloadN X8.here hexec rfl (hb hbytes d44) rfl ?_
      exact Steps.refl _)
    rw [n4]; exact hc
  obtain ⟨v11, T11, X11, E11, g11⟩ := X8.callS hexec (CodL.law l s.heap.size N) hown (wks W (staticW "java/lang/String" 47 CodL.yN)) (wk W CodL.tab) (W := 1) (Nat.le_of_ble_eq_true rfl) (Nat.le_of_ble_eq_true rfl) (Nat.le_refl _) (by show 0 + len + 0 ≤ len; omega) (g := (mkF m 45 #[.val (.ref a), .val (.ref b), .val (.int (Int32.ofNat o)), .val (.int (Int32.ofNat len)), .val .null, .val (.ref s.heap.size)] [.int (Int32.ofNat N.slots.size), .ref s.heap.size, .ref a])) rfl (by rw [hml]; rfl) c10 (argsL := [.ref s.heap.size, .int (Int32.ofNat N.slots.size)]) (rest := [.ref a]) rfl rfl (by show 2 * 0 + (1 + 0) ≤ _; decide) (hb hbytes d45) (⟨rfl, n1⟩)
  obtain ⟨rfl, q11⟩ := E11
  have hB11 := hB1.mv (X8.warmed.alike.symm.trans X11.warmed.alike) q11
  have c12 : Steps p.tables e below (s₁.setTop (entryFrame m #[.ref a, .ref b, .int (Int32.ofNat o), .int (Int32.ofNat len), .null] 6)) (T11.setTop (mkF m 48 #[.val (.ref a), .val (.ref b), .val (.int (Int32.ofNat o)), .val (.int (Int32.ofNat len)), .val .null, .val (.ref s.heap.size)] [.int 0, .ref a])) := g11
  obtain ⟨T13, X13, p13, bl13, sl13, st13⟩ := X11.finit hexec hown (wk W (.fieldLink "java/lang/String" 15 "java/lang/String" "coder" "B")) (Or.inr ⟨_, (wk W (.laysFinal "java/lang/String" "java/lang/String" "coder" "B"))⟩) (Or.inl ⟨rfl, hnm⟩) f2 (Or.inl rfl) hB11 (t := .byte) (by decide +kernel) rfl (g := (mkF m 48 #[.val (.ref a), .val (.ref b), .val (.int (Int32.ofNat o)), .val (.int (Int32.ofNat len)), .val .null, .val (.ref s.heap.size)] [.int 0, .ref a])) rfl (rest := []) rfl (hb hbytes d48)
  have c14 : Steps p.tables e below (s₁.setTop (entryFrame m #[.ref a, .ref b, .int (Int32.ofNat o), .int (Int32.ofNat len), .null] 6)) (T13.setTop (mkF m 54 #[.val (.ref a), .val (.ref b), .val (.int (Int32.ofNat o)), .val (.int (Int32.ofNat len)), .val .null, .val (.ref s.heap.size)] [.ref s.heap.size, .ref a])) := (c12.trans (st13 _ (Steps.refl _))).trans (by
    refine XS.aloadN X13.here hexec rfl (hb hbytes d51) rfl rfl ?_
    refine XS.aload X13.here hexec rfl (hb hbytes d52) rfl rfl ?_
    exact Steps.refl _)
  obtain ⟨T15, X15, p15, bl15, sl15, st15⟩ := X13.finit hexec hown (wk W (.fieldLink "java/lang/String" 9 "java/lang/String" "value" "[B")) (Or.inr ⟨_, (wk W (.laysFinal "java/lang/String" "java/lang/String" "value" "[B"))⟩) (Or.inl ⟨rfl, hnm⟩) f1 (Or.inl rfl) bl13 (t := (.array .byte)) (by decide +kernel) rfl (g := (mkF m 54 #[.val (.ref a), .val (.ref b), .val (.int (Int32.ofNat o)), .val (.int (Int32.ofNat len)), .val .null, .val (.ref s.heap.size)] [.ref s.heap.size, .ref a])) rfl (rest := []) rfl (hb hbytes d54)
  have c16 : Steps p.tables e below (s₁.setTop (entryFrame m #[.ref a, .ref b, .int (Int32.ofNat o), .int (Int32.ofNat len), .null] 6)) (T15.setTop (mkF m 57 #[.val (.ref a), .val (.ref b), .val (.int (Int32.ofNat o)), .val (.int (Int32.ofNat len)), .val .null, .val (.ref s.heap.size)] [])) := c14.trans (st15 _ (Steps.refl _))
  have ap := apart (Or.inr ⟨_, (wk W (.laysFinal "java/lang/String" "java/lang/String" "value" "[B"))⟩) (Or.inr ⟨_, (wk W (.laysFinal "java/lang/String" "java/lang/String" "coder" "B"))⟩) f1 f2 (t₁ := .array .byte) (t₂ := .byte) (by decide +kernel) (by decide +kernel) (by decide)
  have al := X8.warmed.alike.symm.trans X15.warmed.alike
  have n7 : T11.heap[s.heap.size]? = some N := by rw [q11]; exact n1.1
  exact ⟨T15, none, _, _, _, X15, by simp, rfl, by omega, (fun _ => rfl), ⟨rfl, _, N, bl15, ((Same.refl D _).set _ (by simp)).set _ (by simp), sl15, (Cell.slots_setSlot_ne _ ap).trans sl13, n1.keep al (p15.other hne (p13.other hne n7)), n2, by rw [al.findClass]; exact n3, n4, n5, fun y c h1 h2 => p15.other h1 (p13.other h1 (by rw [q11]; exact n6 y c h2)), by rw [p15.2.2, p13.2.2, q11]; exact z8⟩, fun fs hl => c16.trans (X15.returnOut hexec hret (hb hbytes d57) hl)⟩
end New4
namespace New1
def yN : MethodName := ⟨"java/lang/String", "<init>", "([C)V"⟩
abbrev yB : ByteArray := jdk_42_method_3_code
theorem d0 : decode yB 0 = .ok (.aload_n 0, 1) := by decide +kernel
theorem d1 : decode yB 1 = .ok (.aload_n 1, 1) := by decide +kernel
theorem d2 : decode yB 2 = .ok (.iconst 0, 1) := by decide +kernel
theorem d3 : decode yB 3 = .ok (.aload_n 1, 1) := by decide +kernel
theorem d4 : decode yB 4 = .ok (.arraylength, 1) := by decide +kernel
theorem d5 : decode yB 5 = .ok (.aconst_null, 1) := by decide +kernel
theorem d6 : decode yB 6 = .ok (.invokespecial 27, 3) := by decide +kernel
theorem d9 : decode yB 9 = .ok (.return_, 1) := by decide +kernel
def site : List Cond := [New4.tab] ++ initW "java/lang/String" 27 New4.yN
def tab : Cond := tabOf yN yB 2 none site
def P (a : Addr) (D : Cell) (fV fC : Field) (b : Addr) (A : Cell) (z : Int32) (args : Array Value) (s : State) : Prop := args = #[.ref a, .ref b] ∧ Blank "java/lang/String" a D s ∧ Found "java/lang/String" "value" "[B" fV s ∧ Found "java/lang/String" "coder" "B" fC s ∧ Ch b A s ∧ StaticIs s "java/lang/String" "COMPACT_STRINGS" "Z" (.int z) ∧ ¬ z = 0 ∧ 0 < A.slots.size ∧ A.slots.size ≤ 536870912 ∧ ∀ i, i < A.slots.size → ¬ 255 < cv A i
def E (a : Addr) (D : Cell) (fV fC : Field) (A : Cell) (r : Option Value) (s u : State) : Prop := Got a D fV fC A 0 A.slots.size r s u
theorem law (l : Launch) (a : Addr) (D : Cell) (fV fC : Field) (b : Addr) (A : Cell) (z : Int32) : Law l yN 2 1 3 52 yB 2 none site (P a D fV fC b A z) (E a D fV fC A) [⟨a, fC.slot⟩, ⟨a, fV.slot⟩] 1 A.slots.size := by
  refine Law.of_walk (plainFor_of_name (by decide +kernel)) (by decide +kernel) (by decide +kernel) (by decide) (fun _ _ h => by rw [h.1]; rfl) (fun _ U U' hal hh h => ⟨h.1, h.2.1.mv hal hh, h.2.2.1.al hal, h.2.2.2.1.al hal, h.2.2.2.2.1.mv hal hh, h.2.2.2.2.2.1.there hal hh, h.2.2.2.2.2.2⟩) (fun r U U' V V' h1 hal h2 h => Got.mv r U U' V V' h1 hal h2 h) ?_
  intro p e s m args below meth c s₁ X0 hexec hbytes hml hret hlk hnm hown hh0 W hP
  obtain ⟨rfl, hB, f1, f2, hA, s1, hz, l0, l2, hp⟩ := hP
  have c1 : Steps p.tables e below (s₁.setTop (entryFrame m #[.ref a, .ref b] 2)) (s₁.setTop (mkF m 0 #[.val (.ref a), .val (.ref b)] [])) := entry rfl
  have c2 : Steps p.tables e below (s₁.setTop (entryFrame m #[.ref a, .ref b] 2)) (s₁.setTop (mkF m 6 #[.val (.ref a), .val (.ref b)] [.null, .int (Int32.ofNat A.slots.size), .int 0, .ref b, .ref a])) := c1.trans (by
    refine XS.aloadN X0.here hexec rfl (hb hbytes d0) rfl rfl ?_
    refine XS.aloadN X0.here hexec rfl (hb hbytes d1) rfl rfl ?_
    refine iconstV X0.here hexec rfl 0 (hb hbytes d2) (by decide) ?_
    refine XS.aloadN X0.here hexec rfl (hb hbytes d3) rfl rfl ?_
    refine X0.alen hexec (hA.1.mv X0.warmed.alike hh0) rfl rfl (hb hbytes d4) ?_
    refine XS.aconstNull X0.here hexec rfl (hb hbytes d5) ?_
    exact Steps.refl _)
  obtain ⟨v3, T3, X3, E3, g3⟩ := X0.callN hexec (New4.law l a D fV fC b A z 0 A.slots.size) rfl hown (wks W (initW "java/lang/String" 27 New4.yN)) (W New4.tab (by simp only [site, List.mem_cons, List.mem_append, true_or, or_true])) (W := 0) (Nat.le_of_ble_eq_true rfl) (Nat.le_of_ble_eq_true rfl) (Nat.le_refl _) (by show 0 + A.slots.size ≤ A.slots.size; omega) (g := (mkF m 6 #[.val (.ref a), .val (.ref b)] [.null, .int (Int32.ofNat A.slots.size), .int (Int32.ofNat 0), .ref b, .ref a])) rfl (by rw [hml]; rfl) c2 (argsL := [.ref b, .int (Int32.ofNat 0), .int (Int32.ofNat A.slots.size), .null]) (rest := []) rfl rfl (by show 2 * 0 + 0 ≤ _; decide) (hb hbytes d6) (⟨rfl, hB.mv X0.warmed.alike hh0, f1.al X0.warmed.alike, f2.al X0.warmed.alike, hA.mv X0.warmed.alike hh0, s1.there X0.warmed.alike hh0, hz, l0, by omega, l2, fun i hi => by rw [Nat.zero_add]; exact hp i hi⟩)
  have e0 := Got.mv _ s₁ s _ _ hh0.symm (Vm.Alike.refl _) rfl E3
  obtain rfl := e0.1
  have c4 : Steps p.tables e below (s₁.setTop (entryFrame m #[.ref a, .ref b] 2)) (T3.setTop (mkF m 9 #[.val (.ref a), .val (.ref b)] [])) := g3
  exact ⟨T3, none, _, _, _, X3, by simp, rfl, by omega, (fun _ => rfl), e0, fun fs hl => c4.trans (X3.returnOut hexec hret (hb hbytes d9) hl)⟩
theorem pays {l : Launch} {R : Room} {p : Program} {e : Env} {below : List Frame} {s : State} {sargs : Array Value} {len W : Nat} (a : Addr) (D : Cell) (fV fC : Field) (b : Addr) (A : Cell) (z : Int32) (htab : tab.before sargs s = true) (hfr : 4 ≤ R.frames) (hlo : W + 65 ≤ R.locals) :
    Back l R p e below s sargs yN len W (fun A₁ a₁ => A₁.cells + 1 ≤ R.cells ∧ A₁.slots + A.slots.size ≤ R.slots ∧ P a D fV fC b A z a₁ A₁.U) (fun A₁ _ v₁ B₁ => E a D fV fC A v₁ A₁.U B₁.U ∧ B₁.locs = A₁.locs ++ [⟨a, fC.slot⟩, ⟨a, fV.slot⟩] ∧ B₁.cells = A₁.cells + 1 ∧ B₁.slots = A₁.slots + A.slots.size) :=
  (law l a D fV fC b A z).pays htab hfr (by omega)
end New1
theorem lo8_mask {x : Int32} (h0 : ¬ x < 0) (h1 : ¬ 255 < x) : lo8 x &&& 255 = x := by
  have t : ∀ k : Fin 256, lo8 (Int32.ofNat k.val) &&& 255 = Int32.ofNat k.val := by decide +kernel
  rw [Int32.lt_iff_toInt_lt] at h0 h1
  have e0 : (0 : Int32).toInt = 0 := rfl
  have e1 : (255 : Int32).toInt = 255 := rfl
  obtain ⟨k, hk⟩ : ∃ k : Nat, x.toInt = k := ⟨x.toInt.toNat, by omega⟩
  have hx : x = Int32.ofNat k := Int32.toInt_inj.mp (by rw [hk, Int32.toInt_ofNat_small (by omega)])
  rw [hx]
  exact t ⟨k, by omega⟩
end StrChars
namespace StrChars.Road
open Jvm Sem ClassFile Op Lib Jvm.Stand Jvm.Free Jvm.Free.XT
open Jvm.Lib.Cold (StaticIs)
abbrev ST : String := "java/lang/String"
abbrev words : List Jvm.Cond := [.code New1.yN New1.yB 2 none, .initialized ST, .methodLink ST 27 New4.yN, .instanceMethod New4.yN,
  .code New4.yN New4.yB 6 none, .fieldLink ST 38 ST "COMPACT_STRINGS" "Z", .laysFinal ST ST "value" "[B", .fieldLink ST 9 ST "value" "[B", .laysFinal ST ST "coder" "B", .fieldLink ST 15 ST "coder" "B",
  .methodLink ST 1 Lib.objectInit, .instanceMethod Lib.objectInit, .code Lib.objectInit ⟨#[0xb1]⟩ 1 none, .methodLink ST 177 Cmp3.yN, .static Cmp3.yN, .methodLink ST 47 CodL.yN, .static CodL.yN,
  .code Cmp3.yN Cmp3.yB 6 (some (.array .byte)), .initialized U16, .arrayClass .byte, .methodLink U16 115 Cmp5.yN, .static Cmp5.yN, .code Cmp5.yN Cmp5.yB 7 (some .int), .code CodL.yN CodL.yB 2 (some .byte)]
theorem tab_of {a : Array Value} {s : State} (h : ∀ w ∈ words, w.before a s = true) : New1.tab.before a s = true := by
  have h5 : Cmp5.tab.before a s = true := unparts (wk h (.code Cmp5.yN Cmp5.yB 7 (some .int))) (wks h (.initialized Cmp5.yN.cls :: Cmp5.site))
  have hc : CodL.tab.before a s = true := unparts (wk h (.code CodL.yN CodL.yB 2 (some .byte))) (wks h (.initialized CodL.yN.cls :: CodL.site))
  have q5 : ∀ w ∈ Cmp5.tab :: words, w.before a s = true := fun w hw => (List.mem_cons.mp hw).elim (fun e => e ▸ h5) (h w)
  have h3 : Cmp3.tab.before a s = true := unparts (wk q5 (.code Cmp3.yN Cmp3.yB 6 (some (.array .byte)))) (wks q5 (.initialized Cmp3.yN.cls :: Cmp3.site))
  have q3 : ∀ w ∈ Cmp3.tab :: CodL.tab :: words, w.before a s = true := fun w hw => (List.mem_cons.mp hw).elim (fun e => e ▸ h3) fun hw => (List.mem_cons.mp hw).elim (fun e => e ▸ hc) (h w)
  have h4 : New4.tab.before a s = true := unparts (wk q3 (.code New4.yN New4.yB 6 none)) (wks q3 (.initialized New4.yN.cls :: New4.site))
  have q4 : ∀ w ∈ New4.tab :: words, w.before a s = true := fun w hw => (List.mem_cons.mp hw).elim (fun e => e ▸ h4) (h w)
  exact unparts (wk q4 (.code New1.yN New1.yB 2 none)) (wks q4 (.initialized New1.yN.cls :: New1.site))
theorem moved {Z s : State} {a0 args : Array Value} (hZ : Z.Warmed39 s.vm) (hw : ∀ d ∈ words, d.before a0 Z = true) : ∀ d ∈ words, d.before args s = true := fun d hd => by
  have q := hw d hd
  have t : ∀ d ∈ words, d = .arrayClass .byte ∨ (d.onTables && d.keepsFace) = true := by decide +kernel
  rcases t d hd with rfl | t
  · exact RoadKit.mvA hZ q
  · exact RoadKit.mv hZ q t
def Q (Z : State) (x : Addr) (A : Cell) (h : Heap) (v : Option Value) (h' : Heap) (L : List Loc) : Prop := v = none ∧ (∀ y ∈ L, y.base = x) ∧ RoadKit.Keep h h' [x] ∧ h'.size = h.size + 1 ∧ RoadKit.Exa Z h' x ST ∧ RoadKit.Fld Z h' x ST "value" "[B" (.ref h.size) ∧ RoadKit.Fld Z h' x ST "coder" "B" (.int 0) ∧
  (∃ V : Cell, RoadKit.Arr Z h' h.size V .byte ∧ V.vm = .none ∧ Z.vm.findClass "[B" = some V.cls ∧ V.slots.size = A.slots.size ∧ ∀ j, j < A.slots.size → V.slots[j]? = some (.int (lo8 (cv A j)))) ∧
  ∀ (O n d : String) (w : Value), RoadKit.Fld Z h x O n d w → RoadKit.slotOf Z O n d ≠ RoadKit.slotOf Z ST "value" "[B" → RoadKit.slotOf Z O n d ≠ RoadKit.slotOf Z ST "coder" "B" → RoadKit.Fld Z h' x O n d w
theorem back {p : Program} {l : Launch} {e : Env} {R : Room} {s : State} {args : Array Value} {below : List Frame} {len W : Nat} {Z : State} {a0 : Array Value} {h : Heap} (hZ : Z.Warmed39 s.vm) (hw : ∀ d ∈ words, d.before a0 Z = true) {kI : Nat} (wi : (Jvm.Cond.instantiable ST kI).before a0 Z = true)
    {x b : Addr} {A : Cell} {z : Int32} {v0 c0 : Value} (E : RoadKit.Exa Z h x ST) (V : RoadKit.Fld Z h x ST "value" "[B" v0) (C : RoadKit.Fld Z h x ST "coder" "B" c0) (K : RoadKit.Arr Z h b A .char) (hty : Typed .char A) (S : RoadKit.Sta Z h ST "COMPACT_STRINGS" "Z" (.int z)) (hz : ¬ z = 0)
    (l0 : 0 < A.slots.size) (l2 : A.slots.size ≤ 536870912) (hp : ∀ i, i < A.slots.size → ¬ 255 < cv A i) (hfr : 4 ≤ R.frames) (hlo : W + 65 ≤ R.locals) :
    Back l R p e below s args New1.yN len W (fun P a => a = #[.ref x, .ref b] ∧ P.U.heap = h ∧ P.cells + 1 ≤ R.cells ∧ P.slots + A.slots.size ≤ R.slots)
      (fun P _ v B => ∃ L, Q Z x A h v B.U.heap L ∧ B.locs = P.locs ++ L ∧ B.cells = P.cells + 1 ∧ B.slots = P.slots + A.slots.size) := by
  intro m meth c P g ig mk a X hg hsize hdg hW hn hp'
  obtain ⟨rfl, rfl, r1, r2⟩ := hp'
  have al : Z.vm.Alike P.U.vm := hZ.alike.trans X.warmed.alike
  obtain ⟨D, cfV, kV, iV, fV, hD, gV, stV, knV, obV, asV, slV⟩ := id V
  obtain ⟨D', cfC, kC, iC, fC, hD', gC, stC, -, -, asC, slC⟩ := id C
  cases hD.symm.trans hD'
  obtain ⟨D2, kD, e1, e2, e3, e4, e5⟩ := id E
  cases hD.symm.trans e1
  obtain ⟨c2, k2, i1, i2, i3, -⟩ := Cond.instantiable_spec wi
  cases e2.symm.trans i1
  cases e3.symm.trans i2
  obtain ⟨kU, u1, u2⟩ := al.2.2 _ _ e3
  have hB : Blank ST x D P.U := ⟨hD, ⟨knV, fun q hq => by rw [hq] at obV; cases obV⟩, by rw [al.findClass]; exact e2, kU, u1, by rw [u2]; exact i3, by rw [u2]; exact e5 i3⟩
  have F1 : Found ST "value" "[B" fV P.U := ⟨SBG.found_only al ⟨cfV, kV, iV, gV⟩, stV⟩
  have F2 : Found ST "coder" "B" fC P.U := ⟨SBG.found_only al ⟨cfC, kC, iC, gC⟩, stC⟩
  have hA : Ch b A P.U := ⟨⟨K.1, State.isArrayOf_alike al K.2.1, K.2.2, by omega⟩, hty⟩
  have hS : StaticIs P.U ST "COMPACT_STRINGS" "Z" (.int z) := by
    obtain ⟨cfS, iS, kS, fS, st, cS, t1, t2, t3, t4, t5, t6, t7⟩ := S
    exact StaticIs.there (s := { Z with heap := P.U.heap }) ⟨cfS, iS, kS, fS, st, cS, t1, t2, t3, t4, t5, (fun q => by rw [q] at t6; cases t6), t7⟩ al rfl
  obtain ⟨v, B, X', ⟨⟨hv, E', V', q1, q2, q3, q4, q5, q6, q7, q8, q9, q10, q11⟩, hl, hc, hs⟩, st⟩ := New1.pays x D fV fC b A z (tab_of (moved hZ hw)) hfr hlo m meth c P g ig mk _ X hg hsize hdg hW hn ⟨r1, r2, rfl, hB, F1, F2, hA, hS, hz, l0, l2, hp⟩
  have al' : Z.vm.Alike B.U.vm := hZ.alike.trans X'.warmed.alike
  have hsz : E'.slots.size = D.slots.size := by
    obtain ⟨-, -, -, kB, w1, w2, w3⟩ := q1
    obtain ⟨kB', y1, y2⟩ := al'.2.2 _ _ e3
    rw [q2.2.1] at w1
    cases w1.symm.trans y1
    rw [w3, e5 i3, y2]
  refine ⟨v, B, X', ⟨_, ⟨hv, ?_, ⟨by omega, fun y cy hy hn' => q10 y cy (by simpa using hn') hy, fun y cy hy => ?_⟩, q11, ⟨E', _, q1.1, by rw [q2.2.1]; exact e2, by rw [q2.2.1]; exact e3, by rw [q2.1]; exact obV, fun _ => by rw [hsz]; exact e5 i3⟩,
    ⟨E', cfV, kV, iV, fV, q1.1, gV, stV, by rw [q2.1]; exact knV, by rw [q2.1]; exact obV, by rw [q2.2.1]; exact asV, q3⟩, ⟨E', cfC, kC, iC, fC, q1.1, gC, stC, by rw [q2.1]; exact knV, by rw [q2.1]; exact obV, by rw [q2.2.1]; exact asC, q4⟩,
    ⟨V', ⟨q5.1, State.isArrayOf_alike al'.symm q5.2.1, q5.2.2.1⟩, q6, by rw [← al'.findClass]; exact q7, q8, fun j hj => by have := q9 j hj; rwa [Nat.zero_add] at this⟩, fun O n d w F n1 n2 => ?_⟩, hl, hc, hs⟩, st⟩
  · intro y hy
    simp only [List.mem_cons, List.not_mem_nil, or_false] at hy
    rcases hy with rfl | rfl <;> rfl
  · by_cases q : y = x
    · subst q
      cases hD.symm.trans hy
      exact ⟨E', q1.1, q2.2.1, q2.1, hsz⟩
    · exact ⟨cy, q10 y cy q hy, rfl, rfl, rfl⟩
  · obtain ⟨D3, cf, k, i, f, g1, g2, g3, g4, g5, g6, g7⟩ := F
    cases hD.symm.trans g1
    simp only [RoadKit.slotOf, g2, gV, gC, Option.map_some, Option.getD_some] at n1 n2
    exact ⟨E', cf, k, i, f, q1.1, g2, g3, by rw [q2.1]; exact g4, by rw [q2.1]; exact g5, by rw [q2.2.1]; exact g6, by rw [q2.2.2 f.slot (by simp [n1, n2])]; exact g7⟩
end StrChars.Road
namespace StrChars.Road
open Jvm Sem ClassFile Op Lib Jvm.Stand Jvm.Free Jvm.Free.XT
def QA (Z : State) (x : Addr) (zn : Int32) (cs : List Int32) (h : Heap) (v : Option Value) (h' : Heap) (L : List Loc) : Prop := v = none ∧ (∀ y ∈ L, y.base = x) ∧ RoadKit.Keep h h' [x] ∧ h'.size = h.size + 1 ∧ RoadKit.Exa Z h' x ST ∧ RoadKit.Fld Z h' x ST "value" "[B" (.ref h.size) ∧ RoadKit.Fld Z h' x ST "coder" "B" (.int 0) ∧
  (∃ kb, Z.vm.findClass "[B" = some kb ∧ RoadKit.Arv Z h' h.size kb .byte zn (cs.map fun c => .int (lo8 c)) (.int 0)) ∧
  ∀ (O n d : String) (w : Value), RoadKit.Fld Z h x O n d w → RoadKit.slotOf Z O n d ≠ RoadKit.slotOf Z ST "value" "[B" → RoadKit.slotOf Z O n d ≠ RoadKit.slotOf Z ST "coder" "B" → RoadKit.Fld Z h' x O n d w
theorem backArv {p : Program} {l : Launch} {e : Env} {R : Room} {s : State} {args : Array Value} {below : List Frame} {len W : Nat} {Z : State} {a0 : Array Value} {h : Heap} (hZ : Z.Warmed39 s.vm) (hw : ∀ d ∈ words, d.before a0 Z = true) {kI : Nat} (wi : (Jvm.Cond.instantiable ST kI).before a0 Z = true)
    {x b : Addr} {k : ClassId} {zn z : Int32} {cs : List Int32} {dv v0 c0 : Value} (E : RoadKit.Exa Z h x ST) (V : RoadKit.Fld Z h x ST "value" "[B" v0) (C : RoadKit.Fld Z h x ST "coder" "B" c0) (K : RoadKit.Arv Z h b k .char zn (cs.map Value.int) dv) (S : RoadKit.Sta Z h ST "COMPACT_STRINGS" "Z" (.int z)) (hz : ¬ z = 0)
    (hlen : zn.toNatClampNeg = cs.length) (h0 : 0 < cs.length) (hbig : cs.length ≤ 536870912) (hall : ∀ c ∈ cs, ¬ 255 < c) (hfr : 4 ≤ R.frames) (hlo : W + 65 ≤ R.locals) :
    Back l R p e below s args New1.yN len W (fun P a => a = #[.ref x, .ref b] ∧ P.U.heap = h ∧ P.cells + 1 ≤ R.cells ∧ P.slots + cs.length ≤ R.slots)
      (fun P _ v B => ∃ L, QA Z x zn cs h v B.U.heap L ∧ B.locs = P.locs ++ L ∧ B.cells = P.cells + 1 ∧ B.slots = P.slots + cs.length) := by
  obtain ⟨A, K1, K2, K3, K4, K5, K6⟩ := K
  have e : A.slots.size = cs.length := K3.trans hlen
  have hat : ∀ (i : Nat) (hi : i < cs.length), A.slots[i]? = some (.int cs[i]) := fun i hi => by rw [K5 i (by omega)]; simp [List.getD_eq_getElem?_getD, hi]
  have hcv : ∀ (i : Nat) (hi : i < cs.length), cv A i = cs[i] := fun i hi => by unfold cv; rw [hat i hi]
  have hty : Typed .char A := fun i v hv => by
    have hi : i < A.slots.size := (Array.getElem?_eq_some_iff.mp hv).1
    have q := K5 i hi
    rw [hv] at q
    rw [Option.some.inj q]
    exact K6 i hi
  refine Back.mono (back hZ hw wi E V C K1 hty S hz (by omega) (by omega) (fun i hi => by rw [hcv i (by omega)]; exact hall _ (List.getElem_mem _)) hfr hlo) (fun P a hp => ⟨hp.1, hp.2.1, hp.2.2.1, by rw [e]; exact hp.2.2.2⟩) (fun P a v B hp hq => ?_)
  obtain ⟨L, ⟨q1, q2, q3, q4, q5, q6, q7, ⟨V', v1, v2, v3, v4, v5⟩, q9⟩, hl, hc, hs⟩ := hq
  refine ⟨L, ⟨q1, q2, q3, q4, q5, q6, q7, ⟨V'.cls, v3, V', v1, rfl, by rw [v4, e, hlen], K4, fun i hi => ?_, fun i hi => ?_⟩, q9⟩, hl, hc, by rw [hs, e]⟩
  · have hi' : i < cs.length := by omega
    rw [v5 i (by omega), hcv i hi']; simp [List.getD_eq_getElem?_getD, hi']
  · have hi' : i < cs.length := by omega
    simp only [List.getD_eq_getElem?_getD, List.getElem?_map, List.getElem?_eq_getElem hi', Option.map_some, Option.getD_some]
    exact fits_lo8 _
end StrChars.Road
namespace StrChars.Road
open Jvm Sem ClassFile Op Lib Jvm.Stand Jvm.Free Jvm.Free.XT
def QV (Z : State) (x : Addr) (N : Int32) (bs : List Int32) (h : Heap) (n0 : Nat) (v : Option Value) (h' : Heap) (L : List Loc) : Prop := v = none ∧ RoadKit.Fr n0 L ∧ RoadKit.Keep h h' [x] ∧ RoadKit.Exa Z h' x ST ∧ RoadKit.Fld Z h' x ST "coder" "B" (.int 0) ∧
  ∃ (t : Addr) (kb : ClassId), n0 ≤ t ∧ h.size ≤ t ∧ ¬ t = x ∧ RoadKit.Fld Z h' x ST "value" "[B" (.ref t) ∧ RoadKit.Arv Z h' t kb .byte N (bs.map Value.int) (.int 0)
theorem backV {p : Program} {l : Launch} {e : Env} {R : Room} {s : State} {args : Array Value} {below : List Frame} {len W : Nat} {Z : State} {a0 : Array Value} {h : Heap} (hZ : Z.Warmed39 s.vm) (hw : ∀ d ∈ words, d.before a0 Z = true) {kI : Nat} (wi : (Jvm.Cond.instantiable ST kI).before a0 Z = true)
    {x b : Addr} {kC : ClassId} {cs bs : List Int32} {d v0 c0 : Value} {z N : Int32} {n n0 : Nat} (hx0 : n0 ≤ x) (hh0 : n0 ≤ h.size) (E : RoadKit.Exa Z h x ST) (V : RoadKit.Fld Z h x ST "value" "[B" v0) (C : RoadKit.Fld Z h x ST "coder" "B" c0) (K : RoadKit.Arv Z h b kC .char N (cs.map Value.int) d) (S : RoadKit.Sta Z h ST "COMPACT_STRINGS" "Z" (.int z)) (hz : ¬ z = 0)
    (hn : cs.length = n) (hN : N = Int32.ofNat n) (l0 : 0 < n) (l2 : n ≤ 4000) (hp : ∀ c ∈ cs, ¬ c < 0 ∧ ¬ (255 : Int32) < c) (hb : bs = cs.map (fun c => c.toInt8.toInt32)) (hfr : 4 ≤ R.frames) (hlo : W + 65 ≤ R.locals) :
    Back l R p e below s args (⟨"java/lang/String", "<init>", "([C)V"⟩ : MethodName) len W (fun P a => a = #[.ref x, .ref b] ∧ P.U.heap = h ∧ P.cells + 1 ≤ R.cells ∧ P.slots + n ≤ R.slots)
      (fun P _ v B => ∃ L, QV Z x N bs h n0 v B.U.heap L ∧ B.locs = P.locs ++ L ∧ B.cells = P.cells + 1 ∧ B.slots = P.slots + n) := by
  subst hn hN hb
  refine Back.mono (backArv hZ hw wi E V C K S hz (n32 (by omega)) l0 (by omega) (fun c hc => (hp c hc).2) hfr hlo) (fun P a hp => hp) (fun P a v B hp hq => ?_)
  obtain ⟨L, ⟨q1, q2, q3, q4, q5, q6, q7, ⟨kb, v1, v2⟩, q9⟩, hl, hc, hs⟩ := hq
  exact ⟨L, ⟨q1, fun y hy => by rw [q2 y hy]; exact hx0, q3, q5, q7, h.size, kb, hh0, Nat.le_refl _, Nat.ne_of_gt E.lt, q6, by rw [List.map_map]; exact v2⟩, hl, hc, hs⟩
end StrChars.Road
namespace StrChars
open Jvm Sem ClassFile Op Lib Jvm.Stand Jvm.Free.XT Jvm.Free.ALB Jvm.Free.JM Jvm.Free
open Jvm.Lib.Cold (StaticIs)
def hi8 (x : Int32) : Int32 := lo8 (x >>> ((8 : Int32) &&& 31))
def pairCh (u v : Int32) : Int32 := (((u &&& 255) <<< ((0 : Int32) &&& 31)) ||| ((v &&& 255) <<< ((8 : Int32) &&& 31))).toUInt32.toUInt16.toUInt32.toInt32
theorem lo8_and (x : Int32) : (lo8 x &&& 255).toBitVec.toNat = x.toBitVec.toNat % 256 := by
  have h : (lo8 x).toBitVec = (x.toBitVec.signExtend 8).signExtend 32 := by rw [lo8, Int8.toBitVec_toInt32, Int32.toBitVec_toInt8]
  rw [Int32.toBitVec_and, BitVec.toNat_and, h]
  have e : ((x.toBitVec.signExtend 8).signExtend 32).toNat % 256 = x.toBitVec.toNat % 256 := by
    rw [BitVec.toNat_signExtend]
    have hlt := x.toBitVec.isLt
    simp only [BitVec.toNat_setWidth, BitVec.toNat_signExtend]
    split <;> split <;> omega
  rw [← e]
  exact Nat.and_two_pow_sub_one_eq_mod _ 8
theorem pair_says {c : Int32} (h0 : ¬ c < 0) (h1 : ¬ 65535 < c) : pairCh (lo8 c) (hi8 c) = c := by
  rw [Int32.lt_iff_toInt_lt] at h0 h1
  have e0 : (0 : Int32).toInt = 0 := rfl
  have e1 : (65535 : Int32).toInt = 65535 := rfl
  have hc : c.toInt = c.toBitVec.toNat := by
    have := c.toBitVec.isLt
    have e : c.toInt = c.toBitVec.toInt := rfl
    rw [e] at h0 h1
    rw [e]
    rw [BitVec.toInt_eq_toNat_cond] at h0 h1 ⊢
    split at h0 <;> split <;> omega
  have hn : c.toBitVec.toNat < 65536 := by omega
  have a1 := lo8_and c
  have a2 : (hi8 c &&& 255).toBitVec.toNat = c.toBitVec.toNat / 256 := by
    rw [hi8, lo8_and]
    have e : ((8 : Int32) &&& 31) = 8 := by decide
    rw [e, Int32.toBitVec_shiftRight]
    have e2 : ((8 : Int32).toBitVec.smod 32) = 8#32 := by decide
    rw [e2, BitVec.sshiftRight_eq', BitVec.toNat_sshiftRight_of_msb_false (by rw [BitVec.msb_eq_false_iff_two_mul_lt]; omega)]
    show c.toBitVec.toNat >>> 8 % 256 = _
    rw [Nat.shiftRight_eq_div_pow]
    omega
  unfold pairCh
  apply Int32.toBitVec_inj.mp
  apply BitVec.eq_of_toNat_eq
  have f0 : ((0 : Int32) &&& 31) = 0 := by decide
  have f8 : ((8 : Int32) &&& 31) = 8 := by decide
  rw [f0, f8]
  have g : (((lo8 c &&& 255) <<< (0 : Int32)) ||| ((hi8 c &&& 255) <<< (8 : Int32))).toBitVec.toNat = c.toBitVec.toNat := by
    rw [Int32.toBitVec_or, Int32.toBitVec_shiftLeft, Int32.toBitVec_shiftLeft]
    have s0 : ((0 : Int32).toBitVec.smod 32) = 0#32 := by decide
    have s8 : ((8 : Int32).toBitVec.smod 32) = 8#32 := by decide
    rw [s0, s8, BitVec.toNat_or]
    simp only [BitVec.shiftLeft_eq', BitVec.toNat_shiftLeft, a1, a2]
    show (c.toBitVec.toNat % 256) <<< 0 % 2 ^ 32 ||| (c.toBitVec.toNat / 256) <<< 8 % 2 ^ 32 = _
    rw [Nat.shiftLeft_zero, Nat.mod_eq_of_lt (show c.toBitVec.toNat % 256 < 2 ^ 32 by omega), Nat.mod_eq_of_lt (show (c.toBitVec.toNat / 256) <<< 8 < 2 ^ 32 by rw [Nat.shiftLeft_eq]; omega), Nat.or_comm, ← Nat.shiftLeft_add_eq_or_of_lt (by omega), Nat.shiftLeft_eq]
    omega
  show BitVec.toNat (((((lo8 c &&& 255) <<< (0 : Int32)) ||| ((hi8 c &&& 255) <<< (8 : Int32))).toBitVec.setWidth 16).setWidth 32) = _
  rw [BitVec.toNat_setWidth, BitVec.toNat_setWidth, g]
  omega
end StrChars
namespace StrChars
open Jvm Sem ClassFile Op Lib Jvm.Stand Jvm.Free.XT Jvm.Free.ALB Jvm.Free.JM Jvm.Free
open Jvm.Lib.Cold (StaticIs)
def Cod (cd : Int32) (n : Nat) (f : Nat → Int32) (V : Cell) : Prop := (cd = 0 ∧ V.slots.size = n ∧ ∀ j, j < n → V.slots[j]? = some (.int (lo8 (f j))) ∧ ¬ 255 < f j) ∨ (cd = 1 ∧ V.slots.size = 2 * n ∧ (∀ j, j < n → V.slots[2 * j]? = some (.int (lo8 (f j))) ∧ V.slots[2 * j + 1]? = some (.int (hi8 (f j)))) ∧ ∃ j, j < n ∧ 255 < f j)
def Txt (x t : Addr) (V : Cell) (cd : Int32) (n : Nat) (f : Nat → Int32) (U : State) : Prop := Exact "java/lang/String" x U ∧ Has x "java/lang/String" "value" "[B" (.ref t) U ∧ Has x "java/lang/String" "coder" "B" (.int cd) U ∧ XT.Arr .byte t V U ∧ Cod cd n f V ∧ ∀ j, j < n → ¬ f j < 0 ∧ ¬ 65535 < f j
theorem Txt.mv {x t : Addr} {V : Cell} {cd : Int32} {n : Nat} {f : Nat → Int32} {U U' : State} (h : Txt x t V cd n f U) (hal : U.vm.Alike U'.vm) (hh : U'.heap = U.heap) : Txt x t V cd n f U' := ⟨h.1.mv hal hh, h.2.1.mv hal hh, h.2.2.1.mv hal hh, h.2.2.2.1.mv hal hh, h.2.2.2.2⟩
end StrChars
namespace StrChars.Road
open Jvm Sem ClassFile Op Lib Jvm.Stand Jvm.Free Jvm.Free.XT
open Jvm.Lib.Cold (StaticIs)
theorem consq {a : Array Value} {s : State} {c : Jvm.Cond} {L : List Jvm.Cond} (h0 : c.before a s = true) (h : ∀ w ∈ L, w.before a s = true) : ∀ w ∈ c :: L, w.before a s = true := fun w hw => (List.mem_cons.mp hw).elim (fun e => e ▸ h0) (h w)
def wideBytes : List Int32 → List Value
  | [] => []
  | c :: cs => .int (lo8 c) :: .int (hi8 c) :: wideBytes cs
theorem wide_lo (d : Value) : ∀ (cs : List Int32) (j : Nat), j < cs.length → (wideBytes cs).getD (2 * j) d = .int (lo8 (cs.getD j 0))
  | [], j, h => absurd h (Nat.not_lt_zero j)
  | c :: cs, 0, _ => rfl
  | c :: cs, j + 1, h => by
    have q := wide_lo d cs j (by simpa using h)
    rw [show 2 * (j + 1) = 2 * j + 1 + 1 from by omega]
    simpa [wideBytes] using q
theorem wide_hi (d : Value) : ∀ (cs : List Int32) (j : Nat), j < cs.length → (wideBytes cs).getD (2 * j + 1) d = .int (hi8 (cs.getD j 0))
  | [], j, h => absurd h (Nat.not_lt_zero j)
  | c :: cs, 0, _ => rfl
  | c :: cs, j + 1, h => by
    have q := wide_hi d cs j (by simpa using h)
    rw [show 2 * (j + 1) + 1 = 2 * j + 1 + 1 + 1 from by omega]
    simpa [wideBytes] using q
theorem low_at (d : Value) (cs : List Int32) (j : Nat) (h : j < cs.length) : (cs.map fun c => Value.int (lo8 c)).getD j d = .int (lo8 (cs.getD j 0)) := by
  simp [List.getD_eq_getElem?_getD, h]
def CodA (cs : List Int32) (cd N2 : Int32) (vs : List Value) : Prop := (cd = 0 ∧ N2 = Int32.ofNat cs.length ∧ vs = (cs.map fun c => Value.int (lo8 c)) ∧ ∀ c ∈ cs, ¬ 255 < c) ∨ (cd = 1 ∧ N2 = Int32.ofNat (2 * cs.length) ∧ vs = wideBytes cs ∧ ∃ c ∈ cs, 255 < c)
theorem CodA.cod {cs : List Int32} {cd N2 : Int32} {vs : List Value} {V : Cell} (h : CodA cs cd N2 vs) (hn : 2 * cs.length < 2 ^ 31) (hs : V.slots.size = N2.toNatClampNeg) (hv : RoadKit.Has V vs (.int 0)) : Cod cd cs.length (fun j => cs.getD j 0) V := by
  rcases h with ⟨rfl, rfl, rfl, h⟩ | ⟨rfl, rfl, rfl, c, hc, hw⟩
  · rw [n32 (by omega)] at hs
    exact Or.inl ⟨rfl, hs, fun j hj => ⟨by rw [hv j (by omega), low_at _ _ _ hj], by
      have e : cs.getD j 0 = cs[j] := by simp [List.getD_eq_getElem?_getD, hj]
      show ¬ 255 < cs.getD j 0
      rw [e]; exact h _ (List.getElem_mem _)⟩⟩
  · rw [n32 (by omega)] at hs
    obtain ⟨j, hj, rfl⟩ := List.getElem_of_mem hc
    exact Or.inr ⟨rfl, hs, fun j hj => ⟨by rw [hv _ (by omega), wide_lo _ _ _ hj], by rw [hv _ (by omega), wide_hi _ _ _ hj]⟩, j, hj, by
      have e : cs.getD j 0 = cs[j] := by simp [List.getD_eq_getElem?_getD, hj]
      show 255 < cs.getD j 0
      rw [e]; exact hw⟩
theorem strObj {Z U : State} {a0 : Array Value} {kI : Nat} (wi : (Jvm.Cond.instantiable ST kI).before a0 Z = true) (al : Z.vm.Alike U.vm) {x : Addr} {v0 c0 : Value} (E : RoadKit.Exa Z U.heap x ST) (V : RoadKit.Fld Z U.heap x ST "value" "[B" v0) (C : RoadKit.Fld Z U.heap x ST "coder" "B" c0) :
    ∃ (D : Cell) (fV fC : Field), Blank ST x D U ∧ Found ST "value" "[B" fV U ∧ Found ST "coder" "B" fC U ∧ D.slots[fV.slot]? = some v0 ∧ D.slots[fC.slot]? = some c0 ∧ RoadKit.slotOf Z ST "value" "[B" = fV.slot ∧ RoadKit.slotOf Z ST "coder" "B" = fC.slot := by
  obtain ⟨D, cfV, kV, iV, fV, hD, gV, stV, knV, obV, asV, slV⟩ := V
  obtain ⟨D', cfC, kC, iC, fC, hD', gC, stC, -, -, asC, slC⟩ := C
  cases hD.symm.trans hD'
  obtain ⟨D2, kD, e1, e2, e3, e4, e5⟩ := E
  cases hD.symm.trans e1
  obtain ⟨c2, k2, i1, i2, i3, -⟩ := Cond.instantiable_spec wi
  cases e2.symm.trans i1
  cases e3.symm.trans i2
  obtain ⟨kU, u1, u2⟩ := al.2.2 _ _ e3
  exact ⟨D, fV, fC, ⟨hD, ⟨knV, fun q hq => by rw [hq] at obV; cases obV⟩, by rw [al.findClass]; exact e2, kU, u1, by rw [u2]; exact i3, by rw [u2]; exact e5 i3⟩, ⟨SBG.found_only al ⟨cfV, kV, iV, gV⟩, stV⟩, ⟨SBG.found_only al ⟨cfC, kC, iC, gC⟩, stC⟩, slV, slC, by simp [RoadKit.slotOf, gV], by simp [RoadKit.slotOf, gC]⟩
theorem sta_is {Z U : State} (al : Z.vm.Alike U.vm) {C n d : String} {v : Value} (S : RoadKit.Sta Z U.heap C n d v) : StaticIs U C n d v := by
  obtain ⟨cfS, iS, kS, fS, st, cS, t1, t2, t3, t4, t5, t6, t7⟩ := S
  exact StaticIs.there (s := { Z with heap := U.heap }) ⟨cfS, iS, kS, fS, st, cS, t1, t2, t3, t4, t5, (fun q => by rw [q] at t6; cases t6), t7⟩ al rfl
end StrChars.Road
namespace StrChars
open Jvm Sem ClassFile Op Lib Jvm.Stand Jvm.Free.XT Jvm.Free.ALB Jvm.Free.JM Jvm.Free
open Jvm.Lib.Cold (StaticIs)
def yv (A : Cell) (i : Nat) : Int32 := match A.slots[i]? with | some (.int x) => x | _ => 0
theorem yv_get {a : Addr} {A : Cell} {U : State} (h : XT.Arr .byte a A U) (ht : Typed .byte A) {i : Nat} (hi : i < A.slots.size) : A.slots[i]? = some (.int (yv A i)) := by
  have e := Array.getElem?_eq_getElem hi
  have f := ht i _ e
  unfold yv; rw [e]
  generalize A.slots[i] = v at f
  cases v <;> simp [fits] at f ⊢
def EqC (A B : Cell) : Prop := A.slots.size = B.slots.size ∧ ∀ i, i < A.slots.size → yv A i = yv B i
def Says01 (q : Prop) (r : Option Value) (s u : State) : Prop := ∃ v : Int32, r = some (.int v) ∧ u.heap = s.heap ∧ ((v = 1 ∧ q) ∨ (v = 0 ∧ ¬ q))
theorem Says01.mv {q : Prop} : ∀ r (U U' V V' : State), U'.heap = U.heap → V.vm.Alike V'.vm → V'.heap = V.heap → Says01 q r U V → Says01 q r U' V' :=
  fun r U U' V V' h1 _ h2 ⟨v, a, b, c⟩ => ⟨v, a, by rw [h1, h2]; exact b, c⟩
namespace LEq
def yN : MethodName := ⟨"java/lang/StringLatin1", "equals", "([B[B)Z"⟩
abbrev yB : ByteArray := jdk_43_method_13_code
theorem d0 : decode yB 0 = .ok (.aload_n 0, 1) := by decide +kernel
theorem d1 : decode yB 1 = .ok (.arraylength, 1) := by decide +kernel
theorem d2 : decode yB 2 = .ok (.aload_n 1, 1) := by decide +kernel
theorem d3 : decode yB 3 = .ok (.arraylength, 1) := by decide +kernel
theorem d4 : decode yB 4 = .ok (.if_icmp (.ne) 30, 3) := by decide +kernel
theorem d7 : decode yB 7 = .ok (.iconst 0, 1) := by decide +kernel
theorem d8 : decode yB 8 = .ok (.istore_n 2, 1) := by decide +kernel
theorem d9 : decode yB 9 = .ok (.iload_n 2, 1) := by decide +kernel
theorem d10 : decode yB 10 = .ok (.aload_n 0, 1) := by decide +kernel
theorem d11 : decode yB 11 = .ok (.arraylength, 1) := by decide +kernel
theorem d12 : decode yB 12 = .ok (.if_icmp (.ge) 20, 3) := by decide +kernel
theorem d15 : decode yB 15 = .ok (.aload_n 0, 1) := by decide +kernel
theorem d16 : decode yB 16 = .ok (.iload_n 2, 1) := by decide +kernel
theorem d17 : decode yB 17 = .ok (.baload, 1) := by decide +kernel
theorem d18 : decode yB 18 = .ok (.aload_n 1, 1) := by decide +kernel
theorem d19 : decode yB 19 = .ok (.iload_n 2, 1) := by decide +kernel
theorem d20 : decode yB 20 = .ok (.baload, 1) := by decide +kernel
theorem d21 : decode yB 21 = .ok (.if_icmp (.eq) 5, 3) := by decide +kernel
theorem d24 : decode yB 24 = .ok (.iconst 0, 1) := by decide +kernel
theorem d25 : decode yB 25 = .ok (.ireturn, 1) := by decide +kernel
theorem d26 : decode yB 26 = .ok (.iinc 2 1, 3) := by decide +kernel
theorem d29 : decode yB 29 = .ok (.goto (-20), 3) := by decide +kernel
theorem d32 : decode yB 32 = .ok (.iconst 1, 1) := by decide +kernel
theorem d33 : decode yB 33 = .ok (.ireturn, 1) := by decide +kernel
theorem d34 : decode yB 34 = .ok (.iconst 0, 1) := by decide +kernel
theorem d35 : decode yB 35 = .ok (.ireturn, 1) := by decide +kernel
def site : List Cond := []
def tab : Cond := tabOf yN yB 3 (some .boolean) site
def P (a : Addr) (A : Cell) (b : Addr) (B : Cell) (args : Array Value) (s : State) : Prop := args = #[.ref a, .ref b] ∧ XT.Arr .byte a A s ∧ Typed .byte A ∧ XT.Arr .byte b B s ∧ Typed .byte B
theorem law (l : Launch) (a : Addr) (A : Cell) (b : Addr) (B : Cell) : Law l yN 2 2 0 0 yB 3 (some .boolean) site (P a A b B) (Says01 (EqC A B)) [] 0 0 := by
  refine Law.of_walk (plainFor_of_name (by decide +kernel)) (by decide +kernel) (by decide +kernel) (by decide) (fun _ _ h => by rw [h.1]; rfl) (fun _ U U' hal hh h => ⟨h.1, h.2.1.mv hal hh, h.2.2.1, h.2.2.2.1.mv hal hh, h.2.2.2.2⟩) (fun r U U' V V' h1 hal h2 h => Says01.mv r U U' V V' h1 hal h2 h) ?_
  intro p e s m args below meth c s₁ X0 hexec hbytes hml hret hlk hnm hown hh0 W hP
  obtain ⟨rfl, hA, tA, hB, tB⟩ := hP
  have a31 := hA.2.2.2
  have b31 := hB.2.2.2
  have hA0 := hA.mv X0.warmed.alike hh0
  have hB0 := hB.mv X0.warmed.alike hh0
  have c1 : Steps p.tables e below (s₁.setTop (entryFrame m #[.ref a, .ref b] 3)) (s₁.setTop (mkF m 0 #[.val (.ref a), .val (.ref b), .unset] [])) := entry rfl
  have c2 : Steps p.tables e below (s₁.setTop (entryFrame m #[.ref a, .ref b] 3)) (s₁.setTop (mkF m 4 #[.val (.ref a), .val (.ref b), .unset] [.int (Int32.ofNat B.slots.size), .int (Int32.ofNat A.slots.size)])) := c1.trans (by
    refine XS.aloadN X0.here hexec rfl (hb hbytes d0) rfl rfl ?_
    refine X0.alen hexec hA0 rfl rfl (hb hbytes d1) ?_
    refine XS.aloadN X0.here hexec rfl (hb hbytes d2) rfl rfl ?_
    refine X0.alen hexec hB0 rfl rfl (hb hbytes d3) ?_
    exact Steps.refl _)
  by_cases hs : A.slots.size = B.slots.size
  · have c3 : Steps p.tables e below (s₁.setTop (entryFrame m #[.ref a, .ref b] 3)) (s₁.setTop (mkF m 9 #[.val (.ref a), .val (.ref b), .val (.int 0)] [])) := c2.trans (by
      refine XS.icmpNo X0.here hexec rfl (hb hbytes d4) rfl (ii_ne_f (by rw [hs])) ?_
      refine iconstV X0.here hexec rfl 0 (hb hbytes d7) (by decide) ?_
      refine XS.istoreN X0.here hexec rfl (hb hbytes d8) rfl rfl ?_
      exact Steps.refl _)
    have loop : ∀ (r i : Nat), i + r = A.slots.size → (∀ j, j < i → yv A j = yv B j) → Steps p.tables e below (s₁.setTop (entryFrame m #[.ref a, .ref b] 3)) (s₁.setTop (mkF m 9 #[.val (.ref a), .val (.ref b), .val (.int (Int32.ofNat i))] [])) → ∃ (pc : Nat) (Ls : Array Slot) (v : Int32), (pc = 25 ∨ pc = 33) ∧ ((v = 1 ∧ EqC A B) ∨ (v = 0 ∧ ¬ EqC A B)) ∧ Steps p.tables e below (s₁.setTop (entryFrame m #[.ref a, .ref b] 3)) (s₁.setTop (mkF m pc Ls [.int v])) := by
      intro r
      induction r with
      | zero =>
        intro i hi he cl
        exact ⟨33, _, 1, Or.inr rfl, Or.inl ⟨rfl, hs, fun j hj => he j (by omega)⟩, cl.trans (by
          refine XS.iloadN X0.here hexec rfl (hb hbytes d9) rfl ?_
          refine XS.aloadN X0.here hexec rfl (hb hbytes d10) rfl rfl ?_
          refine X0.alen hexec hA0 rfl rfl (hb hbytes d11) ?_
          refine XS.icmpYes X0.here hexec rfl (pc0 := 12) rfl (hb hbytes d12) rfl (ii_ge_t (nlt32 (by omega) (by omega))) (by decide) rfl ?_
          refine iconstV X0.here hexec rfl 1 (hb hbytes d32) (by decide) ?_
          exact Steps.refl _)⟩
      | succ r ih =>
        intro i hi he cl
        have c4 : Steps p.tables e below (s₁.setTop (entryFrame m #[.ref a, .ref b] 3)) (s₁.setTop (mkF m 21 #[.val (.ref a), .val (.ref b), .val (.int (Int32.ofNat i))] [.int (yv B i), .int (yv A i)])) := cl.trans (by
          refine XS.iloadN X0.here hexec rfl (hb hbytes d9) rfl ?_
          refine XS.aloadN X0.here hexec rfl (hb hbytes d10) rfl rfl ?_
          refine X0.alen hexec hA0 rfl rfl (hb hbytes d11) ?_
          refine XS.icmpNo X0.here hexec rfl (hb hbytes d12) rfl (ii_ge_f (lt32 (by omega) (by omega))) ?_
          refine XS.aloadN X0.here hexec rfl (hb hbytes d15) rfl rfl ?_
          refine XS.iloadN X0.here hexec rfl (hb hbytes d16) rfl ?_
          refine X0.aget hexec hA0 rfl (yv_get hA tA (i := i) (by omega)) rfl rfl (hb hbytes d17) ?_
          refine XS.aloadN X0.here hexec rfl (hb hbytes d18) rfl rfl ?_
          refine XS.iloadN X0.here hexec rfl (hb hbytes d19) rfl ?_
          refine X0.aget hexec hB0 rfl (yv_get hB tB (i := i) (by omega)) rfl rfl (hb hbytes d20) ?_
          exact Steps.refl _)
        by_cases hv : yv A i = yv B i
        · have c5 : Steps p.tables e below (s₁.setTop (entryFrame m #[.ref a, .ref b] 3)) (s₁.setTop (mkF m 9 #[.val (.ref a), .val (.ref b), .val (.int (Int32.ofNat i + 1))] [])) := c4.trans (by
            refine XS.icmpYes X0.here hexec rfl (pc0 := 21) rfl (hb hbytes d21) rfl (ii_eq_t hv) (by decide) rfl ?_
            refine iincV X0.here hexec rfl 1 (hb hbytes d26) (by decide) rfl rfl ?_
            refine XS.goto X0.here hexec rfl (pc0 := 29) rfl (hb hbytes d29) (by decide) rfl ?_
            exact Steps.refl _)
          rw [succ32] at c5
          exact ih (i + 1) (by omega) (fun j hj => by
            by_cases e : j = i
            · rw [e]; exact hv
            · exact he j (by omega)) c5
        · exact ⟨25, _, 0, Or.inl rfl, Or.inr ⟨rfl, fun q => hv (q.2 i (by omega))⟩, c4.trans (by
            refine XS.icmpNo X0.here hexec rfl (hb hbytes d21) rfl (ii_eq_f hv) ?_
            refine iconstV X0.here hexec rfl 0 (hb hbytes d24) (by decide) ?_
            exact Steps.refl _)⟩
    obtain ⟨pc, Ls, v, hpc, hv, cz⟩ := loop A.slots.size 0 (by omega) (fun j hj => absurd hj (Nat.not_lt_zero j)) c3
    have nv : narrow .boolean (.int v) = .int v := by rcases hv with ⟨rfl, -⟩ | ⟨rfl, -⟩ <;> rfl
    rcases hpc with rfl | rfl
    · exact ⟨s₁, some (.int v), _, _, _, X0, rfl, rfl, rfl, (fun h => by cases h), ⟨v, rfl, hh0, hv⟩, fun fs hl => cz.trans (X0.ireturnOut hexec hret nv (Or.inr (Or.inl rfl)) (hb hbytes d25) hl)⟩
    · exact ⟨s₁, some (.int v), _, _, _, X0, rfl, rfl, rfl, (fun h => by cases h), ⟨v, rfl, hh0, hv⟩, fun fs hl => cz.trans (X0.ireturnOut hexec hret nv (Or.inr (Or.inl rfl)) (hb hbytes d33) hl)⟩
  · have c3 : Steps p.tables e below (s₁.setTop (entryFrame m #[.ref a, .ref b] 3)) (s₁.setTop (mkF m 35 #[.val (.ref a), .val (.ref b), .unset] [.int 0])) := c2.trans (by
      refine XS.icmpYes X0.here hexec rfl (pc0 := 4) rfl (hb hbytes d4) rfl (ii_ne_t (ne32 a31 b31 hs)) (by decide) rfl ?_
      refine iconstV X0.here hexec rfl 0 (hb hbytes d34) (by decide) ?_
      exact Steps.refl _)
    exact ⟨s₁, some (.int 0), _, _, _, X0, rfl, rfl, rfl, (fun h => by cases h), ⟨0, rfl, hh0, Or.inr ⟨rfl, fun q => hs q.1⟩⟩, fun fs hl => c3.trans (X0.ireturnOut hexec hret rfl (Or.inr (Or.inl rfl)) (hb hbytes d35) hl)⟩
end LEq
theorem Cod.ty {cd : Int32} {n : Nat} {f : Nat → Int32} {V : Cell} (h : Cod cd n f V) : Typed .byte V := fun i v hv => by
  have hi : i < V.slots.size := (Array.getElem?_eq_some_iff.mp hv).1
  rcases h with ⟨-, k1, k2⟩ | ⟨-, k1, k2, -⟩
  · rw [(k2 i (by omega)).1] at hv; cases hv; exact fits_lo8 _
  · rcases Nat.mod_two_eq_zero_or_one i with e | e
    · obtain ⟨j, rfl⟩ : ∃ j, i = 2 * j := ⟨i / 2, by omega⟩
      rw [(k2 j (by omega)).1] at hv; cases hv; exact fits_lo8 _
    · obtain ⟨j, rfl⟩ : ∃ j, i = 2 * j + 1 := ⟨i / 2, by omega⟩
      rw [(k2 j (by omega)).2] at hv; cases hv; exact fits_lo8 _
def SameT (n : Nat) (f : Nat → Int32) (k : Nat) (g : Nat → Int32) : Prop := n = k ∧ ∀ j, j < n → f j = g j
theorem lo8_inj {x y : Int32} (h0 : ¬ x < 0) (h1 : ¬ 255 < x) (k0 : ¬ y < 0) (k1 : ¬ 255 < y) (h : lo8 x = lo8 y) : x = y := by
  rw [← lo8_mask h0 h1, ← lo8_mask k0 k1, h]
theorem Cod.eqv {cd : Int32} {n k : Nat} {f g : Nat → Int32} {V V' : Cell} (h : Cod cd n f V) (h' : Cod cd k g V') (hf : ∀ j, j < n → ¬ f j < 0 ∧ ¬ 65535 < f j) (hg : ∀ j, j < k → ¬ g j < 0 ∧ ¬ 65535 < g j) : EqC V V' ↔ SameT n f k g := by
  have yvv : ∀ {W : Cell} {i : Nat} {x : Int32}, W.slots[i]? = some (.int x) → yv W i = x := fun q => by unfold yv; rw [q]
  rcases h with ⟨rfl, k1, k2⟩ | ⟨rfl, k1, k2, -⟩
  · rcases h' with ⟨-, m1, m2⟩ | ⟨e, -⟩
    · constructor
      · rintro ⟨e1, e2⟩
        refine ⟨by omega, fun j hj => ?_⟩
        have q := e2 j (by omega)
        rw [yvv (k2 j hj).1, yvv (m2 j (by omega)).1] at q
        exact lo8_inj (hf j hj).1 (k2 j hj).2 (hg j (by omega)).1 (m2 j (by omega)).2 q
      · rintro ⟨rfl, e2⟩
        refine ⟨by omega, fun j hj => ?_⟩
        rw [yvv (k2 j (by omega)).1, yvv (m2 j (by omega)).1, e2 j (by omega)]
    · exact absurd e (by decide)
  · rcases h' with ⟨e, -⟩ | ⟨-, m1, m2, -⟩
    · exact absurd e (by decide)
    · constructor
      · rintro ⟨e1, e2⟩
        refine ⟨by omega, fun j hj => ?_⟩
        have q1 := e2 (2 * j) (by omega)
        have q2 := e2 (2 * j + 1) (by omega)
        rw [yvv (k2 j hj).1, yvv (m2 j (by omega)).1] at q1
        rw [yvv (k2 j hj).2, yvv (m2 j (by omega)).2] at q2
        rw [← pair_says (hf j hj).1 (hf j hj).2, ← pair_says (hg j (by omega)).1 (hg j (by omega)).2, q1, q2]
      · rintro ⟨rfl, e2⟩
        refine ⟨by omega, fun i hi => ?_⟩
        rcases Nat.mod_two_eq_zero_or_one i with e | e
        · obtain ⟨j, rfl⟩ : ∃ j, i = 2 * j := ⟨i / 2, by omega⟩
          rw [yvv (k2 j (by omega)).1, yvv (m2 j (by omega)).1, e2 j (by omega)]
        · obtain ⟨j, rfl⟩ : ∃ j, i = 2 * j + 1 := ⟨i / 2, by omega⟩
          rw [yvv (k2 j (by omega)).2, yvv (m2 j (by omega)).2, e2 j (by omega)]
theorem Cod.dif {cd cd' : Int32} {n k : Nat} {f g : Nat → Int32} {V V' : Cell} (h : Cod cd n f V) (h' : Cod cd' k g V') (hne : ¬ cd = cd') : ¬ SameT n f k g := by
  rintro ⟨rfl, e⟩
  rcases h with ⟨rfl, -, k2⟩ | ⟨rfl, -, -, j, hj, hw⟩
  · rcases h' with ⟨rfl, -⟩ | ⟨-, -, -, j, hj, hw⟩
    · exact hne rfl
    · exact (k2 j hj).2 (by rw [e j hj]; exact hw)
  · rcases h' with ⟨-, -, m2⟩ | ⟨rfl, -⟩
    · exact (m2 j hj).2 (by rw [← e j hj]; exact hw)
    · exact hne rfl
theorem cinst {p : Program} {l : Launch} {e : Env} {R : Room} {s : State} {m : MethodId} {args : Array Value} {below : List Frame} {meth : Method} {c : Code} {T : State} {locs : List Loc} {cells slots : Nat} (X : Stand p l e R s m args below meth c T locs cells slots) (hexec : p.tables.exec = Jvm.exec) {own C : String} {index : Nat} (hown : s.vm.findClass own = some m.cls) (hlink : (Cond.classLink own index C).before args s = true) {a : Addr} (hE : Exact C a T)
    {g : JFrame} (hg : g.method = m) {rest : List Value} (hstack : g.stack = .ref a :: rest) (hdg : decode c.code g.pc = .ok (.instanceof index, 3)) :
    ∃ T', Stand p l e R s m args below meth c T' locs cells slots ∧ T'.heap = T.heap ∧ ∀ target, Steps p.tables e below (T'.setTop { g with pc := g.pc + 3, stack := .int 1 :: rest }) target → Steps p.tables e below (T.setTop g) target := by
  obtain ⟨cB, h1, D, h2, h3, h4⟩ := hE
  have h1' : s.vm.findClass C = some cB := by rw [← X.warmed.alike.findClass]; exact h1
  obtain ⟨vm', X', st⟩ := X.instanceofYes hexec hown hlink h2 h4 h1' (by rw [h3]; exact Jvm.Free.SB.assignable_self _ _) hg hstack hdg
  exact ⟨_, X', rfl, st⟩
theorem cself {p : Program} {l : Launch} {e : Env} {R : Room} {s : State} {m : MethodId} {args : Array Value} {below : List Frame} {meth : Method} {c : Code} {T : State} {locs : List Loc} {cells slots : Nat} (X : Stand p l e R s m args below meth c T locs cells slots) (hexec : p.tables.exec = Jvm.exec) {own C : String} {index : Nat} (hown : s.vm.findClass own = some m.cls) (hlink : (Cond.classLink own index C).before args s = true) {a : Addr} (hE : Exact C a T)
    {g : JFrame} (hg : g.method = m) {rest : List Value} (hstack : g.stack = .ref a :: rest) (hdg : decode c.code g.pc = .ok (.checkcast index, 3)) :
    ∃ T', Stand p l e R s m args below meth c T' locs cells slots ∧ T'.heap = T.heap ∧ ∀ target, Steps p.tables e below (T'.setTop { g with pc := g.pc + 3, stack := .ref a :: rest }) target → Steps p.tables e below (T.setTop g) target := by
  obtain ⟨cB, h1, D, h2, h3, h4⟩ := hE
  have h1' : s.vm.findClass C = some cB := by rw [← X.warmed.alike.findClass]; exact h1
  obtain ⟨vm', X', st⟩ := X.checkcastYes hexec hown hlink h2 h4 h1' (by rw [h3]; exact Jvm.Free.SB.assignable_self _ _) hg hstack hdg
  exact ⟨_, X', rfl, fun t h => st t (by rw [← hstack] at h; exact h)⟩
namespace SEq
def yN : MethodName := ⟨"java/lang/String", "equals", "(Ljava/lang/Object;)Z"⟩
abbrev yB : ByteArray := jdk_42_method_66_code
theorem d0 : decode yB 0 = .ok (.aload_n 0, 1) := by decide +kernel
theorem d1 : decode yB 1 = .ok (.aload_n 1, 1) := by decide +kernel
theorem d2 : decode yB 2 = .ok (.if_acmp (.ne) 5, 3) := by decide +kernel
theorem d5 : decode yB 5 = .ok (.iconst 1, 1) := by decide +kernel
theorem d6 : decode yB 6 = .ok (.ireturn, 1) := by decide +kernel
theorem d7 : decode yB 7 = .ok (.aload_n 1, 1) := by decide +kernel
theorem d8 : decode yB 8 = .ok (.instanceof 10, 3) := by decide +kernel
theorem d11 : decode yB 11 = .ok (.ifCond (.eq) 43, 3) := by decide +kernel
theorem d14 : decode yB 14 = .ok (.aload_n 1, 1) := by decide +kernel
theorem d15 : decode yB 15 = .ok (.checkcast 10, 3) := by decide +kernel
theorem d18 : decode yB 18 = .ok (.astore_n 2, 1) := by decide +kernel
theorem d19 : decode yB 19 = .ok (.getstatic 38, 3) := by decide +kernel
theorem d22 : decode yB 22 = .ok (.ifCond (.eq) 14, 3) := by decide +kernel
theorem d25 : decode yB 25 = .ok (.aload_n 0, 1) := by decide +kernel
theorem d26 : decode yB 26 = .ok (.getfield 15, 3) := by decide +kernel
theorem d29 : decode yB 29 = .ok (.aload_n 2, 1) := by decide +kernel
theorem d30 : decode yB 30 = .ok (.getfield 15, 3) := by decide +kernel
theorem d33 : decode yB 33 = .ok (.if_icmp (.ne) 21, 3) := by decide +kernel
theorem d36 : decode yB 36 = .ok (.aload_n 0, 1) := by decide +kernel
theorem d37 : decode yB 37 = .ok (.getfield 9, 3) := by decide +kernel
theorem d40 : decode yB 40 = .ok (.aload_n 2, 1) := by decide +kernel
theorem d41 : decode yB 41 = .ok (.getfield 9, 3) := by decide +kernel
theorem d44 : decode yB 44 = .ok (.invokestatic 541, 3) := by decide +kernel
theorem d47 : decode yB 47 = .ok (.ifCond (.eq) 7, 3) := by decide +kernel
theorem d50 : decode yB 50 = .ok (.iconst 1, 1) := by decide +kernel
theorem d51 : decode yB 51 = .ok (.goto 4, 3) := by decide +kernel
theorem d54 : decode yB 54 = .ok (.iconst 0, 1) := by decide +kernel
theorem d55 : decode yB 55 = .ok (.ireturn, 1) := by decide +kernel
def site : List Cond := [.classLink "java/lang/String" 10 "java/lang/String", .fieldLink "java/lang/String" 38 "java/lang/String" "COMPACT_STRINGS" "Z", .fieldLink "java/lang/String" 15 "java/lang/String" "coder" "B", .fieldLink "java/lang/String" 9 "java/lang/String" "value" "[B", LEq.tab] ++ staticW "java/lang/String" 541 LEq.yN
def tab : Cond := tabOf yN yB 3 (some .boolean) site
def P (x t : Addr) (V : Cell) (cd : Int32) (n : Nat) (f : Nat → Int32) (y t' : Addr) (V' : Cell) (cd' : Int32) (k : Nat) (g : Nat → Int32) (z : Int32) (args : Array Value) (s : State) : Prop := args = #[.ref x, .ref y] ∧ Txt x t V cd n f s ∧ Txt y t' V' cd' k g s ∧ StaticIs s "java/lang/String" "COMPACT_STRINGS" "Z" (.int z) ∧ ¬ z = 0
theorem law (l : Launch) (x t : Addr) (V : Cell) (cd : Int32) (n : Nat) (f : Nat → Int32) (y t' : Addr) (V' : Cell) (cd' : Int32) (k : Nat) (g : Nat → Int32) (z : Int32) : Law l yN 2 1 1 14 yB 3 (some .boolean) site (P x t V cd n f y t' V' cd' k g z) (Says01 (SameT n f k g)) [] 0 0 := by
  refine Law.of_walk (plainFor_of_name (by decide +kernel)) (by decide +kernel) (by decide +kernel) (by decide) (fun _ _ h => by rw [h.1]; rfl) (fun _ U U' hal hh h => ⟨h.1, h.2.1.mv hal hh, h.2.2.1.mv hal hh, h.2.2.2.1.there hal hh, h.2.2.2.2⟩) (fun r U U' V V' h1 hal h2 h => Says01.mv r U U' V V' h1 hal h2 h) ?_
  intro p e s m args below meth c s₁ X0 hexec hbytes hml hret hlk hnm hown hh0 W hP
  obtain ⟨rfl, hx, hy, s1, hz⟩ := hP
  have c1 : Steps p.tables e below (s₁.setTop (entryFrame m #[.ref x, .ref y] 3)) (s₁.setTop (mkF m 2 #[.val (.ref x), .val (.ref y), .unset] [.ref y, .ref x])) := Steps.trans (entry rfl) (by
    show Steps p.tables e below (s₁.setTop (mkF m 0 #[.val (.ref x), .val (.ref y), .unset] [])) _
    refine XS.aloadN X0.here hexec rfl (hb hbytes d0) rfl rfl ?_
    refine XS.aloadN X0.here hexec rfl (hb hbytes d1) rfl rfl ?_
    exact Steps.refl _)
  by_cases hxy : x = y
  · have c2 : Steps p.tables e below (s₁.setTop (entryFrame m #[.ref x, .ref y] 3)) (s₁.setTop (mkF m 6 #[.val (.ref x), .val (.ref y), .unset] [.int 1])) := c1.trans (by
      refine acmpNo X0.here hexec rfl (hb hbytes d2) rfl rfl rfl (by simp [acmp, hxy]) ?_
      refine iconstV X0.here hexec rfl 1 (hb hbytes d5) (by decide) ?_
      exact Steps.refl _)
    subst hxy
    have ec : cd = cd' := by
      obtain ⟨D, fd, a1, a2, a3⟩ := hx.2.2.1
      obtain ⟨D', fd', b1, b2, b3⟩ := hy.2.2.1
      cases a1.symm.trans b1
      obtain ⟨q1, q2, q3, q4⟩ := a2.1
      obtain ⟨r1, r2, r3, r4⟩ := b2.1
      cases q4.symm.trans r4
      cases a3.symm.trans b3; rfl
    have et : t = t' := by
      obtain ⟨D, fd, a1, a2, a3⟩ := hx.2.1
      obtain ⟨D', fd', b1, b2, b3⟩ := hy.2.1
      cases a1.symm.trans b1
      obtain ⟨q1, q2, q3, q4⟩ := a2.1
      obtain ⟨r1, r2, r3, r4⟩ := b2.1
      cases q4.symm.trans r4
      cases a3.symm.trans b3; rfl
    subst ec et
    have ev : V = V' := by cases hx.2.2.2.1.1.symm.trans hy.2.2.2.1.1; rfl
    subst ev
    have hs : SameT n f k g := (Cod.eqv hx.2.2.2.2.1 hy.2.2.2.2.1 hx.2.2.2.2.2 hy.2.2.2.2.2).mp ⟨rfl, fun _ _ => rfl⟩
    exact ⟨s₁, some (.int 1), _, _, _, X0, rfl, rfl, rfl, (fun h => by cases h), ⟨1, rfl, hh0, Or.inl ⟨rfl, hs⟩⟩, fun fs hl => c2.trans (X0.ireturnOut hexec hret rfl (Or.inr (Or.inl rfl)) (hb hbytes d6) hl)⟩
  · have c2 : Steps p.tables e below (s₁.setTop (entryFrame m #[.ref x, .ref y] 3)) (s₁.setTop (mkF m 8 #[.val (.ref x), .val (.ref y), .unset] [.ref y])) := c1.trans (by
      refine acmpYes X0.here hexec rfl (pc0 := 2) rfl (hb hbytes d2) rfl rfl rfl (by simp [acmp, hxy]) (by decide) rfl ?_
      refine XS.aloadN X0.here hexec rfl (hb hbytes d7) rfl rfl ?_
      exact Steps.refl _)
    obtain ⟨T3, X3, q3, st3⟩ := cinst X0 hexec hown (wk W (.classLink "java/lang/String" 10 "java/lang/String")) (hy.mv X0.warmed.alike hh0).1 (g := (mkF m 8 #[.val (.ref x), .val (.ref y), .unset] [.ref y])) rfl (rest := []) rfl (hb hbytes d8)
    have hh3 := q3.trans hh0
    have c4 : Steps p.tables e below (s₁.setTop (entryFrame m #[.ref x, .ref y] 3)) (T3.setTop (mkF m 15 #[.val (.ref x), .val (.ref y), .unset] [.ref y])) := (c2.trans (st3 _ (Steps.refl _))).trans (by
      refine XS.ifNo X3.here hexec rfl (hb hbytes d11) rfl (i0_eq_f (by decide)) ?_
      refine XS.aloadN X3.here hexec rfl (hb hbytes d14) rfl rfl ?_
      exact Steps.refl _)
    obtain ⟨T5, X5, q5, st5⟩ := cself X3 hexec hown (wk W (.classLink "java/lang/String" 10 "java/lang/String")) (hy.mv X3.warmed.alike hh3).1 (g := (mkF m 15 #[.val (.ref x), .val (.ref y), .unset] [.ref y])) rfl (rest := []) rfl (hb hbytes d15)
    have hh5 := q5.trans hh3
    have c6 : Steps p.tables e below (s₁.setTop (entryFrame m #[.ref x, .ref y] 3)) (T5.setTop (mkF m 19 #[.val (.ref x), .val (.ref y), .val (.ref y)] [])) := (c4.trans (st5 _ (Steps.refl _))).trans (by
      refine XS.astoreN X5.here hexec rfl (hb hbytes d18) rfl rfl rfl ?_
      exact Steps.refl _)
    obtain ⟨T7, X7, q7, st7⟩ := X5.sget hexec hown (wk W (.fieldLink "java/lang/String" 38 "java/lang/String" "COMPACT_STRINGS" "Z")) s1 (fun _ _ h => by rw [hh5]; exact h) (g := (mkF m 19 #[.val (.ref x), .val (.ref y), .val (.ref y)] [])) rfl (hb hbytes d19)
    have hh7 := q7.trans hh5
    have c8 : Steps p.tables e below (s₁.setTop (entryFrame m #[.ref x, .ref y] 3)) (T7.setTop (mkF m 26 #[.val (.ref x), .val (.ref y), .val (.ref y)] [.ref x])) := (c6.trans (st7 _ (Steps.refl _))).trans (by
      refine XS.ifNo X7.here hexec rfl (hb hbytes d22) rfl (i0_eq_f hz) ?_
      refine XS.aloadN X7.here hexec rfl (hb hbytes d25) rfl rfl ?_
      exact Steps.refl _)
    obtain ⟨T9, X9, q9, st9⟩ := X7.hget hexec hown (wk W (.fieldLink "java/lang/String" 15 "java/lang/String" "coder" "B")) (hx.mv X7.warmed.alike hh7).2.2.1 (g := (mkF m 26 #[.val (.ref x), .val (.ref y), .val (.ref y)] [.ref x])) rfl (rest := []) rfl (hb hbytes d26)
    have hh9 := q9.trans hh7
    have c10 : Steps p.tables e below (s₁.setTop (entryFrame m #[.ref x, .ref y] 3)) (T9.setTop (mkF m 30 #[.val (.ref x), .val (.ref y), .val (.ref y)] [.ref y, .int cd])) := (c8.trans (st9 _ (Steps.refl _))).trans (by
      refine XS.aloadN X9.here hexec rfl (hb hbytes d29) rfl rfl ?_
      exact Steps.refl _)
    obtain ⟨T11, X11, q11, st11⟩ := X9.hget hexec hown (wk W (.fieldLink "java/lang/String" 15 "java/lang/String" "coder" "B")) (hy.mv X9.warmed.alike hh9).2.2.1 (g := (mkF m 30 #[.val (.ref x), .val (.ref y), .val (.ref y)] [.ref y, .int cd])) rfl (rest := [.int cd]) rfl (hb hbytes d30)
    have hh11 := q11.trans hh9
    have c12 : Steps p.tables e below (s₁.setTop (entryFrame m #[.ref x, .ref y] 3)) (T11.setTop (mkF m 33 #[.val (.ref x), .val (.ref y), .val (.ref y)] [.int cd', .int cd])) := c10.trans (st11 _ (Steps.refl _))
    by_cases hcd : cd = cd'
    · subst hcd
      have c13 : Steps p.tables e below (s₁.setTop (entryFrame m #[.ref x, .ref y] 3)) (T11.setTop (mkF m 37 #[.val (.ref x), .val (.ref y), .val (.ref y)] [.ref x])) := c12.trans (by
        refine XS.icmpNo X11.here hexec rfl (hb hbytes d33) rfl (ii_ne_f rfl) ?_
        refine XS.aloadN X11.here hexec rfl (hb hbytes d36) rfl rfl ?_
        exact Steps.refl _)
      obtain ⟨T14, X14, q14, st14⟩ := X11.hget hexec hown (wk W (.fieldLink "java/lang/String" 9 "java/lang/String" "value" "[B")) (hx.mv X11.warmed.alike hh11).2.1 (g := (mkF m 37 #[.val (.ref x), .val (.ref y), .val (.ref y)] [.ref x])) rfl (rest := []) rfl (hb hbytes d37)
      have hh14 := q14.trans hh11
      have c15 : Steps p.tables e below (s₁.setTop (entryFrame m #[.ref x, .ref y] 3)) (T14.setTop (mkF m 41 #[.val (.ref x), .val (.ref y), .val (.ref y)] [.ref y, .ref t])) := (c13.trans (st14 _ (Steps.refl _))).trans (by
        refine XS.aloadN X14.here hexec rfl (hb hbytes d40) rfl rfl ?_
        exact Steps.refl _)
      obtain ⟨T16, X16, q16, st16⟩ := X14.hget hexec hown (wk W (.fieldLink "java/lang/String" 9 "java/lang/String" "value" "[B")) (hy.mv X14.warmed.alike hh14).2.1 (g := (mkF m 41 #[.val (.ref x), .val (.ref y), .val (.ref y)] [.ref y, .ref t])) rfl (rest := [.ref t]) rfl (hb hbytes d41)
      have hh16 := q16.trans hh14
      have c17 : Steps p.tables e below (s₁.setTop (entryFrame m #[.ref x, .ref y] 3)) (T16.setTop (mkF m 44 #[.val (.ref x), .val (.ref y), .val (.ref y)] [.ref t', .ref t])) := c15.trans (st16 _ (Steps.refl _))
      obtain ⟨v18, T18, X18, E18, g18⟩ := X16.callS hexec (LEq.law l t V t' V') hown (wks W (staticW "java/lang/String" 541 LEq.yN)) (wk W LEq.tab) (W := 0) (Nat.le_of_ble_eq_true rfl) (Nat.le_of_ble_eq_true rfl) (Nat.le_refl _) (Nat.le_refl _) (g := (mkF m 44 #[.val (.ref x), .val (.ref y), .val (.ref y)] [.ref t', .ref t])) rfl (by rw [hml]; rfl) c17 (argsL := [.ref t, .ref t']) (rest := []) rfl rfl (by show 2 * 0 + 0 ≤ _; decide) (hb hbytes d44) (⟨rfl, hx.2.2.2.1.mv X16.warmed.alike hh16, hx.2.2.2.2.1.ty, hy.2.2.2.1.mv X16.warmed.alike hh16, hy.2.2.2.2.1.ty⟩)
      obtain ⟨v, rfl, q18, hv⟩ := E18
      have iff := Cod.eqv hx.2.2.2.2.1 hy.2.2.2.2.1 hx.2.2.2.2.2 hy.2.2.2.2.2
      rcases hv with ⟨rfl, he⟩ | ⟨rfl, he⟩
      · have c19 : Steps p.tables e below (s₁.setTop (entryFrame m #[.ref x, .ref y] 3)) (T18.setTop (mkF m 55 #[.val (.ref x), .val (.ref y), .val (.ref y)] [.int 1])) := Steps.trans g18 (by
          refine XS.ifNo X18.here hexec rfl (hb hbytes d47) rfl (i0_eq_f (by decide)) ?_
          refine iconstV X18.here hexec rfl 1 (hb hbytes d50) (by decide) ?_
          refine XS.goto X18.here hexec rfl (pc0 := 51) rfl (hb hbytes d51) (by decide) rfl ?_
          exact Steps.refl _)
        exact ⟨T18, some (.int 1), _, _, _, X18, rfl, rfl, rfl, (fun h => by cases h), ⟨1, rfl, q18.trans hh16, Or.inl ⟨rfl, iff.mp he⟩⟩, fun fs hl => c19.trans (X18.ireturnOut hexec hret rfl (Or.inr (Or.inl rfl)) (hb hbytes d55) hl)⟩
      · have c19 : Steps p.tables e below (s₁.setTop (entryFrame m #[.ref x, .ref y] 3)) (T18.setTop (mkF m 55 #[.val (.ref x), .val (.ref y), .val (.ref y)] [.int 0])) := Steps.trans g18 (by
          refine XS.ifYes X18.here hexec rfl (pc0 := 47) rfl (hb hbytes d47) rfl (i0_eq_t rfl) (by decide) rfl ?_
          refine iconstV X18.here hexec rfl 0 (hb hbytes d54) (by decide) ?_
          exact Steps.refl _)
        exact ⟨T18, some (.int 0), _, _, _, X18, rfl, rfl, rfl, (fun h => by cases h), ⟨0, rfl, q18.trans hh16, Or.inr ⟨rfl, fun q => he (iff.mpr q)⟩⟩, fun fs hl => c19.trans (X18.ireturnOut hexec hret rfl (Or.inr (Or.inl rfl)) (hb hbytes d55) hl)⟩
    · have c13 : Steps p.tables e below (s₁.setTop (entryFrame m #[.ref x, .ref y] 3)) (T11.setTop (mkF m 55 #[.val (.ref x), .val (.ref y), .val (.ref y)] [.int 0])) := c12.trans (by
        refine XS.icmpYes X11.here hexec rfl (pc0 := 33) rfl (hb hbytes d33) rfl (ii_ne_t hcd) (by decide) rfl ?_
        refine iconstV X11.here hexec rfl 0 (hb hbytes d54) (by decide) ?_
        exact Steps.refl _)
      exact ⟨T11, some (.int 0), _, _, _, X11, rfl, rfl, rfl, (fun h => by cases h), ⟨0, rfl, hh11, Or.inr ⟨rfl, Cod.dif hx.2.2.2.2.1 hy.2.2.2.2.1 hcd⟩⟩, fun fs hl => c13.trans (X11.ireturnOut hexec hret rfl (Or.inr (Or.inl rfl)) (hb hbytes d55) hl)⟩
theorem pays {l : Launch} {R : Room} {p : Program} {e : Env} {below : List Frame} {s : State} {sargs : Array Value} {len W : Nat} (x t : Addr) (V : Cell) (cd : Int32) (n : Nat) (f : Nat → Int32) (y t' : Addr) (V' : Cell) (cd' : Int32) (k : Nat) (g : Nat → Int32) (z : Int32) (htab : tab.before sargs s = true) (hfr : 2 ≤ R.frames) (hlo : W + 28 ≤ R.locals) :
    Back l R p e below s sargs yN len W (fun A₁ a₁ => A₁.cells + 0 ≤ R.cells ∧ A₁.slots + 0 ≤ R.slots ∧ P x t V cd n f y t' V' cd' k g z a₁ A₁.U) (fun A₁ _ v₁ B₁ => Says01 (SameT n f k g) v₁ A₁.U B₁.U ∧ B₁.locs = A₁.locs ++ [] ∧ B₁.cells = A₁.cells + 0 ∧ B₁.slots = A₁.slots + 0) :=
  (law l x t V cd n f y t' V' cd' k g z).pays htab hfr (by omega)
end SEq
end StrChars
namespace StrChars.Road
open Jvm Sem ClassFile Op Lib Jvm.Stand Jvm.Free Jvm.Free.XT
open Jvm.Lib.Cold (StaticIs)
abbrev wordsEq : List Jvm.Cond := [.code SEq.yN SEq.yB 3 (some .boolean), .initialized ST, .classLink ST 10 ST, .fieldLink ST 38 ST "COMPACT_STRINGS" "Z", .fieldLink ST 15 ST "coder" "B", .fieldLink ST 9 ST "value" "[B", .methodLink ST 541 LEq.yN, .static LEq.yN, .code LEq.yN LEq.yB 3 (some .boolean), .initialized "java/lang/StringLatin1"]
theorem tabEq_of {a : Array Value} {s : State} (h : ∀ w ∈ wordsEq, w.before a s = true) : SEq.tab.before a s = true := by
  have hl : LEq.tab.before a s = true := unparts (wk h (.code LEq.yN LEq.yB 3 (some .boolean))) (wks h (.initialized LEq.yN.cls :: LEq.site))
  have q := consq hl h
  exact unparts (wk q (.code SEq.yN SEq.yB 3 (some .boolean))) (wks q (.initialized SEq.yN.cls :: SEq.site))
theorem movedEq {Z s : State} {a0 args : Array Value} (hZ : Z.Warmed39 s.vm) (hw : ∀ d ∈ wordsEq, d.before a0 Z = true) : ∀ d ∈ wordsEq, d.before args s = true := fun d hd => by
  have t : ∀ d ∈ wordsEq, (d.onTables && d.keepsFace) = true := by decide +kernel
  exact RoadKit.mv hZ (hw d hd) (t d hd)
theorem txt_of {Z U : State} {a0 : Array Value} {kI : Nat} (wi : (Jvm.Cond.instantiable ST kI).before a0 Z = true) (al : Z.vm.Alike U.vm) {x t : Addr} {kb : ClassId} {cs : List Int32} {cd N2 : Int32} {vs : List Value} (E : RoadKit.Exa Z U.heap x ST) (V : RoadKit.Fld Z U.heap x ST "value" "[B" (.ref t)) (C : RoadKit.Fld Z U.heap x ST "coder" "B" (.int cd)) (K : RoadKit.Arv Z U.heap t kb .byte N2 vs (.int 0)) (hc : CodA cs cd N2 vs) (hb : ∀ c ∈ cs, ¬ c < 0 ∧ ¬ (65535 : Int32) < c) (l2 : cs.length ≤ 4000) :
    ∃ A, Txt x t A cd cs.length (fun j => cs.getD j 0) U := by
  obtain ⟨A, K1, K2, K3, K4, K5, K6⟩ := K
  have hcod := hc.cod (by omega) K3 K5
  obtain ⟨D, fV, fC, hB, F1, F2, g1, g2, -, -⟩ := strObj wi al E V C
  exact ⟨A, ⟨_, hB.2.2.1, D, hB.1, rfl, by cases q : D.vm <;> first | rfl | exact absurd q (hB.2.1.2 _)⟩, Has.of hB F1 g1, Has.of hB F2 g2, ⟨K1.1, State.isArrayOf_alike al K1.2.1, K1.2.2, by rcases hcod with ⟨-, q, -⟩ | ⟨-, q, -⟩ <;> omega⟩, hcod, fun j hj => by
    have e : cs.getD j 0 = cs[j] := by simp [List.getD_eq_getElem?_getD, hj]
    show ¬ cs.getD j 0 < 0 ∧ ¬ 65535 < cs.getD j 0
    rw [e]; exact hb _ (List.getElem_mem _)⟩
theorem same_list (cs ds : List Int32) : SameT cs.length (fun j => cs.getD j 0) ds.length (fun j => ds.getD j 0) ↔ cs = ds := by
  constructor
  · rintro ⟨e, q⟩
    refine List.ext_getElem e fun j h1 h2 => ?_
    have := q j h1
    simpa [List.getD_eq_getElem?_getD, h1, h2] using this
  · rintro rfl
    exact ⟨rfl, fun _ _ => rfl⟩
theorem eqW {p : Program} {l : Launch} {e : Env} {R : Room} {s : State} {args : Array Value} {below : List Frame} {len W : Nat} {Z : State} {a0 : Array Value} {h : Heap} (hZ : Z.Warmed39 s.vm) (hw : ∀ d ∈ wordsEq, d.before a0 Z = true) {kI : Nat} (wi : (Jvm.Cond.instantiable ST kI).before a0 Z = true)
    {x t : Addr} {kb : ClassId} {cs : List Int32} {cd N2 : Int32} {vs : List Value} (E : RoadKit.Exa Z h x ST) (V : RoadKit.Fld Z h x ST "value" "[B" (.ref t)) (C : RoadKit.Fld Z h x ST "coder" "B" (.int cd)) (K : RoadKit.Arv Z h t kb .byte N2 vs (.int 0)) (hc : CodA cs cd N2 vs) (hb : ∀ c ∈ cs, ¬ c < 0 ∧ ¬ (65535 : Int32) < c) (l2 : cs.length ≤ 4000)
    {y t' : Addr} {kb' : ClassId} {ds : List Int32} {cd' N2' : Int32} {vs' : List Value} (E' : RoadKit.Exa Z h y ST) (V' : RoadKit.Fld Z h y ST "value" "[B" (.ref t')) (C' : RoadKit.Fld Z h y ST "coder" "B" (.int cd')) (K' : RoadKit.Arv Z h t' kb' .byte N2' vs' (.int 0)) (hc' : CodA ds cd' N2' vs') (hb' : ∀ c ∈ ds, ¬ c < 0 ∧ ¬ (65535 : Int32) < c) (l2' : ds.length ≤ 4000)
    {z : Int32} (S : RoadKit.Sta Z h ST "COMPACT_STRINGS" "Z" (.int z)) (hz : ¬ z = 0) (hfr : 2 ≤ R.frames) (hlo : W + 28 ≤ R.locals) :
    Back l R p e below s args (⟨"java/lang/String", "equals", "(Ljava/lang/Object;)Z"⟩ : MethodName) len W (fun P a => a = #[.ref x, .ref y] ∧ P.U.heap = h ∧ P.cells + 0 ≤ R.cells ∧ P.slots + 0 ≤ R.slots)
      (fun P _ v B => ∃ L, (((v = some (.int 1) ∧ cs = ds) ∨ (v = some (.int 0) ∧ ¬ cs = ds)) ∧ L = [] ∧ B.U.heap = h) ∧ B.locs = P.locs ++ L ∧ B.cells = P.cells + 0 ∧ B.slots = P.slots + 0) := by
  intro m meth c P g ig mk a X hg hsize hdg hW hn hp'
  obtain ⟨rfl, rfl, r1, r2⟩ := hp'
  have al : Z.vm.Alike P.U.vm := hZ.alike.trans X.warmed.alike
  obtain ⟨A, hx⟩ := txt_of wi al E V C K hc hb l2
  obtain ⟨A', hy⟩ := txt_of wi al E' V' C' K' hc' hb' l2'
  obtain ⟨v, B, X', ⟨⟨w, hv, hh, hq⟩, hl, hk, hs⟩, st⟩ := SEq.pays x t A cd cs.length (fun j => cs.getD j 0) y t' A' cd' ds.length (fun j => ds.getD j 0) z (tabEq_of (movedEq hZ hw)) hfr hlo m meth c P g ig mk _ X hg hsize hdg hW hn ⟨r1, r2, rfl, hx, hy, sta_is al S, hz⟩
  refine ⟨v, B, X', ⟨[], ⟨?_, rfl, hh⟩, hl, hk, hs⟩, st⟩
  rcases hq with ⟨rfl, q⟩ | ⟨rfl, q⟩
  · exact Or.inl ⟨hv, (same_list cs ds).mp q⟩
  · exact Or.inr ⟨hv, fun e => q ((same_list cs ds).mpr e)⟩
end StrChars.Road
namespace StrChars.Road
open Jvm Sem ClassFile Op Lib Jvm.Stand Jvm.Free Jvm.Free.XT
open Jvm.Lib.Cold (StaticIs)
theorem codOf {cs : List Int32} {n : Nat} (hn : cs.length = n) (hb : ∀ c ∈ cs, ¬ 255 < c) : CodA cs 0 (Int32.ofNat n) ((cs.map lo8).map Value.int) := Or.inl ⟨rfl, by rw [hn], by simp [List.map_map, Function.comp_def], hb⟩
end StrChars.Road
end Jvm.Pilot.@@N@@

namespace Jvm.Pilot.@@N@@
open Jvm Jvm.ClassFile Sem Op Lib Jvm.Free Jvm.Stand Jvm.LawKit Jvm.RoadKit Bundle Jvm.Pilot.@@N@@.Jvm.D
abbrev own_S (p : Program) (e : Env) (below : List Frame) (T : State) (f : JFrame) (t : State) : Prop := Steps p.tables e below (T.setTop f) t

theorem own_eqi {args : Array Value} {first s : State} {o : Option Outcome} {idx : List Nat} {t : Term} {k : Int32} (h : (Jvm.Cond.eq t (Term.int k)).value args first o s idx = some true) : t.eval args first o idx s = some (.int k) := by
  simp only [Jvm.Cond.value, Term.eval] at h
  cases ht : t.eval args first o idx s with
  | none => simp [ht] at h
  | some x => cases x <;> simp [ht] at h; rw [h]
theorem own_eql {args : Array Value} {first s : State} {o : Option Outcome} {idx : List Nat} {t : Term} {k : Int64} (h : (Jvm.Cond.eq t (Term.long k)).value args first o s idx = some true) : t.eval args first o idx s = some (.long k) := by
  simp only [Jvm.Cond.value, Term.eval] at h
  cases ht : t.eval args first o idx s with
  | none => simp [ht] at h
  | some x => cases x <;> simp [ht] at h; rw [h]

theorem own_up (cs : List Int32) (h : ∀ c ∈ cs, ¬ c < 0 ∧ ¬ (255 : Int32) < c) : ∀ c ∈ cs, ¬ c < 0 ∧ ¬ (65535 : Int32) < c := fun c hc => ⟨(h c hc).1, fun q => (h c hc).2 (by rw [Int32.lt_iff_toInt_lt] at q ⊢; have e1 : (65535 : Int32).toInt = 65535 := rfl; have e2 : (255 : Int32).toInt = 255 := rfl; omega)⟩

theorem own_ref {s : State} {args a' : Array Value} {own text : String} {index : Nat} {a : Addr} (w : (Jvm.Cond.stringLink own index text).before args s = true) (L : Lit s own index a) : (Jvm.Cond.stringRef own index text).before a' s = true := by
  simp only [Jvm.Cond.before, Jvm.Cond.holds, Jvm.Cond.value] at w ⊢
  cases hc : s.vm.findClass own with
  | none => simp [hc] at w
  | some c =>
    simp only [hc, Option.map_some, beq_iff_eq, Option.some.injEq, Bool.and_eq_true] at w ⊢
    have L' : s.resolvedAt? own index = some (.string a) := L
    exact ⟨w.1, by rw [L']⟩
section
variable {p : Program} {l : Launch} {e : Env} {R : Room} {s : State} {args : Array Value} {below : List Frame} {Z : State} {a0 : Array Value} {h : Heap}
theorem own_backI {y : MethodName} {bytes : ByteArray} {maxL : Nat} {ret : Option FieldType} {rm : Room} {len W : Nat} {as' : Array Value} {Ts : List String} {Q : Option Value → Heap → List Loc → Prop}
    (hM : MetFree l y (head1 [Jvm.Cond.code y bytes maxL ret] rm) (fun a U => a = as' ∧ Z.Warmed39 U.vm ∧ U.heap = h ∧ IB Z U.vm Ts) (fun _ _ _ _ _ => True) (fun _ U o U' => ∃ v L, o = .returned v ∧ Q v U'.heap L ∧ ReturnedEndW U o U' L rm.cells rm.slots))
    (hZ : Z.Warmed39 s.vm) (wc : (Jvm.Cond.code y bytes maxL ret).before a0 Z = true) (wz : (Jvm.Cond.initialized y.cls).before a0 Z = true) (hf : rm.frames + 1 ≤ R.frames) (hl : W + (maxL + 11) + rm.locals ≤ R.locals) (I : IB Z s.vm Ts) :
    BackS l R p e below s args y len W (fun A a => a = as' ∧ A.U.heap = h ∧ A.cells + rm.cells ≤ R.cells ∧ A.slots + rm.slots ≤ R.slots)
      (fun A _ v B => ∃ L, Q v B.U.heap L ∧ B.locs = A.locs ++ L ∧ B.cells = A.cells + rm.cells ∧ B.slots = A.slots + rm.slots) :=
  BackS.of_freeW (bytes := bytes) (maxL := maxL) (ret := ret) (E := fun _ _ o t L k n => k = rm.cells ∧ n = rm.slots ∧ ∃ v, o = .returned v ∧ Q v t.heap L) hM hf hl
    (fun m meth c A a Y hp => have hU : Z.Warmed39 A.U.vm := wtrans hZ Y.warmed
      ⟨by show (Jvm.Cond.and _ .tt).before a A.U = true; rw [Cond.before_and, mv hU wc]; rfl, mv hU wc, mv hU wz, hp.2.2.1, hp.2.2.2⟩)
    (fun m meth c A a g mk Y hp => ⟨hp.1, wtrans hZ Y.warmed, hp.2.1, by obtain ⟨more, e1, e2⟩ := I; exact ⟨more, Y.warmed.interned_eq.trans e1, e2⟩⟩) (fun _ _ _ _ _ _ _ _ _ => trivial)
    (fun _ _ _ _ ⟨v, L, h1, h2, h3⟩ => ⟨L, _, _, h3, rfl, rfl, v, h1, h2⟩)
    (fun m meth c A a g mk v t L k n Y hp _ _ ⟨e1, e2, v', e3, e4⟩ => by cases e3; subst e1 e2; exact ⟨L, e4, rfl, rfl, rfl⟩)
end

theorem own_len {s : State} {args : Array Value} {t : Term} {a : Addr} {cl : Cell} {ty : FieldType} {n : Int32} (A : Arr s s.heap a cl ty) (ev : t.eval args s none [] s = some (.ref a)) (hl : (Term.length t).eval args s none [] s = some (.int n)) : cl.slots.size < 2 ^ 31 ∧ cl.slots.size.toInt32 = n := by
  have ha := A.fin (U := s) (Vm.Alike.refl _)
  by_cases q : cl.slots.size < 2 ^ 31
  · have e := (len_f ev ha q).symm.trans hl
    exact ⟨q, by simpa using e⟩
  · simp [Term.eval, ev, ha, q] at hl
theorem own_eqr {args : Array Value} {first s : State} {o : Option Outcome} {idx : List Nat} {t u : Term} {g : Addr} (h : (Jvm.Cond.eq t u).value args first o s idx = some true) (hu : u.eval args first o idx s = some (.ref g)) : t.eval args first o idx s = some (.ref g) := by
  obtain ⟨x, y, hx, hy, k1, k2⟩ := cmp_v (Or.inl h)
  cases hu.symm.trans hy
  have hr : x.isRef = true := k2.2
  have e := gotT (eq_R hx hu hr rfl) h
  rw [hx, e]

abbrev own_c (p : Int32) : Int32 := (p.toUInt32.toUInt16.toUInt32.toInt32)
theorem own_ci (p : Int32) : ((own_c p).toInt - p.toInt) % 65536 = 0 ∧ 0 ≤ (own_c p).toInt ∧ (own_c p).toInt < 65536 := c_i2c p
theorem own_cc (p : Int32) : own_c (own_c p) = own_c p := by
  apply Int32.toInt_inj.mp
  have h1 := own_ci p
  have h2 := own_ci (own_c p)
  omega
def own_dr (x : Int32) : Int32 := if (x &&& (256 : Int32)) = (0 : Int32) then nar .char (own_c (x &&& (255 : Int32))) else nar .char (own_c ((48 : Int32) + (((x.toUInt32 >>> ((9 : Int32) &&& 31).toUInt32).toInt32) &&& (3 : Int32))))
theorem own_drc (x : Int32) : own_c (own_dr x) = own_dr x := by
  unfold own_dr
  split
  · exact own_cc (own_c (x &&& (255 : Int32)))
  · exact own_cc (own_c _)
theorem own_drr (x : Int32) : ¬ own_dr x < 0 ∧ ¬ (255 : Int32) < own_dr x := by
  have e : (255 : Int32).toInt = 255 := by decide
  have e0 : (0 : Int32).toInt = 0 := by decide
  have q : 0 ≤ (own_dr x).toInt ∧ (own_dr x).toInt ≤ 255 := by
    unfold own_dr
    split
    · have h := c_and x (255 : Int32) (by decide)
      rw [show nar .char (own_c (x &&& (255 : Int32))) = own_c (own_c (x &&& (255 : Int32))) from rfl, own_cc]
      have h1 := own_ci (x &&& (255 : Int32))
      rw [e] at h
      omega
    · generalize (x.toUInt32 >>> ((9 : Int32) &&& 31).toUInt32).toInt32 = y
      have h := c_and y (3 : Int32) (by decide)
      have e3 : (3 : Int32).toInt = 3 := by decide
      rw [e3] at h
      rw [show nar .char (own_c ((48 : Int32) + (y &&& (3 : Int32)))) = own_c (own_c ((48 : Int32) + (y &&& (3 : Int32)))) from rfl, own_cc]
      have h1 := own_ci ((48 : Int32) + (y &&& (3 : Int32)))
      have h2 := c_iadd (48 : Int32) (y &&& (3 : Int32))
      have e4 : (48 : Int32).toInt = 48 := by decide
      have r := rng32 ((48 : Int32) + (y &&& (3 : Int32)))
      rw [e4] at h2
      omega
  exact ⟨by rw [Int32.lt_iff_toInt_lt, e0]; omega, by rw [Int32.lt_iff_toInt_lt, e]; omega⟩
theorem own_3 (x : Int32) : (x &&& (3 : Int32)) = (0 : Int32) ∨ (x &&& (3 : Int32)) = (1 : Int32) ∨ (x &&& (3 : Int32)) = (2 : Int32) ∨ (x &&& (3 : Int32)) = (3 : Int32) := by
  have h := c_and x (3 : Int32) (by decide)
  have e3 : (3 : Int32).toInt = 3 := by decide
  rw [e3] at h
  rcases (by omega : (x &&& (3 : Int32)).toInt = 0 ∨ (x &&& (3 : Int32)).toInt = 1 ∨ (x &&& (3 : Int32)).toInt = 2 ∨ (x &&& (3 : Int32)).toInt = 3) with q | q | q | q
  · exact Or.inl (Int32.toInt_inj.mp q)
  · exact Or.inr (Or.inl (Int32.toInt_inj.mp q))
  · exact Or.inr (Or.inr (Or.inl (Int32.toInt_inj.mp q)))
  · exact Or.inr (Or.inr (Or.inr (Int32.toInt_inj.mp q)))

theorem d_method_3_0 : decode method_3_code 0 = .ok (.iload_n 0, 1) := by decide +kernel
theorem d_method_3_1 : decode method_3_code 1 = .ok (.sipush 256, 3) := by decide +kernel
theorem d_method_3_4 : decode method_3_code 4 = .ok (.iand, 1) := by decide +kernel
theorem d_method_3_5 : decode method_3_code 5 = .ok (.ifCond .eq 14, 3) := by decide +kernel
theorem d_method_3_8 : decode method_3_code 8 = .ok (.bipush 48, 2) := by decide +kernel
theorem d_method_3_10 : decode method_3_code 10 = .ok (.iload_n 0, 1) := by decide +kernel
theorem d_method_3_11 : decode method_3_code 11 = .ok (.bipush 9, 2) := by decide +kernel
theorem d_method_3_13 : decode method_3_code 13 = .ok (.iushr, 1) := by decide +kernel
theorem d_method_3_14 : decode method_3_code 14 = .ok (.iconst 3, 1) := by decide +kernel
theorem d_method_3_15 : decode method_3_code 15 = .ok (.iand, 1) := by decide +kernel
theorem d_method_3_16 : decode method_3_code 16 = .ok (.iadd, 1) := by decide +kernel
theorem d_method_3_17 : decode method_3_code 17 = .ok (.i2c, 1) := by decide +kernel
theorem d_method_3_18 : decode method_3_code 18 = .ok (.ireturn, 1) := by decide +kernel
theorem d_method_3_19 : decode method_3_code 19 = .ok (.iload_n 0, 1) := by decide +kernel
theorem d_method_3_20 : decode method_3_code 20 = .ok (.sipush 255, 3) := by decide +kernel
theorem d_method_3_23 : decode method_3_code 23 = .ok (.iand, 1) := by decide +kernel
theorem d_method_3_24 : decode method_3_code 24 = .ok (.i2c, 1) := by decide +kernel
theorem d_method_3_25 : decode method_3_code 25 = .ok (.ireturn, 1) := by decide +kernel
theorem pn_0 : plainName "com/example/runs_to_scores/runstoscores/formats/GenomicsJudgmentCodedPinLaw" = true := by first | (simp [plainName, overriddenIn]; done) | decide +kernel
theorem ef_rm1 (m : MethodId) (x0 : Int32) : entryFrame m #[(.int x0)] 1 = mkF m 0 #[.val (.int x0)] [] := by first | (simp [entryFrame, mkF, argsToLocals, Value.category]; done) | rfl
def Q1 (Z : State) (p1 : Int32) (h0 : Heap) (n0 : Nat) (v : Option Value) (h : Heap) (L : List Loc) : Prop := v = some (.int (own_dr p1)) ∧ Fr n0 L ∧ h = h0
set_option maxRecDepth 65536 in
set_option maxHeartbeats 40000000 in
theorem rm1 (l : Launch) (Z : State) (a0 : Array Value) (hw : ∀ d ∈ tables_1, d.before a0 Z = true) (ws : List Jvm.Cond) (p1 : Int32) (h0 : Heap) (n0 : Nat) (Z0 : n0 ≤ h0.size) :
    MetFree l (⟨"com/example/runs_to_scores/runstoscores/formats/GenomicsJudgmentCodedPinLaw", "drawn", "(I)C"⟩ : MethodName) (head1 (Jvm.Cond.code (⟨"com/example/runs_to_scores/runstoscores/formats/GenomicsJudgmentCodedPinLaw", "drawn", "(I)C"⟩ : MethodName) method_3_code 1 (some .char) :: ws) ({ frames := 0, cells := 0, slots := 0, locals := 0 } : Room)) (fun a U => a = #[(.int p1)] ∧ Z.Warmed39 U.vm ∧ U.heap = h0) (fun _ _ _ _ _ => True) (fun _ U o U' => ∃ v L, o = .returned v ∧ Q1 Z p1 h0 n0 v U'.heap L ∧ FrameEnd U o U' L ({ frames := 0, cells := 0, slots := 0, locals := 0 } : Room).cells ({ frames := 0, cells := 0, slots := 0, locals := 0 } : Room).slots) := by
  refine MetFree.of_bodySF (plainFor_of_name pn_0) hisR ?_
  intro p e s m args below meth c s₁ Bd hml0 hP hK
  obtain ⟨rfl, hZ, hh⟩ := hP
  have hx := Bd.exec
  have hby := Bd.bytes
  have hml : c.maxLocals = 1 := hml0
  have hown : s.vm.findClass "com/example/runs_to_scores/runstoscores/formats/GenomicsJudgmentCodedPinLaw" = some m.cls := findClass_of_methodNamed Bd.named
  have hnm := (name_of_methodNamed Bd.named Bd.method).1
  have X0 : Stand p l e ({ frames := 0, cells := 0, slots := 0, locals := 0 } : Room) s m #[(.int p1)] below meth c s₁ [] 0 0 := Stand.of_body Bd
  have e0 : s₁.heap = h0 := by rw [← hh, Bd.state]; rfl
  have Nf0 := Fr.nil n0
  obtain ⟨Gl, hGl, kn0⟩ : ∃ Gl : State → Prop, (∀ t, Gl t → Steps p.tables e below (s₁.setTop (entryFrame m #[(.int p1)] 1)) t) ∧ ∀ t, own_S p e below s₁ (mkF m 0 #[.val (.int p1)] []) t → Gl t := ⟨fun t => Steps p.tables e below (s₁.setTop (entryFrame m #[(.int p1)] 1)) t, fun _ k => k, fun t k => castTop (ef_rm1 m p1) k⟩
  have kn1 : ∀ t, own_S p e below s₁ (mkF m 5 #[.val (.int p1)] [(.int (p1 &&& (256 : Int32)))]) t → Gl t := fun t kt => kn0 t (by
    show own_S p e below s₁ (mkF m 0 #[.val (.int p1)] []) _
    refine XS.iloadN X0.here hx rfl (hb hby d_method_3_0) rfl ?_
    show own_S p e below s₁ (mkF m 1 #[.val (.int p1)] [(.int p1)]) _
    refine XS.sipush X0.here hx rfl (hb hby d_method_3_1) ?_
    show own_S p e below s₁ (mkF m 4 #[.val (.int p1)] [(.int (256 : Int32)), (.int p1)]) _
    refine XS.iand X0.here hx rfl (hb hby d_method_3_4) rfl ?_
    exact kt)
  by_cases hc5 : (p1 &&& (256 : Int32)) = (0 : Int32)
  · have kn2 : ∀ t, own_S p e below s₁ (mkF m 25 #[.val (.int p1)] [(.int ((p1 &&& (255 : Int32)).toUInt32.toUInt16.toUInt32.toInt32))]) t → Gl t := fun t kt => kn1 t (by
      show own_S p e below s₁ (mkF m 5 #[.val (.int p1)] [(.int (p1 &&& (256 : Int32)))]) _
      refine XS.ifYes X0.here hx rfl (pc0 := 5) (pc' := 19) rfl (hb hby d_method_3_5) rfl ((if0 _ _).trans (teq hc5).1) (by decide) (by decide) ?_
      show own_S p e below s₁ (mkF m 19 #[.val (.int p1)] []) _
      refine XS.iloadN X0.here hx rfl (hb hby d_method_3_19) rfl ?_
      show own_S p e below s₁ (mkF m 20 #[.val (.int p1)] [(.int p1)]) _
      refine XS.sipush X0.here hx rfl (hb hby d_method_3_20) ?_
      show own_S p e below s₁ (mkF m 23 #[.val (.int p1)] [(.int (255 : Int32)), (.int p1)]) _
      refine XS.iand X0.here hx rfl (hb hby d_method_3_23) rfl ?_
      show own_S p e below s₁ (mkF m 24 #[.val (.int p1)] [(.int (p1 &&& (255 : Int32)))]) _
      refine XS.i2c X0.here hx rfl (hb hby d_method_3_24) rfl ?_
      exact kt)
    obtain ⟨fs, hr, hrun, hended, hW, hsame⟩ := X0.leave (v := some (.int (nar .char ((p1 &&& (255 : Int32)).toUInt32.toUInt16.toUInt32.toInt32)))) (fun h => by rw [Bd.returns] at h; cases h)
    refine ⟨_, _, hGl _ (kn2 _ (retN X0 hx (t := .char) Bd.returns (by simp) (hb hby d_method_3_25) hr)), hrun, hended, _, _, rfl, ?_, ⟨_, rfl⟩, hW, hsame.mono (by decide) (by decide)⟩
    show Q1 Z p1 h0 n0 _ s₁.heap _
    rw [e0]
    exact ⟨by rw [own_dr, if_pos hc5], Nf0, rfl⟩
  · have kn3 : ∀ t, own_S p e below s₁ (mkF m 18 #[.val (.int p1)] [(.int (((48 : Int32) + (((p1.toUInt32 >>> ((9 : Int32) &&& 31).toUInt32).toInt32) &&& (3 : Int32))).toUInt32.toUInt16.toUInt32.toInt32))]) t → Gl t := fun t kt => kn1 t (by
      show own_S p e below s₁ (mkF m 5 #[.val (.int p1)] [(.int (p1 &&& (256 : Int32)))]) _
      refine XS.ifNo X0.here hx rfl (hb hby d_method_3_5) rfl ((if0 _ _).trans (feq hc5).1) ?_
      show own_S p e below s₁ (mkF m 8 #[.val (.int p1)] []) _
      refine XS.bipush X0.here hx rfl (hb hby d_method_3_8) ?_
      show own_S p e below s₁ (mkF m 10 #[.val (.int p1)] [(.int (48 : Int32))]) _
      refine XS.iloadN X0.here hx rfl (hb hby d_method_3_10) rfl ?_
      show own_S p e below s₁ (mkF m 11 #[.val (.int p1)] [(.int p1), (.int (48 : Int32))]) _
      refine XS.bipush X0.here hx rfl (hb hby d_method_3_11) ?_
      show own_S p e below s₁ (mkF m 13 #[.val (.int p1)] [(.int (9 : Int32)), (.int p1), (.int (48 : Int32))]) _
      refine XS.iushr X0.here hx rfl (hb hby d_method_3_13) rfl ?_
      show own_S p e below s₁ (mkF m 14 #[.val (.int p1)] [(.int ((p1.toUInt32 >>> ((9 : Int32) &&& 31).toUInt32).toInt32)), (.int (48 : Int32))]) _
      refine XS.iconst X0.here hx rfl (hb hby d_method_3_14) ?_
      show own_S p e below s₁ (mkF m 15 #[.val (.int p1)] [(.int (3 : Int32)), (.int ((p1.toUInt32 >>> ((9 : Int32) &&& 31).toUInt32).toInt32)), (.int (48 : Int32))]) _
      refine XS.iand X0.here hx rfl (hb hby d_method_3_15) rfl ?_
      show own_S p e below s₁ (mkF m 16 #[.val (.int p1)] [(.int (((p1.toUInt32 >>> ((9 : Int32) &&& 31).toUInt32).toInt32) &&& (3 : Int32))), (.int (48 : Int32))]) _
      refine XS.iadd X0.here hx rfl (hb hby d_method_3_16) rfl ?_
      show own_S p e below s₁ (mkF m 17 #[.val (.int p1)] [(.int ((48 : Int32) + (((p1.toUInt32 >>> ((9 : Int32) &&& 31).toUInt32).toInt32) &&& (3 : Int32))))]) _
      refine XS.i2c X0.here hx rfl (hb hby d_method_3_17) rfl ?_
      exact kt)
    obtain ⟨fs, hr, hrun, hended, hW, hsame⟩ := X0.leave (v := some (.int (nar .char (((48 : Int32) + (((p1.toUInt32 >>> ((9 : Int32) &&& 31).toUInt32).toInt32) &&& (3 : Int32))).toUInt32.toUInt16.toUInt32.toInt32)))) (fun h => by rw [Bd.returns] at h; cases h)
    refine ⟨_, _, hGl _ (kn3 _ (retN X0 hx (t := .char) Bd.returns (by simp) (hb hby d_method_3_18) hr)), hrun, hended, _, _, rfl, ?_, ⟨_, rfl⟩, hW, hsame.mono (by decide) (by decide)⟩
    show Q1 Z p1 h0 n0 _ s₁.heap _
    rw [e0]
    exact ⟨by rw [own_dr, if_neg hc5], Nf0, rfl⟩

theorem d_jdk_42_method_149_0 : decode jdk_42_method_149_code 0 = .ok (.aload_n 0, 1) := by decide +kernel
theorem d_jdk_42_method_149_1 : decode jdk_42_method_149_code 1 = .ok (.invokespecial 1, 3) := by decide +kernel
theorem d_jdk_42_method_149_4 : decode jdk_42_method_149_code 4 = .ok (.iload_n 3, 1) := by decide +kernel
theorem d_jdk_42_method_149_5 : decode jdk_42_method_149_code 5 = .ok (.ifCond .ne 22, 3) := by decide +kernel
theorem d_jdk_42_method_149_8 : decode jdk_42_method_149_code 8 = .ok (.aload_n 0, 1) := by decide +kernel
theorem d_jdk_42_method_149_9 : decode jdk_42_method_149_code 9 = .ok (.ldc 7, 2) := by decide +kernel
theorem d_jdk_42_method_149_11 : decode jdk_42_method_149_code 11 = .ok (.getfield 9, 3) := by decide +kernel
theorem d_jdk_42_method_149_14 : decode jdk_42_method_149_code 14 = .ok (.putfield 9, 3) := by decide +kernel
theorem d_jdk_42_method_149_17 : decode jdk_42_method_149_code 17 = .ok (.aload_n 0, 1) := by decide +kernel
theorem d_jdk_42_method_149_18 : decode jdk_42_method_149_code 18 = .ok (.ldc 7, 2) := by decide +kernel
theorem d_jdk_42_method_149_20 : decode jdk_42_method_149_code 20 = .ok (.getfield 15, 3) := by decide +kernel
theorem d_jdk_42_method_149_23 : decode jdk_42_method_149_code 23 = .ok (.putfield 15, 3) := by decide +kernel
theorem d_jdk_42_method_149_26 : decode jdk_42_method_149_code 26 = .ok (.return_, 1) := by decide +kernel
theorem pn_1 : plainName "java/lang/String" = true := by first | (simp [plainName, overriddenIn]; done) | decide +kernel
theorem ef_rmE3 (m : MethodId) (x0 : Addr) (x1 : Addr) : entryFrame m #[(.ref x0), (.ref x1), (.int (0 : Int32)), (.int (0 : Int32)), .null] 6 = mkF m 0 #[.val (.ref x0), .val (.ref x1), .val (.int (0 : Int32)), .val (.int (0 : Int32)), .val .null, .unset] [] := by first | (simp [entryFrame, mkF, argsToLocals, Value.category]; done) | rfl
def QE3 (Z : State) (a1 : Addr) (b2 : Addr) (h0 : Heap) (n0 : Nat) (v : Option Value) (h : Heap) (L : List Loc) : Prop := v = none ∧ Fr n0 L ∧ ∃ (t : Addr) (kb : ClassId), Keep h0 h [a1] ∧ Exa Z h a1 "java/lang/String" ∧ Fld Z h a1 "java/lang/String" "coder" "B" (.int (0 : Int32)) ∧ Fld Z h a1 "java/lang/String" "value" "[B" (.ref t) ∧ Arv Z h t kb .byte (0 : Int32) [] (.int (0 : Int32))
set_option maxRecDepth 65536 in
set_option maxHeartbeats 40000000 in
theorem rmE3 (l : Launch) (Z : State) (a0 : Array Value) (hw : ∀ d ∈ tables_1, d.before a0 Z = true) (ws : List Jvm.Cond) (a1 : Addr) (b2 : Addr) (h0 : Heap) (n0 : Nat) (Z0 : n0 ≤ h0.size) (F1 : Fld Z h0 a1 "java/lang/String" "value" "[B" .null) (F2 : Fld Z h0 a1 "java/lang/String" "coder" "B" (.int (0 : Int32))) (E1 : Exa Z h0 a1 "java/lang/String") (g_a1 : n0 ≤ a1) (O0 : Old Z n0 h0) (HC : ∀ p ∈ consts_1, Jvm.Lit.constHeld Z p.1 p.2) (hcw : Jvm.Lit.compactW.before a0 Z = true) :
    MetFree l (⟨"java/lang/String", "<init>", "([CIILjava/lang/Void;)V"⟩ : MethodName) (head1 (Jvm.Cond.code (⟨"java/lang/String", "<init>", "([CIILjava/lang/Void;)V"⟩ : MethodName) jdk_42_method_149_code 6 none :: ws) ({ frames := 1, cells := 2, slots := 8, locals := 12 } : Room)) (fun a U => a = #[(.ref a1), (.ref b2), (.int (0 : Int32)), (.int (0 : Int32)), .null] ∧ Z.Warmed39 U.vm ∧ U.heap = h0 ∧ IB Z U.vm []) (fun _ _ _ _ _ => True) (fun _ U o U' => ∃ v L, o = .returned v ∧ QE3 Z a1 b2 h0 n0 v U'.heap L ∧ ReturnedEndW U o U' L ({ frames := 1, cells := 2, slots := 8, locals := 12 } : Room).cells ({ frames := 1, cells := 2, slots := 8, locals := 12 } : Room).slots) := by
  refine MetFree.of_bodySF (plainFor_of_name pn_1) hisR ?_
  intro p e s m args below meth c s₁ Bd hml0 hP hK
  obtain ⟨rfl, hZ, hh, hIB⟩ := hP
  have hx := Bd.exec
  have hby := Bd.bytes
  have hml : c.maxLocals = 6 := hml0
  have hown : s.vm.findClass "java/lang/String" = some m.cls := findClass_of_methodNamed Bd.named
  have hnm := (name_of_methodNamed Bd.named Bd.method).1
  have X0 : Stand p l e ({ frames := 1, cells := 2, slots := 8, locals := 12 } : Room) s m #[(.ref a1), (.ref b2), (.int (0 : Int32)), (.int (0 : Int32)), .null] below meth c s₁ [] 0 0 := Stand.of_body Bd
  have e0 : s₁.heap = h0 := by rw [← hh, Bd.state]; rfl
  have Nf0 := Fr.nil n0
  obtain ⟨Gl, hGl, kn0⟩ : ∃ Gl : State → Prop, (∀ t, Gl t → Steps p.tables e below (s₁.setTop (entryFrame m #[(.ref a1), (.ref b2), (.int (0 : Int32)), (.int (0 : Int32)), .null] 6)) t) ∧ ∀ t, own_S p e below s₁ (mkF m 0 #[.val (.ref a1), .val (.ref b2), .val (.int (0 : Int32)), .val (.int (0 : Int32)), .val .null, .unset] []) t → Gl t := ⟨fun t => Steps p.tables e below (s₁.setTop (entryFrame m #[(.ref a1), (.ref b2), (.int (0 : Int32)), (.int (0 : Int32)), .null] 6)) t, fun _ k => k, fun t k => castTop (ef_rmE3 m a1 b2) k⟩
  have kn1 : ∀ t, own_S p e below s₁ (mkF m 1 #[.val (.ref a1), .val (.ref b2), .val (.int (0 : Int32)), .val (.int (0 : Int32)), .val .null, .unset] [(.ref a1)]) t → Gl t := fun t kt => kn0 t (by
    show own_S p e below s₁ (mkF m 0 #[.val (.ref a1), .val (.ref b2), .val (.int (0 : Int32)), .val (.int (0 : Int32)), .val .null, .unset] []) _
    refine XS.aloadN X0.here hx rfl (hb hby d_jdk_42_method_149_0) rfl rfl ?_
    exact kt)
  obtain ⟨T2, X2, e2, st2⟩ := initO X0 hx hZ hown (hw _ (List.mem_of_getElem? (i := 15) rfl)) (hw _ (List.mem_of_getElem? (i := 16) rfl)) (hw _ (List.mem_of_getElem? (i := 17) rfl)) e0 (g := (mkF m 1 #[.val (.ref a1), .val (.ref b2), .val (.int (0 : Int32)), .val (.int (0 : Int32)), .val .null, .unset] [(.ref a1)])) rfl (by rw [hml]; rfl) rfl (hb hby d_jdk_42_method_149_1) (by decide) (W := 0) (by show 2 * 0 + _ ≤ _; exact Nat.le_of_eq rfl) (by decide)
  have kn3 : ∀ t, own_S p e below T2 (mkF m 4 #[.val (.ref a1), .val (.ref b2), .val (.int (0 : Int32)), .val (.int (0 : Int32)), .val .null, .unset] []) t → Gl t := fun t kt => kn1 t (st2 _ kt)
  have kn4 : ∀ t, own_S p e below T2 (mkF m 9 #[.val (.ref a1), .val (.ref b2), .val (.int (0 : Int32)), .val (.int (0 : Int32)), .val .null, .unset] [(.ref a1)]) t → Gl t := fun t kt => kn3 t (by
    show own_S p e below T2 (mkF m 4 #[.val (.ref a1), .val (.ref b2), .val (.int (0 : Int32)), .val (.int (0 : Int32)), .val .null, .unset] []) _
    refine XS.iloadN X2.here hx rfl (hb hby d_jdk_42_method_149_4) rfl ?_
    show own_S p e below T2 (mkF m 5 #[.val (.ref a1), .val (.ref b2), .val (.int (0 : Int32)), .val (.int (0 : Int32)), .val .null, .unset] [(.int (0 : Int32))]) _
    refine XS.ifNo X2.here hx rfl (hb hby d_jdk_42_method_149_5) rfl ((if0 _ _).trans (teq (by decide : (0 : Int32) = (0 : Int32))).2) ?_
    show own_S p e below T2 (mkF m 8 #[.val (.ref a1), .val (.ref b2), .val (.int (0 : Int32)), .val (.int (0 : Int32)), .val .null, .unset] []) _
    refine XS.aloadN X2.here hx rfl (hb hby d_jdk_42_method_149_8) rfl rfl ?_
    exact kt)
  have hS5 : s.Since s.vm 0 := (State.WarmedH.refl s).since 0
  have wS : ∀ a ∈ Bundle.stringAtoms, a.before a0 Z = true := fun d hd => hw d ((by decide +kernel : ∀ d ∈ Bundle.stringAtoms, d ∈ tables_1) d hd)
  obtain ⟨a5, T5, h5, kc5, t5, kk5, X5, e5, E5, hSn5, hkn5, hZ, hown, Ex5, Co5, Va5, Ar5, la5, lb5, I5, Lt5, dj5, st5⟩ := ldcSVd (vm0 := s.vm) X2 hx hZ hown (hw _ (List.mem_of_getElem? (i := 18) rfl)) wS e2 hS5 (Nat.zero_le _) (Fr.nil _) (fun b cl q => by rw [hh]; exact O0.2.2 b cl q) hIB (by decide) (HC _ (List.mem_of_getElem? (i := 0) rfl)) hcw (vs := []) (z := (0 : Int32)) ⟨by decide, by decide⟩ (by decide) rfl (g := (mkF m 9 #[.val (.ref a1), .val (.ref b2), .val (.int (0 : Int32)), .val (.int (0 : Int32)), .val .null, .unset] [(.ref a1)])) rfl (hb hby d_jdk_42_method_149_9) (n := 4) (by decide) (by decide) (by decide) (by decide)
  have Z6 : n0 ≤ h5.size := Nat.le_trans Z0 E5.1
  have O7 : Old Z n0 h5 := O0.ext E5
  have K8 : Keep h0 h5 [a1] := (Keep.refl h0 [a1]).ext E5
  have nl5 : a1 ≠ a5 := Fld.ne (F1.ext E5) Va5 nofun
  have nt5 : a1 ≠ t5 := by obtain ⟨q0, q1, -⟩ := Ar5; exact ne_arr (E1.ext E5) (hw _ (List.mem_of_getElem? (i := 6) rfl)) q1
  have kn9 : ∀ t, own_S p e below T5 (mkF m 11 #[.val (.ref a1), .val (.ref b2), .val (.int (0 : Int32)), .val (.int (0 : Int32)), .val .null, .unset] [(.ref a5), (.ref a1)]) t → Gl t := fun t kt => kn4 t (st5 _ kt)
  obtain ⟨T10, X10, e10, st10⟩ := getF X5 hx hZ hown (host := "") (Or.inl (hw _ (List.mem_of_getElem? (i := 24) rfl))) Via.refl e5 Va5 (g := (mkF m 11 #[.val (.ref a1), .val (.ref b2), .val (.int (0 : Int32)), .val (.int (0 : Int32)), .val .null, .unset] [(.ref a5), (.ref a1)])) rfl rfl (hb hby d_jdk_42_method_149_11)
  have kn11 : ∀ t, own_S p e below T10 (mkF m 14 #[.val (.ref a1), .val (.ref b2), .val (.int (0 : Int32)), .val (.int (0 : Int32)), .val .null, .unset] [(.ref t5), (.ref a1)]) t → Gl t := fun t kt => kn9 t (st10 _ kt)
  have f12 := (F1.ext E5)
  have f13 := (E1.ext E5)
  obtain ⟨T14, h14, X14, e14, W14, st14⟩ := putF X10 hx hZ hown (host := "") (Or.inl (hw _ (List.mem_of_getElem? (i := 24) rfl))) Via.refl e10 f12 f13 (Or.inr ⟨(hw _ (List.mem_of_getElem? (i := 20) rfl)), rfl, hnm⟩) (hw _ (List.mem_of_getElem? (i := 6) rfl)) (ty := (.array .byte)) (by decide) rfl rfl (g := (mkF m 14 #[.val (.ref a1), .val (.ref b2), .val (.int (0 : Int32)), .val (.int (0 : Int32)), .val .null, .unset] [(.ref t5), (.ref a1)])) rfl rfl (hb hby d_jdk_42_method_149_14)
  have Z15 : n0 ≤ h14.size := Nat.le_trans Z6 (Keep.of_wr W14).1
  have hk16 := Nat.le_trans hkn5 (Keep.of_wr W14).1
  have O17 : Old Z n0 h14 := O7.wr W14 g_a1
  have K18 : Keep h0 h14 [a1] := K8.wr W14 (Or.inl (List.mem_of_getElem? (i := 0) rfl))
  have Fw14 := f12.same W14
  have Nf19 := Fr.snoc X14 Nf0 g_a1
  have kn20 : ∀ t, own_S p e below T14 (mkF m 17 #[.val (.ref a1), .val (.ref b2), .val (.int (0 : Int32)), .val (.int (0 : Int32)), .val .null, .unset] []) t → Gl t := fun t kt => kn11 t (st14 _ kt)
  have kn21 : ∀ t, own_S p e below T14 (mkF m 18 #[.val (.ref a1), .val (.ref b2), .val (.int (0 : Int32)), .val (.int (0 : Int32)), .val .null, .unset] [(.ref a1)]) t → Gl t := fun t kt => kn20 t (by
    show own_S p e below T14 (mkF m 17 #[.val (.ref a1), .val (.ref b2), .val (.int (0 : Int32)), .val (.int (0 : Int32)), .val .null, .unset] []) _
    refine XS.aloadN X14.here hx rfl (hb hby d_jdk_42_method_149_17) rfl rfl ?_
    exact kt)
  have st22 := ldcR (Z := s.setVm T5.vm) (a0 := #[]) X14 hx (State.Warmed39.refl _) hown (own_ref (args := #[]) (mvS (s := s) hZ (hw _ (List.mem_of_getElem? (i := 18) rfl))) Lt5) Lt5 (g := (mkF m 18 #[.val (.ref a1), .val (.ref b2), .val (.int (0 : Int32)), .val (.int (0 : Int32)), .val .null, .unset] [(.ref a1)])) rfl (hb hby d_jdk_42_method_149_18)
  have kn23 : ∀ t, own_S p e below T14 (mkF m 20 #[.val (.ref a1), .val (.ref b2), .val (.int (0 : Int32)), .val (.int (0 : Int32)), .val .null, .unset] [(.ref a5), (.ref a1)]) t → Gl t := fun t kt => kn21 t (st22 _ kt)
  have f24 := (Co5.other W14 (Or.inl (Ne.symm nl5)))
  obtain ⟨T25, X25, e25, st25⟩ := getF X14 hx hZ hown (host := "") (Or.inl (hw _ (List.mem_of_getElem? (i := 25) rfl))) Via.refl e14 f24 (g := (mkF m 20 #[.val (.ref a1), .val (.ref b2), .val (.int (0 : Int32)), .val (.int (0 : Int32)), .val .null, .unset] [(.ref a5), (.ref a1)])) rfl rfl (hb hby d_jdk_42_method_149_20)
  have kn26 : ∀ t, own_S p e below T25 (mkF m 23 #[.val (.ref a1), .val (.ref b2), .val (.int (0 : Int32)), .val (.int (0 : Int32)), .val .null, .unset] [(.int (0 : Int32)), (.ref a1)]) t → Gl t := fun t kt => kn23 t (st25 _ kt)
  have f27 := ((F2.ext E5).other W14 (Or.inr (slot_ne (Or.inr (hw _ (List.mem_of_getElem? (i := 21) rfl))) (Or.inr (hw _ (List.mem_of_getElem? (i := 20) rfl))) (by decide) (t := .byte) (t' := (.array .byte)) (by decide) (by decide))))
  have f28 := (f13.wr W14)
  obtain ⟨T29, h29, X29, e29, W29, st29⟩ := putFN X25 hx hZ hown (hw _ (List.mem_of_getElem? (i := 25) rfl)) Via.refl e25 f27 f28 (Or.inr ⟨(hw _ (List.mem_of_getElem? (i := 21) rfl)), rfl, hnm⟩) (hw _ (List.mem_of_getElem? (i := 6) rfl)) (ty := .byte) (v' := (.int (0 : Int32))) (by decide) rfl (by decide) (g := (mkF m 23 #[.val (.ref a1), .val (.ref b2), .val (.int (0 : Int32)), .val (.int (0 : Int32)), .val .null, .unset] [(.int (0 : Int32)), (.ref a1)])) rfl rfl (hb hby d_jdk_42_method_149_23)
  have Z30 : n0 ≤ h29.size := Nat.le_trans Z15 (Keep.of_wr W29).1
  have hk31 := Nat.le_trans hk16 (Keep.of_wr W29).1
  have O32 : Old Z n0 h29 := O17.wr W29 g_a1
  have K33 : Keep h0 h29 [a1] := K18.wr W29 (Or.inl (List.mem_of_getElem? (i := 0) rfl))
  have Fw29 := f27.same W29
  have Nf34 := Fr.snoc X29 Nf19 g_a1
  have kn35 : ∀ t, own_S p e below T29 (mkF m 26 #[.val (.ref a1), .val (.ref b2), .val (.int (0 : Int32)), .val (.int (0 : Int32)), .val .null, .unset] []) t → Gl t := fun t kt => kn26 t (st29 _ kt)
  obtain ⟨fs, hr, hrun, hended, hRW⟩ := X29.leaveW hSn5 (by rw [e29]; exact hk31) (v := none) (fun _ => rfl)
  refine ⟨_, _, hGl _ (kn35 _ (X29.returnOut hx Bd.returns (hb hby d_jdk_42_method_149_26) hr)), hrun, hended, _, _, rfl, ?_, ⟨hRW.1, hRW.2.1, hRW.2.2.1, hRW.2.2.2.mono (by decide) (by decide)⟩⟩
  show QE3 Z a1 b2 h0 n0 _ T29.heap _
  rw [e29]
  have f36 := (f28.wr W29)
  have f37 := (Fw14.other W29 (Or.inr (slot_ne (Or.inr (hw _ (List.mem_of_getElem? (i := 20) rfl))) (Or.inr (hw _ (List.mem_of_getElem? (i := 21) rfl))) (by decide) (t := (.array .byte)) (t' := .byte) (by decide) (by decide))))
  have f38 := ((Ar5.other W14 (Ne.symm nt5)).other W29 (Ne.symm nt5))
  exact ⟨rfl, Nf34, t5, _, K33, f36, Fw29, f37, f38⟩

theorem d_jdk_42_method_3_0 : decode jdk_42_method_3_code 0 = .ok (.aload_n 0, 1) := by decide +kernel
theorem d_jdk_42_method_3_1 : decode jdk_42_method_3_code 1 = .ok (.aload_n 1, 1) := by decide +kernel
theorem d_jdk_42_method_3_2 : decode jdk_42_method_3_code 2 = .ok (.iconst 0, 1) := by decide +kernel
theorem d_jdk_42_method_3_3 : decode jdk_42_method_3_code 3 = .ok (.aload_n 1, 1) := by decide +kernel
theorem d_jdk_42_method_3_4 : decode jdk_42_method_3_code 4 = .ok (.arraylength, 1) := by decide +kernel
theorem d_jdk_42_method_3_5 : decode jdk_42_method_3_code 5 = .ok (.aconst_null, 1) := by decide +kernel
theorem d_jdk_42_method_3_6 : decode jdk_42_method_3_code 6 = .ok (.invokespecial 27, 3) := by decide +kernel
theorem d_jdk_42_method_3_9 : decode jdk_42_method_3_code 9 = .ok (.return_, 1) := by decide +kernel
theorem pd_0 : parseMethodDescriptor "([CIILjava/lang/Void;)V" = some ⟨[(.array .char), .int, .int, (.object "java/lang/Void")], none⟩ := by decide +kernel
theorem ef_rmE2 (m : MethodId) (x0 : Addr) (x1 : Addr) : entryFrame m #[(.ref x0), (.ref x1)] 2 = mkF m 0 #[.val (.ref x0), .val (.ref x1)] [] := by first | (simp [entryFrame, mkF, argsToLocals, Value.category]; done) | rfl
def QE2 (Z : State) (a1 : Addr) (b2 : Addr) (k2 : ClassId) (h0 : Heap) (n0 : Nat) (v : Option Value) (h : Heap) (L : List Loc) : Prop := v = none ∧ Fr n0 L ∧ ∃ (t : Addr) (kb : ClassId), Keep h0 h [a1] ∧ Exa Z h a1 "java/lang/String" ∧ Fld Z h a1 "java/lang/String" "coder" "B" (.int (0 : Int32)) ∧ Fld Z h a1 "java/lang/String" "value" "[B" (.ref t) ∧ Arv Z h t kb .byte (0 : Int32) [] (.int (0 : Int32))
set_option maxRecDepth 65536 in
set_option maxHeartbeats 40000000 in
theorem rmE2 (l : Launch) (Z : State) (a0 : Array Value) (hw : ∀ d ∈ tables_1, d.before a0 Z = true) (ws : List Jvm.Cond) (a1 : Addr) (b2 : Addr) (k2 : ClassId) (h0 : Heap) (n0 : Nat) (Z0 : n0 ≤ h0.size) (F1 : Fld Z h0 a1 "java/lang/String" "value" "[B" .null) (F2 : Fld Z h0 a1 "java/lang/String" "coder" "B" (.int (0 : Int32))) (E1 : Exa Z h0 a1 "java/lang/String") (g_a1 : n0 ≤ a1) (O0 : Old Z n0 h0) (HC : ∀ p ∈ consts_1, Jvm.Lit.constHeld Z p.1 p.2) (hcw : Jvm.Lit.compactW.before a0 Z = true) (A2 : Arv Z h0 b2 k2 .char (0 : Int32) [] (.int (0 : Int32))) :
    MetFree l (⟨"java/lang/String", "<init>", "([C)V"⟩ : MethodName) (head1 (Jvm.Cond.code (⟨"java/lang/String", "<init>", "([C)V"⟩ : MethodName) jdk_42_method_3_code 2 none :: ws) ({ frames := 2, cells := 2, slots := 8, locals := 29 } : Room)) (fun a U => a = #[(.ref a1), (.ref b2)] ∧ Z.Warmed39 U.vm ∧ U.heap = h0 ∧ IB Z U.vm []) (fun _ _ _ _ _ => True) (fun _ U o U' => ∃ v L, o = .returned v ∧ QE2 Z a1 b2 k2 h0 n0 v U'.heap L ∧ ReturnedEndW U o U' L ({ frames := 2, cells := 2, slots := 8, locals := 29 } : Room).cells ({ frames := 2, cells := 2, slots := 8, locals := 29 } : Room).slots) := by
  refine MetFree.of_bodySF (plainFor_of_name pn_1) hisR ?_
  intro p e s m args below meth c s₁ Bd hml0 hP hK
  obtain ⟨rfl, hZ, hh, hIB⟩ := hP
  have hx := Bd.exec
  have hby := Bd.bytes
  have hml : c.maxLocals = 2 := hml0
  have hown : s.vm.findClass "java/lang/String" = some m.cls := findClass_of_methodNamed Bd.named
  have hnm := (name_of_methodNamed Bd.named Bd.method).1
  have X0 : Stand p l e ({ frames := 2, cells := 2, slots := 8, locals := 29 } : Room) s m #[(.ref a1), (.ref b2)] below meth c s₁ [] 0 0 := Stand.of_body Bd
  have e0 : s₁.heap = h0 := by rw [← hh, Bd.state]; rfl
  have Nf0 := Fr.nil n0
  obtain ⟨Gl, hGl, kn0⟩ : ∃ Gl : State → Prop, (∀ t, Gl t → Steps p.tables e below (s₁.setTop (entryFrame m #[(.ref a1), (.ref b2)] 2)) t) ∧ ∀ t, own_S p e below s₁ (mkF m 0 #[.val (.ref a1), .val (.ref b2)] []) t → Gl t := ⟨fun t => Steps p.tables e below (s₁.setTop (entryFrame m #[(.ref a1), (.ref b2)] 2)) t, fun _ k => k, fun t k => castTop (ef_rmE2 m a1 b2) k⟩
  have kn1 : ∀ t, own_S p e below s₁ (mkF m 4 #[.val (.ref a1), .val (.ref b2)] [(.ref b2), (.int (0 : Int32)), (.ref b2), (.ref a1)]) t → Gl t := fun t kt => kn0 t (by
    show own_S p e below s₁ (mkF m 0 #[.val (.ref a1), .val (.ref b2)] []) _
    refine XS.aloadN X0.here hx rfl (hb hby d_jdk_42_method_3_0) rfl rfl ?_
    show own_S p e below s₁ (mkF m 1 #[.val (.ref a1), .val (.ref b2)] [(.ref a1)]) _
    refine XS.aloadN X0.here hx rfl (hb hby d_jdk_42_method_3_1) rfl rfl ?_
    show own_S p e below s₁ (mkF m 2 #[.val (.ref a1), .val (.ref b2)] [(.ref b2), (.ref a1)]) _
    refine XS.iconst X0.here hx rfl (hb hby d_jdk_42_method_3_2) ?_
    show own_S p e below s₁ (mkF m 3 #[.val (.ref a1), .val (.ref b2)] [(.int (0 : Int32)), (.ref b2), (.ref a1)]) _
    refine XS.aloadN X0.here hx rfl (hb hby d_jdk_42_method_3_3) rfl rfl ?_
    exact kt)
  obtain ⟨cl2, Ar2, -, Sz2, Ng2, -, -⟩ := id A2
  have kn3 : ∀ t, own_S p e below s₁ (mkF m 6 #[.val (.ref a1), .val (.ref b2)] [.null, (.int (0 : Int32)), (.int (0 : Int32)), (.ref b2), (.ref a1)]) t → Gl t := fun t kt => kn1 t (by
    show own_S p e below s₁ (mkF m 4 #[.val (.ref a1), .val (.ref b2)] [(.ref b2), (.int (0 : Int32)), (.ref b2), (.ref a1)]) _
    refine X0.arraylength hx (by rw [e0]; exact Ar2.1) (State.isArrayOf_alike hZ.alike Ar2.2.1) (g := (mkF m 4 #[.val (.ref a1), .val (.ref b2)] [(.ref b2), (.int (0 : Int32)), (.ref b2), (.ref a1)])) rfl rfl (hb hby d_jdk_42_method_3_4) _ ?_
    rw [len_of Sz2 Ng2]
    show own_S p e below s₁ (mkF m 5 #[.val (.ref a1), .val (.ref b2)] [(.int (0 : Int32)), (.int (0 : Int32)), (.ref b2), (.ref a1)]) _
    refine XS.aconstNull X0.here hx rfl (hb hby d_jdk_42_method_3_5) ?_
    exact kt)
  obtain ⟨_, _, ⟨T4, L4, cc4, ss4⟩, -, X4, hSn4, hgr4, ⟨Lc4, hQ4, l4, y4, z4⟩, st4⟩ := X0.specialBackS hx (y := (⟨"java/lang/String", "<init>", "([CIILjava/lang/Void;)V"⟩ : MethodName)) rfl hown (mvT hZ (hw _ (List.mem_of_getElem? (i := 11) rfl))) (mvT hZ (hw _ (List.mem_of_getElem? (i := 12) rfl))) (mvT hZ (hw _ (List.mem_of_getElem? (i := 14) rfl))) (by decide) (own_backI (W := 0) (rmE3 l Z a0 hw [] a1 b2 h0 n0 Z0 F1 F2 E1 g_a1 O0 HC hcw) hZ (hw _ (List.mem_of_getElem? (i := 14) rfl)) (hw _ (List.mem_of_getElem? (i := 7) rfl)) (by decide) (by decide) hIB) (g := (mkF m 6 #[.val (.ref a1), .val (.ref b2)] [.null, (.int (0 : Int32)), (.int (0 : Int32)), (.ref b2), (.ref a1)])) rfl (by rw [hml]; rfl) (Steps.refl _) (a := a1) (argsL := [(.ref b2), (.int (0 : Int32)), (.int (0 : Int32)), .null]) (rest := []) (lenOf pd_0 rfl) rfl (by show 2 * 0 + _ ≤ _; exact Nat.le_of_eq rfl) (hb hby d_jdk_42_method_3_6) (fun _ _ => ⟨rfl, e0, (by decide : 0 + 2 ≤ _), (by decide : 0 + 8 ≤ _)⟩)
  dsimp only [Pt.U, Pt.locs, Pt.cells, Pt.slots] at X4 l4 y4 z4 st4 hQ4
  subst l4 y4 z4
  have hZ : Z.Warmed39 (s.setVm T4.vm).vm := State.Warmed39.trans hZ hSn4.1
  have hown : (s.setVm T4.vm).vm.findClass "java/lang/String" = some m.cls := by rw [show (s.setVm T4.vm).vm = T4.vm from rfl, hSn4.1.alike.findClass]; exact hown
  obtain ⟨rfl, Nq4, t4, kb4, K4, Ex4, Co4, Va4, Ar4⟩ := hQ4
  have Nf4 := Fr.app Nf0 Nq4
  have Z5 : n0 ≤ T4.heap.size := Nat.le_trans Z0 K4.1
  have O6 : Old Z n0 T4.heap := O0.keep K4 (allS g_a1 all0)
  have K7 : Keep h0 T4.heap [a1] := (Keep.refl h0 [a1]).trans K4 (allS (Or.inl (List.mem_of_getElem? (i := 0) rfl)) all0)
  have kn8 : ∀ t, own_S p e below T4 (mkF m 9 #[.val (.ref a1), .val (.ref b2)] []) t → Gl t := fun t kt => kn3 t (st4.trans kt)
  obtain ⟨fs, hr, hrun, hended, hRW⟩ := X4.leaveW hSn4 (Nat.le_refl _) (v := none) (fun _ => rfl)
  refine ⟨_, _, hGl _ (kn8 _ (X4.returnOut hx Bd.returns (hb hby d_jdk_42_method_3_9) hr)), hrun, hended, _, _, rfl, ?_, ⟨hRW.1, hRW.2.1, hRW.2.2.1, hRW.2.2.2.mono (by decide) (by decide)⟩⟩
  show QE2 Z a1 b2 k2 h0 n0 _ T4.heap _
  exact ⟨rfl, Nf4, t4, _, K7, Ex4, Co4, Va4, Ar4⟩

theorem d_prog_18_method_1_0 : decode prog_18_method_1_code 0 = .ok (.getstatic 13, 3) := by decide +kernel
theorem d_prog_18_method_1_3 : decode prog_18_method_1_code 3 = .ok (.invokevirtual 17, 3) := by decide +kernel
theorem d_prog_18_method_1_6 : decode prog_18_method_1_code 6 = .ok (.checkcast 18, 3) := by decide +kernel
theorem d_prog_18_method_1_9 : decode prog_18_method_1_code 9 = .ok (.areturn, 1) := by decide +kernel
theorem pn_2 : plainName "com/example/runs_to_scores/runstoscores/formats/GenomicsJudgment" = true := by first | (simp [plainName, overriddenIn]; done) | decide +kernel
theorem ef_rmVal (m : MethodId)  : entryFrame m #[] 0 = mkF m 0 #[] [] := by first | (simp [entryFrame, mkF, argsToLocals, Value.category]; done) | rfl
def QVal (Z : State) (bV : Addr) (kV : ClassId) (g0 : Addr) (y0 : Addr) (ty0 : Addr) (ky0 : ClassId) (g1 : Addr) (y1 : Addr) (ty1 : Addr) (ky1 : ClassId) (g2 : Addr) (y2 : Addr) (ty2 : Addr) (ky2 : ClassId) (h0 : Heap) (n0 : Nat) (v : Option Value) (h : Heap) (L : List Loc) : Prop := ∃ (b : Addr) (kk : ClassId), v = some (.ref b) ∧ Fr n0 L ∧ n0 ≤ b ∧ Keep h0 h [] ∧ Arv Z h b kk (.object "com/example/runs_to_scores/runstoscores/formats/GenomicsJudgment") (3 : Int32) [(.ref g0), (.ref g1), (.ref g2)] .null
set_option maxRecDepth 65536 in
set_option maxHeartbeats 40000000 in
theorem rmVal (l : Launch) (Z : State) (a0 : Array Value) (hw : ∀ d ∈ tables_1, d.before a0 Z = true) (ws : List Jvm.Cond) (bV : Addr) (kV : ClassId) (g0 : Addr) (y0 : Addr) (ty0 : Addr) (ky0 : ClassId) (g1 : Addr) (y1 : Addr) (ty1 : Addr) (ky1 : ClassId) (g2 : Addr) (y2 : Addr) (ty2 : Addr) (ky2 : ClassId) (h0 : Heap) (n0 : Nat) (Z0 : n0 ≤ h0.size) (O0 : Old Z n0 h0) (SV : Sta Z Z.heap "com/example/runs_to_scores/runstoscores/formats/GenomicsJudgment" "$VALUES" "[Lcom/example/runs_to_scores/runstoscores/formats/GenomicsJudgment;" (.ref bV)) (EV : Exa Z Z.heap bV "[Lcom/example/runs_to_scores/runstoscores/formats/GenomicsJudgment;") (VV : Arv Z Z.heap bV kV (.object "com/example/runs_to_scores/runstoscores/formats/GenomicsJudgment") (3 : Int32) [(.ref g0), (.ref g1), (.ref g2)] .null) (Fg0 : Fld Z Z.heap g0 "com/example/runs_to_scores/runstoscores/formats/GenomicsJudgment" "code" "Ljava/lang/String;" (.ref y0)) (Ey0 : Exa Z Z.heap y0 "java/lang/String") (Vy0 : Fld Z Z.heap y0 "java/lang/String" "value" "[B" (.ref ty0)) (Cy0 : Fld Z Z.heap y0 "java/lang/String" "coder" "B" (.int (0 : Int32))) (Ky0 : Arv Z Z.heap ty0 ky0 .byte (1 : Int32) ((([(49 : Int32)] : List Int32).map (fun c => c.toInt8.toInt32)).map Value.int) (.int (0 : Int32))) (Fg1 : Fld Z Z.heap g1 "com/example/runs_to_scores/runstoscores/formats/GenomicsJudgment" "code" "Ljava/lang/String;" (.ref y1)) (Ey1 : Exa Z Z.heap y1 "java/lang/String") (Vy1 : Fld Z Z.heap y1 "java/lang/String" "value" "[B" (.ref ty1)) (Cy1 : Fld Z Z.heap y1 "java/lang/String" "coder" "B" (.int (0 : Int32))) (Ky1 : Arv Z Z.heap ty1 ky1 .byte (1 : Int32) ((([(50 : Int32)] : List Int32).map (fun c => c.toInt8.toInt32)).map Value.int) (.int (0 : Int32))) (Fg2 : Fld Z Z.heap g2 "com/example/runs_to_scores/runstoscores/formats/GenomicsJudgment" "code" "Ljava/lang/String;" (.ref y2)) (Ey2 : Exa Z Z.heap y2 "java/lang/String") (Vy2 : Fld Z Z.heap y2 "java/lang/String" "value" "[B" (.ref ty2)) (Cy2 : Fld Z Z.heap y2 "java/lang/String" "coder" "B" (.int (0 : Int32))) (Ky2 : Arv Z Z.heap ty2 ky2 .byte (1 : Int32) ((([(51 : Int32)] : List Int32).map (fun c => c.toInt8.toInt32)).map Value.int) (.int (0 : Int32))) :
    MetFree l (⟨"com/example/runs_to_scores/runstoscores/formats/GenomicsJudgment", "values", "()[Lcom/example/runs_to_scores/runstoscores/formats/GenomicsJudgment;"⟩ : MethodName) (head1 (Jvm.Cond.code (⟨"com/example/runs_to_scores/runstoscores/formats/GenomicsJudgment", "values", "()[Lcom/example/runs_to_scores/runstoscores/formats/GenomicsJudgment;"⟩ : MethodName) prog_18_method_1_code 0 (some (.array (.object "com/example/runs_to_scores/runstoscores/formats/GenomicsJudgment"))) :: ws) ({ frames := 1, cells := 1, slots := 3, locals := 14 } : Room)) (fun a U => a = #[] ∧ Z.Warmed39 U.vm ∧ U.heap = h0) (fun _ _ _ _ _ => True) (fun _ U o U' => ∃ v L, o = .returned v ∧ QVal Z bV kV g0 y0 ty0 ky0 g1 y1 ty1 ky1 g2 y2 ty2 ky2 h0 n0 v U'.heap L ∧ FrameEnd U o U' L ({ frames := 1, cells := 1, slots := 3, locals := 14 } : Room).cells ({ frames := 1, cells := 1, slots := 3, locals := 14 } : Room).slots) := by
  refine MetFree.of_bodySF (plainFor_of_name pn_2) hisR ?_
  intro p e s m args below meth c s₁ Bd hml0 hP hK
  obtain ⟨rfl, hZ, hh⟩ := hP
  have hx := Bd.exec
  have hby := Bd.bytes
  have hml : c.maxLocals = 0 := hml0
  have hown : s.vm.findClass "com/example/runs_to_scores/runstoscores/formats/GenomicsJudgment" = some m.cls := findClass_of_methodNamed Bd.named
  have hnm := (name_of_methodNamed Bd.named Bd.method).1
  have X0 : Stand p l e ({ frames := 1, cells := 1, slots := 3, locals := 14 } : Room) s m #[] below meth c s₁ [] 0 0 := Stand.of_body Bd
  have e0 : s₁.heap = h0 := by rw [← hh, Bd.state]; rfl
  have Nf0 := Fr.nil n0
  obtain ⟨Gl, hGl, kn0⟩ : ∃ Gl : State → Prop, (∀ t, Gl t → Steps p.tables e below (s₁.setTop (entryFrame m #[] 0)) t) ∧ ∀ t, own_S p e below s₁ (mkF m 0 #[] []) t → Gl t := ⟨fun t => Steps p.tables e below (s₁.setTop (entryFrame m #[] 0)) t, fun _ k => k, fun t k => castTop (ef_rmVal m ) k⟩
  obtain ⟨T1, X1, e1, st1⟩ := getS2 X0 hx hZ hown (host := "") (Or.inl (hw _ (List.mem_of_getElem? (i := 33) rfl))) Via.refl e0 (SV.ext O0.2) (g := (mkF m 0 #[] [])) rfl (hb hby d_prog_18_method_1_0)
  have kn2 : ∀ t, own_S p e below T1 (mkF m 3 #[] [(.ref bV)]) t → Gl t := fun t kt => kn0 t (st1 _ kt)
  obtain ⟨T3, h3, X3, e3, E3, A3, B3, st3⟩ := cloneH X1 hx hZ hown (hw _ (List.mem_of_getElem? (i := 35) rfl)) (hw _ (List.mem_of_getElem? (i := 36) rfl)) (hw _ (List.mem_of_getElem? (i := 40) rfl)) (hw _ (List.mem_of_getElem? (i := 38) rfl)) (hw _ (List.mem_of_getElem? (i := 39) rfl)) (hw _ (List.mem_of_getElem? (i := 41) rfl)) e1 (VV.ext O0.2).arh (EV.ext O0.2) (g := (mkF m 3 #[] [(.ref bV)])) rfl (by rw [hml]; rfl) rfl (hb hby d_prog_18_method_1_3) (by decide) (W := 0) (cap := 3) (by show 2 * 0 + _ ≤ _; exact Nat.le_of_eq rfl) (by decide) (by decide) (by decide) (by decide)
  obtain ⟨b3, g3⟩ : ∃ z, z = h0.size := ⟨_, rfl⟩
  rw [← g3] at A3 B3 st3
  have sz_b3 : h0.size ≤ b3 := Nat.le_trans (Keep.refl h0 []).1 (Nat.le_of_eq g3.symm)
  have g_b3 : n0 ≤ b3 := Nat.le_trans Z0 (Nat.le_of_eq g3.symm)
  have Z4 : n0 ≤ h3.size := Nat.le_trans Z0 E3.1
  have O5 : Old Z n0 h3 := O0.ext E3
  have K6 : Keep h0 h3 [] := (Keep.refl h0 []).ext E3
  have kn7 : ∀ t, own_S p e below T3 (mkF m 6 #[] [(.ref b3)]) t → Gl t := fun t kt => kn2 t (st3 _ kt)
  obtain ⟨T8, X8, e8, st8⟩ := castY X3 hx hZ hown (hw _ (List.mem_of_getElem? (i := 46) rfl)) e3 (Ins.self B3) (g := (mkF m 6 #[] [(.ref b3)])) rfl rfl (hb hby d_prog_18_method_1_6)
  have kn9 : ∀ t, own_S p e below T8 (mkF m 9 #[] [(.ref b3)]) t → Gl t := fun t kt => kn7 t (st8 _ kt)
  obtain ⟨fs, hr, hrun, hended, hW, hsame⟩ := X8.leave (v := some (.ref b3)) (fun h => by rw [Bd.returns] at h; cases h)
  refine ⟨_, _, hGl _ (kn9 _ (by
      show own_S p e below T8 (mkF m 9 #[] [(.ref b3)]) _
      jvm_step X8.here [X8.here.top, hx, (hb hby d_prog_18_method_1_9), X8.method', Bd.returns, Value.isRef, FieldType.isReference]
      first | (intro acts; rw [hr _ acts rfl rfl rfl]) | rw [hr _ _ rfl rfl rfl]
      exact Steps.refl _)), hrun, hended, _, _, rfl, ?_, ⟨_, rfl⟩, hW, hsame.mono (by decide) (by decide)⟩
  show QVal Z bV kV g0 y0 ty0 ky0 g1 y1 ty1 ky1 g2 y2 ty2 ky2 h0 n0 _ T8.heap _
  rw [e8]
  exact ⟨b3, kV, rfl, Nf0, g_b3, K6, A3⟩

theorem d_prog_18_method_5_0 : decode prog_18_method_5_code 0 = .ok (.invokestatic 36, 3) := by decide +kernel
theorem d_prog_18_method_5_3 : decode prog_18_method_5_code 3 = .ok (.astore_n 1, 1) := by decide +kernel
theorem d_prog_18_method_5_4 : decode prog_18_method_5_code 4 = .ok (.aload_n 1, 1) := by decide +kernel
theorem d_prog_18_method_5_5 : decode prog_18_method_5_code 5 = .ok (.arraylength, 1) := by decide +kernel
theorem d_prog_18_method_5_6 : decode prog_18_method_5_code 6 = .ok (.istore_n 2, 1) := by decide +kernel
theorem d_prog_18_method_5_7 : decode prog_18_method_5_code 7 = .ok (.iconst 0, 1) := by decide +kernel
theorem d_prog_18_method_5_8 : decode prog_18_method_5_code 8 = .ok (.istore_n 3, 1) := by decide +kernel
theorem d_prog_18_method_5_9 : decode prog_18_method_5_code 9 = .ok (.iload_n 3, 1) := by decide +kernel
theorem d_prog_18_method_5_10 : decode prog_18_method_5_code 10 = .ok (.iload_n 2, 1) := by decide +kernel
theorem d_prog_18_method_5_11 : decode prog_18_method_5_code 11 = .ok (.if_icmp .ge 29, 3) := by decide +kernel
theorem d_prog_18_method_5_14 : decode prog_18_method_5_code 14 = .ok (.aload_n 1, 1) := by decide +kernel
theorem d_prog_18_method_5_15 : decode prog_18_method_5_code 15 = .ok (.iload_n 3, 1) := by decide +kernel
theorem d_prog_18_method_5_16 : decode prog_18_method_5_code 16 = .ok (.aaload, 1) := by decide +kernel
theorem d_prog_18_method_5_17 : decode prog_18_method_5_code 17 = .ok (.astore 4, 2) := by decide +kernel
theorem d_prog_18_method_5_19 : decode prog_18_method_5_code 19 = .ok (.aload 4, 2) := by decide +kernel
theorem d_prog_18_method_5_21 : decode prog_18_method_5_code 21 = .ok (.getfield 32, 3) := by decide +kernel
theorem d_prog_18_method_5_24 : decode prog_18_method_5_code 24 = .ok (.aload_n 0, 1) := by decide +kernel
theorem d_prog_18_method_5_25 : decode prog_18_method_5_code 25 = .ok (.invokevirtual 40, 3) := by decide +kernel
theorem d_prog_18_method_5_28 : decode prog_18_method_5_code 28 = .ok (.ifCond .eq 6, 3) := by decide +kernel
theorem d_prog_18_method_5_31 : decode prog_18_method_5_code 31 = .ok (.aload 4, 2) := by decide +kernel
theorem d_prog_18_method_5_33 : decode prog_18_method_5_code 33 = .ok (.areturn, 1) := by decide +kernel
theorem pd_1 : parseMethodDescriptor "()[Lcom/example/runs_to_scores/runstoscores/formats/GenomicsJudgment;" = some ⟨[], some (.array (.object "com/example/runs_to_scores/runstoscores/formats/GenomicsJudgment"))⟩ := by decide +kernel
theorem pd_2 : parseMethodDescriptor "(Ljava/lang/Object;)Z" = some ⟨[(.object "java/lang/Object")], some .boolean⟩ := by decide +kernel
theorem ef_rmFind0 (m : MethodId) (x0 : Addr) : entryFrame m #[(.ref x0)] 5 = mkF m 0 #[.val (.ref x0), .unset, .unset, .unset, .unset] [] := by first | (simp [entryFrame, mkF, argsToLocals, Value.category]; done) | rfl
def QFind0 (Z : State) (x1 : Addr) (t1 : Addr) (k1 : ClassId) (cs : List Int32) (N1 : Int32) (vs : List Value) (bV : Addr) (kV : ClassId) (g0 : Addr) (y0 : Addr) (ty0 : Addr) (ky0 : ClassId) (g1 : Addr) (y1 : Addr) (ty1 : Addr) (ky1 : ClassId) (g2 : Addr) (y2 : Addr) (ty2 : Addr) (ky2 : ClassId) (G1 : Int32) (h0 : Heap) (n0 : Nat) (v : Option Value) (h : Heap) (L : List Loc) : Prop := v = some (.ref g0) ∧ Fr n0 L ∧ Keep h0 h []
set_option maxRecDepth 65536 in
set_option maxHeartbeats 40000000 in
theorem rmFind0 (l : Launch) (Z : State) (a0 : Array Value) (hw : ∀ d ∈ tables_1, d.before a0 Z = true) (ws : List Jvm.Cond) (x1 : Addr) (t1 : Addr) (k1 : ClassId) (cs : List Int32) (N1 : Int32) (vs : List Value) (bV : Addr) (kV : ClassId) (g0 : Addr) (y0 : Addr) (ty0 : Addr) (ky0 : ClassId) (g1 : Addr) (y1 : Addr) (ty1 : Addr) (ky1 : ClassId) (g2 : Addr) (y2 : Addr) (ty2 : Addr) (ky2 : ClassId) (G1 : Int32) (h0 : Heap) (n0 : Nat) (Z0 : n0 ≤ h0.size) (E_x1 : Exa Z h0 x1 "java/lang/String") (V_x1 : Fld Z h0 x1 "java/lang/String" "value" "[B" (.ref t1)) (C_x1 : Fld Z h0 x1 "java/lang/String" "coder" "B" (.int (0 : Int32))) (K_x1 : Arv Z h0 t1 k1 .byte N1 vs (.int (0 : Int32))) (hcd : StrChars.Road.CodA cs 0 N1 vs) (hbd : ∀ x ∈ cs, ¬ x < 0 ∧ ¬ (65535 : Int32) < x) (hlen : cs.length ≤ 4000) (O0 : Old Z n0 h0) (O2 : Sta Z Z.heap "java/lang/String" "COMPACT_STRINGS" "Z" (.int G1)) (P5 : ¬ (G1 = (0 : Int32))) (SV : Sta Z Z.heap "com/example/runs_to_scores/runstoscores/formats/GenomicsJudgment" "$VALUES" "[Lcom/example/runs_to_scores/runstoscores/formats/GenomicsJudgment;" (.ref bV)) (EV : Exa Z Z.heap bV "[Lcom/example/runs_to_scores/runstoscores/formats/GenomicsJudgment;") (VV : Arv Z Z.heap bV kV (.object "com/example/runs_to_scores/runstoscores/formats/GenomicsJudgment") (3 : Int32) [(.ref g0), (.ref g1), (.ref g2)] .null) (Fg0 : Fld Z Z.heap g0 "com/example/runs_to_scores/runstoscores/formats/GenomicsJudgment" "code" "Ljava/lang/String;" (.ref y0)) (Ey0 : Exa Z Z.heap y0 "java/lang/String") (Vy0 : Fld Z Z.heap y0 "java/lang/String" "value" "[B" (.ref ty0)) (Cy0 : Fld Z Z.heap y0 "java/lang/String" "coder" "B" (.int (0 : Int32))) (Ky0 : Arv Z Z.heap ty0 ky0 .byte (1 : Int32) ((([(49 : Int32)] : List Int32).map (fun c => c.toInt8.toInt32)).map Value.int) (.int (0 : Int32))) (Fg1 : Fld Z Z.heap g1 "com/example/runs_to_scores/runstoscores/formats/GenomicsJudgment" "code" "Ljava/lang/String;" (.ref y1)) (Ey1 : Exa Z Z.heap y1 "java/lang/String") (Vy1 : Fld Z Z.heap y1 "java/lang/String" "value" "[B" (.ref ty1)) (Cy1 : Fld Z Z.heap y1 "java/lang/String" "coder" "B" (.int (0 : Int32))) (Ky1 : Arv Z Z.heap ty1 ky1 .byte (1 : Int32) ((([(50 : Int32)] : List Int32).map (fun c => c.toInt8.toInt32)).map Value.int) (.int (0 : Int32))) (Fg2 : Fld Z Z.heap g2 "com/example/runs_to_scores/runstoscores/formats/GenomicsJudgment" "code" "Ljava/lang/String;" (.ref y2)) (Ey2 : Exa Z Z.heap y2 "java/lang/String") (Vy2 : Fld Z Z.heap y2 "java/lang/String" "value" "[B" (.ref ty2)) (Cy2 : Fld Z Z.heap y2 "java/lang/String" "coder" "B" (.int (0 : Int32))) (Ky2 : Arv Z Z.heap ty2 ky2 .byte (1 : Int32) ((([(51 : Int32)] : List Int32).map (fun c => c.toInt8.toInt32)).map Value.int) (.int (0 : Int32))) (q0 : ([(49 : Int32)] : List Int32) = cs) :
    MetFree l (⟨"com/example/runs_to_scores/runstoscores/formats/GenomicsJudgment", "coded", "(Ljava/lang/String;)Lcom/example/runs_to_scores/runstoscores/formats/GenomicsJudgment;"⟩ : MethodName) (head1 (Jvm.Cond.code (⟨"com/example/runs_to_scores/runstoscores/formats/GenomicsJudgment", "coded", "(Ljava/lang/String;)Lcom/example/runs_to_scores/runstoscores/formats/GenomicsJudgment;"⟩ : MethodName) prog_18_method_5_code 5 (some (.object "com/example/runs_to_scores/runstoscores/formats/GenomicsJudgment")) :: ws) ({ frames := 2, cells := 1, slots := 3, locals := 28 } : Room)) (fun a U => a = #[(.ref x1)] ∧ Z.Warmed39 U.vm ∧ U.heap = h0) (fun _ _ _ _ _ => True) (fun _ U o U' => ∃ v L, o = .returned v ∧ QFind0 Z x1 t1 k1 cs N1 vs bV kV g0 y0 ty0 ky0 g1 y1 ty1 ky1 g2 y2 ty2 ky2 G1 h0 n0 v U'.heap L ∧ FrameEnd U o U' L ({ frames := 2, cells := 1, slots := 3, locals := 28 } : Room).cells ({ frames := 2, cells := 1, slots := 3, locals := 28 } : Room).slots) := by
  refine MetFree.of_bodySF (plainFor_of_name pn_2) hisR ?_
  intro p e s m args below meth c s₁ Bd hml0 hP hK
  obtain ⟨rfl, hZ, hh⟩ := hP
  have hx := Bd.exec
  have hby := Bd.bytes
  have hml : c.maxLocals = 5 := hml0
  have hown : s.vm.findClass "com/example/runs_to_scores/runstoscores/formats/GenomicsJudgment" = some m.cls := findClass_of_methodNamed Bd.named
  have hnm := (name_of_methodNamed Bd.named Bd.method).1
  have X0 : Stand p l e ({ frames := 2, cells := 1, slots := 3, locals := 28 } : Room) s m #[(.ref x1)] below meth c s₁ [] 0 0 := Stand.of_body Bd
  have e0 : s₁.heap = h0 := by rw [← hh, Bd.state]; rfl
  have Nf0 := Fr.nil n0
  obtain ⟨Gl, hGl, kn0⟩ : ∃ Gl : State → Prop, (∀ t, Gl t → Steps p.tables e below (s₁.setTop (entryFrame m #[(.ref x1)] 5)) t) ∧ ∀ t, own_S p e below s₁ (mkF m 0 #[.val (.ref x1), .unset, .unset, .unset, .unset] []) t → Gl t := ⟨fun t => Steps p.tables e below (s₁.setTop (entryFrame m #[(.ref x1)] 5)) t, fun _ k => k, fun t k => castTop (ef_rmFind0 m x1) k⟩
  obtain ⟨_, _, ⟨T1, L1, cc1, ss1⟩, -, X1, ⟨Lc1, hQ1, l1, y1, z1⟩, st1⟩ := Jvm.LawKit.callS X0 hx (y := (⟨"com/example/runs_to_scores/runstoscores/formats/GenomicsJudgment", "values", "()[Lcom/example/runs_to_scores/runstoscores/formats/GenomicsJudgment;"⟩ : MethodName)) hown (mvT hZ (hw _ (List.mem_of_getElem? (i := 30) rfl))) (mvT hZ (hw _ (List.mem_of_getElem? (i := 31) rfl))) (mvT hZ (hw _ (List.mem_of_getElem? (i := 28) rfl))) (mvT hZ (hw _ (List.mem_of_getElem? (i := 32) rfl))) (by decide) (backOf (W := 0) (rmVal l Z a0 hw []  bV kV g0 y0 ty0 ky0 g1 y1 ty1 ky1 g2 y2 ty2 ky2 h0 n0 Z0 O0 SV EV VV Fg0 Ey0 Vy0 Cy0 Ky0 Fg1 Ey1 Vy1 Cy1 Ky1 Fg2 Ey2 Vy2 Cy2 Ky2) hZ (hw _ (List.mem_of_getElem? (i := 32) rfl)) (hw _ (List.mem_of_getElem? (i := 28) rfl)) (by decide) (by decide)) (g := (mkF m 0 #[.val (.ref x1), .unset, .unset, .unset, .unset] [])) rfl (by rw [hml]; rfl) (argsL := []) (rest := []) (lenOf pd_1 rfl) rfl (by show 2 * 0 + _ ≤ _; exact Nat.le_of_eq rfl) (hb hby d_prog_18_method_5_0) (fun _ _ => ⟨rfl, e0, (by decide : 0 + 1 ≤ _), (by decide : 0 + 3 ≤ _)⟩)
  dsimp only [Pt.U, Pt.locs, Pt.cells, Pt.slots] at X1 l1 y1 z1 st1 hQ1
  subst l1 y1 z1
  obtain ⟨b1, kk1, rfl, Nq1, g_b1, K1, V1⟩ := hQ1
  have Nf1 := Fr.app Nf0 Nq1
  have Z2 : n0 ≤ T1.heap.size := Nat.le_trans Z0 K1.1
  have O3 : Old Z n0 T1.heap := O0.keep K1 all0
  have K4 : Keep h0 T1.heap [] := (Keep.refl h0 []).trans K1 (all0)
  have kn5 : ∀ t, own_S p e below T1 (mkF m 3 #[.val (.ref x1), .unset, .unset, .unset, .unset] [(.ref b1)]) t → Gl t := fun t kt => kn0 t (st1 _ kt)
  have kn6 : ∀ t, own_S p e below T1 (mkF m 5 #[.val (.ref x1), .val (.ref b1), .unset, .unset, .unset] [(.ref b1)]) t → Gl t := fun t kt => kn5 t (by
    show own_S p e below T1 (mkF m 3 #[.val (.ref x1), .unset, .unset, .unset, .unset] [(.ref b1)]) _
    refine XS.astoreN X1.here hx rfl (hb hby d_prog_18_method_5_3) rfl rfl (l' := #[.val (.ref x1), .val (.ref b1), .unset, .unset, .unset]) rfl ?_
    show own_S p e below T1 (mkF m 4 #[.val (.ref x1), .val (.ref b1), .unset, .unset, .unset] []) _
    refine XS.aloadN X1.here hx rfl (hb hby d_prog_18_method_5_4) rfl rfl ?_
    exact kt)
  obtain ⟨cl7, Ar7, -, Sz7, Ng7, -, -⟩ := id V1
  have kn8 : ∀ t, own_S p e below T1 (mkF m 16 #[.val (.ref x1), .val (.ref b1), .val (.int (3 : Int32)), .val (.int (0 : Int32)), .unset] [(.int (0 : Int32)), (.ref b1)]) t → Gl t := fun t kt => kn6 t (by
    show own_S p e below T1 (mkF m 5 #[.val (.ref x1), .val (.ref b1), .unset, .unset, .unset] [(.ref b1)]) _
    refine X1.arraylength hx Ar7.1 (State.isArrayOf_alike hZ.alike Ar7.2.1) (g := (mkF m 5 #[.val (.ref x1), .val (.ref b1), .unset, .unset, .unset] [(.ref b1)])) rfl rfl (hb hby d_prog_18_method_5_5) _ ?_
    rw [len_of Sz7 Ng7]
    show own_S p e below T1 (mkF m 6 #[.val (.ref x1), .val (.ref b1), .unset, .unset, .unset] [(.int (3 : Int32))]) _
    refine XS.istoreN X1.here hx rfl (hb hby d_prog_18_method_5_6) rfl (l' := #[.val (.ref x1), .val (.ref b1), .val (.int (3 : Int32)), .unset, .unset]) rfl ?_
    show own_S p e below T1 (mkF m 7 #[.val (.ref x1), .val (.ref b1), .val (.int (3 : Int32)), .unset, .unset] []) _
    refine XS.iconst X1.here hx rfl (hb hby d_prog_18_method_5_7) ?_
    show own_S p e below T1 (mkF m 8 #[.val (.ref x1), .val (.ref b1), .val (.int (3 : Int32)), .unset, .unset] [(.int (0 : Int32))]) _
    refine XS.istoreN X1.here hx rfl (hb hby d_prog_18_method_5_8) rfl (l' := #[.val (.ref x1), .val (.ref b1), .val (.int (3 : Int32)), .val (.int (0 : Int32)), .unset]) rfl ?_
    show own_S p e below T1 (mkF m 9 #[.val (.ref x1), .val (.ref b1), .val (.int (3 : Int32)), .val (.int (0 : Int32)), .unset] []) _
    refine XS.iloadN X1.here hx rfl (hb hby d_prog_18_method_5_9) rfl ?_
    show own_S p e below T1 (mkF m 10 #[.val (.ref x1), .val (.ref b1), .val (.int (3 : Int32)), .val (.int (0 : Int32)), .unset] [(.int (0 : Int32))]) _
    refine XS.iloadN X1.here hx rfl (hb hby d_prog_18_method_5_10) rfl ?_
    show own_S p e below T1 (mkF m 11 #[.val (.ref x1), .val (.ref b1), .val (.int (3 : Int32)), .val (.int (0 : Int32)), .unset] [(.int (3 : Int32)), (.int (0 : Int32))]) _
    refine XS.icmpNo X1.here hx rfl (hb hby d_prog_18_method_5_11) rfl (tlt (by decide : (0 : Int32) < (3 : Int32))).2.1 ?_
    show own_S p e below T1 (mkF m 14 #[.val (.ref x1), .val (.ref b1), .val (.int (3 : Int32)), .val (.int (0 : Int32)), .unset] []) _
    refine XS.aloadN X1.here hx rfl (hb hby d_prog_18_method_5_14) rfl rfl ?_
    show own_S p e below T1 (mkF m 15 #[.val (.ref x1), .val (.ref b1), .val (.int (3 : Int32)), .val (.int (0 : Int32)), .unset] [(.ref b1)]) _
    refine XS.iloadN X1.here hx rfl (hb hby d_prog_18_method_5_15) rfl ?_
    exact kt)
  obtain ⟨cl9, Ar9, q9, Sz9, Ng9, Hs9, Gs9⟩ := id V1
  have hin9 : ¬ ((0 : Int32) < 0 ∨ cl9.slots.size ≤ ((0 : Int32)).toNatClampNeg) := inb_of Sz9 ⟨by decide, by decide⟩
  have hat9 : cl9.slots[((0 : Int32)).toNatClampNeg]? = some (.ref g0) := Hs9.at hin9 rfl
  have kn10 : ∀ t, own_S p e below T1 (mkF m 21 #[.val (.ref x1), .val (.ref b1), .val (.int (3 : Int32)), .val (.int (0 : Int32)), .val (.ref g0)] [(.ref g0)]) t → Gl t := fun t kt => kn8 t (by
    show own_S p e below T1 (mkF m 16 #[.val (.ref x1), .val (.ref b1), .val (.int (3 : Int32)), .val (.int (0 : Int32)), .unset] [(.int (0 : Int32)), (.ref b1)]) _
    refine X1.aaload hx (j := (0 : Int32)) (v := (.ref g0)) Ar9.1 (State.isArrayOf_alike hZ.alike Ar9.2.1) rfl Ar9.2.2 hin9 hat9 (g := (mkF m 16 #[.val (.ref x1), .val (.ref b1), .val (.int (3 : Int32)), .val (.int (0 : Int32)), .unset] [(.int (0 : Int32)), (.ref b1)])) rfl rfl (hb hby d_prog_18_method_5_16) _ ?_
    show own_S p e below T1 (mkF m 17 #[.val (.ref x1), .val (.ref b1), .val (.int (3 : Int32)), .val (.int (0 : Int32)), .unset] [(.ref g0)]) _
    refine XS.astore X1.here hx rfl (hb hby d_prog_18_method_5_17) rfl rfl (l' := #[.val (.ref x1), .val (.ref b1), .val (.int (3 : Int32)), .val (.int (0 : Int32)), .val (.ref g0)]) rfl ?_
    show own_S p e below T1 (mkF m 19 #[.val (.ref x1), .val (.ref b1), .val (.int (3 : Int32)), .val (.int (0 : Int32)), .val (.ref g0)] []) _
    refine XS.aload X1.here hx rfl (hb hby d_prog_18_method_5_19) rfl rfl ?_
    exact kt)
  obtain ⟨T11, X11, e11, st11⟩ := getF X1 hx hZ hown (host := "") (Or.inl (hw _ (List.mem_of_getElem? (i := 48) rfl))) Via.refl rfl (Fg0.ext O3.2) (g := (mkF m 21 #[.val (.ref x1), .val (.ref b1), .val (.int (3 : Int32)), .val (.int (0 : Int32)), .val (.ref g0)] [(.ref g0)])) rfl rfl (hb hby d_prog_18_method_5_21)
  have kn12 : ∀ t, own_S p e below T11 (mkF m 24 #[.val (.ref x1), .val (.ref b1), .val (.int (3 : Int32)), .val (.int (0 : Int32)), .val (.ref g0)] [(.ref y0)]) t → Gl t := fun t kt => kn10 t (st11 _ kt)
  have kn13 : ∀ t, own_S p e below T11 (mkF m 25 #[.val (.ref x1), .val (.ref b1), .val (.int (3 : Int32)), .val (.int (0 : Int32)), .val (.ref g0)] [(.ref x1), (.ref y0)]) t → Gl t := fun t kt => kn12 t (by
    show own_S p e below T11 (mkF m 24 #[.val (.ref x1), .val (.ref b1), .val (.int (3 : Int32)), .val (.int (0 : Int32)), .val (.ref g0)] [(.ref y0)]) _
    refine XS.aloadN X11.here hx rfl (hb hby d_prog_18_method_5_24) rfl rfl ?_
    exact kt)
  have heq : ∀ d ∈ StrChars.Road.wordsEq, d.before a0 Z = true := fun d hd => hw d ((by decide +kernel : ∀ d ∈ StrChars.Road.wordsEq, d ∈ tables_1) d hd)
  have hp_y0 : ∀ c ∈ ([(49 : Int32)] : List Int32), ¬ c < 0 ∧ ¬ (255 : Int32) < c := by decide
  have hcd_y0 : StrChars.Road.CodA ([(49 : Int32)] : List Int32) 0 (1 : Int32) ((([(49 : Int32)] : List Int32).map (fun c => c.toInt8.toInt32)).map Value.int) := StrChars.Road.codOf (n := 1) rfl (fun x hx => (hp_y0 x hx).2)
  have hbd_y0 : ∀ x ∈ ([(49 : Int32)] : List Int32), ¬ x < 0 ∧ ¬ (65535 : Int32) < x := own_up _ hp_y0
  have f15 := (E_x1.keep K1)
  have f16 := (V_x1.keep K1 nin0)
  have f17 := (C_x1.keep K1 nin0)
  have f18 := (K_x1.keep K1 nin0)
  obtain ⟨cq14, kq14, qa14, qb14, qc14⟩ := isOf hZ e11 (Ey0.ext O3.2)
  obtain ⟨_, _, ⟨T14, L14, cc14, ss14⟩, -, X14, ⟨Lc14, hQ14, l14, y14, z14⟩, st14⟩ := X11.virtualBack hx (y := (⟨"java/lang/String", "equals", "(Ljava/lang/Object;)Z"⟩ : MethodName)) (z := (⟨"java/lang/String", "equals", "(Ljava/lang/Object;)Z"⟩ : MethodName)) hown (mvT hZ (hw _ (List.mem_of_getElem? (i := 50) rfl))) (mvT hZ (hw _ (List.mem_of_getElem? (i := 51) rfl))) (notFace_of_selects (args := #[]) (mvT hZ (hw _ (List.mem_of_getElem? (i := 53) rfl)))) (mvT hZ (hw _ (List.mem_of_getElem? (i := 53) rfl))) (mvT hZ (hw _ (List.mem_of_getElem? (i := 52) rfl))) (by decide) (StrChars.Road.eqW (W := 0) hZ heq (kI := 4) (hw _ (List.mem_of_getElem? (i := 6) rfl)) (Ey0.ext O3.2) (Vy0.ext O3.2) (Cy0.ext O3.2) (Ky0.ext O3.2) hcd_y0 hbd_y0 (Nat.le_of_ble_eq_true rfl) f15 f16 f17 f18 hcd hbd hlen (O2.ext O3.2) P5 (by decide) (by decide)) qa14 qc14 (g := (mkF m 25 #[.val (.ref x1), .val (.ref b1), .val (.int (3 : Int32)), .val (.int (0 : Int32)), .val (.ref g0)] [(.ref x1), (.ref y0)])) rfl (by rw [hml]; rfl) (Steps.refl _) (argsL := [(.ref x1)]) (rest := []) (lenOf pd_2 rfl) rfl (by show 2 * 0 + _ ≤ _; exact Nat.le_of_eq rfl) (hb hby d_prog_18_method_5_25) (fun _ _ => ⟨rfl, e11, (by decide : 1 + 0 ≤ _), (by decide : 3 + 0 ≤ _)⟩)
  dsimp only [Pt.U, Pt.locs, Pt.cells, Pt.slots] at X14 l14 y14 z14 st14 hQ14
  subst l14 y14 z14
  obtain ⟨hd14, rfl, eq14⟩ := hQ14
  have Nf14 := Fr.app Nf1 (Fr.nil n0)
  rcases hd14 with ⟨rfl, hq14⟩ | ⟨rfl, hq14⟩
  · have kn19 : ∀ t, own_S p e below T14 (mkF m 28 #[.val (.ref x1), .val (.ref b1), .val (.int (3 : Int32)), .val (.int (0 : Int32)), .val (.ref g0)] [(.int (1 : Int32))]) t → Gl t := fun t kt => kn13 t (st14.trans kt)
    have kn20 : ∀ t, own_S p e below T14 (mkF m 33 #[.val (.ref x1), .val (.ref b1), .val (.int (3 : Int32)), .val (.int (0 : Int32)), .val (.ref g0)] [(.ref g0)]) t → Gl t := fun t kt => kn19 t (by
      show own_S p e below T14 (mkF m 28 #[.val (.ref x1), .val (.ref b1), .val (.int (3 : Int32)), .val (.int (0 : Int32)), .val (.ref g0)] [(.int (1 : Int32))]) _
      refine XS.ifNo X14.here hx rfl (hb hby d_prog_18_method_5_28) rfl ((if0 _ _).trans (feq (by decide : ¬ ((1 : Int32) = (0 : Int32)))).1) ?_
      show own_S p e below T14 (mkF m 31 #[.val (.ref x1), .val (.ref b1), .val (.int (3 : Int32)), .val (.int (0 : Int32)), .val (.ref g0)] []) _
      refine XS.aload X14.here hx rfl (hb hby d_prog_18_method_5_31) rfl rfl ?_
      exact kt)
    obtain ⟨fs, hr, hrun, hended, hW, hsame⟩ := X14.leave (v := some (.ref g0)) (fun h => by rw [Bd.returns] at h; cases h)
    refine ⟨_, _, hGl _ (kn20 _ (by
        show own_S p e below T14 (mkF m 33 #[.val (.ref x1), .val (.ref b1), .val (.int (3 : Int32)), .val (.int (0 : Int32)), .val (.ref g0)] [(.ref g0)]) _
        jvm_step X14.here [X14.here.top, hx, (hb hby d_prog_18_method_5_33), X14.method', Bd.returns, Value.isRef, FieldType.isReference]
        first | (intro acts; rw [hr _ acts rfl rfl rfl]) | rw [hr _ _ rfl rfl rfl]
        exact Steps.refl _)), hrun, hended, _, _, rfl, ?_, ⟨_, rfl⟩, hW, hsame.mono (by decide) (by decide)⟩
    show QFind0 Z x1 t1 k1 cs N1 vs bV kV g0 y0 ty0 ky0 g1 y1 ty1 ky1 g2 y2 ty2 ky2 G1 h0 n0 _ T14.heap _
    rw [eq14]
    exact ⟨rfl, Nf14, K4⟩
  · exact absurd q0 hq14

theorem d_prog_18_method_5_34 : decode prog_18_method_5_code 34 = .ok (.iinc 3 1, 3) := by decide +kernel
theorem d_prog_18_method_5_37 : decode prog_18_method_5_code 37 = .ok (.goto (-28), 3) := by decide +kernel
theorem ef_rmFind1 (m : MethodId) (x0 : Addr) : entryFrame m #[(.ref x0)] 5 = mkF m 0 #[.val (.ref x0), .unset, .unset, .unset, .unset] [] := by first | (simp [entryFrame, mkF, argsToLocals, Value.category]; done) | rfl
def QFind1 (Z : State) (x1 : Addr) (t1 : Addr) (k1 : ClassId) (cs : List Int32) (N1 : Int32) (vs : List Value) (bV : Addr) (kV : ClassId) (g0 : Addr) (y0 : Addr) (ty0 : Addr) (ky0 : ClassId) (g1 : Addr) (y1 : Addr) (ty1 : Addr) (ky1 : ClassId) (g2 : Addr) (y2 : Addr) (ty2 : Addr) (ky2 : ClassId) (G1 : Int32) (h0 : Heap) (n0 : Nat) (v : Option Value) (h : Heap) (L : List Loc) : Prop := v = some (.ref g1) ∧ Fr n0 L ∧ Keep h0 h []
set_option maxRecDepth 65536 in
set_option maxHeartbeats 40000000 in
theorem rmFind1 (l : Launch) (Z : State) (a0 : Array Value) (hw : ∀ d ∈ tables_1, d.before a0 Z = true) (ws : List Jvm.Cond) (x1 : Addr) (t1 : Addr) (k1 : ClassId) (cs : List Int32) (N1 : Int32) (vs : List Value) (bV : Addr) (kV : ClassId) (g0 : Addr) (y0 : Addr) (ty0 : Addr) (ky0 : ClassId) (g1 : Addr) (y1 : Addr) (ty1 : Addr) (ky1 : ClassId) (g2 : Addr) (y2 : Addr) (ty2 : Addr) (ky2 : ClassId) (G1 : Int32) (h0 : Heap) (n0 : Nat) (Z0 : n0 ≤ h0.size) (E_x1 : Exa Z h0 x1 "java/lang/String") (V_x1 : Fld Z h0 x1 "java/lang/String" "value" "[B" (.ref t1)) (C_x1 : Fld Z h0 x1 "java/lang/String" "coder" "B" (.int (0 : Int32))) (K_x1 : Arv Z h0 t1 k1 .byte N1 vs (.int (0 : Int32))) (hcd : StrChars.Road.CodA cs 0 N1 vs) (hbd : ∀ x ∈ cs, ¬ x < 0 ∧ ¬ (65535 : Int32) < x) (hlen : cs.length ≤ 4000) (O0 : Old Z n0 h0) (O2 : Sta Z Z.heap "java/lang/String" "COMPACT_STRINGS" "Z" (.int G1)) (P5 : ¬ (G1 = (0 : Int32))) (SV : Sta Z Z.heap "com/example/runs_to_scores/runstoscores/formats/GenomicsJudgment" "$VALUES" "[Lcom/example/runs_to_scores/runstoscores/formats/GenomicsJudgment;" (.ref bV)) (EV : Exa Z Z.heap bV "[Lcom/example/runs_to_scores/runstoscores/formats/GenomicsJudgment;") (VV : Arv Z Z.heap bV kV (.object "com/example/runs_to_scores/runstoscores/formats/GenomicsJudgment") (3 : Int32) [(.ref g0), (.ref g1), (.ref g2)] .null) (Fg0 : Fld Z Z.heap g0 "com/example/runs_to_scores/runstoscores/formats/GenomicsJudgment" "code" "Ljava/lang/String;" (.ref y0)) (Ey0 : Exa Z Z.heap y0 "java/lang/String") (Vy0 : Fld Z Z.heap y0 "java/lang/String" "value" "[B" (.ref ty0)) (Cy0 : Fld Z Z.heap y0 "java/lang/String" "coder" "B" (.int (0 : Int32))) (Ky0 : Arv Z Z.heap ty0 ky0 .byte (1 : Int32) ((([(49 : Int32)] : List Int32).map (fun c => c.toInt8.toInt32)).map Value.int) (.int (0 : Int32))) (Fg1 : Fld Z Z.heap g1 "com/example/runs_to_scores/runstoscores/formats/GenomicsJudgment" "code" "Ljava/lang/String;" (.ref y1)) (Ey1 : Exa Z Z.heap y1 "java/lang/String") (Vy1 : Fld Z Z.heap y1 "java/lang/String" "value" "[B" (.ref ty1)) (Cy1 : Fld Z Z.heap y1 "java/lang/String" "coder" "B" (.int (0 : Int32))) (Ky1 : Arv Z Z.heap ty1 ky1 .byte (1 : Int32) ((([(50 : Int32)] : List Int32).map (fun c => c.toInt8.toInt32)).map Value.int) (.int (0 : Int32))) (Fg2 : Fld Z Z.heap g2 "com/example/runs_to_scores/runstoscores/formats/GenomicsJudgment" "code" "Ljava/lang/String;" (.ref y2)) (Ey2 : Exa Z Z.heap y2 "java/lang/String") (Vy2 : Fld Z Z.heap y2 "java/lang/String" "value" "[B" (.ref ty2)) (Cy2 : Fld Z Z.heap y2 "java/lang/String" "coder" "B" (.int (0 : Int32))) (Ky2 : Arv Z Z.heap ty2 ky2 .byte (1 : Int32) ((([(51 : Int32)] : List Int32).map (fun c => c.toInt8.toInt32)).map Value.int) (.int (0 : Int32))) (q0 : ¬ ([(49 : Int32)] : List Int32) = cs) (q1 : ([(50 : Int32)] : List Int32) = cs) :
    MetFree l (⟨"com/example/runs_to_scores/runstoscores/formats/GenomicsJudgment", "coded", "(Ljava/lang/String;)Lcom/example/runs_to_scores/runstoscores/formats/GenomicsJudgment;"⟩ : MethodName) (head1 (Jvm.Cond.code (⟨"com/example/runs_to_scores/runstoscores/formats/GenomicsJudgment", "coded", "(Ljava/lang/String;)Lcom/example/runs_to_scores/runstoscores/formats/GenomicsJudgment;"⟩ : MethodName) prog_18_method_5_code 5 (some (.object "com/example/runs_to_scores/runstoscores/formats/GenomicsJudgment")) :: ws) ({ frames := 2, cells := 1, slots := 3, locals := 28 } : Room)) (fun a U => a = #[(.ref x1)] ∧ Z.Warmed39 U.vm ∧ U.heap = h0) (fun _ _ _ _ _ => True) (fun _ U o U' => ∃ v L, o = .returned v ∧ QFind1 Z x1 t1 k1 cs N1 vs bV kV g0 y0 ty0 ky0 g1 y1 ty1 ky1 g2 y2 ty2 ky2 G1 h0 n0 v U'.heap L ∧ FrameEnd U o U' L ({ frames := 2, cells := 1, slots := 3, locals := 28 } : Room).cells ({ frames := 2, cells := 1, slots := 3, locals := 28 } : Room).slots) := by
  refine MetFree.of_bodySF (plainFor_of_name pn_2) hisR ?_
  intro p e s m args below meth c s₁ Bd hml0 hP hK
  obtain ⟨rfl, hZ, hh⟩ := hP
  have hx := Bd.exec
  have hby := Bd.bytes
  have hml : c.maxLocals = 5 := hml0
  have hown : s.vm.findClass "com/example/runs_to_scores/runstoscores/formats/GenomicsJudgment" = some m.cls := findClass_of_methodNamed Bd.named
  have hnm := (name_of_methodNamed Bd.named Bd.method).1
  have X0 : Stand p l e ({ frames := 2, cells := 1, slots := 3, locals := 28 } : Room) s m #[(.ref x1)] below meth c s₁ [] 0 0 := Stand.of_body Bd
  have e0 : s₁.heap = h0 := by rw [← hh, Bd.state]; rfl
  have Nf0 := Fr.nil n0
  obtain ⟨Gl, hGl, kn0⟩ : ∃ Gl : State → Prop, (∀ t, Gl t → Steps p.tables e below (s₁.setTop (entryFrame m #[(.ref x1)] 5)) t) ∧ ∀ t, own_S p e below s₁ (mkF m 0 #[.val (.ref x1), .unset, .unset, .unset, .unset] []) t → Gl t := ⟨fun t => Steps p.tables e below (s₁.setTop (entryFrame m #[(.ref x1)] 5)) t, fun _ k => k, fun t k => castTop (ef_rmFind1 m x1) k⟩
  obtain ⟨_, _, ⟨T1, L1, cc1, ss1⟩, -, X1, ⟨Lc1, hQ1, l1, y1, z1⟩, st1⟩ := Jvm.LawKit.callS X0 hx (y := (⟨"com/example/runs_to_scores/runstoscores/formats/GenomicsJudgment", "values", "()[Lcom/example/runs_to_scores/runstoscores/formats/GenomicsJudgment;"⟩ : MethodName)) hown (mvT hZ (hw _ (List.mem_of_getElem? (i := 30) rfl))) (mvT hZ (hw _ (List.mem_of_getElem? (i := 31) rfl))) (mvT hZ (hw _ (List.mem_of_getElem? (i := 28) rfl))) (mvT hZ (hw _ (List.mem_of_getElem? (i := 32) rfl))) (by decide) (backOf (W := 0) (rmVal l Z a0 hw []  bV kV g0 y0 ty0 ky0 g1 y1 ty1 ky1 g2 y2 ty2 ky2 h0 n0 Z0 O0 SV EV VV Fg0 Ey0 Vy0 Cy0 Ky0 Fg1 Ey1 Vy1 Cy1 Ky1 Fg2 Ey2 Vy2 Cy2 Ky2) hZ (hw _ (List.mem_of_getElem? (i := 32) rfl)) (hw _ (List.mem_of_getElem? (i := 28) rfl)) (by decide) (by decide)) (g := (mkF m 0 #[.val (.ref x1), .unset, .unset, .unset, .unset] [])) rfl (by rw [hml]; rfl) (argsL := []) (rest := []) (lenOf pd_1 rfl) rfl (by show 2 * 0 + _ ≤ _; exact Nat.le_of_eq rfl) (hb hby d_prog_18_method_5_0) (fun _ _ => ⟨rfl, e0, (by decide : 0 + 1 ≤ _), (by decide : 0 + 3 ≤ _)⟩)
  dsimp only [Pt.U, Pt.locs, Pt.cells, Pt.slots] at X1 l1 y1 z1 st1 hQ1
  subst l1 y1 z1
  obtain ⟨b1, kk1, rfl, Nq1, g_b1, K1, V1⟩ := hQ1
  have Nf1 := Fr.app Nf0 Nq1
  have Z2 : n0 ≤ T1.heap.size := Nat.le_trans Z0 K1.1
  have O3 : Old Z n0 T1.heap := O0.keep K1 all0
  have K4 : Keep h0 T1.heap [] := (Keep.refl h0 []).trans K1 (all0)
  have kn5 : ∀ t, own_S p e below T1 (mkF m 3 #[.val (.ref x1), .unset, .unset, .unset, .unset] [(.ref b1)]) t → Gl t := fun t kt => kn0 t (st1 _ kt)
  have kn6 : ∀ t, own_S p e below T1 (mkF m 5 #[.val (.ref x1), .val (.ref b1), .unset, .unset, .unset] [(.ref b1)]) t → Gl t := fun t kt => kn5 t (by
    show own_S p e below T1 (mkF m 3 #[.val (.ref x1), .unset, .unset, .unset, .unset] [(.ref b1)]) _
    refine XS.astoreN X1.here hx rfl (hb hby d_prog_18_method_5_3) rfl rfl (l' := #[.val (.ref x1), .val (.ref b1), .unset, .unset, .unset]) rfl ?_
    show own_S p e below T1 (mkF m 4 #[.val (.ref x1), .val (.ref b1), .unset, .unset, .unset] []) _
    refine XS.aloadN X1.here hx rfl (hb hby d_prog_18_method_5_4) rfl rfl ?_
    exact kt)
  obtain ⟨cl7, Ar7, -, Sz7, Ng7, -, -⟩ := id V1
  have kn8 : ∀ t, own_S p e below T1 (mkF m 16 #[.val (.ref x1), .val (.ref b1), .val (.int (3 : Int32)), .val (.int (0 : Int32)), .unset] [(.int (0 : Int32)), (.ref b1)]) t → Gl t := fun t kt => kn6 t (by
    show own_S p e below T1 (mkF m 5 #[.val (.ref x1), .val (.ref b1), .unset, .unset, .unset] [(.ref b1)]) _
    refine X1.arraylength hx Ar7.1 (State.isArrayOf_alike hZ.alike Ar7.2.1) (g := (mkF m 5 #[.val (.ref x1), .val (.ref b1), .unset, .unset, .unset] [(.ref b1)])) rfl rfl (hb hby d_prog_18_method_5_5) _ ?_
    rw [len_of Sz7 Ng7]
    show own_S p e below T1 (mkF m 6 #[.val (.ref x1), .val (.ref b1), .unset, .unset, .unset] [(.int (3 : Int32))]) _
    refine XS.istoreN X1.here hx rfl (hb hby d_prog_18_method_5_6) rfl (l' := #[.val (.ref x1), .val (.ref b1), .val (.int (3 : Int32)), .unset, .unset]) rfl ?_
    show own_S p e below T1 (mkF m 7 #[.val (.ref x1), .val (.ref b1), .val (.int (3 : Int32)), .unset, .unset] []) _
    refine XS.iconst X1.here hx rfl (hb hby d_prog_18_method_5_7) ?_
    show own_S p e below T1 (mkF m 8 #[.val (.ref x1), .val (.ref b1), .val (.int (3 : Int32)), .unset, .unset] [(.int (0 : Int32))]) _
    refine XS.istoreN X1.here hx rfl (hb hby d_prog_18_method_5_8) rfl (l' := #[.val (.ref x1), .val (.ref b1), .val (.int (3 : Int32)), .val (.int (0 : Int32)), .unset]) rfl ?_
    show own_S p e below T1 (mkF m 9 #[.val (.ref x1), .val (.ref b1), .val (.int (3 : Int32)), .val (.int (0 : Int32)), .unset] []) _
    refine XS.iloadN X1.here hx rfl (hb hby d_prog_18_method_5_9) rfl ?_
    show own_S p e below T1 (mkF m 10 #[.val (.ref x1), .val (.ref b1), .val (.int (3 : Int32)), .val (.int (0 : Int32)), .unset] [(.int (0 : Int32))]) _
    refine XS.iloadN X1.here hx rfl (hb hby d_prog_18_method_5_10) rfl ?_
    show own_S p e below T1 (mkF m 11 #[.val (.ref x1), .val (.ref b1), .val (.int (3 : Int32)), .val (.int (0 : Int32)), .unset] [(.int (3 : Int32)), (.int (0 : Int32))]) _
    refine XS.icmpNo X1.here hx rfl (hb hby d_prog_18_method_5_11) rfl (tlt (by decide : (0 : Int32) < (3 : Int32))).2.1 ?_
    show own_S p e below T1 (mkF m 14 #[.val (.ref x1), .val (.ref b1), .val (.int (3 : Int32)), .val (.int (0 : Int32)), .unset] []) _
    refine XS.aloadN X1.here hx rfl (hb hby d_prog_18_method_5_14) rfl rfl ?_
    show own_S p e below T1 (mkF m 15 #[.val (.ref x1), .val (.ref b1), .val (.int (3 : Int32)), .val (.int (0 : Int32)), .unset] [(.ref b1)]) _
    refine XS.iloadN X1.here hx rfl (hb hby d_prog_18_method_5_15) rfl ?_
    exact kt)
  obtain ⟨cl9, Ar9, q9, Sz9, Ng9, Hs9, Gs9⟩ := id V1
  have hin9 : ¬ ((0 : Int32) < 0 ∨ cl9.slots.size ≤ ((0 : Int32)).toNatClampNeg) := inb_of Sz9 ⟨by decide, by decide⟩
  have hat9 : cl9.slots[((0 : Int32)).toNatClampNeg]? = some (.ref g0) := Hs9.at hin9 rfl
  have kn10 : ∀ t, own_S p e below T1 (mkF m 21 #[.val (.ref x1), .val (.ref b1), .val (.int (3 : Int32)), .val (.int (0 : Int32)), .val (.ref g0)] [(.ref g0)]) t → Gl t := fun t kt => kn8 t (by
    show own_S p e below T1 (mkF m 16 #[.val (.ref x1), .val (.ref b1), .val (.int (3 : Int32)), .val (.int (0 : Int32)), .unset] [(.int (0 : Int32)), (.ref b1)]) _
    refine X1.aaload hx (j := (0 : Int32)) (v := (.ref g0)) Ar9.1 (State.isArrayOf_alike hZ.alike Ar9.2.1) rfl Ar9.2.2 hin9 hat9 (g := (mkF m 16 #[.val (.ref x1), .val (.ref b1), .val (.int (3 : Int32)), .val (.int (0 : Int32)), .unset] [(.int (0 : Int32)), (.ref b1)])) rfl rfl (hb hby d_prog_18_method_5_16) _ ?_
    show own_S p e below T1 (mkF m 17 #[.val (.ref x1), .val (.ref b1), .val (.int (3 : Int32)), .val (.int (0 : Int32)), .unset] [(.ref g0)]) _
    refine XS.astore X1.here hx rfl (hb hby d_prog_18_method_5_17) rfl rfl (l' := #[.val (.ref x1), .val (.ref b1), .val (.int (3 : Int32)), .val (.int (0 : Int32)), .val (.ref g0)]) rfl ?_
    show own_S p e below T1 (mkF m 19 #[.val (.ref x1), .val (.ref b1), .val (.int (3 : Int32)), .val (.int (0 : Int32)), .val (.ref g0)] []) _
    refine XS.aload X1.here hx rfl (hb hby d_prog_18_method_5_19) rfl rfl ?_
    exact kt)
  obtain ⟨T11, X11, e11, st11⟩ := getF X1 hx hZ hown (host := "") (Or.inl (hw _ (List.mem_of_getElem? (i := 48) rfl))) Via.refl rfl (Fg0.ext O3.2) (g := (mkF m 21 #[.val (.ref x1), .val (.ref b1), .val (.int (3 : Int32)), .val (.int (0 : Int32)), .val (.ref g0)] [(.ref g0)])) rfl rfl (hb hby d_prog_18_method_5_21)
  have kn12 : ∀ t, own_S p e below T11 (mkF m 24 #[.val (.ref x1), .val (.ref b1), .val (.int (3 : Int32)), .val (.int (0 : Int32)), .val (.ref g0)] [(.ref y0)]) t → Gl t := fun t kt => kn10 t (st11 _ kt)
  have kn13 : ∀ t, own_S p e below T11 (mkF m 25 #[.val (.ref x1), .val (.ref b1), .val (.int (3 : Int32)), .val (.int (0 : Int32)), .val (.ref g0)] [(.ref x1), (.ref y0)]) t → Gl t := fun t kt => kn12 t (by
    show own_S p e below T11 (mkF m 24 #[.val (.ref x1), .val (.ref b1), .val (.int (3 : Int32)), .val (.int (0 : Int32)), .val (.ref g0)] [(.ref y0)]) _
    refine XS.aloadN X11.here hx rfl (hb hby d_prog_18_method_5_24) rfl rfl ?_
    exact kt)
  have heq : ∀ d ∈ StrChars.Road.wordsEq, d.before a0 Z = true := fun d hd => hw d ((by decide +kernel : ∀ d ∈ StrChars.Road.wordsEq, d ∈ tables_1) d hd)
  have hp_y0 : ∀ c ∈ ([(49 : Int32)] : List Int32), ¬ c < 0 ∧ ¬ (255 : Int32) < c := by decide
  have hcd_y0 : StrChars.Road.CodA ([(49 : Int32)] : List Int32) 0 (1 : Int32) ((([(49 : Int32)] : List Int32).map (fun c => c.toInt8.toInt32)).map Value.int) := StrChars.Road.codOf (n := 1) rfl (fun x hx => (hp_y0 x hx).2)
  have hbd_y0 : ∀ x ∈ ([(49 : Int32)] : List Int32), ¬ x < 0 ∧ ¬ (65535 : Int32) < x := own_up _ hp_y0
  have f15 := (E_x1.keep K1)
  have f16 := (V_x1.keep K1 nin0)
  have f17 := (C_x1.keep K1 nin0)
  have f18 := (K_x1.keep K1 nin0)
  obtain ⟨cq14, kq14, qa14, qb14, qc14⟩ := isOf hZ e11 (Ey0.ext O3.2)
  obtain ⟨_, _, ⟨T14, L14, cc14, ss14⟩, -, X14, ⟨Lc14, hQ14, l14, y14, z14⟩, st14⟩ := X11.virtualBack hx (y := (⟨"java/lang/String", "equals", "(Ljava/lang/Object;)Z"⟩ : MethodName)) (z := (⟨"java/lang/String", "equals", "(Ljava/lang/Object;)Z"⟩ : MethodName)) hown (mvT hZ (hw _ (List.mem_of_getElem? (i := 50) rfl))) (mvT hZ (hw _ (List.mem_of_getElem? (i := 51) rfl))) (notFace_of_selects (args := #[]) (mvT hZ (hw _ (List.mem_of_getElem? (i := 53) rfl)))) (mvT hZ (hw _ (List.mem_of_getElem? (i := 53) rfl))) (mvT hZ (hw _ (List.mem_of_getElem? (i := 52) rfl))) (by decide) (StrChars.Road.eqW (W := 0) hZ heq (kI := 4) (hw _ (List.mem_of_getElem? (i := 6) rfl)) (Ey0.ext O3.2) (Vy0.ext O3.2) (Cy0.ext O3.2) (Ky0.ext O3.2) hcd_y0 hbd_y0 (Nat.le_of_ble_eq_true rfl) f15 f16 f17 f18 hcd hbd hlen (O2.ext O3.2) P5 (by decide) (by decide)) qa14 qc14 (g := (mkF m 25 #[.val (.ref x1), .val (.ref b1), .val (.int (3 : Int32)), .val (.int (0 : Int32)), .val (.ref g0)] [(.ref x1), (.ref y0)])) rfl (by rw [hml]; rfl) (Steps.refl _) (argsL := [(.ref x1)]) (rest := []) (lenOf pd_2 rfl) rfl (by show 2 * 0 + _ ≤ _; exact Nat.le_of_eq rfl) (hb hby d_prog_18_method_5_25) (fun _ _ => ⟨rfl, e11, (by decide : 1 + 0 ≤ _), (by decide : 3 + 0 ≤ _)⟩)
  dsimp only [Pt.U, Pt.locs, Pt.cells, Pt.slots] at X14 l14 y14 z14 st14 hQ14
  subst l14 y14 z14
  obtain ⟨hd14, rfl, eq14⟩ := hQ14
  have Nf14 := Fr.app Nf1 (Fr.nil n0)
  rcases hd14 with ⟨rfl, hq14⟩ | ⟨rfl, hq14⟩
  · exact absurd hq14 q0
  · have kn19 : ∀ t, own_S p e below T14 (mkF m 28 #[.val (.ref x1), .val (.ref b1), .val (.int (3 : Int32)), .val (.int (0 : Int32)), .val (.ref g0)] [(.int (0 : Int32))]) t → Gl t := fun t kt => kn13 t (st14.trans kt)
    have kn20 : ∀ t, own_S p e below T14 (mkF m 16 #[.val (.ref x1), .val (.ref b1), .val (.int (3 : Int32)), .val (.int (1 : Int32)), .val (.ref g0)] [(.int (1 : Int32)), (.ref b1)]) t → Gl t := fun t kt => kn19 t (by
      show own_S p e below T14 (mkF m 28 #[.val (.ref x1), .val (.ref b1), .val (.int (3 : Int32)), .val (.int (0 : Int32)), .val (.ref g0)] [(.int (0 : Int32))]) _
      refine XS.ifYes X14.here hx rfl (pc0 := 28) (pc' := 34) rfl (hb hby d_prog_18_method_5_28) rfl ((if0 _ _).trans (teq (by decide : (0 : Int32) = (0 : Int32))).1) (by decide) (by decide) ?_
      show own_S p e below T14 (mkF m 34 #[.val (.ref x1), .val (.ref b1), .val (.int (3 : Int32)), .val (.int (0 : Int32)), .val (.ref g0)] []) _
      refine XS.iinc X14.here hx rfl (hb hby d_prog_18_method_5_34) rfl (l' := #[.val (.ref x1), .val (.ref b1), .val (.int (3 : Int32)), .val (.int ((0 : Int32) + (1 : Int32))), .val (.ref g0)]) rfl ?_
      rw [(by decide : ((0 : Int32) + (1 : Int32)) = (1 : Int32))]
      show own_S p e below T14 (mkF m 37 #[.val (.ref x1), .val (.ref b1), .val (.int (3 : Int32)), .val (.int (1 : Int32)), .val (.ref g0)] []) _
      refine XS.goto X14.here hx rfl (pc0 := 37) (pc' := 9) rfl (hb hby d_prog_18_method_5_37) (by decide) (by decide) ?_
      show own_S p e below T14 (mkF m 9 #[.val (.ref x1), .val (.ref b1), .val (.int (3 : Int32)), .val (.int (1 : Int32)), .val (.ref g0)] []) _
      refine XS.iloadN X14.here hx rfl (hb hby d_prog_18_method_5_9) rfl ?_
      show own_S p e below T14 (mkF m 10 #[.val (.ref x1), .val (.ref b1), .val (.int (3 : Int32)), .val (.int (1 : Int32)), .val (.ref g0)] [(.int (1 : Int32))]) _
      refine XS.iloadN X14.here hx rfl (hb hby d_prog_18_method_5_10) rfl ?_
      show own_S p e below T14 (mkF m 11 #[.val (.ref x1), .val (.ref b1), .val (.int (3 : Int32)), .val (.int (1 : Int32)), .val (.ref g0)] [(.int (3 : Int32)), (.int (1 : Int32))]) _
      refine XS.icmpNo X14.here hx rfl (hb hby d_prog_18_method_5_11) rfl (tlt (by decide : (1 : Int32) < (3 : Int32))).2.1 ?_
      show own_S p e below T14 (mkF m 14 #[.val (.ref x1), .val (.ref b1), .val (.int (3 : Int32)), .val (.int (1 : Int32)), .val (.ref g0)] []) _
      refine XS.aloadN X14.here hx rfl (hb hby d_prog_18_method_5_14) rfl rfl ?_
      show own_S p e below T14 (mkF m 15 #[.val (.ref x1), .val (.ref b1), .val (.int (3 : Int32)), .val (.int (1 : Int32)), .val (.ref g0)] [(.ref b1)]) _
      refine XS.iloadN X14.here hx rfl (hb hby d_prog_18_method_5_15) rfl ?_
      exact kt)
    obtain ⟨cl21, Ar21, q21, Sz21, Ng21, Hs21, Gs21⟩ := id V1
    have hin21 : ¬ ((1 : Int32) < 0 ∨ cl21.slots.size ≤ ((1 : Int32)).toNatClampNeg) := inb_of Sz21 ⟨by decide, by decide⟩
    have hat21 : cl21.slots[((1 : Int32)).toNatClampNeg]? = some (.ref g1) := Hs21.at hin21 rfl
    have kn22 : ∀ t, own_S p e below T14 (mkF m 21 #[.val (.ref x1), .val (.ref b1), .val (.int (3 : Int32)), .val (.int (1 : Int32)), .val (.ref g1)] [(.ref g1)]) t → Gl t := fun t kt => kn20 t (by
      show own_S p e below T14 (mkF m 16 #[.val (.ref x1), .val (.ref b1), .val (.int (3 : Int32)), .val (.int (1 : Int32)), .val (.ref g0)] [(.int (1 : Int32)), (.ref b1)]) _
      refine X14.aaload hx (j := (1 : Int32)) (v := (.ref g1)) (by rw [eq14]; exact Ar21.1) (State.isArrayOf_alike hZ.alike Ar21.2.1) rfl Ar21.2.2 hin21 hat21 (g := (mkF m 16 #[.val (.ref x1), .val (.ref b1), .val (.int (3 : Int32)), .val (.int (1 : Int32)), .val (.ref g0)] [(.int (1 : Int32)), (.ref b1)])) rfl rfl (hb hby d_prog_18_method_5_16) _ ?_
      show own_S p e below T14 (mkF m 17 #[.val (.ref x1), .val (.ref b1), .val (.int (3 : Int32)), .val (.int (1 : Int32)), .val (.ref g0)] [(.ref g1)]) _
      refine XS.astore X14.here hx rfl (hb hby d_prog_18_method_5_17) rfl rfl (l' := #[.val (.ref x1), .val (.ref b1), .val (.int (3 : Int32)), .val (.int (1 : Int32)), .val (.ref g1)]) rfl ?_
      show own_S p e below T14 (mkF m 19 #[.val (.ref x1), .val (.ref b1), .val (.int (3 : Int32)), .val (.int (1 : Int32)), .val (.ref g1)] []) _
      refine XS.aload X14.here hx rfl (hb hby d_prog_18_method_5_19) rfl rfl ?_
      exact kt)
    obtain ⟨T23, X23, e23, st23⟩ := getF X14 hx hZ hown (host := "") (Or.inl (hw _ (List.mem_of_getElem? (i := 48) rfl))) Via.refl eq14 (Fg1.ext O3.2) (g := (mkF m 21 #[.val (.ref x1), .val (.ref b1), .val (.int (3 : Int32)), .val (.int (1 : Int32)), .val (.ref g1)] [(.ref g1)])) rfl rfl (hb hby d_prog_18_method_5_21)
    have kn24 : ∀ t, own_S p e below T23 (mkF m 24 #[.val (.ref x1), .val (.ref b1), .val (.int (3 : Int32)), .val (.int (1 : Int32)), .val (.ref g1)] [(.ref y1)]) t → Gl t := fun t kt => kn22 t (st23 _ kt)
    have kn25 : ∀ t, own_S p e below T23 (mkF m 25 #[.val (.ref x1), .val (.ref b1), .val (.int (3 : Int32)), .val (.int (1 : Int32)), .val (.ref g1)] [(.ref x1), (.ref y1)]) t → Gl t := fun t kt => kn24 t (by
      show own_S p e below T23 (mkF m 24 #[.val (.ref x1), .val (.ref b1), .val (.int (3 : Int32)), .val (.int (1 : Int32)), .val (.ref g1)] [(.ref y1)]) _
      refine XS.aloadN X23.here hx rfl (hb hby d_prog_18_method_5_24) rfl rfl ?_
      exact kt)
    have hp_y1 : ∀ c ∈ ([(50 : Int32)] : List Int32), ¬ c < 0 ∧ ¬ (255 : Int32) < c := by decide
    have hcd_y1 : StrChars.Road.CodA ([(50 : Int32)] : List Int32) 0 (1 : Int32) ((([(50 : Int32)] : List Int32).map (fun c => c.toInt8.toInt32)).map Value.int) := StrChars.Road.codOf (n := 1) rfl (fun x hx => (hp_y1 x hx).2)
    have hbd_y1 : ∀ x ∈ ([(50 : Int32)] : List Int32), ¬ x < 0 ∧ ¬ (65535 : Int32) < x := own_up _ hp_y1
    obtain ⟨cq26, kq26, qa26, qb26, qc26⟩ := isOf hZ e23 (Ey1.ext O3.2)
    obtain ⟨_, _, ⟨T26, L26, cc26, ss26⟩, -, X26, ⟨Lc26, hQ26, l26, y26, z26⟩, st26⟩ := X23.virtualBack hx (y := (⟨"java/lang/String", "equals", "(Ljava/lang/Object;)Z"⟩ : MethodName)) (z := (⟨"java/lang/String", "equals", "(Ljava/lang/Object;)Z"⟩ : MethodName)) hown (mvT hZ (hw _ (List.mem_of_getElem? (i := 50) rfl))) (mvT hZ (hw _ (List.mem_of_getElem? (i := 51) rfl))) (notFace_of_selects (args := #[]) (mvT hZ (hw _ (List.mem_of_getElem? (i := 53) rfl)))) (mvT hZ (hw _ (List.mem_of_getElem? (i := 53) rfl))) (mvT hZ (hw _ (List.mem_of_getElem? (i := 52) rfl))) (by decide) (StrChars.Road.eqW (W := 0) hZ heq (kI := 4) (hw _ (List.mem_of_getElem? (i := 6) rfl)) (Ey1.ext O3.2) (Vy1.ext O3.2) (Cy1.ext O3.2) (Ky1.ext O3.2) hcd_y1 hbd_y1 (Nat.le_of_ble_eq_true rfl) f15 f16 f17 f18 hcd hbd hlen (O2.ext O3.2) P5 (by decide) (by decide)) qa26 qc26 (g := (mkF m 25 #[.val (.ref x1), .val (.ref b1), .val (.int (3 : Int32)), .val (.int (1 : Int32)), .val (.ref g1)] [(.ref x1), (.ref y1)])) rfl (by rw [hml]; rfl) (Steps.refl _) (argsL := [(.ref x1)]) (rest := []) (lenOf pd_2 rfl) rfl (by show 2 * 0 + _ ≤ _; exact Nat.le_of_eq rfl) (hb hby d_prog_18_method_5_25) (fun _ _ => ⟨rfl, e23, (by decide : 1 + 0 ≤ _), (by decide : 3 + 0 ≤ _)⟩)
    dsimp only [Pt.U, Pt.locs, Pt.cells, Pt.slots] at X26 l26 y26 z26 st26 hQ26
    subst l26 y26 z26
    obtain ⟨hd26, rfl, eq26⟩ := hQ26
    have Nf26 := Fr.app Nf14 (Fr.nil n0)
    rcases hd26 with ⟨rfl, hq26⟩ | ⟨rfl, hq26⟩
    · have kn27 : ∀ t, own_S p e below T26 (mkF m 28 #[.val (.ref x1), .val (.ref b1), .val (.int (3 : Int32)), .val (.int (1 : Int32)), .val (.ref g1)] [(.int (1 : Int32))]) t → Gl t := fun t kt => kn25 t (st26.trans kt)
      have kn28 : ∀ t, own_S p e below T26 (mkF m 33 #[.val (.ref x1), .val (.ref b1), .val (.int (3 : Int32)), .val (.int (1 : Int32)), .val (.ref g1)] [(.ref g1)]) t → Gl t := fun t kt => kn27 t (by
        show own_S p e below T26 (mkF m 28 #[.val (.ref x1), .val (.ref b1), .val (.int (3 : Int32)), .val (.int (1 : Int32)), .val (.ref g1)] [(.int (1 : Int32))]) _
        refine XS.ifNo X26.here hx rfl (hb hby d_prog_18_method_5_28) rfl ((if0 _ _).trans (feq (by decide : ¬ ((1 : Int32) = (0 : Int32)))).1) ?_
        show own_S p e below T26 (mkF m 31 #[.val (.ref x1), .val (.ref b1), .val (.int (3 : Int32)), .val (.int (1 : Int32)), .val (.ref g1)] []) _
        refine XS.aload X26.here hx rfl (hb hby d_prog_18_method_5_31) rfl rfl ?_
        exact kt)
      obtain ⟨fs, hr, hrun, hended, hW, hsame⟩ := X26.leave (v := some (.ref g1)) (fun h => by rw [Bd.returns] at h; cases h)
      refine ⟨_, _, hGl _ (kn28 _ (by
          show own_S p e below T26 (mkF m 33 #[.val (.ref x1), .val (.ref b1), .val (.int (3 : Int32)), .val (.int (1 : Int32)), .val (.ref g1)] [(.ref g1)]) _
          jvm_step X26.here [X26.here.top, hx, (hb hby d_prog_18_method_5_33), X26.method', Bd.returns, Value.isRef, FieldType.isReference]
          first | (intro acts; rw [hr _ acts rfl rfl rfl]) | rw [hr _ _ rfl rfl rfl]
          exact Steps.refl _)), hrun, hended, _, _, rfl, ?_, ⟨_, rfl⟩, hW, hsame.mono (by decide) (by decide)⟩
      show QFind1 Z x1 t1 k1 cs N1 vs bV kV g0 y0 ty0 ky0 g1 y1 ty1 ky1 g2 y2 ty2 ky2 G1 h0 n0 _ T26.heap _
      rw [eq26]
      exact ⟨rfl, Nf26, K4⟩
    · exact absurd q1 hq26

theorem ef_rmFind2 (m : MethodId) (x0 : Addr) : entryFrame m #[(.ref x0)] 5 = mkF m 0 #[.val (.ref x0), .unset, .unset, .unset, .unset] [] := by first | (simp [entryFrame, mkF, argsToLocals, Value.category]; done) | rfl
def QFind2 (Z : State) (x1 : Addr) (t1 : Addr) (k1 : ClassId) (cs : List Int32) (N1 : Int32) (vs : List Value) (bV : Addr) (kV : ClassId) (g0 : Addr) (y0 : Addr) (ty0 : Addr) (ky0 : ClassId) (g1 : Addr) (y1 : Addr) (ty1 : Addr) (ky1 : ClassId) (g2 : Addr) (y2 : Addr) (ty2 : Addr) (ky2 : ClassId) (G1 : Int32) (h0 : Heap) (n0 : Nat) (v : Option Value) (h : Heap) (L : List Loc) : Prop := v = some (.ref g2) ∧ Fr n0 L ∧ Keep h0 h []
set_option maxRecDepth 65536 in
set_option maxHeartbeats 40000000 in
theorem rmFind2 (l : Launch) (Z : State) (a0 : Array Value) (hw : ∀ d ∈ tables_1, d.before a0 Z = true) (ws : List Jvm.Cond) (x1 : Addr) (t1 : Addr) (k1 : ClassId) (cs : List Int32) (N1 : Int32) (vs : List Value) (bV : Addr) (kV : ClassId) (g0 : Addr) (y0 : Addr) (ty0 : Addr) (ky0 : ClassId) (g1 : Addr) (y1 : Addr) (ty1 : Addr) (ky1 : ClassId) (g2 : Addr) (y2 : Addr) (ty2 : Addr) (ky2 : ClassId) (G1 : Int32) (h0 : Heap) (n0 : Nat) (Z0 : n0 ≤ h0.size) (E_x1 : Exa Z h0 x1 "java/lang/String") (V_x1 : Fld Z h0 x1 "java/lang/String" "value" "[B" (.ref t1)) (C_x1 : Fld Z h0 x1 "java/lang/String" "coder" "B" (.int (0 : Int32))) (K_x1 : Arv Z h0 t1 k1 .byte N1 vs (.int (0 : Int32))) (hcd : StrChars.Road.CodA cs 0 N1 vs) (hbd : ∀ x ∈ cs, ¬ x < 0 ∧ ¬ (65535 : Int32) < x) (hlen : cs.length ≤ 4000) (O0 : Old Z n0 h0) (O2 : Sta Z Z.heap "java/lang/String" "COMPACT_STRINGS" "Z" (.int G1)) (P5 : ¬ (G1 = (0 : Int32))) (SV : Sta Z Z.heap "com/example/runs_to_scores/runstoscores/formats/GenomicsJudgment" "$VALUES" "[Lcom/example/runs_to_scores/runstoscores/formats/GenomicsJudgment;" (.ref bV)) (EV : Exa Z Z.heap bV "[Lcom/example/runs_to_scores/runstoscores/formats/GenomicsJudgment;") (VV : Arv Z Z.heap bV kV (.object "com/example/runs_to_scores/runstoscores/formats/GenomicsJudgment") (3 : Int32) [(.ref g0), (.ref g1), (.ref g2)] .null) (Fg0 : Fld Z Z.heap g0 "com/example/runs_to_scores/runstoscores/formats/GenomicsJudgment" "code" "Ljava/lang/String;" (.ref y0)) (Ey0 : Exa Z Z.heap y0 "java/lang/String") (Vy0 : Fld Z Z.heap y0 "java/lang/String" "value" "[B" (.ref ty0)) (Cy0 : Fld Z Z.heap y0 "java/lang/String" "coder" "B" (.int (0 : Int32))) (Ky0 : Arv Z Z.heap ty0 ky0 .byte (1 : Int32) ((([(49 : Int32)] : List Int32).map (fun c => c.toInt8.toInt32)).map Value.int) (.int (0 : Int32))) (Fg1 : Fld Z Z.heap g1 "com/example/runs_to_scores/runstoscores/formats/GenomicsJudgment" "code" "Ljava/lang/String;" (.ref y1)) (Ey1 : Exa Z Z.heap y1 "java/lang/String") (Vy1 : Fld Z Z.heap y1 "java/lang/String" "value" "[B" (.ref ty1)) (Cy1 : Fld Z Z.heap y1 "java/lang/String" "coder" "B" (.int (0 : Int32))) (Ky1 : Arv Z Z.heap ty1 ky1 .byte (1 : Int32) ((([(50 : Int32)] : List Int32).map (fun c => c.toInt8.toInt32)).map Value.int) (.int (0 : Int32))) (Fg2 : Fld Z Z.heap g2 "com/example/runs_to_scores/runstoscores/formats/GenomicsJudgment" "code" "Ljava/lang/String;" (.ref y2)) (Ey2 : Exa Z Z.heap y2 "java/lang/String") (Vy2 : Fld Z Z.heap y2 "java/lang/String" "value" "[B" (.ref ty2)) (Cy2 : Fld Z Z.heap y2 "java/lang/String" "coder" "B" (.int (0 : Int32))) (Ky2 : Arv Z Z.heap ty2 ky2 .byte (1 : Int32) ((([(51 : Int32)] : List Int32).map (fun c => c.toInt8.toInt32)).map Value.int) (.int (0 : Int32))) (q0 : ¬ ([(49 : Int32)] : List Int32) = cs) (q1 : ¬ ([(50 : Int32)] : List Int32) = cs) (q2 : ([(51 : Int32)] : List Int32) = cs) :
    MetFree l (⟨"com/example/runs_to_scores/runstoscores/formats/GenomicsJudgment", "coded", "(Ljava/lang/String;)Lcom/example/runs_to_scores/runstoscores/formats/GenomicsJudgment;"⟩ : MethodName) (head1 (Jvm.Cond.code (⟨"com/example/runs_to_scores/runstoscores/formats/GenomicsJudgment", "coded", "(Ljava/lang/String;)Lcom/example/runs_to_scores/runstoscores/formats/GenomicsJudgment;"⟩ : MethodName) prog_18_method_5_code 5 (some (.object "com/example/runs_to_scores/runstoscores/formats/GenomicsJudgment")) :: ws) ({ frames := 2, cells := 1, slots := 3, locals := 28 } : Room)) (fun a U => a = #[(.ref x1)] ∧ Z.Warmed39 U.vm ∧ U.heap = h0) (fun _ _ _ _ _ => True) (fun _ U o U' => ∃ v L, o = .returned v ∧ QFind2 Z x1 t1 k1 cs N1 vs bV kV g0 y0 ty0 ky0 g1 y1 ty1 ky1 g2 y2 ty2 ky2 G1 h0 n0 v U'.heap L ∧ FrameEnd U o U' L ({ frames := 2, cells := 1, slots := 3, locals := 28 } : Room).cells ({ frames := 2, cells := 1, slots := 3, locals := 28 } : Room).slots) := by
  refine MetFree.of_bodySF (plainFor_of_name pn_2) hisR ?_
  intro p e s m args below meth c s₁ Bd hml0 hP hK
  obtain ⟨rfl, hZ, hh⟩ := hP
  have hx := Bd.exec
  have hby := Bd.bytes
  have hml : c.maxLocals = 5 := hml0
  have hown : s.vm.findClass "com/example/runs_to_scores/runstoscores/formats/GenomicsJudgment" = some m.cls := findClass_of_methodNamed Bd.named
  have hnm := (name_of_methodNamed Bd.named Bd.method).1
  have X0 : Stand p l e ({ frames := 2, cells := 1, slots := 3, locals := 28 } : Room) s m #[(.ref x1)] below meth c s₁ [] 0 0 := Stand.of_body Bd
  have e0 : s₁.heap = h0 := by rw [← hh, Bd.state]; rfl
  have Nf0 := Fr.nil n0
  obtain ⟨Gl, hGl, kn0⟩ : ∃ Gl : State → Prop, (∀ t, Gl t → Steps p.tables e below (s₁.setTop (entryFrame m #[(.ref x1)] 5)) t) ∧ ∀ t, own_S p e below s₁ (mkF m 0 #[.val (.ref x1), .unset, .unset, .unset, .unset] []) t → Gl t := ⟨fun t => Steps p.tables e below (s₁.setTop (entryFrame m #[(.ref x1)] 5)) t, fun _ k => k, fun t k => castTop (ef_rmFind2 m x1) k⟩
  obtain ⟨_, _, ⟨T1, L1, cc1, ss1⟩, -, X1, ⟨Lc1, hQ1, l1, y1, z1⟩, st1⟩ := Jvm.LawKit.callS X0 hx (y := (⟨"com/example/runs_to_scores/runstoscores/formats/GenomicsJudgment", "values", "()[Lcom/example/runs_to_scores/runstoscores/formats/GenomicsJudgment;"⟩ : MethodName)) hown (mvT hZ (hw _ (List.mem_of_getElem? (i := 30) rfl))) (mvT hZ (hw _ (List.mem_of_getElem? (i := 31) rfl))) (mvT hZ (hw _ (List.mem_of_getElem? (i := 28) rfl))) (mvT hZ (hw _ (List.mem_of_getElem? (i := 32) rfl))) (by decide) (backOf (W := 0) (rmVal l Z a0 hw []  bV kV g0 y0 ty0 ky0 g1 y1 ty1 ky1 g2 y2 ty2 ky2 h0 n0 Z0 O0 SV EV VV Fg0 Ey0 Vy0 Cy0 Ky0 Fg1 Ey1 Vy1 Cy1 Ky1 Fg2 Ey2 Vy2 Cy2 Ky2) hZ (hw _ (List.mem_of_getElem? (i := 32) rfl)) (hw _ (List.mem_of_getElem? (i := 28) rfl)) (by decide) (by decide)) (g := (mkF m 0 #[.val (.ref x1), .unset, .unset, .unset, .unset] [])) rfl (by rw [hml]; rfl) (argsL := []) (rest := []) (lenOf pd_1 rfl) rfl (by show 2 * 0 + _ ≤ _; exact Nat.le_of_eq rfl) (hb hby d_prog_18_method_5_0) (fun _ _ => ⟨rfl, e0, (by decide : 0 + 1 ≤ _), (by decide : 0 + 3 ≤ _)⟩)
  dsimp only [Pt.U, Pt.locs, Pt.cells, Pt.slots] at X1 l1 y1 z1 st1 hQ1
  subst l1 y1 z1
  obtain ⟨b1, kk1, rfl, Nq1, g_b1, K1, V1⟩ := hQ1
  have Nf1 := Fr.app Nf0 Nq1
  have Z2 : n0 ≤ T1.heap.size := Nat.le_trans Z0 K1.1
  have O3 : Old Z n0 T1.heap := O0.keep K1 all0
  have K4 : Keep h0 T1.heap [] := (Keep.refl h0 []).trans K1 (all0)
  have kn5 : ∀ t, own_S p e below T1 (mkF m 3 #[.val (.ref x1), .unset, .unset, .unset, .unset] [(.ref b1)]) t → Gl t := fun t kt => kn0 t (st1 _ kt)
  have kn6 : ∀ t, own_S p e below T1 (mkF m 5 #[.val (.ref x1), .val (.ref b1), .unset, .unset, .unset] [(.ref b1)]) t → Gl t := fun t kt => kn5 t (by
    show own_S p e below T1 (mkF m 3 #[.val (.ref x1), .unset, .unset, .unset, .unset] [(.ref b1)]) _
    refine XS.astoreN X1.here hx rfl (hb hby d_prog_18_method_5_3) rfl rfl (l' := #[.val (.ref x1), .val (.ref b1), .unset, .unset, .unset]) rfl ?_
    show own_S p e below T1 (mkF m 4 #[.val (.ref x1), .val (.ref b1), .unset, .unset, .unset] []) _
    refine XS.aloadN X1.here hx rfl (hb hby d_prog_18_method_5_4) rfl rfl ?_
    exact kt)
  obtain ⟨cl7, Ar7, -, Sz7, Ng7, -, -⟩ := id V1
  have kn8 : ∀ t, own_S p e below T1 (mkF m 16 #[.val (.ref x1), .val (.ref b1), .val (.int (3 : Int32)), .val (.int (0 : Int32)), .unset] [(.int (0 : Int32)), (.ref b1)]) t → Gl t := fun t kt => kn6 t (by
    show own_S p e below T1 (mkF m 5 #[.val (.ref x1), .val (.ref b1), .unset, .unset, .unset] [(.ref b1)]) _
    refine X1.arraylength hx Ar7.1 (State.isArrayOf_alike hZ.alike Ar7.2.1) (g := (mkF m 5 #[.val (.ref x1), .val (.ref b1), .unset, .unset, .unset] [(.ref b1)])) rfl rfl (hb hby d_prog_18_method_5_5) _ ?_
    rw [len_of Sz7 Ng7]
    show own_S p e below T1 (mkF m 6 #[.val (.ref x1), .val (.ref b1), .unset, .unset, .unset] [(.int (3 : Int32))]) _
    refine XS.istoreN X1.here hx rfl (hb hby d_prog_18_method_5_6) rfl (l' := #[.val (.ref x1), .val (.ref b1), .val (.int (3 : Int32)), .unset, .unset]) rfl ?_
    show own_S p e below T1 (mkF m 7 #[.val (.ref x1), .val (.ref b1), .val (.int (3 : Int32)), .unset, .unset] []) _
    refine XS.iconst X1.here hx rfl (hb hby d_prog_18_method_5_7) ?_
    show own_S p e below T1 (mkF m 8 #[.val (.ref x1), .val (.ref b1), .val (.int (3 : Int32)), .unset, .unset] [(.int (0 : Int32))]) _
    refine XS.istoreN X1.here hx rfl (hb hby d_prog_18_method_5_8) rfl (l' := #[.val (.ref x1), .val (.ref b1), .val (.int (3 : Int32)), .val (.int (0 : Int32)), .unset]) rfl ?_
    show own_S p e below T1 (mkF m 9 #[.val (.ref x1), .val (.ref b1), .val (.int (3 : Int32)), .val (.int (0 : Int32)), .unset] []) _
    refine XS.iloadN X1.here hx rfl (hb hby d_prog_18_method_5_9) rfl ?_
    show own_S p e below T1 (mkF m 10 #[.val (.ref x1), .val (.ref b1), .val (.int (3 : Int32)), .val (.int (0 : Int32)), .unset] [(.int (0 : Int32))]) _
    refine XS.iloadN X1.here hx rfl (hb hby d_prog_18_method_5_10) rfl ?_
    show own_S p e below T1 (mkF m 11 #[.val (.ref x1), .val (.ref b1), .val (.int (3 : Int32)), .val (.int (0 : Int32)), .unset] [(.int (3 : Int32)), (.int (0 : Int32))]) _
    refine XS.icmpNo X1.here hx rfl (hb hby d_prog_18_method_5_11) rfl (tlt (by decide : (0 : Int32) < (3 : Int32))).2.1 ?_
    show own_S p e below T1 (mkF m 14 #[.val (.ref x1), .val (.ref b1), .val (.int (3 : Int32)), .val (.int (0 : Int32)), .unset] []) _
    refine XS.aloadN X1.here hx rfl (hb hby d_prog_18_method_5_14) rfl rfl ?_
    show own_S p e below T1 (mkF m 15 #[.val (.ref x1), .val (.ref b1), .val (.int (3 : Int32)), .val (.int (0 : Int32)), .unset] [(.ref b1)]) _
    refine XS.iloadN X1.here hx rfl (hb hby d_prog_18_method_5_15) rfl ?_
    exact kt)
  obtain ⟨cl9, Ar9, q9, Sz9, Ng9, Hs9, Gs9⟩ := id V1
  have hin9 : ¬ ((0 : Int32) < 0 ∨ cl9.slots.size ≤ ((0 : Int32)).toNatClampNeg) := inb_of Sz9 ⟨by decide, by decide⟩
  have hat9 : cl9.slots[((0 : Int32)).toNatClampNeg]? = some (.ref g0) := Hs9.at hin9 rfl
  have kn10 : ∀ t, own_S p e below T1 (mkF m 21 #[.val (.ref x1), .val (.ref b1), .val (.int (3 : Int32)), .val (.int (0 : Int32)), .val (.ref g0)] [(.ref g0)]) t → Gl t := fun t kt => kn8 t (by
    show own_S p e below T1 (mkF m 16 #[.val (.ref x1), .val (.ref b1), .val (.int (3 : Int32)), .val (.int (0 : Int32)), .unset] [(.int (0 : Int32)), (.ref b1)]) _
    refine X1.aaload hx (j := (0 : Int32)) (v := (.ref g0)) Ar9.1 (State.isArrayOf_alike hZ.alike Ar9.2.1) rfl Ar9.2.2 hin9 hat9 (g := (mkF m 16 #[.val (.ref x1), .val (.ref b1), .val (.int (3 : Int32)), .val (.int (0 : Int32)), .unset] [(.int (0 : Int32)), (.ref b1)])) rfl rfl (hb hby d_prog_18_method_5_16) _ ?_
    show own_S p e below T1 (mkF m 17 #[.val (.ref x1), .val (.ref b1), .val (.int (3 : Int32)), .val (.int (0 : Int32)), .unset] [(.ref g0)]) _
    refine XS.astore X1.here hx rfl (hb hby d_prog_18_method_5_17) rfl rfl (l' := #[.val (.ref x1), .val (.ref b1), .val (.int (3 : Int32)), .val (.int (0 : Int32)), .val (.ref g0)]) rfl ?_
    show own_S p e below T1 (mkF m 19 #[.val (.ref x1), .val (.ref b1), .val (.int (3 : Int32)), .val (.int (0 : Int32)), .val (.ref g0)] []) _
    refine XS.aload X1.here hx rfl (hb hby d_prog_18_method_5_19) rfl rfl ?_
    exact kt)
  obtain ⟨T11, X11, e11, st11⟩ := getF X1 hx hZ hown (host := "") (Or.inl (hw _ (List.mem_of_getElem? (i := 48) rfl))) Via.refl rfl (Fg0.ext O3.2) (g := (mkF m 21 #[.val (.ref x1), .val (.ref b1), .val (.int (3 : Int32)), .val (.int (0 : Int32)), .val (.ref g0)] [(.ref g0)])) rfl rfl (hb hby d_prog_18_method_5_21)
  have kn12 : ∀ t, own_S p e below T11 (mkF m 24 #[.val (.ref x1), .val (.ref b1), .val (.int (3 : Int32)), .val (.int (0 : Int32)), .val (.ref g0)] [(.ref y0)]) t → Gl t := fun t kt => kn10 t (st11 _ kt)
  have kn13 : ∀ t, own_S p e below T11 (mkF m 25 #[.val (.ref x1), .val (.ref b1), .val (.int (3 : Int32)), .val (.int (0 : Int32)), .val (.ref g0)] [(.ref x1), (.ref y0)]) t → Gl t := fun t kt => kn12 t (by
    show own_S p e below T11 (mkF m 24 #[.val (.ref x1), .val (.ref b1), .val (.int (3 : Int32)), .val (.int (0 : Int32)), .val (.ref g0)] [(.ref y0)]) _
    refine XS.aloadN X11.here hx rfl (hb hby d_prog_18_method_5_24) rfl rfl ?_
    exact kt)
  have heq : ∀ d ∈ StrChars.Road.wordsEq, d.before a0 Z = true := fun d hd => hw d ((by decide +kernel : ∀ d ∈ StrChars.Road.wordsEq, d ∈ tables_1) d hd)
  have hp_y0 : ∀ c ∈ ([(49 : Int32)] : List Int32), ¬ c < 0 ∧ ¬ (255 : Int32) < c := by decide
  have hcd_y0 : StrChars.Road.CodA ([(49 : Int32)] : List Int32) 0 (1 : Int32) ((([(49 : Int32)] : List Int32).map (fun c => c.toInt8.toInt32)).map Value.int) := StrChars.Road.codOf (n := 1) rfl (fun x hx => (hp_y0 x hx).2)
  have hbd_y0 : ∀ x ∈ ([(49 : Int32)] : List Int32), ¬ x < 0 ∧ ¬ (65535 : Int32) < x := own_up _ hp_y0
  have f15 := (E_x1.keep K1)
  have f16 := (V_x1.keep K1 nin0)
  have f17 := (C_x1.keep K1 nin0)
  have f18 := (K_x1.keep K1 nin0)
  obtain ⟨cq14, kq14, qa14, qb14, qc14⟩ := isOf hZ e11 (Ey0.ext O3.2)
  obtain ⟨_, _, ⟨T14, L14, cc14, ss14⟩, -, X14, ⟨Lc14, hQ14, l14, y14, z14⟩, st14⟩ := X11.virtualBack hx (y := (⟨"java/lang/String", "equals", "(Ljava/lang/Object;)Z"⟩ : MethodName)) (z := (⟨"java/lang/String", "equals", "(Ljava/lang/Object;)Z"⟩ : MethodName)) hown (mvT hZ (hw _ (List.mem_of_getElem? (i := 50) rfl))) (mvT hZ (hw _ (List.mem_of_getElem? (i := 51) rfl))) (notFace_of_selects (args := #[]) (mvT hZ (hw _ (List.mem_of_getElem? (i := 53) rfl)))) (mvT hZ (hw _ (List.mem_of_getElem? (i := 53) rfl))) (mvT hZ (hw _ (List.mem_of_getElem? (i := 52) rfl))) (by decide) (StrChars.Road.eqW (W := 0) hZ heq (kI := 4) (hw _ (List.mem_of_getElem? (i := 6) rfl)) (Ey0.ext O3.2) (Vy0.ext O3.2) (Cy0.ext O3.2) (Ky0.ext O3.2) hcd_y0 hbd_y0 (Nat.le_of_ble_eq_true rfl) f15 f16 f17 f18 hcd hbd hlen (O2.ext O3.2) P5 (by decide) (by decide)) qa14 qc14 (g := (mkF m 25 #[.val (.ref x1), .val (.ref b1), .val (.int (3 : Int32)), .val (.int (0 : Int32)), .val (.ref g0)] [(.ref x1), (.ref y0)])) rfl (by rw [hml]; rfl) (Steps.refl _) (argsL := [(.ref x1)]) (rest := []) (lenOf pd_2 rfl) rfl (by show 2 * 0 + _ ≤ _; exact Nat.le_of_eq rfl) (hb hby d_prog_18_method_5_25) (fun _ _ => ⟨rfl, e11, (by decide : 1 + 0 ≤ _), (by decide : 3 + 0 ≤ _)⟩)
  dsimp only [Pt.U, Pt.locs, Pt.cells, Pt.slots] at X14 l14 y14 z14 st14 hQ14
  subst l14 y14 z14
  obtain ⟨hd14, rfl, eq14⟩ := hQ14
  have Nf14 := Fr.app Nf1 (Fr.nil n0)
  rcases hd14 with ⟨rfl, hq14⟩ | ⟨rfl, hq14⟩
  · exact absurd hq14 q0
  · have kn19 : ∀ t, own_S p e below T14 (mkF m 28 #[.val (.ref x1), .val (.ref b1), .val (.int (3 : Int32)), .val (.int (0 : Int32)), .val (.ref g0)] [(.int (0 : Int32))]) t → Gl t := fun t kt => kn13 t (st14.trans kt)
    have kn20 : ∀ t, own_S p e below T14 (mkF m 16 #[.val (.ref x1), .val (.ref b1), .val (.int (3 : Int32)), .val (.int (1 : Int32)), .val (.ref g0)] [(.int (1 : Int32)), (.ref b1)]) t → Gl t := fun t kt => kn19 t (by
      show own_S p e below T14 (mkF m 28 #[.val (.ref x1), .val (.ref b1), .val (.int (3 : Int32)), .val (.int (0 : Int32)), .val (.ref g0)] [(.int (0 : Int32))]) _
      refine XS.ifYes X14.here hx rfl (pc0 := 28) (pc' := 34) rfl (hb hby d_prog_18_method_5_28) rfl ((if0 _ _).trans (teq (by decide : (0 : Int32) = (0 : Int32))).1) (by decide) (by decide) ?_
      show own_S p e below T14 (mkF m 34 #[.val (.ref x1), .val (.ref b1), .val (.int (3 : Int32)), .val (.int (0 : Int32)), .val (.ref g0)] []) _
      refine XS.iinc X14.here hx rfl (hb hby d_prog_18_method_5_34) rfl (l' := #[.val (.ref x1), .val (.ref b1), .val (.int (3 : Int32)), .val (.int ((0 : Int32) + (1 : Int32))), .val (.ref g0)]) rfl ?_
      rw [(by decide : ((0 : Int32) + (1 : Int32)) = (1 : Int32))]
      show own_S p e below T14 (mkF m 37 #[.val (.ref x1), .val (.ref b1), .val (.int (3 : Int32)), .val (.int (1 : Int32)), .val (.ref g0)] []) _
      refine XS.goto X14.here hx rfl (pc0 := 37) (pc' := 9) rfl (hb hby d_prog_18_method_5_37) (by decide) (by decide) ?_
      show own_S p e below T14 (mkF m 9 #[.val (.ref x1), .val (.ref b1), .val (.int (3 : Int32)), .val (.int (1 : Int32)), .val (.ref g0)] []) _
      refine XS.iloadN X14.here hx rfl (hb hby d_prog_18_method_5_9) rfl ?_
      show own_S p e below T14 (mkF m 10 #[.val (.ref x1), .val (.ref b1), .val (.int (3 : Int32)), .val (.int (1 : Int32)), .val (.ref g0)] [(.int (1 : Int32))]) _
      refine XS.iloadN X14.here hx rfl (hb hby d_prog_18_method_5_10) rfl ?_
      show own_S p e below T14 (mkF m 11 #[.val (.ref x1), .val (.ref b1), .val (.int (3 : Int32)), .val (.int (1 : Int32)), .val (.ref g0)] [(.int (3 : Int32)), (.int (1 : Int32))]) _
      refine XS.icmpNo X14.here hx rfl (hb hby d_prog_18_method_5_11) rfl (tlt (by decide : (1 : Int32) < (3 : Int32))).2.1 ?_
      show own_S p e below T14 (mkF m 14 #[.val (.ref x1), .val (.ref b1), .val (.int (3 : Int32)), .val (.int (1 : Int32)), .val (.ref g0)] []) _
      refine XS.aloadN X14.here hx rfl (hb hby d_prog_18_method_5_14) rfl rfl ?_
      show own_S p e below T14 (mkF m 15 #[.val (.ref x1), .val (.ref b1), .val (.int (3 : Int32)), .val (.int (1 : Int32)), .val (.ref g0)] [(.ref b1)]) _
      refine XS.iloadN X14.here hx rfl (hb hby d_prog_18_method_5_15) rfl ?_
      exact kt)
    obtain ⟨cl21, Ar21, q21, Sz21, Ng21, Hs21, Gs21⟩ := id V1
    have hin21 : ¬ ((1 : Int32) < 0 ∨ cl21.slots.size ≤ ((1 : Int32)).toNatClampNeg) := inb_of Sz21 ⟨by decide, by decide⟩
    have hat21 : cl21.slots[((1 : Int32)).toNatClampNeg]? = some (.ref g1) := Hs21.at hin21 rfl
    have kn22 : ∀ t, own_S p e below T14 (mkF m 21 #[.val (.ref x1), .val (.ref b1), .val (.int (3 : Int32)), .val (.int (1 : Int32)), .val (.ref g1)] [(.ref g1)]) t → Gl t := fun t kt => kn20 t (by
      show own_S p e below T14 (mkF m 16 #[.val (.ref x1), .val (.ref b1), .val (.int (3 : Int32)), .val (.int (1 : Int32)), .val (.ref g0)] [(.int (1 : Int32)), (.ref b1)]) _
      refine X14.aaload hx (j := (1 : Int32)) (v := (.ref g1)) (by rw [eq14]; exact Ar21.1) (State.isArrayOf_alike hZ.alike Ar21.2.1) rfl Ar21.2.2 hin21 hat21 (g := (mkF m 16 #[.val (.ref x1), .val (.ref b1), .val (.int (3 : Int32)), .val (.int (1 : Int32)), .val (.ref g0)] [(.int (1 : Int32)), (.ref b1)])) rfl rfl (hb hby d_prog_18_method_5_16) _ ?_
      show own_S p e below T14 (mkF m 17 #[.val (.ref x1), .val (.ref b1), .val (.int (3 : Int32)), .val (.int (1 : Int32)), .val (.ref g0)] [(.ref g1)]) _
      refine XS.astore X14.here hx rfl (hb hby d_prog_18_method_5_17) rfl rfl (l' := #[.val (.ref x1), .val (.ref b1), .val (.int (3 : Int32)), .val (.int (1 : Int32)), .val (.ref g1)]) rfl ?_
      show own_S p e below T14 (mkF m 19 #[.val (.ref x1), .val (.ref b1), .val (.int (3 : Int32)), .val (.int (1 : Int32)), .val (.ref g1)] []) _
      refine XS.aload X14.here hx rfl (hb hby d_prog_18_method_5_19) rfl rfl ?_
      exact kt)
    obtain ⟨T23, X23, e23, st23⟩ := getF X14 hx hZ hown (host := "") (Or.inl (hw _ (List.mem_of_getElem? (i := 48) rfl))) Via.refl eq14 (Fg1.ext O3.2) (g := (mkF m 21 #[.val (.ref x1), .val (.ref b1), .val (.int (3 : Int32)), .val (.int (1 : Int32)), .val (.ref g1)] [(.ref g1)])) rfl rfl (hb hby d_prog_18_method_5_21)
    have kn24 : ∀ t, own_S p e below T23 (mkF m 24 #[.val (.ref x1), .val (.ref b1), .val (.int (3 : Int32)), .val (.int (1 : Int32)), .val (.ref g1)] [(.ref y1)]) t → Gl t := fun t kt => kn22 t (st23 _ kt)
    have kn25 : ∀ t, own_S p e below T23 (mkF m 25 #[.val (.ref x1), .val (.ref b1), .val (.int (3 : Int32)), .val (.int (1 : Int32)), .val (.ref g1)] [(.ref x1), (.ref y1)]) t → Gl t := fun t kt => kn24 t (by
      show own_S p e below T23 (mkF m 24 #[.val (.ref x1), .val (.ref b1), .val (.int (3 : Int32)), .val (.int (1 : Int32)), .val (.ref g1)] [(.ref y1)]) _
      refine XS.aloadN X23.here hx rfl (hb hby d_prog_18_method_5_24) rfl rfl ?_
      exact kt)
    have hp_y1 : ∀ c ∈ ([(50 : Int32)] : List Int32), ¬ c < 0 ∧ ¬ (255 : Int32) < c := by decide
    have hcd_y1 : StrChars.Road.CodA ([(50 : Int32)] : List Int32) 0 (1 : Int32) ((([(50 : Int32)] : List Int32).map (fun c => c.toInt8.toInt32)).map Value.int) := StrChars.Road.codOf (n := 1) rfl (fun x hx => (hp_y1 x hx).2)
    have hbd_y1 : ∀ x ∈ ([(50 : Int32)] : List Int32), ¬ x < 0 ∧ ¬ (65535 : Int32) < x := own_up _ hp_y1
    obtain ⟨cq26, kq26, qa26, qb26, qc26⟩ := isOf hZ e23 (Ey1.ext O3.2)
    obtain ⟨_, _, ⟨T26, L26, cc26, ss26⟩, -, X26, ⟨Lc26, hQ26, l26, y26, z26⟩, st26⟩ := X23.virtualBack hx (y := (⟨"java/lang/String", "equals", "(Ljava/lang/Object;)Z"⟩ : MethodName)) (z := (⟨"java/lang/String", "equals", "(Ljava/lang/Object;)Z"⟩ : MethodName)) hown (mvT hZ (hw _ (List.mem_of_getElem? (i := 50) rfl))) (mvT hZ (hw _ (List.mem_of_getElem? (i := 51) rfl))) (notFace_of_selects (args := #[]) (mvT hZ (hw _ (List.mem_of_getElem? (i := 53) rfl)))) (mvT hZ (hw _ (List.mem_of_getElem? (i := 53) rfl))) (mvT hZ (hw _ (List.mem_of_getElem? (i := 52) rfl))) (by decide) (StrChars.Road.eqW (W := 0) hZ heq (kI := 4) (hw _ (List.mem_of_getElem? (i := 6) rfl)) (Ey1.ext O3.2) (Vy1.ext O3.2) (Cy1.ext O3.2) (Ky1.ext O3.2) hcd_y1 hbd_y1 (Nat.le_of_ble_eq_true rfl) f15 f16 f17 f18 hcd hbd hlen (O2.ext O3.2) P5 (by decide) (by decide)) qa26 qc26 (g := (mkF m 25 #[.val (.ref x1), .val (.ref b1), .val (.int (3 : Int32)), .val (.int (1 : Int32)), .val (.ref g1)] [(.ref x1), (.ref y1)])) rfl (by rw [hml]; rfl) (Steps.refl _) (argsL := [(.ref x1)]) (rest := []) (lenOf pd_2 rfl) rfl (by show 2 * 0 + _ ≤ _; exact Nat.le_of_eq rfl) (hb hby d_prog_18_method_5_25) (fun _ _ => ⟨rfl, e23, (by decide : 1 + 0 ≤ _), (by decide : 3 + 0 ≤ _)⟩)
    dsimp only [Pt.U, Pt.locs, Pt.cells, Pt.slots] at X26 l26 y26 z26 st26 hQ26
    subst l26 y26 z26
    obtain ⟨hd26, rfl, eq26⟩ := hQ26
    have Nf26 := Fr.app Nf14 (Fr.nil n0)
    rcases hd26 with ⟨rfl, hq26⟩ | ⟨rfl, hq26⟩
    · exact absurd hq26 q1
    · have kn27 : ∀ t, own_S p e below T26 (mkF m 28 #[.val (.ref x1), .val (.ref b1), .val (.int (3 : Int32)), .val (.int (1 : Int32)), .val (.ref g1)] [(.int (0 : Int32))]) t → Gl t := fun t kt => kn25 t (st26.trans kt)
      have kn28 : ∀ t, own_S p e below T26 (mkF m 16 #[.val (.ref x1), .val (.ref b1), .val (.int (3 : Int32)), .val (.int (2 : Int32)), .val (.ref g1)] [(.int (2 : Int32)), (.ref b1)]) t → Gl t := fun t kt => kn27 t (by
        show own_S p e below T26 (mkF m 28 #[.val (.ref x1), .val (.ref b1), .val (.int (3 : Int32)), .val (.int (1 : Int32)), .val (.ref g1)] [(.int (0 : Int32))]) _
        refine XS.ifYes X26.here hx rfl (pc0 := 28) (pc' := 34) rfl (hb hby d_prog_18_method_5_28) rfl ((if0 _ _).trans (teq (by decide : (0 : Int32) = (0 : Int32))).1) (by decide) (by decide) ?_
        show own_S p e below T26 (mkF m 34 #[.val (.ref x1), .val (.ref b1), .val (.int (3 : Int32)), .val (.int (1 : Int32)), .val (.ref g1)] []) _
        refine XS.iinc X26.here hx rfl (hb hby d_prog_18_method_5_34) rfl (l' := #[.val (.ref x1), .val (.ref b1), .val (.int (3 : Int32)), .val (.int ((1 : Int32) + (1 : Int32))), .val (.ref g1)]) rfl ?_
        rw [(by decide : ((1 : Int32) + (1 : Int32)) = (2 : Int32))]
        show own_S p e below T26 (mkF m 37 #[.val (.ref x1), .val (.ref b1), .val (.int (3 : Int32)), .val (.int (2 : Int32)), .val (.ref g1)] []) _
        refine XS.goto X26.here hx rfl (pc0 := 37) (pc' := 9) rfl (hb hby d_prog_18_method_5_37) (by decide) (by decide) ?_
        show own_S p e below T26 (mkF m 9 #[.val (.ref x1), .val (.ref b1), .val (.int (3 : Int32)), .val (.int (2 : Int32)), .val (.ref g1)] []) _
        refine XS.iloadN X26.here hx rfl (hb hby d_prog_18_method_5_9) rfl ?_
        show own_S p e below T26 (mkF m 10 #[.val (.ref x1), .val (.ref b1), .val (.int (3 : Int32)), .val (.int (2 : Int32)), .val (.ref g1)] [(.int (2 : Int32))]) _
        refine XS.iloadN X26.here hx rfl (hb hby d_prog_18_method_5_10) rfl ?_
        show own_S p e below T26 (mkF m 11 #[.val (.ref x1), .val (.ref b1), .val (.int (3 : Int32)), .val (.int (2 : Int32)), .val (.ref g1)] [(.int (3 : Int32)), (.int (2 : Int32))]) _
        refine XS.icmpNo X26.here hx rfl (hb hby d_prog_18_method_5_11) rfl (tlt (by decide : (2 : Int32) < (3 : Int32))).2.1 ?_
        show own_S p e below T26 (mkF m 14 #[.val (.ref x1), .val (.ref b1), .val (.int (3 : Int32)), .val (.int (2 : Int32)), .val (.ref g1)] []) _
        refine XS.aloadN X26.here hx rfl (hb hby d_prog_18_method_5_14) rfl rfl ?_
        show own_S p e below T26 (mkF m 15 #[.val (.ref x1), .val (.ref b1), .val (.int (3 : Int32)), .val (.int (2 : Int32)), .val (.ref g1)] [(.ref b1)]) _
        refine XS.iloadN X26.here hx rfl (hb hby d_prog_18_method_5_15) rfl ?_
        exact kt)
      obtain ⟨cl29, Ar29, q29, Sz29, Ng29, Hs29, Gs29⟩ := id V1
      have hin29 : ¬ ((2 : Int32) < 0 ∨ cl29.slots.size ≤ ((2 : Int32)).toNatClampNeg) := inb_of Sz29 ⟨by decide, by decide⟩
      have hat29 : cl29.slots[((2 : Int32)).toNatClampNeg]? = some (.ref g2) := Hs29.at hin29 rfl
      have kn30 : ∀ t, own_S p e below T26 (mkF m 21 #[.val (.ref x1), .val (.ref b1), .val (.int (3 : Int32)), .val (.int (2 : Int32)), .val (.ref g2)] [(.ref g2)]) t → Gl t := fun t kt => kn28 t (by
        show own_S p e below T26 (mkF m 16 #[.val (.ref x1), .val (.ref b1), .val (.int (3 : Int32)), .val (.int (2 : Int32)), .val (.ref g1)] [(.int (2 : Int32)), (.ref b1)]) _
        refine X26.aaload hx (j := (2 : Int32)) (v := (.ref g2)) (by rw [eq26]; exact Ar29.1) (State.isArrayOf_alike hZ.alike Ar29.2.1) rfl Ar29.2.2 hin29 hat29 (g := (mkF m 16 #[.val (.ref x1), .val (.ref b1), .val (.int (3 : Int32)), .val (.int (2 : Int32)), .val (.ref g1)] [(.int (2 : Int32)), (.ref b1)])) rfl rfl (hb hby d_prog_18_method_5_16) _ ?_
        show own_S p e below T26 (mkF m 17 #[.val (.ref x1), .val (.ref b1), .val (.int (3 : Int32)), .val (.int (2 : Int32)), .val (.ref g1)] [(.ref g2)]) _
        refine XS.astore X26.here hx rfl (hb hby d_prog_18_method_5_17) rfl rfl (l' := #[.val (.ref x1), .val (.ref b1), .val (.int (3 : Int32)), .val (.int (2 : Int32)), .val (.ref g2)]) rfl ?_
        show own_S p e below T26 (mkF m 19 #[.val (.ref x1), .val (.ref b1), .val (.int (3 : Int32)), .val (.int (2 : Int32)), .val (.ref g2)] []) _
        refine XS.aload X26.here hx rfl (hb hby d_prog_18_method_5_19) rfl rfl ?_
        exact kt)
      obtain ⟨T31, X31, e31, st31⟩ := getF X26 hx hZ hown (host := "") (Or.inl (hw _ (List.mem_of_getElem? (i := 48) rfl))) Via.refl eq26 (Fg2.ext O3.2) (g := (mkF m 21 #[.val (.ref x1), .val (.ref b1), .val (.int (3 : Int32)), .val (.int (2 : Int32)), .val (.ref g2)] [(.ref g2)])) rfl rfl (hb hby d_prog_18_method_5_21)
      have kn32 : ∀ t, own_S p e below T31 (mkF m 24 #[.val (.ref x1), .val (.ref b1), .val (.int (3 : Int32)), .val (.int (2 : Int32)), .val (.ref g2)] [(.ref y2)]) t → Gl t := fun t kt => kn30 t (st31 _ kt)
      have kn33 : ∀ t, own_S p e below T31 (mkF m 25 #[.val (.ref x1), .val (.ref b1), .val (.int (3 : Int32)), .val (.int (2 : Int32)), .val (.ref g2)] [(.ref x1), (.ref y2)]) t → Gl t := fun t kt => kn32 t (by
        show own_S p e below T31 (mkF m 24 #[.val (.ref x1), .val (.ref b1), .val (.int (3 : Int32)), .val (.int (2 : Int32)), .val (.ref g2)] [(.ref y2)]) _
        refine XS.aloadN X31.here hx rfl (hb hby d_prog_18_method_5_24) rfl rfl ?_
        exact kt)
      have hp_y2 : ∀ c ∈ ([(51 : Int32)] : List Int32), ¬ c < 0 ∧ ¬ (255 : Int32) < c := by decide
      have hcd_y2 : StrChars.Road.CodA ([(51 : Int32)] : List Int32) 0 (1 : Int32) ((([(51 : Int32)] : List Int32).map (fun c => c.toInt8.toInt32)).map Value.int) := StrChars.Road.codOf (n := 1) rfl (fun x hx => (hp_y2 x hx).2)
      have hbd_y2 : ∀ x ∈ ([(51 : Int32)] : List Int32), ¬ x < 0 ∧ ¬ (65535 : Int32) < x := own_up _ hp_y2
      obtain ⟨cq34, kq34, qa34, qb34, qc34⟩ := isOf hZ e31 (Ey2.ext O3.2)
      obtain ⟨_, _, ⟨T34, L34, cc34, ss34⟩, -, X34, ⟨Lc34, hQ34, l34, y34, z34⟩, st34⟩ := X31.virtualBack hx (y := (⟨"java/lang/String", "equals", "(Ljava/lang/Object;)Z"⟩ : MethodName)) (z := (⟨"java/lang/String", "equals", "(Ljava/lang/Object;)Z"⟩ : MethodName)) hown (mvT hZ (hw _ (List.mem_of_getElem? (i := 50) rfl))) (mvT hZ (hw _ (List.mem_of_getElem? (i := 51) rfl))) (notFace_of_selects (args := #[]) (mvT hZ (hw _ (List.mem_of_getElem? (i := 53) rfl)))) (mvT hZ (hw _ (List.mem_of_getElem? (i := 53) rfl))) (mvT hZ (hw _ (List.mem_of_getElem? (i := 52) rfl))) (by decide) (StrChars.Road.eqW (W := 0) hZ heq (kI := 4) (hw _ (List.mem_of_getElem? (i := 6) rfl)) (Ey2.ext O3.2) (Vy2.ext O3.2) (Cy2.ext O3.2) (Ky2.ext O3.2) hcd_y2 hbd_y2 (Nat.le_of_ble_eq_true rfl) f15 f16 f17 f18 hcd hbd hlen (O2.ext O3.2) P5 (by decide) (by decide)) qa34 qc34 (g := (mkF m 25 #[.val (.ref x1), .val (.ref b1), .val (.int (3 : Int32)), .val (.int (2 : Int32)), .val (.ref g2)] [(.ref x1), (.ref y2)])) rfl (by rw [hml]; rfl) (Steps.refl _) (argsL := [(.ref x1)]) (rest := []) (lenOf pd_2 rfl) rfl (by show 2 * 0 + _ ≤ _; exact Nat.le_of_eq rfl) (hb hby d_prog_18_method_5_25) (fun _ _ => ⟨rfl, e31, (by decide : 1 + 0 ≤ _), (by decide : 3 + 0 ≤ _)⟩)
      dsimp only [Pt.U, Pt.locs, Pt.cells, Pt.slots] at X34 l34 y34 z34 st34 hQ34
      subst l34 y34 z34
      obtain ⟨hd34, rfl, eq34⟩ := hQ34
      have Nf34 := Fr.app Nf26 (Fr.nil n0)
      rcases hd34 with ⟨rfl, hq34⟩ | ⟨rfl, hq34⟩
      · have kn35 : ∀ t, own_S p e below T34 (mkF m 28 #[.val (.ref x1), .val (.ref b1), .val (.int (3 : Int32)), .val (.int (2 : Int32)), .val (.ref g2)] [(.int (1 : Int32))]) t → Gl t := fun t kt => kn33 t (st34.trans kt)
        have kn36 : ∀ t, own_S p e below T34 (mkF m 33 #[.val (.ref x1), .val (.ref b1), .val (.int (3 : Int32)), .val (.int (2 : Int32)), .val (.ref g2)] [(.ref g2)]) t → Gl t := fun t kt => kn35 t (by
          show own_S p e below T34 (mkF m 28 #[.val (.ref x1), .val (.ref b1), .val (.int (3 : Int32)), .val (.int (2 : Int32)), .val (.ref g2)] [(.int (1 : Int32))]) _
          refine XS.ifNo X34.here hx rfl (hb hby d_prog_18_method_5_28) rfl ((if0 _ _).trans (feq (by decide : ¬ ((1 : Int32) = (0 : Int32)))).1) ?_
          show own_S p e below T34 (mkF m 31 #[.val (.ref x1), .val (.ref b1), .val (.int (3 : Int32)), .val (.int (2 : Int32)), .val (.ref g2)] []) _
          refine XS.aload X34.here hx rfl (hb hby d_prog_18_method_5_31) rfl rfl ?_
          exact kt)
        obtain ⟨fs, hr, hrun, hended, hW, hsame⟩ := X34.leave (v := some (.ref g2)) (fun h => by rw [Bd.returns] at h; cases h)
        refine ⟨_, _, hGl _ (kn36 _ (by
            show own_S p e below T34 (mkF m 33 #[.val (.ref x1), .val (.ref b1), .val (.int (3 : Int32)), .val (.int (2 : Int32)), .val (.ref g2)] [(.ref g2)]) _
            jvm_step X34.here [X34.here.top, hx, (hb hby d_prog_18_method_5_33), X34.method', Bd.returns, Value.isRef, FieldType.isReference]
            first | (intro acts; rw [hr _ acts rfl rfl rfl]) | rw [hr _ _ rfl rfl rfl]
            exact Steps.refl _)), hrun, hended, _, _, rfl, ?_, ⟨_, rfl⟩, hW, hsame.mono (by decide) (by decide)⟩
        show QFind2 Z x1 t1 k1 cs N1 vs bV kV g0 y0 ty0 ky0 g1 y1 ty1 ky1 g2 y2 ty2 ky2 G1 h0 n0 _ T34.heap _
        rw [eq34]
        exact ⟨rfl, Nf34, K4⟩
      · exact absurd q2 hq34

theorem d_prog_18_method_5_40 : decode prog_18_method_5_code 40 = .ok (.aconst_null, 1) := by decide +kernel
theorem d_prog_18_method_5_41 : decode prog_18_method_5_code 41 = .ok (.areturn, 1) := by decide +kernel
theorem ef_rmFind3 (m : MethodId) (x0 : Addr) : entryFrame m #[(.ref x0)] 5 = mkF m 0 #[.val (.ref x0), .unset, .unset, .unset, .unset] [] := by first | (simp [entryFrame, mkF, argsToLocals, Value.category]; done) | rfl
def QFind3 (Z : State) (x1 : Addr) (t1 : Addr) (k1 : ClassId) (cs : List Int32) (N1 : Int32) (vs : List Value) (bV : Addr) (kV : ClassId) (g0 : Addr) (y0 : Addr) (ty0 : Addr) (ky0 : ClassId) (g1 : Addr) (y1 : Addr) (ty1 : Addr) (ky1 : ClassId) (g2 : Addr) (y2 : Addr) (ty2 : Addr) (ky2 : ClassId) (G1 : Int32) (h0 : Heap) (n0 : Nat) (v : Option Value) (h : Heap) (L : List Loc) : Prop := v = some .null ∧ Fr n0 L ∧ Keep h0 h []
set_option maxRecDepth 65536 in
set_option maxHeartbeats 40000000 in
theorem rmFind3 (l : Launch) (Z : State) (a0 : Array Value) (hw : ∀ d ∈ tables_1, d.before a0 Z = true) (ws : List Jvm.Cond) (x1 : Addr) (t1 : Addr) (k1 : ClassId) (cs : List Int32) (N1 : Int32) (vs : List Value) (bV : Addr) (kV : ClassId) (g0 : Addr) (y0 : Addr) (ty0 : Addr) (ky0 : ClassId) (g1 : Addr) (y1 : Addr) (ty1 : Addr) (ky1 : ClassId) (g2 : Addr) (y2 : Addr) (ty2 : Addr) (ky2 : ClassId) (G1 : Int32) (h0 : Heap) (n0 : Nat) (Z0 : n0 ≤ h0.size) (E_x1 : Exa Z h0 x1 "java/lang/String") (V_x1 : Fld Z h0 x1 "java/lang/String" "value" "[B" (.ref t1)) (C_x1 : Fld Z h0 x1 "java/lang/String" "coder" "B" (.int (0 : Int32))) (K_x1 : Arv Z h0 t1 k1 .byte N1 vs (.int (0 : Int32))) (hcd : StrChars.Road.CodA cs 0 N1 vs) (hbd : ∀ x ∈ cs, ¬ x < 0 ∧ ¬ (65535 : Int32) < x) (hlen : cs.length ≤ 4000) (O0 : Old Z n0 h0) (O2 : Sta Z Z.heap "java/lang/String" "COMPACT_STRINGS" "Z" (.int G1)) (P5 : ¬ (G1 = (0 : Int32))) (SV : Sta Z Z.heap "com/example/runs_to_scores/runstoscores/formats/GenomicsJudgment" "$VALUES" "[Lcom/example/runs_to_scores/runstoscores/formats/GenomicsJudgment;" (.ref bV)) (EV : Exa Z Z.heap bV "[Lcom/example/runs_to_scores/runstoscores/formats/GenomicsJudgment;") (VV : Arv Z Z.heap bV kV (.object "com/example/runs_to_scores/runstoscores/formats/GenomicsJudgment") (3 : Int32) [(.ref g0), (.ref g1), (.ref g2)] .null) (Fg0 : Fld Z Z.heap g0 "com/example/runs_to_scores/runstoscores/formats/GenomicsJudgment" "code" "Ljava/lang/String;" (.ref y0)) (Ey0 : Exa Z Z.heap y0 "java/lang/String") (Vy0 : Fld Z Z.heap y0 "java/lang/String" "value" "[B" (.ref ty0)) (Cy0 : Fld Z Z.heap y0 "java/lang/String" "coder" "B" (.int (0 : Int32))) (Ky0 : Arv Z Z.heap ty0 ky0 .byte (1 : Int32) ((([(49 : Int32)] : List Int32).map (fun c => c.toInt8.toInt32)).map Value.int) (.int (0 : Int32))) (Fg1 : Fld Z Z.heap g1 "com/example/runs_to_scores/runstoscores/formats/GenomicsJudgment" "code" "Ljava/lang/String;" (.ref y1)) (Ey1 : Exa Z Z.heap y1 "java/lang/String") (Vy1 : Fld Z Z.heap y1 "java/lang/String" "value" "[B" (.ref ty1)) (Cy1 : Fld Z Z.heap y1 "java/lang/String" "coder" "B" (.int (0 : Int32))) (Ky1 : Arv Z Z.heap ty1 ky1 .byte (1 : Int32) ((([(50 : Int32)] : List Int32).map (fun c => c.toInt8.toInt32)).map Value.int) (.int (0 : Int32))) (Fg2 : Fld Z Z.heap g2 "com/example/runs_to_scores/runstoscores/formats/GenomicsJudgment" "code" "Ljava/lang/String;" (.ref y2)) (Ey2 : Exa Z Z.heap y2 "java/lang/String") (Vy2 : Fld Z Z.heap y2 "java/lang/String" "value" "[B" (.ref ty2)) (Cy2 : Fld Z Z.heap y2 "java/lang/String" "coder" "B" (.int (0 : Int32))) (Ky2 : Arv Z Z.heap ty2 ky2 .byte (1 : Int32) ((([(51 : Int32)] : List Int32).map (fun c => c.toInt8.toInt32)).map Value.int) (.int (0 : Int32))) (q0 : ¬ ([(49 : Int32)] : List Int32) = cs) (q1 : ¬ ([(50 : Int32)] : List Int32) = cs) (q2 : ¬ ([(51 : Int32)] : List Int32) = cs) :
    MetFree l (⟨"com/example/runs_to_scores/runstoscores/formats/GenomicsJudgment", "coded", "(Ljava/lang/String;)Lcom/example/runs_to_scores/runstoscores/formats/GenomicsJudgment;"⟩ : MethodName) (head1 (Jvm.Cond.code (⟨"com/example/runs_to_scores/runstoscores/formats/GenomicsJudgment", "coded", "(Ljava/lang/String;)Lcom/example/runs_to_scores/runstoscores/formats/GenomicsJudgment;"⟩ : MethodName) prog_18_method_5_code 5 (some (.object "com/example/runs_to_scores/runstoscores/formats/GenomicsJudgment")) :: ws) ({ frames := 2, cells := 1, slots := 3, locals := 28 } : Room)) (fun a U => a = #[(.ref x1)] ∧ Z.Warmed39 U.vm ∧ U.heap = h0) (fun _ _ _ _ _ => True) (fun _ U o U' => ∃ v L, o = .returned v ∧ QFind3 Z x1 t1 k1 cs N1 vs bV kV g0 y0 ty0 ky0 g1 y1 ty1 ky1 g2 y2 ty2 ky2 G1 h0 n0 v U'.heap L ∧ FrameEnd U o U' L ({ frames := 2, cells := 1, slots := 3, locals := 28 } : Room).cells ({ frames := 2, cells := 1, slots := 3, locals := 28 } : Room).slots) := by
  refine MetFree.of_bodySF (plainFor_of_name pn_2) hisR ?_
  intro p e s m args below meth c s₁ Bd hml0 hP hK
  obtain ⟨rfl, hZ, hh⟩ := hP
  have hx := Bd.exec
  have hby := Bd.bytes
  have hml : c.maxLocals = 5 := hml0
  have hown : s.vm.findClass "com/example/runs_to_scores/runstoscores/formats/GenomicsJudgment" = some m.cls := findClass_of_methodNamed Bd.named
  have hnm := (name_of_methodNamed Bd.named Bd.method).1
  have X0 : Stand p l e ({ frames := 2, cells := 1, slots := 3, locals := 28 } : Room) s m #[(.ref x1)] below meth c s₁ [] 0 0 := Stand.of_body Bd
  have e0 : s₁.heap = h0 := by rw [← hh, Bd.state]; rfl
  have Nf0 := Fr.nil n0
  obtain ⟨Gl, hGl, kn0⟩ : ∃ Gl : State → Prop, (∀ t, Gl t → Steps p.tables e below (s₁.setTop (entryFrame m #[(.ref x1)] 5)) t) ∧ ∀ t, own_S p e below s₁ (mkF m 0 #[.val (.ref x1), .unset, .unset, .unset, .unset] []) t → Gl t := ⟨fun t => Steps p.tables e below (s₁.setTop (entryFrame m #[(.ref x1)] 5)) t, fun _ k => k, fun t k => castTop (ef_rmFind3 m x1) k⟩
  obtain ⟨_, _, ⟨T1, L1, cc1, ss1⟩, -, X1, ⟨Lc1, hQ1, l1, y1, z1⟩, st1⟩ := Jvm.LawKit.callS X0 hx (y := (⟨"com/example/runs_to_scores/runstoscores/formats/GenomicsJudgment", "values", "()[Lcom/example/runs_to_scores/runstoscores/formats/GenomicsJudgment;"⟩ : MethodName)) hown (mvT hZ (hw _ (List.mem_of_getElem? (i := 30) rfl))) (mvT hZ (hw _ (List.mem_of_getElem? (i := 31) rfl))) (mvT hZ (hw _ (List.mem_of_getElem? (i := 28) rfl))) (mvT hZ (hw _ (List.mem_of_getElem? (i := 32) rfl))) (by decide) (backOf (W := 0) (rmVal l Z a0 hw []  bV kV g0 y0 ty0 ky0 g1 y1 ty1 ky1 g2 y2 ty2 ky2 h0 n0 Z0 O0 SV EV VV Fg0 Ey0 Vy0 Cy0 Ky0 Fg1 Ey1 Vy1 Cy1 Ky1 Fg2 Ey2 Vy2 Cy2 Ky2) hZ (hw _ (List.mem_of_getElem? (i := 32) rfl)) (hw _ (List.mem_of_getElem? (i := 28) rfl)) (by decide) (by decide)) (g := (mkF m 0 #[.val (.ref x1), .unset, .unset, .unset, .unset] [])) rfl (by rw [hml]; rfl) (argsL := []) (rest := []) (lenOf pd_1 rfl) rfl (by show 2 * 0 + _ ≤ _; exact Nat.le_of_eq rfl) (hb hby d_prog_18_method_5_0) (fun _ _ => ⟨rfl, e0, (by decide : 0 + 1 ≤ _), (by decide : 0 + 3 ≤ _)⟩)
  dsimp only [Pt.U, Pt.locs, Pt.cells, Pt.slots] at X1 l1 y1 z1 st1 hQ1
  subst l1 y1 z1
  obtain ⟨b1, kk1, rfl, Nq1, g_b1, K1, V1⟩ := hQ1
  have Nf1 := Fr.app Nf0 Nq1
  have Z2 : n0 ≤ T1.heap.size := Nat.le_trans Z0 K1.1
  have O3 : Old Z n0 T1.heap := O0.keep K1 all0
  have K4 : Keep h0 T1.heap [] := (Keep.refl h0 []).trans K1 (all0)
  have kn5 : ∀ t, own_S p e below T1 (mkF m 3 #[.val (.ref x1), .unset, .unset, .unset, .unset] [(.ref b1)]) t → Gl t := fun t kt => kn0 t (st1 _ kt)
  have kn6 : ∀ t, own_S p e below T1 (mkF m 5 #[.val (.ref x1), .val (.ref b1), .unset, .unset, .unset] [(.ref b1)]) t → Gl t := fun t kt => kn5 t (by
    show own_S p e below T1 (mkF m 3 #[.val (.ref x1), .unset, .unset, .unset, .unset] [(.ref b1)]) _
    refine XS.astoreN X1.here hx rfl (hb hby d_prog_18_method_5_3) rfl rfl (l' := #[.val (.ref x1), .val (.ref b1), .unset, .unset, .unset]) rfl ?_
    show own_S p e below T1 (mkF m 4 #[.val (.ref x1), .val (.ref b1), .unset, .unset, .unset] []) _
    refine XS.aloadN X1.here hx rfl (hb hby d_prog_18_method_5_4) rfl rfl ?_
    exact kt)
  obtain ⟨cl7, Ar7, -, Sz7, Ng7, -, -⟩ := id V1
  have kn8 : ∀ t, own_S p e below T1 (mkF m 16 #[.val (.ref x1), .val (.ref b1), .val (.int (3 : Int32)), .val (.int (0 : Int32)), .unset] [(.int (0 : Int32)), (.ref b1)]) t → Gl t := fun t kt => kn6 t (by
    show own_S p e below T1 (mkF m 5 #[.val (.ref x1), .val (.ref b1), .unset, .unset, .unset] [(.ref b1)]) _
    refine X1.arraylength hx Ar7.1 (State.isArrayOf_alike hZ.alike Ar7.2.1) (g := (mkF m 5 #[.val (.ref x1), .val (.ref b1), .unset, .unset, .unset] [(.ref b1)])) rfl rfl (hb hby d_prog_18_method_5_5) _ ?_
    rw [len_of Sz7 Ng7]
    show own_S p e below T1 (mkF m 6 #[.val (.ref x1), .val (.ref b1), .unset, .unset, .unset] [(.int (3 : Int32))]) _
    refine XS.istoreN X1.here hx rfl (hb hby d_prog_18_method_5_6) rfl (l' := #[.val (.ref x1), .val (.ref b1), .val (.int (3 : Int32)), .unset, .unset]) rfl ?_
    show own_S p e below T1 (mkF m 7 #[.val (.ref x1), .val (.ref b1), .val (.int (3 : Int32)), .unset, .unset] []) _
    refine XS.iconst X1.here hx rfl (hb hby d_prog_18_method_5_7) ?_
    show own_S p e below T1 (mkF m 8 #[.val (.ref x1), .val (.ref b1), .val (.int (3 : Int32)), .unset, .unset] [(.int (0 : Int32))]) _
    refine XS.istoreN X1.here hx rfl (hb hby d_prog_18_method_5_8) rfl (l' := #[.val (.ref x1), .val (.ref b1), .val (.int (3 : Int32)), .val (.int (0 : Int32)), .unset]) rfl ?_
    show own_S p e below T1 (mkF m 9 #[.val (.ref x1), .val (.ref b1), .val (.int (3 : Int32)), .val (.int (0 : Int32)), .unset] []) _
    refine XS.iloadN X1.here hx rfl (hb hby d_prog_18_method_5_9) rfl ?_
    show own_S p e below T1 (mkF m 10 #[.val (.ref x1), .val (.ref b1), .val (.int (3 : Int32)), .val (.int (0 : Int32)), .unset] [(.int (0 : Int32))]) _
    refine XS.iloadN X1.here hx rfl (hb hby d_prog_18_method_5_10) rfl ?_
    show own_S p e below T1 (mkF m 11 #[.val (.ref x1), .val (.ref b1), .val (.int (3 : Int32)), .val (.int (0 : Int32)), .unset] [(.int (3 : Int32)), (.int (0 : Int32))]) _
    refine XS.icmpNo X1.here hx rfl (hb hby d_prog_18_method_5_11) rfl (tlt (by decide : (0 : Int32) < (3 : Int32))).2.1 ?_
    show own_S p e below T1 (mkF m 14 #[.val (.ref x1), .val (.ref b1), .val (.int (3 : Int32)), .val (.int (0 : Int32)), .unset] []) _
    refine XS.aloadN X1.here hx rfl (hb hby d_prog_18_method_5_14) rfl rfl ?_
    show own_S p e below T1 (mkF m 15 #[.val (.ref x1), .val (.ref b1), .val (.int (3 : Int32)), .val (.int (0 : Int32)), .unset] [(.ref b1)]) _
    refine XS.iloadN X1.here hx rfl (hb hby d_prog_18_method_5_15) rfl ?_
    exact kt)
  obtain ⟨cl9, Ar9, q9, Sz9, Ng9, Hs9, Gs9⟩ := id V1
  have hin9 : ¬ ((0 : Int32) < 0 ∨ cl9.slots.size ≤ ((0 : Int32)).toNatClampNeg) := inb_of Sz9 ⟨by decide, by decide⟩
  have hat9 : cl9.slots[((0 : Int32)).toNatClampNeg]? = some (.ref g0) := Hs9.at hin9 rfl
  have kn10 : ∀ t, own_S p e below T1 (mkF m 21 #[.val (.ref x1), .val (.ref b1), .val (.int (3 : Int32)), .val (.int (0 : Int32)), .val (.ref g0)] [(.ref g0)]) t → Gl t := fun t kt => kn8 t (by
    show own_S p e below T1 (mkF m 16 #[.val (.ref x1), .val (.ref b1), .val (.int (3 : Int32)), .val (.int (0 : Int32)), .unset] [(.int (0 : Int32)), (.ref b1)]) _
    refine X1.aaload hx (j := (0 : Int32)) (v := (.ref g0)) Ar9.1 (State.isArrayOf_alike hZ.alike Ar9.2.1) rfl Ar9.2.2 hin9 hat9 (g := (mkF m 16 #[.val (.ref x1), .val (.ref b1), .val (.int (3 : Int32)), .val (.int (0 : Int32)), .unset] [(.int (0 : Int32)), (.ref b1)])) rfl rfl (hb hby d_prog_18_method_5_16) _ ?_
    show own_S p e below T1 (mkF m 17 #[.val (.ref x1), .val (.ref b1), .val (.int (3 : Int32)), .val (.int (0 : Int32)), .unset] [(.ref g0)]) _
    refine XS.astore X1.here hx rfl (hb hby d_prog_18_method_5_17) rfl rfl (l' := #[.val (.ref x1), .val (.ref b1), .val (.int (3 : Int32)), .val (.int (0 : Int32)), .val (.ref g0)]) rfl ?_
    show own_S p e below T1 (mkF m 19 #[.val (.ref x1), .val (.ref b1), .val (.int (3 : Int32)), .val (.int (0 : Int32)), .val (.ref g0)] []) _
    refine XS.aload X1.here hx rfl (hb hby d_prog_18_method_5_19) rfl rfl ?_
    exact kt)
  obtain ⟨T11, X11, e11, st11⟩ := getF X1 hx hZ hown (host := "") (Or.inl (hw _ (List.mem_of_getElem? (i := 48) rfl))) Via.refl rfl (Fg0.ext O3.2) (g := (mkF m 21 #[.val (.ref x1), .val (.ref b1), .val (.int (3 : Int32)), .val (.int (0 : Int32)), .val (.ref g0)] [(.ref g0)])) rfl rfl (hb hby d_prog_18_method_5_21)
  have kn12 : ∀ t, own_S p e below T11 (mkF m 24 #[.val (.ref x1), .val (.ref b1), .val (.int (3 : Int32)), .val (.int (0 : Int32)), .val (.ref g0)] [(.ref y0)]) t → Gl t := fun t kt => kn10 t (st11 _ kt)
  have kn13 : ∀ t, own_S p e below T11 (mkF m 25 #[.val (.ref x1), .val (.ref b1), .val (.int (3 : Int32)), .val (.int (0 : Int32)), .val (.ref g0)] [(.ref x1), (.ref y0)]) t → Gl t := fun t kt => kn12 t (by
    show own_S p e below T11 (mkF m 24 #[.val (.ref x1), .val (.ref b1), .val (.int (3 : Int32)), .val (.int (0 : Int32)), .val (.ref g0)] [(.ref y0)]) _
    refine XS.aloadN X11.here hx rfl (hb hby d_prog_18_method_5_24) rfl rfl ?_
    exact kt)
  have heq : ∀ d ∈ StrChars.Road.wordsEq, d.before a0 Z = true := fun d hd => hw d ((by decide +kernel : ∀ d ∈ StrChars.Road.wordsEq, d ∈ tables_1) d hd)
  have hp_y0 : ∀ c ∈ ([(49 : Int32)] : List Int32), ¬ c < 0 ∧ ¬ (255 : Int32) < c := by decide
  have hcd_y0 : StrChars.Road.CodA ([(49 : Int32)] : List Int32) 0 (1 : Int32) ((([(49 : Int32)] : List Int32).map (fun c => c.toInt8.toInt32)).map Value.int) := StrChars.Road.codOf (n := 1) rfl (fun x hx => (hp_y0 x hx).2)
  have hbd_y0 : ∀ x ∈ ([(49 : Int32)] : List Int32), ¬ x < 0 ∧ ¬ (65535 : Int32) < x := own_up _ hp_y0
  have f15 := (E_x1.keep K1)
  have f16 := (V_x1.keep K1 nin0)
  have f17 := (C_x1.keep K1 nin0)
  have f18 := (K_x1.keep K1 nin0)
  obtain ⟨cq14, kq14, qa14, qb14, qc14⟩ := isOf hZ e11 (Ey0.ext O3.2)
  obtain ⟨_, _, ⟨T14, L14, cc14, ss14⟩, -, X14, ⟨Lc14, hQ14, l14, y14, z14⟩, st14⟩ := X11.virtualBack hx (y := (⟨"java/lang/String", "equals", "(Ljava/lang/Object;)Z"⟩ : MethodName)) (z := (⟨"java/lang/String", "equals", "(Ljava/lang/Object;)Z"⟩ : MethodName)) hown (mvT hZ (hw _ (List.mem_of_getElem? (i := 50) rfl))) (mvT hZ (hw _ (List.mem_of_getElem? (i := 51) rfl))) (notFace_of_selects (args := #[]) (mvT hZ (hw _ (List.mem_of_getElem? (i := 53) rfl)))) (mvT hZ (hw _ (List.mem_of_getElem? (i := 53) rfl))) (mvT hZ (hw _ (List.mem_of_getElem? (i := 52) rfl))) (by decide) (StrChars.Road.eqW (W := 0) hZ heq (kI := 4) (hw _ (List.mem_of_getElem? (i := 6) rfl)) (Ey0.ext O3.2) (Vy0.ext O3.2) (Cy0.ext O3.2) (Ky0.ext O3.2) hcd_y0 hbd_y0 (Nat.le_of_ble_eq_true rfl) f15 f16 f17 f18 hcd hbd hlen (O2.ext O3.2) P5 (by decide) (by decide)) qa14 qc14 (g := (mkF m 25 #[.val (.ref x1), .val (.ref b1), .val (.int (3 : Int32)), .val (.int (0 : Int32)), .val (.ref g0)] [(.ref x1), (.ref y0)])) rfl (by rw [hml]; rfl) (Steps.refl _) (argsL := [(.ref x1)]) (rest := []) (lenOf pd_2 rfl) rfl (by show 2 * 0 + _ ≤ _; exact Nat.le_of_eq rfl) (hb hby d_prog_18_method_5_25) (fun _ _ => ⟨rfl, e11, (by decide : 1 + 0 ≤ _), (by decide : 3 + 0 ≤ _)⟩)
  dsimp only [Pt.U, Pt.locs, Pt.cells, Pt.slots] at X14 l14 y14 z14 st14 hQ14
  subst l14 y14 z14
  obtain ⟨hd14, rfl, eq14⟩ := hQ14
  have Nf14 := Fr.app Nf1 (Fr.nil n0)
  rcases hd14 with ⟨rfl, hq14⟩ | ⟨rfl, hq14⟩
  · exact absurd hq14 q0
  · have kn19 : ∀ t, own_S p e below T14 (mkF m 28 #[.val (.ref x1), .val (.ref b1), .val (.int (3 : Int32)), .val (.int (0 : Int32)), .val (.ref g0)] [(.int (0 : Int32))]) t → Gl t := fun t kt => kn13 t (st14.trans kt)
    have kn20 : ∀ t, own_S p e below T14 (mkF m 16 #[.val (.ref x1), .val (.ref b1), .val (.int (3 : Int32)), .val (.int (1 : Int32)), .val (.ref g0)] [(.int (1 : Int32)), (.ref b1)]) t → Gl t := fun t kt => kn19 t (by
      show own_S p e below T14 (mkF m 28 #[.val (.ref x1), .val (.ref b1), .val (.int (3 : Int32)), .val (.int (0 : Int32)), .val (.ref g0)] [(.int (0 : Int32))]) _
      refine XS.ifYes X14.here hx rfl (pc0 := 28) (pc' := 34) rfl (hb hby d_prog_18_method_5_28) rfl ((if0 _ _).trans (teq (by decide : (0 : Int32) = (0 : Int32))).1) (by decide) (by decide) ?_
      show own_S p e below T14 (mkF m 34 #[.val (.ref x1), .val (.ref b1), .val (.int (3 : Int32)), .val (.int (0 : Int32)), .val (.ref g0)] []) _
      refine XS.iinc X14.here hx rfl (hb hby d_prog_18_method_5_34) rfl (l' := #[.val (.ref x1), .val (.ref b1), .val (.int (3 : Int32)), .val (.int ((0 : Int32) + (1 : Int32))), .val (.ref g0)]) rfl ?_
      rw [(by decide : ((0 : Int32) + (1 : Int32)) = (1 : Int32))]
      show own_S p e below T14 (mkF m 37 #[.val (.ref x1), .val (.ref b1), .val (.int (3 : Int32)), .val (.int (1 : Int32)), .val (.ref g0)] []) _
      refine XS.goto X14.here hx rfl (pc0 := 37) (pc' := 9) rfl (hb hby d_prog_18_method_5_37) (by decide) (by decide) ?_
      show own_S p e below T14 (mkF m 9 #[.val (.ref x1), .val (.ref b1), .val (.int (3 : Int32)), .val (.int (1 : Int32)), .val (.ref g0)] []) _
      refine XS.iloadN X14.here hx rfl (hb hby d_prog_18_method_5_9) rfl ?_
      show own_S p e below T14 (mkF m 10 #[.val (.ref x1), .val (.ref b1), .val (.int (3 : Int32)), .val (.int (1 : Int32)), .val (.ref g0)] [(.int (1 : Int32))]) _
      refine XS.iloadN X14.here hx rfl (hb hby d_prog_18_method_5_10) rfl ?_
      show own_S p e below T14 (mkF m 11 #[.val (.ref x1), .val (.ref b1), .val (.int (3 : Int32)), .val (.int (1 : Int32)), .val (.ref g0)] [(.int (3 : Int32)), (.int (1 : Int32))]) _
      refine XS.icmpNo X14.here hx rfl (hb hby d_prog_18_method_5_11) rfl (tlt (by decide : (1 : Int32) < (3 : Int32))).2.1 ?_
      show own_S p e below T14 (mkF m 14 #[.val (.ref x1), .val (.ref b1), .val (.int (3 : Int32)), .val (.int (1 : Int32)), .val (.ref g0)] []) _
      refine XS.aloadN X14.here hx rfl (hb hby d_prog_18_method_5_14) rfl rfl ?_
      show own_S p e below T14 (mkF m 15 #[.val (.ref x1), .val (.ref b1), .val (.int (3 : Int32)), .val (.int (1 : Int32)), .val (.ref g0)] [(.ref b1)]) _
      refine XS.iloadN X14.here hx rfl (hb hby d_prog_18_method_5_15) rfl ?_
      exact kt)
    obtain ⟨cl21, Ar21, q21, Sz21, Ng21, Hs21, Gs21⟩ := id V1
    have hin21 : ¬ ((1 : Int32) < 0 ∨ cl21.slots.size ≤ ((1 : Int32)).toNatClampNeg) := inb_of Sz21 ⟨by decide, by decide⟩
    have hat21 : cl21.slots[((1 : Int32)).toNatClampNeg]? = some (.ref g1) := Hs21.at hin21 rfl
    have kn22 : ∀ t, own_S p e below T14 (mkF m 21 #[.val (.ref x1), .val (.ref b1), .val (.int (3 : Int32)), .val (.int (1 : Int32)), .val (.ref g1)] [(.ref g1)]) t → Gl t := fun t kt => kn20 t (by
      show own_S p e below T14 (mkF m 16 #[.val (.ref x1), .val (.ref b1), .val (.int (3 : Int32)), .val (.int (1 : Int32)), .val (.ref g0)] [(.int (1 : Int32)), (.ref b1)]) _
      refine X14.aaload hx (j := (1 : Int32)) (v := (.ref g1)) (by rw [eq14]; exact Ar21.1) (State.isArrayOf_alike hZ.alike Ar21.2.1) rfl Ar21.2.2 hin21 hat21 (g := (mkF m 16 #[.val (.ref x1), .val (.ref b1), .val (.int (3 : Int32)), .val (.int (1 : Int32)), .val (.ref g0)] [(.int (1 : Int32)), (.ref b1)])) rfl rfl (hb hby d_prog_18_method_5_16) _ ?_
      show own_S p e below T14 (mkF m 17 #[.val (.ref x1), .val (.ref b1), .val (.int (3 : Int32)), .val (.int (1 : Int32)), .val (.ref g0)] [(.ref g1)]) _
      refine XS.astore X14.here hx rfl (hb hby d_prog_18_method_5_17) rfl rfl (l' := #[.val (.ref x1), .val (.ref b1), .val (.int (3 : Int32)), .val (.int (1 : Int32)), .val (.ref g1)]) rfl ?_
      show own_S p e below T14 (mkF m 19 #[.val (.ref x1), .val (.ref b1), .val (.int (3 : Int32)), .val (.int (1 : Int32)), .val (.ref g1)] []) _
      refine XS.aload X14.here hx rfl (hb hby d_prog_18_method_5_19) rfl rfl ?_
      exact kt)
    obtain ⟨T23, X23, e23, st23⟩ := getF X14 hx hZ hown (host := "") (Or.inl (hw _ (List.mem_of_getElem? (i := 48) rfl))) Via.refl eq14 (Fg1.ext O3.2) (g := (mkF m 21 #[.val (.ref x1), .val (.ref b1), .val (.int (3 : Int32)), .val (.int (1 : Int32)), .val (.ref g1)] [(.ref g1)])) rfl rfl (hb hby d_prog_18_method_5_21)
    have kn24 : ∀ t, own_S p e below T23 (mkF m 24 #[.val (.ref x1), .val (.ref b1), .val (.int (3 : Int32)), .val (.int (1 : Int32)), .val (.ref g1)] [(.ref y1)]) t → Gl t := fun t kt => kn22 t (st23 _ kt)
    have kn25 : ∀ t, own_S p e below T23 (mkF m 25 #[.val (.ref x1), .val (.ref b1), .val (.int (3 : Int32)), .val (.int (1 : Int32)), .val (.ref g1)] [(.ref x1), (.ref y1)]) t → Gl t := fun t kt => kn24 t (by
      show own_S p e below T23 (mkF m 24 #[.val (.ref x1), .val (.ref b1), .val (.int (3 : Int32)), .val (.int (1 : Int32)), .val (.ref g1)] [(.ref y1)]) _
      refine XS.aloadN X23.here hx rfl (hb hby d_prog_18_method_5_24) rfl rfl ?_
      exact kt)
    have hp_y1 : ∀ c ∈ ([(50 : Int32)] : List Int32), ¬ c < 0 ∧ ¬ (255 : Int32) < c := by decide
    have hcd_y1 : StrChars.Road.CodA ([(50 : Int32)] : List Int32) 0 (1 : Int32) ((([(50 : Int32)] : List Int32).map (fun c => c.toInt8.toInt32)).map Value.int) := StrChars.Road.codOf (n := 1) rfl (fun x hx => (hp_y1 x hx).2)
    have hbd_y1 : ∀ x ∈ ([(50 : Int32)] : List Int32), ¬ x < 0 ∧ ¬ (65535 : Int32) < x := own_up _ hp_y1
    obtain ⟨cq26, kq26, qa26, qb26, qc26⟩ := isOf hZ e23 (Ey1.ext O3.2)
    obtain ⟨_, _, ⟨T26, L26, cc26, ss26⟩, -, X26, ⟨Lc26, hQ26, l26, y26, z26⟩, st26⟩ := X23.virtualBack hx (y := (⟨"java/lang/String", "equals", "(Ljava/lang/Object;)Z"⟩ : MethodName)) (z := (⟨"java/lang/String", "equals", "(Ljava/lang/Object;)Z"⟩ : MethodName)) hown (mvT hZ (hw _ (List.mem_of_getElem? (i := 50) rfl))) (mvT hZ (hw _ (List.mem_of_getElem? (i := 51) rfl))) (notFace_of_selects (args := #[]) (mvT hZ (hw _ (List.mem_of_getElem? (i := 53) rfl)))) (mvT hZ (hw _ (List.mem_of_getElem? (i := 53) rfl))) (mvT hZ (hw _ (List.mem_of_getElem? (i := 52) rfl))) (by decide) (StrChars.Road.eqW (W := 0) hZ heq (kI := 4) (hw _ (List.mem_of_getElem? (i := 6) rfl)) (Ey1.ext O3.2) (Vy1.ext O3.2) (Cy1.ext O3.2) (Ky1.ext O3.2) hcd_y1 hbd_y1 (Nat.le_of_ble_eq_true rfl) f15 f16 f17 f18 hcd hbd hlen (O2.ext O3.2) P5 (by decide) (by decide)) qa26 qc26 (g := (mkF m 25 #[.val (.ref x1), .val (.ref b1), .val (.int (3 : Int32)), .val (.int (1 : Int32)), .val (.ref g1)] [(.ref x1), (.ref y1)])) rfl (by rw [hml]; rfl) (Steps.refl _) (argsL := [(.ref x1)]) (rest := []) (lenOf pd_2 rfl) rfl (by show 2 * 0 + _ ≤ _; exact Nat.le_of_eq rfl) (hb hby d_prog_18_method_5_25) (fun _ _ => ⟨rfl, e23, (by decide : 1 + 0 ≤ _), (by decide : 3 + 0 ≤ _)⟩)
    dsimp only [Pt.U, Pt.locs, Pt.cells, Pt.slots] at X26 l26 y26 z26 st26 hQ26
    subst l26 y26 z26
    obtain ⟨hd26, rfl, eq26⟩ := hQ26
    have Nf26 := Fr.app Nf14 (Fr.nil n0)
    rcases hd26 with ⟨rfl, hq26⟩ | ⟨rfl, hq26⟩
    · exact absurd hq26 q1
    · have kn27 : ∀ t, own_S p e below T26 (mkF m 28 #[.val (.ref x1), .val (.ref b1), .val (.int (3 : Int32)), .val (.int (1 : Int32)), .val (.ref g1)] [(.int (0 : Int32))]) t → Gl t := fun t kt => kn25 t (st26.trans kt)
      have kn28 : ∀ t, own_S p e below T26 (mkF m 16 #[.val (.ref x1), .val (.ref b1), .val (.int (3 : Int32)), .val (.int (2 : Int32)), .val (.ref g1)] [(.int (2 : Int32)), (.ref b1)]) t → Gl t := fun t kt => kn27 t (by
        show own_S p e below T26 (mkF m 28 #[.val (.ref x1), .val (.ref b1), .val (.int (3 : Int32)), .val (.int (1 : Int32)), .val (.ref g1)] [(.int (0 : Int32))]) _
        refine XS.ifYes X26.here hx rfl (pc0 := 28) (pc' := 34) rfl (hb hby d_prog_18_method_5_28) rfl ((if0 _ _).trans (teq (by decide : (0 : Int32) = (0 : Int32))).1) (by decide) (by decide) ?_
        show own_S p e below T26 (mkF m 34 #[.val (.ref x1), .val (.ref b1), .val (.int (3 : Int32)), .val (.int (1 : Int32)), .val (.ref g1)] []) _
        refine XS.iinc X26.here hx rfl (hb hby d_prog_18_method_5_34) rfl (l' := #[.val (.ref x1), .val (.ref b1), .val (.int (3 : Int32)), .val (.int ((1 : Int32) + (1 : Int32))), .val (.ref g1)]) rfl ?_
        rw [(by decide : ((1 : Int32) + (1 : Int32)) = (2 : Int32))]
        show own_S p e below T26 (mkF m 37 #[.val (.ref x1), .val (.ref b1), .val (.int (3 : Int32)), .val (.int (2 : Int32)), .val (.ref g1)] []) _
        refine XS.goto X26.here hx rfl (pc0 := 37) (pc' := 9) rfl (hb hby d_prog_18_method_5_37) (by decide) (by decide) ?_
        show own_S p e below T26 (mkF m 9 #[.val (.ref x1), .val (.ref b1), .val (.int (3 : Int32)), .val (.int (2 : Int32)), .val (.ref g1)] []) _
        refine XS.iloadN X26.here hx rfl (hb hby d_prog_18_method_5_9) rfl ?_
        show own_S p e below T26 (mkF m 10 #[.val (.ref x1), .val (.ref b1), .val (.int (3 : Int32)), .val (.int (2 : Int32)), .val (.ref g1)] [(.int (2 : Int32))]) _
        refine XS.iloadN X26.here hx rfl (hb hby d_prog_18_method_5_10) rfl ?_
        show own_S p e below T26 (mkF m 11 #[.val (.ref x1), .val (.ref b1), .val (.int (3 : Int32)), .val (.int (2 : Int32)), .val (.ref g1)] [(.int (3 : Int32)), (.int (2 : Int32))]) _
        refine XS.icmpNo X26.here hx rfl (hb hby d_prog_18_method_5_11) rfl (tlt (by decide : (2 : Int32) < (3 : Int32))).2.1 ?_
        show own_S p e below T26 (mkF m 14 #[.val (.ref x1), .val (.ref b1), .val (.int (3 : Int32)), .val (.int (2 : Int32)), .val (.ref g1)] []) _
        refine XS.aloadN X26.here hx rfl (hb hby d_prog_18_method_5_14) rfl rfl ?_
        show own_S p e below T26 (mkF m 15 #[.val (.ref x1), .val (.ref b1), .val (.int (3 : Int32)), .val (.int (2 : Int32)), .val (.ref g1)] [(.ref b1)]) _
        refine XS.iloadN X26.here hx rfl (hb hby d_prog_18_method_5_15) rfl ?_
        exact kt)
      obtain ⟨cl29, Ar29, q29, Sz29, Ng29, Hs29, Gs29⟩ := id V1
      have hin29 : ¬ ((2 : Int32) < 0 ∨ cl29.slots.size ≤ ((2 : Int32)).toNatClampNeg) := inb_of Sz29 ⟨by decide, by decide⟩
      have hat29 : cl29.slots[((2 : Int32)).toNatClampNeg]? = some (.ref g2) := Hs29.at hin29 rfl
      have kn30 : ∀ t, own_S p e below T26 (mkF m 21 #[.val (.ref x1), .val (.ref b1), .val (.int (3 : Int32)), .val (.int (2 : Int32)), .val (.ref g2)] [(.ref g2)]) t → Gl t := fun t kt => kn28 t (by
        show own_S p e below T26 (mkF m 16 #[.val (.ref x1), .val (.ref b1), .val (.int (3 : Int32)), .val (.int (2 : Int32)), .val (.ref g1)] [(.int (2 : Int32)), (.ref b1)]) _
        refine X26.aaload hx (j := (2 : Int32)) (v := (.ref g2)) (by rw [eq26]; exact Ar29.1) (State.isArrayOf_alike hZ.alike Ar29.2.1) rfl Ar29.2.2 hin29 hat29 (g := (mkF m 16 #[.val (.ref x1), .val (.ref b1), .val (.int (3 : Int32)), .val (.int (2 : Int32)), .val (.ref g1)] [(.int (2 : Int32)), (.ref b1)])) rfl rfl (hb hby d_prog_18_method_5_16) _ ?_
        show own_S p e below T26 (mkF m 17 #[.val (.ref x1), .val (.ref b1), .val (.int (3 : Int32)), .val (.int (2 : Int32)), .val (.ref g1)] [(.ref g2)]) _
        refine XS.astore X26.here hx rfl (hb hby d_prog_18_method_5_17) rfl rfl (l' := #[.val (.ref x1), .val (.ref b1), .val (.int (3 : Int32)), .val (.int (2 : Int32)), .val (.ref g2)]) rfl ?_
        show own_S p e below T26 (mkF m 19 #[.val (.ref x1), .val (.ref b1), .val (.int (3 : Int32)), .val (.int (2 : Int32)), .val (.ref g2)] []) _
        refine XS.aload X26.here hx rfl (hb hby d_prog_18_method_5_19) rfl rfl ?_
        exact kt)
      obtain ⟨T31, X31, e31, st31⟩ := getF X26 hx hZ hown (host := "") (Or.inl (hw _ (List.mem_of_getElem? (i := 48) rfl))) Via.refl eq26 (Fg2.ext O3.2) (g := (mkF m 21 #[.val (.ref x1), .val (.ref b1), .val (.int (3 : Int32)), .val (.int (2 : Int32)), .val (.ref g2)] [(.ref g2)])) rfl rfl (hb hby d_prog_18_method_5_21)
      have kn32 : ∀ t, own_S p e below T31 (mkF m 24 #[.val (.ref x1), .val (.ref b1), .val (.int (3 : Int32)), .val (.int (2 : Int32)), .val (.ref g2)] [(.ref y2)]) t → Gl t := fun t kt => kn30 t (st31 _ kt)
      have kn33 : ∀ t, own_S p e below T31 (mkF m 25 #[.val (.ref x1), .val (.ref b1), .val (.int (3 : Int32)), .val (.int (2 : Int32)), .val (.ref g2)] [(.ref x1), (.ref y2)]) t → Gl t := fun t kt => kn32 t (by
        show own_S p e below T31 (mkF m 24 #[.val (.ref x1), .val (.ref b1), .val (.int (3 : Int32)), .val (.int (2 : Int32)), .val (.ref g2)] [(.ref y2)]) _
        refine XS.aloadN X31.here hx rfl (hb hby d_prog_18_method_5_24) rfl rfl ?_
        exact kt)
      have hp_y2 : ∀ c ∈ ([(51 : Int32)] : List Int32), ¬ c < 0 ∧ ¬ (255 : Int32) < c := by decide
      have hcd_y2 : StrChars.Road.CodA ([(51 : Int32)] : List Int32) 0 (1 : Int32) ((([(51 : Int32)] : List Int32).map (fun c => c.toInt8.toInt32)).map Value.int) := StrChars.Road.codOf (n := 1) rfl (fun x hx => (hp_y2 x hx).2)
      have hbd_y2 : ∀ x ∈ ([(51 : Int32)] : List Int32), ¬ x < 0 ∧ ¬ (65535 : Int32) < x := own_up _ hp_y2
      obtain ⟨cq34, kq34, qa34, qb34, qc34⟩ := isOf hZ e31 (Ey2.ext O3.2)
      obtain ⟨_, _, ⟨T34, L34, cc34, ss34⟩, -, X34, ⟨Lc34, hQ34, l34, y34, z34⟩, st34⟩ := X31.virtualBack hx (y := (⟨"java/lang/String", "equals", "(Ljava/lang/Object;)Z"⟩ : MethodName)) (z := (⟨"java/lang/String", "equals", "(Ljava/lang/Object;)Z"⟩ : MethodName)) hown (mvT hZ (hw _ (List.mem_of_getElem? (i := 50) rfl))) (mvT hZ (hw _ (List.mem_of_getElem? (i := 51) rfl))) (notFace_of_selects (args := #[]) (mvT hZ (hw _ (List.mem_of_getElem? (i := 53) rfl)))) (mvT hZ (hw _ (List.mem_of_getElem? (i := 53) rfl))) (mvT hZ (hw _ (List.mem_of_getElem? (i := 52) rfl))) (by decide) (StrChars.Road.eqW (W := 0) hZ heq (kI := 4) (hw _ (List.mem_of_getElem? (i := 6) rfl)) (Ey2.ext O3.2) (Vy2.ext O3.2) (Cy2.ext O3.2) (Ky2.ext O3.2) hcd_y2 hbd_y2 (Nat.le_of_ble_eq_true rfl) f15 f16 f17 f18 hcd hbd hlen (O2.ext O3.2) P5 (by decide) (by decide)) qa34 qc34 (g := (mkF m 25 #[.val (.ref x1), .val (.ref b1), .val (.int (3 : Int32)), .val (.int (2 : Int32)), .val (.ref g2)] [(.ref x1), (.ref y2)])) rfl (by rw [hml]; rfl) (Steps.refl _) (argsL := [(.ref x1)]) (rest := []) (lenOf pd_2 rfl) rfl (by show 2 * 0 + _ ≤ _; exact Nat.le_of_eq rfl) (hb hby d_prog_18_method_5_25) (fun _ _ => ⟨rfl, e31, (by decide : 1 + 0 ≤ _), (by decide : 3 + 0 ≤ _)⟩)
      dsimp only [Pt.U, Pt.locs, Pt.cells, Pt.slots] at X34 l34 y34 z34 st34 hQ34
      subst l34 y34 z34
      obtain ⟨hd34, rfl, eq34⟩ := hQ34
      have Nf34 := Fr.app Nf26 (Fr.nil n0)
      rcases hd34 with ⟨rfl, hq34⟩ | ⟨rfl, hq34⟩
      · exact absurd hq34 q2
      · have kn35 : ∀ t, own_S p e below T34 (mkF m 28 #[.val (.ref x1), .val (.ref b1), .val (.int (3 : Int32)), .val (.int (2 : Int32)), .val (.ref g2)] [(.int (0 : Int32))]) t → Gl t := fun t kt => kn33 t (st34.trans kt)
        have kn36 : ∀ t, own_S p e below T34 (mkF m 41 #[.val (.ref x1), .val (.ref b1), .val (.int (3 : Int32)), .val (.int (3 : Int32)), .val (.ref g2)] [.null]) t → Gl t := fun t kt => kn35 t (by
          show own_S p e below T34 (mkF m 28 #[.val (.ref x1), .val (.ref b1), .val (.int (3 : Int32)), .val (.int (2 : Int32)), .val (.ref g2)] [(.int (0 : Int32))]) _
          refine XS.ifYes X34.here hx rfl (pc0 := 28) (pc' := 34) rfl (hb hby d_prog_18_method_5_28) rfl ((if0 _ _).trans (teq (by decide : (0 : Int32) = (0 : Int32))).1) (by decide) (by decide) ?_
          show own_S p e below T34 (mkF m 34 #[.val (.ref x1), .val (.ref b1), .val (.int (3 : Int32)), .val (.int (2 : Int32)), .val (.ref g2)] []) _
          refine XS.iinc X34.here hx rfl (hb hby d_prog_18_method_5_34) rfl (l' := #[.val (.ref x1), .val (.ref b1), .val (.int (3 : Int32)), .val (.int ((2 : Int32) + (1 : Int32))), .val (.ref g2)]) rfl ?_
          rw [(by decide : ((2 : Int32) + (1 : Int32)) = (3 : Int32))]
          show own_S p e below T34 (mkF m 37 #[.val (.ref x1), .val (.ref b1), .val (.int (3 : Int32)), .val (.int (3 : Int32)), .val (.ref g2)] []) _
          refine XS.goto X34.here hx rfl (pc0 := 37) (pc' := 9) rfl (hb hby d_prog_18_method_5_37) (by decide) (by decide) ?_
          show own_S p e below T34 (mkF m 9 #[.val (.ref x1), .val (.ref b1), .val (.int (3 : Int32)), .val (.int (3 : Int32)), .val (.ref g2)] []) _
          refine XS.iloadN X34.here hx rfl (hb hby d_prog_18_method_5_9) rfl ?_
          show own_S p e below T34 (mkF m 10 #[.val (.ref x1), .val (.ref b1), .val (.int (3 : Int32)), .val (.int (3 : Int32)), .val (.ref g2)] [(.int (3 : Int32))]) _
          refine XS.iloadN X34.here hx rfl (hb hby d_prog_18_method_5_10) rfl ?_
          show own_S p e below T34 (mkF m 11 #[.val (.ref x1), .val (.ref b1), .val (.int (3 : Int32)), .val (.int (3 : Int32)), .val (.ref g2)] [(.int (3 : Int32)), (.int (3 : Int32))]) _
          refine XS.icmpYes X34.here hx rfl (pc0 := 11) (pc' := 40) rfl (hb hby d_prog_18_method_5_11) rfl (flt (by decide : ¬ ((3 : Int32) < (3 : Int32)))).2.1 (by decide) (by decide) ?_
          show own_S p e below T34 (mkF m 40 #[.val (.ref x1), .val (.ref b1), .val (.int (3 : Int32)), .val (.int (3 : Int32)), .val (.ref g2)] []) _
          refine XS.aconstNull X34.here hx rfl (hb hby d_prog_18_method_5_40) ?_
          exact kt)
        obtain ⟨fs, hr, hrun, hended, hW, hsame⟩ := X34.leave (v := some .null) (fun h => by rw [Bd.returns] at h; cases h)
        refine ⟨_, _, hGl _ (kn36 _ (by
            show own_S p e below T34 (mkF m 41 #[.val (.ref x1), .val (.ref b1), .val (.int (3 : Int32)), .val (.int (3 : Int32)), .val (.ref g2)] [.null]) _
            jvm_step X34.here [X34.here.top, hx, (hb hby d_prog_18_method_5_41), X34.method', Bd.returns, Value.isRef, FieldType.isReference]
            first | (intro acts; rw [hr _ acts rfl rfl rfl]) | rw [hr _ _ rfl rfl rfl]
            exact Steps.refl _)), hrun, hended, _, _, rfl, ?_, ⟨_, rfl⟩, hW, hsame.mono (by decide) (by decide)⟩
        show QFind3 Z x1 t1 k1 cs N1 vs bV kV g0 y0 ty0 ky0 g1 y1 ty1 ky1 g2 y2 ty2 ky2 G1 h0 n0 _ T34.heap _
        rw [eq34]
        exact ⟨rfl, Nf34, K4⟩

theorem pd_3 : parseMethodDescriptor "(I)C" = some ⟨[.int], some .char⟩ := by decide +kernel
theorem pd_4 : parseMethodDescriptor "([C)V" = some ⟨[(.array .char)], none⟩ := by decide +kernel
theorem pd_5 : parseMethodDescriptor "(Ljava/lang/String;)Lcom/example/runs_to_scores/runstoscores/formats/GenomicsJudgment;" = some ⟨[(.object "java/lang/String")], some (.object "com/example/runs_to_scores/runstoscores/formats/GenomicsJudgment")⟩ := by decide +kernel
theorem ef_rm0 (m : MethodId) (x0 : Int32) (x1 : Int32) (x2 : Int32) (x3 : Int32) : entryFrame m #[(.int x0), (.int x1), (.int x2), (.int x3)] maxLocals = mkF m 0 #[.val (.int x0), .val (.int x1), .val (.int x2), .val (.int x3), .unset, .unset, .unset, .unset, .unset, .unset, .unset] [] := by first | (simp [entryFrame, mkF, argsToLocals, Value.category, maxLocals]; done) | rfl
def Q0 (Z : State) (p1 : Int32) (p2 : Int32) (p3 : Int32) (p4 : Int32) (bV : Addr) (kV : ClassId) (g0 : Addr) (y0 : Addr) (ty0 : Addr) (ky0 : ClassId) (g1 : Addr) (y1 : Addr) (ty1 : Addr) (ky1 : ClassId) (g2 : Addr) (y2 : Addr) (ty2 : Addr) (ky2 : ClassId) (G1 : Int32) (h0 : Heap) (n0 : Nat) (v : Option Value) (h : Heap) (L : List Loc) : Prop := v = some (.int (1 : Int32)) ∧ Fr n0 L
set_option maxRecDepth 65536 in
set_option maxHeartbeats 40000000 in
theorem rm0 (l : Launch) (Z : State) (a0 : Array Value) (hw : ∀ d ∈ tables_1, d.before a0 Z = true) (ws : List Jvm.Cond) (p1 : Int32) (p2 : Int32) (p3 : Int32) (p4 : Int32) (bV : Addr) (kV : ClassId) (g0 : Addr) (y0 : Addr) (ty0 : Addr) (ky0 : ClassId) (g1 : Addr) (y1 : Addr) (ty1 : Addr) (ky1 : ClassId) (g2 : Addr) (y2 : Addr) (ty2 : Addr) (ky2 : ClassId) (G1 : Int32) (h0 : Heap) (n0 : Nat) (Z0 : n0 ≤ h0.size) (O0 : Old Z n0 h0) (O2 : Sta Z Z.heap "java/lang/String" "COMPACT_STRINGS" "Z" (.int G1)) (P5 : ¬ (G1 = (0 : Int32))) (SV : Sta Z Z.heap "com/example/runs_to_scores/runstoscores/formats/GenomicsJudgment" "$VALUES" "[Lcom/example/runs_to_scores/runstoscores/formats/GenomicsJudgment;" (.ref bV)) (EV : Exa Z Z.heap bV "[Lcom/example/runs_to_scores/runstoscores/formats/GenomicsJudgment;") (VV : Arv Z Z.heap bV kV (.object "com/example/runs_to_scores/runstoscores/formats/GenomicsJudgment") (3 : Int32) [(.ref g0), (.ref g1), (.ref g2)] .null) (Fg0 : Fld Z Z.heap g0 "com/example/runs_to_scores/runstoscores/formats/GenomicsJudgment" "code" "Ljava/lang/String;" (.ref y0)) (Ey0 : Exa Z Z.heap y0 "java/lang/String") (Vy0 : Fld Z Z.heap y0 "java/lang/String" "value" "[B" (.ref ty0)) (Cy0 : Fld Z Z.heap y0 "java/lang/String" "coder" "B" (.int (0 : Int32))) (Ky0 : Arv Z Z.heap ty0 ky0 .byte (1 : Int32) ((([(49 : Int32)] : List Int32).map (fun c => c.toInt8.toInt32)).map Value.int) (.int (0 : Int32))) (Fg1 : Fld Z Z.heap g1 "com/example/runs_to_scores/runstoscores/formats/GenomicsJudgment" "code" "Ljava/lang/String;" (.ref y1)) (Ey1 : Exa Z Z.heap y1 "java/lang/String") (Vy1 : Fld Z Z.heap y1 "java/lang/String" "value" "[B" (.ref ty1)) (Cy1 : Fld Z Z.heap y1 "java/lang/String" "coder" "B" (.int (0 : Int32))) (Ky1 : Arv Z Z.heap ty1 ky1 .byte (1 : Int32) ((([(50 : Int32)] : List Int32).map (fun c => c.toInt8.toInt32)).map Value.int) (.int (0 : Int32))) (Fg2 : Fld Z Z.heap g2 "com/example/runs_to_scores/runstoscores/formats/GenomicsJudgment" "code" "Ljava/lang/String;" (.ref y2)) (Ey2 : Exa Z Z.heap y2 "java/lang/String") (Vy2 : Fld Z Z.heap y2 "java/lang/String" "value" "[B" (.ref ty2)) (Cy2 : Fld Z Z.heap y2 "java/lang/String" "coder" "B" (.int (0 : Int32))) (Ky2 : Arv Z Z.heap ty2 ky2 .byte (1 : Int32) ((([(51 : Int32)] : List Int32).map (fun c => c.toInt8.toInt32)).map Value.int) (.int (0 : Int32))) (Sg0 : Sta Z Z.heap "com/example/runs_to_scores/runstoscores/formats/GenomicsJudgment" "DEFINITELY_RELEVANT" "Lcom/example/runs_to_scores/runstoscores/formats/GenomicsJudgment;" (.ref g0)) (Sg1 : Sta Z Z.heap "com/example/runs_to_scores/runstoscores/formats/GenomicsJudgment" "POSSIBLY_RELEVANT" "Lcom/example/runs_to_scores/runstoscores/formats/GenomicsJudgment;" (.ref g1)) (Sg2 : Sta Z Z.heap "com/example/runs_to_scores/runstoscores/formats/GenomicsJudgment" "NOT_RELEVANT" "Lcom/example/runs_to_scores/runstoscores/formats/GenomicsJudgment;" (.ref g2)) (hn0 : n0 = h0.size) (hz0 : h0 = Z.heap) (HC : ∀ p ∈ consts_1, Jvm.Lit.constHeld Z p.1 p.2) (hcw : Jvm.Lit.compactW.before a0 Z = true) :
    MetFree l x (head1 (Jvm.Cond.code x code maxLocals ret :: ws) room_1) (fun a U => a = #[(.int p1), (.int p2), (.int p3), (.int p4)] ∧ Z.Warmed39 U.vm ∧ U.heap = h0 ∧ U.vm = Z.vm) (fun _ _ _ _ _ => True) (fun _ U o U' => ∃ v L, o = .returned v ∧ Q0 Z p1 p2 p3 p4 bV kV g0 y0 ty0 ky0 g1 y1 ty1 ky1 g2 y2 ty2 ky2 G1 h0 n0 v U'.heap L ∧ ReturnedEndW U o U' L 24 1152) := by
  refine MetFree.of_bodySF (plainFor_of_name pn_0) hisR ?_
  intro p e s m args below meth c s₁ Bd hml0 hP hK
  obtain ⟨rfl, hZ, hh, hvz⟩ := hP
  have hx := Bd.exec
  have hby := Bd.bytes
  have hml : c.maxLocals = 11 := hml0
  have hown : s.vm.findClass "com/example/runs_to_scores/runstoscores/formats/GenomicsJudgmentCodedPinLaw" = some m.cls := findClass_of_methodNamed Bd.named
  have hnm := (name_of_methodNamed Bd.named Bd.method).1
  have X0 : Stand p l e room_1 s m #[(.int p1), (.int p2), (.int p3), (.int p4)] below meth c s₁ [] 0 0 := Stand.of_body Bd
  have e0 : s₁.heap = h0 := by rw [← hh, Bd.state]; rfl
  have Nf0 := Fr.nil n0
  obtain ⟨Gl, hGl, kn0⟩ : ∃ Gl : State → Prop, (∀ t, Gl t → Steps p.tables e below (s₁.setTop (entryFrame m #[(.int p1), (.int p2), (.int p3), (.int p4)] maxLocals)) t) ∧ ∀ t, own_S p e below s₁ (mkF m 0 #[.val (.int p1), .val (.int p2), .val (.int p3), .val (.int p4), .unset, .unset, .unset, .unset, .unset, .unset, .unset] []) t → Gl t := ⟨fun t => Steps p.tables e below (s₁.setTop (entryFrame m #[(.int p1), (.int p2), (.int p3), (.int p4)] maxLocals)) t, fun _ k => k, fun t k => castTop (ef_rm0 m p1 p2 p3 p4) k⟩
  have kn1 : ∀ t, own_S p e below s₁ (mkF m 3 #[.val (.int p1), .val (.int p2), .val (.int p3), .val (.int p4), .unset, .unset, .unset, .unset, .unset, .unset, .unset] [(.int (p1 &&& (3 : Int32)))]) t → Gl t := fun t kt => kn0 t (by
    show own_S p e below s₁ (mkF m 0 #[.val (.int p1), .val (.int p2), .val (.int p3), .val (.int p4), .unset, .unset, .unset, .unset, .unset, .unset, .unset] []) _
    refine XS.iloadN X0.here hx rfl (hb hby at_0) rfl ?_
    show own_S p e below s₁ (mkF m 1 #[.val (.int p1), .val (.int p2), .val (.int p3), .val (.int p4), .unset, .unset, .unset, .unset, .unset, .unset, .unset] [(.int p1)]) _
    refine XS.iconst X0.here hx rfl (hb hby at_1) ?_
    show own_S p e below s₁ (mkF m 2 #[.val (.int p1), .val (.int p2), .val (.int p3), .val (.int p4), .unset, .unset, .unset, .unset, .unset, .unset, .unset] [(.int (3 : Int32)), (.int p1)]) _
    refine XS.iand X0.here hx rfl (hb hby at_2) rfl ?_
    exact kt)
  rcases own_3 p1 with hk | hk | hk | hk
  · rw [(show (p1 &&& (3 : Int32)) = (0 : Int32) from hk)] at kn1
    have kn2 : ∀ t, own_S p e below s₁ (mkF m 6 #[.val (.int p1), .val (.int p2), .val (.int p3), .val (.int p4), .val (.int (0 : Int32)), .unset, .unset, .unset, .unset, .unset, .unset] [(.int p2)]) t → Gl t := fun t kt => kn1 t (by
      show own_S p e below s₁ (mkF m 3 #[.val (.int p1), .val (.int p2), .val (.int p3), .val (.int p4), .unset, .unset, .unset, .unset, .unset, .unset, .unset] [(.int (0 : Int32))]) _
      refine XS.istore X0.here hx rfl (hb hby at_3) rfl (l' := #[.val (.int p1), .val (.int p2), .val (.int p3), .val (.int p4), .val (.int (0 : Int32)), .unset, .unset, .unset, .unset, .unset, .unset]) rfl ?_
      show own_S p e below s₁ (mkF m 5 #[.val (.int p1), .val (.int p2), .val (.int p3), .val (.int p4), .val (.int (0 : Int32)), .unset, .unset, .unset, .unset, .unset, .unset] []) _
      refine XS.iloadN X0.here hx rfl (hb hby at_5) rfl ?_
      exact kt)
    obtain ⟨_, _, ⟨T3, L3, cc3, ss3⟩, -, X3, ⟨Lc3, hQ3, l3, y3, z3⟩, st3⟩ := Jvm.LawKit.callS X0 hx (y := (⟨"com/example/runs_to_scores/runstoscores/formats/GenomicsJudgmentCodedPinLaw", "drawn", "(I)C"⟩ : MethodName)) hown (mvT hZ (hw _ (List.mem_of_getElem? (i := 0) rfl))) (mvT hZ (hw _ (List.mem_of_getElem? (i := 1) rfl))) (mvT hZ (hw _ (List.mem_of_getElem? (i := 2) rfl))) (mvT hZ (hw _ (List.mem_of_getElem? (i := 3) rfl))) (by decide) (backOf (W := 0) (rm1 l Z a0 hw [] p2  h0 n0 Z0 ) hZ (hw _ (List.mem_of_getElem? (i := 3) rfl)) (hw _ (List.mem_of_getElem? (i := 2) rfl)) (by decide) (by decide)) (g := (mkF m 6 #[.val (.int p1), .val (.int p2), .val (.int p3), .val (.int p4), .val (.int (0 : Int32)), .unset, .unset, .unset, .unset, .unset, .unset] [(.int p2)])) rfl (by rw [hml]; rfl) (argsL := [(.int p2)]) (rest := []) (lenOf pd_3 rfl) rfl (by show 2 * 0 + _ ≤ _; exact Nat.le_of_eq rfl) (hb hby at_6) (fun _ _ => ⟨rfl, e0, (by decide : 0 + 0 ≤ _), (by decide : 0 + 0 ≤ _)⟩)
    dsimp only [Pt.U, Pt.locs, Pt.cells, Pt.slots] at X3 l3 y3 z3 st3 hQ3
    subst l3 y3 z3
    obtain ⟨rfl, Nq3, eq3⟩ := hQ3
    have Nf3 := Fr.app Nf0 Nq3
    have kn4 : ∀ t, own_S p e below T3 (mkF m 9 #[.val (.int p1), .val (.int p2), .val (.int p3), .val (.int p4), .val (.int (0 : Int32)), .unset, .unset, .unset, .unset, .unset, .unset] [(.int (own_dr p2))]) t → Gl t := fun t kt => kn2 t (st3 _ kt)
    have kn5 : ∀ t, own_S p e below T3 (mkF m 12 #[.val (.int p1), .val (.int p2), .val (.int p3), .val (.int p4), .val (.int (0 : Int32)), .val (.int (own_dr p2)), .unset, .unset, .unset, .unset, .unset] [(.int p3)]) t → Gl t := fun t kt => kn4 t (by
      show own_S p e below T3 (mkF m 9 #[.val (.int p1), .val (.int p2), .val (.int p3), .val (.int p4), .val (.int (0 : Int32)), .unset, .unset, .unset, .unset, .unset, .unset] [(.int (own_dr p2))]) _
      refine XS.istore X3.here hx rfl (hb hby at_9) rfl (l' := #[.val (.int p1), .val (.int p2), .val (.int p3), .val (.int p4), .val (.int (0 : Int32)), .val (.int (own_dr p2)), .unset, .unset, .unset, .unset, .unset]) rfl ?_
      show own_S p e below T3 (mkF m 11 #[.val (.int p1), .val (.int p2), .val (.int p3), .val (.int p4), .val (.int (0 : Int32)), .val (.int (own_dr p2)), .unset, .unset, .unset, .unset, .unset] []) _
      refine XS.iloadN X3.here hx rfl (hb hby at_11) rfl ?_
      exact kt)
    obtain ⟨_, _, ⟨T6, L6, cc6, ss6⟩, -, X6, ⟨Lc6, hQ6, l6, y6, z6⟩, st6⟩ := Jvm.LawKit.callS X3 hx (y := (⟨"com/example/runs_to_scores/runstoscores/formats/GenomicsJudgmentCodedPinLaw", "drawn", "(I)C"⟩ : MethodName)) hown (mvT hZ (hw _ (List.mem_of_getElem? (i := 0) rfl))) (mvT hZ (hw _ (List.mem_of_getElem? (i := 1) rfl))) (mvT hZ (hw _ (List.mem_of_getElem? (i := 2) rfl))) (mvT hZ (hw _ (List.mem_of_getElem? (i := 3) rfl))) (by decide) (backOf (W := 0) (rm1 l Z a0 hw [] p3  h0 n0 Z0 ) hZ (hw _ (List.mem_of_getElem? (i := 3) rfl)) (hw _ (List.mem_of_getElem? (i := 2) rfl)) (by decide) (by decide)) (g := (mkF m 12 #[.val (.int p1), .val (.int p2), .val (.int p3), .val (.int p4), .val (.int (0 : Int32)), .val (.int (own_dr p2)), .unset, .unset, .unset, .unset, .unset] [(.int p3)])) rfl (by rw [hml]; rfl) (argsL := [(.int p3)]) (rest := []) (lenOf pd_3 rfl) rfl (by show 2 * 0 + _ ≤ _; exact Nat.le_of_eq rfl) (hb hby at_12) (fun _ _ => ⟨rfl, eq3, (by decide : 0 + 0 ≤ _), (by decide : 0 + 0 ≤ _)⟩)
    dsimp only [Pt.U, Pt.locs, Pt.cells, Pt.slots] at X6 l6 y6 z6 st6 hQ6
    subst l6 y6 z6
    obtain ⟨rfl, Nq6, eq6⟩ := hQ6
    have Nf6 := Fr.app Nf3 Nq6
    have kn7 : ∀ t, own_S p e below T6 (mkF m 15 #[.val (.int p1), .val (.int p2), .val (.int p3), .val (.int p4), .val (.int (0 : Int32)), .val (.int (own_dr p2)), .unset, .unset, .unset, .unset, .unset] [(.int (own_dr p3))]) t → Gl t := fun t kt => kn5 t (st6 _ kt)
    have kn8 : ∀ t, own_S p e below T6 (mkF m 18 #[.val (.int p1), .val (.int p2), .val (.int p3), .val (.int p4), .val (.int (0 : Int32)), .val (.int (own_dr p2)), .val (.int (own_dr p3)), .unset, .unset, .unset, .unset] [(.int p4)]) t → Gl t := fun t kt => kn7 t (by
      show own_S p e below T6 (mkF m 15 #[.val (.int p1), .val (.int p2), .val (.int p3), .val (.int p4), .val (.int (0 : Int32)), .val (.int (own_dr p2)), .unset, .unset, .unset, .unset, .unset] [(.int (own_dr p3))]) _
      refine XS.istore X6.here hx rfl (hb hby at_15) rfl (l' := #[.val (.int p1), .val (.int p2), .val (.int p3), .val (.int p4), .val (.int (0 : Int32)), .val (.int (own_dr p2)), .val (.int (own_dr p3)), .unset, .unset, .unset, .unset]) rfl ?_
      show own_S p e below T6 (mkF m 17 #[.val (.int p1), .val (.int p2), .val (.int p3), .val (.int p4), .val (.int (0 : Int32)), .val (.int (own_dr p2)), .val (.int (own_dr p3)), .unset, .unset, .unset, .unset] []) _
      refine XS.iloadN X6.here hx rfl (hb hby at_17) rfl ?_
      exact kt)
    obtain ⟨_, _, ⟨T9, L9, cc9, ss9⟩, -, X9, ⟨Lc9, hQ9, l9, y9, z9⟩, st9⟩ := Jvm.LawKit.callS X6 hx (y := (⟨"com/example/runs_to_scores/runstoscores/formats/GenomicsJudgmentCodedPinLaw", "drawn", "(I)C"⟩ : MethodName)) hown (mvT hZ (hw _ (List.mem_of_getElem? (i := 0) rfl))) (mvT hZ (hw _ (List.mem_of_getElem? (i := 1) rfl))) (mvT hZ (hw _ (List.mem_of_getElem? (i := 2) rfl))) (mvT hZ (hw _ (List.mem_of_getElem? (i := 3) rfl))) (by decide) (backOf (W := 0) (rm1 l Z a0 hw [] p4  h0 n0 Z0 ) hZ (hw _ (List.mem_of_getElem? (i := 3) rfl)) (hw _ (List.mem_of_getElem? (i := 2) rfl)) (by decide) (by decide)) (g := (mkF m 18 #[.val (.int p1), .val (.int p2), .val (.int p3), .val (.int p4), .val (.int (0 : Int32)), .val (.int (own_dr p2)), .val (.int (own_dr p3)), .unset, .unset, .unset, .unset] [(.int p4)])) rfl (by rw [hml]; rfl) (argsL := [(.int p4)]) (rest := []) (lenOf pd_3 rfl) rfl (by show 2 * 0 + _ ≤ _; exact Nat.le_of_eq rfl) (hb hby at_18) (fun _ _ => ⟨rfl, eq6, (by decide : 0 + 0 ≤ _), (by decide : 0 + 0 ≤ _)⟩)
    dsimp only [Pt.U, Pt.locs, Pt.cells, Pt.slots] at X9 l9 y9 z9 st9 hQ9
    subst l9 y9 z9
    obtain ⟨rfl, Nq9, eq9⟩ := hQ9
    have Nf9 := Fr.app Nf6 Nq9
    have kn10 : ∀ t, own_S p e below T9 (mkF m 21 #[.val (.int p1), .val (.int p2), .val (.int p3), .val (.int p4), .val (.int (0 : Int32)), .val (.int (own_dr p2)), .val (.int (own_dr p3)), .unset, .unset, .unset, .unset] [(.int (own_dr p4))]) t → Gl t := fun t kt => kn8 t (st9 _ kt)
    have kn11 : ∀ t, own_S p e below T9 (mkF m 29 #[.val (.int p1), .val (.int p2), .val (.int p3), .val (.int p4), .val (.int (0 : Int32)), .val (.int (own_dr p2)), .val (.int (own_dr p3)), .val (.int (own_dr p4)), .unset, .unset, .unset] [(.int (0 : Int32))]) t → Gl t := fun t kt => kn10 t (by
      show own_S p e below T9 (mkF m 21 #[.val (.int p1), .val (.int p2), .val (.int p3), .val (.int p4), .val (.int (0 : Int32)), .val (.int (own_dr p2)), .val (.int (own_dr p3)), .unset, .unset, .unset, .unset] [(.int (own_dr p4))]) _
      refine XS.istore X9.here hx rfl (hb hby at_21) rfl (l' := #[.val (.int p1), .val (.int p2), .val (.int p3), .val (.int p4), .val (.int (0 : Int32)), .val (.int (own_dr p2)), .val (.int (own_dr p3)), .val (.int (own_dr p4)), .unset, .unset, .unset]) rfl ?_
      show own_S p e below T9 (mkF m 23 #[.val (.int p1), .val (.int p2), .val (.int p3), .val (.int p4), .val (.int (0 : Int32)), .val (.int (own_dr p2)), .val (.int (own_dr p3)), .val (.int (own_dr p4)), .unset, .unset, .unset] []) _
      refine XS.iload X9.here hx rfl (hb hby at_23) rfl ?_
      show own_S p e below T9 (mkF m 25 #[.val (.int p1), .val (.int p2), .val (.int p3), .val (.int p4), .val (.int (0 : Int32)), .val (.int (own_dr p2)), .val (.int (own_dr p3)), .val (.int (own_dr p4)), .unset, .unset, .unset] [(.int (0 : Int32))]) _
      refine XS.ifNo X9.here hx rfl (hb hby at_25) rfl ((if0 _ _).trans (teq (by decide : (0 : Int32) = (0 : Int32))).2) ?_
      show own_S p e below T9 (mkF m 28 #[.val (.int p1), .val (.int p2), .val (.int p3), .val (.int p4), .val (.int (0 : Int32)), .val (.int (own_dr p2)), .val (.int (own_dr p3)), .val (.int (own_dr p4)), .unset, .unset, .unset] []) _
      refine XS.iconst X9.here hx rfl (hb hby at_28) ?_
      exact kt)
    obtain ⟨T12, h12, kk12, X12, e12, E12, A12, st12⟩ := newP X9 hx hZ (hw _ (List.mem_of_getElem? (i := 4) rfl)) eq9 (g := (mkF m 29 #[.val (.int p1), .val (.int p2), .val (.int p3), .val (.int p4), .val (.int (0 : Int32)), .val (.int (own_dr p2)), .val (.int (own_dr p3)), .val (.int (own_dr p4)), .unset, .unset, .unset] [(.int (0 : Int32))])) rfl (hb hby at_29) rfl (by decide) (cap := 0) (by decide) (by decide) (by decide) (by decide)
    obtain ⟨b12, g12⟩ : ∃ z, z = h0.size := ⟨_, rfl⟩
    rw [← g12] at A12 st12
    have g_b12 : n0 ≤ b12 := Nat.le_trans Z0 (Nat.le_of_eq g12.symm)
    have Z13 : n0 ≤ h12.size := Nat.le_trans Z0 E12.1
    have O14 : Old Z n0 h12 := O0.ext E12
    have V12 : Arv Z h12 b12 kk12 .char (0 : Int32) [] (.int (0 : Int32)) := (Arv.new A12 (by decide)).pad (pad_rep [] (.int (0 : Int32)) 0)
    have kn15 : ∀ t, own_S p e below T12 (mkF m 31 #[.val (.int p1), .val (.int p2), .val (.int p3), .val (.int p4), .val (.int (0 : Int32)), .val (.int (own_dr p2)), .val (.int (own_dr p3)), .val (.int (own_dr p4)), .unset, .unset, .unset] [(.ref b12)]) t → Gl t := fun t kt => kn11 t (st12 _ kt)
    have kn16 : ∀ t, own_S p e below T12 (mkF m 99 #[.val (.int p1), .val (.int p2), .val (.int p3), .val (.int p4), .val (.int (0 : Int32)), .val (.int (own_dr p2)), .val (.int (own_dr p3)), .val (.int (own_dr p4)), .val (.ref b12), .unset, .unset] []) t → Gl t := fun t kt => kn15 t (by
      show own_S p e below T12 (mkF m 31 #[.val (.int p1), .val (.int p2), .val (.int p3), .val (.int p4), .val (.int (0 : Int32)), .val (.int (own_dr p2)), .val (.int (own_dr p3)), .val (.int (own_dr p4)), .unset, .unset, .unset] [(.ref b12)]) _
      refine XS.astore X12.here hx rfl (hb hby at_31) rfl rfl (l' := #[.val (.int p1), .val (.int p2), .val (.int p3), .val (.int p4), .val (.int (0 : Int32)), .val (.int (own_dr p2)), .val (.int (own_dr p3)), .val (.int (own_dr p4)), .val (.ref b12), .unset, .unset]) rfl ?_
      show own_S p e below T12 (mkF m 33 #[.val (.int p1), .val (.int p2), .val (.int p3), .val (.int p4), .val (.int (0 : Int32)), .val (.int (own_dr p2)), .val (.int (own_dr p3)), .val (.int (own_dr p4)), .val (.ref b12), .unset, .unset] []) _
      refine XS.goto X12.here hx rfl (pc0 := 33) (pc' := 99) rfl (hb hby at_33) (by decide) (by decide) ?_
      exact kt)
    obtain ⟨T17, h17, X17, e17, E17, A17, D17, -, st17⟩ := newO X12 hx hZ hown (hw _ (List.mem_of_getElem? (i := 5) rfl)) (hw _ (List.mem_of_getElem? (i := 6) rfl)) (hw _ (List.mem_of_getElem? (i := 7) rfl)) e12 (g := (mkF m 99 #[.val (.int p1), .val (.int p2), .val (.int p3), .val (.int p4), .val (.int (0 : Int32)), .val (.int (own_dr p2)), .val (.int (own_dr p3)), .val (.int (own_dr p4)), .val (.ref b12), .unset, .unset] [])) rfl (hb hby at_99) (by decide) (by decide)
    obtain ⟨b17, g17⟩ : ∃ z, z = h12.size := ⟨_, rfl⟩
    rw [← g17] at A17 D17 st17
    have g_b17 : n0 ≤ b17 := Nat.le_trans Z13 (Nat.le_of_eq g17.symm)
    have ne_b12_b17 : b12 ≠ b17 := Nat.ne_of_lt (Nat.lt_of_lt_of_le V12.lt (Nat.le_of_eq g17.symm))
    have Z18 : n0 ≤ h17.size := Nat.le_trans Z13 E17.1
    have O19 : Old Z n0 h17 := O14.ext E17
    have F17_20 : Fld Z h17 b17 "java/lang/String" "value" "[B" .null := D17 (Or.inr (hw _ (List.mem_of_getElem? (i := 20) rfl))) (ty := (.array .byte)) (by decide)
    have F17_21 : Fld Z h17 b17 "java/lang/String" "coder" "B" (.int (0 : Int32)) := D17 (Or.inr (hw _ (List.mem_of_getElem? (i := 21) rfl))) (ty := .byte) (by decide)
    have kn20 : ∀ t, own_S p e below T17 (mkF m 102 #[.val (.int p1), .val (.int p2), .val (.int p3), .val (.int p4), .val (.int (0 : Int32)), .val (.int (own_dr p2)), .val (.int (own_dr p3)), .val (.int (own_dr p4)), .val (.ref b12), .unset, .unset] [(.ref b17)]) t → Gl t := fun t kt => kn16 t (st17 _ kt)
    have kn21 : ∀ t, own_S p e below T17 (mkF m 105 #[.val (.int p1), .val (.int p2), .val (.int p3), .val (.int p4), .val (.int (0 : Int32)), .val (.int (own_dr p2)), .val (.int (own_dr p3)), .val (.int (own_dr p4)), .val (.ref b12), .unset, .unset] [(.ref b12), (.ref b17), (.ref b17)]) t → Gl t := fun t kt => kn20 t (by
      show own_S p e below T17 (mkF m 102 #[.val (.int p1), .val (.int p2), .val (.int p3), .val (.int p4), .val (.int (0 : Int32)), .val (.int (own_dr p2)), .val (.int (own_dr p3)), .val (.int (own_dr p4)), .val (.ref b12), .unset, .unset] [(.ref b17)]) _
      refine XS.dup X17.here hx rfl (hb hby at_102) rfl rfl ?_
      show own_S p e below T17 (mkF m 103 #[.val (.int p1), .val (.int p2), .val (.int p3), .val (.int p4), .val (.int (0 : Int32)), .val (.int (own_dr p2)), .val (.int (own_dr p3)), .val (.int (own_dr p4)), .val (.ref b12), .unset, .unset] [(.ref b17), (.ref b17)]) _
      refine XS.aload X17.here hx rfl (hb hby at_103) rfl rfl ?_
      exact kt)
    have hIB : IB Z s.vm [] := by rw [show s.vm = Z.vm from hvz]; exact IB.start
    have f23 := (V12.ext E17)
    obtain ⟨_, _, ⟨T22, L22, cc22, ss22⟩, -, X22, hSn22, hgr22, ⟨Lc22, hQ22, l22, y22, z22⟩, st22⟩ := X17.specialBackS hx (y := (⟨"java/lang/String", "<init>", "([C)V"⟩ : MethodName)) rfl hown (mvT hZ (hw _ (List.mem_of_getElem? (i := 8) rfl))) (mvT hZ (hw _ (List.mem_of_getElem? (i := 9) rfl))) (mvT hZ (hw _ (List.mem_of_getElem? (i := 10) rfl))) (by decide) (own_backI (W := 1) (rmE2 l Z a0 hw [] b17 b12 kk12 h17 n0 Z18 F17_20 F17_21 A17 g_b17 O19 HC hcw f23) hZ (hw _ (List.mem_of_getElem? (i := 10) rfl)) (hw _ (List.mem_of_getElem? (i := 7) rfl)) (by decide) (by decide) hIB) (g := (mkF m 105 #[.val (.int p1), .val (.int p2), .val (.int p3), .val (.int p4), .val (.int (0 : Int32)), .val (.int (own_dr p2)), .val (.int (own_dr p3)), .val (.int (own_dr p4)), .val (.ref b12), .unset, .unset] [(.ref b12), (.ref b17), (.ref b17)])) rfl (by rw [hml]; rfl) (Steps.refl _) (a := b17) (argsL := [(.ref b12)]) (rest := [(.ref b17)]) (lenOf pd_4 rfl) rfl (by show 2 * 0 + _ ≤ _; exact Nat.le_of_eq rfl) (hb hby at_105) (fun _ _ => ⟨rfl, e17, (by decide : 2 + 2 ≤ _), (by decide : 4 + 8 ≤ _)⟩)
    dsimp only [Pt.U, Pt.locs, Pt.cells, Pt.slots] at X22 l22 y22 z22 st22 hQ22
    subst l22 y22 z22
    have hZ : Z.Warmed39 (s.setVm T22.vm).vm := State.Warmed39.trans hZ hSn22.1
    have hown : (s.setVm T22.vm).vm.findClass "com/example/runs_to_scores/runstoscores/formats/GenomicsJudgmentCodedPinLaw" = some m.cls := by rw [show (s.setVm T22.vm).vm = T22.vm from rfl, hSn22.1.alike.findClass]; exact hown
    obtain ⟨rfl, Nq22, t22, kb22, K22, Ex22, Co22, Va22, Ar22⟩ := hQ22
    have Nf22 := Fr.app Nf9 Nq22
    have Z24 : n0 ≤ T22.heap.size := Nat.le_trans Z18 K22.1
    have O25 : Old Z n0 T22.heap := O19.keep K22 (allS g_b17 all0)
    have hp22 : ∀ c ∈ ([] : List Int32), ¬ c < 0 ∧ ¬ (255 : Int32) < c := fun _ q => nomatch q
    have kn26 : ∀ t, own_S p e below T22 (mkF m 108 #[.val (.int p1), .val (.int p2), .val (.int p3), .val (.int p4), .val (.int (0 : Int32)), .val (.int (own_dr p2)), .val (.int (own_dr p3)), .val (.int (own_dr p4)), .val (.ref b12), .unset, .unset] [(.ref b17)]) t → Gl t := fun t kt => kn21 t (st22.trans kt)
    have kn27 : ∀ t, own_S p e below T22 (mkF m 163 #[.val (.int p1), .val (.int p2), .val (.int p3), .val (.int p4), .val (.int (0 : Int32)), .val (.int (own_dr p2)), .val (.int (own_dr p3)), .val (.int (own_dr p4)), .val (.ref b12), .val (.ref b17), .val .null] [(.ref b17)]) t → Gl t := fun t kt => kn26 t (by
      show own_S p e below T22 (mkF m 108 #[.val (.int p1), .val (.int p2), .val (.int p3), .val (.int p4), .val (.int (0 : Int32)), .val (.int (own_dr p2)), .val (.int (own_dr p3)), .val (.int (own_dr p4)), .val (.ref b12), .unset, .unset] [(.ref b17)]) _
      refine XS.astore X22.here hx rfl (hb hby at_108) rfl rfl (l' := #[.val (.int p1), .val (.int p2), .val (.int p3), .val (.int p4), .val (.int (0 : Int32)), .val (.int (own_dr p2)), .val (.int (own_dr p3)), .val (.int (own_dr p4)), .val (.ref b12), .val (.ref b17), .unset]) rfl ?_
      show own_S p e below T22 (mkF m 110 #[.val (.int p1), .val (.int p2), .val (.int p3), .val (.int p4), .val (.int (0 : Int32)), .val (.int (own_dr p2)), .val (.int (own_dr p3)), .val (.int (own_dr p4)), .val (.ref b12), .val (.ref b17), .unset] []) _
      refine XS.aconstNull X22.here hx rfl (hb hby at_110) ?_
      show own_S p e below T22 (mkF m 111 #[.val (.int p1), .val (.int p2), .val (.int p3), .val (.int p4), .val (.int (0 : Int32)), .val (.int (own_dr p2)), .val (.int (own_dr p3)), .val (.int (own_dr p4)), .val (.ref b12), .val (.ref b17), .unset] [.null]) _
      refine XS.astore X22.here hx rfl (hb hby at_111) rfl rfl (l' := #[.val (.int p1), .val (.int p2), .val (.int p3), .val (.int p4), .val (.int (0 : Int32)), .val (.int (own_dr p2)), .val (.int (own_dr p3)), .val (.int (own_dr p4)), .val (.ref b12), .val (.ref b17), .val .null]) rfl ?_
      show own_S p e below T22 (mkF m 113 #[.val (.int p1), .val (.int p2), .val (.int p3), .val (.int p4), .val (.int (0 : Int32)), .val (.int (own_dr p2)), .val (.int (own_dr p3)), .val (.int (own_dr p4)), .val (.ref b12), .val (.ref b17), .val .null] []) _
      refine XS.iload X22.here hx rfl (hb hby at_113) rfl ?_
      show own_S p e below T22 (mkF m 115 #[.val (.int p1), .val (.int p2), .val (.int p3), .val (.int p4), .val (.int (0 : Int32)), .val (.int (own_dr p2)), .val (.int (own_dr p3)), .val (.int (own_dr p4)), .val (.ref b12), .val (.ref b17), .val .null] [(.int (0 : Int32))]) _
      refine XS.iconst X22.here hx rfl (hb hby at_115) ?_
      show own_S p e below T22 (mkF m 116 #[.val (.int p1), .val (.int p2), .val (.int p3), .val (.int p4), .val (.int (0 : Int32)), .val (.int (own_dr p2)), .val (.int (own_dr p3)), .val (.int (own_dr p4)), .val (.ref b12), .val (.ref b17), .val .null] [(.int (1 : Int32)), (.int (0 : Int32))]) _
      refine XS.icmpYes X22.here hx rfl (pc0 := 116) (pc' := 161) rfl (hb hby at_116) rfl (feq (by decide : ¬ ((0 : Int32) = (1 : Int32)))).2 (by decide) (by decide) ?_
      show own_S p e below T22 (mkF m 161 #[.val (.int p1), .val (.int p2), .val (.int p3), .val (.int p4), .val (.int (0 : Int32)), .val (.int (own_dr p2)), .val (.int (own_dr p3)), .val (.int (own_dr p4)), .val (.ref b12), .val (.ref b17), .val .null] []) _
      refine XS.aload X22.here hx rfl (hb hby at_161) rfl rfl ?_
      exact kt)
    have hcd_b17 : StrChars.Road.CodA ([] : List Int32) 0 (0 : Int32) ((([] : List Int32).map (fun c => c.toInt8.toInt32)).map Value.int) := StrChars.Road.codOf (n := 0) rfl (fun x hx => (hp22 x hx).2)
    have hbd_b17 : ∀ x ∈ ([] : List Int32), ¬ x < 0 ∧ ¬ (65535 : Int32) < x := own_up _ hp22
    obtain ⟨_, _, ⟨T28, L28, cc28, ss28⟩, -, X28, ⟨Lc28, hQ28, l28, y28, z28⟩, st28⟩ := Jvm.LawKit.callS X22 hx (y := (⟨"com/example/runs_to_scores/runstoscores/formats/GenomicsJudgment", "coded", "(Ljava/lang/String;)Lcom/example/runs_to_scores/runstoscores/formats/GenomicsJudgment;"⟩ : MethodName)) hown (mvT hZ (hw _ (List.mem_of_getElem? (i := 26) rfl))) (mvT hZ (hw _ (List.mem_of_getElem? (i := 27) rfl))) (mvT hZ (hw _ (List.mem_of_getElem? (i := 28) rfl))) (mvT hZ (hw _ (List.mem_of_getElem? (i := 29) rfl))) (by decide) (backOf (W := 0) (rmFind3 l Z a0 hw [] b17 t22 kb22 ([] : List Int32) (0 : Int32) ((([] : List Int32).map (fun c => c.toInt8.toInt32)).map Value.int) bV kV g0 y0 ty0 ky0 g1 y1 ty1 ky1 g2 y2 ty2 ky2 G1 T22.heap n0 Z24 Ex22 Va22 Co22 Ar22 hcd_b17 hbd_b17 (Nat.le_of_ble_eq_true rfl) O25 O2 P5 SV EV VV Fg0 Ey0 Vy0 Cy0 Ky0 Fg1 Ey1 Vy1 Cy1 Ky1 Fg2 Ey2 Vy2 Cy2 Ky2 (by simp) (by simp) (by simp)) hZ (hw _ (List.mem_of_getElem? (i := 29) rfl)) (hw _ (List.mem_of_getElem? (i := 28) rfl)) (by decide) (by decide)) (g := (mkF m 163 #[.val (.int p1), .val (.int p2), .val (.int p3), .val (.int p4), .val (.int (0 : Int32)), .val (.int (own_dr p2)), .val (.int (own_dr p3)), .val (.int (own_dr p4)), .val (.ref b12), .val (.ref b17), .val .null] [(.ref b17)])) rfl (by rw [hml]; rfl) (argsL := [(.ref b17)]) (rest := []) (lenOf pd_5 rfl) rfl (by show 2 * 0 + _ ≤ _; exact Nat.le_of_eq rfl) (hb hby at_163) (fun _ _ => ⟨rfl, rfl, (by decide : 4 + 1 ≤ _), (by decide : 12 + 3 ≤ _)⟩)
    dsimp only [Pt.U, Pt.locs, Pt.cells, Pt.slots] at X28 l28 y28 z28 st28 hQ28
    subst l28 y28 z28
    obtain ⟨rfl, Nq28, K28⟩ := hQ28
    have Nf28 := Fr.app Nf22 Nq28
    have Z29 : n0 ≤ T28.heap.size := Nat.le_trans Z24 K28.1
    have hk30 := Nat.le_trans (Nat.le_refl _) K28.1
    have O31 : Old Z n0 T28.heap := O25.keep K28 all0
    have kn32 : ∀ t, own_S p e below T28 (mkF m 166 #[.val (.int p1), .val (.int p2), .val (.int p3), .val (.int p4), .val (.int (0 : Int32)), .val (.int (own_dr p2)), .val (.int (own_dr p3)), .val (.int (own_dr p4)), .val (.ref b12), .val (.ref b17), .val .null] [.null]) t → Gl t := fun t kt => kn27 t (st28 _ kt)
    have kn33 : ∀ t, own_S p e below T28 (mkF m 176 #[.val (.int p1), .val (.int p2), .val (.int p3), .val (.int p4), .val (.int (0 : Int32)), .val (.int (own_dr p2)), .val (.int (own_dr p3)), .val (.int (own_dr p4)), .val (.ref b12), .val (.ref b17), .val .null] [(.int (1 : Int32))]) t → Gl t := fun t kt => kn32 t (by
      show own_S p e below T28 (mkF m 166 #[.val (.int p1), .val (.int p2), .val (.int p3), .val (.int p4), .val (.int (0 : Int32)), .val (.int (own_dr p2)), .val (.int (own_dr p3)), .val (.int (own_dr p4)), .val (.ref b12), .val (.ref b17), .val .null] [.null]) _
      refine XS.aload X28.here hx rfl (hb hby at_166) rfl rfl ?_
      show own_S p e below T28 (mkF m 168 #[.val (.int p1), .val (.int p2), .val (.int p3), .val (.int p4), .val (.int (0 : Int32)), .val (.int (own_dr p2)), .val (.int (own_dr p3)), .val (.int (own_dr p4)), .val (.ref b12), .val (.ref b17), .val .null] [.null, .null]) _
      refine Jvm.RoadKit.acmp (g := (mkF m 168 #[.val (.int p1), .val (.int p2), .val (.int p3), .val (.int p4), .val (.int (0 : Int32)), .val (.int (own_dr p2)), .val (.int (own_dr p3)), .val (.int (own_dr p4)), .val (.ref b12), .val (.ref b17), .val .null] [.null, .null])) X28 hx rfl rfl rfl (pc0 := 168) (pc' := 171) (same := true) rfl (hb hby at_168) rfl (decide_eq_true rfl) (by decide) (by decide) ?_
      show own_S p e below T28 (mkF m 171 #[.val (.int p1), .val (.int p2), .val (.int p3), .val (.int p4), .val (.int (0 : Int32)), .val (.int (own_dr p2)), .val (.int (own_dr p3)), .val (.int (own_dr p4)), .val (.ref b12), .val (.ref b17), .val .null] []) _
      refine XS.iconst X28.here hx rfl (hb hby at_171) ?_
      show own_S p e below T28 (mkF m 172 #[.val (.int p1), .val (.int p2), .val (.int p3), .val (.int p4), .val (.int (0 : Int32)), .val (.int (own_dr p2)), .val (.int (own_dr p3)), .val (.int (own_dr p4)), .val (.ref b12), .val (.ref b17), .val .null] [(.int (1 : Int32))]) _
      refine XS.goto X28.here hx rfl (pc0 := 172) (pc' := 176) rfl (hb hby at_172) (by decide) (by decide) ?_
      exact kt)
    obtain ⟨fs, hr, hrun, hended, hRW⟩ := X28.leaveW hSn22 hk30 (v := some (.int (1 : Int32))) (fun h => by rw [Bd.returns] at h; cases h)
    refine ⟨_, _, hGl _ (kn33 _ (retN X28 hx (t := .boolean) Bd.returns (by simp) (hb hby at_176) hr)), hrun, hended, _, _, rfl, ?_, ⟨hRW.1, hRW.2.1, hRW.2.2.1, hRW.2.2.2.mono (by decide) (by decide)⟩⟩
    show Q0 Z p1 p2 p3 p4 bV kV g0 y0 ty0 ky0 g1 y1 ty1 ky1 g2 y2 ty2 ky2 G1 h0 n0 _ T28.heap _
    exact ⟨rfl, Nf28⟩
  · rw [(show (p1 &&& (3 : Int32)) = (1 : Int32) from hk)] at kn1
    have kn34 : ∀ t, own_S p e below s₁ (mkF m 6 #[.val (.int p1), .val (.int p2), .val (.int p3), .val (.int p4), .val (.int (1 : Int32)), .unset, .unset, .unset, .unset, .unset, .unset] [(.int p2)]) t → Gl t := fun t kt => kn1 t (by
      show own_S p e below s₁ (mkF m 3 #[.val (.int p1), .val (.int p2), .val (.int p3), .val (.int p4), .unset, .unset, .unset, .unset, .unset, .unset, .unset] [(.int (1 : Int32))]) _
      refine XS.istore X0.here hx rfl (hb hby at_3) rfl (l' := #[.val (.int p1), .val (.int p2), .val (.int p3), .val (.int p4), .val (.int (1 : Int32)), .unset, .unset, .unset, .unset, .unset, .unset]) rfl ?_
      show own_S p e below s₁ (mkF m 5 #[.val (.int p1), .val (.int p2), .val (.int p3), .val (.int p4), .val (.int (1 : Int32)), .unset, .unset, .unset, .unset, .unset, .unset] []) _
      refine XS.iloadN X0.here hx rfl (hb hby at_5) rfl ?_
      exact kt)
    obtain ⟨_, _, ⟨T35, L35, cc35, ss35⟩, -, X35, ⟨Lc35, hQ35, l35, y35, z35⟩, st35⟩ := Jvm.LawKit.callS X0 hx (y := (⟨"com/example/runs_to_scores/runstoscores/formats/GenomicsJudgmentCodedPinLaw", "drawn", "(I)C"⟩ : MethodName)) hown (mvT hZ (hw _ (List.mem_of_getElem? (i := 0) rfl))) (mvT hZ (hw _ (List.mem_of_getElem? (i := 1) rfl))) (mvT hZ (hw _ (List.mem_of_getElem? (i := 2) rfl))) (mvT hZ (hw _ (List.mem_of_getElem? (i := 3) rfl))) (by decide) (backOf (W := 0) (rm1 l Z a0 hw [] p2  h0 n0 Z0 ) hZ (hw _ (List.mem_of_getElem? (i := 3) rfl)) (hw _ (List.mem_of_getElem? (i := 2) rfl)) (by decide) (by decide)) (g := (mkF m 6 #[.val (.int p1), .val (.int p2), .val (.int p3), .val (.int p4), .val (.int (1 : Int32)), .unset, .unset, .unset, .unset, .unset, .unset] [(.int p2)])) rfl (by rw [hml]; rfl) (argsL := [(.int p2)]) (rest := []) (lenOf pd_3 rfl) rfl (by show 2 * 0 + _ ≤ _; exact Nat.le_of_eq rfl) (hb hby at_6) (fun _ _ => ⟨rfl, e0, (by decide : 0 + 0 ≤ _), (by decide : 0 + 0 ≤ _)⟩)
    dsimp only [Pt.U, Pt.locs, Pt.cells, Pt.slots] at X35 l35 y35 z35 st35 hQ35
    subst l35 y35 z35
    obtain ⟨rfl, Nq35, eq35⟩ := hQ35
    have Nf35 := Fr.app Nf0 Nq35
    have kn36 : ∀ t, own_S p e below T35 (mkF m 9 #[.val (.int p1), .val (.int p2), .val (.int p3), .val (.int p4), .val (.int (1 : Int32)), .unset, .unset, .unset, .unset, .unset, .unset] [(.int (own_dr p2))]) t → Gl t := fun t kt => kn34 t (st35 _ kt)
    have kn37 : ∀ t, own_S p e below T35 (mkF m 12 #[.val (.int p1), .val (.int p2), .val (.int p3), .val (.int p4), .val (.int (1 : Int32)), .val (.int (own_dr p2)), .unset, .unset, .unset, .unset, .unset] [(.int p3)]) t → Gl t := fun t kt => kn36 t (by
      show own_S p e below T35 (mkF m 9 #[.val (.int p1), .val (.int p2), .val (.int p3), .val (.int p4), .val (.int (1 : Int32)), .unset, .unset, .unset, .unset, .unset, .unset] [(.int (own_dr p2))]) _
      refine XS.istore X35.here hx rfl (hb hby at_9) rfl (l' := #[.val (.int p1), .val (.int p2), .val (.int p3), .val (.int p4), .val (.int (1 : Int32)), .val (.int (own_dr p2)), .unset, .unset, .unset, .unset, .unset]) rfl ?_
      show own_S p e below T35 (mkF m 11 #[.val (.int p1), .val (.int p2), .val (.int p3), .val (.int p4), .val (.int (1 : Int32)), .val (.int (own_dr p2)), .unset, .unset, .unset, .unset, .unset] []) _
      refine XS.iloadN X35.here hx rfl (hb hby at_11) rfl ?_
      exact kt)
    obtain ⟨_, _, ⟨T38, L38, cc38, ss38⟩, -, X38, ⟨Lc38, hQ38, l38, y38, z38⟩, st38⟩ := Jvm.LawKit.callS X35 hx (y := (⟨"com/example/runs_to_scores/runstoscores/formats/GenomicsJudgmentCodedPinLaw", "drawn", "(I)C"⟩ : MethodName)) hown (mvT hZ (hw _ (List.mem_of_getElem? (i := 0) rfl))) (mvT hZ (hw _ (List.mem_of_getElem? (i := 1) rfl))) (mvT hZ (hw _ (List.mem_of_getElem? (i := 2) rfl))) (mvT hZ (hw _ (List.mem_of_getElem? (i := 3) rfl))) (by decide) (backOf (W := 0) (rm1 l Z a0 hw [] p3  h0 n0 Z0 ) hZ (hw _ (List.mem_of_getElem? (i := 3) rfl)) (hw _ (List.mem_of_getElem? (i := 2) rfl)) (by decide) (by decide)) (g := (mkF m 12 #[.val (.int p1), .val (.int p2), .val (.int p3), .val (.int p4), .val (.int (1 : Int32)), .val (.int (own_dr p2)), .unset, .unset, .unset, .unset, .unset] [(.int p3)])) rfl (by rw [hml]; rfl) (argsL := [(.int p3)]) (rest := []) (lenOf pd_3 rfl) rfl (by show 2 * 0 + _ ≤ _; exact Nat.le_of_eq rfl) (hb hby at_12) (fun _ _ => ⟨rfl, eq35, (by decide : 0 + 0 ≤ _), (by decide : 0 + 0 ≤ _)⟩)
    dsimp only [Pt.U, Pt.locs, Pt.cells, Pt.slots] at X38 l38 y38 z38 st38 hQ38
    subst l38 y38 z38
    obtain ⟨rfl, Nq38, eq38⟩ := hQ38
    have Nf38 := Fr.app Nf35 Nq38
    have kn39 : ∀ t, own_S p e below T38 (mkF m 15 #[.val (.int p1), .val (.int p2), .val (.int p3), .val (.int p4), .val (.int (1 : Int32)), .val (.int (own_dr p2)), .unset, .unset, .unset, .unset, .unset] [(.int (own_dr p3))]) t → Gl t := fun t kt => kn37 t (st38 _ kt)
    have kn40 : ∀ t, own_S p e below T38 (mkF m 18 #[.val (.int p1), .val (.int p2), .val (.int p3), .val (.int p4), .val (.int (1 : Int32)), .val (.int (own_dr p2)), .val (.int (own_dr p3)), .unset, .unset, .unset, .unset] [(.int p4)]) t → Gl t := fun t kt => kn39 t (by
      show own_S p e below T38 (mkF m 15 #[.val (.int p1), .val (.int p2), .val (.int p3), .val (.int p4), .val (.int (1 : Int32)), .val (.int (own_dr p2)), .unset, .unset, .unset, .unset, .unset] [(.int (own_dr p3))]) _
      refine XS.istore X38.here hx rfl (hb hby at_15) rfl (l' := #[.val (.int p1), .val (.int p2), .val (.int p3), .val (.int p4), .val (.int (1 : Int32)), .val (.int (own_dr p2)), .val (.int (own_dr p3)), .unset, .unset, .unset, .unset]) rfl ?_
      show own_S p e below T38 (mkF m 17 #[.val (.int p1), .val (.int p2), .val (.int p3), .val (.int p4), .val (.int (1 : Int32)), .val (.int (own_dr p2)), .val (.int (own_dr p3)), .unset, .unset, .unset, .unset] []) _
      refine XS.iloadN X38.here hx rfl (hb hby at_17) rfl ?_
      exact kt)
    obtain ⟨_, _, ⟨T41, L41, cc41, ss41⟩, -, X41, ⟨Lc41, hQ41, l41, y41, z41⟩, st41⟩ := Jvm.LawKit.callS X38 hx (y := (⟨"com/example/runs_to_scores/runstoscores/formats/GenomicsJudgmentCodedPinLaw", "drawn", "(I)C"⟩ : MethodName)) hown (mvT hZ (hw _ (List.mem_of_getElem? (i := 0) rfl))) (mvT hZ (hw _ (List.mem_of_getElem? (i := 1) rfl))) (mvT hZ (hw _ (List.mem_of_getElem? (i := 2) rfl))) (mvT hZ (hw _ (List.mem_of_getElem? (i := 3) rfl))) (by decide) (backOf (W := 0) (rm1 l Z a0 hw [] p4  h0 n0 Z0 ) hZ (hw _ (List.mem_of_getElem? (i := 3) rfl)) (hw _ (List.mem_of_getElem? (i := 2) rfl)) (by decide) (by decide)) (g := (mkF m 18 #[.val (.int p1), .val (.int p2), .val (.int p3), .val (.int p4), .val (.int (1 : Int32)), .val (.int (own_dr p2)), .val (.int (own_dr p3)), .unset, .unset, .unset, .unset] [(.int p4)])) rfl (by rw [hml]; rfl) (argsL := [(.int p4)]) (rest := []) (lenOf pd_3 rfl) rfl (by show 2 * 0 + _ ≤ _; exact Nat.le_of_eq rfl) (hb hby at_18) (fun _ _ => ⟨rfl, eq38, (by decide : 0 + 0 ≤ _), (by decide : 0 + 0 ≤ _)⟩)
    dsimp only [Pt.U, Pt.locs, Pt.cells, Pt.slots] at X41 l41 y41 z41 st41 hQ41
    subst l41 y41 z41
    obtain ⟨rfl, Nq41, eq41⟩ := hQ41
    have Nf41 := Fr.app Nf38 Nq41
    have kn42 : ∀ t, own_S p e below T41 (mkF m 21 #[.val (.int p1), .val (.int p2), .val (.int p3), .val (.int p4), .val (.int (1 : Int32)), .val (.int (own_dr p2)), .val (.int (own_dr p3)), .unset, .unset, .unset, .unset] [(.int (own_dr p4))]) t → Gl t := fun t kt => kn40 t (st41 _ kt)
    have kn43 : ∀ t, own_S p e below T41 (mkF m 43 #[.val (.int p1), .val (.int p2), .val (.int p3), .val (.int p4), .val (.int (1 : Int32)), .val (.int (own_dr p2)), .val (.int (own_dr p3)), .val (.int (own_dr p4)), .unset, .unset, .unset] [(.int (1 : Int32))]) t → Gl t := fun t kt => kn42 t (by
      show own_S p e below T41 (mkF m 21 #[.val (.int p1), .val (.int p2), .val (.int p3), .val (.int p4), .val (.int (1 : Int32)), .val (.int (own_dr p2)), .val (.int (own_dr p3)), .unset, .unset, .unset, .unset] [(.int (own_dr p4))]) _
      refine XS.istore X41.here hx rfl (hb hby at_21) rfl (l' := #[.val (.int p1), .val (.int p2), .val (.int p3), .val (.int p4), .val (.int (1 : Int32)), .val (.int (own_dr p2)), .val (.int (own_dr p3)), .val (.int (own_dr p4)), .unset, .unset, .unset]) rfl ?_
      show own_S p e below T41 (mkF m 23 #[.val (.int p1), .val (.int p2), .val (.int p3), .val (.int p4), .val (.int (1 : Int32)), .val (.int (own_dr p2)), .val (.int (own_dr p3)), .val (.int (own_dr p4)), .unset, .unset, .unset] []) _
      refine XS.iload X41.here hx rfl (hb hby at_23) rfl ?_
      show own_S p e below T41 (mkF m 25 #[.val (.int p1), .val (.int p2), .val (.int p3), .val (.int p4), .val (.int (1 : Int32)), .val (.int (own_dr p2)), .val (.int (own_dr p3)), .val (.int (own_dr p4)), .unset, .unset, .unset] [(.int (1 : Int32))]) _
      refine XS.ifYes X41.here hx rfl (pc0 := 25) (pc' := 36) rfl (hb hby at_25) rfl ((if0 _ _).trans (feq (by decide : ¬ ((1 : Int32) = (0 : Int32)))).2) (by decide) (by decide) ?_
      show own_S p e below T41 (mkF m 36 #[.val (.int p1), .val (.int p2), .val (.int p3), .val (.int p4), .val (.int (1 : Int32)), .val (.int (own_dr p2)), .val (.int (own_dr p3)), .val (.int (own_dr p4)), .unset, .unset, .unset] []) _
      refine XS.iload X41.here hx rfl (hb hby at_36) rfl ?_
      show own_S p e below T41 (mkF m 38 #[.val (.int p1), .val (.int p2), .val (.int p3), .val (.int p4), .val (.int (1 : Int32)), .val (.int (own_dr p2)), .val (.int (own_dr p3)), .val (.int (own_dr p4)), .unset, .unset, .unset] [(.int (1 : Int32))]) _
      refine XS.iconst X41.here hx rfl (hb hby at_38) ?_
      show own_S p e below T41 (mkF m 39 #[.val (.int p1), .val (.int p2), .val (.int p3), .val (.int p4), .val (.int (1 : Int32)), .val (.int (own_dr p2)), .val (.int (own_dr p3)), .val (.int (own_dr p4)), .unset, .unset, .unset] [(.int (1 : Int32)), (.int (1 : Int32))]) _
      refine XS.icmpNo X41.here hx rfl (hb hby at_39) rfl (teq (by decide : (1 : Int32) = (1 : Int32))).2 ?_
      show own_S p e below T41 (mkF m 42 #[.val (.int p1), .val (.int p2), .val (.int p3), .val (.int p4), .val (.int (1 : Int32)), .val (.int (own_dr p2)), .val (.int (own_dr p3)), .val (.int (own_dr p4)), .unset, .unset, .unset] []) _
      refine XS.iconst X41.here hx rfl (hb hby at_42) ?_
      exact kt)
    obtain ⟨T44, h44, kk44, X44, e44, E44, A44, st44⟩ := newP X41 hx hZ (hw _ (List.mem_of_getElem? (i := 4) rfl)) eq41 (g := (mkF m 43 #[.val (.int p1), .val (.int p2), .val (.int p3), .val (.int p4), .val (.int (1 : Int32)), .val (.int (own_dr p2)), .val (.int (own_dr p3)), .val (.int (own_dr p4)), .unset, .unset, .unset] [(.int (1 : Int32))])) rfl (hb hby at_43) rfl (by decide) (cap := 1) (by decide) (by decide) (by decide) (by decide)
    obtain ⟨b44, g44⟩ : ∃ z, z = h0.size := ⟨_, rfl⟩
    rw [← g44] at A44 st44
    have g_b44 : n0 ≤ b44 := Nat.le_trans Z0 (Nat.le_of_eq g44.symm)
    have Z45 : n0 ≤ h44.size := Nat.le_trans Z0 E44.1
    have O46 : Old Z n0 h44 := O0.ext E44
    have V44 : Arv Z h44 b44 kk44 .char (1 : Int32) [(.int (0 : Int32))] (.int (0 : Int32)) := (Arv.new A44 (by decide)).pad (pad_rep [] (.int (0 : Int32)) 1)
    have kn47 : ∀ t, own_S p e below T44 (mkF m 45 #[.val (.int p1), .val (.int p2), .val (.int p3), .val (.int p4), .val (.int (1 : Int32)), .val (.int (own_dr p2)), .val (.int (own_dr p3)), .val (.int (own_dr p4)), .unset, .unset, .unset] [(.ref b44)]) t → Gl t := fun t kt => kn43 t (st44 _ kt)
    have kn48 : ∀ t, own_S p e below T44 (mkF m 49 #[.val (.int p1), .val (.int p2), .val (.int p3), .val (.int p4), .val (.int (1 : Int32)), .val (.int (own_dr p2)), .val (.int (own_dr p3)), .val (.int (own_dr p4)), .unset, .unset, .unset] [(.int (own_dr p2)), (.int (0 : Int32)), (.ref b44), (.ref b44)]) t → Gl t := fun t kt => kn47 t (by
      show own_S p e below T44 (mkF m 45 #[.val (.int p1), .val (.int p2), .val (.int p3), .val (.int p4), .val (.int (1 : Int32)), .val (.int (own_dr p2)), .val (.int (own_dr p3)), .val (.int (own_dr p4)), .unset, .unset, .unset] [(.ref b44)]) _
      refine XS.dup X44.here hx rfl (hb hby at_45) rfl rfl ?_
      show own_S p e below T44 (mkF m 46 #[.val (.int p1), .val (.int p2), .val (.int p3), .val (.int p4), .val (.int (1 : Int32)), .val (.int (own_dr p2)), .val (.int (own_dr p3)), .val (.int (own_dr p4)), .unset, .unset, .unset] [(.ref b44), (.ref b44)]) _
      refine XS.iconst X44.here hx rfl (hb hby at_46) ?_
      show own_S p e below T44 (mkF m 47 #[.val (.int p1), .val (.int p2), .val (.int p3), .val (.int p4), .val (.int (1 : Int32)), .val (.int (own_dr p2)), .val (.int (own_dr p3)), .val (.int (own_dr p4)), .unset, .unset, .unset] [(.int (0 : Int32)), (.ref b44), (.ref b44)]) _
      refine XS.iload X44.here hx rfl (hb hby at_47) rfl ?_
      exact kt)
    obtain ⟨cl49, Ar49, q49, Sz49, Ng49, Hs49, Gs49⟩ := id V44
    have hin49 : ¬ ((0 : Int32) < 0 ∨ cl49.slots.size ≤ ((0 : Int32)).toNatClampNeg) := inb_of Sz49 ⟨by decide, by decide⟩
    obtain ⟨T49, h49, X49, e49, W49, st49⟩ := stC X44 hx hZ e44 Ar49 (j := (0 : Int32)) hin49 (g := (mkF m 49 #[.val (.int p1), .val (.int p2), .val (.int p3), .val (.int p4), .val (.int (1 : Int32)), .val (.int (own_dr p2)), .val (.int (own_dr p3)), .val (.int (own_dr p4)), .unset, .unset, .unset] [(.int (own_dr p2)), (.int (0 : Int32)), (.ref b44), (.ref b44)])) rfl rfl (hb hby at_49)
    have Z50 : n0 ≤ h49.size := Nat.le_trans Z45 (Keep.of_wr W49).1
    have O51 : Old Z n0 h49 := O46.wr W49 g_b44
    have V49 : Arv Z h49 b44 kk44 .char (1 : Int32) [(.int ((own_dr p2).toUInt32.toUInt16.toUInt32.toInt32))] (.int (0 : Int32)) := Arv.set Ar49 q49 Sz49 Ng49 Hs49 Gs49 (fits_nar_char _) W49 0 rfl (Nat.le_of_ble_eq_true rfl)
    rw [(show ((own_dr p2).toUInt32.toUInt16.toUInt32.toInt32) = (own_dr p2) from own_drc _)] at V49
    have Nf52 := Fr.snoc X49 Nf41 g_b44
    have kn53 : ∀ t, own_S p e below T49 (mkF m 50 #[.val (.int p1), .val (.int p2), .val (.int p3), .val (.int p4), .val (.int (1 : Int32)), .val (.int (own_dr p2)), .val (.int (own_dr p3)), .val (.int (own_dr p4)), .unset, .unset, .unset] [(.ref b44)]) t → Gl t := fun t kt => kn48 t (st49 _ kt)
    have kn54 : ∀ t, own_S p e below T49 (mkF m 99 #[.val (.int p1), .val (.int p2), .val (.int p3), .val (.int p4), .val (.int (1 : Int32)), .val (.int (own_dr p2)), .val (.int (own_dr p3)), .val (.int (own_dr p4)), .val (.ref b44), .unset, .unset] []) t → Gl t := fun t kt => kn53 t (by
      show own_S p e below T49 (mkF m 50 #[.val (.int p1), .val (.int p2), .val (.int p3), .val (.int p4), .val (.int (1 : Int32)), .val (.int (own_dr p2)), .val (.int (own_dr p3)), .val (.int (own_dr p4)), .unset, .unset, .unset] [(.ref b44)]) _
      refine XS.astore X49.here hx rfl (hb hby at_50) rfl rfl (l' := #[.val (.int p1), .val (.int p2), .val (.int p3), .val (.int p4), .val (.int (1 : Int32)), .val (.int (own_dr p2)), .val (.int (own_dr p3)), .val (.int (own_dr p4)), .val (.ref b44), .unset, .unset]) rfl ?_
      show own_S p e below T49 (mkF m 52 #[.val (.int p1), .val (.int p2), .val (.int p3), .val (.int p4), .val (.int (1 : Int32)), .val (.int (own_dr p2)), .val (.int (own_dr p3)), .val (.int (own_dr p4)), .val (.ref b44), .unset, .unset] []) _
      refine XS.goto X49.here hx rfl (pc0 := 52) (pc' := 99) rfl (hb hby at_52) (by decide) (by decide) ?_
      exact kt)
    obtain ⟨T55, h55, X55, e55, E55, A55, D55, -, st55⟩ := newO X49 hx hZ hown (hw _ (List.mem_of_getElem? (i := 5) rfl)) (hw _ (List.mem_of_getElem? (i := 6) rfl)) (hw _ (List.mem_of_getElem? (i := 7) rfl)) e49 (g := (mkF m 99 #[.val (.int p1), .val (.int p2), .val (.int p3), .val (.int p4), .val (.int (1 : Int32)), .val (.int (own_dr p2)), .val (.int (own_dr p3)), .val (.int (own_dr p4)), .val (.ref b44), .unset, .unset] [])) rfl (hb hby at_99) (by decide) (by decide)
    obtain ⟨b55, g55⟩ : ∃ z, z = h49.size := ⟨_, rfl⟩
    rw [← g55] at A55 D55 st55
    have g_b55 : n0 ≤ b55 := Nat.le_trans Z50 (Nat.le_of_eq g55.symm)
    have ne_b44_b55 : b44 ≠ b55 := Nat.ne_of_lt (Nat.lt_of_lt_of_le V49.lt (Nat.le_of_eq g55.symm))
    have Z56 : n0 ≤ h55.size := Nat.le_trans Z50 E55.1
    have O57 : Old Z n0 h55 := O51.ext E55
    have F55_20 : Fld Z h55 b55 "java/lang/String" "value" "[B" .null := D55 (Or.inr (hw _ (List.mem_of_getElem? (i := 20) rfl))) (ty := (.array .byte)) (by decide)
    have F55_21 : Fld Z h55 b55 "java/lang/String" "coder" "B" (.int (0 : Int32)) := D55 (Or.inr (hw _ (List.mem_of_getElem? (i := 21) rfl))) (ty := .byte) (by decide)
    have kn58 : ∀ t, own_S p e below T55 (mkF m 102 #[.val (.int p1), .val (.int p2), .val (.int p3), .val (.int p4), .val (.int (1 : Int32)), .val (.int (own_dr p2)), .val (.int (own_dr p3)), .val (.int (own_dr p4)), .val (.ref b44), .unset, .unset] [(.ref b55)]) t → Gl t := fun t kt => kn54 t (st55 _ kt)
    have kn59 : ∀ t, own_S p e below T55 (mkF m 105 #[.val (.int p1), .val (.int p2), .val (.int p3), .val (.int p4), .val (.int (1 : Int32)), .val (.int (own_dr p2)), .val (.int (own_dr p3)), .val (.int (own_dr p4)), .val (.ref b44), .unset, .unset] [(.ref b44), (.ref b55), (.ref b55)]) t → Gl t := fun t kt => kn58 t (by
      show own_S p e below T55 (mkF m 102 #[.val (.int p1), .val (.int p2), .val (.int p3), .val (.int p4), .val (.int (1 : Int32)), .val (.int (own_dr p2)), .val (.int (own_dr p3)), .val (.int (own_dr p4)), .val (.ref b44), .unset, .unset] [(.ref b55)]) _
      refine XS.dup X55.here hx rfl (hb hby at_102) rfl rfl ?_
      show own_S p e below T55 (mkF m 103 #[.val (.int p1), .val (.int p2), .val (.int p3), .val (.int p4), .val (.int (1 : Int32)), .val (.int (own_dr p2)), .val (.int (own_dr p3)), .val (.int (own_dr p4)), .val (.ref b44), .unset, .unset] [(.ref b55), (.ref b55)]) _
      refine XS.aload X55.here hx rfl (hb hby at_103) rfl rfl ?_
      exact kt)
    have hws : ∀ d ∈ StrChars.Road.words, d.before a0 Z = true := fun d hd => hw d ((by decide +kernel : ∀ d ∈ StrChars.Road.words, d ∈ tables_1) d hd)
    have hp61 : ∀ c ∈ ([(own_dr p2)] : List Int32), ¬ c < 0 ∧ ¬ (255 : Int32) < c := by
      intro c hc
      simp only [List.mem_cons, List.not_mem_nil, or_false] at hc
      rcases hc with rfl <;> exact own_drr _
    have f62 := (V49.ext E55)
    obtain ⟨_, _, ⟨T60, L60, cc60, ss60⟩, -, X60, ⟨Lc60, hQ60, l60, y60, z60⟩, st60⟩ := X55.specialBack hx (y := (⟨"java/lang/String", "<init>", "([C)V"⟩ : MethodName)) rfl hown (mvT hZ (hw _ (List.mem_of_getElem? (i := 8) rfl))) (mvT hZ (hw _ (List.mem_of_getElem? (i := 9) rfl))) (mvT hZ (hw _ (List.mem_of_getElem? (i := 10) rfl))) (by decide) (StrChars.Road.backV (W := 1) hZ hws (kI := 4) (hw _ (List.mem_of_getElem? (i := 6) rfl)) (cs := ([(own_dr p2)] : List Int32)) (bs := ([(own_dr p2)] : List Int32).map (fun c => c.toInt8.toInt32)) (n := 1) g_b55 Z56 A55 F55_20 F55_21 f62 (O2.ext O57.2) P5 rfl rfl (by decide) (by decide) hp61 rfl (by decide) (by decide)) (g := (mkF m 105 #[.val (.int p1), .val (.int p2), .val (.int p3), .val (.int p4), .val (.int (1 : Int32)), .val (.int (own_dr p2)), .val (.int (own_dr p3)), .val (.int (own_dr p4)), .val (.ref b44), .unset, .unset] [(.ref b44), (.ref b55), (.ref b55)])) rfl (by rw [hml]; rfl) (Steps.refl _) (a := b55) (argsL := [(.ref b44)]) (rest := [(.ref b55)]) (lenOf pd_4 rfl) rfl (by show 2 * 0 + _ ≤ _; exact Nat.le_of_eq rfl) (hb hby at_105) (fun _ _ => ⟨rfl, e55, (by decide : 2 + 1 ≤ _), (by decide : 5 + 1 ≤ _)⟩)
    dsimp only [Pt.U, Pt.locs, Pt.cells, Pt.slots] at X60 l60 y60 z60 st60 hQ60
    subst l60 y60 z60
    obtain ⟨rfl, Nq60, K60, Ex60, Co60, t60, kb60, ga60, sa60, nx60, Va60, Ar60⟩ := hQ60
    have Nf60 := Fr.app Nf52 Nq60
    have Z63 : n0 ≤ T60.heap.size := Nat.le_trans Z56 K60.1
    have O64 : Old Z n0 T60.heap := O57.keep K60 (allS g_b55 all0)
    have kn65 : ∀ t, own_S p e below T60 (mkF m 108 #[.val (.int p1), .val (.int p2), .val (.int p3), .val (.int p4), .val (.int (1 : Int32)), .val (.int (own_dr p2)), .val (.int (own_dr p3)), .val (.int (own_dr p4)), .val (.ref b44), .unset, .unset] [(.ref b55)]) t → Gl t := fun t kt => kn59 t (st60.trans kt)
    have kn66 : ∀ t, own_S p e below T60 (mkF m 123 #[.val (.int p1), .val (.int p2), .val (.int p3), .val (.int p4), .val (.int (1 : Int32)), .val (.int (own_dr p2)), .val (.int (own_dr p3)), .val (.int (own_dr p4)), .val (.ref b44), .val (.ref b55), .val .null] [(.int (49 : Int32)), (.int (own_dr p2))]) t → Gl t := fun t kt => kn65 t (by
      show own_S p e below T60 (mkF m 108 #[.val (.int p1), .val (.int p2), .val (.int p3), .val (.int p4), .val (.int (1 : Int32)), .val (.int (own_dr p2)), .val (.int (own_dr p3)), .val (.int (own_dr p4)), .val (.ref b44), .unset, .unset] [(.ref b55)]) _
      refine XS.astore X60.here hx rfl (hb hby at_108) rfl rfl (l' := #[.val (.int p1), .val (.int p2), .val (.int p3), .val (.int p4), .val (.int (1 : Int32)), .val (.int (own_dr p2)), .val (.int (own_dr p3)), .val (.int (own_dr p4)), .val (.ref b44), .val (.ref b55), .unset]) rfl ?_
      show own_S p e below T60 (mkF m 110 #[.val (.int p1), .val (.int p2), .val (.int p3), .val (.int p4), .val (.int (1 : Int32)), .val (.int (own_dr p2)), .val (.int (own_dr p3)), .val (.int (own_dr p4)), .val (.ref b44), .val (.ref b55), .unset] []) _
      refine XS.aconstNull X60.here hx rfl (hb hby at_110) ?_
      show own_S p e below T60 (mkF m 111 #[.val (.int p1), .val (.int p2), .val (.int p3), .val (.int p4), .val (.int (1 : Int32)), .val (.int (own_dr p2)), .val (.int (own_dr p3)), .val (.int (own_dr p4)), .val (.ref b44), .val (.ref b55), .unset] [.null]) _
      refine XS.astore X60.here hx rfl (hb hby at_111) rfl rfl (l' := #[.val (.int p1), .val (.int p2), .val (.int p3), .val (.int p4), .val (.int (1 : Int32)), .val (.int (own_dr p2)), .val (.int (own_dr p3)), .val (.int (own_dr p4)), .val (.ref b44), .val (.ref b55), .val .null]) rfl ?_
      show own_S p e below T60 (mkF m 113 #[.val (.int p1), .val (.int p2), .val (.int p3), .val (.int p4), .val (.int (1 : Int32)), .val (.int (own_dr p2)), .val (.int (own_dr p3)), .val (.int (own_dr p4)), .val (.ref b44), .val (.ref b55), .val .null] []) _
      refine XS.iload X60.here hx rfl (hb hby at_113) rfl ?_
      show own_S p e below T60 (mkF m 115 #[.val (.int p1), .val (.int p2), .val (.int p3), .val (.int p4), .val (.int (1 : Int32)), .val (.int (own_dr p2)), .val (.int (own_dr p3)), .val (.int (own_dr p4)), .val (.ref b44), .val (.ref b55), .val .null] [(.int (1 : Int32))]) _
      refine XS.iconst X60.here hx rfl (hb hby at_115) ?_
      show own_S p e below T60 (mkF m 116 #[.val (.int p1), .val (.int p2), .val (.int p3), .val (.int p4), .val (.int (1 : Int32)), .val (.int (own_dr p2)), .val (.int (own_dr p3)), .val (.int (own_dr p4)), .val (.ref b44), .val (.ref b55), .val .null] [(.int (1 : Int32)), (.int (1 : Int32))]) _
      refine XS.icmpNo X60.here hx rfl (hb hby at_116) rfl (teq (by decide : (1 : Int32) = (1 : Int32))).2 ?_
      show own_S p e below T60 (mkF m 119 #[.val (.int p1), .val (.int p2), .val (.int p3), .val (.int p4), .val (.int (1 : Int32)), .val (.int (own_dr p2)), .val (.int (own_dr p3)), .val (.int (own_dr p4)), .val (.ref b44), .val (.ref b55), .val .null] []) _
      refine XS.iload X60.here hx rfl (hb hby at_119) rfl ?_
      show own_S p e below T60 (mkF m 121 #[.val (.int p1), .val (.int p2), .val (.int p3), .val (.int p4), .val (.int (1 : Int32)), .val (.int (own_dr p2)), .val (.int (own_dr p3)), .val (.int (own_dr p4)), .val (.ref b44), .val (.ref b55), .val .null] [(.int (own_dr p2))]) _
      refine XS.bipush X60.here hx rfl (hb hby at_121) ?_
      exact kt)
    by_cases hc123 : (own_dr p2) = (49 : Int32)
    · have kn67 : ∀ t, own_S p e below T60 (mkF m 126 #[.val (.int p1), .val (.int p2), .val (.int p3), .val (.int p4), .val (.int (1 : Int32)), .val (.int (own_dr p2)), .val (.int (own_dr p3)), .val (.int (own_dr p4)), .val (.ref b44), .val (.ref b55), .val .null] []) t → Gl t := fun t kt => kn66 t (by
        show own_S p e below T60 (mkF m 123 #[.val (.int p1), .val (.int p2), .val (.int p3), .val (.int p4), .val (.int (1 : Int32)), .val (.int (own_dr p2)), .val (.int (own_dr p3)), .val (.int (own_dr p4)), .val (.ref b44), .val (.ref b55), .val .null] [(.int (49 : Int32)), (.int (own_dr p2))]) _
        refine XS.icmpNo X60.here hx rfl (hb hby at_123) rfl (teq hc123).2 ?_
        exact kt)
      obtain ⟨T68, X68, e68, st68⟩ := getS2 X60 hx hZ hown (host := "") (Or.inl (hw _ (List.mem_of_getElem? (i := 73) rfl))) Via.refl rfl (Sg0.ext O64.2) (g := (mkF m 126 #[.val (.int p1), .val (.int p2), .val (.int p3), .val (.int p4), .val (.int (1 : Int32)), .val (.int (own_dr p2)), .val (.int (own_dr p3)), .val (.int (own_dr p4)), .val (.ref b44), .val (.ref b55), .val .null] [])) rfl (hb hby at_126)
      have kn69 : ∀ t, own_S p e below T68 (mkF m 129 #[.val (.int p1), .val (.int p2), .val (.int p3), .val (.int p4), .val (.int (1 : Int32)), .val (.int (own_dr p2)), .val (.int (own_dr p3)), .val (.int (own_dr p4)), .val (.ref b44), .val (.ref b55), .val .null] [(.ref g0)]) t → Gl t := fun t kt => kn67 t (st68 _ kt)
      have kn70 : ∀ t, own_S p e below T68 (mkF m 163 #[.val (.int p1), .val (.int p2), .val (.int p3), .val (.int p4), .val (.int (1 : Int32)), .val (.int (own_dr p2)), .val (.int (own_dr p3)), .val (.int (own_dr p4)), .val (.ref b44), .val (.ref b55), .val (.ref g0)] [(.ref b55)]) t → Gl t := fun t kt => kn69 t (by
        show own_S p e below T68 (mkF m 129 #[.val (.int p1), .val (.int p2), .val (.int p3), .val (.int p4), .val (.int (1 : Int32)), .val (.int (own_dr p2)), .val (.int (own_dr p3)), .val (.int (own_dr p4)), .val (.ref b44), .val (.ref b55), .val .null] [(.ref g0)]) _
        refine XS.astore X68.here hx rfl (hb hby at_129) rfl rfl (l' := #[.val (.int p1), .val (.int p2), .val (.int p3), .val (.int p4), .val (.int (1 : Int32)), .val (.int (own_dr p2)), .val (.int (own_dr p3)), .val (.int (own_dr p4)), .val (.ref b44), .val (.ref b55), .val (.ref g0)]) rfl ?_
        show own_S p e below T68 (mkF m 131 #[.val (.int p1), .val (.int p2), .val (.int p3), .val (.int p4), .val (.int (1 : Int32)), .val (.int (own_dr p2)), .val (.int (own_dr p3)), .val (.int (own_dr p4)), .val (.ref b44), .val (.ref b55), .val (.ref g0)] []) _
        refine XS.goto X68.here hx rfl (pc0 := 131) (pc' := 161) rfl (hb hby at_131) (by decide) (by decide) ?_
        show own_S p e below T68 (mkF m 161 #[.val (.int p1), .val (.int p2), .val (.int p3), .val (.int p4), .val (.int (1 : Int32)), .val (.int (own_dr p2)), .val (.int (own_dr p3)), .val (.int (own_dr p4)), .val (.ref b44), .val (.ref b55), .val (.ref g0)] []) _
        refine XS.aload X68.here hx rfl (hb hby at_161) rfl rfl ?_
        exact kt)
      have hcd_b55 : StrChars.Road.CodA ([(own_dr p2)] : List Int32) 0 (1 : Int32) ((([(own_dr p2)] : List Int32).map (fun c => c.toInt8.toInt32)).map Value.int) := StrChars.Road.codOf (n := 1) rfl (fun x hx => (hp61 x hx).2)
      have hbd_b55 : ∀ x ∈ ([(own_dr p2)] : List Int32), ¬ x < 0 ∧ ¬ (65535 : Int32) < x := own_up _ hp61
      obtain ⟨_, _, ⟨T71, L71, cc71, ss71⟩, -, X71, ⟨Lc71, hQ71, l71, y71, z71⟩, st71⟩ := Jvm.LawKit.callS X68 hx (y := (⟨"com/example/runs_to_scores/runstoscores/formats/GenomicsJudgment", "coded", "(Ljava/lang/String;)Lcom/example/runs_to_scores/runstoscores/formats/GenomicsJudgment;"⟩ : MethodName)) hown (mvT hZ (hw _ (List.mem_of_getElem? (i := 26) rfl))) (mvT hZ (hw _ (List.mem_of_getElem? (i := 27) rfl))) (mvT hZ (hw _ (List.mem_of_getElem? (i := 28) rfl))) (mvT hZ (hw _ (List.mem_of_getElem? (i := 29) rfl))) (by decide) (backOf (W := 0) (rmFind0 l Z a0 hw [] b55 t60 kb60 ([(own_dr p2)] : List Int32) (1 : Int32) ((([(own_dr p2)] : List Int32).map (fun c => c.toInt8.toInt32)).map Value.int) bV kV g0 y0 ty0 ky0 g1 y1 ty1 ky1 g2 y2 ty2 ky2 G1 T60.heap n0 Z63 Ex60 Va60 Co60 Ar60 hcd_b55 hbd_b55 (Nat.le_of_ble_eq_true rfl) O64 O2 P5 SV EV VV Fg0 Ey0 Vy0 Cy0 Ky0 Fg1 Ey1 Vy1 Cy1 Ky1 Fg2 Ey2 Vy2 Cy2 Ky2 (by rw [hc123])) hZ (hw _ (List.mem_of_getElem? (i := 29) rfl)) (hw _ (List.mem_of_getElem? (i := 28) rfl)) (by decide) (by decide)) (g := (mkF m 163 #[.val (.int p1), .val (.int p2), .val (.int p3), .val (.int p4), .val (.int (1 : Int32)), .val (.int (own_dr p2)), .val (.int (own_dr p3)), .val (.int (own_dr p4)), .val (.ref b44), .val (.ref b55), .val (.ref g0)] [(.ref b55)])) rfl (by rw [hml]; rfl) (argsL := [(.ref b55)]) (rest := []) (lenOf pd_5 rfl) rfl (by show 2 * 0 + _ ≤ _; exact Nat.le_of_eq rfl) (hb hby at_163) (fun _ _ => ⟨rfl, e68, (by decide : 3 + 1 ≤ _), (by decide : 6 + 3 ≤ _)⟩)
      dsimp only [Pt.U, Pt.locs, Pt.cells, Pt.slots] at X71 l71 y71 z71 st71 hQ71
      subst l71 y71 z71
      obtain ⟨rfl, Nq71, K71⟩ := hQ71
      have Nf71 := Fr.app Nf60 Nq71
      have Z72 : n0 ≤ T71.heap.size := Nat.le_trans Z63 K71.1
      have O73 : Old Z n0 T71.heap := O64.keep K71 all0
      have kn74 : ∀ t, own_S p e below T71 (mkF m 166 #[.val (.int p1), .val (.int p2), .val (.int p3), .val (.int p4), .val (.int (1 : Int32)), .val (.int (own_dr p2)), .val (.int (own_dr p3)), .val (.int (own_dr p4)), .val (.ref b44), .val (.ref b55), .val (.ref g0)] [(.ref g0)]) t → Gl t := fun t kt => kn70 t (st71 _ kt)
      have kn75 : ∀ t, own_S p e below T71 (mkF m 176 #[.val (.int p1), .val (.int p2), .val (.int p3), .val (.int p4), .val (.int (1 : Int32)), .val (.int (own_dr p2)), .val (.int (own_dr p3)), .val (.int (own_dr p4)), .val (.ref b44), .val (.ref b55), .val (.ref g0)] [(.int (1 : Int32))]) t → Gl t := fun t kt => kn74 t (by
        show own_S p e below T71 (mkF m 166 #[.val (.int p1), .val (.int p2), .val (.int p3), .val (.int p4), .val (.int (1 : Int32)), .val (.int (own_dr p2)), .val (.int (own_dr p3)), .val (.int (own_dr p4)), .val (.ref b44), .val (.ref b55), .val (.ref g0)] [(.ref g0)]) _
        refine XS.aload X71.here hx rfl (hb hby at_166) rfl rfl ?_
        show own_S p e below T71 (mkF m 168 #[.val (.int p1), .val (.int p2), .val (.int p3), .val (.int p4), .val (.int (1 : Int32)), .val (.int (own_dr p2)), .val (.int (own_dr p3)), .val (.int (own_dr p4)), .val (.ref b44), .val (.ref b55), .val (.ref g0)] [(.ref g0), (.ref g0)]) _
        refine Jvm.RoadKit.acmp (g := (mkF m 168 #[.val (.int p1), .val (.int p2), .val (.int p3), .val (.int p4), .val (.int (1 : Int32)), .val (.int (own_dr p2)), .val (.int (own_dr p3)), .val (.int (own_dr p4)), .val (.ref b44), .val (.ref b55), .val (.ref g0)] [(.ref g0), (.ref g0)])) X71 hx rfl rfl rfl (pc0 := 168) (pc' := 171) (same := true) rfl (hb hby at_168) rfl (decide_eq_true rfl) (by decide) (by decide) ?_
        show own_S p e below T71 (mkF m 171 #[.val (.int p1), .val (.int p2), .val (.int p3), .val (.int p4), .val (.int (1 : Int32)), .val (.int (own_dr p2)), .val (.int (own_dr p3)), .val (.int (own_dr p4)), .val (.ref b44), .val (.ref b55), .val (.ref g0)] []) _
        refine XS.iconst X71.here hx rfl (hb hby at_171) ?_
        show own_S p e below T71 (mkF m 172 #[.val (.int p1), .val (.int p2), .val (.int p3), .val (.int p4), .val (.int (1 : Int32)), .val (.int (own_dr p2)), .val (.int (own_dr p3)), .val (.int (own_dr p4)), .val (.ref b44), .val (.ref b55), .val (.ref g0)] [(.int (1 : Int32))]) _
        refine XS.goto X71.here hx rfl (pc0 := 172) (pc' := 176) rfl (hb hby at_172) (by decide) (by decide) ?_
        exact kt)
      obtain ⟨fs, hr, hrun, hended, hW, hsame⟩ := X71.leave (v := some (.int (1 : Int32))) (fun h => by rw [Bd.returns] at h; cases h)
      refine ⟨_, _, hGl _ (kn75 _ (retN X71 hx (t := .boolean) Bd.returns (by simp) (hb hby at_176) hr)), hrun, hended, _, _, rfl, ?_, ReturnedEndW.of_narrow ⟨_, rfl⟩ hW (hsame.mono (by decide) (by decide))⟩
      show Q0 Z p1 p2 p3 p4 bV kV g0 y0 ty0 ky0 g1 y1 ty1 ky1 g2 y2 ty2 ky2 G1 h0 n0 _ T71.heap _
      exact ⟨rfl, Nf71⟩
    · have kn76 : ∀ t, own_S p e below T60 (mkF m 138 #[.val (.int p1), .val (.int p2), .val (.int p3), .val (.int p4), .val (.int (1 : Int32)), .val (.int (own_dr p2)), .val (.int (own_dr p3)), .val (.int (own_dr p4)), .val (.ref b44), .val (.ref b55), .val .null] [(.int (50 : Int32)), (.int (own_dr p2))]) t → Gl t := fun t kt => kn66 t (by
        show own_S p e below T60 (mkF m 123 #[.val (.int p1), .val (.int p2), .val (.int p3), .val (.int p4), .val (.int (1 : Int32)), .val (.int (own_dr p2)), .val (.int (own_dr p3)), .val (.int (own_dr p4)), .val (.ref b44), .val (.ref b55), .val .null] [(.int (49 : Int32)), (.int (own_dr p2))]) _
        refine XS.icmpYes X60.here hx rfl (pc0 := 123) (pc' := 134) rfl (hb hby at_123) rfl (feq hc123).2 (by decide) (by decide) ?_
        show own_S p e below T60 (mkF m 134 #[.val (.int p1), .val (.int p2), .val (.int p3), .val (.int p4), .val (.int (1 : Int32)), .val (.int (own_dr p2)), .val (.int (own_dr p3)), .val (.int (own_dr p4)), .val (.ref b44), .val (.ref b55), .val .null] []) _
        refine XS.iload X60.here hx rfl (hb hby at_134) rfl ?_
        show own_S p e below T60 (mkF m 136 #[.val (.int p1), .val (.int p2), .val (.int p3), .val (.int p4), .val (.int (1 : Int32)), .val (.int (own_dr p2)), .val (.int (own_dr p3)), .val (.int (own_dr p4)), .val (.ref b44), .val (.ref b55), .val .null] [(.int (own_dr p2))]) _
        refine XS.bipush X60.here hx rfl (hb hby at_136) ?_
        exact kt)
      by_cases hc138 : (own_dr p2) = (50 : Int32)
      · have kn77 : ∀ t, own_S p e below T60 (mkF m 141 #[.val (.int p1), .val (.int p2), .val (.int p3), .val (.int p4), .val (.int (1 : Int32)), .val (.int (own_dr p2)), .val (.int (own_dr p3)), .val (.int (own_dr p4)), .val (.ref b44), .val (.ref b55), .val .null] []) t → Gl t := fun t kt => kn76 t (by
          show own_S p e below T60 (mkF m 138 #[.val (.int p1), .val (.int p2), .val (.int p3), .val (.int p4), .val (.int (1 : Int32)), .val (.int (own_dr p2)), .val (.int (own_dr p3)), .val (.int (own_dr p4)), .val (.ref b44), .val (.ref b55), .val .null] [(.int (50 : Int32)), (.int (own_dr p2))]) _
          refine XS.icmpNo X60.here hx rfl (hb hby at_138) rfl (teq hc138).2 ?_
          exact kt)
        obtain ⟨T78, X78, e78, st78⟩ := getS2 X60 hx hZ hown (host := "") (Or.inl (hw _ (List.mem_of_getElem? (i := 71) rfl))) Via.refl rfl (Sg1.ext O64.2) (g := (mkF m 141 #[.val (.int p1), .val (.int p2), .val (.int p3), .val (.int p4), .val (.int (1 : Int32)), .val (.int (own_dr p2)), .val (.int (own_dr p3)), .val (.int (own_dr p4)), .val (.ref b44), .val (.ref b55), .val .null] [])) rfl (hb hby at_141)
        have kn79 : ∀ t, own_S p e below T78 (mkF m 144 #[.val (.int p1), .val (.int p2), .val (.int p3), .val (.int p4), .val (.int (1 : Int32)), .val (.int (own_dr p2)), .val (.int (own_dr p3)), .val (.int (own_dr p4)), .val (.ref b44), .val (.ref b55), .val .null] [(.ref g1)]) t → Gl t := fun t kt => kn77 t (st78 _ kt)
        have kn80 : ∀ t, own_S p e below T78 (mkF m 163 #[.val (.int p1), .val (.int p2), .val (.int p3), .val (.int p4), .val (.int (1 : Int32)), .val (.int (own_dr p2)), .val (.int (own_dr p3)), .val (.int (own_dr p4)), .val (.ref b44), .val (.ref b55), .val (.ref g1)] [(.ref b55)]) t → Gl t := fun t kt => kn79 t (by
          show own_S p e below T78 (mkF m 144 #[.val (.int p1), .val (.int p2), .val (.int p3), .val (.int p4), .val (.int (1 : Int32)), .val (.int (own_dr p2)), .val (.int (own_dr p3)), .val (.int (own_dr p4)), .val (.ref b44), .val (.ref b55), .val .null] [(.ref g1)]) _
          refine XS.astore X78.here hx rfl (hb hby at_144) rfl rfl (l' := #[.val (.int p1), .val (.int p2), .val (.int p3), .val (.int p4), .val (.int (1 : Int32)), .val (.int (own_dr p2)), .val (.int (own_dr p3)), .val (.int (own_dr p4)), .val (.ref b44), .val (.ref b55), .val (.ref g1)]) rfl ?_
          show own_S p e below T78 (mkF m 146 #[.val (.int p1), .val (.int p2), .val (.int p3), .val (.int p4), .val (.int (1 : Int32)), .val (.int (own_dr p2)), .val (.int (own_dr p3)), .val (.int (own_dr p4)), .val (.ref b44), .val (.ref b55), .val (.ref g1)] []) _
          refine XS.goto X78.here hx rfl (pc0 := 146) (pc' := 161) rfl (hb hby at_146) (by decide) (by decide) ?_
          show own_S p e below T78 (mkF m 161 #[.val (.int p1), .val (.int p2), .val (.int p3), .val (.int p4), .val (.int (1 : Int32)), .val (.int (own_dr p2)), .val (.int (own_dr p3)), .val (.int (own_dr p4)), .val (.ref b44), .val (.ref b55), .val (.ref g1)] []) _
          refine XS.aload X78.here hx rfl (hb hby at_161) rfl rfl ?_
          exact kt)
        have hcd_b55 : StrChars.Road.CodA ([(own_dr p2)] : List Int32) 0 (1 : Int32) ((([(own_dr p2)] : List Int32).map (fun c => c.toInt8.toInt32)).map Value.int) := StrChars.Road.codOf (n := 1) rfl (fun x hx => (hp61 x hx).2)
        have hbd_b55 : ∀ x ∈ ([(own_dr p2)] : List Int32), ¬ x < 0 ∧ ¬ (65535 : Int32) < x := own_up _ hp61
        obtain ⟨_, _, ⟨T81, L81, cc81, ss81⟩, -, X81, ⟨Lc81, hQ81, l81, y81, z81⟩, st81⟩ := Jvm.LawKit.callS X78 hx (y := (⟨"com/example/runs_to_scores/runstoscores/formats/GenomicsJudgment", "coded", "(Ljava/lang/String;)Lcom/example/runs_to_scores/runstoscores/formats/GenomicsJudgment;"⟩ : MethodName)) hown (mvT hZ (hw _ (List.mem_of_getElem? (i := 26) rfl))) (mvT hZ (hw _ (List.mem_of_getElem? (i := 27) rfl))) (mvT hZ (hw _ (List.mem_of_getElem? (i := 28) rfl))) (mvT hZ (hw _ (List.mem_of_getElem? (i := 29) rfl))) (by decide) (backOf (W := 0) (rmFind1 l Z a0 hw [] b55 t60 kb60 ([(own_dr p2)] : List Int32) (1 : Int32) ((([(own_dr p2)] : List Int32).map (fun c => c.toInt8.toInt32)).map Value.int) bV kV g0 y0 ty0 ky0 g1 y1 ty1 ky1 g2 y2 ty2 ky2 G1 T60.heap n0 Z63 Ex60 Va60 Co60 Ar60 hcd_b55 hbd_b55 (Nat.le_of_ble_eq_true rfl) O64 O2 P5 SV EV VV Fg0 Ey0 Vy0 Cy0 Ky0 Fg1 Ey1 Vy1 Cy1 Ky1 Fg2 Ey2 Vy2 Cy2 Ky2 (fun q => hc123 (List.cons.inj q).1.symm) (by rw [hc138])) hZ (hw _ (List.mem_of_getElem? (i := 29) rfl)) (hw _ (List.mem_of_getElem? (i := 28) rfl)) (by decide) (by decide)) (g := (mkF m 163 #[.val (.int p1), .val (.int p2), .val (.int p3), .val (.int p4), .val (.int (1 : Int32)), .val (.int (own_dr p2)), .val (.int (own_dr p3)), .val (.int (own_dr p4)), .val (.ref b44), .val (.ref b55), .val (.ref g1)] [(.ref b55)])) rfl (by rw [hml]; rfl) (argsL := [(.ref b55)]) (rest := []) (lenOf pd_5 rfl) rfl (by show 2 * 0 + _ ≤ _; exact Nat.le_of_eq rfl) (hb hby at_163) (fun _ _ => ⟨rfl, e78, (by decide : 3 + 1 ≤ _), (by decide : 6 + 3 ≤ _)⟩)
        dsimp only [Pt.U, Pt.locs, Pt.cells, Pt.slots] at X81 l81 y81 z81 st81 hQ81
        subst l81 y81 z81
        obtain ⟨rfl, Nq81, K81⟩ := hQ81
        have Nf81 := Fr.app Nf60 Nq81
        have Z82 : n0 ≤ T81.heap.size := Nat.le_trans Z63 K81.1
        have O83 : Old Z n0 T81.heap := O64.keep K81 all0
        have kn84 : ∀ t, own_S p e below T81 (mkF m 166 #[.val (.int p1), .val (.int p2), .val (.int p3), .val (.int p4), .val (.int (1 : Int32)), .val (.int (own_dr p2)), .val (.int (own_dr p3)), .val (.int (own_dr p4)), .val (.ref b44), .val (.ref b55), .val (.ref g1)] [(.ref g1)]) t → Gl t := fun t kt => kn80 t (st81 _ kt)
        have kn85 : ∀ t, own_S p e below T81 (mkF m 176 #[.val (.int p1), .val (.int p2), .val (.int p3), .val (.int p4), .val (.int (1 : Int32)), .val (.int (own_dr p2)), .val (.int (own_dr p3)), .val (.int (own_dr p4)), .val (.ref b44), .val (.ref b55), .val (.ref g1)] [(.int (1 : Int32))]) t → Gl t := fun t kt => kn84 t (by
          show own_S p e below T81 (mkF m 166 #[.val (.int p1), .val (.int p2), .val (.int p3), .val (.int p4), .val (.int (1 : Int32)), .val (.int (own_dr p2)), .val (.int (own_dr p3)), .val (.int (own_dr p4)), .val (.ref b44), .val (.ref b55), .val (.ref g1)] [(.ref g1)]) _
          refine XS.aload X81.here hx rfl (hb hby at_166) rfl rfl ?_
          show own_S p e below T81 (mkF m 168 #[.val (.int p1), .val (.int p2), .val (.int p3), .val (.int p4), .val (.int (1 : Int32)), .val (.int (own_dr p2)), .val (.int (own_dr p3)), .val (.int (own_dr p4)), .val (.ref b44), .val (.ref b55), .val (.ref g1)] [(.ref g1), (.ref g1)]) _
          refine Jvm.RoadKit.acmp (g := (mkF m 168 #[.val (.int p1), .val (.int p2), .val (.int p3), .val (.int p4), .val (.int (1 : Int32)), .val (.int (own_dr p2)), .val (.int (own_dr p3)), .val (.int (own_dr p4)), .val (.ref b44), .val (.ref b55), .val (.ref g1)] [(.ref g1), (.ref g1)])) X81 hx rfl rfl rfl (pc0 := 168) (pc' := 171) (same := true) rfl (hb hby at_168) rfl (decide_eq_true rfl) (by decide) (by decide) ?_
          show own_S p e below T81 (mkF m 171 #[.val (.int p1), .val (.int p2), .val (.int p3), .val (.int p4), .val (.int (1 : Int32)), .val (.int (own_dr p2)), .val (.int (own_dr p3)), .val (.int (own_dr p4)), .val (.ref b44), .val (.ref b55), .val (.ref g1)] []) _
          refine XS.iconst X81.here hx rfl (hb hby at_171) ?_
          show own_S p e below T81 (mkF m 172 #[.val (.int p1), .val (.int p2), .val (.int p3), .val (.int p4), .val (.int (1 : Int32)), .val (.int (own_dr p2)), .val (.int (own_dr p3)), .val (.int (own_dr p4)), .val (.ref b44), .val (.ref b55), .val (.ref g1)] [(.int (1 : Int32))]) _
          refine XS.goto X81.here hx rfl (pc0 := 172) (pc' := 176) rfl (hb hby at_172) (by decide) (by decide) ?_
          exact kt)
        obtain ⟨fs, hr, hrun, hended, hW, hsame⟩ := X81.leave (v := some (.int (1 : Int32))) (fun h => by rw [Bd.returns] at h; cases h)
        refine ⟨_, _, hGl _ (kn85 _ (retN X81 hx (t := .boolean) Bd.returns (by simp) (hb hby at_176) hr)), hrun, hended, _, _, rfl, ?_, ReturnedEndW.of_narrow ⟨_, rfl⟩ hW (hsame.mono (by decide) (by decide))⟩
        show Q0 Z p1 p2 p3 p4 bV kV g0 y0 ty0 ky0 g1 y1 ty1 ky1 g2 y2 ty2 ky2 G1 h0 n0 _ T81.heap _
        exact ⟨rfl, Nf81⟩
      · have kn86 : ∀ t, own_S p e below T60 (mkF m 153 #[.val (.int p1), .val (.int p2), .val (.int p3), .val (.int p4), .val (.int (1 : Int32)), .val (.int (own_dr p2)), .val (.int (own_dr p3)), .val (.int (own_dr p4)), .val (.ref b44), .val (.ref b55), .val .null] [(.int (51 : Int32)), (.int (own_dr p2))]) t → Gl t := fun t kt => kn76 t (by
          show own_S p e below T60 (mkF m 138 #[.val (.int p1), .val (.int p2), .val (.int p3), .val (.int p4), .val (.int (1 : Int32)), .val (.int (own_dr p2)), .val (.int (own_dr p3)), .val (.int (own_dr p4)), .val (.ref b44), .val (.ref b55), .val .null] [(.int (50 : Int32)), (.int (own_dr p2))]) _
          refine XS.icmpYes X60.here hx rfl (pc0 := 138) (pc' := 149) rfl (hb hby at_138) rfl (feq hc138).2 (by decide) (by decide) ?_
          show own_S p e below T60 (mkF m 149 #[.val (.int p1), .val (.int p2), .val (.int p3), .val (.int p4), .val (.int (1 : Int32)), .val (.int (own_dr p2)), .val (.int (own_dr p3)), .val (.int (own_dr p4)), .val (.ref b44), .val (.ref b55), .val .null] []) _
          refine XS.iload X60.here hx rfl (hb hby at_149) rfl ?_
          show own_S p e below T60 (mkF m 151 #[.val (.int p1), .val (.int p2), .val (.int p3), .val (.int p4), .val (.int (1 : Int32)), .val (.int (own_dr p2)), .val (.int (own_dr p3)), .val (.int (own_dr p4)), .val (.ref b44), .val (.ref b55), .val .null] [(.int (own_dr p2))]) _
          refine XS.bipush X60.here hx rfl (hb hby at_151) ?_
          exact kt)
        by_cases hc153 : (own_dr p2) = (51 : Int32)
        · have kn87 : ∀ t, own_S p e below T60 (mkF m 156 #[.val (.int p1), .val (.int p2), .val (.int p3), .val (.int p4), .val (.int (1 : Int32)), .val (.int (own_dr p2)), .val (.int (own_dr p3)), .val (.int (own_dr p4)), .val (.ref b44), .val (.ref b55), .val .null] []) t → Gl t := fun t kt => kn86 t (by
            show own_S p e below T60 (mkF m 153 #[.val (.int p1), .val (.int p2), .val (.int p3), .val (.int p4), .val (.int (1 : Int32)), .val (.int (own_dr p2)), .val (.int (own_dr p3)), .val (.int (own_dr p4)), .val (.ref b44), .val (.ref b55), .val .null] [(.int (51 : Int32)), (.int (own_dr p2))]) _
            refine XS.icmpNo X60.here hx rfl (hb hby at_153) rfl (teq hc153).2 ?_
            exact kt)
          obtain ⟨T88, X88, e88, st88⟩ := getS2 X60 hx hZ hown (host := "") (Or.inl (hw _ (List.mem_of_getElem? (i := 72) rfl))) Via.refl rfl (Sg2.ext O64.2) (g := (mkF m 156 #[.val (.int p1), .val (.int p2), .val (.int p3), .val (.int p4), .val (.int (1 : Int32)), .val (.int (own_dr p2)), .val (.int (own_dr p3)), .val (.int (own_dr p4)), .val (.ref b44), .val (.ref b55), .val .null] [])) rfl (hb hby at_156)
          have kn89 : ∀ t, own_S p e below T88 (mkF m 159 #[.val (.int p1), .val (.int p2), .val (.int p3), .val (.int p4), .val (.int (1 : Int32)), .val (.int (own_dr p2)), .val (.int (own_dr p3)), .val (.int (own_dr p4)), .val (.ref b44), .val (.ref b55), .val .null] [(.ref g2)]) t → Gl t := fun t kt => kn87 t (st88 _ kt)
          have kn90 : ∀ t, own_S p e below T88 (mkF m 163 #[.val (.int p1), .val (.int p2), .val (.int p3), .val (.int p4), .val (.int (1 : Int32)), .val (.int (own_dr p2)), .val (.int (own_dr p3)), .val (.int (own_dr p4)), .val (.ref b44), .val (.ref b55), .val (.ref g2)] [(.ref b55)]) t → Gl t := fun t kt => kn89 t (by
            show own_S p e below T88 (mkF m 159 #[.val (.int p1), .val (.int p2), .val (.int p3), .val (.int p4), .val (.int (1 : Int32)), .val (.int (own_dr p2)), .val (.int (own_dr p3)), .val (.int (own_dr p4)), .val (.ref b44), .val (.ref b55), .val .null] [(.ref g2)]) _
            refine XS.astore X88.here hx rfl (hb hby at_159) rfl rfl (l' := #[.val (.int p1), .val (.int p2), .val (.int p3), .val (.int p4), .val (.int (1 : Int32)), .val (.int (own_dr p2)), .val (.int (own_dr p3)), .val (.int (own_dr p4)), .val (.ref b44), .val (.ref b55), .val (.ref g2)]) rfl ?_
            show own_S p e below T88 (mkF m 161 #[.val (.int p1), .val (.int p2), .val (.int p3), .val (.int p4), .val (.int (1 : Int32)), .val (.int (own_dr p2)), .val (.int (own_dr p3)), .val (.int (own_dr p4)), .val (.ref b44), .val (.ref b55), .val (.ref g2)] []) _
            refine XS.aload X88.here hx rfl (hb hby at_161) rfl rfl ?_
            exact kt)
          have hcd_b55 : StrChars.Road.CodA ([(own_dr p2)] : List Int32) 0 (1 : Int32) ((([(own_dr p2)] : List Int32).map (fun c => c.toInt8.toInt32)).map Value.int) := StrChars.Road.codOf (n := 1) rfl (fun x hx => (hp61 x hx).2)
          have hbd_b55 : ∀ x ∈ ([(own_dr p2)] : List Int32), ¬ x < 0 ∧ ¬ (65535 : Int32) < x := own_up _ hp61
          obtain ⟨_, _, ⟨T91, L91, cc91, ss91⟩, -, X91, ⟨Lc91, hQ91, l91, y91, z91⟩, st91⟩ := Jvm.LawKit.callS X88 hx (y := (⟨"com/example/runs_to_scores/runstoscores/formats/GenomicsJudgment", "coded", "(Ljava/lang/String;)Lcom/example/runs_to_scores/runstoscores/formats/GenomicsJudgment;"⟩ : MethodName)) hown (mvT hZ (hw _ (List.mem_of_getElem? (i := 26) rfl))) (mvT hZ (hw _ (List.mem_of_getElem? (i := 27) rfl))) (mvT hZ (hw _ (List.mem_of_getElem? (i := 28) rfl))) (mvT hZ (hw _ (List.mem_of_getElem? (i := 29) rfl))) (by decide) (backOf (W := 0) (rmFind2 l Z a0 hw [] b55 t60 kb60 ([(own_dr p2)] : List Int32) (1 : Int32) ((([(own_dr p2)] : List Int32).map (fun c => c.toInt8.toInt32)).map Value.int) bV kV g0 y0 ty0 ky0 g1 y1 ty1 ky1 g2 y2 ty2 ky2 G1 T60.heap n0 Z63 Ex60 Va60 Co60 Ar60 hcd_b55 hbd_b55 (Nat.le_of_ble_eq_true rfl) O64 O2 P5 SV EV VV Fg0 Ey0 Vy0 Cy0 Ky0 Fg1 Ey1 Vy1 Cy1 Ky1 Fg2 Ey2 Vy2 Cy2 Ky2 (fun q => hc123 (List.cons.inj q).1.symm) (fun q => hc138 (List.cons.inj q).1.symm) (by rw [hc153])) hZ (hw _ (List.mem_of_getElem? (i := 29) rfl)) (hw _ (List.mem_of_getElem? (i := 28) rfl)) (by decide) (by decide)) (g := (mkF m 163 #[.val (.int p1), .val (.int p2), .val (.int p3), .val (.int p4), .val (.int (1 : Int32)), .val (.int (own_dr p2)), .val (.int (own_dr p3)), .val (.int (own_dr p4)), .val (.ref b44), .val (.ref b55), .val (.ref g2)] [(.ref b55)])) rfl (by rw [hml]; rfl) (argsL := [(.ref b55)]) (rest := []) (lenOf pd_5 rfl) rfl (by show 2 * 0 + _ ≤ _; exact Nat.le_of_eq rfl) (hb hby at_163) (fun _ _ => ⟨rfl, e88, (by decide : 3 + 1 ≤ _), (by decide : 6 + 3 ≤ _)⟩)
          dsimp only [Pt.U, Pt.locs, Pt.cells, Pt.slots] at X91 l91 y91 z91 st91 hQ91
          subst l91 y91 z91
          obtain ⟨rfl, Nq91, K91⟩ := hQ91
          have Nf91 := Fr.app Nf60 Nq91
          have Z92 : n0 ≤ T91.heap.size := Nat.le_trans Z63 K91.1
          have O93 : Old Z n0 T91.heap := O64.keep K91 all0
          have kn94 : ∀ t, own_S p e below T91 (mkF m 166 #[.val (.int p1), .val (.int p2), .val (.int p3), .val (.int p4), .val (.int (1 : Int32)), .val (.int (own_dr p2)), .val (.int (own_dr p3)), .val (.int (own_dr p4)), .val (.ref b44), .val (.ref b55), .val (.ref g2)] [(.ref g2)]) t → Gl t := fun t kt => kn90 t (st91 _ kt)
          have kn95 : ∀ t, own_S p e below T91 (mkF m 176 #[.val (.int p1), .val (.int p2), .val (.int p3), .val (.int p4), .val (.int (1 : Int32)), .val (.int (own_dr p2)), .val (.int (own_dr p3)), .val (.int (own_dr p4)), .val (.ref b44), .val (.ref b55), .val (.ref g2)] [(.int (1 : Int32))]) t → Gl t := fun t kt => kn94 t (by
            show own_S p e below T91 (mkF m 166 #[.val (.int p1), .val (.int p2), .val (.int p3), .val (.int p4), .val (.int (1 : Int32)), .val (.int (own_dr p2)), .val (.int (own_dr p3)), .val (.int (own_dr p4)), .val (.ref b44), .val (.ref b55), .val (.ref g2)] [(.ref g2)]) _
            refine XS.aload X91.here hx rfl (hb hby at_166) rfl rfl ?_
            show own_S p e below T91 (mkF m 168 #[.val (.int p1), .val (.int p2), .val (.int p3), .val (.int p4), .val (.int (1 : Int32)), .val (.int (own_dr p2)), .val (.int (own_dr p3)), .val (.int (own_dr p4)), .val (.ref b44), .val (.ref b55), .val (.ref g2)] [(.ref g2), (.ref g2)]) _
            refine Jvm.RoadKit.acmp (g := (mkF m 168 #[.val (.int p1), .val (.int p2), .val (.int p3), .val (.int p4), .val (.int (1 : Int32)), .val (.int (own_dr p2)), .val (.int (own_dr p3)), .val (.int (own_dr p4)), .val (.ref b44), .val (.ref b55), .val (.ref g2)] [(.ref g2), (.ref g2)])) X91 hx rfl rfl rfl (pc0 := 168) (pc' := 171) (same := true) rfl (hb hby at_168) rfl (decide_eq_true rfl) (by decide) (by decide) ?_
            show own_S p e below T91 (mkF m 171 #[.val (.int p1), .val (.int p2), .val (.int p3), .val (.int p4), .val (.int (1 : Int32)), .val (.int (own_dr p2)), .val (.int (own_dr p3)), .val (.int (own_dr p4)), .val (.ref b44), .val (.ref b55), .val (.ref g2)] []) _
            refine XS.iconst X91.here hx rfl (hb hby at_171) ?_
            show own_S p e below T91 (mkF m 172 #[.val (.int p1), .val (.int p2), .val (.int p3), .val (.int p4), .val (.int (1 : Int32)), .val (.int (own_dr p2)), .val (.int (own_dr p3)), .val (.int (own_dr p4)), .val (.ref b44), .val (.ref b55), .val (.ref g2)] [(.int (1 : Int32))]) _
            refine XS.goto X91.here hx rfl (pc0 := 172) (pc' := 176) rfl (hb hby at_172) (by decide) (by decide) ?_
            exact kt)
          obtain ⟨fs, hr, hrun, hended, hW, hsame⟩ := X91.leave (v := some (.int (1 : Int32))) (fun h => by rw [Bd.returns] at h; cases h)
          refine ⟨_, _, hGl _ (kn95 _ (retN X91 hx (t := .boolean) Bd.returns (by simp) (hb hby at_176) hr)), hrun, hended, _, _, rfl, ?_, ReturnedEndW.of_narrow ⟨_, rfl⟩ hW (hsame.mono (by decide) (by decide))⟩
          show Q0 Z p1 p2 p3 p4 bV kV g0 y0 ty0 ky0 g1 y1 ty1 ky1 g2 y2 ty2 ky2 G1 h0 n0 _ T91.heap _
          exact ⟨rfl, Nf91⟩
        · have kn96 : ∀ t, own_S p e below T60 (mkF m 163 #[.val (.int p1), .val (.int p2), .val (.int p3), .val (.int p4), .val (.int (1 : Int32)), .val (.int (own_dr p2)), .val (.int (own_dr p3)), .val (.int (own_dr p4)), .val (.ref b44), .val (.ref b55), .val .null] [(.ref b55)]) t → Gl t := fun t kt => kn86 t (by
            show own_S p e below T60 (mkF m 153 #[.val (.int p1), .val (.int p2), .val (.int p3), .val (.int p4), .val (.int (1 : Int32)), .val (.int (own_dr p2)), .val (.int (own_dr p3)), .val (.int (own_dr p4)), .val (.ref b44), .val (.ref b55), .val .null] [(.int (51 : Int32)), (.int (own_dr p2))]) _
            refine XS.icmpYes X60.here hx rfl (pc0 := 153) (pc' := 161) rfl (hb hby at_153) rfl (feq hc153).2 (by decide) (by decide) ?_
            show own_S p e below T60 (mkF m 161 #[.val (.int p1), .val (.int p2), .val (.int p3), .val (.int p4), .val (.int (1 : Int32)), .val (.int (own_dr p2)), .val (.int (own_dr p3)), .val (.int (own_dr p4)), .val (.ref b44), .val (.ref b55), .val .null] []) _
            refine XS.aload X60.here hx rfl (hb hby at_161) rfl rfl ?_
            exact kt)
          have hcd_b55 : StrChars.Road.CodA ([(own_dr p2)] : List Int32) 0 (1 : Int32) ((([(own_dr p2)] : List Int32).map (fun c => c.toInt8.toInt32)).map Value.int) := StrChars.Road.codOf (n := 1) rfl (fun x hx => (hp61 x hx).2)
          have hbd_b55 : ∀ x ∈ ([(own_dr p2)] : List Int32), ¬ x < 0 ∧ ¬ (65535 : Int32) < x := own_up _ hp61
          obtain ⟨_, _, ⟨T97, L97, cc97, ss97⟩, -, X97, ⟨Lc97, hQ97, l97, y97, z97⟩, st97⟩ := Jvm.LawKit.callS X60 hx (y := (⟨"com/example/runs_to_scores/runstoscores/formats/GenomicsJudgment", "coded", "(Ljava/lang/String;)Lcom/example/runs_to_scores/runstoscores/formats/GenomicsJudgment;"⟩ : MethodName)) hown (mvT hZ (hw _ (List.mem_of_getElem? (i := 26) rfl))) (mvT hZ (hw _ (List.mem_of_getElem? (i := 27) rfl))) (mvT hZ (hw _ (List.mem_of_getElem? (i := 28) rfl))) (mvT hZ (hw _ (List.mem_of_getElem? (i := 29) rfl))) (by decide) (backOf (W := 0) (rmFind3 l Z a0 hw [] b55 t60 kb60 ([(own_dr p2)] : List Int32) (1 : Int32) ((([(own_dr p2)] : List Int32).map (fun c => c.toInt8.toInt32)).map Value.int) bV kV g0 y0 ty0 ky0 g1 y1 ty1 ky1 g2 y2 ty2 ky2 G1 T60.heap n0 Z63 Ex60 Va60 Co60 Ar60 hcd_b55 hbd_b55 (Nat.le_of_ble_eq_true rfl) O64 O2 P5 SV EV VV Fg0 Ey0 Vy0 Cy0 Ky0 Fg1 Ey1 Vy1 Cy1 Ky1 Fg2 Ey2 Vy2 Cy2 Ky2 (fun q => hc123 (List.cons.inj q).1.symm) (fun q => hc138 (List.cons.inj q).1.symm) (fun q => hc153 (List.cons.inj q).1.symm)) hZ (hw _ (List.mem_of_getElem? (i := 29) rfl)) (hw _ (List.mem_of_getElem? (i := 28) rfl)) (by decide) (by decide)) (g := (mkF m 163 #[.val (.int p1), .val (.int p2), .val (.int p3), .val (.int p4), .val (.int (1 : Int32)), .val (.int (own_dr p2)), .val (.int (own_dr p3)), .val (.int (own_dr p4)), .val (.ref b44), .val (.ref b55), .val .null] [(.ref b55)])) rfl (by rw [hml]; rfl) (argsL := [(.ref b55)]) (rest := []) (lenOf pd_5 rfl) rfl (by show 2 * 0 + _ ≤ _; exact Nat.le_of_eq rfl) (hb hby at_163) (fun _ _ => ⟨rfl, rfl, (by decide : 3 + 1 ≤ _), (by decide : 6 + 3 ≤ _)⟩)
          dsimp only [Pt.U, Pt.locs, Pt.cells, Pt.slots] at X97 l97 y97 z97 st97 hQ97
          subst l97 y97 z97
          obtain ⟨rfl, Nq97, K97⟩ := hQ97
          have Nf97 := Fr.app Nf60 Nq97
          have Z98 : n0 ≤ T97.heap.size := Nat.le_trans Z63 K97.1
          have O99 : Old Z n0 T97.heap := O64.keep K97 all0
          have kn100 : ∀ t, own_S p e below T97 (mkF m 166 #[.val (.int p1), .val (.int p2), .val (.int p3), .val (.int p4), .val (.int (1 : Int32)), .val (.int (own_dr p2)), .val (.int (own_dr p3)), .val (.int (own_dr p4)), .val (.ref b44), .val (.ref b55), .val .null] [.null]) t → Gl t := fun t kt => kn96 t (st97 _ kt)
          have kn101 : ∀ t, own_S p e below T97 (mkF m 176 #[.val (.int p1), .val (.int p2), .val (.int p3), .val (.int p4), .val (.int (1 : Int32)), .val (.int (own_dr p2)), .val (.int (own_dr p3)), .val (.int (own_dr p4)), .val (.ref b44), .val (.ref b55), .val .null] [(.int (1 : Int32))]) t → Gl t := fun t kt => kn100 t (by
            show own_S p e below T97 (mkF m 166 #[.val (.int p1), .val (.int p2), .val (.int p3), .val (.int p4), .val (.int (1 : Int32)), .val (.int (own_dr p2)), .val (.int (own_dr p3)), .val (.int (own_dr p4)), .val (.ref b44), .val (.ref b55), .val .null] [.null]) _
            refine XS.aload X97.here hx rfl (hb hby at_166) rfl rfl ?_
            show own_S p e below T97 (mkF m 168 #[.val (.int p1), .val (.int p2), .val (.int p3), .val (.int p4), .val (.int (1 : Int32)), .val (.int (own_dr p2)), .val (.int (own_dr p3)), .val (.int (own_dr p4)), .val (.ref b44), .val (.ref b55), .val .null] [.null, .null]) _
            refine Jvm.RoadKit.acmp (g := (mkF m 168 #[.val (.int p1), .val (.int p2), .val (.int p3), .val (.int p4), .val (.int (1 : Int32)), .val (.int (own_dr p2)), .val (.int (own_dr p3)), .val (.int (own_dr p4)), .val (.ref b44), .val (.ref b55), .val .null] [.null, .null])) X97 hx rfl rfl rfl (pc0 := 168) (pc' := 171) (same := true) rfl (hb hby at_168) rfl (decide_eq_true rfl) (by decide) (by decide) ?_
            show own_S p e below T97 (mkF m 171 #[.val (.int p1), .val (.int p2), .val (.int p3), .val (.int p4), .val (.int (1 : Int32)), .val (.int (own_dr p2)), .val (.int (own_dr p3)), .val (.int (own_dr p4)), .val (.ref b44), .val (.ref b55), .val .null] []) _
            refine XS.iconst X97.here hx rfl (hb hby at_171) ?_
            show own_S p e below T97 (mkF m 172 #[.val (.int p1), .val (.int p2), .val (.int p3), .val (.int p4), .val (.int (1 : Int32)), .val (.int (own_dr p2)), .val (.int (own_dr p3)), .val (.int (own_dr p4)), .val (.ref b44), .val (.ref b55), .val .null] [(.int (1 : Int32))]) _
            refine XS.goto X97.here hx rfl (pc0 := 172) (pc' := 176) rfl (hb hby at_172) (by decide) (by decide) ?_
            exact kt)
          obtain ⟨fs, hr, hrun, hended, hW, hsame⟩ := X97.leave (v := some (.int (1 : Int32))) (fun h => by rw [Bd.returns] at h; cases h)
          refine ⟨_, _, hGl _ (kn101 _ (retN X97 hx (t := .boolean) Bd.returns (by simp) (hb hby at_176) hr)), hrun, hended, _, _, rfl, ?_, ReturnedEndW.of_narrow ⟨_, rfl⟩ hW (hsame.mono (by decide) (by decide))⟩
          show Q0 Z p1 p2 p3 p4 bV kV g0 y0 ty0 ky0 g1 y1 ty1 ky1 g2 y2 ty2 ky2 G1 h0 n0 _ T97.heap _
          exact ⟨rfl, Nf97⟩
  · rw [(show (p1 &&& (3 : Int32)) = (2 : Int32) from hk)] at kn1
    have kn102 : ∀ t, own_S p e below s₁ (mkF m 6 #[.val (.int p1), .val (.int p2), .val (.int p3), .val (.int p4), .val (.int (2 : Int32)), .unset, .unset, .unset, .unset, .unset, .unset] [(.int p2)]) t → Gl t := fun t kt => kn1 t (by
      show own_S p e below s₁ (mkF m 3 #[.val (.int p1), .val (.int p2), .val (.int p3), .val (.int p4), .unset, .unset, .unset, .unset, .unset, .unset, .unset] [(.int (2 : Int32))]) _
      refine XS.istore X0.here hx rfl (hb hby at_3) rfl (l' := #[.val (.int p1), .val (.int p2), .val (.int p3), .val (.int p4), .val (.int (2 : Int32)), .unset, .unset, .unset, .unset, .unset, .unset]) rfl ?_
      show own_S p e below s₁ (mkF m 5 #[.val (.int p1), .val (.int p2), .val (.int p3), .val (.int p4), .val (.int (2 : Int32)), .unset, .unset, .unset, .unset, .unset, .unset] []) _
      refine XS.iloadN X0.here hx rfl (hb hby at_5) rfl ?_
      exact kt)
    obtain ⟨_, _, ⟨T103, L103, cc103, ss103⟩, -, X103, ⟨Lc103, hQ103, l103, y103, z103⟩, st103⟩ := Jvm.LawKit.callS X0 hx (y := (⟨"com/example/runs_to_scores/runstoscores/formats/GenomicsJudgmentCodedPinLaw", "drawn", "(I)C"⟩ : MethodName)) hown (mvT hZ (hw _ (List.mem_of_getElem? (i := 0) rfl))) (mvT hZ (hw _ (List.mem_of_getElem? (i := 1) rfl))) (mvT hZ (hw _ (List.mem_of_getElem? (i := 2) rfl))) (mvT hZ (hw _ (List.mem_of_getElem? (i := 3) rfl))) (by decide) (backOf (W := 0) (rm1 l Z a0 hw [] p2  h0 n0 Z0 ) hZ (hw _ (List.mem_of_getElem? (i := 3) rfl)) (hw _ (List.mem_of_getElem? (i := 2) rfl)) (by decide) (by decide)) (g := (mkF m 6 #[.val (.int p1), .val (.int p2), .val (.int p3), .val (.int p4), .val (.int (2 : Int32)), .unset, .unset, .unset, .unset, .unset, .unset] [(.int p2)])) rfl (by rw [hml]; rfl) (argsL := [(.int p2)]) (rest := []) (lenOf pd_3 rfl) rfl (by show 2 * 0 + _ ≤ _; exact Nat.le_of_eq rfl) (hb hby at_6) (fun _ _ => ⟨rfl, e0, (by decide : 0 + 0 ≤ _), (by decide : 0 + 0 ≤ _)⟩)
    dsimp only [Pt.U, Pt.locs, Pt.cells, Pt.slots] at X103 l103 y103 z103 st103 hQ103
    subst l103 y103 z103
    obtain ⟨rfl, Nq103, eq103⟩ := hQ103
    have Nf103 := Fr.app Nf0 Nq103
    have kn104 : ∀ t, own_S p e below T103 (mkF m 9 #[.val (.int p1), .val (.int p2), .val (.int p3), .val (.int p4), .val (.int (2 : Int32)), .unset, .unset, .unset, .unset, .unset, .unset] [(.int (own_dr p2))]) t → Gl t := fun t kt => kn102 t (st103 _ kt)
    have kn105 : ∀ t, own_S p e below T103 (mkF m 12 #[.val (.int p1), .val (.int p2), .val (.int p3), .val (.int p4), .val (.int (2 : Int32)), .val (.int (own_dr p2)), .unset, .unset, .unset, .unset, .unset] [(.int p3)]) t → Gl t := fun t kt => kn104 t (by
      show own_S p e below T103 (mkF m 9 #[.val (.int p1), .val (.int p2), .val (.int p3), .val (.int p4), .val (.int (2 : Int32)), .unset, .unset, .unset, .unset, .unset, .unset] [(.int (own_dr p2))]) _
      refine XS.istore X103.here hx rfl (hb hby at_9) rfl (l' := #[.val (.int p1), .val (.int p2), .val (.int p3), .val (.int p4), .val (.int (2 : Int32)), .val (.int (own_dr p2)), .unset, .unset, .unset, .unset, .unset]) rfl ?_
      show own_S p e below T103 (mkF m 11 #[.val (.int p1), .val (.int p2), .val (.int p3), .val (.int p4), .val (.int (2 : Int32)), .val (.int (own_dr p2)), .unset, .unset, .unset, .unset, .unset] []) _
      refine XS.iloadN X103.here hx rfl (hb hby at_11) rfl ?_
      exact kt)
    obtain ⟨_, _, ⟨T106, L106, cc106, ss106⟩, -, X106, ⟨Lc106, hQ106, l106, y106, z106⟩, st106⟩ := Jvm.LawKit.callS X103 hx (y := (⟨"com/example/runs_to_scores/runstoscores/formats/GenomicsJudgmentCodedPinLaw", "drawn", "(I)C"⟩ : MethodName)) hown (mvT hZ (hw _ (List.mem_of_getElem? (i := 0) rfl))) (mvT hZ (hw _ (List.mem_of_getElem? (i := 1) rfl))) (mvT hZ (hw _ (List.mem_of_getElem? (i := 2) rfl))) (mvT hZ (hw _ (List.mem_of_getElem? (i := 3) rfl))) (by decide) (backOf (W := 0) (rm1 l Z a0 hw [] p3  h0 n0 Z0 ) hZ (hw _ (List.mem_of_getElem? (i := 3) rfl)) (hw _ (List.mem_of_getElem? (i := 2) rfl)) (by decide) (by decide)) (g := (mkF m 12 #[.val (.int p1), .val (.int p2), .val (.int p3), .val (.int p4), .val (.int (2 : Int32)), .val (.int (own_dr p2)), .unset, .unset, .unset, .unset, .unset] [(.int p3)])) rfl (by rw [hml]; rfl) (argsL := [(.int p3)]) (rest := []) (lenOf pd_3 rfl) rfl (by show 2 * 0 + _ ≤ _; exact Nat.le_of_eq rfl) (hb hby at_12) (fun _ _ => ⟨rfl, eq103, (by decide : 0 + 0 ≤ _), (by decide : 0 + 0 ≤ _)⟩)
    dsimp only [Pt.U, Pt.locs, Pt.cells, Pt.slots] at X106 l106 y106 z106 st106 hQ106
    subst l106 y106 z106
    obtain ⟨rfl, Nq106, eq106⟩ := hQ106
    have Nf106 := Fr.app Nf103 Nq106
    have kn107 : ∀ t, own_S p e below T106 (mkF m 15 #[.val (.int p1), .val (.int p2), .val (.int p3), .val (.int p4), .val (.int (2 : Int32)), .val (.int (own_dr p2)), .unset, .unset, .unset, .unset, .unset] [(.int (own_dr p3))]) t → Gl t := fun t kt => kn105 t (st106 _ kt)
    have kn108 : ∀ t, own_S p e below T106 (mkF m 18 #[.val (.int p1), .val (.int p2), .val (.int p3), .val (.int p4), .val (.int (2 : Int32)), .val (.int (own_dr p2)), .val (.int (own_dr p3)), .unset, .unset, .unset, .unset] [(.int p4)]) t → Gl t := fun t kt => kn107 t (by
      show own_S p e below T106 (mkF m 15 #[.val (.int p1), .val (.int p2), .val (.int p3), .val (.int p4), .val (.int (2 : Int32)), .val (.int (own_dr p2)), .unset, .unset, .unset, .unset, .unset] [(.int (own_dr p3))]) _
      refine XS.istore X106.here hx rfl (hb hby at_15) rfl (l' := #[.val (.int p1), .val (.int p2), .val (.int p3), .val (.int p4), .val (.int (2 : Int32)), .val (.int (own_dr p2)), .val (.int (own_dr p3)), .unset, .unset, .unset, .unset]) rfl ?_
      show own_S p e below T106 (mkF m 17 #[.val (.int p1), .val (.int p2), .val (.int p3), .val (.int p4), .val (.int (2 : Int32)), .val (.int (own_dr p2)), .val (.int (own_dr p3)), .unset, .unset, .unset, .unset] []) _
      refine XS.iloadN X106.here hx rfl (hb hby at_17) rfl ?_
      exact kt)
    obtain ⟨_, _, ⟨T109, L109, cc109, ss109⟩, -, X109, ⟨Lc109, hQ109, l109, y109, z109⟩, st109⟩ := Jvm.LawKit.callS X106 hx (y := (⟨"com/example/runs_to_scores/runstoscores/formats/GenomicsJudgmentCodedPinLaw", "drawn", "(I)C"⟩ : MethodName)) hown (mvT hZ (hw _ (List.mem_of_getElem? (i := 0) rfl))) (mvT hZ (hw _ (List.mem_of_getElem? (i := 1) rfl))) (mvT hZ (hw _ (List.mem_of_getElem? (i := 2) rfl))) (mvT hZ (hw _ (List.mem_of_getElem? (i := 3) rfl))) (by decide) (backOf (W := 0) (rm1 l Z a0 hw [] p4  h0 n0 Z0 ) hZ (hw _ (List.mem_of_getElem? (i := 3) rfl)) (hw _ (List.mem_of_getElem? (i := 2) rfl)) (by decide) (by decide)) (g := (mkF m 18 #[.val (.int p1), .val (.int p2), .val (.int p3), .val (.int p4), .val (.int (2 : Int32)), .val (.int (own_dr p2)), .val (.int (own_dr p3)), .unset, .unset, .unset, .unset] [(.int p4)])) rfl (by rw [hml]; rfl) (argsL := [(.int p4)]) (rest := []) (lenOf pd_3 rfl) rfl (by show 2 * 0 + _ ≤ _; exact Nat.le_of_eq rfl) (hb hby at_18) (fun _ _ => ⟨rfl, eq106, (by decide : 0 + 0 ≤ _), (by decide : 0 + 0 ≤ _)⟩)
    dsimp only [Pt.U, Pt.locs, Pt.cells, Pt.slots] at X109 l109 y109 z109 st109 hQ109
    subst l109 y109 z109
    obtain ⟨rfl, Nq109, eq109⟩ := hQ109
    have Nf109 := Fr.app Nf106 Nq109
    have kn110 : ∀ t, own_S p e below T109 (mkF m 21 #[.val (.int p1), .val (.int p2), .val (.int p3), .val (.int p4), .val (.int (2 : Int32)), .val (.int (own_dr p2)), .val (.int (own_dr p3)), .unset, .unset, .unset, .unset] [(.int (own_dr p4))]) t → Gl t := fun t kt => kn108 t (st109 _ kt)
    have kn111 : ∀ t, own_S p e below T109 (mkF m 62 #[.val (.int p1), .val (.int p2), .val (.int p3), .val (.int p4), .val (.int (2 : Int32)), .val (.int (own_dr p2)), .val (.int (own_dr p3)), .val (.int (own_dr p4)), .unset, .unset, .unset] [(.int (2 : Int32))]) t → Gl t := fun t kt => kn110 t (by
      show own_S p e below T109 (mkF m 21 #[.val (.int p1), .val (.int p2), .val (.int p3), .val (.int p4), .val (.int (2 : Int32)), .val (.int (own_dr p2)), .val (.int (own_dr p3)), .unset, .unset, .unset, .unset] [(.int (own_dr p4))]) _
      refine XS.istore X109.here hx rfl (hb hby at_21) rfl (l' := #[.val (.int p1), .val (.int p2), .val (.int p3), .val (.int p4), .val (.int (2 : Int32)), .val (.int (own_dr p2)), .val (.int (own_dr p3)), .val (.int (own_dr p4)), .unset, .unset, .unset]) rfl ?_
      show own_S p e below T109 (mkF m 23 #[.val (.int p1), .val (.int p2), .val (.int p3), .val (.int p4), .val (.int (2 : Int32)), .val (.int (own_dr p2)), .val (.int (own_dr p3)), .val (.int (own_dr p4)), .unset, .unset, .unset] []) _
      refine XS.iload X109.here hx rfl (hb hby at_23) rfl ?_
      show own_S p e below T109 (mkF m 25 #[.val (.int p1), .val (.int p2), .val (.int p3), .val (.int p4), .val (.int (2 : Int32)), .val (.int (own_dr p2)), .val (.int (own_dr p3)), .val (.int (own_dr p4)), .unset, .unset, .unset] [(.int (2 : Int32))]) _
      refine XS.ifYes X109.here hx rfl (pc0 := 25) (pc' := 36) rfl (hb hby at_25) rfl ((if0 _ _).trans (feq (by decide : ¬ ((2 : Int32) = (0 : Int32)))).2) (by decide) (by decide) ?_
      show own_S p e below T109 (mkF m 36 #[.val (.int p1), .val (.int p2), .val (.int p3), .val (.int p4), .val (.int (2 : Int32)), .val (.int (own_dr p2)), .val (.int (own_dr p3)), .val (.int (own_dr p4)), .unset, .unset, .unset] []) _
      refine XS.iload X109.here hx rfl (hb hby at_36) rfl ?_
      show own_S p e below T109 (mkF m 38 #[.val (.int p1), .val (.int p2), .val (.int p3), .val (.int p4), .val (.int (2 : Int32)), .val (.int (own_dr p2)), .val (.int (own_dr p3)), .val (.int (own_dr p4)), .unset, .unset, .unset] [(.int (2 : Int32))]) _
      refine XS.iconst X109.here hx rfl (hb hby at_38) ?_
      show own_S p e below T109 (mkF m 39 #[.val (.int p1), .val (.int p2), .val (.int p3), .val (.int p4), .val (.int (2 : Int32)), .val (.int (own_dr p2)), .val (.int (own_dr p3)), .val (.int (own_dr p4)), .unset, .unset, .unset] [(.int (1 : Int32)), (.int (2 : Int32))]) _
      refine XS.icmpYes X109.here hx rfl (pc0 := 39) (pc' := 55) rfl (hb hby at_39) rfl (feq (by decide : ¬ ((2 : Int32) = (1 : Int32)))).2 (by decide) (by decide) ?_
      show own_S p e below T109 (mkF m 55 #[.val (.int p1), .val (.int p2), .val (.int p3), .val (.int p4), .val (.int (2 : Int32)), .val (.int (own_dr p2)), .val (.int (own_dr p3)), .val (.int (own_dr p4)), .unset, .unset, .unset] []) _
      refine XS.iload X109.here hx rfl (hb hby at_55) rfl ?_
      show own_S p e below T109 (mkF m 57 #[.val (.int p1), .val (.int p2), .val (.int p3), .val (.int p4), .val (.int (2 : Int32)), .val (.int (own_dr p2)), .val (.int (own_dr p3)), .val (.int (own_dr p4)), .unset, .unset, .unset] [(.int (2 : Int32))]) _
      refine XS.iconst X109.here hx rfl (hb hby at_57) ?_
      show own_S p e below T109 (mkF m 58 #[.val (.int p1), .val (.int p2), .val (.int p3), .val (.int p4), .val (.int (2 : Int32)), .val (.int (own_dr p2)), .val (.int (own_dr p3)), .val (.int (own_dr p4)), .unset, .unset, .unset] [(.int (2 : Int32)), (.int (2 : Int32))]) _
      refine XS.icmpNo X109.here hx rfl (hb hby at_58) rfl (teq (by decide : (2 : Int32) = (2 : Int32))).2 ?_
      show own_S p e below T109 (mkF m 61 #[.val (.int p1), .val (.int p2), .val (.int p3), .val (.int p4), .val (.int (2 : Int32)), .val (.int (own_dr p2)), .val (.int (own_dr p3)), .val (.int (own_dr p4)), .unset, .unset, .unset] []) _
      refine XS.iconst X109.here hx rfl (hb hby at_61) ?_
      exact kt)
    obtain ⟨T112, h112, kk112, X112, e112, E112, A112, st112⟩ := newP X109 hx hZ (hw _ (List.mem_of_getElem? (i := 4) rfl)) eq109 (g := (mkF m 62 #[.val (.int p1), .val (.int p2), .val (.int p3), .val (.int p4), .val (.int (2 : Int32)), .val (.int (own_dr p2)), .val (.int (own_dr p3)), .val (.int (own_dr p4)), .unset, .unset, .unset] [(.int (2 : Int32))])) rfl (hb hby at_62) rfl (by decide) (cap := 2) (by decide) (by decide) (by decide) (by decide)
    obtain ⟨b112, g112⟩ : ∃ z, z = h0.size := ⟨_, rfl⟩
    rw [← g112] at A112 st112
    have g_b112 : n0 ≤ b112 := Nat.le_trans Z0 (Nat.le_of_eq g112.symm)
    have Z113 : n0 ≤ h112.size := Nat.le_trans Z0 E112.1
    have O114 : Old Z n0 h112 := O0.ext E112
    have V112 : Arv Z h112 b112 kk112 .char (2 : Int32) [(.int (0 : Int32)), (.int (0 : Int32))] (.int (0 : Int32)) := (Arv.new A112 (by decide)).pad (pad_rep [] (.int (0 : Int32)) 2)
    have kn115 : ∀ t, own_S p e below T112 (mkF m 64 #[.val (.int p1), .val (.int p2), .val (.int p3), .val (.int p4), .val (.int (2 : Int32)), .val (.int (own_dr p2)), .val (.int (own_dr p3)), .val (.int (own_dr p4)), .unset, .unset, .unset] [(.ref b112)]) t → Gl t := fun t kt => kn111 t (st112 _ kt)
    have kn116 : ∀ t, own_S p e below T112 (mkF m 68 #[.val (.int p1), .val (.int p2), .val (.int p3), .val (.int p4), .val (.int (2 : Int32)), .val (.int (own_dr p2)), .val (.int (own_dr p3)), .val (.int (own_dr p4)), .unset, .unset, .unset] [(.int (own_dr p2)), (.int (0 : Int32)), (.ref b112), (.ref b112)]) t → Gl t := fun t kt => kn115 t (by
      show own_S p e below T112 (mkF m 64 #[.val (.int p1), .val (.int p2), .val (.int p3), .val (.int p4), .val (.int (2 : Int32)), .val (.int (own_dr p2)), .val (.int (own_dr p3)), .val (.int (own_dr p4)), .unset, .unset, .unset] [(.ref b112)]) _
      refine XS.dup X112.here hx rfl (hb hby at_64) rfl rfl ?_
      show own_S p e below T112 (mkF m 65 #[.val (.int p1), .val (.int p2), .val (.int p3), .val (.int p4), .val (.int (2 : Int32)), .val (.int (own_dr p2)), .val (.int (own_dr p3)), .val (.int (own_dr p4)), .unset, .unset, .unset] [(.ref b112), (.ref b112)]) _
      refine XS.iconst X112.here hx rfl (hb hby at_65) ?_
      show own_S p e below T112 (mkF m 66 #[.val (.int p1), .val (.int p2), .val (.int p3), .val (.int p4), .val (.int (2 : Int32)), .val (.int (own_dr p2)), .val (.int (own_dr p3)), .val (.int (own_dr p4)), .unset, .unset, .unset] [(.int (0 : Int32)), (.ref b112), (.ref b112)]) _
      refine XS.iload X112.here hx rfl (hb hby at_66) rfl ?_
      exact kt)
    obtain ⟨cl117, Ar117, q117, Sz117, Ng117, Hs117, Gs117⟩ := id V112
    have hin117 : ¬ ((0 : Int32) < 0 ∨ cl117.slots.size ≤ ((0 : Int32)).toNatClampNeg) := inb_of Sz117 ⟨by decide, by decide⟩
    obtain ⟨T117, h117, X117, e117, W117, st117⟩ := stC X112 hx hZ e112 Ar117 (j := (0 : Int32)) hin117 (g := (mkF m 68 #[.val (.int p1), .val (.int p2), .val (.int p3), .val (.int p4), .val (.int (2 : Int32)), .val (.int (own_dr p2)), .val (.int (own_dr p3)), .val (.int (own_dr p4)), .unset, .unset, .unset] [(.int (own_dr p2)), (.int (0 : Int32)), (.ref b112), (.ref b112)])) rfl rfl (hb hby at_68)
    have Z118 : n0 ≤ h117.size := Nat.le_trans Z113 (Keep.of_wr W117).1
    have O119 : Old Z n0 h117 := O114.wr W117 g_b112
    have V117 : Arv Z h117 b112 kk112 .char (2 : Int32) [(.int ((own_dr p2).toUInt32.toUInt16.toUInt32.toInt32)), (.int (0 : Int32))] (.int (0 : Int32)) := Arv.set Ar117 q117 Sz117 Ng117 Hs117 Gs117 (fits_nar_char _) W117 0 rfl (Nat.le_of_ble_eq_true rfl)
    rw [(show ((own_dr p2).toUInt32.toUInt16.toUInt32.toInt32) = (own_dr p2) from own_drc _)] at V117
    have Nf120 := Fr.snoc X117 Nf109 g_b112
    have kn121 : ∀ t, own_S p e below T117 (mkF m 69 #[.val (.int p1), .val (.int p2), .val (.int p3), .val (.int p4), .val (.int (2 : Int32)), .val (.int (own_dr p2)), .val (.int (own_dr p3)), .val (.int (own_dr p4)), .unset, .unset, .unset] [(.ref b112)]) t → Gl t := fun t kt => kn116 t (st117 _ kt)
    have kn122 : ∀ t, own_S p e below T117 (mkF m 73 #[.val (.int p1), .val (.int p2), .val (.int p3), .val (.int p4), .val (.int (2 : Int32)), .val (.int (own_dr p2)), .val (.int (own_dr p3)), .val (.int (own_dr p4)), .unset, .unset, .unset] [(.int (own_dr p3)), (.int (1 : Int32)), (.ref b112), (.ref b112)]) t → Gl t := fun t kt => kn121 t (by
      show own_S p e below T117 (mkF m 69 #[.val (.int p1), .val (.int p2), .val (.int p3), .val (.int p4), .val (.int (2 : Int32)), .val (.int (own_dr p2)), .val (.int (own_dr p3)), .val (.int (own_dr p4)), .unset, .unset, .unset] [(.ref b112)]) _
      refine XS.dup X117.here hx rfl (hb hby at_69) rfl rfl ?_
      show own_S p e below T117 (mkF m 70 #[.val (.int p1), .val (.int p2), .val (.int p3), .val (.int p4), .val (.int (2 : Int32)), .val (.int (own_dr p2)), .val (.int (own_dr p3)), .val (.int (own_dr p4)), .unset, .unset, .unset] [(.ref b112), (.ref b112)]) _
      refine XS.iconst X117.here hx rfl (hb hby at_70) ?_
      show own_S p e below T117 (mkF m 71 #[.val (.int p1), .val (.int p2), .val (.int p3), .val (.int p4), .val (.int (2 : Int32)), .val (.int (own_dr p2)), .val (.int (own_dr p3)), .val (.int (own_dr p4)), .unset, .unset, .unset] [(.int (1 : Int32)), (.ref b112), (.ref b112)]) _
      refine XS.iload X117.here hx rfl (hb hby at_71) rfl ?_
      exact kt)
    obtain ⟨cl123, Ar123, q123, Sz123, Ng123, Hs123, Gs123⟩ := id V117
    have hin123 : ¬ ((1 : Int32) < 0 ∨ cl123.slots.size ≤ ((1 : Int32)).toNatClampNeg) := inb_of Sz123 ⟨by decide, by decide⟩
    obtain ⟨T123, h123, X123, e123, W123, st123⟩ := stC X117 hx hZ e117 Ar123 (j := (1 : Int32)) hin123 (g := (mkF m 73 #[.val (.int p1), .val (.int p2), .val (.int p3), .val (.int p4), .val (.int (2 : Int32)), .val (.int (own_dr p2)), .val (.int (own_dr p3)), .val (.int (own_dr p4)), .unset, .unset, .unset] [(.int (own_dr p3)), (.int (1 : Int32)), (.ref b112), (.ref b112)])) rfl rfl (hb hby at_73)
    have Z124 : n0 ≤ h123.size := Nat.le_trans Z118 (Keep.of_wr W123).1
    have O125 : Old Z n0 h123 := O119.wr W123 g_b112
    have V123 : Arv Z h123 b112 kk112 .char (2 : Int32) [(.int (own_dr p2)), (.int ((own_dr p3).toUInt32.toUInt16.toUInt32.toInt32))] (.int (0 : Int32)) := Arv.set Ar123 q123 Sz123 Ng123 Hs123 Gs123 (fits_nar_char _) W123 1 rfl (Nat.le_of_ble_eq_true rfl)
    rw [(show ((own_dr p3).toUInt32.toUInt16.toUInt32.toInt32) = (own_dr p3) from own_drc _)] at V123
    have Nf126 := Fr.snoc X123 Nf120 g_b112
    have kn127 : ∀ t, own_S p e below T123 (mkF m 74 #[.val (.int p1), .val (.int p2), .val (.int p3), .val (.int p4), .val (.int (2 : Int32)), .val (.int (own_dr p2)), .val (.int (own_dr p3)), .val (.int (own_dr p4)), .unset, .unset, .unset] [(.ref b112)]) t → Gl t := fun t kt => kn122 t (st123 _ kt)
    have kn128 : ∀ t, own_S p e below T123 (mkF m 99 #[.val (.int p1), .val (.int p2), .val (.int p3), .val (.int p4), .val (.int (2 : Int32)), .val (.int (own_dr p2)), .val (.int (own_dr p3)), .val (.int (own_dr p4)), .val (.ref b112), .unset, .unset] []) t → Gl t := fun t kt => kn127 t (by
      show own_S p e below T123 (mkF m 74 #[.val (.int p1), .val (.int p2), .val (.int p3), .val (.int p4), .val (.int (2 : Int32)), .val (.int (own_dr p2)), .val (.int (own_dr p3)), .val (.int (own_dr p4)), .unset, .unset, .unset] [(.ref b112)]) _
      refine XS.astore X123.here hx rfl (hb hby at_74) rfl rfl (l' := #[.val (.int p1), .val (.int p2), .val (.int p3), .val (.int p4), .val (.int (2 : Int32)), .val (.int (own_dr p2)), .val (.int (own_dr p3)), .val (.int (own_dr p4)), .val (.ref b112), .unset, .unset]) rfl ?_
      show own_S p e below T123 (mkF m 76 #[.val (.int p1), .val (.int p2), .val (.int p3), .val (.int p4), .val (.int (2 : Int32)), .val (.int (own_dr p2)), .val (.int (own_dr p3)), .val (.int (own_dr p4)), .val (.ref b112), .unset, .unset] []) _
      refine XS.goto X123.here hx rfl (pc0 := 76) (pc' := 99) rfl (hb hby at_76) (by decide) (by decide) ?_
      exact kt)
    obtain ⟨T129, h129, X129, e129, E129, A129, D129, -, st129⟩ := newO X123 hx hZ hown (hw _ (List.mem_of_getElem? (i := 5) rfl)) (hw _ (List.mem_of_getElem? (i := 6) rfl)) (hw _ (List.mem_of_getElem? (i := 7) rfl)) e123 (g := (mkF m 99 #[.val (.int p1), .val (.int p2), .val (.int p3), .val (.int p4), .val (.int (2 : Int32)), .val (.int (own_dr p2)), .val (.int (own_dr p3)), .val (.int (own_dr p4)), .val (.ref b112), .unset, .unset] [])) rfl (hb hby at_99) (by decide) (by decide)
    obtain ⟨b129, g129⟩ : ∃ z, z = h123.size := ⟨_, rfl⟩
    rw [← g129] at A129 D129 st129
    have g_b129 : n0 ≤ b129 := Nat.le_trans Z124 (Nat.le_of_eq g129.symm)
    have ne_b112_b129 : b112 ≠ b129 := Nat.ne_of_lt (Nat.lt_of_lt_of_le V123.lt (Nat.le_of_eq g129.symm))
    have Z130 : n0 ≤ h129.size := Nat.le_trans Z124 E129.1
    have O131 : Old Z n0 h129 := O125.ext E129
    have F129_20 : Fld Z h129 b129 "java/lang/String" "value" "[B" .null := D129 (Or.inr (hw _ (List.mem_of_getElem? (i := 20) rfl))) (ty := (.array .byte)) (by decide)
    have F129_21 : Fld Z h129 b129 "java/lang/String" "coder" "B" (.int (0 : Int32)) := D129 (Or.inr (hw _ (List.mem_of_getElem? (i := 21) rfl))) (ty := .byte) (by decide)
    have kn132 : ∀ t, own_S p e below T129 (mkF m 102 #[.val (.int p1), .val (.int p2), .val (.int p3), .val (.int p4), .val (.int (2 : Int32)), .val (.int (own_dr p2)), .val (.int (own_dr p3)), .val (.int (own_dr p4)), .val (.ref b112), .unset, .unset] [(.ref b129)]) t → Gl t := fun t kt => kn128 t (st129 _ kt)
    have kn133 : ∀ t, own_S p e below T129 (mkF m 105 #[.val (.int p1), .val (.int p2), .val (.int p3), .val (.int p4), .val (.int (2 : Int32)), .val (.int (own_dr p2)), .val (.int (own_dr p3)), .val (.int (own_dr p4)), .val (.ref b112), .unset, .unset] [(.ref b112), (.ref b129), (.ref b129)]) t → Gl t := fun t kt => kn132 t (by
      show own_S p e below T129 (mkF m 102 #[.val (.int p1), .val (.int p2), .val (.int p3), .val (.int p4), .val (.int (2 : Int32)), .val (.int (own_dr p2)), .val (.int (own_dr p3)), .val (.int (own_dr p4)), .val (.ref b112), .unset, .unset] [(.ref b129)]) _
      refine XS.dup X129.here hx rfl (hb hby at_102) rfl rfl ?_
      show own_S p e below T129 (mkF m 103 #[.val (.int p1), .val (.int p2), .val (.int p3), .val (.int p4), .val (.int (2 : Int32)), .val (.int (own_dr p2)), .val (.int (own_dr p3)), .val (.int (own_dr p4)), .val (.ref b112), .unset, .unset] [(.ref b129), (.ref b129)]) _
      refine XS.aload X129.here hx rfl (hb hby at_103) rfl rfl ?_
      exact kt)
    have hws : ∀ d ∈ StrChars.Road.words, d.before a0 Z = true := fun d hd => hw d ((by decide +kernel : ∀ d ∈ StrChars.Road.words, d ∈ tables_1) d hd)
    have hp135 : ∀ c ∈ ([(own_dr p2), (own_dr p3)] : List Int32), ¬ c < 0 ∧ ¬ (255 : Int32) < c := by
      intro c hc
      simp only [List.mem_cons, List.not_mem_nil, or_false] at hc
      rcases hc with rfl | rfl <;> exact own_drr _
    have f136 := (V123.ext E129)
    obtain ⟨_, _, ⟨T134, L134, cc134, ss134⟩, -, X134, ⟨Lc134, hQ134, l134, y134, z134⟩, st134⟩ := X129.specialBack hx (y := (⟨"java/lang/String", "<init>", "([C)V"⟩ : MethodName)) rfl hown (mvT hZ (hw _ (List.mem_of_getElem? (i := 8) rfl))) (mvT hZ (hw _ (List.mem_of_getElem? (i := 9) rfl))) (mvT hZ (hw _ (List.mem_of_getElem? (i := 10) rfl))) (by decide) (StrChars.Road.backV (W := 1) hZ hws (kI := 4) (hw _ (List.mem_of_getElem? (i := 6) rfl)) (cs := ([(own_dr p2), (own_dr p3)] : List Int32)) (bs := ([(own_dr p2), (own_dr p3)] : List Int32).map (fun c => c.toInt8.toInt32)) (n := 2) g_b129 Z130 A129 F129_20 F129_21 f136 (O2.ext O131.2) P5 rfl rfl (by decide) (by decide) hp135 rfl (by decide) (by decide)) (g := (mkF m 105 #[.val (.int p1), .val (.int p2), .val (.int p3), .val (.int p4), .val (.int (2 : Int32)), .val (.int (own_dr p2)), .val (.int (own_dr p3)), .val (.int (own_dr p4)), .val (.ref b112), .unset, .unset] [(.ref b112), (.ref b129), (.ref b129)])) rfl (by rw [hml]; rfl) (Steps.refl _) (a := b129) (argsL := [(.ref b112)]) (rest := [(.ref b129)]) (lenOf pd_4 rfl) rfl (by show 2 * 0 + _ ≤ _; exact Nat.le_of_eq rfl) (hb hby at_105) (fun _ _ => ⟨rfl, e129, (by decide : 2 + 1 ≤ _), (by decide : 6 + 2 ≤ _)⟩)
    dsimp only [Pt.U, Pt.locs, Pt.cells, Pt.slots] at X134 l134 y134 z134 st134 hQ134
    subst l134 y134 z134
    obtain ⟨rfl, Nq134, K134, Ex134, Co134, t134, kb134, ga134, sa134, nx134, Va134, Ar134⟩ := hQ134
    have Nf134 := Fr.app Nf126 Nq134
    have Z137 : n0 ≤ T134.heap.size := Nat.le_trans Z130 K134.1
    have O138 : Old Z n0 T134.heap := O131.keep K134 (allS g_b129 all0)
    have kn139 : ∀ t, own_S p e below T134 (mkF m 108 #[.val (.int p1), .val (.int p2), .val (.int p3), .val (.int p4), .val (.int (2 : Int32)), .val (.int (own_dr p2)), .val (.int (own_dr p3)), .val (.int (own_dr p4)), .val (.ref b112), .unset, .unset] [(.ref b129)]) t → Gl t := fun t kt => kn133 t (st134.trans kt)
    have kn140 : ∀ t, own_S p e below T134 (mkF m 163 #[.val (.int p1), .val (.int p2), .val (.int p3), .val (.int p4), .val (.int (2 : Int32)), .val (.int (own_dr p2)), .val (.int (own_dr p3)), .val (.int (own_dr p4)), .val (.ref b112), .val (.ref b129), .val .null] [(.ref b129)]) t → Gl t := fun t kt => kn139 t (by
      show own_S p e below T134 (mkF m 108 #[.val (.int p1), .val (.int p2), .val (.int p3), .val (.int p4), .val (.int (2 : Int32)), .val (.int (own_dr p2)), .val (.int (own_dr p3)), .val (.int (own_dr p4)), .val (.ref b112), .unset, .unset] [(.ref b129)]) _
      refine XS.astore X134.here hx rfl (hb hby at_108) rfl rfl (l' := #[.val (.int p1), .val (.int p2), .val (.int p3), .val (.int p4), .val (.int (2 : Int32)), .val (.int (own_dr p2)), .val (.int (own_dr p3)), .val (.int (own_dr p4)), .val (.ref b112), .val (.ref b129), .unset]) rfl ?_
      show own_S p e below T134 (mkF m 110 #[.val (.int p1), .val (.int p2), .val (.int p3), .val (.int p4), .val (.int (2 : Int32)), .val (.int (own_dr p2)), .val (.int (own_dr p3)), .val (.int (own_dr p4)), .val (.ref b112), .val (.ref b129), .unset] []) _
      refine XS.aconstNull X134.here hx rfl (hb hby at_110) ?_
      show own_S p e below T134 (mkF m 111 #[.val (.int p1), .val (.int p2), .val (.int p3), .val (.int p4), .val (.int (2 : Int32)), .val (.int (own_dr p2)), .val (.int (own_dr p3)), .val (.int (own_dr p4)), .val (.ref b112), .val (.ref b129), .unset] [.null]) _
      refine XS.astore X134.here hx rfl (hb hby at_111) rfl rfl (l' := #[.val (.int p1), .val (.int p2), .val (.int p3), .val (.int p4), .val (.int (2 : Int32)), .val (.int (own_dr p2)), .val (.int (own_dr p3)), .val (.int (own_dr p4)), .val (.ref b112), .val (.ref b129), .val .null]) rfl ?_
      show own_S p e below T134 (mkF m 113 #[.val (.int p1), .val (.int p2), .val (.int p3), .val (.int p4), .val (.int (2 : Int32)), .val (.int (own_dr p2)), .val (.int (own_dr p3)), .val (.int (own_dr p4)), .val (.ref b112), .val (.ref b129), .val .null] []) _
      refine XS.iload X134.here hx rfl (hb hby at_113) rfl ?_
      show own_S p e below T134 (mkF m 115 #[.val (.int p1), .val (.int p2), .val (.int p3), .val (.int p4), .val (.int (2 : Int32)), .val (.int (own_dr p2)), .val (.int (own_dr p3)), .val (.int (own_dr p4)), .val (.ref b112), .val (.ref b129), .val .null] [(.int (2 : Int32))]) _
      refine XS.iconst X134.here hx rfl (hb hby at_115) ?_
      show own_S p e below T134 (mkF m 116 #[.val (.int p1), .val (.int p2), .val (.int p3), .val (.int p4), .val (.int (2 : Int32)), .val (.int (own_dr p2)), .val (.int (own_dr p3)), .val (.int (own_dr p4)), .val (.ref b112), .val (.ref b129), .val .null] [(.int (1 : Int32)), (.int (2 : Int32))]) _
      refine XS.icmpYes X134.here hx rfl (pc0 := 116) (pc' := 161) rfl (hb hby at_116) rfl (feq (by decide : ¬ ((2 : Int32) = (1 : Int32)))).2 (by decide) (by decide) ?_
      show own_S p e below T134 (mkF m 161 #[.val (.int p1), .val (.int p2), .val (.int p3), .val (.int p4), .val (.int (2 : Int32)), .val (.int (own_dr p2)), .val (.int (own_dr p3)), .val (.int (own_dr p4)), .val (.ref b112), .val (.ref b129), .val .null] []) _
      refine XS.aload X134.here hx rfl (hb hby at_161) rfl rfl ?_
      exact kt)
    have hcd_b129 : StrChars.Road.CodA ([(own_dr p2), (own_dr p3)] : List Int32) 0 (2 : Int32) ((([(own_dr p2), (own_dr p3)] : List Int32).map (fun c => c.toInt8.toInt32)).map Value.int) := StrChars.Road.codOf (n := 2) rfl (fun x hx => (hp135 x hx).2)
    have hbd_b129 : ∀ x ∈ ([(own_dr p2), (own_dr p3)] : List Int32), ¬ x < 0 ∧ ¬ (65535 : Int32) < x := own_up _ hp135
    obtain ⟨_, _, ⟨T141, L141, cc141, ss141⟩, -, X141, ⟨Lc141, hQ141, l141, y141, z141⟩, st141⟩ := Jvm.LawKit.callS X134 hx (y := (⟨"com/example/runs_to_scores/runstoscores/formats/GenomicsJudgment", "coded", "(Ljava/lang/String;)Lcom/example/runs_to_scores/runstoscores/formats/GenomicsJudgment;"⟩ : MethodName)) hown (mvT hZ (hw _ (List.mem_of_getElem? (i := 26) rfl))) (mvT hZ (hw _ (List.mem_of_getElem? (i := 27) rfl))) (mvT hZ (hw _ (List.mem_of_getElem? (i := 28) rfl))) (mvT hZ (hw _ (List.mem_of_getElem? (i := 29) rfl))) (by decide) (backOf (W := 0) (rmFind3 l Z a0 hw [] b129 t134 kb134 ([(own_dr p2), (own_dr p3)] : List Int32) (2 : Int32) ((([(own_dr p2), (own_dr p3)] : List Int32).map (fun c => c.toInt8.toInt32)).map Value.int) bV kV g0 y0 ty0 ky0 g1 y1 ty1 ky1 g2 y2 ty2 ky2 G1 T134.heap n0 Z137 Ex134 Va134 Co134 Ar134 hcd_b129 hbd_b129 (Nat.le_of_ble_eq_true rfl) O138 O2 P5 SV EV VV Fg0 Ey0 Vy0 Cy0 Ky0 Fg1 Ey1 Vy1 Cy1 Ky1 Fg2 Ey2 Vy2 Cy2 Ky2 (by simp) (by simp) (by simp)) hZ (hw _ (List.mem_of_getElem? (i := 29) rfl)) (hw _ (List.mem_of_getElem? (i := 28) rfl)) (by decide) (by decide)) (g := (mkF m 163 #[.val (.int p1), .val (.int p2), .val (.int p3), .val (.int p4), .val (.int (2 : Int32)), .val (.int (own_dr p2)), .val (.int (own_dr p3)), .val (.int (own_dr p4)), .val (.ref b112), .val (.ref b129), .val .null] [(.ref b129)])) rfl (by rw [hml]; rfl) (argsL := [(.ref b129)]) (rest := []) (lenOf pd_5 rfl) rfl (by show 2 * 0 + _ ≤ _; exact Nat.le_of_eq rfl) (hb hby at_163) (fun _ _ => ⟨rfl, rfl, (by decide : 3 + 1 ≤ _), (by decide : 8 + 3 ≤ _)⟩)
    dsimp only [Pt.U, Pt.locs, Pt.cells, Pt.slots] at X141 l141 y141 z141 st141 hQ141
    subst l141 y141 z141
    obtain ⟨rfl, Nq141, K141⟩ := hQ141
    have Nf141 := Fr.app Nf134 Nq141
    have Z142 : n0 ≤ T141.heap.size := Nat.le_trans Z137 K141.1
    have O143 : Old Z n0 T141.heap := O138.keep K141 all0
    have kn144 : ∀ t, own_S p e below T141 (mkF m 166 #[.val (.int p1), .val (.int p2), .val (.int p3), .val (.int p4), .val (.int (2 : Int32)), .val (.int (own_dr p2)), .val (.int (own_dr p3)), .val (.int (own_dr p4)), .val (.ref b112), .val (.ref b129), .val .null] [.null]) t → Gl t := fun t kt => kn140 t (st141 _ kt)
    have kn145 : ∀ t, own_S p e below T141 (mkF m 176 #[.val (.int p1), .val (.int p2), .val (.int p3), .val (.int p4), .val (.int (2 : Int32)), .val (.int (own_dr p2)), .val (.int (own_dr p3)), .val (.int (own_dr p4)), .val (.ref b112), .val (.ref b129), .val .null] [(.int (1 : Int32))]) t → Gl t := fun t kt => kn144 t (by
      show own_S p e below T141 (mkF m 166 #[.val (.int p1), .val (.int p2), .val (.int p3), .val (.int p4), .val (.int (2 : Int32)), .val (.int (own_dr p2)), .val (.int (own_dr p3)), .val (.int (own_dr p4)), .val (.ref b112), .val (.ref b129), .val .null] [.null]) _
      refine XS.aload X141.here hx rfl (hb hby at_166) rfl rfl ?_
      show own_S p e below T141 (mkF m 168 #[.val (.int p1), .val (.int p2), .val (.int p3), .val (.int p4), .val (.int (2 : Int32)), .val (.int (own_dr p2)), .val (.int (own_dr p3)), .val (.int (own_dr p4)), .val (.ref b112), .val (.ref b129), .val .null] [.null, .null]) _
      refine Jvm.RoadKit.acmp (g := (mkF m 168 #[.val (.int p1), .val (.int p2), .val (.int p3), .val (.int p4), .val (.int (2 : Int32)), .val (.int (own_dr p2)), .val (.int (own_dr p3)), .val (.int (own_dr p4)), .val (.ref b112), .val (.ref b129), .val .null] [.null, .null])) X141 hx rfl rfl rfl (pc0 := 168) (pc' := 171) (same := true) rfl (hb hby at_168) rfl (decide_eq_true rfl) (by decide) (by decide) ?_
      show own_S p e below T141 (mkF m 171 #[.val (.int p1), .val (.int p2), .val (.int p3), .val (.int p4), .val (.int (2 : Int32)), .val (.int (own_dr p2)), .val (.int (own_dr p3)), .val (.int (own_dr p4)), .val (.ref b112), .val (.ref b129), .val .null] []) _
      refine XS.iconst X141.here hx rfl (hb hby at_171) ?_
      show own_S p e below T141 (mkF m 172 #[.val (.int p1), .val (.int p2), .val (.int p3), .val (.int p4), .val (.int (2 : Int32)), .val (.int (own_dr p2)), .val (.int (own_dr p3)), .val (.int (own_dr p4)), .val (.ref b112), .val (.ref b129), .val .null] [(.int (1 : Int32))]) _
      refine XS.goto X141.here hx rfl (pc0 := 172) (pc' := 176) rfl (hb hby at_172) (by decide) (by decide) ?_
      exact kt)
    obtain ⟨fs, hr, hrun, hended, hW, hsame⟩ := X141.leave (v := some (.int (1 : Int32))) (fun h => by rw [Bd.returns] at h; cases h)
    refine ⟨_, _, hGl _ (kn145 _ (retN X141 hx (t := .boolean) Bd.returns (by simp) (hb hby at_176) hr)), hrun, hended, _, _, rfl, ?_, ReturnedEndW.of_narrow ⟨_, rfl⟩ hW (hsame.mono (by decide) (by decide))⟩
    show Q0 Z p1 p2 p3 p4 bV kV g0 y0 ty0 ky0 g1 y1 ty1 ky1 g2 y2 ty2 ky2 G1 h0 n0 _ T141.heap _
    exact ⟨rfl, Nf141⟩
  · rw [(show (p1 &&& (3 : Int32)) = (3 : Int32) from hk)] at kn1
    have kn146 : ∀ t, own_S p e below s₁ (mkF m 6 #[.val (.int p1), .val (.int p2), .val (.int p3), .val (.int p4), .val (.int (3 : Int32)), .unset, .unset, .unset, .unset, .unset, .unset] [(.int p2)]) t → Gl t := fun t kt => kn1 t (by
      show own_S p e below s₁ (mkF m 3 #[.val (.int p1), .val (.int p2), .val (.int p3), .val (.int p4), .unset, .unset, .unset, .unset, .unset, .unset, .unset] [(.int (3 : Int32))]) _
      refine XS.istore X0.here hx rfl (hb hby at_3) rfl (l' := #[.val (.int p1), .val (.int p2), .val (.int p3), .val (.int p4), .val (.int (3 : Int32)), .unset, .unset, .unset, .unset, .unset, .unset]) rfl ?_
      show own_S p e below s₁ (mkF m 5 #[.val (.int p1), .val (.int p2), .val (.int p3), .val (.int p4), .val (.int (3 : Int32)), .unset, .unset, .unset, .unset, .unset, .unset] []) _
      refine XS.iloadN X0.here hx rfl (hb hby at_5) rfl ?_
      exact kt)
    obtain ⟨_, _, ⟨T147, L147, cc147, ss147⟩, -, X147, ⟨Lc147, hQ147, l147, y147, z147⟩, st147⟩ := Jvm.LawKit.callS X0 hx (y := (⟨"com/example/runs_to_scores/runstoscores/formats/GenomicsJudgmentCodedPinLaw", "drawn", "(I)C"⟩ : MethodName)) hown (mvT hZ (hw _ (List.mem_of_getElem? (i := 0) rfl))) (mvT hZ (hw _ (List.mem_of_getElem? (i := 1) rfl))) (mvT hZ (hw _ (List.mem_of_getElem? (i := 2) rfl))) (mvT hZ (hw _ (List.mem_of_getElem? (i := 3) rfl))) (by decide) (backOf (W := 0) (rm1 l Z a0 hw [] p2  h0 n0 Z0 ) hZ (hw _ (List.mem_of_getElem? (i := 3) rfl)) (hw _ (List.mem_of_getElem? (i := 2) rfl)) (by decide) (by decide)) (g := (mkF m 6 #[.val (.int p1), .val (.int p2), .val (.int p3), .val (.int p4), .val (.int (3 : Int32)), .unset, .unset, .unset, .unset, .unset, .unset] [(.int p2)])) rfl (by rw [hml]; rfl) (argsL := [(.int p2)]) (rest := []) (lenOf pd_3 rfl) rfl (by show 2 * 0 + _ ≤ _; exact Nat.le_of_eq rfl) (hb hby at_6) (fun _ _ => ⟨rfl, e0, (by decide : 0 + 0 ≤ _), (by decide : 0 + 0 ≤ _)⟩)
    dsimp only [Pt.U, Pt.locs, Pt.cells, Pt.slots] at X147 l147 y147 z147 st147 hQ147
    subst l147 y147 z147
    obtain ⟨rfl, Nq147, eq147⟩ := hQ147
    have Nf147 := Fr.app Nf0 Nq147
    have kn148 : ∀ t, own_S p e below T147 (mkF m 9 #[.val (.int p1), .val (.int p2), .val (.int p3), .val (.int p4), .val (.int (3 : Int32)), .unset, .unset, .unset, .unset, .unset, .unset] [(.int (own_dr p2))]) t → Gl t := fun t kt => kn146 t (st147 _ kt)
    have kn149 : ∀ t, own_S p e below T147 (mkF m 12 #[.val (.int p1), .val (.int p2), .val (.int p3), .val (.int p4), .val (.int (3 : Int32)), .val (.int (own_dr p2)), .unset, .unset, .unset, .unset, .unset] [(.int p3)]) t → Gl t := fun t kt => kn148 t (by
      show own_S p e below T147 (mkF m 9 #[.val (.int p1), .val (.int p2), .val (.int p3), .val (.int p4), .val (.int (3 : Int32)), .unset, .unset, .unset, .unset, .unset, .unset] [(.int (own_dr p2))]) _
      refine XS.istore X147.here hx rfl (hb hby at_9) rfl (l' := #[.val (.int p1), .val (.int p2), .val (.int p3), .val (.int p4), .val (.int (3 : Int32)), .val (.int (own_dr p2)), .unset, .unset, .unset, .unset, .unset]) rfl ?_
      show own_S p e below T147 (mkF m 11 #[.val (.int p1), .val (.int p2), .val (.int p3), .val (.int p4), .val (.int (3 : Int32)), .val (.int (own_dr p2)), .unset, .unset, .unset, .unset, .unset] []) _
      refine XS.iloadN X147.here hx rfl (hb hby at_11) rfl ?_
      exact kt)
    obtain ⟨_, _, ⟨T150, L150, cc150, ss150⟩, -, X150, ⟨Lc150, hQ150, l150, y150, z150⟩, st150⟩ := Jvm.LawKit.callS X147 hx (y := (⟨"com/example/runs_to_scores/runstoscores/formats/GenomicsJudgmentCodedPinLaw", "drawn", "(I)C"⟩ : MethodName)) hown (mvT hZ (hw _ (List.mem_of_getElem? (i := 0) rfl))) (mvT hZ (hw _ (List.mem_of_getElem? (i := 1) rfl))) (mvT hZ (hw _ (List.mem_of_getElem? (i := 2) rfl))) (mvT hZ (hw _ (List.mem_of_getElem? (i := 3) rfl))) (by decide) (backOf (W := 0) (rm1 l Z a0 hw [] p3  h0 n0 Z0 ) hZ (hw _ (List.mem_of_getElem? (i := 3) rfl)) (hw _ (List.mem_of_getElem? (i := 2) rfl)) (by decide) (by decide)) (g := (mkF m 12 #[.val (.int p1), .val (.int p2), .val (.int p3), .val (.int p4), .val (.int (3 : Int32)), .val (.int (own_dr p2)), .unset, .unset, .unset, .unset, .unset] [(.int p3)])) rfl (by rw [hml]; rfl) (argsL := [(.int p3)]) (rest := []) (lenOf pd_3 rfl) rfl (by show 2 * 0 + _ ≤ _; exact Nat.le_of_eq rfl) (hb hby at_12) (fun _ _ => ⟨rfl, eq147, (by decide : 0 + 0 ≤ _), (by decide : 0 + 0 ≤ _)⟩)
    dsimp only [Pt.U, Pt.locs, Pt.cells, Pt.slots] at X150 l150 y150 z150 st150 hQ150
    subst l150 y150 z150
    obtain ⟨rfl, Nq150, eq150⟩ := hQ150
    have Nf150 := Fr.app Nf147 Nq150
    have kn151 : ∀ t, own_S p e below T150 (mkF m 15 #[.val (.int p1), .val (.int p2), .val (.int p3), .val (.int p4), .val (.int (3 : Int32)), .val (.int (own_dr p2)), .unset, .unset, .unset, .unset, .unset] [(.int (own_dr p3))]) t → Gl t := fun t kt => kn149 t (st150 _ kt)
    have kn152 : ∀ t, own_S p e below T150 (mkF m 18 #[.val (.int p1), .val (.int p2), .val (.int p3), .val (.int p4), .val (.int (3 : Int32)), .val (.int (own_dr p2)), .val (.int (own_dr p3)), .unset, .unset, .unset, .unset] [(.int p4)]) t → Gl t := fun t kt => kn151 t (by
      show own_S p e below T150 (mkF m 15 #[.val (.int p1), .val (.int p2), .val (.int p3), .val (.int p4), .val (.int (3 : Int32)), .val (.int (own_dr p2)), .unset, .unset, .unset, .unset, .unset] [(.int (own_dr p3))]) _
      refine XS.istore X150.here hx rfl (hb hby at_15) rfl (l' := #[.val (.int p1), .val (.int p2), .val (.int p3), .val (.int p4), .val (.int (3 : Int32)), .val (.int (own_dr p2)), .val (.int (own_dr p3)), .unset, .unset, .unset, .unset]) rfl ?_
      show own_S p e below T150 (mkF m 17 #[.val (.int p1), .val (.int p2), .val (.int p3), .val (.int p4), .val (.int (3 : Int32)), .val (.int (own_dr p2)), .val (.int (own_dr p3)), .unset, .unset, .unset, .unset] []) _
      refine XS.iloadN X150.here hx rfl (hb hby at_17) rfl ?_
      exact kt)
    obtain ⟨_, _, ⟨T153, L153, cc153, ss153⟩, -, X153, ⟨Lc153, hQ153, l153, y153, z153⟩, st153⟩ := Jvm.LawKit.callS X150 hx (y := (⟨"com/example/runs_to_scores/runstoscores/formats/GenomicsJudgmentCodedPinLaw", "drawn", "(I)C"⟩ : MethodName)) hown (mvT hZ (hw _ (List.mem_of_getElem? (i := 0) rfl))) (mvT hZ (hw _ (List.mem_of_getElem? (i := 1) rfl))) (mvT hZ (hw _ (List.mem_of_getElem? (i := 2) rfl))) (mvT hZ (hw _ (List.mem_of_getElem? (i := 3) rfl))) (by decide) (backOf (W := 0) (rm1 l Z a0 hw [] p4  h0 n0 Z0 ) hZ (hw _ (List.mem_of_getElem? (i := 3) rfl)) (hw _ (List.mem_of_getElem? (i := 2) rfl)) (by decide) (by decide)) (g := (mkF m 18 #[.val (.int p1), .val (.int p2), .val (.int p3), .val (.int p4), .val (.int (3 : Int32)), .val (.int (own_dr p2)), .val (.int (own_dr p3)), .unset, .unset, .unset, .unset] [(.int p4)])) rfl (by rw [hml]; rfl) (argsL := [(.int p4)]) (rest := []) (lenOf pd_3 rfl) rfl (by show 2 * 0 + _ ≤ _; exact Nat.le_of_eq rfl) (hb hby at_18) (fun _ _ => ⟨rfl, eq150, (by decide : 0 + 0 ≤ _), (by decide : 0 + 0 ≤ _)⟩)
    dsimp only [Pt.U, Pt.locs, Pt.cells, Pt.slots] at X153 l153 y153 z153 st153 hQ153
    subst l153 y153 z153
    obtain ⟨rfl, Nq153, eq153⟩ := hQ153
    have Nf153 := Fr.app Nf150 Nq153
    have kn154 : ∀ t, own_S p e below T153 (mkF m 21 #[.val (.int p1), .val (.int p2), .val (.int p3), .val (.int p4), .val (.int (3 : Int32)), .val (.int (own_dr p2)), .val (.int (own_dr p3)), .unset, .unset, .unset, .unset] [(.int (own_dr p4))]) t → Gl t := fun t kt => kn152 t (st153 _ kt)
    have kn155 : ∀ t, own_S p e below T153 (mkF m 80 #[.val (.int p1), .val (.int p2), .val (.int p3), .val (.int p4), .val (.int (3 : Int32)), .val (.int (own_dr p2)), .val (.int (own_dr p3)), .val (.int (own_dr p4)), .unset, .unset, .unset] [(.int (3 : Int32))]) t → Gl t := fun t kt => kn154 t (by
      show own_S p e below T153 (mkF m 21 #[.val (.int p1), .val (.int p2), .val (.int p3), .val (.int p4), .val (.int (3 : Int32)), .val (.int (own_dr p2)), .val (.int (own_dr p3)), .unset, .unset, .unset, .unset] [(.int (own_dr p4))]) _
      refine XS.istore X153.here hx rfl (hb hby at_21) rfl (l' := #[.val (.int p1), .val (.int p2), .val (.int p3), .val (.int p4), .val (.int (3 : Int32)), .val (.int (own_dr p2)), .val (.int (own_dr p3)), .val (.int (own_dr p4)), .unset, .unset, .unset]) rfl ?_
      show own_S p e below T153 (mkF m 23 #[.val (.int p1), .val (.int p2), .val (.int p3), .val (.int p4), .val (.int (3 : Int32)), .val (.int (own_dr p2)), .val (.int (own_dr p3)), .val (.int (own_dr p4)), .unset, .unset, .unset] []) _
      refine XS.iload X153.here hx rfl (hb hby at_23) rfl ?_
      show own_S p e below T153 (mkF m 25 #[.val (.int p1), .val (.int p2), .val (.int p3), .val (.int p4), .val (.int (3 : Int32)), .val (.int (own_dr p2)), .val (.int (own_dr p3)), .val (.int (own_dr p4)), .unset, .unset, .unset] [(.int (3 : Int32))]) _
      refine XS.ifYes X153.here hx rfl (pc0 := 25) (pc' := 36) rfl (hb hby at_25) rfl ((if0 _ _).trans (feq (by decide : ¬ ((3 : Int32) = (0 : Int32)))).2) (by decide) (by decide) ?_
      show own_S p e below T153 (mkF m 36 #[.val (.int p1), .val (.int p2), .val (.int p3), .val (.int p4), .val (.int (3 : Int32)), .val (.int (own_dr p2)), .val (.int (own_dr p3)), .val (.int (own_dr p4)), .unset, .unset, .unset] []) _
      refine XS.iload X153.here hx rfl (hb hby at_36) rfl ?_
      show own_S p e below T153 (mkF m 38 #[.val (.int p1), .val (.int p2), .val (.int p3), .val (.int p4), .val (.int (3 : Int32)), .val (.int (own_dr p2)), .val (.int (own_dr p3)), .val (.int (own_dr p4)), .unset, .unset, .unset] [(.int (3 : Int32))]) _
      refine XS.iconst X153.here hx rfl (hb hby at_38) ?_
      show own_S p e below T153 (mkF m 39 #[.val (.int p1), .val (.int p2), .val (.int p3), .val (.int p4), .val (.int (3 : Int32)), .val (.int (own_dr p2)), .val (.int (own_dr p3)), .val (.int (own_dr p4)), .unset, .unset, .unset] [(.int (1 : Int32)), (.int (3 : Int32))]) _
      refine XS.icmpYes X153.here hx rfl (pc0 := 39) (pc' := 55) rfl (hb hby at_39) rfl (feq (by decide : ¬ ((3 : Int32) = (1 : Int32)))).2 (by decide) (by decide) ?_
      show own_S p e below T153 (mkF m 55 #[.val (.int p1), .val (.int p2), .val (.int p3), .val (.int p4), .val (.int (3 : Int32)), .val (.int (own_dr p2)), .val (.int (own_dr p3)), .val (.int (own_dr p4)), .unset, .unset, .unset] []) _
      refine XS.iload X153.here hx rfl (hb hby at_55) rfl ?_
      show own_S p e below T153 (mkF m 57 #[.val (.int p1), .val (.int p2), .val (.int p3), .val (.int p4), .val (.int (3 : Int32)), .val (.int (own_dr p2)), .val (.int (own_dr p3)), .val (.int (own_dr p4)), .unset, .unset, .unset] [(.int (3 : Int32))]) _
      refine XS.iconst X153.here hx rfl (hb hby at_57) ?_
      show own_S p e below T153 (mkF m 58 #[.val (.int p1), .val (.int p2), .val (.int p3), .val (.int p4), .val (.int (3 : Int32)), .val (.int (own_dr p2)), .val (.int (own_dr p3)), .val (.int (own_dr p4)), .unset, .unset, .unset] [(.int (2 : Int32)), (.int (3 : Int32))]) _
      refine XS.icmpYes X153.here hx rfl (pc0 := 58) (pc' := 79) rfl (hb hby at_58) rfl (feq (by decide : ¬ ((3 : Int32) = (2 : Int32)))).2 (by decide) (by decide) ?_
      show own_S p e below T153 (mkF m 79 #[.val (.int p1), .val (.int p2), .val (.int p3), .val (.int p4), .val (.int (3 : Int32)), .val (.int (own_dr p2)), .val (.int (own_dr p3)), .val (.int (own_dr p4)), .unset, .unset, .unset] []) _
      refine XS.iconst X153.here hx rfl (hb hby at_79) ?_
      exact kt)
    obtain ⟨T156, h156, kk156, X156, e156, E156, A156, st156⟩ := newP X153 hx hZ (hw _ (List.mem_of_getElem? (i := 4) rfl)) eq153 (g := (mkF m 80 #[.val (.int p1), .val (.int p2), .val (.int p3), .val (.int p4), .val (.int (3 : Int32)), .val (.int (own_dr p2)), .val (.int (own_dr p3)), .val (.int (own_dr p4)), .unset, .unset, .unset] [(.int (3 : Int32))])) rfl (hb hby at_80) rfl (by decide) (cap := 3) (by decide) (by decide) (by decide) (by decide)
    obtain ⟨b156, g156⟩ : ∃ z, z = h0.size := ⟨_, rfl⟩
    rw [← g156] at A156 st156
    have g_b156 : n0 ≤ b156 := Nat.le_trans Z0 (Nat.le_of_eq g156.symm)
    have Z157 : n0 ≤ h156.size := Nat.le_trans Z0 E156.1
    have O158 : Old Z n0 h156 := O0.ext E156
    have V156 : Arv Z h156 b156 kk156 .char (3 : Int32) [(.int (0 : Int32)), (.int (0 : Int32)), (.int (0 : Int32))] (.int (0 : Int32)) := (Arv.new A156 (by decide)).pad (pad_rep [] (.int (0 : Int32)) 3)
    have kn159 : ∀ t, own_S p e below T156 (mkF m 82 #[.val (.int p1), .val (.int p2), .val (.int p3), .val (.int p4), .val (.int (3 : Int32)), .val (.int (own_dr p2)), .val (.int (own_dr p3)), .val (.int (own_dr p4)), .unset, .unset, .unset] [(.ref b156)]) t → Gl t := fun t kt => kn155 t (st156 _ kt)
    have kn160 : ∀ t, own_S p e below T156 (mkF m 86 #[.val (.int p1), .val (.int p2), .val (.int p3), .val (.int p4), .val (.int (3 : Int32)), .val (.int (own_dr p2)), .val (.int (own_dr p3)), .val (.int (own_dr p4)), .unset, .unset, .unset] [(.int (own_dr p2)), (.int (0 : Int32)), (.ref b156), (.ref b156)]) t → Gl t := fun t kt => kn159 t (by
      show own_S p e below T156 (mkF m 82 #[.val (.int p1), .val (.int p2), .val (.int p3), .val (.int p4), .val (.int (3 : Int32)), .val (.int (own_dr p2)), .val (.int (own_dr p3)), .val (.int (own_dr p4)), .unset, .unset, .unset] [(.ref b156)]) _
      refine XS.dup X156.here hx rfl (hb hby at_82) rfl rfl ?_
      show own_S p e below T156 (mkF m 83 #[.val (.int p1), .val (.int p2), .val (.int p3), .val (.int p4), .val (.int (3 : Int32)), .val (.int (own_dr p2)), .val (.int (own_dr p3)), .val (.int (own_dr p4)), .unset, .unset, .unset] [(.ref b156), (.ref b156)]) _
      refine XS.iconst X156.here hx rfl (hb hby at_83) ?_
      show own_S p e below T156 (mkF m 84 #[.val (.int p1), .val (.int p2), .val (.int p3), .val (.int p4), .val (.int (3 : Int32)), .val (.int (own_dr p2)), .val (.int (own_dr p3)), .val (.int (own_dr p4)), .unset, .unset, .unset] [(.int (0 : Int32)), (.ref b156), (.ref b156)]) _
      refine XS.iload X156.here hx rfl (hb hby at_84) rfl ?_
      exact kt)
    obtain ⟨cl161, Ar161, q161, Sz161, Ng161, Hs161, Gs161⟩ := id V156
    have hin161 : ¬ ((0 : Int32) < 0 ∨ cl161.slots.size ≤ ((0 : Int32)).toNatClampNeg) := inb_of Sz161 ⟨by decide, by decide⟩
    obtain ⟨T161, h161, X161, e161, W161, st161⟩ := stC X156 hx hZ e156 Ar161 (j := (0 : Int32)) hin161 (g := (mkF m 86 #[.val (.int p1), .val (.int p2), .val (.int p3), .val (.int p4), .val (.int (3 : Int32)), .val (.int (own_dr p2)), .val (.int (own_dr p3)), .val (.int (own_dr p4)), .unset, .unset, .unset] [(.int (own_dr p2)), (.int (0 : Int32)), (.ref b156), (.ref b156)])) rfl rfl (hb hby at_86)
    have Z162 : n0 ≤ h161.size := Nat.le_trans Z157 (Keep.of_wr W161).1
    have O163 : Old Z n0 h161 := O158.wr W161 g_b156
    have V161 : Arv Z h161 b156 kk156 .char (3 : Int32) [(.int ((own_dr p2).toUInt32.toUInt16.toUInt32.toInt32)), (.int (0 : Int32)), (.int (0 : Int32))] (.int (0 : Int32)) := Arv.set Ar161 q161 Sz161 Ng161 Hs161 Gs161 (fits_nar_char _) W161 0 rfl (Nat.le_of_ble_eq_true rfl)
    rw [(show ((own_dr p2).toUInt32.toUInt16.toUInt32.toInt32) = (own_dr p2) from own_drc _)] at V161
    have Nf164 := Fr.snoc X161 Nf153 g_b156
    have kn165 : ∀ t, own_S p e below T161 (mkF m 87 #[.val (.int p1), .val (.int p2), .val (.int p3), .val (.int p4), .val (.int (3 : Int32)), .val (.int (own_dr p2)), .val (.int (own_dr p3)), .val (.int (own_dr p4)), .unset, .unset, .unset] [(.ref b156)]) t → Gl t := fun t kt => kn160 t (st161 _ kt)
    have kn166 : ∀ t, own_S p e below T161 (mkF m 91 #[.val (.int p1), .val (.int p2), .val (.int p3), .val (.int p4), .val (.int (3 : Int32)), .val (.int (own_dr p2)), .val (.int (own_dr p3)), .val (.int (own_dr p4)), .unset, .unset, .unset] [(.int (own_dr p3)), (.int (1 : Int32)), (.ref b156), (.ref b156)]) t → Gl t := fun t kt => kn165 t (by
      show own_S p e below T161 (mkF m 87 #[.val (.int p1), .val (.int p2), .val (.int p3), .val (.int p4), .val (.int (3 : Int32)), .val (.int (own_dr p2)), .val (.int (own_dr p3)), .val (.int (own_dr p4)), .unset, .unset, .unset] [(.ref b156)]) _
      refine XS.dup X161.here hx rfl (hb hby at_87) rfl rfl ?_
      show own_S p e below T161 (mkF m 88 #[.val (.int p1), .val (.int p2), .val (.int p3), .val (.int p4), .val (.int (3 : Int32)), .val (.int (own_dr p2)), .val (.int (own_dr p3)), .val (.int (own_dr p4)), .unset, .unset, .unset] [(.ref b156), (.ref b156)]) _
      refine XS.iconst X161.here hx rfl (hb hby at_88) ?_
      show own_S p e below T161 (mkF m 89 #[.val (.int p1), .val (.int p2), .val (.int p3), .val (.int p4), .val (.int (3 : Int32)), .val (.int (own_dr p2)), .val (.int (own_dr p3)), .val (.int (own_dr p4)), .unset, .unset, .unset] [(.int (1 : Int32)), (.ref b156), (.ref b156)]) _
      refine XS.iload X161.here hx rfl (hb hby at_89) rfl ?_
      exact kt)
    obtain ⟨cl167, Ar167, q167, Sz167, Ng167, Hs167, Gs167⟩ := id V161
    have hin167 : ¬ ((1 : Int32) < 0 ∨ cl167.slots.size ≤ ((1 : Int32)).toNatClampNeg) := inb_of Sz167 ⟨by decide, by decide⟩
    obtain ⟨T167, h167, X167, e167, W167, st167⟩ := stC X161 hx hZ e161 Ar167 (j := (1 : Int32)) hin167 (g := (mkF m 91 #[.val (.int p1), .val (.int p2), .val (.int p3), .val (.int p4), .val (.int (3 : Int32)), .val (.int (own_dr p2)), .val (.int (own_dr p3)), .val (.int (own_dr p4)), .unset, .unset, .unset] [(.int (own_dr p3)), (.int (1 : Int32)), (.ref b156), (.ref b156)])) rfl rfl (hb hby at_91)
    have Z168 : n0 ≤ h167.size := Nat.le_trans Z162 (Keep.of_wr W167).1
    have O169 : Old Z n0 h167 := O163.wr W167 g_b156
    have V167 : Arv Z h167 b156 kk156 .char (3 : Int32) [(.int (own_dr p2)), (.int ((own_dr p3).toUInt32.toUInt16.toUInt32.toInt32)), (.int (0 : Int32))] (.int (0 : Int32)) := Arv.set Ar167 q167 Sz167 Ng167 Hs167 Gs167 (fits_nar_char _) W167 1 rfl (Nat.le_of_ble_eq_true rfl)
    rw [(show ((own_dr p3).toUInt32.toUInt16.toUInt32.toInt32) = (own_dr p3) from own_drc _)] at V167
    have Nf170 := Fr.snoc X167 Nf164 g_b156
    have kn171 : ∀ t, own_S p e below T167 (mkF m 92 #[.val (.int p1), .val (.int p2), .val (.int p3), .val (.int p4), .val (.int (3 : Int32)), .val (.int (own_dr p2)), .val (.int (own_dr p3)), .val (.int (own_dr p4)), .unset, .unset, .unset] [(.ref b156)]) t → Gl t := fun t kt => kn166 t (st167 _ kt)
    have kn172 : ∀ t, own_S p e below T167 (mkF m 96 #[.val (.int p1), .val (.int p2), .val (.int p3), .val (.int p4), .val (.int (3 : Int32)), .val (.int (own_dr p2)), .val (.int (own_dr p3)), .val (.int (own_dr p4)), .unset, .unset, .unset] [(.int (own_dr p4)), (.int (2 : Int32)), (.ref b156), (.ref b156)]) t → Gl t := fun t kt => kn171 t (by
      show own_S p e below T167 (mkF m 92 #[.val (.int p1), .val (.int p2), .val (.int p3), .val (.int p4), .val (.int (3 : Int32)), .val (.int (own_dr p2)), .val (.int (own_dr p3)), .val (.int (own_dr p4)), .unset, .unset, .unset] [(.ref b156)]) _
      refine XS.dup X167.here hx rfl (hb hby at_92) rfl rfl ?_
      show own_S p e below T167 (mkF m 93 #[.val (.int p1), .val (.int p2), .val (.int p3), .val (.int p4), .val (.int (3 : Int32)), .val (.int (own_dr p2)), .val (.int (own_dr p3)), .val (.int (own_dr p4)), .unset, .unset, .unset] [(.ref b156), (.ref b156)]) _
      refine XS.iconst X167.here hx rfl (hb hby at_93) ?_
      show own_S p e below T167 (mkF m 94 #[.val (.int p1), .val (.int p2), .val (.int p3), .val (.int p4), .val (.int (3 : Int32)), .val (.int (own_dr p2)), .val (.int (own_dr p3)), .val (.int (own_dr p4)), .unset, .unset, .unset] [(.int (2 : Int32)), (.ref b156), (.ref b156)]) _
      refine XS.iload X167.here hx rfl (hb hby at_94) rfl ?_
      exact kt)
    obtain ⟨cl173, Ar173, q173, Sz173, Ng173, Hs173, Gs173⟩ := id V167
    have hin173 : ¬ ((2 : Int32) < 0 ∨ cl173.slots.size ≤ ((2 : Int32)).toNatClampNeg) := inb_of Sz173 ⟨by decide, by decide⟩
    obtain ⟨T173, h173, X173, e173, W173, st173⟩ := stC X167 hx hZ e167 Ar173 (j := (2 : Int32)) hin173 (g := (mkF m 96 #[.val (.int p1), .val (.int p2), .val (.int p3), .val (.int p4), .val (.int (3 : Int32)), .val (.int (own_dr p2)), .val (.int (own_dr p3)), .val (.int (own_dr p4)), .unset, .unset, .unset] [(.int (own_dr p4)), (.int (2 : Int32)), (.ref b156), (.ref b156)])) rfl rfl (hb hby at_96)
    have Z174 : n0 ≤ h173.size := Nat.le_trans Z168 (Keep.of_wr W173).1
    have O175 : Old Z n0 h173 := O169.wr W173 g_b156
    have V173 : Arv Z h173 b156 kk156 .char (3 : Int32) [(.int (own_dr p2)), (.int (own_dr p3)), (.int ((own_dr p4).toUInt32.toUInt16.toUInt32.toInt32))] (.int (0 : Int32)) := Arv.set Ar173 q173 Sz173 Ng173 Hs173 Gs173 (fits_nar_char _) W173 2 rfl (Nat.le_of_ble_eq_true rfl)
    rw [(show ((own_dr p4).toUInt32.toUInt16.toUInt32.toInt32) = (own_dr p4) from own_drc _)] at V173
    have Nf176 := Fr.snoc X173 Nf170 g_b156
    have kn177 : ∀ t, own_S p e below T173 (mkF m 97 #[.val (.int p1), .val (.int p2), .val (.int p3), .val (.int p4), .val (.int (3 : Int32)), .val (.int (own_dr p2)), .val (.int (own_dr p3)), .val (.int (own_dr p4)), .unset, .unset, .unset] [(.ref b156)]) t → Gl t := fun t kt => kn172 t (st173 _ kt)
    have kn178 : ∀ t, own_S p e below T173 (mkF m 99 #[.val (.int p1), .val (.int p2), .val (.int p3), .val (.int p4), .val (.int (3 : Int32)), .val (.int (own_dr p2)), .val (.int (own_dr p3)), .val (.int (own_dr p4)), .val (.ref b156), .unset, .unset] []) t → Gl t := fun t kt => kn177 t (by
      show own_S p e below T173 (mkF m 97 #[.val (.int p1), .val (.int p2), .val (.int p3), .val (.int p4), .val (.int (3 : Int32)), .val (.int (own_dr p2)), .val (.int (own_dr p3)), .val (.int (own_dr p4)), .unset, .unset, .unset] [(.ref b156)]) _
      refine XS.astore X173.here hx rfl (hb hby at_97) rfl rfl (l' := #[.val (.int p1), .val (.int p2), .val (.int p3), .val (.int p4), .val (.int (3 : Int32)), .val (.int (own_dr p2)), .val (.int (own_dr p3)), .val (.int (own_dr p4)), .val (.ref b156), .unset, .unset]) rfl ?_
      exact kt)
    obtain ⟨T179, h179, X179, e179, E179, A179, D179, -, st179⟩ := newO X173 hx hZ hown (hw _ (List.mem_of_getElem? (i := 5) rfl)) (hw _ (List.mem_of_getElem? (i := 6) rfl)) (hw _ (List.mem_of_getElem? (i := 7) rfl)) e173 (g := (mkF m 99 #[.val (.int p1), .val (.int p2), .val (.int p3), .val (.int p4), .val (.int (3 : Int32)), .val (.int (own_dr p2)), .val (.int (own_dr p3)), .val (.int (own_dr p4)), .val (.ref b156), .unset, .unset] [])) rfl (hb hby at_99) (by decide) (by decide)
    obtain ⟨b179, g179⟩ : ∃ z, z = h173.size := ⟨_, rfl⟩
    rw [← g179] at A179 D179 st179
    have g_b179 : n0 ≤ b179 := Nat.le_trans Z174 (Nat.le_of_eq g179.symm)
    have ne_b156_b179 : b156 ≠ b179 := Nat.ne_of_lt (Nat.lt_of_lt_of_le V173.lt (Nat.le_of_eq g179.symm))
    have Z180 : n0 ≤ h179.size := Nat.le_trans Z174 E179.1
    have O181 : Old Z n0 h179 := O175.ext E179
    have F179_20 : Fld Z h179 b179 "java/lang/String" "value" "[B" .null := D179 (Or.inr (hw _ (List.mem_of_getElem? (i := 20) rfl))) (ty := (.array .byte)) (by decide)
    have F179_21 : Fld Z h179 b179 "java/lang/String" "coder" "B" (.int (0 : Int32)) := D179 (Or.inr (hw _ (List.mem_of_getElem? (i := 21) rfl))) (ty := .byte) (by decide)
    have kn182 : ∀ t, own_S p e below T179 (mkF m 102 #[.val (.int p1), .val (.int p2), .val (.int p3), .val (.int p4), .val (.int (3 : Int32)), .val (.int (own_dr p2)), .val (.int (own_dr p3)), .val (.int (own_dr p4)), .val (.ref b156), .unset, .unset] [(.ref b179)]) t → Gl t := fun t kt => kn178 t (st179 _ kt)
    have kn183 : ∀ t, own_S p e below T179 (mkF m 105 #[.val (.int p1), .val (.int p2), .val (.int p3), .val (.int p4), .val (.int (3 : Int32)), .val (.int (own_dr p2)), .val (.int (own_dr p3)), .val (.int (own_dr p4)), .val (.ref b156), .unset, .unset] [(.ref b156), (.ref b179), (.ref b179)]) t → Gl t := fun t kt => kn182 t (by
      show own_S p e below T179 (mkF m 102 #[.val (.int p1), .val (.int p2), .val (.int p3), .val (.int p4), .val (.int (3 : Int32)), .val (.int (own_dr p2)), .val (.int (own_dr p3)), .val (.int (own_dr p4)), .val (.ref b156), .unset, .unset] [(.ref b179)]) _
      refine XS.dup X179.here hx rfl (hb hby at_102) rfl rfl ?_
      show own_S p e below T179 (mkF m 103 #[.val (.int p1), .val (.int p2), .val (.int p3), .val (.int p4), .val (.int (3 : Int32)), .val (.int (own_dr p2)), .val (.int (own_dr p3)), .val (.int (own_dr p4)), .val (.ref b156), .unset, .unset] [(.ref b179), (.ref b179)]) _
      refine XS.aload X179.here hx rfl (hb hby at_103) rfl rfl ?_
      exact kt)
    have hws : ∀ d ∈ StrChars.Road.words, d.before a0 Z = true := fun d hd => hw d ((by decide +kernel : ∀ d ∈ StrChars.Road.words, d ∈ tables_1) d hd)
    have hp185 : ∀ c ∈ ([(own_dr p2), (own_dr p3), (own_dr p4)] : List Int32), ¬ c < 0 ∧ ¬ (255 : Int32) < c := by
      intro c hc
      simp only [List.mem_cons, List.not_mem_nil, or_false] at hc
      rcases hc with rfl | rfl | rfl <;> exact own_drr _
    have f186 := (V173.ext E179)
    obtain ⟨_, _, ⟨T184, L184, cc184, ss184⟩, -, X184, ⟨Lc184, hQ184, l184, y184, z184⟩, st184⟩ := X179.specialBack hx (y := (⟨"java/lang/String", "<init>", "([C)V"⟩ : MethodName)) rfl hown (mvT hZ (hw _ (List.mem_of_getElem? (i := 8) rfl))) (mvT hZ (hw _ (List.mem_of_getElem? (i := 9) rfl))) (mvT hZ (hw _ (List.mem_of_getElem? (i := 10) rfl))) (by decide) (StrChars.Road.backV (W := 1) hZ hws (kI := 4) (hw _ (List.mem_of_getElem? (i := 6) rfl)) (cs := ([(own_dr p2), (own_dr p3), (own_dr p4)] : List Int32)) (bs := ([(own_dr p2), (own_dr p3), (own_dr p4)] : List Int32).map (fun c => c.toInt8.toInt32)) (n := 3) g_b179 Z180 A179 F179_20 F179_21 f186 (O2.ext O181.2) P5 rfl rfl (by decide) (by decide) hp185 rfl (by decide) (by decide)) (g := (mkF m 105 #[.val (.int p1), .val (.int p2), .val (.int p3), .val (.int p4), .val (.int (3 : Int32)), .val (.int (own_dr p2)), .val (.int (own_dr p3)), .val (.int (own_dr p4)), .val (.ref b156), .unset, .unset] [(.ref b156), (.ref b179), (.ref b179)])) rfl (by rw [hml]; rfl) (Steps.refl _) (a := b179) (argsL := [(.ref b156)]) (rest := [(.ref b179)]) (lenOf pd_4 rfl) rfl (by show 2 * 0 + _ ≤ _; exact Nat.le_of_eq rfl) (hb hby at_105) (fun _ _ => ⟨rfl, e179, (by decide : 2 + 1 ≤ _), (by decide : 7 + 3 ≤ _)⟩)
    dsimp only [Pt.U, Pt.locs, Pt.cells, Pt.slots] at X184 l184 y184 z184 st184 hQ184
    subst l184 y184 z184
    obtain ⟨rfl, Nq184, K184, Ex184, Co184, t184, kb184, ga184, sa184, nx184, Va184, Ar184⟩ := hQ184
    have Nf184 := Fr.app Nf176 Nq184
    have Z187 : n0 ≤ T184.heap.size := Nat.le_trans Z180 K184.1
    have O188 : Old Z n0 T184.heap := O181.keep K184 (allS g_b179 all0)
    have kn189 : ∀ t, own_S p e below T184 (mkF m 108 #[.val (.int p1), .val (.int p2), .val (.int p3), .val (.int p4), .val (.int (3 : Int32)), .val (.int (own_dr p2)), .val (.int (own_dr p3)), .val (.int (own_dr p4)), .val (.ref b156), .unset, .unset] [(.ref b179)]) t → Gl t := fun t kt => kn183 t (st184.trans kt)
    have kn190 : ∀ t, own_S p e below T184 (mkF m 163 #[.val (.int p1), .val (.int p2), .val (.int p3), .val (.int p4), .val (.int (3 : Int32)), .val (.int (own_dr p2)), .val (.int (own_dr p3)), .val (.int (own_dr p4)), .val (.ref b156), .val (.ref b179), .val .null] [(.ref b179)]) t → Gl t := fun t kt => kn189 t (by
      show own_S p e below T184 (mkF m 108 #[.val (.int p1), .val (.int p2), .val (.int p3), .val (.int p4), .val (.int (3 : Int32)), .val (.int (own_dr p2)), .val (.int (own_dr p3)), .val (.int (own_dr p4)), .val (.ref b156), .unset, .unset] [(.ref b179)]) _
      refine XS.astore X184.here hx rfl (hb hby at_108) rfl rfl (l' := #[.val (.int p1), .val (.int p2), .val (.int p3), .val (.int p4), .val (.int (3 : Int32)), .val (.int (own_dr p2)), .val (.int (own_dr p3)), .val (.int (own_dr p4)), .val (.ref b156), .val (.ref b179), .unset]) rfl ?_
      show own_S p e below T184 (mkF m 110 #[.val (.int p1), .val (.int p2), .val (.int p3), .val (.int p4), .val (.int (3 : Int32)), .val (.int (own_dr p2)), .val (.int (own_dr p3)), .val (.int (own_dr p4)), .val (.ref b156), .val (.ref b179), .unset] []) _
      refine XS.aconstNull X184.here hx rfl (hb hby at_110) ?_
      show own_S p e below T184 (mkF m 111 #[.val (.int p1), .val (.int p2), .val (.int p3), .val (.int p4), .val (.int (3 : Int32)), .val (.int (own_dr p2)), .val (.int (own_dr p3)), .val (.int (own_dr p4)), .val (.ref b156), .val (.ref b179), .unset] [.null]) _
      refine XS.astore X184.here hx rfl (hb hby at_111) rfl rfl (l' := #[.val (.int p1), .val (.int p2), .val (.int p3), .val (.int p4), .val (.int (3 : Int32)), .val (.int (own_dr p2)), .val (.int (own_dr p3)), .val (.int (own_dr p4)), .val (.ref b156), .val (.ref b179), .val .null]) rfl ?_
      show own_S p e below T184 (mkF m 113 #[.val (.int p1), .val (.int p2), .val (.int p3), .val (.int p4), .val (.int (3 : Int32)), .val (.int (own_dr p2)), .val (.int (own_dr p3)), .val (.int (own_dr p4)), .val (.ref b156), .val (.ref b179), .val .null] []) _
      refine XS.iload X184.here hx rfl (hb hby at_113) rfl ?_
      show own_S p e below T184 (mkF m 115 #[.val (.int p1), .val (.int p2), .val (.int p3), .val (.int p4), .val (.int (3 : Int32)), .val (.int (own_dr p2)), .val (.int (own_dr p3)), .val (.int (own_dr p4)), .val (.ref b156), .val (.ref b179), .val .null] [(.int (3 : Int32))]) _
      refine XS.iconst X184.here hx rfl (hb hby at_115) ?_
      show own_S p e below T184 (mkF m 116 #[.val (.int p1), .val (.int p2), .val (.int p3), .val (.int p4), .val (.int (3 : Int32)), .val (.int (own_dr p2)), .val (.int (own_dr p3)), .val (.int (own_dr p4)), .val (.ref b156), .val (.ref b179), .val .null] [(.int (1 : Int32)), (.int (3 : Int32))]) _
      refine XS.icmpYes X184.here hx rfl (pc0 := 116) (pc' := 161) rfl (hb hby at_116) rfl (feq (by decide : ¬ ((3 : Int32) = (1 : Int32)))).2 (by decide) (by decide) ?_
      show own_S p e below T184 (mkF m 161 #[.val (.int p1), .val (.int p2), .val (.int p3), .val (.int p4), .val (.int (3 : Int32)), .val (.int (own_dr p2)), .val (.int (own_dr p3)), .val (.int (own_dr p4)), .val (.ref b156), .val (.ref b179), .val .null] []) _
      refine XS.aload X184.here hx rfl (hb hby at_161) rfl rfl ?_
      exact kt)
    have hcd_b179 : StrChars.Road.CodA ([(own_dr p2), (own_dr p3), (own_dr p4)] : List Int32) 0 (3 : Int32) ((([(own_dr p2), (own_dr p3), (own_dr p4)] : List Int32).map (fun c => c.toInt8.toInt32)).map Value.int) := StrChars.Road.codOf (n := 3) rfl (fun x hx => (hp185 x hx).2)
    have hbd_b179 : ∀ x ∈ ([(own_dr p2), (own_dr p3), (own_dr p4)] : List Int32), ¬ x < 0 ∧ ¬ (65535 : Int32) < x := own_up _ hp185
    obtain ⟨_, _, ⟨T191, L191, cc191, ss191⟩, -, X191, ⟨Lc191, hQ191, l191, y191, z191⟩, st191⟩ := Jvm.LawKit.callS X184 hx (y := (⟨"com/example/runs_to_scores/runstoscores/formats/GenomicsJudgment", "coded", "(Ljava/lang/String;)Lcom/example/runs_to_scores/runstoscores/formats/GenomicsJudgment;"⟩ : MethodName)) hown (mvT hZ (hw _ (List.mem_of_getElem? (i := 26) rfl))) (mvT hZ (hw _ (List.mem_of_getElem? (i := 27) rfl))) (mvT hZ (hw _ (List.mem_of_getElem? (i := 28) rfl))) (mvT hZ (hw _ (List.mem_of_getElem? (i := 29) rfl))) (by decide) (backOf (W := 0) (rmFind3 l Z a0 hw [] b179 t184 kb184 ([(own_dr p2), (own_dr p3), (own_dr p4)] : List Int32) (3 : Int32) ((([(own_dr p2), (own_dr p3), (own_dr p4)] : List Int32).map (fun c => c.toInt8.toInt32)).map Value.int) bV kV g0 y0 ty0 ky0 g1 y1 ty1 ky1 g2 y2 ty2 ky2 G1 T184.heap n0 Z187 Ex184 Va184 Co184 Ar184 hcd_b179 hbd_b179 (Nat.le_of_ble_eq_true rfl) O188 O2 P5 SV EV VV Fg0 Ey0 Vy0 Cy0 Ky0 Fg1 Ey1 Vy1 Cy1 Ky1 Fg2 Ey2 Vy2 Cy2 Ky2 (by simp) (by simp) (by simp)) hZ (hw _ (List.mem_of_getElem? (i := 29) rfl)) (hw _ (List.mem_of_getElem? (i := 28) rfl)) (by decide) (by decide)) (g := (mkF m 163 #[.val (.int p1), .val (.int p2), .val (.int p3), .val (.int p4), .val (.int (3 : Int32)), .val (.int (own_dr p2)), .val (.int (own_dr p3)), .val (.int (own_dr p4)), .val (.ref b156), .val (.ref b179), .val .null] [(.ref b179)])) rfl (by rw [hml]; rfl) (argsL := [(.ref b179)]) (rest := []) (lenOf pd_5 rfl) rfl (by show 2 * 0 + _ ≤ _; exact Nat.le_of_eq rfl) (hb hby at_163) (fun _ _ => ⟨rfl, rfl, (by decide : 3 + 1 ≤ _), (by decide : 10 + 3 ≤ _)⟩)
    dsimp only [Pt.U, Pt.locs, Pt.cells, Pt.slots] at X191 l191 y191 z191 st191 hQ191
    subst l191 y191 z191
    obtain ⟨rfl, Nq191, K191⟩ := hQ191
    have Nf191 := Fr.app Nf184 Nq191
    have Z192 : n0 ≤ T191.heap.size := Nat.le_trans Z187 K191.1
    have O193 : Old Z n0 T191.heap := O188.keep K191 all0
    have kn194 : ∀ t, own_S p e below T191 (mkF m 166 #[.val (.int p1), .val (.int p2), .val (.int p3), .val (.int p4), .val (.int (3 : Int32)), .val (.int (own_dr p2)), .val (.int (own_dr p3)), .val (.int (own_dr p4)), .val (.ref b156), .val (.ref b179), .val .null] [.null]) t → Gl t := fun t kt => kn190 t (st191 _ kt)
    have kn195 : ∀ t, own_S p e below T191 (mkF m 176 #[.val (.int p1), .val (.int p2), .val (.int p3), .val (.int p4), .val (.int (3 : Int32)), .val (.int (own_dr p2)), .val (.int (own_dr p3)), .val (.int (own_dr p4)), .val (.ref b156), .val (.ref b179), .val .null] [(.int (1 : Int32))]) t → Gl t := fun t kt => kn194 t (by
      show own_S p e below T191 (mkF m 166 #[.val (.int p1), .val (.int p2), .val (.int p3), .val (.int p4), .val (.int (3 : Int32)), .val (.int (own_dr p2)), .val (.int (own_dr p3)), .val (.int (own_dr p4)), .val (.ref b156), .val (.ref b179), .val .null] [.null]) _
      refine XS.aload X191.here hx rfl (hb hby at_166) rfl rfl ?_
      show own_S p e below T191 (mkF m 168 #[.val (.int p1), .val (.int p2), .val (.int p3), .val (.int p4), .val (.int (3 : Int32)), .val (.int (own_dr p2)), .val (.int (own_dr p3)), .val (.int (own_dr p4)), .val (.ref b156), .val (.ref b179), .val .null] [.null, .null]) _
      refine Jvm.RoadKit.acmp (g := (mkF m 168 #[.val (.int p1), .val (.int p2), .val (.int p3), .val (.int p4), .val (.int (3 : Int32)), .val (.int (own_dr p2)), .val (.int (own_dr p3)), .val (.int (own_dr p4)), .val (.ref b156), .val (.ref b179), .val .null] [.null, .null])) X191 hx rfl rfl rfl (pc0 := 168) (pc' := 171) (same := true) rfl (hb hby at_168) rfl (decide_eq_true rfl) (by decide) (by decide) ?_
      show own_S p e below T191 (mkF m 171 #[.val (.int p1), .val (.int p2), .val (.int p3), .val (.int p4), .val (.int (3 : Int32)), .val (.int (own_dr p2)), .val (.int (own_dr p3)), .val (.int (own_dr p4)), .val (.ref b156), .val (.ref b179), .val .null] []) _
      refine XS.iconst X191.here hx rfl (hb hby at_171) ?_
      show own_S p e below T191 (mkF m 172 #[.val (.int p1), .val (.int p2), .val (.int p3), .val (.int p4), .val (.int (3 : Int32)), .val (.int (own_dr p2)), .val (.int (own_dr p3)), .val (.int (own_dr p4)), .val (.ref b156), .val (.ref b179), .val .null] [(.int (1 : Int32))]) _
      refine XS.goto X191.here hx rfl (pc0 := 172) (pc' := 176) rfl (hb hby at_172) (by decide) (by decide) ?_
      exact kt)
    obtain ⟨fs, hr, hrun, hended, hW, hsame⟩ := X191.leave (v := some (.int (1 : Int32))) (fun h => by rw [Bd.returns] at h; cases h)
    refine ⟨_, _, hGl _ (kn195 _ (retN X191 hx (t := .boolean) Bd.returns (by simp) (hb hby at_176) hr)), hrun, hended, _, _, rfl, ?_, ReturnedEndW.of_narrow ⟨_, rfl⟩ hW (hsame.mono (by decide) (by decide))⟩
    show Q0 Z p1 p2 p3 p4 bV kV g0 y0 ty0 ky0 g1 y1 ty1 ky1 g2 y2 ty2 ky2 G1 h0 n0 _ T191.heap _
    exact ⟨rfl, Nf191⟩

set_option maxRecDepth 65536 in
set_option maxHeartbeats 40000000 in
theorem comes_1 {Post : Tables → Env → Array Value → State → Outcome → State → Prop} (hpost : ∀ tb e args s v u, (limb_1_1.after args s (.returned v) u = true ∧ limb_1_2.after args s (.returned v) u = true ∧ True) → ReturnedEndW s (.returned v) u (Jvm.fieldLocs frame_1_writes args s ++ Jvm.arrayLocs frame_1_arrays args s ++ Jvm.staticLocs frame_1_statics s) 24 1152 → Post tb e args s (.returned v) u) :
    ArmFor flags0 classFile x code maxLocals ret World_1 tables_1 room_1 Calls_1 rest_1 Pre_1 Post := by
  intro l hfl _ _ p e ha hc hk s m args below hf hA hF happ hP
  obtain ⟨hcalls, hrest, hpre⟩ := hP
  obtain ⟨-, -, -, hnamed, -, -, -, hat⟩ := (Spec.applies_iff hf).mp happ
  obtain ⟨hg, hn⟩ := and_e (Cond.before_iff.mp (show (Jvm.Cond.and given_1 narrow_1).before args s = true from hpre))
  obtain ⟨gc, gr0⟩ := and_e hg
  obtain ⟨ga0, gr1⟩ := and_e gr0
  obtain ⟨ga1, gr2⟩ := and_e gr1
  obtain ⟨ga2, gr3⟩ := and_e gr2
  obtain ⟨w0, w1, w2, w3, rfl⟩ : ∃ w0 w1 w2 w3 : Value, args = #[w0, w1, w2, w3] := by
    have hs : args.size = 4 := by simpa [Cond.value, given_1] using gc
    obtain ⟨L⟩ := args
    match L, hs with
    | [w0, w1, w2, w3], _ => exact ⟨w0, w1, w2, w3, rfl⟩
  have hw := fun d (hd : d ∈ tables_1) => atoms_spec (ws := Jvm.Cond.code x code maxLocals ret :: tables_1) hat d (List.mem_cons_of_mem _ hd)
  have hfit : Fit s := fun {y c} hc i hi => by
    obtain ⟨ha, rfl⟩ := Array.getElem?_eq_some_iff.mp hc
    have q := List.all_eq_true.mp ((Array.all_eq_true_iff_forall_mem.mp hF) _ (Array.getElem_mem ha)) i (List.mem_range.mpr hi)
    simpa [Array.getElem?_eq_getElem hi] using q
  obtain ⟨hsets, hown0⟩ := atoms_of _ (rest_1_c_eq ▸ (show rest_1_c.before _ s = true from hrest))
  have hr0 := Cond.before_iff.mp hown0
  obtain ⟨i0, ei0⟩ := is_v ga0
  obtain rfl : w0 = (.int i0) := Option.some.inj ei0
  obtain ⟨i1, ei1⟩ := is_v ga1
  obtain rfl : w1 = (.int i1) := Option.some.inj ei1
  obtain ⟨i2, ei2⟩ := is_v ga2
  obtain rfl : w2 = (.int i2) := Option.some.inj ei2
  obtain ⟨i3, ei3⟩ := is_v gr3
  obtain rfl : w3 = (.int i3) := Option.some.inj ei3
  have n5 := not_v (Cond.before_iff.mp (hsets _ (List.mem_of_getElem? (i := 2) rfl)))
  obtain ⟨G1, e10⟩ := is_v (Cond.before_iff.mp (hsets _ (List.mem_of_getElem? (i := 1) rfl)))
  have S12 : Sta s s.heap "java/lang/String" "COMPACT_STRINGS" "Z" (.int G1) := Sta.start e10 (Or.inl (hsets _ (List.mem_of_getElem? (i := 0) rfl)))
  have c17 : ¬ (G1 = (0 : Int32)) := gotF (Cond.eq_ints e10 (Term.int_eval (0))) n5
  obtain ⟨m0, r0⟩ := and_e hn
  obtain ⟨m1, r1⟩ := and_e r0
  obtain ⟨m2, r2⟩ := and_e r1
  obtain ⟨m3, r3⟩ := and_e r2
  obtain ⟨m4, r4⟩ := and_e r3
  obtain ⟨m5, r5⟩ := and_e r4
  obtain ⟨m6, r6⟩ := and_e r5
  obtain ⟨m7, r7⟩ := and_e r6
  obtain ⟨m8, r8⟩ := and_e r7
  obtain ⟨m9, r9⟩ := and_e r8
  obtain ⟨m10, r10⟩ := and_e r9
  obtain ⟨m11, r11⟩ := and_e r10
  obtain ⟨m12, r12⟩ := and_e r11
  obtain ⟨m13, r13⟩ := and_e r12
  obtain ⟨m14, r14⟩ := and_e r13
  obtain ⟨m15, r15⟩ := and_e r14
  obtain ⟨m16, r16⟩ := and_e r15
  obtain ⟨m17, r17⟩ := and_e r16
  obtain ⟨m18, r18⟩ := and_e r17
  obtain ⟨m19, r19⟩ := and_e r18
  obtain ⟨m20, r20⟩ := and_e r19
  obtain ⟨m21, r21⟩ := and_e r20
  obtain ⟨m22, r22⟩ := and_e r21
  have m23 := r22
  obtain ⟨bV, vV⟩ := exa_v m1
  obtain ⟨cV, AV⟩ := Arr.start vV m0
  obtain ⟨lV1, lV2⟩ := own_len AV vV (own_eqi m2)
  obtain ⟨g0, vg0⟩ := exa_v m3
  have ee0 := (elem_in (own_eqr m4 vg0) vV (Term.int_eval (0 : Int32)) AV.1).2
  obtain ⟨y0, vy0⟩ := exa_v m9
  obtain ⟨ty0, vt0⟩ := arr_v m11
  obtain ⟨ct0, At0⟩ := Arr.start vt0 m11
  obtain ⟨lt0a, lt0b⟩ := own_len At0 vt0 (own_eqi m12)
  have et0_0 := (elem_in (own_eqi m21) vt0 (Term.int_eval (0 : Int32)) At0.1).2
  obtain ⟨g1, vg1⟩ := exa_v m5
  have ee1 := (elem_in (own_eqr m6 vg1) vV (Term.int_eval (1 : Int32)) AV.1).2
  obtain ⟨y1, vy1⟩ := exa_v m13
  obtain ⟨ty1, vt1⟩ := arr_v m15
  obtain ⟨ct1, At1⟩ := Arr.start vt1 m15
  obtain ⟨lt1a, lt1b⟩ := own_len At1 vt1 (own_eqi m16)
  have et1_0 := (elem_in (own_eqi m22) vt1 (Term.int_eval (0 : Int32)) At1.1).2
  obtain ⟨g2, vg2⟩ := exa_v m7
  have ee2 := (elem_in (own_eqr m8 vg2) vV (Term.int_eval (2 : Int32)) AV.1).2
  obtain ⟨y2, vy2⟩ := exa_v m17
  obtain ⟨ty2, vt2⟩ := arr_v m19
  obtain ⟨ct2, At2⟩ := Arr.start vt2 m19
  obtain ⟨lt2a, lt2b⟩ := own_len At2 vt2 (own_eqi m20)
  have et2_0 := (elem_in (own_eqi m23) vt2 (Term.int_eval (0 : Int32)) At2.1).2
  obtain ⟨n, o, h1, h2, h3, _, L, rfl, ⟨rfl, N⟩, hq⟩ := rm0 l s _ hw tables_1 i0 i1 i2 i3 bV cV.cls g0 y0 ty0 ct0.cls g1 y1 ty1 ct1.cls g2 y2 ty2 ct2.cls G1 s.heap s.heap.size (Nat.le_refl _) (Old.start s) S12 c17 (Sta.start vV (Or.inr ⟨(hw _ (List.mem_of_getElem? (i := 28) rfl)), (hw _ (List.mem_of_getElem? (i := 34) rfl))⟩)) (Exa.start vV m1) (Arv.start hfit AV lV1 lV2 (by decide) rfl ⟨ee0, ee1, ee2, trivial⟩) (Fld.start ((fld_at vg0).symm.trans vy0)) (Exa.start vy0 m9) (Fld.start ((fld_at vy0).symm.trans vt0)) (Fld.start ((fld_at vy0).symm.trans (own_eqi m10))) (Arv.start hfit At0 lt0a lt0b (by decide) rfl ⟨et0_0, trivial⟩) (Fld.start ((fld_at vg1).symm.trans vy1)) (Exa.start vy1 m13) (Fld.start ((fld_at vy1).symm.trans vt1)) (Fld.start ((fld_at vy1).symm.trans (own_eqi m14))) (Arv.start hfit At1 lt1a lt1b (by decide) rfl ⟨et1_0, trivial⟩) (Fld.start ((fld_at vg2).symm.trans vy2)) (Exa.start vy2 m17) (Fld.start ((fld_at vy2).symm.trans vt2)) (Fld.start ((fld_at vy2).symm.trans (own_eqi m18))) (Arv.start hfit At2 lt2a lt2b (by decide) rfl ⟨et2_0, trivial⟩) (Sta.start vg0 (Or.inr ⟨(hw _ (List.mem_of_getElem? (i := 28) rfl)), (hw _ (List.mem_of_getElem? (i := 42) rfl))⟩)) (Sta.start vg1 (Or.inr ⟨(hw _ (List.mem_of_getElem? (i := 28) rfl)), (hw _ (List.mem_of_getElem? (i := 43) rfl))⟩)) (Sta.start vg2 (Or.inr ⟨(hw _ (List.mem_of_getElem? (i := 28) rfl)), (hw _ (List.mem_of_getElem? (i := 44) rfl))⟩)) rfl rfl hcalls.1 (hsets _ (List.mem_of_getElem? (i := 2) rfl)) p e ha hc hk s m _ below hf ((Spec.applies_iff_loose hf).mp happ).1 ⟨rfl, State.Warmed39.refl s, rfl, rfl⟩ trivial
  refine ⟨n, _, h1, h2, h3, hpost _ _ _ _ _ _ ⟨Cond.after_iff.mpr rfl, Cond.after_iff.mpr (eq_i res_at (Term.int_eval (1)) rfl), trivial⟩ ⟨hq.1, hq.2.1, hq.2.2.1, (hq.2.2.2.sift fun y hy => Or.inr (N y hy)).mono (by decide) (by decide)⟩⟩
theorem main_1_1 : Claimed_1_1 := comes_1 fun _ _ _ _ _ _ h hF => ⟨h.1, hF⟩
theorem main_1_2 : Claimed_1_2 := comes_1 fun _ _ _ _ _ _ h hF => ⟨h.2.1, hF⟩

end Jvm.Pilot.@@N@@
namespace Jvm.Pilot.@@N@@
open Jvm Jvm.ClassFile Sem Op Lib Jvm.Free Jvm.Stand Jvm.Pilot.@@N@@.Jvm.D
/-! MADE BY PROGRAM (witnessworld.py) out of the Statement's table words and the real class files: 22 classes; the members and pool entries that the words name. The judged class is class 1, her method 1. -/
namespace start1
open Jvm.ClassFile
def u (s : String) : CpInfo := .utf8 (stringToUtf16 s)
/-- a pool by its gaps: so many unusable entries, then the entry; so many at the end -/
def gap : Nat → List CpInfo → List CpInfo
  | 0, r => r
  | n + 1, r => .unusable :: gap n r
def poolList (es : List (Nat × CpInfo)) (last : Nat) : List CpInfo := es.foldr (fun e r => gap e.1 (e.2 :: r)) (gap last [])
def pool (es : List (Nat × CpInfo)) (last : Nat) : Array CpInfo := ⟨poolList es last⟩
def fileOf (pool : Array CpInfo) (this : Nat) (attrs : Array Attribute := #[]) (ms : Array MethodInfo := #[]) (fl : Nat := 33) (sup : Nat := 0) (ifs : Array Nat := #[]) (fds : Array FieldInfo := #[]) : ClassFile where
  minorVersion := 0
  majorVersion := 65
  constantPool := pool
  accessFlags := fl
  thisClass := this
  superClass := sup
  interfaces := ifs
  fields := fds
  methods := ms
  attributes := attrs
def plain (name : String) (sup : Option ClassId) : Class where
  name := name
  kind := .ordinary
  loader := none
  accessFlags := 33
  super := sup
  interfaces := #[]
  cf := none
  fields := #[]
  methods := #[]
  instanceTypes := #[]
  staticTypes := #[]
  resolved := #[]
  callSites := []
  init := .initialized
  statics := none
  mirror := none

def pool0 : Array CpInfo := pool [(5, u "<init>"), (0, u "()V"), (1, .class_ 10), (1, u "java/lang/Object"), (85, u "clone"), (0, u "()Ljava/lang/Object;")] 26

def k0c0 : Code := { maxStack := 0, maxLocals := 1, code := object_method_1_code, exceptionTable := #[], attributes := #[] }
def k0m0 : Method := { name := "<init>", desc := "()V", sig := { parameters := [], returnType := none }, accessFlags := 1, code := some k0c0 }
def k0m1 : Method := { name := "clone", desc := "()Ljava/lang/Object;", sig := { parameters := [], returnType := some (.object "java/lang/Object") }, accessFlags := 260, code := none }
/-- java/lang/Object -/
def k0 : Class := { plain "java/lang/Object" none with
  accessFlags := 33
  interfaces := #[]
  cf := some (fileOf pool0 8 #[] #[{ accessFlags := 1, nameIndex := 5, descriptorIndex := 6, attributes := #[] }, { accessFlags := 260, nameIndex := 96, descriptorIndex := 97, attributes := #[] }] 33 0 #[] #[])
  fields := #[]
  methods := #[k0m0, k0m1]
  instanceTypes := #[]
  staticTypes := #[]
  resolved := Array.replicate 124 none
  statics := none }

def pool1 : Array CpInfo := pool [(2, .class_ 4), (1, u "java/lang/Object"), (0, u "<init>"), (0, u "()V"), (0, .methodref 8 9), (0, .class_ 10), (0, .nameAndType 11 12), (0, u "com/example/runs_to_scores/runstoscores/formats/GenomicsJudgmentCodedPinLaw"), (0, u "drawn"), (0, u "(I)C"), (0, .class_ 14), (0, u "java/lang/String"), (0, .methodref 13 16), (0, .nameAndType 5 17), (0, u "([C)V"), (0, .fieldref 19 20), (0, .class_ 21), (0, .nameAndType 22 23), (0, u "com/example/runs_to_scores/runstoscores/formats/GenomicsJudgment"), (0, u "DEFINITELY_RELEVANT"), (0, u "Lcom/example/runs_to_scores/runstoscores/formats/GenomicsJudgment;"), (0, .fieldref 19 25), (0, .nameAndType 26 23), (0, u "POSSIBLY_RELEVANT"), (0, .fieldref 19 28), (0, .nameAndType 29 23), (0, u "NOT_RELEVANT"), (0, .methodref 19 31), (0, .nameAndType 32 33), (0, u "coded"), (0, u "(Ljava/lang/String;)Lcom/example/runs_to_scores/runstoscores/formats/GenomicsJudgment;"), (2, u "law"), (0, u "(IIII)Z")] 5

def k1m0 : Method := { name := "<init>", desc := "()V", sig := { parameters := [], returnType := none }, accessFlags := 1, code := none }
def k1c1 : Code := { maxStack := 4, maxLocals := 11, code := code, exceptionTable := #[], attributes := #[] }
def k1m1 : Method := { name := "law", desc := "(IIII)Z", sig := { parameters := [.int, .int, .int, .int], returnType := some .boolean }, accessFlags := 9, code := some k1c1 }
def k1c2 : Code := { maxStack := 3, maxLocals := 1, code := method_3_code, exceptionTable := #[], attributes := #[] }
def k1m2 : Method := { name := "drawn", desc := "(I)C", sig := { parameters := [.int], returnType := some .char }, accessFlags := 10, code := some k1c2 }
/-- com/example/runs_to_scores/runstoscores/formats/GenomicsJudgmentCodedPinLaw -/
def k1 : Class := { plain "com/example/runs_to_scores/runstoscores/formats/GenomicsJudgmentCodedPinLaw" (some 0) with
  accessFlags := 49
  interfaces := #[]
  cf := some (fileOf pool1 8 #[] #[{ accessFlags := 1, nameIndex := 5, descriptorIndex := 6, attributes := #[] }, { accessFlags := 9, nameIndex := 36, descriptorIndex := 37, attributes := #[] }, { accessFlags := 10, nameIndex := 11, descriptorIndex := 12, attributes := #[] }] 49 2 #[] #[])
  fields := #[]
  methods := #[k1m0, k1m1, k1m2]
  instanceTypes := #[]
  staticTypes := #[]
  resolved := Array.replicate 43 none
  statics := none }

def pool2 : Array CpInfo := pool [(1, .class_ 2), (0, u "java/io/Serializable"), (0, .class_ 4), (0, u "java/lang/Object")] 2

/-- java/io/Serializable -/
def k2 : Class := { plain "java/io/Serializable" (some 0) with
  accessFlags := 1537
  interfaces := #[]
  cf := some (fileOf pool2 1 #[] #[] 1537 3 #[] #[])
  fields := #[]
  methods := #[]
  instanceTypes := #[]
  staticTypes := #[]
  resolved := Array.replicate 7 none
  statics := none }

def pool3 : Array CpInfo := pool [(1, .class_ 2), (0, u "java/lang/Comparable"), (0, .class_ 4), (0, u "java/lang/Object")] 7

/-- java/lang/Comparable -/
def k3 : Class := { plain "java/lang/Comparable" (some 0) with
  accessFlags := 1537
  interfaces := #[]
  cf := some (fileOf pool3 1 #[] #[] 1537 3 #[] #[])
  fields := #[]
  methods := #[]
  instanceTypes := #[]
  staticTypes := #[]
  resolved := Array.replicate 12 none
  statics := none }

def pool4 : Array CpInfo := pool [(2, .class_ 4), (1, u "java/lang/CharSequence"), (42, .class_ 48), (0, u "java/lang/CharSequence$1CodePointIterator"), (10, .class_ 60), (0, u "java/lang/CharSequence$1CharIterator"), (5, .class_ 67), (0, u "java/lang/Object")] 63

/-- java/lang/CharSequence -/
def k4 : Class := { plain "java/lang/CharSequence" (some 0) with
  accessFlags := 1537
  interfaces := #[]
  cf := some (fileOf pool4 2 #[.nestMembers #[47, 59]] #[] 1537 66 #[] #[])
  fields := #[]
  methods := #[]
  instanceTypes := #[]
  staticTypes := #[]
  resolved := Array.replicate 131 none
  statics := none }

def pool5 : Array CpInfo := pool [(1, .class_ 2), (0, u "java/lang/constant/Constable"), (0, .class_ 4), (0, u "java/lang/Object")] 6

/-- java/lang/constant/Constable -/
def k5 : Class := { plain "java/lang/constant/Constable" (some 0) with
  accessFlags := 1537
  interfaces := #[]
  cf := some (fileOf pool5 1 #[] #[] 1537 3 #[] #[])
  fields := #[]
  methods := #[]
  instanceTypes := #[]
  staticTypes := #[]
  resolved := Array.replicate 11 none
  statics := none }

def pool6 : Array CpInfo := pool [(1, .class_ 2), (0, u "java/lang/constant/ConstantDesc"), (0, .class_ 4), (0, u "java/lang/Object")] 32

/-- java/lang/constant/ConstantDesc -/
def k6 : Class := { plain "java/lang/constant/ConstantDesc" (some 0) with
  accessFlags := 1537
  interfaces := #[]
  cf := some (fileOf pool6 1 #[] #[] 1537 3 #[] #[])
  fields := #[]
  methods := #[]
  instanceTypes := #[]
  staticTypes := #[]
  resolved := Array.replicate 37 none
  statics := none }

def pool7 : Array CpInfo := pool [(1, .methodref 2 3), (0, .class_ 4), (0, .nameAndType 5 6), (0, u "java/lang/Object"), (0, u "<init>"), (0, u "()V"), (0, .string 8), (0, u ""), (0, .fieldref 10 11), (0, .class_ 12), (0, .nameAndType 13 14), (0, u "java/lang/String"), (0, u "value"), (0, u "[B"), (0, .fieldref 10 16), (0, .nameAndType 17 18), (0, u "coder"), (0, u "B"), (2, u "hash"), (0, u "I"), (2, u "hashIsZero"), (0, u "Z"), (0, .methodref 10 28), (0, .nameAndType 5 29), (0, u "([CIILjava/lang/Void;)V"), (8, .fieldref 10 39), (0, .nameAndType 40 26), (0, u "COMPACT_STRINGS"), (1, .class_ 44), (1, u "java/lang/StringUTF16"), (0, u "compress"), (1, .methodref 42 48), (0, .nameAndType 49 50), (0, u "coderFromArrayLen"), (0, u "([BI)B"), (56, .class_ 109), (1, u "java/lang/StringLatin1"), (67, .methodref 42 178), (0, .nameAndType 45 179), (0, u "([CII)[B"), (361, .methodref 107 542), (0, .nameAndType 543 544), (0, u "equals"), (0, u "([B[B)Z"), (28, u "(Ljava/lang/Object;)Z"), (1, .class_ 576), (0, u "java/lang/CharSequence"), (22, u "CASE_INSENSITIVE_ORDER"), (0, u "Ljava/util/Comparator;"), (409, u "([C)V"), (90, u "serialPersistentFields"), (0, u "[Ljava/io/ObjectStreamField;"), (0, .class_ 1104), (0, u "java/lang/String$CaseInsensitiveComparator"), (1, .class_ 1107), (0, u "java/io/Serializable"), (0, .class_ 1109), (0, u "java/lang/Comparable"), (0, .class_ 1111), (0, u "java/lang/constant/Constable"), (0, .class_ 1113), (0, u "java/lang/constant/ConstantDesc"), (2, u "serialVersionUID"), (0, u "J"), (3, u "REPL"), (0, u "C"), (2, u "LATIN1"), (1, u "UTF16")] 323

def k7m0 : Method := { name := "<init>", desc := "()V", sig := { parameters := [], returnType := none }, accessFlags := 1, code := none }
def k7c1 : Code := { maxStack := 5, maxLocals := 2, code := jdk_42_method_3_code, exceptionTable := #[], attributes := #[] }
def k7m1 : Method := { name := "<init>", desc := "([C)V", sig := { parameters := [(.array .char)], returnType := none }, accessFlags := 1, code := some k7c1 }
def k7c2 : Code := { maxStack := 2, maxLocals := 3, code := jdk_42_method_66_code, exceptionTable := #[], attributes := #[] }
def k7m2 : Method := { name := "equals", desc := "(Ljava/lang/Object;)Z", sig := { parameters := [(.object "java/lang/Object")], returnType := some .boolean }, accessFlags := 1, code := some k7c2 }
def k7c3 : Code := { maxStack := 4, maxLocals := 6, code := jdk_42_method_149_code, exceptionTable := #[], attributes := #[] }
def k7m3 : Method := { name := "<init>", desc := "([CIILjava/lang/Void;)V", sig := { parameters := [(.array .char), .int, .int, (.object "java/lang/Void")], returnType := none }, accessFlags := 2, code := some k7c3 }
/-- java/lang/String -/
def k7 : Class := { plain "java/lang/String" (some 0) with
  accessFlags := 49
  interfaces := #[2, 3, 4, 5, 6]
  cf := some (fileOf pool7 10 #[.nestMembers #[1103]] #[{ accessFlags := 1, nameIndex := 5, descriptorIndex := 6, attributes := #[] }, { accessFlags := 1, nameIndex := 5, descriptorIndex := 1010, attributes := #[] }, { accessFlags := 1, nameIndex := 543, descriptorIndex := 573, attributes := #[] }, { accessFlags := 2, nameIndex := 5, descriptorIndex := 29, attributes := #[] }] 49 2 #[1106, 1108, 575, 1110, 1112] #[{ accessFlags := 18, nameIndex := 13, descriptorIndex := 14, attributes := #[] }, { accessFlags := 18, nameIndex := 17, descriptorIndex := 18, attributes := #[] }, { accessFlags := 2, nameIndex := 21, descriptorIndex := 22, attributes := #[] }, { accessFlags := 2, nameIndex := 25, descriptorIndex := 26, attributes := #[] }, { accessFlags := 26, nameIndex := 1116, descriptorIndex := 1117, attributes := #[] }, { accessFlags := 24, nameIndex := 40, descriptorIndex := 26, attributes := #[] }, { accessFlags := 26, nameIndex := 1101, descriptorIndex := 1102, attributes := #[] }, { accessFlags := 26, nameIndex := 1121, descriptorIndex := 1122, attributes := #[] }, { accessFlags := 25, nameIndex := 599, descriptorIndex := 600, attributes := #[] }, { accessFlags := 24, nameIndex := 1125, descriptorIndex := 18, attributes := #[] }, { accessFlags := 24, nameIndex := 1127, descriptorIndex := 18, attributes := #[] }])
  fields := #[{ name := "value", type := (.array .byte), accessFlags := 18, slot := 0, constantValue := 0 }, { name := "coder", type := .byte, accessFlags := 18, slot := 1, constantValue := 0 }, { name := "hash", type := .int, accessFlags := 2, slot := 2, constantValue := 0 }, { name := "hashIsZero", type := .boolean, accessFlags := 2, slot := 3, constantValue := 0 }, { name := "serialVersionUID", type := .long, accessFlags := 26, slot := 0, constantValue := 0 }, { name := "COMPACT_STRINGS", type := .boolean, accessFlags := 24, slot := 1, constantValue := 0 }, { name := "serialPersistentFields", type := (.array (.object "java/io/ObjectStreamField")), accessFlags := 26, slot := 2, constantValue := 0 }, { name := "REPL", type := .char, accessFlags := 26, slot := 3, constantValue := 0 }, { name := "CASE_INSENSITIVE_ORDER", type := (.object "java/util/Comparator"), accessFlags := 25, slot := 4, constantValue := 0 }, { name := "LATIN1", type := .byte, accessFlags := 24, slot := 5, constantValue := 0 }, { name := "UTF16", type := .byte, accessFlags := 24, slot := 6, constantValue := 0 }]
  methods := #[k7m0, k7m1, k7m2, k7m3]
  instanceTypes := #[(.array .byte), .byte, .int, .boolean]
  staticTypes := #[.long, .boolean, (.array (.object "java/io/ObjectStreamField")), .char, (.object "java/util/Comparator"), .byte, .byte]
  resolved := Array.replicate 1451 none
  statics := some 0 }

def pool8 : Array CpInfo := pool [(2, .class_ 4), (1, u "java/lang/Enum"), (0, u "name"), (0, u "Ljava/lang/String;"), (2, u "ordinal"), (0, u "I"), (1, .class_ 14), (1, u "java/lang/Object"), (4, u "hash"), (86, .class_ 108), (1, u "java/lang/Enum$EnumDesc"), (2, .class_ 112), (0, u "java/lang/constant/Constable"), (0, .class_ 114), (0, u "java/lang/Comparable"), (0, .class_ 116), (0, u "java/io/Serializable")] 87

/-- java/lang/Enum -/
def k8 : Class := { plain "java/lang/Enum" (some 0) with
  accessFlags := 1057
  interfaces := #[5, 3, 2]
  cf := some (fileOf pool8 2 #[.nestMembers #[106]] #[] 1057 12 #[111, 113, 115] #[{ accessFlags := 18, nameIndex := 5, descriptorIndex := 6, attributes := #[] }, { accessFlags := 18, nameIndex := 9, descriptorIndex := 10, attributes := #[] }, { accessFlags := 2, nameIndex := 19, descriptorIndex := 10, attributes := #[] }])
  fields := #[{ name := "name", type := (.object "java/lang/String"), accessFlags := 18, slot := 0, constantValue := 0 }, { name := "ordinal", type := .int, accessFlags := 18, slot := 1, constantValue := 0 }, { name := "hash", type := .int, accessFlags := 2, slot := 2, constantValue := 0 }]
  methods := #[]
  instanceTypes := #[(.object "java/lang/String"), .int, .int]
  staticTypes := #[]
  resolved := Array.replicate 204 none
  statics := none }

def pool9 : Array CpInfo := pool [(1, .class_ 2), (0, u "com/example/runs_to_scores/runstoscores/formats/GenomicsJudgment"), (2, u "DEFINITELY_RELEVANT"), (0, u "Lcom/example/runs_to_scores/runstoscores/formats/GenomicsJudgment;"), (2, u "POSSIBLY_RELEVANT"), (2, u "NOT_RELEVANT"), (0, .fieldref 1 14), (0, .nameAndType 15 16), (0, u "$VALUES"), (0, u "[Lcom/example/runs_to_scores/runstoscores/formats/GenomicsJudgment;"), (0, .methodref 18 19), (0, .class_ 16), (0, .nameAndType 20 21), (0, u "clone"), (0, u "()Ljava/lang/Object;"), (1, .class_ 25), (1, u "java/lang/Enum"), (6, .fieldref 1 33), (0, .nameAndType 34 35), (0, u "code"), (0, u "Ljava/lang/String;"), (0, .methodref 1 37), (0, .nameAndType 38 39), (0, u "values"), (0, u "()[Lcom/example/runs_to_scores/runstoscores/formats/GenomicsJudgment;"), (0, .methodref 41 42), (0, .class_ 43), (0, .nameAndType 44 45), (0, u "java/lang/String"), (0, u "equals"), (0, u "(Ljava/lang/Object;)Z"), (17, u "(Ljava/lang/String;)Lcom/example/runs_to_scores/runstoscores/formats/GenomicsJudgment;"), (4, u "coded")] 6

def k9c0 : Code := { maxStack := 1, maxLocals := 0, code := prog_18_method_1_code, exceptionTable := #[], attributes := #[] }
def k9m0 : Method := { name := "values", desc := "()[Lcom/example/runs_to_scores/runstoscores/formats/GenomicsJudgment;", sig := { parameters := [], returnType := some (.array (.object "com/example/runs_to_scores/runstoscores/formats/GenomicsJudgment")) }, accessFlags := 9, code := some k9c0 }
def k9c1 : Code := { maxStack := 2, maxLocals := 5, code := prog_18_method_5_code, exceptionTable := #[], attributes := #[] }
def k9m1 : Method := { name := "coded", desc := "(Ljava/lang/String;)Lcom/example/runs_to_scores/runstoscores/formats/GenomicsJudgment;", sig := { parameters := [(.object "java/lang/String")], returnType := some (.object "com/example/runs_to_scores/runstoscores/formats/GenomicsJudgment") }, accessFlags := 8, code := some k9c1 }
/-- com/example/runs_to_scores/runstoscores/formats/GenomicsJudgment -/
def k9 : Class := { plain "com/example/runs_to_scores/runstoscores/formats/GenomicsJudgment" (some 8) with
  accessFlags := 16433
  interfaces := #[]
  cf := some (fileOf pool9 1 #[] #[{ accessFlags := 9, nameIndex := 38, descriptorIndex := 39, attributes := #[] }, { accessFlags := 8, nameIndex := 68, descriptorIndex := 63, attributes := #[] }] 16433 23 #[] #[{ accessFlags := 16409, nameIndex := 5, descriptorIndex := 6, attributes := #[] }, { accessFlags := 16409, nameIndex := 9, descriptorIndex := 6, attributes := #[] }, { accessFlags := 16409, nameIndex := 12, descriptorIndex := 6, attributes := #[] }, { accessFlags := 18, nameIndex := 34, descriptorIndex := 35, attributes := #[] }, { accessFlags := 4122, nameIndex := 15, descriptorIndex := 16, attributes := #[] }])
  fields := #[{ name := "DEFINITELY_RELEVANT", type := (.object "com/example/runs_to_scores/runstoscores/formats/GenomicsJudgment"), accessFlags := 16409, slot := 0, constantValue := 0 }, { name := "POSSIBLY_RELEVANT", type := (.object "com/example/runs_to_scores/runstoscores/formats/GenomicsJudgment"), accessFlags := 16409, slot := 1, constantValue := 0 }, { name := "NOT_RELEVANT", type := (.object "com/example/runs_to_scores/runstoscores/formats/GenomicsJudgment"), accessFlags := 16409, slot := 2, constantValue := 0 }, { name := "code", type := (.object "java/lang/String"), accessFlags := 18, slot := 3, constantValue := 0 }, { name := "$VALUES", type := (.array (.object "com/example/runs_to_scores/runstoscores/formats/GenomicsJudgment")), accessFlags := 4122, slot := 3, constantValue := 0 }]
  methods := #[k9m0, k9m1]
  instanceTypes := #[(.object "java/lang/String"), .int, .int, (.object "java/lang/String")]
  staticTypes := #[(.object "com/example/runs_to_scores/runstoscores/formats/GenomicsJudgment"), (.object "com/example/runs_to_scores/runstoscores/formats/GenomicsJudgment"), (.object "com/example/runs_to_scores/runstoscores/formats/GenomicsJudgment"), (.array (.object "com/example/runs_to_scores/runstoscores/formats/GenomicsJudgment"))]
  resolved := Array.replicate 75 none
  statics := some 1 }

def pool10 : Array CpInfo := pool [(1, .class_ 2), (0, u "java/lang/Cloneable"), (0, .class_ 4), (0, u "java/lang/Object")] 2

/-- java/lang/Cloneable -/
def k10 : Class := { plain "java/lang/Cloneable" (some 0) with
  accessFlags := 1537
  interfaces := #[]
  cf := some (fileOf pool10 1 #[] #[] 1537 3 #[] #[])
  fields := #[]
  methods := #[]
  instanceTypes := #[]
  staticTypes := #[]
  resolved := Array.replicate 7 none
  statics := none }

def pool11 : Array CpInfo := pool [(4, .class_ 6), (1, u "java/lang/Object"), (0, u "<init>"), (0, u "()V"), (5, .class_ 16), (1, u "java/lang/StringLatin1"), (104, u "$assertionsDisabled"), (0, u "Z"), (98, .class_ 223), (1, u "java/lang/StringLatin1$LinesSpliterator"), (57, u "equals"), (0, u "([B[B)Z"), (107, .class_ 391), (0, u "java/lang/StringLatin1$CharsSpliterator")] 3

def k11m0 : Method := { name := "<init>", desc := "()V", sig := { parameters := [], returnType := none }, accessFlags := 0, code := none }
def k11c1 : Code := { maxStack := 3, maxLocals := 3, code := jdk_43_method_13_code, exceptionTable := #[], attributes := #[] }
def k11m1 : Method := { name := "equals", desc := "([B[B)Z", sig := { parameters := [(.array .byte), (.array .byte)], returnType := some .boolean }, accessFlags := 9, code := some k11c1 }
/-- java/lang/StringLatin1 -/
def k11 : Class := { plain "java/lang/StringLatin1" (some 0) with
  accessFlags := 48
  interfaces := #[]
  cf := some (fileOf pool11 14 #[.nestMembers #[390, 221]] #[{ accessFlags := 0, nameIndex := 7, descriptorIndex := 8, attributes := #[] }, { accessFlags := 9, nameIndex := 281, descriptorIndex := 282, attributes := #[] }] 48 4 #[] #[{ accessFlags := 4120, nameIndex := 121, descriptorIndex := 122, attributes := #[] }])
  fields := #[{ name := "$assertionsDisabled", type := .boolean, accessFlags := 4120, slot := 0, constantValue := 0 }]
  methods := #[k11m0, k11m1]
  instanceTypes := #[]
  staticTypes := #[.boolean]
  resolved := Array.replicate 395 none
  statics := none }

def pool12 : Array CpInfo := pool [(6, .class_ 8), (1, u "java/lang/Object"), (0, u "<init>"), (0, u "()V"), (1, .class_ 14), (1, u "java/lang/StringUTF16"), (31, u "$assertionsDisabled"), (0, u "Z"), (13, u "HI_BYTE_SHIFT"), (0, u "I"), (2, u "LO_BYTE_SHIFT"), (49, .methodref 12 116), (0, .nameAndType 117 118), (0, u "compress"), (0, u "([CI[BII)I"), (3, u "([CII)[B"), (138, u "coderFromArrayLen"), (0, u "([BI)B"), (106, .class_ 371), (1, u "java/lang/StringUTF16$LinesSpliterator"), (58, u "MAX_LENGTH"), (196, .class_ 628), (0, u "java/lang/StringUTF16$CodePointsSpliterator"), (0, .class_ 630), (0, u "java/lang/StringUTF16$CharsSpliterator")] 4

def k12m0 : Method := { name := "<init>", desc := "()V", sig := { parameters := [], returnType := none }, accessFlags := 0, code := none }
def k12c1 : Code := { maxStack := 2, maxLocals := 2, code := jdk_52_method_15_code, exceptionTable := #[], attributes := #[] }
def k12m1 : Method := { name := "coderFromArrayLen", desc := "([BI)B", sig := { parameters := [(.array .byte), .int], returnType := some .byte }, accessFlags := 8, code := some k12c1 }
def k12c2 : Code := { maxStack := 5, maxLocals := 6, code := jdk_52_method_16_code, exceptionTable := #[], attributes := #[] }
def k12m2 : Method := { name := "compress", desc := "([CII)[B", sig := { parameters := [(.array .char), .int, .int], returnType := some (.array .byte) }, accessFlags := 9, code := some k12c2 }
def k12c3 : Code := { maxStack := 3, maxLocals := 7, code := jdk_52_method_21_code, exceptionTable := #[], attributes := #[] }
def k12m3 : Method := { name := "compress", desc := "([CI[BII)I", sig := { parameters := [(.array .char), .int, (.array .byte), .int, .int], returnType := some .int }, accessFlags := 9, code := some k12c3 }
/-- java/lang/StringUTF16 -/
def k12 : Class := { plain "java/lang/StringUTF16" (some 0) with
  accessFlags := 48
  interfaces := #[]
  cf := some (fileOf pool12 12 #[.nestMembers #[627, 629, 369]] #[{ accessFlags := 0, nameIndex := 9, descriptorIndex := 10, attributes := #[] }, { accessFlags := 8, nameIndex := 261, descriptorIndex := 262, attributes := #[] }, { accessFlags := 9, nameIndex := 117, descriptorIndex := 122, attributes := #[] }, { accessFlags := 9, nameIndex := 117, descriptorIndex := 118, attributes := #[] }] 48 6 #[] #[{ accessFlags := 26, nameIndex := 61, descriptorIndex := 62, attributes := #[] }, { accessFlags := 26, nameIndex := 65, descriptorIndex := 62, attributes := #[] }, { accessFlags := 24, nameIndex := 430, descriptorIndex := 62, attributes := #[] }, { accessFlags := 4120, nameIndex := 46, descriptorIndex := 47, attributes := #[] }])
  fields := #[{ name := "HI_BYTE_SHIFT", type := .int, accessFlags := 26, slot := 0, constantValue := 0 }, { name := "LO_BYTE_SHIFT", type := .int, accessFlags := 26, slot := 1, constantValue := 0 }, { name := "MAX_LENGTH", type := .int, accessFlags := 24, slot := 2, constantValue := 0 }, { name := "$assertionsDisabled", type := .boolean, accessFlags := 4120, slot := 3, constantValue := 0 }]
  methods := #[k12m0, k12m1, k12m2, k12m3]
  instanceTypes := #[]
  staticTypes := #[.int, .int, .int, .boolean]
  resolved := Array.replicate 635 none
  statics := none }

def pool13 : Array CpInfo := pool [(2, .class_ 4), (1, u "java/lang/Object"), (0, u "<init>"), (0, u "()V"), (17, .class_ 26), (1, u "jdk/internal/util/Preconditions"), (28, .class_ 56), (0, u "jdk/internal/util/Preconditions$4"), (57, .class_ 115), (0, u "jdk/internal/util/Preconditions$1"), (7, u "SIOOBE_FORMATTER"), (0, u "Ljava/util/function/BiFunction;"), (0, .class_ 126), (0, u "jdk/internal/util/Preconditions$2"), (3, u "AIOOBE_FORMATTER"), (0, .class_ 132), (0, u "jdk/internal/util/Preconditions$3"), (3, u "IOOBE_FORMATTER")] 57

def k13m0 : Method := { name := "<init>", desc := "()V", sig := { parameters := [], returnType := none }, accessFlags := 1, code := none }
/-- jdk/internal/util/Preconditions -/
def k13 : Class := { plain "jdk/internal/util/Preconditions" (some 0) with
  accessFlags := 33
  interfaces := #[]
  cf := some (fileOf pool13 24 #[.nestMembers #[55, 131, 125, 114]] #[{ accessFlags := 1, nameIndex := 5, descriptorIndex := 6, attributes := #[] }] 33 2 #[] #[{ accessFlags := 25, nameIndex := 123, descriptorIndex := 124, attributes := #[] }, { accessFlags := 25, nameIndex := 130, descriptorIndex := 124, attributes := #[] }, { accessFlags := 25, nameIndex := 136, descriptorIndex := 124, attributes := #[] }])
  fields := #[{ name := "SIOOBE_FORMATTER", type := (.object "java/util/function/BiFunction"), accessFlags := 25, slot := 0, constantValue := 0 }, { name := "AIOOBE_FORMATTER", type := (.object "java/util/function/BiFunction"), accessFlags := 25, slot := 1, constantValue := 0 }, { name := "IOOBE_FORMATTER", type := (.object "java/util/function/BiFunction"), accessFlags := 25, slot := 2, constantValue := 0 }]
  methods := #[k13m0]
  instanceTypes := #[]
  staticTypes := #[(.object "java/util/function/BiFunction"), (.object "java/util/function/BiFunction"), (.object "java/util/function/BiFunction")]
  resolved := Array.replicate 194 none
  statics := some 2 }

def pool14 : Array CpInfo := pool [(9, u "<init>"), (6, .class_ 18), (1, u "java/lang/Object"), (0, u "()V"), (1, .class_ 23), (1, u "jdk/internal/util/ArraysSupport"), (0, u "LOG2_ARRAY_LONG_INDEX_SCALE"), (0, u "I"), (2, u "U"), (0, u "Ljdk/internal/misc/Unsafe;"), (8, u "BIG_ENDIAN"), (0, u "Z"), (8, u "LOG2_BYTE_BIT_SIZE"), (4, u "LOG2_ARRAY_INT_INDEX_SCALE"), (54, u "JLA"), (0, u "Ljdk/internal/access/JavaLangAccess;"), (11, u "LOG2_ARRAY_BOOLEAN_INDEX_SCALE"), (9, u "LOG2_ARRAY_BYTE_INDEX_SCALE"), (5, u "LOG2_ARRAY_CHAR_INDEX_SCALE"), (5, u "LOG2_ARRAY_SHORT_INDEX_SCALE"), (18, u "LOG2_ARRAY_FLOAT_INDEX_SCALE"), (24, u "LOG2_ARRAY_DOUBLE_INDEX_SCALE"), (89, u "T_BOOLEAN"), (2, u "T_CHAR"), (1, u "T_FLOAT"), (1, u "T_DOUBLE"), (1, u "T_BYTE"), (1, u "T_SHORT"), (1, u "T_INT"), (1, u "T_LONG"), (1, u "SOFT_MAX_ARRAY_LENGTH")] 83

def k14m0 : Method := { name := "<init>", desc := "()V", sig := { parameters := [], returnType := none }, accessFlags := 2, code := none }
/-- jdk/internal/util/ArraysSupport -/
def k14 : Class := { plain "jdk/internal/util/ArraysSupport" (some 0) with
  accessFlags := 33
  interfaces := #[]
  cf := some (fileOf pool14 21 #[] #[{ accessFlags := 2, nameIndex := 9, descriptorIndex := 19, attributes := #[] }] 33 16 #[] #[{ accessFlags := 24, nameIndex := 28, descriptorIndex := 29, attributes := #[] }, { accessFlags := 26, nameIndex := 38, descriptorIndex := 39, attributes := #[] }, { accessFlags := 25, nameIndex := 121, descriptorIndex := 25, attributes := #[] }, { accessFlags := 25, nameIndex := 131, descriptorIndex := 25, attributes := #[] }, { accessFlags := 25, nameIndex := 137, descriptorIndex := 25, attributes := #[] }, { accessFlags := 25, nameIndex := 143, descriptorIndex := 25, attributes := #[] }, { accessFlags := 25, nameIndex := 53, descriptorIndex := 25, attributes := #[] }, { accessFlags := 25, nameIndex := 24, descriptorIndex := 25, attributes := #[] }, { accessFlags := 25, nameIndex := 162, descriptorIndex := 25, attributes := #[] }, { accessFlags := 25, nameIndex := 187, descriptorIndex := 25, attributes := #[] }, { accessFlags := 26, nameIndex := 48, descriptorIndex := 25, attributes := #[] }, { accessFlags := 25, nameIndex := 277, descriptorIndex := 25, attributes := #[] }, { accessFlags := 25, nameIndex := 280, descriptorIndex := 25, attributes := #[] }, { accessFlags := 25, nameIndex := 282, descriptorIndex := 25, attributes := #[] }, { accessFlags := 25, nameIndex := 284, descriptorIndex := 25, attributes := #[] }, { accessFlags := 25, nameIndex := 286, descriptorIndex := 25, attributes := #[] }, { accessFlags := 25, nameIndex := 288, descriptorIndex := 25, attributes := #[] }, { accessFlags := 25, nameIndex := 290, descriptorIndex := 25, attributes := #[] }, { accessFlags := 25, nameIndex := 292, descriptorIndex := 25, attributes := #[] }, { accessFlags := 26, nameIndex := 108, descriptorIndex := 109, attributes := #[] }, { accessFlags := 25, nameIndex := 294, descriptorIndex := 25, attributes := #[] }])
  fields := #[{ name := "U", type := (.object "jdk/internal/misc/Unsafe"), accessFlags := 24, slot := 0, constantValue := 0 }, { name := "BIG_ENDIAN", type := .boolean, accessFlags := 26, slot := 1, constantValue := 0 }, { name := "LOG2_ARRAY_BOOLEAN_INDEX_SCALE", type := .int, accessFlags := 25, slot := 2, constantValue := 0 }, { name := "LOG2_ARRAY_BYTE_INDEX_SCALE", type := .int, accessFlags := 25, slot := 3, constantValue := 0 }, { name := "LOG2_ARRAY_CHAR_INDEX_SCALE", type := .int, accessFlags := 25, slot := 4, constantValue := 0 }, { name := "LOG2_ARRAY_SHORT_INDEX_SCALE", type := .int, accessFlags := 25, slot := 5, constantValue := 0 }, { name := "LOG2_ARRAY_INT_INDEX_SCALE", type := .int, accessFlags := 25, slot := 6, constantValue := 0 }, { name := "LOG2_ARRAY_LONG_INDEX_SCALE", type := .int, accessFlags := 25, slot := 7, constantValue := 0 }, { name := "LOG2_ARRAY_FLOAT_INDEX_SCALE", type := .int, accessFlags := 25, slot := 8, constantValue := 0 }, { name := "LOG2_ARRAY_DOUBLE_INDEX_SCALE", type := .int, accessFlags := 25, slot := 9, constantValue := 0 }, { name := "LOG2_BYTE_BIT_SIZE", type := .int, accessFlags := 26, slot := 10, constantValue := 0 }, { name := "T_BOOLEAN", type := .int, accessFlags := 25, slot := 11, constantValue := 0 }, { name := "T_CHAR", type := .int, accessFlags := 25, slot := 12, constantValue := 0 }, { name := "T_FLOAT", type := .int, accessFlags := 25, slot := 13, constantValue := 0 }, { name := "T_DOUBLE", type := .int, accessFlags := 25, slot := 14, constantValue := 0 }, { name := "T_BYTE", type := .int, accessFlags := 25, slot := 15, constantValue := 0 }, { name := "T_SHORT", type := .int, accessFlags := 25, slot := 16, constantValue := 0 }, { name := "T_INT", type := .int, accessFlags := 25, slot := 17, constantValue := 0 }, { name := "T_LONG", type := .int, accessFlags := 25, slot := 18, constantValue := 0 }, { name := "JLA", type := (.object "jdk/internal/access/JavaLangAccess"), accessFlags := 26, slot := 19, constantValue := 0 }, { name := "SOFT_MAX_ARRAY_LENGTH", type := .int, accessFlags := 25, slot := 20, constantValue := 0 }]
  methods := #[k14m0]
  instanceTypes := #[]
  staticTypes := #[(.object "jdk/internal/misc/Unsafe"), .boolean, .int, .int, .int, .int, .int, .int, .int, .int, .int, .int, .int, .int, .int, .int, .int, .int, .int, (.object "jdk/internal/access/JavaLangAccess"), .int]
  resolved := Array.replicate 378 none
  statics := none }

/-- the primitive byte -/
def k15 : Class := { plain "byte" none with kind := .primitive 'B', accessFlags := 0x411 }
/-- [B -/
def k16 : Class := { plain "[B" (some 0) with kind := .array 15 .byte, interfaces := #[10, 2], accessFlags := 1041 }

/-- the primitive char -/
def k17 : Class := { plain "char" none with kind := .primitive 'C', accessFlags := 0x411 }
/-- [C -/
def k18 : Class := { plain "[C" (some 0) with kind := .array 17 .char, interfaces := #[10, 2], accessFlags := 1041 }

/-- the primitive int -/
def k19 : Class := { plain "int" none with kind := .primitive 'I', accessFlags := 0x411 }
/-- [I -/
def k20 : Class := { plain "[I" (some 0) with kind := .array 19 .int, interfaces := #[10, 2], accessFlags := 1041 }

/-- [Lcom/example/runs_to_scores/runstoscores/formats/GenomicsJudgment; -/
def k21 : Class := { plain "[Lcom/example/runs_to_scores/runstoscores/formats/GenomicsJudgment;" (some 0) with kind := .array 9 (.object "com/example/runs_to_scores/runstoscores/formats/GenomicsJudgment"), interfaces := #[10, 2], accessFlags := 1041 }

def heap : Heap := #[{ cls := 7, slots := #[.long 0, .int 1, .null, .int 0, .null, .int 0, .int 0], vm := .statics 7 },
  { cls := 9, slots := #[.ref 4, .ref 5, .ref 6, .ref 3], vm := .statics 9 },
  { cls := 13, slots := #[.null, .null, .null], vm := .statics 13 },
  { cls := 21, slots := #[.ref 4, .ref 5, .ref 6], vm := .none },
  { cls := 9, slots := #[.null, .int 0, .int 0, .ref 7], vm := .none },
  { cls := 9, slots := #[.null, .int 1, .int 0, .ref 8], vm := .none },
  { cls := 9, slots := #[.null, .int 2, .int 0, .ref 9], vm := .none },
  { cls := 7, slots := #[.ref 10, .int 0, .int 0, .int 0], vm := .none },
  { cls := 7, slots := #[.ref 11, .int 0, .int 0, .int 0], vm := .none },
  { cls := 7, slots := #[.ref 12, .int 0, .int 0, .int 0], vm := .none },
  { cls := 16, slots := #[.int 49], vm := .none },
  { cls := 16, slots := #[.int 50], vm := .none },
  { cls := 16, slots := #[.int 51], vm := .none }]
def classes : Array Class := #[k0, k1, k2, k3, k4, k5, k6, k7, k8, k9, k10, k11, k12, k13, k14, k15, k16, k17, k18, k19, k20, k21]
def interned : List (Array UInt16 × Addr) := []
def slotsUsed : Nat := 44
def theMethod : MethodId := ⟨1, 1⟩
def args0 : Array Value := #[.int 1, .int 2, .int 3, .int 4]
def aboutOver (below : List Frame) : State where
  vm := { classes := classes, interned := interned.toArray }
  heap := heap
  slotsUsed := slotsUsed
  threads := #[{ frames := .invoking theMethod args0 :: below }]
def below0 : List Frame := [.native { method := ⟨0, 0⟩, args := #[] }]
def about1 : State := aboutOver below0
def p0 : Program := .bare "" "" ""
def e0 : Env := launch0.env 0 0 0
theorem w_frames : about1.frames = Frame.invoking theMethod args0 :: below0 := rfl
set_option maxRecDepth 65536 in
theorem w_args : argsFit about1.vm theMethod args0 = true := by decide +kernel
set_option maxRecDepth 65536 in
theorem w_heap : heapFits about1 = true := by decide +kernel
set_option maxRecDepth 65536 in
theorem w_runnable : about1.curStatus? = some .runnable := by decide +kernel
set_option maxRecDepth 65536 in
theorem w_alone : about1.alone = true := by decide +kernel
set_option maxRecDepth 65536 in
theorem w_named : about1.methodNamed? x = some theMethod := by decide +kernel
set_option maxRecDepth 65536 in
theorem w_hears : about1.hears theMethod below0 = true := by decide +kernel
set_option maxRecDepth 65536 in
theorem w_ripe : about1.ripe theMethod args0 below0 = true := by decide +kernel
theorem w_running : about1.status = .running := rfl
set_option maxRecDepth 65536 in
theorem w_room : about1.hasRoom e0.platform room_1 = true :=
  launch0.hasRoom_least _ room_1 (by decide +kernel) (by decide +kernel) (by decide +kernel) (by decide +kernel) (by decide +kernel) (by decide +kernel)
theorem allAtoms_all (ts : List Jvm.Cond) (a : Array Jvm.Value) (st : Jvm.State) : (allAtoms ts).before a st = ts.all (fun c => c.before a st) := by
  induction ts with
  | nil => rfl
  | cons c t ih =>
    show (Jvm.Cond.and c (allAtoms t)).before a st = _
    rw [Jvm.Cond.before_and, ih, List.all_cons]
def words1 : List Jvm.Cond := Jvm.Cond.code x code maxLocals ret :: tables_1
/-- a 'code' word, met by the world's own term for the bytes: nothing is compared byte by byte -/
theorem code_word {y : MethodName} {bytes : ByteArray} {mx : Nat} {rt : Option FieldType} {a : Array Value} {s : State} {m : MethodId} {meth : Method} {c : Code} (h1 : s.methodNamed? y = some m) (h2 : s.vm.method? m = some meth) (h3 : meth.code = some c) (h4 : c.code = bytes)
    (h5 : (c.maxLocals == mx && c.exceptionTable.isEmpty && decide (c.maxStack ≤ mostOperands) && decide (meth.sig.returnType = rt) && !meth.locks && decide (parseMethodDescriptor y.desc = some meth.sig)) = true) : (Jvm.Cond.code y bytes mx rt).before a s = true := by
  simp only [Bool.and_eq_true, beq_iff_eq, Bool.not_eq_true', decide_eq_true_eq] at h5
  obtain ⟨⟨⟨⟨⟨g1, g2⟩, g3⟩, g4⟩, g5⟩, g6⟩ := h5
  simp [Cond.before, Cond.holds, Cond.value, h1, h2, h3, h4, g1, g2, g3, g4, g5, g6]
def isCode : Jvm.Cond → Bool
  | .code _ _ _ _ => true
  | _ => false
theorem all_split {L : List Jvm.Cond} {P : Jvm.Cond → Bool} (h1 : L.all (fun c => isCode c || P c) = true) (h2 : ∀ c ∈ L.filter isCode, P c = true) : L.all P = true := by
  refine List.all_eq_true.mpr fun c hc => ?_
  have h := List.all_eq_true.mp h1 c hc
  rcases Bool.eq_false_or_eq_true (isCode c) with hi | hi
  · exact h2 c (List.mem_filter.mpr ⟨hc, hi⟩)
  · simpa [hi] using h
set_option maxRecDepth 65536 in
theorem w_c0 : (Jvm.Cond.code x code maxLocals ret).before args0 about1 = true := code_word (m := ⟨1, 1⟩) (meth := k1m1) (c := k1c1) (by decide +kernel) rfl rfl rfl (by decide +kernel)
set_option maxRecDepth 65536 in
theorem w_c1 : (Jvm.Cond.code ({ cls := "com/example/runs_to_scores/runstoscores/formats/GenomicsJudgmentCodedPinLaw", name := "drawn", desc := "(I)C" } : Jvm.MethodName) method_3_code (1 : Nat) (Option.some Jvm.ClassFile.FieldType.char)).before args0 about1 = true := code_word (m := ⟨1, 2⟩) (meth := k1m2) (c := k1c2) (by decide +kernel) rfl rfl rfl (by decide +kernel)
set_option maxRecDepth 65536 in
theorem w_c2 : (Jvm.Cond.code ({ cls := "java/lang/String", name := "<init>", desc := "([C)V" } : Jvm.MethodName) jdk_42_method_3_code (2 : Nat) (Option.none : Option Jvm.ClassFile.FieldType)).before args0 about1 = true := code_word (m := ⟨7, 1⟩) (meth := k7m1) (c := k7c1) (by decide +kernel) rfl rfl rfl (by decide +kernel)
set_option maxRecDepth 65536 in
theorem w_c3 : (Jvm.Cond.code ({ cls := "java/lang/String", name := "<init>", desc := "([CIILjava/lang/Void;)V" } : Jvm.MethodName) jdk_42_method_149_code (6 : Nat) (Option.none : Option Jvm.ClassFile.FieldType)).before args0 about1 = true := code_word (m := ⟨7, 3⟩) (meth := k7m3) (c := k7c3) (by decide +kernel) rfl rfl rfl (by decide +kernel)
set_option maxRecDepth 65536 in
theorem w_c4 : (Jvm.Cond.code ({ cls := "java/lang/Object", name := "<init>", desc := "()V" } : Jvm.MethodName) object_method_1_code (1 : Nat) (Option.none : Option Jvm.ClassFile.FieldType)).before args0 about1 = true := code_word (m := ⟨0, 0⟩) (meth := k0m0) (c := k0c0) (by decide +kernel) rfl rfl rfl (by decide +kernel)
set_option maxRecDepth 65536 in
theorem w_c5 : (Jvm.Cond.code ({ cls := "com/example/runs_to_scores/runstoscores/formats/GenomicsJudgment", name := "coded", desc := "(Ljava/lang/String;)Lcom/example/runs_to_scores/runstoscores/formats/GenomicsJudgment;" } : Jvm.MethodName) prog_18_method_5_code (5 : Nat) (Option.some (Jvm.ClassFile.FieldType.object "com/example/runs_to_scores/runstoscores/formats/GenomicsJudgment"))).before args0 about1 = true := code_word (m := ⟨9, 1⟩) (meth := k9m1) (c := k9c1) (by decide +kernel) rfl rfl rfl (by decide +kernel)
set_option maxRecDepth 65536 in
theorem w_c6 : (Jvm.Cond.code ({ cls := "com/example/runs_to_scores/runstoscores/formats/GenomicsJudgment", name := "values", desc := "()[Lcom/example/runs_to_scores/runstoscores/formats/GenomicsJudgment;" } : Jvm.MethodName) prog_18_method_1_code (0 : Nat) (Option.some (Jvm.ClassFile.FieldType.array (Jvm.ClassFile.FieldType.object "com/example/runs_to_scores/runstoscores/formats/GenomicsJudgment")))).before args0 about1 = true := code_word (m := ⟨9, 0⟩) (meth := k9m0) (c := k9c0) (by decide +kernel) rfl rfl rfl (by decide +kernel)
set_option maxRecDepth 65536 in
theorem w_c7 : (Jvm.Cond.code ({ cls := "java/lang/String", name := "equals", desc := "(Ljava/lang/Object;)Z" } : Jvm.MethodName) jdk_42_method_66_code (3 : Nat) (Option.some Jvm.ClassFile.FieldType.boolean)).before args0 about1 = true := code_word (m := ⟨7, 2⟩) (meth := k7m2) (c := k7c2) (by decide +kernel) rfl rfl rfl (by decide +kernel)
set_option maxRecDepth 65536 in
theorem w_c8 : (Jvm.Cond.code ({ cls := "java/lang/StringLatin1", name := "equals", desc := "([B[B)Z" } : Jvm.MethodName) jdk_43_method_13_code (3 : Nat) (Option.some Jvm.ClassFile.FieldType.boolean)).before args0 about1 = true := code_word (m := ⟨11, 1⟩) (meth := k11m1) (c := k11c1) (by decide +kernel) rfl rfl rfl (by decide +kernel)
set_option maxRecDepth 65536 in
theorem w_c9 : (Jvm.Cond.code ({ cls := "java/lang/StringUTF16", name := "compress", desc := "([CII)[B" } : Jvm.MethodName) jdk_52_method_16_code (6 : Nat) (Option.some (Jvm.ClassFile.FieldType.array Jvm.ClassFile.FieldType.byte))).before args0 about1 = true := code_word (m := ⟨12, 2⟩) (meth := k12m2) (c := k12c2) (by decide +kernel) rfl rfl rfl (by decide +kernel)
set_option maxRecDepth 65536 in
theorem w_c10 : (Jvm.Cond.code ({ cls := "java/lang/StringUTF16", name := "compress", desc := "([CI[BII)I" } : Jvm.MethodName) jdk_52_method_21_code (7 : Nat) (Option.some Jvm.ClassFile.FieldType.int)).before args0 about1 = true := code_word (m := ⟨12, 3⟩) (meth := k12m3) (c := k12c3) (by decide +kernel) rfl rfl rfl (by decide +kernel)
set_option maxRecDepth 65536 in
theorem w_c11 : (Jvm.Cond.code ({ cls := "java/lang/StringUTF16", name := "coderFromArrayLen", desc := "([BI)B" } : Jvm.MethodName) jdk_52_method_15_code (2 : Nat) (Option.some Jvm.ClassFile.FieldType.byte)).before args0 about1 = true := code_word (m := ⟨12, 1⟩) (meth := k12m1) (c := k12c1) (by decide +kernel) rfl rfl rfl (by decide +kernel)
def codes1 : List Jvm.Cond := [Jvm.Cond.code x code maxLocals ret, Jvm.Cond.code ({ cls := "com/example/runs_to_scores/runstoscores/formats/GenomicsJudgmentCodedPinLaw", name := "drawn", desc := "(I)C" } : Jvm.MethodName) method_3_code (1 : Nat) (Option.some Jvm.ClassFile.FieldType.char), Jvm.Cond.code ({ cls := "java/lang/String", name := "<init>", desc := "([C)V" } : Jvm.MethodName) jdk_42_method_3_code (2 : Nat) (Option.none : Option Jvm.ClassFile.FieldType), Jvm.Cond.code ({ cls := "java/lang/String", name := "<init>", desc := "([CIILjava/lang/Void;)V" } : Jvm.MethodName) jdk_42_method_149_code (6 : Nat) (Option.none : Option Jvm.ClassFile.FieldType), Jvm.Cond.code ({ cls := "java/lang/Object", name := "<init>", desc := "()V" } : Jvm.MethodName) object_method_1_code (1 : Nat) (Option.none : Option Jvm.ClassFile.FieldType), Jvm.Cond.code ({ cls := "com/example/runs_to_scores/runstoscores/formats/GenomicsJudgment", name := "coded", desc := "(Ljava/lang/String;)Lcom/example/runs_to_scores/runstoscores/formats/GenomicsJudgment;" } : Jvm.MethodName) prog_18_method_5_code (5 : Nat) (Option.some (Jvm.ClassFile.FieldType.object "com/example/runs_to_scores/runstoscores/formats/GenomicsJudgment")), Jvm.Cond.code ({ cls := "com/example/runs_to_scores/runstoscores/formats/GenomicsJudgment", name := "values", desc := "()[Lcom/example/runs_to_scores/runstoscores/formats/GenomicsJudgment;" } : Jvm.MethodName) prog_18_method_1_code (0 : Nat) (Option.some (Jvm.ClassFile.FieldType.array (Jvm.ClassFile.FieldType.object "com/example/runs_to_scores/runstoscores/formats/GenomicsJudgment"))), Jvm.Cond.code ({ cls := "java/lang/String", name := "equals", desc := "(Ljava/lang/Object;)Z" } : Jvm.MethodName) jdk_42_method_66_code (3 : Nat) (Option.some Jvm.ClassFile.FieldType.boolean), Jvm.Cond.code ({ cls := "java/lang/StringLatin1", name := "equals", desc := "([B[B)Z" } : Jvm.MethodName) jdk_43_method_13_code (3 : Nat) (Option.some Jvm.ClassFile.FieldType.boolean), Jvm.Cond.code ({ cls := "java/lang/StringUTF16", name := "compress", desc := "([CII)[B" } : Jvm.MethodName) jdk_52_method_16_code (6 : Nat) (Option.some (Jvm.ClassFile.FieldType.array Jvm.ClassFile.FieldType.byte)), Jvm.Cond.code ({ cls := "java/lang/StringUTF16", name := "compress", desc := "([CI[BII)I" } : Jvm.MethodName) jdk_52_method_21_code (7 : Nat) (Option.some Jvm.ClassFile.FieldType.int), Jvm.Cond.code ({ cls := "java/lang/StringUTF16", name := "coderFromArrayLen", desc := "([BI)B" } : Jvm.MethodName) jdk_52_method_15_code (2 : Nat) (Option.some Jvm.ClassFile.FieldType.byte)]
set_option maxRecDepth 65536 in
theorem codes_eq : words1.filter isCode = codes1 := rfl
theorem w_codes : ∀ c ∈ words1.filter isCode, c.before args0 about1 = true := by
  rw [codes_eq]
  intro c hc
  simp only [codes1, List.mem_cons, List.not_mem_nil, or_false] at hc
  rcases hc with rfl | rfl | rfl | rfl | rfl | rfl | rfl | rfl | rfl | rfl | rfl | rfl
  · exact w_c0
  · exact w_c1
  · exact w_c2
  · exact w_c3
  · exact w_c4
  · exact w_c5
  · exact w_c6
  · exact w_c7
  · exact w_c8
  · exact w_c9
  · exact w_c10
  · exact w_c11
set_option maxRecDepth 65536 in
theorem w_t1 : (words1.take 24).all (fun c => isCode c || c.before args0 about1) = true := by decide +kernel
set_option maxRecDepth 65536 in
theorem w_t2 : ((words1.drop 24).take 24).all (fun c => isCode c || c.before args0 about1) = true := by decide +kernel
set_option maxRecDepth 65536 in
theorem w_t3 : (((words1.drop 24).drop 24).take 24).all (fun c => isCode c || c.before args0 about1) = true := by decide +kernel
set_option maxRecDepth 65536 in
theorem w_t4 : (((words1.drop 24).drop 24).drop 24).all (fun c => isCode c || c.before args0 about1) = true := by decide +kernel
theorem w_tables : (allAtoms (Jvm.Cond.code x code maxLocals ret :: tables_1)).before args0 about1 = true := by
  rw [allAtoms_all]
  show words1.all (fun c => c.before args0 about1) = true
  refine all_split ?_ w_codes
  rw [← List.take_append_drop 24 words1, List.all_append, w_t1, ← List.take_append_drop 24 (words1.drop 24), List.all_append, w_t2, ← List.take_append_drop 24 ((words1.drop 24).drop 24), List.all_append, w_t3, w_t4]
  rfl
set_option maxRecDepth 65536 in
theorem w_rest : rest_1_c.before args0 about1 = true := by decide +kernel
set_option maxRecDepth 65536 in
theorem w_case : (Jvm.Cond.and given_1 narrow_1).before args0 about1 = true := by decide +kernel
set_option maxRecDepth 65536 in
theorem w_consts : constsHeld consts_1 about1 := Jvm.Lit.constsHeldB_iff.mp (by decide +kernel)
theorem w_applies : (headSpec (Jvm.Cond.code x code maxLocals ret :: tables_1) room_1).applies x e0.platform about1 = true :=
  (Spec.applies_iff w_frames).mpr ⟨w_running, w_runnable, w_alone, w_named, w_hears, w_ripe, w_room, w_tables⟩
theorem atStart : AtStart classFile x code maxLocals ret World_1 tables_1 room_1 Calls_1 rest_1 Pre_1 launch0 p0 e0 about1 theMethod args0 below0 :=
  ⟨lists_1, trivial, launch0.admits_env _ _ _, launch0.least_env, fairChoices_fair.cas, fairChoices_fair.clock, w_frames, w_args, w_heap, w_applies, ⟨w_consts, trivial⟩, w_rest, w_case⟩
end start1
theorem witness_1 : WitnessClaimed_1 := ⟨start1.p0, start1.e0, start1.about1, start1.theMethod, start1.args0, start1.below0, start1.atStart⟩
end Jvm.Pilot.@@N@@
