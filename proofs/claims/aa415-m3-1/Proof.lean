import JvmDerived
import JvmDerived.Pilot.@@N@@Statement
import JvmDerived.Pilot.@@N@@Code
set_option linter.unusedVariables false
set_option linter.unusedSimpArgs false

namespace Jvm.RoadKit
open Sem ClassFile Op Lib Jvm.Stand Jvm.Free Jvm.LawKit
section New
variable {p : Program} {l : Launch} {e : Env} {R : Room} {s : State} {m : MethodId} {args : Array Value} {below : List Frame} {meth : Method} {c : Code} {T : State} {locs : List Loc} {cells slots : Nat}
theorem retI (X : Stand p l e R s m args below meth c T locs cells slots) (hx : p.tables.exec = Jvm.exec) {pc : Nat} {Ls : Array Slot} {z : Int32} {rest : List Value} (hret : meth.sig.returnType = some .int) (hd : decode c.code pc = .ok (.ireturn, 1)) {fs : List Frame}
    (hl : ∀ (f : JFrame) (acts : List Action), f.method = m → f.locked = none → f.entered = [] → (doReturn e (T.setTop f) acts (some (.int z))).1 = T.setFrames fs) : Steps p.tables e below (T.setTop (mkF m pc Ls (.int z :: rest))) (T.setFrames fs) := by
  have hm' : T.vm.method? m = some meth := X.method'
  have hn : narrow .int (.int z) = .int z := rfl
  show Steps p.tables e below (T.setTop { method := m, pc := pc, locals := Ls, stack := _ :: rest, locked := none }) _
  jvm_step X.here [X.here.top, hx, hd, hm', hret, hn]
  first | (intro acts; rw [hl _ acts rfl rfl rfl]) | rw [hl _ _ rfl rfl rfl]
  exact Steps.refl _
end New
end Jvm.RoadKit

namespace Jvm.Pilot.@@N@@
namespace StrChars
open Jvm Sem ClassFile Op Lib Jvm.Stand Jvm.Free.XT Jvm.Free.ALB Jvm.Free.JM Jvm.Free
open Jvm.Lib.Cold (StaticIs)
def Ch (a : Addr) (A : Cell) (U : State) : Prop := Arr .char a A U ∧ Typed .char A
theorem Ch.mv {a : Addr} {A : Cell} {U U' : State} (h : Ch a A U) (hal : U.vm.Alike U'.vm) (hh : U'.heap = U.heap) : Ch a A U' := ⟨h.1.mv hal hh, h.2⟩
theorem Ch.keep {a : Addr} {A : Cell} {U U' : State} (h : Ch a A U) (hal : U.vm.Alike U'.vm) (hk : U'.heap[a]? = some A) : Ch a A U' := ⟨h.1.keep hal hk, h.2⟩
def cv (A : Cell) (i : Nat) : Int32 := match A.slots[i]? with | some (.int x) => x | _ => 0
theorem Ch.get {a : Addr} {A : Cell} {U : State} (h : Ch a A U) {i : Nat} (hi : i < A.slots.size) : A.slots[i]? = some (.int (cv A i)) := by
  have e := Array.getElem?_eq_getElem hi
  have f := h.2 i _ e
  unfold cv; rw [e]
  generalize A.slots[i] = v at f
  cases v <;> simp [fits] at f ⊢
def lo8 (x : Int32) : Int32 := x.toInt8.toInt32
theorem fits_lo8 (y : Int32) : fits .byte (.int (lo8 y)) = true := by
  have h1 := y.toInt8.le_toInt
  have h2 := y.toInt8.toInt_lt
  simp only [lo8, fits, Bool.and_eq_true, decide_eq_true_eq, Int32.le_iff_toInt_le, Int8.toInt_toInt32, show (-128 : Int32).toInt = -128 from by decide, show (127 : Int32).toInt = 127 from by decide]
  omega
def Laid (A A' : Cell) (lo hi : Nat) (f : Nat → Value) : Prop := A'.cls = A.cls ∧ A'.vm = A.vm ∧ A'.slots.size = A.slots.size ∧ ∀ i, A'.slots[i]? = if lo ≤ i ∧ i < hi then some (f i) else A.slots[i]?
theorem Laid.zero (A : Cell) (lo : Nat) (f : Nat → Value) : Laid A A lo (lo + 0) f := ⟨rfl, rfl, rfl, fun i => by rw [if_neg (by omega)]⟩
theorem Laid.step {A Ak : Cell} {lo k : Nat} {f : Nat → Value} {v : Value} (h : Laid A Ak lo k f) (hlo : lo ≤ k) (hk : k < Ak.slots.size) (hv : v = f k) : Laid A (Ak.setSlot k v) lo (k + 1) f := by
  refine ⟨h.1, h.2.1, by simpa [Cell.setSlot] using h.2.2.1, fun i => ?_⟩
  by_cases e : k = i
  · subst e; rw [Cell.slots_setSlot_self v hk, if_pos (by omega), hv]
  · rw [Cell.slots_setSlot_ne v e, h.2.2.2 i]
    by_cases q : lo ≤ i ∧ i < k
    · rw [if_pos q, if_pos (by omega)]
    · rw [if_neg q, if_neg (by omega)]
def U16 : String := "java/lang/StringUTF16"
namespace Cmp5
def yN : MethodName := ⟨"java/lang/StringUTF16", "compress", "([CI[BII)I"⟩
abbrev yB : ByteArray := jdk_52_method_21_code
theorem d0 : decode yB 0 = .ok (.iconst 0, 1) := by decide +kernel
theorem d1 : decode yB 1 = .ok (.istore 5, 2) := by decide +kernel
theorem d3 : decode yB 3 = .ok (.iload 5, 2) := by decide +kernel
theorem d5 : decode yB 5 = .ok (.iload 4, 2) := by decide +kernel
theorem d7 : decode yB 7 = .ok (.if_icmp (.ge) 37, 3) := by decide +kernel
theorem d10 : decode yB 10 = .ok (.aload_n 0, 1) := by decide +kernel
theorem d11 : decode yB 11 = .ok (.iload_n 1, 1) := by decide +kernel
theorem d12 : decode yB 12 = .ok (.caload, 1) := by decide +kernel
theorem d13 : decode yB 13 = .ok (.istore 6, 2) := by decide +kernel
theorem d15 : decode yB 15 = .ok (.iload 6, 2) := by decide +kernel
theorem d17 : decode yB 17 = .ok (.sipush 255, 3) := by decide +kernel
theorem d20 : decode yB 20 = .ok (.if_icmp (.le) 6, 3) := by decide +kernel
theorem d26 : decode yB 26 = .ok (.aload_n 2, 1) := by decide +kernel
theorem d27 : decode yB 27 = .ok (.iload_n 3, 1) := by decide +kernel
theorem d28 : decode yB 28 = .ok (.iload 6, 2) := by decide +kernel
theorem d30 : decode yB 30 = .ok (.i2b, 1) := by decide +kernel
theorem d31 : decode yB 31 = .ok (.bastore, 1) := by decide +kernel
theorem d32 : decode yB 32 = .ok (.iinc 1 1, 3) := by decide +kernel
theorem d35 : decode yB 35 = .ok (.iinc 3 1, 3) := by decide +kernel
theorem d38 : decode yB 38 = .ok (.iinc 5 1, 3) := by decide +kernel
theorem d41 : decode yB 41 = .ok (.goto (-38), 3) := by decide +kernel
theorem d44 : decode yB 44 = .ok (.iload 4, 2) := by decide +kernel
theorem d46 : decode yB 46 = .ok (.ireturn, 1) := by decide +kernel
def site : List Cond := []
def tab : Cond := tabOf yN yB 7 (some .int) site
def P (b : Addr) (A : Cell) (d : Addr) (B : Cell) (o q len : Nat) (args : Array Value) (s : State) : Prop := args = #[.ref b, .int (Int32.ofNat o), .ref d, .int (Int32.ofNat q), .int (Int32.ofNat len)] ∧ Ch b A s ∧ Arr .byte d B s ∧ b ≠ d ∧ o + len ≤ A.slots.size ∧ q + len ≤ B.slots.size ∧ ∀ i, i < len → ¬ 255 < cv A (o + i)
def E (b : Addr) (A : Cell) (d : Addr) (B : Cell) (o q len : Nat) (r : Option Value) (s u : State) : Prop := r = some (.int (Int32.ofNat len)) ∧ ∃ B', Put d B' s u ∧ Laid B B' q (q + len) (fun j => Value.int (lo8 (cv A (o + (j - q)))))
theorem law (l : Launch) (b : Addr) (A : Cell) (d : Addr) (B : Cell) (o q len : Nat) : Law l yN 5 5 0 0 yB 7 (some .int) site (P b A d B o q len) (E b A d B o q len) (copyLocs d q len) 0 0 := by
  refine Law.of_walk (plainFor_of_name (by decide +kernel)) (by decide +kernel) (by decide +kernel) (by decide) (fun _ _ h => by rw [h.1]; rfl) (fun _ U U' hal hh h => ⟨h.1, h.2.1.mv hal hh, h.2.2.1.mv hal hh, h.2.2.2⟩) (fun r U U' V V' h1 hal h2 h => ⟨h.1, h.2.elim fun B' q => ⟨B', q.1.mv h1 h2, q.2⟩⟩) ?_
  intro p e s m args below meth c s₁ X0 hexec hbytes hml hret hlk hnm hown hh0 W hP
  obtain ⟨rfl, hA, hB, hne, l1, l2, hp⟩ := hP
  have c1 : Steps p.tables e below (s₁.setTop (entryFrame m #[.ref b, .int (Int32.ofNat o), .ref d, .int (Int32.ofNat q), .int (Int32.ofNat len)] 7)) (s₁.setTop (mkF m 0 #[.val (.ref b), .val (.int (Int32.ofNat o)), .val (.ref d), .val (.int (Int32.ofNat q)), .val (.int (Int32.ofNat len)), .unset, .unset] [])) := entry rfl
  have hA0 := hA.1.mv X0.warmed.alike hh0
  have hB0 := hB.mv X0.warmed.alike hh0
  have a31 := hA.1.2.2.2
  have c2 : Steps p.tables e below (s₁.setTop (entryFrame m #[.ref b, .int (Int32.ofNat o), .ref d, .int (Int32.ofNat q), .int (Int32.ofNat len)] 7)) (s₁.setTop (mkF m 3 #[.val (.ref b), .val (.int (Int32.ofNat o)), .val (.ref d), .val (.int (Int32.ofNat q)), .val (.int (Int32.ofNat len)), .val (.int 0), .unset] [])) := c1.trans (by
    refine iconstV X0.here hexec rfl 0 (hb hbytes d0) (by decide) ?_
    refine XS.istore X0.here hexec rfl (hb hbytes d1) rfl rfl ?_
    exact Steps.refl _)
  have loop : ∀ (r i : Nat), i + r = len → ∀ (z : Slot), (z = .unset ∨ ∃ w, z = .val w ∧ w.category = 1) → ∀ (Tl : State) (Bk : Cell), Stand p l e { frames := 0, locals := 0, cells := 0, slots := 0 } s m #[.ref b, .int (Int32.ofNat o), .ref d, .int (Int32.ofNat q), .int (Int32.ofNat len)] below meth c Tl ([] ++ copyLocs d q i) 0 0 → Put d Bk s₁ Tl → Laid B Bk q (q + i) (fun j => Value.int (lo8 (cv A (o + (j - q))))) →
      Steps p.tables e below (s₁.setTop (entryFrame m #[.ref b, .int (Int32.ofNat o), .ref d, .int (Int32.ofNat q), .int (Int32.ofNat len)] 7)) (Tl.setTop (mkF m 3 #[.val (.ref b), .val (.int (Int32.ofNat (o + i))), .val (.ref d), .val (.int (Int32.ofNat (q + i))), .val (.int (Int32.ofNat len)), .val (.int (Int32.ofNat i)), z] [])) → ∃ (T' : State) (B' : Cell) (z' : Slot), Stand p l e { frames := 0, locals := 0, cells := 0, slots := 0 } s m #[.ref b, .int (Int32.ofNat o), .ref d, .int (Int32.ofNat q), .int (Int32.ofNat len)] below meth c T' ([] ++ copyLocs d q len) 0 0 ∧ Put d B' s₁ T' ∧ Laid B B' q (q + len) (fun j => Value.int (lo8 (cv A (o + (j - q))))) ∧
      Steps p.tables e below (s₁.setTop (entryFrame m #[.ref b, .int (Int32.ofNat o), .ref d, .int (Int32.ofNat q), .int (Int32.ofNat len)] 7)) (T'.setTop (mkF m 3 #[.val (.ref b), .val (.int (Int32.ofNat (o + len))), .val (.ref d), .val (.int (Int32.ofNat (q + len))), .val (.int (Int32.ofNat len)), .val (.int (Int32.ofNat len)), z'] [])) := by
    intro r
    induction r with
    | zero =>
      intro i hi z hz Tl Bk Xl pl fl cl
      have hil : i = len := by omega
      rw [hil] at Xl fl cl
      exact ⟨Tl, Bk, z, Xl, pl, fl, cl⟩
    | succ r ih =>
      intro i hi z hz Tl Bk Xl pl fl cl
      have all := X0.warmed.alike.symm.trans Xl.warmed.alike
      have hAl := hA0.keep all (pl.other hne hA0.1)
      have hBk := hB0.like all pl.1 fl.1 fl.2.1 fl.2.2.1
      have hlt : q + i < Bk.slots.size := by rw [fl.2.2.1]; omega
      have c3 : Steps p.tables e below (s₁.setTop (entryFrame m #[.ref b, .int (Int32.ofNat o), .ref d, .int (Int32.ofNat q), .int (Int32.ofNat len)] 7)) (Tl.setTop (mkF m 12 #[.val (.ref b), .val (.int (Int32.ofNat (o + i))), .val (.ref d), .val (.int (Int32.ofNat (q + i))), .val (.int (Int32.ofNat len)), .val (.int (Int32.ofNat i)), z] [.int (Int32.ofNat (o + i)), .ref b])) := cl.trans (by
        refine XS.iload Xl.here hexec rfl (hb hbytes d3) rfl ?_
        refine XS.iload Xl.here hexec rfl (hb hbytes d5) rfl ?_
        refine XS.icmpNo Xl.here hexec rfl (hb hbytes d7) rfl (ii_ge_f (lt32 (by omega) (by omega))) ?_
        refine XS.aloadN Xl.here hexec rfl (hb hbytes d10) rfl rfl ?_
        refine XS.iloadN Xl.here hexec rfl (hb hbytes d11) rfl ?_
        exact Steps.refl _)
      have c4 : Steps p.tables e below (s₁.setTop (entryFrame m #[.ref b, .int (Int32.ofNat o), .ref d, .int (Int32.ofNat q), .int (Int32.ofNat len)] 7)) (Tl.setTop (mkF m 13 #[.val (.ref b), .val (.int (Int32.ofNat (o + i))), .val (.ref d), .val (.int (Int32.ofNat (q + i))), .val (.int (Int32.ofNat len)), .val (.int (Int32.ofNat i)), z] [.int (cv A (o + i))])) := c3.trans (by
        refine Xl.aget hexec hAl rfl (hA.get (i := o + i) (by omega)) rfl rfl (hb hbytes d12) ?_
        exact Steps.refl _)
      have c5 : Steps p.tables e below (s₁.setTop (entryFrame m #[.ref b, .int (Int32.ofNat o), .ref d, .int (Int32.ofNat q), .int (Int32.ofNat len)] 7)) (Tl.setTop (mkF m 15 #[.val (.ref b), .val (.int (Int32.ofNat (o + i))), .val (.ref d), .val (.int (Int32.ofNat (q + i))), .val (.int (Int32.ofNat len)), .val (.int (Int32.ofNat i)), .val (.int (cv A (o + i)))] [])) := c4.trans (by
        refine XS.istoreS Xl.here hexec rfl (hb hbytes d13) rfl rfl hz ?_
        exact Steps.refl _)
      have c6 : Steps p.tables e below (s₁.setTop (entryFrame m #[.ref b, .int (Int32.ofNat o), .ref d, .int (Int32.ofNat q), .int (Int32.ofNat len)] 7)) (Tl.setTop (mkF m 31 #[.val (.ref b), .val (.int (Int32.ofNat (o + i))), .val (.ref d), .val (.int (Int32.ofNat (q + i))), .val (.int (Int32.ofNat len)), .val (.int (Int32.ofNat i)), .val (.int (cv A (o + i)))] [.int (lo8 (cv A (o + i))), .int (Int32.ofNat (q + i)), .ref d])) := c5.trans (by
        refine XS.iload Xl.here hexec rfl (hb hbytes d15) rfl ?_
        refine sipushV Xl.here hexec rfl 255 (hb hbytes d17) (by decide) ?_
        refine XS.icmpYes Xl.here hexec rfl (pc0 := 20) rfl (hb hbytes d20) rfl (ii_le_t (hp i (by omega))) (by decide) rfl ?_
        refine XS.aloadN Xl.here hexec rfl (hb hbytes d26) rfl rfl ?_
        refine XS.iloadN Xl.here hexec rfl (hb hbytes d27) rfl ?_
        refine XS.iload Xl.here hexec rfl (hb hbytes d28) rfl ?_
        refine i2b Xl.here hexec rfl (hb hbytes d30) rfl ?_
        exact Steps.refl _)
      obtain ⟨T7, X7, p7, st7⟩ := Xl.aput hexec hBk rfl hlt rfl (fits_lo8 (cv A (o + i))) (g := (mkF m 31 #[.val (.ref b), .val (.int (Int32.ofNat (o + i))), .val (.ref d), .val (.int (Int32.ofNat (q + i))), .val (.int (Int32.ofNat len)), .val (.int (Int32.ofNat i)), .val (.int (cv A (o + i)))] [.int (lo8 (cv A (o + i))), .int (Int32.ofNat (q + i)), .ref d])) rfl (rest := []) rfl (hb hbytes d31)
      have c8 : Steps p.tables e below (s₁.setTop (entryFrame m #[.ref b, .int (Int32.ofNat o), .ref d, .int (Int32.ofNat q), .int (Int32.ofNat len)] 7)) (T7.setTop (mkF m 32 #[.val (.ref b), .val (.int (Int32.ofNat (o + i))), .val (.ref d), .val (.int (Int32.ofNat (q + i))), .val (.int (Int32.ofNat len)), .val (.int (Int32.ofNat i)), .val (.int (cv A (o + i)))] [])) := c6.trans (st7 _ (Steps.refl _))
      have c9 : Steps p.tables e below (s₁.setTop (entryFrame m #[.ref b, .int (Int32.ofNat o), .ref d, .int (Int32.ofNat q), .int (Int32.ofNat len)] 7)) (T7.setTop (mkF m 3 #[.val (.ref b), .val (.int (Int32.ofNat (o + i) + 1)), .val (.ref d), .val (.int (Int32.ofNat (q + i) + 1)), .val (.int (Int32.ofNat len)), .val (.int (Int32.ofNat i + 1)), .val (.int (cv A (o + i)))] [])) := c8.trans (by
        refine iincV X7.here hexec rfl 1 (hb hbytes d32) (by decide) rfl rfl ?_
        refine iincV X7.here hexec rfl 1 (hb hbytes d35) (by decide) rfl rfl ?_
        refine iincV X7.here hexec rfl 1 (hb hbytes d38) (by decide) rfl rfl ?_
        refine XS.goto X7.here hexec rfl (pc0 := 41) rfl (hb hbytes d41) (by decide) rfl ?_
        exact Steps.refl _)
      have c10 : Steps p.tables e below (s₁.setTop (entryFrame m #[.ref b, .int (Int32.ofNat o), .ref d, .int (Int32.ofNat q), .int (Int32.ofNat len)] 7)) (T7.setTop (mkF m 3 #[.val (.ref b), .val (.int (Int32.ofNat (o + (i + 1)))), .val (.ref d), .val (.int (Int32.ofNat (q + (i + 1)))), .val (.int (Int32.ofNat len)), .val (.int (Int32.ofNat (i + 1))), .val (.int (cv A (o + i)))] [])) := by
        have := c9
        rw [succ32, succ32, succ32] at this
        exact this
      exact ih (i + 1) (by omega) _ (Or.inr ⟨_, rfl, rfl⟩) T7 _ (by rw [copyLocs_step, ← List.append_assoc]; exact X7) (pl.trans p7) (fl.step (by omega) hlt (by simp)) c10
  obtain ⟨T9, B9, z9, X9, p9, f9, g9⟩ := loop len 0 (by omega) .unset (Or.inl rfl) s₁ B (by simpa [copyLocs] using X0) ⟨hB0.1, fun _ _ => rfl, rfl⟩ (Laid.zero _ _ _) c2
  have c11 : Steps p.tables e below (s₁.setTop (entryFrame m #[.ref b, .int (Int32.ofNat o), .ref d, .int (Int32.ofNat q), .int (Int32.ofNat len)] 7)) (T9.setTop (mkF m 46 #[.val (.ref b), .val (.int (Int32.ofNat (o + len))), .val (.ref d), .val (.int (Int32.ofNat (q + len))), .val (.int (Int32.ofNat len)), .val (.int (Int32.ofNat len)), z9] [.int (Int32.ofNat len)])) := g9.trans (by
    refine XS.iload X9.here hexec rfl (hb hbytes d3) rfl ?_
    refine XS.iload X9.here hexec rfl (hb hbytes d5) rfl ?_
    refine XS.icmpYes X9.here hexec rfl (pc0 := 7) rfl (hb hbytes d7) rfl (ii_ge_t (nlt32 (by omega) (Nat.le_refl _))) (by decide) rfl ?_
    refine XS.iload X9.here hexec rfl (hb hbytes d44) rfl ?_
    exact Steps.refl _)
  exact ⟨T9, some (.int (Int32.ofNat len)), _, _, _, X9, by simp, rfl, rfl, (fun h => by cases h), ⟨rfl, B9, p9.from hh0, f9⟩, fun fs hl => c11.trans (X9.ireturnOut hexec hret rfl (Or.inl rfl) (hb hbytes d46) hl)⟩
end Cmp5
namespace Cmp3
def yN : MethodName := ⟨"java/lang/StringUTF16", "compress", "([CII)[B"⟩
abbrev yB : ByteArray := jdk_52_method_16_code
theorem d0 : decode yB 0 = .ok (.iload_n 2, 1) := by decide +kernel
theorem d1 : decode yB 1 = .ok (.newarray .byte, 2) := by decide +kernel
theorem d3 : decode yB 3 = .ok (.astore_n 3, 1) := by decide +kernel
theorem d4 : decode yB 4 = .ok (.aload_n 0, 1) := by decide +kernel
theorem d5 : decode yB 5 = .ok (.iload_n 1, 1) := by decide +kernel
theorem d6 : decode yB 6 = .ok (.aload_n 3, 1) := by decide +kernel
theorem d7 : decode yB 7 = .ok (.iconst 0, 1) := by decide +kernel
theorem d8 : decode yB 8 = .ok (.iload_n 2, 1) := by decide +kernel
theorem d9 : decode yB 9 = .ok (.invokestatic 115, 3) := by decide +kernel
theorem d12 : decode yB 12 = .ok (.istore 4, 2) := by decide +kernel
theorem d14 : decode yB 14 = .ok (.iload 4, 2) := by decide +kernel
theorem d16 : decode yB 16 = .ok (.iload_n 2, 1) := by decide +kernel
theorem d17 : decode yB 17 = .ok (.if_icmp (.eq) 40, 3) := by decide +kernel
theorem d57 : decode yB 57 = .ok (.aload_n 3, 1) := by decide +kernel
theorem d58 : decode yB 58 = .ok (.areturn, 1) := by decide +kernel
def site : List Cond := [.arrayClass .byte, Cmp5.tab] ++ staticW U16 115 Cmp5.yN
def tab : Cond := tabOf yN yB 6 (some (.array .byte)) site
def P (b : Addr) (A : Cell) (o len : Nat) (args : Array Value) (s : State) : Prop := args = #[.ref b, .int (Int32.ofNat o), .int (Int32.ofNat len)] ∧ Ch b A s ∧ o + len ≤ A.slots.size ∧ len ≤ 536870912 ∧ ∀ i, i < len → ¬ 255 < cv A (o + i)
def E (b : Addr) (A : Cell) (o len : Nat) (r : Option Value) (s u : State) : Prop := NewArr .byte "[B" len (fun j => .int (lo8 (cv A (o + j)))) r s u ∧ u.heap.size = s.heap.size + 1
theorem law (l : Launch) (b : Addr) (A : Cell) (o len : Nat) : Law l yN 3 3 1 18 yB 6 (some (.array .byte)) site (P b A o len) (E b A o len) [] 1 len := by
  refine Law.of_walk (plainFor_of_name (by decide +kernel)) (by decide +kernel) (by decide +kernel) (by decide) (fun _ _ h => by rw [h.1]; rfl) (fun _ U U' hal hh h => ⟨h.1, h.2.1.mv hal hh, h.2.2⟩) (fun r U U' V V' h1 hal h2 h => ⟨NewArr.mv r U U' V V' h1 hal h2 h.1, by rw [h1, h2]; exact h.2⟩) ?_
  intro p e s m args below meth c s₁ X0 hexec hbytes hml hret hlk hnm hown hh0 W hP
  obtain ⟨rfl, hA, l1, l2, hp⟩ := hP
  have a31 := hA.1.2.2.2
  have c1 : Steps p.tables e below (s₁.setTop (entryFrame m #[.ref b, .int (Int32.ofNat o), .int (Int32.ofNat len)] 6)) (s₁.setTop (mkF m 0 #[.val (.ref b), .val (.int (Int32.ofNat o)), .val (.int (Int32.ofNat len)), .unset, .unset, .unset] [])) := entry rfl
  have c2 : Steps p.tables e below (s₁.setTop (entryFrame m #[.ref b, .int (Int32.ofNat o), .int (Int32.ofNat len)] 6)) (s₁.setTop (mkF m 1 #[.val (.ref b), .val (.int (Int32.ofNat o)), .val (.int (Int32.ofNat len)), .unset, .unset, .unset] [.int (Int32.ofNat len)])) := c1.trans (by
    refine XS.iloadN X0.here hexec rfl (hb hbytes d0) rfl ?_
    exact Steps.refl _)
  obtain ⟨T3, B3, X3, ba3, bs3, bv3, bh3, bf3, st3⟩ := X0.anew hexec (atype := .byte) (wk W (.arrayClass .byte)) rfl (by show len * 1 ≤ _; omega) (by omega) (g := (mkF m 1 #[.val (.ref b), .val (.int (Int32.ofNat o)), .val (.int (Int32.ofNat len)), .unset, .unset, .unset] [.int (Int32.ofNat len)])) rfl (hb hbytes d1) (rest := []) rfl (Nat.le_refl _) (by show 0 + len ≤ len; omega)
  rw [hh0] at ba3 st3
  have kp3 : XT.Kept s T3 := (XT.Kept.of_eq hh0).push bh3
  have hA3 := hA.keep X3.warmed.alike (kp3 _ _ hA.1.1)
  have hne : b ≠ s.heap.size := hA.1.ne
  have c4 : Steps p.tables e below (s₁.setTop (entryFrame m #[.ref b, .int (Int32.ofNat o), .int (Int32.ofNat len)] 6)) (T3.setTop (mkF m 3 #[.val (.ref b), .val (.int (Int32.ofNat o)), .val (.int (Int32.ofNat len)), .unset, .unset, .unset] [.ref s.heap.size])) := c2.trans (st3 _ (Steps.refl _))
  have c5 : Steps p.tables e below (s₁.setTop (entryFrame m #[.ref b, .int (Int32.ofNat o), .int (Int32.ofNat len)] 6)) (T3.setTop (mkF m 9 #[.val (.ref b), .val (.int (Int32.ofNat o)), .val (.int (Int32.ofNat len)), .val (.ref s.heap.size), .unset, .unset] [.int (Int32.ofNat len), .int 0, .ref s.heap.size, .int (Int32.ofNat o), .ref b])) := c4.trans (by
    refine XS.astoreN X3.here hexec rfl (hb hbytes d3) rfl rfl rfl ?_
    refine XS.aloadN X3.here hexec rfl (hb hbytes d4) rfl rfl ?_
    refine XS.iloadN X3.here hexec rfl (hb hbytes d5) rfl ?_
    refine XS.aloadN X3.here hexec rfl (hb hbytes d6) rfl rfl ?_
    refine iconstV X3.here hexec rfl 0 (hb hbytes d7) (by decide) ?_
    refine XS.iloadN X3.here hexec rfl (hb hbytes d8) rfl ?_
    exact Steps.refl _)
  obtain ⟨v6, T6, X6, E6, g6⟩ := X3.callS hexec (Cmp5.law l b A s.heap.size B3 o 0 len) hown (wks W (staticW U16 115 Cmp5.yN)) (wk W Cmp5.tab) (W := 0) (Nat.le_of_ble_eq_true rfl) (Nat.le_of_ble_eq_true rfl) (Nat.le_refl _) (by show 0 + len + 0 ≤ len; omega) (g := (mkF m 9 #[.val (.ref b), .val (.int (Int32.ofNat o)), .val (.int (Int32.ofNat len)), .val (.ref s.heap.size), .unset, .unset] [.int (Int32.ofNat len), .int (Int32.ofNat 0), .ref s.heap.size, .int (Int32.ofNat o), .ref b])) rfl (by rw [hml]; rfl) c5 (argsL := [.ref b, .int (Int32.ofNat o), .ref s.heap.size, .int (Int32.ofNat 0), .int (Int32.ofNat len)]) (rest := []) rfl rfl (by show 2 * 0 + 0 ≤ _; decide) (hb hbytes d9) (⟨rfl, hA3, ba3, hne, l1, by rw [bs3]; simp, hp⟩)
  obtain ⟨rfl, B6, p6, f6⟩ := E6
  have c7 : Steps p.tables e below (s₁.setTop (entryFrame m #[.ref b, .int (Int32.ofNat o), .int (Int32.ofNat len)] 6)) (T6.setTop (mkF m 12 #[.val (.ref b), .val (.int (Int32.ofNat o)), .val (.int (Int32.ofNat len)), .val (.ref s.heap.size), .unset, .unset] [.int (Int32.ofNat len)])) := g6
  have c8 : Steps p.tables e below (s₁.setTop (entryFrame m #[.ref b, .int (Int32.ofNat o), .int (Int32.ofNat len)] 6)) (T6.setTop (mkF m 58 #[.val (.ref b), .val (.int (Int32.ofNat o)), .val (.int (Int32.ofNat len)), .val (.ref s.heap.size), .val (.int (Int32.ofNat len)), .unset] [.ref s.heap.size])) := c7.trans (by
    refine XS.istore X6.here hexec rfl (hb hbytes d12) rfl rfl ?_
    refine XS.iload X6.here hexec rfl (hb hbytes d14) rfl ?_
    refine XS.iloadN X6.here hexec rfl (hb hbytes d16) rfl ?_
    refine XS.icmpYes X6.here hexec rfl (pc0 := 17) rfl (hb hbytes d17) rfl (ii_eq_t rfl) (by decide) rfl ?_
    refine XS.aloadN X6.here hexec rfl (hb hbytes d57) rfl rfl ?_
    exact Steps.refl _)
  have X8 := X6.wide (L' := []) (cells' := 1) (slots' := len) (fun x hx hlt => by
    simp only [List.nil_append, copyLocs, List.mem_map, List.mem_range] at hx
    obtain ⟨i, -, rfl⟩ := hx
    exact absurd hlt (Nat.lt_irrefl _)) (Nat.le_refl _) (by omega)
  exact ⟨T6, some (.ref s.heap.size), _, _, _, X8, rfl, rfl, rfl, (fun h => by cases h), ⟨⟨rfl, B6, ba3.like (X3.warmed.alike.symm.trans X6.warmed.alike) p6.1 f6.1 f6.2.1 f6.2.2.1, f6.2.1.trans bv3, by rw [X6.warmed.alike.findClass, f6.1]; exact bf3, by rw [f6.2.2.1, bs3]; simp, fun j hj => by rw [f6.2.2.2 j, if_pos (by omega)]; rfl, kp3.put p6 (Nat.le_refl _)⟩, by rw [p6.2.2, bh3, hh0]; simp⟩, fun fs hl => c8.trans (X8.areturnOut hexec rfl hret rfl (hb hbytes d58) hl)⟩
end Cmp3
namespace CodL
def yN : MethodName := ⟨"java/lang/StringUTF16", "coderFromArrayLen", "([BI)B"⟩
abbrev yB : ByteArray := jdk_52_method_15_code
theorem d0 : decode yB 0 = .ok (.iload_n 1, 1) := by decide +kernel
theorem d1 : decode yB 1 = .ok (.aload_n 0, 1) := by decide +kernel
theorem d2 : decode yB 2 = .ok (.arraylength, 1) := by decide +kernel
theorem d3 : decode yB 3 = .ok (.isub, 1) := by decide +kernel
theorem d4 : decode yB 4 = .ok (.bipush 31, 2) := by decide +kernel
theorem d6 : decode yB 6 = .ok (.iushr, 1) := by decide +kernel
theorem d7 : decode yB 7 = .ok (.i2b, 1) := by decide +kernel
theorem d8 : decode yB 8 = .ok (.ireturn, 1) := by decide +kernel
def site : List Cond := []
def tab : Cond := tabOf yN yB 2 (some .byte) site
def P (d : Addr) (B : Cell) (args : Array Value) (s : State) : Prop := args = #[.ref d, .int (Int32.ofNat B.slots.size)] ∧ Arr .byte d B s
def E (r : Option Value) (s u : State) : Prop := XT.PureE (some (.int 0)) r s u
theorem law (l : Launch) (d : Addr) (B : Cell) : Law l yN 2 2 0 0 yB 2 (some .byte) site (P d B) E [] 0 0 := by
  refine Law.of_walk (plainFor_of_name (by decide +kernel)) (by decide +kernel) (by decide +kernel) (by decide) (fun _ _ h => by rw [h.1]; rfl) (fun _ U U' hal hh h => ⟨h.1, h.2.mv hal hh⟩) (fun r U U' V V' h1 hal h2 h => XT.PureE.mv r U U' V V' h1 hal h2 h) ?_
  intro p e s m args below meth c s₁ X0 hexec hbytes hml hret hlk hnm hown hh0 W hP
  obtain ⟨rfl, hB⟩ := hP
  have hB0 := hB.mv X0.warmed.alike hh0
  have c1 : Steps p.tables e below (s₁.setTop (entryFrame m #[.ref d, .int (Int32.ofNat B.slots.size)] 2)) (s₁.setTop (mkF m 0 #[.val (.ref d), .val (.int (Int32.ofNat B.slots.size))] [])) := entry rfl
  have c2 : Steps p.tables e below (s₁.setTop (entryFrame m #[.ref d, .int (Int32.ofNat B.slots.size)] 2)) (s₁.setTop (mkF m 2 #[.val (.ref d), .val (.int (Int32.ofNat B.slots.size))] [.ref d, .int (Int32.ofNat B.slots.size)])) := c1.trans (by
    refine XS.iloadN X0.here hexec rfl (hb hbytes d0) rfl ?_
    refine XS.aloadN X0.here hexec rfl (hb hbytes d1) rfl rfl ?_
    exact Steps.refl _)
  have c3 : Steps p.tables e below (s₁.setTop (entryFrame m #[.ref d, .int (Int32.ofNat B.slots.size)] 2)) (s₁.setTop (mkF m 8 #[.val (.ref d), .val (.int (Int32.ofNat B.slots.size))] [.int (lo8 (ushr (Int32.ofNat B.slots.size - Int32.ofNat B.slots.size) 31))])) := c2.trans (by
    refine X0.alen hexec hB0 rfl rfl (hb hbytes d2) ?_
    refine XS.isub X0.here hexec rfl (hb hbytes d3) rfl ?_
    refine bipushV X0.here hexec rfl 31 (hb hbytes d4) (by decide) ?_
    refine iushr X0.here hexec rfl (hb hbytes d6) rfl ?_
    refine i2b X0.here hexec rfl (hb hbytes d7) rfl ?_
    exact Steps.refl _)
  have e0 : lo8 (ushr (Int32.ofNat B.slots.size - Int32.ofNat B.slots.size) 31) = 0 := by rw [Int32.sub_self]; decide
  rw [e0] at c3
  exact ⟨s₁, some (.int 0), _, _, _, X0, rfl, rfl, rfl, (fun h => by cases h), ⟨rfl, hh0⟩, fun fs hl => c3.trans (X0.ireturnOut hexec hret rfl (Or.inr (Or.inr (Or.inl rfl))) (hb hbytes d8) hl)⟩
end CodL
def Got (a : Addr) (D : Cell) (fV fC : Field) (A : Cell) (o len : Nat) (r : Option Value) (s u : State) : Prop := r = none ∧ ∃ D' V : Cell, Blank "java/lang/String" a D' u ∧ Same D D' [fV.slot, fC.slot] ∧ D'.slots[fV.slot]? = some (.ref s.heap.size) ∧ D'.slots[fC.slot]? = some (.int 0) ∧ Arr .byte s.heap.size V u ∧ V.vm = .none ∧ u.vm.findClass "[B" = some V.cls ∧ V.slots.size = len ∧ (∀ j, j < len → V.slots[j]? = some (.int (lo8 (cv A (o + j))))) ∧ (∀ (y : Addr) (c : Cell), y ≠ a → s.heap[y]? = some c → u.heap[y]? = some c) ∧ u.heap.size = s.heap.size + 1
theorem Got.mv {a : Addr} {D A : Cell} {fV fC : Field} {o len : Nat} : ∀ r (U U' V V' : State), U'.heap = U.heap → V.vm.Alike V'.vm → V'.heap = V.heap → Got a D fV fC A o len r U V → Got a D fV fC A o len r U' V' :=
  fun r U U' V V' h1 hal h2 ⟨e0, D', X, a1, a2, a3, a4, a5, a6, a7, a8, a9, a10, a11⟩ => ⟨e0, D', X, a1.mv hal h2, a2, by rw [h1]; exact a3, a4, by rw [h1]; exact a5.mv hal h2, a6, by rw [hal.findClass]; exact a7, a8, a9, by rw [h1, h2]; exact a10, by rw [h1, h2]; exact a11⟩
namespace New4
def yN : MethodName := ⟨"java/lang/String", "<init>", "([CIILjava/lang/Void;)V"⟩
abbrev yB : ByteArray := jdk_42_method_149_code
theorem d0 : decode yB 0 = .ok (.aload_n 0, 1) := by decide +kernel
theorem d1 : decode yB 1 = .ok (.invokespecial 1, 3) := by decide +kernel
theorem d4 : decode yB 4 = .ok (.iload_n 3, 1) := by decide +kernel
theorem d5 : decode yB 5 = .ok (.ifCond (.ne) 22, 3) := by decide +kernel
theorem d27 : decode yB 27 = .ok (.getstatic 38, 3) := by decide +kernel
theorem d30 : decode yB 30 = .ok (.ifCond (.eq) 28, 3) := by decide +kernel
theorem d33 : decode yB 33 = .ok (.aload_n 1, 1) := by decide +kernel
theorem d34 : decode yB 34 = .ok (.iload_n 2, 1) := by decide +kernel
theorem d35 : decode yB 35 = .ok (.iload_n 3, 1) := by decide +kernel
theorem d36 : decode yB 36 = .ok (.invokestatic 177, 3) := by decide +kernel
theorem d39 : decode yB 39 = .ok (.astore 5, 2) := by decide +kernel
theorem d41 : decode yB 41 = .ok (.aload_n 0, 1) := by decide +kernel
theorem d42 : decode yB 42 = .ok (.aload 5, 2) := by decide +kernel
theorem d44 : decode yB 44 = .ok (.iload_n 3, 1) := by decide +kernel
theorem d45 : decode yB 45 = .ok (.invokestatic 47, 3) := by decide +kernel
theorem d48 : decode yB 48 = .ok (.putfield 15, 3) := by decide +kernel
theorem d51 : decode yB 51 = .ok (.aload_n 0, 1) := by decide +kernel
theorem d52 : decode yB 52 = .ok (.aload 5, 2) := by decide +kernel
theorem d54 : decode yB 54 = .ok (.putfield 9, 3) := by decide +kernel
theorem d57 : decode yB 57 = .ok (.return_, 1) := by decide +kernel
def site : List Cond := [.fieldLink "java/lang/String" 38 "java/lang/String" "COMPACT_STRINGS" "Z", Cmp3.tab, CodL.tab, .laysFinal "java/lang/String" "java/lang/String" "value" "[B", .fieldLink "java/lang/String" 9 "java/lang/String" "value" "[B", .laysFinal "java/lang/String" "java/lang/String" "coder" "B", .fieldLink "java/lang/String" 15 "java/lang/String" "coder" "B"] ++ objW "java/lang/String" 1 ++ staticW "java/lang/String" 177 Cmp3.yN ++ staticW "java/lang/String" 47 CodL.yN
def tab : Cond := tabOf yN yB 6 none site
def P (a : Addr) (D : Cell) (fV fC : Field) (b : Addr) (A : Cell) (z : Int32) (o len : Nat) (args : Array Value) (s : State) : Prop := args = #[.ref a, .ref b, .int (Int32.ofNat o), .int (Int32.ofNat len), .null] ∧ Blank "java/lang/String" a D s ∧ Found "java/lang/String" "value" "[B" fV s ∧ Found "java/lang/String" "coder" "B" fC s ∧ Ch b A s ∧ StaticIs s "java/lang/String" "COMPACT_STRINGS" "Z" (.int z) ∧ ¬ z = 0 ∧ 0 < len ∧ o + len ≤ A.slots.size ∧ len ≤ 536870912 ∧ ∀ i, i < len → ¬ 255 < cv A (o + i)
def E (a : Addr) (D : Cell) (fV fC : Field) (A : Cell) (o len : Nat) (r : Option Value) (s u : State) : Prop := Got a D fV fC A o len r s u
theorem law (l : Launch) (a : Addr) (D : Cell) (fV fC : Field) (b : Addr) (A : Cell) (z : Int32) (o len : Nat) : Law l yN 5 4 2 35 yB 6 none site (P a D fV fC b A z o len) (E a D fV fC A o len) [⟨a, fC.slot⟩, ⟨a, fV.slot⟩] 1 len := by
  refine Law.of_walk (plainFor_of_name (by decide +kernel)) (by decide +kernel) (by decide +kernel) (by decide) (fun _ _ h => by rw [h.1]; rfl) (fun _ U U' hal hh h => ⟨h.1, h.2.1.mv hal hh, h.2.2.1.al hal, h.2.2.2.1.al hal, h.2.2.2.2.1.mv hal hh, h.2.2.2.2.2.1.there hal hh, h.2.2.2.2.2.2⟩) (fun r U U' V V' h1 hal h2 h => Got.mv r U U' V V' h1 hal h2 h) ?_
  intro p e s m args below meth c s₁ X0 hexec hbytes hml hret hlk hnm hown hh0 W hP
  obtain ⟨rfl, hB, f1, f2, hA, s1, hz, l0, l1, l2, hp⟩ := hP
  have a31 := hA.1.2.2.2
  have c1 : Steps p.tables e below (s₁.setTop (entryFrame m #[.ref a, .ref b, .int (Int32.ofNat o), .int (Int32.ofNat len), .null] 6)) (s₁.setTop (mkF m 0 #[.val (.ref a), .val (.ref b), .val (.int (Int32.ofNat o)), .val (.int (Int32.ofNat len)), .val .null, .unset] [])) := entry rfl
  have c2 : Steps p.tables e below (s₁.setTop (entryFrame m #[.ref a, .ref b, .int (Int32.ofNat o), .int (Int32.ofNat len), .null] 6)) (s₁.setTop (mkF m 1 #[.val (.ref a), .val (.ref b), .val (.int (Int32.ofNat o)), .val (.int (Int32.ofNat len)), .val .null, .unset] [.ref a])) := c1.trans (by
    refine XS.aloadN X0.here hexec rfl (hb hbytes d0) rfl rfl ?_
    exact Steps.refl _)
  obtain ⟨T3, X3, q3, st3⟩ := X0.oinit hexec hown (wks W (objW "java/lang/String" 1)) (g := (mkF m 1 #[.val (.ref a), .val (.ref b), .val (.int (Int32.ofNat o)), .val (.int (Int32.ofNat len)), .val .null, .unset] [.ref a])) rfl (by rw [hml]; rfl) (rest := []) rfl (hb hbytes d1) (W := 0) (by show 2 * 0 + 0 ≤ _; decide) (Nat.le_of_ble_eq_true rfl) (Nat.le_of_ble_eq_true rfl)
  have hh3 := q3.trans hh0
  have c4 : Steps p.tables e below (s₁.setTop (entryFrame m #[.ref a, .ref b, .int (Int32.ofNat o), .int (Int32.ofNat len), .null] 6)) (T3.setTop (mkF m 27 #[.val (.ref a), .val (.ref b), .val (.int (Int32.ofNat o)), .val (.int (Int32.ofNat len)), .val .null, .unset] [])) := (c2.trans (st3 _ (Steps.refl _))).trans (by
    refine XS.iloadN X3.here hexec rfl (hb hbytes d4) rfl ?_
    refine XS.ifYes X3.here hexec rfl (pc0 := 5) rfl (hb hbytes d5) rfl (i0_ne_t (nz32 (by omega) l0)) (by decide) rfl ?_
    exact Steps.refl _)
  obtain ⟨T5, X5, q5, st5⟩ := X3.sget hexec hown (wk W (.fieldLink "java/lang/String" 38 "java/lang/String" "COMPACT_STRINGS" "Z")) s1 (fun _ _ h => by rw [hh3]; exact h) (g := (mkF m 27 #[.val (.ref a), .val (.ref b), .val (.int (Int32.ofNat o)), .val (.int (Int32.ofNat len)), .val .null, .unset] [])) rfl (hb hbytes d27)
  have hh5 := q5.trans hh3
  have c6 : Steps p.tables e below (s₁.setTop (entryFrame m #[.ref a, .ref b, .int (Int32.ofNat o), .int (Int32.ofNat len), .null] 6)) (T5.setTop (mkF m 30 #[.val (.ref a), .val (.ref b), .val (.int (Int32.ofNat o)), .val (.int (Int32.ofNat len)), .val .null, .unset] [.int z])) := c4.trans (st5 _ (Steps.refl _))
  have c7 : Steps p.tables e below (s₁.setTop (entryFrame m #[.ref a, .ref b, .int (Int32.ofNat o), .int (Int32.ofNat len), .null] 6)) (T5.setTop (mkF m 36 #[.val (.ref a), .val (.ref b), .val (.int (Int32.ofNat o)), .val (.int (Int32.ofNat len)), .val .null, .unset] [.int (Int32.ofNat len), .int (Int32.ofNat o), .ref b])) := c6.trans (by
    refine XS.ifNo X5.here hexec rfl (hb hbytes d30) rfl (i0_eq_f hz) ?_
    refine XS.aloadN X5.here hexec rfl (hb hbytes d33) rfl rfl ?_
    refine XS.iloadN X5.here hexec rfl (hb hbytes d34) rfl ?_
    refine XS.iloadN X5.here hexec rfl (hb hbytes d35) rfl ?_
    exact Steps.refl _)
  obtain ⟨v8, T8, X8, E8, g8⟩ := X5.callS hexec (Cmp3.law l b A o len) hown (wks W (staticW "java/lang/String" 177 Cmp3.yN)) (wk W Cmp3.tab) (W := 0) (Nat.le_of_ble_eq_true rfl) (Nat.le_of_ble_eq_true rfl) (Nat.le_refl _) (by show 0 + len ≤ len; omega) (g := (mkF m 36 #[.val (.ref a), .val (.ref b), .val (.int (Int32.ofNat o)), .val (.int (Int32.ofNat len)), .val .null, .unset] [.int (Int32.ofNat len), .int (Int32.ofNat o), .ref b])) rfl (by rw [hml]; rfl) c7 (argsL := [.ref b, .int (Int32.ofNat o), .int (Int32.ofNat len)]) (rest := []) rfl rfl (by show 2 * 0 + 0 ≤ _; decide) (hb hbytes d36) (⟨rfl, hA.mv X5.warmed.alike hh5, l1, l2, hp⟩)
  obtain ⟨e8, z8⟩ := E8
  obtain ⟨rfl, N, n1, n2, n3, n4, n5, n6⟩ := NewArr.mv _ T5 s _ _ hh5.symm (Vm.Alike.refl _) rfl e8
  rw [hh5] at z8
  have hB1 := hB.keep X8.warmed.alike (n6 _ _ hB.1)
  have hne : s.heap.size ≠ a := (Nat.ne_of_lt (Array.getElem?_eq_some_iff.mp hB.1).1).symm
  have c9 : Steps p.tables e below (s₁.setTop (entryFrame m #[.ref a, .ref b, .int (Int32.ofNat o), .int (Int32.ofNat len), .null] 6)) (T8.setTop (mkF m 39 #[.val (.ref a), .val (.ref b), .val (.int (Int32.ofNat o)), .val (.int (Int32.ofNat len)), .val .null, .unset] [.ref s.heap.size])) := g8
  have c10 : Steps p.tables e below (s₁.setTop (entryFrame m #[.ref a, .ref b, .int (Int32.ofNat o), .int (Int32.ofNat len), .null] 6)) (T8.setTop (mkF m 45 #[.val (.ref a), .val (.ref b), .val (.int (Int32.ofNat o)), .val (.int (Int32.ofNat len)), .val .null, .val (.ref s.heap.size)] [.int (Int32.ofNat N.slots.size), .ref s.heap.size, .ref a])) := by
    have hc : Steps p.tables e below (s₁.setTop (entryFrame m #[.ref a, .ref b, .int (Int32.ofNat o), .int (Int32.ofNat len), .null] 6)) (T8.setTop (mkF m 45 #[.val (.ref a), .val (.ref b), .val (.int (Int32.ofNat o)), .val (.int (Int32.ofNat len)), .val .null, .val (.ref s.heap.size)] [.int (Int32.ofNat len), .ref s.heap.size, .ref a])) := c9.trans (by
      refine XS.astore X8.here hexec rfl (hb hbytes d39) rfl rfl rfl ?_
      refine XS.aloadN X8.here hexec rfl (hb hbytes d41) rfl rfl ?_
      refine XS.aload X8.here hexec rfl (hb hbytes d42) rfl rfl ?_
      refine XS.iloadN X8.here hexec rfl (hb hbytes d44) rfl ?_
      exact Steps.refl _)
    rw [n4]; exact hc
  obtain ⟨v11, T11, X11, E11, g11⟩ := X8.callS hexec (CodL.law l s.heap.size N) hown (wks W (staticW "java/lang/String" 47 CodL.yN)) (wk W CodL.tab) (W := 1) (Nat.le_of_ble_eq_true rfl) (Nat.le_of_ble_eq_true rfl) (Nat.le_refl _) (by show 0 + len + 0 ≤ len; omega) (g := (mkF m 45 #[.val (.ref a), .val (.ref b), .val (.int (Int32.ofNat o)), .val (.int (Int32.ofNat len)), .val .null, .val (.ref s.heap.size)] [.int (Int32.ofNat N.slots.size), .ref s.heap.size, .ref a])) rfl (by rw [hml]; rfl) c10 (argsL := [.ref s.heap.size, .int (Int32.ofNat N.slots.size)]) (rest := [.ref a]) rfl rfl (by show 2 * 0 + (1 + 0) ≤ _; decide) (hb hbytes d45) (⟨rfl, n1⟩)
  obtain ⟨rfl, q11⟩ := E11
  have hB11 := hB1.mv (X8.warmed.alike.symm.trans X11.warmed.alike) q11
  have c12 : Steps p.tables e below (s₁.setTop (entryFrame m #[.ref a, .ref b, .int (Int32.ofNat o), .int (Int32.ofNat len), .null] 6)) (T11.setTop (mkF m 48 #[.val (.ref a), .val (.ref b), .val (.int (Int32.ofNat o)), .val (.int (Int32.ofNat len)), .val .null, .val (.ref s.heap.size)] [.int 0, .ref a])) := g11
  obtain ⟨T13, X13, p13, bl13, sl13, st13⟩ := X11.finit hexec hown (wk W (.fieldLink "java/lang/String" 15 "java/lang/String" "coder" "B")) (Or.inr ⟨_, (wk W (.laysFinal "java/lang/String" "java/lang/String" "coder" "B"))⟩) (Or.inl ⟨rfl, hnm⟩) f2 (Or.inl rfl) hB11 (t := .byte) (by decide +kernel) rfl (g := (mkF m 48 #[.val (.ref a), .val (.ref b), .val (.int (Int32.ofNat o)), .val (.int (Int32.ofNat len)), .val .null, .val (.ref s.heap.size)] [.int 0, .ref a])) rfl (rest := []) rfl (hb hbytes d48)
  have c14 : Steps p.tables e below (s₁.setTop (entryFrame m #[.ref a, .ref b, .int (Int32.ofNat o), .int (Int32.ofNat len), .null] 6)) (T13.setTop (mkF m 54 #[.val (.ref a), .val (.ref b), .val (.int (Int32.ofNat o)), .val (.int (Int32.ofNat len)), .val .null, .val (.ref s.heap.size)] [.ref s.heap.size, .ref a])) := (c12.trans (st13 _ (Steps.refl _))).trans (by
    refine XS.aloadN X13.here hexec rfl (hb hbytes d51) rfl rfl ?_
    refine XS.aload X13.here hexec rfl (hb hbytes d52) rfl rfl ?_
    exact Steps.refl _)
  obtain ⟨T15, X15, p15, bl15, sl15, st15⟩ := X13.finit hexec hown (wk W (.fieldLink "java/lang/String" 9 "java/lang/String" "value" "[B")) (Or.inr ⟨_, (wk W (.laysFinal "java/lang/String" "java/lang/String" "value" "[B"))⟩) (Or.inl ⟨rfl, hnm⟩) f1 (Or.inl rfl) bl13 (t := (.array .byte)) (by decide +kernel) rfl (g := (mkF m 54 #[.val (.ref a), .val (.ref b), .val (.int (Int32.ofNat o)), .val (.int (Int32.ofNat len)), .val .null, .val (.ref s.heap.size)] [.ref s.heap.size, .ref a])) rfl (rest := []) rfl (hb hbytes d54)
  have c16 : Steps p.tables e below (s₁.setTop (entryFrame m #[.ref a, .ref b, .int (Int32.ofNat o), .int (Int32.ofNat len), .null] 6)) (T15.setTop (mkF m 57 #[.val (.ref a), .val (.ref b), .val (.int (Int32.ofNat o)), .val (.int (Int32.ofNat len)), .val .null, .val (.ref s.heap.size)] [])) := c14.trans (st15 _ (Steps.refl _))
  have ap := apart (Or.inr ⟨_, (wk W (.laysFinal "java/lang/String" "java/lang/String" "value" "[B"))⟩) (Or.inr ⟨_, (wk W (.laysFinal "java/lang/String" "java/lang/String" "coder" "B"))⟩) f1 f2 (t₁ := .array .byte) (t₂ := .byte) (by decide +kernel) (by decide +kernel) (by decide)
  have al := X8.warmed.alike.symm.trans X15.warmed.alike
  have n7 : T11.heap[s.heap.size]? = some N := by rw [q11]; exact n1.1
  exact ⟨T15, none, _, _, _, X15, by simp, rfl, by omega, (fun _ => rfl), ⟨rfl, _, N, bl15, ((Same.refl D _).set _ (by simp)).set _ (by simp), sl15, (Cell.slots_setSlot_ne _ ap).trans sl13, n1.keep al (p15.other hne (p13.other hne n7)), n2, by rw [al.findClass]; exact n3, n4, n5, fun y c h1 h2 => p15.other h1 (p13.other h1 (by rw [q11]; exact n6 y c h2)), by rw [p15.2.2, p13.2.2, q11]; exact z8⟩, fun fs hl => c16.trans (X15.returnOut hexec hret (hb hbytes d57) hl)⟩
end New4
namespace New1
def yN : MethodName := ⟨"java/lang/String", "<init>", "([C)V"⟩
abbrev yB : ByteArray := jdk_42_method_3_code
theorem d0 : decode yB 0 = .ok (.aload_n 0, 1) := by decide +kernel
theorem d1 : decode yB 1 = .ok (.aload_n 1, 1) := by decide +kernel
theorem d2 : decode yB 2 = .ok (.iconst 0, 1) := by decide +kernel
theorem d3 : decode yB 3 = .ok (.aload_n 1, 1) := by decide +kernel
theorem d4 : decode yB 4 = .ok (.arraylength, 1) := by decide +kernel
theorem d5 : decode yB 5 = .ok (.aconst_null, 1) := by decide +kernel
theorem d6 : decode yB 6 = .ok (.invokespecial 27, 3) := by decide +kernel
theorem d9 : decode yB 9 = .ok (.return_, 1) := by decide +kernel
def site : List Cond := [New4.tab] ++ initW "java/lang/String" 27 New4.yN
def tab : Cond := tabOf yN yB 2 none site
def P (a : Addr) (D : Cell) (fV fC : Field) (b : Addr) (A : Cell) (z : Int32) (args : Array Value) (s : State) : Prop := args = #[.ref a, .ref b] ∧ Blank "java/lang/String" a D s ∧ Found "java/lang/String" "value" "[B" fV s ∧ Found "java/lang/String" "coder" "B" fC s ∧ Ch b A s ∧ StaticIs s "java/lang/String" "COMPACT_STRINGS" "Z" (.int z) ∧ ¬ z = 0 ∧ 0 < A.slots.size ∧ A.slots.size ≤ 536870912 ∧ ∀ i, i < A.slots.size → ¬ 255 < cv A i
def E (a : Addr) (D : Cell) (fV fC : Field) (A : Cell) (r : Option Value) (s u : State) : Prop := Got a D fV fC A 0 A.slots.size r s u
theorem law (l : Launch) (a : Addr) (D : Cell) (fV fC : Field) (b : Addr) (A : Cell) (z : Int32) : Law l yN 2 1 3 52 yB 2 none site (P a D fV fC b A z) (E a D fV fC A) [⟨a, fC.slot⟩, ⟨a, fV.slot⟩] 1 A.slots.size := by
  refine Law.of_walk (plainFor_of_name (by decide +kernel)) (by decide +kernel) (by decide +kernel) (by decide) (fun _ _ h => by rw [h.1]; rfl) (fun _ U U' hal hh h => ⟨h.1, h.2.1.mv hal hh, h.2.2.1.al hal, h.2.2.2.1.al hal, h.2.2.2.2.1.mv hal hh, h.2.2.2.2.2.1.there hal hh, h.2.2.2.2.2.2⟩) (fun r U U' V V' h1 hal h2 h => Got.mv r U U' V V' h1 hal h2 h) ?_
  intro p e s m args below meth c s₁ X0 hexec hbytes hml hret hlk hnm hown hh0 W hP
  obtain ⟨rfl, hB, f1, f2, hA, s1, hz, l0, l2, hp⟩ := hP
  have c1 : Steps p.tables e below (s₁.setTop (entryFrame m #[.ref a, .ref b] 2)) (s₁.setTop (mkF m 0 #[.val (.ref a), .val (.ref b)] [])) := entry rfl
  have c2 : Steps p.tables e below (s₁.setTop (entryFrame m #[.ref a, .ref b] 2)) (s₁.setTop (mkF m 6 #[.val (.ref a), .val (.ref b)] [.null, .int (Int32.ofNat A.slots.size), .int 0, .ref b, .ref a])) := c1.trans (by
    refine XS.aloadN X0.here hexec rfl (hb hbytes d0) rfl rfl ?_
    refine XS.aloadN X0.here hexec rfl (hb hbytes d1) rfl rfl ?_
    refine iconstV X0.here hexec rfl 0 (hb hbytes d2) (by decide) ?_
    refine XS.aloadN X0.here hexec rfl (hb hbytes d3) rfl rfl ?_
    refine X0.alen hexec (hA.1.mv X0.warmed.alike hh0) rfl rfl (hb hbytes d4) ?_
    refine XS.aconstNull X0.here hexec rfl (hb hbytes d5) ?_
    exact Steps.refl _)
  obtain ⟨v3, T3, X3, E3, g3⟩ := X0.callN hexec (New4.law l a D fV fC b A z 0 A.slots.size) rfl hown (wks W (initW "java/lang/String" 27 New4.yN)) (W New4.tab (by simp only [site, List.mem_cons, List.mem_append, true_or, or_true])) (W := 0) (Nat.le_of_ble_eq_true rfl) (Nat.le_of_ble_eq_true rfl) (Nat.le_refl _) (by show 0 + A.slots.size ≤ A.slots.size; omega) (g := (mkF m 6 #[.val (.ref a), .val (.ref b)] [.null, .int (Int32.ofNat A.slots.size), .int (Int32.ofNat 0), .ref b, .ref a])) rfl (by rw [hml]; rfl) c2 (argsL := [.ref b, .int (Int32.ofNat 0), .int (Int32.ofNat A.slots.size), .null]) (rest := []) rfl rfl (by show 2 * 0 + 0 ≤ _; decide) (hb hbytes d6) (⟨rfl, hB.mv X0.warmed.alike hh0, f1.al X0.warmed.alike, f2.al X0.warmed.alike, hA.mv X0.warmed.alike hh0, s1.there X0.warmed.alike hh0, hz, l0, by omega, l2, fun i hi => by rw [Nat.zero_add]; exact hp i hi⟩)
  have e0 := Got.mv _ s₁ s _ _ hh0.symm (Vm.Alike.refl _) rfl E3
  obtain rfl := e0.1
  have c4 : Steps p.tables e below (s₁.setTop (entryFrame m #[.ref a, .ref b] 2)) (T3.setTop (mkF m 9 #[.val (.ref a), .val (.ref b)] [])) := g3
  exact ⟨T3, none, _, _, _, X3, by simp, rfl, by omega, (fun _ => rfl), e0, fun fs hl => c4.trans (X3.returnOut hexec hret (hb hbytes d9) hl)⟩
theorem pays {l : Launch} {R : Room} {p : Program} {e : Env} {below : List Frame} {s : State} {sargs : Array Value} {len W : Nat} (a : Addr) (D : Cell) (fV fC : Field) (b : Addr) (A : Cell) (z : Int32) (htab : tab.before sargs s = true) (hfr : 4 ≤ R.frames) (hlo : W + 65 ≤ R.locals) :
    Back l R p e below s sargs yN len W (fun A₁ a₁ => A₁.cells + 1 ≤ R.cells ∧ A₁.slots + A.slots.size ≤ R.slots ∧ P a D fV fC b A z a₁ A₁.U) (fun A₁ _ v₁ B₁ => E a D fV fC A v₁ A₁.U B₁.U ∧ B₁.locs = A₁.locs ++ [⟨a, fC.slot⟩, ⟨a, fV.slot⟩] ∧ B₁.cells = A₁.cells + 1 ∧ B₁.slots = A₁.slots + A.slots.size) :=
  (law l a D fV fC b A z).pays htab hfr (by omega)
end New1
theorem lo8_mask {x : Int32} (h0 : ¬ x < 0) (h1 : ¬ 255 < x) : lo8 x &&& 255 = x := by
  have t : ∀ k : Fin 256, lo8 (Int32.ofNat k.val) &&& 255 = Int32.ofNat k.val := by decide +kernel
  rw [Int32.lt_iff_toInt_lt] at h0 h1
  have e0 : (0 : Int32).toInt = 0 := rfl
  have e1 : (255 : Int32).toInt = 255 := rfl
  obtain ⟨k, hk⟩ : ∃ k : Nat, x.toInt = k := ⟨x.toInt.toNat, by omega⟩
  have hx : x = Int32.ofNat k := Int32.toInt_inj.mp (by rw [hk, Int32.toInt_ofNat_small (by omega)])
  rw [hx]
  exact t ⟨k, by omega⟩
end StrChars
namespace StrChars.Road
open Jvm Sem ClassFile Op Lib Jvm.Stand Jvm.Free Jvm.Free.XT
open Jvm.Lib.Cold (StaticIs)
abbrev ST : String := "java/lang/String"
abbrev words : List Jvm.Cond := [.code New1.yN New1.yB 2 none, .initialized ST, .methodLink ST 27 New4.yN, .instanceMethod New4.yN,
  .code New4.yN New4.yB 6 none, .fieldLink ST 38 ST "COMPACT_STRINGS" "Z", .laysFinal ST ST "value" "[B", .fieldLink ST 9 ST "value" "[B", .laysFinal ST ST "coder" "B", .fieldLink ST 15 ST "coder" "B",
  .methodLink ST 1 Lib.objectInit, .instanceMethod Lib.objectInit, .code Lib.objectInit ⟨#[0xb1]⟩ 1 none, .methodLink ST 177 Cmp3.yN, .static Cmp3.yN, .methodLink ST 47 CodL.yN, .static CodL.yN,
  .code Cmp3.yN Cmp3.yB 6 (some (.array .byte)), .initialized U16, .arrayClass .byte, .methodLink U16 115 Cmp5.yN, .static Cmp5.yN, .code Cmp5.yN Cmp5.yB 7 (some .int), .code CodL.yN CodL.yB 2 (some .byte)]
theorem tab_of {a : Array Value} {s : State} (h : ∀ w ∈ words, w.before a s = true) : New1.tab.before a s = true := by
  have h5 : Cmp5.tab.before a s = true := unparts (wk h (.code Cmp5.yN Cmp5.yB 7 (some .int))) (wks h (.initialized Cmp5.yN.cls :: Cmp5.site))
  have hc : CodL.tab.before a s = true := unparts (wk h (.code CodL.yN CodL.yB 2 (some .byte))) (wks h (.initialized CodL.yN.cls :: CodL.site))
  have q5 : ∀ w ∈ Cmp5.tab :: words, w.before a s = true := fun w hw => (List.mem_cons.mp hw).elim (fun e => e ▸ h5) (h w)
  have h3 : Cmp3.tab.before a s = true := unparts (wk q5 (.code Cmp3.yN Cmp3.yB 6 (some (.array .byte)))) (wks q5 (.initialized Cmp3.yN.cls :: Cmp3.site))
  have q3 : ∀ w ∈ Cmp3.tab :: CodL.tab :: words, w.before a s = true := fun w hw => (List.mem_cons.mp hw).elim (fun e => e ▸ h3) fun hw => (List.mem_cons.mp hw).elim (fun e => e ▸ hc) (h w)
  have h4 : New4.tab.before a s = true := unparts (wk q3 (.code New4.yN New4.yB 6 none)) (wks q3 (.initialized New4.yN.cls :: New4.site))
  have q4 : ∀ w ∈ New4.tab :: words, w.before a s = true := fun w hw => (List.mem_cons.mp hw).elim (fun e => e ▸ h4) (h w)
  exact unparts (wk q4 (.code New1.yN New1.yB 2 none)) (wks q4 (.initialized New1.yN.cls :: New1.site))
theorem moved {Z s : State} {a0 args : Array Value} (hZ : Z.Warmed39 s.vm) (hw : ∀ d ∈ words, d.before a0 Z = true) : ∀ d ∈ words, d.before args s = true := fun d hd => by
  have q := hw d hd
  have t : ∀ d ∈ words, d = .arrayClass .byte ∨ (d.onTables && d.keepsFace) = true := by decide +kernel
  rcases t d hd with rfl | t
  · exact RoadKit.mvA hZ q
  · exact RoadKit.mv hZ q t
def Q (Z : State) (x : Addr) (A : Cell) (h : Heap) (v : Option Value) (h' : Heap) (L : List Loc) : Prop := v = none ∧ (∀ y ∈ L, y.base = x) ∧ RoadKit.Keep h h' [x] ∧ h'.size = h.size + 1 ∧ RoadKit.Exa Z h' x ST ∧ RoadKit.Fld Z h' x ST "value" "[B" (.ref h.size) ∧ RoadKit.Fld Z h' x ST "coder" "B" (.int 0) ∧
  (∃ V : Cell, RoadKit.Arr Z h' h.size V .byte ∧ V.vm = .none ∧ Z.vm.findClass "[B" = some V.cls ∧ V.slots.size = A.slots.size ∧ ∀ j, j < A.slots.size → V.slots[j]? = some (.int (lo8 (cv A j)))) ∧
  ∀ (O n d : String) (w : Value), RoadKit.Fld Z h x O n d w → RoadKit.slotOf Z O n d ≠ RoadKit.slotOf Z ST "value" "[B" → RoadKit.slotOf Z O n d ≠ RoadKit.slotOf Z ST "coder" "B" → RoadKit.Fld Z h' x O n d w
theorem back {p : Program} {l : Launch} {e : Env} {R : Room} {s : State} {args : Array Value} {below : List Frame} {len W : Nat} {Z : State} {a0 : Array Value} {h : Heap} (hZ : Z.Warmed39 s.vm) (hw : ∀ d ∈ words, d.before a0 Z = true) {kI : Nat} (wi : (Jvm.Cond.instantiable ST kI).before a0 Z = true)
    {x b : Addr} {A : Cell} {z : Int32} {v0 c0 : Value} (E : RoadKit.Exa Z h x ST) (V : RoadKit.Fld Z h x ST "value" "[B" v0) (C : RoadKit.Fld Z h x ST "coder" "B" c0) (K : RoadKit.Arr Z h b A .char) (hty : Typed .char A) (S : RoadKit.Sta Z h ST "COMPACT_STRINGS" "Z" (.int z)) (hz : ¬ z = 0)
    (l0 : 0 < A.slots.size) (l2 : A.slots.size ≤ 536870912) (hp : ∀ i, i < A.slots.size → ¬ 255 < cv A i) (hfr : 4 ≤ R.frames) (hlo : W + 65 ≤ R.locals) :
    Back l R p e below s args New1.yN len W (fun P a => a = #[.ref x, .ref b] ∧ P.U.heap = h ∧ P.cells + 1 ≤ R.cells ∧ P.slots + A.slots.size ≤ R.slots)
      (fun P _ v B => ∃ L, Q Z x A h v B.U.heap L ∧ B.locs = P.locs ++ L ∧ B.cells = P.cells + 1 ∧ B.slots = P.slots + A.slots.size) := by
  intro m meth c P g ig mk a X hg hsize hdg hW hn hp'
  obtain ⟨rfl, rfl, r1, r2⟩ := hp'
  have al : Z.vm.Alike P.U.vm := hZ.alike.trans X.warmed.alike
  obtain ⟨D, cfV, kV, iV, fV, hD, gV, stV, knV, obV, asV, slV⟩ := id V
  obtain ⟨D', cfC, kC, iC, fC, hD', gC, stC, -, -, asC, slC⟩ := id C
  cases hD.symm.trans hD'
  obtain ⟨D2, kD, e1, e2, e3, e4, e5⟩ := id E
  cases hD.symm.trans e1
  obtain ⟨c2, k2, i1, i2, i3, -⟩ := Cond.instantiable_spec wi
  cases e2.symm.trans i1
  cases e3.symm.trans i2
  obtain ⟨kU, u1, u2⟩ := al.2.2 _ _ e3
  have hB : Blank ST x D P.U := ⟨hD, ⟨knV, fun q hq => by rw [hq] at obV; cases obV⟩, by rw [al.findClass]; exact e2, kU, u1, by rw [u2]; exact i3, by rw [u2]; exact e5 i3⟩
  have F1 : Found ST "value" "[B" fV P.U := ⟨SBG.found_only al ⟨cfV, kV, iV, gV⟩, stV⟩
  have F2 : Found ST "coder" "B" fC P.U := ⟨SBG.found_only al ⟨cfC, kC, iC, gC⟩, stC⟩
  have hA : Ch b A P.U := ⟨⟨K.1, State.isArrayOf_alike al K.2.1, K.2.2, by omega⟩, hty⟩
  have hS : StaticIs P.U ST "COMPACT_STRINGS" "Z" (.int z) := by
    obtain ⟨cfS, iS, kS, fS, st, cS, t1, t2, t3, t4, t5, t6, t7⟩ := S
    exact StaticIs.there (s := { Z with heap := P.U.heap }) ⟨cfS, iS, kS, fS, st, cS, t1, t2, t3, t4, t5, (fun q => by rw [q] at t6; cases t6), t7⟩ al rfl
  obtain ⟨v, B, X', ⟨⟨hv, E', V', q1, q2, q3, q4, q5, q6, q7, q8, q9, q10, q11⟩, hl, hc, hs⟩, st⟩ := New1.pays x D fV fC b A z (tab_of (moved hZ hw)) hfr hlo m meth c P g ig mk _ X hg hsize hdg hW hn ⟨r1, r2, rfl, hB, F1, F2, hA, hS, hz, l0, l2, hp⟩
  have al' : Z.vm.Alike B.U.vm := hZ.alike.trans X'.warmed.alike
  have hsz : E'.slots.size = D.slots.size := by
    obtain ⟨-, -, -, kB, w1, w2, w3⟩ := q1
    obtain ⟨kB', y1, y2⟩ := al'.2.2 _ _ e3
    rw [q2.2.1] at w1
    cases w1.symm.trans y1
    rw [w3, e5 i3, y2]
  refine ⟨v, B, X', ⟨_, ⟨hv, ?_, ⟨by omega, fun y cy hy hn' => q10 y cy (by simpa using hn') hy, fun y cy hy => ?_⟩, q11, ⟨E', _, q1.1, by rw [q2.2.1]; exact e2, by rw [q2.2.1]; exact e3, by rw [q2.1]; exact obV, fun _ => by rw [hsz]; exact e5 i3⟩,
    ⟨E', cfV, kV, iV, fV, q1.1, gV, stV, by rw [q2.1]; exact knV, by rw [q2.1]; exact obV, by rw [q2.2.1]; exact asV, q3⟩, ⟨E', cfC, kC, iC, fC, q1.1, gC, stC, by rw [q2.1]; exact knV, by rw [q2.1]; exact obV, by rw [q2.2.1]; exact asC, q4⟩,
    ⟨V', ⟨q5.1, State.isArrayOf_alike al'.symm q5.2.1, q5.2.2.1⟩, q6, by rw [← al'.findClass]; exact q7, q8, fun j hj => by have := q9 j hj; rwa [Nat.zero_add] at this⟩, fun O n d w F n1 n2 => ?_⟩, hl, hc, hs⟩, st⟩
  · intro y hy
    simp only [List.mem_cons, List.not_mem_nil, or_false] at hy
    rcases hy with rfl | rfl <;> rfl
  · by_cases q : y = x
    · subst q
      cases hD.symm.trans hy
      exact ⟨E', q1.1, q2.2.1, q2.1, hsz⟩
    · exact ⟨cy, q10 y cy q hy, rfl, rfl, rfl⟩
  · obtain ⟨D3, cf, k, i, f, g1, g2, g3, g4, g5, g6, g7⟩ := F
    cases hD.symm.trans g1
    simp only [RoadKit.slotOf, g2, gV, gC, Option.map_some, Option.getD_some] at n1 n2
    exact ⟨E', cf, k, i, f, q1.1, g2, g3, by rw [q2.1]; exact g4, by rw [q2.1]; exact g5, by rw [q2.2.1]; exact g6, by rw [q2.2.2 f.slot (by simp [n1, n2])]; exact g7⟩
end StrChars.Road
namespace StrChars.Road
open Jvm Sem ClassFile Op Lib Jvm.Stand Jvm.Free Jvm.Free.XT
def QA (Z : State) (x : Addr) (zn : Int32) (cs : List Int32) (h : Heap) (v : Option Value) (h' : Heap) (L : List Loc) : Prop := v = none ∧ (∀ y ∈ L, y.base = x) ∧ RoadKit.Keep h h' [x] ∧ h'.size = h.size + 1 ∧ RoadKit.Exa Z h' x ST ∧ RoadKit.Fld Z h' x ST "value" "[B" (.ref h.size) ∧ RoadKit.Fld Z h' x ST "coder" "B" (.int 0) ∧
  (∃ kb, Z.vm.findClass "[B" = some kb ∧ RoadKit.Arv Z h' h.size kb .byte zn (cs.map fun c => .int (lo8 c)) (.int 0)) ∧
  ∀ (O n d : String) (w : Value), RoadKit.Fld Z h x O n d w → RoadKit.slotOf Z O n d ≠ RoadKit.slotOf Z ST "value" "[B" → RoadKit.slotOf Z O n d ≠ RoadKit.slotOf Z ST "coder" "B" → RoadKit.Fld Z h' x O n d w
theorem backArv {p : Program} {l : Launch} {e : Env} {R : Room} {s : State} {args : Array Value} {below : List Frame} {len W : Nat} {Z : State} {a0 : Array Value} {h : Heap} (hZ : Z.Warmed39 s.vm) (hw : ∀ d ∈ words, d.before a0 Z = true) {kI : Nat} (wi : (Jvm.Cond.instantiable ST kI).before a0 Z = true)
    {x b : Addr} {k : ClassId} {zn z : Int32} {cs : List Int32} {dv v0 c0 : Value} (E : RoadKit.Exa Z h x ST) (V : RoadKit.Fld Z h x ST "value" "[B" v0) (C : RoadKit.Fld Z h x ST "coder" "B" c0) (K : RoadKit.Arv Z h b k .char zn (cs.map Value.int) dv) (S : RoadKit.Sta Z h ST "COMPACT_STRINGS" "Z" (.int z)) (hz : ¬ z = 0)
    (hlen : zn.toNatClampNeg = cs.length) (h0 : 0 < cs.length) (hbig : cs.length ≤ 536870912) (hall : ∀ c ∈ cs, ¬ 255 < c) (hfr : 4 ≤ R.frames) (hlo : W + 65 ≤ R.locals) :
    Back l R p e below s args New1.yN len W (fun P a => a = #[.ref x, .ref b] ∧ P.U.heap = h ∧ P.cells + 1 ≤ R.cells ∧ P.slots + cs.length ≤ R.slots)
      (fun P _ v B => ∃ L, QA Z x zn cs h v B.U.heap L ∧ B.locs = P.locs ++ L ∧ B.cells = P.cells + 1 ∧ B.slots = P.slots + cs.length) := by
  obtain ⟨A, K1, K2, K3, K4, K5, K6⟩ := K
  have e : A.slots.size = cs.length := K3.trans hlen
  have hat : ∀ (i : Nat) (hi : i < cs.length), A.slots[i]? = some (.int cs[i]) := fun i hi => by rw [K5 i (by omega)]; simp [List.getD_eq_getElem?_getD, hi]
  have hcv : ∀ (i : Nat) (hi : i < cs.length), cv A i = cs[i] := fun i hi => by unfold cv; rw [hat i hi]
  have hty : Typed .char A := fun i v hv => by
    have hi : i < A.slots.size := (Array.getElem?_eq_some_iff.mp hv).1
    have q := K5 i hi
    rw [hv] at q
    rw [Option.some.inj q]
    exact K6 i hi
  refine Back.mono (back hZ hw wi E V C K1 hty S hz (by omega) (by omega) (fun i hi => by rw [hcv i (by omega)]; exact hall _ (List.getElem_mem _)) hfr hlo) (fun P a hp => ⟨hp.1, hp.2.1, hp.2.2.1, by rw [e]; exact hp.2.2.2⟩) (fun P a v B hp hq => ?_)
  obtain ⟨L, ⟨q1, q2, q3, q4, q5, q6, q7, ⟨V', v1, v2, v3, v4, v5⟩, q9⟩, hl, hc, hs⟩ := hq
  refine ⟨L, ⟨q1, q2, q3, q4, q5, q6, q7, ⟨V'.cls, v3, V', v1, rfl, by rw [v4, e, hlen], K4, fun i hi => ?_, fun i hi => ?_⟩, q9⟩, hl, hc, by rw [hs, e]⟩
  · have hi' : i < cs.length := by omega
    rw [v5 i (by omega), hcv i hi']; simp [List.getD_eq_getElem?_getD, hi']
  · have hi' : i < cs.length := by omega
    simp only [List.getD_eq_getElem?_getD, List.getElem?_map, List.getElem?_eq_getElem hi', Option.map_some, Option.getD_some]
    exact fits_lo8 _
end StrChars.Road
namespace StrChars.Road
open Jvm Sem ClassFile Op Lib Jvm.Stand Jvm.Free Jvm.Free.XT
def QV (Z : State) (x : Addr) (N : Int32) (bs : List Int32) (h : Heap) (n0 : Nat) (v : Option Value) (h' : Heap) (L : List Loc) : Prop := v = none ∧ RoadKit.Fr n0 L ∧ RoadKit.Keep h h' [x] ∧ RoadKit.Exa Z h' x ST ∧ RoadKit.Fld Z h' x ST "coder" "B" (.int 0) ∧
  ∃ (t : Addr) (kb : ClassId), n0 ≤ t ∧ h.size ≤ t ∧ ¬ t = x ∧ RoadKit.Fld Z h' x ST "value" "[B" (.ref t) ∧ RoadKit.Arv Z h' t kb .byte N (bs.map Value.int) (.int 0)
theorem backV {p : Program} {l : Launch} {e : Env} {R : Room} {s : State} {args : Array Value} {below : List Frame} {len W : Nat} {Z : State} {a0 : Array Value} {h : Heap} (hZ : Z.Warmed39 s.vm) (hw : ∀ d ∈ words, d.before a0 Z = true) {kI : Nat} (wi : (Jvm.Cond.instantiable ST kI).before a0 Z = true)
    {x b : Addr} {kC : ClassId} {cs bs : List Int32} {d v0 c0 : Value} {z N : Int32} {n n0 : Nat} (hx0 : n0 ≤ x) (hh0 : n0 ≤ h.size) (E : RoadKit.Exa Z h x ST) (V : RoadKit.Fld Z h x ST "value" "[B" v0) (C : RoadKit.Fld Z h x ST "coder" "B" c0) (K : RoadKit.Arv Z h b kC .char N (cs.map Value.int) d) (S : RoadKit.Sta Z h ST "COMPACT_STRINGS" "Z" (.int z)) (hz : ¬ z = 0)
    (hn : cs.length = n) (hN : N = Int32.ofNat n) (l0 : 0 < n) (l2 : n ≤ 4000) (hp : ∀ c ∈ cs, ¬ c < 0 ∧ ¬ (255 : Int32) < c) (hb : bs = cs.map (fun c => c.toInt8.toInt32)) (hfr : 4 ≤ R.frames) (hlo : W + 65 ≤ R.locals) :
    Back l R p e below s args (⟨"java/lang/String", "<init>", "([C)V"⟩ : MethodName) len W (fun P a => a = #[.ref x, .ref b] ∧ P.U.heap = h ∧ P.cells + 1 ≤ R.cells ∧ P.slots + n ≤ R.slots)
      (fun P _ v B => ∃ L, QV Z x N bs h n0 v B.U.heap L ∧ B.locs = P.locs ++ L ∧ B.cells = P.cells + 1 ∧ B.slots = P.slots + n) := by
  subst hn hN hb
  refine Back.mono (backArv hZ hw wi E V C K S hz (n32 (by omega)) l0 (by omega) (fun c hc => (hp c hc).2) hfr hlo) (fun P a hp => hp) (fun P a v B hp hq => ?_)
  obtain ⟨L, ⟨q1, q2, q3, q4, q5, q6, q7, ⟨kb, v1, v2⟩, q9⟩, hl, hc, hs⟩ := hq
  exact ⟨L, ⟨q1, fun y hy => by rw [q2 y hy]; exact hx0, q3, q5, q7, h.size, kb, hh0, Nat.le_refl _, Nat.ne_of_gt E.lt, q6, by rw [List.map_map]; exact v2⟩, hl, hc, hs⟩
end StrChars.Road
namespace StrChars
open Jvm Sem ClassFile Op Lib Jvm.Stand Jvm.Free.XT Jvm.Free.ALB Jvm.Free.JM Jvm.Free
open Jvm.Lib.Cold (StaticIs)
def hi8 (x : Int32) : Int32 := lo8 (x >>> ((8 : Int32) &&& 31))
def pairCh (u v : Int32) : Int32 := (((u &&& 255) <<< ((0 : Int32) &&& 31)) ||| ((v &&& 255) <<< ((8 : Int32) &&& 31))).toUInt32.toUInt16.toUInt32.toInt32
theorem shr0 (c : Int32) : c >>> ((0 : Int32) &&& 31) = c := by
  have e : ((0 : Int32) &&& 31) = 0 := by decide
  rw [e]
  apply Int32.toBitVec_inj.mp
  rw [Int32.toBitVec_shiftRight]
  have e1 : ((0 : Int32).toBitVec.smod 32) = 0#32 := by decide
  rw [e1, BitVec.sshiftRight_eq']
  exact BitVec.sshiftRight_zero
theorem lo8_and (x : Int32) : (lo8 x &&& 255).toBitVec.toNat = x.toBitVec.toNat % 256 := by
  have h : (lo8 x).toBitVec = (x.toBitVec.signExtend 8).signExtend 32 := by rw [lo8, Int8.toBitVec_toInt32, Int32.toBitVec_toInt8]
  rw [Int32.toBitVec_and, BitVec.toNat_and, h]
  have e : ((x.toBitVec.signExtend 8).signExtend 32).toNat % 256 = x.toBitVec.toNat % 256 := by
    rw [BitVec.toNat_signExtend]
    have hlt := x.toBitVec.isLt
    simp only [BitVec.toNat_setWidth, BitVec.toNat_signExtend]
    split <;> split <;> omega
  rw [← e]
  exact Nat.and_two_pow_sub_one_eq_mod _ 8
theorem pair_says {c : Int32} (h0 : ¬ c < 0) (h1 : ¬ 65535 < c) : pairCh (lo8 c) (hi8 c) = c := by
  rw [Int32.lt_iff_toInt_lt] at h0 h1
  have e0 : (0 : Int32).toInt = 0 := rfl
  have e1 : (65535 : Int32).toInt = 65535 := rfl
  have hc : c.toInt = c.toBitVec.toNat := by
    have := c.toBitVec.isLt
    have e : c.toInt = c.toBitVec.toInt := rfl
    rw [e] at h0 h1
    rw [e]
    rw [BitVec.toInt_eq_toNat_cond] at h0 h1 ⊢
    split at h0 <;> split <;> omega
  have hn : c.toBitVec.toNat < 65536 := by omega
  have a1 := lo8_and c
  have a2 : (hi8 c &&& 255).toBitVec.toNat = c.toBitVec.toNat / 256 := by
    rw [hi8, lo8_and]
    have e : ((8 : Int32) &&& 31) = 8 := by decide
    rw [e, Int32.toBitVec_shiftRight]
    have e2 : ((8 : Int32).toBitVec.smod 32) = 8#32 := by decide
    rw [e2, BitVec.sshiftRight_eq', BitVec.toNat_sshiftRight_of_msb_false (by rw [BitVec.msb_eq_false_iff_two_mul_lt]; omega)]
    show c.toBitVec.toNat >>> 8 % 256 = _
    rw [Nat.shiftRight_eq_div_pow]
    omega
  unfold pairCh
  apply Int32.toBitVec_inj.mp
  apply BitVec.eq_of_toNat_eq
  have f0 : ((0 : Int32) &&& 31) = 0 := by decide
  have f8 : ((8 : Int32) &&& 31) = 8 := by decide
  rw [f0, f8]
  have g : (((lo8 c &&& 255) <<< (0 : Int32)) ||| ((hi8 c &&& 255) <<< (8 : Int32))).toBitVec.toNat = c.toBitVec.toNat := by
    rw [Int32.toBitVec_or, Int32.toBitVec_shiftLeft, Int32.toBitVec_shiftLeft]
    have s0 : ((0 : Int32).toBitVec.smod 32) = 0#32 := by decide
    have s8 : ((8 : Int32).toBitVec.smod 32) = 8#32 := by decide
    rw [s0, s8, BitVec.toNat_or]
    simp only [BitVec.shiftLeft_eq', BitVec.toNat_shiftLeft, a1, a2]
    show (c.toBitVec.toNat % 256) <<< 0 % 2 ^ 32 ||| (c.toBitVec.toNat / 256) <<< 8 % 2 ^ 32 = _
    rw [Nat.shiftLeft_zero, Nat.mod_eq_of_lt (show c.toBitVec.toNat % 256 < 2 ^ 32 by omega), Nat.mod_eq_of_lt (show (c.toBitVec.toNat / 256) <<< 8 < 2 ^ 32 by rw [Nat.shiftLeft_eq]; omega), Nat.or_comm, ← Nat.shiftLeft_add_eq_or_of_lt (by omega), Nat.shiftLeft_eq]
    omega
  show BitVec.toNat (((((lo8 c &&& 255) <<< (0 : Int32)) ||| ((hi8 c &&& 255) <<< (8 : Int32))).toBitVec.setWidth 16).setWidth 32) = _
  rw [BitVec.toNat_setWidth, BitVec.toNat_setWidth, g]
  omega
end StrChars
namespace StrChars
open Jvm Sem ClassFile Op Lib Jvm.Stand Jvm.Free.XT Jvm.Free.ALB Jvm.Free.JM Jvm.Free
open Jvm.Lib.Cold (StaticIs)
theorem shr1 {n : Nat} (h : 2 * n < 2 ^ 31) : Int32.ofNat (2 * n) >>> ((1 : Int32) &&& 31) = Int32.ofNat n := by
  have e : ((1 : Int32) &&& 31) = 1 := by decide
  rw [e]
  apply Int32.toBitVec_inj.mp
  rw [Int32.toBitVec_shiftRight]
  have e1 : ((1 : Int32).toBitVec.smod 32) = 1#32 := by decide
  have hm : (BitVec.ofNat 32 (2 * n)).toNat = 2 * n := by rw [BitVec.toNat_ofNat, Nat.mod_eq_of_lt (by omega)]
  rw [e1, BitVec.sshiftRight_eq']
  apply BitVec.eq_of_toNat_eq
  show ((BitVec.ofNat 32 (2 * n)).sshiftRight 1).toNat = (BitVec.ofNat 32 n).toNat
  rw [BitVec.toNat_sshiftRight_of_msb_false (by rw [BitVec.msb_eq_false_iff_two_mul_lt, hm]; omega), hm, BitVec.toNat_ofNat, Nat.shiftRight_eq_div_pow]
  omega
def chr8 (u : Int32) : Int32 := (u &&& 255).toUInt32.toUInt16.toUInt32.toInt32
theorem chr8_lo8 {c : Int32} (h0 : ¬ c < 0) (h1 : ¬ 255 < c) : chr8 (lo8 c) = c := by
  have t : ∀ k : Fin 256, (Int32.ofNat k.val).toUInt32.toUInt16.toUInt32.toInt32 = Int32.ofNat k.val := by decide +kernel
  unfold chr8
  rw [lo8_mask h0 h1]
  rw [Int32.lt_iff_toInt_lt] at h0 h1
  have e0 : (0 : Int32).toInt = 0 := rfl
  have e1 : (255 : Int32).toInt = 255 := rfl
  obtain ⟨k, hk⟩ : ∃ k : Nat, c.toInt = k := ⟨c.toInt.toNat, by omega⟩
  have hx : c = Int32.ofNat k := Int32.toInt_inj.mp (by rw [hk, Int32.toInt_ofNat_small (by omega)])
  rw [hx]
  exact t ⟨k, by omega⟩
theorem narrow_ch {c : Int32} (h0 : ¬ c < 0) (h1 : ¬ 65535 < c) : narrow .char (.int c) = .int c := by
  have q : narrow .char (.int (pairCh (lo8 c) (hi8 c))) = .int (pairCh (lo8 c) (hi8 c)) := narrow_c _
  rwa [pair_says h0 h1] at q
def Cod (cd : Int32) (n : Nat) (f : Nat → Int32) (V : Cell) : Prop := (cd = 0 ∧ V.slots.size = n ∧ ∀ j, j < n → V.slots[j]? = some (.int (lo8 (f j))) ∧ ¬ 255 < f j) ∨ (cd = 1 ∧ V.slots.size = 2 * n ∧ (∀ j, j < n → V.slots[2 * j]? = some (.int (lo8 (f j))) ∧ V.slots[2 * j + 1]? = some (.int (hi8 (f j)))) ∧ ∃ j, j < n ∧ 255 < f j)
theorem Cod.cd {cd : Int32} {n : Nat} {f : Nat → Int32} {V : Cell} (h : Cod cd n f V) : cd = 0 ∨ cd = 1 := h.imp (fun q => q.1) fun q => q.1
theorem Cod.len {cd : Int32} {n : Nat} {f : Nat → Int32} {V : Cell} (h : Cod cd n f V) (hs : V.slots.size < 2 ^ 31) : Int32.ofNat V.slots.size >>> (cd &&& 31) = Int32.ofNat n := by
  rcases h with ⟨rfl, h, -⟩ | ⟨rfl, h, -⟩
  · rw [shr0, h]
  · rw [h, shr1 (by omega)]
def Txt (x t : Addr) (V : Cell) (cd : Int32) (n : Nat) (f : Nat → Int32) (U : State) : Prop := Exact "java/lang/String" x U ∧ Has x "java/lang/String" "value" "[B" (.ref t) U ∧ Has x "java/lang/String" "coder" "B" (.int cd) U ∧ XT.Arr .byte t V U ∧ Cod cd n f V ∧ ∀ j, j < n → ¬ f j < 0 ∧ ¬ 65535 < f j
theorem Txt.mv {x t : Addr} {V : Cell} {cd : Int32} {n : Nat} {f : Nat → Int32} {U U' : State} (h : Txt x t V cd n f U) (hal : U.vm.Alike U'.vm) (hh : U'.heap = U.heap) : Txt x t V cd n f U' := ⟨h.1.mv hal hh, h.2.1.mv hal hh, h.2.2.1.mv hal hh, h.2.2.2.1.mv hal hh, h.2.2.2.2⟩
namespace Cdr
def yN : MethodName := ⟨"java/lang/String", "coder", "()B"⟩
abbrev yB : ByteArray := jdk_42_method_152_code
theorem d0 : decode yB 0 = .ok (.getstatic 38, 3) := by decide +kernel
theorem d3 : decode yB 3 = .ok (.ifCond (.eq) 10, 3) := by decide +kernel
theorem d6 : decode yB 6 = .ok (.aload_n 0, 1) := by decide +kernel
theorem d7 : decode yB 7 = .ok (.getfield 15, 3) := by decide +kernel
theorem d10 : decode yB 10 = .ok (.goto 4, 3) := by decide +kernel
theorem d14 : decode yB 14 = .ok (.ireturn, 1) := by decide +kernel
def site : List Cond := [.fieldLink "java/lang/String" 38 "java/lang/String" "COMPACT_STRINGS" "Z", .fieldLink "java/lang/String" 15 "java/lang/String" "coder" "B"]
def tab : Cond := tabOf yN yB 1 (some .byte) site
def P (x : Addr) (cd z : Int32) (args : Array Value) (s : State) : Prop := args = #[.ref x] ∧ Has x "java/lang/String" "coder" "B" (.int cd) s ∧ (cd = 0 ∨ cd = 1) ∧ StaticIs s "java/lang/String" "COMPACT_STRINGS" "Z" (.int z) ∧ ¬ z = 0
def E (cd : Int32) (r : Option Value) (s u : State) : Prop := XT.PureE (some (.int cd)) r s u
theorem law (l : Launch) (x : Addr) (cd z : Int32) : Law l yN 1 0 0 0 yB 1 (some .byte) site (P x cd z) (E cd) [] 0 0 := by
  refine Law.of_walk (plainFor_of_name (by decide +kernel)) (by decide +kernel) (by decide +kernel) (by decide) (fun _ _ h => by rw [h.1]; rfl) (fun _ U U' hal hh h => ⟨h.1, h.2.1.mv hal hh, h.2.2.1, h.2.2.2.1.there hal hh, h.2.2.2.2⟩) (fun r U U' V V' h1 hal h2 h => XT.PureE.mv r U U' V V' h1 hal h2 h) ?_
  intro p e s m args below meth c s₁ X0 hexec hbytes hml hret hlk hnm hown hh0 W hP
  obtain ⟨rfl, hx, hc, s1, hz⟩ := hP
  have c1 : Steps p.tables e below (s₁.setTop (entryFrame m #[.ref x] 1)) (s₁.setTop (mkF m 0 #[.val (.ref x)] [])) := entry rfl
  obtain ⟨T2, X2, q2, st2⟩ := X0.sget hexec hown (wk W (.fieldLink "java/lang/String" 38 "java/lang/String" "COMPACT_STRINGS" "Z")) s1 (fun _ _ h => by rw [hh0]; exact h) (g := (mkF m 0 #[.val (.ref x)] [])) rfl (hb hbytes d0)
  have hh2 := q2.trans hh0
  have c3 : Steps p.tables e below (s₁.setTop (entryFrame m #[.ref x] 1)) (T2.setTop (mkF m 7 #[.val (.ref x)] [.ref x])) := (c1.trans (st2 _ (Steps.refl _))).trans (by
    refine XS.ifNo X2.here hexec rfl (hb hbytes d3) rfl (i0_eq_f hz) ?_
    refine XS.aloadN X2.here hexec rfl (hb hbytes d6) rfl rfl ?_
    exact Steps.refl _)
  obtain ⟨T4, X4, q4, st4⟩ := X2.hget hexec hown (wk W (.fieldLink "java/lang/String" 15 "java/lang/String" "coder" "B")) (hx.mv X2.warmed.alike hh2) (g := (mkF m 7 #[.val (.ref x)] [.ref x])) rfl (rest := []) rfl (hb hbytes d7)
  have c5 : Steps p.tables e below (s₁.setTop (entryFrame m #[.ref x] 1)) (T4.setTop (mkF m 14 #[.val (.ref x)] [.int cd])) := (c3.trans (st4 _ (Steps.refl _))).trans (by
    refine XS.goto X4.here hexec rfl (pc0 := 10) rfl (hb hbytes d10) (by decide) rfl ?_
    exact Steps.refl _)
  exact ⟨T4, some (.int cd), _, _, _, X4, rfl, rfl, rfl, (fun h => by cases h), ⟨rfl, q4.trans hh2⟩, fun fs hl => c5.trans (X4.ireturnOut hexec hret (by rcases hc with rfl | rfl <;> rfl) (Or.inr (Or.inr (Or.inl rfl))) (hb hbytes d14) hl)⟩
end Cdr
namespace Len
def yN : MethodName := ⟨"java/lang/String", "length", "()I"⟩
abbrev yB : ByteArray := jdk_42_method_54_code
theorem d0 : decode yB 0 = .ok (.aload_n 0, 1) := by decide +kernel
theorem d1 : decode yB 1 = .ok (.getfield 9, 3) := by decide +kernel
theorem d4 : decode yB 4 = .ok (.arraylength, 1) := by decide +kernel
theorem d5 : decode yB 5 = .ok (.aload_n 0, 1) := by decide +kernel
theorem d6 : decode yB 6 = .ok (.invokevirtual 335, 3) := by decide +kernel
theorem d9 : decode yB 9 = .ok (.ishr, 1) := by decide +kernel
theorem d10 : decode yB 10 = .ok (.ireturn, 1) := by decide +kernel
def site : List Cond := [.fieldLink "java/lang/String" 9 "java/lang/String" "value" "[B", Cdr.tab] ++ virtW "java/lang/String" 335 "java/lang/String" Cdr.yN Cdr.yN
def tab : Cond := tabOf yN yB 1 (some .int) site
def P (x t : Addr) (V : Cell) (cd : Int32) (n : Nat) (f : Nat → Int32) (z : Int32) (args : Array Value) (s : State) : Prop := args = #[.ref x] ∧ Txt x t V cd n f s ∧ StaticIs s "java/lang/String" "COMPACT_STRINGS" "Z" (.int z) ∧ ¬ z = 0
def E (n : Nat) (r : Option Value) (s u : State) : Prop := XT.PureE (some (.int (Int32.ofNat n))) r s u
theorem law (l : Launch) (x t : Addr) (V : Cell) (cd : Int32) (n : Nat) (f : Nat → Int32) (z : Int32) : Law l yN 1 0 1 13 yB 1 (some .int) site (P x t V cd n f z) (E n) [] 0 0 := by
  refine Law.of_walk (plainFor_of_name (by decide +kernel)) (by decide +kernel) (by decide +kernel) (by decide) (fun _ _ h => by rw [h.1]; rfl) (fun _ U U' hal hh h => ⟨h.1, h.2.1.mv hal hh, h.2.2.1.there hal hh, h.2.2.2⟩) (fun r U U' V V' h1 hal h2 h => XT.PureE.mv r U U' V V' h1 hal h2 h) ?_
  intro p e s m args below meth c s₁ X0 hexec hbytes hml hret hlk hnm hown hh0 W hP
  obtain ⟨rfl, hx, s1, hz⟩ := hP
  have v31 := hx.2.2.2.1.2.2.2
  have c1 : Steps p.tables e below (s₁.setTop (entryFrame m #[.ref x] 1)) (s₁.setTop (mkF m 1 #[.val (.ref x)] [.ref x])) := Steps.trans (entry rfl) (by
    show Steps p.tables e below (s₁.setTop (mkF m 0 #[.val (.ref x)] [])) _
    refine XS.aloadN X0.here hexec rfl (hb hbytes d0) rfl rfl ?_
    exact Steps.refl _)
  obtain ⟨T2, X2, q2, st2⟩ := X0.hget hexec hown (wk W (.fieldLink "java/lang/String" 9 "java/lang/String" "value" "[B")) (hx.mv X0.warmed.alike hh0).2.1 (g := (mkF m 1 #[.val (.ref x)] [.ref x])) rfl (rest := []) rfl (hb hbytes d1)
  have hh2 := q2.trans hh0
  have hx2 := hx.mv X2.warmed.alike hh2
  have c3 : Steps p.tables e below (s₁.setTop (entryFrame m #[.ref x] 1)) (T2.setTop (mkF m 6 #[.val (.ref x)] [.ref x, .int (Int32.ofNat V.slots.size)])) := (c1.trans (st2 _ (Steps.refl _))).trans (by
    refine X2.alen hexec hx2.2.2.2.1 rfl rfl (hb hbytes d4) ?_
    refine XS.aloadN X2.here hexec rfl (hb hbytes d5) rfl rfl ?_
    exact Steps.refl _)
  obtain ⟨v4, T4, X4, E4, g4⟩ := X2.callV hexec (Cdr.law l x cd z) hown (wks W (virtW "java/lang/String" 335 "java/lang/String" Cdr.yN Cdr.yN)) rfl (by decide) (wk W Cdr.tab) (W := 1) (Nat.le_of_ble_eq_true rfl) (Nat.le_of_ble_eq_true rfl) (Nat.le_refl _) (Nat.le_refl _) (hx2.1.fc X2.warmed.alike) hx2.1.is (g := (mkF m 6 #[.val (.ref x)] [.ref x, .int (Int32.ofNat V.slots.size)])) rfl (by rw [hml]; rfl) c3 (argsL := []) (rest := [.int (Int32.ofNat V.slots.size)]) rfl rfl (by show 2 * 0 + (1 + 0) ≤ _; decide) (hb hbytes d6) (⟨rfl, hx2.2.2.1, hx.2.2.2.2.1.cd, s1.there X2.warmed.alike hh2, hz⟩)
  obtain ⟨rfl, q4⟩ := E4
  have c5 : Steps p.tables e below (s₁.setTop (entryFrame m #[.ref x] 1)) (T4.setTop (mkF m 10 #[.val (.ref x)] [.int (Int32.ofNat V.slots.size >>> (cd &&& 31))])) := Steps.trans g4 (by
    refine ishr X4.here hexec rfl (hb hbytes d9) rfl ?_
    exact Steps.refl _)
  rw [hx.2.2.2.2.1.len v31] at c5
  exact ⟨T4, some (.int (Int32.ofNat n)), _, _, _, X4, rfl, rfl, rfl, (fun h => by cases h), ⟨rfl, q4.trans hh2⟩, fun fs hl => c5.trans (X4.ireturnOut hexec hret rfl (Or.inl rfl) (hb hbytes d10) hl)⟩
theorem pays {l : Launch} {R : Room} {p : Program} {e : Env} {below : List Frame} {s : State} {sargs : Array Value} {len W : Nat} (x t : Addr) (V : Cell) (cd : Int32) (n : Nat) (f : Nat → Int32) (z : Int32) (htab : tab.before sargs s = true) (hfr : 2 ≤ R.frames) (hlo : W + 25 ≤ R.locals) :
    Back l R p e below s sargs yN len W (fun A₁ a₁ => A₁.cells + 0 ≤ R.cells ∧ A₁.slots + 0 ≤ R.slots ∧ P x t V cd n f z a₁ A₁.U) (fun A₁ _ v₁ B₁ => E n v₁ A₁.U B₁.U ∧ B₁.locs = A₁.locs ++ [] ∧ B₁.cells = A₁.cells + 0 ∧ B₁.slots = A₁.slots + 0) :=
  (law l x t V cd n f z).pays htab hfr (by omega)
end Len
namespace IsL
def yN : MethodName := ⟨"java/lang/String", "isLatin1", "()Z"⟩
abbrev yB : ByteArray := jdk_42_method_154_code
theorem d0 : decode yB 0 = .ok (.getstatic 38, 3) := by decide +kernel
theorem d3 : decode yB 3 = .ok (.ifCond (.eq) 14, 3) := by decide +kernel
theorem d6 : decode yB 6 = .ok (.aload_n 0, 1) := by decide +kernel
theorem d7 : decode yB 7 = .ok (.getfield 15, 3) := by decide +kernel
theorem d10 : decode yB 10 = .ok (.ifCond (.ne) 7, 3) := by decide +kernel
theorem d13 : decode yB 13 = .ok (.iconst 1, 1) := by decide +kernel
theorem d14 : decode yB 14 = .ok (.goto 4, 3) := by decide +kernel
theorem d17 : decode yB 17 = .ok (.iconst 0, 1) := by decide +kernel
theorem d18 : decode yB 18 = .ok (.ireturn, 1) := by decide +kernel
def site : List Cond := [.fieldLink "java/lang/String" 38 "java/lang/String" "COMPACT_STRINGS" "Z", .fieldLink "java/lang/String" 15 "java/lang/String" "coder" "B"]
def tab : Cond := tabOf yN yB 1 (some .boolean) site
def P (x : Addr) (cd z : Int32) (args : Array Value) (s : State) : Prop := args = #[.ref x] ∧ Has x "java/lang/String" "coder" "B" (.int cd) s ∧ (cd = 0 ∨ cd = 1) ∧ StaticIs s "java/lang/String" "COMPACT_STRINGS" "Z" (.int z) ∧ ¬ z = 0
def E (cd : Int32) (r : Option Value) (s u : State) : Prop := XT.PureE (some (.int (1 - cd))) r s u
theorem law (l : Launch) (x : Addr) (cd z : Int32) : Law l yN 1 0 0 0 yB 1 (some .boolean) site (P x cd z) (E cd) [] 0 0 := by
  refine Law.of_walk (plainFor_of_name (by decide +kernel)) (by decide +kernel) (by decide +kernel) (by decide) (fun _ _ h => by rw [h.1]; rfl) (fun _ U U' hal hh h => ⟨h.1, h.2.1.mv hal hh, h.2.2.1, h.2.2.2.1.there hal hh, h.2.2.2.2⟩) (fun r U U' V V' h1 hal h2 h => XT.PureE.mv r U U' V V' h1 hal h2 h) ?_
  intro p e s m args below meth c s₁ X0 hexec hbytes hml hret hlk hnm hown hh0 W hP
  obtain ⟨rfl, hx, hc, s1, hz⟩ := hP
  have c1 : Steps p.tables e below (s₁.setTop (entryFrame m #[.ref x] 1)) (s₁.setTop (mkF m 0 #[.val (.ref x)] [])) := entry rfl
  obtain ⟨T2, X2, q2, st2⟩ := X0.sget hexec hown (wk W (.fieldLink "java/lang/String" 38 "java/lang/String" "COMPACT_STRINGS" "Z")) s1 (fun _ _ h => by rw [hh0]; exact h) (g := (mkF m 0 #[.val (.ref x)] [])) rfl (hb hbytes d0)
  have hh2 := q2.trans hh0
  have c3 : Steps p.tables e below (s₁.setTop (entryFrame m #[.ref x] 1)) (T2.setTop (mkF m 7 #[.val (.ref x)] [.ref x])) := (c1.trans (st2 _ (Steps.refl _))).trans (by
    refine XS.ifNo X2.here hexec rfl (hb hbytes d3) rfl (i0_eq_f hz) ?_
    refine XS.aloadN X2.here hexec rfl (hb hbytes d6) rfl rfl ?_
    exact Steps.refl _)
  obtain ⟨T4, X4, q4, st4⟩ := X2.hget hexec hown (wk W (.fieldLink "java/lang/String" 15 "java/lang/String" "coder" "B")) (hx.mv X2.warmed.alike hh2) (g := (mkF m 7 #[.val (.ref x)] [.ref x])) rfl (rest := []) rfl (hb hbytes d7)
  have c5 : Steps p.tables e below (s₁.setTop (entryFrame m #[.ref x] 1)) (T4.setTop (mkF m 10 #[.val (.ref x)] [.int cd])) := c3.trans (st4 _ (Steps.refl _))
  have c6 : Steps p.tables e below (s₁.setTop (entryFrame m #[.ref x] 1)) (T4.setTop (mkF m 18 #[.val (.ref x)] [.int (1 - cd)])) := by
    rcases hc with rfl | rfl
    · exact c5.trans (by
        refine XS.ifNo X4.here hexec rfl (hb hbytes d10) rfl (i0_ne_f rfl) ?_
        refine iconstV X4.here hexec rfl 1 (hb hbytes d13) (by decide) ?_
        refine XS.goto X4.here hexec rfl (pc0 := 14) rfl (hb hbytes d14) (by decide) rfl ?_
        exact Steps.refl _)
    · exact c5.trans (by
        refine XS.ifYes X4.here hexec rfl (pc0 := 10) rfl (hb hbytes d10) rfl (i0_ne_t (by decide)) (by decide) rfl ?_
        refine iconstV X4.here hexec rfl 0 (hb hbytes d17) (by decide) ?_
        exact Steps.refl _)
  exact ⟨T4, some (.int (1 - cd)), _, _, _, X4, rfl, rfl, rfl, (fun h => by cases h), ⟨rfl, q4.trans hh2⟩, fun fs hl => c6.trans (X4.ireturnOut hexec hret (by rcases hc with rfl | rfl <;> rfl) (Or.inr (Or.inl rfl)) (hb hbytes d18) hl)⟩
end IsL
namespace LChA
def yN : MethodName := ⟨"java/lang/StringLatin1", "charAt", "([BI)C"⟩
abbrev yB : ByteArray := jdk_43_method_2_code
theorem d0 : decode yB 0 = .ok (.iload_n 1, 1) := by decide +kernel
theorem d1 : decode yB 1 = .ok (.aload_n 0, 1) := by decide +kernel
theorem d2 : decode yB 2 = .ok (.arraylength, 1) := by decide +kernel
theorem d3 : decode yB 3 = .ok (.invokestatic 9, 3) := by decide +kernel
theorem d6 : decode yB 6 = .ok (.aload_n 0, 1) := by decide +kernel
theorem d7 : decode yB 7 = .ok (.iload_n 1, 1) := by decide +kernel
theorem d8 : decode yB 8 = .ok (.baload, 1) := by decide +kernel
theorem d9 : decode yB 9 = .ok (.sipush 255, 3) := by decide +kernel
theorem d12 : decode yB 12 = .ok (.iand, 1) := by decide +kernel
theorem d13 : decode yB 13 = .ok (.i2c, 1) := by decide +kernel
theorem d14 : decode yB 14 = .ok (.ireturn, 1) := by decide +kernel
def site : List Cond := [JO.Str_checkIndex.tab] ++ staticW "java/lang/StringLatin1" 9 JO.Str_checkIndex.yN
def tab : Cond := tabOf yN yB 2 (some .char) site
def P (t : Addr) (V : Cell) (i : Nat) (u : Int32) (fm : Value) (args : Array Value) (s : State) : Prop := args = #[.ref t, .int (Int32.ofNat i)] ∧ XT.Arr .byte t V s ∧ V.slots[i]? = some (.int u) ∧ (StaticIs s "jdk/internal/util/Preconditions" "SIOOBE_FORMATTER" "Ljava/util/function/BiFunction;" fm ∧ fm.isRef = true)
def E (u : Int32) (r : Option Value) (s w : State) : Prop := XT.PureE (some (.int (chr8 u))) r s w
theorem law (l : Launch) (t : Addr) (V : Cell) (i : Nat) (u : Int32) (fm : Value) : Law l yN 2 2 2 27 yB 2 (some .char) site (P t V i u fm) (E u) [] 0 0 := by
  refine Law.of_walk (plainFor_of_name (by decide +kernel)) (by decide +kernel) (by decide +kernel) (by decide) (fun _ _ h => by rw [h.1]; rfl) (fun _ U U' hal hh h => ⟨h.1, h.2.1.mv hal hh, h.2.2.1, h.2.2.2.1.there hal hh, h.2.2.2.2⟩) (fun r U U' V V' h1 hal h2 h => XT.PureE.mv r U U' V V' h1 hal h2 h) ?_
  intro p e s m args below meth c s₁ X0 hexec hbytes hml hret hlk hnm hown hh0 W hP
  obtain ⟨rfl, hV, hu, s1, rf⟩ := hP
  have v31 := hV.2.2.2
  have hi : i < V.slots.size := (Array.getElem?_eq_some_iff.mp hu).1
  have c1 : Steps p.tables e below (s₁.setTop (entryFrame m #[.ref t, .int (Int32.ofNat i)] 2)) (s₁.setTop (mkF m 0 #[.val (.ref t), .val (.int (Int32.ofNat i))] [])) := entry rfl
  have c2 : Steps p.tables e below (s₁.setTop (entryFrame m #[.ref t, .int (Int32.ofNat i)] 2)) (s₁.setTop (mkF m 3 #[.val (.ref t), .val (.int (Int32.ofNat i))] [.int (Int32.ofNat V.slots.size), .int (Int32.ofNat i)])) := c1.trans (by
    refine XS.iloadN X0.here hexec rfl (hb hbytes d0) rfl ?_
    refine XS.aloadN X0.here hexec rfl (hb hbytes d1) rfl rfl ?_
    refine X0.alen hexec (hV.mv X0.warmed.alike hh0) rfl rfl (hb hbytes d2) ?_
    exact Steps.refl _)
  obtain ⟨v3, T3, X3, E3, g3⟩ := X0.callS hexec (JO.Str_checkIndex.law l (Int32.ofNat i) (Int32.ofNat V.slots.size) fm) hown (wks W (staticW "java/lang/StringLatin1" 9 JO.Str_checkIndex.yN)) (wk W JO.Str_checkIndex.tab) (W := 0) (Nat.le_of_ble_eq_true rfl) (Nat.le_of_ble_eq_true rfl) (Nat.le_refl _) (Nat.le_refl _) (g := (mkF m 3 #[.val (.ref t), .val (.int (Int32.ofNat i))] [.int (Int32.ofNat V.slots.size), .int (Int32.ofNat i)])) rfl (by rw [hml]; rfl) c2 (argsL := [.int (Int32.ofNat i), .int (Int32.ofNat V.slots.size)]) (rest := []) rfl rfl (by show 2 * 0 + 0 ≤ _; decide) (hb hbytes d3) (⟨rfl, rf, s1.there X0.warmed.alike hh0, Int32.ofNat_not_neg (by omega), lt32 v31 hi⟩)
  obtain ⟨rfl, q3⟩ := E3
  have hh3 := q3.trans hh0
  have c4 : Steps p.tables e below (s₁.setTop (entryFrame m #[.ref t, .int (Int32.ofNat i)] 2)) (T3.setTop (mkF m 14 #[.val (.ref t), .val (.int (Int32.ofNat i))] [.int (chr8 u)])) := Steps.trans g3 (by
    refine XS.aloadN X3.here hexec rfl (hb hbytes d6) rfl rfl ?_
    refine XS.iloadN X3.here hexec rfl (hb hbytes d7) rfl ?_
    refine X3.aget hexec (hV.mv X3.warmed.alike hh3) rfl hu rfl rfl (hb hbytes d8) ?_
    refine sipushV X3.here hexec rfl 255 (hb hbytes d9) (by decide) ?_
    refine XS.iand X3.here hexec rfl (hb hbytes d12) rfl ?_
    refine i2c X3.here hexec rfl (hb hbytes d13) rfl ?_
    exact Steps.refl _)
  exact ⟨T3, some (.int (chr8 u)), _, _, _, X3, rfl, rfl, rfl, (fun h => by cases h), ⟨rfl, hh3⟩, fun fs hl => c4.trans (X3.ireturnOut hexec hret (narrow_c _) (Or.inr (Or.inr (Or.inr (Or.inl rfl)))) (hb hbytes d14) hl)⟩
end LChA
end StrChars
namespace StrChars.Road
open Jvm Sem ClassFile Op Lib Jvm.Stand Jvm.Free Jvm.Free.XT
open Jvm.Lib.Cold (StaticIs)
theorem consq {a : Array Value} {s : State} {c : Jvm.Cond} {L : List Jvm.Cond} (h0 : c.before a s = true) (h : ∀ w ∈ L, w.before a s = true) : ∀ w ∈ c :: L, w.before a s = true := fun w hw => (List.mem_cons.mp hw).elim (fun e => e ▸ h0) (h w)
abbrev wordsLen : List Jvm.Cond := [.code Len.yN Len.yB 1 (some .int), .initialized ST, .fieldLink ST 9 ST "value" "[B", .fieldLink ST 38 ST "COMPACT_STRINGS" "Z", .fieldLink ST 15 ST "coder" "B", .code Cdr.yN Cdr.yB 1 (some .byte), .methodLink ST 335 Cdr.yN, .declares Cdr.yN, .selects ST Cdr.yN Cdr.yN, .instanceMethod Cdr.yN]
theorem tabLen_of {a : Array Value} {s : State} (h : ∀ w ∈ wordsLen, w.before a s = true) : Len.tab.before a s = true := by
  have hc : Cdr.tab.before a s = true := unparts (wk h (.code Cdr.yN Cdr.yB 1 (some .byte))) (wks h (.initialized Cdr.yN.cls :: Cdr.site))
  have q := consq hc h
  exact unparts (wk q (.code Len.yN Len.yB 1 (some .int))) (wks q (.initialized Len.yN.cls :: Len.site))
theorem movedLen {Z s : State} {a0 args : Array Value} (hZ : Z.Warmed39 s.vm) (hw : ∀ d ∈ wordsLen, d.before a0 Z = true) : ∀ d ∈ wordsLen, d.before args s = true := fun d hd => by
  have q := hw d hd
  have t : ∀ d ∈ wordsLen, d = .arrayClass .byte ∨ (d.onTables && d.keepsFace) = true := by decide +kernel
  rcases t d hd with rfl | t
  · exact RoadKit.mvA hZ q
  · exact RoadKit.mv hZ q t
def wideBytes : List Int32 → List Value
  | [] => []
  | c :: cs => .int (lo8 c) :: .int (hi8 c) :: wideBytes cs
theorem wide_lo (d : Value) : ∀ (cs : List Int32) (j : Nat), j < cs.length → (wideBytes cs).getD (2 * j) d = .int (lo8 (cs.getD j 0))
  | [], j, h => absurd h (Nat.not_lt_zero j)
  | c :: cs, 0, _ => rfl
  | c :: cs, j + 1, h => by
    have q := wide_lo d cs j (by simpa using h)
    rw [show 2 * (j + 1) = 2 * j + 1 + 1 from by omega]
    simpa [wideBytes] using q
theorem wide_hi (d : Value) : ∀ (cs : List Int32) (j : Nat), j < cs.length → (wideBytes cs).getD (2 * j + 1) d = .int (hi8 (cs.getD j 0))
  | [], j, h => absurd h (Nat.not_lt_zero j)
  | c :: cs, 0, _ => rfl
  | c :: cs, j + 1, h => by
    have q := wide_hi d cs j (by simpa using h)
    rw [show 2 * (j + 1) + 1 = 2 * j + 1 + 1 + 1 from by omega]
    simpa [wideBytes] using q
theorem low_at (d : Value) (cs : List Int32) (j : Nat) (h : j < cs.length) : (cs.map fun c => Value.int (lo8 c)).getD j d = .int (lo8 (cs.getD j 0)) := by
  simp [List.getD_eq_getElem?_getD, h]
def CodA (cs : List Int32) (cd N2 : Int32) (vs : List Value) : Prop := (cd = 0 ∧ N2 = Int32.ofNat cs.length ∧ vs = (cs.map fun c => Value.int (lo8 c)) ∧ ∀ c ∈ cs, ¬ 255 < c) ∨ (cd = 1 ∧ N2 = Int32.ofNat (2 * cs.length) ∧ vs = wideBytes cs ∧ ∃ c ∈ cs, 255 < c)
theorem CodA.cod {cs : List Int32} {cd N2 : Int32} {vs : List Value} {V : Cell} (h : CodA cs cd N2 vs) (hn : 2 * cs.length < 2 ^ 31) (hs : V.slots.size = N2.toNatClampNeg) (hv : RoadKit.Has V vs (.int 0)) : Cod cd cs.length (fun j => cs.getD j 0) V := by
  rcases h with ⟨rfl, rfl, rfl, h⟩ | ⟨rfl, rfl, rfl, c, hc, hw⟩
  · rw [n32 (by omega)] at hs
    exact Or.inl ⟨rfl, hs, fun j hj => ⟨by rw [hv j (by omega), low_at _ _ _ hj], by
      have e : cs.getD j 0 = cs[j] := by simp [List.getD_eq_getElem?_getD, hj]
      show ¬ 255 < cs.getD j 0
      rw [e]; exact h _ (List.getElem_mem _)⟩⟩
  · rw [n32 (by omega)] at hs
    obtain ⟨j, hj, rfl⟩ := List.getElem_of_mem hc
    exact Or.inr ⟨rfl, hs, fun j hj => ⟨by rw [hv _ (by omega), wide_lo _ _ _ hj], by rw [hv _ (by omega), wide_hi _ _ _ hj]⟩, j, hj, by
      have e : cs.getD j 0 = cs[j] := by simp [List.getD_eq_getElem?_getD, hj]
      show 255 < cs.getD j 0
      rw [e]; exact hw⟩
theorem strObj {Z U : State} {a0 : Array Value} {kI : Nat} (wi : (Jvm.Cond.instantiable ST kI).before a0 Z = true) (al : Z.vm.Alike U.vm) {x : Addr} {v0 c0 : Value} (E : RoadKit.Exa Z U.heap x ST) (V : RoadKit.Fld Z U.heap x ST "value" "[B" v0) (C : RoadKit.Fld Z U.heap x ST "coder" "B" c0) :
    ∃ (D : Cell) (fV fC : Field), Blank ST x D U ∧ Found ST "value" "[B" fV U ∧ Found ST "coder" "B" fC U ∧ D.slots[fV.slot]? = some v0 ∧ D.slots[fC.slot]? = some c0 ∧ RoadKit.slotOf Z ST "value" "[B" = fV.slot ∧ RoadKit.slotOf Z ST "coder" "B" = fC.slot := by
  obtain ⟨D, cfV, kV, iV, fV, hD, gV, stV, knV, obV, asV, slV⟩ := V
  obtain ⟨D', cfC, kC, iC, fC, hD', gC, stC, -, -, asC, slC⟩ := C
  cases hD.symm.trans hD'
  obtain ⟨D2, kD, e1, e2, e3, e4, e5⟩ := E
  cases hD.symm.trans e1
  obtain ⟨c2, k2, i1, i2, i3, -⟩ := Cond.instantiable_spec wi
  cases e2.symm.trans i1
  cases e3.symm.trans i2
  obtain ⟨kU, u1, u2⟩ := al.2.2 _ _ e3
  exact ⟨D, fV, fC, ⟨hD, ⟨knV, fun q hq => by rw [hq] at obV; cases obV⟩, by rw [al.findClass]; exact e2, kU, u1, by rw [u2]; exact i3, by rw [u2]; exact e5 i3⟩, ⟨SBG.found_only al ⟨cfV, kV, iV, gV⟩, stV⟩, ⟨SBG.found_only al ⟨cfC, kC, iC, gC⟩, stC⟩, slV, slC, by simp [RoadKit.slotOf, gV], by simp [RoadKit.slotOf, gC]⟩
theorem sta_is {Z U : State} (al : Z.vm.Alike U.vm) {C n d : String} {v : Value} (S : RoadKit.Sta Z U.heap C n d v) : StaticIs U C n d v := by
  obtain ⟨cfS, iS, kS, fS, st, cS, t1, t2, t3, t4, t5, t6, t7⟩ := S
  exact StaticIs.there (s := { Z with heap := U.heap }) ⟨cfS, iS, kS, fS, st, cS, t1, t2, t3, t4, t5, (fun q => by rw [q] at t6; cases t6), t7⟩ al rfl
theorem lenW {p : Program} {l : Launch} {e : Env} {R : Room} {s : State} {args : Array Value} {below : List Frame} {len W : Nat} {Z : State} {a0 : Array Value} {h : Heap} (hZ : Z.Warmed39 s.vm) (hw : ∀ d ∈ wordsLen, d.before a0 Z = true) {kI : Nat} (wi : (Jvm.Cond.instantiable ST kI).before a0 Z = true)
    {x t : Addr} {kb : ClassId} {cs : List Int32} {cd N2 z : Int32} {vs : List Value} (E : RoadKit.Exa Z h x ST) (V : RoadKit.Fld Z h x ST "value" "[B" (.ref t)) (C : RoadKit.Fld Z h x ST "coder" "B" (.int cd)) (K : RoadKit.Arv Z h t kb .byte N2 vs (.int 0)) (hc : CodA cs cd N2 vs) (hb : ∀ c ∈ cs, ¬ c < 0 ∧ ¬ (65535 : Int32) < c)
    (S : RoadKit.Sta Z h ST "COMPACT_STRINGS" "Z" (.int z)) (hz : ¬ z = 0) (l2 : cs.length ≤ 4000) (hfr : 2 ≤ R.frames) (hlo : W + 25 ≤ R.locals) :
    Back l R p e below s args (⟨"java/lang/String", "length", "()I"⟩ : MethodName) len W (fun P a => a = #[.ref x] ∧ P.U.heap = h ∧ P.cells + 0 ≤ R.cells ∧ P.slots + 0 ≤ R.slots)
      (fun P _ v B => ∃ L, (v = some (.int (Int32.ofNat cs.length)) ∧ L = [] ∧ B.U.heap = h) ∧ B.locs = P.locs ++ L ∧ B.cells = P.cells + 0 ∧ B.slots = P.slots + 0) := by
  obtain ⟨A, K1, K2, K3, K4, K5, K6⟩ := K
  have hcod := hc.cod (by omega) K3 K5
  intro m meth c P g ig mk a X hg hsize hdg hW hn hp'
  obtain ⟨rfl, rfl, r1, r2⟩ := hp'
  have al : Z.vm.Alike P.U.vm := hZ.alike.trans X.warmed.alike
  obtain ⟨D, fV, fC, hB, F1, F2, g1, g2, -, -⟩ := strObj wi al E V C
  have hx : Txt x t A cd cs.length (fun j => cs.getD j 0) P.U := ⟨⟨_, hB.2.2.1, D, hB.1, rfl, by cases q : D.vm <;> first | rfl | exact absurd q (hB.2.1.2 _)⟩, Has.of hB F1 g1, Has.of hB F2 g2, ⟨K1.1, State.isArrayOf_alike al K1.2.1, K1.2.2, by rcases hcod with ⟨-, q, -⟩ | ⟨-, q, -⟩ <;> omega⟩, hcod, fun j hj => by
    have e : cs.getD j 0 = cs[j] := by simp [List.getD_eq_getElem?_getD, hj]
    show ¬ cs.getD j 0 < 0 ∧ ¬ 65535 < cs.getD j 0
    rw [e]; exact hb _ (List.getElem_mem _)⟩
  obtain ⟨v, B, X', ⟨⟨hv, hh⟩, hl, hk, hs⟩, st⟩ := Len.pays x t A cd cs.length (fun j => cs.getD j 0) z (tabLen_of (movedLen hZ hw)) hfr hlo m meth c P g ig mk _ X hg hsize hdg hW hn ⟨r1, r2, rfl, hx, sta_is al S, hz⟩
  exact ⟨v, B, X', ⟨[], ⟨hv, rfl, hh⟩, hl, hk, hs⟩, st⟩
end StrChars.Road
namespace StrChars
open Jvm Sem ClassFile Op Lib Jvm.Stand Jvm.Free.XT Jvm.Free.ALB Jvm.Free.JM Jvm.Free
open Jvm.Lib.Cold (StaticIs)
def yv (A : Cell) (i : Nat) : Int32 := match A.slots[i]? with | some (.int x) => x | _ => 0
theorem yv_get {a : Addr} {A : Cell} {U : State} (h : XT.Arr .byte a A U) (ht : Typed .byte A) {i : Nat} (hi : i < A.slots.size) : A.slots[i]? = some (.int (yv A i)) := by
  have e := Array.getElem?_eq_getElem hi
  have f := ht i _ e
  unfold yv; rw [e]
  generalize A.slots[i] = v at f
  cases v <;> simp [fits] at f ⊢
def EqC (A B : Cell) : Prop := A.slots.size = B.slots.size ∧ ∀ i, i < A.slots.size → yv A i = yv B i
def Says01 (q : Prop) (r : Option Value) (s u : State) : Prop := ∃ v : Int32, r = some (.int v) ∧ u.heap = s.heap ∧ ((v = 1 ∧ q) ∨ (v = 0 ∧ ¬ q))
theorem Says01.mv {q : Prop} : ∀ r (U U' V V' : State), U'.heap = U.heap → V.vm.Alike V'.vm → V'.heap = V.heap → Says01 q r U V → Says01 q r U' V' :=
  fun r U U' V V' h1 _ h2 ⟨v, a, b, c⟩ => ⟨v, a, by rw [h1, h2]; exact b, c⟩
namespace LEq
def yN : MethodName := ⟨"java/lang/StringLatin1", "equals", "([B[B)Z"⟩
abbrev yB : ByteArray := jdk_43_method_13_code
theorem d0 : decode yB 0 = .ok (.aload_n 0, 1) := by decide +kernel
theorem d1 : decode yB 1 = .ok (.arraylength, 1) := by decide +kernel
theorem d2 : decode yB 2 = .ok (.aload_n 1, 1) := by decide +kernel
theorem d3 : decode yB 3 = .ok (.arraylength, 1) := by decide +kernel
theorem d4 : decode yB 4 = .ok (.if_icmp (.ne) 30, 3) := by decide +kernel
theorem d7 : decode yB 7 = .ok (.iconst 0, 1) := by decide +kernel
theorem d8 : decode yB 8 = .ok (.istore_n 2, 1) := by decide +kernel
theorem d9 : decode yB 9 = .ok (.iload_n 2, 1) := by decide +kernel
theorem d10 : decode yB 10 = .ok (.aload_n 0, 1) := by decide +kernel
theorem d11 : decode yB 11 = .ok (.arraylength, 1) := by decide +kernel
theorem d12 : decode yB 12 = .ok (.if_icmp (.ge) 20, 3) := by decide +kernel
theorem d15 : decode yB 15 = .ok (.aload_n 0, 1) := by decide +kernel
theorem d16 : decode yB 16 = .ok (.iload_n 2, 1) := by decide +kernel
theorem d17 : decode yB 17 = .ok (.baload, 1) := by decide +kernel
theorem d18 : decode yB 18 = .ok (.aload_n 1, 1) := by decide +kernel
theorem d19 : decode yB 19 = .ok (.iload_n 2, 1) := by decide +kernel
theorem d20 : decode yB 20 = .ok (.baload, 1) := by decide +kernel
theorem d21 : decode yB 21 = .ok (.if_icmp (.eq) 5, 3) := by decide +kernel
theorem d24 : decode yB 24 = .ok (.iconst 0, 1) := by decide +kernel
theorem d25 : decode yB 25 = .ok (.ireturn, 1) := by decide +kernel
theorem d26 : decode yB 26 = .ok (.iinc 2 1, 3) := by decide +kernel
theorem d29 : decode yB 29 = .ok (.goto (-20), 3) := by decide +kernel
theorem d32 : decode yB 32 = .ok (.iconst 1, 1) := by decide +kernel
theorem d33 : decode yB 33 = .ok (.ireturn, 1) := by decide +kernel
theorem d34 : decode yB 34 = .ok (.iconst 0, 1) := by decide +kernel
theorem d35 : decode yB 35 = .ok (.ireturn, 1) := by decide +kernel
def site : List Cond := []
def tab : Cond := tabOf yN yB 3 (some .boolean) site
def P (a : Addr) (A : Cell) (b : Addr) (B : Cell) (args : Array Value) (s : State) : Prop := args = #[.ref a, .ref b] ∧ XT.Arr .byte a A s ∧ Typed .byte A ∧ XT.Arr .byte b B s ∧ Typed .byte B
theorem law (l : Launch) (a : Addr) (A : Cell) (b : Addr) (B : Cell) : Law l yN 2 2 0 0 yB 3 (some .boolean) site (P a A b B) (Says01 (EqC A B)) [] 0 0 := by
  refine Law.of_walk (plainFor_of_name (by decide +kernel)) (by decide +kernel) (by decide +kernel) (by decide) (fun _ _ h => by rw [h.1]; rfl) (fun _ U U' hal hh h => ⟨h.1, h.2.1.mv hal hh, h.2.2.1, h.2.2.2.1.mv hal hh, h.2.2.2.2⟩) (fun r U U' V V' h1 hal h2 h => Says01.mv r U U' V V' h1 hal h2 h) ?_
  intro p e s m args below meth c s₁ X0 hexec hbytes hml hret hlk hnm hown hh0 W hP
  obtain ⟨rfl, hA, tA, hB, tB⟩ := hP
  have a31 := hA.2.2.2
  have b31 := hB.2.2.2
  have hA0 := hA.mv X0.warmed.alike hh0
  have hB0 := hB.mv X0.warmed.alike hh0
  have c1 : Steps p.tables e below (s₁.setTop (entryFrame m #[.ref a, .ref b] 3)) (s₁.setTop (mkF m 0 #[.val (.ref a), .val (.ref b), .unset] [])) := entry rfl
  have c2 : Steps p.tables e below (s₁.setTop (entryFrame m #[.ref a, .ref b] 3)) (s₁.setTop (mkF m 4 #[.val (.ref a), .val (.ref b), .unset] [.int (Int32.ofNat B.slots.size), .int (Int32.ofNat A.slots.size)])) := c1.trans (by
    refine XS.aloadN X0.here hexec rfl (hb hbytes d0) rfl rfl ?_
    refine X0.alen hexec hA0 rfl rfl (hb hbytes d1) ?_
    refine XS.aloadN X0.here hexec rfl (hb hbytes d2) rfl rfl ?_
    refine X0.alen hexec hB0 rfl rfl (hb hbytes d3) ?_
    exact Steps.refl _)
  by_cases hs : A.slots.size = B.slots.size
  · have c3 : Steps p.tables e below (s₁.setTop (entryFrame m #[.ref a, .ref b] 3)) (s₁.setTop (mkF m 9 #[.val (.ref a), .val (.ref b), .val (.int 0)] [])) := c2.trans (by
      refine XS.icmpNo X0.here hexec rfl (hb hbytes d4) rfl (ii_ne_f (by rw [hs])) ?_
      refine iconstV X0.here hexec rfl 0 (hb hbytes d7) (by decide) ?_
      refine XS.istoreN X0.here hexec rfl (hb hbytes d8) rfl rfl ?_
      exact Steps.refl _)
    have loop : ∀ (r i : Nat), i + r = A.slots.size → (∀ j, j < i → yv A j = yv B j) → Steps p.tables e below (s₁.setTop (entryFrame m #[.ref a, .ref b] 3)) (s₁.setTop (mkF m 9 #[.val (.ref a), .val (.ref b), .val (.int (Int32.ofNat i))] [])) → ∃ (pc : Nat) (Ls : Array Slot) (v : Int32), (pc = 25 ∨ pc = 33) ∧ ((v = 1 ∧ EqC A B) ∨ (v = 0 ∧ ¬ EqC A B)) ∧ Steps p.tables e below (s₁.setTop (entryFrame m #[.ref a, .ref b] 3)) (s₁.setTop (mkF m pc Ls [.int v])) := by
      intro r
      induction r with
      | zero =>
        intro i hi he cl
        exact ⟨33, _, 1, Or.inr rfl, Or.inl ⟨rfl, hs, fun j hj => he j (by omega)⟩, cl.trans (by
          refine XS.iloadN X0.here hexec rfl (hb hbytes d9) rfl ?_
          refine XS.aloadN X0.here hexec rfl (hb hbytes d10) rfl rfl ?_
          refine X0.alen hexec hA0 rfl rfl (hb hbytes d11) ?_
          refine XS.icmpYes X0.here hexec rfl (pc0 := 12) rfl (hb hbytes d12) rfl (ii_ge_t (nlt32 (by omega) (by omega))) (by decide) rfl ?_
          refine iconstV X0.here hexec rfl 1 (hb hbytes d32) (by decide) ?_
          exact Steps.refl _)⟩
      | succ r ih =>
        intro i hi he cl
        have c4 : Steps p.tables e below (s₁.setTop (entryFrame m #[.ref a, .ref b] 3)) (s₁.setTop (mkF m 21 #[.val (.ref a), .val (.ref b), .val (.int (Int32.ofNat i))] [.int (yv B i), .int (yv A i)])) := cl.trans (by
          refine XS.iloadN X0.here hexec rfl (hb hbytes d9) rfl ?_
          refine XS.aloadN X0.here hexec rfl (hb hbytes d10) rfl rfl ?_
          refine X0.alen hexec hA0 rfl rfl (hb hbytes d11) ?_
          refine XS.icmpNo X0.here hexec rfl (hb hbytes d12) rfl (ii_ge_f (lt32 (by omega) (by omega))) ?_
          refine XS.aloadN X0.here hexec rfl (hb hbytes d15) rfl rfl ?_
          refine XS.iloadN X0.here hexec rfl (hb hbytes d16) rfl ?_
          refine X0.aget hexec hA0 rfl (yv_get hA tA (i := i) (by omega)) rfl rfl (hb hbytes d17) ?_
          refine XS.aloadN X0.here hexec rfl (hb hbytes d18) rfl rfl ?_
          refine XS.iloadN X0.here hexec rfl (hb hbytes d19) rfl ?_
          refine X0.aget hexec hB0 rfl (yv_get hB tB (i := i) (by omega)) rfl rfl (hb hbytes d20) ?_
          exact Steps.refl _)
        by_cases hv : yv A i = yv B i
        · have c5 : Steps p.tables e below (s₁.setTop (entryFrame m #[.ref a, .ref b] 3)) (s₁.setTop (mkF m 9 #[.val (.ref a), .val (.ref b), .val (.int (Int32.ofNat i + 1))] [])) := c4.trans (by
            refine XS.icmpYes X0.here hexec rfl (pc0 := 21) rfl (hb hbytes d21) rfl (ii_eq_t hv) (by decide) rfl ?_
            refine iincV X0.here hexec rfl 1 (hb hbytes d26) (by decide) rfl rfl ?_
            refine XS.goto X0.here hexec rfl (pc0 := 29) rfl (hb hbytes d29) (by decide) rfl ?_
            exact Steps.refl _)
          rw [succ32] at c5
          exact ih (i + 1) (by omega) (fun j hj => by
            by_cases e : j = i
            · rw [e]; exact hv
            · exact he j (by omega)) c5
        · exact ⟨25, _, 0, Or.inl rfl, Or.inr ⟨rfl, fun q => hv (q.2 i (by omega))⟩, c4.trans (by
            refine XS.icmpNo X0.here hexec rfl (hb hbytes d21) rfl (ii_eq_f hv) ?_
            refine iconstV X0.here hexec rfl 0 (hb hbytes d24) (by decide) ?_
            exact Steps.refl _)⟩
    obtain ⟨pc, Ls, v, hpc, hv, cz⟩ := loop A.slots.size 0 (by omega) (fun j hj => absurd hj (Nat.not_lt_zero j)) c3
    have nv : narrow .boolean (.int v) = .int v := by rcases hv with ⟨rfl, -⟩ | ⟨rfl, -⟩ <;> rfl
    rcases hpc with rfl | rfl
    · exact ⟨s₁, some (.int v), _, _, _, X0, rfl, rfl, rfl, (fun h => by cases h), ⟨v, rfl, hh0, hv⟩, fun fs hl => cz.trans (X0.ireturnOut hexec hret nv (Or.inr (Or.inl rfl)) (hb hbytes d25) hl)⟩
    · exact ⟨s₁, some (.int v), _, _, _, X0, rfl, rfl, rfl, (fun h => by cases h), ⟨v, rfl, hh0, hv⟩, fun fs hl => cz.trans (X0.ireturnOut hexec hret nv (Or.inr (Or.inl rfl)) (hb hbytes d33) hl)⟩
  · have c3 : Steps p.tables e below (s₁.setTop (entryFrame m #[.ref a, .ref b] 3)) (s₁.setTop (mkF m 35 #[.val (.ref a), .val (.ref b), .unset] [.int 0])) := c2.trans (by
      refine XS.icmpYes X0.here hexec rfl (pc0 := 4) rfl (hb hbytes d4) rfl (ii_ne_t (ne32 a31 b31 hs)) (by decide) rfl ?_
      refine iconstV X0.here hexec rfl 0 (hb hbytes d34) (by decide) ?_
      exact Steps.refl _)
    exact ⟨s₁, some (.int 0), _, _, _, X0, rfl, rfl, rfl, (fun h => by cases h), ⟨0, rfl, hh0, Or.inr ⟨rfl, fun q => hs q.1⟩⟩, fun fs hl => c3.trans (X0.ireturnOut hexec hret rfl (Or.inr (Or.inl rfl)) (hb hbytes d35) hl)⟩
end LEq
theorem Cod.ty {cd : Int32} {n : Nat} {f : Nat → Int32} {V : Cell} (h : Cod cd n f V) : Typed .byte V := fun i v hv => by
  have hi : i < V.slots.size := (Array.getElem?_eq_some_iff.mp hv).1
  rcases h with ⟨-, k1, k2⟩ | ⟨-, k1, k2, -⟩
  · rw [(k2 i (by omega)).1] at hv; cases hv; exact fits_lo8 _
  · rcases Nat.mod_two_eq_zero_or_one i with e | e
    · obtain ⟨j, rfl⟩ : ∃ j, i = 2 * j := ⟨i / 2, by omega⟩
      rw [(k2 j (by omega)).1] at hv; cases hv; exact fits_lo8 _
    · obtain ⟨j, rfl⟩ : ∃ j, i = 2 * j + 1 := ⟨i / 2, by omega⟩
      rw [(k2 j (by omega)).2] at hv; cases hv; exact fits_lo8 _
def SameT (n : Nat) (f : Nat → Int32) (k : Nat) (g : Nat → Int32) : Prop := n = k ∧ ∀ j, j < n → f j = g j
theorem lo8_inj {x y : Int32} (h0 : ¬ x < 0) (h1 : ¬ 255 < x) (k0 : ¬ y < 0) (k1 : ¬ 255 < y) (h : lo8 x = lo8 y) : x = y := by
  rw [← lo8_mask h0 h1, ← lo8_mask k0 k1, h]
theorem Cod.eqv {cd : Int32} {n k : Nat} {f g : Nat → Int32} {V V' : Cell} (h : Cod cd n f V) (h' : Cod cd k g V') (hf : ∀ j, j < n → ¬ f j < 0 ∧ ¬ 65535 < f j) (hg : ∀ j, j < k → ¬ g j < 0 ∧ ¬ 65535 < g j) : EqC V V' ↔ SameT n f k g := by
  have yvv : ∀ {W : Cell} {i : Nat} {x : Int32}, W.slots[i]? = some (.int x) → yv W i = x := fun q => by unfold yv; rw [q]
  rcases h with ⟨rfl, k1, k2⟩ | ⟨rfl, k1, k2, -⟩
  · rcases h' with ⟨-, m1, m2⟩ | ⟨e, -⟩
    · constructor
      · rintro ⟨e1, e2⟩
        refine ⟨by omega, fun j hj => ?_⟩
        have q := e2 j (by omega)
        rw [yvv (k2 j hj).1, yvv (m2 j (by omega)).1] at q
        exact lo8_inj (hf j hj).1 (k2 j hj).2 (hg j (by omega)).1 (m2 j (by omega)).2 q
      · rintro ⟨rfl, e2⟩
        refine ⟨by omega, fun j hj => ?_⟩
        rw [yvv (k2 j (by omega)).1, yvv (m2 j (by omega)).1, e2 j (by omega)]
    · exact absurd e (by decide)
  · rcases h' with ⟨e, -⟩ | ⟨-, m1, m2, -⟩
    · exact absurd e (by decide)
    · constructor
      · rintro ⟨e1, e2⟩
        refine ⟨by omega, fun j hj => ?_⟩
        have q1 := e2 (2 * j) (by omega)
        have q2 := e2 (2 * j + 1) (by omega)
        rw [yvv (k2 j hj).1, yvv (m2 j (by omega)).1] at q1
        rw [yvv (k2 j hj).2, yvv (m2 j (by omega)).2] at q2
        rw [← pair_says (hf j hj).1 (hf j hj).2, ← pair_says (hg j (by omega)).1 (hg j (by omega)).2, q1, q2]
      · rintro ⟨rfl, e2⟩
        refine ⟨by omega, fun i hi => ?_⟩
        rcases Nat.mod_two_eq_zero_or_one i with e | e
        · obtain ⟨j, rfl⟩ : ∃ j, i = 2 * j := ⟨i / 2, by omega⟩
          rw [yvv (k2 j (by omega)).1, yvv (m2 j (by omega)).1, e2 j (by omega)]
        · obtain ⟨j, rfl⟩ : ∃ j, i = 2 * j + 1 := ⟨i / 2, by omega⟩
          rw [yvv (k2 j (by omega)).2, yvv (m2 j (by omega)).2, e2 j (by omega)]
theorem Cod.dif {cd cd' : Int32} {n k : Nat} {f g : Nat → Int32} {V V' : Cell} (h : Cod cd n f V) (h' : Cod cd' k g V') (hne : ¬ cd = cd') : ¬ SameT n f k g := by
  rintro ⟨rfl, e⟩
  rcases h with ⟨rfl, -, k2⟩ | ⟨rfl, -, -, j, hj, hw⟩
  · rcases h' with ⟨rfl, -⟩ | ⟨-, -, -, j, hj, hw⟩
    · exact hne rfl
    · exact (k2 j hj).2 (by rw [e j hj]; exact hw)
  · rcases h' with ⟨-, -, m2⟩ | ⟨rfl, -⟩
    · exact (m2 j hj).2 (by rw [← e j hj]; exact hw)
    · exact hne rfl
theorem cinst {p : Program} {l : Launch} {e : Env} {R : Room} {s : State} {m : MethodId} {args : Array Value} {below : List Frame} {meth : Method} {c : Code} {T : State} {locs : List Loc} {cells slots : Nat} (X : Stand p l e R s m args below meth c T locs cells slots) (hexec : p.tables.exec = Jvm.exec) {own C : String} {index : Nat} (hown : s.vm.findClass own = some m.cls) (hlink : (Cond.classLink own index C).before args s = true) {a : Addr} (hE : Exact C a T)
    {g : JFrame} (hg : g.method = m) {rest : List Value} (hstack : g.stack = .ref a :: rest) (hdg : decode c.code g.pc = .ok (.instanceof index, 3)) :
    ∃ T', Stand p l e R s m args below meth c T' locs cells slots ∧ T'.heap = T.heap ∧ ∀ target, Steps p.tables e below (T'.setTop { g with pc := g.pc + 3, stack := .int 1 :: rest }) target → Steps p.tables e below (T.setTop g) target := by
  obtain ⟨cB, h1, D, h2, h3, h4⟩ := hE
  have h1' : s.vm.findClass C = some cB := by rw [← X.warmed.alike.findClass]; exact h1
  obtain ⟨vm', X', st⟩ := X.instanceofYes hexec hown hlink h2 h4 h1' (by rw [h3]; exact Jvm.Free.SB.assignable_self _ _) hg hstack hdg
  exact ⟨_, X', rfl, st⟩
theorem cself {p : Program} {l : Launch} {e : Env} {R : Room} {s : State} {m : MethodId} {args : Array Value} {below : List Frame} {meth : Method} {c : Code} {T : State} {locs : List Loc} {cells slots : Nat} (X : Stand p l e R s m args below meth c T locs cells slots) (hexec : p.tables.exec = Jvm.exec) {own C : String} {index : Nat} (hown : s.vm.findClass own = some m.cls) (hlink : (Cond.classLink own index C).before args s = true) {a : Addr} (hE : Exact C a T)
    {g : JFrame} (hg : g.method = m) {rest : List Value} (hstack : g.stack = .ref a :: rest) (hdg : decode c.code g.pc = .ok (.checkcast index, 3)) :
    ∃ T', Stand p l e R s m args below meth c T' locs cells slots ∧ T'.heap = T.heap ∧ ∀ target, Steps p.tables e below (T'.setTop { g with pc := g.pc + 3, stack := .ref a :: rest }) target → Steps p.tables e below (T.setTop g) target := by
  obtain ⟨cB, h1, D, h2, h3, h4⟩ := hE
  have h1' : s.vm.findClass C = some cB := by rw [← X.warmed.alike.findClass]; exact h1
  obtain ⟨vm', X', st⟩ := X.checkcastYes hexec hown hlink h2 h4 h1' (by rw [h3]; exact Jvm.Free.SB.assignable_self _ _) hg hstack hdg
  exact ⟨_, X', rfl, fun t h => st t (by rw [← hstack] at h; exact h)⟩
namespace SEq
def yN : MethodName := ⟨"java/lang/String", "equals", "(Ljava/lang/Object;)Z"⟩
abbrev yB : ByteArray := jdk_42_method_66_code
theorem d0 : decode yB 0 = .ok (.aload_n 0, 1) := by decide +kernel
theorem d1 : decode yB 1 = .ok (.aload_n 1, 1) := by decide +kernel
theorem d2 : decode yB 2 = .ok (.if_acmp (.ne) 5, 3) := by decide +kernel
theorem d5 : decode yB 5 = .ok (.iconst 1, 1) := by decide +kernel
theorem d6 : decode yB 6 = .ok (.ireturn, 1) := by decide +kernel
theorem d7 : decode yB 7 = .ok (.aload_n 1, 1) := by decide +kernel
theorem d8 : decode yB 8 = .ok (.instanceof 10, 3) := by decide +kernel
theorem d11 : decode yB 11 = .ok (.ifCond (.eq) 43, 3) := by decide +kernel
theorem d14 : decode yB 14 = .ok (.aload_n 1, 1) := by decide +kernel
theorem d15 : decode yB 15 = .ok (.checkcast 10, 3) := by decide +kernel
theorem d18 : decode yB 18 = .ok (.astore_n 2, 1) := by decide +kernel
theorem d19 : decode yB 19 = .ok (.getstatic 38, 3) := by decide +kernel
theorem d22 : decode yB 22 = .ok (.ifCond (.eq) 14, 3) := by decide +kernel
theorem d25 : decode yB 25 = .ok (.aload_n 0, 1) := by decide +kernel
theorem d26 : decode yB 26 = .ok (.getfield 15, 3) := by decide +kernel
theorem d29 : decode yB 29 = .ok (.aload_n 2, 1) := by decide +kernel
theorem d30 : decode yB 30 = .ok (.getfield 15, 3) := by decide +kernel
theorem d33 : decode yB 33 = .ok (.if_icmp (.ne) 21, 3) := by decide +kernel
theorem d36 : decode yB 36 = .ok (.aload_n 0, 1) := by decide +kernel
theorem d37 : decode yB 37 = .ok (.getfield 9, 3) := by decide +kernel
theorem d40 : decode yB 40 = .ok (.aload_n 2, 1) := by decide +kernel
theorem d41 : decode yB 41 = .ok (.getfield 9, 3) := by decide +kernel
theorem d44 : decode yB 44 = .ok (.invokestatic 541, 3) := by decide +kernel
theorem d47 : decode yB 47 = .ok (.ifCond (.eq) 7, 3) := by decide +kernel
theorem d50 : decode yB 50 = .ok (.iconst 1, 1) := by decide +kernel
theorem d51 : decode yB 51 = .ok (.goto 4, 3) := by decide +kernel
theorem d54 : decode yB 54 = .ok (.iconst 0, 1) := by decide +kernel
theorem d55 : decode yB 55 = .ok (.ireturn, 1) := by decide +kernel
def site : List Cond := [.classLink "java/lang/String" 10 "java/lang/String", .fieldLink "java/lang/String" 38 "java/lang/String" "COMPACT_STRINGS" "Z", .fieldLink "java/lang/String" 15 "java/lang/String" "coder" "B", .fieldLink "java/lang/String" 9 "java/lang/String" "value" "[B", LEq.tab] ++ staticW "java/lang/String" 541 LEq.yN
def tab : Cond := tabOf yN yB 3 (some .boolean) site
def P (x t : Addr) (V : Cell) (cd : Int32) (n : Nat) (f : Nat → Int32) (y t' : Addr) (V' : Cell) (cd' : Int32) (k : Nat) (g : Nat → Int32) (z : Int32) (args : Array Value) (s : State) : Prop := args = #[.ref x, .ref y] ∧ Txt x t V cd n f s ∧ Txt y t' V' cd' k g s ∧ StaticIs s "java/lang/String" "COMPACT_STRINGS" "Z" (.int z) ∧ ¬ z = 0
theorem law (l : Launch) (x t : Addr) (V : Cell) (cd : Int32) (n : Nat) (f : Nat → Int32) (y t' : Addr) (V' : Cell) (cd' : Int32) (k : Nat) (g : Nat → Int32) (z : Int32) : Law l yN 2 1 1 14 yB 3 (some .boolean) site (P x t V cd n f y t' V' cd' k g z) (Says01 (SameT n f k g)) [] 0 0 := by
  refine Law.of_walk (plainFor_of_name (by decide +kernel)) (by decide +kernel) (by decide +kernel) (by decide) (fun _ _ h => by rw [h.1]; rfl) (fun _ U U' hal hh h => ⟨h.1, h.2.1.mv hal hh, h.2.2.1.mv hal hh, h.2.2.2.1.there hal hh, h.2.2.2.2⟩) (fun r U U' V V' h1 hal h2 h => Says01.mv r U U' V V' h1 hal h2 h) ?_
  intro p e s m args below meth c s₁ X0 hexec hbytes hml hret hlk hnm hown hh0 W hP
  obtain ⟨rfl, hx, hy, s1, hz⟩ := hP
  have c1 : Steps p.tables e below (s₁.setTop (entryFrame m #[.ref x, .ref y] 3)) (s₁.setTop (mkF m 2 #[.val (.ref x), .val (.ref y), .unset] [.ref y, .ref x])) := Steps.trans (entry rfl) (by
    show Steps p.tables e below (s₁.setTop (mkF m 0 #[.val (.ref x), .val (.ref y), .unset] [])) _
    refine XS.aloadN X0.here hexec rfl (hb hbytes d0) rfl rfl ?_
    refine XS.aloadN X0.here hexec rfl (hb hbytes d1) rfl rfl ?_
    exact Steps.refl _)
  by_cases hxy : x = y
  · have c2 : Steps p.tables e below (s₁.setTop (entryFrame m #[.ref x, .ref y] 3)) (s₁.setTop (mkF m 6 #[.val (.ref x), .val (.ref y), .unset] [.int 1])) := c1.trans (by
      refine acmpNo X0.here hexec rfl (hb hbytes d2) rfl rfl rfl (by simp [acmp, hxy]) ?_
      refine iconstV X0.here hexec rfl 1 (hb hbytes d5) (by decide) ?_
      exact Steps.refl _)
    subst hxy
    have ec : cd = cd' := by
      obtain ⟨D, fd, a1, a2, a3⟩ := hx.2.2.1
      obtain ⟨D', fd', b1, b2, b3⟩ := hy.2.2.1
      cases a1.symm.trans b1
      obtain ⟨q1, q2, q3, q4⟩ := a2.1
      obtain ⟨r1, r2, r3, r4⟩ := b2.1
      cases q4.symm.trans r4
      cases a3.symm.trans b3; rfl
    have et : t = t' := by
      obtain ⟨D, fd, a1, a2, a3⟩ := hx.2.1
      obtain ⟨D', fd', b1, b2, b3⟩ := hy.2.1
      cases a1.symm.trans b1
      obtain ⟨q1, q2, q3, q4⟩ := a2.1
      obtain ⟨r1, r2, r3, r4⟩ := b2.1
      cases q4.symm.trans r4
      cases a3.symm.trans b3; rfl
    subst ec et
    have ev : V = V' := by cases hx.2.2.2.1.1.symm.trans hy.2.2.2.1.1; rfl
    subst ev
    have hs : SameT n f k g := (Cod.eqv hx.2.2.2.2.1 hy.2.2.2.2.1 hx.2.2.2.2.2 hy.2.2.2.2.2).mp ⟨rfl, fun _ _ => rfl⟩
    exact ⟨s₁, some (.int 1), _, _, _, X0, rfl, rfl, rfl, (fun h => by cases h), ⟨1, rfl, hh0, Or.inl ⟨rfl, hs⟩⟩, fun fs hl => c2.trans (X0.ireturnOut hexec hret rfl (Or.inr (Or.inl rfl)) (hb hbytes d6) hl)⟩
  · have c2 : Steps p.tables e below (s₁.setTop (entryFrame m #[.ref x, .ref y] 3)) (s₁.setTop (mkF m 8 #[.val (.ref x), .val (.ref y), .unset] [.ref y])) := c1.trans (by
      refine acmpYes X0.here hexec rfl (pc0 := 2) rfl (hb hbytes d2) rfl rfl rfl (by simp [acmp, hxy]) (by decide) rfl ?_
      refine XS.aloadN X0.here hexec rfl (hb hbytes d7) rfl rfl ?_
      exact Steps.refl _)
    obtain ⟨T3, X3, q3, st3⟩ := cinst X0 hexec hown (wk W (.classLink "java/lang/String" 10 "java/lang/String")) (hy.mv X0.warmed.alike hh0).1 (g := (mkF m 8 #[.val (.ref x), .val (.ref y), .unset] [.ref y])) rfl (rest := []) rfl (hb hbytes d8)
    have hh3 := q3.trans hh0
    have c4 : Steps p.tables e below (s₁.setTop (entryFrame m #[.ref x, .ref y] 3)) (T3.setTop (mkF m 15 #[.val (.ref x), .val (.ref y), .unset] [.ref y])) := (c2.trans (st3 _ (Steps.refl _))).trans (by
      refine XS.ifNo X3.here hexec rfl (hb hbytes d11) rfl (i0_eq_f (by decide)) ?_
      refine XS.aloadN X3.here hexec rfl (hb hbytes d14) rfl rfl ?_
      exact Steps.refl _)
    obtain ⟨T5, X5, q5, st5⟩ := cself X3 hexec hown (wk W (.classLink "java/lang/String" 10 "java/lang/String")) (hy.mv X3.warmed.alike hh3).1 (g := (mkF m 15 #[.val (.ref x), .val (.ref y), .unset] [.ref y])) rfl (rest := []) rfl (hb hbytes d15)
    have hh5 := q5.trans hh3
    have c6 : Steps p.tables e below (s₁.setTop (entryFrame m #[.ref x, .ref y] 3)) (T5.setTop (mkF m 19 #[.val (.ref x), .val (.ref y), .val (.ref y)] [])) := (c4.trans (st5 _ (Steps.refl _))).trans (by
      refine XS.astoreN X5.here hexec rfl (hb hbytes d18) rfl rfl rfl ?_
      exact Steps.refl _)
    obtain ⟨T7, X7, q7, st7⟩ := X5.sget hexec hown (wk W (.fieldLink "java/lang/String" 38 "java/lang/String" "COMPACT_STRINGS" "Z")) s1 (fun _ _ h => by rw [hh5]; exact h) (g := (mkF m 19 #[.val (.ref x), .val (.ref y), .val (.ref y)] [])) rfl (hb hbytes d19)
    have hh7 := q7.trans hh5
    have c8 : Steps p.tables e below (s₁.setTop (entryFrame m #[.ref x, .ref y] 3)) (T7.setTop (mkF m 26 #[.val (.ref x), .val (.ref y), .val (.ref y)] [.ref x])) := (c6.trans (st7 _ (Steps.refl _))).trans (by
      refine XS.ifNo X7.here hexec rfl (hb hbytes d22) rfl (i0_eq_f hz) ?_
      refine XS.aloadN X7.here hexec rfl (hb hbytes d25) rfl rfl ?_
      exact Steps.refl _)
    obtain ⟨T9, X9, q9, st9⟩ := X7.hget hexec hown (wk W (.fieldLink "java/lang/String" 15 "java/lang/String" "coder" "B")) (hx.mv X7.warmed.alike hh7).2.2.1 (g := (mkF m 26 #[.val (.ref x), .val (.ref y), .val (.ref y)] [.ref x])) rfl (rest := []) rfl (hb hbytes d26)
    have hh9 := q9.trans hh7
    have c10 : Steps p.tables e below (s₁.setTop (entryFrame m #[.ref x, .ref y] 3)) (T9.setTop (mkF m 30 #[.val (.ref x), .val (.ref y), .val (.ref y)] [.ref y, .int cd])) := (c8.trans (st9 _ (Steps.refl _))).trans (by
      refine XS.aloadN X9.here hexec rfl (hb hbytes d29) rfl rfl ?_
      exact Steps.refl _)
    obtain ⟨T11, X11, q11, st11⟩ := X9.hget hexec hown (wk W (.fieldLink "java/lang/String" 15 "java/lang/String" "coder" "B")) (hy.mv X9.warmed.alike hh9).2.2.1 (g := (mkF m 30 #[.val (.ref x), .val (.ref y), .val (.ref y)] [.ref y, .int cd])) rfl (rest := [.int cd]) rfl (hb hbytes d30)
    have hh11 := q11.trans hh9
    have c12 : Steps p.tables e below (s₁.setTop (entryFrame m #[.ref x, .ref y] 3)) (T11.setTop (mkF m 33 #[.val (.ref x), .val (.ref y), .val (.ref y)] [.int cd', .int cd])) := c10.trans (st11 _ (Steps.refl _))
    by_cases hcd : cd = cd'
    · subst hcd
      have c13 : Steps p.tables e below (s₁.setTop (entryFrame m #[.ref x, .ref y] 3)) (T11.setTop (mkF m 37 #[.val (.ref x), .val (.ref y), .val (.ref y)] [.ref x])) := c12.trans (by
        refine XS.icmpNo X11.here hexec rfl (hb hbytes d33) rfl (ii_ne_f rfl) ?_
        refine XS.aloadN X11.here hexec rfl (hb hbytes d36) rfl rfl ?_
        exact Steps.refl _)
      obtain ⟨T14, X14, q14, st14⟩ := X11.hget hexec hown (wk W (.fieldLink "java/lang/String" 9 "java/lang/String" "value" "[B")) (hx.mv X11.warmed.alike hh11).2.1 (g := (mkF m 37 #[.val (.ref x), .val (.ref y), .val (.ref y)] [.ref x])) rfl (rest := []) rfl (hb hbytes d37)
      have hh14 := q14.trans hh11
      have c15 : Steps p.tables e below (s₁.setTop (entryFrame m #[.ref x, .ref y] 3)) (T14.setTop (mkF m 41 #[.val (.ref x), .val (.ref y), .val (.ref y)] [.ref y, .ref t])) := (c13.trans (st14 _ (Steps.refl _))).trans (by
        refine XS.aloadN X14.here hexec rfl (hb hbytes d40) rfl rfl ?_
        exact Steps.refl _)
      obtain ⟨T16, X16, q16, st16⟩ := X14.hget hexec hown (wk W (.fieldLink "java/lang/String" 9 "java/lang/String" "value" "[B")) (hy.mv X14.warmed.alike hh14).2.1 (g := (mkF m 41 #[.val (.ref x), .val (.ref y), .val (.ref y)] [.ref y, .ref t])) rfl (rest := [.ref t]) rfl (hb hbytes d41)
      have hh16 := q16.trans hh14
      have c17 : Steps p.tables e below (s₁.setTop (entryFrame m #[.ref x, .ref y] 3)) (T16.setTop (mkF m 44 #[.val (.ref x), .val (.ref y), .val (.ref y)] [.ref t', .ref t])) := c15.trans (st16 _ (Steps.refl _))
      obtain ⟨v18, T18, X18, E18, g18⟩ := X16.callS hexec (LEq.law l t V t' V') hown (wks W (staticW "java/lang/String" 541 LEq.yN)) (wk W LEq.tab) (W := 0) (Nat.le_of_ble_eq_true rfl) (Nat.le_of_ble_eq_true rfl) (Nat.le_refl _) (Nat.le_refl _) (g := (mkF m 44 #[.val (.ref x), .val (.ref y), .val (.ref y)] [.ref t', .ref t])) rfl (by rw [hml]; rfl) c17 (argsL := [.ref t, .ref t']) (rest := []) rfl rfl (by show 2 * 0 + 0 ≤ _; decide) (hb hbytes d44) (⟨rfl, hx.2.2.2.1.mv X16.warmed.alike hh16, hx.2.2.2.2.1.ty, hy.2.2.2.1.mv X16.warmed.alike hh16, hy.2.2.2.2.1.ty⟩)
      obtain ⟨v, rfl, q18, hv⟩ := E18
      have iff := Cod.eqv hx.2.2.2.2.1 hy.2.2.2.2.1 hx.2.2.2.2.2 hy.2.2.2.2.2
      rcases hv with ⟨rfl, he⟩ | ⟨rfl, he⟩
      · have c19 : Steps p.tables e below (s₁.setTop (entryFrame m #[.ref x, .ref y] 3)) (T18.setTop (mkF m 55 #[.val (.ref x), .val (.ref y), .val (.ref y)] [.int 1])) := Steps.trans g18 (by
          refine XS.ifNo X18.here hexec rfl (hb hbytes d47) rfl (i0_eq_f (by decide)) ?_
          refine iconstV X18.here hexec rfl 1 (hb hbytes d50) (by decide) ?_
          refine XS.goto X18.here hexec rfl (pc0 := 51) rfl (hb hbytes d51) (by decide) rfl ?_
          exact Steps.refl _)
        exact ⟨T18, some (.int 1), _, _, _, X18, rfl, rfl, rfl, (fun h => by cases h), ⟨1, rfl, q18.trans hh16, Or.inl ⟨rfl, iff.mp he⟩⟩, fun fs hl => c19.trans (X18.ireturnOut hexec hret rfl (Or.inr (Or.inl rfl)) (hb hbytes d55) hl)⟩
      · have c19 : Steps p.tables e below (s₁.setTop (entryFrame m #[.ref x, .ref y] 3)) (T18.setTop (mkF m 55 #[.val (.ref x), .val (.ref y), .val (.ref y)] [.int 0])) := Steps.trans g18 (by
          refine XS.ifYes X18.here hexec rfl (pc0 := 47) rfl (hb hbytes d47) rfl (i0_eq_t rfl) (by decide) rfl ?_
          refine iconstV X18.here hexec rfl 0 (hb hbytes d54) (by decide) ?_
          exact Steps.refl _)
        exact ⟨T18, some (.int 0), _, _, _, X18, rfl, rfl, rfl, (fun h => by cases h), ⟨0, rfl, q18.trans hh16, Or.inr ⟨rfl, fun q => he (iff.mpr q)⟩⟩, fun fs hl => c19.trans (X18.ireturnOut hexec hret rfl (Or.inr (Or.inl rfl)) (hb hbytes d55) hl)⟩
    · have c13 : Steps p.tables e below (s₁.setTop (entryFrame m #[.ref x, .ref y] 3)) (T11.setTop (mkF m 55 #[.val (.ref x), .val (.ref y), .val (.ref y)] [.int 0])) := c12.trans (by
        refine XS.icmpYes X11.here hexec rfl (pc0 := 33) rfl (hb hbytes d33) rfl (ii_ne_t hcd) (by decide) rfl ?_
        refine iconstV X11.here hexec rfl 0 (hb hbytes d54) (by decide) ?_
        exact Steps.refl _)
      exact ⟨T11, some (.int 0), _, _, _, X11, rfl, rfl, rfl, (fun h => by cases h), ⟨0, rfl, hh11, Or.inr ⟨rfl, Cod.dif hx.2.2.2.2.1 hy.2.2.2.2.1 hcd⟩⟩, fun fs hl => c13.trans (X11.ireturnOut hexec hret rfl (Or.inr (Or.inl rfl)) (hb hbytes d55) hl)⟩
theorem pays {l : Launch} {R : Room} {p : Program} {e : Env} {below : List Frame} {s : State} {sargs : Array Value} {len W : Nat} (x t : Addr) (V : Cell) (cd : Int32) (n : Nat) (f : Nat → Int32) (y t' : Addr) (V' : Cell) (cd' : Int32) (k : Nat) (g : Nat → Int32) (z : Int32) (htab : tab.before sargs s = true) (hfr : 2 ≤ R.frames) (hlo : W + 28 ≤ R.locals) :
    Back l R p e below s sargs yN len W (fun A₁ a₁ => A₁.cells + 0 ≤ R.cells ∧ A₁.slots + 0 ≤ R.slots ∧ P x t V cd n f y t' V' cd' k g z a₁ A₁.U) (fun A₁ _ v₁ B₁ => Says01 (SameT n f k g) v₁ A₁.U B₁.U ∧ B₁.locs = A₁.locs ++ [] ∧ B₁.cells = A₁.cells + 0 ∧ B₁.slots = A₁.slots + 0) :=
  (law l x t V cd n f y t' V' cd' k g z).pays htab hfr (by omega)
end SEq
end StrChars
namespace StrChars.Road
open Jvm Sem ClassFile Op Lib Jvm.Stand Jvm.Free Jvm.Free.XT
open Jvm.Lib.Cold (StaticIs)
abbrev wordsEq : List Jvm.Cond := [.code SEq.yN SEq.yB 3 (some .boolean), .initialized ST, .classLink ST 10 ST, .fieldLink ST 38 ST "COMPACT_STRINGS" "Z", .fieldLink ST 15 ST "coder" "B", .fieldLink ST 9 ST "value" "[B", .methodLink ST 541 LEq.yN, .static LEq.yN, .code LEq.yN LEq.yB 3 (some .boolean), .initialized "java/lang/StringLatin1"]
theorem tabEq_of {a : Array Value} {s : State} (h : ∀ w ∈ wordsEq, w.before a s = true) : SEq.tab.before a s = true := by
  have hl : LEq.tab.before a s = true := unparts (wk h (.code LEq.yN LEq.yB 3 (some .boolean))) (wks h (.initialized LEq.yN.cls :: LEq.site))
  have q := consq hl h
  exact unparts (wk q (.code SEq.yN SEq.yB 3 (some .boolean))) (wks q (.initialized SEq.yN.cls :: SEq.site))
theorem movedEq {Z s : State} {a0 args : Array Value} (hZ : Z.Warmed39 s.vm) (hw : ∀ d ∈ wordsEq, d.before a0 Z = true) : ∀ d ∈ wordsEq, d.before args s = true := fun d hd => by
  have t : ∀ d ∈ wordsEq, (d.onTables && d.keepsFace) = true := by decide +kernel
  exact RoadKit.mv hZ (hw d hd) (t d hd)
theorem txt_of {Z U : State} {a0 : Array Value} {kI : Nat} (wi : (Jvm.Cond.instantiable ST kI).before a0 Z = true) (al : Z.vm.Alike U.vm) {x t : Addr} {kb : ClassId} {cs : List Int32} {cd N2 : Int32} {vs : List Value} (E : RoadKit.Exa Z U.heap x ST) (V : RoadKit.Fld Z U.heap x ST "value" "[B" (.ref t)) (C : RoadKit.Fld Z U.heap x ST "coder" "B" (.int cd)) (K : RoadKit.Arv Z U.heap t kb .byte N2 vs (.int 0)) (hc : CodA cs cd N2 vs) (hb : ∀ c ∈ cs, ¬ c < 0 ∧ ¬ (65535 : Int32) < c) (l2 : cs.length ≤ 4000) :
    ∃ A, Txt x t A cd cs.length (fun j => cs.getD j 0) U := by
  obtain ⟨A, K1, K2, K3, K4, K5, K6⟩ := K
  have hcod := hc.cod (by omega) K3 K5
  obtain ⟨D, fV, fC, hB, F1, F2, g1, g2, -, -⟩ := strObj wi al E V C
  exact ⟨A, ⟨_, hB.2.2.1, D, hB.1, rfl, by cases q : D.vm <;> first | rfl | exact absurd q (hB.2.1.2 _)⟩, Has.of hB F1 g1, Has.of hB F2 g2, ⟨K1.1, State.isArrayOf_alike al K1.2.1, K1.2.2, by rcases hcod with ⟨-, q, -⟩ | ⟨-, q, -⟩ <;> omega⟩, hcod, fun j hj => by
    have e : cs.getD j 0 = cs[j] := by simp [List.getD_eq_getElem?_getD, hj]
    show ¬ cs.getD j 0 < 0 ∧ ¬ 65535 < cs.getD j 0
    rw [e]; exact hb _ (List.getElem_mem _)⟩
theorem same_list (cs ds : List Int32) : SameT cs.length (fun j => cs.getD j 0) ds.length (fun j => ds.getD j 0) ↔ cs = ds := by
  constructor
  · rintro ⟨e, q⟩
    refine List.ext_getElem e fun j h1 h2 => ?_
    have := q j h1
    simpa [List.getD_eq_getElem?_getD, h1, h2] using this
  · rintro rfl
    exact ⟨rfl, fun _ _ => rfl⟩
theorem eqW {p : Program} {l : Launch} {e : Env} {R : Room} {s : State} {args : Array Value} {below : List Frame} {len W : Nat} {Z : State} {a0 : Array Value} {h : Heap} (hZ : Z.Warmed39 s.vm) (hw : ∀ d ∈ wordsEq, d.before a0 Z = true) {kI : Nat} (wi : (Jvm.Cond.instantiable ST kI).before a0 Z = true)
    {x t : Addr} {kb : ClassId} {cs : List Int32} {cd N2 : Int32} {vs : List Value} (E : RoadKit.Exa Z h x ST) (V : RoadKit.Fld Z h x ST "value" "[B" (.ref t)) (C : RoadKit.Fld Z h x ST "coder" "B" (.int cd)) (K : RoadKit.Arv Z h t kb .byte N2 vs (.int 0)) (hc : CodA cs cd N2 vs) (hb : ∀ c ∈ cs, ¬ c < 0 ∧ ¬ (65535 : Int32) < c) (l2 : cs.length ≤ 4000)
    {y t' : Addr} {kb' : ClassId} {ds : List Int32} {cd' N2' : Int32} {vs' : List Value} (E' : RoadKit.Exa Z h y ST) (V' : RoadKit.Fld Z h y ST "value" "[B" (.ref t')) (C' : RoadKit.Fld Z h y ST "coder" "B" (.int cd')) (K' : RoadKit.Arv Z h t' kb' .byte N2' vs' (.int 0)) (hc' : CodA ds cd' N2' vs') (hb' : ∀ c ∈ ds, ¬ c < 0 ∧ ¬ (65535 : Int32) < c) (l2' : ds.length ≤ 4000)
    {z : Int32} (S : RoadKit.Sta Z h ST "COMPACT_STRINGS" "Z" (.int z)) (hz : ¬ z = 0) (hfr : 2 ≤ R.frames) (hlo : W + 28 ≤ R.locals) :
    Back l R p e below s args (⟨"java/lang/String", "equals", "(Ljava/lang/Object;)Z"⟩ : MethodName) len W (fun P a => a = #[.ref x, .ref y] ∧ P.U.heap = h ∧ P.cells + 0 ≤ R.cells ∧ P.slots + 0 ≤ R.slots)
      (fun P _ v B => ∃ L, (((v = some (.int 1) ∧ cs = ds) ∨ (v = some (.int 0) ∧ ¬ cs = ds)) ∧ L = [] ∧ B.U.heap = h) ∧ B.locs = P.locs ++ L ∧ B.cells = P.cells + 0 ∧ B.slots = P.slots + 0) := by
  intro m meth c P g ig mk a X hg hsize hdg hW hn hp'
  obtain ⟨rfl, rfl, r1, r2⟩ := hp'
  have al : Z.vm.Alike P.U.vm := hZ.alike.trans X.warmed.alike
  obtain ⟨A, hx⟩ := txt_of wi al E V C K hc hb l2
  obtain ⟨A', hy⟩ := txt_of wi al E' V' C' K' hc' hb' l2'
  obtain ⟨v, B, X', ⟨⟨w, hv, hh, hq⟩, hl, hk, hs⟩, st⟩ := SEq.pays x t A cd cs.length (fun j => cs.getD j 0) y t' A' cd' ds.length (fun j => ds.getD j 0) z (tabEq_of (movedEq hZ hw)) hfr hlo m meth c P g ig mk _ X hg hsize hdg hW hn ⟨r1, r2, rfl, hx, hy, sta_is al S, hz⟩
  refine ⟨v, B, X', ⟨[], ⟨?_, rfl, hh⟩, hl, hk, hs⟩, st⟩
  rcases hq with ⟨rfl, q⟩ | ⟨rfl, q⟩
  · exact Or.inl ⟨hv, (same_list cs ds).mp q⟩
  · exact Or.inr ⟨hv, fun e => q ((same_list cs ds).mpr e)⟩
end StrChars.Road
namespace StrChars
open Jvm Sem ClassFile Op Lib Jvm.Stand Jvm.Free.XT Jvm.Free.ALB Jvm.Free.JM Jvm.Free
open Jvm.Lib.Cold (StaticIs)
namespace ChN
def yN : MethodName := ⟨"java/lang/String", "charAt", "(I)C"⟩
abbrev yB : ByteArray := jdk_42_method_56_code
theorem d0 : decode yB 0 = .ok (.aload_n 0, 1) := by decide +kernel
theorem d1 : decode yB 1 = .ok (.invokevirtual 492, 3) := by decide +kernel
theorem d4 : decode yB 4 = .ok (.ifCond (.eq) 12, 3) := by decide +kernel
theorem d7 : decode yB 7 = .ok (.aload_n 0, 1) := by decide +kernel
theorem d8 : decode yB 8 = .ok (.getfield 9, 3) := by decide +kernel
theorem d11 : decode yB 11 = .ok (.iload_n 1, 1) := by decide +kernel
theorem d12 : decode yB 12 = .ok (.invokestatic 495, 3) := by decide +kernel
theorem d15 : decode yB 15 = .ok (.ireturn, 1) := by decide +kernel
def site : List Cond := [.fieldLink "java/lang/String" 9 "java/lang/String" "value" "[B", IsL.tab, LChA.tab] ++ virtW "java/lang/String" 492 "java/lang/String" IsL.yN IsL.yN ++ staticW "java/lang/String" 495 LChA.yN
def tab : Cond := tabOf yN yB 2 (some .char) site
def P (x t : Addr) (V : Cell) (n : Nat) (f : Nat → Int32) (z : Int32) (fm : Value) (i : Nat) (args : Array Value) (s : State) : Prop := args = #[.ref x, .int (Int32.ofNat i)] ∧ Txt x t V 0 n f s ∧ i < n ∧ StaticIs s "java/lang/String" "COMPACT_STRINGS" "Z" (.int z) ∧ ¬ z = 0 ∧ StaticIs s "jdk/internal/util/Preconditions" "SIOOBE_FORMATTER" "Ljava/util/function/BiFunction;" fm ∧ fm.isRef = true
def E (f : Nat → Int32) (i : Nat) (r : Option Value) (s u : State) : Prop := XT.PureE (some (.int (f i))) r s u
theorem law (l : Launch) (x t : Addr) (V : Cell) (n : Nat) (f : Nat → Int32) (z : Int32) (fm : Value) (i : Nat) : Law l yN 2 1 3 40 yB 2 (some .char) site (P x t V n f z fm i) (E f i) [] 0 0 := by
  refine Law.of_walk (plainFor_of_name (by decide +kernel)) (by decide +kernel) (by decide +kernel) (by decide) (fun _ _ h => by rw [h.1]; rfl) (fun _ U U' hal hh h => ⟨h.1, h.2.1.mv hal hh, h.2.2.1, h.2.2.2.1.there hal hh, h.2.2.2.2.1, h.2.2.2.2.2.1.there hal hh, h.2.2.2.2.2.2⟩) (fun r U U' V V' h1 hal h2 h => XT.PureE.mv r U U' V V' h1 hal h2 h) ?_
  intro p e s m args below meth c s₁ X0 hexec hbytes hml hret hlk hnm hown hh0 W hP
  obtain ⟨rfl, hx, hi, s1, hz, s3, rf⟩ := hP
  have v31 := hx.2.2.2.1.2.2.2
  have hr := hx.2.2.2.2.2 i hi
  have hx0 := hx.mv X0.warmed.alike hh0
  have c1 : Steps p.tables e below (s₁.setTop (entryFrame m #[.ref x, .int (Int32.ofNat i)] 2)) (s₁.setTop (mkF m 1 #[.val (.ref x), .val (.int (Int32.ofNat i))] [.ref x])) := Steps.trans (entry rfl) (by
    show Steps p.tables e below (s₁.setTop (mkF m 0 #[.val (.ref x), .val (.int (Int32.ofNat i))] [])) _
    refine XS.aloadN X0.here hexec rfl (hb hbytes d0) rfl rfl ?_
    exact Steps.refl _)
  obtain ⟨v2, T2, X2, E2, g2⟩ := X0.callV hexec (IsL.law l x 0 z) hown (wks W (virtW "java/lang/String" 492 "java/lang/String" IsL.yN IsL.yN)) rfl (by decide) (wk W IsL.tab) (W := 0) (Nat.le_of_ble_eq_true rfl) (Nat.le_of_ble_eq_true rfl) (Nat.le_refl _) (Nat.le_refl _) (hx0.1.fc X0.warmed.alike) hx0.1.is (g := (mkF m 1 #[.val (.ref x), .val (.int (Int32.ofNat i))] [.ref x])) rfl (by rw [hml]; rfl) c1 (argsL := []) (rest := []) rfl rfl (by show 2 * 0 + 0 ≤ _; decide) (hb hbytes d1) (⟨rfl, hx0.2.2.1, hx.2.2.2.2.1.cd, s1.there X0.warmed.alike hh0, hz⟩)
  obtain ⟨rfl, q2⟩ := E2
  have hh2 := q2.trans hh0
  have hx2 := hx.mv X2.warmed.alike hh2
  obtain ⟨-, k1, k2⟩ | ⟨k0, -⟩ := hx.2.2.2.2.1
  · have c3 : Steps p.tables e below (s₁.setTop (entryFrame m #[.ref x, .int (Int32.ofNat i)] 2)) (T2.setTop (mkF m 8 #[.val (.ref x), .val (.int (Int32.ofNat i))] [.ref x])) := Steps.trans g2 (by
      refine XS.ifNo X2.here hexec rfl (hb hbytes d4) rfl (i0_eq_f (by decide)) ?_
      refine XS.aloadN X2.here hexec rfl (hb hbytes d7) rfl rfl ?_
      exact Steps.refl _)
    obtain ⟨T4, X4, q4, st4⟩ := X2.hget hexec hown (wk W (.fieldLink "java/lang/String" 9 "java/lang/String" "value" "[B")) hx2.2.1 (g := (mkF m 8 #[.val (.ref x), .val (.int (Int32.ofNat i))] [.ref x])) rfl (rest := []) rfl (hb hbytes d8)
    have hh4 := q4.trans hh2
    have c5 : Steps p.tables e below (s₁.setTop (entryFrame m #[.ref x, .int (Int32.ofNat i)] 2)) (T4.setTop (mkF m 12 #[.val (.ref x), .val (.int (Int32.ofNat i))] [.int (Int32.ofNat i), .ref t])) := (c3.trans (st4 _ (Steps.refl _))).trans (by
      refine XS.iloadN X4.here hexec rfl (hb hbytes d11) rfl ?_
      exact Steps.refl _)
    obtain ⟨v6, T6, X6, E6, g6⟩ := X4.callS hexec (LChA.law l t V i (lo8 (f i)) fm) hown (wks W (staticW "java/lang/String" 495 LChA.yN)) (wk W LChA.tab) (W := 0) (Nat.le_of_ble_eq_true rfl) (Nat.le_of_ble_eq_true rfl) (Nat.le_refl _) (Nat.le_refl _) (g := (mkF m 12 #[.val (.ref x), .val (.int (Int32.ofNat i))] [.int (Int32.ofNat i), .ref t])) rfl (by rw [hml]; rfl) c5 (argsL := [.ref t, .int (Int32.ofNat i)]) (rest := []) rfl rfl (by show 2 * 0 + 0 ≤ _; decide) (hb hbytes d12) (⟨rfl, hx.2.2.2.1.mv X4.warmed.alike hh4, (k2 i hi).1, s3.there X4.warmed.alike hh4, rf⟩)
    obtain ⟨rfl, q6⟩ := E6
    rw [chr8_lo8 hr.1 (k2 i hi).2] at g6
    exact ⟨T6, some (.int (f i)), _, _, _, X6, rfl, rfl, rfl, (fun h => by cases h), ⟨rfl, q6.trans hh4⟩, fun fs hl => Steps.trans g6 (X6.ireturnOut hexec hret (narrow_ch hr.1 hr.2) (Or.inr (Or.inr (Or.inr (Or.inl rfl)))) (hb hbytes d15) hl)⟩
  · exact absurd k0 (by decide)
theorem pays {l : Launch} {R : Room} {p : Program} {e : Env} {below : List Frame} {s : State} {sargs : Array Value} {len W : Nat} (x t : Addr) (V : Cell) (n : Nat) (f : Nat → Int32) (z : Int32) (fm : Value) (i : Nat) (htab : tab.before sargs s = true) (hfr : 4 ≤ R.frames) (hlo : W + 53 ≤ R.locals) :
    Back l R p e below s sargs yN len W (fun A₁ a₁ => A₁.cells + 0 ≤ R.cells ∧ A₁.slots + 0 ≤ R.slots ∧ P x t V n f z fm i a₁ A₁.U) (fun A₁ _ v₁ B₁ => E f i v₁ A₁.U B₁.U ∧ B₁.locs = A₁.locs ++ [] ∧ B₁.cells = A₁.cells + 0 ∧ B₁.slots = A₁.slots + 0) :=
  (law l x t V n f z fm i).pays htab hfr (by omega)
end ChN
end StrChars
namespace StrChars.Road
open Jvm Sem ClassFile Op Lib Jvm.Stand Jvm.Free Jvm.Free.XT
open Jvm.Lib.Cold (StaticIs)
abbrev wordsChN : List Jvm.Cond := [.code ChN.yN ChN.yB 2 (some .char), .initialized ST, .fieldLink ST 9 ST "value" "[B", .fieldLink ST 38 ST "COMPACT_STRINGS" "Z", .fieldLink ST 15 ST "coder" "B", .code IsL.yN IsL.yB 1 (some .boolean), .methodLink ST 492 IsL.yN, .declares IsL.yN, .selects ST IsL.yN IsL.yN, .instanceMethod IsL.yN,
  .methodLink ST 495 LChA.yN, .static LChA.yN, .code LChA.yN LChA.yB 2 (some .char), .initialized "java/lang/StringLatin1", .methodLink "java/lang/StringLatin1" 9 JO.Str_checkIndex.yN, .static JO.Str_checkIndex.yN, .code JO.Str_checkIndex.yN JO.Str_checkIndex.yB 2 none,
  .fieldLink ST 1053 "jdk/internal/util/Preconditions" "SIOOBE_FORMATTER" "Ljava/util/function/BiFunction;", .methodLink ST 1059 JC.PreCheck.yN, .static JC.PreCheck.yN, .code JC.PreCheck.yN JC.PreCheck.yB 3 (some .int), .initialized "jdk/internal/util/Preconditions"]
theorem tabChN_of {a : Array Value} {s : State} (h : ∀ w ∈ wordsChN, w.before a s = true) : ChN.tab.before a s = true := by
  have hp : JC.PreCheck.tab.before a s = true := unparts (wk h (.code JC.PreCheck.yN JC.PreCheck.yB 3 (some .int))) (wks h (.initialized JC.PreCheck.yN.cls :: JC.PreCheck.site))
  have qk := consq hp h
  have hk : JO.Str_checkIndex.tab.before a s = true := unparts (wk qk (.code JO.Str_checkIndex.yN JO.Str_checkIndex.yB 2 none)) (wks qk (.initialized JO.Str_checkIndex.yN.cls :: JO.Str_checkIndex.site))
  have ql := consq hk h
  have hl : LChA.tab.before a s = true := unparts (wk ql (.code LChA.yN LChA.yB 2 (some .char))) (wks ql (.initialized LChA.yN.cls :: LChA.site))
  have hi : IsL.tab.before a s = true := unparts (wk h (.code IsL.yN IsL.yB 1 (some .boolean))) (wks h (.initialized IsL.yN.cls :: IsL.site))
  have q := consq hi (consq hl h)
  exact unparts (wk q (.code ChN.yN ChN.yB 2 (some .char))) (wks q (.initialized ChN.yN.cls :: ChN.site))
theorem movedChN {Z s : State} {a0 args : Array Value} (hZ : Z.Warmed39 s.vm) (hw : ∀ d ∈ wordsChN, d.before a0 Z = true) : ∀ d ∈ wordsChN, d.before args s = true := fun d hd => by
  have t : ∀ d ∈ wordsChN, (d.onTables && d.keepsFace) = true := by decide +kernel
  exact RoadKit.mv hZ (hw d hd) (t d hd)
theorem chN {p : Program} {l : Launch} {e : Env} {R : Room} {s : State} {args : Array Value} {below : List Frame} {len W : Nat} {Z : State} {a0 : Array Value} {h : Heap} (hZ : Z.Warmed39 s.vm) (hw : ∀ d ∈ wordsChN, d.before a0 Z = true) {kI : Nat} (wi : (Jvm.Cond.instantiable ST kI).before a0 Z = true)
    {x t : Addr} {kb : ClassId} {cs : List Int32} {N2 z : Int32} {vs : List Value} {fm : Value} {i : Nat} {j : Int32} (E : RoadKit.Exa Z h x ST) (V : RoadKit.Fld Z h x ST "value" "[B" (.ref t)) (C : RoadKit.Fld Z h x ST "coder" "B" (.int 0)) (K : RoadKit.Arv Z h t kb .byte N2 vs (.int 0)) (hc : CodA cs 0 N2 vs) (hb : ∀ c ∈ cs, ¬ c < 0 ∧ ¬ (65535 : Int32) < c)
    (S : RoadKit.Sta Z h ST "COMPACT_STRINGS" "Z" (.int z)) (hz : ¬ z = 0) (F : RoadKit.Sta Z h "jdk/internal/util/Preconditions" "SIOOBE_FORMATTER" "Ljava/util/function/BiFunction;" fm) (rf : fm.isRef = true) (l2 : cs.length ≤ 4000) (hi : i < cs.length) (hj : j = Int32.ofNat i) (hfr : 4 ≤ R.frames) (hlo : W + 53 ≤ R.locals) :
    Back l R p e below s args (⟨"java/lang/String", "charAt", "(I)C"⟩ : MethodName) len W (fun P a => a = #[.ref x, .int j] ∧ P.U.heap = h ∧ P.cells + 0 ≤ R.cells ∧ P.slots + 0 ≤ R.slots)
      (fun P _ v B => ∃ L, (v = some (.int (cs.getD i 0)) ∧ L = [] ∧ B.U.heap = h) ∧ B.locs = P.locs ++ L ∧ B.cells = P.cells + 0 ∧ B.slots = P.slots + 0) := by
  subst hj
  intro m meth c P g ig mk a X hg hsize hdg hW hn hp'
  obtain ⟨rfl, rfl, r1, r2⟩ := hp'
  have al : Z.vm.Alike P.U.vm := hZ.alike.trans X.warmed.alike
  obtain ⟨A, hx⟩ := txt_of wi al E V C K hc hb l2
  obtain ⟨v, B, X', ⟨⟨hv, hh⟩, hl, hk, hs⟩, st⟩ := ChN.pays x t A cs.length (fun j => cs.getD j 0) z fm i (tabChN_of (movedChN hZ hw)) hfr hlo m meth c P g ig mk _ X hg hsize hdg hW hn ⟨r1, r2, rfl, hx, hi, sta_is al S, hz, sta_is al F, rf⟩
  exact ⟨v, B, X', ⟨[], ⟨hv, rfl, hh⟩, hl, hk, hs⟩, st⟩
theorem codOf {cs : List Int32} {n : Nat} (hn : cs.length = n) (hb : ∀ c ∈ cs, ¬ 255 < c) : CodA cs 0 (Int32.ofNat n) ((cs.map lo8).map Value.int) := Or.inl ⟨rfl, by rw [hn], by simp [List.map_map, Function.comp_def], hb⟩
end StrChars.Road
end Jvm.Pilot.@@N@@

namespace Jvm.RoadKit
open Sem ClassFile Op Lib Bundle Jvm.Stand Jvm.Free Jvm.LawKit Jvm.Free.SB Jvm.Free.SBG
theorem own_safeN {Z : State} {EL : List (String × Nat)} {vm : Vm} {h : Heap} {x : Addr} (hal : Z.vm.Alike vm) (E : Exa Z h x "java/lang/String") (N : Fld Z h x "java/lang/String" "value" "[B" .null) : Safe Z EL vm h x := fun B => by
  obtain ⟨p, -, u, a, -, q, -, F, hy⟩ := B
  rcases hy with hy | hy
  · obtain ⟨cS, ⟨⟨s1, s2, s3, ⟨cv, kv, iv, s4, s4'⟩, ⟨cc, kc, ic, s5, s5'⟩, s6, s7, s8, s9, s10, s11, s12, s13, s14, s15, s16⟩, hfS, hcS⟩, ⟨kS, k1, k2, k3⟩, hB, hbyt⟩ := F
    obtain ⟨kv', z4⟩ := ff_back (U := Wst Z vm h) hal s4
    have V : Fld Z h q.sa "java/lang/String" "value" "[B" (.ref q.sd) := ⟨q.sC, cv, kv', iv, q.fSV, s1, z4, s6, s2, s3, by rw [← hal.assignable]; exact s4', s8⟩
    exact Fld.ne N V nofun hy
  · subst hy
    obtain ⟨cell, k, e1, e2, e3, -, -⟩ := E
    cases (show h[q.sd]? = some q.SA from F.hd).symm.trans e1
    obtain ⟨cS, -, -, f, -⟩ := F
    have f : vm.findClass "[B" = some q.SA.cls := f
    rw [hal.findClass] at f
    obtain ⟨k1, q1, q2⟩ := Vm.findClass_spec f
    obtain ⟨k2, q3, q4⟩ := Vm.findClass_spec e2
    cases q1.symm.trans q3
    exact absurd (q2.symm.trans q4) (by decide)
end Jvm.RoadKit

namespace Jvm.Pilot.@@N@@
open Jvm Jvm.ClassFile Sem Op Lib Jvm.Free Jvm.Stand Jvm.LawKit Jvm.RoadKit Bundle Jvm.Pilot.@@N@@.Jvm.D
abbrev own_S (p : Program) (e : Env) (below : List Frame) (T : State) (f : JFrame) (t : State) : Prop := Steps p.tables e below (T.setTop f) t

theorem own_eqi {args : Array Value} {first s : State} {o : Option Outcome} {idx : List Nat} {t : Term} {k : Int32} (h : (Jvm.Cond.eq t (Term.int k)).value args first o s idx = some true) : t.eval args first o idx s = some (.int k) := by
  simp only [Jvm.Cond.value, Term.eval] at h
  cases ht : t.eval args first o idx s with
  | none => simp [ht] at h
  | some x => cases x <;> simp [ht] at h; rw [h]
theorem own_eql {args : Array Value} {first s : State} {o : Option Outcome} {idx : List Nat} {t : Term} {k : Int64} (h : (Jvm.Cond.eq t (Term.long k)).value args first o s idx = some true) : t.eval args first o idx s = some (.long k) := by
  simp only [Jvm.Cond.value, Term.eval] at h
  cases ht : t.eval args first o idx s with
  | none => simp [ht] at h
  | some x => cases x <;> simp [ht] at h; rw [h]

theorem own_up (cs : List Int32) (h : ∀ c ∈ cs, ¬ c < 0 ∧ ¬ (255 : Int32) < c) : ∀ c ∈ cs, ¬ c < 0 ∧ ¬ (65535 : Int32) < c := fun c hc => ⟨(h c hc).1, fun q => (h c hc).2 (by rw [Int32.lt_iff_toInt_lt] at q ⊢; have e1 : (65535 : Int32).toInt = 65535 := rfl; have e2 : (255 : Int32).toInt = 255 := rfl; omega)⟩

theorem own_ref {s : State} {args a' : Array Value} {own text : String} {index : Nat} {a : Addr} (w : (Jvm.Cond.stringLink own index text).before args s = true) (L : Lit s own index a) : (Jvm.Cond.stringRef own index text).before a' s = true := by
  simp only [Jvm.Cond.before, Jvm.Cond.holds, Jvm.Cond.value] at w ⊢
  cases hc : s.vm.findClass own with
  | none => simp [hc] at w
  | some c =>
    simp only [hc, Option.map_some, beq_iff_eq, Option.some.injEq, Bool.and_eq_true] at w ⊢
    have L' : s.resolvedAt? own index = some (.string a) := L
    exact ⟨w.1, by rw [L']⟩
section
variable {p : Program} {l : Launch} {e : Env} {R : Room} {s : State} {args : Array Value} {below : List Frame} {Z : State} {a0 : Array Value} {h : Heap}
theorem own_backI {y : MethodName} {bytes : ByteArray} {maxL : Nat} {ret : Option FieldType} {rm : Room} {len W : Nat} {as' : Array Value} {Ts : List String} {Q : Option Value → Heap → List Loc → Prop}
    (hM : MetFree l y (head1 [Jvm.Cond.code y bytes maxL ret] rm) (fun a U => a = as' ∧ Z.Warmed39 U.vm ∧ U.heap = h ∧ IB Z U.vm Ts) (fun _ _ _ _ _ => True) (fun _ U o U' => ∃ v L, o = .returned v ∧ Q v U'.heap L ∧ ReturnedEndW U o U' L rm.cells rm.slots))
    (hZ : Z.Warmed39 s.vm) (wc : (Jvm.Cond.code y bytes maxL ret).before a0 Z = true) (wz : (Jvm.Cond.initialized y.cls).before a0 Z = true) (hf : rm.frames + 1 ≤ R.frames) (hl : W + (maxL + 11) + rm.locals ≤ R.locals) (I : IB Z s.vm Ts) :
    BackS l R p e below s args y len W (fun A a => a = as' ∧ A.U.heap = h ∧ A.cells + rm.cells ≤ R.cells ∧ A.slots + rm.slots ≤ R.slots)
      (fun A _ v B => ∃ L, Q v B.U.heap L ∧ B.locs = A.locs ++ L ∧ B.cells = A.cells + rm.cells ∧ B.slots = A.slots + rm.slots) :=
  BackS.of_freeW (bytes := bytes) (maxL := maxL) (ret := ret) (E := fun _ _ o t L k n => k = rm.cells ∧ n = rm.slots ∧ ∃ v, o = .returned v ∧ Q v t.heap L) hM hf hl
    (fun m meth c A a Y hp => have hU : Z.Warmed39 A.U.vm := wtrans hZ Y.warmed
      ⟨by show (Jvm.Cond.and _ .tt).before a A.U = true; rw [Cond.before_and, mv hU wc]; rfl, mv hU wc, mv hU wz, hp.2.2.1, hp.2.2.2⟩)
    (fun m meth c A a g mk Y hp => ⟨hp.1, wtrans hZ Y.warmed, hp.2.1, by obtain ⟨more, e1, e2⟩ := I; exact ⟨more, Y.warmed.interned_eq.trans e1, e2⟩⟩) (fun _ _ _ _ _ _ _ _ _ => trivial)
    (fun _ _ _ _ ⟨v, L, h1, h2, h3⟩ => ⟨L, _, _, h3, rfl, rfl, v, h1, h2⟩)
    (fun m meth c A a g mk v t L k n Y hp _ _ ⟨e1, e2, v', e3, e4⟩ => by cases e3; subst e1 e2; exact ⟨L, e4, rfl, rfl, rfl⟩)
end

theorem own_len {s : State} {args : Array Value} {t : Term} {a : Addr} {cl : Cell} {ty : FieldType} {n : Int32} (A : Arr s s.heap a cl ty) (ev : t.eval args s none [] s = some (.ref a)) (hl : (Term.length t).eval args s none [] s = some (.int n)) : cl.slots.size < 2 ^ 31 ∧ cl.slots.size.toInt32 = n := by
  have ha := A.fin (U := s) (Vm.Alike.refl _)
  by_cases q : cl.slots.size < 2 ^ 31
  · have e := (len_f ev ha q).symm.trans hl
    exact ⟨q, by simpa using e⟩
  · simp [Term.eval, ev, ha, q] at hl
theorem own_eqr {args : Array Value} {first s : State} {o : Option Outcome} {idx : List Nat} {t u : Term} {g : Addr} (h : (Jvm.Cond.eq t u).value args first o s idx = some true) (hu : u.eval args first o idx s = some (.ref g)) : t.eval args first o idx s = some (.ref g) := by
  obtain ⟨x, y, hx, hy, k1, k2⟩ := cmp_v (Or.inl h)
  cases hu.symm.trans hy
  have hr : x.isRef = true := k2.2
  have e := gotT (eq_R hx hu hr rfl) h
  rw [hx, e]

theorem own_f0 {P : Int32 → Prop} : ∀ c ∈ ([] : List Int32), P c := fun _ q => nomatch q
theorem own_fa {P : Int32 → Prop} {a : Int32} {l : List Int32} (h : P a) (t : ∀ c ∈ l, P c) : ∀ c ∈ a :: l, P c := List.forall_mem_cons.mpr ⟨h, t⟩
theorem own_nat {n : Nat} (h : n ≤ 64) : (Int32.ofNat n).toInt = n := by
  rw [Int32.toInt_ofNat']
  have e : (Int32.size : Int) = 4294967296 := rfl
  rw [Int.bmod_eq_of_le (by omega) (by omega)]
theorem own_lt {i n : Nat} (h : i < n) (hn : n ≤ 64) : Int32.ofNat i < Int32.ofNat n := by
  rw [Int32.lt_iff_toInt_lt, own_nat hn, own_nat (Nat.le_trans (Nat.le_of_lt h) hn)]; omega
theorem own_ltb {i n : Nat} {j : Int32} (hj : j = Int32.ofNat i) (hi : i ≤ 64) (hn : n ≤ 64) (h : j < Int32.ofNat n) : i < n := by
  rw [hj, Int32.lt_iff_toInt_lt, own_nat hn, own_nat hi] at h; omega
theorem own_mem {cs : List Int32} {P : Int32 → Prop} (h : ∀ c ∈ cs, P c) {i : Nat} (hi : i < cs.length) : P (cs.getD i 0) := by
  have e : cs.getD i 0 = cs[i] := by simp [List.getD_eq_getElem?_getD, hi]
  rw [e]; exact h _ (List.getElem_mem _)
abbrev own_c (p : Int32) : Int32 := (p.toUInt32.toUInt16.toUInt32.toInt32)
theorem own_ci (p : Int32) : ((own_c p).toInt - p.toInt) % 65536 = 0 ∧ 0 ≤ (own_c p).toInt ∧ (own_c p).toInt < 65536 := c_i2c p
def own_ok (c : Int32) : Prop := ¬ c < 0 ∧ ¬ (255 : Int32) < c ∧ own_c c = c
theorem own_okt {c : Int32} (h0 : 0 ≤ c.toInt) (h1 : c.toInt ≤ 255) : own_ok c := by
  have e0 : (0 : Int32).toInt = 0 := by decide
  have e : (255 : Int32).toInt = 255 := by decide
  refine ⟨by rw [Int32.lt_iff_toInt_lt, e0]; omega, by rw [Int32.lt_iff_toInt_lt, e]; omega, Int32.toInt_inj.mp ?_⟩
  have h := own_ci c
  omega
theorem own_okr {c : Int32} (h : ¬ c < 0 ∧ ¬ (255 : Int32) < c) : own_ok c := by
  have e0 : (0 : Int32).toInt = 0 := by decide
  have e : (255 : Int32).toInt = 255 := by decide
  have h1 := h.1
  have h2 := h.2
  rw [Int32.lt_iff_toInt_lt, e0] at h1
  rw [Int32.lt_iff_toInt_lt, e] at h2
  exact own_okt (by omega) (by omega)
theorem own_nk {c : Int32} (h : own_ok c) : own_ok (nar .char c) := by
  have e : nar .char c = c := (show nar .char c = own_c c from rfl).trans h.2.2
  rw [e]; exact h
theorem own_okA (x : Int32) : own_ok (own_c (x &&& (255 : Int32))) := by
  have e : (255 : Int32).toInt = 255 := by decide
  have h := c_and x (255 : Int32) (by decide)
  rw [e] at h
  have h1 := own_ci (x &&& (255 : Int32))
  exact own_okt (by omega) (by omega)
theorem own_okL (x : Int64) : own_ok (own_c (x &&& (255 : Int64)).toInt32) := by
  have h := c_maskL x (255 : Int64) 8 (by decide) (by decide)
  have h2 := c_l2i (x &&& (255 : Int64))
  have h1 := own_ci (x &&& (255 : Int64)).toInt32
  have r := rng32 (x &&& (255 : Int64)).toInt32
  have e : ((2 ^ 8 : Nat) : Int) = 256 := by decide
  rw [e] at h
  exact own_okt (by omega) (by omega)

theorem own_wS {Z : State} {a0 : Array Value} (hw : ∀ d ∈ tables_1, d.before a0 Z = true) : ∀ a ∈ Bundle.stringAtoms, a.before a0 Z = true := fun d hd => hw d ((by decide +kernel : ∀ d ∈ Bundle.stringAtoms, d ∈ tables_1) d hd)
theorem own_EW {Z : State} {a0 : Array Value} (hw : ∀ d ∈ tables_1, d.before a0 Z = true) : EW Z a0 consts_1 := (EW.cons (hw _ (List.mem_of_getElem? (i := 0) rfl)) (by decide) (EW.cons (hw _ (List.mem_of_getElem? (i := 108) rfl)) (by decide) (EW.cons (hw _ (List.mem_of_getElem? (i := 109) rfl)) (by decide) (EW.cons (hw _ (List.mem_of_getElem? (i := 78) rfl)) (by decide) (EW.cons (hw _ (List.mem_of_getElem? (i := 111) rfl)) (by decide) EW.nil)))))

theorem d_method_3_0 : decode method_3_code 0 = .ok (.iload 4, 2) := by decide +kernel
theorem d_method_3_2 : decode method_3_code 2 = .ok (.ifCond .eq 12, 3) := by decide +kernel
theorem d_method_3_5 : decode method_3_code 5 = .ok (.iload 5, 2) := by decide +kernel
theorem d_method_3_7 : decode method_3_code 7 = .ok (.iload_n 1, 1) := by decide +kernel
theorem d_method_3_8 : decode method_3_code 8 = .ok (.if_icmp .ne 6, 3) := by decide +kernel
theorem d_method_3_11 : decode method_3_code 11 = .ok (.iload 6, 2) := by decide +kernel
theorem d_method_3_13 : decode method_3_code 13 = .ok (.ireturn, 1) := by decide +kernel
theorem d_method_3_14 : decode method_3_code 14 = .ok (.iload_n 1, 1) := by decide +kernel
theorem d_method_3_15 : decode method_3_code 15 = .ok (.aload_n 0, 1) := by decide +kernel
theorem d_method_3_16 : decode method_3_code 16 = .ok (.invokevirtual 15, 3) := by decide +kernel
theorem d_method_3_19 : decode method_3_code 19 = .ok (.if_icmp .ge 9, 3) := by decide +kernel
theorem d_method_3_22 : decode method_3_code 22 = .ok (.aload_n 0, 1) := by decide +kernel
theorem d_method_3_23 : decode method_3_code 23 = .ok (.iload_n 1, 1) := by decide +kernel
theorem d_method_3_24 : decode method_3_code 24 = .ok (.invokevirtual 51, 3) := by decide +kernel
theorem d_method_3_27 : decode method_3_code 27 = .ok (.ireturn, 1) := by decide +kernel
theorem d_method_3_28 : decode method_3_code 28 = .ok (.lload_n 2, 1) := by decide +kernel
theorem d_method_3_29 : decode method_3_code 29 = .ok (.bipush 8, 2) := by decide +kernel
theorem d_method_3_31 : decode method_3_code 31 = .ok (.iload_n 1, 1) := by decide +kernel
theorem d_method_3_32 : decode method_3_code 32 = .ok (.imul, 1) := by decide +kernel
theorem d_method_3_33 : decode method_3_code 33 = .ok (.lushr, 1) := by decide +kernel
theorem d_method_3_34 : decode method_3_code 34 = .ok (.ldc2_w 55, 3) := by decide +kernel
theorem d_method_3_37 : decode method_3_code 37 = .ok (.land, 1) := by decide +kernel
theorem d_method_3_38 : decode method_3_code 38 = .ok (.l2i, 1) := by decide +kernel
theorem d_method_3_39 : decode method_3_code 39 = .ok (.i2c, 1) := by decide +kernel
theorem d_method_3_40 : decode method_3_code 40 = .ok (.ireturn, 1) := by decide +kernel
theorem pn_0 : plainName "com/example/runs_to_scores/runstoscores/formats/SubtaskLabelledPinLaw" = true := by first | (simp [plainName, overriddenIn]; done) | decide +kernel
theorem pd_0 : parseMethodDescriptor "()I" = some ⟨[], some .int⟩ := by decide +kernel
theorem pd_1 : parseMethodDescriptor "(I)C" = some ⟨[.int], some .char⟩ := by decide +kernel
theorem ef_rm3 (m : MethodId) (x0 : Addr) (x1 : Int32) (x2 : Int64) (x3 : Int32) (x4 : Int32) (x5 : Int32) : entryFrame m #[(.ref x0), (.int x1), (.long x2), (.int x3), (.int x4), (.int x5)] 7 = mkF m 0 #[.val (.ref x0), .val (.int x1), .val (.long x2), .second, .val (.int x3), .val (.int x4), .val (.int x5)] [] := by first | (simp [entryFrame, mkF, argsToLocals, Value.category]; done) | rfl
def Q3 (Z : State) (x1 : Addr) (j1 : Int32) (d1 : Int64) (dm : Int32) (ps : Int32) (mc : Int32) (t1 : Addr) (k1 : ClassId) (cs : List Int32) (i1 : Nat) (G1 : Int32) (G3 : Value) (h0 : Heap) (n0 : Nat) (v : Option Value) (h : Heap) (L : List Loc) : Prop := ∃ c : Int32, v = some (.int c) ∧ Fr n0 L ∧ h = h0 ∧ own_ok c
set_option maxRecDepth 65536 in
set_option maxHeartbeats 40000000 in
theorem rm3 (l : Launch) (Z : State) (a0 : Array Value) (hw : ∀ d ∈ tables_1, d.before a0 Z = true) (ws : List Jvm.Cond) (x1 : Addr) (j1 : Int32) (d1 : Int64) (dm : Int32) (ps : Int32) (mc : Int32) (t1 : Addr) (k1 : ClassId) (cs : List Int32) (i1 : Nat) (G1 : Int32) (G3 : Value) (h0 : Heap) (n0 : Nat) (Z0 : n0 ≤ h0.size) (E_x1 : Exa Z h0 x1 "java/lang/String") (V_x1 : Fld Z h0 x1 "java/lang/String" "value" "[B" (.ref t1)) (C_x1 : Fld Z h0 x1 "java/lang/String" "coder" "B" (.int (0 : Int32))) (K_x1 : Arv Z h0 t1 k1 .byte (Int32.ofNat cs.length) ((cs.map (fun c => c.toInt8.toInt32)).map Value.int) (.int (0 : Int32))) (hp_x1 : ∀ c ∈ cs, ¬ c < 0 ∧ ¬ (255 : Int32) < c) (hl_x1 : cs.length ≤ 64) (hj : j1 = Int32.ofNat i1) (hi6 : i1 ≤ 64) (okm : own_ok mc) (O0 : Old Z n0 h0) (O2 : Sta Z Z.heap "java/lang/String" "COMPACT_STRINGS" "Z" (.int G1)) (P5 : ¬ (G1 = (0 : Int32))) (O4 : Sta Z Z.heap "jdk/internal/util/Preconditions" "SIOOBE_FORMATTER" "Ljava/util/function/BiFunction;" G3) (rG3 : G3.isRef = true) :
    MetFree l (⟨"com/example/runs_to_scores/runstoscores/formats/SubtaskLabelledPinLaw", "pick", "(Ljava/lang/String;IJZIC)C"⟩ : MethodName) (head1 (Jvm.Cond.code (⟨"com/example/runs_to_scores/runstoscores/formats/SubtaskLabelledPinLaw", "pick", "(Ljava/lang/String;IJZIC)C"⟩ : MethodName) method_3_code 7 (some .char) :: ws) ({ frames := 4, cells := 0, slots := 0, locals := 53 } : Room)) (fun a U => a = #[(.ref x1), (.int j1), (.long d1), (.int dm), (.int ps), (.int mc)] ∧ Z.Warmed39 U.vm ∧ U.heap = h0) (fun _ _ _ _ _ => True) (fun _ U o U' => ∃ v L, o = .returned v ∧ Q3 Z x1 j1 d1 dm ps mc t1 k1 cs i1 G1 G3 h0 n0 v U'.heap L ∧ FrameEnd U o U' L ({ frames := 4, cells := 0, slots := 0, locals := 53 } : Room).cells ({ frames := 4, cells := 0, slots := 0, locals := 53 } : Room).slots) := by
  refine MetFree.of_bodySF (plainFor_of_name pn_0) hisR ?_
  intro p e s m args below meth c s₁ Bd hml0 hP hK
  obtain ⟨rfl, hZ, hh⟩ := hP
  have hx := Bd.exec
  have hby := Bd.bytes
  have hml : c.maxLocals = 7 := hml0
  have hown : s.vm.findClass "com/example/runs_to_scores/runstoscores/formats/SubtaskLabelledPinLaw" = some m.cls := findClass_of_methodNamed Bd.named
  have hnm := (name_of_methodNamed Bd.named Bd.method).1
  have X0 : Stand p l e ({ frames := 4, cells := 0, slots := 0, locals := 53 } : Room) s m #[(.ref x1), (.int j1), (.long d1), (.int dm), (.int ps), (.int mc)] below meth c s₁ [] 0 0 := Stand.of_body Bd
  have e0 : s₁.heap = h0 := by rw [← hh, Bd.state]; rfl
  have Nf0 := Fr.nil n0
  obtain ⟨Gl, hGl, kn0⟩ : ∃ Gl : State → Prop, (∀ t, Gl t → Steps p.tables e below (s₁.setTop (entryFrame m #[(.ref x1), (.int j1), (.long d1), (.int dm), (.int ps), (.int mc)] 7)) t) ∧ ∀ t, own_S p e below s₁ (mkF m 0 #[.val (.ref x1), .val (.int j1), .val (.long d1), .second, .val (.int dm), .val (.int ps), .val (.int mc)] []) t → Gl t := ⟨fun t => Steps p.tables e below (s₁.setTop (entryFrame m #[(.ref x1), (.int j1), (.long d1), (.int dm), (.int ps), (.int mc)] 7)) t, fun _ k => k, fun t k => castTop (ef_rm3 m x1 j1 d1 dm ps mc) k⟩
  have kn1 : ∀ t, own_S p e below s₁ (mkF m 2 #[.val (.ref x1), .val (.int j1), .val (.long d1), .second, .val (.int dm), .val (.int ps), .val (.int mc)] [(.int dm)]) t → Gl t := fun t kt => kn0 t (by
    show own_S p e below s₁ (mkF m 0 #[.val (.ref x1), .val (.int j1), .val (.long d1), .second, .val (.int dm), .val (.int ps), .val (.int mc)] []) _
    refine XS.iload X0.here hx rfl (hb hby d_method_3_0) rfl ?_
    exact kt)
  by_cases hc2 : dm = (0 : Int32)
  · have kn2 : ∀ t, own_S p e below s₁ (mkF m 16 #[.val (.ref x1), .val (.int j1), .val (.long d1), .second, .val (.int dm), .val (.int ps), .val (.int mc)] [(.ref x1), (.int j1)]) t → Gl t := fun t kt => kn1 t (by
      show own_S p e below s₁ (mkF m 2 #[.val (.ref x1), .val (.int j1), .val (.long d1), .second, .val (.int dm), .val (.int ps), .val (.int mc)] [(.int dm)]) _
      refine XS.ifYes X0.here hx rfl (pc0 := 2) (pc' := 14) rfl (hb hby d_method_3_2) rfl ((if0 _ _).trans (teq hc2).1) (by decide) (by decide) ?_
      show own_S p e below s₁ (mkF m 14 #[.val (.ref x1), .val (.int j1), .val (.long d1), .second, .val (.int dm), .val (.int ps), .val (.int mc)] []) _
      refine XS.iloadN X0.here hx rfl (hb hby d_method_3_14) rfl ?_
      show own_S p e below s₁ (mkF m 15 #[.val (.ref x1), .val (.int j1), .val (.long d1), .second, .val (.int dm), .val (.int ps), .val (.int mc)] [(.int j1)]) _
      refine XS.aloadN X0.here hx rfl (hb hby d_method_3_15) rfl rfl ?_
      exact kt)
    have hln : ∀ d ∈ StrChars.Road.wordsLen, d.before a0 Z = true := fun d hd => hw d ((by decide +kernel : ∀ d ∈ StrChars.Road.wordsLen, d ∈ tables_1) d hd)
    obtain ⟨cq3, kq3, qa3, qb3, qc3⟩ := isOf hZ e0 E_x1
    obtain ⟨_, _, ⟨T3, L3, cc3, ss3⟩, -, X3, ⟨Lc3, hQ3, l3, y3, z3⟩, st3⟩ := X0.virtualBack hx (y := (⟨"java/lang/String", "length", "()I"⟩ : MethodName)) (z := (⟨"java/lang/String", "length", "()I"⟩ : MethodName)) hown (mvT hZ (hw _ (List.mem_of_getElem? (i := 8) rfl))) (mvT hZ (hw _ (List.mem_of_getElem? (i := 9) rfl))) (notFace_of_selects (args := #[]) (mvT hZ (hw _ (List.mem_of_getElem? (i := 11) rfl)))) (mvT hZ (hw _ (List.mem_of_getElem? (i := 11) rfl))) (mvT hZ (hw _ (List.mem_of_getElem? (i := 10) rfl))) (by decide) (StrChars.Road.lenW (W := 1) hZ hln (kI := 4) (hw _ (List.mem_of_getElem? (i := 2) rfl)) E_x1 V_x1 C_x1 K_x1 (StrChars.Road.codOf (cs := cs) (n := cs.length) rfl (fun x hx => (hp_x1 x hx).2)) (own_up _ hp_x1) (O2.ext O0.2) P5 (Nat.le_trans hl_x1 (by decide)) (by decide) (by decide)) qa3 qc3 (g := (mkF m 16 #[.val (.ref x1), .val (.int j1), .val (.long d1), .second, .val (.int dm), .val (.int ps), .val (.int mc)] [(.ref x1), (.int j1)])) rfl (by rw [hml]; rfl) (Steps.refl _) (argsL := []) (rest := [(.int j1)]) (lenOf pd_0 rfl) rfl (by show 2 * 0 + _ ≤ _; exact Nat.le_of_eq rfl) (hb hby d_method_3_16) (fun _ _ => ⟨rfl, e0, (by decide : 0 + 0 ≤ _), (by decide : 0 + 0 ≤ _)⟩)
    dsimp only [Pt.U, Pt.locs, Pt.cells, Pt.slots] at X3 l3 y3 z3 st3 hQ3
    subst l3 y3 z3
    have X3 : Stand p l e _ _ m _ below meth c T3 _ 0 0 := X3
    obtain ⟨rfl, rfl, eq3⟩ := hQ3
    have Nq3 : Fr n0 ([] : List Loc) := Fr.nil n0
    have Nf3 := Fr.app Nf0 Nq3
    have kn4 : ∀ t, own_S p e below T3 (mkF m 19 #[.val (.ref x1), .val (.int j1), .val (.long d1), .second, .val (.int dm), .val (.int ps), .val (.int mc)] [(.int (Int32.ofNat cs.length)), (.int j1)]) t → Gl t := fun t kt => kn2 t (st3.trans kt)
    by_cases hc19 : j1 < (Int32.ofNat cs.length)
    · have kn5 : ∀ t, own_S p e below T3 (mkF m 24 #[.val (.ref x1), .val (.int j1), .val (.long d1), .second, .val (.int dm), .val (.int ps), .val (.int mc)] [(.int j1), (.ref x1)]) t → Gl t := fun t kt => kn4 t (by
        show own_S p e below T3 (mkF m 19 #[.val (.ref x1), .val (.int j1), .val (.long d1), .second, .val (.int dm), .val (.int ps), .val (.int mc)] [(.int (Int32.ofNat cs.length)), (.int j1)]) _
        refine XS.icmpNo X3.here hx rfl (hb hby d_method_3_19) rfl (tlt hc19).2.1 ?_
        show own_S p e below T3 (mkF m 22 #[.val (.ref x1), .val (.int j1), .val (.long d1), .second, .val (.int dm), .val (.int ps), .val (.int mc)] []) _
        refine XS.aloadN X3.here hx rfl (hb hby d_method_3_22) rfl rfl ?_
        show own_S p e below T3 (mkF m 23 #[.val (.ref x1), .val (.int j1), .val (.long d1), .second, .val (.int dm), .val (.int ps), .val (.int mc)] [(.ref x1)]) _
        refine XS.iloadN X3.here hx rfl (hb hby d_method_3_23) rfl ?_
        exact kt)
      have hch : ∀ d ∈ StrChars.Road.wordsChN, d.before a0 Z = true := fun d hd => hw d ((by decide +kernel : ∀ d ∈ StrChars.Road.wordsChN, d ∈ tables_1) d hd)
      obtain ⟨cq6, kq6, qa6, qb6, qc6⟩ := isOf hZ eq3 E_x1
      obtain ⟨_, _, ⟨T6, L6, cc6, ss6⟩, -, X6, ⟨Lc6, hQ6, l6, y6, z6⟩, st6⟩ := X3.virtualBack hx (y := (⟨"java/lang/String", "charAt", "(I)C"⟩ : MethodName)) (z := (⟨"java/lang/String", "charAt", "(I)C"⟩ : MethodName)) hown (mvT hZ (hw _ (List.mem_of_getElem? (i := 26) rfl))) (mvT hZ (hw _ (List.mem_of_getElem? (i := 27) rfl))) (notFace_of_selects (args := #[]) (mvT hZ (hw _ (List.mem_of_getElem? (i := 29) rfl)))) (mvT hZ (hw _ (List.mem_of_getElem? (i := 29) rfl))) (mvT hZ (hw _ (List.mem_of_getElem? (i := 28) rfl))) (by decide) (StrChars.Road.chN (W := 0) hZ hch (kI := 4) (hw _ (List.mem_of_getElem? (i := 2) rfl)) E_x1 V_x1 C_x1 K_x1 (StrChars.Road.codOf (cs := cs) (n := cs.length) rfl (fun x hx => (hp_x1 x hx).2)) (own_up _ hp_x1) (O2.ext O0.2) P5 (O4.ext O0.2) rG3 (Nat.le_trans hl_x1 (by decide)) (i := i1) (own_ltb hj hi6 hl_x1 hc19) (j := j1) hj (by decide) (by decide)) qa6 qc6 (g := (mkF m 24 #[.val (.ref x1), .val (.int j1), .val (.long d1), .second, .val (.int dm), .val (.int ps), .val (.int mc)] [(.int j1), (.ref x1)])) rfl (by rw [hml]; rfl) (Steps.refl _) (argsL := [(.int j1)]) (rest := []) (lenOf pd_1 rfl) rfl (by show 2 * 0 + _ ≤ _; exact Nat.le_of_eq rfl) (hb hby d_method_3_24) (fun _ _ => ⟨rfl, eq3, (by decide : 0 + 0 ≤ _), (by decide : 0 + 0 ≤ _)⟩)
      dsimp only [Pt.U, Pt.locs, Pt.cells, Pt.slots] at X6 l6 y6 z6 st6 hQ6
      subst l6 y6 z6
      have X6 : Stand p l e _ _ m _ below meth c T6 _ 0 0 := X6
      obtain ⟨rfl, rfl, eq6⟩ := hQ6
      have Nq6 : Fr n0 ([] : List Loc) := Fr.nil n0
      have Nf6 := Fr.app Nf3 Nq6
      have kn7 : ∀ t, own_S p e below T6 (mkF m 27 #[.val (.ref x1), .val (.int j1), .val (.long d1), .second, .val (.int dm), .val (.int ps), .val (.int mc)] [(.int (cs.getD i1 0))]) t → Gl t := fun t kt => kn5 t (st6.trans kt)
      obtain ⟨fs, hr, hrun, hended, hW, hsame⟩ := X6.leave (v := some (.int (nar .char (cs.getD i1 0)))) (fun h => by rw [Bd.returns] at h; cases h)
      refine ⟨_, _, hGl _ (kn7 _ (retN X6 hx (t := .char) Bd.returns (by simp) (hb hby d_method_3_27) hr)), hrun, hended, _, _, rfl, ?_, ⟨_, rfl⟩, hW, hsame.mono (by decide) (by decide)⟩
      show Q3 Z x1 j1 d1 dm ps mc t1 k1 cs i1 G1 G3 h0 n0 _ T6.heap _
      rw [eq6]
      exact ⟨_, rfl, Nf6, rfl, own_nk (own_okr (own_mem hp_x1 (own_ltb hj hi6 hl_x1 hc19)))⟩
    · have kn8 : ∀ t, own_S p e below T3 (mkF m 40 #[.val (.ref x1), .val (.int j1), .val (.long d1), .second, .val (.int dm), .val (.int ps), .val (.int mc)] [(.int (((((d1.toUInt64 >>> (((8 : Int32) * j1) &&& 0x3f).toInt64.toUInt64).toInt64) &&& (255 : Int64)).toInt32).toUInt32.toUInt16.toUInt32.toInt32))]) t → Gl t := fun t kt => kn4 t (by
        show own_S p e below T3 (mkF m 19 #[.val (.ref x1), .val (.int j1), .val (.long d1), .second, .val (.int dm), .val (.int ps), .val (.int mc)] [(.int (Int32.ofNat cs.length)), (.int j1)]) _
        refine XS.icmpYes X3.here hx rfl (pc0 := 19) (pc' := 28) rfl (hb hby d_method_3_19) rfl (flt hc19).2.1 (by decide) (by decide) ?_
        show own_S p e below T3 (mkF m 28 #[.val (.ref x1), .val (.int j1), .val (.long d1), .second, .val (.int dm), .val (.int ps), .val (.int mc)] []) _
        refine XS.lloadN X3.here hx rfl (hb hby d_method_3_28) rfl ?_
        show own_S p e below T3 (mkF m 29 #[.val (.ref x1), .val (.int j1), .val (.long d1), .second, .val (.int dm), .val (.int ps), .val (.int mc)] [(.long d1)]) _
        refine XS.bipush X3.here hx rfl (hb hby d_method_3_29) ?_
        show own_S p e below T3 (mkF m 31 #[.val (.ref x1), .val (.int j1), .val (.long d1), .second, .val (.int dm), .val (.int ps), .val (.int mc)] [(.int (8 : Int32)), (.long d1)]) _
        refine XS.iloadN X3.here hx rfl (hb hby d_method_3_31) rfl ?_
        show own_S p e below T3 (mkF m 32 #[.val (.ref x1), .val (.int j1), .val (.long d1), .second, .val (.int dm), .val (.int ps), .val (.int mc)] [(.int j1), (.int (8 : Int32)), (.long d1)]) _
        refine XS.imul X3.here hx rfl (hb hby d_method_3_32) rfl ?_
        show own_S p e below T3 (mkF m 33 #[.val (.ref x1), .val (.int j1), .val (.long d1), .second, .val (.int dm), .val (.int ps), .val (.int mc)] [(.int ((8 : Int32) * j1)), (.long d1)]) _
        refine XS.lushr X3.here hx rfl (hb hby d_method_3_33) rfl ?_
        show own_S p e below T3 (mkF m 34 #[.val (.ref x1), .val (.int j1), .val (.long d1), .second, .val (.int dm), .val (.int ps), .val (.int mc)] [(.long ((d1.toUInt64 >>> (((8 : Int32) * j1) &&& 0x3f).toInt64.toUInt64).toInt64))]) _
        refine X3.ldc2Long hx hown (mvT hZ (hw _ (List.mem_of_getElem? (i := 48) rfl))) (g := (mkF m 34 #[.val (.ref x1), .val (.int j1), .val (.long d1), .second, .val (.int dm), .val (.int ps), .val (.int mc)] [(.long ((d1.toUInt64 >>> (((8 : Int32) * j1) &&& 0x3f).toInt64.toUInt64).toInt64))])) rfl (hb hby d_method_3_34) _ ?_
        show own_S p e below T3 (mkF m 37 #[.val (.ref x1), .val (.int j1), .val (.long d1), .second, .val (.int dm), .val (.int ps), .val (.int mc)] [(.long (255 : Int64)), (.long ((d1.toUInt64 >>> (((8 : Int32) * j1) &&& 0x3f).toInt64.toUInt64).toInt64))]) _
        refine XS.land X3.here hx rfl (hb hby d_method_3_37) rfl ?_
        show own_S p e below T3 (mkF m 38 #[.val (.ref x1), .val (.int j1), .val (.long d1), .second, .val (.int dm), .val (.int ps), .val (.int mc)] [(.long (((d1.toUInt64 >>> (((8 : Int32) * j1) &&& 0x3f).toInt64.toUInt64).toInt64) &&& (255 : Int64)))]) _
        refine XS.l2i X3.here hx rfl (hb hby d_method_3_38) rfl ?_
        show own_S p e below T3 (mkF m 39 #[.val (.ref x1), .val (.int j1), .val (.long d1), .second, .val (.int dm), .val (.int ps), .val (.int mc)] [(.int ((((d1.toUInt64 >>> (((8 : Int32) * j1) &&& 0x3f).toInt64.toUInt64).toInt64) &&& (255 : Int64)).toInt32))]) _
        refine XS.i2c X3.here hx rfl (hb hby d_method_3_39) rfl ?_
        exact kt)
      obtain ⟨fs, hr, hrun, hended, hW, hsame⟩ := X3.leave (v := some (.int (nar .char (((((d1.toUInt64 >>> (((8 : Int32) * j1) &&& 0x3f).toInt64.toUInt64).toInt64) &&& (255 : Int64)).toInt32).toUInt32.toUInt16.toUInt32.toInt32)))) (fun h => by rw [Bd.returns] at h; cases h)
      refine ⟨_, _, hGl _ (kn8 _ (retN X3 hx (t := .char) Bd.returns (by simp) (hb hby d_method_3_40) hr)), hrun, hended, _, _, rfl, ?_, ⟨_, rfl⟩, hW, hsame.mono (by decide) (by decide)⟩
      show Q3 Z x1 j1 d1 dm ps mc t1 k1 cs i1 G1 G3 h0 n0 _ T3.heap _
      rw [eq3]
      exact ⟨_, rfl, Nf3, rfl, own_nk (own_okL _)⟩
  · have kn9 : ∀ t, own_S p e below s₁ (mkF m 8 #[.val (.ref x1), .val (.int j1), .val (.long d1), .second, .val (.int dm), .val (.int ps), .val (.int mc)] [(.int j1), (.int ps)]) t → Gl t := fun t kt => kn1 t (by
      show own_S p e below s₁ (mkF m 2 #[.val (.ref x1), .val (.int j1), .val (.long d1), .second, .val (.int dm), .val (.int ps), .val (.int mc)] [(.int dm)]) _
      refine XS.ifNo X0.here hx rfl (hb hby d_method_3_2) rfl ((if0 _ _).trans (feq hc2).1) ?_
      show own_S p e below s₁ (mkF m 5 #[.val (.ref x1), .val (.int j1), .val (.long d1), .second, .val (.int dm), .val (.int ps), .val (.int mc)] []) _
      refine XS.iload X0.here hx rfl (hb hby d_method_3_5) rfl ?_
      show own_S p e below s₁ (mkF m 7 #[.val (.ref x1), .val (.int j1), .val (.long d1), .second, .val (.int dm), .val (.int ps), .val (.int mc)] [(.int ps)]) _
      refine XS.iloadN X0.here hx rfl (hb hby d_method_3_7) rfl ?_
      exact kt)
    by_cases hc8 : ps = j1
    · have kn10 : ∀ t, own_S p e below s₁ (mkF m 13 #[.val (.ref x1), .val (.int j1), .val (.long d1), .second, .val (.int dm), .val (.int ps), .val (.int mc)] [(.int mc)]) t → Gl t := fun t kt => kn9 t (by
        show own_S p e below s₁ (mkF m 8 #[.val (.ref x1), .val (.int j1), .val (.long d1), .second, .val (.int dm), .val (.int ps), .val (.int mc)] [(.int j1), (.int ps)]) _
        refine XS.icmpNo X0.here hx rfl (hb hby d_method_3_8) rfl (teq hc8).2 ?_
        show own_S p e below s₁ (mkF m 11 #[.val (.ref x1), .val (.int j1), .val (.long d1), .second, .val (.int dm), .val (.int ps), .val (.int mc)] []) _
        refine XS.iload X0.here hx rfl (hb hby d_method_3_11) rfl ?_
        exact kt)
      obtain ⟨fs, hr, hrun, hended, hW, hsame⟩ := X0.leave (v := some (.int (nar .char mc))) (fun h => by rw [Bd.returns] at h; cases h)
      refine ⟨_, _, hGl _ (kn10 _ (retN X0 hx (t := .char) Bd.returns (by simp) (hb hby d_method_3_13) hr)), hrun, hended, _, _, rfl, ?_, ⟨_, rfl⟩, hW, hsame.mono (by decide) (by decide)⟩
      show Q3 Z x1 j1 d1 dm ps mc t1 k1 cs i1 G1 G3 h0 n0 _ s₁.heap _
      rw [e0]
      exact ⟨_, rfl, Nf0, rfl, own_nk okm⟩
    · have kn11 : ∀ t, own_S p e below s₁ (mkF m 16 #[.val (.ref x1), .val (.int j1), .val (.long d1), .second, .val (.int dm), .val (.int ps), .val (.int mc)] [(.ref x1), (.int j1)]) t → Gl t := fun t kt => kn9 t (by
        show own_S p e below s₁ (mkF m 8 #[.val (.ref x1), .val (.int j1), .val (.long d1), .second, .val (.int dm), .val (.int ps), .val (.int mc)] [(.int j1), (.int ps)]) _
        refine XS.icmpYes X0.here hx rfl (pc0 := 8) (pc' := 14) rfl (hb hby d_method_3_8) rfl (feq hc8).2 (by decide) (by decide) ?_
        show own_S p e below s₁ (mkF m 14 #[.val (.ref x1), .val (.int j1), .val (.long d1), .second, .val (.int dm), .val (.int ps), .val (.int mc)] []) _
        refine XS.iloadN X0.here hx rfl (hb hby d_method_3_14) rfl ?_
        show own_S p e below s₁ (mkF m 15 #[.val (.ref x1), .val (.int j1), .val (.long d1), .second, .val (.int dm), .val (.int ps), .val (.int mc)] [(.int j1)]) _
        refine XS.aloadN X0.here hx rfl (hb hby d_method_3_15) rfl rfl ?_
        exact kt)
      have hln : ∀ d ∈ StrChars.Road.wordsLen, d.before a0 Z = true := fun d hd => hw d ((by decide +kernel : ∀ d ∈ StrChars.Road.wordsLen, d ∈ tables_1) d hd)
      obtain ⟨cq12, kq12, qa12, qb12, qc12⟩ := isOf hZ e0 E_x1
      obtain ⟨_, _, ⟨T12, L12, cc12, ss12⟩, -, X12, ⟨Lc12, hQ12, l12, y12, z12⟩, st12⟩ := X0.virtualBack hx (y := (⟨"java/lang/String", "length", "()I"⟩ : MethodName)) (z := (⟨"java/lang/String", "length", "()I"⟩ : MethodName)) hown (mvT hZ (hw _ (List.mem_of_getElem? (i := 8) rfl))) (mvT hZ (hw _ (List.mem_of_getElem? (i := 9) rfl))) (notFace_of_selects (args := #[]) (mvT hZ (hw _ (List.mem_of_getElem? (i := 11) rfl)))) (mvT hZ (hw _ (List.mem_of_getElem? (i := 11) rfl))) (mvT hZ (hw _ (List.mem_of_getElem? (i := 10) rfl))) (by decide) (StrChars.Road.lenW (W := 1) hZ hln (kI := 4) (hw _ (List.mem_of_getElem? (i := 2) rfl)) E_x1 V_x1 C_x1 K_x1 (StrChars.Road.codOf (cs := cs) (n := cs.length) rfl (fun x hx => (hp_x1 x hx).2)) (own_up _ hp_x1) (O2.ext O0.2) P5 (Nat.le_trans hl_x1 (by decide)) (by decide) (by decide)) qa12 qc12 (g := (mkF m 16 #[.val (.ref x1), .val (.int j1), .val (.long d1), .second, .val (.int dm), .val (.int ps), .val (.int mc)] [(.ref x1), (.int j1)])) rfl (by rw [hml]; rfl) (Steps.refl _) (argsL := []) (rest := [(.int j1)]) (lenOf pd_0 rfl) rfl (by show 2 * 0 + _ ≤ _; exact Nat.le_of_eq rfl) (hb hby d_method_3_16) (fun _ _ => ⟨rfl, e0, (by decide : 0 + 0 ≤ _), (by decide : 0 + 0 ≤ _)⟩)
      dsimp only [Pt.U, Pt.locs, Pt.cells, Pt.slots] at X12 l12 y12 z12 st12 hQ12
      subst l12 y12 z12
      have X12 : Stand p l e _ _ m _ below meth c T12 _ 0 0 := X12
      obtain ⟨rfl, rfl, eq12⟩ := hQ12
      have Nq12 : Fr n0 ([] : List Loc) := Fr.nil n0
      have Nf12 := Fr.app Nf0 Nq12
      have kn13 : ∀ t, own_S p e below T12 (mkF m 19 #[.val (.ref x1), .val (.int j1), .val (.long d1), .second, .val (.int dm), .val (.int ps), .val (.int mc)] [(.int (Int32.ofNat cs.length)), (.int j1)]) t → Gl t := fun t kt => kn11 t (st12.trans kt)
      by_cases hc19 : j1 < (Int32.ofNat cs.length)
      · have kn14 : ∀ t, own_S p e below T12 (mkF m 24 #[.val (.ref x1), .val (.int j1), .val (.long d1), .second, .val (.int dm), .val (.int ps), .val (.int mc)] [(.int j1), (.ref x1)]) t → Gl t := fun t kt => kn13 t (by
          show own_S p e below T12 (mkF m 19 #[.val (.ref x1), .val (.int j1), .val (.long d1), .second, .val (.int dm), .val (.int ps), .val (.int mc)] [(.int (Int32.ofNat cs.length)), (.int j1)]) _
          refine XS.icmpNo X12.here hx rfl (hb hby d_method_3_19) rfl (tlt hc19).2.1 ?_
          show own_S p e below T12 (mkF m 22 #[.val (.ref x1), .val (.int j1), .val (.long d1), .second, .val (.int dm), .val (.int ps), .val (.int mc)] []) _
          refine XS.aloadN X12.here hx rfl (hb hby d_method_3_22) rfl rfl ?_
          show own_S p e below T12 (mkF m 23 #[.val (.ref x1), .val (.int j1), .val (.long d1), .second, .val (.int dm), .val (.int ps), .val (.int mc)] [(.ref x1)]) _
          refine XS.iloadN X12.here hx rfl (hb hby d_method_3_23) rfl ?_
          exact kt)
        have hch : ∀ d ∈ StrChars.Road.wordsChN, d.before a0 Z = true := fun d hd => hw d ((by decide +kernel : ∀ d ∈ StrChars.Road.wordsChN, d ∈ tables_1) d hd)
        obtain ⟨cq15, kq15, qa15, qb15, qc15⟩ := isOf hZ eq12 E_x1
        obtain ⟨_, _, ⟨T15, L15, cc15, ss15⟩, -, X15, ⟨Lc15, hQ15, l15, y15, z15⟩, st15⟩ := X12.virtualBack hx (y := (⟨"java/lang/String", "charAt", "(I)C"⟩ : MethodName)) (z := (⟨"java/lang/String", "charAt", "(I)C"⟩ : MethodName)) hown (mvT hZ (hw _ (List.mem_of_getElem? (i := 26) rfl))) (mvT hZ (hw _ (List.mem_of_getElem? (i := 27) rfl))) (notFace_of_selects (args := #[]) (mvT hZ (hw _ (List.mem_of_getElem? (i := 29) rfl)))) (mvT hZ (hw _ (List.mem_of_getElem? (i := 29) rfl))) (mvT hZ (hw _ (List.mem_of_getElem? (i := 28) rfl))) (by decide) (StrChars.Road.chN (W := 0) hZ hch (kI := 4) (hw _ (List.mem_of_getElem? (i := 2) rfl)) E_x1 V_x1 C_x1 K_x1 (StrChars.Road.codOf (cs := cs) (n := cs.length) rfl (fun x hx => (hp_x1 x hx).2)) (own_up _ hp_x1) (O2.ext O0.2) P5 (O4.ext O0.2) rG3 (Nat.le_trans hl_x1 (by decide)) (i := i1) (own_ltb hj hi6 hl_x1 hc19) (j := j1) hj (by decide) (by decide)) qa15 qc15 (g := (mkF m 24 #[.val (.ref x1), .val (.int j1), .val (.long d1), .second, .val (.int dm), .val (.int ps), .val (.int mc)] [(.int j1), (.ref x1)])) rfl (by rw [hml]; rfl) (Steps.refl _) (argsL := [(.int j1)]) (rest := []) (lenOf pd_1 rfl) rfl (by show 2 * 0 + _ ≤ _; exact Nat.le_of_eq rfl) (hb hby d_method_3_24) (fun _ _ => ⟨rfl, eq12, (by decide : 0 + 0 ≤ _), (by decide : 0 + 0 ≤ _)⟩)
        dsimp only [Pt.U, Pt.locs, Pt.cells, Pt.slots] at X15 l15 y15 z15 st15 hQ15
        subst l15 y15 z15
        have X15 : Stand p l e _ _ m _ below meth c T15 _ 0 0 := X15
        obtain ⟨rfl, rfl, eq15⟩ := hQ15
        have Nq15 : Fr n0 ([] : List Loc) := Fr.nil n0
        have Nf15 := Fr.app Nf12 Nq15
        have kn16 : ∀ t, own_S p e below T15 (mkF m 27 #[.val (.ref x1), .val (.int j1), .val (.long d1), .second, .val (.int dm), .val (.int ps), .val (.int mc)] [(.int (cs.getD i1 0))]) t → Gl t := fun t kt => kn14 t (st15.trans kt)
        obtain ⟨fs, hr, hrun, hended, hW, hsame⟩ := X15.leave (v := some (.int (nar .char (cs.getD i1 0)))) (fun h => by rw [Bd.returns] at h; cases h)
        refine ⟨_, _, hGl _ (kn16 _ (retN X15 hx (t := .char) Bd.returns (by simp) (hb hby d_method_3_27) hr)), hrun, hended, _, _, rfl, ?_, ⟨_, rfl⟩, hW, hsame.mono (by decide) (by decide)⟩
        show Q3 Z x1 j1 d1 dm ps mc t1 k1 cs i1 G1 G3 h0 n0 _ T15.heap _
        rw [eq15]
        exact ⟨_, rfl, Nf15, rfl, own_nk (own_okr (own_mem hp_x1 (own_ltb hj hi6 hl_x1 hc19)))⟩
      · have kn17 : ∀ t, own_S p e below T12 (mkF m 40 #[.val (.ref x1), .val (.int j1), .val (.long d1), .second, .val (.int dm), .val (.int ps), .val (.int mc)] [(.int (((((d1.toUInt64 >>> (((8 : Int32) * j1) &&& 0x3f).toInt64.toUInt64).toInt64) &&& (255 : Int64)).toInt32).toUInt32.toUInt16.toUInt32.toInt32))]) t → Gl t := fun t kt => kn13 t (by
          show own_S p e below T12 (mkF m 19 #[.val (.ref x1), .val (.int j1), .val (.long d1), .second, .val (.int dm), .val (.int ps), .val (.int mc)] [(.int (Int32.ofNat cs.length)), (.int j1)]) _
          refine XS.icmpYes X12.here hx rfl (pc0 := 19) (pc' := 28) rfl (hb hby d_method_3_19) rfl (flt hc19).2.1 (by decide) (by decide) ?_
          show own_S p e below T12 (mkF m 28 #[.val (.ref x1), .val (.int j1), .val (.long d1), .second, .val (.int dm), .val (.int ps), .val (.int mc)] []) _
          refine XS.lloadN X12.here hx rfl (hb hby d_method_3_28) rfl ?_
          show own_S p e below T12 (mkF m 29 #[.val (.ref x1), .val (.int j1), .val (.long d1), .second, .val (.int dm), .val (.int ps), .val (.int mc)] [(.long d1)]) _
          refine XS.bipush X12.here hx rfl (hb hby d_method_3_29) ?_
          show own_S p e below T12 (mkF m 31 #[.val (.ref x1), .val (.int j1), .val (.long d1), .second, .val (.int dm), .val (.int ps), .val (.int mc)] [(.int (8 : Int32)), (.long d1)]) _
          refine XS.iloadN X12.here hx rfl (hb hby d_method_3_31) rfl ?_
          show own_S p e below T12 (mkF m 32 #[.val (.ref x1), .val (.int j1), .val (.long d1), .second, .val (.int dm), .val (.int ps), .val (.int mc)] [(.int j1), (.int (8 : Int32)), (.long d1)]) _
          refine XS.imul X12.here hx rfl (hb hby d_method_3_32) rfl ?_
          show own_S p e below T12 (mkF m 33 #[.val (.ref x1), .val (.int j1), .val (.long d1), .second, .val (.int dm), .val (.int ps), .val (.int mc)] [(.int ((8 : Int32) * j1)), (.long d1)]) _
          refine XS.lushr X12.here hx rfl (hb hby d_method_3_33) rfl ?_
          show own_S p e below T12 (mkF m 34 #[.val (.ref x1), .val (.int j1), .val (.long d1), .second, .val (.int dm), .val (.int ps), .val (.int mc)] [(.long ((d1.toUInt64 >>> (((8 : Int32) * j1) &&& 0x3f).toInt64.toUInt64).toInt64))]) _
          refine X12.ldc2Long hx hown (mvT hZ (hw _ (List.mem_of_getElem? (i := 48) rfl))) (g := (mkF m 34 #[.val (.ref x1), .val (.int j1), .val (.long d1), .second, .val (.int dm), .val (.int ps), .val (.int mc)] [(.long ((d1.toUInt64 >>> (((8 : Int32) * j1) &&& 0x3f).toInt64.toUInt64).toInt64))])) rfl (hb hby d_method_3_34) _ ?_
          show own_S p e below T12 (mkF m 37 #[.val (.ref x1), .val (.int j1), .val (.long d1), .second, .val (.int dm), .val (.int ps), .val (.int mc)] [(.long (255 : Int64)), (.long ((d1.toUInt64 >>> (((8 : Int32) * j1) &&& 0x3f).toInt64.toUInt64).toInt64))]) _
          refine XS.land X12.here hx rfl (hb hby d_method_3_37) rfl ?_
          show own_S p e below T12 (mkF m 38 #[.val (.ref x1), .val (.int j1), .val (.long d1), .second, .val (.int dm), .val (.int ps), .val (.int mc)] [(.long (((d1.toUInt64 >>> (((8 : Int32) * j1) &&& 0x3f).toInt64.toUInt64).toInt64) &&& (255 : Int64)))]) _
          refine XS.l2i X12.here hx rfl (hb hby d_method_3_38) rfl ?_
          show own_S p e below T12 (mkF m 39 #[.val (.ref x1), .val (.int j1), .val (.long d1), .second, .val (.int dm), .val (.int ps), .val (.int mc)] [(.int ((((d1.toUInt64 >>> (((8 : Int32) * j1) &&& 0x3f).toInt64.toUInt64).toInt64) &&& (255 : Int64)).toInt32))]) _
          refine XS.i2c X12.here hx rfl (hb hby d_method_3_39) rfl ?_
          exact kt)
        obtain ⟨fs, hr, hrun, hended, hW, hsame⟩ := X12.leave (v := some (.int (nar .char (((((d1.toUInt64 >>> (((8 : Int32) * j1) &&& 0x3f).toInt64.toUInt64).toInt64) &&& (255 : Int64)).toInt32).toUInt32.toUInt16.toUInt32.toInt32)))) (fun h => by rw [Bd.returns] at h; cases h)
        refine ⟨_, _, hGl _ (kn17 _ (retN X12 hx (t := .char) Bd.returns (by simp) (hb hby d_method_3_40) hr)), hrun, hended, _, _, rfl, ?_, ⟨_, rfl⟩, hW, hsame.mono (by decide) (by decide)⟩
        show Q3 Z x1 j1 d1 dm ps mc t1 k1 cs i1 G1 G3 h0 n0 _ T12.heap _
        rw [eq12]
        exact ⟨_, rfl, Nf12, rfl, own_nk (own_okL _)⟩

theorem d_jdk_42_method_149_0 : decode jdk_42_method_149_code 0 = .ok (.aload_n 0, 1) := by decide +kernel
theorem d_jdk_42_method_149_1 : decode jdk_42_method_149_code 1 = .ok (.invokespecial 1, 3) := by decide +kernel
theorem d_jdk_42_method_149_4 : decode jdk_42_method_149_code 4 = .ok (.iload_n 3, 1) := by decide +kernel
theorem d_jdk_42_method_149_5 : decode jdk_42_method_149_code 5 = .ok (.ifCond .ne 22, 3) := by decide +kernel
theorem d_jdk_42_method_149_8 : decode jdk_42_method_149_code 8 = .ok (.aload_n 0, 1) := by decide +kernel
theorem d_jdk_42_method_149_9 : decode jdk_42_method_149_code 9 = .ok (.ldc 7, 2) := by decide +kernel
theorem d_jdk_42_method_149_11 : decode jdk_42_method_149_code 11 = .ok (.getfield 9, 3) := by decide +kernel
theorem d_jdk_42_method_149_14 : decode jdk_42_method_149_code 14 = .ok (.putfield 9, 3) := by decide +kernel
theorem d_jdk_42_method_149_17 : decode jdk_42_method_149_code 17 = .ok (.aload_n 0, 1) := by decide +kernel
theorem d_jdk_42_method_149_18 : decode jdk_42_method_149_code 18 = .ok (.ldc 7, 2) := by decide +kernel
theorem d_jdk_42_method_149_20 : decode jdk_42_method_149_code 20 = .ok (.getfield 15, 3) := by decide +kernel
theorem d_jdk_42_method_149_23 : decode jdk_42_method_149_code 23 = .ok (.putfield 15, 3) := by decide +kernel
theorem d_jdk_42_method_149_26 : decode jdk_42_method_149_code 26 = .ok (.return_, 1) := by decide +kernel
theorem pn_1 : plainName "java/lang/String" = true := by first | (simp [plainName, overriddenIn]; done) | decide +kernel
theorem ef_rmE3 (m : MethodId) (x0 : Addr) (x1 : Addr) : entryFrame m #[(.ref x0), (.ref x1), (.int (0 : Int32)), (.int (0 : Int32)), .null] 6 = mkF m 0 #[.val (.ref x0), .val (.ref x1), .val (.int (0 : Int32)), .val (.int (0 : Int32)), .val .null, .unset] [] := by first | (simp [entryFrame, mkF, argsToLocals, Value.category]; done) | rfl
def QE3 (Z : State) (a1 : Addr) (b2 : Addr) (h0 : Heap) (n0 : Nat) (v : Option Value) (h : Heap) (L : List Loc) : Prop := v = none ∧ Fr n0 L ∧ ∃ (t : Addr) (kb : ClassId), Keep h0 h [a1] ∧ Exa Z h a1 "java/lang/String" ∧ Fld Z h a1 "java/lang/String" "coder" "B" (.int (0 : Int32)) ∧ Fld Z h a1 "java/lang/String" "value" "[B" (.ref t) ∧ Arv Z h t kb .byte (0 : Int32) [] (.int (0 : Int32))
set_option maxRecDepth 65536 in
set_option maxHeartbeats 40000000 in
theorem rmE3 (l : Launch) (Z : State) (a0 : Array Value) (hw : ∀ d ∈ tables_1, d.before a0 Z = true) (ws : List Jvm.Cond) (a1 : Addr) (b2 : Addr) (h0 : Heap) (n0 : Nat) (Z0 : n0 ≤ h0.size) (F1 : Fld Z h0 a1 "java/lang/String" "value" "[B" .null) (F2 : Fld Z h0 a1 "java/lang/String" "coder" "B" (.int (0 : Int32))) (E1 : Exa Z h0 a1 "java/lang/String") (g_a1 : n0 ≤ a1) (O0 : Old Z n0 h0) :
    MetFree l (⟨"java/lang/String", "<init>", "([CIILjava/lang/Void;)V"⟩ : MethodName) (head1 (Jvm.Cond.code (⟨"java/lang/String", "<init>", "([CIILjava/lang/Void;)V"⟩ : MethodName) jdk_42_method_149_code 6 none :: ws) ({ frames := 1, cells := 2, slots := 8, locals := 12 } : Room)) (fun a U => a = #[(.ref a1), (.ref b2), (.int (0 : Int32)), (.int (0 : Int32)), .null] ∧ Z.Warmed39 U.vm ∧ U.heap = h0 ∧ CHv Z consts_1 U.vm h0) (fun _ _ _ _ _ => True) (fun _ U o U' => ∃ v L, o = .returned v ∧ QE3 Z a1 b2 h0 n0 v U'.heap L ∧ CHr Z consts_1 U.vm U.heap U'.vm U'.heap ∧ ReturnedEndW U o U' L ({ frames := 1, cells := 2, slots := 8, locals := 12 } : Room).cells ({ frames := 1, cells := 2, slots := 8, locals := 12 } : Room).slots) := by
  refine MetFree.of_bodySF (plainFor_of_name pn_1) hisR ?_
  intro p e s m args below meth c s₁ Bd hml0 hP hK
  obtain ⟨rfl, hZ, hh, hCH⟩ := hP
  have hx := Bd.exec
  have hby := Bd.bytes
  have hml : c.maxLocals = 6 := hml0
  have hown : s.vm.findClass "java/lang/String" = some m.cls := findClass_of_methodNamed Bd.named
  have hnm := (name_of_methodNamed Bd.named Bd.method).1
  have X0 : Stand p l e ({ frames := 1, cells := 2, slots := 8, locals := 12 } : Room) s m #[(.ref a1), (.ref b2), (.int (0 : Int32)), (.int (0 : Int32)), .null] below meth c s₁ [] 0 0 := Stand.of_body Bd
  have e0 : s₁.heap = h0 := by rw [← hh, Bd.state]; rfl
  have Nf0 := Fr.nil n0
  obtain ⟨Gl, hGl, kn0⟩ : ∃ Gl : State → Prop, (∀ t, Gl t → Steps p.tables e below (s₁.setTop (entryFrame m #[(.ref a1), (.ref b2), (.int (0 : Int32)), (.int (0 : Int32)), .null] 6)) t) ∧ ∀ t, own_S p e below s₁ (mkF m 0 #[.val (.ref a1), .val (.ref b2), .val (.int (0 : Int32)), .val (.int (0 : Int32)), .val .null, .unset] []) t → Gl t := ⟨fun t => Steps p.tables e below (s₁.setTop (entryFrame m #[(.ref a1), (.ref b2), (.int (0 : Int32)), (.int (0 : Int32)), .null] 6)) t, fun _ k => k, fun t k => castTop (ef_rmE3 m a1 b2) k⟩
  have X0 : Stand p l e ({ frames := 1, cells := 2, slots := 8, locals := 12 } : Room) (s.setVm s.vm) m #[(.ref a1), (.ref b2), (.int (0 : Int32)), (.int (0 : Int32)), .null] below meth c s₁ [] 0 0 := X0
  have hZ : Z.Warmed39 (s.setVm s.vm).vm := hZ
  have hown : (s.setVm s.vm).vm.findClass "java/lang/String" = some m.cls := hown
  have hSt0 : s.Since s.vm 0 := (State.WarmedH.refl s).since 0
  have CR0 := CHr.refl hCH
  have SFs := own_safeN (EL := consts_1) hZ.alike E1 F1
  have kn1 : ∀ t, own_S p e below s₁ (mkF m 1 #[.val (.ref a1), .val (.ref b2), .val (.int (0 : Int32)), .val (.int (0 : Int32)), .val .null, .unset] [(.ref a1)]) t → Gl t := fun t kt => kn0 t (by
    show own_S p e below s₁ (mkF m 0 #[.val (.ref a1), .val (.ref b2), .val (.int (0 : Int32)), .val (.int (0 : Int32)), .val .null, .unset] []) _
    refine XS.aloadN X0.here hx rfl (hb hby d_jdk_42_method_149_0) rfl rfl ?_
    exact kt)
  obtain ⟨T2, X2, e2, st2⟩ := initO X0 hx hZ hown (hw _ (List.mem_of_getElem? (i := 90) rfl)) (hw _ (List.mem_of_getElem? (i := 91) rfl)) (hw _ (List.mem_of_getElem? (i := 92) rfl)) e0 (g := (mkF m 1 #[.val (.ref a1), .val (.ref b2), .val (.int (0 : Int32)), .val (.int (0 : Int32)), .val .null, .unset] [(.ref a1)])) rfl (by rw [hml]; rfl) rfl (hb hby d_jdk_42_method_149_1) (by decide) (W := 0) (by show 2 * 0 + _ ≤ _; exact Nat.le_of_eq rfl) (by decide)
  have kn3 : ∀ t, own_S p e below T2 (mkF m 4 #[.val (.ref a1), .val (.ref b2), .val (.int (0 : Int32)), .val (.int (0 : Int32)), .val .null, .unset] []) t → Gl t := fun t kt => kn1 t (st2 _ kt)
  have kn4 : ∀ t, own_S p e below T2 (mkF m 9 #[.val (.ref a1), .val (.ref b2), .val (.int (0 : Int32)), .val (.int (0 : Int32)), .val .null, .unset] [(.ref a1)]) t → Gl t := fun t kt => kn3 t (by
    show own_S p e below T2 (mkF m 4 #[.val (.ref a1), .val (.ref b2), .val (.int (0 : Int32)), .val (.int (0 : Int32)), .val .null, .unset] []) _
    refine XS.iloadN X2.here hx rfl (hb hby d_jdk_42_method_149_4) rfl ?_
    show own_S p e below T2 (mkF m 5 #[.val (.ref a1), .val (.ref b2), .val (.int (0 : Int32)), .val (.int (0 : Int32)), .val .null, .unset] [(.int (0 : Int32))]) _
    refine XS.ifNo X2.here hx rfl (hb hby d_jdk_42_method_149_5) rfl ((if0 _ _).trans (teq (by decide : (0 : Int32) = (0 : Int32))).2) ?_
    show own_S p e below T2 (mkF m 8 #[.val (.ref a1), .val (.ref b2), .val (.int (0 : Int32)), .val (.int (0 : Int32)), .val .null, .unset] []) _
    refine XS.aloadN X2.here hx rfl (hb hby d_jdk_42_method_149_8) rfl rfl ?_
    exact kt)
  obtain ⟨a5, T5, h5, kc5, t5, kk5, X5, e5, E5, hSn5, hkn5, hZ, hown, Ex5, Co5, Va5, Ar5, la5, lb5, CC5, Lt5, sf5, st5⟩ := ldcCH (vm0 := s.vm) X2 hx hZ hown (hw _ (List.mem_of_getElem? (i := 111) rfl)) (own_wS hw) e2 hSt0 (Nat.zero_le _) (own_EW hw) (List.mem_of_getElem? (i := 4) rfl) CR0.1 (vs := []) (z := (0 : Int32)) ⟨by decide, by decide⟩ (by decide) rfl (g := (mkF m 9 #[.val (.ref a1), .val (.ref b2), .val (.int (0 : Int32)), .val (.int (0 : Int32)), .val .null, .unset] [(.ref a1)])) rfl (hb hby d_jdk_42_method_149_9) (n := 4) (by decide) (by decide) (by decide) (by decide)
  have CR6 := CR0.trans CC5
  have SF6_a1 := CC5.safe E1.lt SFs
  have SL6_a1 := Nat.lt_of_lt_of_le E1.lt CC5.2.1
  have Z7 : n0 ≤ h5.size := Nat.le_trans Z0 E5.1
  have hk8 := Nat.le_trans (Nat.zero_le _) E5.1
  have Od9 : Old Z n0 h5 := O0.ext E5
  have K10 : Keep h0 h5 [a1] := (Keep.refl h0 [a1]).ext E5
  have na5_a1 : a1 ≠ a5 := (sf5 a1 SF6_a1).1
  have nt5_a1 : a1 ≠ t5 := (sf5 a1 SF6_a1).2
  have Ag5 : Arv Z h5 t5 kk5 .byte (Int32.ofNat ([] : List Int32).length) ((([] : List Int32).map (fun c => c.toInt8.toInt32)).map Value.int) (.int (0 : Int32)) := Ar5
  have hp5 : ∀ c ∈ ([] : List Int32), ¬ c < 0 ∧ ¬ (255 : Int32) < c := by decide
  have hl5 : ([] : List Int32).length ≤ 64 := by decide
  have kn11 : ∀ t, own_S p e below T5 (mkF m 11 #[.val (.ref a1), .val (.ref b2), .val (.int (0 : Int32)), .val (.int (0 : Int32)), .val .null, .unset] [(.ref a5), (.ref a1)]) t → Gl t := fun t kt => kn4 t (st5 _ kt)
  obtain ⟨T12, X12, e12, st12⟩ := getF X5 hx hZ hown (host := "") (Or.inl (hw _ (List.mem_of_getElem? (i := 13) rfl))) Via.refl e5 Va5 (g := (mkF m 11 #[.val (.ref a1), .val (.ref b2), .val (.int (0 : Int32)), .val (.int (0 : Int32)), .val .null, .unset] [(.ref a5), (.ref a1)])) rfl rfl (hb hby d_jdk_42_method_149_11)
  have kn13 : ∀ t, own_S p e below T12 (mkF m 14 #[.val (.ref a1), .val (.ref b2), .val (.int (0 : Int32)), .val (.int (0 : Int32)), .val .null, .unset] [(.ref t5), (.ref a1)]) t → Gl t := fun t kt => kn11 t (st12 _ kt)
  have f14 := (F1.ext E5)
  have f15 := (E1.ext E5)
  obtain ⟨T16, h16, X16, e16, W16, st16⟩ := putF X12 hx hZ hown (host := "") (Or.inl (hw _ (List.mem_of_getElem? (i := 13) rfl))) Via.refl e12 f14 f15 (Or.inr ⟨(hw _ (List.mem_of_getElem? (i := 4) rfl)), rfl, hnm⟩) (hw _ (List.mem_of_getElem? (i := 2) rfl)) (ty := (.array .byte)) (by decide) rfl rfl (g := (mkF m 14 #[.val (.ref a1), .val (.ref b2), .val (.int (0 : Int32)), .val (.int (0 : Int32)), .val .null, .unset] [(.ref t5), (.ref a1)])) rfl rfl (hb hby d_jdk_42_method_149_14)
  have CS17 := CHr.wr W16 SF6_a1 CR6.1
  have CR17 := CR6.trans CS17
  have SF17_a1 := CS17.safe SL6_a1 SF6_a1
  have SL17_a1 := Nat.lt_of_lt_of_le SL6_a1 CS17.2.1
  have Z18 : n0 ≤ h16.size := Nat.le_trans Z7 (Keep.of_wr W16).1
  have hk19 := Nat.le_trans hkn5 (Keep.of_wr W16).1
  have Od20 : Old Z n0 h16 := Od9.wr W16 g_a1
  have K21 : Keep h0 h16 [a1] := K10.wr W16 (Or.inl (List.mem_of_getElem? (i := 0) rfl))
  have Fw16 := f14.same W16
  have Nf22 := Fr.snoc X16 Nf0 g_a1
  have kn23 : ∀ t, own_S p e below T16 (mkF m 17 #[.val (.ref a1), .val (.ref b2), .val (.int (0 : Int32)), .val (.int (0 : Int32)), .val .null, .unset] []) t → Gl t := fun t kt => kn13 t (st16 _ kt)
  have kn24 : ∀ t, own_S p e below T16 (mkF m 18 #[.val (.ref a1), .val (.ref b2), .val (.int (0 : Int32)), .val (.int (0 : Int32)), .val .null, .unset] [(.ref a1)]) t → Gl t := fun t kt => kn23 t (by
    show own_S p e below T16 (mkF m 17 #[.val (.ref a1), .val (.ref b2), .val (.int (0 : Int32)), .val (.int (0 : Int32)), .val .null, .unset] []) _
    refine XS.aloadN X16.here hx rfl (hb hby d_jdk_42_method_149_17) rfl rfl ?_
    exact kt)
  have st25 := ldcR (Z := s.setVm T5.vm) (a0 := #[]) X16 hx (State.Warmed39.refl _) hown (own_ref (args := #[]) (mvS (s := s) hZ (hw _ (List.mem_of_getElem? (i := 111) rfl))) Lt5) Lt5 (g := (mkF m 18 #[.val (.ref a1), .val (.ref b2), .val (.int (0 : Int32)), .val (.int (0 : Int32)), .val .null, .unset] [(.ref a1)])) rfl (hb hby d_jdk_42_method_149_18)
  have kn26 : ∀ t, own_S p e below T16 (mkF m 20 #[.val (.ref a1), .val (.ref b2), .val (.int (0 : Int32)), .val (.int (0 : Int32)), .val .null, .unset] [(.ref a5), (.ref a1)]) t → Gl t := fun t kt => kn24 t (st25 _ kt)
  have f27 := (Co5.other W16 (Or.inl (Ne.symm na5_a1)))
  obtain ⟨T28, X28, e28, st28⟩ := getF X16 hx hZ hown (host := "") (Or.inl (hw _ (List.mem_of_getElem? (i := 20) rfl))) Via.refl e16 f27 (g := (mkF m 20 #[.val (.ref a1), .val (.ref b2), .val (.int (0 : Int32)), .val (.int (0 : Int32)), .val .null, .unset] [(.ref a5), (.ref a1)])) rfl rfl (hb hby d_jdk_42_method_149_20)
  have kn29 : ∀ t, own_S p e below T28 (mkF m 23 #[.val (.ref a1), .val (.ref b2), .val (.int (0 : Int32)), .val (.int (0 : Int32)), .val .null, .unset] [(.int (0 : Int32)), (.ref a1)]) t → Gl t := fun t kt => kn26 t (st28 _ kt)
  have f30 := ((F2.ext E5).other W16 (Or.inr (slot_ne (Or.inr (hw _ (List.mem_of_getElem? (i := 5) rfl))) (Or.inr (hw _ (List.mem_of_getElem? (i := 4) rfl))) (by decide) (t := .byte) (t' := (.array .byte)) (by decide) (by decide))))
  have f31 := (f15.wr W16)
  obtain ⟨T32, h32, X32, e32, W32, st32⟩ := putFN X28 hx hZ hown (hw _ (List.mem_of_getElem? (i := 20) rfl)) Via.refl e28 f30 f31 (Or.inr ⟨(hw _ (List.mem_of_getElem? (i := 5) rfl)), rfl, hnm⟩) (hw _ (List.mem_of_getElem? (i := 2) rfl)) (ty := .byte) (v' := (.int (0 : Int32))) (by decide) rfl (by decide) (g := (mkF m 23 #[.val (.ref a1), .val (.ref b2), .val (.int (0 : Int32)), .val (.int (0 : Int32)), .val .null, .unset] [(.int (0 : Int32)), (.ref a1)])) rfl rfl (hb hby d_jdk_42_method_149_23)
  have CS33 := CHr.wr W32 SF17_a1 CR17.1
  have CR33 := CR17.trans CS33
  have SF33_a1 := CS33.safe SL17_a1 SF17_a1
  have SL33_a1 := Nat.lt_of_lt_of_le SL17_a1 CS33.2.1
  have Z34 : n0 ≤ h32.size := Nat.le_trans Z18 (Keep.of_wr W32).1
  have hk35 := Nat.le_trans hk19 (Keep.of_wr W32).1
  have Od36 : Old Z n0 h32 := Od20.wr W32 g_a1
  have K37 : Keep h0 h32 [a1] := K21.wr W32 (Or.inl (List.mem_of_getElem? (i := 0) rfl))
  have Fw32 := f30.same W32
  have Nf38 := Fr.snoc X32 Nf22 g_a1
  have kn39 : ∀ t, own_S p e below T32 (mkF m 26 #[.val (.ref a1), .val (.ref b2), .val (.int (0 : Int32)), .val (.int (0 : Int32)), .val .null, .unset] []) t → Gl t := fun t kt => kn29 t (st32 _ kt)
  obtain ⟨fs, hr, hrun, hended, hRW⟩ := X32.leaveW hSn5 (by rw [e32]; exact hk35) (v := none) (fun _ => rfl)
  have chE : CHr Z consts_1 s.vm s.heap T32.vm T32.heap := by rw [hh]; rw [e32]; exact CR33.trans (CHv.at X32 hZ (own_EW hw) CR33.1)
  refine ⟨_, _, hGl _ (kn39 _ (X32.returnOut hx Bd.returns (hb hby d_jdk_42_method_149_26) hr)), hrun, hended, _, _, rfl, ?_, chE, ⟨hRW.1, hRW.2.1, hRW.2.2.1, hRW.2.2.2.mono (by decide) (by decide)⟩⟩
  show QE3 Z a1 b2 h0 n0 _ T32.heap _
  rw [e32]
  have f40 := (f31.wr W32)
  have f41 := (Fw16.other W32 (Or.inr (slot_ne (Or.inr (hw _ (List.mem_of_getElem? (i := 4) rfl))) (Or.inr (hw _ (List.mem_of_getElem? (i := 5) rfl))) (by decide) (t := (.array .byte)) (t' := .byte) (by decide) (by decide))))
  have f42 := ((Ar5.other W16 (Ne.symm nt5_a1)).other W32 (Ne.symm nt5_a1))
  exact ⟨rfl, Nf38, t5, _, K37, f40, Fw32, f41, f42⟩

theorem d_jdk_42_method_3_0 : decode jdk_42_method_3_code 0 = .ok (.aload_n 0, 1) := by decide +kernel
theorem d_jdk_42_method_3_1 : decode jdk_42_method_3_code 1 = .ok (.aload_n 1, 1) := by decide +kernel
theorem d_jdk_42_method_3_2 : decode jdk_42_method_3_code 2 = .ok (.iconst 0, 1) := by decide +kernel
theorem d_jdk_42_method_3_3 : decode jdk_42_method_3_code 3 = .ok (.aload_n 1, 1) := by decide +kernel
theorem d_jdk_42_method_3_4 : decode jdk_42_method_3_code 4 = .ok (.arraylength, 1) := by decide +kernel
theorem d_jdk_42_method_3_5 : decode jdk_42_method_3_code 5 = .ok (.aconst_null, 1) := by decide +kernel
theorem d_jdk_42_method_3_6 : decode jdk_42_method_3_code 6 = .ok (.invokespecial 27, 3) := by decide +kernel
theorem d_jdk_42_method_3_9 : decode jdk_42_method_3_code 9 = .ok (.return_, 1) := by decide +kernel
theorem pd_2 : parseMethodDescriptor "([CIILjava/lang/Void;)V" = some ⟨[(.array .char), .int, .int, (.object "java/lang/Void")], none⟩ := by decide +kernel
theorem ef_rmE2 (m : MethodId) (x0 : Addr) (x1 : Addr) : entryFrame m #[(.ref x0), (.ref x1)] 2 = mkF m 0 #[.val (.ref x0), .val (.ref x1)] [] := by first | (simp [entryFrame, mkF, argsToLocals, Value.category]; done) | rfl
def QE2 (Z : State) (a1 : Addr) (b2 : Addr) (k2 : ClassId) (h0 : Heap) (n0 : Nat) (v : Option Value) (h : Heap) (L : List Loc) : Prop := v = none ∧ Fr n0 L ∧ ∃ (t : Addr) (kb : ClassId), Keep h0 h [a1] ∧ Exa Z h a1 "java/lang/String" ∧ Fld Z h a1 "java/lang/String" "coder" "B" (.int (0 : Int32)) ∧ Fld Z h a1 "java/lang/String" "value" "[B" (.ref t) ∧ Arv Z h t kb .byte (0 : Int32) [] (.int (0 : Int32))
set_option maxRecDepth 65536 in
set_option maxHeartbeats 40000000 in
theorem rmE2 (l : Launch) (Z : State) (a0 : Array Value) (hw : ∀ d ∈ tables_1, d.before a0 Z = true) (ws : List Jvm.Cond) (a1 : Addr) (b2 : Addr) (k2 : ClassId) (h0 : Heap) (n0 : Nat) (Z0 : n0 ≤ h0.size) (F1 : Fld Z h0 a1 "java/lang/String" "value" "[B" .null) (F2 : Fld Z h0 a1 "java/lang/String" "coder" "B" (.int (0 : Int32))) (E1 : Exa Z h0 a1 "java/lang/String") (g_a1 : n0 ≤ a1) (O0 : Old Z n0 h0) (A2 : Arv Z h0 b2 k2 .char (0 : Int32) [] (.int (0 : Int32))) :
    MetFree l (⟨"java/lang/String", "<init>", "([C)V"⟩ : MethodName) (head1 (Jvm.Cond.code (⟨"java/lang/String", "<init>", "([C)V"⟩ : MethodName) jdk_42_method_3_code 2 none :: ws) ({ frames := 2, cells := 2, slots := 8, locals := 29 } : Room)) (fun a U => a = #[(.ref a1), (.ref b2)] ∧ Z.Warmed39 U.vm ∧ U.heap = h0 ∧ CHv Z consts_1 U.vm h0) (fun _ _ _ _ _ => True) (fun _ U o U' => ∃ v L, o = .returned v ∧ QE2 Z a1 b2 k2 h0 n0 v U'.heap L ∧ CHr Z consts_1 U.vm U.heap U'.vm U'.heap ∧ ReturnedEndW U o U' L ({ frames := 2, cells := 2, slots := 8, locals := 29 } : Room).cells ({ frames := 2, cells := 2, slots := 8, locals := 29 } : Room).slots) := by
  refine MetFree.of_bodySF (plainFor_of_name pn_1) hisR ?_
  intro p e s m args below meth c s₁ Bd hml0 hP hK
  obtain ⟨rfl, hZ, hh, hCH⟩ := hP
  have hx := Bd.exec
  have hby := Bd.bytes
  have hml : c.maxLocals = 2 := hml0
  have hown : s.vm.findClass "java/lang/String" = some m.cls := findClass_of_methodNamed Bd.named
  have hnm := (name_of_methodNamed Bd.named Bd.method).1
  have X0 : Stand p l e ({ frames := 2, cells := 2, slots := 8, locals := 29 } : Room) s m #[(.ref a1), (.ref b2)] below meth c s₁ [] 0 0 := Stand.of_body Bd
  have e0 : s₁.heap = h0 := by rw [← hh, Bd.state]; rfl
  have Nf0 := Fr.nil n0
  obtain ⟨Gl, hGl, kn0⟩ : ∃ Gl : State → Prop, (∀ t, Gl t → Steps p.tables e below (s₁.setTop (entryFrame m #[(.ref a1), (.ref b2)] 2)) t) ∧ ∀ t, own_S p e below s₁ (mkF m 0 #[.val (.ref a1), .val (.ref b2)] []) t → Gl t := ⟨fun t => Steps p.tables e below (s₁.setTop (entryFrame m #[(.ref a1), (.ref b2)] 2)) t, fun _ k => k, fun t k => castTop (ef_rmE2 m a1 b2) k⟩
  have X0 : Stand p l e ({ frames := 2, cells := 2, slots := 8, locals := 29 } : Room) (s.setVm s.vm) m #[(.ref a1), (.ref b2)] below meth c s₁ [] 0 0 := X0
  have hZ : Z.Warmed39 (s.setVm s.vm).vm := hZ
  have hown : (s.setVm s.vm).vm.findClass "java/lang/String" = some m.cls := hown
  have hSt0 : s.Since s.vm 0 := (State.WarmedH.refl s).since 0
  have CR0 := CHr.refl hCH
  have kn1 : ∀ t, own_S p e below s₁ (mkF m 4 #[.val (.ref a1), .val (.ref b2)] [(.ref b2), (.int (0 : Int32)), (.ref b2), (.ref a1)]) t → Gl t := fun t kt => kn0 t (by
    show own_S p e below s₁ (mkF m 0 #[.val (.ref a1), .val (.ref b2)] []) _
    refine XS.aloadN X0.here hx rfl (hb hby d_jdk_42_method_3_0) rfl rfl ?_
    show own_S p e below s₁ (mkF m 1 #[.val (.ref a1), .val (.ref b2)] [(.ref a1)]) _
    refine XS.aloadN X0.here hx rfl (hb hby d_jdk_42_method_3_1) rfl rfl ?_
    show own_S p e below s₁ (mkF m 2 #[.val (.ref a1), .val (.ref b2)] [(.ref b2), (.ref a1)]) _
    refine XS.iconst X0.here hx rfl (hb hby d_jdk_42_method_3_2) ?_
    show own_S p e below s₁ (mkF m 3 #[.val (.ref a1), .val (.ref b2)] [(.int (0 : Int32)), (.ref b2), (.ref a1)]) _
    refine XS.aloadN X0.here hx rfl (hb hby d_jdk_42_method_3_3) rfl rfl ?_
    exact kt)
  obtain ⟨cl2, Ar2, -, Sz2, Ng2, -, -⟩ := id A2
  have kn3 : ∀ t, own_S p e below s₁ (mkF m 6 #[.val (.ref a1), .val (.ref b2)] [.null, (.int (0 : Int32)), (.int (0 : Int32)), (.ref b2), (.ref a1)]) t → Gl t := fun t kt => kn1 t (by
    show own_S p e below s₁ (mkF m 4 #[.val (.ref a1), .val (.ref b2)] [(.ref b2), (.int (0 : Int32)), (.ref b2), (.ref a1)]) _
    refine X0.arraylength hx (by rw [e0]; exact Ar2.1) (State.isArrayOf_alike hZ.alike Ar2.2.1) (g := (mkF m 4 #[.val (.ref a1), .val (.ref b2)] [(.ref b2), (.int (0 : Int32)), (.ref b2), (.ref a1)])) rfl rfl (hb hby d_jdk_42_method_3_4) _ ?_
    rw [len_of Sz2 Ng2]
    show own_S p e below s₁ (mkF m 5 #[.val (.ref a1), .val (.ref b2)] [(.int (0 : Int32)), (.int (0 : Int32)), (.ref b2), (.ref a1)]) _
    refine XS.aconstNull X0.here hx rfl (hb hby d_jdk_42_method_3_5) ?_
    exact kt)
  obtain ⟨_, _, ⟨T4, L4, cc4, ss4⟩, -, X4, hSn4, hgr4, ⟨Lc4, hQ4, l4, y4, z4, CC4⟩, st4⟩ := X0.specialBackS hx (y := (⟨"java/lang/String", "<init>", "([CIILjava/lang/Void;)V"⟩ : MethodName)) rfl hown (mvT hZ (hw _ (List.mem_of_getElem? (i := 86) rfl))) (mvT hZ (hw _ (List.mem_of_getElem? (i := 87) rfl))) (mvT hZ (hw _ (List.mem_of_getElem? (i := 89) rfl))) (by decide) (backOfSH (s := s) (vm0 := s.vm) (W := 0) (rmE3 l Z a0 hw [] a1 b2  h0 n0 Z0 F1 F2 E1 g_a1 O0) hZ (hw _ (List.mem_of_getElem? (i := 89) rfl)) (hw _ (List.mem_of_getElem? (i := 1) rfl)) (by decide) (by decide) (own_EW hw) CR0.1) (g := (mkF m 6 #[.val (.ref a1), .val (.ref b2)] [.null, (.int (0 : Int32)), (.int (0 : Int32)), (.ref b2), (.ref a1)])) rfl (by rw [hml]; rfl) (Steps.refl _) (a := a1) (argsL := [(.ref b2), (.int (0 : Int32)), (.int (0 : Int32)), .null]) (rest := []) (lenOf pd_2 rfl) rfl (by show 2 * 0 + _ ≤ _; exact Nat.le_of_eq rfl) (hb hby d_jdk_42_method_3_6) (fun _ _ => ⟨rfl, e0, (by decide : 0 + 2 ≤ _), (by decide : 0 + 8 ≤ _)⟩)
  dsimp only [Pt.U, Pt.locs, Pt.cells, Pt.slots] at CC4
  dsimp only [Pt.U, Pt.locs, Pt.cells, Pt.slots] at X4 l4 y4 z4 st4 hQ4
  subst l4 y4 z4
  have X4 : Stand p l e _ (s.setVm T4.vm) m _ below meth c T4 _ 2 8 := X4
  have hZ : Z.Warmed39 (s.setVm T4.vm).vm := State.Warmed39.trans (t := s.setVm s.vm) hZ hSn4.1
  have hown : (s.setVm T4.vm).vm.findClass "java/lang/String" = some m.cls := by rw [show (s.setVm T4.vm).vm = T4.vm from rfl, hSn4.1.alike.findClass]; exact hown
  have hSn4 : s.Since T4.vm T4.heap.size := foldS hSt0 (by rw [e0]; exact (Nat.zero_le _)) hSn4 hgr4
  obtain ⟨rfl, Nq4, t4, kb4, K4, Ex4, Co4, Va4, Ar4⟩ := hQ4
  have Nf4 := Fr.app Nf0 Nq4
  have CR5 := CR0.trans CC4
  have Z6 : n0 ≤ T4.heap.size := Nat.le_trans Z0 K4.1
  have hk7 := Nat.le_trans (Nat.zero_le _) K4.1
  have Od8 : Old Z n0 T4.heap := O0.keep K4 (allS g_a1 all0)
  have K9 : Keep h0 T4.heap [a1] := (Keep.refl h0 [a1]).trans K4 (allS (Or.inl (List.mem_of_getElem? (i := 0) rfl)) all0)
  have kn10 : ∀ t, own_S p e below T4 (mkF m 9 #[.val (.ref a1), .val (.ref b2)] []) t → Gl t := fun t kt => kn3 t (st4.trans kt)
  obtain ⟨fs, hr, hrun, hended, hRW⟩ := X4.leaveW hSn4 (Nat.le_refl _) (v := none) (fun _ => rfl)
  have chE : CHr Z consts_1 s.vm s.heap T4.vm T4.heap := by rw [hh]; exact CR5.trans (CHv.at X4 hZ (own_EW hw) CR5.1)
  refine ⟨_, _, hGl _ (kn10 _ (X4.returnOut hx Bd.returns (hb hby d_jdk_42_method_3_9) hr)), hrun, hended, _, _, rfl, ?_, chE, ⟨hRW.1, hRW.2.1, hRW.2.2.1, hRW.2.2.2.mono (by decide) (by decide)⟩⟩
  show QE2 Z a1 b2 k2 h0 n0 _ T4.heap _
  exact ⟨rfl, Nf4, t4, _, K9, Ex4, Co4, Va4, Ar4⟩

theorem d_prog_35_method_1_0 : decode prog_35_method_1_code 0 = .ok (.getstatic 13, 3) := by decide +kernel
theorem d_prog_35_method_1_3 : decode prog_35_method_1_code 3 = .ok (.invokevirtual 17, 3) := by decide +kernel
theorem d_prog_35_method_1_6 : decode prog_35_method_1_code 6 = .ok (.checkcast 18, 3) := by decide +kernel
theorem d_prog_35_method_1_9 : decode prog_35_method_1_code 9 = .ok (.areturn, 1) := by decide +kernel
theorem pn_2 : plainName "com/example/runs_to_scores/runstoscores/formats/Subtask" = true := by first | (simp [plainName, overriddenIn]; done) | decide +kernel
theorem ef_rmVal (m : MethodId)  : entryFrame m #[] 0 = mkF m 0 #[] [] := by first | (simp [entryFrame, mkF, argsToLocals, Value.category]; done) | rfl
def QVal (Z : State) (bV : Addr) (kV : ClassId) (g0 : Addr) (y0 : Addr) (ty0 : Addr) (ky0 : ClassId) (g1 : Addr) (y1 : Addr) (ty1 : Addr) (ky1 : ClassId) (g2 : Addr) (y2 : Addr) (ty2 : Addr) (ky2 : ClassId) (h0 : Heap) (n0 : Nat) (v : Option Value) (h : Heap) (L : List Loc) : Prop := ∃ (b : Addr) (kk : ClassId), v = some (.ref b) ∧ Fr n0 L ∧ n0 ≤ b ∧ Keep h0 h [] ∧ Arv Z h b kk (.object "com/example/runs_to_scores/runstoscores/formats/Subtask") (3 : Int32) [(.ref g0), (.ref g1), (.ref g2)] .null
set_option maxRecDepth 65536 in
set_option maxHeartbeats 40000000 in
theorem rmVal (l : Launch) (Z : State) (a0 : Array Value) (hw : ∀ d ∈ tables_1, d.before a0 Z = true) (ws : List Jvm.Cond) (bV : Addr) (kV : ClassId) (g0 : Addr) (y0 : Addr) (ty0 : Addr) (ky0 : ClassId) (g1 : Addr) (y1 : Addr) (ty1 : Addr) (ky1 : ClassId) (g2 : Addr) (y2 : Addr) (ty2 : Addr) (ky2 : ClassId) (h0 : Heap) (n0 : Nat) (Z0 : n0 ≤ h0.size) (O0 : Old Z n0 h0) (SV : Sta Z Z.heap "com/example/runs_to_scores/runstoscores/formats/Subtask" "$VALUES" "[Lcom/example/runs_to_scores/runstoscores/formats/Subtask;" (.ref bV)) (EV : Exa Z Z.heap bV "[Lcom/example/runs_to_scores/runstoscores/formats/Subtask;") (VV : Arv Z Z.heap bV kV (.object "com/example/runs_to_scores/runstoscores/formats/Subtask") (3 : Int32) [(.ref g0), (.ref g1), (.ref g2)] .null) (Fg0 : Fld Z Z.heap g0 "com/example/runs_to_scores/runstoscores/formats/Subtask" "label" "Ljava/lang/String;" (.ref y0)) (Ey0 : Exa Z Z.heap y0 "java/lang/String") (Vy0 : Fld Z Z.heap y0 "java/lang/String" "value" "[B" (.ref ty0)) (Cy0 : Fld Z Z.heap y0 "java/lang/String" "coder" "B" (.int (0 : Int32))) (Ky0 : Arv Z Z.heap ty0 ky0 .byte (6 : Int32) ((([(116 : Int32), (114 : Int32), (105 : Int32), (97 : Int32), (103 : Int32), (101 : Int32)] : List Int32).map (fun c => c.toInt8.toInt32)).map Value.int) (.int (0 : Int32))) (Fg1 : Fld Z Z.heap g1 "com/example/runs_to_scores/runstoscores/formats/Subtask" "label" "Ljava/lang/String;" (.ref y1)) (Ey1 : Exa Z Z.heap y1 "java/lang/String") (Vy1 : Fld Z Z.heap y1 "java/lang/String" "value" "[B" (.ref ty1)) (Cy1 : Fld Z Z.heap y1 "java/lang/String" "coder" "B" (.int (0 : Int32))) (Ky1 : Arv Z Z.heap ty1 ky1 .byte (5 : Int32) ((([(97 : Int32), (110 : Int32), (110 : Int32), (104 : Int32), (105 : Int32)] : List Int32).map (fun c => c.toInt8.toInt32)).map Value.int) (.int (0 : Int32))) (Fg2 : Fld Z Z.heap g2 "com/example/runs_to_scores/runstoscores/formats/Subtask" "label" "Ljava/lang/String;" (.ref y2)) (Ey2 : Exa Z Z.heap y2 "java/lang/String") (Vy2 : Fld Z Z.heap y2 "java/lang/String" "value" "[B" (.ref ty2)) (Cy2 : Fld Z Z.heap y2 "java/lang/String" "coder" "B" (.int (0 : Int32))) (Ky2 : Arv Z Z.heap ty2 ky2 .byte (7 : Int32) ((([(97 : Int32), (110 : Int32), (110 : Int32), (104 : Int32), (105 : Int32), (101 : Int32), (118 : Int32)] : List Int32).map (fun c => c.toInt8.toInt32)).map Value.int) (.int (0 : Int32))) :
    MetFree l (⟨"com/example/runs_to_scores/runstoscores/formats/Subtask", "values", "()[Lcom/example/runs_to_scores/runstoscores/formats/Subtask;"⟩ : MethodName) (head1 (Jvm.Cond.code (⟨"com/example/runs_to_scores/runstoscores/formats/Subtask", "values", "()[Lcom/example/runs_to_scores/runstoscores/formats/Subtask;"⟩ : MethodName) prog_35_method_1_code 0 (some (.array (.object "com/example/runs_to_scores/runstoscores/formats/Subtask"))) :: ws) ({ frames := 1, cells := 1, slots := 3, locals := 14 } : Room)) (fun a U => a = #[] ∧ Z.Warmed39 U.vm ∧ U.heap = h0) (fun _ _ _ _ _ => True) (fun _ U o U' => ∃ v L, o = .returned v ∧ QVal Z bV kV g0 y0 ty0 ky0 g1 y1 ty1 ky1 g2 y2 ty2 ky2 h0 n0 v U'.heap L ∧ FrameEnd U o U' L ({ frames := 1, cells := 1, slots := 3, locals := 14 } : Room).cells ({ frames := 1, cells := 1, slots := 3, locals := 14 } : Room).slots) := by
  refine MetFree.of_bodySF (plainFor_of_name pn_2) hisR ?_
  intro p e s m args below meth c s₁ Bd hml0 hP hK
  obtain ⟨rfl, hZ, hh⟩ := hP
  have hx := Bd.exec
  have hby := Bd.bytes
  have hml : c.maxLocals = 0 := hml0
  have hown : s.vm.findClass "com/example/runs_to_scores/runstoscores/formats/Subtask" = some m.cls := findClass_of_methodNamed Bd.named
  have hnm := (name_of_methodNamed Bd.named Bd.method).1
  have X0 : Stand p l e ({ frames := 1, cells := 1, slots := 3, locals := 14 } : Room) s m #[] below meth c s₁ [] 0 0 := Stand.of_body Bd
  have e0 : s₁.heap = h0 := by rw [← hh, Bd.state]; rfl
  have Nf0 := Fr.nil n0
  obtain ⟨Gl, hGl, kn0⟩ : ∃ Gl : State → Prop, (∀ t, Gl t → Steps p.tables e below (s₁.setTop (entryFrame m #[] 0)) t) ∧ ∀ t, own_S p e below s₁ (mkF m 0 #[] []) t → Gl t := ⟨fun t => Steps p.tables e below (s₁.setTop (entryFrame m #[] 0)) t, fun _ k => k, fun t k => castTop (ef_rmVal m ) k⟩
  obtain ⟨T1, X1, e1, st1⟩ := getS2 X0 hx hZ hown (host := "") (Or.inl (hw _ (List.mem_of_getElem? (i := 56) rfl))) Via.refl e0 (SV.ext O0.2) (g := (mkF m 0 #[] [])) rfl (hb hby d_prog_35_method_1_0)
  have kn2 : ∀ t, own_S p e below T1 (mkF m 3 #[] [(.ref bV)]) t → Gl t := fun t kt => kn0 t (st1 _ kt)
  obtain ⟨T3, h3, X3, e3, E3, A3, B3, st3⟩ := cloneH X1 hx hZ hown (hw _ (List.mem_of_getElem? (i := 58) rfl)) (hw _ (List.mem_of_getElem? (i := 59) rfl)) (hw _ (List.mem_of_getElem? (i := 63) rfl)) (hw _ (List.mem_of_getElem? (i := 61) rfl)) (hw _ (List.mem_of_getElem? (i := 62) rfl)) (hw _ (List.mem_of_getElem? (i := 64) rfl)) e1 (VV.ext O0.2).arh (EV.ext O0.2) (g := (mkF m 3 #[] [(.ref bV)])) rfl (by rw [hml]; rfl) rfl (hb hby d_prog_35_method_1_3) (by decide) (W := 0) (cap := 3) (by show 2 * 0 + _ ≤ _; exact Nat.le_of_eq rfl) (by decide) (by decide) (by decide) (by decide)
  obtain ⟨b3, g3⟩ : ∃ z, z = h0.size := ⟨_, rfl⟩
  rw [← g3] at A3 B3 st3
  have sz_b3 : h0.size ≤ b3 := Nat.le_trans (Keep.refl h0 []).1 (Nat.le_of_eq g3.symm)
  have g_b3 : n0 ≤ b3 := Nat.le_trans Z0 (Nat.le_of_eq g3.symm)
  have Z4 : n0 ≤ h3.size := Nat.le_trans Z0 E3.1
  have Od5 : Old Z n0 h3 := O0.ext E3
  have K6 : Keep h0 h3 [] := (Keep.refl h0 []).ext E3
  have kn7 : ∀ t, own_S p e below T3 (mkF m 6 #[] [(.ref b3)]) t → Gl t := fun t kt => kn2 t (st3 _ kt)
  obtain ⟨T8, X8, e8, st8⟩ := castY X3 hx hZ hown (hw _ (List.mem_of_getElem? (i := 69) rfl)) e3 (Ins.self B3) (g := (mkF m 6 #[] [(.ref b3)])) rfl rfl (hb hby d_prog_35_method_1_6)
  have kn9 : ∀ t, own_S p e below T8 (mkF m 9 #[] [(.ref b3)]) t → Gl t := fun t kt => kn7 t (st8 _ kt)
  obtain ⟨fs, hr, hrun, hended, hW, hsame⟩ := X8.leave (v := some (.ref b3)) (fun h => by rw [Bd.returns] at h; cases h)
  refine ⟨_, _, hGl _ (kn9 _ (by
      show own_S p e below T8 (mkF m 9 #[] [(.ref b3)]) _
      jvm_step X8.here [X8.here.top, hx, (hb hby d_prog_35_method_1_9), X8.method', Bd.returns, Value.isRef, FieldType.isReference]
      first | (intro acts; rw [hr _ acts rfl rfl rfl]) | rw [hr _ _ rfl rfl rfl]
      exact Steps.refl _)), hrun, hended, _, _, rfl, ?_, ⟨_, rfl⟩, hW, hsame.mono (by decide) (by decide)⟩
  show QVal Z bV kV g0 y0 ty0 ky0 g1 y1 ty1 ky1 g2 y2 ty2 ky2 h0 n0 _ T8.heap _
  rw [e8]
  exact ⟨b3, kV, rfl, Nf0, g_b3, K6, A3⟩

theorem d_prog_35_method_6_0 : decode prog_35_method_6_code 0 = .ok (.invokestatic 64, 3) := by decide +kernel
theorem d_prog_35_method_6_3 : decode prog_35_method_6_code 3 = .ok (.astore_n 1, 1) := by decide +kernel
theorem d_prog_35_method_6_4 : decode prog_35_method_6_code 4 = .ok (.aload_n 1, 1) := by decide +kernel
theorem d_prog_35_method_6_5 : decode prog_35_method_6_code 5 = .ok (.arraylength, 1) := by decide +kernel
theorem d_prog_35_method_6_6 : decode prog_35_method_6_code 6 = .ok (.istore_n 2, 1) := by decide +kernel
theorem d_prog_35_method_6_7 : decode prog_35_method_6_code 7 = .ok (.iconst 0, 1) := by decide +kernel
theorem d_prog_35_method_6_8 : decode prog_35_method_6_code 8 = .ok (.istore_n 3, 1) := by decide +kernel
theorem d_prog_35_method_6_9 : decode prog_35_method_6_code 9 = .ok (.iload_n 3, 1) := by decide +kernel
theorem d_prog_35_method_6_10 : decode prog_35_method_6_code 10 = .ok (.iload_n 2, 1) := by decide +kernel
theorem d_prog_35_method_6_11 : decode prog_35_method_6_code 11 = .ok (.if_icmp .ge 29, 3) := by decide +kernel
theorem d_prog_35_method_6_14 : decode prog_35_method_6_code 14 = .ok (.aload_n 1, 1) := by decide +kernel
theorem d_prog_35_method_6_15 : decode prog_35_method_6_code 15 = .ok (.iload_n 3, 1) := by decide +kernel
theorem d_prog_35_method_6_16 : decode prog_35_method_6_code 16 = .ok (.aaload, 1) := by decide +kernel
theorem d_prog_35_method_6_17 : decode prog_35_method_6_code 17 = .ok (.astore 4, 2) := by decide +kernel
theorem d_prog_35_method_6_19 : decode prog_35_method_6_code 19 = .ok (.aload 4, 2) := by decide +kernel
theorem d_prog_35_method_6_21 : decode prog_35_method_6_code 21 = .ok (.getfield 32, 3) := by decide +kernel
theorem d_prog_35_method_6_24 : decode prog_35_method_6_code 24 = .ok (.aload_n 0, 1) := by decide +kernel
theorem d_prog_35_method_6_25 : decode prog_35_method_6_code 25 = .ok (.invokevirtual 68, 3) := by decide +kernel
theorem d_prog_35_method_6_28 : decode prog_35_method_6_code 28 = .ok (.ifCond .eq 6, 3) := by decide +kernel
theorem d_prog_35_method_6_31 : decode prog_35_method_6_code 31 = .ok (.aload 4, 2) := by decide +kernel
theorem d_prog_35_method_6_33 : decode prog_35_method_6_code 33 = .ok (.areturn, 1) := by decide +kernel
theorem pd_3 : parseMethodDescriptor "()[Lcom/example/runs_to_scores/runstoscores/formats/Subtask;" = some ⟨[], some (.array (.object "com/example/runs_to_scores/runstoscores/formats/Subtask"))⟩ := by decide +kernel
theorem pd_4 : parseMethodDescriptor "(Ljava/lang/Object;)Z" = some ⟨[(.object "java/lang/Object")], some .boolean⟩ := by decide +kernel
theorem ef_rmFind0 (m : MethodId) (x0 : Addr) : entryFrame m #[(.ref x0)] 5 = mkF m 0 #[.val (.ref x0), .unset, .unset, .unset, .unset] [] := by first | (simp [entryFrame, mkF, argsToLocals, Value.category]; done) | rfl
def QFind0 (Z : State) (x1 : Addr) (t1 : Addr) (k1 : ClassId) (cs : List Int32) (N1 : Int32) (vs : List Value) (bV : Addr) (kV : ClassId) (g0 : Addr) (y0 : Addr) (ty0 : Addr) (ky0 : ClassId) (g1 : Addr) (y1 : Addr) (ty1 : Addr) (ky1 : ClassId) (g2 : Addr) (y2 : Addr) (ty2 : Addr) (ky2 : ClassId) (G1 : Int32) (h0 : Heap) (n0 : Nat) (v : Option Value) (h : Heap) (L : List Loc) : Prop := v = some (.ref g0) ∧ Fr n0 L ∧ Keep h0 h []
set_option maxRecDepth 65536 in
set_option maxHeartbeats 40000000 in
theorem rmFind0 (l : Launch) (Z : State) (a0 : Array Value) (hw : ∀ d ∈ tables_1, d.before a0 Z = true) (ws : List Jvm.Cond) (x1 : Addr) (t1 : Addr) (k1 : ClassId) (cs : List Int32) (N1 : Int32) (vs : List Value) (bV : Addr) (kV : ClassId) (g0 : Addr) (y0 : Addr) (ty0 : Addr) (ky0 : ClassId) (g1 : Addr) (y1 : Addr) (ty1 : Addr) (ky1 : ClassId) (g2 : Addr) (y2 : Addr) (ty2 : Addr) (ky2 : ClassId) (G1 : Int32) (h0 : Heap) (n0 : Nat) (Z0 : n0 ≤ h0.size) (E_x1 : Exa Z h0 x1 "java/lang/String") (V_x1 : Fld Z h0 x1 "java/lang/String" "value" "[B" (.ref t1)) (C_x1 : Fld Z h0 x1 "java/lang/String" "coder" "B" (.int (0 : Int32))) (K_x1 : Arv Z h0 t1 k1 .byte N1 vs (.int (0 : Int32))) (hcd : StrChars.Road.CodA cs 0 N1 vs) (hbd : ∀ x ∈ cs, ¬ x < 0 ∧ ¬ (65535 : Int32) < x) (hlen : cs.length ≤ 4000) (O0 : Old Z n0 h0) (O2 : Sta Z Z.heap "java/lang/String" "COMPACT_STRINGS" "Z" (.int G1)) (P5 : ¬ (G1 = (0 : Int32))) (SV : Sta Z Z.heap "com/example/runs_to_scores/runstoscores/formats/Subtask" "$VALUES" "[Lcom/example/runs_to_scores/runstoscores/formats/Subtask;" (.ref bV)) (EV : Exa Z Z.heap bV "[Lcom/example/runs_to_scores/runstoscores/formats/Subtask;") (VV : Arv Z Z.heap bV kV (.object "com/example/runs_to_scores/runstoscores/formats/Subtask") (3 : Int32) [(.ref g0), (.ref g1), (.ref g2)] .null) (Fg0 : Fld Z Z.heap g0 "com/example/runs_to_scores/runstoscores/formats/Subtask" "label" "Ljava/lang/String;" (.ref y0)) (Ey0 : Exa Z Z.heap y0 "java/lang/String") (Vy0 : Fld Z Z.heap y0 "java/lang/String" "value" "[B" (.ref ty0)) (Cy0 : Fld Z Z.heap y0 "java/lang/String" "coder" "B" (.int (0 : Int32))) (Ky0 : Arv Z Z.heap ty0 ky0 .byte (6 : Int32) ((([(116 : Int32), (114 : Int32), (105 : Int32), (97 : Int32), (103 : Int32), (101 : Int32)] : List Int32).map (fun c => c.toInt8.toInt32)).map Value.int) (.int (0 : Int32))) (Fg1 : Fld Z Z.heap g1 "com/example/runs_to_scores/runstoscores/formats/Subtask" "label" "Ljava/lang/String;" (.ref y1)) (Ey1 : Exa Z Z.heap y1 "java/lang/String") (Vy1 : Fld Z Z.heap y1 "java/lang/String" "value" "[B" (.ref ty1)) (Cy1 : Fld Z Z.heap y1 "java/lang/String" "coder" "B" (.int (0 : Int32))) (Ky1 : Arv Z Z.heap ty1 ky1 .byte (5 : Int32) ((([(97 : Int32), (110 : Int32), (110 : Int32), (104 : Int32), (105 : Int32)] : List Int32).map (fun c => c.toInt8.toInt32)).map Value.int) (.int (0 : Int32))) (Fg2 : Fld Z Z.heap g2 "com/example/runs_to_scores/runstoscores/formats/Subtask" "label" "Ljava/lang/String;" (.ref y2)) (Ey2 : Exa Z Z.heap y2 "java/lang/String") (Vy2 : Fld Z Z.heap y2 "java/lang/String" "value" "[B" (.ref ty2)) (Cy2 : Fld Z Z.heap y2 "java/lang/String" "coder" "B" (.int (0 : Int32))) (Ky2 : Arv Z Z.heap ty2 ky2 .byte (7 : Int32) ((([(97 : Int32), (110 : Int32), (110 : Int32), (104 : Int32), (105 : Int32), (101 : Int32), (118 : Int32)] : List Int32).map (fun c => c.toInt8.toInt32)).map Value.int) (.int (0 : Int32))) (q0 : ([(116 : Int32), (114 : Int32), (105 : Int32), (97 : Int32), (103 : Int32), (101 : Int32)] : List Int32) = cs) :
    MetFree l (⟨"com/example/runs_to_scores/runstoscores/formats/Subtask", "labelled", "(Ljava/lang/String;)Lcom/example/runs_to_scores/runstoscores/formats/Subtask;"⟩ : MethodName) (head1 (Jvm.Cond.code (⟨"com/example/runs_to_scores/runstoscores/formats/Subtask", "labelled", "(Ljava/lang/String;)Lcom/example/runs_to_scores/runstoscores/formats/Subtask;"⟩ : MethodName) prog_35_method_6_code 5 (some (.object "com/example/runs_to_scores/runstoscores/formats/Subtask")) :: ws) ({ frames := 2, cells := 1, slots := 3, locals := 28 } : Room)) (fun a U => a = #[(.ref x1)] ∧ Z.Warmed39 U.vm ∧ U.heap = h0) (fun _ _ _ _ _ => True) (fun _ U o U' => ∃ v L, o = .returned v ∧ QFind0 Z x1 t1 k1 cs N1 vs bV kV g0 y0 ty0 ky0 g1 y1 ty1 ky1 g2 y2 ty2 ky2 G1 h0 n0 v U'.heap L ∧ FrameEnd U o U' L ({ frames := 2, cells := 1, slots := 3, locals := 28 } : Room).cells ({ frames := 2, cells := 1, slots := 3, locals := 28 } : Room).slots) := by
  refine MetFree.of_bodySF (plainFor_of_name pn_2) hisR ?_
  intro p e s m args below meth c s₁ Bd hml0 hP hK
  obtain ⟨rfl, hZ, hh⟩ := hP
  have hx := Bd.exec
  have hby := Bd.bytes
  have hml : c.maxLocals = 5 := hml0
  have hown : s.vm.findClass "com/example/runs_to_scores/runstoscores/formats/Subtask" = some m.cls := findClass_of_methodNamed Bd.named
  have hnm := (name_of_methodNamed Bd.named Bd.method).1
  have X0 : Stand p l e ({ frames := 2, cells := 1, slots := 3, locals := 28 } : Room) s m #[(.ref x1)] below meth c s₁ [] 0 0 := Stand.of_body Bd
  have e0 : s₁.heap = h0 := by rw [← hh, Bd.state]; rfl
  have Nf0 := Fr.nil n0
  obtain ⟨Gl, hGl, kn0⟩ : ∃ Gl : State → Prop, (∀ t, Gl t → Steps p.tables e below (s₁.setTop (entryFrame m #[(.ref x1)] 5)) t) ∧ ∀ t, own_S p e below s₁ (mkF m 0 #[.val (.ref x1), .unset, .unset, .unset, .unset] []) t → Gl t := ⟨fun t => Steps p.tables e below (s₁.setTop (entryFrame m #[(.ref x1)] 5)) t, fun _ k => k, fun t k => castTop (ef_rmFind0 m x1) k⟩
  obtain ⟨_, _, ⟨T1, L1, cc1, ss1⟩, -, X1, ⟨Lc1, hQ1, l1, y1, z1⟩, st1⟩ := Jvm.LawKit.callS X0 hx (y := (⟨"com/example/runs_to_scores/runstoscores/formats/Subtask", "values", "()[Lcom/example/runs_to_scores/runstoscores/formats/Subtask;"⟩ : MethodName)) hown (mvT hZ (hw _ (List.mem_of_getElem? (i := 53) rfl))) (mvT hZ (hw _ (List.mem_of_getElem? (i := 54) rfl))) (mvT hZ (hw _ (List.mem_of_getElem? (i := 51) rfl))) (mvT hZ (hw _ (List.mem_of_getElem? (i := 55) rfl))) (by decide) (backOf (W := 0) (rmVal l Z a0 hw []  bV kV g0 y0 ty0 ky0 g1 y1 ty1 ky1 g2 y2 ty2 ky2 h0 n0 Z0 O0 SV EV VV Fg0 Ey0 Vy0 Cy0 Ky0 Fg1 Ey1 Vy1 Cy1 Ky1 Fg2 Ey2 Vy2 Cy2 Ky2) hZ (hw _ (List.mem_of_getElem? (i := 55) rfl)) (hw _ (List.mem_of_getElem? (i := 51) rfl)) (by decide) (by decide)) (g := (mkF m 0 #[.val (.ref x1), .unset, .unset, .unset, .unset] [])) rfl (by rw [hml]; rfl) (argsL := []) (rest := []) (lenOf pd_3 rfl) rfl (by show 2 * 0 + _ ≤ _; exact Nat.le_of_eq rfl) (hb hby d_prog_35_method_6_0) (fun _ _ => ⟨rfl, e0, (by decide : 0 + 1 ≤ _), (by decide : 0 + 3 ≤ _)⟩)
  dsimp only [Pt.U, Pt.locs, Pt.cells, Pt.slots] at X1 l1 y1 z1 st1 hQ1
  subst l1 y1 z1
  have X1 : Stand p l e _ _ m _ below meth c T1 _ 1 3 := X1
  obtain ⟨b1, kk1, rfl, Nq1, g_b1, K1, V1⟩ := hQ1
  have Nf1 := Fr.app Nf0 Nq1
  have Z2 : n0 ≤ T1.heap.size := Nat.le_trans Z0 K1.1
  have Od3 : Old Z n0 T1.heap := O0.keep K1 all0
  have K4 : Keep h0 T1.heap [] := (Keep.refl h0 []).trans K1 (all0)
  have kn5 : ∀ t, own_S p e below T1 (mkF m 3 #[.val (.ref x1), .unset, .unset, .unset, .unset] [(.ref b1)]) t → Gl t := fun t kt => kn0 t (st1 _ kt)
  have kn6 : ∀ t, own_S p e below T1 (mkF m 5 #[.val (.ref x1), .val (.ref b1), .unset, .unset, .unset] [(.ref b1)]) t → Gl t := fun t kt => kn5 t (by
    show own_S p e below T1 (mkF m 3 #[.val (.ref x1), .unset, .unset, .unset, .unset] [(.ref b1)]) _
    refine XS.astoreN X1.here hx rfl (hb hby d_prog_35_method_6_3) rfl rfl (l' := #[.val (.ref x1), .val (.ref b1), .unset, .unset, .unset]) rfl ?_
    show own_S p e below T1 (mkF m 4 #[.val (.ref x1), .val (.ref b1), .unset, .unset, .unset] []) _
    refine XS.aloadN X1.here hx rfl (hb hby d_prog_35_method_6_4) rfl rfl ?_
    exact kt)
  obtain ⟨cl7, Ar7, -, Sz7, Ng7, -, -⟩ := id V1
  have kn8 : ∀ t, own_S p e below T1 (mkF m 16 #[.val (.ref x1), .val (.ref b1), .val (.int (3 : Int32)), .val (.int (0 : Int32)), .unset] [(.int (0 : Int32)), (.ref b1)]) t → Gl t := fun t kt => kn6 t (by
    show own_S p e below T1 (mkF m 5 #[.val (.ref x1), .val (.ref b1), .unset, .unset, .unset] [(.ref b1)]) _
    refine X1.arraylength hx Ar7.1 (State.isArrayOf_alike hZ.alike Ar7.2.1) (g := (mkF m 5 #[.val (.ref x1), .val (.ref b1), .unset, .unset, .unset] [(.ref b1)])) rfl rfl (hb hby d_prog_35_method_6_5) _ ?_
    rw [len_of Sz7 Ng7]
    show own_S p e below T1 (mkF m 6 #[.val (.ref x1), .val (.ref b1), .unset, .unset, .unset] [(.int (3 : Int32))]) _
    refine XS.istoreN X1.here hx rfl (hb hby d_prog_35_method_6_6) rfl (l' := #[.val (.ref x1), .val (.ref b1), .val (.int (3 : Int32)), .unset, .unset]) rfl ?_
    show own_S p e below T1 (mkF m 7 #[.val (.ref x1), .val (.ref b1), .val (.int (3 : Int32)), .unset, .unset] []) _
    refine XS.iconst X1.here hx rfl (hb hby d_prog_35_method_6_7) ?_
    show own_S p e below T1 (mkF m 8 #[.val (.ref x1), .val (.ref b1), .val (.int (3 : Int32)), .unset, .unset] [(.int (0 : Int32))]) _
    refine XS.istoreN X1.here hx rfl (hb hby d_prog_35_method_6_8) rfl (l' := #[.val (.ref x1), .val (.ref b1), .val (.int (3 : Int32)), .val (.int (0 : Int32)), .unset]) rfl ?_
    show own_S p e below T1 (mkF m 9 #[.val (.ref x1), .val (.ref b1), .val (.int (3 : Int32)), .val (.int (0 : Int32)), .unset] []) _
    refine XS.iloadN X1.here hx rfl (hb hby d_prog_35_method_6_9) rfl ?_
    show own_S p e below T1 (mkF m 10 #[.val (.ref x1), .val (.ref b1), .val (.int (3 : Int32)), .val (.int (0 : Int32)), .unset] [(.int (0 : Int32))]) _
    refine XS.iloadN X1.here hx rfl (hb hby d_prog_35_method_6_10) rfl ?_
    show own_S p e below T1 (mkF m 11 #[.val (.ref x1), .val (.ref b1), .val (.int (3 : Int32)), .val (.int (0 : Int32)), .unset] [(.int (3 : Int32)), (.int (0 : Int32))]) _
    refine XS.icmpNo X1.here hx rfl (hb hby d_prog_35_method_6_11) rfl (tlt (by decide : (0 : Int32) < (3 : Int32))).2.1 ?_
    show own_S p e below T1 (mkF m 14 #[.val (.ref x1), .val (.ref b1), .val (.int (3 : Int32)), .val (.int (0 : Int32)), .unset] []) _
    refine XS.aloadN X1.here hx rfl (hb hby d_prog_35_method_6_14) rfl rfl ?_
    show own_S p e below T1 (mkF m 15 #[.val (.ref x1), .val (.ref b1), .val (.int (3 : Int32)), .val (.int (0 : Int32)), .unset] [(.ref b1)]) _
    refine XS.iloadN X1.here hx rfl (hb hby d_prog_35_method_6_15) rfl ?_
    exact kt)
  obtain ⟨cl9, Ar9, q9, Sz9, Ng9, Hs9, Gs9⟩ := id V1
  have hin9 : ¬ ((0 : Int32) < 0 ∨ cl9.slots.size ≤ ((0 : Int32)).toNatClampNeg) := inb_of Sz9 ⟨by decide, by decide⟩
  have hat9 : cl9.slots[((0 : Int32)).toNatClampNeg]? = some (.ref g0) := Hs9.at hin9 rfl
  have kn10 : ∀ t, own_S p e below T1 (mkF m 21 #[.val (.ref x1), .val (.ref b1), .val (.int (3 : Int32)), .val (.int (0 : Int32)), .val (.ref g0)] [(.ref g0)]) t → Gl t := fun t kt => kn8 t (by
    show own_S p e below T1 (mkF m 16 #[.val (.ref x1), .val (.ref b1), .val (.int (3 : Int32)), .val (.int (0 : Int32)), .unset] [(.int (0 : Int32)), (.ref b1)]) _
    refine X1.aaload hx (j := (0 : Int32)) (v := (.ref g0)) Ar9.1 (State.isArrayOf_alike hZ.alike Ar9.2.1) rfl Ar9.2.2 hin9 hat9 (g := (mkF m 16 #[.val (.ref x1), .val (.ref b1), .val (.int (3 : Int32)), .val (.int (0 : Int32)), .unset] [(.int (0 : Int32)), (.ref b1)])) rfl rfl (hb hby d_prog_35_method_6_16) _ ?_
    show own_S p e below T1 (mkF m 17 #[.val (.ref x1), .val (.ref b1), .val (.int (3 : Int32)), .val (.int (0 : Int32)), .unset] [(.ref g0)]) _
    refine XS.astore X1.here hx rfl (hb hby d_prog_35_method_6_17) rfl rfl (l' := #[.val (.ref x1), .val (.ref b1), .val (.int (3 : Int32)), .val (.int (0 : Int32)), .val (.ref g0)]) rfl ?_
    show own_S p e below T1 (mkF m 19 #[.val (.ref x1), .val (.ref b1), .val (.int (3 : Int32)), .val (.int (0 : Int32)), .val (.ref g0)] []) _
    refine XS.aload X1.here hx rfl (hb hby d_prog_35_method_6_19) rfl rfl ?_
    exact kt)
  obtain ⟨T11, X11, e11, st11⟩ := getF X1 hx hZ hown (host := "") (Or.inl (hw _ (List.mem_of_getElem? (i := 71) rfl))) Via.refl rfl (Fg0.ext Od3.2) (g := (mkF m 21 #[.val (.ref x1), .val (.ref b1), .val (.int (3 : Int32)), .val (.int (0 : Int32)), .val (.ref g0)] [(.ref g0)])) rfl rfl (hb hby d_prog_35_method_6_21)
  have kn12 : ∀ t, own_S p e below T11 (mkF m 24 #[.val (.ref x1), .val (.ref b1), .val (.int (3 : Int32)), .val (.int (0 : Int32)), .val (.ref g0)] [(.ref y0)]) t → Gl t := fun t kt => kn10 t (st11 _ kt)
  have kn13 : ∀ t, own_S p e below T11 (mkF m 25 #[.val (.ref x1), .val (.ref b1), .val (.int (3 : Int32)), .val (.int (0 : Int32)), .val (.ref g0)] [(.ref x1), (.ref y0)]) t → Gl t := fun t kt => kn12 t (by
    show own_S p e below T11 (mkF m 24 #[.val (.ref x1), .val (.ref b1), .val (.int (3 : Int32)), .val (.int (0 : Int32)), .val (.ref g0)] [(.ref y0)]) _
    refine XS.aloadN X11.here hx rfl (hb hby d_prog_35_method_6_24) rfl rfl ?_
    exact kt)
  have heq : ∀ d ∈ StrChars.Road.wordsEq, d.before a0 Z = true := fun d hd => hw d ((by decide +kernel : ∀ d ∈ StrChars.Road.wordsEq, d ∈ tables_1) d hd)
  have hp_y0 : ∀ c ∈ ([(116 : Int32), (114 : Int32), (105 : Int32), (97 : Int32), (103 : Int32), (101 : Int32)] : List Int32), ¬ c < 0 ∧ ¬ (255 : Int32) < c := by decide
  have hcd_y0 : StrChars.Road.CodA ([(116 : Int32), (114 : Int32), (105 : Int32), (97 : Int32), (103 : Int32), (101 : Int32)] : List Int32) 0 (6 : Int32) ((([(116 : Int32), (114 : Int32), (105 : Int32), (97 : Int32), (103 : Int32), (101 : Int32)] : List Int32).map (fun c => c.toInt8.toInt32)).map Value.int) := StrChars.Road.codOf (n := 6) rfl (fun x hx => (hp_y0 x hx).2)
  have hbd_y0 : ∀ x ∈ ([(116 : Int32), (114 : Int32), (105 : Int32), (97 : Int32), (103 : Int32), (101 : Int32)] : List Int32), ¬ x < 0 ∧ ¬ (65535 : Int32) < x := own_up _ hp_y0
  have f15 := (E_x1.keep K1)
  have f16 := (V_x1.keep K1 nin0)
  have f17 := (C_x1.keep K1 nin0)
  have f18 := (K_x1.keep K1 nin0)
  obtain ⟨cq14, kq14, qa14, qb14, qc14⟩ := isOf hZ e11 (Ey0.ext Od3.2)
  obtain ⟨_, _, ⟨T14, L14, cc14, ss14⟩, -, X14, ⟨Lc14, hQ14, l14, y14, z14⟩, st14⟩ := X11.virtualBack hx (y := (⟨"java/lang/String", "equals", "(Ljava/lang/Object;)Z"⟩ : MethodName)) (z := (⟨"java/lang/String", "equals", "(Ljava/lang/Object;)Z"⟩ : MethodName)) hown (mvT hZ (hw _ (List.mem_of_getElem? (i := 73) rfl))) (mvT hZ (hw _ (List.mem_of_getElem? (i := 74) rfl))) (notFace_of_selects (args := #[]) (mvT hZ (hw _ (List.mem_of_getElem? (i := 76) rfl)))) (mvT hZ (hw _ (List.mem_of_getElem? (i := 76) rfl))) (mvT hZ (hw _ (List.mem_of_getElem? (i := 75) rfl))) (by decide) (StrChars.Road.eqW (W := 0) hZ heq (kI := 4) (hw _ (List.mem_of_getElem? (i := 2) rfl)) (Ey0.ext Od3.2) (Vy0.ext Od3.2) (Cy0.ext Od3.2) (Ky0.ext Od3.2) hcd_y0 hbd_y0 (Nat.le_of_ble_eq_true rfl) f15 f16 f17 f18 hcd hbd hlen (O2.ext Od3.2) P5 (by decide) (by decide)) qa14 qc14 (g := (mkF m 25 #[.val (.ref x1), .val (.ref b1), .val (.int (3 : Int32)), .val (.int (0 : Int32)), .val (.ref g0)] [(.ref x1), (.ref y0)])) rfl (by rw [hml]; rfl) (Steps.refl _) (argsL := [(.ref x1)]) (rest := []) (lenOf pd_4 rfl) rfl (by show 2 * 0 + _ ≤ _; exact Nat.le_of_eq rfl) (hb hby d_prog_35_method_6_25) (fun _ _ => ⟨rfl, e11, (by decide : 1 + 0 ≤ _), (by decide : 3 + 0 ≤ _)⟩)
  dsimp only [Pt.U, Pt.locs, Pt.cells, Pt.slots] at X14 l14 y14 z14 st14 hQ14
  subst l14 y14 z14
  have X14 : Stand p l e _ _ m _ below meth c T14 _ 1 3 := X14
  obtain ⟨hd14, rfl, eq14⟩ := hQ14
  have Nf14 := Fr.app Nf1 (Fr.nil n0)
  rcases hd14 with ⟨rfl, hq14⟩ | ⟨rfl, hq14⟩
  · have kn19 : ∀ t, own_S p e below T14 (mkF m 28 #[.val (.ref x1), .val (.ref b1), .val (.int (3 : Int32)), .val (.int (0 : Int32)), .val (.ref g0)] [(.int (1 : Int32))]) t → Gl t := fun t kt => kn13 t (st14.trans kt)
    have kn20 : ∀ t, own_S p e below T14 (mkF m 33 #[.val (.ref x1), .val (.ref b1), .val (.int (3 : Int32)), .val (.int (0 : Int32)), .val (.ref g0)] [(.ref g0)]) t → Gl t := fun t kt => kn19 t (by
      show own_S p e below T14 (mkF m 28 #[.val (.ref x1), .val (.ref b1), .val (.int (3 : Int32)), .val (.int (0 : Int32)), .val (.ref g0)] [(.int (1 : Int32))]) _
      refine XS.ifNo X14.here hx rfl (hb hby d_prog_35_method_6_28) rfl ((if0 _ _).trans (feq (by decide : ¬ ((1 : Int32) = (0 : Int32)))).1) ?_
      show own_S p e below T14 (mkF m 31 #[.val (.ref x1), .val (.ref b1), .val (.int (3 : Int32)), .val (.int (0 : Int32)), .val (.ref g0)] []) _
      refine XS.aload X14.here hx rfl (hb hby d_prog_35_method_6_31) rfl rfl ?_
      exact kt)
    obtain ⟨fs, hr, hrun, hended, hW, hsame⟩ := X14.leave (v := some (.ref g0)) (fun h => by rw [Bd.returns] at h; cases h)
    refine ⟨_, _, hGl _ (kn20 _ (by
        show own_S p e below T14 (mkF m 33 #[.val (.ref x1), .val (.ref b1), .val (.int (3 : Int32)), .val (.int (0 : Int32)), .val (.ref g0)] [(.ref g0)]) _
        jvm_step X14.here [X14.here.top, hx, (hb hby d_prog_35_method_6_33), X14.method', Bd.returns, Value.isRef, FieldType.isReference]
        first | (intro acts; rw [hr _ acts rfl rfl rfl]) | rw [hr _ _ rfl rfl rfl]
        exact Steps.refl _)), hrun, hended, _, _, rfl, ?_, ⟨_, rfl⟩, hW, hsame.mono (by decide) (by decide)⟩
    show QFind0 Z x1 t1 k1 cs N1 vs bV kV g0 y0 ty0 ky0 g1 y1 ty1 ky1 g2 y2 ty2 ky2 G1 h0 n0 _ T14.heap _
    rw [eq14]
    exact ⟨rfl, Nf14, K4⟩
  · exact absurd q0 hq14

theorem d_prog_35_method_6_34 : decode prog_35_method_6_code 34 = .ok (.iinc 3 1, 3) := by decide +kernel
theorem d_prog_35_method_6_37 : decode prog_35_method_6_code 37 = .ok (.goto (-28), 3) := by decide +kernel
theorem ef_rmFind1 (m : MethodId) (x0 : Addr) : entryFrame m #[(.ref x0)] 5 = mkF m 0 #[.val (.ref x0), .unset, .unset, .unset, .unset] [] := by first | (simp [entryFrame, mkF, argsToLocals, Value.category]; done) | rfl
def QFind1 (Z : State) (x1 : Addr) (t1 : Addr) (k1 : ClassId) (cs : List Int32) (N1 : Int32) (vs : List Value) (bV : Addr) (kV : ClassId) (g0 : Addr) (y0 : Addr) (ty0 : Addr) (ky0 : ClassId) (g1 : Addr) (y1 : Addr) (ty1 : Addr) (ky1 : ClassId) (g2 : Addr) (y2 : Addr) (ty2 : Addr) (ky2 : ClassId) (G1 : Int32) (h0 : Heap) (n0 : Nat) (v : Option Value) (h : Heap) (L : List Loc) : Prop := v = some (.ref g1) ∧ Fr n0 L ∧ Keep h0 h []
set_option maxRecDepth 65536 in
set_option maxHeartbeats 40000000 in
theorem rmFind1 (l : Launch) (Z : State) (a0 : Array Value) (hw : ∀ d ∈ tables_1, d.before a0 Z = true) (ws : List Jvm.Cond) (x1 : Addr) (t1 : Addr) (k1 : ClassId) (cs : List Int32) (N1 : Int32) (vs : List Value) (bV : Addr) (kV : ClassId) (g0 : Addr) (y0 : Addr) (ty0 : Addr) (ky0 : ClassId) (g1 : Addr) (y1 : Addr) (ty1 : Addr) (ky1 : ClassId) (g2 : Addr) (y2 : Addr) (ty2 : Addr) (ky2 : ClassId) (G1 : Int32) (h0 : Heap) (n0 : Nat) (Z0 : n0 ≤ h0.size) (E_x1 : Exa Z h0 x1 "java/lang/String") (V_x1 : Fld Z h0 x1 "java/lang/String" "value" "[B" (.ref t1)) (C_x1 : Fld Z h0 x1 "java/lang/String" "coder" "B" (.int (0 : Int32))) (K_x1 : Arv Z h0 t1 k1 .byte N1 vs (.int (0 : Int32))) (hcd : StrChars.Road.CodA cs 0 N1 vs) (hbd : ∀ x ∈ cs, ¬ x < 0 ∧ ¬ (65535 : Int32) < x) (hlen : cs.length ≤ 4000) (O0 : Old Z n0 h0) (O2 : Sta Z Z.heap "java/lang/String" "COMPACT_STRINGS" "Z" (.int G1)) (P5 : ¬ (G1 = (0 : Int32))) (SV : Sta Z Z.heap "com/example/runs_to_scores/runstoscores/formats/Subtask" "$VALUES" "[Lcom/example/runs_to_scores/runstoscores/formats/Subtask;" (.ref bV)) (EV : Exa Z Z.heap bV "[Lcom/example/runs_to_scores/runstoscores/formats/Subtask;") (VV : Arv Z Z.heap bV kV (.object "com/example/runs_to_scores/runstoscores/formats/Subtask") (3 : Int32) [(.ref g0), (.ref g1), (.ref g2)] .null) (Fg0 : Fld Z Z.heap g0 "com/example/runs_to_scores/runstoscores/formats/Subtask" "label" "Ljava/lang/String;" (.ref y0)) (Ey0 : Exa Z Z.heap y0 "java/lang/String") (Vy0 : Fld Z Z.heap y0 "java/lang/String" "value" "[B" (.ref ty0)) (Cy0 : Fld Z Z.heap y0 "java/lang/String" "coder" "B" (.int (0 : Int32))) (Ky0 : Arv Z Z.heap ty0 ky0 .byte (6 : Int32) ((([(116 : Int32), (114 : Int32), (105 : Int32), (97 : Int32), (103 : Int32), (101 : Int32)] : List Int32).map (fun c => c.toInt8.toInt32)).map Value.int) (.int (0 : Int32))) (Fg1 : Fld Z Z.heap g1 "com/example/runs_to_scores/runstoscores/formats/Subtask" "label" "Ljava/lang/String;" (.ref y1)) (Ey1 : Exa Z Z.heap y1 "java/lang/String") (Vy1 : Fld Z Z.heap y1 "java/lang/String" "value" "[B" (.ref ty1)) (Cy1 : Fld Z Z.heap y1 "java/lang/String" "coder" "B" (.int (0 : Int32))) (Ky1 : Arv Z Z.heap ty1 ky1 .byte (5 : Int32) ((([(97 : Int32), (110 : Int32), (110 : Int32), (104 : Int32), (105 : Int32)] : List Int32).map (fun c => c.toInt8.toInt32)).map Value.int) (.int (0 : Int32))) (Fg2 : Fld Z Z.heap g2 "com/example/runs_to_scores/runstoscores/formats/Subtask" "label" "Ljava/lang/String;" (.ref y2)) (Ey2 : Exa Z Z.heap y2 "java/lang/String") (Vy2 : Fld Z Z.heap y2 "java/lang/String" "value" "[B" (.ref ty2)) (Cy2 : Fld Z Z.heap y2 "java/lang/String" "coder" "B" (.int (0 : Int32))) (Ky2 : Arv Z Z.heap ty2 ky2 .byte (7 : Int32) ((([(97 : Int32), (110 : Int32), (110 : Int32), (104 : Int32), (105 : Int32), (101 : Int32), (118 : Int32)] : List Int32).map (fun c => c.toInt8.toInt32)).map Value.int) (.int (0 : Int32))) (q0 : ¬ ([(116 : Int32), (114 : Int32), (105 : Int32), (97 : Int32), (103 : Int32), (101 : Int32)] : List Int32) = cs) (q1 : ([(97 : Int32), (110 : Int32), (110 : Int32), (104 : Int32), (105 : Int32)] : List Int32) = cs) :
    MetFree l (⟨"com/example/runs_to_scores/runstoscores/formats/Subtask", "labelled", "(Ljava/lang/String;)Lcom/example/runs_to_scores/runstoscores/formats/Subtask;"⟩ : MethodName) (head1 (Jvm.Cond.code (⟨"com/example/runs_to_scores/runstoscores/formats/Subtask", "labelled", "(Ljava/lang/String;)Lcom/example/runs_to_scores/runstoscores/formats/Subtask;"⟩ : MethodName) prog_35_method_6_code 5 (some (.object "com/example/runs_to_scores/runstoscores/formats/Subtask")) :: ws) ({ frames := 2, cells := 1, slots := 3, locals := 28 } : Room)) (fun a U => a = #[(.ref x1)] ∧ Z.Warmed39 U.vm ∧ U.heap = h0) (fun _ _ _ _ _ => True) (fun _ U o U' => ∃ v L, o = .returned v ∧ QFind1 Z x1 t1 k1 cs N1 vs bV kV g0 y0 ty0 ky0 g1 y1 ty1 ky1 g2 y2 ty2 ky2 G1 h0 n0 v U'.heap L ∧ FrameEnd U o U' L ({ frames := 2, cells := 1, slots := 3, locals := 28 } : Room).cells ({ frames := 2, cells := 1, slots := 3, locals := 28 } : Room).slots) := by
  refine MetFree.of_bodySF (plainFor_of_name pn_2) hisR ?_
  intro p e s m args below meth c s₁ Bd hml0 hP hK
  obtain ⟨rfl, hZ, hh⟩ := hP
  have hx := Bd.exec
  have hby := Bd.bytes
  have hml : c.maxLocals = 5 := hml0
  have hown : s.vm.findClass "com/example/runs_to_scores/runstoscores/formats/Subtask" = some m.cls := findClass_of_methodNamed Bd.named
  have hnm := (name_of_methodNamed Bd.named Bd.method).1
  have X0 : Stand p l e ({ frames := 2, cells := 1, slots := 3, locals := 28 } : Room) s m #[(.ref x1)] below meth c s₁ [] 0 0 := Stand.of_body Bd
  have e0 : s₁.heap = h0 := by rw [← hh, Bd.state]; rfl
  have Nf0 := Fr.nil n0
  obtain ⟨Gl, hGl, kn0⟩ : ∃ Gl : State → Prop, (∀ t, Gl t → Steps p.tables e below (s₁.setTop (entryFrame m #[(.ref x1)] 5)) t) ∧ ∀ t, own_S p e below s₁ (mkF m 0 #[.val (.ref x1), .unset, .unset, .unset, .unset] []) t → Gl t := ⟨fun t => Steps p.tables e below (s₁.setTop (entryFrame m #[(.ref x1)] 5)) t, fun _ k => k, fun t k => castTop (ef_rmFind1 m x1) k⟩
  obtain ⟨_, _, ⟨T1, L1, cc1, ss1⟩, -, X1, ⟨Lc1, hQ1, l1, y1, z1⟩, st1⟩ := Jvm.LawKit.callS X0 hx (y := (⟨"com/example/runs_to_scores/runstoscores/formats/Subtask", "values", "()[Lcom/example/runs_to_scores/runstoscores/formats/Subtask;"⟩ : MethodName)) hown (mvT hZ (hw _ (List.mem_of_getElem? (i := 53) rfl))) (mvT hZ (hw _ (List.mem_of_getElem? (i := 54) rfl))) (mvT hZ (hw _ (List.mem_of_getElem? (i := 51) rfl))) (mvT hZ (hw _ (List.mem_of_getElem? (i := 55) rfl))) (by decide) (backOf (W := 0) (rmVal l Z a0 hw []  bV kV g0 y0 ty0 ky0 g1 y1 ty1 ky1 g2 y2 ty2 ky2 h0 n0 Z0 O0 SV EV VV Fg0 Ey0 Vy0 Cy0 Ky0 Fg1 Ey1 Vy1 Cy1 Ky1 Fg2 Ey2 Vy2 Cy2 Ky2) hZ (hw _ (List.mem_of_getElem? (i := 55) rfl)) (hw _ (List.mem_of_getElem? (i := 51) rfl)) (by decide) (by decide)) (g := (mkF m 0 #[.val (.ref x1), .unset, .unset, .unset, .unset] [])) rfl (by rw [hml]; rfl) (argsL := []) (rest := []) (lenOf pd_3 rfl) rfl (by show 2 * 0 + _ ≤ _; exact Nat.le_of_eq rfl) (hb hby d_prog_35_method_6_0) (fun _ _ => ⟨rfl, e0, (by decide : 0 + 1 ≤ _), (by decide : 0 + 3 ≤ _)⟩)
  dsimp only [Pt.U, Pt.locs, Pt.cells, Pt.slots] at X1 l1 y1 z1 st1 hQ1
  subst l1 y1 z1
  have X1 : Stand p l e _ _ m _ below meth c T1 _ 1 3 := X1
  obtain ⟨b1, kk1, rfl, Nq1, g_b1, K1, V1⟩ := hQ1
  have Nf1 := Fr.app Nf0 Nq1
  have Z2 : n0 ≤ T1.heap.size := Nat.le_trans Z0 K1.1
  have Od3 : Old Z n0 T1.heap := O0.keep K1 all0
  have K4 : Keep h0 T1.heap [] := (Keep.refl h0 []).trans K1 (all0)
  have kn5 : ∀ t, own_S p e below T1 (mkF m 3 #[.val (.ref x1), .unset, .unset, .unset, .unset] [(.ref b1)]) t → Gl t := fun t kt => kn0 t (st1 _ kt)
  have kn6 : ∀ t, own_S p e below T1 (mkF m 5 #[.val (.ref x1), .val (.ref b1), .unset, .unset, .unset] [(.ref b1)]) t → Gl t := fun t kt => kn5 t (by
    show own_S p e below T1 (mkF m 3 #[.val (.ref x1), .unset, .unset, .unset, .unset] [(.ref b1)]) _
    refine XS.astoreN X1.here hx rfl (hb hby d_prog_35_method_6_3) rfl rfl (l' := #[.val (.ref x1), .val (.ref b1), .unset, .unset, .unset]) rfl ?_
    show own_S p e below T1 (mkF m 4 #[.val (.ref x1), .val (.ref b1), .unset, .unset, .unset] []) _
    refine XS.aloadN X1.here hx rfl (hb hby d_prog_35_method_6_4) rfl rfl ?_
    exact kt)
  obtain ⟨cl7, Ar7, -, Sz7, Ng7, -, -⟩ := id V1
  have kn8 : ∀ t, own_S p e below T1 (mkF m 16 #[.val (.ref x1), .val (.ref b1), .val (.int (3 : Int32)), .val (.int (0 : Int32)), .unset] [(.int (0 : Int32)), (.ref b1)]) t → Gl t := fun t kt => kn6 t (by
    show own_S p e below T1 (mkF m 5 #[.val (.ref x1), .val (.ref b1), .unset, .unset, .unset] [(.ref b1)]) _
    refine X1.arraylength hx Ar7.1 (State.isArrayOf_alike hZ.alike Ar7.2.1) (g := (mkF m 5 #[.val (.ref x1), .val (.ref b1), .unset, .unset, .unset] [(.ref b1)])) rfl rfl (hb hby d_prog_35_method_6_5) _ ?_
    rw [len_of Sz7 Ng7]
    show own_S p e below T1 (mkF m 6 #[.val (.ref x1), .val (.ref b1), .unset, .unset, .unset] [(.int (3 : Int32))]) _
    refine XS.istoreN X1.here hx rfl (hb hby d_prog_35_method_6_6) rfl (l' := #[.val (.ref x1), .val (.ref b1), .val (.int (3 : Int32)), .unset, .unset]) rfl ?_
    show own_S p e below T1 (mkF m 7 #[.val (.ref x1), .val (.ref b1), .val (.int (3 : Int32)), .unset, .unset] []) _
    refine XS.iconst X1.here hx rfl (hb hby d_prog_35_method_6_7) ?_
    show own_S p e below T1 (mkF m 8 #[.val (.ref x1), .val (.ref b1), .val (.int (3 : Int32)), .unset, .unset] [(.int (0 : Int32))]) _
    refine XS.istoreN X1.here hx rfl (hb hby d_prog_35_method_6_8) rfl (l' := #[.val (.ref x1), .val (.ref b1), .val (.int (3 : Int32)), .val (.int (0 : Int32)), .unset]) rfl ?_
    show own_S p e below T1 (mkF m 9 #[.val (.ref x1), .val (.ref b1), .val (.int (3 : Int32)), .val (.int (0 : Int32)), .unset] []) _
    refine XS.iloadN X1.here hx rfl (hb hby d_prog_35_method_6_9) rfl ?_
    show own_S p e below T1 (mkF m 10 #[.val (.ref x1), .val (.ref b1), .val (.int (3 : Int32)), .val (.int (0 : Int32)), .unset] [(.int (0 : Int32))]) _
    refine XS.iloadN X1.here hx rfl (hb hby d_prog_35_method_6_10) rfl ?_
    show own_S p e below T1 (mkF m 11 #[.val (.ref x1), .val (.ref b1), .val (.int (3 : Int32)), .val (.int (0 : Int32)), .unset] [(.int (3 : Int32)), (.int (0 : Int32))]) _
    refine XS.icmpNo X1.here hx rfl (hb hby d_prog_35_method_6_11) rfl (tlt (by decide : (0 : Int32) < (3 : Int32))).2.1 ?_
    show own_S p e below T1 (mkF m 14 #[.val (.ref x1), .val (.ref b1), .val (.int (3 : Int32)), .val (.int (0 : Int32)), .unset] []) _
    refine XS.aloadN X1.here hx rfl (hb hby d_prog_35_method_6_14) rfl rfl ?_
    show own_S p e below T1 (mkF m 15 #[.val (.ref x1), .val (.ref b1), .val (.int (3 : Int32)), .val (.int (0 : Int32)), .unset] [(.ref b1)]) _
    refine XS.iloadN X1.here hx rfl (hb hby d_prog_35_method_6_15) rfl ?_
    exact kt)
  obtain ⟨cl9, Ar9, q9, Sz9, Ng9, Hs9, Gs9⟩ := id V1
  have hin9 : ¬ ((0 : Int32) < 0 ∨ cl9.slots.size ≤ ((0 : Int32)).toNatClampNeg) := inb_of Sz9 ⟨by decide, by decide⟩
  have hat9 : cl9.slots[((0 : Int32)).toNatClampNeg]? = some (.ref g0) := Hs9.at hin9 rfl
  have kn10 : ∀ t, own_S p e below T1 (mkF m 21 #[.val (.ref x1), .val (.ref b1), .val (.int (3 : Int32)), .val (.int (0 : Int32)), .val (.ref g0)] [(.ref g0)]) t → Gl t := fun t kt => kn8 t (by
    show own_S p e below T1 (mkF m 16 #[.val (.ref x1), .val (.ref b1), .val (.int (3 : Int32)), .val (.int (0 : Int32)), .unset] [(.int (0 : Int32)), (.ref b1)]) _
    refine X1.aaload hx (j := (0 : Int32)) (v := (.ref g0)) Ar9.1 (State.isArrayOf_alike hZ.alike Ar9.2.1) rfl Ar9.2.2 hin9 hat9 (g := (mkF m 16 #[.val (.ref x1), .val (.ref b1), .val (.int (3 : Int32)), .val (.int (0 : Int32)), .unset] [(.int (0 : Int32)), (.ref b1)])) rfl rfl (hb hby d_prog_35_method_6_16) _ ?_
    show own_S p e below T1 (mkF m 17 #[.val (.ref x1), .val (.ref b1), .val (.int (3 : Int32)), .val (.int (0 : Int32)), .unset] [(.ref g0)]) _
    refine XS.astore X1.here hx rfl (hb hby d_prog_35_method_6_17) rfl rfl (l' := #[.val (.ref x1), .val (.ref b1), .val (.int (3 : Int32)), .val (.int (0 : Int32)), .val (.ref g0)]) rfl ?_
    show own_S p e below T1 (mkF m 19 #[.val (.ref x1), .val (.ref b1), .val (.int (3 : Int32)), .val (.int (0 : Int32)), .val (.ref g0)] []) _
    refine XS.aload X1.here hx rfl (hb hby d_prog_35_method_6_19) rfl rfl ?_
    exact kt)
  obtain ⟨T11, X11, e11, st11⟩ := getF X1 hx hZ hown (host := "") (Or.inl (hw _ (List.mem_of_getElem? (i := 71) rfl))) Via.refl rfl (Fg0.ext Od3.2) (g := (mkF m 21 #[.val (.ref x1), .val (.ref b1), .val (.int (3 : Int32)), .val (.int (0 : Int32)), .val (.ref g0)] [(.ref g0)])) rfl rfl (hb hby d_prog_35_method_6_21)
  have kn12 : ∀ t, own_S p e below T11 (mkF m 24 #[.val (.ref x1), .val (.ref b1), .val (.int (3 : Int32)), .val (.int (0 : Int32)), .val (.ref g0)] [(.ref y0)]) t → Gl t := fun t kt => kn10 t (st11 _ kt)
  have kn13 : ∀ t, own_S p e below T11 (mkF m 25 #[.val (.ref x1), .val (.ref b1), .val (.int (3 : Int32)), .val (.int (0 : Int32)), .val (.ref g0)] [(.ref x1), (.ref y0)]) t → Gl t := fun t kt => kn12 t (by
    show own_S p e below T11 (mkF m 24 #[.val (.ref x1), .val (.ref b1), .val (.int (3 : Int32)), .val (.int (0 : Int32)), .val (.ref g0)] [(.ref y0)]) _
    refine XS.aloadN X11.here hx rfl (hb hby d_prog_35_method_6_24) rfl rfl ?_
    exact kt)
  have heq : ∀ d ∈ StrChars.Road.wordsEq, d.before a0 Z = true := fun d hd => hw d ((by decide +kernel : ∀ d ∈ StrChars.Road.wordsEq, d ∈ tables_1) d hd)
  have hp_y0 : ∀ c ∈ ([(116 : Int32), (114 : Int32), (105 : Int32), (97 : Int32), (103 : Int32), (101 : Int32)] : List Int32), ¬ c < 0 ∧ ¬ (255 : Int32) < c := by decide
  have hcd_y0 : StrChars.Road.CodA ([(116 : Int32), (114 : Int32), (105 : Int32), (97 : Int32), (103 : Int32), (101 : Int32)] : List Int32) 0 (6 : Int32) ((([(116 : Int32), (114 : Int32), (105 : Int32), (97 : Int32), (103 : Int32), (101 : Int32)] : List Int32).map (fun c => c.toInt8.toInt32)).map Value.int) := StrChars.Road.codOf (n := 6) rfl (fun x hx => (hp_y0 x hx).2)
  have hbd_y0 : ∀ x ∈ ([(116 : Int32), (114 : Int32), (105 : Int32), (97 : Int32), (103 : Int32), (101 : Int32)] : List Int32), ¬ x < 0 ∧ ¬ (65535 : Int32) < x := own_up _ hp_y0
  have f15 := (E_x1.keep K1)
  have f16 := (V_x1.keep K1 nin0)
  have f17 := (C_x1.keep K1 nin0)
  have f18 := (K_x1.keep K1 nin0)
  obtain ⟨cq14, kq14, qa14, qb14, qc14⟩ := isOf hZ e11 (Ey0.ext Od3.2)
  obtain ⟨_, _, ⟨T14, L14, cc14, ss14⟩, -, X14, ⟨Lc14, hQ14, l14, y14, z14⟩, st14⟩ := X11.virtualBack hx (y := (⟨"java/lang/String", "equals", "(Ljava/lang/Object;)Z"⟩ : MethodName)) (z := (⟨"java/lang/String", "equals", "(Ljava/lang/Object;)Z"⟩ : MethodName)) hown (mvT hZ (hw _ (List.mem_of_getElem? (i := 73) rfl))) (mvT hZ (hw _ (List.mem_of_getElem? (i := 74) rfl))) (notFace_of_selects (args := #[]) (mvT hZ (hw _ (List.mem_of_getElem? (i := 76) rfl)))) (mvT hZ (hw _ (List.mem_of_getElem? (i := 76) rfl))) (mvT hZ (hw _ (List.mem_of_getElem? (i := 75) rfl))) (by decide) (StrChars.Road.eqW (W := 0) hZ heq (kI := 4) (hw _ (List.mem_of_getElem? (i := 2) rfl)) (Ey0.ext Od3.2) (Vy0.ext Od3.2) (Cy0.ext Od3.2) (Ky0.ext Od3.2) hcd_y0 hbd_y0 (Nat.le_of_ble_eq_true rfl) f15 f16 f17 f18 hcd hbd hlen (O2.ext Od3.2) P5 (by decide) (by decide)) qa14 qc14 (g := (mkF m 25 #[.val (.ref x1), .val (.ref b1), .val (.int (3 : Int32)), .val (.int (0 : Int32)), .val (.ref g0)] [(.ref x1), (.ref y0)])) rfl (by rw [hml]; rfl) (Steps.refl _) (argsL := [(.ref x1)]) (rest := []) (lenOf pd_4 rfl) rfl (by show 2 * 0 + _ ≤ _; exact Nat.le_of_eq rfl) (hb hby d_prog_35_method_6_25) (fun _ _ => ⟨rfl, e11, (by decide : 1 + 0 ≤ _), (by decide : 3 + 0 ≤ _)⟩)
  dsimp only [Pt.U, Pt.locs, Pt.cells, Pt.slots] at X14 l14 y14 z14 st14 hQ14
  subst l14 y14 z14
  have X14 : Stand p l e _ _ m _ below meth c T14 _ 1 3 := X14
  obtain ⟨hd14, rfl, eq14⟩ := hQ14
  have Nf14 := Fr.app Nf1 (Fr.nil n0)
  rcases hd14 with ⟨rfl, hq14⟩ | ⟨rfl, hq14⟩
  · exact absurd hq14 q0
  · have kn19 : ∀ t, own_S p e below T14 (mkF m 28 #[.val (.ref x1), .val (.ref b1), .val (.int (3 : Int32)), .val (.int (0 : Int32)), .val (.ref g0)] [(.int (0 : Int32))]) t → Gl t := fun t kt => kn13 t (st14.trans kt)
    have kn20 : ∀ t, own_S p e below T14 (mkF m 16 #[.val (.ref x1), .val (.ref b1), .val (.int (3 : Int32)), .val (.int (1 : Int32)), .val (.ref g0)] [(.int (1 : Int32)), (.ref b1)]) t → Gl t := fun t kt => kn19 t (by
      show own_S p e below T14 (mkF m 28 #[.val (.ref x1), .val (.ref b1), .val (.int (3 : Int32)), .val (.int (0 : Int32)), .val (.ref g0)] [(.int (0 : Int32))]) _
      refine XS.ifYes X14.here hx rfl (pc0 := 28) (pc' := 34) rfl (hb hby d_prog_35_method_6_28) rfl ((if0 _ _).trans (teq (by decide : (0 : Int32) = (0 : Int32))).1) (by decide) (by decide) ?_
      show own_S p e below T14 (mkF m 34 #[.val (.ref x1), .val (.ref b1), .val (.int (3 : Int32)), .val (.int (0 : Int32)), .val (.ref g0)] []) _
      refine XS.iinc X14.here hx rfl (hb hby d_prog_35_method_6_34) rfl (l' := #[.val (.ref x1), .val (.ref b1), .val (.int (3 : Int32)), .val (.int ((0 : Int32) + (1 : Int32))), .val (.ref g0)]) rfl ?_
      rw [(by decide : ((0 : Int32) + (1 : Int32)) = (1 : Int32))]
      show own_S p e below T14 (mkF m 37 #[.val (.ref x1), .val (.ref b1), .val (.int (3 : Int32)), .val (.int (1 : Int32)), .val (.ref g0)] []) _
      refine XS.goto X14.here hx rfl (pc0 := 37) (pc' := 9) rfl (hb hby d_prog_35_method_6_37) (by decide) (by decide) ?_
      show own_S p e below T14 (mkF m 9 #[.val (.ref x1), .val (.ref b1), .val (.int (3 : Int32)), .val (.int (1 : Int32)), .val (.ref g0)] []) _
      refine XS.iloadN X14.here hx rfl (hb hby d_prog_35_method_6_9) rfl ?_
      show own_S p e below T14 (mkF m 10 #[.val (.ref x1), .val (.ref b1), .val (.int (3 : Int32)), .val (.int (1 : Int32)), .val (.ref g0)] [(.int (1 : Int32))]) _
      refine XS.iloadN X14.here hx rfl (hb hby d_prog_35_method_6_10) rfl ?_
      show own_S p e below T14 (mkF m 11 #[.val (.ref x1), .val (.ref b1), .val (.int (3 : Int32)), .val (.int (1 : Int32)), .val (.ref g0)] [(.int (3 : Int32)), (.int (1 : Int32))]) _
      refine XS.icmpNo X14.here hx rfl (hb hby d_prog_35_method_6_11) rfl (tlt (by decide : (1 : Int32) < (3 : Int32))).2.1 ?_
      show own_S p e below T14 (mkF m 14 #[.val (.ref x1), .val (.ref b1), .val (.int (3 : Int32)), .val (.int (1 : Int32)), .val (.ref g0)] []) _
      refine XS.aloadN X14.here hx rfl (hb hby d_prog_35_method_6_14) rfl rfl ?_
      show own_S p e below T14 (mkF m 15 #[.val (.ref x1), .val (.ref b1), .val (.int (3 : Int32)), .val (.int (1 : Int32)), .val (.ref g0)] [(.ref b1)]) _
      refine XS.iloadN X14.here hx rfl (hb hby d_prog_35_method_6_15) rfl ?_
      exact kt)
    obtain ⟨cl21, Ar21, q21, Sz21, Ng21, Hs21, Gs21⟩ := id V1
    have hin21 : ¬ ((1 : Int32) < 0 ∨ cl21.slots.size ≤ ((1 : Int32)).toNatClampNeg) := inb_of Sz21 ⟨by decide, by decide⟩
    have hat21 : cl21.slots[((1 : Int32)).toNatClampNeg]? = some (.ref g1) := Hs21.at hin21 rfl
    have kn22 : ∀ t, own_S p e below T14 (mkF m 21 #[.val (.ref x1), .val (.ref b1), .val (.int (3 : Int32)), .val (.int (1 : Int32)), .val (.ref g1)] [(.ref g1)]) t → Gl t := fun t kt => kn20 t (by
      show own_S p e below T14 (mkF m 16 #[.val (.ref x1), .val (.ref b1), .val (.int (3 : Int32)), .val (.int (1 : Int32)), .val (.ref g0)] [(.int (1 : Int32)), (.ref b1)]) _
      refine X14.aaload hx (j := (1 : Int32)) (v := (.ref g1)) (by rw [eq14]; exact Ar21.1) (State.isArrayOf_alike hZ.alike Ar21.2.1) rfl Ar21.2.2 hin21 hat21 (g := (mkF m 16 #[.val (.ref x1), .val (.ref b1), .val (.int (3 : Int32)), .val (.int (1 : Int32)), .val (.ref g0)] [(.int (1 : Int32)), (.ref b1)])) rfl rfl (hb hby d_prog_35_method_6_16) _ ?_
      show own_S p e below T14 (mkF m 17 #[.val (.ref x1), .val (.ref b1), .val (.int (3 : Int32)), .val (.int (1 : Int32)), .val (.ref g0)] [(.ref g1)]) _
      refine XS.astore X14.here hx rfl (hb hby d_prog_35_method_6_17) rfl rfl (l' := #[.val (.ref x1), .val (.ref b1), .val (.int (3 : Int32)), .val (.int (1 : Int32)), .val (.ref g1)]) rfl ?_
      show own_S p e below T14 (mkF m 19 #[.val (.ref x1), .val (.ref b1), .val (.int (3 : Int32)), .val (.int (1 : Int32)), .val (.ref g1)] []) _
      refine XS.aload X14.here hx rfl (hb hby d_prog_35_method_6_19) rfl rfl ?_
      exact kt)
    obtain ⟨T23, X23, e23, st23⟩ := getF X14 hx hZ hown (host := "") (Or.inl (hw _ (List.mem_of_getElem? (i := 71) rfl))) Via.refl eq14 (Fg1.ext Od3.2) (g := (mkF m 21 #[.val (.ref x1), .val (.ref b1), .val (.int (3 : Int32)), .val (.int (1 : Int32)), .val (.ref g1)] [(.ref g1)])) rfl rfl (hb hby d_prog_35_method_6_21)
    have kn24 : ∀ t, own_S p e below T23 (mkF m 24 #[.val (.ref x1), .val (.ref b1), .val (.int (3 : Int32)), .val (.int (1 : Int32)), .val (.ref g1)] [(.ref y1)]) t → Gl t := fun t kt => kn22 t (st23 _ kt)
    have kn25 : ∀ t, own_S p e below T23 (mkF m 25 #[.val (.ref x1), .val (.ref b1), .val (.int (3 : Int32)), .val (.int (1 : Int32)), .val (.ref g1)] [(.ref x1), (.ref y1)]) t → Gl t := fun t kt => kn24 t (by
      show own_S p e below T23 (mkF m 24 #[.val (.ref x1), .val (.ref b1), .val (.int (3 : Int32)), .val (.int (1 : Int32)), .val (.ref g1)] [(.ref y1)]) _
      refine XS.aloadN X23.here hx rfl (hb hby d_prog_35_method_6_24) rfl rfl ?_
      exact kt)
    have hp_y1 : ∀ c ∈ ([(97 : Int32), (110 : Int32), (110 : Int32), (104 : Int32), (105 : Int32)] : List Int32), ¬ c < 0 ∧ ¬ (255 : Int32) < c := by decide
    have hcd_y1 : StrChars.Road.CodA ([(97 : Int32), (110 : Int32), (110 : Int32), (104 : Int32), (105 : Int32)] : List Int32) 0 (5 : Int32) ((([(97 : Int32), (110 : Int32), (110 : Int32), (104 : Int32), (105 : Int32)] : List Int32).map (fun c => c.toInt8.toInt32)).map Value.int) := StrChars.Road.codOf (n := 5) rfl (fun x hx => (hp_y1 x hx).2)
    have hbd_y1 : ∀ x ∈ ([(97 : Int32), (110 : Int32), (110 : Int32), (104 : Int32), (105 : Int32)] : List Int32), ¬ x < 0 ∧ ¬ (65535 : Int32) < x := own_up _ hp_y1
    obtain ⟨cq26, kq26, qa26, qb26, qc26⟩ := isOf hZ e23 (Ey1.ext Od3.2)
    obtain ⟨_, _, ⟨T26, L26, cc26, ss26⟩, -, X26, ⟨Lc26, hQ26, l26, y26, z26⟩, st26⟩ := X23.virtualBack hx (y := (⟨"java/lang/String", "equals", "(Ljava/lang/Object;)Z"⟩ : MethodName)) (z := (⟨"java/lang/String", "equals", "(Ljava/lang/Object;)Z"⟩ : MethodName)) hown (mvT hZ (hw _ (List.mem_of_getElem? (i := 73) rfl))) (mvT hZ (hw _ (List.mem_of_getElem? (i := 74) rfl))) (notFace_of_selects (args := #[]) (mvT hZ (hw _ (List.mem_of_getElem? (i := 76) rfl)))) (mvT hZ (hw _ (List.mem_of_getElem? (i := 76) rfl))) (mvT hZ (hw _ (List.mem_of_getElem? (i := 75) rfl))) (by decide) (StrChars.Road.eqW (W := 0) hZ heq (kI := 4) (hw _ (List.mem_of_getElem? (i := 2) rfl)) (Ey1.ext Od3.2) (Vy1.ext Od3.2) (Cy1.ext Od3.2) (Ky1.ext Od3.2) hcd_y1 hbd_y1 (Nat.le_of_ble_eq_true rfl) f15 f16 f17 f18 hcd hbd hlen (O2.ext Od3.2) P5 (by decide) (by decide)) qa26 qc26 (g := (mkF m 25 #[.val (.ref x1), .val (.ref b1), .val (.int (3 : Int32)), .val (.int (1 : Int32)), .val (.ref g1)] [(.ref x1), (.ref y1)])) rfl (by rw [hml]; rfl) (Steps.refl _) (argsL := [(.ref x1)]) (rest := []) (lenOf pd_4 rfl) rfl (by show 2 * 0 + _ ≤ _; exact Nat.le_of_eq rfl) (hb hby d_prog_35_method_6_25) (fun _ _ => ⟨rfl, e23, (by decide : 1 + 0 ≤ _), (by decide : 3 + 0 ≤ _)⟩)
    dsimp only [Pt.U, Pt.locs, Pt.cells, Pt.slots] at X26 l26 y26 z26 st26 hQ26
    subst l26 y26 z26
    have X26 : Stand p l e _ _ m _ below meth c T26 _ 1 3 := X26
    obtain ⟨hd26, rfl, eq26⟩ := hQ26
    have Nf26 := Fr.app Nf14 (Fr.nil n0)
    rcases hd26 with ⟨rfl, hq26⟩ | ⟨rfl, hq26⟩
    · have kn27 : ∀ t, own_S p e below T26 (mkF m 28 #[.val (.ref x1), .val (.ref b1), .val (.int (3 : Int32)), .val (.int (1 : Int32)), .val (.ref g1)] [(.int (1 : Int32))]) t → Gl t := fun t kt => kn25 t (st26.trans kt)
      have kn28 : ∀ t, own_S p e below T26 (mkF m 33 #[.val (.ref x1), .val (.ref b1), .val (.int (3 : Int32)), .val (.int (1 : Int32)), .val (.ref g1)] [(.ref g1)]) t → Gl t := fun t kt => kn27 t (by
        show own_S p e below T26 (mkF m 28 #[.val (.ref x1), .val (.ref b1), .val (.int (3 : Int32)), .val (.int (1 : Int32)), .val (.ref g1)] [(.int (1 : Int32))]) _
        refine XS.ifNo X26.here hx rfl (hb hby d_prog_35_method_6_28) rfl ((if0 _ _).trans (feq (by decide : ¬ ((1 : Int32) = (0 : Int32)))).1) ?_
        show own_S p e below T26 (mkF m 31 #[.val (.ref x1), .val (.ref b1), .val (.int (3 : Int32)), .val (.int (1 : Int32)), .val (.ref g1)] []) _
        refine XS.aload X26.here hx rfl (hb hby d_prog_35_method_6_31) rfl rfl ?_
        exact kt)
      obtain ⟨fs, hr, hrun, hended, hW, hsame⟩ := X26.leave (v := some (.ref g1)) (fun h => by rw [Bd.returns] at h; cases h)
      refine ⟨_, _, hGl _ (kn28 _ (by
          show own_S p e below T26 (mkF m 33 #[.val (.ref x1), .val (.ref b1), .val (.int (3 : Int32)), .val (.int (1 : Int32)), .val (.ref g1)] [(.ref g1)]) _
          jvm_step X26.here [X26.here.top, hx, (hb hby d_prog_35_method_6_33), X26.method', Bd.returns, Value.isRef, FieldType.isReference]
          first | (intro acts; rw [hr _ acts rfl rfl rfl]) | rw [hr _ _ rfl rfl rfl]
          exact Steps.refl _)), hrun, hended, _, _, rfl, ?_, ⟨_, rfl⟩, hW, hsame.mono (by decide) (by decide)⟩
      show QFind1 Z x1 t1 k1 cs N1 vs bV kV g0 y0 ty0 ky0 g1 y1 ty1 ky1 g2 y2 ty2 ky2 G1 h0 n0 _ T26.heap _
      rw [eq26]
      exact ⟨rfl, Nf26, K4⟩
    · exact absurd q1 hq26

theorem ef_rmFind2 (m : MethodId) (x0 : Addr) : entryFrame m #[(.ref x0)] 5 = mkF m 0 #[.val (.ref x0), .unset, .unset, .unset, .unset] [] := by first | (simp [entryFrame, mkF, argsToLocals, Value.category]; done) | rfl
def QFind2 (Z : State) (x1 : Addr) (t1 : Addr) (k1 : ClassId) (cs : List Int32) (N1 : Int32) (vs : List Value) (bV : Addr) (kV : ClassId) (g0 : Addr) (y0 : Addr) (ty0 : Addr) (ky0 : ClassId) (g1 : Addr) (y1 : Addr) (ty1 : Addr) (ky1 : ClassId) (g2 : Addr) (y2 : Addr) (ty2 : Addr) (ky2 : ClassId) (G1 : Int32) (h0 : Heap) (n0 : Nat) (v : Option Value) (h : Heap) (L : List Loc) : Prop := v = some (.ref g2) ∧ Fr n0 L ∧ Keep h0 h []
set_option maxRecDepth 65536 in
set_option maxHeartbeats 40000000 in
theorem rmFind2 (l : Launch) (Z : State) (a0 : Array Value) (hw : ∀ d ∈ tables_1, d.before a0 Z = true) (ws : List Jvm.Cond) (x1 : Addr) (t1 : Addr) (k1 : ClassId) (cs : List Int32) (N1 : Int32) (vs : List Value) (bV : Addr) (kV : ClassId) (g0 : Addr) (y0 : Addr) (ty0 : Addr) (ky0 : ClassId) (g1 : Addr) (y1 : Addr) (ty1 : Addr) (ky1 : ClassId) (g2 : Addr) (y2 : Addr) (ty2 : Addr) (ky2 : ClassId) (G1 : Int32) (h0 : Heap) (n0 : Nat) (Z0 : n0 ≤ h0.size) (E_x1 : Exa Z h0 x1 "java/lang/String") (V_x1 : Fld Z h0 x1 "java/lang/String" "value" "[B" (.ref t1)) (C_x1 : Fld Z h0 x1 "java/lang/String" "coder" "B" (.int (0 : Int32))) (K_x1 : Arv Z h0 t1 k1 .byte N1 vs (.int (0 : Int32))) (hcd : StrChars.Road.CodA cs 0 N1 vs) (hbd : ∀ x ∈ cs, ¬ x < 0 ∧ ¬ (65535 : Int32) < x) (hlen : cs.length ≤ 4000) (O0 : Old Z n0 h0) (O2 : Sta Z Z.heap "java/lang/String" "COMPACT_STRINGS" "Z" (.int G1)) (P5 : ¬ (G1 = (0 : Int32))) (SV : Sta Z Z.heap "com/example/runs_to_scores/runstoscores/formats/Subtask" "$VALUES" "[Lcom/example/runs_to_scores/runstoscores/formats/Subtask;" (.ref bV)) (EV : Exa Z Z.heap bV "[Lcom/example/runs_to_scores/runstoscores/formats/Subtask;") (VV : Arv Z Z.heap bV kV (.object "com/example/runs_to_scores/runstoscores/formats/Subtask") (3 : Int32) [(.ref g0), (.ref g1), (.ref g2)] .null) (Fg0 : Fld Z Z.heap g0 "com/example/runs_to_scores/runstoscores/formats/Subtask" "label" "Ljava/lang/String;" (.ref y0)) (Ey0 : Exa Z Z.heap y0 "java/lang/String") (Vy0 : Fld Z Z.heap y0 "java/lang/String" "value" "[B" (.ref ty0)) (Cy0 : Fld Z Z.heap y0 "java/lang/String" "coder" "B" (.int (0 : Int32))) (Ky0 : Arv Z Z.heap ty0 ky0 .byte (6 : Int32) ((([(116 : Int32), (114 : Int32), (105 : Int32), (97 : Int32), (103 : Int32), (101 : Int32)] : List Int32).map (fun c => c.toInt8.toInt32)).map Value.int) (.int (0 : Int32))) (Fg1 : Fld Z Z.heap g1 "com/example/runs_to_scores/runstoscores/formats/Subtask" "label" "Ljava/lang/String;" (.ref y1)) (Ey1 : Exa Z Z.heap y1 "java/lang/String") (Vy1 : Fld Z Z.heap y1 "java/lang/String" "value" "[B" (.ref ty1)) (Cy1 : Fld Z Z.heap y1 "java/lang/String" "coder" "B" (.int (0 : Int32))) (Ky1 : Arv Z Z.heap ty1 ky1 .byte (5 : Int32) ((([(97 : Int32), (110 : Int32), (110 : Int32), (104 : Int32), (105 : Int32)] : List Int32).map (fun c => c.toInt8.toInt32)).map Value.int) (.int (0 : Int32))) (Fg2 : Fld Z Z.heap g2 "com/example/runs_to_scores/runstoscores/formats/Subtask" "label" "Ljava/lang/String;" (.ref y2)) (Ey2 : Exa Z Z.heap y2 "java/lang/String") (Vy2 : Fld Z Z.heap y2 "java/lang/String" "value" "[B" (.ref ty2)) (Cy2 : Fld Z Z.heap y2 "java/lang/String" "coder" "B" (.int (0 : Int32))) (Ky2 : Arv Z Z.heap ty2 ky2 .byte (7 : Int32) ((([(97 : Int32), (110 : Int32), (110 : Int32), (104 : Int32), (105 : Int32), (101 : Int32), (118 : Int32)] : List Int32).map (fun c => c.toInt8.toInt32)).map Value.int) (.int (0 : Int32))) (q0 : ¬ ([(116 : Int32), (114 : Int32), (105 : Int32), (97 : Int32), (103 : Int32), (101 : Int32)] : List Int32) = cs) (q1 : ¬ ([(97 : Int32), (110 : Int32), (110 : Int32), (104 : Int32), (105 : Int32)] : List Int32) = cs) (q2 : ([(97 : Int32), (110 : Int32), (110 : Int32), (104 : Int32), (105 : Int32), (101 : Int32), (118 : Int32)] : List Int32) = cs) :
    MetFree l (⟨"com/example/runs_to_scores/runstoscores/formats/Subtask", "labelled", "(Ljava/lang/String;)Lcom/example/runs_to_scores/runstoscores/formats/Subtask;"⟩ : MethodName) (head1 (Jvm.Cond.code (⟨"com/example/runs_to_scores/runstoscores/formats/Subtask", "labelled", "(Ljava/lang/String;)Lcom/example/runs_to_scores/runstoscores/formats/Subtask;"⟩ : MethodName) prog_35_method_6_code 5 (some (.object "com/example/runs_to_scores/runstoscores/formats/Subtask")) :: ws) ({ frames := 2, cells := 1, slots := 3, locals := 28 } : Room)) (fun a U => a = #[(.ref x1)] ∧ Z.Warmed39 U.vm ∧ U.heap = h0) (fun _ _ _ _ _ => True) (fun _ U o U' => ∃ v L, o = .returned v ∧ QFind2 Z x1 t1 k1 cs N1 vs bV kV g0 y0 ty0 ky0 g1 y1 ty1 ky1 g2 y2 ty2 ky2 G1 h0 n0 v U'.heap L ∧ FrameEnd U o U' L ({ frames := 2, cells := 1, slots := 3, locals := 28 } : Room).cells ({ frames := 2, cells := 1, slots := 3, locals := 28 } : Room).slots) := by
  refine MetFree.of_bodySF (plainFor_of_name pn_2) hisR ?_
  intro p e s m args below meth c s₁ Bd hml0 hP hK
  obtain ⟨rfl, hZ, hh⟩ := hP
  have hx := Bd.exec
  have hby := Bd.bytes
  have hml : c.maxLocals = 5 := hml0
  have hown : s.vm.findClass "com/example/runs_to_scores/runstoscores/formats/Subtask" = some m.cls := findClass_of_methodNamed Bd.named
  have hnm := (name_of_methodNamed Bd.named Bd.method).1
  have X0 : Stand p l e ({ frames := 2, cells := 1, slots := 3, locals := 28 } : Room) s m #[(.ref x1)] below meth c s₁ [] 0 0 := Stand.of_body Bd
  have e0 : s₁.heap = h0 := by rw [← hh, Bd.state]; rfl
  have Nf0 := Fr.nil n0
  obtain ⟨Gl, hGl, kn0⟩ : ∃ Gl : State → Prop, (∀ t, Gl t → Steps p.tables e below (s₁.setTop (entryFrame m #[(.ref x1)] 5)) t) ∧ ∀ t, own_S p e below s₁ (mkF m 0 #[.val (.ref x1), .unset, .unset, .unset, .unset] []) t → Gl t := ⟨fun t => Steps p.tables e below (s₁.setTop (entryFrame m #[(.ref x1)] 5)) t, fun _ k => k, fun t k => castTop (ef_rmFind2 m x1) k⟩
  obtain ⟨_, _, ⟨T1, L1, cc1, ss1⟩, -, X1, ⟨Lc1, hQ1, l1, y1, z1⟩, st1⟩ := Jvm.LawKit.callS X0 hx (y := (⟨"com/example/runs_to_scores/runstoscores/formats/Subtask", "values", "()[Lcom/example/runs_to_scores/runstoscores/formats/Subtask;"⟩ : MethodName)) hown (mvT hZ (hw _ (List.mem_of_getElem? (i := 53) rfl))) (mvT hZ (hw _ (List.mem_of_getElem? (i := 54) rfl))) (mvT hZ (hw _ (List.mem_of_getElem? (i := 51) rfl))) (mvT hZ (hw _ (List.mem_of_getElem? (i := 55) rfl))) (by decide) (backOf (W := 0) (rmVal l Z a0 hw []  bV kV g0 y0 ty0 ky0 g1 y1 ty1 ky1 g2 y2 ty2 ky2 h0 n0 Z0 O0 SV EV VV Fg0 Ey0 Vy0 Cy0 Ky0 Fg1 Ey1 Vy1 Cy1 Ky1 Fg2 Ey2 Vy2 Cy2 Ky2) hZ (hw _ (List.mem_of_getElem? (i := 55) rfl)) (hw _ (List.mem_of_getElem? (i := 51) rfl)) (by decide) (by decide)) (g := (mkF m 0 #[.val (.ref x1), .unset, .unset, .unset, .unset] [])) rfl (by rw [hml]; rfl) (argsL := []) (rest := []) (lenOf pd_3 rfl) rfl (by show 2 * 0 + _ ≤ _; exact Nat.le_of_eq rfl) (hb hby d_prog_35_method_6_0) (fun _ _ => ⟨rfl, e0, (by decide : 0 + 1 ≤ _), (by decide : 0 + 3 ≤ _)⟩)
  dsimp only [Pt.U, Pt.locs, Pt.cells, Pt.slots] at X1 l1 y1 z1 st1 hQ1
  subst l1 y1 z1
  have X1 : Stand p l e _ _ m _ below meth c T1 _ 1 3 := X1
  obtain ⟨b1, kk1, rfl, Nq1, g_b1, K1, V1⟩ := hQ1
  have Nf1 := Fr.app Nf0 Nq1
  have Z2 : n0 ≤ T1.heap.size := Nat.le_trans Z0 K1.1
  have Od3 : Old Z n0 T1.heap := O0.keep K1 all0
  have K4 : Keep h0 T1.heap [] := (Keep.refl h0 []).trans K1 (all0)
  have kn5 : ∀ t, own_S p e below T1 (mkF m 3 #[.val (.ref x1), .unset, .unset, .unset, .unset] [(.ref b1)]) t → Gl t := fun t kt => kn0 t (st1 _ kt)
  have kn6 : ∀ t, own_S p e below T1 (mkF m 5 #[.val (.ref x1), .val (.ref b1), .unset, .unset, .unset] [(.ref b1)]) t → Gl t := fun t kt => kn5 t (by
    show own_S p e below T1 (mkF m 3 #[.val (.ref x1), .unset, .unset, .unset, .unset] [(.ref b1)]) _
    refine XS.astoreN X1.here hx rfl (hb hby d_prog_35_method_6_3) rfl rfl (l' := #[.val (.ref x1), .val (.ref b1), .unset, .unset, .unset]) rfl ?_
    show own_S p e below T1 (mkF m 4 #[.val (.ref x1), .val (.ref b1), .unset, .unset, .unset] []) _
    refine XS.aloadN X1.here hx rfl (hb hby d_prog_35_method_6_4) rfl rfl ?_
    exact kt)
  obtain ⟨cl7, Ar7, -, Sz7, Ng7, -, -⟩ := id V1
  have kn8 : ∀ t, own_S p e below T1 (mkF m 16 #[.val (.ref x1), .val (.ref b1), .val (.int (3 : Int32)), .val (.int (0 : Int32)), .unset] [(.int (0 : Int32)), (.ref b1)]) t → Gl t := fun t kt => kn6 t (by
    show own_S p e below T1 (mkF m 5 #[.val (.ref x1), .val (.ref b1), .unset, .unset, .unset] [(.ref b1)]) _
    refine X1.arraylength hx Ar7.1 (State.isArrayOf_alike hZ.alike Ar7.2.1) (g := (mkF m 5 #[.val (.ref x1), .val (.ref b1), .unset, .unset, .unset] [(.ref b1)])) rfl rfl (hb hby d_prog_35_method_6_5) _ ?_
    rw [len_of Sz7 Ng7]
    show own_S p e below T1 (mkF m 6 #[.val (.ref x1), .val (.ref b1), .unset, .unset, .unset] [(.int (3 : Int32))]) _
    refine XS.istoreN X1.here hx rfl (hb hby d_prog_35_method_6_6) rfl (l' := #[.val (.ref x1), .val (.ref b1), .val (.int (3 : Int32)), .unset, .unset]) rfl ?_
    show own_S p e below T1 (mkF m 7 #[.val (.ref x1), .val (.ref b1), .val (.int (3 : Int32)), .unset, .unset] []) _
    refine XS.iconst X1.here hx rfl (hb hby d_prog_35_method_6_7) ?_
    show own_S p e below T1 (mkF m 8 #[.val (.ref x1), .val (.ref b1), .val (.int (3 : Int32)), .unset, .unset] [(.int (0 : Int32))]) _
    refine XS.istoreN X1.here hx rfl (hb hby d_prog_35_method_6_8) rfl (l' := #[.val (.ref x1), .val (.ref b1), .val (.int (3 : Int32)), .val (.int (0 : Int32)), .unset]) rfl ?_
    show own_S p e below T1 (mkF m 9 #[.val (.ref x1), .val (.ref b1), .val (.int (3 : Int32)), .val (.int (0 : Int32)), .unset] []) _
    refine XS.iloadN X1.here hx rfl (hb hby d_prog_35_method_6_9) rfl ?_
    show own_S p e below T1 (mkF m 10 #[.val (.ref x1), .val (.ref b1), .val (.int (3 : Int32)), .val (.int (0 : Int32)), .unset] [(.int (0 : Int32))]) _
    refine XS.iloadN X1.here hx rfl (hb hby d_prog_35_method_6_10) rfl ?_
    show own_S p e below T1 (mkF m 11 #[.val (.ref x1), .val (.ref b1), .val (.int (3 : Int32)), .val (.int (0 : Int32)), .unset] [(.int (3 : Int32)), (.int (0 : Int32))]) _
    refine XS.icmpNo X1.here hx rfl (hb hby d_prog_35_method_6_11) rfl (tlt (by decide : (0 : Int32) < (3 : Int32))).2.1 ?_
    show own_S p e below T1 (mkF m 14 #[.val (.ref x1), .val (.ref b1), .val (.int (3 : Int32)), .val (.int (0 : Int32)), .unset] []) _
    refine XS.aloadN X1.here hx rfl (hb hby d_prog_35_method_6_14) rfl rfl ?_
    show own_S p e below T1 (mkF m 15 #[.val (.ref x1), .val (.ref b1), .val (.int (3 : Int32)), .val (.int (0 : Int32)), .unset] [(.ref b1)]) _
    refine XS.iloadN X1.here hx rfl (hb hby d_prog_35_method_6_15) rfl ?_
    exact kt)
  obtain ⟨cl9, Ar9, q9, Sz9, Ng9, Hs9, Gs9⟩ := id V1
  have hin9 : ¬ ((0 : Int32) < 0 ∨ cl9.slots.size ≤ ((0 : Int32)).toNatClampNeg) := inb_of Sz9 ⟨by decide, by decide⟩
  have hat9 : cl9.slots[((0 : Int32)).toNatClampNeg]? = some (.ref g0) := Hs9.at hin9 rfl
  have kn10 : ∀ t, own_S p e below T1 (mkF m 21 #[.val (.ref x1), .val (.ref b1), .val (.int (3 : Int32)), .val (.int (0 : Int32)), .val (.ref g0)] [(.ref g0)]) t → Gl t := fun t kt => kn8 t (by
    show own_S p e below T1 (mkF m 16 #[.val (.ref x1), .val (.ref b1), .val (.int (3 : Int32)), .val (.int (0 : Int32)), .unset] [(.int (0 : Int32)), (.ref b1)]) _
    refine X1.aaload hx (j := (0 : Int32)) (v := (.ref g0)) Ar9.1 (State.isArrayOf_alike hZ.alike Ar9.2.1) rfl Ar9.2.2 hin9 hat9 (g := (mkF m 16 #[.val (.ref x1), .val (.ref b1), .val (.int (3 : Int32)), .val (.int (0 : Int32)), .unset] [(.int (0 : Int32)), (.ref b1)])) rfl rfl (hb hby d_prog_35_method_6_16) _ ?_
    show own_S p e below T1 (mkF m 17 #[.val (.ref x1), .val (.ref b1), .val (.int (3 : Int32)), .val (.int (0 : Int32)), .unset] [(.ref g0)]) _
    refine XS.astore X1.here hx rfl (hb hby d_prog_35_method_6_17) rfl rfl (l' := #[.val (.ref x1), .val (.ref b1), .val (.int (3 : Int32)), .val (.int (0 : Int32)), .val (.ref g0)]) rfl ?_
    show own_S p e below T1 (mkF m 19 #[.val (.ref x1), .val (.ref b1), .val (.int (3 : Int32)), .val (.int (0 : Int32)), .val (.ref g0)] []) _
    refine XS.aload X1.here hx rfl (hb hby d_prog_35_method_6_19) rfl rfl ?_
    exact kt)
  obtain ⟨T11, X11, e11, st11⟩ := getF X1 hx hZ hown (host := "") (Or.inl (hw _ (List.mem_of_getElem? (i := 71) rfl))) Via.refl rfl (Fg0.ext Od3.2) (g := (mkF m 21 #[.val (.ref x1), .val (.ref b1), .val (.int (3 : Int32)), .val (.int (0 : Int32)), .val (.ref g0)] [(.ref g0)])) rfl rfl (hb hby d_prog_35_method_6_21)
  have kn12 : ∀ t, own_S p e below T11 (mkF m 24 #[.val (.ref x1), .val (.ref b1), .val (.int (3 : Int32)), .val (.int (0 : Int32)), .val (.ref g0)] [(.ref y0)]) t → Gl t := fun t kt => kn10 t (st11 _ kt)
  have kn13 : ∀ t, own_S p e below T11 (mkF m 25 #[.val (.ref x1), .val (.ref b1), .val (.int (3 : Int32)), .val (.int (0 : Int32)), .val (.ref g0)] [(.ref x1), (.ref y0)]) t → Gl t := fun t kt => kn12 t (by
    show own_S p e below T11 (mkF m 24 #[.val (.ref x1), .val (.ref b1), .val (.int (3 : Int32)), .val (.int (0 : Int32)), .val (.ref g0)] [(.ref y0)]) _
    refine XS.aloadN X11.here hx rfl (hb hby d_prog_35_method_6_24) rfl rfl ?_
    exact kt)
  have heq : ∀ d ∈ StrChars.Road.wordsEq, d.before a0 Z = true := fun d hd => hw d ((by decide +kernel : ∀ d ∈ StrChars.Road.wordsEq, d ∈ tables_1) d hd)
  have hp_y0 : ∀ c ∈ ([(116 : Int32), (114 : Int32), (105 : Int32), (97 : Int32), (103 : Int32), (101 : Int32)] : List Int32), ¬ c < 0 ∧ ¬ (255 : Int32) < c := by decide
  have hcd_y0 : StrChars.Road.CodA ([(116 : Int32), (114 : Int32), (105 : Int32), (97 : Int32), (103 : Int32), (101 : Int32)] : List Int32) 0 (6 : Int32) ((([(116 : Int32), (114 : Int32), (105 : Int32), (97 : Int32), (103 : Int32), (101 : Int32)] : List Int32).map (fun c => c.toInt8.toInt32)).map Value.int) := StrChars.Road.codOf (n := 6) rfl (fun x hx => (hp_y0 x hx).2)
  have hbd_y0 : ∀ x ∈ ([(116 : Int32), (114 : Int32), (105 : Int32), (97 : Int32), (103 : Int32), (101 : Int32)] : List Int32), ¬ x < 0 ∧ ¬ (65535 : Int32) < x := own_up _ hp_y0
  have f15 := (E_x1.keep K1)
  have f16 := (V_x1.keep K1 nin0)
  have f17 := (C_x1.keep K1 nin0)
  have f18 := (K_x1.keep K1 nin0)
  obtain ⟨cq14, kq14, qa14, qb14, qc14⟩ := isOf hZ e11 (Ey0.ext Od3.2)
  obtain ⟨_, _, ⟨T14, L14, cc14, ss14⟩, -, X14, ⟨Lc14, hQ14, l14, y14, z14⟩, st14⟩ := X11.virtualBack hx (y := (⟨"java/lang/String", "equals", "(Ljava/lang/Object;)Z"⟩ : MethodName)) (z := (⟨"java/lang/String", "equals", "(Ljava/lang/Object;)Z"⟩ : MethodName)) hown (mvT hZ (hw _ (List.mem_of_getElem? (i := 73) rfl))) (mvT hZ (hw _ (List.mem_of_getElem? (i := 74) rfl))) (notFace_of_selects (args := #[]) (mvT hZ (hw _ (List.mem_of_getElem? (i := 76) rfl)))) (mvT hZ (hw _ (List.mem_of_getElem? (i := 76) rfl))) (mvT hZ (hw _ (List.mem_of_getElem? (i := 75) rfl))) (by decide) (StrChars.Road.eqW (W := 0) hZ heq (kI := 4) (hw _ (List.mem_of_getElem? (i := 2) rfl)) (Ey0.ext Od3.2) (Vy0.ext Od3.2) (Cy0.ext Od3.2) (Ky0.ext Od3.2) hcd_y0 hbd_y0 (Nat.le_of_ble_eq_true rfl) f15 f16 f17 f18 hcd hbd hlen (O2.ext Od3.2) P5 (by decide) (by decide)) qa14 qc14 (g := (mkF m 25 #[.val (.ref x1), .val (.ref b1), .val (.int (3 : Int32)), .val (.int (0 : Int32)), .val (.ref g0)] [(.ref x1), (.ref y0)])) rfl (by rw [hml]; rfl) (Steps.refl _) (argsL := [(.ref x1)]) (rest := []) (lenOf pd_4 rfl) rfl (by show 2 * 0 + _ ≤ _; exact Nat.le_of_eq rfl) (hb hby d_prog_35_method_6_25) (fun _ _ => ⟨rfl, e11, (by decide : 1 + 0 ≤ _), (by decide : 3 + 0 ≤ _)⟩)
  dsimp only [Pt.U, Pt.locs, Pt.cells, Pt.slots] at X14 l14 y14 z14 st14 hQ14
  subst l14 y14 z14
  have X14 : Stand p l e _ _ m _ below meth c T14 _ 1 3 := X14
  obtain ⟨hd14, rfl, eq14⟩ := hQ14
  have Nf14 := Fr.app Nf1 (Fr.nil n0)
  rcases hd14 with ⟨rfl, hq14⟩ | ⟨rfl, hq14⟩
  · exact absurd hq14 q0
  · have kn19 : ∀ t, own_S p e below T14 (mkF m 28 #[.val (.ref x1), .val (.ref b1), .val (.int (3 : Int32)), .val (.int (0 : Int32)), .val (.ref g0)] [(.int (0 : Int32))]) t → Gl t := fun t kt => kn13 t (st14.trans kt)
    have kn20 : ∀ t, own_S p e below T14 (mkF m 16 #[.val (.ref x1), .val (.ref b1), .val (.int (3 : Int32)), .val (.int (1 : Int32)), .val (.ref g0)] [(.int (1 : Int32)), (.ref b1)]) t → Gl t := fun t kt => kn19 t (by
      show own_S p e below T14 (mkF m 28 #[.val (.ref x1), .val (.ref b1), .val (.int (3 : Int32)), .val (.int (0 : Int32)), .val (.ref g0)] [(.int (0 : Int32))]) _
      refine XS.ifYes X14.here hx rfl (pc0 := 28) (pc' := 34) rfl (hb hby d_prog_35_method_6_28) rfl ((if0 _ _).trans (teq (by decide : (0 : Int32) = (0 : Int32))).1) (by decide) (by decide) ?_
      show own_S p e below T14 (mkF m 34 #[.val (.ref x1), .val (.ref b1), .val (.int (3 : Int32)), .val (.int (0 : Int32)), .val (.ref g0)] []) _
      refine XS.iinc X14.here hx rfl (hb hby d_prog_35_method_6_34) rfl (l' := #[.val (.ref x1), .val (.ref b1), .val (.int (3 : Int32)), .val (.int ((0 : Int32) + (1 : Int32))), .val (.ref g0)]) rfl ?_
      rw [(by decide : ((0 : Int32) + (1 : Int32)) = (1 : Int32))]
      show own_S p e below T14 (mkF m 37 #[.val (.ref x1), .val (.ref b1), .val (.int (3 : Int32)), .val (.int (1 : Int32)), .val (.ref g0)] []) _
      refine XS.goto X14.here hx rfl (pc0 := 37) (pc' := 9) rfl (hb hby d_prog_35_method_6_37) (by decide) (by decide) ?_
      show own_S p e below T14 (mkF m 9 #[.val (.ref x1), .val (.ref b1), .val (.int (3 : Int32)), .val (.int (1 : Int32)), .val (.ref g0)] []) _
      refine XS.iloadN X14.here hx rfl (hb hby d_prog_35_method_6_9) rfl ?_
      show own_S p e below T14 (mkF m 10 #[.val (.ref x1), .val (.ref b1), .val (.int (3 : Int32)), .val (.int (1 : Int32)), .val (.ref g0)] [(.int (1 : Int32))]) _
      refine XS.iloadN X14.here hx rfl (hb hby d_prog_35_method_6_10) rfl ?_
      show own_S p e below T14 (mkF m 11 #[.val (.ref x1), .val (.ref b1), .val (.int (3 : Int32)), .val (.int (1 : Int32)), .val (.ref g0)] [(.int (3 : Int32)), (.int (1 : Int32))]) _
      refine XS.icmpNo X14.here hx rfl (hb hby d_prog_35_method_6_11) rfl (tlt (by decide : (1 : Int32) < (3 : Int32))).2.1 ?_
      show own_S p e below T14 (mkF m 14 #[.val (.ref x1), .val (.ref b1), .val (.int (3 : Int32)), .val (.int (1 : Int32)), .val (.ref g0)] []) _
      refine XS.aloadN X14.here hx rfl (hb hby d_prog_35_method_6_14) rfl rfl ?_
      show own_S p e below T14 (mkF m 15 #[.val (.ref x1), .val (.ref b1), .val (.int (3 : Int32)), .val (.int (1 : Int32)), .val (.ref g0)] [(.ref b1)]) _
      refine XS.iloadN X14.here hx rfl (hb hby d_prog_35_method_6_15) rfl ?_
      exact kt)
    obtain ⟨cl21, Ar21, q21, Sz21, Ng21, Hs21, Gs21⟩ := id V1
    have hin21 : ¬ ((1 : Int32) < 0 ∨ cl21.slots.size ≤ ((1 : Int32)).toNatClampNeg) := inb_of Sz21 ⟨by decide, by decide⟩
    have hat21 : cl21.slots[((1 : Int32)).toNatClampNeg]? = some (.ref g1) := Hs21.at hin21 rfl
    have kn22 : ∀ t, own_S p e below T14 (mkF m 21 #[.val (.ref x1), .val (.ref b1), .val (.int (3 : Int32)), .val (.int (1 : Int32)), .val (.ref g1)] [(.ref g1)]) t → Gl t := fun t kt => kn20 t (by
      show own_S p e below T14 (mkF m 16 #[.val (.ref x1), .val (.ref b1), .val (.int (3 : Int32)), .val (.int (1 : Int32)), .val (.ref g0)] [(.int (1 : Int32)), (.ref b1)]) _
      refine X14.aaload hx (j := (1 : Int32)) (v := (.ref g1)) (by rw [eq14]; exact Ar21.1) (State.isArrayOf_alike hZ.alike Ar21.2.1) rfl Ar21.2.2 hin21 hat21 (g := (mkF m 16 #[.val (.ref x1), .val (.ref b1), .val (.int (3 : Int32)), .val (.int (1 : Int32)), .val (.ref g0)] [(.int (1 : Int32)), (.ref b1)])) rfl rfl (hb hby d_prog_35_method_6_16) _ ?_
      show own_S p e below T14 (mkF m 17 #[.val (.ref x1), .val (.ref b1), .val (.int (3 : Int32)), .val (.int (1 : Int32)), .val (.ref g0)] [(.ref g1)]) _
      refine XS.astore X14.here hx rfl (hb hby d_prog_35_method_6_17) rfl rfl (l' := #[.val (.ref x1), .val (.ref b1), .val (.int (3 : Int32)), .val (.int (1 : Int32)), .val (.ref g1)]) rfl ?_
      show own_S p e below T14 (mkF m 19 #[.val (.ref x1), .val (.ref b1), .val (.int (3 : Int32)), .val (.int (1 : Int32)), .val (.ref g1)] []) _
      refine XS.aload X14.here hx rfl (hb hby d_prog_35_method_6_19) rfl rfl ?_
      exact kt)
    obtain ⟨T23, X23, e23, st23⟩ := getF X14 hx hZ hown (host := "") (Or.inl (hw _ (List.mem_of_getElem? (i := 71) rfl))) Via.refl eq14 (Fg1.ext Od3.2) (g := (mkF m 21 #[.val (.ref x1), .val (.ref b1), .val (.int (3 : Int32)), .val (.int (1 : Int32)), .val (.ref g1)] [(.ref g1)])) rfl rfl (hb hby d_prog_35_method_6_21)
    have kn24 : ∀ t, own_S p e below T23 (mkF m 24 #[.val (.ref x1), .val (.ref b1), .val (.int (3 : Int32)), .val (.int (1 : Int32)), .val (.ref g1)] [(.ref y1)]) t → Gl t := fun t kt => kn22 t (st23 _ kt)
    have kn25 : ∀ t, own_S p e below T23 (mkF m 25 #[.val (.ref x1), .val (.ref b1), .val (.int (3 : Int32)), .val (.int (1 : Int32)), .val (.ref g1)] [(.ref x1), (.ref y1)]) t → Gl t := fun t kt => kn24 t (by
      show own_S p e below T23 (mkF m 24 #[.val (.ref x1), .val (.ref b1), .val (.int (3 : Int32)), .val (.int (1 : Int32)), .val (.ref g1)] [(.ref y1)]) _
      refine XS.aloadN X23.here hx rfl (hb hby d_prog_35_method_6_24) rfl rfl ?_
      exact kt)
    have hp_y1 : ∀ c ∈ ([(97 : Int32), (110 : Int32), (110 : Int32), (104 : Int32), (105 : Int32)] : List Int32), ¬ c < 0 ∧ ¬ (255 : Int32) < c := by decide
    have hcd_y1 : StrChars.Road.CodA ([(97 : Int32), (110 : Int32), (110 : Int32), (104 : Int32), (105 : Int32)] : List Int32) 0 (5 : Int32) ((([(97 : Int32), (110 : Int32), (110 : Int32), (104 : Int32), (105 : Int32)] : List Int32).map (fun c => c.toInt8.toInt32)).map Value.int) := StrChars.Road.codOf (n := 5) rfl (fun x hx => (hp_y1 x hx).2)
    have hbd_y1 : ∀ x ∈ ([(97 : Int32), (110 : Int32), (110 : Int32), (104 : Int32), (105 : Int32)] : List Int32), ¬ x < 0 ∧ ¬ (65535 : Int32) < x := own_up _ hp_y1
    obtain ⟨cq26, kq26, qa26, qb26, qc26⟩ := isOf hZ e23 (Ey1.ext Od3.2)
    obtain ⟨_, _, ⟨T26, L26, cc26, ss26⟩, -, X26, ⟨Lc26, hQ26, l26, y26, z26⟩, st26⟩ := X23.virtualBack hx (y := (⟨"java/lang/String", "equals", "(Ljava/lang/Object;)Z"⟩ : MethodName)) (z := (⟨"java/lang/String", "equals", "(Ljava/lang/Object;)Z"⟩ : MethodName)) hown (mvT hZ (hw _ (List.mem_of_getElem? (i := 73) rfl))) (mvT hZ (hw _ (List.mem_of_getElem? (i := 74) rfl))) (notFace_of_selects (args := #[]) (mvT hZ (hw _ (List.mem_of_getElem? (i := 76) rfl)))) (mvT hZ (hw _ (List.mem_of_getElem? (i := 76) rfl))) (mvT hZ (hw _ (List.mem_of_getElem? (i := 75) rfl))) (by decide) (StrChars.Road.eqW (W := 0) hZ heq (kI := 4) (hw _ (List.mem_of_getElem? (i := 2) rfl)) (Ey1.ext Od3.2) (Vy1.ext Od3.2) (Cy1.ext Od3.2) (Ky1.ext Od3.2) hcd_y1 hbd_y1 (Nat.le_of_ble_eq_true rfl) f15 f16 f17 f18 hcd hbd hlen (O2.ext Od3.2) P5 (by decide) (by decide)) qa26 qc26 (g := (mkF m 25 #[.val (.ref x1), .val (.ref b1), .val (.int (3 : Int32)), .val (.int (1 : Int32)), .val (.ref g1)] [(.ref x1), (.ref y1)])) rfl (by rw [hml]; rfl) (Steps.refl _) (argsL := [(.ref x1)]) (rest := []) (lenOf pd_4 rfl) rfl (by show 2 * 0 + _ ≤ _; exact Nat.le_of_eq rfl) (hb hby d_prog_35_method_6_25) (fun _ _ => ⟨rfl, e23, (by decide : 1 + 0 ≤ _), (by decide : 3 + 0 ≤ _)⟩)
    dsimp only [Pt.U, Pt.locs, Pt.cells, Pt.slots] at X26 l26 y26 z26 st26 hQ26
    subst l26 y26 z26
    have X26 : Stand p l e _ _ m _ below meth c T26 _ 1 3 := X26
    obtain ⟨hd26, rfl, eq26⟩ := hQ26
    have Nf26 := Fr.app Nf14 (Fr.nil n0)
    rcases hd26 with ⟨rfl, hq26⟩ | ⟨rfl, hq26⟩
    · exact absurd hq26 q1
    · have kn27 : ∀ t, own_S p e below T26 (mkF m 28 #[.val (.ref x1), .val (.ref b1), .val (.int (3 : Int32)), .val (.int (1 : Int32)), .val (.ref g1)] [(.int (0 : Int32))]) t → Gl t := fun t kt => kn25 t (st26.trans kt)
      have kn28 : ∀ t, own_S p e below T26 (mkF m 16 #[.val (.ref x1), .val (.ref b1), .val (.int (3 : Int32)), .val (.int (2 : Int32)), .val (.ref g1)] [(.int (2 : Int32)), (.ref b1)]) t → Gl t := fun t kt => kn27 t (by
        show own_S p e below T26 (mkF m 28 #[.val (.ref x1), .val (.ref b1), .val (.int (3 : Int32)), .val (.int (1 : Int32)), .val (.ref g1)] [(.int (0 : Int32))]) _
        refine XS.ifYes X26.here hx rfl (pc0 := 28) (pc' := 34) rfl (hb hby d_prog_35_method_6_28) rfl ((if0 _ _).trans (teq (by decide : (0 : Int32) = (0 : Int32))).1) (by decide) (by decide) ?_
        show own_S p e below T26 (mkF m 34 #[.val (.ref x1), .val (.ref b1), .val (.int (3 : Int32)), .val (.int (1 : Int32)), .val (.ref g1)] []) _
        refine XS.iinc X26.here hx rfl (hb hby d_prog_35_method_6_34) rfl (l' := #[.val (.ref x1), .val (.ref b1), .val (.int (3 : Int32)), .val (.int ((1 : Int32) + (1 : Int32))), .val (.ref g1)]) rfl ?_
        rw [(by decide : ((1 : Int32) + (1 : Int32)) = (2 : Int32))]
        show own_S p e below T26 (mkF m 37 #[.val (.ref x1), .val (.ref b1), .val (.int (3 : Int32)), .val (.int (2 : Int32)), .val (.ref g1)] []) _
        refine XS.goto X26.here hx rfl (pc0 := 37) (pc' := 9) rfl (hb hby d_prog_35_method_6_37) (by decide) (by decide) ?_
        show own_S p e below T26 (mkF m 9 #[.val (.ref x1), .val (.ref b1), .val (.int (3 : Int32)), .val (.int (2 : Int32)), .val (.ref g1)] []) _
        refine XS.iloadN X26.here hx rfl (hb hby d_prog_35_method_6_9) rfl ?_
        show own_S p e below T26 (mkF m 10 #[.val (.ref x1), .val (.ref b1), .val (.int (3 : Int32)), .val (.int (2 : Int32)), .val (.ref g1)] [(.int (2 : Int32))]) _
        refine XS.iloadN X26.here hx rfl (hb hby d_prog_35_method_6_10) rfl ?_
        show own_S p e below T26 (mkF m 11 #[.val (.ref x1), .val (.ref b1), .val (.int (3 : Int32)), .val (.int (2 : Int32)), .val (.ref g1)] [(.int (3 : Int32)), (.int (2 : Int32))]) _
        refine XS.icmpNo X26.here hx rfl (hb hby d_prog_35_method_6_11) rfl (tlt (by decide : (2 : Int32) < (3 : Int32))).2.1 ?_
        show own_S p e below T26 (mkF m 14 #[.val (.ref x1), .val (.ref b1), .val (.int (3 : Int32)), .val (.int (2 : Int32)), .val (.ref g1)] []) _
        refine XS.aloadN X26.here hx rfl (hb hby d_prog_35_method_6_14) rfl rfl ?_
        show own_S p e below T26 (mkF m 15 #[.val (.ref x1), .val (.ref b1), .val (.int (3 : Int32)), .val (.int (2 : Int32)), .val (.ref g1)] [(.ref b1)]) _
        refine XS.iloadN X26.here hx rfl (hb hby d_prog_35_method_6_15) rfl ?_
        exact kt)
      obtain ⟨cl29, Ar29, q29, Sz29, Ng29, Hs29, Gs29⟩ := id V1
      have hin29 : ¬ ((2 : Int32) < 0 ∨ cl29.slots.size ≤ ((2 : Int32)).toNatClampNeg) := inb_of Sz29 ⟨by decide, by decide⟩
      have hat29 : cl29.slots[((2 : Int32)).toNatClampNeg]? = some (.ref g2) := Hs29.at hin29 rfl
      have kn30 : ∀ t, own_S p e below T26 (mkF m 21 #[.val (.ref x1), .val (.ref b1), .val (.int (3 : Int32)), .val (.int (2 : Int32)), .val (.ref g2)] [(.ref g2)]) t → Gl t := fun t kt => kn28 t (by
        show own_S p e below T26 (mkF m 16 #[.val (.ref x1), .val (.ref b1), .val (.int (3 : Int32)), .val (.int (2 : Int32)), .val (.ref g1)] [(.int (2 : Int32)), (.ref b1)]) _
        refine X26.aaload hx (j := (2 : Int32)) (v := (.ref g2)) (by rw [eq26]; exact Ar29.1) (State.isArrayOf_alike hZ.alike Ar29.2.1) rfl Ar29.2.2 hin29 hat29 (g := (mkF m 16 #[.val (.ref x1), .val (.ref b1), .val (.int (3 : Int32)), .val (.int (2 : Int32)), .val (.ref g1)] [(.int (2 : Int32)), (.ref b1)])) rfl rfl (hb hby d_prog_35_method_6_16) _ ?_
        show own_S p e below T26 (mkF m 17 #[.val (.ref x1), .val (.ref b1), .val (.int (3 : Int32)), .val (.int (2 : Int32)), .val (.ref g1)] [(.ref g2)]) _
        refine XS.astore X26.here hx rfl (hb hby d_prog_35_method_6_17) rfl rfl (l' := #[.val (.ref x1), .val (.ref b1), .val (.int (3 : Int32)), .val (.int (2 : Int32)), .val (.ref g2)]) rfl ?_
        show own_S p e below T26 (mkF m 19 #[.val (.ref x1), .val (.ref b1), .val (.int (3 : Int32)), .val (.int (2 : Int32)), .val (.ref g2)] []) _
        refine XS.aload X26.here hx rfl (hb hby d_prog_35_method_6_19) rfl rfl ?_
        exact kt)
      obtain ⟨T31, X31, e31, st31⟩ := getF X26 hx hZ hown (host := "") (Or.inl (hw _ (List.mem_of_getElem? (i := 71) rfl))) Via.refl eq26 (Fg2.ext Od3.2) (g := (mkF m 21 #[.val (.ref x1), .val (.ref b1), .val (.int (3 : Int32)), .val (.int (2 : Int32)), .val (.ref g2)] [(.ref g2)])) rfl rfl (hb hby d_prog_35_method_6_21)
      have kn32 : ∀ t, own_S p e below T31 (mkF m 24 #[.val (.ref x1), .val (.ref b1), .val (.int (3 : Int32)), .val (.int (2 : Int32)), .val (.ref g2)] [(.ref y2)]) t → Gl t := fun t kt => kn30 t (st31 _ kt)
      have kn33 : ∀ t, own_S p e below T31 (mkF m 25 #[.val (.ref x1), .val (.ref b1), .val (.int (3 : Int32)), .val (.int (2 : Int32)), .val (.ref g2)] [(.ref x1), (.ref y2)]) t → Gl t := fun t kt => kn32 t (by
        show own_S p e below T31 (mkF m 24 #[.val (.ref x1), .val (.ref b1), .val (.int (3 : Int32)), .val (.int (2 : Int32)), .val (.ref g2)] [(.ref y2)]) _
        refine XS.aloadN X31.here hx rfl (hb hby d_prog_35_method_6_24) rfl rfl ?_
        exact kt)
      have hp_y2 : ∀ c ∈ ([(97 : Int32), (110 : Int32), (110 : Int32), (104 : Int32), (105 : Int32), (101 : Int32), (118 : Int32)] : List Int32), ¬ c < 0 ∧ ¬ (255 : Int32) < c := by decide
      have hcd_y2 : StrChars.Road.CodA ([(97 : Int32), (110 : Int32), (110 : Int32), (104 : Int32), (105 : Int32), (101 : Int32), (118 : Int32)] : List Int32) 0 (7 : Int32) ((([(97 : Int32), (110 : Int32), (110 : Int32), (104 : Int32), (105 : Int32), (101 : Int32), (118 : Int32)] : List Int32).map (fun c => c.toInt8.toInt32)).map Value.int) := StrChars.Road.codOf (n := 7) rfl (fun x hx => (hp_y2 x hx).2)
      have hbd_y2 : ∀ x ∈ ([(97 : Int32), (110 : Int32), (110 : Int32), (104 : Int32), (105 : Int32), (101 : Int32), (118 : Int32)] : List Int32), ¬ x < 0 ∧ ¬ (65535 : Int32) < x := own_up _ hp_y2
      obtain ⟨cq34, kq34, qa34, qb34, qc34⟩ := isOf hZ e31 (Ey2.ext Od3.2)
      obtain ⟨_, _, ⟨T34, L34, cc34, ss34⟩, -, X34, ⟨Lc34, hQ34, l34, y34, z34⟩, st34⟩ := X31.virtualBack hx (y := (⟨"java/lang/String", "equals", "(Ljava/lang/Object;)Z"⟩ : MethodName)) (z := (⟨"java/lang/String", "equals", "(Ljava/lang/Object;)Z"⟩ : MethodName)) hown (mvT hZ (hw _ (List.mem_of_getElem? (i := 73) rfl))) (mvT hZ (hw _ (List.mem_of_getElem? (i := 74) rfl))) (notFace_of_selects (args := #[]) (mvT hZ (hw _ (List.mem_of_getElem? (i := 76) rfl)))) (mvT hZ (hw _ (List.mem_of_getElem? (i := 76) rfl))) (mvT hZ (hw _ (List.mem_of_getElem? (i := 75) rfl))) (by decide) (StrChars.Road.eqW (W := 0) hZ heq (kI := 4) (hw _ (List.mem_of_getElem? (i := 2) rfl)) (Ey2.ext Od3.2) (Vy2.ext Od3.2) (Cy2.ext Od3.2) (Ky2.ext Od3.2) hcd_y2 hbd_y2 (Nat.le_of_ble_eq_true rfl) f15 f16 f17 f18 hcd hbd hlen (O2.ext Od3.2) P5 (by decide) (by decide)) qa34 qc34 (g := (mkF m 25 #[.val (.ref x1), .val (.ref b1), .val (.int (3 : Int32)), .val (.int (2 : Int32)), .val (.ref g2)] [(.ref x1), (.ref y2)])) rfl (by rw [hml]; rfl) (Steps.refl _) (argsL := [(.ref x1)]) (rest := []) (lenOf pd_4 rfl) rfl (by show 2 * 0 + _ ≤ _; exact Nat.le_of_eq rfl) (hb hby d_prog_35_method_6_25) (fun _ _ => ⟨rfl, e31, (by decide : 1 + 0 ≤ _), (by decide : 3 + 0 ≤ _)⟩)
      dsimp only [Pt.U, Pt.locs, Pt.cells, Pt.slots] at X34 l34 y34 z34 st34 hQ34
      subst l34 y34 z34
      have X34 : Stand p l e _ _ m _ below meth c T34 _ 1 3 := X34
      obtain ⟨hd34, rfl, eq34⟩ := hQ34
      have Nf34 := Fr.app Nf26 (Fr.nil n0)
      rcases hd34 with ⟨rfl, hq34⟩ | ⟨rfl, hq34⟩
      · have kn35 : ∀ t, own_S p e below T34 (mkF m 28 #[.val (.ref x1), .val (.ref b1), .val (.int (3 : Int32)), .val (.int (2 : Int32)), .val (.ref g2)] [(.int (1 : Int32))]) t → Gl t := fun t kt => kn33 t (st34.trans kt)
        have kn36 : ∀ t, own_S p e below T34 (mkF m 33 #[.val (.ref x1), .val (.ref b1), .val (.int (3 : Int32)), .val (.int (2 : Int32)), .val (.ref g2)] [(.ref g2)]) t → Gl t := fun t kt => kn35 t (by
          show own_S p e below T34 (mkF m 28 #[.val (.ref x1), .val (.ref b1), .val (.int (3 : Int32)), .val (.int (2 : Int32)), .val (.ref g2)] [(.int (1 : Int32))]) _
          refine XS.ifNo X34.here hx rfl (hb hby d_prog_35_method_6_28) rfl ((if0 _ _).trans (feq (by decide : ¬ ((1 : Int32) = (0 : Int32)))).1) ?_
          show own_S p e below T34 (mkF m 31 #[.val (.ref x1), .val (.ref b1), .val (.int (3 : Int32)), .val (.int (2 : Int32)), .val (.ref g2)] []) _
          refine XS.aload X34.here hx rfl (hb hby d_prog_35_method_6_31) rfl rfl ?_
          exact kt)
        obtain ⟨fs, hr, hrun, hended, hW, hsame⟩ := X34.leave (v := some (.ref g2)) (fun h => by rw [Bd.returns] at h; cases h)
        refine ⟨_, _, hGl _ (kn36 _ (by
            show own_S p e below T34 (mkF m 33 #[.val (.ref x1), .val (.ref b1), .val (.int (3 : Int32)), .val (.int (2 : Int32)), .val (.ref g2)] [(.ref g2)]) _
            jvm_step X34.here [X34.here.top, hx, (hb hby d_prog_35_method_6_33), X34.method', Bd.returns, Value.isRef, FieldType.isReference]
            first | (intro acts; rw [hr _ acts rfl rfl rfl]) | rw [hr _ _ rfl rfl rfl]
            exact Steps.refl _)), hrun, hended, _, _, rfl, ?_, ⟨_, rfl⟩, hW, hsame.mono (by decide) (by decide)⟩
        show QFind2 Z x1 t1 k1 cs N1 vs bV kV g0 y0 ty0 ky0 g1 y1 ty1 ky1 g2 y2 ty2 ky2 G1 h0 n0 _ T34.heap _
        rw [eq34]
        exact ⟨rfl, Nf34, K4⟩
      · exact absurd q2 hq34

theorem d_prog_35_method_6_40 : decode prog_35_method_6_code 40 = .ok (.aconst_null, 1) := by decide +kernel
theorem d_prog_35_method_6_41 : decode prog_35_method_6_code 41 = .ok (.areturn, 1) := by decide +kernel
theorem ef_rmFind3 (m : MethodId) (x0 : Addr) : entryFrame m #[(.ref x0)] 5 = mkF m 0 #[.val (.ref x0), .unset, .unset, .unset, .unset] [] := by first | (simp [entryFrame, mkF, argsToLocals, Value.category]; done) | rfl
def QFind3 (Z : State) (x1 : Addr) (t1 : Addr) (k1 : ClassId) (cs : List Int32) (N1 : Int32) (vs : List Value) (bV : Addr) (kV : ClassId) (g0 : Addr) (y0 : Addr) (ty0 : Addr) (ky0 : ClassId) (g1 : Addr) (y1 : Addr) (ty1 : Addr) (ky1 : ClassId) (g2 : Addr) (y2 : Addr) (ty2 : Addr) (ky2 : ClassId) (G1 : Int32) (h0 : Heap) (n0 : Nat) (v : Option Value) (h : Heap) (L : List Loc) : Prop := v = some .null ∧ Fr n0 L ∧ Keep h0 h []
set_option maxRecDepth 65536 in
set_option maxHeartbeats 40000000 in
theorem rmFind3 (l : Launch) (Z : State) (a0 : Array Value) (hw : ∀ d ∈ tables_1, d.before a0 Z = true) (ws : List Jvm.Cond) (x1 : Addr) (t1 : Addr) (k1 : ClassId) (cs : List Int32) (N1 : Int32) (vs : List Value) (bV : Addr) (kV : ClassId) (g0 : Addr) (y0 : Addr) (ty0 : Addr) (ky0 : ClassId) (g1 : Addr) (y1 : Addr) (ty1 : Addr) (ky1 : ClassId) (g2 : Addr) (y2 : Addr) (ty2 : Addr) (ky2 : ClassId) (G1 : Int32) (h0 : Heap) (n0 : Nat) (Z0 : n0 ≤ h0.size) (E_x1 : Exa Z h0 x1 "java/lang/String") (V_x1 : Fld Z h0 x1 "java/lang/String" "value" "[B" (.ref t1)) (C_x1 : Fld Z h0 x1 "java/lang/String" "coder" "B" (.int (0 : Int32))) (K_x1 : Arv Z h0 t1 k1 .byte N1 vs (.int (0 : Int32))) (hcd : StrChars.Road.CodA cs 0 N1 vs) (hbd : ∀ x ∈ cs, ¬ x < 0 ∧ ¬ (65535 : Int32) < x) (hlen : cs.length ≤ 4000) (O0 : Old Z n0 h0) (O2 : Sta Z Z.heap "java/lang/String" "COMPACT_STRINGS" "Z" (.int G1)) (P5 : ¬ (G1 = (0 : Int32))) (SV : Sta Z Z.heap "com/example/runs_to_scores/runstoscores/formats/Subtask" "$VALUES" "[Lcom/example/runs_to_scores/runstoscores/formats/Subtask;" (.ref bV)) (EV : Exa Z Z.heap bV "[Lcom/example/runs_to_scores/runstoscores/formats/Subtask;") (VV : Arv Z Z.heap bV kV (.object "com/example/runs_to_scores/runstoscores/formats/Subtask") (3 : Int32) [(.ref g0), (.ref g1), (.ref g2)] .null) (Fg0 : Fld Z Z.heap g0 "com/example/runs_to_scores/runstoscores/formats/Subtask" "label" "Ljava/lang/String;" (.ref y0)) (Ey0 : Exa Z Z.heap y0 "java/lang/String") (Vy0 : Fld Z Z.heap y0 "java/lang/String" "value" "[B" (.ref ty0)) (Cy0 : Fld Z Z.heap y0 "java/lang/String" "coder" "B" (.int (0 : Int32))) (Ky0 : Arv Z Z.heap ty0 ky0 .byte (6 : Int32) ((([(116 : Int32), (114 : Int32), (105 : Int32), (97 : Int32), (103 : Int32), (101 : Int32)] : List Int32).map (fun c => c.toInt8.toInt32)).map Value.int) (.int (0 : Int32))) (Fg1 : Fld Z Z.heap g1 "com/example/runs_to_scores/runstoscores/formats/Subtask" "label" "Ljava/lang/String;" (.ref y1)) (Ey1 : Exa Z Z.heap y1 "java/lang/String") (Vy1 : Fld Z Z.heap y1 "java/lang/String" "value" "[B" (.ref ty1)) (Cy1 : Fld Z Z.heap y1 "java/lang/String" "coder" "B" (.int (0 : Int32))) (Ky1 : Arv Z Z.heap ty1 ky1 .byte (5 : Int32) ((([(97 : Int32), (110 : Int32), (110 : Int32), (104 : Int32), (105 : Int32)] : List Int32).map (fun c => c.toInt8.toInt32)).map Value.int) (.int (0 : Int32))) (Fg2 : Fld Z Z.heap g2 "com/example/runs_to_scores/runstoscores/formats/Subtask" "label" "Ljava/lang/String;" (.ref y2)) (Ey2 : Exa Z Z.heap y2 "java/lang/String") (Vy2 : Fld Z Z.heap y2 "java/lang/String" "value" "[B" (.ref ty2)) (Cy2 : Fld Z Z.heap y2 "java/lang/String" "coder" "B" (.int (0 : Int32))) (Ky2 : Arv Z Z.heap ty2 ky2 .byte (7 : Int32) ((([(97 : Int32), (110 : Int32), (110 : Int32), (104 : Int32), (105 : Int32), (101 : Int32), (118 : Int32)] : List Int32).map (fun c => c.toInt8.toInt32)).map Value.int) (.int (0 : Int32))) (q0 : ¬ ([(116 : Int32), (114 : Int32), (105 : Int32), (97 : Int32), (103 : Int32), (101 : Int32)] : List Int32) = cs) (q1 : ¬ ([(97 : Int32), (110 : Int32), (110 : Int32), (104 : Int32), (105 : Int32)] : List Int32) = cs) (q2 : ¬ ([(97 : Int32), (110 : Int32), (110 : Int32), (104 : Int32), (105 : Int32), (101 : Int32), (118 : Int32)] : List Int32) = cs) :
    MetFree l (⟨"com/example/runs_to_scores/runstoscores/formats/Subtask", "labelled", "(Ljava/lang/String;)Lcom/example/runs_to_scores/runstoscores/formats/Subtask;"⟩ : MethodName) (head1 (Jvm.Cond.code (⟨"com/example/runs_to_scores/runstoscores/formats/Subtask", "labelled", "(Ljava/lang/String;)Lcom/example/runs_to_scores/runstoscores/formats/Subtask;"⟩ : MethodName) prog_35_method_6_code 5 (some (.object "com/example/runs_to_scores/runstoscores/formats/Subtask")) :: ws) ({ frames := 2, cells := 1, slots := 3, locals := 28 } : Room)) (fun a U => a = #[(.ref x1)] ∧ Z.Warmed39 U.vm ∧ U.heap = h0) (fun _ _ _ _ _ => True) (fun _ U o U' => ∃ v L, o = .returned v ∧ QFind3 Z x1 t1 k1 cs N1 vs bV kV g0 y0 ty0 ky0 g1 y1 ty1 ky1 g2 y2 ty2 ky2 G1 h0 n0 v U'.heap L ∧ FrameEnd U o U' L ({ frames := 2, cells := 1, slots := 3, locals := 28 } : Room).cells ({ frames := 2, cells := 1, slots := 3, locals := 28 } : Room).slots) := by
  refine MetFree.of_bodySF (plainFor_of_name pn_2) hisR ?_
  intro p e s m args below meth c s₁ Bd hml0 hP hK
  obtain ⟨rfl, hZ, hh⟩ := hP
  have hx := Bd.exec
  have hby := Bd.bytes
  have hml : c.maxLocals = 5 := hml0
  have hown : s.vm.findClass "com/example/runs_to_scores/runstoscores/formats/Subtask" = some m.cls := findClass_of_methodNamed Bd.named
  have hnm := (name_of_methodNamed Bd.named Bd.method).1
  have X0 : Stand p l e ({ frames := 2, cells := 1, slots := 3, locals := 28 } : Room) s m #[(.ref x1)] below meth c s₁ [] 0 0 := Stand.of_body Bd
  have e0 : s₁.heap = h0 := by rw [← hh, Bd.state]; rfl
  have Nf0 := Fr.nil n0
  obtain ⟨Gl, hGl, kn0⟩ : ∃ Gl : State → Prop, (∀ t, Gl t → Steps p.tables e below (s₁.setTop (entryFrame m #[(.ref x1)] 5)) t) ∧ ∀ t, own_S p e below s₁ (mkF m 0 #[.val (.ref x1), .unset, .unset, .unset, .unset] []) t → Gl t := ⟨fun t => Steps p.tables e below (s₁.setTop (entryFrame m #[(.ref x1)] 5)) t, fun _ k => k, fun t k => castTop (ef_rmFind3 m x1) k⟩
  obtain ⟨_, _, ⟨T1, L1, cc1, ss1⟩, -, X1, ⟨Lc1, hQ1, l1, y1, z1⟩, st1⟩ := Jvm.LawKit.callS X0 hx (y := (⟨"com/example/runs_to_scores/runstoscores/formats/Subtask", "values", "()[Lcom/example/runs_to_scores/runstoscores/formats/Subtask;"⟩ : MethodName)) hown (mvT hZ (hw _ (List.mem_of_getElem? (i := 53) rfl))) (mvT hZ (hw _ (List.mem_of_getElem? (i := 54) rfl))) (mvT hZ (hw _ (List.mem_of_getElem? (i := 51) rfl))) (mvT hZ (hw _ (List.mem_of_getElem? (i := 55) rfl))) (by decide) (backOf (W := 0) (rmVal l Z a0 hw []  bV kV g0 y0 ty0 ky0 g1 y1 ty1 ky1 g2 y2 ty2 ky2 h0 n0 Z0 O0 SV EV VV Fg0 Ey0 Vy0 Cy0 Ky0 Fg1 Ey1 Vy1 Cy1 Ky1 Fg2 Ey2 Vy2 Cy2 Ky2) hZ (hw _ (List.mem_of_getElem? (i := 55) rfl)) (hw _ (List.mem_of_getElem? (i := 51) rfl)) (by decide) (by decide)) (g := (mkF m 0 #[.val (.ref x1), .unset, .unset, .unset, .unset] [])) rfl (by rw [hml]; rfl) (argsL := []) (rest := []) (lenOf pd_3 rfl) rfl (by show 2 * 0 + _ ≤ _; exact Nat.le_of_eq rfl) (hb hby d_prog_35_method_6_0) (fun _ _ => ⟨rfl, e0, (by decide : 0 + 1 ≤ _), (by decide : 0 + 3 ≤ _)⟩)
  dsimp only [Pt.U, Pt.locs, Pt.cells, Pt.slots] at X1 l1 y1 z1 st1 hQ1
  subst l1 y1 z1
  have X1 : Stand p l e _ _ m _ below meth c T1 _ 1 3 := X1
  obtain ⟨b1, kk1, rfl, Nq1, g_b1, K1, V1⟩ := hQ1
  have Nf1 := Fr.app Nf0 Nq1
  have Z2 : n0 ≤ T1.heap.size := Nat.le_trans Z0 K1.1
  have Od3 : Old Z n0 T1.heap := O0.keep K1 all0
  have K4 : Keep h0 T1.heap [] := (Keep.refl h0 []).trans K1 (all0)
  have kn5 : ∀ t, own_S p e below T1 (mkF m 3 #[.val (.ref x1), .unset, .unset, .unset, .unset] [(.ref b1)]) t → Gl t := fun t kt => kn0 t (st1 _ kt)
  have kn6 : ∀ t, own_S p e below T1 (mkF m 5 #[.val (.ref x1), .val (.ref b1), .unset, .unset, .unset] [(.ref b1)]) t → Gl t := fun t kt => kn5 t (by
    show own_S p e below T1 (mkF m 3 #[.val (.ref x1), .unset, .unset, .unset, .unset] [(.ref b1)]) _
    refine XS.astoreN X1.here hx rfl (hb hby d_prog_35_method_6_3) rfl rfl (l' := #[.val (.ref x1), .val (.ref b1), .unset, .unset, .unset]) rfl ?_
    show own_S p e below T1 (mkF m 4 #[.val (.ref x1), .val (.ref b1), .unset, .unset, .unset] []) _
    refine XS.aloadN X1.here hx rfl (hb hby d_prog_35_method_6_4) rfl rfl ?_
    exact kt)
  obtain ⟨cl7, Ar7, -, Sz7, Ng7, -, -⟩ := id V1
  have kn8 : ∀ t, own_S p e below T1 (mkF m 16 #[.val (.ref x1), .val (.ref b1), .val (.int (3 : Int32)), .val (.int (0 : Int32)), .unset] [(.int (0 : Int32)), (.ref b1)]) t → Gl t := fun t kt => kn6 t (by
    show own_S p e below T1 (mkF m 5 #[.val (.ref x1), .val (.ref b1), .unset, .unset, .unset] [(.ref b1)]) _
    refine X1.arraylength hx Ar7.1 (State.isArrayOf_alike hZ.alike Ar7.2.1) (g := (mkF m 5 #[.val (.ref x1), .val (.ref b1), .unset, .unset, .unset] [(.ref b1)])) rfl rfl (hb hby d_prog_35_method_6_5) _ ?_
    rw [len_of Sz7 Ng7]
    show own_S p e below T1 (mkF m 6 #[.val (.ref x1), .val (.ref b1), .unset, .unset, .unset] [(.int (3 : Int32))]) _
    refine XS.istoreN X1.here hx rfl (hb hby d_prog_35_method_6_6) rfl (l' := #[.val (.ref x1), .val (.ref b1), .val (.int (3 : Int32)), .unset, .unset]) rfl ?_
    show own_S p e below T1 (mkF m 7 #[.val (.ref x1), .val (.ref b1), .val (.int (3 : Int32)), .unset, .unset] []) _
    refine XS.iconst X1.here hx rfl (hb hby d_prog_35_method_6_7) ?_
    show own_S p e below T1 (mkF m 8 #[.val (.ref x1), .val (.ref b1), .val (.int (3 : Int32)), .unset, .unset] [(.int (0 : Int32))]) _
    refine XS.istoreN X1.here hx rfl (hb hby d_prog_35_method_6_8) rfl (l' := #[.val (.ref x1), .val (.ref b1), .val (.int (3 : Int32)), .val (.int (0 : Int32)), .unset]) rfl ?_
    show own_S p e below T1 (mkF m 9 #[.val (.ref x1), .val (.ref b1), .val (.int (3 : Int32)), .val (.int (0 : Int32)), .unset] []) _
    refine XS.iloadN X1.here hx rfl (hb hby d_prog_35_method_6_9) rfl ?_
    show own_S p e below T1 (mkF m 10 #[.val (.ref x1), .val (.ref b1), .val (.int (3 : Int32)), .val (.int (0 : Int32)), .unset] [(.int (0 : Int32))]) _
    refine XS.iloadN X1.here hx rfl (hb hby d_prog_35_method_6_10) rfl ?_
    show own_S p e below T1 (mkF m 11 #[.val (.ref x1), .val (.ref b1), .val (.int (3 : Int32)), .val (.int (0 : Int32)), .unset] [(.int (3 : Int32)), (.int (0 : Int32))]) _
    refine XS.icmpNo X1.here hx rfl (hb hby d_prog_35_method_6_11) rfl (tlt (by decide : (0 : Int32) < (3 : Int32))).2.1 ?_
    show own_S p e below T1 (mkF m 14 #[.val (.ref x1), .val (.ref b1), .val (.int (3 : Int32)), .val (.int (0 : Int32)), .unset] []) _
    refine XS.aloadN X1.here hx rfl (hb hby d_prog_35_method_6_14) rfl rfl ?_
    show own_S p e below T1 (mkF m 15 #[.val (.ref x1), .val (.ref b1), .val (.int (3 : Int32)), .val (.int (0 : Int32)), .unset] [(.ref b1)]) _
    refine XS.iloadN X1.here hx rfl (hb hby d_prog_35_method_6_15) rfl ?_
    exact kt)
  obtain ⟨cl9, Ar9, q9, Sz9, Ng9, Hs9, Gs9⟩ := id V1
  have hin9 : ¬ ((0 : Int32) < 0 ∨ cl9.slots.size ≤ ((0 : Int32)).toNatClampNeg) := inb_of Sz9 ⟨by decide, by decide⟩
  have hat9 : cl9.slots[((0 : Int32)).toNatClampNeg]? = some (.ref g0) := Hs9.at hin9 rfl
  have kn10 : ∀ t, own_S p e below T1 (mkF m 21 #[.val (.ref x1), .val (.ref b1), .val (.int (3 : Int32)), .val (.int (0 : Int32)), .val (.ref g0)] [(.ref g0)]) t → Gl t := fun t kt => kn8 t (by
    show own_S p e below T1 (mkF m 16 #[.val (.ref x1), .val (.ref b1), .val (.int (3 : Int32)), .val (.int (0 : Int32)), .unset] [(.int (0 : Int32)), (.ref b1)]) _
    refine X1.aaload hx (j := (0 : Int32)) (v := (.ref g0)) Ar9.1 (State.isArrayOf_alike hZ.alike Ar9.2.1) rfl Ar9.2.2 hin9 hat9 (g := (mkF m 16 #[.val (.ref x1), .val (.ref b1), .val (.int (3 : Int32)), .val (.int (0 : Int32)), .unset] [(.int (0 : Int32)), (.ref b1)])) rfl rfl (hb hby d_prog_35_method_6_16) _ ?_
    show own_S p e below T1 (mkF m 17 #[.val (.ref x1), .val (.ref b1), .val (.int (3 : Int32)), .val (.int (0 : Int32)), .unset] [(.ref g0)]) _
    refine XS.astore X1.here hx rfl (hb hby d_prog_35_method_6_17) rfl rfl (l' := #[.val (.ref x1), .val (.ref b1), .val (.int (3 : Int32)), .val (.int (0 : Int32)), .val (.ref g0)]) rfl ?_
    show own_S p e below T1 (mkF m 19 #[.val (.ref x1), .val (.ref b1), .val (.int (3 : Int32)), .val (.int (0 : Int32)), .val (.ref g0)] []) _
    refine XS.aload X1.here hx rfl (hb hby d_prog_35_method_6_19) rfl rfl ?_
    exact kt)
  obtain ⟨T11, X11, e11, st11⟩ := getF X1 hx hZ hown (host := "") (Or.inl (hw _ (List.mem_of_getElem? (i := 71) rfl))) Via.refl rfl (Fg0.ext Od3.2) (g := (mkF m 21 #[.val (.ref x1), .val (.ref b1), .val (.int (3 : Int32)), .val (.int (0 : Int32)), .val (.ref g0)] [(.ref g0)])) rfl rfl (hb hby d_prog_35_method_6_21)
  have kn12 : ∀ t, own_S p e below T11 (mkF m 24 #[.val (.ref x1), .val (.ref b1), .val (.int (3 : Int32)), .val (.int (0 : Int32)), .val (.ref g0)] [(.ref y0)]) t → Gl t := fun t kt => kn10 t (st11 _ kt)
  have kn13 : ∀ t, own_S p e below T11 (mkF m 25 #[.val (.ref x1), .val (.ref b1), .val (.int (3 : Int32)), .val (.int (0 : Int32)), .val (.ref g0)] [(.ref x1), (.ref y0)]) t → Gl t := fun t kt => kn12 t (by
    show own_S p e below T11 (mkF m 24 #[.val (.ref x1), .val (.ref b1), .val (.int (3 : Int32)), .val (.int (0 : Int32)), .val (.ref g0)] [(.ref y0)]) _
    refine XS.aloadN X11.here hx rfl (hb hby d_prog_35_method_6_24) rfl rfl ?_
    exact kt)
  have heq : ∀ d ∈ StrChars.Road.wordsEq, d.before a0 Z = true := fun d hd => hw d ((by decide +kernel : ∀ d ∈ StrChars.Road.wordsEq, d ∈ tables_1) d hd)
  have hp_y0 : ∀ c ∈ ([(116 : Int32), (114 : Int32), (105 : Int32), (97 : Int32), (103 : Int32), (101 : Int32)] : List Int32), ¬ c < 0 ∧ ¬ (255 : Int32) < c := by decide
  have hcd_y0 : StrChars.Road.CodA ([(116 : Int32), (114 : Int32), (105 : Int32), (97 : Int32), (103 : Int32), (101 : Int32)] : List Int32) 0 (6 : Int32) ((([(116 : Int32), (114 : Int32), (105 : Int32), (97 : Int32), (103 : Int32), (101 : Int32)] : List Int32).map (fun c => c.toInt8.toInt32)).map Value.int) := StrChars.Road.codOf (n := 6) rfl (fun x hx => (hp_y0 x hx).2)
  have hbd_y0 : ∀ x ∈ ([(116 : Int32), (114 : Int32), (105 : Int32), (97 : Int32), (103 : Int32), (101 : Int32)] : List Int32), ¬ x < 0 ∧ ¬ (65535 : Int32) < x := own_up _ hp_y0
  have f15 := (E_x1.keep K1)
  have f16 := (V_x1.keep K1 nin0)
  have f17 := (C_x1.keep K1 nin0)
  have f18 := (K_x1.keep K1 nin0)
  obtain ⟨cq14, kq14, qa14, qb14, qc14⟩ := isOf hZ e11 (Ey0.ext Od3.2)
  obtain ⟨_, _, ⟨T14, L14, cc14, ss14⟩, -, X14, ⟨Lc14, hQ14, l14, y14, z14⟩, st14⟩ := X11.virtualBack hx (y := (⟨"java/lang/String", "equals", "(Ljava/lang/Object;)Z"⟩ : MethodName)) (z := (⟨"java/lang/String", "equals", "(Ljava/lang/Object;)Z"⟩ : MethodName)) hown (mvT hZ (hw _ (List.mem_of_getElem? (i := 73) rfl))) (mvT hZ (hw _ (List.mem_of_getElem? (i := 74) rfl))) (notFace_of_selects (args := #[]) (mvT hZ (hw _ (List.mem_of_getElem? (i := 76) rfl)))) (mvT hZ (hw _ (List.mem_of_getElem? (i := 76) rfl))) (mvT hZ (hw _ (List.mem_of_getElem? (i := 75) rfl))) (by decide) (StrChars.Road.eqW (W := 0) hZ heq (kI := 4) (hw _ (List.mem_of_getElem? (i := 2) rfl)) (Ey0.ext Od3.2) (Vy0.ext Od3.2) (Cy0.ext Od3.2) (Ky0.ext Od3.2) hcd_y0 hbd_y0 (Nat.le_of_ble_eq_true rfl) f15 f16 f17 f18 hcd hbd hlen (O2.ext Od3.2) P5 (by decide) (by decide)) qa14 qc14 (g := (mkF m 25 #[.val (.ref x1), .val (.ref b1), .val (.int (3 : Int32)), .val (.int (0 : Int32)), .val (.ref g0)] [(.ref x1), (.ref y0)])) rfl (by rw [hml]; rfl) (Steps.refl _) (argsL := [(.ref x1)]) (rest := []) (lenOf pd_4 rfl) rfl (by show 2 * 0 + _ ≤ _; exact Nat.le_of_eq rfl) (hb hby d_prog_35_method_6_25) (fun _ _ => ⟨rfl, e11, (by decide : 1 + 0 ≤ _), (by decide : 3 + 0 ≤ _)⟩)
  dsimp only [Pt.U, Pt.locs, Pt.cells, Pt.slots] at X14 l14 y14 z14 st14 hQ14
  subst l14 y14 z14
  have X14 : Stand p l e _ _ m _ below meth c T14 _ 1 3 := X14
  obtain ⟨hd14, rfl, eq14⟩ := hQ14
  have Nf14 := Fr.app Nf1 (Fr.nil n0)
  rcases hd14 with ⟨rfl, hq14⟩ | ⟨rfl, hq14⟩
  · exact absurd hq14 q0
  · have kn19 : ∀ t, own_S p e below T14 (mkF m 28 #[.val (.ref x1), .val (.ref b1), .val (.int (3 : Int32)), .val (.int (0 : Int32)), .val (.ref g0)] [(.int (0 : Int32))]) t → Gl t := fun t kt => kn13 t (st14.trans kt)
    have kn20 : ∀ t, own_S p e below T14 (mkF m 16 #[.val (.ref x1), .val (.ref b1), .val (.int (3 : Int32)), .val (.int (1 : Int32)), .val (.ref g0)] [(.int (1 : Int32)), (.ref b1)]) t → Gl t := fun t kt => kn19 t (by
      show own_S p e below T14 (mkF m 28 #[.val (.ref x1), .val (.ref b1), .val (.int (3 : Int32)), .val (.int (0 : Int32)), .val (.ref g0)] [(.int (0 : Int32))]) _
      refine XS.ifYes X14.here hx rfl (pc0 := 28) (pc' := 34) rfl (hb hby d_prog_35_method_6_28) rfl ((if0 _ _).trans (teq (by decide : (0 : Int32) = (0 : Int32))).1) (by decide) (by decide) ?_
      show own_S p e below T14 (mkF m 34 #[.val (.ref x1), .val (.ref b1), .val (.int (3 : Int32)), .val (.int (0 : Int32)), .val (.ref g0)] []) _
      refine XS.iinc X14.here hx rfl (hb hby d_prog_35_method_6_34) rfl (l' := #[.val (.ref x1), .val (.ref b1), .val (.int (3 : Int32)), .val (.int ((0 : Int32) + (1 : Int32))), .val (.ref g0)]) rfl ?_
      rw [(by decide : ((0 : Int32) + (1 : Int32)) = (1 : Int32))]
      show own_S p e below T14 (mkF m 37 #[.val (.ref x1), .val (.ref b1), .val (.int (3 : Int32)), .val (.int (1 : Int32)), .val (.ref g0)] []) _
      refine XS.goto X14.here hx rfl (pc0 := 37) (pc' := 9) rfl (hb hby d_prog_35_method_6_37) (by decide) (by decide) ?_
      show own_S p e below T14 (mkF m 9 #[.val (.ref x1), .val (.ref b1), .val (.int (3 : Int32)), .val (.int (1 : Int32)), .val (.ref g0)] []) _
      refine XS.iloadN X14.here hx rfl (hb hby d_prog_35_method_6_9) rfl ?_
      show own_S p e below T14 (mkF m 10 #[.val (.ref x1), .val (.ref b1), .val (.int (3 : Int32)), .val (.int (1 : Int32)), .val (.ref g0)] [(.int (1 : Int32))]) _
      refine XS.iloadN X14.here hx rfl (hb hby d_prog_35_method_6_10) rfl ?_
      show own_S p e below T14 (mkF m 11 #[.val (.ref x1), .val (.ref b1), .val (.int (3 : Int32)), .val (.int (1 : Int32)), .val (.ref g0)] [(.int (3 : Int32)), (.int (1 : Int32))]) _
      refine XS.icmpNo X14.here hx rfl (hb hby d_prog_35_method_6_11) rfl (tlt (by decide : (1 : Int32) < (3 : Int32))).2.1 ?_
      show own_S p e below T14 (mkF m 14 #[.val (.ref x1), .val (.ref b1), .val (.int (3 : Int32)), .val (.int (1 : Int32)), .val (.ref g0)] []) _
      refine XS.aloadN X14.here hx rfl (hb hby d_prog_35_method_6_14) rfl rfl ?_
      show own_S p e below T14 (mkF m 15 #[.val (.ref x1), .val (.ref b1), .val (.int (3 : Int32)), .val (.int (1 : Int32)), .val (.ref g0)] [(.ref b1)]) _
      refine XS.iloadN X14.here hx rfl (hb hby d_prog_35_method_6_15) rfl ?_
      exact kt)
    obtain ⟨cl21, Ar21, q21, Sz21, Ng21, Hs21, Gs21⟩ := id V1
    have hin21 : ¬ ((1 : Int32) < 0 ∨ cl21.slots.size ≤ ((1 : Int32)).toNatClampNeg) := inb_of Sz21 ⟨by decide, by decide⟩
    have hat21 : cl21.slots[((1 : Int32)).toNatClampNeg]? = some (.ref g1) := Hs21.at hin21 rfl
    have kn22 : ∀ t, own_S p e below T14 (mkF m 21 #[.val (.ref x1), .val (.ref b1), .val (.int (3 : Int32)), .val (.int (1 : Int32)), .val (.ref g1)] [(.ref g1)]) t → Gl t := fun t kt => kn20 t (by
      show own_S p e below T14 (mkF m 16 #[.val (.ref x1), .val (.ref b1), .val (.int (3 : Int32)), .val (.int (1 : Int32)), .val (.ref g0)] [(.int (1 : Int32)), (.ref b1)]) _
      refine X14.aaload hx (j := (1 : Int32)) (v := (.ref g1)) (by rw [eq14]; exact Ar21.1) (State.isArrayOf_alike hZ.alike Ar21.2.1) rfl Ar21.2.2 hin21 hat21 (g := (mkF m 16 #[.val (.ref x1), .val (.ref b1), .val (.int (3 : Int32)), .val (.int (1 : Int32)), .val (.ref g0)] [(.int (1 : Int32)), (.ref b1)])) rfl rfl (hb hby d_prog_35_method_6_16) _ ?_
      show own_S p e below T14 (mkF m 17 #[.val (.ref x1), .val (.ref b1), .val (.int (3 : Int32)), .val (.int (1 : Int32)), .val (.ref g0)] [(.ref g1)]) _
      refine XS.astore X14.here hx rfl (hb hby d_prog_35_method_6_17) rfl rfl (l' := #[.val (.ref x1), .val (.ref b1), .val (.int (3 : Int32)), .val (.int (1 : Int32)), .val (.ref g1)]) rfl ?_
      show own_S p e below T14 (mkF m 19 #[.val (.ref x1), .val (.ref b1), .val (.int (3 : Int32)), .val (.int (1 : Int32)), .val (.ref g1)] []) _
      refine XS.aload X14.here hx rfl (hb hby d_prog_35_method_6_19) rfl rfl ?_
      exact kt)
    obtain ⟨T23, X23, e23, st23⟩ := getF X14 hx hZ hown (host := "") (Or.inl (hw _ (List.mem_of_getElem? (i := 71) rfl))) Via.refl eq14 (Fg1.ext Od3.2) (g := (mkF m 21 #[.val (.ref x1), .val (.ref b1), .val (.int (3 : Int32)), .val (.int (1 : Int32)), .val (.ref g1)] [(.ref g1)])) rfl rfl (hb hby d_prog_35_method_6_21)
    have kn24 : ∀ t, own_S p e below T23 (mkF m 24 #[.val (.ref x1), .val (.ref b1), .val (.int (3 : Int32)), .val (.int (1 : Int32)), .val (.ref g1)] [(.ref y1)]) t → Gl t := fun t kt => kn22 t (st23 _ kt)
    have kn25 : ∀ t, own_S p e below T23 (mkF m 25 #[.val (.ref x1), .val (.ref b1), .val (.int (3 : Int32)), .val (.int (1 : Int32)), .val (.ref g1)] [(.ref x1), (.ref y1)]) t → Gl t := fun t kt => kn24 t (by
      show own_S p e below T23 (mkF m 24 #[.val (.ref x1), .val (.ref b1), .val (.int (3 : Int32)), .val (.int (1 : Int32)), .val (.ref g1)] [(.ref y1)]) _
      refine XS.aloadN X23.here hx rfl (hb hby d_prog_35_method_6_24) rfl rfl ?_
      exact kt)
    have hp_y1 : ∀ c ∈ ([(97 : Int32), (110 : Int32), (110 : Int32), (104 : Int32), (105 : Int32)] : List Int32), ¬ c < 0 ∧ ¬ (255 : Int32) < c := by decide
    have hcd_y1 : StrChars.Road.CodA ([(97 : Int32), (110 : Int32), (110 : Int32), (104 : Int32), (105 : Int32)] : List Int32) 0 (5 : Int32) ((([(97 : Int32), (110 : Int32), (110 : Int32), (104 : Int32), (105 : Int32)] : List Int32).map (fun c => c.toInt8.toInt32)).map Value.int) := StrChars.Road.codOf (n := 5) rfl (fun x hx => (hp_y1 x hx).2)
    have hbd_y1 : ∀ x ∈ ([(97 : Int32), (110 : Int32), (110 : Int32), (104 : Int32), (105 : Int32)] : List Int32), ¬ x < 0 ∧ ¬ (65535 : Int32) < x := own_up _ hp_y1
    obtain ⟨cq26, kq26, qa26, qb26, qc26⟩ := isOf hZ e23 (Ey1.ext Od3.2)
    obtain ⟨_, _, ⟨T26, L26, cc26, ss26⟩, -, X26, ⟨Lc26, hQ26, l26, y26, z26⟩, st26⟩ := X23.virtualBack hx (y := (⟨"java/lang/String", "equals", "(Ljava/lang/Object;)Z"⟩ : MethodName)) (z := (⟨"java/lang/String", "equals", "(Ljava/lang/Object;)Z"⟩ : MethodName)) hown (mvT hZ (hw _ (List.mem_of_getElem? (i := 73) rfl))) (mvT hZ (hw _ (List.mem_of_getElem? (i := 74) rfl))) (notFace_of_selects (args := #[]) (mvT hZ (hw _ (List.mem_of_getElem? (i := 76) rfl)))) (mvT hZ (hw _ (List.mem_of_getElem? (i := 76) rfl))) (mvT hZ (hw _ (List.mem_of_getElem? (i := 75) rfl))) (by decide) (StrChars.Road.eqW (W := 0) hZ heq (kI := 4) (hw _ (List.mem_of_getElem? (i := 2) rfl)) (Ey1.ext Od3.2) (Vy1.ext Od3.2) (Cy1.ext Od3.2) (Ky1.ext Od3.2) hcd_y1 hbd_y1 (Nat.le_of_ble_eq_true rfl) f15 f16 f17 f18 hcd hbd hlen (O2.ext Od3.2) P5 (by decide) (by decide)) qa26 qc26 (g := (mkF m 25 #[.val (.ref x1), .val (.ref b1), .val (.int (3 : Int32)), .val (.int (1 : Int32)), .val (.ref g1)] [(.ref x1), (.ref y1)])) rfl (by rw [hml]; rfl) (Steps.refl _) (argsL := [(.ref x1)]) (rest := []) (lenOf pd_4 rfl) rfl (by show 2 * 0 + _ ≤ _; exact Nat.le_of_eq rfl) (hb hby d_prog_35_method_6_25) (fun _ _ => ⟨rfl, e23, (by decide : 1 + 0 ≤ _), (by decide : 3 + 0 ≤ _)⟩)
    dsimp only [Pt.U, Pt.locs, Pt.cells, Pt.slots] at X26 l26 y26 z26 st26 hQ26
    subst l26 y26 z26
    have X26 : Stand p l e _ _ m _ below meth c T26 _ 1 3 := X26
    obtain ⟨hd26, rfl, eq26⟩ := hQ26
    have Nf26 := Fr.app Nf14 (Fr.nil n0)
    rcases hd26 with ⟨rfl, hq26⟩ | ⟨rfl, hq26⟩
    · exact absurd hq26 q1
    · have kn27 : ∀ t, own_S p e below T26 (mkF m 28 #[.val (.ref x1), .val (.ref b1), .val (.int (3 : Int32)), .val (.int (1 : Int32)), .val (.ref g1)] [(.int (0 : Int32))]) t → Gl t := fun t kt => kn25 t (st26.trans kt)
      have kn28 : ∀ t, own_S p e below T26 (mkF m 16 #[.val (.ref x1), .val (.ref b1), .val (.int (3 : Int32)), .val (.int (2 : Int32)), .val (.ref g1)] [(.int (2 : Int32)), (.ref b1)]) t → Gl t := fun t kt => kn27 t (by
        show own_S p e below T26 (mkF m 28 #[.val (.ref x1), .val (.ref b1), .val (.int (3 : Int32)), .val (.int (1 : Int32)), .val (.ref g1)] [(.int (0 : Int32))]) _
        refine XS.ifYes X26.here hx rfl (pc0 := 28) (pc' := 34) rfl (hb hby d_prog_35_method_6_28) rfl ((if0 _ _).trans (teq (by decide : (0 : Int32) = (0 : Int32))).1) (by decide) (by decide) ?_
        show own_S p e below T26 (mkF m 34 #[.val (.ref x1), .val (.ref b1), .val (.int (3 : Int32)), .val (.int (1 : Int32)), .val (.ref g1)] []) _
        refine XS.iinc X26.here hx rfl (hb hby d_prog_35_method_6_34) rfl (l' := #[.val (.ref x1), .val (.ref b1), .val (.int (3 : Int32)), .val (.int ((1 : Int32) + (1 : Int32))), .val (.ref g1)]) rfl ?_
        rw [(by decide : ((1 : Int32) + (1 : Int32)) = (2 : Int32))]
        show own_S p e below T26 (mkF m 37 #[.val (.ref x1), .val (.ref b1), .val (.int (3 : Int32)), .val (.int (2 : Int32)), .val (.ref g1)] []) _
        refine XS.goto X26.here hx rfl (pc0 := 37) (pc' := 9) rfl (hb hby d_prog_35_method_6_37) (by decide) (by decide) ?_
        show own_S p e below T26 (mkF m 9 #[.val (.ref x1), .val (.ref b1), .val (.int (3 : Int32)), .val (.int (2 : Int32)), .val (.ref g1)] []) _
        refine XS.iloadN X26.here hx rfl (hb hby d_prog_35_method_6_9) rfl ?_
        show own_S p e below T26 (mkF m 10 #[.val (.ref x1), .val (.ref b1), .val (.int (3 : Int32)), .val (.int (2 : Int32)), .val (.ref g1)] [(.int (2 : Int32))]) _
        refine XS.iloadN X26.here hx rfl (hb hby d_prog_35_method_6_10) rfl ?_
        show own_S p e below T26 (mkF m 11 #[.val (.ref x1), .val (.ref b1), .val (.int (3 : Int32)), .val (.int (2 : Int32)), .val (.ref g1)] [(.int (3 : Int32)), (.int (2 : Int32))]) _
        refine XS.icmpNo X26.here hx rfl (hb hby d_prog_35_method_6_11) rfl (tlt (by decide : (2 : Int32) < (3 : Int32))).2.1 ?_
        show own_S p e below T26 (mkF m 14 #[.val (.ref x1), .val (.ref b1), .val (.int (3 : Int32)), .val (.int (2 : Int32)), .val (.ref g1)] []) _
        refine XS.aloadN X26.here hx rfl (hb hby d_prog_35_method_6_14) rfl rfl ?_
        show own_S p e below T26 (mkF m 15 #[.val (.ref x1), .val (.ref b1), .val (.int (3 : Int32)), .val (.int (2 : Int32)), .val (.ref g1)] [(.ref b1)]) _
        refine XS.iloadN X26.here hx rfl (hb hby d_prog_35_method_6_15) rfl ?_
        exact kt)
      obtain ⟨cl29, Ar29, q29, Sz29, Ng29, Hs29, Gs29⟩ := id V1
      have hin29 : ¬ ((2 : Int32) < 0 ∨ cl29.slots.size ≤ ((2 : Int32)).toNatClampNeg) := inb_of Sz29 ⟨by decide, by decide⟩
      have hat29 : cl29.slots[((2 : Int32)).toNatClampNeg]? = some (.ref g2) := Hs29.at hin29 rfl
      have kn30 : ∀ t, own_S p e below T26 (mkF m 21 #[.val (.ref x1), .val (.ref b1), .val (.int (3 : Int32)), .val (.int (2 : Int32)), .val (.ref g2)] [(.ref g2)]) t → Gl t := fun t kt => kn28 t (by
        show own_S p e below T26 (mkF m 16 #[.val (.ref x1), .val (.ref b1), .val (.int (3 : Int32)), .val (.int (2 : Int32)), .val (.ref g1)] [(.int (2 : Int32)), (.ref b1)]) _
        refine X26.aaload hx (j := (2 : Int32)) (v := (.ref g2)) (by rw [eq26]; exact Ar29.1) (State.isArrayOf_alike hZ.alike Ar29.2.1) rfl Ar29.2.2 hin29 hat29 (g := (mkF m 16 #[.val (.ref x1), .val (.ref b1), .val (.int (3 : Int32)), .val (.int (2 : Int32)), .val (.ref g1)] [(.int (2 : Int32)), (.ref b1)])) rfl rfl (hb hby d_prog_35_method_6_16) _ ?_
        show own_S p e below T26 (mkF m 17 #[.val (.ref x1), .val (.ref b1), .val (.int (3 : Int32)), .val (.int (2 : Int32)), .val (.ref g1)] [(.ref g2)]) _
        refine XS.astore X26.here hx rfl (hb hby d_prog_35_method_6_17) rfl rfl (l' := #[.val (.ref x1), .val (.ref b1), .val (.int (3 : Int32)), .val (.int (2 : Int32)), .val (.ref g2)]) rfl ?_
        show own_S p e below T26 (mkF m 19 #[.val (.ref x1), .val (.ref b1), .val (.int (3 : Int32)), .val (.int (2 : Int32)), .val (.ref g2)] []) _
        refine XS.aload X26.here hx rfl (hb hby d_prog_35_method_6_19) rfl rfl ?_
        exact kt)
      obtain ⟨T31, X31, e31, st31⟩ := getF X26 hx hZ hown (host := "") (Or.inl (hw _ (List.mem_of_getElem? (i := 71) rfl))) Via.refl eq26 (Fg2.ext Od3.2) (g := (mkF m 21 #[.val (.ref x1), .val (.ref b1), .val (.int (3 : Int32)), .val (.int (2 : Int32)), .val (.ref g2)] [(.ref g2)])) rfl rfl (hb hby d_prog_35_method_6_21)
      have kn32 : ∀ t, own_S p e below T31 (mkF m 24 #[.val (.ref x1), .val (.ref b1), .val (.int (3 : Int32)), .val (.int (2 : Int32)), .val (.ref g2)] [(.ref y2)]) t → Gl t := fun t kt => kn30 t (st31 _ kt)
      have kn33 : ∀ t, own_S p e below T31 (mkF m 25 #[.val (.ref x1), .val (.ref b1), .val (.int (3 : Int32)), .val (.int (2 : Int32)), .val (.ref g2)] [(.ref x1), (.ref y2)]) t → Gl t := fun t kt => kn32 t (by
        show own_S p e below T31 (mkF m 24 #[.val (.ref x1), .val (.ref b1), .val (.int (3 : Int32)), .val (.int (2 : Int32)), .val (.ref g2)] [(.ref y2)]) _
        refine XS.aloadN X31.here hx rfl (hb hby d_prog_35_method_6_24) rfl rfl ?_
        exact kt)
      have hp_y2 : ∀ c ∈ ([(97 : Int32), (110 : Int32), (110 : Int32), (104 : Int32), (105 : Int32), (101 : Int32), (118 : Int32)] : List Int32), ¬ c < 0 ∧ ¬ (255 : Int32) < c := by decide
      have hcd_y2 : StrChars.Road.CodA ([(97 : Int32), (110 : Int32), (110 : Int32), (104 : Int32), (105 : Int32), (101 : Int32), (118 : Int32)] : List Int32) 0 (7 : Int32) ((([(97 : Int32), (110 : Int32), (110 : Int32), (104 : Int32), (105 : Int32), (101 : Int32), (118 : Int32)] : List Int32).map (fun c => c.toInt8.toInt32)).map Value.int) := StrChars.Road.codOf (n := 7) rfl (fun x hx => (hp_y2 x hx).2)
      have hbd_y2 : ∀ x ∈ ([(97 : Int32), (110 : Int32), (110 : Int32), (104 : Int32), (105 : Int32), (101 : Int32), (118 : Int32)] : List Int32), ¬ x < 0 ∧ ¬ (65535 : Int32) < x := own_up _ hp_y2
      obtain ⟨cq34, kq34, qa34, qb34, qc34⟩ := isOf hZ e31 (Ey2.ext Od3.2)
      obtain ⟨_, _, ⟨T34, L34, cc34, ss34⟩, -, X34, ⟨Lc34, hQ34, l34, y34, z34⟩, st34⟩ := X31.virtualBack hx (y := (⟨"java/lang/String", "equals", "(Ljava/lang/Object;)Z"⟩ : MethodName)) (z := (⟨"java/lang/String", "equals", "(Ljava/lang/Object;)Z"⟩ : MethodName)) hown (mvT hZ (hw _ (List.mem_of_getElem? (i := 73) rfl))) (mvT hZ (hw _ (List.mem_of_getElem? (i := 74) rfl))) (notFace_of_selects (args := #[]) (mvT hZ (hw _ (List.mem_of_getElem? (i := 76) rfl)))) (mvT hZ (hw _ (List.mem_of_getElem? (i := 76) rfl))) (mvT hZ (hw _ (List.mem_of_getElem? (i := 75) rfl))) (by decide) (StrChars.Road.eqW (W := 0) hZ heq (kI := 4) (hw _ (List.mem_of_getElem? (i := 2) rfl)) (Ey2.ext Od3.2) (Vy2.ext Od3.2) (Cy2.ext Od3.2) (Ky2.ext Od3.2) hcd_y2 hbd_y2 (Nat.le_of_ble_eq_true rfl) f15 f16 f17 f18 hcd hbd hlen (O2.ext Od3.2) P5 (by decide) (by decide)) qa34 qc34 (g := (mkF m 25 #[.val (.ref x1), .val (.ref b1), .val (.int (3 : Int32)), .val (.int (2 : Int32)), .val (.ref g2)] [(.ref x1), (.ref y2)])) rfl (by rw [hml]; rfl) (Steps.refl _) (argsL := [(.ref x1)]) (rest := []) (lenOf pd_4 rfl) rfl (by show 2 * 0 + _ ≤ _; exact Nat.le_of_eq rfl) (hb hby d_prog_35_method_6_25) (fun _ _ => ⟨rfl, e31, (by decide : 1 + 0 ≤ _), (by decide : 3 + 0 ≤ _)⟩)
      dsimp only [Pt.U, Pt.locs, Pt.cells, Pt.slots] at X34 l34 y34 z34 st34 hQ34
      subst l34 y34 z34
      have X34 : Stand p l e _ _ m _ below meth c T34 _ 1 3 := X34
      obtain ⟨hd34, rfl, eq34⟩ := hQ34
      have Nf34 := Fr.app Nf26 (Fr.nil n0)
      rcases hd34 with ⟨rfl, hq34⟩ | ⟨rfl, hq34⟩
      · exact absurd hq34 q2
      · have kn35 : ∀ t, own_S p e below T34 (mkF m 28 #[.val (.ref x1), .val (.ref b1), .val (.int (3 : Int32)), .val (.int (2 : Int32)), .val (.ref g2)] [(.int (0 : Int32))]) t → Gl t := fun t kt => kn33 t (st34.trans kt)
        have kn36 : ∀ t, own_S p e below T34 (mkF m 41 #[.val (.ref x1), .val (.ref b1), .val (.int (3 : Int32)), .val (.int (3 : Int32)), .val (.ref g2)] [.null]) t → Gl t := fun t kt => kn35 t (by
          show own_S p e below T34 (mkF m 28 #[.val (.ref x1), .val (.ref b1), .val (.int (3 : Int32)), .val (.int (2 : Int32)), .val (.ref g2)] [(.int (0 : Int32))]) _
          refine XS.ifYes X34.here hx rfl (pc0 := 28) (pc' := 34) rfl (hb hby d_prog_35_method_6_28) rfl ((if0 _ _).trans (teq (by decide : (0 : Int32) = (0 : Int32))).1) (by decide) (by decide) ?_
          show own_S p e below T34 (mkF m 34 #[.val (.ref x1), .val (.ref b1), .val (.int (3 : Int32)), .val (.int (2 : Int32)), .val (.ref g2)] []) _
          refine XS.iinc X34.here hx rfl (hb hby d_prog_35_method_6_34) rfl (l' := #[.val (.ref x1), .val (.ref b1), .val (.int (3 : Int32)), .val (.int ((2 : Int32) + (1 : Int32))), .val (.ref g2)]) rfl ?_
          rw [(by decide : ((2 : Int32) + (1 : Int32)) = (3 : Int32))]
          show own_S p e below T34 (mkF m 37 #[.val (.ref x1), .val (.ref b1), .val (.int (3 : Int32)), .val (.int (3 : Int32)), .val (.ref g2)] []) _
          refine XS.goto X34.here hx rfl (pc0 := 37) (pc' := 9) rfl (hb hby d_prog_35_method_6_37) (by decide) (by decide) ?_
          show own_S p e below T34 (mkF m 9 #[.val (.ref x1), .val (.ref b1), .val (.int (3 : Int32)), .val (.int (3 : Int32)), .val (.ref g2)] []) _
          refine XS.iloadN X34.here hx rfl (hb hby d_prog_35_method_6_9) rfl ?_
          show own_S p e below T34 (mkF m 10 #[.val (.ref x1), .val (.ref b1), .val (.int (3 : Int32)), .val (.int (3 : Int32)), .val (.ref g2)] [(.int (3 : Int32))]) _
          refine XS.iloadN X34.here hx rfl (hb hby d_prog_35_method_6_10) rfl ?_
          show own_S p e below T34 (mkF m 11 #[.val (.ref x1), .val (.ref b1), .val (.int (3 : Int32)), .val (.int (3 : Int32)), .val (.ref g2)] [(.int (3 : Int32)), (.int (3 : Int32))]) _
          refine XS.icmpYes X34.here hx rfl (pc0 := 11) (pc' := 40) rfl (hb hby d_prog_35_method_6_11) rfl (flt (by decide : ¬ ((3 : Int32) < (3 : Int32)))).2.1 (by decide) (by decide) ?_
          show own_S p e below T34 (mkF m 40 #[.val (.ref x1), .val (.ref b1), .val (.int (3 : Int32)), .val (.int (3 : Int32)), .val (.ref g2)] []) _
          refine XS.aconstNull X34.here hx rfl (hb hby d_prog_35_method_6_40) ?_
          exact kt)
        obtain ⟨fs, hr, hrun, hended, hW, hsame⟩ := X34.leave (v := some .null) (fun h => by rw [Bd.returns] at h; cases h)
        refine ⟨_, _, hGl _ (kn36 _ (by
            show own_S p e below T34 (mkF m 41 #[.val (.ref x1), .val (.ref b1), .val (.int (3 : Int32)), .val (.int (3 : Int32)), .val (.ref g2)] [.null]) _
            jvm_step X34.here [X34.here.top, hx, (hb hby d_prog_35_method_6_41), X34.method', Bd.returns, Value.isRef, FieldType.isReference]
            first | (intro acts; rw [hr _ acts rfl rfl rfl]) | rw [hr _ _ rfl rfl rfl]
            exact Steps.refl _)), hrun, hended, _, _, rfl, ?_, ⟨_, rfl⟩, hW, hsame.mono (by decide) (by decide)⟩
        show QFind3 Z x1 t1 k1 cs N1 vs bV kV g0 y0 ty0 ky0 g1 y1 ty1 ky1 g2 y2 ty2 ky2 G1 h0 n0 _ T34.heap _
        rw [eq34]
        exact ⟨rfl, Nf34, K4⟩

theorem d_jdk_42_method_66_0 : decode jdk_42_method_66_code 0 = .ok (.aload_n 0, 1) := by decide +kernel
theorem d_jdk_42_method_66_1 : decode jdk_42_method_66_code 1 = .ok (.aload_n 1, 1) := by decide +kernel
theorem d_jdk_42_method_66_2 : decode jdk_42_method_66_code 2 = .ok (.if_acmp .ne 5, 3) := by decide +kernel
theorem d_jdk_42_method_66_7 : decode jdk_42_method_66_code 7 = .ok (.aload_n 1, 1) := by decide +kernel
theorem d_jdk_42_method_66_8 : decode jdk_42_method_66_code 8 = .ok (.instanceof 10, 3) := by decide +kernel
theorem d_jdk_42_method_66_11 : decode jdk_42_method_66_code 11 = .ok (.ifCond .eq 43, 3) := by decide +kernel
theorem d_jdk_42_method_66_54 : decode jdk_42_method_66_code 54 = .ok (.iconst 0, 1) := by decide +kernel
theorem d_jdk_42_method_66_55 : decode jdk_42_method_66_code 55 = .ok (.ireturn, 1) := by decide +kernel
theorem ef_rmEqN (m : MethodId) (x0 : Addr) : entryFrame m #[(.ref x0), .null] 3 = mkF m 0 #[.val (.ref x0), .val .null, .unset] [] := by first | (simp [entryFrame, mkF, argsToLocals, Value.category]; done) | rfl
def QEqN (Z : State) (a1 : Addr) (h0 : Heap) (n0 : Nat) (v : Option Value) (h : Heap) (L : List Loc) : Prop := v = some (.int (0 : Int32)) ∧ Fr n0 L ∧ h = h0
set_option maxRecDepth 65536 in
set_option maxHeartbeats 40000000 in
theorem rmEqN (l : Launch) (Z : State) (a0 : Array Value) (hw : ∀ d ∈ tables_1, d.before a0 Z = true) (ws : List Jvm.Cond) (a1 : Addr) (h0 : Heap) (n0 : Nat) (Z0 : n0 ≤ h0.size) :
    MetFree l (⟨"java/lang/String", "equals", "(Ljava/lang/Object;)Z"⟩ : MethodName) (head1 (Jvm.Cond.code (⟨"java/lang/String", "equals", "(Ljava/lang/Object;)Z"⟩ : MethodName) jdk_42_method_66_code 3 (some .boolean) :: ws) ({ frames := 0, cells := 0, slots := 0, locals := 0 } : Room)) (fun a U => a = #[(.ref a1), .null] ∧ Z.Warmed39 U.vm ∧ U.heap = h0) (fun _ _ _ _ _ => True) (fun _ U o U' => ∃ v L, o = .returned v ∧ QEqN Z a1 h0 n0 v U'.heap L ∧ FrameEnd U o U' L ({ frames := 0, cells := 0, slots := 0, locals := 0 } : Room).cells ({ frames := 0, cells := 0, slots := 0, locals := 0 } : Room).slots) := by
  refine MetFree.of_bodySF (plainFor_of_name pn_1) hisR ?_
  intro p e s m args below meth c s₁ Bd hml0 hP hK
  obtain ⟨rfl, hZ, hh⟩ := hP
  have hx := Bd.exec
  have hby := Bd.bytes
  have hml : c.maxLocals = 3 := hml0
  have hown : s.vm.findClass "java/lang/String" = some m.cls := findClass_of_methodNamed Bd.named
  have hnm := (name_of_methodNamed Bd.named Bd.method).1
  have X0 : Stand p l e ({ frames := 0, cells := 0, slots := 0, locals := 0 } : Room) s m #[(.ref a1), .null] below meth c s₁ [] 0 0 := Stand.of_body Bd
  have e0 : s₁.heap = h0 := by rw [← hh, Bd.state]; rfl
  have Nf0 := Fr.nil n0
  obtain ⟨Gl, hGl, kn0⟩ : ∃ Gl : State → Prop, (∀ t, Gl t → Steps p.tables e below (s₁.setTop (entryFrame m #[(.ref a1), .null] 3)) t) ∧ ∀ t, own_S p e below s₁ (mkF m 0 #[.val (.ref a1), .val .null, .unset] []) t → Gl t := ⟨fun t => Steps p.tables e below (s₁.setTop (entryFrame m #[(.ref a1), .null] 3)) t, fun _ k => k, fun t k => castTop (ef_rmEqN m a1) k⟩
  have kn1 : ∀ t, own_S p e below s₁ (mkF m 55 #[.val (.ref a1), .val .null, .unset] [(.int (0 : Int32))]) t → Gl t := fun t kt => kn0 t (by
    show own_S p e below s₁ (mkF m 0 #[.val (.ref a1), .val .null, .unset] []) _
    refine XS.aloadN X0.here hx rfl (hb hby d_jdk_42_method_66_0) rfl rfl ?_
    show own_S p e below s₁ (mkF m 1 #[.val (.ref a1), .val .null, .unset] [(.ref a1)]) _
    refine XS.aloadN X0.here hx rfl (hb hby d_jdk_42_method_66_1) rfl rfl ?_
    show own_S p e below s₁ (mkF m 2 #[.val (.ref a1), .val .null, .unset] [.null, (.ref a1)]) _
    refine Jvm.RoadKit.acmp (g := (mkF m 2 #[.val (.ref a1), .val .null, .unset] [.null, (.ref a1)])) X0 hx rfl rfl rfl (pc0 := 2) (pc' := 7) (same := false) rfl (hb hby d_jdk_42_method_66_2) rfl (decide_eq_false nofun) (by decide) (by decide) ?_
    show own_S p e below s₁ (mkF m 7 #[.val (.ref a1), .val .null, .unset] []) _
    refine XS.aloadN X0.here hx rfl (hb hby d_jdk_42_method_66_7) rfl rfl ?_
    show own_S p e below s₁ (mkF m 8 #[.val (.ref a1), .val .null, .unset] [.null]) _
    refine X0.instanceofNull hx (g := (mkF m 8 #[.val (.ref a1), .val .null, .unset] [.null])) rfl rfl (hb hby d_jdk_42_method_66_8) _ ?_
    show own_S p e below s₁ (mkF m 11 #[.val (.ref a1), .val .null, .unset] [(.int (0 : Int32))]) _
    refine XS.ifYes X0.here hx rfl (pc0 := 11) (pc' := 54) rfl (hb hby d_jdk_42_method_66_11) rfl ((if0 _ _).trans (teq (by decide : (0 : Int32) = (0 : Int32))).1) (by decide) (by decide) ?_
    show own_S p e below s₁ (mkF m 54 #[.val (.ref a1), .val .null, .unset] []) _
    refine XS.iconst X0.here hx rfl (hb hby d_jdk_42_method_66_54) ?_
    exact kt)
  obtain ⟨fs, hr, hrun, hended, hW, hsame⟩ := X0.leave (v := some (.int (0 : Int32))) (fun h => by rw [Bd.returns] at h; cases h)
  refine ⟨_, _, hGl _ (kn1 _ (retN X0 hx (t := .boolean) Bd.returns (by simp) (hb hby d_jdk_42_method_66_55) hr)), hrun, hended, _, _, rfl, ?_, ⟨_, rfl⟩, hW, hsame.mono (by decide) (by decide)⟩
  show QEqN Z a1 h0 n0 _ s₁.heap _
  rw [e0]
  exact ⟨rfl, Nf0, rfl⟩

theorem ef_rmFindN (m : MethodId)  : entryFrame m #[.null] 5 = mkF m 0 #[.val .null, .unset, .unset, .unset, .unset] [] := by first | (simp [entryFrame, mkF, argsToLocals, Value.category]; done) | rfl
def QFindN (Z : State) (bV : Addr) (kV : ClassId) (g0 : Addr) (y0 : Addr) (ty0 : Addr) (ky0 : ClassId) (g1 : Addr) (y1 : Addr) (ty1 : Addr) (ky1 : ClassId) (g2 : Addr) (y2 : Addr) (ty2 : Addr) (ky2 : ClassId) (G1 : Int32) (h0 : Heap) (n0 : Nat) (v : Option Value) (h : Heap) (L : List Loc) : Prop := v = some .null ∧ Fr n0 L ∧ Keep h0 h []
set_option maxRecDepth 65536 in
set_option maxHeartbeats 40000000 in
theorem rmFindN (l : Launch) (Z : State) (a0 : Array Value) (hw : ∀ d ∈ tables_1, d.before a0 Z = true) (ws : List Jvm.Cond) (bV : Addr) (kV : ClassId) (g0 : Addr) (y0 : Addr) (ty0 : Addr) (ky0 : ClassId) (g1 : Addr) (y1 : Addr) (ty1 : Addr) (ky1 : ClassId) (g2 : Addr) (y2 : Addr) (ty2 : Addr) (ky2 : ClassId) (G1 : Int32) (h0 : Heap) (n0 : Nat) (Z0 : n0 ≤ h0.size) (O0 : Old Z n0 h0) (O2 : Sta Z Z.heap "java/lang/String" "COMPACT_STRINGS" "Z" (.int G1)) (P5 : ¬ (G1 = (0 : Int32))) (SV : Sta Z Z.heap "com/example/runs_to_scores/runstoscores/formats/Subtask" "$VALUES" "[Lcom/example/runs_to_scores/runstoscores/formats/Subtask;" (.ref bV)) (EV : Exa Z Z.heap bV "[Lcom/example/runs_to_scores/runstoscores/formats/Subtask;") (VV : Arv Z Z.heap bV kV (.object "com/example/runs_to_scores/runstoscores/formats/Subtask") (3 : Int32) [(.ref g0), (.ref g1), (.ref g2)] .null) (Fg0 : Fld Z Z.heap g0 "com/example/runs_to_scores/runstoscores/formats/Subtask" "label" "Ljava/lang/String;" (.ref y0)) (Ey0 : Exa Z Z.heap y0 "java/lang/String") (Vy0 : Fld Z Z.heap y0 "java/lang/String" "value" "[B" (.ref ty0)) (Cy0 : Fld Z Z.heap y0 "java/lang/String" "coder" "B" (.int (0 : Int32))) (Ky0 : Arv Z Z.heap ty0 ky0 .byte (6 : Int32) ((([(116 : Int32), (114 : Int32), (105 : Int32), (97 : Int32), (103 : Int32), (101 : Int32)] : List Int32).map (fun c => c.toInt8.toInt32)).map Value.int) (.int (0 : Int32))) (Fg1 : Fld Z Z.heap g1 "com/example/runs_to_scores/runstoscores/formats/Subtask" "label" "Ljava/lang/String;" (.ref y1)) (Ey1 : Exa Z Z.heap y1 "java/lang/String") (Vy1 : Fld Z Z.heap y1 "java/lang/String" "value" "[B" (.ref ty1)) (Cy1 : Fld Z Z.heap y1 "java/lang/String" "coder" "B" (.int (0 : Int32))) (Ky1 : Arv Z Z.heap ty1 ky1 .byte (5 : Int32) ((([(97 : Int32), (110 : Int32), (110 : Int32), (104 : Int32), (105 : Int32)] : List Int32).map (fun c => c.toInt8.toInt32)).map Value.int) (.int (0 : Int32))) (Fg2 : Fld Z Z.heap g2 "com/example/runs_to_scores/runstoscores/formats/Subtask" "label" "Ljava/lang/String;" (.ref y2)) (Ey2 : Exa Z Z.heap y2 "java/lang/String") (Vy2 : Fld Z Z.heap y2 "java/lang/String" "value" "[B" (.ref ty2)) (Cy2 : Fld Z Z.heap y2 "java/lang/String" "coder" "B" (.int (0 : Int32))) (Ky2 : Arv Z Z.heap ty2 ky2 .byte (7 : Int32) ((([(97 : Int32), (110 : Int32), (110 : Int32), (104 : Int32), (105 : Int32), (101 : Int32), (118 : Int32)] : List Int32).map (fun c => c.toInt8.toInt32)).map Value.int) (.int (0 : Int32))) :
    MetFree l (⟨"com/example/runs_to_scores/runstoscores/formats/Subtask", "labelled", "(Ljava/lang/String;)Lcom/example/runs_to_scores/runstoscores/formats/Subtask;"⟩ : MethodName) (head1 (Jvm.Cond.code (⟨"com/example/runs_to_scores/runstoscores/formats/Subtask", "labelled", "(Ljava/lang/String;)Lcom/example/runs_to_scores/runstoscores/formats/Subtask;"⟩ : MethodName) prog_35_method_6_code 5 (some (.object "com/example/runs_to_scores/runstoscores/formats/Subtask")) :: ws) ({ frames := 2, cells := 1, slots := 3, locals := 25 } : Room)) (fun a U => a = #[.null] ∧ Z.Warmed39 U.vm ∧ U.heap = h0) (fun _ _ _ _ _ => True) (fun _ U o U' => ∃ v L, o = .returned v ∧ QFindN Z bV kV g0 y0 ty0 ky0 g1 y1 ty1 ky1 g2 y2 ty2 ky2 G1 h0 n0 v U'.heap L ∧ FrameEnd U o U' L ({ frames := 2, cells := 1, slots := 3, locals := 25 } : Room).cells ({ frames := 2, cells := 1, slots := 3, locals := 25 } : Room).slots) := by
  refine MetFree.of_bodySF (plainFor_of_name pn_2) hisR ?_
  intro p e s m args below meth c s₁ Bd hml0 hP hK
  obtain ⟨rfl, hZ, hh⟩ := hP
  have hx := Bd.exec
  have hby := Bd.bytes
  have hml : c.maxLocals = 5 := hml0
  have hown : s.vm.findClass "com/example/runs_to_scores/runstoscores/formats/Subtask" = some m.cls := findClass_of_methodNamed Bd.named
  have hnm := (name_of_methodNamed Bd.named Bd.method).1
  have X0 : Stand p l e ({ frames := 2, cells := 1, slots := 3, locals := 25 } : Room) s m #[.null] below meth c s₁ [] 0 0 := Stand.of_body Bd
  have e0 : s₁.heap = h0 := by rw [← hh, Bd.state]; rfl
  have Nf0 := Fr.nil n0
  obtain ⟨Gl, hGl, kn0⟩ : ∃ Gl : State → Prop, (∀ t, Gl t → Steps p.tables e below (s₁.setTop (entryFrame m #[.null] 5)) t) ∧ ∀ t, own_S p e below s₁ (mkF m 0 #[.val .null, .unset, .unset, .unset, .unset] []) t → Gl t := ⟨fun t => Steps p.tables e below (s₁.setTop (entryFrame m #[.null] 5)) t, fun _ k => k, fun t k => castTop (ef_rmFindN m ) k⟩
  obtain ⟨_, _, ⟨T1, L1, cc1, ss1⟩, -, X1, ⟨Lc1, hQ1, l1, y1, z1⟩, st1⟩ := Jvm.LawKit.callS X0 hx (y := (⟨"com/example/runs_to_scores/runstoscores/formats/Subtask", "values", "()[Lcom/example/runs_to_scores/runstoscores/formats/Subtask;"⟩ : MethodName)) hown (mvT hZ (hw _ (List.mem_of_getElem? (i := 53) rfl))) (mvT hZ (hw _ (List.mem_of_getElem? (i := 54) rfl))) (mvT hZ (hw _ (List.mem_of_getElem? (i := 51) rfl))) (mvT hZ (hw _ (List.mem_of_getElem? (i := 55) rfl))) (by decide) (backOf (W := 0) (rmVal l Z a0 hw []  bV kV g0 y0 ty0 ky0 g1 y1 ty1 ky1 g2 y2 ty2 ky2 h0 n0 Z0 O0 SV EV VV Fg0 Ey0 Vy0 Cy0 Ky0 Fg1 Ey1 Vy1 Cy1 Ky1 Fg2 Ey2 Vy2 Cy2 Ky2) hZ (hw _ (List.mem_of_getElem? (i := 55) rfl)) (hw _ (List.mem_of_getElem? (i := 51) rfl)) (by decide) (by decide)) (g := (mkF m 0 #[.val .null, .unset, .unset, .unset, .unset] [])) rfl (by rw [hml]; rfl) (argsL := []) (rest := []) (lenOf pd_3 rfl) rfl (by show 2 * 0 + _ ≤ _; exact Nat.le_of_eq rfl) (hb hby d_prog_35_method_6_0) (fun _ _ => ⟨rfl, e0, (by decide : 0 + 1 ≤ _), (by decide : 0 + 3 ≤ _)⟩)
  dsimp only [Pt.U, Pt.locs, Pt.cells, Pt.slots] at X1 l1 y1 z1 st1 hQ1
  subst l1 y1 z1
  have X1 : Stand p l e _ _ m _ below meth c T1 _ 1 3 := X1
  obtain ⟨b1, kk1, rfl, Nq1, g_b1, K1, V1⟩ := hQ1
  have Nf1 := Fr.app Nf0 Nq1
  have Z2 : n0 ≤ T1.heap.size := Nat.le_trans Z0 K1.1
  have Od3 : Old Z n0 T1.heap := O0.keep K1 all0
  have K4 : Keep h0 T1.heap [] := (Keep.refl h0 []).trans K1 (all0)
  have kn5 : ∀ t, own_S p e below T1 (mkF m 3 #[.val .null, .unset, .unset, .unset, .unset] [(.ref b1)]) t → Gl t := fun t kt => kn0 t (st1 _ kt)
  have kn6 : ∀ t, own_S p e below T1 (mkF m 5 #[.val .null, .val (.ref b1), .unset, .unset, .unset] [(.ref b1)]) t → Gl t := fun t kt => kn5 t (by
    show own_S p e below T1 (mkF m 3 #[.val .null, .unset, .unset, .unset, .unset] [(.ref b1)]) _
    refine XS.astoreN X1.here hx rfl (hb hby d_prog_35_method_6_3) rfl rfl (l' := #[.val .null, .val (.ref b1), .unset, .unset, .unset]) rfl ?_
    show own_S p e below T1 (mkF m 4 #[.val .null, .val (.ref b1), .unset, .unset, .unset] []) _
    refine XS.aloadN X1.here hx rfl (hb hby d_prog_35_method_6_4) rfl rfl ?_
    exact kt)
  obtain ⟨cl7, Ar7, -, Sz7, Ng7, -, -⟩ := id V1
  have kn8 : ∀ t, own_S p e below T1 (mkF m 16 #[.val .null, .val (.ref b1), .val (.int (3 : Int32)), .val (.int (0 : Int32)), .unset] [(.int (0 : Int32)), (.ref b1)]) t → Gl t := fun t kt => kn6 t (by
    show own_S p e below T1 (mkF m 5 #[.val .null, .val (.ref b1), .unset, .unset, .unset] [(.ref b1)]) _
    refine X1.arraylength hx Ar7.1 (State.isArrayOf_alike hZ.alike Ar7.2.1) (g := (mkF m 5 #[.val .null, .val (.ref b1), .unset, .unset, .unset] [(.ref b1)])) rfl rfl (hb hby d_prog_35_method_6_5) _ ?_
    rw [len_of Sz7 Ng7]
    show own_S p e below T1 (mkF m 6 #[.val .null, .val (.ref b1), .unset, .unset, .unset] [(.int (3 : Int32))]) _
    refine XS.istoreN X1.here hx rfl (hb hby d_prog_35_method_6_6) rfl (l' := #[.val .null, .val (.ref b1), .val (.int (3 : Int32)), .unset, .unset]) rfl ?_
    show own_S p e below T1 (mkF m 7 #[.val .null, .val (.ref b1), .val (.int (3 : Int32)), .unset, .unset] []) _
    refine XS.iconst X1.here hx rfl (hb hby d_prog_35_method_6_7) ?_
    show own_S p e below T1 (mkF m 8 #[.val .null, .val (.ref b1), .val (.int (3 : Int32)), .unset, .unset] [(.int (0 : Int32))]) _
    refine XS.istoreN X1.here hx rfl (hb hby d_prog_35_method_6_8) rfl (l' := #[.val .null, .val (.ref b1), .val (.int (3 : Int32)), .val (.int (0 : Int32)), .unset]) rfl ?_
    show own_S p e below T1 (mkF m 9 #[.val .null, .val (.ref b1), .val (.int (3 : Int32)), .val (.int (0 : Int32)), .unset] []) _
    refine XS.iloadN X1.here hx rfl (hb hby d_prog_35_method_6_9) rfl ?_
    show own_S p e below T1 (mkF m 10 #[.val .null, .val (.ref b1), .val (.int (3 : Int32)), .val (.int (0 : Int32)), .unset] [(.int (0 : Int32))]) _
    refine XS.iloadN X1.here hx rfl (hb hby d_prog_35_method_6_10) rfl ?_
    show own_S p e below T1 (mkF m 11 #[.val .null, .val (.ref b1), .val (.int (3 : Int32)), .val (.int (0 : Int32)), .unset] [(.int (3 : Int32)), (.int (0 : Int32))]) _
    refine XS.icmpNo X1.here hx rfl (hb hby d_prog_35_method_6_11) rfl (tlt (by decide : (0 : Int32) < (3 : Int32))).2.1 ?_
    show own_S p e below T1 (mkF m 14 #[.val .null, .val (.ref b1), .val (.int (3 : Int32)), .val (.int (0 : Int32)), .unset] []) _
    refine XS.aloadN X1.here hx rfl (hb hby d_prog_35_method_6_14) rfl rfl ?_
    show own_S p e below T1 (mkF m 15 #[.val .null, .val (.ref b1), .val (.int (3 : Int32)), .val (.int (0 : Int32)), .unset] [(.ref b1)]) _
    refine XS.iloadN X1.here hx rfl (hb hby d_prog_35_method_6_15) rfl ?_
    exact kt)
  obtain ⟨cl9, Ar9, q9, Sz9, Ng9, Hs9, Gs9⟩ := id V1
  have hin9 : ¬ ((0 : Int32) < 0 ∨ cl9.slots.size ≤ ((0 : Int32)).toNatClampNeg) := inb_of Sz9 ⟨by decide, by decide⟩
  have hat9 : cl9.slots[((0 : Int32)).toNatClampNeg]? = some (.ref g0) := Hs9.at hin9 rfl
  have kn10 : ∀ t, own_S p e below T1 (mkF m 21 #[.val .null, .val (.ref b1), .val (.int (3 : Int32)), .val (.int (0 : Int32)), .val (.ref g0)] [(.ref g0)]) t → Gl t := fun t kt => kn8 t (by
    show own_S p e below T1 (mkF m 16 #[.val .null, .val (.ref b1), .val (.int (3 : Int32)), .val (.int (0 : Int32)), .unset] [(.int (0 : Int32)), (.ref b1)]) _
    refine X1.aaload hx (j := (0 : Int32)) (v := (.ref g0)) Ar9.1 (State.isArrayOf_alike hZ.alike Ar9.2.1) rfl Ar9.2.2 hin9 hat9 (g := (mkF m 16 #[.val .null, .val (.ref b1), .val (.int (3 : Int32)), .val (.int (0 : Int32)), .unset] [(.int (0 : Int32)), (.ref b1)])) rfl rfl (hb hby d_prog_35_method_6_16) _ ?_
    show own_S p e below T1 (mkF m 17 #[.val .null, .val (.ref b1), .val (.int (3 : Int32)), .val (.int (0 : Int32)), .unset] [(.ref g0)]) _
    refine XS.astore X1.here hx rfl (hb hby d_prog_35_method_6_17) rfl rfl (l' := #[.val .null, .val (.ref b1), .val (.int (3 : Int32)), .val (.int (0 : Int32)), .val (.ref g0)]) rfl ?_
    show own_S p e below T1 (mkF m 19 #[.val .null, .val (.ref b1), .val (.int (3 : Int32)), .val (.int (0 : Int32)), .val (.ref g0)] []) _
    refine XS.aload X1.here hx rfl (hb hby d_prog_35_method_6_19) rfl rfl ?_
    exact kt)
  obtain ⟨T11, X11, e11, st11⟩ := getF X1 hx hZ hown (host := "") (Or.inl (hw _ (List.mem_of_getElem? (i := 71) rfl))) Via.refl rfl (Fg0.ext Od3.2) (g := (mkF m 21 #[.val .null, .val (.ref b1), .val (.int (3 : Int32)), .val (.int (0 : Int32)), .val (.ref g0)] [(.ref g0)])) rfl rfl (hb hby d_prog_35_method_6_21)
  have kn12 : ∀ t, own_S p e below T11 (mkF m 24 #[.val .null, .val (.ref b1), .val (.int (3 : Int32)), .val (.int (0 : Int32)), .val (.ref g0)] [(.ref y0)]) t → Gl t := fun t kt => kn10 t (st11 _ kt)
  have kn13 : ∀ t, own_S p e below T11 (mkF m 25 #[.val .null, .val (.ref b1), .val (.int (3 : Int32)), .val (.int (0 : Int32)), .val (.ref g0)] [.null, (.ref y0)]) t → Gl t := fun t kt => kn12 t (by
    show own_S p e below T11 (mkF m 24 #[.val .null, .val (.ref b1), .val (.int (3 : Int32)), .val (.int (0 : Int32)), .val (.ref g0)] [(.ref y0)]) _
    refine XS.aloadN X11.here hx rfl (hb hby d_prog_35_method_6_24) rfl rfl ?_
    exact kt)
  obtain ⟨cq14, kq14, qa14, qb14, qc14⟩ := isOf hZ e11 (Ey0.ext Od3.2)
  obtain ⟨_, _, ⟨T14, L14, cc14, ss14⟩, -, X14, ⟨Lc14, hQ14, l14, y14, z14⟩, st14⟩ := X11.virtualBack hx (y := (⟨"java/lang/String", "equals", "(Ljava/lang/Object;)Z"⟩ : MethodName)) (z := (⟨"java/lang/String", "equals", "(Ljava/lang/Object;)Z"⟩ : MethodName)) hown (mvT hZ (hw _ (List.mem_of_getElem? (i := 73) rfl))) (mvT hZ (hw _ (List.mem_of_getElem? (i := 74) rfl))) (notFace_of_selects (args := #[]) (mvT hZ (hw _ (List.mem_of_getElem? (i := 76) rfl)))) (mvT hZ (hw _ (List.mem_of_getElem? (i := 76) rfl))) (mvT hZ (hw _ (List.mem_of_getElem? (i := 75) rfl))) (by decide) (backOf (W := 0) (rmEqN l Z a0 hw [] y0  T1.heap n0 Z2 ) hZ (hw _ (List.mem_of_getElem? (i := 77) rfl)) (hw _ (List.mem_of_getElem? (i := 1) rfl)) (by decide) (by decide)) qa14 qc14 (g := (mkF m 25 #[.val .null, .val (.ref b1), .val (.int (3 : Int32)), .val (.int (0 : Int32)), .val (.ref g0)] [.null, (.ref y0)])) rfl (by rw [hml]; rfl) (Steps.refl _) (argsL := [.null]) (rest := []) (lenOf pd_4 rfl) rfl (by show 2 * 0 + _ ≤ _; exact Nat.le_of_eq rfl) (hb hby d_prog_35_method_6_25) (fun _ _ => ⟨rfl, e11, (by decide : 1 + 0 ≤ _), (by decide : 3 + 0 ≤ _)⟩)
  dsimp only [Pt.U, Pt.locs, Pt.cells, Pt.slots] at X14 l14 y14 z14 st14 hQ14
  subst l14 y14 z14
  have X14 : Stand p l e _ _ m _ below meth c T14 _ 1 3 := X14
  obtain ⟨rfl, Nq14, eq14⟩ := hQ14
  have Nf14 := Fr.app Nf1 Nq14
  have kn15 : ∀ t, own_S p e below T14 (mkF m 28 #[.val .null, .val (.ref b1), .val (.int (3 : Int32)), .val (.int (0 : Int32)), .val (.ref g0)] [(.int (0 : Int32))]) t → Gl t := fun t kt => kn13 t (st14.trans kt)
  have kn16 : ∀ t, own_S p e below T14 (mkF m 16 #[.val .null, .val (.ref b1), .val (.int (3 : Int32)), .val (.int (1 : Int32)), .val (.ref g0)] [(.int (1 : Int32)), (.ref b1)]) t → Gl t := fun t kt => kn15 t (by
    show own_S p e below T14 (mkF m 28 #[.val .null, .val (.ref b1), .val (.int (3 : Int32)), .val (.int (0 : Int32)), .val (.ref g0)] [(.int (0 : Int32))]) _
    refine XS.ifYes X14.here hx rfl (pc0 := 28) (pc' := 34) rfl (hb hby d_prog_35_method_6_28) rfl ((if0 _ _).trans (teq (by decide : (0 : Int32) = (0 : Int32))).1) (by decide) (by decide) ?_
    show own_S p e below T14 (mkF m 34 #[.val .null, .val (.ref b1), .val (.int (3 : Int32)), .val (.int (0 : Int32)), .val (.ref g0)] []) _
    refine XS.iinc X14.here hx rfl (hb hby d_prog_35_method_6_34) rfl (l' := #[.val .null, .val (.ref b1), .val (.int (3 : Int32)), .val (.int ((0 : Int32) + (1 : Int32))), .val (.ref g0)]) rfl ?_
    rw [(by decide : ((0 : Int32) + (1 : Int32)) = (1 : Int32))]
    show own_S p e below T14 (mkF m 37 #[.val .null, .val (.ref b1), .val (.int (3 : Int32)), .val (.int (1 : Int32)), .val (.ref g0)] []) _
    refine XS.goto X14.here hx rfl (pc0 := 37) (pc' := 9) rfl (hb hby d_prog_35_method_6_37) (by decide) (by decide) ?_
    show own_S p e below T14 (mkF m 9 #[.val .null, .val (.ref b1), .val (.int (3 : Int32)), .val (.int (1 : Int32)), .val (.ref g0)] []) _
    refine XS.iloadN X14.here hx rfl (hb hby d_prog_35_method_6_9) rfl ?_
    show own_S p e below T14 (mkF m 10 #[.val .null, .val (.ref b1), .val (.int (3 : Int32)), .val (.int (1 : Int32)), .val (.ref g0)] [(.int (1 : Int32))]) _
    refine XS.iloadN X14.here hx rfl (hb hby d_prog_35_method_6_10) rfl ?_
    show own_S p e below T14 (mkF m 11 #[.val .null, .val (.ref b1), .val (.int (3 : Int32)), .val (.int (1 : Int32)), .val (.ref g0)] [(.int (3 : Int32)), (.int (1 : Int32))]) _
    refine XS.icmpNo X14.here hx rfl (hb hby d_prog_35_method_6_11) rfl (tlt (by decide : (1 : Int32) < (3 : Int32))).2.1 ?_
    show own_S p e below T14 (mkF m 14 #[.val .null, .val (.ref b1), .val (.int (3 : Int32)), .val (.int (1 : Int32)), .val (.ref g0)] []) _
    refine XS.aloadN X14.here hx rfl (hb hby d_prog_35_method_6_14) rfl rfl ?_
    show own_S p e below T14 (mkF m 15 #[.val .null, .val (.ref b1), .val (.int (3 : Int32)), .val (.int (1 : Int32)), .val (.ref g0)] [(.ref b1)]) _
    refine XS.iloadN X14.here hx rfl (hb hby d_prog_35_method_6_15) rfl ?_
    exact kt)
  obtain ⟨cl17, Ar17, q17, Sz17, Ng17, Hs17, Gs17⟩ := id V1
  have hin17 : ¬ ((1 : Int32) < 0 ∨ cl17.slots.size ≤ ((1 : Int32)).toNatClampNeg) := inb_of Sz17 ⟨by decide, by decide⟩
  have hat17 : cl17.slots[((1 : Int32)).toNatClampNeg]? = some (.ref g1) := Hs17.at hin17 rfl
  have kn18 : ∀ t, own_S p e below T14 (mkF m 21 #[.val .null, .val (.ref b1), .val (.int (3 : Int32)), .val (.int (1 : Int32)), .val (.ref g1)] [(.ref g1)]) t → Gl t := fun t kt => kn16 t (by
    show own_S p e below T14 (mkF m 16 #[.val .null, .val (.ref b1), .val (.int (3 : Int32)), .val (.int (1 : Int32)), .val (.ref g0)] [(.int (1 : Int32)), (.ref b1)]) _
    refine X14.aaload hx (j := (1 : Int32)) (v := (.ref g1)) (by rw [eq14]; exact Ar17.1) (State.isArrayOf_alike hZ.alike Ar17.2.1) rfl Ar17.2.2 hin17 hat17 (g := (mkF m 16 #[.val .null, .val (.ref b1), .val (.int (3 : Int32)), .val (.int (1 : Int32)), .val (.ref g0)] [(.int (1 : Int32)), (.ref b1)])) rfl rfl (hb hby d_prog_35_method_6_16) _ ?_
    show own_S p e below T14 (mkF m 17 #[.val .null, .val (.ref b1), .val (.int (3 : Int32)), .val (.int (1 : Int32)), .val (.ref g0)] [(.ref g1)]) _
    refine XS.astore X14.here hx rfl (hb hby d_prog_35_method_6_17) rfl rfl (l' := #[.val .null, .val (.ref b1), .val (.int (3 : Int32)), .val (.int (1 : Int32)), .val (.ref g1)]) rfl ?_
    show own_S p e below T14 (mkF m 19 #[.val .null, .val (.ref b1), .val (.int (3 : Int32)), .val (.int (1 : Int32)), .val (.ref g1)] []) _
    refine XS.aload X14.here hx rfl (hb hby d_prog_35_method_6_19) rfl rfl ?_
    exact kt)
  obtain ⟨T19, X19, e19, st19⟩ := getF X14 hx hZ hown (host := "") (Or.inl (hw _ (List.mem_of_getElem? (i := 71) rfl))) Via.refl eq14 (Fg1.ext Od3.2) (g := (mkF m 21 #[.val .null, .val (.ref b1), .val (.int (3 : Int32)), .val (.int (1 : Int32)), .val (.ref g1)] [(.ref g1)])) rfl rfl (hb hby d_prog_35_method_6_21)
  have kn20 : ∀ t, own_S p e below T19 (mkF m 24 #[.val .null, .val (.ref b1), .val (.int (3 : Int32)), .val (.int (1 : Int32)), .val (.ref g1)] [(.ref y1)]) t → Gl t := fun t kt => kn18 t (st19 _ kt)
  have kn21 : ∀ t, own_S p e below T19 (mkF m 25 #[.val .null, .val (.ref b1), .val (.int (3 : Int32)), .val (.int (1 : Int32)), .val (.ref g1)] [.null, (.ref y1)]) t → Gl t := fun t kt => kn20 t (by
    show own_S p e below T19 (mkF m 24 #[.val .null, .val (.ref b1), .val (.int (3 : Int32)), .val (.int (1 : Int32)), .val (.ref g1)] [(.ref y1)]) _
    refine XS.aloadN X19.here hx rfl (hb hby d_prog_35_method_6_24) rfl rfl ?_
    exact kt)
  obtain ⟨cq22, kq22, qa22, qb22, qc22⟩ := isOf hZ e19 (Ey1.ext Od3.2)
  obtain ⟨_, _, ⟨T22, L22, cc22, ss22⟩, -, X22, ⟨Lc22, hQ22, l22, y22, z22⟩, st22⟩ := X19.virtualBack hx (y := (⟨"java/lang/String", "equals", "(Ljava/lang/Object;)Z"⟩ : MethodName)) (z := (⟨"java/lang/String", "equals", "(Ljava/lang/Object;)Z"⟩ : MethodName)) hown (mvT hZ (hw _ (List.mem_of_getElem? (i := 73) rfl))) (mvT hZ (hw _ (List.mem_of_getElem? (i := 74) rfl))) (notFace_of_selects (args := #[]) (mvT hZ (hw _ (List.mem_of_getElem? (i := 76) rfl)))) (mvT hZ (hw _ (List.mem_of_getElem? (i := 76) rfl))) (mvT hZ (hw _ (List.mem_of_getElem? (i := 75) rfl))) (by decide) (backOf (W := 0) (rmEqN l Z a0 hw [] y1  T1.heap n0 Z2 ) hZ (hw _ (List.mem_of_getElem? (i := 77) rfl)) (hw _ (List.mem_of_getElem? (i := 1) rfl)) (by decide) (by decide)) qa22 qc22 (g := (mkF m 25 #[.val .null, .val (.ref b1), .val (.int (3 : Int32)), .val (.int (1 : Int32)), .val (.ref g1)] [.null, (.ref y1)])) rfl (by rw [hml]; rfl) (Steps.refl _) (argsL := [.null]) (rest := []) (lenOf pd_4 rfl) rfl (by show 2 * 0 + _ ≤ _; exact Nat.le_of_eq rfl) (hb hby d_prog_35_method_6_25) (fun _ _ => ⟨rfl, e19, (by decide : 1 + 0 ≤ _), (by decide : 3 + 0 ≤ _)⟩)
  dsimp only [Pt.U, Pt.locs, Pt.cells, Pt.slots] at X22 l22 y22 z22 st22 hQ22
  subst l22 y22 z22
  have X22 : Stand p l e _ _ m _ below meth c T22 _ 1 3 := X22
  obtain ⟨rfl, Nq22, eq22⟩ := hQ22
  have Nf22 := Fr.app Nf14 Nq22
  have kn23 : ∀ t, own_S p e below T22 (mkF m 28 #[.val .null, .val (.ref b1), .val (.int (3 : Int32)), .val (.int (1 : Int32)), .val (.ref g1)] [(.int (0 : Int32))]) t → Gl t := fun t kt => kn21 t (st22.trans kt)
  have kn24 : ∀ t, own_S p e below T22 (mkF m 16 #[.val .null, .val (.ref b1), .val (.int (3 : Int32)), .val (.int (2 : Int32)), .val (.ref g1)] [(.int (2 : Int32)), (.ref b1)]) t → Gl t := fun t kt => kn23 t (by
    show own_S p e below T22 (mkF m 28 #[.val .null, .val (.ref b1), .val (.int (3 : Int32)), .val (.int (1 : Int32)), .val (.ref g1)] [(.int (0 : Int32))]) _
    refine XS.ifYes X22.here hx rfl (pc0 := 28) (pc' := 34) rfl (hb hby d_prog_35_method_6_28) rfl ((if0 _ _).trans (teq (by decide : (0 : Int32) = (0 : Int32))).1) (by decide) (by decide) ?_
    show own_S p e below T22 (mkF m 34 #[.val .null, .val (.ref b1), .val (.int (3 : Int32)), .val (.int (1 : Int32)), .val (.ref g1)] []) _
    refine XS.iinc X22.here hx rfl (hb hby d_prog_35_method_6_34) rfl (l' := #[.val .null, .val (.ref b1), .val (.int (3 : Int32)), .val (.int ((1 : Int32) + (1 : Int32))), .val (.ref g1)]) rfl ?_
    rw [(by decide : ((1 : Int32) + (1 : Int32)) = (2 : Int32))]
    show own_S p e below T22 (mkF m 37 #[.val .null, .val (.ref b1), .val (.int (3 : Int32)), .val (.int (2 : Int32)), .val (.ref g1)] []) _
    refine XS.goto X22.here hx rfl (pc0 := 37) (pc' := 9) rfl (hb hby d_prog_35_method_6_37) (by decide) (by decide) ?_
    show own_S p e below T22 (mkF m 9 #[.val .null, .val (.ref b1), .val (.int (3 : Int32)), .val (.int (2 : Int32)), .val (.ref g1)] []) _
    refine XS.iloadN X22.here hx rfl (hb hby d_prog_35_method_6_9) rfl ?_
    show own_S p e below T22 (mkF m 10 #[.val .null, .val (.ref b1), .val (.int (3 : Int32)), .val (.int (2 : Int32)), .val (.ref g1)] [(.int (2 : Int32))]) _
    refine XS.iloadN X22.here hx rfl (hb hby d_prog_35_method_6_10) rfl ?_
    show own_S p e below T22 (mkF m 11 #[.val .null, .val (.ref b1), .val (.int (3 : Int32)), .val (.int (2 : Int32)), .val (.ref g1)] [(.int (3 : Int32)), (.int (2 : Int32))]) _
    refine XS.icmpNo X22.here hx rfl (hb hby d_prog_35_method_6_11) rfl (tlt (by decide : (2 : Int32) < (3 : Int32))).2.1 ?_
    show own_S p e below T22 (mkF m 14 #[.val .null, .val (.ref b1), .val (.int (3 : Int32)), .val (.int (2 : Int32)), .val (.ref g1)] []) _
    refine XS.aloadN X22.here hx rfl (hb hby d_prog_35_method_6_14) rfl rfl ?_
    show own_S p e below T22 (mkF m 15 #[.val .null, .val (.ref b1), .val (.int (3 : Int32)), .val (.int (2 : Int32)), .val (.ref g1)] [(.ref b1)]) _
    refine XS.iloadN X22.here hx rfl (hb hby d_prog_35_method_6_15) rfl ?_
    exact kt)
  obtain ⟨cl25, Ar25, q25, Sz25, Ng25, Hs25, Gs25⟩ := id V1
  have hin25 : ¬ ((2 : Int32) < 0 ∨ cl25.slots.size ≤ ((2 : Int32)).toNatClampNeg) := inb_of Sz25 ⟨by decide, by decide⟩
  have hat25 : cl25.slots[((2 : Int32)).toNatClampNeg]? = some (.ref g2) := Hs25.at hin25 rfl
  have kn26 : ∀ t, own_S p e below T22 (mkF m 21 #[.val .null, .val (.ref b1), .val (.int (3 : Int32)), .val (.int (2 : Int32)), .val (.ref g2)] [(.ref g2)]) t → Gl t := fun t kt => kn24 t (by
    show own_S p e below T22 (mkF m 16 #[.val .null, .val (.ref b1), .val (.int (3 : Int32)), .val (.int (2 : Int32)), .val (.ref g1)] [(.int (2 : Int32)), (.ref b1)]) _
    refine X22.aaload hx (j := (2 : Int32)) (v := (.ref g2)) (by rw [eq22]; exact Ar25.1) (State.isArrayOf_alike hZ.alike Ar25.2.1) rfl Ar25.2.2 hin25 hat25 (g := (mkF m 16 #[.val .null, .val (.ref b1), .val (.int (3 : Int32)), .val (.int (2 : Int32)), .val (.ref g1)] [(.int (2 : Int32)), (.ref b1)])) rfl rfl (hb hby d_prog_35_method_6_16) _ ?_
    show own_S p e below T22 (mkF m 17 #[.val .null, .val (.ref b1), .val (.int (3 : Int32)), .val (.int (2 : Int32)), .val (.ref g1)] [(.ref g2)]) _
    refine XS.astore X22.here hx rfl (hb hby d_prog_35_method_6_17) rfl rfl (l' := #[.val .null, .val (.ref b1), .val (.int (3 : Int32)), .val (.int (2 : Int32)), .val (.ref g2)]) rfl ?_
    show own_S p e below T22 (mkF m 19 #[.val .null, .val (.ref b1), .val (.int (3 : Int32)), .val (.int (2 : Int32)), .val (.ref g2)] []) _
    refine XS.aload X22.here hx rfl (hb hby d_prog_35_method_6_19) rfl rfl ?_
    exact kt)
  obtain ⟨T27, X27, e27, st27⟩ := getF X22 hx hZ hown (host := "") (Or.inl (hw _ (List.mem_of_getElem? (i := 71) rfl))) Via.refl eq22 (Fg2.ext Od3.2) (g := (mkF m 21 #[.val .null, .val (.ref b1), .val (.int (3 : Int32)), .val (.int (2 : Int32)), .val (.ref g2)] [(.ref g2)])) rfl rfl (hb hby d_prog_35_method_6_21)
  have kn28 : ∀ t, own_S p e below T27 (mkF m 24 #[.val .null, .val (.ref b1), .val (.int (3 : Int32)), .val (.int (2 : Int32)), .val (.ref g2)] [(.ref y2)]) t → Gl t := fun t kt => kn26 t (st27 _ kt)
  have kn29 : ∀ t, own_S p e below T27 (mkF m 25 #[.val .null, .val (.ref b1), .val (.int (3 : Int32)), .val (.int (2 : Int32)), .val (.ref g2)] [.null, (.ref y2)]) t → Gl t := fun t kt => kn28 t (by
    show own_S p e below T27 (mkF m 24 #[.val .null, .val (.ref b1), .val (.int (3 : Int32)), .val (.int (2 : Int32)), .val (.ref g2)] [(.ref y2)]) _
    refine XS.aloadN X27.here hx rfl (hb hby d_prog_35_method_6_24) rfl rfl ?_
    exact kt)
  obtain ⟨cq30, kq30, qa30, qb30, qc30⟩ := isOf hZ e27 (Ey2.ext Od3.2)
  obtain ⟨_, _, ⟨T30, L30, cc30, ss30⟩, -, X30, ⟨Lc30, hQ30, l30, y30, z30⟩, st30⟩ := X27.virtualBack hx (y := (⟨"java/lang/String", "equals", "(Ljava/lang/Object;)Z"⟩ : MethodName)) (z := (⟨"java/lang/String", "equals", "(Ljava/lang/Object;)Z"⟩ : MethodName)) hown (mvT hZ (hw _ (List.mem_of_getElem? (i := 73) rfl))) (mvT hZ (hw _ (List.mem_of_getElem? (i := 74) rfl))) (notFace_of_selects (args := #[]) (mvT hZ (hw _ (List.mem_of_getElem? (i := 76) rfl)))) (mvT hZ (hw _ (List.mem_of_getElem? (i := 76) rfl))) (mvT hZ (hw _ (List.mem_of_getElem? (i := 75) rfl))) (by decide) (backOf (W := 0) (rmEqN l Z a0 hw [] y2  T1.heap n0 Z2 ) hZ (hw _ (List.mem_of_getElem? (i := 77) rfl)) (hw _ (List.mem_of_getElem? (i := 1) rfl)) (by decide) (by decide)) qa30 qc30 (g := (mkF m 25 #[.val .null, .val (.ref b1), .val (.int (3 : Int32)), .val (.int (2 : Int32)), .val (.ref g2)] [.null, (.ref y2)])) rfl (by rw [hml]; rfl) (Steps.refl _) (argsL := [.null]) (rest := []) (lenOf pd_4 rfl) rfl (by show 2 * 0 + _ ≤ _; exact Nat.le_of_eq rfl) (hb hby d_prog_35_method_6_25) (fun _ _ => ⟨rfl, e27, (by decide : 1 + 0 ≤ _), (by decide : 3 + 0 ≤ _)⟩)
  dsimp only [Pt.U, Pt.locs, Pt.cells, Pt.slots] at X30 l30 y30 z30 st30 hQ30
  subst l30 y30 z30
  have X30 : Stand p l e _ _ m _ below meth c T30 _ 1 3 := X30
  obtain ⟨rfl, Nq30, eq30⟩ := hQ30
  have Nf30 := Fr.app Nf22 Nq30
  have kn31 : ∀ t, own_S p e below T30 (mkF m 28 #[.val .null, .val (.ref b1), .val (.int (3 : Int32)), .val (.int (2 : Int32)), .val (.ref g2)] [(.int (0 : Int32))]) t → Gl t := fun t kt => kn29 t (st30.trans kt)
  have kn32 : ∀ t, own_S p e below T30 (mkF m 41 #[.val .null, .val (.ref b1), .val (.int (3 : Int32)), .val (.int (3 : Int32)), .val (.ref g2)] [.null]) t → Gl t := fun t kt => kn31 t (by
    show own_S p e below T30 (mkF m 28 #[.val .null, .val (.ref b1), .val (.int (3 : Int32)), .val (.int (2 : Int32)), .val (.ref g2)] [(.int (0 : Int32))]) _
    refine XS.ifYes X30.here hx rfl (pc0 := 28) (pc' := 34) rfl (hb hby d_prog_35_method_6_28) rfl ((if0 _ _).trans (teq (by decide : (0 : Int32) = (0 : Int32))).1) (by decide) (by decide) ?_
    show own_S p e below T30 (mkF m 34 #[.val .null, .val (.ref b1), .val (.int (3 : Int32)), .val (.int (2 : Int32)), .val (.ref g2)] []) _
    refine XS.iinc X30.here hx rfl (hb hby d_prog_35_method_6_34) rfl (l' := #[.val .null, .val (.ref b1), .val (.int (3 : Int32)), .val (.int ((2 : Int32) + (1 : Int32))), .val (.ref g2)]) rfl ?_
    rw [(by decide : ((2 : Int32) + (1 : Int32)) = (3 : Int32))]
    show own_S p e below T30 (mkF m 37 #[.val .null, .val (.ref b1), .val (.int (3 : Int32)), .val (.int (3 : Int32)), .val (.ref g2)] []) _
    refine XS.goto X30.here hx rfl (pc0 := 37) (pc' := 9) rfl (hb hby d_prog_35_method_6_37) (by decide) (by decide) ?_
    show own_S p e below T30 (mkF m 9 #[.val .null, .val (.ref b1), .val (.int (3 : Int32)), .val (.int (3 : Int32)), .val (.ref g2)] []) _
    refine XS.iloadN X30.here hx rfl (hb hby d_prog_35_method_6_9) rfl ?_
    show own_S p e below T30 (mkF m 10 #[.val .null, .val (.ref b1), .val (.int (3 : Int32)), .val (.int (3 : Int32)), .val (.ref g2)] [(.int (3 : Int32))]) _
    refine XS.iloadN X30.here hx rfl (hb hby d_prog_35_method_6_10) rfl ?_
    show own_S p e below T30 (mkF m 11 #[.val .null, .val (.ref b1), .val (.int (3 : Int32)), .val (.int (3 : Int32)), .val (.ref g2)] [(.int (3 : Int32)), (.int (3 : Int32))]) _
    refine XS.icmpYes X30.here hx rfl (pc0 := 11) (pc' := 40) rfl (hb hby d_prog_35_method_6_11) rfl (flt (by decide : ¬ ((3 : Int32) < (3 : Int32)))).2.1 (by decide) (by decide) ?_
    show own_S p e below T30 (mkF m 40 #[.val .null, .val (.ref b1), .val (.int (3 : Int32)), .val (.int (3 : Int32)), .val (.ref g2)] []) _
    refine XS.aconstNull X30.here hx rfl (hb hby d_prog_35_method_6_40) ?_
    exact kt)
  obtain ⟨fs, hr, hrun, hended, hW, hsame⟩ := X30.leave (v := some .null) (fun h => by rw [Bd.returns] at h; cases h)
  refine ⟨_, _, hGl _ (kn32 _ (by
      show own_S p e below T30 (mkF m 41 #[.val .null, .val (.ref b1), .val (.int (3 : Int32)), .val (.int (3 : Int32)), .val (.ref g2)] [.null]) _
      jvm_step X30.here [X30.here.top, hx, (hb hby d_prog_35_method_6_41), X30.method', Bd.returns, Value.isRef, FieldType.isReference]
      first | (intro acts; rw [hr _ acts rfl rfl rfl]) | rw [hr _ _ rfl rfl rfl]
      exact Steps.refl _)), hrun, hended, _, _, rfl, ?_, ⟨_, rfl⟩, hW, hsame.mono (by decide) (by decide)⟩
  show QFindN Z bV kV g0 y0 ty0 ky0 g1 y1 ty1 ky1 g2 y2 ty2 ky2 G1 h0 n0 _ T30.heap _
  rw [eq30]
  exact ⟨rfl, Nf30, K4⟩

def Q12 (Z : State) (p1 : Int32) (a2 : Addr) (k2 : ClassId) (c0 : Int32) (c1 : Int32) (c2 : Int32) (c3 : Int32) (c4 : Int32) (c5 : Int32) (c6 : Int32) (G1 : Int32) (h0 : Heap) (n0 : Nat) (v : Option Value) (h : Heap) (L : List Loc) : Prop := ∃ (b t : Addr) (kb : ClassId) (cs : List Int32), v = some (.ref b) ∧ Fr n0 L ∧ n0 ≤ b ∧ Keep h0 h [] ∧ Exa Z h b "java/lang/String" ∧ Fld Z h b "java/lang/String" "value" "[B" (.ref t) ∧ Fld Z h b "java/lang/String" "coder" "B" (.int (0 : Int32)) ∧ Arv Z h t kb .byte (Int32.ofNat cs.length) ((cs.map (fun c => c.toInt8.toInt32)).map Value.int) (.int (0 : Int32)) ∧ (∀ c ∈ cs, ¬ c < 0 ∧ ¬ (255 : Int32) < c) ∧ cs.length ≤ 64
theorem d_method_4_4 : decode method_4_code 4 = .ok (.new 16, 3) := by decide +kernel
theorem d_method_4_7 : decode method_4_code 7 = .ok (.dup, 1) := by decide +kernel
theorem d_method_4_8 : decode method_4_code 8 = .ok (.iconst 0, 1) := by decide +kernel
theorem d_method_4_9 : decode method_4_code 9 = .ok (.newarray .char, 2) := by decide +kernel
theorem d_method_4_11 : decode method_4_code 11 = .ok (.invokespecial 57, 3) := by decide +kernel
theorem d_method_4_14 : decode method_4_code 14 = .ok (.areturn, 1) := by decide +kernel
theorem pd_5 : parseMethodDescriptor "([C)V" = some ⟨[(.array .char)], none⟩ := by decide +kernel
set_option maxRecDepth 65536 in
set_option maxHeartbeats 40000000 in
theorem mk_0 {p : Program} {l : Launch} {e : Env} {s : State} {m : MethodId} {args : Array Value} {below : List Frame} {meth : Method} {c : Code} {T0 : State} {locs : List Loc} {Z : State} {a0 : Array Value} {h0 : Heap} {n0 : Nat} (p1 : Int32) (a2 : Addr) (k2 : ClassId) (c0 : Int32) (c1 : Int32) (c2 : Int32) (c3 : Int32) (c4 : Int32) (c5 : Int32) (c6 : Int32) (G1 : Int32) {vm0 : Vm} {k0 : Nat}
    (X0 : Stand p l e ({ frames := 6, cells := 4, slots := 20, locals := 90 } : Room) (s.setVm vm0) m args below meth c T0 locs 0 0) (hx : p.tables.exec = Jvm.exec) (hZ : Z.Warmed39 (s.setVm vm0).vm) (hw : ∀ d ∈ tables_1, d.before a0 Z = true) (hby : c.code = method_4_code) (hml : c.maxLocals = 2) (hown : (s.setVm vm0).vm.findClass "com/example/runs_to_scores/runstoscores/formats/SubtaskLabelledPinLaw" = some m.cls) (hret : meth.sig.returnType = some (.object "java/lang/String")) (hlk : meth.locks = false) (e0 : T0.heap = h0) (Nf0 : Fr n0 locs) (Z0 : n0 ≤ h0.size) (hS0 : s.Since vm0 k0) (hk0 : k0 ≤ h0.size) (H0 : CHr Z consts_1 s.vm s.heap vm0 h0) (A_a2 : Arv Z h0 a2 k2 .char (7 : Int32) [(.int c0), (.int c1), (.int c2), (.int c3), (.int c4), (.int c5), (.int c6)] (.int (0 : Int32))) (ok0 : own_ok c0) (ok1 : own_ok c1) (ok2 : own_ok c2) (ok3 : own_ok c3) (ok4 : own_ok c4) (ok5 : own_ok c5) (ok6 : own_ok c6) (O0 : Old Z n0 h0) (O2 : Sta Z Z.heap "java/lang/String" "COMPACT_STRINGS" "Z" (.int G1)) (P5 : ¬ (G1 = (0 : Int32))) :
    ∃ s₂ o, Steps p.tables e below (T0.setTop (mkF m 4 #[.val (.int p1), .val (.ref a2)] [])) s₂ ∧ s₂.status = .running ∧ Ended s₂ below o ∧ ∃ v L, o = .returned v ∧ Q12 Z p1 a2 k2 c0 c1 c2 c3 c4 c5 c6 G1 h0 n0 v s₂.heap L ∧ CHr Z consts_1 s.vm s.heap s₂.vm s₂.heap ∧ ReturnedEndW s o s₂ L ({ frames := 6, cells := 4, slots := 20, locals := 90 } : Room).cells ({ frames := 6, cells := 4, slots := 20, locals := 90 } : Room).slots := by
  have kn0 : ∀ t, own_S p e below T0 (mkF m 4 #[.val (.int p1), .val (.ref a2)] []) t → own_S p e below T0 (mkF m 4 #[.val (.int p1), .val (.ref a2)] []) t := fun t k => k
  have CR0 := H0
  obtain ⟨T1, h1, X1, e1, E1, A1, D1, -, st1⟩ := newO X0 hx hZ hown (hw _ (List.mem_of_getElem? (i := 82) rfl)) (hw _ (List.mem_of_getElem? (i := 2) rfl)) (hw _ (List.mem_of_getElem? (i := 1) rfl)) e0 (g := (mkF m 4 #[.val (.int p1), .val (.ref a2)] [])) rfl (hb hby d_method_4_4) (by decide) (by decide)
  obtain ⟨b1, g1⟩ : ∃ z, z = h0.size := ⟨_, rfl⟩
  rw [← g1] at A1 D1 st1
  have sz_b1 : h0.size ≤ b1 := Nat.le_trans (Keep.refl h0 []).1 (Nat.le_of_eq g1.symm)
  have g_b1 : n0 ≤ b1 := Nat.le_trans Z0 (Nat.le_of_eq g1.symm)
  have ne_a2_b1 : a2 ≠ b1 := Nat.ne_of_lt (Nat.lt_of_lt_of_le A_a2.lt (Nat.le_of_eq g1.symm))
  have CS2 := CHr.ext E1 CR0.1
  have CR2 := CR0.trans CS2
  have Z3 : n0 ≤ h1.size := Nat.le_trans Z0 E1.1
  have hk4 := Nat.le_trans hk0 E1.1
  have Od5 : Old Z n0 h1 := O0.ext E1
  have K6 : Keep h0 h1 [] := (Keep.refl h0 []).ext E1
  have SFn_b1 := Safe.ext E1 CR0.1 (Safe.new (x := b1) (Nat.le_of_eq g1.symm))
  have F1_4 : Fld Z h1 b1 "java/lang/String" "value" "[B" .null := D1 (Or.inr (hw _ (List.mem_of_getElem? (i := 4) rfl))) (ty := (.array .byte)) (by decide)
  have F1_5 : Fld Z h1 b1 "java/lang/String" "coder" "B" (.int (0 : Int32)) := D1 (Or.inr (hw _ (List.mem_of_getElem? (i := 5) rfl))) (ty := .byte) (by decide)
  have kn7 : ∀ t, own_S p e below T1 (mkF m 7 #[.val (.int p1), .val (.ref a2)] [(.ref b1)]) t → own_S p e below T0 (mkF m 4 #[.val (.int p1), .val (.ref a2)] []) t := fun t kt => kn0 t (st1 _ kt)
  have kn8 : ∀ t, own_S p e below T1 (mkF m 9 #[.val (.int p1), .val (.ref a2)] [(.int (0 : Int32)), (.ref b1), (.ref b1)]) t → own_S p e below T0 (mkF m 4 #[.val (.int p1), .val (.ref a2)] []) t := fun t kt => kn7 t (by
    show own_S p e below T1 (mkF m 7 #[.val (.int p1), .val (.ref a2)] [(.ref b1)]) _
    refine XS.dup X1.here hx rfl (hb hby d_method_4_7) rfl rfl ?_
    show own_S p e below T1 (mkF m 8 #[.val (.int p1), .val (.ref a2)] [(.ref b1), (.ref b1)]) _
    refine XS.iconst X1.here hx rfl (hb hby d_method_4_8) ?_
    exact kt)
  obtain ⟨T9, h9, kk9, X9, e9, E9, A9, st9⟩ := newP X1 hx hZ (hw _ (List.mem_of_getElem? (i := 21) rfl)) e1 (g := (mkF m 9 #[.val (.int p1), .val (.ref a2)] [(.int (0 : Int32)), (.ref b1), (.ref b1)])) rfl (hb hby d_method_4_9) rfl (by decide) (cap := 0) (by decide) (by decide) (by decide) (by decide)
  obtain ⟨b9, g9⟩ : ∃ z, z = h1.size := ⟨_, rfl⟩
  rw [← g9] at A9 st9
  have sz_b9 : h0.size ≤ b9 := Nat.le_trans K6.1 (Nat.le_of_eq g9.symm)
  have g_b9 : n0 ≤ b9 := Nat.le_trans Z3 (Nat.le_of_eq g9.symm)
  have f10 := (A_a2.ext E1)
  have ne_a2_b9 : a2 ≠ b9 := Nat.ne_of_lt (Nat.lt_of_lt_of_le f10.lt (Nat.le_of_eq g9.symm))
  have ne_b1_b9 : b1 ≠ b9 := Nat.ne_of_lt (Nat.lt_of_lt_of_le A1.lt (Nat.le_of_eq g9.symm))
  have CS11 := CHr.ext E9 CR2.1
  have CR11 := CR2.trans CS11
  have SF11_b1 := CS11.safe A1.lt SFn_b1
  have SL11_b1 := Nat.lt_of_lt_of_le A1.lt CS11.2.1
  have Z12 : n0 ≤ h9.size := Nat.le_trans Z3 E9.1
  have hk13 := Nat.le_trans hk4 E9.1
  have Od14 : Old Z n0 h9 := Od5.ext E9
  have K15 : Keep h0 h9 [] := K6.ext E9
  have V9 : Arv Z h9 b9 kk9 .char (0 : Int32) [] (.int (0 : Int32)) := (Arv.new A9 (by decide)).pad (pad_rep [] (.int (0 : Int32)) 0)
  have kn16 : ∀ t, own_S p e below T9 (mkF m 11 #[.val (.int p1), .val (.ref a2)] [(.ref b9), (.ref b1), (.ref b1)]) t → own_S p e below T0 (mkF m 4 #[.val (.int p1), .val (.ref a2)] []) t := fun t kt => kn8 t (st9 _ kt)
  have f18 := (F1_4.ext E9)
  have f19 := (F1_5.ext E9)
  have f20 := (A1.ext E9)
  obtain ⟨_, _, ⟨T17, L17, cc17, ss17⟩, -, X17, hSn17, hgr17, ⟨Lc17, hQ17, l17, y17, z17, CC17⟩, st17⟩ := X9.specialBackS hx (y := (⟨"java/lang/String", "<init>", "([C)V"⟩ : MethodName)) rfl hown (mvT hZ (hw _ (List.mem_of_getElem? (i := 83) rfl))) (mvT hZ (hw _ (List.mem_of_getElem? (i := 84) rfl))) (mvT hZ (hw _ (List.mem_of_getElem? (i := 85) rfl))) (by decide) (backOfSH (s := s) (vm0 := vm0) (W := 1) (rmE2 l Z a0 hw [] b1 b9 kk9 h9 n0 Z12 f18 f19 f20 g_b1 Od14 V9) hZ (hw _ (List.mem_of_getElem? (i := 85) rfl)) (hw _ (List.mem_of_getElem? (i := 1) rfl)) (by decide) (by decide) (own_EW hw) CR11.1) (g := (mkF m 11 #[.val (.int p1), .val (.ref a2)] [(.ref b9), (.ref b1), (.ref b1)])) rfl (by rw [hml]; rfl) (Steps.refl _) (a := b1) (argsL := [(.ref b9)]) (rest := [(.ref b1)]) (lenOf pd_5 rfl) rfl (by show 2 * 0 + _ ≤ _; exact Nat.le_of_eq rfl) (hb hby d_method_4_11) (fun _ _ => ⟨rfl, e9, (by decide : 2 + 2 ≤ _), (by decide : 4 + 8 ≤ _)⟩)
  dsimp only [Pt.U, Pt.locs, Pt.cells, Pt.slots] at CC17
  dsimp only [Pt.U, Pt.locs, Pt.cells, Pt.slots] at X17 l17 y17 z17 st17 hQ17
  subst l17 y17 z17
  have X17 : Stand p l e _ (s.setVm T17.vm) m _ below meth c T17 _ 4 12 := X17
  have hZ : Z.Warmed39 (s.setVm T17.vm).vm := State.Warmed39.trans (t := s.setVm vm0) hZ hSn17.1
  have hown : (s.setVm T17.vm).vm.findClass "com/example/runs_to_scores/runstoscores/formats/SubtaskLabelledPinLaw" = some m.cls := by rw [show (s.setVm T17.vm).vm = T17.vm from rfl, hSn17.1.alike.findClass]; exact hown
  have hSn17 : s.Since T17.vm T17.heap.size := foldS hS0 (by rw [e9]; exact hk13) hSn17 hgr17
  obtain ⟨rfl, Nq17, t17, kb17, K17, Ex17, Co17, Va17, Ar17⟩ := hQ17
  have Nf17 := Fr.app Nf0 Nq17
  have CR21 := CR11.trans CC17
  have SF21_b1 := CC17.safe SL11_b1 SF11_b1
  have SL21_b1 := Nat.lt_of_lt_of_le SL11_b1 CC17.2.1
  have Z22 : n0 ≤ T17.heap.size := Nat.le_trans Z12 K17.1
  have hk23 := Nat.le_trans hk13 K17.1
  have Od24 : Old Z n0 T17.heap := Od14.keep K17 (allS g_b1 all0)
  have K25 : Keep h0 T17.heap [] := K15.trans K17 (allS (Or.inr sz_b1) all0)
  have hp17 : ∀ c ∈ ([] : List Int32), ¬ c < 0 ∧ ¬ (255 : Int32) < c := own_f0
  have kn26 : ∀ t, own_S p e below T17 (mkF m 14 #[.val (.int p1), .val (.ref a2)] [(.ref b1)]) t → own_S p e below T0 (mkF m 4 #[.val (.int p1), .val (.ref a2)] []) t := fun t kt => kn16 t (st17.trans kt)
  obtain ⟨fs, hr, hrun, hended, hRW⟩ := X17.leaveW hSn17 (Nat.le_refl _) (v := some (.ref b1)) (fun h => by rw [hret] at h; cases h)
  have chE : CHr Z consts_1 s.vm s.heap T17.vm T17.heap := by exact CR21.trans (CHv.at X17 hZ (own_EW hw) CR21.1)
  refine ⟨_, _, id (kn26 _ (by
      show own_S p e below T17 (mkF m 14 #[.val (.int p1), .val (.ref a2)] [(.ref b1)]) _
      jvm_step X17.here [X17.here.top, hx, (hb hby d_method_4_14), X17.method', hret, Value.isRef, FieldType.isReference]
      first | (intro acts; rw [hr _ acts rfl rfl rfl]) | rw [hr _ _ rfl rfl rfl]
      exact Steps.refl _)), hrun, hended, _, _, rfl, ?_, chE, ⟨hRW.1, hRW.2.1, hRW.2.2.1, hRW.2.2.2.mono (by decide) (by decide)⟩⟩
  show Q12 Z p1 a2 k2 c0 c1 c2 c3 c4 c5 c6 G1 h0 n0 _ T17.heap _
  exact ⟨b1, t17, kb17, ([] : List Int32), rfl, Nf17, g_b1, K25, Ex17, Va17, Co17, Ar17, hp17, Nat.le_of_ble_eq_true rfl⟩

theorem d_method_4_20 : decode method_4_code 20 = .ok (.new 16, 3) := by decide +kernel
theorem d_method_4_23 : decode method_4_code 23 = .ok (.dup, 1) := by decide +kernel
theorem d_method_4_24 : decode method_4_code 24 = .ok (.iconst 1, 1) := by decide +kernel
theorem d_method_4_25 : decode method_4_code 25 = .ok (.newarray .char, 2) := by decide +kernel
theorem d_method_4_27 : decode method_4_code 27 = .ok (.dup, 1) := by decide +kernel
theorem d_method_4_28 : decode method_4_code 28 = .ok (.iconst 0, 1) := by decide +kernel
theorem d_method_4_29 : decode method_4_code 29 = .ok (.aload_n 1, 1) := by decide +kernel
theorem d_method_4_30 : decode method_4_code 30 = .ok (.iconst 0, 1) := by decide +kernel
theorem d_method_4_31 : decode method_4_code 31 = .ok (.caload, 1) := by decide +kernel
theorem d_method_4_32 : decode method_4_code 32 = .ok (.castore, 1) := by decide +kernel
theorem d_method_4_33 : decode method_4_code 33 = .ok (.invokespecial 57, 3) := by decide +kernel
theorem d_method_4_36 : decode method_4_code 36 = .ok (.areturn, 1) := by decide +kernel
set_option maxRecDepth 65536 in
set_option maxHeartbeats 40000000 in
theorem mk_1 {p : Program} {l : Launch} {e : Env} {s : State} {m : MethodId} {args : Array Value} {below : List Frame} {meth : Method} {c : Code} {T0 : State} {locs : List Loc} {Z : State} {a0 : Array Value} {h0 : Heap} {n0 : Nat} (p1 : Int32) (a2 : Addr) (k2 : ClassId) (c0 : Int32) (c1 : Int32) (c2 : Int32) (c3 : Int32) (c4 : Int32) (c5 : Int32) (c6 : Int32) (G1 : Int32) {vm0 : Vm} {k0 : Nat}
    (X0 : Stand p l e ({ frames := 6, cells := 4, slots := 20, locals := 90 } : Room) (s.setVm vm0) m args below meth c T0 locs 0 0) (hx : p.tables.exec = Jvm.exec) (hZ : Z.Warmed39 (s.setVm vm0).vm) (hw : ∀ d ∈ tables_1, d.before a0 Z = true) (hby : c.code = method_4_code) (hml : c.maxLocals = 2) (hown : (s.setVm vm0).vm.findClass "com/example/runs_to_scores/runstoscores/formats/SubtaskLabelledPinLaw" = some m.cls) (hret : meth.sig.returnType = some (.object "java/lang/String")) (hlk : meth.locks = false) (e0 : T0.heap = h0) (Nf0 : Fr n0 locs) (Z0 : n0 ≤ h0.size) (hS0 : s.Since vm0 k0) (hk0 : k0 ≤ h0.size) (H0 : CHr Z consts_1 s.vm s.heap vm0 h0) (A_a2 : Arv Z h0 a2 k2 .char (7 : Int32) [(.int c0), (.int c1), (.int c2), (.int c3), (.int c4), (.int c5), (.int c6)] (.int (0 : Int32))) (ok0 : own_ok c0) (ok1 : own_ok c1) (ok2 : own_ok c2) (ok3 : own_ok c3) (ok4 : own_ok c4) (ok5 : own_ok c5) (ok6 : own_ok c6) (O0 : Old Z n0 h0) (O2 : Sta Z Z.heap "java/lang/String" "COMPACT_STRINGS" "Z" (.int G1)) (P5 : ¬ (G1 = (0 : Int32))) :
    ∃ s₂ o, Steps p.tables e below (T0.setTop (mkF m 20 #[.val (.int p1), .val (.ref a2)] [])) s₂ ∧ s₂.status = .running ∧ Ended s₂ below o ∧ ∃ v L, o = .returned v ∧ Q12 Z p1 a2 k2 c0 c1 c2 c3 c4 c5 c6 G1 h0 n0 v s₂.heap L ∧ CHr Z consts_1 s.vm s.heap s₂.vm s₂.heap ∧ ReturnedEndW s o s₂ L ({ frames := 6, cells := 4, slots := 20, locals := 90 } : Room).cells ({ frames := 6, cells := 4, slots := 20, locals := 90 } : Room).slots := by
  have kn0 : ∀ t, own_S p e below T0 (mkF m 20 #[.val (.int p1), .val (.ref a2)] []) t → own_S p e below T0 (mkF m 20 #[.val (.int p1), .val (.ref a2)] []) t := fun t k => k
  have CR0 := H0
  obtain ⟨T1, h1, X1, e1, E1, A1, D1, -, st1⟩ := newO X0 hx hZ hown (hw _ (List.mem_of_getElem? (i := 82) rfl)) (hw _ (List.mem_of_getElem? (i := 2) rfl)) (hw _ (List.mem_of_getElem? (i := 1) rfl)) e0 (g := (mkF m 20 #[.val (.int p1), .val (.ref a2)] [])) rfl (hb hby d_method_4_20) (by decide) (by decide)
  obtain ⟨b1, g1⟩ : ∃ z, z = h0.size := ⟨_, rfl⟩
  rw [← g1] at A1 D1 st1
  have sz_b1 : h0.size ≤ b1 := Nat.le_trans (Keep.refl h0 []).1 (Nat.le_of_eq g1.symm)
  have g_b1 : n0 ≤ b1 := Nat.le_trans Z0 (Nat.le_of_eq g1.symm)
  have ne_a2_b1 : a2 ≠ b1 := Nat.ne_of_lt (Nat.lt_of_lt_of_le A_a2.lt (Nat.le_of_eq g1.symm))
  have CS2 := CHr.ext E1 CR0.1
  have CR2 := CR0.trans CS2
  have Z3 : n0 ≤ h1.size := Nat.le_trans Z0 E1.1
  have hk4 := Nat.le_trans hk0 E1.1
  have Od5 : Old Z n0 h1 := O0.ext E1
  have K6 : Keep h0 h1 [] := (Keep.refl h0 []).ext E1
  have SFn_b1 := Safe.ext E1 CR0.1 (Safe.new (x := b1) (Nat.le_of_eq g1.symm))
  have F1_4 : Fld Z h1 b1 "java/lang/String" "value" "[B" .null := D1 (Or.inr (hw _ (List.mem_of_getElem? (i := 4) rfl))) (ty := (.array .byte)) (by decide)
  have F1_5 : Fld Z h1 b1 "java/lang/String" "coder" "B" (.int (0 : Int32)) := D1 (Or.inr (hw _ (List.mem_of_getElem? (i := 5) rfl))) (ty := .byte) (by decide)
  have kn7 : ∀ t, own_S p e below T1 (mkF m 23 #[.val (.int p1), .val (.ref a2)] [(.ref b1)]) t → own_S p e below T0 (mkF m 20 #[.val (.int p1), .val (.ref a2)] []) t := fun t kt => kn0 t (st1 _ kt)
  have kn8 : ∀ t, own_S p e below T1 (mkF m 25 #[.val (.int p1), .val (.ref a2)] [(.int (1 : Int32)), (.ref b1), (.ref b1)]) t → own_S p e below T0 (mkF m 20 #[.val (.int p1), .val (.ref a2)] []) t := fun t kt => kn7 t (by
    show own_S p e below T1 (mkF m 23 #[.val (.int p1), .val (.ref a2)] [(.ref b1)]) _
    refine XS.dup X1.here hx rfl (hb hby d_method_4_23) rfl rfl ?_
    show own_S p e below T1 (mkF m 24 #[.val (.int p1), .val (.ref a2)] [(.ref b1), (.ref b1)]) _
    refine XS.iconst X1.here hx rfl (hb hby d_method_4_24) ?_
    exact kt)
  obtain ⟨T9, h9, kk9, X9, e9, E9, A9, st9⟩ := newP X1 hx hZ (hw _ (List.mem_of_getElem? (i := 21) rfl)) e1 (g := (mkF m 25 #[.val (.int p1), .val (.ref a2)] [(.int (1 : Int32)), (.ref b1), (.ref b1)])) rfl (hb hby d_method_4_25) rfl (by decide) (cap := 1) (by decide) (by decide) (by decide) (by decide)
  obtain ⟨b9, g9⟩ : ∃ z, z = h1.size := ⟨_, rfl⟩
  rw [← g9] at A9 st9
  have sz_b9 : h0.size ≤ b9 := Nat.le_trans K6.1 (Nat.le_of_eq g9.symm)
  have g_b9 : n0 ≤ b9 := Nat.le_trans Z3 (Nat.le_of_eq g9.symm)
  have f10 := (A_a2.ext E1)
  have ne_a2_b9 : a2 ≠ b9 := Nat.ne_of_lt (Nat.lt_of_lt_of_le f10.lt (Nat.le_of_eq g9.symm))
  have ne_b1_b9 : b1 ≠ b9 := Nat.ne_of_lt (Nat.lt_of_lt_of_le A1.lt (Nat.le_of_eq g9.symm))
  have CS11 := CHr.ext E9 CR2.1
  have CR11 := CR2.trans CS11
  have SF11_b1 := CS11.safe A1.lt SFn_b1
  have SL11_b1 := Nat.lt_of_lt_of_le A1.lt CS11.2.1
  have Z12 : n0 ≤ h9.size := Nat.le_trans Z3 E9.1
  have hk13 := Nat.le_trans hk4 E9.1
  have Od14 : Old Z n0 h9 := Od5.ext E9
  have K15 : Keep h0 h9 [] := K6.ext E9
  have V9 : Arv Z h9 b9 kk9 .char (1 : Int32) [(.int (0 : Int32))] (.int (0 : Int32)) := (Arv.new A9 (by decide)).pad (pad_rep [] (.int (0 : Int32)) 1)
  have kn16 : ∀ t, own_S p e below T9 (mkF m 27 #[.val (.int p1), .val (.ref a2)] [(.ref b9), (.ref b1), (.ref b1)]) t → own_S p e below T0 (mkF m 20 #[.val (.int p1), .val (.ref a2)] []) t := fun t kt => kn8 t (st9 _ kt)
  have kn17 : ∀ t, own_S p e below T9 (mkF m 31 #[.val (.int p1), .val (.ref a2)] [(.int (0 : Int32)), (.ref a2), (.int (0 : Int32)), (.ref b9), (.ref b9), (.ref b1), (.ref b1)]) t → own_S p e below T0 (mkF m 20 #[.val (.int p1), .val (.ref a2)] []) t := fun t kt => kn16 t (by
    show own_S p e below T9 (mkF m 27 #[.val (.int p1), .val (.ref a2)] [(.ref b9), (.ref b1), (.ref b1)]) _
    refine XS.dup X9.here hx rfl (hb hby d_method_4_27) rfl rfl ?_
    show own_S p e below T9 (mkF m 28 #[.val (.int p1), .val (.ref a2)] [(.ref b9), (.ref b9), (.ref b1), (.ref b1)]) _
    refine XS.iconst X9.here hx rfl (hb hby d_method_4_28) ?_
    show own_S p e below T9 (mkF m 29 #[.val (.int p1), .val (.ref a2)] [(.int (0 : Int32)), (.ref b9), (.ref b9), (.ref b1), (.ref b1)]) _
    refine XS.aloadN X9.here hx rfl (hb hby d_method_4_29) rfl rfl ?_
    show own_S p e below T9 (mkF m 30 #[.val (.int p1), .val (.ref a2)] [(.ref a2), (.int (0 : Int32)), (.ref b9), (.ref b9), (.ref b1), (.ref b1)]) _
    refine XS.iconst X9.here hx rfl (hb hby d_method_4_30) ?_
    exact kt)
  have f18 := (f10.ext E9)
  obtain ⟨cl19, Ar19, q19, Sz19, Ng19, Hs19, Gs19⟩ := id f18
  have hin19 : ¬ ((0 : Int32) < 0 ∨ cl19.slots.size ≤ ((0 : Int32)).toNatClampNeg) := inb_of Sz19 ⟨by decide, by decide⟩
  have hat19 : cl19.slots[((0 : Int32)).toNatClampNeg]? = some (.int c0) := Hs19.at hin19 rfl
  have kn20 : ∀ t, own_S p e below T9 (mkF m 32 #[.val (.int p1), .val (.ref a2)] [(.int c0), (.int (0 : Int32)), (.ref b9), (.ref b9), (.ref b1), (.ref b1)]) t → own_S p e below T0 (mkF m 20 #[.val (.int p1), .val (.ref a2)] []) t := fun t kt => kn17 t (by
    show own_S p e below T9 (mkF m 31 #[.val (.int p1), .val (.ref a2)] [(.int (0 : Int32)), (.ref a2), (.int (0 : Int32)), (.ref b9), (.ref b9), (.ref b1), (.ref b1)]) _
    refine X9.caload hx (j := (0 : Int32)) (v := (.int c0)) (by rw [e9]; exact Ar19.1) (State.isArrayOf_alike hZ.alike Ar19.2.1) Ar19.2.2 hin19 hat19 (g := (mkF m 31 #[.val (.int p1), .val (.ref a2)] [(.int (0 : Int32)), (.ref a2), (.int (0 : Int32)), (.ref b9), (.ref b9), (.ref b1), (.ref b1)])) rfl rfl (hb hby d_method_4_31) _ ?_
    exact kt)
  obtain ⟨cl21, Ar21, q21, Sz21, Ng21, Hs21, Gs21⟩ := id V9
  have hin21 : ¬ ((0 : Int32) < 0 ∨ cl21.slots.size ≤ ((0 : Int32)).toNatClampNeg) := inb_of Sz21 ⟨by decide, by decide⟩
  obtain ⟨T21, h21, X21, e21, W21, st21⟩ := stC X9 hx hZ e9 Ar21 (j := (0 : Int32)) hin21 (g := (mkF m 32 #[.val (.int p1), .val (.ref a2)] [(.int c0), (.int (0 : Int32)), (.ref b9), (.ref b9), (.ref b1), (.ref b1)])) rfl rfl (hb hby d_method_4_32)
  have CS22 := CHr.wr W21 (Safe.arr hZ.alike Ar21 nofun) CR11.1
  have CR22 := CR11.trans CS22
  have SF22_b1 := CS22.safe SL11_b1 SF11_b1
  have SL22_b1 := Nat.lt_of_lt_of_le SL11_b1 CS22.2.1
  have Z23 : n0 ≤ h21.size := Nat.le_trans Z12 (Keep.of_wr W21).1
  have hk24 := Nat.le_trans hk13 (Keep.of_wr W21).1
  have Od25 : Old Z n0 h21 := Od14.wr W21 g_b9
  have K26 : Keep h0 h21 [] := K15.wr W21 (Or.inr sz_b9)
  have V21 : Arv Z h21 b9 kk9 .char (1 : Int32) [(.int (c0.toUInt32.toUInt16.toUInt32.toInt32))] (.int (0 : Int32)) := Arv.set Ar21 q21 Sz21 Ng21 Hs21 Gs21 (fits_nar_char _) W21 0 rfl (Nat.le_of_ble_eq_true rfl)
  rw [(show (c0.toUInt32.toUInt16.toUInt32.toInt32) = c0 from ok0.2.2)] at V21
  have Nf27 := Fr.snoc X21 Nf0 g_b9
  have kn28 : ∀ t, own_S p e below T21 (mkF m 33 #[.val (.int p1), .val (.ref a2)] [(.ref b9), (.ref b1), (.ref b1)]) t → own_S p e below T0 (mkF m 20 #[.val (.int p1), .val (.ref a2)] []) t := fun t kt => kn20 t (st21 _ kt)
  have hws : ∀ d ∈ StrChars.Road.words, d.before a0 Z = true := fun d hd => hw d ((by decide +kernel : ∀ d ∈ StrChars.Road.words, d ∈ tables_1) d hd)
  have hp30 : ∀ c ∈ ([c0] : List Int32), ¬ c < 0 ∧ ¬ (255 : Int32) < c := (own_fa ⟨ok0.1, ok0.2.1⟩ own_f0)
  have f31 := ((A1.ext E9).wr W21)
  have f32 := ((F1_4.ext E9).other W21 (Or.inl ne_b1_b9))
  have f33 := ((F1_5.ext E9).other W21 (Or.inl ne_b1_b9))
  obtain ⟨_, _, ⟨T29, L29, cc29, ss29⟩, -, X29, ⟨Lc29, hQ29, l29, y29, z29⟩, st29⟩ := X21.specialBack hx (y := (⟨"java/lang/String", "<init>", "([C)V"⟩ : MethodName)) rfl hown (mvT hZ (hw _ (List.mem_of_getElem? (i := 83) rfl))) (mvT hZ (hw _ (List.mem_of_getElem? (i := 84) rfl))) (mvT hZ (hw _ (List.mem_of_getElem? (i := 85) rfl))) (by decide) (StrChars.Road.backV (W := 1) hZ hws (kI := 4) (hw _ (List.mem_of_getElem? (i := 2) rfl)) (cs := ([c0] : List Int32)) (bs := ([c0] : List Int32).map (fun c => c.toInt8.toInt32)) (n := 1) g_b1 Z23 f31 f32 f33 V21 (O2.ext Od25.2) P5 rfl rfl (by decide) (by decide) hp30 rfl (by decide) (by decide)) (g := (mkF m 33 #[.val (.int p1), .val (.ref a2)] [(.ref b9), (.ref b1), (.ref b1)])) rfl (by rw [hml]; rfl) (Steps.refl _) (a := b1) (argsL := [(.ref b9)]) (rest := [(.ref b1)]) (lenOf pd_5 rfl) rfl (by show 2 * 0 + _ ≤ _; exact Nat.le_of_eq rfl) (hb hby d_method_4_33) (fun _ _ => ⟨rfl, e21, (by decide : 2 + 1 ≤ _), (by decide : 5 + 1 ≤ _)⟩)
  dsimp only [Pt.U, Pt.locs, Pt.cells, Pt.slots] at X29 l29 y29 z29 st29 hQ29
  subst l29 y29 z29
  have X29 : Stand p l e _ _ m _ below meth c T29 _ 3 6 := X29
  obtain ⟨rfl, Nq29, K29, Ex29, Co29, t29, kb29, ga29, sa29, nx29, Va29, Ar29⟩ := hQ29
  have Nf29 := Fr.app Nf27 Nq29
  have CS34 := CHr.keep K29 (allS SF22_b1 all0) CR22.1
  have CR34 := CR22.trans CS34
  have SF34_b1 := CS34.safe SL22_b1 SF22_b1
  have SL34_b1 := Nat.lt_of_lt_of_le SL22_b1 CS34.2.1
  have Z35 : n0 ≤ T29.heap.size := Nat.le_trans Z23 K29.1
  have hk36 := Nat.le_trans hk24 K29.1
  have Od37 : Old Z n0 T29.heap := Od25.keep K29 (allS g_b1 all0)
  have K38 : Keep h0 T29.heap [] := K26.trans K29 (allS (Or.inr sz_b1) all0)
  have kn39 : ∀ t, own_S p e below T29 (mkF m 36 #[.val (.int p1), .val (.ref a2)] [(.ref b1)]) t → own_S p e below T0 (mkF m 20 #[.val (.int p1), .val (.ref a2)] []) t := fun t kt => kn28 t (st29.trans kt)
  obtain ⟨fs, hr, hrun, hended, hRW⟩ := X29.leaveW hS0 hk36 (v := some (.ref b1)) (fun h => by rw [hret] at h; cases h)
  have chE : CHr Z consts_1 s.vm s.heap T29.vm T29.heap := by exact CR34.trans (CHv.at X29 hZ (own_EW hw) CR34.1)
  refine ⟨_, _, id (kn39 _ (by
      show own_S p e below T29 (mkF m 36 #[.val (.int p1), .val (.ref a2)] [(.ref b1)]) _
      jvm_step X29.here [X29.here.top, hx, (hb hby d_method_4_36), X29.method', hret, Value.isRef, FieldType.isReference]
      first | (intro acts; rw [hr _ acts rfl rfl rfl]) | rw [hr _ _ rfl rfl rfl]
      exact Steps.refl _)), hrun, hended, _, _, rfl, ?_, chE, ⟨hRW.1, hRW.2.1, hRW.2.2.1, hRW.2.2.2.mono (by decide) (by decide)⟩⟩
  show Q12 Z p1 a2 k2 c0 c1 c2 c3 c4 c5 c6 G1 h0 n0 _ T29.heap _
  exact ⟨b1, t29, kb29, ([c0] : List Int32), rfl, Nf29, g_b1, K38, Ex29, Va29, Co29, Ar29, hp30, Nat.le_of_ble_eq_true rfl⟩

theorem d_method_4_42 : decode method_4_code 42 = .ok (.new 16, 3) := by decide +kernel
theorem d_method_4_45 : decode method_4_code 45 = .ok (.dup, 1) := by decide +kernel
theorem d_method_4_46 : decode method_4_code 46 = .ok (.iconst 2, 1) := by decide +kernel
theorem d_method_4_47 : decode method_4_code 47 = .ok (.newarray .char, 2) := by decide +kernel
theorem d_method_4_49 : decode method_4_code 49 = .ok (.dup, 1) := by decide +kernel
theorem d_method_4_50 : decode method_4_code 50 = .ok (.iconst 0, 1) := by decide +kernel
theorem d_method_4_51 : decode method_4_code 51 = .ok (.aload_n 1, 1) := by decide +kernel
theorem d_method_4_52 : decode method_4_code 52 = .ok (.iconst 0, 1) := by decide +kernel
theorem d_method_4_53 : decode method_4_code 53 = .ok (.caload, 1) := by decide +kernel
theorem d_method_4_54 : decode method_4_code 54 = .ok (.castore, 1) := by decide +kernel
theorem d_method_4_55 : decode method_4_code 55 = .ok (.dup, 1) := by decide +kernel
theorem d_method_4_56 : decode method_4_code 56 = .ok (.iconst 1, 1) := by decide +kernel
theorem d_method_4_57 : decode method_4_code 57 = .ok (.aload_n 1, 1) := by decide +kernel
theorem d_method_4_58 : decode method_4_code 58 = .ok (.iconst 1, 1) := by decide +kernel
theorem d_method_4_59 : decode method_4_code 59 = .ok (.caload, 1) := by decide +kernel
theorem d_method_4_60 : decode method_4_code 60 = .ok (.castore, 1) := by decide +kernel
theorem d_method_4_61 : decode method_4_code 61 = .ok (.invokespecial 57, 3) := by decide +kernel
theorem d_method_4_64 : decode method_4_code 64 = .ok (.areturn, 1) := by decide +kernel
set_option maxRecDepth 65536 in
set_option maxHeartbeats 40000000 in
theorem mk_2 {p : Program} {l : Launch} {e : Env} {s : State} {m : MethodId} {args : Array Value} {below : List Frame} {meth : Method} {c : Code} {T0 : State} {locs : List Loc} {Z : State} {a0 : Array Value} {h0 : Heap} {n0 : Nat} (p1 : Int32) (a2 : Addr) (k2 : ClassId) (c0 : Int32) (c1 : Int32) (c2 : Int32) (c3 : Int32) (c4 : Int32) (c5 : Int32) (c6 : Int32) (G1 : Int32) {vm0 : Vm} {k0 : Nat}
    (X0 : Stand p l e ({ frames := 6, cells := 4, slots := 20, locals := 90 } : Room) (s.setVm vm0) m args below meth c T0 locs 0 0) (hx : p.tables.exec = Jvm.exec) (hZ : Z.Warmed39 (s.setVm vm0).vm) (hw : ∀ d ∈ tables_1, d.before a0 Z = true) (hby : c.code = method_4_code) (hml : c.maxLocals = 2) (hown : (s.setVm vm0).vm.findClass "com/example/runs_to_scores/runstoscores/formats/SubtaskLabelledPinLaw" = some m.cls) (hret : meth.sig.returnType = some (.object "java/lang/String")) (hlk : meth.locks = false) (e0 : T0.heap = h0) (Nf0 : Fr n0 locs) (Z0 : n0 ≤ h0.size) (hS0 : s.Since vm0 k0) (hk0 : k0 ≤ h0.size) (H0 : CHr Z consts_1 s.vm s.heap vm0 h0) (A_a2 : Arv Z h0 a2 k2 .char (7 : Int32) [(.int c0), (.int c1), (.int c2), (.int c3), (.int c4), (.int c5), (.int c6)] (.int (0 : Int32))) (ok0 : own_ok c0) (ok1 : own_ok c1) (ok2 : own_ok c2) (ok3 : own_ok c3) (ok4 : own_ok c4) (ok5 : own_ok c5) (ok6 : own_ok c6) (O0 : Old Z n0 h0) (O2 : Sta Z Z.heap "java/lang/String" "COMPACT_STRINGS" "Z" (.int G1)) (P5 : ¬ (G1 = (0 : Int32))) :
    ∃ s₂ o, Steps p.tables e below (T0.setTop (mkF m 42 #[.val (.int p1), .val (.ref a2)] [])) s₂ ∧ s₂.status = .running ∧ Ended s₂ below o ∧ ∃ v L, o = .returned v ∧ Q12 Z p1 a2 k2 c0 c1 c2 c3 c4 c5 c6 G1 h0 n0 v s₂.heap L ∧ CHr Z consts_1 s.vm s.heap s₂.vm s₂.heap ∧ ReturnedEndW s o s₂ L ({ frames := 6, cells := 4, slots := 20, locals := 90 } : Room).cells ({ frames := 6, cells := 4, slots := 20, locals := 90 } : Room).slots := by
  have kn0 : ∀ t, own_S p e below T0 (mkF m 42 #[.val (.int p1), .val (.ref a2)] []) t → own_S p e below T0 (mkF m 42 #[.val (.int p1), .val (.ref a2)] []) t := fun t k => k
  have CR0 := H0
  obtain ⟨T1, h1, X1, e1, E1, A1, D1, -, st1⟩ := newO X0 hx hZ hown (hw _ (List.mem_of_getElem? (i := 82) rfl)) (hw _ (List.mem_of_getElem? (i := 2) rfl)) (hw _ (List.mem_of_getElem? (i := 1) rfl)) e0 (g := (mkF m 42 #[.val (.int p1), .val (.ref a2)] [])) rfl (hb hby d_method_4_42) (by decide) (by decide)
  obtain ⟨b1, g1⟩ : ∃ z, z = h0.size := ⟨_, rfl⟩
  rw [← g1] at A1 D1 st1
  have sz_b1 : h0.size ≤ b1 := Nat.le_trans (Keep.refl h0 []).1 (Nat.le_of_eq g1.symm)
  have g_b1 : n0 ≤ b1 := Nat.le_trans Z0 (Nat.le_of_eq g1.symm)
  have ne_a2_b1 : a2 ≠ b1 := Nat.ne_of_lt (Nat.lt_of_lt_of_le A_a2.lt (Nat.le_of_eq g1.symm))
  have CS2 := CHr.ext E1 CR0.1
  have CR2 := CR0.trans CS2
  have Z3 : n0 ≤ h1.size := Nat.le_trans Z0 E1.1
  have hk4 := Nat.le_trans hk0 E1.1
  have Od5 : Old Z n0 h1 := O0.ext E1
  have K6 : Keep h0 h1 [] := (Keep.refl h0 []).ext E1
  have SFn_b1 := Safe.ext E1 CR0.1 (Safe.new (x := b1) (Nat.le_of_eq g1.symm))
  have F1_4 : Fld Z h1 b1 "java/lang/String" "value" "[B" .null := D1 (Or.inr (hw _ (List.mem_of_getElem? (i := 4) rfl))) (ty := (.array .byte)) (by decide)
  have F1_5 : Fld Z h1 b1 "java/lang/String" "coder" "B" (.int (0 : Int32)) := D1 (Or.inr (hw _ (List.mem_of_getElem? (i := 5) rfl))) (ty := .byte) (by decide)
  have kn7 : ∀ t, own_S p e below T1 (mkF m 45 #[.val (.int p1), .val (.ref a2)] [(.ref b1)]) t → own_S p e below T0 (mkF m 42 #[.val (.int p1), .val (.ref a2)] []) t := fun t kt => kn0 t (st1 _ kt)
  have kn8 : ∀ t, own_S p e below T1 (mkF m 47 #[.val (.int p1), .val (.ref a2)] [(.int (2 : Int32)), (.ref b1), (.ref b1)]) t → own_S p e below T0 (mkF m 42 #[.val (.int p1), .val (.ref a2)] []) t := fun t kt => kn7 t (by
    show own_S p e below T1 (mkF m 45 #[.val (.int p1), .val (.ref a2)] [(.ref b1)]) _
    refine XS.dup X1.here hx rfl (hb hby d_method_4_45) rfl rfl ?_
    show own_S p e below T1 (mkF m 46 #[.val (.int p1), .val (.ref a2)] [(.ref b1), (.ref b1)]) _
    refine XS.iconst X1.here hx rfl (hb hby d_method_4_46) ?_
    exact kt)
  obtain ⟨T9, h9, kk9, X9, e9, E9, A9, st9⟩ := newP X1 hx hZ (hw _ (List.mem_of_getElem? (i := 21) rfl)) e1 (g := (mkF m 47 #[.val (.int p1), .val (.ref a2)] [(.int (2 : Int32)), (.ref b1), (.ref b1)])) rfl (hb hby d_method_4_47) rfl (by decide) (cap := 2) (by decide) (by decide) (by decide) (by decide)
  obtain ⟨b9, g9⟩ : ∃ z, z = h1.size := ⟨_, rfl⟩
  rw [← g9] at A9 st9
  have sz_b9 : h0.size ≤ b9 := Nat.le_trans K6.1 (Nat.le_of_eq g9.symm)
  have g_b9 : n0 ≤ b9 := Nat.le_trans Z3 (Nat.le_of_eq g9.symm)
  have f10 := (A_a2.ext E1)
  have ne_a2_b9 : a2 ≠ b9 := Nat.ne_of_lt (Nat.lt_of_lt_of_le f10.lt (Nat.le_of_eq g9.symm))
  have ne_b1_b9 : b1 ≠ b9 := Nat.ne_of_lt (Nat.lt_of_lt_of_le A1.lt (Nat.le_of_eq g9.symm))
  have CS11 := CHr.ext E9 CR2.1
  have CR11 := CR2.trans CS11
  have SF11_b1 := CS11.safe A1.lt SFn_b1
  have SL11_b1 := Nat.lt_of_lt_of_le A1.lt CS11.2.1
  have Z12 : n0 ≤ h9.size := Nat.le_trans Z3 E9.1
  have hk13 := Nat.le_trans hk4 E9.1
  have Od14 : Old Z n0 h9 := Od5.ext E9
  have K15 : Keep h0 h9 [] := K6.ext E9
  have V9 : Arv Z h9 b9 kk9 .char (2 : Int32) [(.int (0 : Int32)), (.int (0 : Int32))] (.int (0 : Int32)) := (Arv.new A9 (by decide)).pad (pad_rep [] (.int (0 : Int32)) 2)
  have kn16 : ∀ t, own_S p e below T9 (mkF m 49 #[.val (.int p1), .val (.ref a2)] [(.ref b9), (.ref b1), (.ref b1)]) t → own_S p e below T0 (mkF m 42 #[.val (.int p1), .val (.ref a2)] []) t := fun t kt => kn8 t (st9 _ kt)
  have kn17 : ∀ t, own_S p e below T9 (mkF m 53 #[.val (.int p1), .val (.ref a2)] [(.int (0 : Int32)), (.ref a2), (.int (0 : Int32)), (.ref b9), (.ref b9), (.ref b1), (.ref b1)]) t → own_S p e below T0 (mkF m 42 #[.val (.int p1), .val (.ref a2)] []) t := fun t kt => kn16 t (by
    show own_S p e below T9 (mkF m 49 #[.val (.int p1), .val (.ref a2)] [(.ref b9), (.ref b1), (.ref b1)]) _
    refine XS.dup X9.here hx rfl (hb hby d_method_4_49) rfl rfl ?_
    show own_S p e below T9 (mkF m 50 #[.val (.int p1), .val (.ref a2)] [(.ref b9), (.ref b9), (.ref b1), (.ref b1)]) _
    refine XS.iconst X9.here hx rfl (hb hby d_method_4_50) ?_
    show own_S p e below T9 (mkF m 51 #[.val (.int p1), .val (.ref a2)] [(.int (0 : Int32)), (.ref b9), (.ref b9), (.ref b1), (.ref b1)]) _
    refine XS.aloadN X9.here hx rfl (hb hby d_method_4_51) rfl rfl ?_
    show own_S p e below T9 (mkF m 52 #[.val (.int p1), .val (.ref a2)] [(.ref a2), (.int (0 : Int32)), (.ref b9), (.ref b9), (.ref b1), (.ref b1)]) _
    refine XS.iconst X9.here hx rfl (hb hby d_method_4_52) ?_
    exact kt)
  have f18 := (f10.ext E9)
  obtain ⟨cl19, Ar19, q19, Sz19, Ng19, Hs19, Gs19⟩ := id f18
  have hin19 : ¬ ((0 : Int32) < 0 ∨ cl19.slots.size ≤ ((0 : Int32)).toNatClampNeg) := inb_of Sz19 ⟨by decide, by decide⟩
  have hat19 : cl19.slots[((0 : Int32)).toNatClampNeg]? = some (.int c0) := Hs19.at hin19 rfl
  have kn20 : ∀ t, own_S p e below T9 (mkF m 54 #[.val (.int p1), .val (.ref a2)] [(.int c0), (.int (0 : Int32)), (.ref b9), (.ref b9), (.ref b1), (.ref b1)]) t → own_S p e below T0 (mkF m 42 #[.val (.int p1), .val (.ref a2)] []) t := fun t kt => kn17 t (by
    show own_S p e below T9 (mkF m 53 #[.val (.int p1), .val (.ref a2)] [(.int (0 : Int32)), (.ref a2), (.int (0 : Int32)), (.ref b9), (.ref b9), (.ref b1), (.ref b1)]) _
    refine X9.caload hx (j := (0 : Int32)) (v := (.int c0)) (by rw [e9]; exact Ar19.1) (State.isArrayOf_alike hZ.alike Ar19.2.1) Ar19.2.2 hin19 hat19 (g := (mkF m 53 #[.val (.int p1), .val (.ref a2)] [(.int (0 : Int32)), (.ref a2), (.int (0 : Int32)), (.ref b9), (.ref b9), (.ref b1), (.ref b1)])) rfl rfl (hb hby d_method_4_53) _ ?_
    exact kt)
  obtain ⟨cl21, Ar21, q21, Sz21, Ng21, Hs21, Gs21⟩ := id V9
  have hin21 : ¬ ((0 : Int32) < 0 ∨ cl21.slots.size ≤ ((0 : Int32)).toNatClampNeg) := inb_of Sz21 ⟨by decide, by decide⟩
  obtain ⟨T21, h21, X21, e21, W21, st21⟩ := stC X9 hx hZ e9 Ar21 (j := (0 : Int32)) hin21 (g := (mkF m 54 #[.val (.int p1), .val (.ref a2)] [(.int c0), (.int (0 : Int32)), (.ref b9), (.ref b9), (.ref b1), (.ref b1)])) rfl rfl (hb hby d_method_4_54)
  have CS22 := CHr.wr W21 (Safe.arr hZ.alike Ar21 nofun) CR11.1
  have CR22 := CR11.trans CS22
  have SF22_b1 := CS22.safe SL11_b1 SF11_b1
  have SL22_b1 := Nat.lt_of_lt_of_le SL11_b1 CS22.2.1
  have Z23 : n0 ≤ h21.size := Nat.le_trans Z12 (Keep.of_wr W21).1
  have hk24 := Nat.le_trans hk13 (Keep.of_wr W21).1
  have Od25 : Old Z n0 h21 := Od14.wr W21 g_b9
  have K26 : Keep h0 h21 [] := K15.wr W21 (Or.inr sz_b9)
  have V21 : Arv Z h21 b9 kk9 .char (2 : Int32) [(.int (c0.toUInt32.toUInt16.toUInt32.toInt32)), (.int (0 : Int32))] (.int (0 : Int32)) := Arv.set Ar21 q21 Sz21 Ng21 Hs21 Gs21 (fits_nar_char _) W21 0 rfl (Nat.le_of_ble_eq_true rfl)
  rw [(show (c0.toUInt32.toUInt16.toUInt32.toInt32) = c0 from ok0.2.2)] at V21
  have Nf27 := Fr.snoc X21 Nf0 g_b9
  have kn28 : ∀ t, own_S p e below T21 (mkF m 55 #[.val (.int p1), .val (.ref a2)] [(.ref b9), (.ref b1), (.ref b1)]) t → own_S p e below T0 (mkF m 42 #[.val (.int p1), .val (.ref a2)] []) t := fun t kt => kn20 t (st21 _ kt)
  have kn29 : ∀ t, own_S p e below T21 (mkF m 59 #[.val (.int p1), .val (.ref a2)] [(.int (1 : Int32)), (.ref a2), (.int (1 : Int32)), (.ref b9), (.ref b9), (.ref b1), (.ref b1)]) t → own_S p e below T0 (mkF m 42 #[.val (.int p1), .val (.ref a2)] []) t := fun t kt => kn28 t (by
    show own_S p e below T21 (mkF m 55 #[.val (.int p1), .val (.ref a2)] [(.ref b9), (.ref b1), (.ref b1)]) _
    refine XS.dup X21.here hx rfl (hb hby d_method_4_55) rfl rfl ?_
    show own_S p e below T21 (mkF m 56 #[.val (.int p1), .val (.ref a2)] [(.ref b9), (.ref b9), (.ref b1), (.ref b1)]) _
    refine XS.iconst X21.here hx rfl (hb hby d_method_4_56) ?_
    show own_S p e below T21 (mkF m 57 #[.val (.int p1), .val (.ref a2)] [(.int (1 : Int32)), (.ref b9), (.ref b9), (.ref b1), (.ref b1)]) _
    refine XS.aloadN X21.here hx rfl (hb hby d_method_4_57) rfl rfl ?_
    show own_S p e below T21 (mkF m 58 #[.val (.int p1), .val (.ref a2)] [(.ref a2), (.int (1 : Int32)), (.ref b9), (.ref b9), (.ref b1), (.ref b1)]) _
    refine XS.iconst X21.here hx rfl (hb hby d_method_4_58) ?_
    exact kt)
  have f30 := (f18.other W21 ne_a2_b9)
  obtain ⟨cl31, Ar31, q31, Sz31, Ng31, Hs31, Gs31⟩ := id f30
  have hin31 : ¬ ((1 : Int32) < 0 ∨ cl31.slots.size ≤ ((1 : Int32)).toNatClampNeg) := inb_of Sz31 ⟨by decide, by decide⟩
  have hat31 : cl31.slots[((1 : Int32)).toNatClampNeg]? = some (.int c1) := Hs31.at hin31 rfl
  have kn32 : ∀ t, own_S p e below T21 (mkF m 60 #[.val (.int p1), .val (.ref a2)] [(.int c1), (.int (1 : Int32)), (.ref b9), (.ref b9), (.ref b1), (.ref b1)]) t → own_S p e below T0 (mkF m 42 #[.val (.int p1), .val (.ref a2)] []) t := fun t kt => kn29 t (by
    show own_S p e below T21 (mkF m 59 #[.val (.int p1), .val (.ref a2)] [(.int (1 : Int32)), (.ref a2), (.int (1 : Int32)), (.ref b9), (.ref b9), (.ref b1), (.ref b1)]) _
    refine X21.caload hx (j := (1 : Int32)) (v := (.int c1)) (by rw [e21]; exact Ar31.1) (State.isArrayOf_alike hZ.alike Ar31.2.1) Ar31.2.2 hin31 hat31 (g := (mkF m 59 #[.val (.int p1), .val (.ref a2)] [(.int (1 : Int32)), (.ref a2), (.int (1 : Int32)), (.ref b9), (.ref b9), (.ref b1), (.ref b1)])) rfl rfl (hb hby d_method_4_59) _ ?_
    exact kt)
  obtain ⟨cl33, Ar33, q33, Sz33, Ng33, Hs33, Gs33⟩ := id V21
  have hin33 : ¬ ((1 : Int32) < 0 ∨ cl33.slots.size ≤ ((1 : Int32)).toNatClampNeg) := inb_of Sz33 ⟨by decide, by decide⟩
  obtain ⟨T33, h33, X33, e33, W33, st33⟩ := stC X21 hx hZ e21 Ar33 (j := (1 : Int32)) hin33 (g := (mkF m 60 #[.val (.int p1), .val (.ref a2)] [(.int c1), (.int (1 : Int32)), (.ref b9), (.ref b9), (.ref b1), (.ref b1)])) rfl rfl (hb hby d_method_4_60)
  have CS34 := CHr.wr W33 (Safe.arr hZ.alike Ar33 nofun) CR22.1
  have CR34 := CR22.trans CS34
  have SF34_b1 := CS34.safe SL22_b1 SF22_b1
  have SL34_b1 := Nat.lt_of_lt_of_le SL22_b1 CS34.2.1
  have Z35 : n0 ≤ h33.size := Nat.le_trans Z23 (Keep.of_wr W33).1
  have hk36 := Nat.le_trans hk24 (Keep.of_wr W33).1
  have Od37 : Old Z n0 h33 := Od25.wr W33 g_b9
  have K38 : Keep h0 h33 [] := K26.wr W33 (Or.inr sz_b9)
  have V33 : Arv Z h33 b9 kk9 .char (2 : Int32) [(.int c0), (.int (c1.toUInt32.toUInt16.toUInt32.toInt32))] (.int (0 : Int32)) := Arv.set Ar33 q33 Sz33 Ng33 Hs33 Gs33 (fits_nar_char _) W33 1 rfl (Nat.le_of_ble_eq_true rfl)
  rw [(show (c1.toUInt32.toUInt16.toUInt32.toInt32) = c1 from ok1.2.2)] at V33
  have Nf39 := Fr.snoc X33 Nf27 g_b9
  have kn40 : ∀ t, own_S p e below T33 (mkF m 61 #[.val (.int p1), .val (.ref a2)] [(.ref b9), (.ref b1), (.ref b1)]) t → own_S p e below T0 (mkF m 42 #[.val (.int p1), .val (.ref a2)] []) t := fun t kt => kn32 t (st33 _ kt)
  have hws : ∀ d ∈ StrChars.Road.words, d.before a0 Z = true := fun d hd => hw d ((by decide +kernel : ∀ d ∈ StrChars.Road.words, d ∈ tables_1) d hd)
  have hp42 : ∀ c ∈ ([c0, c1] : List Int32), ¬ c < 0 ∧ ¬ (255 : Int32) < c := (own_fa ⟨ok0.1, ok0.2.1⟩ (own_fa ⟨ok1.1, ok1.2.1⟩ own_f0))
  have f43 := (((A1.ext E9).wr W21).wr W33)
  have f44 := (((F1_4.ext E9).other W21 (Or.inl ne_b1_b9)).other W33 (Or.inl ne_b1_b9))
  have f45 := (((F1_5.ext E9).other W21 (Or.inl ne_b1_b9)).other W33 (Or.inl ne_b1_b9))
  obtain ⟨_, _, ⟨T41, L41, cc41, ss41⟩, -, X41, ⟨Lc41, hQ41, l41, y41, z41⟩, st41⟩ := X33.specialBack hx (y := (⟨"java/lang/String", "<init>", "([C)V"⟩ : MethodName)) rfl hown (mvT hZ (hw _ (List.mem_of_getElem? (i := 83) rfl))) (mvT hZ (hw _ (List.mem_of_getElem? (i := 84) rfl))) (mvT hZ (hw _ (List.mem_of_getElem? (i := 85) rfl))) (by decide) (StrChars.Road.backV (W := 1) hZ hws (kI := 4) (hw _ (List.mem_of_getElem? (i := 2) rfl)) (cs := ([c0, c1] : List Int32)) (bs := ([c0, c1] : List Int32).map (fun c => c.toInt8.toInt32)) (n := 2) g_b1 Z35 f43 f44 f45 V33 (O2.ext Od37.2) P5 rfl rfl (by decide) (by decide) hp42 rfl (by decide) (by decide)) (g := (mkF m 61 #[.val (.int p1), .val (.ref a2)] [(.ref b9), (.ref b1), (.ref b1)])) rfl (by rw [hml]; rfl) (Steps.refl _) (a := b1) (argsL := [(.ref b9)]) (rest := [(.ref b1)]) (lenOf pd_5 rfl) rfl (by show 2 * 0 + _ ≤ _; exact Nat.le_of_eq rfl) (hb hby d_method_4_61) (fun _ _ => ⟨rfl, e33, (by decide : 2 + 1 ≤ _), (by decide : 6 + 2 ≤ _)⟩)
  dsimp only [Pt.U, Pt.locs, Pt.cells, Pt.slots] at X41 l41 y41 z41 st41 hQ41
  subst l41 y41 z41
  have X41 : Stand p l e _ _ m _ below meth c T41 _ 3 8 := X41
  obtain ⟨rfl, Nq41, K41, Ex41, Co41, t41, kb41, ga41, sa41, nx41, Va41, Ar41⟩ := hQ41
  have Nf41 := Fr.app Nf39 Nq41
  have CS46 := CHr.keep K41 (allS SF34_b1 all0) CR34.1
  have CR46 := CR34.trans CS46
  have SF46_b1 := CS46.safe SL34_b1 SF34_b1
  have SL46_b1 := Nat.lt_of_lt_of_le SL34_b1 CS46.2.1
  have Z47 : n0 ≤ T41.heap.size := Nat.le_trans Z35 K41.1
  have hk48 := Nat.le_trans hk36 K41.1
  have Od49 : Old Z n0 T41.heap := Od37.keep K41 (allS g_b1 all0)
  have K50 : Keep h0 T41.heap [] := K38.trans K41 (allS (Or.inr sz_b1) all0)
  have kn51 : ∀ t, own_S p e below T41 (mkF m 64 #[.val (.int p1), .val (.ref a2)] [(.ref b1)]) t → own_S p e below T0 (mkF m 42 #[.val (.int p1), .val (.ref a2)] []) t := fun t kt => kn40 t (st41.trans kt)
  obtain ⟨fs, hr, hrun, hended, hRW⟩ := X41.leaveW hS0 hk48 (v := some (.ref b1)) (fun h => by rw [hret] at h; cases h)
  have chE : CHr Z consts_1 s.vm s.heap T41.vm T41.heap := by exact CR46.trans (CHv.at X41 hZ (own_EW hw) CR46.1)
  refine ⟨_, _, id (kn51 _ (by
      show own_S p e below T41 (mkF m 64 #[.val (.int p1), .val (.ref a2)] [(.ref b1)]) _
      jvm_step X41.here [X41.here.top, hx, (hb hby d_method_4_64), X41.method', hret, Value.isRef, FieldType.isReference]
      first | (intro acts; rw [hr _ acts rfl rfl rfl]) | rw [hr _ _ rfl rfl rfl]
      exact Steps.refl _)), hrun, hended, _, _, rfl, ?_, chE, ⟨hRW.1, hRW.2.1, hRW.2.2.1, hRW.2.2.2.mono (by decide) (by decide)⟩⟩
  show Q12 Z p1 a2 k2 c0 c1 c2 c3 c4 c5 c6 G1 h0 n0 _ T41.heap _
  exact ⟨b1, t41, kb41, ([c0, c1] : List Int32), rfl, Nf41, g_b1, K50, Ex41, Va41, Co41, Ar41, hp42, Nat.le_of_ble_eq_true rfl⟩

theorem d_method_4_70 : decode method_4_code 70 = .ok (.new 16, 3) := by decide +kernel
theorem d_method_4_73 : decode method_4_code 73 = .ok (.dup, 1) := by decide +kernel
theorem d_method_4_74 : decode method_4_code 74 = .ok (.iconst 3, 1) := by decide +kernel
theorem d_method_4_75 : decode method_4_code 75 = .ok (.newarray .char, 2) := by decide +kernel
theorem d_method_4_77 : decode method_4_code 77 = .ok (.dup, 1) := by decide +kernel
theorem d_method_4_78 : decode method_4_code 78 = .ok (.iconst 0, 1) := by decide +kernel
theorem d_method_4_79 : decode method_4_code 79 = .ok (.aload_n 1, 1) := by decide +kernel
theorem d_method_4_80 : decode method_4_code 80 = .ok (.iconst 0, 1) := by decide +kernel
theorem d_method_4_81 : decode method_4_code 81 = .ok (.caload, 1) := by decide +kernel
theorem d_method_4_82 : decode method_4_code 82 = .ok (.castore, 1) := by decide +kernel
theorem d_method_4_83 : decode method_4_code 83 = .ok (.dup, 1) := by decide +kernel
theorem d_method_4_84 : decode method_4_code 84 = .ok (.iconst 1, 1) := by decide +kernel
theorem d_method_4_85 : decode method_4_code 85 = .ok (.aload_n 1, 1) := by decide +kernel
theorem d_method_4_86 : decode method_4_code 86 = .ok (.iconst 1, 1) := by decide +kernel
theorem d_method_4_87 : decode method_4_code 87 = .ok (.caload, 1) := by decide +kernel
theorem d_method_4_88 : decode method_4_code 88 = .ok (.castore, 1) := by decide +kernel
theorem d_method_4_89 : decode method_4_code 89 = .ok (.dup, 1) := by decide +kernel
theorem d_method_4_90 : decode method_4_code 90 = .ok (.iconst 2, 1) := by decide +kernel
theorem d_method_4_91 : decode method_4_code 91 = .ok (.aload_n 1, 1) := by decide +kernel
theorem d_method_4_92 : decode method_4_code 92 = .ok (.iconst 2, 1) := by decide +kernel
theorem d_method_4_93 : decode method_4_code 93 = .ok (.caload, 1) := by decide +kernel
theorem d_method_4_94 : decode method_4_code 94 = .ok (.castore, 1) := by decide +kernel
theorem d_method_4_95 : decode method_4_code 95 = .ok (.invokespecial 57, 3) := by decide +kernel
theorem d_method_4_98 : decode method_4_code 98 = .ok (.areturn, 1) := by decide +kernel
set_option maxRecDepth 65536 in
set_option maxHeartbeats 40000000 in
theorem mk_3 {p : Program} {l : Launch} {e : Env} {s : State} {m : MethodId} {args : Array Value} {below : List Frame} {meth : Method} {c : Code} {T0 : State} {locs : List Loc} {Z : State} {a0 : Array Value} {h0 : Heap} {n0 : Nat} (p1 : Int32) (a2 : Addr) (k2 : ClassId) (c0 : Int32) (c1 : Int32) (c2 : Int32) (c3 : Int32) (c4 : Int32) (c5 : Int32) (c6 : Int32) (G1 : Int32) {vm0 : Vm} {k0 : Nat}
    (X0 : Stand p l e ({ frames := 6, cells := 4, slots := 20, locals := 90 } : Room) (s.setVm vm0) m args below meth c T0 locs 0 0) (hx : p.tables.exec = Jvm.exec) (hZ : Z.Warmed39 (s.setVm vm0).vm) (hw : ∀ d ∈ tables_1, d.before a0 Z = true) (hby : c.code = method_4_code) (hml : c.maxLocals = 2) (hown : (s.setVm vm0).vm.findClass "com/example/runs_to_scores/runstoscores/formats/SubtaskLabelledPinLaw" = some m.cls) (hret : meth.sig.returnType = some (.object "java/lang/String")) (hlk : meth.locks = false) (e0 : T0.heap = h0) (Nf0 : Fr n0 locs) (Z0 : n0 ≤ h0.size) (hS0 : s.Since vm0 k0) (hk0 : k0 ≤ h0.size) (H0 : CHr Z consts_1 s.vm s.heap vm0 h0) (A_a2 : Arv Z h0 a2 k2 .char (7 : Int32) [(.int c0), (.int c1), (.int c2), (.int c3), (.int c4), (.int c5), (.int c6)] (.int (0 : Int32))) (ok0 : own_ok c0) (ok1 : own_ok c1) (ok2 : own_ok c2) (ok3 : own_ok c3) (ok4 : own_ok c4) (ok5 : own_ok c5) (ok6 : own_ok c6) (O0 : Old Z n0 h0) (O2 : Sta Z Z.heap "java/lang/String" "COMPACT_STRINGS" "Z" (.int G1)) (P5 : ¬ (G1 = (0 : Int32))) :
    ∃ s₂ o, Steps p.tables e below (T0.setTop (mkF m 70 #[.val (.int p1), .val (.ref a2)] [])) s₂ ∧ s₂.status = .running ∧ Ended s₂ below o ∧ ∃ v L, o = .returned v ∧ Q12 Z p1 a2 k2 c0 c1 c2 c3 c4 c5 c6 G1 h0 n0 v s₂.heap L ∧ CHr Z consts_1 s.vm s.heap s₂.vm s₂.heap ∧ ReturnedEndW s o s₂ L ({ frames := 6, cells := 4, slots := 20, locals := 90 } : Room).cells ({ frames := 6, cells := 4, slots := 20, locals := 90 } : Room).slots := by
  have kn0 : ∀ t, own_S p e below T0 (mkF m 70 #[.val (.int p1), .val (.ref a2)] []) t → own_S p e below T0 (mkF m 70 #[.val (.int p1), .val (.ref a2)] []) t := fun t k => k
  have CR0 := H0
  obtain ⟨T1, h1, X1, e1, E1, A1, D1, -, st1⟩ := newO X0 hx hZ hown (hw _ (List.mem_of_getElem? (i := 82) rfl)) (hw _ (List.mem_of_getElem? (i := 2) rfl)) (hw _ (List.mem_of_getElem? (i := 1) rfl)) e0 (g := (mkF m 70 #[.val (.int p1), .val (.ref a2)] [])) rfl (hb hby d_method_4_70) (by decide) (by decide)
  obtain ⟨b1, g1⟩ : ∃ z, z = h0.size := ⟨_, rfl⟩
  rw [← g1] at A1 D1 st1
  have sz_b1 : h0.size ≤ b1 := Nat.le_trans (Keep.refl h0 []).1 (Nat.le_of_eq g1.symm)
  have g_b1 : n0 ≤ b1 := Nat.le_trans Z0 (Nat.le_of_eq g1.symm)
  have ne_a2_b1 : a2 ≠ b1 := Nat.ne_of_lt (Nat.lt_of_lt_of_le A_a2.lt (Nat.le_of_eq g1.symm))
  have CS2 := CHr.ext E1 CR0.1
  have CR2 := CR0.trans CS2
  have Z3 : n0 ≤ h1.size := Nat.le_trans Z0 E1.1
  have hk4 := Nat.le_trans hk0 E1.1
  have Od5 : Old Z n0 h1 := O0.ext E1
  have K6 : Keep h0 h1 [] := (Keep.refl h0 []).ext E1
  have SFn_b1 := Safe.ext E1 CR0.1 (Safe.new (x := b1) (Nat.le_of_eq g1.symm))
  have F1_4 : Fld Z h1 b1 "java/lang/String" "value" "[B" .null := D1 (Or.inr (hw _ (List.mem_of_getElem? (i := 4) rfl))) (ty := (.array .byte)) (by decide)
  have F1_5 : Fld Z h1 b1 "java/lang/String" "coder" "B" (.int (0 : Int32)) := D1 (Or.inr (hw _ (List.mem_of_getElem? (i := 5) rfl))) (ty := .byte) (by decide)
  have kn7 : ∀ t, own_S p e below T1 (mkF m 73 #[.val (.int p1), .val (.ref a2)] [(.ref b1)]) t → own_S p e below T0 (mkF m 70 #[.val (.int p1), .val (.ref a2)] []) t := fun t kt => kn0 t (st1 _ kt)
  have kn8 : ∀ t, own_S p e below T1 (mkF m 75 #[.val (.int p1), .val (.ref a2)] [(.int (3 : Int32)), (.ref b1), (.ref b1)]) t → own_S p e below T0 (mkF m 70 #[.val (.int p1), .val (.ref a2)] []) t := fun t kt => kn7 t (by
    show own_S p e below T1 (mkF m 73 #[.val (.int p1), .val (.ref a2)] [(.ref b1)]) _
    refine XS.dup X1.here hx rfl (hb hby d_method_4_73) rfl rfl ?_
    show own_S p e below T1 (mkF m 74 #[.val (.int p1), .val (.ref a2)] [(.ref b1), (.ref b1)]) _
    refine XS.iconst X1.here hx rfl (hb hby d_method_4_74) ?_
    exact kt)
  obtain ⟨T9, h9, kk9, X9, e9, E9, A9, st9⟩ := newP X1 hx hZ (hw _ (List.mem_of_getElem? (i := 21) rfl)) e1 (g := (mkF m 75 #[.val (.int p1), .val (.ref a2)] [(.int (3 : Int32)), (.ref b1), (.ref b1)])) rfl (hb hby d_method_4_75) rfl (by decide) (cap := 3) (by decide) (by decide) (by decide) (by decide)
  obtain ⟨b9, g9⟩ : ∃ z, z = h1.size := ⟨_, rfl⟩
  rw [← g9] at A9 st9
  have sz_b9 : h0.size ≤ b9 := Nat.le_trans K6.1 (Nat.le_of_eq g9.symm)
  have g_b9 : n0 ≤ b9 := Nat.le_trans Z3 (Nat.le_of_eq g9.symm)
  have f10 := (A_a2.ext E1)
  have ne_a2_b9 : a2 ≠ b9 := Nat.ne_of_lt (Nat.lt_of_lt_of_le f10.lt (Nat.le_of_eq g9.symm))
  have ne_b1_b9 : b1 ≠ b9 := Nat.ne_of_lt (Nat.lt_of_lt_of_le A1.lt (Nat.le_of_eq g9.symm))
  have CS11 := CHr.ext E9 CR2.1
  have CR11 := CR2.trans CS11
  have SF11_b1 := CS11.safe A1.lt SFn_b1
  have SL11_b1 := Nat.lt_of_lt_of_le A1.lt CS11.2.1
  have Z12 : n0 ≤ h9.size := Nat.le_trans Z3 E9.1
  have hk13 := Nat.le_trans hk4 E9.1
  have Od14 : Old Z n0 h9 := Od5.ext E9
  have K15 : Keep h0 h9 [] := K6.ext E9
  have V9 : Arv Z h9 b9 kk9 .char (3 : Int32) [(.int (0 : Int32)), (.int (0 : Int32)), (.int (0 : Int32))] (.int (0 : Int32)) := (Arv.new A9 (by decide)).pad (pad_rep [] (.int (0 : Int32)) 3)
  have kn16 : ∀ t, own_S p e below T9 (mkF m 77 #[.val (.int p1), .val (.ref a2)] [(.ref b9), (.ref b1), (.ref b1)]) t → own_S p e below T0 (mkF m 70 #[.val (.int p1), .val (.ref a2)] []) t := fun t kt => kn8 t (st9 _ kt)
  have kn17 : ∀ t, own_S p e below T9 (mkF m 81 #[.val (.int p1), .val (.ref a2)] [(.int (0 : Int32)), (.ref a2), (.int (0 : Int32)), (.ref b9), (.ref b9), (.ref b1), (.ref b1)]) t → own_S p e below T0 (mkF m 70 #[.val (.int p1), .val (.ref a2)] []) t := fun t kt => kn16 t (by
    show own_S p e below T9 (mkF m 77 #[.val (.int p1), .val (.ref a2)] [(.ref b9), (.ref b1), (.ref b1)]) _
    refine XS.dup X9.here hx rfl (hb hby d_method_4_77) rfl rfl ?_
    show own_S p e below T9 (mkF m 78 #[.val (.int p1), .val (.ref a2)] [(.ref b9), (.ref b9), (.ref b1), (.ref b1)]) _
    refine XS.iconst X9.here hx rfl (hb hby d_method_4_78) ?_
    show own_S p e below T9 (mkF m 79 #[.val (.int p1), .val (.ref a2)] [(.int (0 : Int32)), (.ref b9), (.ref b9), (.ref b1), (.ref b1)]) _
    refine XS.aloadN X9.here hx rfl (hb hby d_method_4_79) rfl rfl ?_
    show own_S p e below T9 (mkF m 80 #[.val (.int p1), .val (.ref a2)] [(.ref a2), (.int (0 : Int32)), (.ref b9), (.ref b9), (.ref b1), (.ref b1)]) _
    refine XS.iconst X9.here hx rfl (hb hby d_method_4_80) ?_
    exact kt)
  have f18 := (f10.ext E9)
  obtain ⟨cl19, Ar19, q19, Sz19, Ng19, Hs19, Gs19⟩ := id f18
  have hin19 : ¬ ((0 : Int32) < 0 ∨ cl19.slots.size ≤ ((0 : Int32)).toNatClampNeg) := inb_of Sz19 ⟨by decide, by decide⟩
  have hat19 : cl19.slots[((0 : Int32)).toNatClampNeg]? = some (.int c0) := Hs19.at hin19 rfl
  have kn20 : ∀ t, own_S p e below T9 (mkF m 82 #[.val (.int p1), .val (.ref a2)] [(.int c0), (.int (0 : Int32)), (.ref b9), (.ref b9), (.ref b1), (.ref b1)]) t → own_S p e below T0 (mkF m 70 #[.val (.int p1), .val (.ref a2)] []) t := fun t kt => kn17 t (by
    show own_S p e below T9 (mkF m 81 #[.val (.int p1), .val (.ref a2)] [(.int (0 : Int32)), (.ref a2), (.int (0 : Int32)), (.ref b9), (.ref b9), (.ref b1), (.ref b1)]) _
    refine X9.caload hx (j := (0 : Int32)) (v := (.int c0)) (by rw [e9]; exact Ar19.1) (State.isArrayOf_alike hZ.alike Ar19.2.1) Ar19.2.2 hin19 hat19 (g := (mkF m 81 #[.val (.int p1), .val (.ref a2)] [(.int (0 : Int32)), (.ref a2), (.int (0 : Int32)), (.ref b9), (.ref b9), (.ref b1), (.ref b1)])) rfl rfl (hb hby d_method_4_81) _ ?_
    exact kt)
  obtain ⟨cl21, Ar21, q21, Sz21, Ng21, Hs21, Gs21⟩ := id V9
  have hin21 : ¬ ((0 : Int32) < 0 ∨ cl21.slots.size ≤ ((0 : Int32)).toNatClampNeg) := inb_of Sz21 ⟨by decide, by decide⟩
  obtain ⟨T21, h21, X21, e21, W21, st21⟩ := stC X9 hx hZ e9 Ar21 (j := (0 : Int32)) hin21 (g := (mkF m 82 #[.val (.int p1), .val (.ref a2)] [(.int c0), (.int (0 : Int32)), (.ref b9), (.ref b9), (.ref b1), (.ref b1)])) rfl rfl (hb hby d_method_4_82)
  have CS22 := CHr.wr W21 (Safe.arr hZ.alike Ar21 nofun) CR11.1
  have CR22 := CR11.trans CS22
  have SF22_b1 := CS22.safe SL11_b1 SF11_b1
  have SL22_b1 := Nat.lt_of_lt_of_le SL11_b1 CS22.2.1
  have Z23 : n0 ≤ h21.size := Nat.le_trans Z12 (Keep.of_wr W21).1
  have hk24 := Nat.le_trans hk13 (Keep.of_wr W21).1
  have Od25 : Old Z n0 h21 := Od14.wr W21 g_b9
  have K26 : Keep h0 h21 [] := K15.wr W21 (Or.inr sz_b9)
  have V21 : Arv Z h21 b9 kk9 .char (3 : Int32) [(.int (c0.toUInt32.toUInt16.toUInt32.toInt32)), (.int (0 : Int32)), (.int (0 : Int32))] (.int (0 : Int32)) := Arv.set Ar21 q21 Sz21 Ng21 Hs21 Gs21 (fits_nar_char _) W21 0 rfl (Nat.le_of_ble_eq_true rfl)
  rw [(show (c0.toUInt32.toUInt16.toUInt32.toInt32) = c0 from ok0.2.2)] at V21
  have Nf27 := Fr.snoc X21 Nf0 g_b9
  have kn28 : ∀ t, own_S p e below T21 (mkF m 83 #[.val (.int p1), .val (.ref a2)] [(.ref b9), (.ref b1), (.ref b1)]) t → own_S p e below T0 (mkF m 70 #[.val (.int p1), .val (.ref a2)] []) t := fun t kt => kn20 t (st21 _ kt)
  have kn29 : ∀ t, own_S p e below T21 (mkF m 87 #[.val (.int p1), .val (.ref a2)] [(.int (1 : Int32)), (.ref a2), (.int (1 : Int32)), (.ref b9), (.ref b9), (.ref b1), (.ref b1)]) t → own_S p e below T0 (mkF m 70 #[.val (.int p1), .val (.ref a2)] []) t := fun t kt => kn28 t (by
    show own_S p e below T21 (mkF m 83 #[.val (.int p1), .val (.ref a2)] [(.ref b9), (.ref b1), (.ref b1)]) _
    refine XS.dup X21.here hx rfl (hb hby d_method_4_83) rfl rfl ?_
    show own_S p e below T21 (mkF m 84 #[.val (.int p1), .val (.ref a2)] [(.ref b9), (.ref b9), (.ref b1), (.ref b1)]) _
    refine XS.iconst X21.here hx rfl (hb hby d_method_4_84) ?_
    show own_S p e below T21 (mkF m 85 #[.val (.int p1), .val (.ref a2)] [(.int (1 : Int32)), (.ref b9), (.ref b9), (.ref b1), (.ref b1)]) _
    refine XS.aloadN X21.here hx rfl (hb hby d_method_4_85) rfl rfl ?_
    show own_S p e below T21 (mkF m 86 #[.val (.int p1), .val (.ref a2)] [(.ref a2), (.int (1 : Int32)), (.ref b9), (.ref b9), (.ref b1), (.ref b1)]) _
    refine XS.iconst X21.here hx rfl (hb hby d_method_4_86) ?_
    exact kt)
  have f30 := (f18.other W21 ne_a2_b9)
  obtain ⟨cl31, Ar31, q31, Sz31, Ng31, Hs31, Gs31⟩ := id f30
  have hin31 : ¬ ((1 : Int32) < 0 ∨ cl31.slots.size ≤ ((1 : Int32)).toNatClampNeg) := inb_of Sz31 ⟨by decide, by decide⟩
  have hat31 : cl31.slots[((1 : Int32)).toNatClampNeg]? = some (.int c1) := Hs31.at hin31 rfl
  have kn32 : ∀ t, own_S p e below T21 (mkF m 88 #[.val (.int p1), .val (.ref a2)] [(.int c1), (.int (1 : Int32)), (.ref b9), (.ref b9), (.ref b1), (.ref b1)]) t → own_S p e below T0 (mkF m 70 #[.val (.int p1), .val (.ref a2)] []) t := fun t kt => kn29 t (by
    show own_S p e below T21 (mkF m 87 #[.val (.int p1), .val (.ref a2)] [(.int (1 : Int32)), (.ref a2), (.int (1 : Int32)), (.ref b9), (.ref b9), (.ref b1), (.ref b1)]) _
    refine X21.caload hx (j := (1 : Int32)) (v := (.int c1)) (by rw [e21]; exact Ar31.1) (State.isArrayOf_alike hZ.alike Ar31.2.1) Ar31.2.2 hin31 hat31 (g := (mkF m 87 #[.val (.int p1), .val (.ref a2)] [(.int (1 : Int32)), (.ref a2), (.int (1 : Int32)), (.ref b9), (.ref b9), (.ref b1), (.ref b1)])) rfl rfl (hb hby d_method_4_87) _ ?_
    exact kt)
  obtain ⟨cl33, Ar33, q33, Sz33, Ng33, Hs33, Gs33⟩ := id V21
  have hin33 : ¬ ((1 : Int32) < 0 ∨ cl33.slots.size ≤ ((1 : Int32)).toNatClampNeg) := inb_of Sz33 ⟨by decide, by decide⟩
  obtain ⟨T33, h33, X33, e33, W33, st33⟩ := stC X21 hx hZ e21 Ar33 (j := (1 : Int32)) hin33 (g := (mkF m 88 #[.val (.int p1), .val (.ref a2)] [(.int c1), (.int (1 : Int32)), (.ref b9), (.ref b9), (.ref b1), (.ref b1)])) rfl rfl (hb hby d_method_4_88)
  have CS34 := CHr.wr W33 (Safe.arr hZ.alike Ar33 nofun) CR22.1
  have CR34 := CR22.trans CS34
  have SF34_b1 := CS34.safe SL22_b1 SF22_b1
  have SL34_b1 := Nat.lt_of_lt_of_le SL22_b1 CS34.2.1
  have Z35 : n0 ≤ h33.size := Nat.le_trans Z23 (Keep.of_wr W33).1
  have hk36 := Nat.le_trans hk24 (Keep.of_wr W33).1
  have Od37 : Old Z n0 h33 := Od25.wr W33 g_b9
  have K38 : Keep h0 h33 [] := K26.wr W33 (Or.inr sz_b9)
  have V33 : Arv Z h33 b9 kk9 .char (3 : Int32) [(.int c0), (.int (c1.toUInt32.toUInt16.toUInt32.toInt32)), (.int (0 : Int32))] (.int (0 : Int32)) := Arv.set Ar33 q33 Sz33 Ng33 Hs33 Gs33 (fits_nar_char _) W33 1 rfl (Nat.le_of_ble_eq_true rfl)
  rw [(show (c1.toUInt32.toUInt16.toUInt32.toInt32) = c1 from ok1.2.2)] at V33
  have Nf39 := Fr.snoc X33 Nf27 g_b9
  have kn40 : ∀ t, own_S p e below T33 (mkF m 89 #[.val (.int p1), .val (.ref a2)] [(.ref b9), (.ref b1), (.ref b1)]) t → own_S p e below T0 (mkF m 70 #[.val (.int p1), .val (.ref a2)] []) t := fun t kt => kn32 t (st33 _ kt)
  have kn41 : ∀ t, own_S p e below T33 (mkF m 93 #[.val (.int p1), .val (.ref a2)] [(.int (2 : Int32)), (.ref a2), (.int (2 : Int32)), (.ref b9), (.ref b9), (.ref b1), (.ref b1)]) t → own_S p e below T0 (mkF m 70 #[.val (.int p1), .val (.ref a2)] []) t := fun t kt => kn40 t (by
    show own_S p e below T33 (mkF m 89 #[.val (.int p1), .val (.ref a2)] [(.ref b9), (.ref b1), (.ref b1)]) _
    refine XS.dup X33.here hx rfl (hb hby d_method_4_89) rfl rfl ?_
    show own_S p e below T33 (mkF m 90 #[.val (.int p1), .val (.ref a2)] [(.ref b9), (.ref b9), (.ref b1), (.ref b1)]) _
    refine XS.iconst X33.here hx rfl (hb hby d_method_4_90) ?_
    show own_S p e below T33 (mkF m 91 #[.val (.int p1), .val (.ref a2)] [(.int (2 : Int32)), (.ref b9), (.ref b9), (.ref b1), (.ref b1)]) _
    refine XS.aloadN X33.here hx rfl (hb hby d_method_4_91) rfl rfl ?_
    show own_S p e below T33 (mkF m 92 #[.val (.int p1), .val (.ref a2)] [(.ref a2), (.int (2 : Int32)), (.ref b9), (.ref b9), (.ref b1), (.ref b1)]) _
    refine XS.iconst X33.here hx rfl (hb hby d_method_4_92) ?_
    exact kt)
  have f42 := (f30.other W33 ne_a2_b9)
  obtain ⟨cl43, Ar43, q43, Sz43, Ng43, Hs43, Gs43⟩ := id f42
  have hin43 : ¬ ((2 : Int32) < 0 ∨ cl43.slots.size ≤ ((2 : Int32)).toNatClampNeg) := inb_of Sz43 ⟨by decide, by decide⟩
  have hat43 : cl43.slots[((2 : Int32)).toNatClampNeg]? = some (.int c2) := Hs43.at hin43 rfl
  have kn44 : ∀ t, own_S p e below T33 (mkF m 94 #[.val (.int p1), .val (.ref a2)] [(.int c2), (.int (2 : Int32)), (.ref b9), (.ref b9), (.ref b1), (.ref b1)]) t → own_S p e below T0 (mkF m 70 #[.val (.int p1), .val (.ref a2)] []) t := fun t kt => kn41 t (by
    show own_S p e below T33 (mkF m 93 #[.val (.int p1), .val (.ref a2)] [(.int (2 : Int32)), (.ref a2), (.int (2 : Int32)), (.ref b9), (.ref b9), (.ref b1), (.ref b1)]) _
    refine X33.caload hx (j := (2 : Int32)) (v := (.int c2)) (by rw [e33]; exact Ar43.1) (State.isArrayOf_alike hZ.alike Ar43.2.1) Ar43.2.2 hin43 hat43 (g := (mkF m 93 #[.val (.int p1), .val (.ref a2)] [(.int (2 : Int32)), (.ref a2), (.int (2 : Int32)), (.ref b9), (.ref b9), (.ref b1), (.ref b1)])) rfl rfl (hb hby d_method_4_93) _ ?_
    exact kt)
  obtain ⟨cl45, Ar45, q45, Sz45, Ng45, Hs45, Gs45⟩ := id V33
  have hin45 : ¬ ((2 : Int32) < 0 ∨ cl45.slots.size ≤ ((2 : Int32)).toNatClampNeg) := inb_of Sz45 ⟨by decide, by decide⟩
  obtain ⟨T45, h45, X45, e45, W45, st45⟩ := stC X33 hx hZ e33 Ar45 (j := (2 : Int32)) hin45 (g := (mkF m 94 #[.val (.int p1), .val (.ref a2)] [(.int c2), (.int (2 : Int32)), (.ref b9), (.ref b9), (.ref b1), (.ref b1)])) rfl rfl (hb hby d_method_4_94)
  have CS46 := CHr.wr W45 (Safe.arr hZ.alike Ar45 nofun) CR34.1
  have CR46 := CR34.trans CS46
  have SF46_b1 := CS46.safe SL34_b1 SF34_b1
  have SL46_b1 := Nat.lt_of_lt_of_le SL34_b1 CS46.2.1
  have Z47 : n0 ≤ h45.size := Nat.le_trans Z35 (Keep.of_wr W45).1
  have hk48 := Nat.le_trans hk36 (Keep.of_wr W45).1
  have Od49 : Old Z n0 h45 := Od37.wr W45 g_b9
  have K50 : Keep h0 h45 [] := K38.wr W45 (Or.inr sz_b9)
  have V45 : Arv Z h45 b9 kk9 .char (3 : Int32) [(.int c0), (.int c1), (.int (c2.toUInt32.toUInt16.toUInt32.toInt32))] (.int (0 : Int32)) := Arv.set Ar45 q45 Sz45 Ng45 Hs45 Gs45 (fits_nar_char _) W45 2 rfl (Nat.le_of_ble_eq_true rfl)
  rw [(show (c2.toUInt32.toUInt16.toUInt32.toInt32) = c2 from ok2.2.2)] at V45
  have Nf51 := Fr.snoc X45 Nf39 g_b9
  have kn52 : ∀ t, own_S p e below T45 (mkF m 95 #[.val (.int p1), .val (.ref a2)] [(.ref b9), (.ref b1), (.ref b1)]) t → own_S p e below T0 (mkF m 70 #[.val (.int p1), .val (.ref a2)] []) t := fun t kt => kn44 t (st45 _ kt)
  have hws : ∀ d ∈ StrChars.Road.words, d.before a0 Z = true := fun d hd => hw d ((by decide +kernel : ∀ d ∈ StrChars.Road.words, d ∈ tables_1) d hd)
  have hp54 : ∀ c ∈ ([c0, c1, c2] : List Int32), ¬ c < 0 ∧ ¬ (255 : Int32) < c := (own_fa ⟨ok0.1, ok0.2.1⟩ (own_fa ⟨ok1.1, ok1.2.1⟩ (own_fa ⟨ok2.1, ok2.2.1⟩ own_f0)))
  have f55 := ((((A1.ext E9).wr W21).wr W33).wr W45)
  have f56 := ((((F1_4.ext E9).other W21 (Or.inl ne_b1_b9)).other W33 (Or.inl ne_b1_b9)).other W45 (Or.inl ne_b1_b9))
  have f57 := ((((F1_5.ext E9).other W21 (Or.inl ne_b1_b9)).other W33 (Or.inl ne_b1_b9)).other W45 (Or.inl ne_b1_b9))
  obtain ⟨_, _, ⟨T53, L53, cc53, ss53⟩, -, X53, ⟨Lc53, hQ53, l53, y53, z53⟩, st53⟩ := X45.specialBack hx (y := (⟨"java/lang/String", "<init>", "([C)V"⟩ : MethodName)) rfl hown (mvT hZ (hw _ (List.mem_of_getElem? (i := 83) rfl))) (mvT hZ (hw _ (List.mem_of_getElem? (i := 84) rfl))) (mvT hZ (hw _ (List.mem_of_getElem? (i := 85) rfl))) (by decide) (StrChars.Road.backV (W := 1) hZ hws (kI := 4) (hw _ (List.mem_of_getElem? (i := 2) rfl)) (cs := ([c0, c1, c2] : List Int32)) (bs := ([c0, c1, c2] : List Int32).map (fun c => c.toInt8.toInt32)) (n := 3) g_b1 Z47 f55 f56 f57 V45 (O2.ext Od49.2) P5 rfl rfl (by decide) (by decide) hp54 rfl (by decide) (by decide)) (g := (mkF m 95 #[.val (.int p1), .val (.ref a2)] [(.ref b9), (.ref b1), (.ref b1)])) rfl (by rw [hml]; rfl) (Steps.refl _) (a := b1) (argsL := [(.ref b9)]) (rest := [(.ref b1)]) (lenOf pd_5 rfl) rfl (by show 2 * 0 + _ ≤ _; exact Nat.le_of_eq rfl) (hb hby d_method_4_95) (fun _ _ => ⟨rfl, e45, (by decide : 2 + 1 ≤ _), (by decide : 7 + 3 ≤ _)⟩)
  dsimp only [Pt.U, Pt.locs, Pt.cells, Pt.slots] at X53 l53 y53 z53 st53 hQ53
  subst l53 y53 z53
  have X53 : Stand p l e _ _ m _ below meth c T53 _ 3 10 := X53
  obtain ⟨rfl, Nq53, K53, Ex53, Co53, t53, kb53, ga53, sa53, nx53, Va53, Ar53⟩ := hQ53
  have Nf53 := Fr.app Nf51 Nq53
  have CS58 := CHr.keep K53 (allS SF46_b1 all0) CR46.1
  have CR58 := CR46.trans CS58
  have SF58_b1 := CS58.safe SL46_b1 SF46_b1
  have SL58_b1 := Nat.lt_of_lt_of_le SL46_b1 CS58.2.1
  have Z59 : n0 ≤ T53.heap.size := Nat.le_trans Z47 K53.1
  have hk60 := Nat.le_trans hk48 K53.1
  have Od61 : Old Z n0 T53.heap := Od49.keep K53 (allS g_b1 all0)
  have K62 : Keep h0 T53.heap [] := K50.trans K53 (allS (Or.inr sz_b1) all0)
  have kn63 : ∀ t, own_S p e below T53 (mkF m 98 #[.val (.int p1), .val (.ref a2)] [(.ref b1)]) t → own_S p e below T0 (mkF m 70 #[.val (.int p1), .val (.ref a2)] []) t := fun t kt => kn52 t (st53.trans kt)
  obtain ⟨fs, hr, hrun, hended, hRW⟩ := X53.leaveW hS0 hk60 (v := some (.ref b1)) (fun h => by rw [hret] at h; cases h)
  have chE : CHr Z consts_1 s.vm s.heap T53.vm T53.heap := by exact CR58.trans (CHv.at X53 hZ (own_EW hw) CR58.1)
  refine ⟨_, _, id (kn63 _ (by
      show own_S p e below T53 (mkF m 98 #[.val (.int p1), .val (.ref a2)] [(.ref b1)]) _
      jvm_step X53.here [X53.here.top, hx, (hb hby d_method_4_98), X53.method', hret, Value.isRef, FieldType.isReference]
      first | (intro acts; rw [hr _ acts rfl rfl rfl]) | rw [hr _ _ rfl rfl rfl]
      exact Steps.refl _)), hrun, hended, _, _, rfl, ?_, chE, ⟨hRW.1, hRW.2.1, hRW.2.2.1, hRW.2.2.2.mono (by decide) (by decide)⟩⟩
  show Q12 Z p1 a2 k2 c0 c1 c2 c3 c4 c5 c6 G1 h0 n0 _ T53.heap _
  exact ⟨b1, t53, kb53, ([c0, c1, c2] : List Int32), rfl, Nf53, g_b1, K62, Ex53, Va53, Co53, Ar53, hp54, Nat.le_of_ble_eq_true rfl⟩

theorem d_method_4_104 : decode method_4_code 104 = .ok (.new 16, 3) := by decide +kernel
theorem d_method_4_107 : decode method_4_code 107 = .ok (.dup, 1) := by decide +kernel
theorem d_method_4_108 : decode method_4_code 108 = .ok (.iconst 4, 1) := by decide +kernel
theorem d_method_4_109 : decode method_4_code 109 = .ok (.newarray .char, 2) := by decide +kernel
theorem d_method_4_111 : decode method_4_code 111 = .ok (.dup, 1) := by decide +kernel
theorem d_method_4_112 : decode method_4_code 112 = .ok (.iconst 0, 1) := by decide +kernel
theorem d_method_4_113 : decode method_4_code 113 = .ok (.aload_n 1, 1) := by decide +kernel
theorem d_method_4_114 : decode method_4_code 114 = .ok (.iconst 0, 1) := by decide +kernel
theorem d_method_4_115 : decode method_4_code 115 = .ok (.caload, 1) := by decide +kernel
theorem d_method_4_116 : decode method_4_code 116 = .ok (.castore, 1) := by decide +kernel
theorem d_method_4_117 : decode method_4_code 117 = .ok (.dup, 1) := by decide +kernel
theorem d_method_4_118 : decode method_4_code 118 = .ok (.iconst 1, 1) := by decide +kernel
theorem d_method_4_119 : decode method_4_code 119 = .ok (.aload_n 1, 1) := by decide +kernel
theorem d_method_4_120 : decode method_4_code 120 = .ok (.iconst 1, 1) := by decide +kernel
theorem d_method_4_121 : decode method_4_code 121 = .ok (.caload, 1) := by decide +kernel
theorem d_method_4_122 : decode method_4_code 122 = .ok (.castore, 1) := by decide +kernel
theorem d_method_4_123 : decode method_4_code 123 = .ok (.dup, 1) := by decide +kernel
theorem d_method_4_124 : decode method_4_code 124 = .ok (.iconst 2, 1) := by decide +kernel
theorem d_method_4_125 : decode method_4_code 125 = .ok (.aload_n 1, 1) := by decide +kernel
theorem d_method_4_126 : decode method_4_code 126 = .ok (.iconst 2, 1) := by decide +kernel
theorem d_method_4_127 : decode method_4_code 127 = .ok (.caload, 1) := by decide +kernel
theorem d_method_4_128 : decode method_4_code 128 = .ok (.castore, 1) := by decide +kernel
theorem d_method_4_129 : decode method_4_code 129 = .ok (.dup, 1) := by decide +kernel
theorem d_method_4_130 : decode method_4_code 130 = .ok (.iconst 3, 1) := by decide +kernel
theorem d_method_4_131 : decode method_4_code 131 = .ok (.aload_n 1, 1) := by decide +kernel
theorem d_method_4_132 : decode method_4_code 132 = .ok (.iconst 3, 1) := by decide +kernel
theorem d_method_4_133 : decode method_4_code 133 = .ok (.caload, 1) := by decide +kernel
theorem d_method_4_134 : decode method_4_code 134 = .ok (.castore, 1) := by decide +kernel
theorem d_method_4_135 : decode method_4_code 135 = .ok (.invokespecial 57, 3) := by decide +kernel
theorem d_method_4_138 : decode method_4_code 138 = .ok (.areturn, 1) := by decide +kernel
set_option maxRecDepth 65536 in
set_option maxHeartbeats 40000000 in
theorem mk_4 {p : Program} {l : Launch} {e : Env} {s : State} {m : MethodId} {args : Array Value} {below : List Frame} {meth : Method} {c : Code} {T0 : State} {locs : List Loc} {Z : State} {a0 : Array Value} {h0 : Heap} {n0 : Nat} (p1 : Int32) (a2 : Addr) (k2 : ClassId) (c0 : Int32) (c1 : Int32) (c2 : Int32) (c3 : Int32) (c4 : Int32) (c5 : Int32) (c6 : Int32) (G1 : Int32) {vm0 : Vm} {k0 : Nat}
    (X0 : Stand p l e ({ frames := 6, cells := 4, slots := 20, locals := 90 } : Room) (s.setVm vm0) m args below meth c T0 locs 0 0) (hx : p.tables.exec = Jvm.exec) (hZ : Z.Warmed39 (s.setVm vm0).vm) (hw : ∀ d ∈ tables_1, d.before a0 Z = true) (hby : c.code = method_4_code) (hml : c.maxLocals = 2) (hown : (s.setVm vm0).vm.findClass "com/example/runs_to_scores/runstoscores/formats/SubtaskLabelledPinLaw" = some m.cls) (hret : meth.sig.returnType = some (.object "java/lang/String")) (hlk : meth.locks = false) (e0 : T0.heap = h0) (Nf0 : Fr n0 locs) (Z0 : n0 ≤ h0.size) (hS0 : s.Since vm0 k0) (hk0 : k0 ≤ h0.size) (H0 : CHr Z consts_1 s.vm s.heap vm0 h0) (A_a2 : Arv Z h0 a2 k2 .char (7 : Int32) [(.int c0), (.int c1), (.int c2), (.int c3), (.int c4), (.int c5), (.int c6)] (.int (0 : Int32))) (ok0 : own_ok c0) (ok1 : own_ok c1) (ok2 : own_ok c2) (ok3 : own_ok c3) (ok4 : own_ok c4) (ok5 : own_ok c5) (ok6 : own_ok c6) (O0 : Old Z n0 h0) (O2 : Sta Z Z.heap "java/lang/String" "COMPACT_STRINGS" "Z" (.int G1)) (P5 : ¬ (G1 = (0 : Int32))) :
    ∃ s₂ o, Steps p.tables e below (T0.setTop (mkF m 104 #[.val (.int p1), .val (.ref a2)] [])) s₂ ∧ s₂.status = .running ∧ Ended s₂ below o ∧ ∃ v L, o = .returned v ∧ Q12 Z p1 a2 k2 c0 c1 c2 c3 c4 c5 c6 G1 h0 n0 v s₂.heap L ∧ CHr Z consts_1 s.vm s.heap s₂.vm s₂.heap ∧ ReturnedEndW s o s₂ L ({ frames := 6, cells := 4, slots := 20, locals := 90 } : Room).cells ({ frames := 6, cells := 4, slots := 20, locals := 90 } : Room).slots := by
  have kn0 : ∀ t, own_S p e below T0 (mkF m 104 #[.val (.int p1), .val (.ref a2)] []) t → own_S p e below T0 (mkF m 104 #[.val (.int p1), .val (.ref a2)] []) t := fun t k => k
  have CR0 := H0
  obtain ⟨T1, h1, X1, e1, E1, A1, D1, -, st1⟩ := newO X0 hx hZ hown (hw _ (List.mem_of_getElem? (i := 82) rfl)) (hw _ (List.mem_of_getElem? (i := 2) rfl)) (hw _ (List.mem_of_getElem? (i := 1) rfl)) e0 (g := (mkF m 104 #[.val (.int p1), .val (.ref a2)] [])) rfl (hb hby d_method_4_104) (by decide) (by decide)
  obtain ⟨b1, g1⟩ : ∃ z, z = h0.size := ⟨_, rfl⟩
  rw [← g1] at A1 D1 st1
  have sz_b1 : h0.size ≤ b1 := Nat.le_trans (Keep.refl h0 []).1 (Nat.le_of_eq g1.symm)
  have g_b1 : n0 ≤ b1 := Nat.le_trans Z0 (Nat.le_of_eq g1.symm)
  have ne_a2_b1 : a2 ≠ b1 := Nat.ne_of_lt (Nat.lt_of_lt_of_le A_a2.lt (Nat.le_of_eq g1.symm))
  have CS2 := CHr.ext E1 CR0.1
  have CR2 := CR0.trans CS2
  have Z3 : n0 ≤ h1.size := Nat.le_trans Z0 E1.1
  have hk4 := Nat.le_trans hk0 E1.1
  have Od5 : Old Z n0 h1 := O0.ext E1
  have K6 : Keep h0 h1 [] := (Keep.refl h0 []).ext E1
  have SFn_b1 := Safe.ext E1 CR0.1 (Safe.new (x := b1) (Nat.le_of_eq g1.symm))
  have F1_4 : Fld Z h1 b1 "java/lang/String" "value" "[B" .null := D1 (Or.inr (hw _ (List.mem_of_getElem? (i := 4) rfl))) (ty := (.array .byte)) (by decide)
  have F1_5 : Fld Z h1 b1 "java/lang/String" "coder" "B" (.int (0 : Int32)) := D1 (Or.inr (hw _ (List.mem_of_getElem? (i := 5) rfl))) (ty := .byte) (by decide)
  have kn7 : ∀ t, own_S p e below T1 (mkF m 107 #[.val (.int p1), .val (.ref a2)] [(.ref b1)]) t → own_S p e below T0 (mkF m 104 #[.val (.int p1), .val (.ref a2)] []) t := fun t kt => kn0 t (st1 _ kt)
  have kn8 : ∀ t, own_S p e below T1 (mkF m 109 #[.val (.int p1), .val (.ref a2)] [(.int (4 : Int32)), (.ref b1), (.ref b1)]) t → own_S p e below T0 (mkF m 104 #[.val (.int p1), .val (.ref a2)] []) t := fun t kt => kn7 t (by
    show own_S p e below T1 (mkF m 107 #[.val (.int p1), .val (.ref a2)] [(.ref b1)]) _
    refine XS.dup X1.here hx rfl (hb hby d_method_4_107) rfl rfl ?_
    show own_S p e below T1 (mkF m 108 #[.val (.int p1), .val (.ref a2)] [(.ref b1), (.ref b1)]) _
    refine XS.iconst X1.here hx rfl (hb hby d_method_4_108) ?_
    exact kt)
  obtain ⟨T9, h9, kk9, X9, e9, E9, A9, st9⟩ := newP X1 hx hZ (hw _ (List.mem_of_getElem? (i := 21) rfl)) e1 (g := (mkF m 109 #[.val (.int p1), .val (.ref a2)] [(.int (4 : Int32)), (.ref b1), (.ref b1)])) rfl (hb hby d_method_4_109) rfl (by decide) (cap := 4) (by decide) (by decide) (by decide) (by decide)
  obtain ⟨b9, g9⟩ : ∃ z, z = h1.size := ⟨_, rfl⟩
  rw [← g9] at A9 st9
  have sz_b9 : h0.size ≤ b9 := Nat.le_trans K6.1 (Nat.le_of_eq g9.symm)
  have g_b9 : n0 ≤ b9 := Nat.le_trans Z3 (Nat.le_of_eq g9.symm)
  have f10 := (A_a2.ext E1)
  have ne_a2_b9 : a2 ≠ b9 := Nat.ne_of_lt (Nat.lt_of_lt_of_le f10.lt (Nat.le_of_eq g9.symm))
  have ne_b1_b9 : b1 ≠ b9 := Nat.ne_of_lt (Nat.lt_of_lt_of_le A1.lt (Nat.le_of_eq g9.symm))
  have CS11 := CHr.ext E9 CR2.1
  have CR11 := CR2.trans CS11
  have SF11_b1 := CS11.safe A1.lt SFn_b1
  have SL11_b1 := Nat.lt_of_lt_of_le A1.lt CS11.2.1
  have Z12 : n0 ≤ h9.size := Nat.le_trans Z3 E9.1
  have hk13 := Nat.le_trans hk4 E9.1
  have Od14 : Old Z n0 h9 := Od5.ext E9
  have K15 : Keep h0 h9 [] := K6.ext E9
  have V9 : Arv Z h9 b9 kk9 .char (4 : Int32) [(.int (0 : Int32)), (.int (0 : Int32)), (.int (0 : Int32)), (.int (0 : Int32))] (.int (0 : Int32)) := (Arv.new A9 (by decide)).pad (pad_rep [] (.int (0 : Int32)) 4)
  have kn16 : ∀ t, own_S p e below T9 (mkF m 111 #[.val (.int p1), .val (.ref a2)] [(.ref b9), (.ref b1), (.ref b1)]) t → own_S p e below T0 (mkF m 104 #[.val (.int p1), .val (.ref a2)] []) t := fun t kt => kn8 t (st9 _ kt)
  have kn17 : ∀ t, own_S p e below T9 (mkF m 115 #[.val (.int p1), .val (.ref a2)] [(.int (0 : Int32)), (.ref a2), (.int (0 : Int32)), (.ref b9), (.ref b9), (.ref b1), (.ref b1)]) t → own_S p e below T0 (mkF m 104 #[.val (.int p1), .val (.ref a2)] []) t := fun t kt => kn16 t (by
    show own_S p e below T9 (mkF m 111 #[.val (.int p1), .val (.ref a2)] [(.ref b9), (.ref b1), (.ref b1)]) _
    refine XS.dup X9.here hx rfl (hb hby d_method_4_111) rfl rfl ?_
    show own_S p e below T9 (mkF m 112 #[.val (.int p1), .val (.ref a2)] [(.ref b9), (.ref b9), (.ref b1), (.ref b1)]) _
    refine XS.iconst X9.here hx rfl (hb hby d_method_4_112) ?_
    show own_S p e below T9 (mkF m 113 #[.val (.int p1), .val (.ref a2)] [(.int (0 : Int32)), (.ref b9), (.ref b9), (.ref b1), (.ref b1)]) _
    refine XS.aloadN X9.here hx rfl (hb hby d_method_4_113) rfl rfl ?_
    show own_S p e below T9 (mkF m 114 #[.val (.int p1), .val (.ref a2)] [(.ref a2), (.int (0 : Int32)), (.ref b9), (.ref b9), (.ref b1), (.ref b1)]) _
    refine XS.iconst X9.here hx rfl (hb hby d_method_4_114) ?_
    exact kt)
  have f18 := (f10.ext E9)
  obtain ⟨cl19, Ar19, q19, Sz19, Ng19, Hs19, Gs19⟩ := id f18
  have hin19 : ¬ ((0 : Int32) < 0 ∨ cl19.slots.size ≤ ((0 : Int32)).toNatClampNeg) := inb_of Sz19 ⟨by decide, by decide⟩
  have hat19 : cl19.slots[((0 : Int32)).toNatClampNeg]? = some (.int c0) := Hs19.at hin19 rfl
  have kn20 : ∀ t, own_S p e below T9 (mkF m 116 #[.val (.int p1), .val (.ref a2)] [(.int c0), (.int (0 : Int32)), (.ref b9), (.ref b9), (.ref b1), (.ref b1)]) t → own_S p e below T0 (mkF m 104 #[.val (.int p1), .val (.ref a2)] []) t := fun t kt => kn17 t (by
    show own_S p e below T9 (mkF m 115 #[.val (.int p1), .val (.ref a2)] [(.int (0 : Int32)), (.ref a2), (.int (0 : Int32)), (.ref b9), (.ref b9), (.ref b1), (.ref b1)]) _
    refine X9.caload hx (j := (0 : Int32)) (v := (.int c0)) (by rw [e9]; exact Ar19.1) (State.isArrayOf_alike hZ.alike Ar19.2.1) Ar19.2.2 hin19 hat19 (g := (mkF m 115 #[.val (.int p1), .val (.ref a2)] [(.int (0 : Int32)), (.ref a2), (.int (0 : Int32)), (.ref b9), (.ref b9), (.ref b1), (.ref b1)])) rfl rfl (hb hby d_method_4_115) _ ?_
    exact kt)
  obtain ⟨cl21, Ar21, q21, Sz21, Ng21, Hs21, Gs21⟩ := id V9
  have hin21 : ¬ ((0 : Int32) < 0 ∨ cl21.slots.size ≤ ((0 : Int32)).toNatClampNeg) := inb_of Sz21 ⟨by decide, by decide⟩
  obtain ⟨T21, h21, X21, e21, W21, st21⟩ := stC X9 hx hZ e9 Ar21 (j := (0 : Int32)) hin21 (g := (mkF m 116 #[.val (.int p1), .val (.ref a2)] [(.int c0), (.int (0 : Int32)), (.ref b9), (.ref b9), (.ref b1), (.ref b1)])) rfl rfl (hb hby d_method_4_116)
  have CS22 := CHr.wr W21 (Safe.arr hZ.alike Ar21 nofun) CR11.1
  have CR22 := CR11.trans CS22
  have SF22_b1 := CS22.safe SL11_b1 SF11_b1
  have SL22_b1 := Nat.lt_of_lt_of_le SL11_b1 CS22.2.1
  have Z23 : n0 ≤ h21.size := Nat.le_trans Z12 (Keep.of_wr W21).1
  have hk24 := Nat.le_trans hk13 (Keep.of_wr W21).1
  have Od25 : Old Z n0 h21 := Od14.wr W21 g_b9
  have K26 : Keep h0 h21 [] := K15.wr W21 (Or.inr sz_b9)
  have V21 : Arv Z h21 b9 kk9 .char (4 : Int32) [(.int (c0.toUInt32.toUInt16.toUInt32.toInt32)), (.int (0 : Int32)), (.int (0 : Int32)), (.int (0 : Int32))] (.int (0 : Int32)) := Arv.set Ar21 q21 Sz21 Ng21 Hs21 Gs21 (fits_nar_char _) W21 0 rfl (Nat.le_of_ble_eq_true rfl)
  rw [(show (c0.toUInt32.toUInt16.toUInt32.toInt32) = c0 from ok0.2.2)] at V21
  have Nf27 := Fr.snoc X21 Nf0 g_b9
  have kn28 : ∀ t, own_S p e below T21 (mkF m 117 #[.val (.int p1), .val (.ref a2)] [(.ref b9), (.ref b1), (.ref b1)]) t → own_S p e below T0 (mkF m 104 #[.val (.int p1), .val (.ref a2)] []) t := fun t kt => kn20 t (st21 _ kt)
  have kn29 : ∀ t, own_S p e below T21 (mkF m 121 #[.val (.int p1), .val (.ref a2)] [(.int (1 : Int32)), (.ref a2), (.int (1 : Int32)), (.ref b9), (.ref b9), (.ref b1), (.ref b1)]) t → own_S p e below T0 (mkF m 104 #[.val (.int p1), .val (.ref a2)] []) t := fun t kt => kn28 t (by
    show own_S p e below T21 (mkF m 117 #[.val (.int p1), .val (.ref a2)] [(.ref b9), (.ref b1), (.ref b1)]) _
    refine XS.dup X21.here hx rfl (hb hby d_method_4_117) rfl rfl ?_
    show own_S p e below T21 (mkF m 118 #[.val (.int p1), .val (.ref a2)] [(.ref b9), (.ref b9), (.ref b1), (.ref b1)]) _
    refine XS.iconst X21.here hx rfl (hb hby d_method_4_118) ?_
    show own_S p e below T21 (mkF m 119 #[.val (.int p1), .val (.ref a2)] [(.int (1 : Int32)), (.ref b9), (.ref b9), (.ref b1), (.ref b1)]) _
    refine XS.aloadN X21.here hx rfl (hb hby d_method_4_119) rfl rfl ?_
    show own_S p e below T21 (mkF m 120 #[.val (.int p1), .val (.ref a2)] [(.ref a2), (.int (1 : Int32)), (.ref b9), (.ref b9), (.ref b1), (.ref b1)]) _
    refine XS.iconst X21.here hx rfl (hb hby d_method_4_120) ?_
    exact kt)
  have f30 := (f18.other W21 ne_a2_b9)
  obtain ⟨cl31, Ar31, q31, Sz31, Ng31, Hs31, Gs31⟩ := id f30
  have hin31 : ¬ ((1 : Int32) < 0 ∨ cl31.slots.size ≤ ((1 : Int32)).toNatClampNeg) := inb_of Sz31 ⟨by decide, by decide⟩
  have hat31 : cl31.slots[((1 : Int32)).toNatClampNeg]? = some (.int c1) := Hs31.at hin31 rfl
  have kn32 : ∀ t, own_S p e below T21 (mkF m 122 #[.val (.int p1), .val (.ref a2)] [(.int c1), (.int (1 : Int32)), (.ref b9), (.ref b9), (.ref b1), (.ref b1)]) t → own_S p e below T0 (mkF m 104 #[.val (.int p1), .val (.ref a2)] []) t := fun t kt => kn29 t (by
    show own_S p e below T21 (mkF m 121 #[.val (.int p1), .val (.ref a2)] [(.int (1 : Int32)), (.ref a2), (.int (1 : Int32)), (.ref b9), (.ref b9), (.ref b1), (.ref b1)]) _
    refine X21.caload hx (j := (1 : Int32)) (v := (.int c1)) (by rw [e21]; exact Ar31.1) (State.isArrayOf_alike hZ.alike Ar31.2.1) Ar31.2.2 hin31 hat31 (g := (mkF m 121 #[.val (.int p1), .val (.ref a2)] [(.int (1 : Int32)), (.ref a2), (.int (1 : Int32)), (.ref b9), (.ref b9), (.ref b1), (.ref b1)])) rfl rfl (hb hby d_method_4_121) _ ?_
    exact kt)
  obtain ⟨cl33, Ar33, q33, Sz33, Ng33, Hs33, Gs33⟩ := id V21
  have hin33 : ¬ ((1 : Int32) < 0 ∨ cl33.slots.size ≤ ((1 : Int32)).toNatClampNeg) := inb_of Sz33 ⟨by decide, by decide⟩
  obtain ⟨T33, h33, X33, e33, W33, st33⟩ := stC X21 hx hZ e21 Ar33 (j := (1 : Int32)) hin33 (g := (mkF m 122 #[.val (.int p1), .val (.ref a2)] [(.int c1), (.int (1 : Int32)), (.ref b9), (.ref b9), (.ref b1), (.ref b1)])) rfl rfl (hb hby d_method_4_122)
  have CS34 := CHr.wr W33 (Safe.arr hZ.alike Ar33 nofun) CR22.1
  have CR34 := CR22.trans CS34
  have SF34_b1 := CS34.safe SL22_b1 SF22_b1
  have SL34_b1 := Nat.lt_of_lt_of_le SL22_b1 CS34.2.1
  have Z35 : n0 ≤ h33.size := Nat.le_trans Z23 (Keep.of_wr W33).1
  have hk36 := Nat.le_trans hk24 (Keep.of_wr W33).1
  have Od37 : Old Z n0 h33 := Od25.wr W33 g_b9
  have K38 : Keep h0 h33 [] := K26.wr W33 (Or.inr sz_b9)
  have V33 : Arv Z h33 b9 kk9 .char (4 : Int32) [(.int c0), (.int (c1.toUInt32.toUInt16.toUInt32.toInt32)), (.int (0 : Int32)), (.int (0 : Int32))] (.int (0 : Int32)) := Arv.set Ar33 q33 Sz33 Ng33 Hs33 Gs33 (fits_nar_char _) W33 1 rfl (Nat.le_of_ble_eq_true rfl)
  rw [(show (c1.toUInt32.toUInt16.toUInt32.toInt32) = c1 from ok1.2.2)] at V33
  have Nf39 := Fr.snoc X33 Nf27 g_b9
  have kn40 : ∀ t, own_S p e below T33 (mkF m 123 #[.val (.int p1), .val (.ref a2)] [(.ref b9), (.ref b1), (.ref b1)]) t → own_S p e below T0 (mkF m 104 #[.val (.int p1), .val (.ref a2)] []) t := fun t kt => kn32 t (st33 _ kt)
  have kn41 : ∀ t, own_S p e below T33 (mkF m 127 #[.val (.int p1), .val (.ref a2)] [(.int (2 : Int32)), (.ref a2), (.int (2 : Int32)), (.ref b9), (.ref b9), (.ref b1), (.ref b1)]) t → own_S p e below T0 (mkF m 104 #[.val (.int p1), .val (.ref a2)] []) t := fun t kt => kn40 t (by
    show own_S p e below T33 (mkF m 123 #[.val (.int p1), .val (.ref a2)] [(.ref b9), (.ref b1), (.ref b1)]) _
    refine XS.dup X33.here hx rfl (hb hby d_method_4_123) rfl rfl ?_
    show own_S p e below T33 (mkF m 124 #[.val (.int p1), .val (.ref a2)] [(.ref b9), (.ref b9), (.ref b1), (.ref b1)]) _
    refine XS.iconst X33.here hx rfl (hb hby d_method_4_124) ?_
    show own_S p e below T33 (mkF m 125 #[.val (.int p1), .val (.ref a2)] [(.int (2 : Int32)), (.ref b9), (.ref b9), (.ref b1), (.ref b1)]) _
    refine XS.aloadN X33.here hx rfl (hb hby d_method_4_125) rfl rfl ?_
    show own_S p e below T33 (mkF m 126 #[.val (.int p1), .val (.ref a2)] [(.ref a2), (.int (2 : Int32)), (.ref b9), (.ref b9), (.ref b1), (.ref b1)]) _
    refine XS.iconst X33.here hx rfl (hb hby d_method_4_126) ?_
    exact kt)
  have f42 := (f30.other W33 ne_a2_b9)
  obtain ⟨cl43, Ar43, q43, Sz43, Ng43, Hs43, Gs43⟩ := id f42
  have hin43 : ¬ ((2 : Int32) < 0 ∨ cl43.slots.size ≤ ((2 : Int32)).toNatClampNeg) := inb_of Sz43 ⟨by decide, by decide⟩
  have hat43 : cl43.slots[((2 : Int32)).toNatClampNeg]? = some (.int c2) := Hs43.at hin43 rfl
  have kn44 : ∀ t, own_S p e below T33 (mkF m 128 #[.val (.int p1), .val (.ref a2)] [(.int c2), (.int (2 : Int32)), (.ref b9), (.ref b9), (.ref b1), (.ref b1)]) t → own_S p e below T0 (mkF m 104 #[.val (.int p1), .val (.ref a2)] []) t := fun t kt => kn41 t (by
    show own_S p e below T33 (mkF m 127 #[.val (.int p1), .val (.ref a2)] [(.int (2 : Int32)), (.ref a2), (.int (2 : Int32)), (.ref b9), (.ref b9), (.ref b1), (.ref b1)]) _
    refine X33.caload hx (j := (2 : Int32)) (v := (.int c2)) (by rw [e33]; exact Ar43.1) (State.isArrayOf_alike hZ.alike Ar43.2.1) Ar43.2.2 hin43 hat43 (g := (mkF m 127 #[.val (.int p1), .val (.ref a2)] [(.int (2 : Int32)), (.ref a2), (.int (2 : Int32)), (.ref b9), (.ref b9), (.ref b1), (.ref b1)])) rfl rfl (hb hby d_method_4_127) _ ?_
    exact kt)
  obtain ⟨cl45, Ar45, q45, Sz45, Ng45, Hs45, Gs45⟩ := id V33
  have hin45 : ¬ ((2 : Int32) < 0 ∨ cl45.slots.size ≤ ((2 : Int32)).toNatClampNeg) := inb_of Sz45 ⟨by decide, by decide⟩
  obtain ⟨T45, h45, X45, e45, W45, st45⟩ := stC X33 hx hZ e33 Ar45 (j := (2 : Int32)) hin45 (g := (mkF m 128 #[.val (.int p1), .val (.ref a2)] [(.int c2), (.int (2 : Int32)), (.ref b9), (.ref b9), (.ref b1), (.ref b1)])) rfl rfl (hb hby d_method_4_128)
  have CS46 := CHr.wr W45 (Safe.arr hZ.alike Ar45 nofun) CR34.1
  have CR46 := CR34.trans CS46
  have SF46_b1 := CS46.safe SL34_b1 SF34_b1
  have SL46_b1 := Nat.lt_of_lt_of_le SL34_b1 CS46.2.1
  have Z47 : n0 ≤ h45.size := Nat.le_trans Z35 (Keep.of_wr W45).1
  have hk48 := Nat.le_trans hk36 (Keep.of_wr W45).1
  have Od49 : Old Z n0 h45 := Od37.wr W45 g_b9
  have K50 : Keep h0 h45 [] := K38.wr W45 (Or.inr sz_b9)
  have V45 : Arv Z h45 b9 kk9 .char (4 : Int32) [(.int c0), (.int c1), (.int (c2.toUInt32.toUInt16.toUInt32.toInt32)), (.int (0 : Int32))] (.int (0 : Int32)) := Arv.set Ar45 q45 Sz45 Ng45 Hs45 Gs45 (fits_nar_char _) W45 2 rfl (Nat.le_of_ble_eq_true rfl)
  rw [(show (c2.toUInt32.toUInt16.toUInt32.toInt32) = c2 from ok2.2.2)] at V45
  have Nf51 := Fr.snoc X45 Nf39 g_b9
  have kn52 : ∀ t, own_S p e below T45 (mkF m 129 #[.val (.int p1), .val (.ref a2)] [(.ref b9), (.ref b1), (.ref b1)]) t → own_S p e below T0 (mkF m 104 #[.val (.int p1), .val (.ref a2)] []) t := fun t kt => kn44 t (st45 _ kt)
  have kn53 : ∀ t, own_S p e below T45 (mkF m 133 #[.val (.int p1), .val (.ref a2)] [(.int (3 : Int32)), (.ref a2), (.int (3 : Int32)), (.ref b9), (.ref b9), (.ref b1), (.ref b1)]) t → own_S p e below T0 (mkF m 104 #[.val (.int p1), .val (.ref a2)] []) t := fun t kt => kn52 t (by
    show own_S p e below T45 (mkF m 129 #[.val (.int p1), .val (.ref a2)] [(.ref b9), (.ref b1), (.ref b1)]) _
    refine XS.dup X45.here hx rfl (hb hby d_method_4_129) rfl rfl ?_
    show own_S p e below T45 (mkF m 130 #[.val (.int p1), .val (.ref a2)] [(.ref b9), (.ref b9), (.ref b1), (.ref b1)]) _
    refine XS.iconst X45.here hx rfl (hb hby d_method_4_130) ?_
    show own_S p e below T45 (mkF m 131 #[.val (.int p1), .val (.ref a2)] [(.int (3 : Int32)), (.ref b9), (.ref b9), (.ref b1), (.ref b1)]) _
    refine XS.aloadN X45.here hx rfl (hb hby d_method_4_131) rfl rfl ?_
    show own_S p e below T45 (mkF m 132 #[.val (.int p1), .val (.ref a2)] [(.ref a2), (.int (3 : Int32)), (.ref b9), (.ref b9), (.ref b1), (.ref b1)]) _
    refine XS.iconst X45.here hx rfl (hb hby d_method_4_132) ?_
    exact kt)
  have f54 := (f42.other W45 ne_a2_b9)
  obtain ⟨cl55, Ar55, q55, Sz55, Ng55, Hs55, Gs55⟩ := id f54
  have hin55 : ¬ ((3 : Int32) < 0 ∨ cl55.slots.size ≤ ((3 : Int32)).toNatClampNeg) := inb_of Sz55 ⟨by decide, by decide⟩
  have hat55 : cl55.slots[((3 : Int32)).toNatClampNeg]? = some (.int c3) := Hs55.at hin55 rfl
  have kn56 : ∀ t, own_S p e below T45 (mkF m 134 #[.val (.int p1), .val (.ref a2)] [(.int c3), (.int (3 : Int32)), (.ref b9), (.ref b9), (.ref b1), (.ref b1)]) t → own_S p e below T0 (mkF m 104 #[.val (.int p1), .val (.ref a2)] []) t := fun t kt => kn53 t (by
    show own_S p e below T45 (mkF m 133 #[.val (.int p1), .val (.ref a2)] [(.int (3 : Int32)), (.ref a2), (.int (3 : Int32)), (.ref b9), (.ref b9), (.ref b1), (.ref b1)]) _
    refine X45.caload hx (j := (3 : Int32)) (v := (.int c3)) (by rw [e45]; exact Ar55.1) (State.isArrayOf_alike hZ.alike Ar55.2.1) Ar55.2.2 hin55 hat55 (g := (mkF m 133 #[.val (.int p1), .val (.ref a2)] [(.int (3 : Int32)), (.ref a2), (.int (3 : Int32)), (.ref b9), (.ref b9), (.ref b1), (.ref b1)])) rfl rfl (hb hby d_method_4_133) _ ?_
    exact kt)
  obtain ⟨cl57, Ar57, q57, Sz57, Ng57, Hs57, Gs57⟩ := id V45
  have hin57 : ¬ ((3 : Int32) < 0 ∨ cl57.slots.size ≤ ((3 : Int32)).toNatClampNeg) := inb_of Sz57 ⟨by decide, by decide⟩
  obtain ⟨T57, h57, X57, e57, W57, st57⟩ := stC X45 hx hZ e45 Ar57 (j := (3 : Int32)) hin57 (g := (mkF m 134 #[.val (.int p1), .val (.ref a2)] [(.int c3), (.int (3 : Int32)), (.ref b9), (.ref b9), (.ref b1), (.ref b1)])) rfl rfl (hb hby d_method_4_134)
  have CS58 := CHr.wr W57 (Safe.arr hZ.alike Ar57 nofun) CR46.1
  have CR58 := CR46.trans CS58
  have SF58_b1 := CS58.safe SL46_b1 SF46_b1
  have SL58_b1 := Nat.lt_of_lt_of_le SL46_b1 CS58.2.1
  have Z59 : n0 ≤ h57.size := Nat.le_trans Z47 (Keep.of_wr W57).1
  have hk60 := Nat.le_trans hk48 (Keep.of_wr W57).1
  have Od61 : Old Z n0 h57 := Od49.wr W57 g_b9
  have K62 : Keep h0 h57 [] := K50.wr W57 (Or.inr sz_b9)
  have V57 : Arv Z h57 b9 kk9 .char (4 : Int32) [(.int c0), (.int c1), (.int c2), (.int (c3.toUInt32.toUInt16.toUInt32.toInt32))] (.int (0 : Int32)) := Arv.set Ar57 q57 Sz57 Ng57 Hs57 Gs57 (fits_nar_char _) W57 3 rfl (Nat.le_of_ble_eq_true rfl)
  rw [(show (c3.toUInt32.toUInt16.toUInt32.toInt32) = c3 from ok3.2.2)] at V57
  have Nf63 := Fr.snoc X57 Nf51 g_b9
  have kn64 : ∀ t, own_S p e below T57 (mkF m 135 #[.val (.int p1), .val (.ref a2)] [(.ref b9), (.ref b1), (.ref b1)]) t → own_S p e below T0 (mkF m 104 #[.val (.int p1), .val (.ref a2)] []) t := fun t kt => kn56 t (st57 _ kt)
  have hws : ∀ d ∈ StrChars.Road.words, d.before a0 Z = true := fun d hd => hw d ((by decide +kernel : ∀ d ∈ StrChars.Road.words, d ∈ tables_1) d hd)
  have hp66 : ∀ c ∈ ([c0, c1, c2, c3] : List Int32), ¬ c < 0 ∧ ¬ (255 : Int32) < c := (own_fa ⟨ok0.1, ok0.2.1⟩ (own_fa ⟨ok1.1, ok1.2.1⟩ (own_fa ⟨ok2.1, ok2.2.1⟩ (own_fa ⟨ok3.1, ok3.2.1⟩ own_f0))))
  have f67 := (((((A1.ext E9).wr W21).wr W33).wr W45).wr W57)
  have f68 := (((((F1_4.ext E9).other W21 (Or.inl ne_b1_b9)).other W33 (Or.inl ne_b1_b9)).other W45 (Or.inl ne_b1_b9)).other W57 (Or.inl ne_b1_b9))
  have f69 := (((((F1_5.ext E9).other W21 (Or.inl ne_b1_b9)).other W33 (Or.inl ne_b1_b9)).other W45 (Or.inl ne_b1_b9)).other W57 (Or.inl ne_b1_b9))
  obtain ⟨_, _, ⟨T65, L65, cc65, ss65⟩, -, X65, ⟨Lc65, hQ65, l65, y65, z65⟩, st65⟩ := X57.specialBack hx (y := (⟨"java/lang/String", "<init>", "([C)V"⟩ : MethodName)) rfl hown (mvT hZ (hw _ (List.mem_of_getElem? (i := 83) rfl))) (mvT hZ (hw _ (List.mem_of_getElem? (i := 84) rfl))) (mvT hZ (hw _ (List.mem_of_getElem? (i := 85) rfl))) (by decide) (StrChars.Road.backV (W := 1) hZ hws (kI := 4) (hw _ (List.mem_of_getElem? (i := 2) rfl)) (cs := ([c0, c1, c2, c3] : List Int32)) (bs := ([c0, c1, c2, c3] : List Int32).map (fun c => c.toInt8.toInt32)) (n := 4) g_b1 Z59 f67 f68 f69 V57 (O2.ext Od61.2) P5 rfl rfl (by decide) (by decide) hp66 rfl (by decide) (by decide)) (g := (mkF m 135 #[.val (.int p1), .val (.ref a2)] [(.ref b9), (.ref b1), (.ref b1)])) rfl (by rw [hml]; rfl) (Steps.refl _) (a := b1) (argsL := [(.ref b9)]) (rest := [(.ref b1)]) (lenOf pd_5 rfl) rfl (by show 2 * 0 + _ ≤ _; exact Nat.le_of_eq rfl) (hb hby d_method_4_135) (fun _ _ => ⟨rfl, e57, (by decide : 2 + 1 ≤ _), (by decide : 8 + 4 ≤ _)⟩)
  dsimp only [Pt.U, Pt.locs, Pt.cells, Pt.slots] at X65 l65 y65 z65 st65 hQ65
  subst l65 y65 z65
  have X65 : Stand p l e _ _ m _ below meth c T65 _ 3 12 := X65
  obtain ⟨rfl, Nq65, K65, Ex65, Co65, t65, kb65, ga65, sa65, nx65, Va65, Ar65⟩ := hQ65
  have Nf65 := Fr.app Nf63 Nq65
  have CS70 := CHr.keep K65 (allS SF58_b1 all0) CR58.1
  have CR70 := CR58.trans CS70
  have SF70_b1 := CS70.safe SL58_b1 SF58_b1
  have SL70_b1 := Nat.lt_of_lt_of_le SL58_b1 CS70.2.1
  have Z71 : n0 ≤ T65.heap.size := Nat.le_trans Z59 K65.1
  have hk72 := Nat.le_trans hk60 K65.1
  have Od73 : Old Z n0 T65.heap := Od61.keep K65 (allS g_b1 all0)
  have K74 : Keep h0 T65.heap [] := K62.trans K65 (allS (Or.inr sz_b1) all0)
  have kn75 : ∀ t, own_S p e below T65 (mkF m 138 #[.val (.int p1), .val (.ref a2)] [(.ref b1)]) t → own_S p e below T0 (mkF m 104 #[.val (.int p1), .val (.ref a2)] []) t := fun t kt => kn64 t (st65.trans kt)
  obtain ⟨fs, hr, hrun, hended, hRW⟩ := X65.leaveW hS0 hk72 (v := some (.ref b1)) (fun h => by rw [hret] at h; cases h)
  have chE : CHr Z consts_1 s.vm s.heap T65.vm T65.heap := by exact CR70.trans (CHv.at X65 hZ (own_EW hw) CR70.1)
  refine ⟨_, _, id (kn75 _ (by
      show own_S p e below T65 (mkF m 138 #[.val (.int p1), .val (.ref a2)] [(.ref b1)]) _
      jvm_step X65.here [X65.here.top, hx, (hb hby d_method_4_138), X65.method', hret, Value.isRef, FieldType.isReference]
      first | (intro acts; rw [hr _ acts rfl rfl rfl]) | rw [hr _ _ rfl rfl rfl]
      exact Steps.refl _)), hrun, hended, _, _, rfl, ?_, chE, ⟨hRW.1, hRW.2.1, hRW.2.2.1, hRW.2.2.2.mono (by decide) (by decide)⟩⟩
  show Q12 Z p1 a2 k2 c0 c1 c2 c3 c4 c5 c6 G1 h0 n0 _ T65.heap _
  exact ⟨b1, t65, kb65, ([c0, c1, c2, c3] : List Int32), rfl, Nf65, g_b1, K74, Ex65, Va65, Co65, Ar65, hp66, Nat.le_of_ble_eq_true rfl⟩

theorem d_method_4_144 : decode method_4_code 144 = .ok (.new 16, 3) := by decide +kernel
theorem d_method_4_147 : decode method_4_code 147 = .ok (.dup, 1) := by decide +kernel
theorem d_method_4_148 : decode method_4_code 148 = .ok (.iconst 5, 1) := by decide +kernel
theorem d_method_4_149 : decode method_4_code 149 = .ok (.newarray .char, 2) := by decide +kernel
theorem d_method_4_151 : decode method_4_code 151 = .ok (.dup, 1) := by decide +kernel
theorem d_method_4_152 : decode method_4_code 152 = .ok (.iconst 0, 1) := by decide +kernel
theorem d_method_4_153 : decode method_4_code 153 = .ok (.aload_n 1, 1) := by decide +kernel
theorem d_method_4_154 : decode method_4_code 154 = .ok (.iconst 0, 1) := by decide +kernel
theorem d_method_4_155 : decode method_4_code 155 = .ok (.caload, 1) := by decide +kernel
theorem d_method_4_156 : decode method_4_code 156 = .ok (.castore, 1) := by decide +kernel
theorem d_method_4_157 : decode method_4_code 157 = .ok (.dup, 1) := by decide +kernel
theorem d_method_4_158 : decode method_4_code 158 = .ok (.iconst 1, 1) := by decide +kernel
theorem d_method_4_159 : decode method_4_code 159 = .ok (.aload_n 1, 1) := by decide +kernel
theorem d_method_4_160 : decode method_4_code 160 = .ok (.iconst 1, 1) := by decide +kernel
theorem d_method_4_161 : decode method_4_code 161 = .ok (.caload, 1) := by decide +kernel
theorem d_method_4_162 : decode method_4_code 162 = .ok (.castore, 1) := by decide +kernel
theorem d_method_4_163 : decode method_4_code 163 = .ok (.dup, 1) := by decide +kernel
theorem d_method_4_164 : decode method_4_code 164 = .ok (.iconst 2, 1) := by decide +kernel
theorem d_method_4_165 : decode method_4_code 165 = .ok (.aload_n 1, 1) := by decide +kernel
theorem d_method_4_166 : decode method_4_code 166 = .ok (.iconst 2, 1) := by decide +kernel
theorem d_method_4_167 : decode method_4_code 167 = .ok (.caload, 1) := by decide +kernel
theorem d_method_4_168 : decode method_4_code 168 = .ok (.castore, 1) := by decide +kernel
theorem d_method_4_169 : decode method_4_code 169 = .ok (.dup, 1) := by decide +kernel
theorem d_method_4_170 : decode method_4_code 170 = .ok (.iconst 3, 1) := by decide +kernel
theorem d_method_4_171 : decode method_4_code 171 = .ok (.aload_n 1, 1) := by decide +kernel
theorem d_method_4_172 : decode method_4_code 172 = .ok (.iconst 3, 1) := by decide +kernel
theorem d_method_4_173 : decode method_4_code 173 = .ok (.caload, 1) := by decide +kernel
theorem d_method_4_174 : decode method_4_code 174 = .ok (.castore, 1) := by decide +kernel
theorem d_method_4_175 : decode method_4_code 175 = .ok (.dup, 1) := by decide +kernel
theorem d_method_4_176 : decode method_4_code 176 = .ok (.iconst 4, 1) := by decide +kernel
theorem d_method_4_177 : decode method_4_code 177 = .ok (.aload_n 1, 1) := by decide +kernel
theorem d_method_4_178 : decode method_4_code 178 = .ok (.iconst 4, 1) := by decide +kernel
theorem d_method_4_179 : decode method_4_code 179 = .ok (.caload, 1) := by decide +kernel
theorem d_method_4_180 : decode method_4_code 180 = .ok (.castore, 1) := by decide +kernel
theorem d_method_4_181 : decode method_4_code 181 = .ok (.invokespecial 57, 3) := by decide +kernel
theorem d_method_4_184 : decode method_4_code 184 = .ok (.areturn, 1) := by decide +kernel
set_option maxRecDepth 65536 in
set_option maxHeartbeats 40000000 in
theorem mk_5 {p : Program} {l : Launch} {e : Env} {s : State} {m : MethodId} {args : Array Value} {below : List Frame} {meth : Method} {c : Code} {T0 : State} {locs : List Loc} {Z : State} {a0 : Array Value} {h0 : Heap} {n0 : Nat} (p1 : Int32) (a2 : Addr) (k2 : ClassId) (c0 : Int32) (c1 : Int32) (c2 : Int32) (c3 : Int32) (c4 : Int32) (c5 : Int32) (c6 : Int32) (G1 : Int32) {vm0 : Vm} {k0 : Nat}
    (X0 : Stand p l e ({ frames := 6, cells := 4, slots := 20, locals := 90 } : Room) (s.setVm vm0) m args below meth c T0 locs 0 0) (hx : p.tables.exec = Jvm.exec) (hZ : Z.Warmed39 (s.setVm vm0).vm) (hw : ∀ d ∈ tables_1, d.before a0 Z = true) (hby : c.code = method_4_code) (hml : c.maxLocals = 2) (hown : (s.setVm vm0).vm.findClass "com/example/runs_to_scores/runstoscores/formats/SubtaskLabelledPinLaw" = some m.cls) (hret : meth.sig.returnType = some (.object "java/lang/String")) (hlk : meth.locks = false) (e0 : T0.heap = h0) (Nf0 : Fr n0 locs) (Z0 : n0 ≤ h0.size) (hS0 : s.Since vm0 k0) (hk0 : k0 ≤ h0.size) (H0 : CHr Z consts_1 s.vm s.heap vm0 h0) (A_a2 : Arv Z h0 a2 k2 .char (7 : Int32) [(.int c0), (.int c1), (.int c2), (.int c3), (.int c4), (.int c5), (.int c6)] (.int (0 : Int32))) (ok0 : own_ok c0) (ok1 : own_ok c1) (ok2 : own_ok c2) (ok3 : own_ok c3) (ok4 : own_ok c4) (ok5 : own_ok c5) (ok6 : own_ok c6) (O0 : Old Z n0 h0) (O2 : Sta Z Z.heap "java/lang/String" "COMPACT_STRINGS" "Z" (.int G1)) (P5 : ¬ (G1 = (0 : Int32))) :
    ∃ s₂ o, Steps p.tables e below (T0.setTop (mkF m 144 #[.val (.int p1), .val (.ref a2)] [])) s₂ ∧ s₂.status = .running ∧ Ended s₂ below o ∧ ∃ v L, o = .returned v ∧ Q12 Z p1 a2 k2 c0 c1 c2 c3 c4 c5 c6 G1 h0 n0 v s₂.heap L ∧ CHr Z consts_1 s.vm s.heap s₂.vm s₂.heap ∧ ReturnedEndW s o s₂ L ({ frames := 6, cells := 4, slots := 20, locals := 90 } : Room).cells ({ frames := 6, cells := 4, slots := 20, locals := 90 } : Room).slots := by
  have kn0 : ∀ t, own_S p e below T0 (mkF m 144 #[.val (.int p1), .val (.ref a2)] []) t → own_S p e below T0 (mkF m 144 #[.val (.int p1), .val (.ref a2)] []) t := fun t k => k
  have CR0 := H0
  obtain ⟨T1, h1, X1, e1, E1, A1, D1, -, st1⟩ := newO X0 hx hZ hown (hw _ (List.mem_of_getElem? (i := 82) rfl)) (hw _ (List.mem_of_getElem? (i := 2) rfl)) (hw _ (List.mem_of_getElem? (i := 1) rfl)) e0 (g := (mkF m 144 #[.val (.int p1), .val (.ref a2)] [])) rfl (hb hby d_method_4_144) (by decide) (by decide)
  obtain ⟨b1, g1⟩ : ∃ z, z = h0.size := ⟨_, rfl⟩
  rw [← g1] at A1 D1 st1
  have sz_b1 : h0.size ≤ b1 := Nat.le_trans (Keep.refl h0 []).1 (Nat.le_of_eq g1.symm)
  have g_b1 : n0 ≤ b1 := Nat.le_trans Z0 (Nat.le_of_eq g1.symm)
  have ne_a2_b1 : a2 ≠ b1 := Nat.ne_of_lt (Nat.lt_of_lt_of_le A_a2.lt (Nat.le_of_eq g1.symm))
  have CS2 := CHr.ext E1 CR0.1
  have CR2 := CR0.trans CS2
  have Z3 : n0 ≤ h1.size := Nat.le_trans Z0 E1.1
  have hk4 := Nat.le_trans hk0 E1.1
  have Od5 : Old Z n0 h1 := O0.ext E1
  have K6 : Keep h0 h1 [] := (Keep.refl h0 []).ext E1
  have SFn_b1 := Safe.ext E1 CR0.1 (Safe.new (x := b1) (Nat.le_of_eq g1.symm))
  have F1_4 : Fld Z h1 b1 "java/lang/String" "value" "[B" .null := D1 (Or.inr (hw _ (List.mem_of_getElem? (i := 4) rfl))) (ty := (.array .byte)) (by decide)
  have F1_5 : Fld Z h1 b1 "java/lang/String" "coder" "B" (.int (0 : Int32)) := D1 (Or.inr (hw _ (List.mem_of_getElem? (i := 5) rfl))) (ty := .byte) (by decide)
  have kn7 : ∀ t, own_S p e below T1 (mkF m 147 #[.val (.int p1), .val (.ref a2)] [(.ref b1)]) t → own_S p e below T0 (mkF m 144 #[.val (.int p1), .val (.ref a2)] []) t := fun t kt => kn0 t (st1 _ kt)
  have kn8 : ∀ t, own_S p e below T1 (mkF m 149 #[.val (.int p1), .val (.ref a2)] [(.int (5 : Int32)), (.ref b1), (.ref b1)]) t → own_S p e below T0 (mkF m 144 #[.val (.int p1), .val (.ref a2)] []) t := fun t kt => kn7 t (by
    show own_S p e below T1 (mkF m 147 #[.val (.int p1), .val (.ref a2)] [(.ref b1)]) _
    refine XS.dup X1.here hx rfl (hb hby d_method_4_147) rfl rfl ?_
    show own_S p e below T1 (mkF m 148 #[.val (.int p1), .val (.ref a2)] [(.ref b1), (.ref b1)]) _
    refine XS.iconst X1.here hx rfl (hb hby d_method_4_148) ?_
    exact kt)
  obtain ⟨T9, h9, kk9, X9, e9, E9, A9, st9⟩ := newP X1 hx hZ (hw _ (List.mem_of_getElem? (i := 21) rfl)) e1 (g := (mkF m 149 #[.val (.int p1), .val (.ref a2)] [(.int (5 : Int32)), (.ref b1), (.ref b1)])) rfl (hb hby d_method_4_149) rfl (by decide) (cap := 5) (by decide) (by decide) (by decide) (by decide)
  obtain ⟨b9, g9⟩ : ∃ z, z = h1.size := ⟨_, rfl⟩
  rw [← g9] at A9 st9
  have sz_b9 : h0.size ≤ b9 := Nat.le_trans K6.1 (Nat.le_of_eq g9.symm)
  have g_b9 : n0 ≤ b9 := Nat.le_trans Z3 (Nat.le_of_eq g9.symm)
  have f10 := (A_a2.ext E1)
  have ne_a2_b9 : a2 ≠ b9 := Nat.ne_of_lt (Nat.lt_of_lt_of_le f10.lt (Nat.le_of_eq g9.symm))
  have ne_b1_b9 : b1 ≠ b9 := Nat.ne_of_lt (Nat.lt_of_lt_of_le A1.lt (Nat.le_of_eq g9.symm))
  have CS11 := CHr.ext E9 CR2.1
  have CR11 := CR2.trans CS11
  have SF11_b1 := CS11.safe A1.lt SFn_b1
  have SL11_b1 := Nat.lt_of_lt_of_le A1.lt CS11.2.1
  have Z12 : n0 ≤ h9.size := Nat.le_trans Z3 E9.1
  have hk13 := Nat.le_trans hk4 E9.1
  have Od14 : Old Z n0 h9 := Od5.ext E9
  have K15 : Keep h0 h9 [] := K6.ext E9
  have V9 : Arv Z h9 b9 kk9 .char (5 : Int32) [(.int (0 : Int32)), (.int (0 : Int32)), (.int (0 : Int32)), (.int (0 : Int32)), (.int (0 : Int32))] (.int (0 : Int32)) := (Arv.new A9 (by decide)).pad (pad_rep [] (.int (0 : Int32)) 5)
  have kn16 : ∀ t, own_S p e below T9 (mkF m 151 #[.val (.int p1), .val (.ref a2)] [(.ref b9), (.ref b1), (.ref b1)]) t → own_S p e below T0 (mkF m 144 #[.val (.int p1), .val (.ref a2)] []) t := fun t kt => kn8 t (st9 _ kt)
  have kn17 : ∀ t, own_S p e below T9 (mkF m 155 #[.val (.int p1), .val (.ref a2)] [(.int (0 : Int32)), (.ref a2), (.int (0 : Int32)), (.ref b9), (.ref b9), (.ref b1), (.ref b1)]) t → own_S p e below T0 (mkF m 144 #[.val (.int p1), .val (.ref a2)] []) t := fun t kt => kn16 t (by
    show own_S p e below T9 (mkF m 151 #[.val (.int p1), .val (.ref a2)] [(.ref b9), (.ref b1), (.ref b1)]) _
    refine XS.dup X9.here hx rfl (hb hby d_method_4_151) rfl rfl ?_
    show own_S p e below T9 (mkF m 152 #[.val (.int p1), .val (.ref a2)] [(.ref b9), (.ref b9), (.ref b1), (.ref b1)]) _
    refine XS.iconst X9.here hx rfl (hb hby d_method_4_152) ?_
    show own_S p e below T9 (mkF m 153 #[.val (.int p1), .val (.ref a2)] [(.int (0 : Int32)), (.ref b9), (.ref b9), (.ref b1), (.ref b1)]) _
    refine XS.aloadN X9.here hx rfl (hb hby d_method_4_153) rfl rfl ?_
    show own_S p e below T9 (mkF m 154 #[.val (.int p1), .val (.ref a2)] [(.ref a2), (.int (0 : Int32)), (.ref b9), (.ref b9), (.ref b1), (.ref b1)]) _
    refine XS.iconst X9.here hx rfl (hb hby d_method_4_154) ?_
    exact kt)
  have f18 := (f10.ext E9)
  obtain ⟨cl19, Ar19, q19, Sz19, Ng19, Hs19, Gs19⟩ := id f18
  have hin19 : ¬ ((0 : Int32) < 0 ∨ cl19.slots.size ≤ ((0 : Int32)).toNatClampNeg) := inb_of Sz19 ⟨by decide, by decide⟩
  have hat19 : cl19.slots[((0 : Int32)).toNatClampNeg]? = some (.int c0) := Hs19.at hin19 rfl
  have kn20 : ∀ t, own_S p e below T9 (mkF m 156 #[.val (.int p1), .val (.ref a2)] [(.int c0), (.int (0 : Int32)), (.ref b9), (.ref b9), (.ref b1), (.ref b1)]) t → own_S p e below T0 (mkF m 144 #[.val (.int p1), .val (.ref a2)] []) t := fun t kt => kn17 t (by
    show own_S p e below T9 (mkF m 155 #[.val (.int p1), .val (.ref a2)] [(.int (0 : Int32)), (.ref a2), (.int (0 : Int32)), (.ref b9), (.ref b9), (.ref b1), (.ref b1)]) _
    refine X9.caload hx (j := (0 : Int32)) (v := (.int c0)) (by rw [e9]; exact Ar19.1) (State.isArrayOf_alike hZ.alike Ar19.2.1) Ar19.2.2 hin19 hat19 (g := (mkF m 155 #[.val (.int p1), .val (.ref a2)] [(.int (0 : Int32)), (.ref a2), (.int (0 : Int32)), (.ref b9), (.ref b9), (.ref b1), (.ref b1)])) rfl rfl (hb hby d_method_4_155) _ ?_
    exact kt)
  obtain ⟨cl21, Ar21, q21, Sz21, Ng21, Hs21, Gs21⟩ := id V9
  have hin21 : ¬ ((0 : Int32) < 0 ∨ cl21.slots.size ≤ ((0 : Int32)).toNatClampNeg) := inb_of Sz21 ⟨by decide, by decide⟩
  obtain ⟨T21, h21, X21, e21, W21, st21⟩ := stC X9 hx hZ e9 Ar21 (j := (0 : Int32)) hin21 (g := (mkF m 156 #[.val (.int p1), .val (.ref a2)] [(.int c0), (.int (0 : Int32)), (.ref b9), (.ref b9), (.ref b1), (.ref b1)])) rfl rfl (hb hby d_method_4_156)
  have CS22 := CHr.wr W21 (Safe.arr hZ.alike Ar21 nofun) CR11.1
  have CR22 := CR11.trans CS22
  have SF22_b1 := CS22.safe SL11_b1 SF11_b1
  have SL22_b1 := Nat.lt_of_lt_of_le SL11_b1 CS22.2.1
  have Z23 : n0 ≤ h21.size := Nat.le_trans Z12 (Keep.of_wr W21).1
  have hk24 := Nat.le_trans hk13 (Keep.of_wr W21).1
  have Od25 : Old Z n0 h21 := Od14.wr W21 g_b9
  have K26 : Keep h0 h21 [] := K15.wr W21 (Or.inr sz_b9)
  have V21 : Arv Z h21 b9 kk9 .char (5 : Int32) [(.int (c0.toUInt32.toUInt16.toUInt32.toInt32)), (.int (0 : Int32)), (.int (0 : Int32)), (.int (0 : Int32)), (.int (0 : Int32))] (.int (0 : Int32)) := Arv.set Ar21 q21 Sz21 Ng21 Hs21 Gs21 (fits_nar_char _) W21 0 rfl (Nat.le_of_ble_eq_true rfl)
  rw [(show (c0.toUInt32.toUInt16.toUInt32.toInt32) = c0 from ok0.2.2)] at V21
  have Nf27 := Fr.snoc X21 Nf0 g_b9
  have kn28 : ∀ t, own_S p e below T21 (mkF m 157 #[.val (.int p1), .val (.ref a2)] [(.ref b9), (.ref b1), (.ref b1)]) t → own_S p e below T0 (mkF m 144 #[.val (.int p1), .val (.ref a2)] []) t := fun t kt => kn20 t (st21 _ kt)
  have kn29 : ∀ t, own_S p e below T21 (mkF m 161 #[.val (.int p1), .val (.ref a2)] [(.int (1 : Int32)), (.ref a2), (.int (1 : Int32)), (.ref b9), (.ref b9), (.ref b1), (.ref b1)]) t → own_S p e below T0 (mkF m 144 #[.val (.int p1), .val (.ref a2)] []) t := fun t kt => kn28 t (by
    show own_S p e below T21 (mkF m 157 #[.val (.int p1), .val (.ref a2)] [(.ref b9), (.ref b1), (.ref b1)]) _
    refine XS.dup X21.here hx rfl (hb hby d_method_4_157) rfl rfl ?_
    show own_S p e below T21 (mkF m 158 #[.val (.int p1), .val (.ref a2)] [(.ref b9), (.ref b9), (.ref b1), (.ref b1)]) _
    refine XS.iconst X21.here hx rfl (hb hby d_method_4_158) ?_
    show own_S p e below T21 (mkF m 159 #[.val (.int p1), .val (.ref a2)] [(.int (1 : Int32)), (.ref b9), (.ref b9), (.ref b1), (.ref b1)]) _
    refine XS.aloadN X21.here hx rfl (hb hby d_method_4_159) rfl rfl ?_
    show own_S p e below T21 (mkF m 160 #[.val (.int p1), .val (.ref a2)] [(.ref a2), (.int (1 : Int32)), (.ref b9), (.ref b9), (.ref b1), (.ref b1)]) _
    refine XS.iconst X21.here hx rfl (hb hby d_method_4_160) ?_
    exact kt)
  have f30 := (f18.other W21 ne_a2_b9)
  obtain ⟨cl31, Ar31, q31, Sz31, Ng31, Hs31, Gs31⟩ := id f30
  have hin31 : ¬ ((1 : Int32) < 0 ∨ cl31.slots.size ≤ ((1 : Int32)).toNatClampNeg) := inb_of Sz31 ⟨by decide, by decide⟩
  have hat31 : cl31.slots[((1 : Int32)).toNatClampNeg]? = some (.int c1) := Hs31.at hin31 rfl
  have kn32 : ∀ t, own_S p e below T21 (mkF m 162 #[.val (.int p1), .val (.ref a2)] [(.int c1), (.int (1 : Int32)), (.ref b9), (.ref b9), (.ref b1), (.ref b1)]) t → own_S p e below T0 (mkF m 144 #[.val (.int p1), .val (.ref a2)] []) t := fun t kt => kn29 t (by
    show own_S p e below T21 (mkF m 161 #[.val (.int p1), .val (.ref a2)] [(.int (1 : Int32)), (.ref a2), (.int (1 : Int32)), (.ref b9), (.ref b9), (.ref b1), (.ref b1)]) _
    refine X21.caload hx (j := (1 : Int32)) (v := (.int c1)) (by rw [e21]; exact Ar31.1) (State.isArrayOf_alike hZ.alike Ar31.2.1) Ar31.2.2 hin31 hat31 (g := (mkF m 161 #[.val (.int p1), .val (.ref a2)] [(.int (1 : Int32)), (.ref a2), (.int (1 : Int32)), (.ref b9), (.ref b9), (.ref b1), (.ref b1)])) rfl rfl (hb hby d_method_4_161) _ ?_
    exact kt)
  obtain ⟨cl33, Ar33, q33, Sz33, Ng33, Hs33, Gs33⟩ := id V21
  have hin33 : ¬ ((1 : Int32) < 0 ∨ cl33.slots.size ≤ ((1 : Int32)).toNatClampNeg) := inb_of Sz33 ⟨by decide, by decide⟩
  obtain ⟨T33, h33, X33, e33, W33, st33⟩ := stC X21 hx hZ e21 Ar33 (j := (1 : Int32)) hin33 (g := (mkF m 162 #[.val (.int p1), .val (.ref a2)] [(.int c1), (.int (1 : Int32)), (.ref b9), (.ref b9), (.ref b1), (.ref b1)])) rfl rfl (hb hby d_method_4_162)
  have CS34 := CHr.wr W33 (Safe.arr hZ.alike Ar33 nofun) CR22.1
  have CR34 := CR22.trans CS34
  have SF34_b1 := CS34.safe SL22_b1 SF22_b1
  have SL34_b1 := Nat.lt_of_lt_of_le SL22_b1 CS34.2.1
  have Z35 : n0 ≤ h33.size := Nat.le_trans Z23 (Keep.of_wr W33).1
  have hk36 := Nat.le_trans hk24 (Keep.of_wr W33).1
  have Od37 : Old Z n0 h33 := Od25.wr W33 g_b9
  have K38 : Keep h0 h33 [] := K26.wr W33 (Or.inr sz_b9)
  have V33 : Arv Z h33 b9 kk9 .char (5 : Int32) [(.int c0), (.int (c1.toUInt32.toUInt16.toUInt32.toInt32)), (.int (0 : Int32)), (.int (0 : Int32)), (.int (0 : Int32))] (.int (0 : Int32)) := Arv.set Ar33 q33 Sz33 Ng33 Hs33 Gs33 (fits_nar_char _) W33 1 rfl (Nat.le_of_ble_eq_true rfl)
  rw [(show (c1.toUInt32.toUInt16.toUInt32.toInt32) = c1 from ok1.2.2)] at V33
  have Nf39 := Fr.snoc X33 Nf27 g_b9
  have kn40 : ∀ t, own_S p e below T33 (mkF m 163 #[.val (.int p1), .val (.ref a2)] [(.ref b9), (.ref b1), (.ref b1)]) t → own_S p e below T0 (mkF m 144 #[.val (.int p1), .val (.ref a2)] []) t := fun t kt => kn32 t (st33 _ kt)
  have kn41 : ∀ t, own_S p e below T33 (mkF m 167 #[.val (.int p1), .val (.ref a2)] [(.int (2 : Int32)), (.ref a2), (.int (2 : Int32)), (.ref b9), (.ref b9), (.ref b1), (.ref b1)]) t → own_S p e below T0 (mkF m 144 #[.val (.int p1), .val (.ref a2)] []) t := fun t kt => kn40 t (by
    show own_S p e below T33 (mkF m 163 #[.val (.int p1), .val (.ref a2)] [(.ref b9), (.ref b1), (.ref b1)]) _
    refine XS.dup X33.here hx rfl (hb hby d_method_4_163) rfl rfl ?_
    show own_S p e below T33 (mkF m 164 #[.val (.int p1), .val (.ref a2)] [(.ref b9), (.ref b9), (.ref b1), (.ref b1)]) _
    refine XS.iconst X33.here hx rfl (hb hby d_method_4_164) ?_
    show own_S p e below T33 (mkF m 165 #[.val (.int p1), .val (.ref a2)] [(.int (2 : Int32)), (.ref b9), (.ref b9), (.ref b1), (.ref b1)]) _
    refine XS.aloadN X33.here hx rfl (hb hby d_method_4_165) rfl rfl ?_
    show own_S p e below T33 (mkF m 166 #[.val (.int p1), .val (.ref a2)] [(.ref a2), (.int (2 : Int32)), (.ref b9), (.ref b9), (.ref b1), (.ref b1)]) _
    refine XS.iconst X33.here hx rfl (hb hby d_method_4_166) ?_
    exact kt)
  have f42 := (f30.other W33 ne_a2_b9)
  obtain ⟨cl43, Ar43, q43, Sz43, Ng43, Hs43, Gs43⟩ := id f42
  have hin43 : ¬ ((2 : Int32) < 0 ∨ cl43.slots.size ≤ ((2 : Int32)).toNatClampNeg) := inb_of Sz43 ⟨by decide, by decide⟩
  have hat43 : cl43.slots[((2 : Int32)).toNatClampNeg]? = some (.int c2) := Hs43.at hin43 rfl
  have kn44 : ∀ t, own_S p e below T33 (mkF m 168 #[.val (.int p1), .val (.ref a2)] [(.int c2), (.int (2 : Int32)), (.ref b9), (.ref b9), (.ref b1), (.ref b1)]) t → own_S p e below T0 (mkF m 144 #[.val (.int p1), .val (.ref a2)] []) t := fun t kt => kn41 t (by
    show own_S p e below T33 (mkF m 167 #[.val (.int p1), .val (.ref a2)] [(.int (2 : Int32)), (.ref a2), (.int (2 : Int32)), (.ref b9), (.ref b9), (.ref b1), (.ref b1)]) _
    refine X33.caload hx (j := (2 : Int32)) (v := (.int c2)) (by rw [e33]; exact Ar43.1) (State.isArrayOf_alike hZ.alike Ar43.2.1) Ar43.2.2 hin43 hat43 (g := (mkF m 167 #[.val (.int p1), .val (.ref a2)] [(.int (2 : Int32)), (.ref a2), (.int (2 : Int32)), (.ref b9), (.ref b9), (.ref b1), (.ref b1)])) rfl rfl (hb hby d_method_4_167) _ ?_
    exact kt)
  obtain ⟨cl45, Ar45, q45, Sz45, Ng45, Hs45, Gs45⟩ := id V33
  have hin45 : ¬ ((2 : Int32) < 0 ∨ cl45.slots.size ≤ ((2 : Int32)).toNatClampNeg) := inb_of Sz45 ⟨by decide, by decide⟩
  obtain ⟨T45, h45, X45, e45, W45, st45⟩ := stC X33 hx hZ e33 Ar45 (j := (2 : Int32)) hin45 (g := (mkF m 168 #[.val (.int p1), .val (.ref a2)] [(.int c2), (.int (2 : Int32)), (.ref b9), (.ref b9), (.ref b1), (.ref b1)])) rfl rfl (hb hby d_method_4_168)
  have CS46 := CHr.wr W45 (Safe.arr hZ.alike Ar45 nofun) CR34.1
  have CR46 := CR34.trans CS46
  have SF46_b1 := CS46.safe SL34_b1 SF34_b1
  have SL46_b1 := Nat.lt_of_lt_of_le SL34_b1 CS46.2.1
  have Z47 : n0 ≤ h45.size := Nat.le_trans Z35 (Keep.of_wr W45).1
  have hk48 := Nat.le_trans hk36 (Keep.of_wr W45).1
  have Od49 : Old Z n0 h45 := Od37.wr W45 g_b9
  have K50 : Keep h0 h45 [] := K38.wr W45 (Or.inr sz_b9)
  have V45 : Arv Z h45 b9 kk9 .char (5 : Int32) [(.int c0), (.int c1), (.int (c2.toUInt32.toUInt16.toUInt32.toInt32)), (.int (0 : Int32)), (.int (0 : Int32))] (.int (0 : Int32)) := Arv.set Ar45 q45 Sz45 Ng45 Hs45 Gs45 (fits_nar_char _) W45 2 rfl (Nat.le_of_ble_eq_true rfl)
  rw [(show (c2.toUInt32.toUInt16.toUInt32.toInt32) = c2 from ok2.2.2)] at V45
  have Nf51 := Fr.snoc X45 Nf39 g_b9
  have kn52 : ∀ t, own_S p e below T45 (mkF m 169 #[.val (.int p1), .val (.ref a2)] [(.ref b9), (.ref b1), (.ref b1)]) t → own_S p e below T0 (mkF m 144 #[.val (.int p1), .val (.ref a2)] []) t := fun t kt => kn44 t (st45 _ kt)
  have kn53 : ∀ t, own_S p e below T45 (mkF m 173 #[.val (.int p1), .val (.ref a2)] [(.int (3 : Int32)), (.ref a2), (.int (3 : Int32)), (.ref b9), (.ref b9), (.ref b1), (.ref b1)]) t → own_S p e below T0 (mkF m 144 #[.val (.int p1), .val (.ref a2)] []) t := fun t kt => kn52 t (by
    show own_S p e below T45 (mkF m 169 #[.val (.int p1), .val (.ref a2)] [(.ref b9), (.ref b1), (.ref b1)]) _
    refine XS.dup X45.here hx rfl (hb hby d_method_4_169) rfl rfl ?_
    show own_S p e below T45 (mkF m 170 #[.val (.int p1), .val (.ref a2)] [(.ref b9), (.ref b9), (.ref b1), (.ref b1)]) _
    refine XS.iconst X45.here hx rfl (hb hby d_method_4_170) ?_
    show own_S p e below T45 (mkF m 171 #[.val (.int p1), .val (.ref a2)] [(.int (3 : Int32)), (.ref b9), (.ref b9), (.ref b1), (.ref b1)]) _
    refine XS.aloadN X45.here hx rfl (hb hby d_method_4_171) rfl rfl ?_
    show own_S p e below T45 (mkF m 172 #[.val (.int p1), .val (.ref a2)] [(.ref a2), (.int (3 : Int32)), (.ref b9), (.ref b9), (.ref b1), (.ref b1)]) _
    refine XS.iconst X45.here hx rfl (hb hby d_method_4_172) ?_
    exact kt)
  have f54 := (f42.other W45 ne_a2_b9)
  obtain ⟨cl55, Ar55, q55, Sz55, Ng55, Hs55, Gs55⟩ := id f54
  have hin55 : ¬ ((3 : Int32) < 0 ∨ cl55.slots.size ≤ ((3 : Int32)).toNatClampNeg) := inb_of Sz55 ⟨by decide, by decide⟩
  have hat55 : cl55.slots[((3 : Int32)).toNatClampNeg]? = some (.int c3) := Hs55.at hin55 rfl
  have kn56 : ∀ t, own_S p e below T45 (mkF m 174 #[.val (.int p1), .val (.ref a2)] [(.int c3), (.int (3 : Int32)), (.ref b9), (.ref b9), (.ref b1), (.ref b1)]) t → own_S p e below T0 (mkF m 144 #[.val (.int p1), .val (.ref a2)] []) t := fun t kt => kn53 t (by
    show own_S p e below T45 (mkF m 173 #[.val (.int p1), .val (.ref a2)] [(.int (3 : Int32)), (.ref a2), (.int (3 : Int32)), (.ref b9), (.ref b9), (.ref b1), (.ref b1)]) _
    refine X45.caload hx (j := (3 : Int32)) (v := (.int c3)) (by rw [e45]; exact Ar55.1) (State.isArrayOf_alike hZ.alike Ar55.2.1) Ar55.2.2 hin55 hat55 (g := (mkF m 173 #[.val (.int p1), .val (.ref a2)] [(.int (3 : Int32)), (.ref a2), (.int (3 : Int32)), (.ref b9), (.ref b9), (.ref b1), (.ref b1)])) rfl rfl (hb hby d_method_4_173) _ ?_
    exact kt)
  obtain ⟨cl57, Ar57, q57, Sz57, Ng57, Hs57, Gs57⟩ := id V45
  have hin57 : ¬ ((3 : Int32) < 0 ∨ cl57.slots.size ≤ ((3 : Int32)).toNatClampNeg) := inb_of Sz57 ⟨by decide, by decide⟩
  obtain ⟨T57, h57, X57, e57, W57, st57⟩ := stC X45 hx hZ e45 Ar57 (j := (3 : Int32)) hin57 (g := (mkF m 174 #[.val (.int p1), .val (.ref a2)] [(.int c3), (.int (3 : Int32)), (.ref b9), (.ref b9), (.ref b1), (.ref b1)])) rfl rfl (hb hby d_method_4_174)
  have CS58 := CHr.wr W57 (Safe.arr hZ.alike Ar57 nofun) CR46.1
  have CR58 := CR46.trans CS58
  have SF58_b1 := CS58.safe SL46_b1 SF46_b1
  have SL58_b1 := Nat.lt_of_lt_of_le SL46_b1 CS58.2.1
  have Z59 : n0 ≤ h57.size := Nat.le_trans Z47 (Keep.of_wr W57).1
  have hk60 := Nat.le_trans hk48 (Keep.of_wr W57).1
  have Od61 : Old Z n0 h57 := Od49.wr W57 g_b9
  have K62 : Keep h0 h57 [] := K50.wr W57 (Or.inr sz_b9)
  have V57 : Arv Z h57 b9 kk9 .char (5 : Int32) [(.int c0), (.int c1), (.int c2), (.int (c3.toUInt32.toUInt16.toUInt32.toInt32)), (.int (0 : Int32))] (.int (0 : Int32)) := Arv.set Ar57 q57 Sz57 Ng57 Hs57 Gs57 (fits_nar_char _) W57 3 rfl (Nat.le_of_ble_eq_true rfl)
  rw [(show (c3.toUInt32.toUInt16.toUInt32.toInt32) = c3 from ok3.2.2)] at V57
  have Nf63 := Fr.snoc X57 Nf51 g_b9
  have kn64 : ∀ t, own_S p e below T57 (mkF m 175 #[.val (.int p1), .val (.ref a2)] [(.ref b9), (.ref b1), (.ref b1)]) t → own_S p e below T0 (mkF m 144 #[.val (.int p1), .val (.ref a2)] []) t := fun t kt => kn56 t (st57 _ kt)
  have kn65 : ∀ t, own_S p e below T57 (mkF m 179 #[.val (.int p1), .val (.ref a2)] [(.int (4 : Int32)), (.ref a2), (.int (4 : Int32)), (.ref b9), (.ref b9), (.ref b1), (.ref b1)]) t → own_S p e below T0 (mkF m 144 #[.val (.int p1), .val (.ref a2)] []) t := fun t kt => kn64 t (by
    show own_S p e below T57 (mkF m 175 #[.val (.int p1), .val (.ref a2)] [(.ref b9), (.ref b1), (.ref b1)]) _
    refine XS.dup X57.here hx rfl (hb hby d_method_4_175) rfl rfl ?_
    show own_S p e below T57 (mkF m 176 #[.val (.int p1), .val (.ref a2)] [(.ref b9), (.ref b9), (.ref b1), (.ref b1)]) _
    refine XS.iconst X57.here hx rfl (hb hby d_method_4_176) ?_
    show own_S p e below T57 (mkF m 177 #[.val (.int p1), .val (.ref a2)] [(.int (4 : Int32)), (.ref b9), (.ref b9), (.ref b1), (.ref b1)]) _
    refine XS.aloadN X57.here hx rfl (hb hby d_method_4_177) rfl rfl ?_
    show own_S p e below T57 (mkF m 178 #[.val (.int p1), .val (.ref a2)] [(.ref a2), (.int (4 : Int32)), (.ref b9), (.ref b9), (.ref b1), (.ref b1)]) _
    refine XS.iconst X57.here hx rfl (hb hby d_method_4_178) ?_
    exact kt)
  have f66 := (f54.other W57 ne_a2_b9)
  obtain ⟨cl67, Ar67, q67, Sz67, Ng67, Hs67, Gs67⟩ := id f66
  have hin67 : ¬ ((4 : Int32) < 0 ∨ cl67.slots.size ≤ ((4 : Int32)).toNatClampNeg) := inb_of Sz67 ⟨by decide, by decide⟩
  have hat67 : cl67.slots[((4 : Int32)).toNatClampNeg]? = some (.int c4) := Hs67.at hin67 rfl
  have kn68 : ∀ t, own_S p e below T57 (mkF m 180 #[.val (.int p1), .val (.ref a2)] [(.int c4), (.int (4 : Int32)), (.ref b9), (.ref b9), (.ref b1), (.ref b1)]) t → own_S p e below T0 (mkF m 144 #[.val (.int p1), .val (.ref a2)] []) t := fun t kt => kn65 t (by
    show own_S p e below T57 (mkF m 179 #[.val (.int p1), .val (.ref a2)] [(.int (4 : Int32)), (.ref a2), (.int (4 : Int32)), (.ref b9), (.ref b9), (.ref b1), (.ref b1)]) _
    refine X57.caload hx (j := (4 : Int32)) (v := (.int c4)) (by rw [e57]; exact Ar67.1) (State.isArrayOf_alike hZ.alike Ar67.2.1) Ar67.2.2 hin67 hat67 (g := (mkF m 179 #[.val (.int p1), .val (.ref a2)] [(.int (4 : Int32)), (.ref a2), (.int (4 : Int32)), (.ref b9), (.ref b9), (.ref b1), (.ref b1)])) rfl rfl (hb hby d_method_4_179) _ ?_
    exact kt)
  obtain ⟨cl69, Ar69, q69, Sz69, Ng69, Hs69, Gs69⟩ := id V57
  have hin69 : ¬ ((4 : Int32) < 0 ∨ cl69.slots.size ≤ ((4 : Int32)).toNatClampNeg) := inb_of Sz69 ⟨by decide, by decide⟩
  obtain ⟨T69, h69, X69, e69, W69, st69⟩ := stC X57 hx hZ e57 Ar69 (j := (4 : Int32)) hin69 (g := (mkF m 180 #[.val (.int p1), .val (.ref a2)] [(.int c4), (.int (4 : Int32)), (.ref b9), (.ref b9), (.ref b1), (.ref b1)])) rfl rfl (hb hby d_method_4_180)
  have CS70 := CHr.wr W69 (Safe.arr hZ.alike Ar69 nofun) CR58.1
  have CR70 := CR58.trans CS70
  have SF70_b1 := CS70.safe SL58_b1 SF58_b1
  have SL70_b1 := Nat.lt_of_lt_of_le SL58_b1 CS70.2.1
  have Z71 : n0 ≤ h69.size := Nat.le_trans Z59 (Keep.of_wr W69).1
  have hk72 := Nat.le_trans hk60 (Keep.of_wr W69).1
  have Od73 : Old Z n0 h69 := Od61.wr W69 g_b9
  have K74 : Keep h0 h69 [] := K62.wr W69 (Or.inr sz_b9)
  have V69 : Arv Z h69 b9 kk9 .char (5 : Int32) [(.int c0), (.int c1), (.int c2), (.int c3), (.int (c4.toUInt32.toUInt16.toUInt32.toInt32))] (.int (0 : Int32)) := Arv.set Ar69 q69 Sz69 Ng69 Hs69 Gs69 (fits_nar_char _) W69 4 rfl (Nat.le_of_ble_eq_true rfl)
  rw [(show (c4.toUInt32.toUInt16.toUInt32.toInt32) = c4 from ok4.2.2)] at V69
  have Nf75 := Fr.snoc X69 Nf63 g_b9
  have kn76 : ∀ t, own_S p e below T69 (mkF m 181 #[.val (.int p1), .val (.ref a2)] [(.ref b9), (.ref b1), (.ref b1)]) t → own_S p e below T0 (mkF m 144 #[.val (.int p1), .val (.ref a2)] []) t := fun t kt => kn68 t (st69 _ kt)
  have hws : ∀ d ∈ StrChars.Road.words, d.before a0 Z = true := fun d hd => hw d ((by decide +kernel : ∀ d ∈ StrChars.Road.words, d ∈ tables_1) d hd)
  have hp78 : ∀ c ∈ ([c0, c1, c2, c3, c4] : List Int32), ¬ c < 0 ∧ ¬ (255 : Int32) < c := (own_fa ⟨ok0.1, ok0.2.1⟩ (own_fa ⟨ok1.1, ok1.2.1⟩ (own_fa ⟨ok2.1, ok2.2.1⟩ (own_fa ⟨ok3.1, ok3.2.1⟩ (own_fa ⟨ok4.1, ok4.2.1⟩ own_f0)))))
  have f79 := ((((((A1.ext E9).wr W21).wr W33).wr W45).wr W57).wr W69)
  have f80 := ((((((F1_4.ext E9).other W21 (Or.inl ne_b1_b9)).other W33 (Or.inl ne_b1_b9)).other W45 (Or.inl ne_b1_b9)).other W57 (Or.inl ne_b1_b9)).other W69 (Or.inl ne_b1_b9))
  have f81 := ((((((F1_5.ext E9).other W21 (Or.inl ne_b1_b9)).other W33 (Or.inl ne_b1_b9)).other W45 (Or.inl ne_b1_b9)).other W57 (Or.inl ne_b1_b9)).other W69 (Or.inl ne_b1_b9))
  obtain ⟨_, _, ⟨T77, L77, cc77, ss77⟩, -, X77, ⟨Lc77, hQ77, l77, y77, z77⟩, st77⟩ := X69.specialBack hx (y := (⟨"java/lang/String", "<init>", "([C)V"⟩ : MethodName)) rfl hown (mvT hZ (hw _ (List.mem_of_getElem? (i := 83) rfl))) (mvT hZ (hw _ (List.mem_of_getElem? (i := 84) rfl))) (mvT hZ (hw _ (List.mem_of_getElem? (i := 85) rfl))) (by decide) (StrChars.Road.backV (W := 1) hZ hws (kI := 4) (hw _ (List.mem_of_getElem? (i := 2) rfl)) (cs := ([c0, c1, c2, c3, c4] : List Int32)) (bs := ([c0, c1, c2, c3, c4] : List Int32).map (fun c => c.toInt8.toInt32)) (n := 5) g_b1 Z71 f79 f80 f81 V69 (O2.ext Od73.2) P5 rfl rfl (by decide) (by decide) hp78 rfl (by decide) (by decide)) (g := (mkF m 181 #[.val (.int p1), .val (.ref a2)] [(.ref b9), (.ref b1), (.ref b1)])) rfl (by rw [hml]; rfl) (Steps.refl _) (a := b1) (argsL := [(.ref b9)]) (rest := [(.ref b1)]) (lenOf pd_5 rfl) rfl (by show 2 * 0 + _ ≤ _; exact Nat.le_of_eq rfl) (hb hby d_method_4_181) (fun _ _ => ⟨rfl, e69, (by decide : 2 + 1 ≤ _), (by decide : 9 + 5 ≤ _)⟩)
  dsimp only [Pt.U, Pt.locs, Pt.cells, Pt.slots] at X77 l77 y77 z77 st77 hQ77
  subst l77 y77 z77
  have X77 : Stand p l e _ _ m _ below meth c T77 _ 3 14 := X77
  obtain ⟨rfl, Nq77, K77, Ex77, Co77, t77, kb77, ga77, sa77, nx77, Va77, Ar77⟩ := hQ77
  have Nf77 := Fr.app Nf75 Nq77
  have CS82 := CHr.keep K77 (allS SF70_b1 all0) CR70.1
  have CR82 := CR70.trans CS82
  have SF82_b1 := CS82.safe SL70_b1 SF70_b1
  have SL82_b1 := Nat.lt_of_lt_of_le SL70_b1 CS82.2.1
  have Z83 : n0 ≤ T77.heap.size := Nat.le_trans Z71 K77.1
  have hk84 := Nat.le_trans hk72 K77.1
  have Od85 : Old Z n0 T77.heap := Od73.keep K77 (allS g_b1 all0)
  have K86 : Keep h0 T77.heap [] := K74.trans K77 (allS (Or.inr sz_b1) all0)
  have kn87 : ∀ t, own_S p e below T77 (mkF m 184 #[.val (.int p1), .val (.ref a2)] [(.ref b1)]) t → own_S p e below T0 (mkF m 144 #[.val (.int p1), .val (.ref a2)] []) t := fun t kt => kn76 t (st77.trans kt)
  obtain ⟨fs, hr, hrun, hended, hRW⟩ := X77.leaveW hS0 hk84 (v := some (.ref b1)) (fun h => by rw [hret] at h; cases h)
  have chE : CHr Z consts_1 s.vm s.heap T77.vm T77.heap := by exact CR82.trans (CHv.at X77 hZ (own_EW hw) CR82.1)
  refine ⟨_, _, id (kn87 _ (by
      show own_S p e below T77 (mkF m 184 #[.val (.int p1), .val (.ref a2)] [(.ref b1)]) _
      jvm_step X77.here [X77.here.top, hx, (hb hby d_method_4_184), X77.method', hret, Value.isRef, FieldType.isReference]
      first | (intro acts; rw [hr _ acts rfl rfl rfl]) | rw [hr _ _ rfl rfl rfl]
      exact Steps.refl _)), hrun, hended, _, _, rfl, ?_, chE, ⟨hRW.1, hRW.2.1, hRW.2.2.1, hRW.2.2.2.mono (by decide) (by decide)⟩⟩
  show Q12 Z p1 a2 k2 c0 c1 c2 c3 c4 c5 c6 G1 h0 n0 _ T77.heap _
  exact ⟨b1, t77, kb77, ([c0, c1, c2, c3, c4] : List Int32), rfl, Nf77, g_b1, K86, Ex77, Va77, Co77, Ar77, hp78, Nat.le_of_ble_eq_true rfl⟩

theorem d_method_4_191 : decode method_4_code 191 = .ok (.new 16, 3) := by decide +kernel
theorem d_method_4_194 : decode method_4_code 194 = .ok (.dup, 1) := by decide +kernel
theorem d_method_4_195 : decode method_4_code 195 = .ok (.bipush 6, 2) := by decide +kernel
theorem d_method_4_197 : decode method_4_code 197 = .ok (.newarray .char, 2) := by decide +kernel
theorem d_method_4_199 : decode method_4_code 199 = .ok (.dup, 1) := by decide +kernel
theorem d_method_4_200 : decode method_4_code 200 = .ok (.iconst 0, 1) := by decide +kernel
theorem d_method_4_201 : decode method_4_code 201 = .ok (.aload_n 1, 1) := by decide +kernel
theorem d_method_4_202 : decode method_4_code 202 = .ok (.iconst 0, 1) := by decide +kernel
theorem d_method_4_203 : decode method_4_code 203 = .ok (.caload, 1) := by decide +kernel
theorem d_method_4_204 : decode method_4_code 204 = .ok (.castore, 1) := by decide +kernel
theorem d_method_4_205 : decode method_4_code 205 = .ok (.dup, 1) := by decide +kernel
theorem d_method_4_206 : decode method_4_code 206 = .ok (.iconst 1, 1) := by decide +kernel
theorem d_method_4_207 : decode method_4_code 207 = .ok (.aload_n 1, 1) := by decide +kernel
theorem d_method_4_208 : decode method_4_code 208 = .ok (.iconst 1, 1) := by decide +kernel
theorem d_method_4_209 : decode method_4_code 209 = .ok (.caload, 1) := by decide +kernel
theorem d_method_4_210 : decode method_4_code 210 = .ok (.castore, 1) := by decide +kernel
theorem d_method_4_211 : decode method_4_code 211 = .ok (.dup, 1) := by decide +kernel
theorem d_method_4_212 : decode method_4_code 212 = .ok (.iconst 2, 1) := by decide +kernel
theorem d_method_4_213 : decode method_4_code 213 = .ok (.aload_n 1, 1) := by decide +kernel
theorem d_method_4_214 : decode method_4_code 214 = .ok (.iconst 2, 1) := by decide +kernel
theorem d_method_4_215 : decode method_4_code 215 = .ok (.caload, 1) := by decide +kernel
theorem d_method_4_216 : decode method_4_code 216 = .ok (.castore, 1) := by decide +kernel
theorem d_method_4_217 : decode method_4_code 217 = .ok (.dup, 1) := by decide +kernel
theorem d_method_4_218 : decode method_4_code 218 = .ok (.iconst 3, 1) := by decide +kernel
theorem d_method_4_219 : decode method_4_code 219 = .ok (.aload_n 1, 1) := by decide +kernel
theorem d_method_4_220 : decode method_4_code 220 = .ok (.iconst 3, 1) := by decide +kernel
theorem d_method_4_221 : decode method_4_code 221 = .ok (.caload, 1) := by decide +kernel
theorem d_method_4_222 : decode method_4_code 222 = .ok (.castore, 1) := by decide +kernel
theorem d_method_4_223 : decode method_4_code 223 = .ok (.dup, 1) := by decide +kernel
theorem d_method_4_224 : decode method_4_code 224 = .ok (.iconst 4, 1) := by decide +kernel
theorem d_method_4_225 : decode method_4_code 225 = .ok (.aload_n 1, 1) := by decide +kernel
theorem d_method_4_226 : decode method_4_code 226 = .ok (.iconst 4, 1) := by decide +kernel
theorem d_method_4_227 : decode method_4_code 227 = .ok (.caload, 1) := by decide +kernel
theorem d_method_4_228 : decode method_4_code 228 = .ok (.castore, 1) := by decide +kernel
theorem d_method_4_229 : decode method_4_code 229 = .ok (.dup, 1) := by decide +kernel
theorem d_method_4_230 : decode method_4_code 230 = .ok (.iconst 5, 1) := by decide +kernel
theorem d_method_4_231 : decode method_4_code 231 = .ok (.aload_n 1, 1) := by decide +kernel
theorem d_method_4_232 : decode method_4_code 232 = .ok (.iconst 5, 1) := by decide +kernel
theorem d_method_4_233 : decode method_4_code 233 = .ok (.caload, 1) := by decide +kernel
theorem d_method_4_234 : decode method_4_code 234 = .ok (.castore, 1) := by decide +kernel
theorem d_method_4_235 : decode method_4_code 235 = .ok (.invokespecial 57, 3) := by decide +kernel
theorem d_method_4_238 : decode method_4_code 238 = .ok (.areturn, 1) := by decide +kernel
set_option maxRecDepth 65536 in
set_option maxHeartbeats 40000000 in
theorem mk_6 {p : Program} {l : Launch} {e : Env} {s : State} {m : MethodId} {args : Array Value} {below : List Frame} {meth : Method} {c : Code} {T0 : State} {locs : List Loc} {Z : State} {a0 : Array Value} {h0 : Heap} {n0 : Nat} (p1 : Int32) (a2 : Addr) (k2 : ClassId) (c0 : Int32) (c1 : Int32) (c2 : Int32) (c3 : Int32) (c4 : Int32) (c5 : Int32) (c6 : Int32) (G1 : Int32) {vm0 : Vm} {k0 : Nat}
    (X0 : Stand p l e ({ frames := 6, cells := 4, slots := 20, locals := 90 } : Room) (s.setVm vm0) m args below meth c T0 locs 0 0) (hx : p.tables.exec = Jvm.exec) (hZ : Z.Warmed39 (s.setVm vm0).vm) (hw : ∀ d ∈ tables_1, d.before a0 Z = true) (hby : c.code = method_4_code) (hml : c.maxLocals = 2) (hown : (s.setVm vm0).vm.findClass "com/example/runs_to_scores/runstoscores/formats/SubtaskLabelledPinLaw" = some m.cls) (hret : meth.sig.returnType = some (.object "java/lang/String")) (hlk : meth.locks = false) (e0 : T0.heap = h0) (Nf0 : Fr n0 locs) (Z0 : n0 ≤ h0.size) (hS0 : s.Since vm0 k0) (hk0 : k0 ≤ h0.size) (H0 : CHr Z consts_1 s.vm s.heap vm0 h0) (A_a2 : Arv Z h0 a2 k2 .char (7 : Int32) [(.int c0), (.int c1), (.int c2), (.int c3), (.int c4), (.int c5), (.int c6)] (.int (0 : Int32))) (ok0 : own_ok c0) (ok1 : own_ok c1) (ok2 : own_ok c2) (ok3 : own_ok c3) (ok4 : own_ok c4) (ok5 : own_ok c5) (ok6 : own_ok c6) (O0 : Old Z n0 h0) (O2 : Sta Z Z.heap "java/lang/String" "COMPACT_STRINGS" "Z" (.int G1)) (P5 : ¬ (G1 = (0 : Int32))) :
    ∃ s₂ o, Steps p.tables e below (T0.setTop (mkF m 191 #[.val (.int p1), .val (.ref a2)] [])) s₂ ∧ s₂.status = .running ∧ Ended s₂ below o ∧ ∃ v L, o = .returned v ∧ Q12 Z p1 a2 k2 c0 c1 c2 c3 c4 c5 c6 G1 h0 n0 v s₂.heap L ∧ CHr Z consts_1 s.vm s.heap s₂.vm s₂.heap ∧ ReturnedEndW s o s₂ L ({ frames := 6, cells := 4, slots := 20, locals := 90 } : Room).cells ({ frames := 6, cells := 4, slots := 20, locals := 90 } : Room).slots := by
  have kn0 : ∀ t, own_S p e below T0 (mkF m 191 #[.val (.int p1), .val (.ref a2)] []) t → own_S p e below T0 (mkF m 191 #[.val (.int p1), .val (.ref a2)] []) t := fun t k => k
  have CR0 := H0
  obtain ⟨T1, h1, X1, e1, E1, A1, D1, -, st1⟩ := newO X0 hx hZ hown (hw _ (List.mem_of_getElem? (i := 82) rfl)) (hw _ (List.mem_of_getElem? (i := 2) rfl)) (hw _ (List.mem_of_getElem? (i := 1) rfl)) e0 (g := (mkF m 191 #[.val (.int p1), .val (.ref a2)] [])) rfl (hb hby d_method_4_191) (by decide) (by decide)
  obtain ⟨b1, g1⟩ : ∃ z, z = h0.size := ⟨_, rfl⟩
  rw [← g1] at A1 D1 st1
  have sz_b1 : h0.size ≤ b1 := Nat.le_trans (Keep.refl h0 []).1 (Nat.le_of_eq g1.symm)
  have g_b1 : n0 ≤ b1 := Nat.le_trans Z0 (Nat.le_of_eq g1.symm)
  have ne_a2_b1 : a2 ≠ b1 := Nat.ne_of_lt (Nat.lt_of_lt_of_le A_a2.lt (Nat.le_of_eq g1.symm))
  have CS2 := CHr.ext E1 CR0.1
  have CR2 := CR0.trans CS2
  have Z3 : n0 ≤ h1.size := Nat.le_trans Z0 E1.1
  have hk4 := Nat.le_trans hk0 E1.1
  have Od5 : Old Z n0 h1 := O0.ext E1
  have K6 : Keep h0 h1 [] := (Keep.refl h0 []).ext E1
  have SFn_b1 := Safe.ext E1 CR0.1 (Safe.new (x := b1) (Nat.le_of_eq g1.symm))
  have F1_4 : Fld Z h1 b1 "java/lang/String" "value" "[B" .null := D1 (Or.inr (hw _ (List.mem_of_getElem? (i := 4) rfl))) (ty := (.array .byte)) (by decide)
  have F1_5 : Fld Z h1 b1 "java/lang/String" "coder" "B" (.int (0 : Int32)) := D1 (Or.inr (hw _ (List.mem_of_getElem? (i := 5) rfl))) (ty := .byte) (by decide)
  have kn7 : ∀ t, own_S p e below T1 (mkF m 194 #[.val (.int p1), .val (.ref a2)] [(.ref b1)]) t → own_S p e below T0 (mkF m 191 #[.val (.int p1), .val (.ref a2)] []) t := fun t kt => kn0 t (st1 _ kt)
  have kn8 : ∀ t, own_S p e below T1 (mkF m 197 #[.val (.int p1), .val (.ref a2)] [(.int (6 : Int32)), (.ref b1), (.ref b1)]) t → own_S p e below T0 (mkF m 191 #[.val (.int p1), .val (.ref a2)] []) t := fun t kt => kn7 t (by
    show own_S p e below T1 (mkF m 194 #[.val (.int p1), .val (.ref a2)] [(.ref b1)]) _
    refine XS.dup X1.here hx rfl (hb hby d_method_4_194) rfl rfl ?_
    show own_S p e below T1 (mkF m 195 #[.val (.int p1), .val (.ref a2)] [(.ref b1), (.ref b1)]) _
    refine XS.bipush X1.here hx rfl (hb hby d_method_4_195) ?_
    exact kt)
  obtain ⟨T9, h9, kk9, X9, e9, E9, A9, st9⟩ := newP X1 hx hZ (hw _ (List.mem_of_getElem? (i := 21) rfl)) e1 (g := (mkF m 197 #[.val (.int p1), .val (.ref a2)] [(.int (6 : Int32)), (.ref b1), (.ref b1)])) rfl (hb hby d_method_4_197) rfl (by decide) (cap := 6) (by decide) (by decide) (by decide) (by decide)
  obtain ⟨b9, g9⟩ : ∃ z, z = h1.size := ⟨_, rfl⟩
  rw [← g9] at A9 st9
  have sz_b9 : h0.size ≤ b9 := Nat.le_trans K6.1 (Nat.le_of_eq g9.symm)
  have g_b9 : n0 ≤ b9 := Nat.le_trans Z3 (Nat.le_of_eq g9.symm)
  have f10 := (A_a2.ext E1)
  have ne_a2_b9 : a2 ≠ b9 := Nat.ne_of_lt (Nat.lt_of_lt_of_le f10.lt (Nat.le_of_eq g9.symm))
  have ne_b1_b9 : b1 ≠ b9 := Nat.ne_of_lt (Nat.lt_of_lt_of_le A1.lt (Nat.le_of_eq g9.symm))
  have CS11 := CHr.ext E9 CR2.1
  have CR11 := CR2.trans CS11
  have SF11_b1 := CS11.safe A1.lt SFn_b1
  have SL11_b1 := Nat.lt_of_lt_of_le A1.lt CS11.2.1
  have Z12 : n0 ≤ h9.size := Nat.le_trans Z3 E9.1
  have hk13 := Nat.le_trans hk4 E9.1
  have Od14 : Old Z n0 h9 := Od5.ext E9
  have K15 : Keep h0 h9 [] := K6.ext E9
  have V9 : Arv Z h9 b9 kk9 .char (6 : Int32) [(.int (0 : Int32)), (.int (0 : Int32)), (.int (0 : Int32)), (.int (0 : Int32)), (.int (0 : Int32)), (.int (0 : Int32))] (.int (0 : Int32)) := (Arv.new A9 (by decide)).pad (pad_rep [] (.int (0 : Int32)) 6)
  have kn16 : ∀ t, own_S p e below T9 (mkF m 199 #[.val (.int p1), .val (.ref a2)] [(.ref b9), (.ref b1), (.ref b1)]) t → own_S p e below T0 (mkF m 191 #[.val (.int p1), .val (.ref a2)] []) t := fun t kt => kn8 t (st9 _ kt)
  have kn17 : ∀ t, own_S p e below T9 (mkF m 203 #[.val (.int p1), .val (.ref a2)] [(.int (0 : Int32)), (.ref a2), (.int (0 : Int32)), (.ref b9), (.ref b9), (.ref b1), (.ref b1)]) t → own_S p e below T0 (mkF m 191 #[.val (.int p1), .val (.ref a2)] []) t := fun t kt => kn16 t (by
    show own_S p e below T9 (mkF m 199 #[.val (.int p1), .val (.ref a2)] [(.ref b9), (.ref b1), (.ref b1)]) _
    refine XS.dup X9.here hx rfl (hb hby d_method_4_199) rfl rfl ?_
    show own_S p e below T9 (mkF m 200 #[.val (.int p1), .val (.ref a2)] [(.ref b9), (.ref b9), (.ref b1), (.ref b1)]) _
    refine XS.iconst X9.here hx rfl (hb hby d_method_4_200) ?_
    show own_S p e below T9 (mkF m 201 #[.val (.int p1), .val (.ref a2)] [(.int (0 : Int32)), (.ref b9), (.ref b9), (.ref b1), (.ref b1)]) _
    refine XS.aloadN X9.here hx rfl (hb hby d_method_4_201) rfl rfl ?_
    show own_S p e below T9 (mkF m 202 #[.val (.int p1), .val (.ref a2)] [(.ref a2), (.int (0 : Int32)), (.ref b9), (.ref b9), (.ref b1), (.ref b1)]) _
    refine XS.iconst X9.here hx rfl (hb hby d_method_4_202) ?_
    exact kt)
  have f18 := (f10.ext E9)
  obtain ⟨cl19, Ar19, q19, Sz19, Ng19, Hs19, Gs19⟩ := id f18
  have hin19 : ¬ ((0 : Int32) < 0 ∨ cl19.slots.size ≤ ((0 : Int32)).toNatClampNeg) := inb_of Sz19 ⟨by decide, by decide⟩
  have hat19 : cl19.slots[((0 : Int32)).toNatClampNeg]? = some (.int c0) := Hs19.at hin19 rfl
  have kn20 : ∀ t, own_S p e below T9 (mkF m 204 #[.val (.int p1), .val (.ref a2)] [(.int c0), (.int (0 : Int32)), (.ref b9), (.ref b9), (.ref b1), (.ref b1)]) t → own_S p e below T0 (mkF m 191 #[.val (.int p1), .val (.ref a2)] []) t := fun t kt => kn17 t (by
    show own_S p e below T9 (mkF m 203 #[.val (.int p1), .val (.ref a2)] [(.int (0 : Int32)), (.ref a2), (.int (0 : Int32)), (.ref b9), (.ref b9), (.ref b1), (.ref b1)]) _
    refine X9.caload hx (j := (0 : Int32)) (v := (.int c0)) (by rw [e9]; exact Ar19.1) (State.isArrayOf_alike hZ.alike Ar19.2.1) Ar19.2.2 hin19 hat19 (g := (mkF m 203 #[.val (.int p1), .val (.ref a2)] [(.int (0 : Int32)), (.ref a2), (.int (0 : Int32)), (.ref b9), (.ref b9), (.ref b1), (.ref b1)])) rfl rfl (hb hby d_method_4_203) _ ?_
    exact kt)
  obtain ⟨cl21, Ar21, q21, Sz21, Ng21, Hs21, Gs21⟩ := id V9
  have hin21 : ¬ ((0 : Int32) < 0 ∨ cl21.slots.size ≤ ((0 : Int32)).toNatClampNeg) := inb_of Sz21 ⟨by decide, by decide⟩
  obtain ⟨T21, h21, X21, e21, W21, st21⟩ := stC X9 hx hZ e9 Ar21 (j := (0 : Int32)) hin21 (g := (mkF m 204 #[.val (.int p1), .val (.ref a2)] [(.int c0), (.int (0 : Int32)), (.ref b9), (.ref b9), (.ref b1), (.ref b1)])) rfl rfl (hb hby d_method_4_204)
  have CS22 := CHr.wr W21 (Safe.arr hZ.alike Ar21 nofun) CR11.1
  have CR22 := CR11.trans CS22
  have SF22_b1 := CS22.safe SL11_b1 SF11_b1
  have SL22_b1 := Nat.lt_of_lt_of_le SL11_b1 CS22.2.1
  have Z23 : n0 ≤ h21.size := Nat.le_trans Z12 (Keep.of_wr W21).1
  have hk24 := Nat.le_trans hk13 (Keep.of_wr W21).1
  have Od25 : Old Z n0 h21 := Od14.wr W21 g_b9
  have K26 : Keep h0 h21 [] := K15.wr W21 (Or.inr sz_b9)
  have V21 : Arv Z h21 b9 kk9 .char (6 : Int32) [(.int (c0.toUInt32.toUInt16.toUInt32.toInt32)), (.int (0 : Int32)), (.int (0 : Int32)), (.int (0 : Int32)), (.int (0 : Int32)), (.int (0 : Int32))] (.int (0 : Int32)) := Arv.set Ar21 q21 Sz21 Ng21 Hs21 Gs21 (fits_nar_char _) W21 0 rfl (Nat.le_of_ble_eq_true rfl)
  rw [(show (c0.toUInt32.toUInt16.toUInt32.toInt32) = c0 from ok0.2.2)] at V21
  have Nf27 := Fr.snoc X21 Nf0 g_b9
  have kn28 : ∀ t, own_S p e below T21 (mkF m 205 #[.val (.int p1), .val (.ref a2)] [(.ref b9), (.ref b1), (.ref b1)]) t → own_S p e below T0 (mkF m 191 #[.val (.int p1), .val (.ref a2)] []) t := fun t kt => kn20 t (st21 _ kt)
  have kn29 : ∀ t, own_S p e below T21 (mkF m 209 #[.val (.int p1), .val (.ref a2)] [(.int (1 : Int32)), (.ref a2), (.int (1 : Int32)), (.ref b9), (.ref b9), (.ref b1), (.ref b1)]) t → own_S p e below T0 (mkF m 191 #[.val (.int p1), .val (.ref a2)] []) t := fun t kt => kn28 t (by
    show own_S p e below T21 (mkF m 205 #[.val (.int p1), .val (.ref a2)] [(.ref b9), (.ref b1), (.ref b1)]) _
    refine XS.dup X21.here hx rfl (hb hby d_method_4_205) rfl rfl ?_
    show own_S p e below T21 (mkF m 206 #[.val (.int p1), .val (.ref a2)] [(.ref b9), (.ref b9), (.ref b1), (.ref b1)]) _
    refine XS.iconst X21.here hx rfl (hb hby d_method_4_206) ?_
    show own_S p e below T21 (mkF m 207 #[.val (.int p1), .val (.ref a2)] [(.int (1 : Int32)), (.ref b9), (.ref b9), (.ref b1), (.ref b1)]) _
    refine XS.aloadN X21.here hx rfl (hb hby d_method_4_207) rfl rfl ?_
    show own_S p e below T21 (mkF m 208 #[.val (.int p1), .val (.ref a2)] [(.ref a2), (.int (1 : Int32)), (.ref b9), (.ref b9), (.ref b1), (.ref b1)]) _
    refine XS.iconst X21.here hx rfl (hb hby d_method_4_208) ?_
    exact kt)
  have f30 := (f18.other W21 ne_a2_b9)
  obtain ⟨cl31, Ar31, q31, Sz31, Ng31, Hs31, Gs31⟩ := id f30
  have hin31 : ¬ ((1 : Int32) < 0 ∨ cl31.slots.size ≤ ((1 : Int32)).toNatClampNeg) := inb_of Sz31 ⟨by decide, by decide⟩
  have hat31 : cl31.slots[((1 : Int32)).toNatClampNeg]? = some (.int c1) := Hs31.at hin31 rfl
  have kn32 : ∀ t, own_S p e below T21 (mkF m 210 #[.val (.int p1), .val (.ref a2)] [(.int c1), (.int (1 : Int32)), (.ref b9), (.ref b9), (.ref b1), (.ref b1)]) t → own_S p e below T0 (mkF m 191 #[.val (.int p1), .val (.ref a2)] []) t := fun t kt => kn29 t (by
    show own_S p e below T21 (mkF m 209 #[.val (.int p1), .val (.ref a2)] [(.int (1 : Int32)), (.ref a2), (.int (1 : Int32)), (.ref b9), (.ref b9), (.ref b1), (.ref b1)]) _
    refine X21.caload hx (j := (1 : Int32)) (v := (.int c1)) (by rw [e21]; exact Ar31.1) (State.isArrayOf_alike hZ.alike Ar31.2.1) Ar31.2.2 hin31 hat31 (g := (mkF m 209 #[.val (.int p1), .val (.ref a2)] [(.int (1 : Int32)), (.ref a2), (.int (1 : Int32)), (.ref b9), (.ref b9), (.ref b1), (.ref b1)])) rfl rfl (hb hby d_method_4_209) _ ?_
    exact kt)
  obtain ⟨cl33, Ar33, q33, Sz33, Ng33, Hs33, Gs33⟩ := id V21
  have hin33 : ¬ ((1 : Int32) < 0 ∨ cl33.slots.size ≤ ((1 : Int32)).toNatClampNeg) := inb_of Sz33 ⟨by decide, by decide⟩
  obtain ⟨T33, h33, X33, e33, W33, st33⟩ := stC X21 hx hZ e21 Ar33 (j := (1 : Int32)) hin33 (g := (mkF m 210 #[.val (.int p1), .val (.ref a2)] [(.int c1), (.int (1 : Int32)), (.ref b9), (.ref b9), (.ref b1), (.ref b1)])) rfl rfl (hb hby d_method_4_210)
  have CS34 := CHr.wr W33 (Safe.arr hZ.alike Ar33 nofun) CR22.1
  have CR34 := CR22.trans CS34
  have SF34_b1 := CS34.safe SL22_b1 SF22_b1
  have SL34_b1 := Nat.lt_of_lt_of_le SL22_b1 CS34.2.1
  have Z35 : n0 ≤ h33.size := Nat.le_trans Z23 (Keep.of_wr W33).1
  have hk36 := Nat.le_trans hk24 (Keep.of_wr W33).1
  have Od37 : Old Z n0 h33 := Od25.wr W33 g_b9
  have K38 : Keep h0 h33 [] := K26.wr W33 (Or.inr sz_b9)
  have V33 : Arv Z h33 b9 kk9 .char (6 : Int32) [(.int c0), (.int (c1.toUInt32.toUInt16.toUInt32.toInt32)), (.int (0 : Int32)), (.int (0 : Int32)), (.int (0 : Int32)), (.int (0 : Int32))] (.int (0 : Int32)) := Arv.set Ar33 q33 Sz33 Ng33 Hs33 Gs33 (fits_nar_char _) W33 1 rfl (Nat.le_of_ble_eq_true rfl)
  rw [(show (c1.toUInt32.toUInt16.toUInt32.toInt32) = c1 from ok1.2.2)] at V33
  have Nf39 := Fr.snoc X33 Nf27 g_b9
  have kn40 : ∀ t, own_S p e below T33 (mkF m 211 #[.val (.int p1), .val (.ref a2)] [(.ref b9), (.ref b1), (.ref b1)]) t → own_S p e below T0 (mkF m 191 #[.val (.int p1), .val (.ref a2)] []) t := fun t kt => kn32 t (st33 _ kt)
  have kn41 : ∀ t, own_S p e below T33 (mkF m 215 #[.val (.int p1), .val (.ref a2)] [(.int (2 : Int32)), (.ref a2), (.int (2 : Int32)), (.ref b9), (.ref b9), (.ref b1), (.ref b1)]) t → own_S p e below T0 (mkF m 191 #[.val (.int p1), .val (.ref a2)] []) t := fun t kt => kn40 t (by
    show own_S p e below T33 (mkF m 211 #[.val (.int p1), .val (.ref a2)] [(.ref b9), (.ref b1), (.ref b1)]) _
    refine XS.dup X33.here hx rfl (hb hby d_method_4_211) rfl rfl ?_
    show own_S p e below T33 (mkF m 212 #[.val (.int p1), .val (.ref a2)] [(.ref b9), (.ref b9), (.ref b1), (.ref b1)]) _
    refine XS.iconst X33.here hx rfl (hb hby d_method_4_212) ?_
    show own_S p e below T33 (mkF m 213 #[.val (.int p1), .val (.ref a2)] [(.int (2 : Int32)), (.ref b9), (.ref b9), (.ref b1), (.ref b1)]) _
    refine XS.aloadN X33.here hx rfl (hb hby d_method_4_213) rfl rfl ?_
    show own_S p e below T33 (mkF m 214 #[.val (.int p1), .val (.ref a2)] [(.ref a2), (.int (2 : Int32)), (.ref b9), (.ref b9), (.ref b1), (.ref b1)]) _
    refine XS.iconst X33.here hx rfl (hb hby d_method_4_214) ?_
    exact kt)
  have f42 := (f30.other W33 ne_a2_b9)
  obtain ⟨cl43, Ar43, q43, Sz43, Ng43, Hs43, Gs43⟩ := id f42
  have hin43 : ¬ ((2 : Int32) < 0 ∨ cl43.slots.size ≤ ((2 : Int32)).toNatClampNeg) := inb_of Sz43 ⟨by decide, by decide⟩
  have hat43 : cl43.slots[((2 : Int32)).toNatClampNeg]? = some (.int c2) := Hs43.at hin43 rfl
  have kn44 : ∀ t, own_S p e below T33 (mkF m 216 #[.val (.int p1), .val (.ref a2)] [(.int c2), (.int (2 : Int32)), (.ref b9), (.ref b9), (.ref b1), (.ref b1)]) t → own_S p e below T0 (mkF m 191 #[.val (.int p1), .val (.ref a2)] []) t := fun t kt => kn41 t (by
    show own_S p e below T33 (mkF m 215 #[.val (.int p1), .val (.ref a2)] [(.int (2 : Int32)), (.ref a2), (.int (2 : Int32)), (.ref b9), (.ref b9), (.ref b1), (.ref b1)]) _
    refine X33.caload hx (j := (2 : Int32)) (v := (.int c2)) (by rw [e33]; exact Ar43.1) (State.isArrayOf_alike hZ.alike Ar43.2.1) Ar43.2.2 hin43 hat43 (g := (mkF m 215 #[.val (.int p1), .val (.ref a2)] [(.int (2 : Int32)), (.ref a2), (.int (2 : Int32)), (.ref b9), (.ref b9), (.ref b1), (.ref b1)])) rfl rfl (hb hby d_method_4_215) _ ?_
    exact kt)
  obtain ⟨cl45, Ar45, q45, Sz45, Ng45, Hs45, Gs45⟩ := id V33
  have hin45 : ¬ ((2 : Int32) < 0 ∨ cl45.slots.size ≤ ((2 : Int32)).toNatClampNeg) := inb_of Sz45 ⟨by decide, by decide⟩
  obtain ⟨T45, h45, X45, e45, W45, st45⟩ := stC X33 hx hZ e33 Ar45 (j := (2 : Int32)) hin45 (g := (mkF m 216 #[.val (.int p1), .val (.ref a2)] [(.int c2), (.int (2 : Int32)), (.ref b9), (.ref b9), (.ref b1), (.ref b1)])) rfl rfl (hb hby d_method_4_216)
  have CS46 := CHr.wr W45 (Safe.arr hZ.alike Ar45 nofun) CR34.1
  have CR46 := CR34.trans CS46
  have SF46_b1 := CS46.safe SL34_b1 SF34_b1
  have SL46_b1 := Nat.lt_of_lt_of_le SL34_b1 CS46.2.1
  have Z47 : n0 ≤ h45.size := Nat.le_trans Z35 (Keep.of_wr W45).1
  have hk48 := Nat.le_trans hk36 (Keep.of_wr W45).1
  have Od49 : Old Z n0 h45 := Od37.wr W45 g_b9
  have K50 : Keep h0 h45 [] := K38.wr W45 (Or.inr sz_b9)
  have V45 : Arv Z h45 b9 kk9 .char (6 : Int32) [(.int c0), (.int c1), (.int (c2.toUInt32.toUInt16.toUInt32.toInt32)), (.int (0 : Int32)), (.int (0 : Int32)), (.int (0 : Int32))] (.int (0 : Int32)) := Arv.set Ar45 q45 Sz45 Ng45 Hs45 Gs45 (fits_nar_char _) W45 2 rfl (Nat.le_of_ble_eq_true rfl)
  rw [(show (c2.toUInt32.toUInt16.toUInt32.toInt32) = c2 from ok2.2.2)] at V45
  have Nf51 := Fr.snoc X45 Nf39 g_b9
  have kn52 : ∀ t, own_S p e below T45 (mkF m 217 #[.val (.int p1), .val (.ref a2)] [(.ref b9), (.ref b1), (.ref b1)]) t → own_S p e below T0 (mkF m 191 #[.val (.int p1), .val (.ref a2)] []) t := fun t kt => kn44 t (st45 _ kt)
  have kn53 : ∀ t, own_S p e below T45 (mkF m 221 #[.val (.int p1), .val (.ref a2)] [(.int (3 : Int32)), (.ref a2), (.int (3 : Int32)), (.ref b9), (.ref b9), (.ref b1), (.ref b1)]) t → own_S p e below T0 (mkF m 191 #[.val (.int p1), .val (.ref a2)] []) t := fun t kt => kn52 t (by
    show own_S p e below T45 (mkF m 217 #[.val (.int p1), .val (.ref a2)] [(.ref b9), (.ref b1), (.ref b1)]) _
    refine XS.dup X45.here hx rfl (hb hby d_method_4_217) rfl rfl ?_
    show own_S p e below T45 (mkF m 218 #[.val (.int p1), .val (.ref a2)] [(.ref b9), (.ref b9), (.ref b1), (.ref b1)]) _
    refine XS.iconst X45.here hx rfl (hb hby d_method_4_218) ?_
    show own_S p e below T45 (mkF m 219 #[.val (.int p1), .val (.ref a2)] [(.int (3 : Int32)), (.ref b9), (.ref b9), (.ref b1), (.ref b1)]) _
    refine XS.aloadN X45.here hx rfl (hb hby d_method_4_219) rfl rfl ?_
    show own_S p e below T45 (mkF m 220 #[.val (.int p1), .val (.ref a2)] [(.ref a2), (.int (3 : Int32)), (.ref b9), (.ref b9), (.ref b1), (.ref b1)]) _
    refine XS.iconst X45.here hx rfl (hb hby d_method_4_220) ?_
    exact kt)
  have f54 := (f42.other W45 ne_a2_b9)
  obtain ⟨cl55, Ar55, q55, Sz55, Ng55, Hs55, Gs55⟩ := id f54
  have hin55 : ¬ ((3 : Int32) < 0 ∨ cl55.slots.size ≤ ((3 : Int32)).toNatClampNeg) := inb_of Sz55 ⟨by decide, by decide⟩
  have hat55 : cl55.slots[((3 : Int32)).toNatClampNeg]? = some (.int c3) := Hs55.at hin55 rfl
  have kn56 : ∀ t, own_S p e below T45 (mkF m 222 #[.val (.int p1), .val (.ref a2)] [(.int c3), (.int (3 : Int32)), (.ref b9), (.ref b9), (.ref b1), (.ref b1)]) t → own_S p e below T0 (mkF m 191 #[.val (.int p1), .val (.ref a2)] []) t := fun t kt => kn53 t (by
    show own_S p e below T45 (mkF m 221 #[.val (.int p1), .val (.ref a2)] [(.int (3 : Int32)), (.ref a2), (.int (3 : Int32)), (.ref b9), (.ref b9), (.ref b1), (.ref b1)]) _
    refine X45.caload hx (j := (3 : Int32)) (v := (.int c3)) (by rw [e45]; exact Ar55.1) (State.isArrayOf_alike hZ.alike Ar55.2.1) Ar55.2.2 hin55 hat55 (g := (mkF m 221 #[.val (.int p1), .val (.ref a2)] [(.int (3 : Int32)), (.ref a2), (.int (3 : Int32)), (.ref b9), (.ref b9), (.ref b1), (.ref b1)])) rfl rfl (hb hby d_method_4_221) _ ?_
    exact kt)
  obtain ⟨cl57, Ar57, q57, Sz57, Ng57, Hs57, Gs57⟩ := id V45
  have hin57 : ¬ ((3 : Int32) < 0 ∨ cl57.slots.size ≤ ((3 : Int32)).toNatClampNeg) := inb_of Sz57 ⟨by decide, by decide⟩
  obtain ⟨T57, h57, X57, e57, W57, st57⟩ := stC X45 hx hZ e45 Ar57 (j := (3 : Int32)) hin57 (g := (mkF m 222 #[.val (.int p1), .val (.ref a2)] [(.int c3), (.int (3 : Int32)), (.ref b9), (.ref b9), (.ref b1), (.ref b1)])) rfl rfl (hb hby d_method_4_222)
  have CS58 := CHr.wr W57 (Safe.arr hZ.alike Ar57 nofun) CR46.1
  have CR58 := CR46.trans CS58
  have SF58_b1 := CS58.safe SL46_b1 SF46_b1
  have SL58_b1 := Nat.lt_of_lt_of_le SL46_b1 CS58.2.1
  have Z59 : n0 ≤ h57.size := Nat.le_trans Z47 (Keep.of_wr W57).1
  have hk60 := Nat.le_trans hk48 (Keep.of_wr W57).1
  have Od61 : Old Z n0 h57 := Od49.wr W57 g_b9
  have K62 : Keep h0 h57 [] := K50.wr W57 (Or.inr sz_b9)
  have V57 : Arv Z h57 b9 kk9 .char (6 : Int32) [(.int c0), (.int c1), (.int c2), (.int (c3.toUInt32.toUInt16.toUInt32.toInt32)), (.int (0 : Int32)), (.int (0 : Int32))] (.int (0 : Int32)) := Arv.set Ar57 q57 Sz57 Ng57 Hs57 Gs57 (fits_nar_char _) W57 3 rfl (Nat.le_of_ble_eq_true rfl)
  rw [(show (c3.toUInt32.toUInt16.toUInt32.toInt32) = c3 from ok3.2.2)] at V57
  have Nf63 := Fr.snoc X57 Nf51 g_b9
  have kn64 : ∀ t, own_S p e below T57 (mkF m 223 #[.val (.int p1), .val (.ref a2)] [(.ref b9), (.ref b1), (.ref b1)]) t → own_S p e below T0 (mkF m 191 #[.val (.int p1), .val (.ref a2)] []) t := fun t kt => kn56 t (st57 _ kt)
  have kn65 : ∀ t, own_S p e below T57 (mkF m 227 #[.val (.int p1), .val (.ref a2)] [(.int (4 : Int32)), (.ref a2), (.int (4 : Int32)), (.ref b9), (.ref b9), (.ref b1), (.ref b1)]) t → own_S p e below T0 (mkF m 191 #[.val (.int p1), .val (.ref a2)] []) t := fun t kt => kn64 t (by
    show own_S p e below T57 (mkF m 223 #[.val (.int p1), .val (.ref a2)] [(.ref b9), (.ref b1), (.ref b1)]) _
    refine XS.dup X57.here hx rfl (hb hby d_method_4_223) rfl rfl ?_
    show own_S p e below T57 (mkF m 224 #[.val (.int p1), .val (.ref a2)] [(.ref b9), (.ref b9), (.ref b1), (.ref b1)]) _
    refine XS.iconst X57.here hx rfl (hb hby d_method_4_224) ?_
    show own_S p e below T57 (mkF m 225 #[.val (.int p1), .val (.ref a2)] [(.int (4 : Int32)), (.ref b9), (.ref b9), (.ref b1), (.ref b1)]) _
    refine XS.aloadN X57.here hx rfl (hb hby d_method_4_225) rfl rfl ?_
    show own_S p e below T57 (mkF m 226 #[.val (.int p1), .val (.ref a2)] [(.ref a2), (.int (4 : Int32)), (.ref b9), (.ref b9), (.ref b1), (.ref b1)]) _
    refine XS.iconst X57.here hx rfl (hb hby d_method_4_226) ?_
    exact kt)
  have f66 := (f54.other W57 ne_a2_b9)
  obtain ⟨cl67, Ar67, q67, Sz67, Ng67, Hs67, Gs67⟩ := id f66
  have hin67 : ¬ ((4 : Int32) < 0 ∨ cl67.slots.size ≤ ((4 : Int32)).toNatClampNeg) := inb_of Sz67 ⟨by decide, by decide⟩
  have hat67 : cl67.slots[((4 : Int32)).toNatClampNeg]? = some (.int c4) := Hs67.at hin67 rfl
  have kn68 : ∀ t, own_S p e below T57 (mkF m 228 #[.val (.int p1), .val (.ref a2)] [(.int c4), (.int (4 : Int32)), (.ref b9), (.ref b9), (.ref b1), (.ref b1)]) t → own_S p e below T0 (mkF m 191 #[.val (.int p1), .val (.ref a2)] []) t := fun t kt => kn65 t (by
    show own_S p e below T57 (mkF m 227 #[.val (.int p1), .val (.ref a2)] [(.int (4 : Int32)), (.ref a2), (.int (4 : Int32)), (.ref b9), (.ref b9), (.ref b1), (.ref b1)]) _
    refine X57.caload hx (j := (4 : Int32)) (v := (.int c4)) (by rw [e57]; exact Ar67.1) (State.isArrayOf_alike hZ.alike Ar67.2.1) Ar67.2.2 hin67 hat67 (g := (mkF m 227 #[.val (.int p1), .val (.ref a2)] [(.int (4 : Int32)), (.ref a2), (.int (4 : Int32)), (.ref b9), (.ref b9), (.ref b1), (.ref b1)])) rfl rfl (hb hby d_method_4_227) _ ?_
    exact kt)
  obtain ⟨cl69, Ar69, q69, Sz69, Ng69, Hs69, Gs69⟩ := id V57
  have hin69 : ¬ ((4 : Int32) < 0 ∨ cl69.slots.size ≤ ((4 : Int32)).toNatClampNeg) := inb_of Sz69 ⟨by decide, by decide⟩
  obtain ⟨T69, h69, X69, e69, W69, st69⟩ := stC X57 hx hZ e57 Ar69 (j := (4 : Int32)) hin69 (g := (mkF m 228 #[.val (.int p1), .val (.ref a2)] [(.int c4), (.int (4 : Int32)), (.ref b9), (.ref b9), (.ref b1), (.ref b1)])) rfl rfl (hb hby d_method_4_228)
  have CS70 := CHr.wr W69 (Safe.arr hZ.alike Ar69 nofun) CR58.1
  have CR70 := CR58.trans CS70
  have SF70_b1 := CS70.safe SL58_b1 SF58_b1
  have SL70_b1 := Nat.lt_of_lt_of_le SL58_b1 CS70.2.1
  have Z71 : n0 ≤ h69.size := Nat.le_trans Z59 (Keep.of_wr W69).1
  have hk72 := Nat.le_trans hk60 (Keep.of_wr W69).1
  have Od73 : Old Z n0 h69 := Od61.wr W69 g_b9
  have K74 : Keep h0 h69 [] := K62.wr W69 (Or.inr sz_b9)
  have V69 : Arv Z h69 b9 kk9 .char (6 : Int32) [(.int c0), (.int c1), (.int c2), (.int c3), (.int (c4.toUInt32.toUInt16.toUInt32.toInt32)), (.int (0 : Int32))] (.int (0 : Int32)) := Arv.set Ar69 q69 Sz69 Ng69 Hs69 Gs69 (fits_nar_char _) W69 4 rfl (Nat.le_of_ble_eq_true rfl)
  rw [(show (c4.toUInt32.toUInt16.toUInt32.toInt32) = c4 from ok4.2.2)] at V69
  have Nf75 := Fr.snoc X69 Nf63 g_b9
  have kn76 : ∀ t, own_S p e below T69 (mkF m 229 #[.val (.int p1), .val (.ref a2)] [(.ref b9), (.ref b1), (.ref b1)]) t → own_S p e below T0 (mkF m 191 #[.val (.int p1), .val (.ref a2)] []) t := fun t kt => kn68 t (st69 _ kt)
  have kn77 : ∀ t, own_S p e below T69 (mkF m 233 #[.val (.int p1), .val (.ref a2)] [(.int (5 : Int32)), (.ref a2), (.int (5 : Int32)), (.ref b9), (.ref b9), (.ref b1), (.ref b1)]) t → own_S p e below T0 (mkF m 191 #[.val (.int p1), .val (.ref a2)] []) t := fun t kt => kn76 t (by
    show own_S p e below T69 (mkF m 229 #[.val (.int p1), .val (.ref a2)] [(.ref b9), (.ref b1), (.ref b1)]) _
    refine XS.dup X69.here hx rfl (hb hby d_method_4_229) rfl rfl ?_
    show own_S p e below T69 (mkF m 230 #[.val (.int p1), .val (.ref a2)] [(.ref b9), (.ref b9), (.ref b1), (.ref b1)]) _
    refine XS.iconst X69.here hx rfl (hb hby d_method_4_230) ?_
    show own_S p e below T69 (mkF m 231 #[.val (.int p1), .val (.ref a2)] [(.int (5 : Int32)), (.ref b9), (.ref b9), (.ref b1), (.ref b1)]) _
    refine XS.aloadN X69.here hx rfl (hb hby d_method_4_231) rfl rfl ?_
    show own_S p e below T69 (mkF m 232 #[.val (.int p1), .val (.ref a2)] [(.ref a2), (.int (5 : Int32)), (.ref b9), (.ref b9), (.ref b1), (.ref b1)]) _
    refine XS.iconst X69.here hx rfl (hb hby d_method_4_232) ?_
    exact kt)
  have f78 := (f66.other W69 ne_a2_b9)
  obtain ⟨cl79, Ar79, q79, Sz79, Ng79, Hs79, Gs79⟩ := id f78
  have hin79 : ¬ ((5 : Int32) < 0 ∨ cl79.slots.size ≤ ((5 : Int32)).toNatClampNeg) := inb_of Sz79 ⟨by decide, by decide⟩
  have hat79 : cl79.slots[((5 : Int32)).toNatClampNeg]? = some (.int c5) := Hs79.at hin79 rfl
  have kn80 : ∀ t, own_S p e below T69 (mkF m 234 #[.val (.int p1), .val (.ref a2)] [(.int c5), (.int (5 : Int32)), (.ref b9), (.ref b9), (.ref b1), (.ref b1)]) t → own_S p e below T0 (mkF m 191 #[.val (.int p1), .val (.ref a2)] []) t := fun t kt => kn77 t (by
    show own_S p e below T69 (mkF m 233 #[.val (.int p1), .val (.ref a2)] [(.int (5 : Int32)), (.ref a2), (.int (5 : Int32)), (.ref b9), (.ref b9), (.ref b1), (.ref b1)]) _
    refine X69.caload hx (j := (5 : Int32)) (v := (.int c5)) (by rw [e69]; exact Ar79.1) (State.isArrayOf_alike hZ.alike Ar79.2.1) Ar79.2.2 hin79 hat79 (g := (mkF m 233 #[.val (.int p1), .val (.ref a2)] [(.int (5 : Int32)), (.ref a2), (.int (5 : Int32)), (.ref b9), (.ref b9), (.ref b1), (.ref b1)])) rfl rfl (hb hby d_method_4_233) _ ?_
    exact kt)
  obtain ⟨cl81, Ar81, q81, Sz81, Ng81, Hs81, Gs81⟩ := id V69
  have hin81 : ¬ ((5 : Int32) < 0 ∨ cl81.slots.size ≤ ((5 : Int32)).toNatClampNeg) := inb_of Sz81 ⟨by decide, by decide⟩
  obtain ⟨T81, h81, X81, e81, W81, st81⟩ := stC X69 hx hZ e69 Ar81 (j := (5 : Int32)) hin81 (g := (mkF m 234 #[.val (.int p1), .val (.ref a2)] [(.int c5), (.int (5 : Int32)), (.ref b9), (.ref b9), (.ref b1), (.ref b1)])) rfl rfl (hb hby d_method_4_234)
  have CS82 := CHr.wr W81 (Safe.arr hZ.alike Ar81 nofun) CR70.1
  have CR82 := CR70.trans CS82
  have SF82_b1 := CS82.safe SL70_b1 SF70_b1
  have SL82_b1 := Nat.lt_of_lt_of_le SL70_b1 CS82.2.1
  have Z83 : n0 ≤ h81.size := Nat.le_trans Z71 (Keep.of_wr W81).1
  have hk84 := Nat.le_trans hk72 (Keep.of_wr W81).1
  have Od85 : Old Z n0 h81 := Od73.wr W81 g_b9
  have K86 : Keep h0 h81 [] := K74.wr W81 (Or.inr sz_b9)
  have V81 : Arv Z h81 b9 kk9 .char (6 : Int32) [(.int c0), (.int c1), (.int c2), (.int c3), (.int c4), (.int (c5.toUInt32.toUInt16.toUInt32.toInt32))] (.int (0 : Int32)) := Arv.set Ar81 q81 Sz81 Ng81 Hs81 Gs81 (fits_nar_char _) W81 5 rfl (Nat.le_of_ble_eq_true rfl)
  rw [(show (c5.toUInt32.toUInt16.toUInt32.toInt32) = c5 from ok5.2.2)] at V81
  have Nf87 := Fr.snoc X81 Nf75 g_b9
  have kn88 : ∀ t, own_S p e below T81 (mkF m 235 #[.val (.int p1), .val (.ref a2)] [(.ref b9), (.ref b1), (.ref b1)]) t → own_S p e below T0 (mkF m 191 #[.val (.int p1), .val (.ref a2)] []) t := fun t kt => kn80 t (st81 _ kt)
  have hws : ∀ d ∈ StrChars.Road.words, d.before a0 Z = true := fun d hd => hw d ((by decide +kernel : ∀ d ∈ StrChars.Road.words, d ∈ tables_1) d hd)
  have hp90 : ∀ c ∈ ([c0, c1, c2, c3, c4, c5] : List Int32), ¬ c < 0 ∧ ¬ (255 : Int32) < c := (own_fa ⟨ok0.1, ok0.2.1⟩ (own_fa ⟨ok1.1, ok1.2.1⟩ (own_fa ⟨ok2.1, ok2.2.1⟩ (own_fa ⟨ok3.1, ok3.2.1⟩ (own_fa ⟨ok4.1, ok4.2.1⟩ (own_fa ⟨ok5.1, ok5.2.1⟩ own_f0))))))
  have f91 := (((((((A1.ext E9).wr W21).wr W33).wr W45).wr W57).wr W69).wr W81)
  have f92 := (((((((F1_4.ext E9).other W21 (Or.inl ne_b1_b9)).other W33 (Or.inl ne_b1_b9)).other W45 (Or.inl ne_b1_b9)).other W57 (Or.inl ne_b1_b9)).other W69 (Or.inl ne_b1_b9)).other W81 (Or.inl ne_b1_b9))
  have f93 := (((((((F1_5.ext E9).other W21 (Or.inl ne_b1_b9)).other W33 (Or.inl ne_b1_b9)).other W45 (Or.inl ne_b1_b9)).other W57 (Or.inl ne_b1_b9)).other W69 (Or.inl ne_b1_b9)).other W81 (Or.inl ne_b1_b9))
  obtain ⟨_, _, ⟨T89, L89, cc89, ss89⟩, -, X89, ⟨Lc89, hQ89, l89, y89, z89⟩, st89⟩ := X81.specialBack hx (y := (⟨"java/lang/String", "<init>", "([C)V"⟩ : MethodName)) rfl hown (mvT hZ (hw _ (List.mem_of_getElem? (i := 83) rfl))) (mvT hZ (hw _ (List.mem_of_getElem? (i := 84) rfl))) (mvT hZ (hw _ (List.mem_of_getElem? (i := 85) rfl))) (by decide) (StrChars.Road.backV (W := 1) hZ hws (kI := 4) (hw _ (List.mem_of_getElem? (i := 2) rfl)) (cs := ([c0, c1, c2, c3, c4, c5] : List Int32)) (bs := ([c0, c1, c2, c3, c4, c5] : List Int32).map (fun c => c.toInt8.toInt32)) (n := 6) g_b1 Z83 f91 f92 f93 V81 (O2.ext Od85.2) P5 rfl rfl (by decide) (by decide) hp90 rfl (by decide) (by decide)) (g := (mkF m 235 #[.val (.int p1), .val (.ref a2)] [(.ref b9), (.ref b1), (.ref b1)])) rfl (by rw [hml]; rfl) (Steps.refl _) (a := b1) (argsL := [(.ref b9)]) (rest := [(.ref b1)]) (lenOf pd_5 rfl) rfl (by show 2 * 0 + _ ≤ _; exact Nat.le_of_eq rfl) (hb hby d_method_4_235) (fun _ _ => ⟨rfl, e81, (by decide : 2 + 1 ≤ _), (by decide : 10 + 6 ≤ _)⟩)
  dsimp only [Pt.U, Pt.locs, Pt.cells, Pt.slots] at X89 l89 y89 z89 st89 hQ89
  subst l89 y89 z89
  have X89 : Stand p l e _ _ m _ below meth c T89 _ 3 16 := X89
  obtain ⟨rfl, Nq89, K89, Ex89, Co89, t89, kb89, ga89, sa89, nx89, Va89, Ar89⟩ := hQ89
  have Nf89 := Fr.app Nf87 Nq89
  have CS94 := CHr.keep K89 (allS SF82_b1 all0) CR82.1
  have CR94 := CR82.trans CS94
  have SF94_b1 := CS94.safe SL82_b1 SF82_b1
  have SL94_b1 := Nat.lt_of_lt_of_le SL82_b1 CS94.2.1
  have Z95 : n0 ≤ T89.heap.size := Nat.le_trans Z83 K89.1
  have hk96 := Nat.le_trans hk84 K89.1
  have Od97 : Old Z n0 T89.heap := Od85.keep K89 (allS g_b1 all0)
  have K98 : Keep h0 T89.heap [] := K86.trans K89 (allS (Or.inr sz_b1) all0)
  have kn99 : ∀ t, own_S p e below T89 (mkF m 238 #[.val (.int p1), .val (.ref a2)] [(.ref b1)]) t → own_S p e below T0 (mkF m 191 #[.val (.int p1), .val (.ref a2)] []) t := fun t kt => kn88 t (st89.trans kt)
  obtain ⟨fs, hr, hrun, hended, hRW⟩ := X89.leaveW hS0 hk96 (v := some (.ref b1)) (fun h => by rw [hret] at h; cases h)
  have chE : CHr Z consts_1 s.vm s.heap T89.vm T89.heap := by exact CR94.trans (CHv.at X89 hZ (own_EW hw) CR94.1)
  refine ⟨_, _, id (kn99 _ (by
      show own_S p e below T89 (mkF m 238 #[.val (.int p1), .val (.ref a2)] [(.ref b1)]) _
      jvm_step X89.here [X89.here.top, hx, (hb hby d_method_4_238), X89.method', hret, Value.isRef, FieldType.isReference]
      first | (intro acts; rw [hr _ acts rfl rfl rfl]) | rw [hr _ _ rfl rfl rfl]
      exact Steps.refl _)), hrun, hended, _, _, rfl, ?_, chE, ⟨hRW.1, hRW.2.1, hRW.2.2.1, hRW.2.2.2.mono (by decide) (by decide)⟩⟩
  show Q12 Z p1 a2 k2 c0 c1 c2 c3 c4 c5 c6 G1 h0 n0 _ T89.heap _
  exact ⟨b1, t89, kb89, ([c0, c1, c2, c3, c4, c5] : List Int32), rfl, Nf89, g_b1, K98, Ex89, Va89, Co89, Ar89, hp90, Nat.le_of_ble_eq_true rfl⟩

theorem d_method_4_239 : decode method_4_code 239 = .ok (.new 16, 3) := by decide +kernel
theorem d_method_4_242 : decode method_4_code 242 = .ok (.dup, 1) := by decide +kernel
theorem d_method_4_243 : decode method_4_code 243 = .ok (.bipush 7, 2) := by decide +kernel
theorem d_method_4_245 : decode method_4_code 245 = .ok (.newarray .char, 2) := by decide +kernel
theorem d_method_4_247 : decode method_4_code 247 = .ok (.dup, 1) := by decide +kernel
theorem d_method_4_248 : decode method_4_code 248 = .ok (.iconst 0, 1) := by decide +kernel
theorem d_method_4_249 : decode method_4_code 249 = .ok (.aload_n 1, 1) := by decide +kernel
theorem d_method_4_250 : decode method_4_code 250 = .ok (.iconst 0, 1) := by decide +kernel
theorem d_method_4_251 : decode method_4_code 251 = .ok (.caload, 1) := by decide +kernel
theorem d_method_4_252 : decode method_4_code 252 = .ok (.castore, 1) := by decide +kernel
theorem d_method_4_253 : decode method_4_code 253 = .ok (.dup, 1) := by decide +kernel
theorem d_method_4_254 : decode method_4_code 254 = .ok (.iconst 1, 1) := by decide +kernel
theorem d_method_4_255 : decode method_4_code 255 = .ok (.aload_n 1, 1) := by decide +kernel
theorem d_method_4_256 : decode method_4_code 256 = .ok (.iconst 1, 1) := by decide +kernel
theorem d_method_4_257 : decode method_4_code 257 = .ok (.caload, 1) := by decide +kernel
theorem d_method_4_258 : decode method_4_code 258 = .ok (.castore, 1) := by decide +kernel
theorem d_method_4_259 : decode method_4_code 259 = .ok (.dup, 1) := by decide +kernel
theorem d_method_4_260 : decode method_4_code 260 = .ok (.iconst 2, 1) := by decide +kernel
theorem d_method_4_261 : decode method_4_code 261 = .ok (.aload_n 1, 1) := by decide +kernel
theorem d_method_4_262 : decode method_4_code 262 = .ok (.iconst 2, 1) := by decide +kernel
theorem d_method_4_263 : decode method_4_code 263 = .ok (.caload, 1) := by decide +kernel
theorem d_method_4_264 : decode method_4_code 264 = .ok (.castore, 1) := by decide +kernel
theorem d_method_4_265 : decode method_4_code 265 = .ok (.dup, 1) := by decide +kernel
theorem d_method_4_266 : decode method_4_code 266 = .ok (.iconst 3, 1) := by decide +kernel
theorem d_method_4_267 : decode method_4_code 267 = .ok (.aload_n 1, 1) := by decide +kernel
theorem d_method_4_268 : decode method_4_code 268 = .ok (.iconst 3, 1) := by decide +kernel
theorem d_method_4_269 : decode method_4_code 269 = .ok (.caload, 1) := by decide +kernel
theorem d_method_4_270 : decode method_4_code 270 = .ok (.castore, 1) := by decide +kernel
theorem d_method_4_271 : decode method_4_code 271 = .ok (.dup, 1) := by decide +kernel
theorem d_method_4_272 : decode method_4_code 272 = .ok (.iconst 4, 1) := by decide +kernel
theorem d_method_4_273 : decode method_4_code 273 = .ok (.aload_n 1, 1) := by decide +kernel
theorem d_method_4_274 : decode method_4_code 274 = .ok (.iconst 4, 1) := by decide +kernel
theorem d_method_4_275 : decode method_4_code 275 = .ok (.caload, 1) := by decide +kernel
theorem d_method_4_276 : decode method_4_code 276 = .ok (.castore, 1) := by decide +kernel
theorem d_method_4_277 : decode method_4_code 277 = .ok (.dup, 1) := by decide +kernel
theorem d_method_4_278 : decode method_4_code 278 = .ok (.iconst 5, 1) := by decide +kernel
theorem d_method_4_279 : decode method_4_code 279 = .ok (.aload_n 1, 1) := by decide +kernel
theorem d_method_4_280 : decode method_4_code 280 = .ok (.iconst 5, 1) := by decide +kernel
theorem d_method_4_281 : decode method_4_code 281 = .ok (.caload, 1) := by decide +kernel
theorem d_method_4_282 : decode method_4_code 282 = .ok (.castore, 1) := by decide +kernel
theorem d_method_4_283 : decode method_4_code 283 = .ok (.dup, 1) := by decide +kernel
theorem d_method_4_284 : decode method_4_code 284 = .ok (.bipush 6, 2) := by decide +kernel
theorem d_method_4_286 : decode method_4_code 286 = .ok (.aload_n 1, 1) := by decide +kernel
theorem d_method_4_287 : decode method_4_code 287 = .ok (.bipush 6, 2) := by decide +kernel
theorem d_method_4_289 : decode method_4_code 289 = .ok (.caload, 1) := by decide +kernel
theorem d_method_4_290 : decode method_4_code 290 = .ok (.castore, 1) := by decide +kernel
theorem d_method_4_291 : decode method_4_code 291 = .ok (.invokespecial 57, 3) := by decide +kernel
theorem d_method_4_294 : decode method_4_code 294 = .ok (.areturn, 1) := by decide +kernel
set_option maxRecDepth 65536 in
set_option maxHeartbeats 40000000 in
theorem mk_7 {p : Program} {l : Launch} {e : Env} {s : State} {m : MethodId} {args : Array Value} {below : List Frame} {meth : Method} {c : Code} {T0 : State} {locs : List Loc} {Z : State} {a0 : Array Value} {h0 : Heap} {n0 : Nat} (p1 : Int32) (a2 : Addr) (k2 : ClassId) (c0 : Int32) (c1 : Int32) (c2 : Int32) (c3 : Int32) (c4 : Int32) (c5 : Int32) (c6 : Int32) (G1 : Int32) {vm0 : Vm} {k0 : Nat}
    (X0 : Stand p l e ({ frames := 6, cells := 4, slots := 20, locals := 90 } : Room) (s.setVm vm0) m args below meth c T0 locs 0 0) (hx : p.tables.exec = Jvm.exec) (hZ : Z.Warmed39 (s.setVm vm0).vm) (hw : ∀ d ∈ tables_1, d.before a0 Z = true) (hby : c.code = method_4_code) (hml : c.maxLocals = 2) (hown : (s.setVm vm0).vm.findClass "com/example/runs_to_scores/runstoscores/formats/SubtaskLabelledPinLaw" = some m.cls) (hret : meth.sig.returnType = some (.object "java/lang/String")) (hlk : meth.locks = false) (e0 : T0.heap = h0) (Nf0 : Fr n0 locs) (Z0 : n0 ≤ h0.size) (hS0 : s.Since vm0 k0) (hk0 : k0 ≤ h0.size) (H0 : CHr Z consts_1 s.vm s.heap vm0 h0) (A_a2 : Arv Z h0 a2 k2 .char (7 : Int32) [(.int c0), (.int c1), (.int c2), (.int c3), (.int c4), (.int c5), (.int c6)] (.int (0 : Int32))) (ok0 : own_ok c0) (ok1 : own_ok c1) (ok2 : own_ok c2) (ok3 : own_ok c3) (ok4 : own_ok c4) (ok5 : own_ok c5) (ok6 : own_ok c6) (O0 : Old Z n0 h0) (O2 : Sta Z Z.heap "java/lang/String" "COMPACT_STRINGS" "Z" (.int G1)) (P5 : ¬ (G1 = (0 : Int32))) :
    ∃ s₂ o, Steps p.tables e below (T0.setTop (mkF m 239 #[.val (.int p1), .val (.ref a2)] [])) s₂ ∧ s₂.status = .running ∧ Ended s₂ below o ∧ ∃ v L, o = .returned v ∧ Q12 Z p1 a2 k2 c0 c1 c2 c3 c4 c5 c6 G1 h0 n0 v s₂.heap L ∧ CHr Z consts_1 s.vm s.heap s₂.vm s₂.heap ∧ ReturnedEndW s o s₂ L ({ frames := 6, cells := 4, slots := 20, locals := 90 } : Room).cells ({ frames := 6, cells := 4, slots := 20, locals := 90 } : Room).slots := by
  have kn0 : ∀ t, own_S p e below T0 (mkF m 239 #[.val (.int p1), .val (.ref a2)] []) t → own_S p e below T0 (mkF m 239 #[.val (.int p1), .val (.ref a2)] []) t := fun t k => k
  have CR0 := H0
  obtain ⟨T1, h1, X1, e1, E1, A1, D1, -, st1⟩ := newO X0 hx hZ hown (hw _ (List.mem_of_getElem? (i := 82) rfl)) (hw _ (List.mem_of_getElem? (i := 2) rfl)) (hw _ (List.mem_of_getElem? (i := 1) rfl)) e0 (g := (mkF m 239 #[.val (.int p1), .val (.ref a2)] [])) rfl (hb hby d_method_4_239) (by decide) (by decide)
  obtain ⟨b1, g1⟩ : ∃ z, z = h0.size := ⟨_, rfl⟩
  rw [← g1] at A1 D1 st1
  have sz_b1 : h0.size ≤ b1 := Nat.le_trans (Keep.refl h0 []).1 (Nat.le_of_eq g1.symm)
  have g_b1 : n0 ≤ b1 := Nat.le_trans Z0 (Nat.le_of_eq g1.symm)
  have ne_a2_b1 : a2 ≠ b1 := Nat.ne_of_lt (Nat.lt_of_lt_of_le A_a2.lt (Nat.le_of_eq g1.symm))
  have CS2 := CHr.ext E1 CR0.1
  have CR2 := CR0.trans CS2
  have Z3 : n0 ≤ h1.size := Nat.le_trans Z0 E1.1
  have hk4 := Nat.le_trans hk0 E1.1
  have Od5 : Old Z n0 h1 := O0.ext E1
  have K6 : Keep h0 h1 [] := (Keep.refl h0 []).ext E1
  have SFn_b1 := Safe.ext E1 CR0.1 (Safe.new (x := b1) (Nat.le_of_eq g1.symm))
  have F1_4 : Fld Z h1 b1 "java/lang/String" "value" "[B" .null := D1 (Or.inr (hw _ (List.mem_of_getElem? (i := 4) rfl))) (ty := (.array .byte)) (by decide)
  have F1_5 : Fld Z h1 b1 "java/lang/String" "coder" "B" (.int (0 : Int32)) := D1 (Or.inr (hw _ (List.mem_of_getElem? (i := 5) rfl))) (ty := .byte) (by decide)
  have kn7 : ∀ t, own_S p e below T1 (mkF m 242 #[.val (.int p1), .val (.ref a2)] [(.ref b1)]) t → own_S p e below T0 (mkF m 239 #[.val (.int p1), .val (.ref a2)] []) t := fun t kt => kn0 t (st1 _ kt)
  have kn8 : ∀ t, own_S p e below T1 (mkF m 245 #[.val (.int p1), .val (.ref a2)] [(.int (7 : Int32)), (.ref b1), (.ref b1)]) t → own_S p e below T0 (mkF m 239 #[.val (.int p1), .val (.ref a2)] []) t := fun t kt => kn7 t (by
    show own_S p e below T1 (mkF m 242 #[.val (.int p1), .val (.ref a2)] [(.ref b1)]) _
    refine XS.dup X1.here hx rfl (hb hby d_method_4_242) rfl rfl ?_
    show own_S p e below T1 (mkF m 243 #[.val (.int p1), .val (.ref a2)] [(.ref b1), (.ref b1)]) _
    refine XS.bipush X1.here hx rfl (hb hby d_method_4_243) ?_
    exact kt)
  obtain ⟨T9, h9, kk9, X9, e9, E9, A9, st9⟩ := newP X1 hx hZ (hw _ (List.mem_of_getElem? (i := 21) rfl)) e1 (g := (mkF m 245 #[.val (.int p1), .val (.ref a2)] [(.int (7 : Int32)), (.ref b1), (.ref b1)])) rfl (hb hby d_method_4_245) rfl (by decide) (cap := 7) (by decide) (by decide) (by decide) (by decide)
  obtain ⟨b9, g9⟩ : ∃ z, z = h1.size := ⟨_, rfl⟩
  rw [← g9] at A9 st9
  have sz_b9 : h0.size ≤ b9 := Nat.le_trans K6.1 (Nat.le_of_eq g9.symm)
  have g_b9 : n0 ≤ b9 := Nat.le_trans Z3 (Nat.le_of_eq g9.symm)
  have f10 := (A_a2.ext E1)
  have ne_a2_b9 : a2 ≠ b9 := Nat.ne_of_lt (Nat.lt_of_lt_of_le f10.lt (Nat.le_of_eq g9.symm))
  have ne_b1_b9 : b1 ≠ b9 := Nat.ne_of_lt (Nat.lt_of_lt_of_le A1.lt (Nat.le_of_eq g9.symm))
  have CS11 := CHr.ext E9 CR2.1
  have CR11 := CR2.trans CS11
  have SF11_b1 := CS11.safe A1.lt SFn_b1
  have SL11_b1 := Nat.lt_of_lt_of_le A1.lt CS11.2.1
  have Z12 : n0 ≤ h9.size := Nat.le_trans Z3 E9.1
  have hk13 := Nat.le_trans hk4 E9.1
  have Od14 : Old Z n0 h9 := Od5.ext E9
  have K15 : Keep h0 h9 [] := K6.ext E9
  have V9 : Arv Z h9 b9 kk9 .char (7 : Int32) [(.int (0 : Int32)), (.int (0 : Int32)), (.int (0 : Int32)), (.int (0 : Int32)), (.int (0 : Int32)), (.int (0 : Int32)), (.int (0 : Int32))] (.int (0 : Int32)) := (Arv.new A9 (by decide)).pad (pad_rep [] (.int (0 : Int32)) 7)
  have kn16 : ∀ t, own_S p e below T9 (mkF m 247 #[.val (.int p1), .val (.ref a2)] [(.ref b9), (.ref b1), (.ref b1)]) t → own_S p e below T0 (mkF m 239 #[.val (.int p1), .val (.ref a2)] []) t := fun t kt => kn8 t (st9 _ kt)
  have kn17 : ∀ t, own_S p e below T9 (mkF m 251 #[.val (.int p1), .val (.ref a2)] [(.int (0 : Int32)), (.ref a2), (.int (0 : Int32)), (.ref b9), (.ref b9), (.ref b1), (.ref b1)]) t → own_S p e below T0 (mkF m 239 #[.val (.int p1), .val (.ref a2)] []) t := fun t kt => kn16 t (by
    show own_S p e below T9 (mkF m 247 #[.val (.int p1), .val (.ref a2)] [(.ref b9), (.ref b1), (.ref b1)]) _
    refine XS.dup X9.here hx rfl (hb hby d_method_4_247) rfl rfl ?_
    show own_S p e below T9 (mkF m 248 #[.val (.int p1), .val (.ref a2)] [(.ref b9), (.ref b9), (.ref b1), (.ref b1)]) _
    refine XS.iconst X9.here hx rfl (hb hby d_method_4_248) ?_
    show own_S p e below T9 (mkF m 249 #[.val (.int p1), .val (.ref a2)] [(.int (0 : Int32)), (.ref b9), (.ref b9), (.ref b1), (.ref b1)]) _
    refine XS.aloadN X9.here hx rfl (hb hby d_method_4_249) rfl rfl ?_
    show own_S p e below T9 (mkF m 250 #[.val (.int p1), .val (.ref a2)] [(.ref a2), (.int (0 : Int32)), (.ref b9), (.ref b9), (.ref b1), (.ref b1)]) _
    refine XS.iconst X9.here hx rfl (hb hby d_method_4_250) ?_
    exact kt)
  have f18 := (f10.ext E9)
  obtain ⟨cl19, Ar19, q19, Sz19, Ng19, Hs19, Gs19⟩ := id f18
  have hin19 : ¬ ((0 : Int32) < 0 ∨ cl19.slots.size ≤ ((0 : Int32)).toNatClampNeg) := inb_of Sz19 ⟨by decide, by decide⟩
  have hat19 : cl19.slots[((0 : Int32)).toNatClampNeg]? = some (.int c0) := Hs19.at hin19 rfl
  have kn20 : ∀ t, own_S p e below T9 (mkF m 252 #[.val (.int p1), .val (.ref a2)] [(.int c0), (.int (0 : Int32)), (.ref b9), (.ref b9), (.ref b1), (.ref b1)]) t → own_S p e below T0 (mkF m 239 #[.val (.int p1), .val (.ref a2)] []) t := fun t kt => kn17 t (by
    show own_S p e below T9 (mkF m 251 #[.val (.int p1), .val (.ref a2)] [(.int (0 : Int32)), (.ref a2), (.int (0 : Int32)), (.ref b9), (.ref b9), (.ref b1), (.ref b1)]) _
    refine X9.caload hx (j := (0 : Int32)) (v := (.int c0)) (by rw [e9]; exact Ar19.1) (State.isArrayOf_alike hZ.alike Ar19.2.1) Ar19.2.2 hin19 hat19 (g := (mkF m 251 #[.val (.int p1), .val (.ref a2)] [(.int (0 : Int32)), (.ref a2), (.int (0 : Int32)), (.ref b9), (.ref b9), (.ref b1), (.ref b1)])) rfl rfl (hb hby d_method_4_251) _ ?_
    exact kt)
  obtain ⟨cl21, Ar21, q21, Sz21, Ng21, Hs21, Gs21⟩ := id V9
  have hin21 : ¬ ((0 : Int32) < 0 ∨ cl21.slots.size ≤ ((0 : Int32)).toNatClampNeg) := inb_of Sz21 ⟨by decide, by decide⟩
  obtain ⟨T21, h21, X21, e21, W21, st21⟩ := stC X9 hx hZ e9 Ar21 (j := (0 : Int32)) hin21 (g := (mkF m 252 #[.val (.int p1), .val (.ref a2)] [(.int c0), (.int (0 : Int32)), (.ref b9), (.ref b9), (.ref b1), (.ref b1)])) rfl rfl (hb hby d_method_4_252)
  have CS22 := CHr.wr W21 (Safe.arr hZ.alike Ar21 nofun) CR11.1
  have CR22 := CR11.trans CS22
  have SF22_b1 := CS22.safe SL11_b1 SF11_b1
  have SL22_b1 := Nat.lt_of_lt_of_le SL11_b1 CS22.2.1
  have Z23 : n0 ≤ h21.size := Nat.le_trans Z12 (Keep.of_wr W21).1
  have hk24 := Nat.le_trans hk13 (Keep.of_wr W21).1
  have Od25 : Old Z n0 h21 := Od14.wr W21 g_b9
  have K26 : Keep h0 h21 [] := K15.wr W21 (Or.inr sz_b9)
  have V21 : Arv Z h21 b9 kk9 .char (7 : Int32) [(.int (c0.toUInt32.toUInt16.toUInt32.toInt32)), (.int (0 : Int32)), (.int (0 : Int32)), (.int (0 : Int32)), (.int (0 : Int32)), (.int (0 : Int32)), (.int (0 : Int32))] (.int (0 : Int32)) := Arv.set Ar21 q21 Sz21 Ng21 Hs21 Gs21 (fits_nar_char _) W21 0 rfl (Nat.le_of_ble_eq_true rfl)
  rw [(show (c0.toUInt32.toUInt16.toUInt32.toInt32) = c0 from ok0.2.2)] at V21
  have Nf27 := Fr.snoc X21 Nf0 g_b9
  have kn28 : ∀ t, own_S p e below T21 (mkF m 253 #[.val (.int p1), .val (.ref a2)] [(.ref b9), (.ref b1), (.ref b1)]) t → own_S p e below T0 (mkF m 239 #[.val (.int p1), .val (.ref a2)] []) t := fun t kt => kn20 t (st21 _ kt)
  have kn29 : ∀ t, own_S p e below T21 (mkF m 257 #[.val (.int p1), .val (.ref a2)] [(.int (1 : Int32)), (.ref a2), (.int (1 : Int32)), (.ref b9), (.ref b9), (.ref b1), (.ref b1)]) t → own_S p e below T0 (mkF m 239 #[.val (.int p1), .val (.ref a2)] []) t := fun t kt => kn28 t (by
    show own_S p e below T21 (mkF m 253 #[.val (.int p1), .val (.ref a2)] [(.ref b9), (.ref b1), (.ref b1)]) _
    refine XS.dup X21.here hx rfl (hb hby d_method_4_253) rfl rfl ?_
    show own_S p e below T21 (mkF m 254 #[.val (.int p1), .val (.ref a2)] [(.ref b9), (.ref b9), (.ref b1), (.ref b1)]) _
    refine XS.iconst X21.here hx rfl (hb hby d_method_4_254) ?_
    show own_S p e below T21 (mkF m 255 #[.val (.int p1), .val (.ref a2)] [(.int (1 : Int32)), (.ref b9), (.ref b9), (.ref b1), (.ref b1)]) _
    refine XS.aloadN X21.here hx rfl (hb hby d_method_4_255) rfl rfl ?_
    show own_S p e below T21 (mkF m 256 #[.val (.int p1), .val (.ref a2)] [(.ref a2), (.int (1 : Int32)), (.ref b9), (.ref b9), (.ref b1), (.ref b1)]) _
    refine XS.iconst X21.here hx rfl (hb hby d_method_4_256) ?_
    exact kt)
  have f30 := (f18.other W21 ne_a2_b9)
  obtain ⟨cl31, Ar31, q31, Sz31, Ng31, Hs31, Gs31⟩ := id f30
  have hin31 : ¬ ((1 : Int32) < 0 ∨ cl31.slots.size ≤ ((1 : Int32)).toNatClampNeg) := inb_of Sz31 ⟨by decide, by decide⟩
  have hat31 : cl31.slots[((1 : Int32)).toNatClampNeg]? = some (.int c1) := Hs31.at hin31 rfl
  have kn32 : ∀ t, own_S p e below T21 (mkF m 258 #[.val (.int p1), .val (.ref a2)] [(.int c1), (.int (1 : Int32)), (.ref b9), (.ref b9), (.ref b1), (.ref b1)]) t → own_S p e below T0 (mkF m 239 #[.val (.int p1), .val (.ref a2)] []) t := fun t kt => kn29 t (by
    show own_S p e below T21 (mkF m 257 #[.val (.int p1), .val (.ref a2)] [(.int (1 : Int32)), (.ref a2), (.int (1 : Int32)), (.ref b9), (.ref b9), (.ref b1), (.ref b1)]) _
    refine X21.caload hx (j := (1 : Int32)) (v := (.int c1)) (by rw [e21]; exact Ar31.1) (State.isArrayOf_alike hZ.alike Ar31.2.1) Ar31.2.2 hin31 hat31 (g := (mkF m 257 #[.val (.int p1), .val (.ref a2)] [(.int (1 : Int32)), (.ref a2), (.int (1 : Int32)), (.ref b9), (.ref b9), (.ref b1), (.ref b1)])) rfl rfl (hb hby d_method_4_257) _ ?_
    exact kt)
  obtain ⟨cl33, Ar33, q33, Sz33, Ng33, Hs33, Gs33⟩ := id V21
  have hin33 : ¬ ((1 : Int32) < 0 ∨ cl33.slots.size ≤ ((1 : Int32)).toNatClampNeg) := inb_of Sz33 ⟨by decide, by decide⟩
  obtain ⟨T33, h33, X33, e33, W33, st33⟩ := stC X21 hx hZ e21 Ar33 (j := (1 : Int32)) hin33 (g := (mkF m 258 #[.val (.int p1), .val (.ref a2)] [(.int c1), (.int (1 : Int32)), (.ref b9), (.ref b9), (.ref b1), (.ref b1)])) rfl rfl (hb hby d_method_4_258)
  have CS34 := CHr.wr W33 (Safe.arr hZ.alike Ar33 nofun) CR22.1
  have CR34 := CR22.trans CS34
  have SF34_b1 := CS34.safe SL22_b1 SF22_b1
  have SL34_b1 := Nat.lt_of_lt_of_le SL22_b1 CS34.2.1
  have Z35 : n0 ≤ h33.size := Nat.le_trans Z23 (Keep.of_wr W33).1
  have hk36 := Nat.le_trans hk24 (Keep.of_wr W33).1
  have Od37 : Old Z n0 h33 := Od25.wr W33 g_b9
  have K38 : Keep h0 h33 [] := K26.wr W33 (Or.inr sz_b9)
  have V33 : Arv Z h33 b9 kk9 .char (7 : Int32) [(.int c0), (.int (c1.toUInt32.toUInt16.toUInt32.toInt32)), (.int (0 : Int32)), (.int (0 : Int32)), (.int (0 : Int32)), (.int (0 : Int32)), (.int (0 : Int32))] (.int (0 : Int32)) := Arv.set Ar33 q33 Sz33 Ng33 Hs33 Gs33 (fits_nar_char _) W33 1 rfl (Nat.le_of_ble_eq_true rfl)
  rw [(show (c1.toUInt32.toUInt16.toUInt32.toInt32) = c1 from ok1.2.2)] at V33
  have Nf39 := Fr.snoc X33 Nf27 g_b9
  have kn40 : ∀ t, own_S p e below T33 (mkF m 259 #[.val (.int p1), .val (.ref a2)] [(.ref b9), (.ref b1), (.ref b1)]) t → own_S p e below T0 (mkF m 239 #[.val (.int p1), .val (.ref a2)] []) t := fun t kt => kn32 t (st33 _ kt)
  have kn41 : ∀ t, own_S p e below T33 (mkF m 263 #[.val (.int p1), .val (.ref a2)] [(.int (2 : Int32)), (.ref a2), (.int (2 : Int32)), (.ref b9), (.ref b9), (.ref b1), (.ref b1)]) t → own_S p e below T0 (mkF m 239 #[.val (.int p1), .val (.ref a2)] []) t := fun t kt => kn40 t (by
    show own_S p e below T33 (mkF m 259 #[.val (.int p1), .val (.ref a2)] [(.ref b9), (.ref b1), (.ref b1)]) _
    refine XS.dup X33.here hx rfl (hb hby d_method_4_259) rfl rfl ?_
    show own_S p e below T33 (mkF m 260 #[.val (.int p1), .val (.ref a2)] [(.ref b9), (.ref b9), (.ref b1), (.ref b1)]) _
    refine XS.iconst X33.here hx rfl (hb hby d_method_4_260) ?_
    show own_S p e below T33 (mkF m 261 #[.val (.int p1), .val (.ref a2)] [(.int (2 : Int32)), (.ref b9), (.ref b9), (.ref b1), (.ref b1)]) _
    refine XS.aloadN X33.here hx rfl (hb hby d_method_4_261) rfl rfl ?_
    show own_S p e below T33 (mkF m 262 #[.val (.int p1), .val (.ref a2)] [(.ref a2), (.int (2 : Int32)), (.ref b9), (.ref b9), (.ref b1), (.ref b1)]) _
    refine XS.iconst X33.here hx rfl (hb hby d_method_4_262) ?_
    exact kt)
  have f42 := (f30.other W33 ne_a2_b9)
  obtain ⟨cl43, Ar43, q43, Sz43, Ng43, Hs43, Gs43⟩ := id f42
  have hin43 : ¬ ((2 : Int32) < 0 ∨ cl43.slots.size ≤ ((2 : Int32)).toNatClampNeg) := inb_of Sz43 ⟨by decide, by decide⟩
  have hat43 : cl43.slots[((2 : Int32)).toNatClampNeg]? = some (.int c2) := Hs43.at hin43 rfl
  have kn44 : ∀ t, own_S p e below T33 (mkF m 264 #[.val (.int p1), .val (.ref a2)] [(.int c2), (.int (2 : Int32)), (.ref b9), (.ref b9), (.ref b1), (.ref b1)]) t → own_S p e below T0 (mkF m 239 #[.val (.int p1), .val (.ref a2)] []) t := fun t kt => kn41 t (by
    show own_S p e below T33 (mkF m 263 #[.val (.int p1), .val (.ref a2)] [(.int (2 : Int32)), (.ref a2), (.int (2 : Int32)), (.ref b9), (.ref b9), (.ref b1), (.ref b1)]) _
    refine X33.caload hx (j := (2 : Int32)) (v := (.int c2)) (by rw [e33]; exact Ar43.1) (State.isArrayOf_alike hZ.alike Ar43.2.1) Ar43.2.2 hin43 hat43 (g := (mkF m 263 #[.val (.int p1), .val (.ref a2)] [(.int (2 : Int32)), (.ref a2), (.int (2 : Int32)), (.ref b9), (.ref b9), (.ref b1), (.ref b1)])) rfl rfl (hb hby d_method_4_263) _ ?_
    exact kt)
  obtain ⟨cl45, Ar45, q45, Sz45, Ng45, Hs45, Gs45⟩ := id V33
  have hin45 : ¬ ((2 : Int32) < 0 ∨ cl45.slots.size ≤ ((2 : Int32)).toNatClampNeg) := inb_of Sz45 ⟨by decide, by decide⟩
  obtain ⟨T45, h45, X45, e45, W45, st45⟩ := stC X33 hx hZ e33 Ar45 (j := (2 : Int32)) hin45 (g := (mkF m 264 #[.val (.int p1), .val (.ref a2)] [(.int c2), (.int (2 : Int32)), (.ref b9), (.ref b9), (.ref b1), (.ref b1)])) rfl rfl (hb hby d_method_4_264)
  have CS46 := CHr.wr W45 (Safe.arr hZ.alike Ar45 nofun) CR34.1
  have CR46 := CR34.trans CS46
  have SF46_b1 := CS46.safe SL34_b1 SF34_b1
  have SL46_b1 := Nat.lt_of_lt_of_le SL34_b1 CS46.2.1
  have Z47 : n0 ≤ h45.size := Nat.le_trans Z35 (Keep.of_wr W45).1
  have hk48 := Nat.le_trans hk36 (Keep.of_wr W45).1
  have Od49 : Old Z n0 h45 := Od37.wr W45 g_b9
  have K50 : Keep h0 h45 [] := K38.wr W45 (Or.inr sz_b9)
  have V45 : Arv Z h45 b9 kk9 .char (7 : Int32) [(.int c0), (.int c1), (.int (c2.toUInt32.toUInt16.toUInt32.toInt32)), (.int (0 : Int32)), (.int (0 : Int32)), (.int (0 : Int32)), (.int (0 : Int32))] (.int (0 : Int32)) := Arv.set Ar45 q45 Sz45 Ng45 Hs45 Gs45 (fits_nar_char _) W45 2 rfl (Nat.le_of_ble_eq_true rfl)
  rw [(show (c2.toUInt32.toUInt16.toUInt32.toInt32) = c2 from ok2.2.2)] at V45
  have Nf51 := Fr.snoc X45 Nf39 g_b9
  have kn52 : ∀ t, own_S p e below T45 (mkF m 265 #[.val (.int p1), .val (.ref a2)] [(.ref b9), (.ref b1), (.ref b1)]) t → own_S p e below T0 (mkF m 239 #[.val (.int p1), .val (.ref a2)] []) t := fun t kt => kn44 t (st45 _ kt)
  have kn53 : ∀ t, own_S p e below T45 (mkF m 269 #[.val (.int p1), .val (.ref a2)] [(.int (3 : Int32)), (.ref a2), (.int (3 : Int32)), (.ref b9), (.ref b9), (.ref b1), (.ref b1)]) t → own_S p e below T0 (mkF m 239 #[.val (.int p1), .val (.ref a2)] []) t := fun t kt => kn52 t (by
    show own_S p e below T45 (mkF m 265 #[.val (.int p1), .val (.ref a2)] [(.ref b9), (.ref b1), (.ref b1)]) _
    refine XS.dup X45.here hx rfl (hb hby d_method_4_265) rfl rfl ?_
    show own_S p e below T45 (mkF m 266 #[.val (.int p1), .val (.ref a2)] [(.ref b9), (.ref b9), (.ref b1), (.ref b1)]) _
    refine XS.iconst X45.here hx rfl (hb hby d_method_4_266) ?_
    show own_S p e below T45 (mkF m 267 #[.val (.int p1), .val (.ref a2)] [(.int (3 : Int32)), (.ref b9), (.ref b9), (.ref b1), (.ref b1)]) _
    refine XS.aloadN X45.here hx rfl (hb hby d_method_4_267) rfl rfl ?_
    show own_S p e below T45 (mkF m 268 #[.val (.int p1), .val (.ref a2)] [(.ref a2), (.int (3 : Int32)), (.ref b9), (.ref b9), (.ref b1), (.ref b1)]) _
    refine XS.iconst X45.here hx rfl (hb hby d_method_4_268) ?_
    exact kt)
  have f54 := (f42.other W45 ne_a2_b9)
  obtain ⟨cl55, Ar55, q55, Sz55, Ng55, Hs55, Gs55⟩ := id f54
  have hin55 : ¬ ((3 : Int32) < 0 ∨ cl55.slots.size ≤ ((3 : Int32)).toNatClampNeg) := inb_of Sz55 ⟨by decide, by decide⟩
  have hat55 : cl55.slots[((3 : Int32)).toNatClampNeg]? = some (.int c3) := Hs55.at hin55 rfl
  have kn56 : ∀ t, own_S p e below T45 (mkF m 270 #[.val (.int p1), .val (.ref a2)] [(.int c3), (.int (3 : Int32)), (.ref b9), (.ref b9), (.ref b1), (.ref b1)]) t → own_S p e below T0 (mkF m 239 #[.val (.int p1), .val (.ref a2)] []) t := fun t kt => kn53 t (by
    show own_S p e below T45 (mkF m 269 #[.val (.int p1), .val (.ref a2)] [(.int (3 : Int32)), (.ref a2), (.int (3 : Int32)), (.ref b9), (.ref b9), (.ref b1), (.ref b1)]) _
    refine X45.caload hx (j := (3 : Int32)) (v := (.int c3)) (by rw [e45]; exact Ar55.1) (State.isArrayOf_alike hZ.alike Ar55.2.1) Ar55.2.2 hin55 hat55 (g := (mkF m 269 #[.val (.int p1), .val (.ref a2)] [(.int (3 : Int32)), (.ref a2), (.int (3 : Int32)), (.ref b9), (.ref b9), (.ref b1), (.ref b1)])) rfl rfl (hb hby d_method_4_269) _ ?_
    exact kt)
  obtain ⟨cl57, Ar57, q57, Sz57, Ng57, Hs57, Gs57⟩ := id V45
  have hin57 : ¬ ((3 : Int32) < 0 ∨ cl57.slots.size ≤ ((3 : Int32)).toNatClampNeg) := inb_of Sz57 ⟨by decide, by decide⟩
  obtain ⟨T57, h57, X57, e57, W57, st57⟩ := stC X45 hx hZ e45 Ar57 (j := (3 : Int32)) hin57 (g := (mkF m 270 #[.val (.int p1), .val (.ref a2)] [(.int c3), (.int (3 : Int32)), (.ref b9), (.ref b9), (.ref b1), (.ref b1)])) rfl rfl (hb hby d_method_4_270)
  have CS58 := CHr.wr W57 (Safe.arr hZ.alike Ar57 nofun) CR46.1
  have CR58 := CR46.trans CS58
  have SF58_b1 := CS58.safe SL46_b1 SF46_b1
  have SL58_b1 := Nat.lt_of_lt_of_le SL46_b1 CS58.2.1
  have Z59 : n0 ≤ h57.size := Nat.le_trans Z47 (Keep.of_wr W57).1
  have hk60 := Nat.le_trans hk48 (Keep.of_wr W57).1
  have Od61 : Old Z n0 h57 := Od49.wr W57 g_b9
  have K62 : Keep h0 h57 [] := K50.wr W57 (Or.inr sz_b9)
  have V57 : Arv Z h57 b9 kk9 .char (7 : Int32) [(.int c0), (.int c1), (.int c2), (.int (c3.toUInt32.toUInt16.toUInt32.toInt32)), (.int (0 : Int32)), (.int (0 : Int32)), (.int (0 : Int32))] (.int (0 : Int32)) := Arv.set Ar57 q57 Sz57 Ng57 Hs57 Gs57 (fits_nar_char _) W57 3 rfl (Nat.le_of_ble_eq_true rfl)
  rw [(show (c3.toUInt32.toUInt16.toUInt32.toInt32) = c3 from ok3.2.2)] at V57
  have Nf63 := Fr.snoc X57 Nf51 g_b9
  have kn64 : ∀ t, own_S p e below T57 (mkF m 271 #[.val (.int p1), .val (.ref a2)] [(.ref b9), (.ref b1), (.ref b1)]) t → own_S p e below T0 (mkF m 239 #[.val (.int p1), .val (.ref a2)] []) t := fun t kt => kn56 t (st57 _ kt)
  have kn65 : ∀ t, own_S p e below T57 (mkF m 275 #[.val (.int p1), .val (.ref a2)] [(.int (4 : Int32)), (.ref a2), (.int (4 : Int32)), (.ref b9), (.ref b9), (.ref b1), (.ref b1)]) t → own_S p e below T0 (mkF m 239 #[.val (.int p1), .val (.ref a2)] []) t := fun t kt => kn64 t (by
    show own_S p e below T57 (mkF m 271 #[.val (.int p1), .val (.ref a2)] [(.ref b9), (.ref b1), (.ref b1)]) _
    refine XS.dup X57.here hx rfl (hb hby d_method_4_271) rfl rfl ?_
    show own_S p e below T57 (mkF m 272 #[.val (.int p1), .val (.ref a2)] [(.ref b9), (.ref b9), (.ref b1), (.ref b1)]) _
    refine XS.iconst X57.here hx rfl (hb hby d_method_4_272) ?_
    show own_S p e below T57 (mkF m 273 #[.val (.int p1), .val (.ref a2)] [(.int (4 : Int32)), (.ref b9), (.ref b9), (.ref b1), (.ref b1)]) _
    refine XS.aloadN X57.here hx rfl (hb hby d_method_4_273) rfl rfl ?_
    show own_S p e below T57 (mkF m 274 #[.val (.int p1), .val (.ref a2)] [(.ref a2), (.int (4 : Int32)), (.ref b9), (.ref b9), (.ref b1), (.ref b1)]) _
    refine XS.iconst X57.here hx rfl (hb hby d_method_4_274) ?_
    exact kt)
  have f66 := (f54.other W57 ne_a2_b9)
  obtain ⟨cl67, Ar67, q67, Sz67, Ng67, Hs67, Gs67⟩ := id f66
  have hin67 : ¬ ((4 : Int32) < 0 ∨ cl67.slots.size ≤ ((4 : Int32)).toNatClampNeg) := inb_of Sz67 ⟨by decide, by decide⟩
  have hat67 : cl67.slots[((4 : Int32)).toNatClampNeg]? = some (.int c4) := Hs67.at hin67 rfl
  have kn68 : ∀ t, own_S p e below T57 (mkF m 276 #[.val (.int p1), .val (.ref a2)] [(.int c4), (.int (4 : Int32)), (.ref b9), (.ref b9), (.ref b1), (.ref b1)]) t → own_S p e below T0 (mkF m 239 #[.val (.int p1), .val (.ref a2)] []) t := fun t kt => kn65 t (by
    show own_S p e below T57 (mkF m 275 #[.val (.int p1), .val (.ref a2)] [(.int (4 : Int32)), (.ref a2), (.int (4 : Int32)), (.ref b9), (.ref b9), (.ref b1), (.ref b1)]) _
    refine X57.caload hx (j := (4 : Int32)) (v := (.int c4)) (by rw [e57]; exact Ar67.1) (State.isArrayOf_alike hZ.alike Ar67.2.1) Ar67.2.2 hin67 hat67 (g := (mkF m 275 #[.val (.int p1), .val (.ref a2)] [(.int (4 : Int32)), (.ref a2), (.int (4 : Int32)), (.ref b9), (.ref b9), (.ref b1), (.ref b1)])) rfl rfl (hb hby d_method_4_275) _ ?_
    exact kt)
  obtain ⟨cl69, Ar69, q69, Sz69, Ng69, Hs69, Gs69⟩ := id V57
  have hin69 : ¬ ((4 : Int32) < 0 ∨ cl69.slots.size ≤ ((4 : Int32)).toNatClampNeg) := inb_of Sz69 ⟨by decide, by decide⟩
  obtain ⟨T69, h69, X69, e69, W69, st69⟩ := stC X57 hx hZ e57 Ar69 (j := (4 : Int32)) hin69 (g := (mkF m 276 #[.val (.int p1), .val (.ref a2)] [(.int c4), (.int (4 : Int32)), (.ref b9), (.ref b9), (.ref b1), (.ref b1)])) rfl rfl (hb hby d_method_4_276)
  have CS70 := CHr.wr W69 (Safe.arr hZ.alike Ar69 nofun) CR58.1
  have CR70 := CR58.trans CS70
  have SF70_b1 := CS70.safe SL58_b1 SF58_b1
  have SL70_b1 := Nat.lt_of_lt_of_le SL58_b1 CS70.2.1
  have Z71 : n0 ≤ h69.size := Nat.le_trans Z59 (Keep.of_wr W69).1
  have hk72 := Nat.le_trans hk60 (Keep.of_wr W69).1
  have Od73 : Old Z n0 h69 := Od61.wr W69 g_b9
  have K74 : Keep h0 h69 [] := K62.wr W69 (Or.inr sz_b9)
  have V69 : Arv Z h69 b9 kk9 .char (7 : Int32) [(.int c0), (.int c1), (.int c2), (.int c3), (.int (c4.toUInt32.toUInt16.toUInt32.toInt32)), (.int (0 : Int32)), (.int (0 : Int32))] (.int (0 : Int32)) := Arv.set Ar69 q69 Sz69 Ng69 Hs69 Gs69 (fits_nar_char _) W69 4 rfl (Nat.le_of_ble_eq_true rfl)
  rw [(show (c4.toUInt32.toUInt16.toUInt32.toInt32) = c4 from ok4.2.2)] at V69
  have Nf75 := Fr.snoc X69 Nf63 g_b9
  have kn76 : ∀ t, own_S p e below T69 (mkF m 277 #[.val (.int p1), .val (.ref a2)] [(.ref b9), (.ref b1), (.ref b1)]) t → own_S p e below T0 (mkF m 239 #[.val (.int p1), .val (.ref a2)] []) t := fun t kt => kn68 t (st69 _ kt)
  have kn77 : ∀ t, own_S p e below T69 (mkF m 281 #[.val (.int p1), .val (.ref a2)] [(.int (5 : Int32)), (.ref a2), (.int (5 : Int32)), (.ref b9), (.ref b9), (.ref b1), (.ref b1)]) t → own_S p e below T0 (mkF m 239 #[.val (.int p1), .val (.ref a2)] []) t := fun t kt => kn76 t (by
    show own_S p e below T69 (mkF m 277 #[.val (.int p1), .val (.ref a2)] [(.ref b9), (.ref b1), (.ref b1)]) _
    refine XS.dup X69.here hx rfl (hb hby d_method_4_277) rfl rfl ?_
    show own_S p e below T69 (mkF m 278 #[.val (.int p1), .val (.ref a2)] [(.ref b9), (.ref b9), (.ref b1), (.ref b1)]) _
    refine XS.iconst X69.here hx rfl (hb hby d_method_4_278) ?_
    show own_S p e below T69 (mkF m 279 #[.val (.int p1), .val (.ref a2)] [(.int (5 : Int32)), (.ref b9), (.ref b9), (.ref b1), (.ref b1)]) _
    refine XS.aloadN X69.here hx rfl (hb hby d_method_4_279) rfl rfl ?_
    show own_S p e below T69 (mkF m 280 #[.val (.int p1), .val (.ref a2)] [(.ref a2), (.int (5 : Int32)), (.ref b9), (.ref b9), (.ref b1), (.ref b1)]) _
    refine XS.iconst X69.here hx rfl (hb hby d_method_4_280) ?_
    exact kt)
  have f78 := (f66.other W69 ne_a2_b9)
  obtain ⟨cl79, Ar79, q79, Sz79, Ng79, Hs79, Gs79⟩ := id f78
  have hin79 : ¬ ((5 : Int32) < 0 ∨ cl79.slots.size ≤ ((5 : Int32)).toNatClampNeg) := inb_of Sz79 ⟨by decide, by decide⟩
  have hat79 : cl79.slots[((5 : Int32)).toNatClampNeg]? = some (.int c5) := Hs79.at hin79 rfl
  have kn80 : ∀ t, own_S p e below T69 (mkF m 282 #[.val (.int p1), .val (.ref a2)] [(.int c5), (.int (5 : Int32)), (.ref b9), (.ref b9), (.ref b1), (.ref b1)]) t → own_S p e below T0 (mkF m 239 #[.val (.int p1), .val (.ref a2)] []) t := fun t kt => kn77 t (by
    show own_S p e below T69 (mkF m 281 #[.val (.int p1), .val (.ref a2)] [(.int (5 : Int32)), (.ref a2), (.int (5 : Int32)), (.ref b9), (.ref b9), (.ref b1), (.ref b1)]) _
    refine X69.caload hx (j := (5 : Int32)) (v := (.int c5)) (by rw [e69]; exact Ar79.1) (State.isArrayOf_alike hZ.alike Ar79.2.1) Ar79.2.2 hin79 hat79 (g := (mkF m 281 #[.val (.int p1), .val (.ref a2)] [(.int (5 : Int32)), (.ref a2), (.int (5 : Int32)), (.ref b9), (.ref b9), (.ref b1), (.ref b1)])) rfl rfl (hb hby d_method_4_281) _ ?_
    exact kt)
  obtain ⟨cl81, Ar81, q81, Sz81, Ng81, Hs81, Gs81⟩ := id V69
  have hin81 : ¬ ((5 : Int32) < 0 ∨ cl81.slots.size ≤ ((5 : Int32)).toNatClampNeg) := inb_of Sz81 ⟨by decide, by decide⟩
  obtain ⟨T81, h81, X81, e81, W81, st81⟩ := stC X69 hx hZ e69 Ar81 (j := (5 : Int32)) hin81 (g := (mkF m 282 #[.val (.int p1), .val (.ref a2)] [(.int c5), (.int (5 : Int32)), (.ref b9), (.ref b9), (.ref b1), (.ref b1)])) rfl rfl (hb hby d_method_4_282)
  have CS82 := CHr.wr W81 (Safe.arr hZ.alike Ar81 nofun) CR70.1
  have CR82 := CR70.trans CS82
  have SF82_b1 := CS82.safe SL70_b1 SF70_b1
  have SL82_b1 := Nat.lt_of_lt_of_le SL70_b1 CS82.2.1
  have Z83 : n0 ≤ h81.size := Nat.le_trans Z71 (Keep.of_wr W81).1
  have hk84 := Nat.le_trans hk72 (Keep.of_wr W81).1
  have Od85 : Old Z n0 h81 := Od73.wr W81 g_b9
  have K86 : Keep h0 h81 [] := K74.wr W81 (Or.inr sz_b9)
  have V81 : Arv Z h81 b9 kk9 .char (7 : Int32) [(.int c0), (.int c1), (.int c2), (.int c3), (.int c4), (.int (c5.toUInt32.toUInt16.toUInt32.toInt32)), (.int (0 : Int32))] (.int (0 : Int32)) := Arv.set Ar81 q81 Sz81 Ng81 Hs81 Gs81 (fits_nar_char _) W81 5 rfl (Nat.le_of_ble_eq_true rfl)
  rw [(show (c5.toUInt32.toUInt16.toUInt32.toInt32) = c5 from ok5.2.2)] at V81
  have Nf87 := Fr.snoc X81 Nf75 g_b9
  have kn88 : ∀ t, own_S p e below T81 (mkF m 283 #[.val (.int p1), .val (.ref a2)] [(.ref b9), (.ref b1), (.ref b1)]) t → own_S p e below T0 (mkF m 239 #[.val (.int p1), .val (.ref a2)] []) t := fun t kt => kn80 t (st81 _ kt)
  have kn89 : ∀ t, own_S p e below T81 (mkF m 289 #[.val (.int p1), .val (.ref a2)] [(.int (6 : Int32)), (.ref a2), (.int (6 : Int32)), (.ref b9), (.ref b9), (.ref b1), (.ref b1)]) t → own_S p e below T0 (mkF m 239 #[.val (.int p1), .val (.ref a2)] []) t := fun t kt => kn88 t (by
    show own_S p e below T81 (mkF m 283 #[.val (.int p1), .val (.ref a2)] [(.ref b9), (.ref b1), (.ref b1)]) _
    refine XS.dup X81.here hx rfl (hb hby d_method_4_283) rfl rfl ?_
    show own_S p e below T81 (mkF m 284 #[.val (.int p1), .val (.ref a2)] [(.ref b9), (.ref b9), (.ref b1), (.ref b1)]) _
    refine XS.bipush X81.here hx rfl (hb hby d_method_4_284) ?_
    show own_S p e below T81 (mkF m 286 #[.val (.int p1), .val (.ref a2)] [(.int (6 : Int32)), (.ref b9), (.ref b9), (.ref b1), (.ref b1)]) _
    refine XS.aloadN X81.here hx rfl (hb hby d_method_4_286) rfl rfl ?_
    show own_S p e below T81 (mkF m 287 #[.val (.int p1), .val (.ref a2)] [(.ref a2), (.int (6 : Int32)), (.ref b9), (.ref b9), (.ref b1), (.ref b1)]) _
    refine XS.bipush X81.here hx rfl (hb hby d_method_4_287) ?_
    exact kt)
  have f90 := (f78.other W81 ne_a2_b9)
  obtain ⟨cl91, Ar91, q91, Sz91, Ng91, Hs91, Gs91⟩ := id f90
  have hin91 : ¬ ((6 : Int32) < 0 ∨ cl91.slots.size ≤ ((6 : Int32)).toNatClampNeg) := inb_of Sz91 ⟨by decide, by decide⟩
  have hat91 : cl91.slots[((6 : Int32)).toNatClampNeg]? = some (.int c6) := Hs91.at hin91 rfl
  have kn92 : ∀ t, own_S p e below T81 (mkF m 290 #[.val (.int p1), .val (.ref a2)] [(.int c6), (.int (6 : Int32)), (.ref b9), (.ref b9), (.ref b1), (.ref b1)]) t → own_S p e below T0 (mkF m 239 #[.val (.int p1), .val (.ref a2)] []) t := fun t kt => kn89 t (by
    show own_S p e below T81 (mkF m 289 #[.val (.int p1), .val (.ref a2)] [(.int (6 : Int32)), (.ref a2), (.int (6 : Int32)), (.ref b9), (.ref b9), (.ref b1), (.ref b1)]) _
    refine X81.caload hx (j := (6 : Int32)) (v := (.int c6)) (by rw [e81]; exact Ar91.1) (State.isArrayOf_alike hZ.alike Ar91.2.1) Ar91.2.2 hin91 hat91 (g := (mkF m 289 #[.val (.int p1), .val (.ref a2)] [(.int (6 : Int32)), (.ref a2), (.int (6 : Int32)), (.ref b9), (.ref b9), (.ref b1), (.ref b1)])) rfl rfl (hb hby d_method_4_289) _ ?_
    exact kt)
  obtain ⟨cl93, Ar93, q93, Sz93, Ng93, Hs93, Gs93⟩ := id V81
  have hin93 : ¬ ((6 : Int32) < 0 ∨ cl93.slots.size ≤ ((6 : Int32)).toNatClampNeg) := inb_of Sz93 ⟨by decide, by decide⟩
  obtain ⟨T93, h93, X93, e93, W93, st93⟩ := stC X81 hx hZ e81 Ar93 (j := (6 : Int32)) hin93 (g := (mkF m 290 #[.val (.int p1), .val (.ref a2)] [(.int c6), (.int (6 : Int32)), (.ref b9), (.ref b9), (.ref b1), (.ref b1)])) rfl rfl (hb hby d_method_4_290)
  have CS94 := CHr.wr W93 (Safe.arr hZ.alike Ar93 nofun) CR82.1
  have CR94 := CR82.trans CS94
  have SF94_b1 := CS94.safe SL82_b1 SF82_b1
  have SL94_b1 := Nat.lt_of_lt_of_le SL82_b1 CS94.2.1
  have Z95 : n0 ≤ h93.size := Nat.le_trans Z83 (Keep.of_wr W93).1
  have hk96 := Nat.le_trans hk84 (Keep.of_wr W93).1
  have Od97 : Old Z n0 h93 := Od85.wr W93 g_b9
  have K98 : Keep h0 h93 [] := K86.wr W93 (Or.inr sz_b9)
  have V93 : Arv Z h93 b9 kk9 .char (7 : Int32) [(.int c0), (.int c1), (.int c2), (.int c3), (.int c4), (.int c5), (.int (c6.toUInt32.toUInt16.toUInt32.toInt32))] (.int (0 : Int32)) := Arv.set Ar93 q93 Sz93 Ng93 Hs93 Gs93 (fits_nar_char _) W93 6 rfl (Nat.le_of_ble_eq_true rfl)
  rw [(show (c6.toUInt32.toUInt16.toUInt32.toInt32) = c6 from ok6.2.2)] at V93
  have Nf99 := Fr.snoc X93 Nf87 g_b9
  have kn100 : ∀ t, own_S p e below T93 (mkF m 291 #[.val (.int p1), .val (.ref a2)] [(.ref b9), (.ref b1), (.ref b1)]) t → own_S p e below T0 (mkF m 239 #[.val (.int p1), .val (.ref a2)] []) t := fun t kt => kn92 t (st93 _ kt)
  have hws : ∀ d ∈ StrChars.Road.words, d.before a0 Z = true := fun d hd => hw d ((by decide +kernel : ∀ d ∈ StrChars.Road.words, d ∈ tables_1) d hd)
  have hp102 : ∀ c ∈ ([c0, c1, c2, c3, c4, c5, c6] : List Int32), ¬ c < 0 ∧ ¬ (255 : Int32) < c := (own_fa ⟨ok0.1, ok0.2.1⟩ (own_fa ⟨ok1.1, ok1.2.1⟩ (own_fa ⟨ok2.1, ok2.2.1⟩ (own_fa ⟨ok3.1, ok3.2.1⟩ (own_fa ⟨ok4.1, ok4.2.1⟩ (own_fa ⟨ok5.1, ok5.2.1⟩ (own_fa ⟨ok6.1, ok6.2.1⟩ own_f0)))))))
  have f103 := ((((((((A1.ext E9).wr W21).wr W33).wr W45).wr W57).wr W69).wr W81).wr W93)
  have f104 := ((((((((F1_4.ext E9).other W21 (Or.inl ne_b1_b9)).other W33 (Or.inl ne_b1_b9)).other W45 (Or.inl ne_b1_b9)).other W57 (Or.inl ne_b1_b9)).other W69 (Or.inl ne_b1_b9)).other W81 (Or.inl ne_b1_b9)).other W93 (Or.inl ne_b1_b9))
  have f105 := ((((((((F1_5.ext E9).other W21 (Or.inl ne_b1_b9)).other W33 (Or.inl ne_b1_b9)).other W45 (Or.inl ne_b1_b9)).other W57 (Or.inl ne_b1_b9)).other W69 (Or.inl ne_b1_b9)).other W81 (Or.inl ne_b1_b9)).other W93 (Or.inl ne_b1_b9))
  obtain ⟨_, _, ⟨T101, L101, cc101, ss101⟩, -, X101, ⟨Lc101, hQ101, l101, y101, z101⟩, st101⟩ := X93.specialBack hx (y := (⟨"java/lang/String", "<init>", "([C)V"⟩ : MethodName)) rfl hown (mvT hZ (hw _ (List.mem_of_getElem? (i := 83) rfl))) (mvT hZ (hw _ (List.mem_of_getElem? (i := 84) rfl))) (mvT hZ (hw _ (List.mem_of_getElem? (i := 85) rfl))) (by decide) (StrChars.Road.backV (W := 1) hZ hws (kI := 4) (hw _ (List.mem_of_getElem? (i := 2) rfl)) (cs := ([c0, c1, c2, c3, c4, c5, c6] : List Int32)) (bs := ([c0, c1, c2, c3, c4, c5, c6] : List Int32).map (fun c => c.toInt8.toInt32)) (n := 7) g_b1 Z95 f103 f104 f105 V93 (O2.ext Od97.2) P5 rfl rfl (by decide) (by decide) hp102 rfl (by decide) (by decide)) (g := (mkF m 291 #[.val (.int p1), .val (.ref a2)] [(.ref b9), (.ref b1), (.ref b1)])) rfl (by rw [hml]; rfl) (Steps.refl _) (a := b1) (argsL := [(.ref b9)]) (rest := [(.ref b1)]) (lenOf pd_5 rfl) rfl (by show 2 * 0 + _ ≤ _; exact Nat.le_of_eq rfl) (hb hby d_method_4_291) (fun _ _ => ⟨rfl, e93, (by decide : 2 + 1 ≤ _), (by decide : 11 + 7 ≤ _)⟩)
  dsimp only [Pt.U, Pt.locs, Pt.cells, Pt.slots] at X101 l101 y101 z101 st101 hQ101
  subst l101 y101 z101
  have X101 : Stand p l e _ _ m _ below meth c T101 _ 3 18 := X101
  obtain ⟨rfl, Nq101, K101, Ex101, Co101, t101, kb101, ga101, sa101, nx101, Va101, Ar101⟩ := hQ101
  have Nf101 := Fr.app Nf99 Nq101
  have CS106 := CHr.keep K101 (allS SF94_b1 all0) CR94.1
  have CR106 := CR94.trans CS106
  have SF106_b1 := CS106.safe SL94_b1 SF94_b1
  have SL106_b1 := Nat.lt_of_lt_of_le SL94_b1 CS106.2.1
  have Z107 : n0 ≤ T101.heap.size := Nat.le_trans Z95 K101.1
  have hk108 := Nat.le_trans hk96 K101.1
  have Od109 : Old Z n0 T101.heap := Od97.keep K101 (allS g_b1 all0)
  have K110 : Keep h0 T101.heap [] := K98.trans K101 (allS (Or.inr sz_b1) all0)
  have kn111 : ∀ t, own_S p e below T101 (mkF m 294 #[.val (.int p1), .val (.ref a2)] [(.ref b1)]) t → own_S p e below T0 (mkF m 239 #[.val (.int p1), .val (.ref a2)] []) t := fun t kt => kn100 t (st101.trans kt)
  obtain ⟨fs, hr, hrun, hended, hRW⟩ := X101.leaveW hS0 hk108 (v := some (.ref b1)) (fun h => by rw [hret] at h; cases h)
  have chE : CHr Z consts_1 s.vm s.heap T101.vm T101.heap := by exact CR106.trans (CHv.at X101 hZ (own_EW hw) CR106.1)
  refine ⟨_, _, id (kn111 _ (by
      show own_S p e below T101 (mkF m 294 #[.val (.int p1), .val (.ref a2)] [(.ref b1)]) _
      jvm_step X101.here [X101.here.top, hx, (hb hby d_method_4_294), X101.method', hret, Value.isRef, FieldType.isReference]
      first | (intro acts; rw [hr _ acts rfl rfl rfl]) | rw [hr _ _ rfl rfl rfl]
      exact Steps.refl _)), hrun, hended, _, _, rfl, ?_, chE, ⟨hRW.1, hRW.2.1, hRW.2.2.1, hRW.2.2.2.mono (by decide) (by decide)⟩⟩
  show Q12 Z p1 a2 k2 c0 c1 c2 c3 c4 c5 c6 G1 h0 n0 _ T101.heap _
  exact ⟨b1, t101, kb101, ([c0, c1, c2, c3, c4, c5, c6] : List Int32), rfl, Nf101, g_b1, K110, Ex101, Va101, Co101, Ar101, hp102, Nat.le_of_ble_eq_true rfl⟩

theorem d_method_4_0 : decode method_4_code 0 = .ok (.iload_n 0, 1) := by decide +kernel
theorem d_method_4_1 : decode method_4_code 1 = .ok (.ifCond .ne 14, 3) := by decide +kernel
theorem d_method_4_15 : decode method_4_code 15 = .ok (.iload_n 0, 1) := by decide +kernel
theorem d_method_4_16 : decode method_4_code 16 = .ok (.iconst 1, 1) := by decide +kernel
theorem d_method_4_17 : decode method_4_code 17 = .ok (.if_icmp .ne 20, 3) := by decide +kernel
theorem d_method_4_37 : decode method_4_code 37 = .ok (.iload_n 0, 1) := by decide +kernel
theorem d_method_4_38 : decode method_4_code 38 = .ok (.iconst 2, 1) := by decide +kernel
theorem d_method_4_39 : decode method_4_code 39 = .ok (.if_icmp .ne 26, 3) := by decide +kernel
theorem d_method_4_65 : decode method_4_code 65 = .ok (.iload_n 0, 1) := by decide +kernel
theorem d_method_4_66 : decode method_4_code 66 = .ok (.iconst 3, 1) := by decide +kernel
theorem d_method_4_67 : decode method_4_code 67 = .ok (.if_icmp .ne 32, 3) := by decide +kernel
theorem d_method_4_99 : decode method_4_code 99 = .ok (.iload_n 0, 1) := by decide +kernel
theorem d_method_4_100 : decode method_4_code 100 = .ok (.iconst 4, 1) := by decide +kernel
theorem d_method_4_101 : decode method_4_code 101 = .ok (.if_icmp .ne 38, 3) := by decide +kernel
theorem d_method_4_139 : decode method_4_code 139 = .ok (.iload_n 0, 1) := by decide +kernel
theorem d_method_4_140 : decode method_4_code 140 = .ok (.iconst 5, 1) := by decide +kernel
theorem d_method_4_141 : decode method_4_code 141 = .ok (.if_icmp .ne 44, 3) := by decide +kernel
theorem d_method_4_185 : decode method_4_code 185 = .ok (.iload_n 0, 1) := by decide +kernel
theorem d_method_4_186 : decode method_4_code 186 = .ok (.bipush 6, 2) := by decide +kernel
theorem d_method_4_188 : decode method_4_code 188 = .ok (.if_icmp .ne 51, 3) := by decide +kernel
theorem ef_rm12 (m : MethodId) (x0 : Int32) (x1 : Addr) : entryFrame m #[(.int x0), (.ref x1)] 2 = mkF m 0 #[.val (.int x0), .val (.ref x1)] [] := by first | (simp [entryFrame, mkF, argsToLocals, Value.category]; done) | rfl
 
set_option maxRecDepth 65536 in
set_option maxHeartbeats 40000000 in
theorem rm12 (l : Launch) (Z : State) (a0 : Array Value) (hw : ∀ d ∈ tables_1, d.before a0 Z = true) (ws : List Jvm.Cond) (p1 : Int32) (a2 : Addr) (k2 : ClassId) (c0 : Int32) (c1 : Int32) (c2 : Int32) (c3 : Int32) (c4 : Int32) (c5 : Int32) (c6 : Int32) (G1 : Int32) (h0 : Heap) (n0 : Nat) (Z0 : n0 ≤ h0.size) (A_a2 : Arv Z h0 a2 k2 .char (7 : Int32) [(.int c0), (.int c1), (.int c2), (.int c3), (.int c4), (.int c5), (.int c6)] (.int (0 : Int32))) (ok0 : own_ok c0) (ok1 : own_ok c1) (ok2 : own_ok c2) (ok3 : own_ok c3) (ok4 : own_ok c4) (ok5 : own_ok c5) (ok6 : own_ok c6) (O0 : Old Z n0 h0) (O2 : Sta Z Z.heap "java/lang/String" "COMPACT_STRINGS" "Z" (.int G1)) (P5 : ¬ (G1 = (0 : Int32))) :
    MetFree l (⟨"com/example/runs_to_scores/runstoscores/formats/SubtaskLabelledPinLaw", "make", "(I[C)Ljava/lang/String;"⟩ : MethodName) (head1 (Jvm.Cond.code (⟨"com/example/runs_to_scores/runstoscores/formats/SubtaskLabelledPinLaw", "make", "(I[C)Ljava/lang/String;"⟩ : MethodName) method_4_code 2 (some (.object "java/lang/String")) :: ws) ({ frames := 6, cells := 4, slots := 20, locals := 90 } : Room)) (fun a U => a = #[(.int p1), (.ref a2)] ∧ Z.Warmed39 U.vm ∧ U.heap = h0 ∧ CHv Z consts_1 U.vm h0) (fun _ _ _ _ _ => True) (fun _ U o U' => ∃ v L, o = .returned v ∧ Q12 Z p1 a2 k2 c0 c1 c2 c3 c4 c5 c6 G1 h0 n0 v U'.heap L ∧ CHr Z consts_1 U.vm U.heap U'.vm U'.heap ∧ ReturnedEndW U o U' L ({ frames := 6, cells := 4, slots := 20, locals := 90 } : Room).cells ({ frames := 6, cells := 4, slots := 20, locals := 90 } : Room).slots) := by
  refine MetFree.of_bodySF (plainFor_of_name pn_0) hisR ?_
  intro p e s m args below meth c s₁ Bd hml0 hP hK
  obtain ⟨rfl, hZ, hh, hCH⟩ := hP
  have hx := Bd.exec
  have hby := Bd.bytes
  have hml : c.maxLocals = 2 := hml0
  have hown : s.vm.findClass "com/example/runs_to_scores/runstoscores/formats/SubtaskLabelledPinLaw" = some m.cls := findClass_of_methodNamed Bd.named
  have hnm := (name_of_methodNamed Bd.named Bd.method).1
  have X0 : Stand p l e ({ frames := 6, cells := 4, slots := 20, locals := 90 } : Room) s m #[(.int p1), (.ref a2)] below meth c s₁ [] 0 0 := Stand.of_body Bd
  have e0 : s₁.heap = h0 := by rw [← hh, Bd.state]; rfl
  have Nf0 := Fr.nil n0
  obtain ⟨Gl, hGl, kn0⟩ : ∃ Gl : State → Prop, (∀ t, Gl t → Steps p.tables e below (s₁.setTop (entryFrame m #[(.int p1), (.ref a2)] 2)) t) ∧ ∀ t, own_S p e below s₁ (mkF m 0 #[.val (.int p1), .val (.ref a2)] []) t → Gl t := ⟨fun t => Steps p.tables e below (s₁.setTop (entryFrame m #[(.int p1), (.ref a2)] 2)) t, fun _ k => k, fun t k => castTop (ef_rm12 m p1 a2) k⟩
  have X0 : Stand p l e ({ frames := 6, cells := 4, slots := 20, locals := 90 } : Room) (s.setVm s.vm) m #[(.int p1), (.ref a2)] below meth c s₁ [] 0 0 := X0
  have hZ : Z.Warmed39 (s.setVm s.vm).vm := hZ
  have hown : (s.setVm s.vm).vm.findClass "com/example/runs_to_scores/runstoscores/formats/SubtaskLabelledPinLaw" = some m.cls := hown
  have hSt0 : s.Since s.vm 0 := (State.WarmedH.refl s).since 0
  have CR0 := CHr.refl hCH
  have kn1 : ∀ t, own_S p e below s₁ (mkF m 1 #[.val (.int p1), .val (.ref a2)] [(.int p1)]) t → Gl t := fun t kt => kn0 t (by
    show own_S p e below s₁ (mkF m 0 #[.val (.int p1), .val (.ref a2)] []) _
    refine XS.iloadN X0.here hx rfl (hb hby d_method_4_0) rfl ?_
    exact kt)
  by_cases hc1 : p1 = (0 : Int32)
  · have kn2 : ∀ t, own_S p e below s₁ (mkF m 4 #[.val (.int p1), .val (.ref a2)] []) t → Gl t := fun t kt => kn1 t (by
      show own_S p e below s₁ (mkF m 1 #[.val (.int p1), .val (.ref a2)] [(.int p1)]) _
      refine XS.ifNo X0.here hx rfl (hb hby d_method_4_1) rfl ((if0 _ _).trans (teq hc1).2) ?_
      exact kt)
    obtain ⟨s2, o2, t1, t2, t3, t4⟩ := mk_0 (n0 := n0) p1 a2 k2 c0 c1 c2 c3 c4 c5 c6 G1  X0 hx hZ hw hby hml hown Bd.returns (BodyLoose.notSynchronized Bd) e0 Nf0 Z0 hSt0 (Nat.zero_le _) (by rw [hh]; exact CR0) A_a2 ok0 ok1 ok2 ok3 ok4 ok5 ok6 O0 O2 P5
    exact ⟨s2, o2, hGl _ (kn2 _ (t1)), t2, t3, t4⟩
  · have kn3 : ∀ t, own_S p e below s₁ (mkF m 17 #[.val (.int p1), .val (.ref a2)] [(.int (1 : Int32)), (.int p1)]) t → Gl t := fun t kt => kn1 t (by
      show own_S p e below s₁ (mkF m 1 #[.val (.int p1), .val (.ref a2)] [(.int p1)]) _
      refine XS.ifYes X0.here hx rfl (pc0 := 1) (pc' := 15) rfl (hb hby d_method_4_1) rfl ((if0 _ _).trans (feq hc1).2) (by decide) (by decide) ?_
      show own_S p e below s₁ (mkF m 15 #[.val (.int p1), .val (.ref a2)] []) _
      refine XS.iloadN X0.here hx rfl (hb hby d_method_4_15) rfl ?_
      show own_S p e below s₁ (mkF m 16 #[.val (.int p1), .val (.ref a2)] [(.int p1)]) _
      refine XS.iconst X0.here hx rfl (hb hby d_method_4_16) ?_
      exact kt)
    by_cases hc17 : p1 = (1 : Int32)
    · have kn4 : ∀ t, own_S p e below s₁ (mkF m 20 #[.val (.int p1), .val (.ref a2)] []) t → Gl t := fun t kt => kn3 t (by
        show own_S p e below s₁ (mkF m 17 #[.val (.int p1), .val (.ref a2)] [(.int (1 : Int32)), (.int p1)]) _
        refine XS.icmpNo X0.here hx rfl (hb hby d_method_4_17) rfl (teq hc17).2 ?_
        exact kt)
      obtain ⟨s2, o2, t1, t2, t3, t4⟩ := mk_1 (n0 := n0) p1 a2 k2 c0 c1 c2 c3 c4 c5 c6 G1  X0 hx hZ hw hby hml hown Bd.returns (BodyLoose.notSynchronized Bd) e0 Nf0 Z0 hSt0 (Nat.zero_le _) (by rw [hh]; exact CR0) A_a2 ok0 ok1 ok2 ok3 ok4 ok5 ok6 O0 O2 P5
      exact ⟨s2, o2, hGl _ (kn4 _ (t1)), t2, t3, t4⟩
    · have kn5 : ∀ t, own_S p e below s₁ (mkF m 39 #[.val (.int p1), .val (.ref a2)] [(.int (2 : Int32)), (.int p1)]) t → Gl t := fun t kt => kn3 t (by
        show own_S p e below s₁ (mkF m 17 #[.val (.int p1), .val (.ref a2)] [(.int (1 : Int32)), (.int p1)]) _
        refine XS.icmpYes X0.here hx rfl (pc0 := 17) (pc' := 37) rfl (hb hby d_method_4_17) rfl (feq hc17).2 (by decide) (by decide) ?_
        show own_S p e below s₁ (mkF m 37 #[.val (.int p1), .val (.ref a2)] []) _
        refine XS.iloadN X0.here hx rfl (hb hby d_method_4_37) rfl ?_
        show own_S p e below s₁ (mkF m 38 #[.val (.int p1), .val (.ref a2)] [(.int p1)]) _
        refine XS.iconst X0.here hx rfl (hb hby d_method_4_38) ?_
        exact kt)
      by_cases hc39 : p1 = (2 : Int32)
      · have kn6 : ∀ t, own_S p e below s₁ (mkF m 42 #[.val (.int p1), .val (.ref a2)] []) t → Gl t := fun t kt => kn5 t (by
          show own_S p e below s₁ (mkF m 39 #[.val (.int p1), .val (.ref a2)] [(.int (2 : Int32)), (.int p1)]) _
          refine XS.icmpNo X0.here hx rfl (hb hby d_method_4_39) rfl (teq hc39).2 ?_
          exact kt)
        obtain ⟨s2, o2, t1, t2, t3, t4⟩ := mk_2 (n0 := n0) p1 a2 k2 c0 c1 c2 c3 c4 c5 c6 G1  X0 hx hZ hw hby hml hown Bd.returns (BodyLoose.notSynchronized Bd) e0 Nf0 Z0 hSt0 (Nat.zero_le _) (by rw [hh]; exact CR0) A_a2 ok0 ok1 ok2 ok3 ok4 ok5 ok6 O0 O2 P5
        exact ⟨s2, o2, hGl _ (kn6 _ (t1)), t2, t3, t4⟩
      · have kn7 : ∀ t, own_S p e below s₁ (mkF m 67 #[.val (.int p1), .val (.ref a2)] [(.int (3 : Int32)), (.int p1)]) t → Gl t := fun t kt => kn5 t (by
          show own_S p e below s₁ (mkF m 39 #[.val (.int p1), .val (.ref a2)] [(.int (2 : Int32)), (.int p1)]) _
          refine XS.icmpYes X0.here hx rfl (pc0 := 39) (pc' := 65) rfl (hb hby d_method_4_39) rfl (feq hc39).2 (by decide) (by decide) ?_
          show own_S p e below s₁ (mkF m 65 #[.val (.int p1), .val (.ref a2)] []) _
          refine XS.iloadN X0.here hx rfl (hb hby d_method_4_65) rfl ?_
          show own_S p e below s₁ (mkF m 66 #[.val (.int p1), .val (.ref a2)] [(.int p1)]) _
          refine XS.iconst X0.here hx rfl (hb hby d_method_4_66) ?_
          exact kt)
        by_cases hc67 : p1 = (3 : Int32)
        · have kn8 : ∀ t, own_S p e below s₁ (mkF m 70 #[.val (.int p1), .val (.ref a2)] []) t → Gl t := fun t kt => kn7 t (by
            show own_S p e below s₁ (mkF m 67 #[.val (.int p1), .val (.ref a2)] [(.int (3 : Int32)), (.int p1)]) _
            refine XS.icmpNo X0.here hx rfl (hb hby d_method_4_67) rfl (teq hc67).2 ?_
            exact kt)
          obtain ⟨s2, o2, t1, t2, t3, t4⟩ := mk_3 (n0 := n0) p1 a2 k2 c0 c1 c2 c3 c4 c5 c6 G1  X0 hx hZ hw hby hml hown Bd.returns (BodyLoose.notSynchronized Bd) e0 Nf0 Z0 hSt0 (Nat.zero_le _) (by rw [hh]; exact CR0) A_a2 ok0 ok1 ok2 ok3 ok4 ok5 ok6 O0 O2 P5
          exact ⟨s2, o2, hGl _ (kn8 _ (t1)), t2, t3, t4⟩
        · have kn9 : ∀ t, own_S p e below s₁ (mkF m 101 #[.val (.int p1), .val (.ref a2)] [(.int (4 : Int32)), (.int p1)]) t → Gl t := fun t kt => kn7 t (by
            show own_S p e below s₁ (mkF m 67 #[.val (.int p1), .val (.ref a2)] [(.int (3 : Int32)), (.int p1)]) _
            refine XS.icmpYes X0.here hx rfl (pc0 := 67) (pc' := 99) rfl (hb hby d_method_4_67) rfl (feq hc67).2 (by decide) (by decide) ?_
            show own_S p e below s₁ (mkF m 99 #[.val (.int p1), .val (.ref a2)] []) _
            refine XS.iloadN X0.here hx rfl (hb hby d_method_4_99) rfl ?_
            show own_S p e below s₁ (mkF m 100 #[.val (.int p1), .val (.ref a2)] [(.int p1)]) _
            refine XS.iconst X0.here hx rfl (hb hby d_method_4_100) ?_
            exact kt)
          by_cases hc101 : p1 = (4 : Int32)
          · have kn10 : ∀ t, own_S p e below s₁ (mkF m 104 #[.val (.int p1), .val (.ref a2)] []) t → Gl t := fun t kt => kn9 t (by
              show own_S p e below s₁ (mkF m 101 #[.val (.int p1), .val (.ref a2)] [(.int (4 : Int32)), (.int p1)]) _
              refine XS.icmpNo X0.here hx rfl (hb hby d_method_4_101) rfl (teq hc101).2 ?_
              exact kt)
            obtain ⟨s2, o2, t1, t2, t3, t4⟩ := mk_4 (n0 := n0) p1 a2 k2 c0 c1 c2 c3 c4 c5 c6 G1  X0 hx hZ hw hby hml hown Bd.returns (BodyLoose.notSynchronized Bd) e0 Nf0 Z0 hSt0 (Nat.zero_le _) (by rw [hh]; exact CR0) A_a2 ok0 ok1 ok2 ok3 ok4 ok5 ok6 O0 O2 P5
            exact ⟨s2, o2, hGl _ (kn10 _ (t1)), t2, t3, t4⟩
          · have kn11 : ∀ t, own_S p e below s₁ (mkF m 141 #[.val (.int p1), .val (.ref a2)] [(.int (5 : Int32)), (.int p1)]) t → Gl t := fun t kt => kn9 t (by
              show own_S p e below s₁ (mkF m 101 #[.val (.int p1), .val (.ref a2)] [(.int (4 : Int32)), (.int p1)]) _
              refine XS.icmpYes X0.here hx rfl (pc0 := 101) (pc' := 139) rfl (hb hby d_method_4_101) rfl (feq hc101).2 (by decide) (by decide) ?_
              show own_S p e below s₁ (mkF m 139 #[.val (.int p1), .val (.ref a2)] []) _
              refine XS.iloadN X0.here hx rfl (hb hby d_method_4_139) rfl ?_
              show own_S p e below s₁ (mkF m 140 #[.val (.int p1), .val (.ref a2)] [(.int p1)]) _
              refine XS.iconst X0.here hx rfl (hb hby d_method_4_140) ?_
              exact kt)
            by_cases hc141 : p1 = (5 : Int32)
            · have kn12 : ∀ t, own_S p e below s₁ (mkF m 144 #[.val (.int p1), .val (.ref a2)] []) t → Gl t := fun t kt => kn11 t (by
                show own_S p e below s₁ (mkF m 141 #[.val (.int p1), .val (.ref a2)] [(.int (5 : Int32)), (.int p1)]) _
                refine XS.icmpNo X0.here hx rfl (hb hby d_method_4_141) rfl (teq hc141).2 ?_
                exact kt)
              obtain ⟨s2, o2, t1, t2, t3, t4⟩ := mk_5 (n0 := n0) p1 a2 k2 c0 c1 c2 c3 c4 c5 c6 G1  X0 hx hZ hw hby hml hown Bd.returns (BodyLoose.notSynchronized Bd) e0 Nf0 Z0 hSt0 (Nat.zero_le _) (by rw [hh]; exact CR0) A_a2 ok0 ok1 ok2 ok3 ok4 ok5 ok6 O0 O2 P5
              exact ⟨s2, o2, hGl _ (kn12 _ (t1)), t2, t3, t4⟩
            · have kn13 : ∀ t, own_S p e below s₁ (mkF m 188 #[.val (.int p1), .val (.ref a2)] [(.int (6 : Int32)), (.int p1)]) t → Gl t := fun t kt => kn11 t (by
                show own_S p e below s₁ (mkF m 141 #[.val (.int p1), .val (.ref a2)] [(.int (5 : Int32)), (.int p1)]) _
                refine XS.icmpYes X0.here hx rfl (pc0 := 141) (pc' := 185) rfl (hb hby d_method_4_141) rfl (feq hc141).2 (by decide) (by decide) ?_
                show own_S p e below s₁ (mkF m 185 #[.val (.int p1), .val (.ref a2)] []) _
                refine XS.iloadN X0.here hx rfl (hb hby d_method_4_185) rfl ?_
                show own_S p e below s₁ (mkF m 186 #[.val (.int p1), .val (.ref a2)] [(.int p1)]) _
                refine XS.bipush X0.here hx rfl (hb hby d_method_4_186) ?_
                exact kt)
              by_cases hc188 : p1 = (6 : Int32)
              · have kn14 : ∀ t, own_S p e below s₁ (mkF m 191 #[.val (.int p1), .val (.ref a2)] []) t → Gl t := fun t kt => kn13 t (by
                  show own_S p e below s₁ (mkF m 188 #[.val (.int p1), .val (.ref a2)] [(.int (6 : Int32)), (.int p1)]) _
                  refine XS.icmpNo X0.here hx rfl (hb hby d_method_4_188) rfl (teq hc188).2 ?_
                  exact kt)
                obtain ⟨s2, o2, t1, t2, t3, t4⟩ := mk_6 (n0 := n0) p1 a2 k2 c0 c1 c2 c3 c4 c5 c6 G1  X0 hx hZ hw hby hml hown Bd.returns (BodyLoose.notSynchronized Bd) e0 Nf0 Z0 hSt0 (Nat.zero_le _) (by rw [hh]; exact CR0) A_a2 ok0 ok1 ok2 ok3 ok4 ok5 ok6 O0 O2 P5
                exact ⟨s2, o2, hGl _ (kn14 _ (t1)), t2, t3, t4⟩
              · have kn15 : ∀ t, own_S p e below s₁ (mkF m 239 #[.val (.int p1), .val (.ref a2)] []) t → Gl t := fun t kt => kn13 t (by
                  show own_S p e below s₁ (mkF m 188 #[.val (.int p1), .val (.ref a2)] [(.int (6 : Int32)), (.int p1)]) _
                  refine XS.icmpYes X0.here hx rfl (pc0 := 188) (pc' := 239) rfl (hb hby d_method_4_188) rfl (feq hc188).2 (by decide) (by decide) ?_
                  exact kt)
                obtain ⟨s2, o2, t1, t2, t3, t4⟩ := mk_7 (n0 := n0) p1 a2 k2 c0 c1 c2 c3 c4 c5 c6 G1  X0 hx hZ hw hby hml hown Bd.returns (BodyLoose.notSynchronized Bd) e0 Nf0 Z0 hSt0 (Nat.zero_le _) (by rw [hh]; exact CR0) A_a2 ok0 ok1 ok2 ok3 ok4 ok5 ok6 O0 O2 P5
                exact ⟨s2, o2, hGl _ (kn15 _ (t1)), t2, t3, t4⟩

def Q0 (Z : State) (p1 : Int32) (p2 : Int64) (p3 : Int32) (bV : Addr) (kV : ClassId) (g0 : Addr) (y0 : Addr) (ty0 : Addr) (ky0 : ClassId) (g1 : Addr) (y1 : Addr) (ty1 : Addr) (ky1 : ClassId) (g2 : Addr) (y2 : Addr) (ty2 : Addr) (ky2 : ClassId) (G1 : Int32) (G3 : Value) (h0 : Heap) (n0 : Nat) (v : Option Value) (h : Heap) (L : List Loc) : Prop := v = some (.int (1 : Int32)) ∧ Fr n0 L
theorem pd_6 : parseMethodDescriptor "(Ljava/lang/String;)Lcom/example/runs_to_scores/runstoscores/formats/Subtask;" = some ⟨[(.object "java/lang/String")], some (.object "com/example/runs_to_scores/runstoscores/formats/Subtask")⟩ := by decide +kernel
set_option maxRecDepth 65536 in
set_option maxHeartbeats 40000000 in
theorem tl6 {p : Program} {l : Launch} {e : Env} {s : State} {m : MethodId} {args : Array Value} {below : List Frame} {meth : Method} {c : Code} {T0 : State} {locs : List Loc} {Z : State} {a0 : Array Value} {h0 : Heap} {n0 : Nat} (p1 : Int32) (p2 : Int64) (p3 : Int32) (bV : Addr) (kV : ClassId) (g0 : Addr) (y0 : Addr) (ty0 : Addr) (ky0 : ClassId) (g1 : Addr) (y1 : Addr) (ty1 : Addr) (ky1 : ClassId) (g2 : Addr) (y2 : Addr) (ty2 : Addr) (ky2 : ClassId) (G1 : Int32) (G3 : Value) (s4 : Slot) (s5 : Slot) (s6 : Slot) (s7 : Slot) (s8 : Slot) (s9 : Slot) (s10 : Slot) (s11 : Slot) (xS : Addr) (tS : Addr) (kS : ClassId) (csS : List Int32) {vm0 : Vm} {k0 : Nat}
    (X0 : Stand p l e room_1 (s.setVm vm0) m args below meth c T0 locs 7 59) (hx : p.tables.exec = Jvm.exec) (hZ : Z.Warmed39 (s.setVm vm0).vm) (hw : ∀ d ∈ tables_1, d.before a0 Z = true) (hby : c.code = code) (hml : c.maxLocals = 14) (hown : (s.setVm vm0).vm.findClass "com/example/runs_to_scores/runstoscores/formats/SubtaskLabelledPinLaw" = some m.cls) (hret : meth.sig.returnType = some .boolean) (hlk : meth.locks = false) (e0 : T0.heap = h0) (Nf0 : Fr n0 locs) (Z0 : n0 ≤ h0.size) (hS0 : s.Since vm0 k0) (hk0 : k0 ≤ h0.size) (H0 : CHv Z consts_1 vm0 h0) (E_xS : Exa Z h0 xS "java/lang/String") (V_xS : Fld Z h0 xS "java/lang/String" "value" "[B" (.ref tS)) (C_xS : Fld Z h0 xS "java/lang/String" "coder" "B" (.int (0 : Int32))) (K_xS : Arv Z h0 tS kS .byte (Int32.ofNat csS.length) ((csS.map (fun c => c.toInt8.toInt32)).map Value.int) (.int (0 : Int32))) (hp_xS : ∀ c ∈ csS, ¬ c < 0 ∧ ¬ (255 : Int32) < c) (hl_xS : csS.length ≤ 64) (O0 : Old Z n0 h0) (O2 : Sta Z Z.heap "java/lang/String" "COMPACT_STRINGS" "Z" (.int G1)) (P5 : ¬ (G1 = (0 : Int32))) (O4 : Sta Z Z.heap "jdk/internal/util/Preconditions" "SIOOBE_FORMATTER" "Ljava/util/function/BiFunction;" G3) (rG3 : G3.isRef = true) (SV : Sta Z Z.heap "com/example/runs_to_scores/runstoscores/formats/Subtask" "$VALUES" "[Lcom/example/runs_to_scores/runstoscores/formats/Subtask;" (.ref bV)) (EV : Exa Z Z.heap bV "[Lcom/example/runs_to_scores/runstoscores/formats/Subtask;") (VV : Arv Z Z.heap bV kV (.object "com/example/runs_to_scores/runstoscores/formats/Subtask") (3 : Int32) [(.ref g0), (.ref g1), (.ref g2)] .null) (Fg0 : Fld Z Z.heap g0 "com/example/runs_to_scores/runstoscores/formats/Subtask" "label" "Ljava/lang/String;" (.ref y0)) (Ey0 : Exa Z Z.heap y0 "java/lang/String") (Vy0 : Fld Z Z.heap y0 "java/lang/String" "value" "[B" (.ref ty0)) (Cy0 : Fld Z Z.heap y0 "java/lang/String" "coder" "B" (.int (0 : Int32))) (Ky0 : Arv Z Z.heap ty0 ky0 .byte (6 : Int32) ((([(116 : Int32), (114 : Int32), (105 : Int32), (97 : Int32), (103 : Int32), (101 : Int32)] : List Int32).map (fun c => c.toInt8.toInt32)).map Value.int) (.int (0 : Int32))) (Fg1 : Fld Z Z.heap g1 "com/example/runs_to_scores/runstoscores/formats/Subtask" "label" "Ljava/lang/String;" (.ref y1)) (Ey1 : Exa Z Z.heap y1 "java/lang/String") (Vy1 : Fld Z Z.heap y1 "java/lang/String" "value" "[B" (.ref ty1)) (Cy1 : Fld Z Z.heap y1 "java/lang/String" "coder" "B" (.int (0 : Int32))) (Ky1 : Arv Z Z.heap ty1 ky1 .byte (5 : Int32) ((([(97 : Int32), (110 : Int32), (110 : Int32), (104 : Int32), (105 : Int32)] : List Int32).map (fun c => c.toInt8.toInt32)).map Value.int) (.int (0 : Int32))) (Fg2 : Fld Z Z.heap g2 "com/example/runs_to_scores/runstoscores/formats/Subtask" "label" "Ljava/lang/String;" (.ref y2)) (Ey2 : Exa Z Z.heap y2 "java/lang/String") (Vy2 : Fld Z Z.heap y2 "java/lang/String" "value" "[B" (.ref ty2)) (Cy2 : Fld Z Z.heap y2 "java/lang/String" "coder" "B" (.int (0 : Int32))) (Ky2 : Arv Z Z.heap ty2 ky2 .byte (7 : Int32) ((([(97 : Int32), (110 : Int32), (110 : Int32), (104 : Int32), (105 : Int32), (101 : Int32), (118 : Int32)] : List Int32).map (fun c => c.toInt8.toInt32)).map Value.int) (.int (0 : Int32))) (Sg0 : Sta Z Z.heap "com/example/runs_to_scores/runstoscores/formats/Subtask" "TRIAGE" "Lcom/example/runs_to_scores/runstoscores/formats/Subtask;" (.ref g0)) (Sg1 : Sta Z Z.heap "com/example/runs_to_scores/runstoscores/formats/Subtask" "ANNHI" "Lcom/example/runs_to_scores/runstoscores/formats/Subtask;" (.ref g1)) (Sg2 : Sta Z Z.heap "com/example/runs_to_scores/runstoscores/formats/Subtask" "ANNHIEV" "Lcom/example/runs_to_scores/runstoscores/formats/Subtask;" (.ref g2)) :
    ∃ s₂ o, Steps p.tables e below (T0.setTop (mkF m 264 #[.val (.int p1), .val (.long p2), .second, .val (.int p3), s4, s5, s6, s7, s8, s9, s10, s11, .val (.ref xS), .unset] [])) s₂ ∧ s₂.status = .running ∧ Ended s₂ below o ∧ ∃ v L, o = .returned v ∧ Q0 Z p1 p2 p3 bV kV g0 y0 ty0 ky0 g1 y1 ty1 ky1 g2 y2 ty2 ky2 G1 G3 h0 n0 v s₂.heap L ∧ ReturnedEndW s o s₂ L 32 5312 := by
  have kn0 : ∀ t, own_S p e below T0 (mkF m 264 #[.val (.int p1), .val (.long p2), .second, .val (.int p3), s4, s5, s6, s7, s8, s9, s10, s11, .val (.ref xS), .unset] []) t → own_S p e below T0 (mkF m 264 #[.val (.int p1), .val (.long p2), .second, .val (.int p3), s4, s5, s6, s7, s8, s9, s10, s11, .val (.ref xS), .unset] []) t := fun t k => k
  have CR0 := CHr.refl H0
  have kn1 : ∀ t, own_S p e below T0 (mkF m 277 #[.val (.int p1), .val (.long p2), .second, .val (.int p3), s4, s5, s6, s7, s8, s9, s10, s11, .val (.ref xS), .unset] [(.ref xS)]) t → own_S p e below T0 (mkF m 264 #[.val (.int p1), .val (.long p2), .second, .val (.int p3), s4, s5, s6, s7, s8, s9, s10, s11, .val (.ref xS), .unset] []) t := fun t kt => kn0 t (by
    show own_S p e below T0 (mkF m 264 #[.val (.int p1), .val (.long p2), .second, .val (.int p3), s4, s5, s6, s7, s8, s9, s10, s11, .val (.ref xS), .unset] []) _
    refine XS.aload X0.here hx rfl (hb hby at_264) rfl rfl ?_
    show own_S p e below T0 (mkF m 266 #[.val (.int p1), .val (.long p2), .second, .val (.int p3), s4, s5, s6, s7, s8, s9, s10, s11, .val (.ref xS), .unset] [(.ref xS)]) _
    refine XS.ifnonnullYes X0.here hx rfl (pc0 := 266) (pc' := 275) rfl (hb hby at_266) rfl (by decide) (by decide) ?_
    show own_S p e below T0 (mkF m 275 #[.val (.int p1), .val (.long p2), .second, .val (.int p3), s4, s5, s6, s7, s8, s9, s10, s11, .val (.ref xS), .unset] []) _
    refine XS.aload X0.here hx rfl (hb hby at_275) rfl rfl ?_
    exact kt)
  obtain ⟨a2, T2, h2, kc2, t2, kk2, X2, e2, E2, hSn2, hkn2, hZ, hown, Ex2, Co2, Va2, Ar2, la2, lb2, CC2, Lt2, sf2, st2⟩ := ldcCH (vm0 := vm0) X0 hx hZ hown (hw _ (List.mem_of_getElem? (i := 0) rfl)) (own_wS hw) e0 hS0 hk0 (own_EW hw) (List.mem_of_getElem? (i := 0) rfl) CR0.1 (vs := [(.int (116 : Int32)), (.int (114 : Int32)), (.int (105 : Int32)), (.int (97 : Int32)), (.int (103 : Int32)), (.int (101 : Int32))]) (z := (6 : Int32)) ⟨by decide, by decide⟩ (by decide) rfl (g := (mkF m 277 #[.val (.int p1), .val (.long p2), .second, .val (.int p3), s4, s5, s6, s7, s8, s9, s10, s11, .val (.ref xS), .unset] [(.ref xS)])) rfl (hb hby at_277) (n := 24) (by decide) (by decide) (by decide) (by decide)
  have CR3 := CR0.trans CC2
  have Z4 : n0 ≤ h2.size := Nat.le_trans Z0 E2.1
  have hk5 := Nat.le_trans hk0 E2.1
  have Od6 : Old Z n0 h2 := O0.ext E2
  have Ag2 : Arv Z h2 t2 kk2 .byte (Int32.ofNat ([(116 : Int32), (114 : Int32), (105 : Int32), (97 : Int32), (103 : Int32), (101 : Int32)] : List Int32).length) ((([(116 : Int32), (114 : Int32), (105 : Int32), (97 : Int32), (103 : Int32), (101 : Int32)] : List Int32).map (fun c => c.toInt8.toInt32)).map Value.int) (.int (0 : Int32)) := Ar2
  have hp2 : ∀ c ∈ ([(116 : Int32), (114 : Int32), (105 : Int32), (97 : Int32), (103 : Int32), (101 : Int32)] : List Int32), ¬ c < 0 ∧ ¬ (255 : Int32) < c := by decide
  have hl2 : ([(116 : Int32), (114 : Int32), (105 : Int32), (97 : Int32), (103 : Int32), (101 : Int32)] : List Int32).length ≤ 64 := by decide
  have kn7 : ∀ t, own_S p e below T2 (mkF m 279 #[.val (.int p1), .val (.long p2), .second, .val (.int p3), s4, s5, s6, s7, s8, s9, s10, s11, .val (.ref xS), .unset] [(.ref a2), (.ref xS)]) t → own_S p e below T0 (mkF m 264 #[.val (.int p1), .val (.long p2), .second, .val (.int p3), s4, s5, s6, s7, s8, s9, s10, s11, .val (.ref xS), .unset] []) t := fun t kt => kn1 t (st2 _ kt)
  have heq : ∀ d ∈ StrChars.Road.wordsEq, d.before a0 Z = true := fun d hd => hw d ((by decide +kernel : ∀ d ∈ StrChars.Road.wordsEq, d ∈ tables_1) d hd)
  have f9 := (E_xS.ext E2)
  have f10 := (V_xS.ext E2)
  have f11 := (C_xS.ext E2)
  have f12 := (K_xS.ext E2)
  obtain ⟨cq8, kq8, qa8, qb8, qc8⟩ := isOf hZ e2 f9
  obtain ⟨_, _, ⟨T8, L8, cc8, ss8⟩, -, X8, ⟨Lc8, hQ8, l8, y8, z8⟩, st8⟩ := X2.virtualBack hx (y := (⟨"java/lang/String", "equals", "(Ljava/lang/Object;)Z"⟩ : MethodName)) (z := (⟨"java/lang/String", "equals", "(Ljava/lang/Object;)Z"⟩ : MethodName)) hown (mvT hZ (hw _ (List.mem_of_getElem? (i := 103) rfl))) (mvT hZ (hw _ (List.mem_of_getElem? (i := 74) rfl))) (notFace_of_selects (args := #[]) (mvT hZ (hw _ (List.mem_of_getElem? (i := 76) rfl)))) (mvT hZ (hw _ (List.mem_of_getElem? (i := 76) rfl))) (mvT hZ (hw _ (List.mem_of_getElem? (i := 75) rfl))) (by decide) (StrChars.Road.eqW (W := 0) hZ heq (kI := 4) (hw _ (List.mem_of_getElem? (i := 2) rfl)) f9 f10 f11 f12 (StrChars.Road.codOf (cs := csS) (n := csS.length) rfl (fun x hx => (hp_xS x hx).2)) (own_up _ hp_xS) (Nat.le_trans hl_xS (by decide)) Ex2 Va2 Co2 Ag2 (StrChars.Road.codOf (cs := ([(116 : Int32), (114 : Int32), (105 : Int32), (97 : Int32), (103 : Int32), (101 : Int32)] : List Int32)) (n := ([(116 : Int32), (114 : Int32), (105 : Int32), (97 : Int32), (103 : Int32), (101 : Int32)] : List Int32).length) rfl (fun x hx => (hp2 x hx).2)) (own_up _ hp2) (Nat.le_trans hl2 (by decide)) (O2.ext Od6.2) P5 (by decide) (by decide)) qa8 qc8 (g := (mkF m 279 #[.val (.int p1), .val (.long p2), .second, .val (.int p3), s4, s5, s6, s7, s8, s9, s10, s11, .val (.ref xS), .unset] [(.ref a2), (.ref xS)])) rfl (by rw [hml]; rfl) (Steps.refl _) (argsL := [(.ref a2)]) (rest := []) (lenOf pd_4 rfl) rfl (by show 2 * 0 + _ ≤ _; exact Nat.le_of_eq rfl) (hb hby at_279) (fun _ _ => ⟨rfl, e2, (by decide : 9 + 0 ≤ _), (by decide : 87 + 0 ≤ _)⟩)
  dsimp only [Pt.U, Pt.locs, Pt.cells, Pt.slots] at X8 l8 y8 z8 st8 hQ8
  subst l8 y8 z8
  have X8 : Stand p l e _ _ m _ below meth c T8 _ 9 87 := X8
  obtain ⟨hd8, rfl, eq8⟩ := hQ8
  have Nf8 := Fr.app Nf0 (Fr.nil n0)
  rcases hd8 with ⟨rfl, hq8⟩ | ⟨rfl, hq8⟩
  · have he0 := hq8
    have kn13 : ∀ t, own_S p e below T8 (mkF m 282 #[.val (.int p1), .val (.long p2), .second, .val (.int p3), s4, s5, s6, s7, s8, s9, s10, s11, .val (.ref xS), .unset] [(.int (1 : Int32))]) t → own_S p e below T0 (mkF m 264 #[.val (.int p1), .val (.long p2), .second, .val (.int p3), s4, s5, s6, s7, s8, s9, s10, s11, .val (.ref xS), .unset] []) t := fun t kt => kn7 t (st8.trans kt)
    have kn14 : ∀ t, own_S p e below T8 (mkF m 285 #[.val (.int p1), .val (.long p2), .second, .val (.int p3), s4, s5, s6, s7, s8, s9, s10, s11, .val (.ref xS), .unset] []) t → own_S p e below T0 (mkF m 264 #[.val (.int p1), .val (.long p2), .second, .val (.int p3), s4, s5, s6, s7, s8, s9, s10, s11, .val (.ref xS), .unset] []) t := fun t kt => kn13 t (by
      show own_S p e below T8 (mkF m 282 #[.val (.int p1), .val (.long p2), .second, .val (.int p3), s4, s5, s6, s7, s8, s9, s10, s11, .val (.ref xS), .unset] [(.int (1 : Int32))]) _
      refine XS.ifNo X8.here hx rfl (hb hby at_282) rfl ((if0 _ _).trans (feq (by decide : ¬ ((1 : Int32) = (0 : Int32)))).1) ?_
      exact kt)
    obtain ⟨T15, X15, e15, st15⟩ := getS2 X8 hx hZ hown (host := "") (Or.inl (hw _ (List.mem_of_getElem? (i := 112) rfl))) Via.refl eq8 (Sg0.ext Od6.2) (g := (mkF m 285 #[.val (.int p1), .val (.long p2), .second, .val (.int p3), s4, s5, s6, s7, s8, s9, s10, s11, .val (.ref xS), .unset] [])) rfl (hb hby at_285)
    have kn16 : ∀ t, own_S p e below T15 (mkF m 288 #[.val (.int p1), .val (.long p2), .second, .val (.int p3), s4, s5, s6, s7, s8, s9, s10, s11, .val (.ref xS), .unset] [(.ref g0)]) t → own_S p e below T0 (mkF m 264 #[.val (.int p1), .val (.long p2), .second, .val (.int p3), s4, s5, s6, s7, s8, s9, s10, s11, .val (.ref xS), .unset] []) t := fun t kt => kn14 t (st15 _ kt)
    have kn17 : ∀ t, own_S p e below T15 (mkF m 334 #[.val (.int p1), .val (.long p2), .second, .val (.int p3), s4, s5, s6, s7, s8, s9, s10, s11, .val (.ref xS), .val (.ref g0)] [(.ref xS)]) t → own_S p e below T0 (mkF m 264 #[.val (.int p1), .val (.long p2), .second, .val (.int p3), s4, s5, s6, s7, s8, s9, s10, s11, .val (.ref xS), .unset] []) t := fun t kt => kn16 t (by
      show own_S p e below T15 (mkF m 288 #[.val (.int p1), .val (.long p2), .second, .val (.int p3), s4, s5, s6, s7, s8, s9, s10, s11, .val (.ref xS), .unset] [(.ref g0)]) _
      refine XS.astore X15.here hx rfl (hb hby at_288) rfl rfl (l' := #[.val (.int p1), .val (.long p2), .second, .val (.int p3), s4, s5, s6, s7, s8, s9, s10, s11, .val (.ref xS), .val (.ref g0)]) rfl ?_
      show own_S p e below T15 (mkF m 290 #[.val (.int p1), .val (.long p2), .second, .val (.int p3), s4, s5, s6, s7, s8, s9, s10, s11, .val (.ref xS), .val (.ref g0)] []) _
      refine XS.goto X15.here hx rfl (pc0 := 290) (pc' := 332) rfl (hb hby at_290) (by decide) (by decide) ?_
      show own_S p e below T15 (mkF m 332 #[.val (.int p1), .val (.long p2), .second, .val (.int p3), s4, s5, s6, s7, s8, s9, s10, s11, .val (.ref xS), .val (.ref g0)] []) _
      refine XS.aload X15.here hx rfl (hb hby at_332) rfl rfl ?_
      exact kt)
    obtain ⟨_, _, ⟨T18, L18, cc18, ss18⟩, -, X18, ⟨Lc18, hQ18, l18, y18, z18⟩, st18⟩ := Jvm.LawKit.callS X15 hx (y := (⟨"com/example/runs_to_scores/runstoscores/formats/Subtask", "labelled", "(Ljava/lang/String;)Lcom/example/runs_to_scores/runstoscores/formats/Subtask;"⟩ : MethodName)) hown (mvT hZ (hw _ (List.mem_of_getElem? (i := 49) rfl))) (mvT hZ (hw _ (List.mem_of_getElem? (i := 50) rfl))) (mvT hZ (hw _ (List.mem_of_getElem? (i := 51) rfl))) (mvT hZ (hw _ (List.mem_of_getElem? (i := 52) rfl))) (by decide) (backOf (W := 0) (rmFind0 l Z a0 hw [] xS tS kS csS (Int32.ofNat csS.length) ((csS.map (fun c => c.toInt8.toInt32)).map Value.int) bV kV g0 y0 ty0 ky0 g1 y1 ty1 ky1 g2 y2 ty2 ky2 G1 h2 n0 Z4 f9 f10 f11 f12 (StrChars.Road.codOf (cs := csS) (n := csS.length) rfl (fun x hx => (hp_xS x hx).2)) (own_up _ hp_xS) (Nat.le_trans hl_xS (by decide)) Od6 O2 P5 SV EV VV Fg0 Ey0 Vy0 Cy0 Ky0 Fg1 Ey1 Vy1 Cy1 Ky1 Fg2 Ey2 Vy2 Cy2 Ky2 he0.symm) hZ (hw _ (List.mem_of_getElem? (i := 52) rfl)) (hw _ (List.mem_of_getElem? (i := 51) rfl)) (by decide) (by decide)) (g := (mkF m 334 #[.val (.int p1), .val (.long p2), .second, .val (.int p3), s4, s5, s6, s7, s8, s9, s10, s11, .val (.ref xS), .val (.ref g0)] [(.ref xS)])) rfl (by rw [hml]; rfl) (argsL := [(.ref xS)]) (rest := []) (lenOf pd_6 rfl) rfl (by show 2 * 0 + _ ≤ _; exact Nat.le_of_eq rfl) (hb hby at_334) (fun _ _ => ⟨rfl, e15, (by decide : 9 + 1 ≤ _), (by decide : 87 + 3 ≤ _)⟩)
    dsimp only [Pt.U, Pt.locs, Pt.cells, Pt.slots] at X18 l18 y18 z18 st18 hQ18
    subst l18 y18 z18
    have X18 : Stand p l e _ _ m _ below meth c T18 _ 10 90 := X18
    obtain ⟨rfl, Nq18, K18⟩ := hQ18
    have Nf18 := Fr.app Nf8 Nq18
    have CS19 := CHr.keep K18 all0 CR3.1
    have CR19 := CR3.trans CS19
    have Z20 : n0 ≤ T18.heap.size := Nat.le_trans Z4 K18.1
    have hk21 := Nat.le_trans hkn2 K18.1
    have Od22 : Old Z n0 T18.heap := Od6.keep K18 all0
    have kn23 : ∀ t, own_S p e below T18 (mkF m 337 #[.val (.int p1), .val (.long p2), .second, .val (.int p3), s4, s5, s6, s7, s8, s9, s10, s11, .val (.ref xS), .val (.ref g0)] [(.ref g0)]) t → own_S p e below T0 (mkF m 264 #[.val (.int p1), .val (.long p2), .second, .val (.int p3), s4, s5, s6, s7, s8, s9, s10, s11, .val (.ref xS), .unset] []) t := fun t kt => kn17 t (st18 _ kt)
    have kn24 : ∀ t, own_S p e below T18 (mkF m 347 #[.val (.int p1), .val (.long p2), .second, .val (.int p3), s4, s5, s6, s7, s8, s9, s10, s11, .val (.ref xS), .val (.ref g0)] [(.int (1 : Int32))]) t → own_S p e below T0 (mkF m 264 #[.val (.int p1), .val (.long p2), .second, .val (.int p3), s4, s5, s6, s7, s8, s9, s10, s11, .val (.ref xS), .unset] []) t := fun t kt => kn23 t (by
      show own_S p e below T18 (mkF m 337 #[.val (.int p1), .val (.long p2), .second, .val (.int p3), s4, s5, s6, s7, s8, s9, s10, s11, .val (.ref xS), .val (.ref g0)] [(.ref g0)]) _
      refine XS.aload X18.here hx rfl (hb hby at_337) rfl rfl ?_
      show own_S p e below T18 (mkF m 339 #[.val (.int p1), .val (.long p2), .second, .val (.int p3), s4, s5, s6, s7, s8, s9, s10, s11, .val (.ref xS), .val (.ref g0)] [(.ref g0), (.ref g0)]) _
      refine Jvm.RoadKit.acmp (g := (mkF m 339 #[.val (.int p1), .val (.long p2), .second, .val (.int p3), s4, s5, s6, s7, s8, s9, s10, s11, .val (.ref xS), .val (.ref g0)] [(.ref g0), (.ref g0)])) X18 hx rfl rfl rfl (pc0 := 339) (pc' := 342) (same := true) rfl (hb hby at_339) rfl (decide_eq_true rfl) (by decide) (by decide) ?_
      show own_S p e below T18 (mkF m 342 #[.val (.int p1), .val (.long p2), .second, .val (.int p3), s4, s5, s6, s7, s8, s9, s10, s11, .val (.ref xS), .val (.ref g0)] []) _
      refine XS.iconst X18.here hx rfl (hb hby at_342) ?_
      show own_S p e below T18 (mkF m 343 #[.val (.int p1), .val (.long p2), .second, .val (.int p3), s4, s5, s6, s7, s8, s9, s10, s11, .val (.ref xS), .val (.ref g0)] [(.int (1 : Int32))]) _
      refine XS.goto X18.here hx rfl (pc0 := 343) (pc' := 347) rfl (hb hby at_343) (by decide) (by decide) ?_
      exact kt)
    obtain ⟨fs, hr, hrun, hended, hRW⟩ := X18.leaveW hSn2 hk21 (v := some (.int (1 : Int32))) (fun h => by rw [hret] at h; cases h)
    refine ⟨_, _, id (kn24 _ (retN X18 hx (t := .boolean) hret (by simp) (hb hby at_347) hr)), hrun, hended, _, _, rfl, ?_, ⟨hRW.1, hRW.2.1, hRW.2.2.1, hRW.2.2.2.mono (by decide) (by decide)⟩⟩
    show Q0 Z p1 p2 p3 bV kV g0 y0 ty0 ky0 g1 y1 ty1 ky1 g2 y2 ty2 ky2 G1 G3 h0 n0 _ T18.heap _
    exact ⟨rfl, Nf18⟩
  · have hn0 := hq8
    have kn25 : ∀ t, own_S p e below T8 (mkF m 282 #[.val (.int p1), .val (.long p2), .second, .val (.int p3), s4, s5, s6, s7, s8, s9, s10, s11, .val (.ref xS), .unset] [(.int (0 : Int32))]) t → own_S p e below T0 (mkF m 264 #[.val (.int p1), .val (.long p2), .second, .val (.int p3), s4, s5, s6, s7, s8, s9, s10, s11, .val (.ref xS), .unset] []) t := fun t kt => kn7 t (st8.trans kt)
    have kn26 : ∀ t, own_S p e below T8 (mkF m 295 #[.val (.int p1), .val (.long p2), .second, .val (.int p3), s4, s5, s6, s7, s8, s9, s10, s11, .val (.ref xS), .unset] [(.ref xS)]) t → own_S p e below T0 (mkF m 264 #[.val (.int p1), .val (.long p2), .second, .val (.int p3), s4, s5, s6, s7, s8, s9, s10, s11, .val (.ref xS), .unset] []) t := fun t kt => kn25 t (by
      show own_S p e below T8 (mkF m 282 #[.val (.int p1), .val (.long p2), .second, .val (.int p3), s4, s5, s6, s7, s8, s9, s10, s11, .val (.ref xS), .unset] [(.int (0 : Int32))]) _
      refine XS.ifYes X8.here hx rfl (pc0 := 282) (pc' := 293) rfl (hb hby at_282) rfl ((if0 _ _).trans (teq (by decide : (0 : Int32) = (0 : Int32))).1) (by decide) (by decide) ?_
      show own_S p e below T8 (mkF m 293 #[.val (.int p1), .val (.long p2), .second, .val (.int p3), s4, s5, s6, s7, s8, s9, s10, s11, .val (.ref xS), .unset] []) _
      refine XS.aload X8.here hx rfl (hb hby at_293) rfl rfl ?_
      exact kt)
    obtain ⟨a27, T27, h27, kc27, t27, kk27, X27, e27, E27, hSn27, hkn27, hZ, hown, Ex27, Co27, Va27, Ar27, la27, lb27, CC27, Lt27, sf27, st27⟩ := ldcCH (vm0 := T2.vm) X8 hx hZ hown (hw _ (List.mem_of_getElem? (i := 108) rfl)) (own_wS hw) eq8 hSn2 hkn2 (own_EW hw) (List.mem_of_getElem? (i := 1) rfl) CR3.1 (vs := [(.int (97 : Int32)), (.int (110 : Int32)), (.int (110 : Int32)), (.int (104 : Int32)), (.int (105 : Int32))]) (z := (5 : Int32)) ⟨by decide, by decide⟩ (by decide) rfl (g := (mkF m 295 #[.val (.int p1), .val (.long p2), .second, .val (.int p3), s4, s5, s6, s7, s8, s9, s10, s11, .val (.ref xS), .unset] [(.ref xS)])) rfl (hb hby at_295) (n := 20) (by decide) (by decide) (by decide) (by decide)
    have CR28 := CR3.trans CC27
    have Z29 : n0 ≤ h27.size := Nat.le_trans Z4 E27.1
    have hk30 := Nat.le_trans hkn2 E27.1
    have Od31 : Old Z n0 h27 := Od6.ext E27
    have Ag27 : Arv Z h27 t27 kk27 .byte (Int32.ofNat ([(97 : Int32), (110 : Int32), (110 : Int32), (104 : Int32), (105 : Int32)] : List Int32).length) ((([(97 : Int32), (110 : Int32), (110 : Int32), (104 : Int32), (105 : Int32)] : List Int32).map (fun c => c.toInt8.toInt32)).map Value.int) (.int (0 : Int32)) := Ar27
    have hp27 : ∀ c ∈ ([(97 : Int32), (110 : Int32), (110 : Int32), (104 : Int32), (105 : Int32)] : List Int32), ¬ c < 0 ∧ ¬ (255 : Int32) < c := by decide
    have hl27 : ([(97 : Int32), (110 : Int32), (110 : Int32), (104 : Int32), (105 : Int32)] : List Int32).length ≤ 64 := by decide
    have kn32 : ∀ t, own_S p e below T27 (mkF m 297 #[.val (.int p1), .val (.long p2), .second, .val (.int p3), s4, s5, s6, s7, s8, s9, s10, s11, .val (.ref xS), .unset] [(.ref a27), (.ref xS)]) t → own_S p e below T0 (mkF m 264 #[.val (.int p1), .val (.long p2), .second, .val (.int p3), s4, s5, s6, s7, s8, s9, s10, s11, .val (.ref xS), .unset] []) t := fun t kt => kn26 t (st27 _ kt)
    have f34 := (f9.ext E27)
    have f35 := (f10.ext E27)
    have f36 := (f11.ext E27)
    have f37 := (f12.ext E27)
    obtain ⟨cq33, kq33, qa33, qb33, qc33⟩ := isOf hZ e27 f34
    obtain ⟨_, _, ⟨T33, L33, cc33, ss33⟩, -, X33, ⟨Lc33, hQ33, l33, y33, z33⟩, st33⟩ := X27.virtualBack hx (y := (⟨"java/lang/String", "equals", "(Ljava/lang/Object;)Z"⟩ : MethodName)) (z := (⟨"java/lang/String", "equals", "(Ljava/lang/Object;)Z"⟩ : MethodName)) hown (mvT hZ (hw _ (List.mem_of_getElem? (i := 103) rfl))) (mvT hZ (hw _ (List.mem_of_getElem? (i := 74) rfl))) (notFace_of_selects (args := #[]) (mvT hZ (hw _ (List.mem_of_getElem? (i := 76) rfl)))) (mvT hZ (hw _ (List.mem_of_getElem? (i := 76) rfl))) (mvT hZ (hw _ (List.mem_of_getElem? (i := 75) rfl))) (by decide) (StrChars.Road.eqW (W := 0) hZ heq (kI := 4) (hw _ (List.mem_of_getElem? (i := 2) rfl)) f34 f35 f36 f37 (StrChars.Road.codOf (cs := csS) (n := csS.length) rfl (fun x hx => (hp_xS x hx).2)) (own_up _ hp_xS) (Nat.le_trans hl_xS (by decide)) Ex27 Va27 Co27 Ag27 (StrChars.Road.codOf (cs := ([(97 : Int32), (110 : Int32), (110 : Int32), (104 : Int32), (105 : Int32)] : List Int32)) (n := ([(97 : Int32), (110 : Int32), (110 : Int32), (104 : Int32), (105 : Int32)] : List Int32).length) rfl (fun x hx => (hp27 x hx).2)) (own_up _ hp27) (Nat.le_trans hl27 (by decide)) (O2.ext Od31.2) P5 (by decide) (by decide)) qa33 qc33 (g := (mkF m 297 #[.val (.int p1), .val (.long p2), .second, .val (.int p3), s4, s5, s6, s7, s8, s9, s10, s11, .val (.ref xS), .unset] [(.ref a27), (.ref xS)])) rfl (by rw [hml]; rfl) (Steps.refl _) (argsL := [(.ref a27)]) (rest := []) (lenOf pd_4 rfl) rfl (by show 2 * 0 + _ ≤ _; exact Nat.le_of_eq rfl) (hb hby at_297) (fun _ _ => ⟨rfl, e27, (by decide : 11 + 0 ≤ _), (by decide : 111 + 0 ≤ _)⟩)
    dsimp only [Pt.U, Pt.locs, Pt.cells, Pt.slots] at X33 l33 y33 z33 st33 hQ33
    subst l33 y33 z33
    have X33 : Stand p l e _ _ m _ below meth c T33 _ 11 111 := X33
    obtain ⟨hd33, rfl, eq33⟩ := hQ33
    have Nf33 := Fr.app Nf8 (Fr.nil n0)
    rcases hd33 with ⟨rfl, hq33⟩ | ⟨rfl, hq33⟩
    · have he1 := hq33
      have kn38 : ∀ t, own_S p e below T33 (mkF m 300 #[.val (.int p1), .val (.long p2), .second, .val (.int p3), s4, s5, s6, s7, s8, s9, s10, s11, .val (.ref xS), .unset] [(.int (1 : Int32))]) t → own_S p e below T0 (mkF m 264 #[.val (.int p1), .val (.long p2), .second, .val (.int p3), s4, s5, s6, s7, s8, s9, s10, s11, .val (.ref xS), .unset] []) t := fun t kt => kn32 t (st33.trans kt)
      have kn39 : ∀ t, own_S p e below T33 (mkF m 303 #[.val (.int p1), .val (.long p2), .second, .val (.int p3), s4, s5, s6, s7, s8, s9, s10, s11, .val (.ref xS), .unset] []) t → own_S p e below T0 (mkF m 264 #[.val (.int p1), .val (.long p2), .second, .val (.int p3), s4, s5, s6, s7, s8, s9, s10, s11, .val (.ref xS), .unset] []) t := fun t kt => kn38 t (by
        show own_S p e below T33 (mkF m 300 #[.val (.int p1), .val (.long p2), .second, .val (.int p3), s4, s5, s6, s7, s8, s9, s10, s11, .val (.ref xS), .unset] [(.int (1 : Int32))]) _
        refine XS.ifNo X33.here hx rfl (hb hby at_300) rfl ((if0 _ _).trans (feq (by decide : ¬ ((1 : Int32) = (0 : Int32)))).1) ?_
        exact kt)
      obtain ⟨T40, X40, e40, st40⟩ := getS2 X33 hx hZ hown (host := "") (Or.inl (hw _ (List.mem_of_getElem? (i := 113) rfl))) Via.refl eq33 (Sg1.ext Od31.2) (g := (mkF m 303 #[.val (.int p1), .val (.long p2), .second, .val (.int p3), s4, s5, s6, s7, s8, s9, s10, s11, .val (.ref xS), .unset] [])) rfl (hb hby at_303)
      have kn41 : ∀ t, own_S p e below T40 (mkF m 306 #[.val (.int p1), .val (.long p2), .second, .val (.int p3), s4, s5, s6, s7, s8, s9, s10, s11, .val (.ref xS), .unset] [(.ref g1)]) t → own_S p e below T0 (mkF m 264 #[.val (.int p1), .val (.long p2), .second, .val (.int p3), s4, s5, s6, s7, s8, s9, s10, s11, .val (.ref xS), .unset] []) t := fun t kt => kn39 t (st40 _ kt)
      have kn42 : ∀ t, own_S p e below T40 (mkF m 334 #[.val (.int p1), .val (.long p2), .second, .val (.int p3), s4, s5, s6, s7, s8, s9, s10, s11, .val (.ref xS), .val (.ref g1)] [(.ref xS)]) t → own_S p e below T0 (mkF m 264 #[.val (.int p1), .val (.long p2), .second, .val (.int p3), s4, s5, s6, s7, s8, s9, s10, s11, .val (.ref xS), .unset] []) t := fun t kt => kn41 t (by
        show own_S p e below T40 (mkF m 306 #[.val (.int p1), .val (.long p2), .second, .val (.int p3), s4, s5, s6, s7, s8, s9, s10, s11, .val (.ref xS), .unset] [(.ref g1)]) _
        refine XS.astore X40.here hx rfl (hb hby at_306) rfl rfl (l' := #[.val (.int p1), .val (.long p2), .second, .val (.int p3), s4, s5, s6, s7, s8, s9, s10, s11, .val (.ref xS), .val (.ref g1)]) rfl ?_
        show own_S p e below T40 (mkF m 308 #[.val (.int p1), .val (.long p2), .second, .val (.int p3), s4, s5, s6, s7, s8, s9, s10, s11, .val (.ref xS), .val (.ref g1)] []) _
        refine XS.goto X40.here hx rfl (pc0 := 308) (pc' := 332) rfl (hb hby at_308) (by decide) (by decide) ?_
        show own_S p e below T40 (mkF m 332 #[.val (.int p1), .val (.long p2), .second, .val (.int p3), s4, s5, s6, s7, s8, s9, s10, s11, .val (.ref xS), .val (.ref g1)] []) _
        refine XS.aload X40.here hx rfl (hb hby at_332) rfl rfl ?_
        exact kt)
      obtain ⟨_, _, ⟨T43, L43, cc43, ss43⟩, -, X43, ⟨Lc43, hQ43, l43, y43, z43⟩, st43⟩ := Jvm.LawKit.callS X40 hx (y := (⟨"com/example/runs_to_scores/runstoscores/formats/Subtask", "labelled", "(Ljava/lang/String;)Lcom/example/runs_to_scores/runstoscores/formats/Subtask;"⟩ : MethodName)) hown (mvT hZ (hw _ (List.mem_of_getElem? (i := 49) rfl))) (mvT hZ (hw _ (List.mem_of_getElem? (i := 50) rfl))) (mvT hZ (hw _ (List.mem_of_getElem? (i := 51) rfl))) (mvT hZ (hw _ (List.mem_of_getElem? (i := 52) rfl))) (by decide) (backOf (W := 0) (rmFind1 l Z a0 hw [] xS tS kS csS (Int32.ofNat csS.length) ((csS.map (fun c => c.toInt8.toInt32)).map Value.int) bV kV g0 y0 ty0 ky0 g1 y1 ty1 ky1 g2 y2 ty2 ky2 G1 h27 n0 Z29 f34 f35 f36 f37 (StrChars.Road.codOf (cs := csS) (n := csS.length) rfl (fun x hx => (hp_xS x hx).2)) (own_up _ hp_xS) (Nat.le_trans hl_xS (by decide)) Od31 O2 P5 SV EV VV Fg0 Ey0 Vy0 Cy0 Ky0 Fg1 Ey1 Vy1 Cy1 Ky1 Fg2 Ey2 Vy2 Cy2 Ky2 (fun q => hn0 q.symm) he1.symm) hZ (hw _ (List.mem_of_getElem? (i := 52) rfl)) (hw _ (List.mem_of_getElem? (i := 51) rfl)) (by decide) (by decide)) (g := (mkF m 334 #[.val (.int p1), .val (.long p2), .second, .val (.int p3), s4, s5, s6, s7, s8, s9, s10, s11, .val (.ref xS), .val (.ref g1)] [(.ref xS)])) rfl (by rw [hml]; rfl) (argsL := [(.ref xS)]) (rest := []) (lenOf pd_6 rfl) rfl (by show 2 * 0 + _ ≤ _; exact Nat.le_of_eq rfl) (hb hby at_334) (fun _ _ => ⟨rfl, e40, (by decide : 11 + 1 ≤ _), (by decide : 111 + 3 ≤ _)⟩)
      dsimp only [Pt.U, Pt.locs, Pt.cells, Pt.slots] at X43 l43 y43 z43 st43 hQ43
      subst l43 y43 z43
      have X43 : Stand p l e _ _ m _ below meth c T43 _ 12 114 := X43
      obtain ⟨rfl, Nq43, K43⟩ := hQ43
      have Nf43 := Fr.app Nf33 Nq43
      have CS44 := CHr.keep K43 all0 CR28.1
      have CR44 := CR28.trans CS44
      have Z45 : n0 ≤ T43.heap.size := Nat.le_trans Z29 K43.1
      have hk46 := Nat.le_trans hkn27 K43.1
      have Od47 : Old Z n0 T43.heap := Od31.keep K43 all0
      have kn48 : ∀ t, own_S p e below T43 (mkF m 337 #[.val (.int p1), .val (.long p2), .second, .val (.int p3), s4, s5, s6, s7, s8, s9, s10, s11, .val (.ref xS), .val (.ref g1)] [(.ref g1)]) t → own_S p e below T0 (mkF m 264 #[.val (.int p1), .val (.long p2), .second, .val (.int p3), s4, s5, s6, s7, s8, s9, s10, s11, .val (.ref xS), .unset] []) t := fun t kt => kn42 t (st43 _ kt)
      have kn49 : ∀ t, own_S p e below T43 (mkF m 347 #[.val (.int p1), .val (.long p2), .second, .val (.int p3), s4, s5, s6, s7, s8, s9, s10, s11, .val (.ref xS), .val (.ref g1)] [(.int (1 : Int32))]) t → own_S p e below T0 (mkF m 264 #[.val (.int p1), .val (.long p2), .second, .val (.int p3), s4, s5, s6, s7, s8, s9, s10, s11, .val (.ref xS), .unset] []) t := fun t kt => kn48 t (by
        show own_S p e below T43 (mkF m 337 #[.val (.int p1), .val (.long p2), .second, .val (.int p3), s4, s5, s6, s7, s8, s9, s10, s11, .val (.ref xS), .val (.ref g1)] [(.ref g1)]) _
        refine XS.aload X43.here hx rfl (hb hby at_337) rfl rfl ?_
        show own_S p e below T43 (mkF m 339 #[.val (.int p1), .val (.long p2), .second, .val (.int p3), s4, s5, s6, s7, s8, s9, s10, s11, .val (.ref xS), .val (.ref g1)] [(.ref g1), (.ref g1)]) _
        refine Jvm.RoadKit.acmp (g := (mkF m 339 #[.val (.int p1), .val (.long p2), .second, .val (.int p3), s4, s5, s6, s7, s8, s9, s10, s11, .val (.ref xS), .val (.ref g1)] [(.ref g1), (.ref g1)])) X43 hx rfl rfl rfl (pc0 := 339) (pc' := 342) (same := true) rfl (hb hby at_339) rfl (decide_eq_true rfl) (by decide) (by decide) ?_
        show own_S p e below T43 (mkF m 342 #[.val (.int p1), .val (.long p2), .second, .val (.int p3), s4, s5, s6, s7, s8, s9, s10, s11, .val (.ref xS), .val (.ref g1)] []) _
        refine XS.iconst X43.here hx rfl (hb hby at_342) ?_
        show own_S p e below T43 (mkF m 343 #[.val (.int p1), .val (.long p2), .second, .val (.int p3), s4, s5, s6, s7, s8, s9, s10, s11, .val (.ref xS), .val (.ref g1)] [(.int (1 : Int32))]) _
        refine XS.goto X43.here hx rfl (pc0 := 343) (pc' := 347) rfl (hb hby at_343) (by decide) (by decide) ?_
        exact kt)
      obtain ⟨fs, hr, hrun, hended, hRW⟩ := X43.leaveW hSn27 hk46 (v := some (.int (1 : Int32))) (fun h => by rw [hret] at h; cases h)
      refine ⟨_, _, id (kn49 _ (retN X43 hx (t := .boolean) hret (by simp) (hb hby at_347) hr)), hrun, hended, _, _, rfl, ?_, ⟨hRW.1, hRW.2.1, hRW.2.2.1, hRW.2.2.2.mono (by decide) (by decide)⟩⟩
      show Q0 Z p1 p2 p3 bV kV g0 y0 ty0 ky0 g1 y1 ty1 ky1 g2 y2 ty2 ky2 G1 G3 h0 n0 _ T43.heap _
      exact ⟨rfl, Nf43⟩
    · have hn1 := hq33
      have kn50 : ∀ t, own_S p e below T33 (mkF m 300 #[.val (.int p1), .val (.long p2), .second, .val (.int p3), s4, s5, s6, s7, s8, s9, s10, s11, .val (.ref xS), .unset] [(.int (0 : Int32))]) t → own_S p e below T0 (mkF m 264 #[.val (.int p1), .val (.long p2), .second, .val (.int p3), s4, s5, s6, s7, s8, s9, s10, s11, .val (.ref xS), .unset] []) t := fun t kt => kn32 t (st33.trans kt)
      have kn51 : ∀ t, own_S p e below T33 (mkF m 313 #[.val (.int p1), .val (.long p2), .second, .val (.int p3), s4, s5, s6, s7, s8, s9, s10, s11, .val (.ref xS), .unset] [(.ref xS)]) t → own_S p e below T0 (mkF m 264 #[.val (.int p1), .val (.long p2), .second, .val (.int p3), s4, s5, s6, s7, s8, s9, s10, s11, .val (.ref xS), .unset] []) t := fun t kt => kn50 t (by
        show own_S p e below T33 (mkF m 300 #[.val (.int p1), .val (.long p2), .second, .val (.int p3), s4, s5, s6, s7, s8, s9, s10, s11, .val (.ref xS), .unset] [(.int (0 : Int32))]) _
        refine XS.ifYes X33.here hx rfl (pc0 := 300) (pc' := 311) rfl (hb hby at_300) rfl ((if0 _ _).trans (teq (by decide : (0 : Int32) = (0 : Int32))).1) (by decide) (by decide) ?_
        show own_S p e below T33 (mkF m 311 #[.val (.int p1), .val (.long p2), .second, .val (.int p3), s4, s5, s6, s7, s8, s9, s10, s11, .val (.ref xS), .unset] []) _
        refine XS.aload X33.here hx rfl (hb hby at_311) rfl rfl ?_
        exact kt)
      obtain ⟨a52, T52, h52, kc52, t52, kk52, X52, e52, E52, hSn52, hkn52, hZ, hown, Ex52, Co52, Va52, Ar52, la52, lb52, CC52, Lt52, sf52, st52⟩ := ldcCH (vm0 := T27.vm) X33 hx hZ hown (hw _ (List.mem_of_getElem? (i := 109) rfl)) (own_wS hw) eq33 hSn27 hkn27 (own_EW hw) (List.mem_of_getElem? (i := 2) rfl) CR28.1 (vs := [(.int (97 : Int32)), (.int (110 : Int32)), (.int (110 : Int32)), (.int (104 : Int32)), (.int (105 : Int32)), (.int (101 : Int32)), (.int (118 : Int32))]) (z := (7 : Int32)) ⟨by decide, by decide⟩ (by decide) rfl (g := (mkF m 313 #[.val (.int p1), .val (.long p2), .second, .val (.int p3), s4, s5, s6, s7, s8, s9, s10, s11, .val (.ref xS), .unset] [(.ref xS)])) rfl (hb hby at_313) (n := 28) (by decide) (by decide) (by decide) (by decide)
      have CR53 := CR28.trans CC52
      have Z54 : n0 ≤ h52.size := Nat.le_trans Z29 E52.1
      have hk55 := Nat.le_trans hkn27 E52.1
      have Od56 : Old Z n0 h52 := Od31.ext E52
      have Ag52 : Arv Z h52 t52 kk52 .byte (Int32.ofNat ([(97 : Int32), (110 : Int32), (110 : Int32), (104 : Int32), (105 : Int32), (101 : Int32), (118 : Int32)] : List Int32).length) ((([(97 : Int32), (110 : Int32), (110 : Int32), (104 : Int32), (105 : Int32), (101 : Int32), (118 : Int32)] : List Int32).map (fun c => c.toInt8.toInt32)).map Value.int) (.int (0 : Int32)) := Ar52
      have hp52 : ∀ c ∈ ([(97 : Int32), (110 : Int32), (110 : Int32), (104 : Int32), (105 : Int32), (101 : Int32), (118 : Int32)] : List Int32), ¬ c < 0 ∧ ¬ (255 : Int32) < c := by decide
      have hl52 : ([(97 : Int32), (110 : Int32), (110 : Int32), (104 : Int32), (105 : Int32), (101 : Int32), (118 : Int32)] : List Int32).length ≤ 64 := by decide
      have kn57 : ∀ t, own_S p e below T52 (mkF m 315 #[.val (.int p1), .val (.long p2), .second, .val (.int p3), s4, s5, s6, s7, s8, s9, s10, s11, .val (.ref xS), .unset] [(.ref a52), (.ref xS)]) t → own_S p e below T0 (mkF m 264 #[.val (.int p1), .val (.long p2), .second, .val (.int p3), s4, s5, s6, s7, s8, s9, s10, s11, .val (.ref xS), .unset] []) t := fun t kt => kn51 t (st52 _ kt)
      have f59 := (f34.ext E52)
      have f60 := (f35.ext E52)
      have f61 := (f36.ext E52)
      have f62 := (f37.ext E52)
      obtain ⟨cq58, kq58, qa58, qb58, qc58⟩ := isOf hZ e52 f59
      obtain ⟨_, _, ⟨T58, L58, cc58, ss58⟩, -, X58, ⟨Lc58, hQ58, l58, y58, z58⟩, st58⟩ := X52.virtualBack hx (y := (⟨"java/lang/String", "equals", "(Ljava/lang/Object;)Z"⟩ : MethodName)) (z := (⟨"java/lang/String", "equals", "(Ljava/lang/Object;)Z"⟩ : MethodName)) hown (mvT hZ (hw _ (List.mem_of_getElem? (i := 103) rfl))) (mvT hZ (hw _ (List.mem_of_getElem? (i := 74) rfl))) (notFace_of_selects (args := #[]) (mvT hZ (hw _ (List.mem_of_getElem? (i := 76) rfl)))) (mvT hZ (hw _ (List.mem_of_getElem? (i := 76) rfl))) (mvT hZ (hw _ (List.mem_of_getElem? (i := 75) rfl))) (by decide) (StrChars.Road.eqW (W := 0) hZ heq (kI := 4) (hw _ (List.mem_of_getElem? (i := 2) rfl)) f59 f60 f61 f62 (StrChars.Road.codOf (cs := csS) (n := csS.length) rfl (fun x hx => (hp_xS x hx).2)) (own_up _ hp_xS) (Nat.le_trans hl_xS (by decide)) Ex52 Va52 Co52 Ag52 (StrChars.Road.codOf (cs := ([(97 : Int32), (110 : Int32), (110 : Int32), (104 : Int32), (105 : Int32), (101 : Int32), (118 : Int32)] : List Int32)) (n := ([(97 : Int32), (110 : Int32), (110 : Int32), (104 : Int32), (105 : Int32), (101 : Int32), (118 : Int32)] : List Int32).length) rfl (fun x hx => (hp52 x hx).2)) (own_up _ hp52) (Nat.le_trans hl52 (by decide)) (O2.ext Od56.2) P5 (by decide) (by decide)) qa58 qc58 (g := (mkF m 315 #[.val (.int p1), .val (.long p2), .second, .val (.int p3), s4, s5, s6, s7, s8, s9, s10, s11, .val (.ref xS), .unset] [(.ref a52), (.ref xS)])) rfl (by rw [hml]; rfl) (Steps.refl _) (argsL := [(.ref a52)]) (rest := []) (lenOf pd_4 rfl) rfl (by show 2 * 0 + _ ≤ _; exact Nat.le_of_eq rfl) (hb hby at_315) (fun _ _ => ⟨rfl, e52, (by decide : 13 + 0 ≤ _), (by decide : 143 + 0 ≤ _)⟩)
      dsimp only [Pt.U, Pt.locs, Pt.cells, Pt.slots] at X58 l58 y58 z58 st58 hQ58
      subst l58 y58 z58
      have X58 : Stand p l e _ _ m _ below meth c T58 _ 13 143 := X58
      obtain ⟨hd58, rfl, eq58⟩ := hQ58
      have Nf58 := Fr.app Nf33 (Fr.nil n0)
      rcases hd58 with ⟨rfl, hq58⟩ | ⟨rfl, hq58⟩
      · have he2 := hq58
        have kn63 : ∀ t, own_S p e below T58 (mkF m 318 #[.val (.int p1), .val (.long p2), .second, .val (.int p3), s4, s5, s6, s7, s8, s9, s10, s11, .val (.ref xS), .unset] [(.int (1 : Int32))]) t → own_S p e below T0 (mkF m 264 #[.val (.int p1), .val (.long p2), .second, .val (.int p3), s4, s5, s6, s7, s8, s9, s10, s11, .val (.ref xS), .unset] []) t := fun t kt => kn57 t (st58.trans kt)
        have kn64 : ∀ t, own_S p e below T58 (mkF m 321 #[.val (.int p1), .val (.long p2), .second, .val (.int p3), s4, s5, s6, s7, s8, s9, s10, s11, .val (.ref xS), .unset] []) t → own_S p e below T0 (mkF m 264 #[.val (.int p1), .val (.long p2), .second, .val (.int p3), s4, s5, s6, s7, s8, s9, s10, s11, .val (.ref xS), .unset] []) t := fun t kt => kn63 t (by
          show own_S p e below T58 (mkF m 318 #[.val (.int p1), .val (.long p2), .second, .val (.int p3), s4, s5, s6, s7, s8, s9, s10, s11, .val (.ref xS), .unset] [(.int (1 : Int32))]) _
          refine XS.ifNo X58.here hx rfl (hb hby at_318) rfl ((if0 _ _).trans (feq (by decide : ¬ ((1 : Int32) = (0 : Int32)))).1) ?_
          exact kt)
        obtain ⟨T65, X65, e65, st65⟩ := getS2 X58 hx hZ hown (host := "") (Or.inl (hw _ (List.mem_of_getElem? (i := 110) rfl))) Via.refl eq58 (Sg2.ext Od56.2) (g := (mkF m 321 #[.val (.int p1), .val (.long p2), .second, .val (.int p3), s4, s5, s6, s7, s8, s9, s10, s11, .val (.ref xS), .unset] [])) rfl (hb hby at_321)
        have kn66 : ∀ t, own_S p e below T65 (mkF m 324 #[.val (.int p1), .val (.long p2), .second, .val (.int p3), s4, s5, s6, s7, s8, s9, s10, s11, .val (.ref xS), .unset] [(.ref g2)]) t → own_S p e below T0 (mkF m 264 #[.val (.int p1), .val (.long p2), .second, .val (.int p3), s4, s5, s6, s7, s8, s9, s10, s11, .val (.ref xS), .unset] []) t := fun t kt => kn64 t (st65 _ kt)
        have kn67 : ∀ t, own_S p e below T65 (mkF m 334 #[.val (.int p1), .val (.long p2), .second, .val (.int p3), s4, s5, s6, s7, s8, s9, s10, s11, .val (.ref xS), .val (.ref g2)] [(.ref xS)]) t → own_S p e below T0 (mkF m 264 #[.val (.int p1), .val (.long p2), .second, .val (.int p3), s4, s5, s6, s7, s8, s9, s10, s11, .val (.ref xS), .unset] []) t := fun t kt => kn66 t (by
          show own_S p e below T65 (mkF m 324 #[.val (.int p1), .val (.long p2), .second, .val (.int p3), s4, s5, s6, s7, s8, s9, s10, s11, .val (.ref xS), .unset] [(.ref g2)]) _
          refine XS.astore X65.here hx rfl (hb hby at_324) rfl rfl (l' := #[.val (.int p1), .val (.long p2), .second, .val (.int p3), s4, s5, s6, s7, s8, s9, s10, s11, .val (.ref xS), .val (.ref g2)]) rfl ?_
          show own_S p e below T65 (mkF m 326 #[.val (.int p1), .val (.long p2), .second, .val (.int p3), s4, s5, s6, s7, s8, s9, s10, s11, .val (.ref xS), .val (.ref g2)] []) _
          refine XS.goto X65.here hx rfl (pc0 := 326) (pc' := 332) rfl (hb hby at_326) (by decide) (by decide) ?_
          show own_S p e below T65 (mkF m 332 #[.val (.int p1), .val (.long p2), .second, .val (.int p3), s4, s5, s6, s7, s8, s9, s10, s11, .val (.ref xS), .val (.ref g2)] []) _
          refine XS.aload X65.here hx rfl (hb hby at_332) rfl rfl ?_
          exact kt)
        obtain ⟨_, _, ⟨T68, L68, cc68, ss68⟩, -, X68, ⟨Lc68, hQ68, l68, y68, z68⟩, st68⟩ := Jvm.LawKit.callS X65 hx (y := (⟨"com/example/runs_to_scores/runstoscores/formats/Subtask", "labelled", "(Ljava/lang/String;)Lcom/example/runs_to_scores/runstoscores/formats/Subtask;"⟩ : MethodName)) hown (mvT hZ (hw _ (List.mem_of_getElem? (i := 49) rfl))) (mvT hZ (hw _ (List.mem_of_getElem? (i := 50) rfl))) (mvT hZ (hw _ (List.mem_of_getElem? (i := 51) rfl))) (mvT hZ (hw _ (List.mem_of_getElem? (i := 52) rfl))) (by decide) (backOf (W := 0) (rmFind2 l Z a0 hw [] xS tS kS csS (Int32.ofNat csS.length) ((csS.map (fun c => c.toInt8.toInt32)).map Value.int) bV kV g0 y0 ty0 ky0 g1 y1 ty1 ky1 g2 y2 ty2 ky2 G1 h52 n0 Z54 f59 f60 f61 f62 (StrChars.Road.codOf (cs := csS) (n := csS.length) rfl (fun x hx => (hp_xS x hx).2)) (own_up _ hp_xS) (Nat.le_trans hl_xS (by decide)) Od56 O2 P5 SV EV VV Fg0 Ey0 Vy0 Cy0 Ky0 Fg1 Ey1 Vy1 Cy1 Ky1 Fg2 Ey2 Vy2 Cy2 Ky2 (fun q => hn0 q.symm) (fun q => hn1 q.symm) he2.symm) hZ (hw _ (List.mem_of_getElem? (i := 52) rfl)) (hw _ (List.mem_of_getElem? (i := 51) rfl)) (by decide) (by decide)) (g := (mkF m 334 #[.val (.int p1), .val (.long p2), .second, .val (.int p3), s4, s5, s6, s7, s8, s9, s10, s11, .val (.ref xS), .val (.ref g2)] [(.ref xS)])) rfl (by rw [hml]; rfl) (argsL := [(.ref xS)]) (rest := []) (lenOf pd_6 rfl) rfl (by show 2 * 0 + _ ≤ _; exact Nat.le_of_eq rfl) (hb hby at_334) (fun _ _ => ⟨rfl, e65, (by decide : 13 + 1 ≤ _), (by decide : 143 + 3 ≤ _)⟩)
        dsimp only [Pt.U, Pt.locs, Pt.cells, Pt.slots] at X68 l68 y68 z68 st68 hQ68
        subst l68 y68 z68
        have X68 : Stand p l e _ _ m _ below meth c T68 _ 14 146 := X68
        obtain ⟨rfl, Nq68, K68⟩ := hQ68
        have Nf68 := Fr.app Nf58 Nq68
        have CS69 := CHr.keep K68 all0 CR53.1
        have CR69 := CR53.trans CS69
        have Z70 : n0 ≤ T68.heap.size := Nat.le_trans Z54 K68.1
        have hk71 := Nat.le_trans hkn52 K68.1
        have Od72 : Old Z n0 T68.heap := Od56.keep K68 all0
        have kn73 : ∀ t, own_S p e below T68 (mkF m 337 #[.val (.int p1), .val (.long p2), .second, .val (.int p3), s4, s5, s6, s7, s8, s9, s10, s11, .val (.ref xS), .val (.ref g2)] [(.ref g2)]) t → own_S p e below T0 (mkF m 264 #[.val (.int p1), .val (.long p2), .second, .val (.int p3), s4, s5, s6, s7, s8, s9, s10, s11, .val (.ref xS), .unset] []) t := fun t kt => kn67 t (st68 _ kt)
        have kn74 : ∀ t, own_S p e below T68 (mkF m 347 #[.val (.int p1), .val (.long p2), .second, .val (.int p3), s4, s5, s6, s7, s8, s9, s10, s11, .val (.ref xS), .val (.ref g2)] [(.int (1 : Int32))]) t → own_S p e below T0 (mkF m 264 #[.val (.int p1), .val (.long p2), .second, .val (.int p3), s4, s5, s6, s7, s8, s9, s10, s11, .val (.ref xS), .unset] []) t := fun t kt => kn73 t (by
          show own_S p e below T68 (mkF m 337 #[.val (.int p1), .val (.long p2), .second, .val (.int p3), s4, s5, s6, s7, s8, s9, s10, s11, .val (.ref xS), .val (.ref g2)] [(.ref g2)]) _
          refine XS.aload X68.here hx rfl (hb hby at_337) rfl rfl ?_
          show own_S p e below T68 (mkF m 339 #[.val (.int p1), .val (.long p2), .second, .val (.int p3), s4, s5, s6, s7, s8, s9, s10, s11, .val (.ref xS), .val (.ref g2)] [(.ref g2), (.ref g2)]) _
          refine Jvm.RoadKit.acmp (g := (mkF m 339 #[.val (.int p1), .val (.long p2), .second, .val (.int p3), s4, s5, s6, s7, s8, s9, s10, s11, .val (.ref xS), .val (.ref g2)] [(.ref g2), (.ref g2)])) X68 hx rfl rfl rfl (pc0 := 339) (pc' := 342) (same := true) rfl (hb hby at_339) rfl (decide_eq_true rfl) (by decide) (by decide) ?_
          show own_S p e below T68 (mkF m 342 #[.val (.int p1), .val (.long p2), .second, .val (.int p3), s4, s5, s6, s7, s8, s9, s10, s11, .val (.ref xS), .val (.ref g2)] []) _
          refine XS.iconst X68.here hx rfl (hb hby at_342) ?_
          show own_S p e below T68 (mkF m 343 #[.val (.int p1), .val (.long p2), .second, .val (.int p3), s4, s5, s6, s7, s8, s9, s10, s11, .val (.ref xS), .val (.ref g2)] [(.int (1 : Int32))]) _
          refine XS.goto X68.here hx rfl (pc0 := 343) (pc' := 347) rfl (hb hby at_343) (by decide) (by decide) ?_
          exact kt)
        obtain ⟨fs, hr, hrun, hended, hRW⟩ := X68.leaveW hSn52 hk71 (v := some (.int (1 : Int32))) (fun h => by rw [hret] at h; cases h)
        refine ⟨_, _, id (kn74 _ (retN X68 hx (t := .boolean) hret (by simp) (hb hby at_347) hr)), hrun, hended, _, _, rfl, ?_, ⟨hRW.1, hRW.2.1, hRW.2.2.1, hRW.2.2.2.mono (by decide) (by decide)⟩⟩
        show Q0 Z p1 p2 p3 bV kV g0 y0 ty0 ky0 g1 y1 ty1 ky1 g2 y2 ty2 ky2 G1 G3 h0 n0 _ T68.heap _
        exact ⟨rfl, Nf68⟩
      · have hn2 := hq58
        have kn75 : ∀ t, own_S p e below T58 (mkF m 318 #[.val (.int p1), .val (.long p2), .second, .val (.int p3), s4, s5, s6, s7, s8, s9, s10, s11, .val (.ref xS), .unset] [(.int (0 : Int32))]) t → own_S p e below T0 (mkF m 264 #[.val (.int p1), .val (.long p2), .second, .val (.int p3), s4, s5, s6, s7, s8, s9, s10, s11, .val (.ref xS), .unset] []) t := fun t kt => kn57 t (st58.trans kt)
        have kn76 : ∀ t, own_S p e below T58 (mkF m 334 #[.val (.int p1), .val (.long p2), .second, .val (.int p3), s4, s5, s6, s7, s8, s9, s10, s11, .val (.ref xS), .val .null] [(.ref xS)]) t → own_S p e below T0 (mkF m 264 #[.val (.int p1), .val (.long p2), .second, .val (.int p3), s4, s5, s6, s7, s8, s9, s10, s11, .val (.ref xS), .unset] []) t := fun t kt => kn75 t (by
          show own_S p e below T58 (mkF m 318 #[.val (.int p1), .val (.long p2), .second, .val (.int p3), s4, s5, s6, s7, s8, s9, s10, s11, .val (.ref xS), .unset] [(.int (0 : Int32))]) _
          refine XS.ifYes X58.here hx rfl (pc0 := 318) (pc' := 329) rfl (hb hby at_318) rfl ((if0 _ _).trans (teq (by decide : (0 : Int32) = (0 : Int32))).1) (by decide) (by decide) ?_
          show own_S p e below T58 (mkF m 329 #[.val (.int p1), .val (.long p2), .second, .val (.int p3), s4, s5, s6, s7, s8, s9, s10, s11, .val (.ref xS), .unset] []) _
          refine XS.aconstNull X58.here hx rfl (hb hby at_329) ?_
          show own_S p e below T58 (mkF m 330 #[.val (.int p1), .val (.long p2), .second, .val (.int p3), s4, s5, s6, s7, s8, s9, s10, s11, .val (.ref xS), .unset] [.null]) _
          refine XS.astore X58.here hx rfl (hb hby at_330) rfl rfl (l' := #[.val (.int p1), .val (.long p2), .second, .val (.int p3), s4, s5, s6, s7, s8, s9, s10, s11, .val (.ref xS), .val .null]) rfl ?_
          show own_S p e below T58 (mkF m 332 #[.val (.int p1), .val (.long p2), .second, .val (.int p3), s4, s5, s6, s7, s8, s9, s10, s11, .val (.ref xS), .val .null] []) _
          refine XS.aload X58.here hx rfl (hb hby at_332) rfl rfl ?_
          exact kt)
        obtain ⟨_, _, ⟨T77, L77, cc77, ss77⟩, -, X77, ⟨Lc77, hQ77, l77, y77, z77⟩, st77⟩ := Jvm.LawKit.callS X58 hx (y := (⟨"com/example/runs_to_scores/runstoscores/formats/Subtask", "labelled", "(Ljava/lang/String;)Lcom/example/runs_to_scores/runstoscores/formats/Subtask;"⟩ : MethodName)) hown (mvT hZ (hw _ (List.mem_of_getElem? (i := 49) rfl))) (mvT hZ (hw _ (List.mem_of_getElem? (i := 50) rfl))) (mvT hZ (hw _ (List.mem_of_getElem? (i := 51) rfl))) (mvT hZ (hw _ (List.mem_of_getElem? (i := 52) rfl))) (by decide) (backOf (W := 0) (rmFind3 l Z a0 hw [] xS tS kS csS (Int32.ofNat csS.length) ((csS.map (fun c => c.toInt8.toInt32)).map Value.int) bV kV g0 y0 ty0 ky0 g1 y1 ty1 ky1 g2 y2 ty2 ky2 G1 h52 n0 Z54 f59 f60 f61 f62 (StrChars.Road.codOf (cs := csS) (n := csS.length) rfl (fun x hx => (hp_xS x hx).2)) (own_up _ hp_xS) (Nat.le_trans hl_xS (by decide)) Od56 O2 P5 SV EV VV Fg0 Ey0 Vy0 Cy0 Ky0 Fg1 Ey1 Vy1 Cy1 Ky1 Fg2 Ey2 Vy2 Cy2 Ky2 (fun q => hn0 q.symm) (fun q => hn1 q.symm) (fun q => hn2 q.symm)) hZ (hw _ (List.mem_of_getElem? (i := 52) rfl)) (hw _ (List.mem_of_getElem? (i := 51) rfl)) (by decide) (by decide)) (g := (mkF m 334 #[.val (.int p1), .val (.long p2), .second, .val (.int p3), s4, s5, s6, s7, s8, s9, s10, s11, .val (.ref xS), .val .null] [(.ref xS)])) rfl (by rw [hml]; rfl) (argsL := [(.ref xS)]) (rest := []) (lenOf pd_6 rfl) rfl (by show 2 * 0 + _ ≤ _; exact Nat.le_of_eq rfl) (hb hby at_334) (fun _ _ => ⟨rfl, eq58, (by decide : 13 + 1 ≤ _), (by decide : 143 + 3 ≤ _)⟩)
        dsimp only [Pt.U, Pt.locs, Pt.cells, Pt.slots] at X77 l77 y77 z77 st77 hQ77
        subst l77 y77 z77
        have X77 : Stand p l e _ _ m _ below meth c T77 _ 14 146 := X77
        obtain ⟨rfl, Nq77, K77⟩ := hQ77
        have Nf77 := Fr.app Nf58 Nq77
        have CS78 := CHr.keep K77 all0 CR53.1
        have CR78 := CR53.trans CS78
        have Z79 : n0 ≤ T77.heap.size := Nat.le_trans Z54 K77.1
        have hk80 := Nat.le_trans hkn52 K77.1
        have Od81 : Old Z n0 T77.heap := Od56.keep K77 all0
        have kn82 : ∀ t, own_S p e below T77 (mkF m 337 #[.val (.int p1), .val (.long p2), .second, .val (.int p3), s4, s5, s6, s7, s8, s9, s10, s11, .val (.ref xS), .val .null] [.null]) t → own_S p e below T0 (mkF m 264 #[.val (.int p1), .val (.long p2), .second, .val (.int p3), s4, s5, s6, s7, s8, s9, s10, s11, .val (.ref xS), .unset] []) t := fun t kt => kn76 t (st77 _ kt)
        have kn83 : ∀ t, own_S p e below T77 (mkF m 347 #[.val (.int p1), .val (.long p2), .second, .val (.int p3), s4, s5, s6, s7, s8, s9, s10, s11, .val (.ref xS), .val .null] [(.int (1 : Int32))]) t → own_S p e below T0 (mkF m 264 #[.val (.int p1), .val (.long p2), .second, .val (.int p3), s4, s5, s6, s7, s8, s9, s10, s11, .val (.ref xS), .unset] []) t := fun t kt => kn82 t (by
          show own_S p e below T77 (mkF m 337 #[.val (.int p1), .val (.long p2), .second, .val (.int p3), s4, s5, s6, s7, s8, s9, s10, s11, .val (.ref xS), .val .null] [.null]) _
          refine XS.aload X77.here hx rfl (hb hby at_337) rfl rfl ?_
          show own_S p e below T77 (mkF m 339 #[.val (.int p1), .val (.long p2), .second, .val (.int p3), s4, s5, s6, s7, s8, s9, s10, s11, .val (.ref xS), .val .null] [.null, .null]) _
          refine Jvm.RoadKit.acmp (g := (mkF m 339 #[.val (.int p1), .val (.long p2), .second, .val (.int p3), s4, s5, s6, s7, s8, s9, s10, s11, .val (.ref xS), .val .null] [.null, .null])) X77 hx rfl rfl rfl (pc0 := 339) (pc' := 342) (same := true) rfl (hb hby at_339) rfl (decide_eq_true rfl) (by decide) (by decide) ?_
          show own_S p e below T77 (mkF m 342 #[.val (.int p1), .val (.long p2), .second, .val (.int p3), s4, s5, s6, s7, s8, s9, s10, s11, .val (.ref xS), .val .null] []) _
          refine XS.iconst X77.here hx rfl (hb hby at_342) ?_
          show own_S p e below T77 (mkF m 343 #[.val (.int p1), .val (.long p2), .second, .val (.int p3), s4, s5, s6, s7, s8, s9, s10, s11, .val (.ref xS), .val .null] [(.int (1 : Int32))]) _
          refine XS.goto X77.here hx rfl (pc0 := 343) (pc' := 347) rfl (hb hby at_343) (by decide) (by decide) ?_
          exact kt)
        obtain ⟨fs, hr, hrun, hended, hRW⟩ := X77.leaveW hSn52 hk80 (v := some (.int (1 : Int32))) (fun h => by rw [hret] at h; cases h)
        refine ⟨_, _, id (kn83 _ (retN X77 hx (t := .boolean) hret (by simp) (hb hby at_347) hr)), hrun, hended, _, _, rfl, ?_, ⟨hRW.1, hRW.2.1, hRW.2.2.1, hRW.2.2.2.mono (by decide) (by decide)⟩⟩
        show Q0 Z p1 p2 p3 bV kV g0 y0 ty0 ky0 g1 y1 ty1 ky1 g2 y2 ty2 ky2 G1 G3 h0 n0 _ T77.heap _
        exact ⟨rfl, Nf77⟩

theorem pd_7 : parseMethodDescriptor "(I[C)Ljava/lang/String;" = some ⟨[.int, (.array .char)], some (.object "java/lang/String")⟩ := by decide +kernel
set_option maxRecDepth 65536 in
set_option maxHeartbeats 40000000 in
theorem tl5 {p : Program} {l : Launch} {e : Env} {s : State} {m : MethodId} {args : Array Value} {below : List Frame} {meth : Method} {c : Code} {T0 : State} {locs : List Loc} {Z : State} {a0 : Array Value} {h0 : Heap} {n0 : Nat} (p1 : Int32) (p2 : Int64) (p3 : Int32) (bV : Addr) (kV : ClassId) (g0 : Addr) (y0 : Addr) (ty0 : Addr) (ky0 : ClassId) (g1 : Addr) (y1 : Addr) (ty1 : Addr) (ky1 : ClassId) (g2 : Addr) (y2 : Addr) (ty2 : Addr) (ky2 : ClassId) (G1 : Int32) (G3 : Value) (s4 : Slot) (s5 : Slot) (s6 : Slot) (nn : Int32) (s8 : Slot) (s9 : Slot) (s10 : Slot) (bA : Addr) (kA : ClassId) (c0 : Int32) (c1 : Int32) (c2 : Int32) (c3 : Int32) (c4 : Int32) (c5 : Int32) (c6 : Int32) {vm0 : Vm} {k0 : Nat}
    (X0 : Stand p l e room_1 (s.setVm vm0) m args below meth c T0 locs 3 39) (hx : p.tables.exec = Jvm.exec) (hZ : Z.Warmed39 (s.setVm vm0).vm) (hw : ∀ d ∈ tables_1, d.before a0 Z = true) (hby : c.code = code) (hml : c.maxLocals = 14) (hown : (s.setVm vm0).vm.findClass "com/example/runs_to_scores/runstoscores/formats/SubtaskLabelledPinLaw" = some m.cls) (hret : meth.sig.returnType = some .boolean) (hlk : meth.locks = false) (e0 : T0.heap = h0) (Nf0 : Fr n0 locs) (Z0 : n0 ≤ h0.size) (hS0 : s.Since vm0 k0) (hk0 : k0 ≤ h0.size) (H0 : CHv Z consts_1 vm0 h0) (A_bA : Arv Z h0 bA kA .char (7 : Int32) [(.int c0), (.int c1), (.int c2), (.int c3), (.int c4), (.int c5), (.int c6)] (.int (0 : Int32))) (ok0 : own_ok c0) (ok1 : own_ok c1) (ok2 : own_ok c2) (ok3 : own_ok c3) (ok4 : own_ok c4) (ok5 : own_ok c5) (ok6 : own_ok c6) (O0 : Old Z n0 h0) (O2 : Sta Z Z.heap "java/lang/String" "COMPACT_STRINGS" "Z" (.int G1)) (P5 : ¬ (G1 = (0 : Int32))) (O4 : Sta Z Z.heap "jdk/internal/util/Preconditions" "SIOOBE_FORMATTER" "Ljava/util/function/BiFunction;" G3) (rG3 : G3.isRef = true) (SV : Sta Z Z.heap "com/example/runs_to_scores/runstoscores/formats/Subtask" "$VALUES" "[Lcom/example/runs_to_scores/runstoscores/formats/Subtask;" (.ref bV)) (EV : Exa Z Z.heap bV "[Lcom/example/runs_to_scores/runstoscores/formats/Subtask;") (VV : Arv Z Z.heap bV kV (.object "com/example/runs_to_scores/runstoscores/formats/Subtask") (3 : Int32) [(.ref g0), (.ref g1), (.ref g2)] .null) (Fg0 : Fld Z Z.heap g0 "com/example/runs_to_scores/runstoscores/formats/Subtask" "label" "Ljava/lang/String;" (.ref y0)) (Ey0 : Exa Z Z.heap y0 "java/lang/String") (Vy0 : Fld Z Z.heap y0 "java/lang/String" "value" "[B" (.ref ty0)) (Cy0 : Fld Z Z.heap y0 "java/lang/String" "coder" "B" (.int (0 : Int32))) (Ky0 : Arv Z Z.heap ty0 ky0 .byte (6 : Int32) ((([(116 : Int32), (114 : Int32), (105 : Int32), (97 : Int32), (103 : Int32), (101 : Int32)] : List Int32).map (fun c => c.toInt8.toInt32)).map Value.int) (.int (0 : Int32))) (Fg1 : Fld Z Z.heap g1 "com/example/runs_to_scores/runstoscores/formats/Subtask" "label" "Ljava/lang/String;" (.ref y1)) (Ey1 : Exa Z Z.heap y1 "java/lang/String") (Vy1 : Fld Z Z.heap y1 "java/lang/String" "value" "[B" (.ref ty1)) (Cy1 : Fld Z Z.heap y1 "java/lang/String" "coder" "B" (.int (0 : Int32))) (Ky1 : Arv Z Z.heap ty1 ky1 .byte (5 : Int32) ((([(97 : Int32), (110 : Int32), (110 : Int32), (104 : Int32), (105 : Int32)] : List Int32).map (fun c => c.toInt8.toInt32)).map Value.int) (.int (0 : Int32))) (Fg2 : Fld Z Z.heap g2 "com/example/runs_to_scores/runstoscores/formats/Subtask" "label" "Ljava/lang/String;" (.ref y2)) (Ey2 : Exa Z Z.heap y2 "java/lang/String") (Vy2 : Fld Z Z.heap y2 "java/lang/String" "value" "[B" (.ref ty2)) (Cy2 : Fld Z Z.heap y2 "java/lang/String" "coder" "B" (.int (0 : Int32))) (Ky2 : Arv Z Z.heap ty2 ky2 .byte (7 : Int32) ((([(97 : Int32), (110 : Int32), (110 : Int32), (104 : Int32), (105 : Int32), (101 : Int32), (118 : Int32)] : List Int32).map (fun c => c.toInt8.toInt32)).map Value.int) (.int (0 : Int32))) (Sg0 : Sta Z Z.heap "com/example/runs_to_scores/runstoscores/formats/Subtask" "TRIAGE" "Lcom/example/runs_to_scores/runstoscores/formats/Subtask;" (.ref g0)) (Sg1 : Sta Z Z.heap "com/example/runs_to_scores/runstoscores/formats/Subtask" "ANNHI" "Lcom/example/runs_to_scores/runstoscores/formats/Subtask;" (.ref g1)) (Sg2 : Sta Z Z.heap "com/example/runs_to_scores/runstoscores/formats/Subtask" "ANNHIEV" "Lcom/example/runs_to_scores/runstoscores/formats/Subtask;" (.ref g2)) :
    ∃ s₂ o, Steps p.tables e below (T0.setTop (mkF m 241 #[.val (.int p1), .val (.long p2), .second, .val (.int p3), s4, s5, s6, .val (.int nn), s8, s9, s10, .val (.ref bA), .unset, .unset] [])) s₂ ∧ s₂.status = .running ∧ Ended s₂ below o ∧ ∃ v L, o = .returned v ∧ Q0 Z p1 p2 p3 bV kV g0 y0 ty0 ky0 g1 y1 ty1 ky1 g2 y2 ty2 ky2 G1 G3 h0 n0 v s₂.heap L ∧ ReturnedEndW s o s₂ L 32 5312 := by
  have kn0 : ∀ t, own_S p e below T0 (mkF m 241 #[.val (.int p1), .val (.long p2), .second, .val (.int p3), s4, s5, s6, .val (.int nn), s8, s9, s10, .val (.ref bA), .unset, .unset] []) t → own_S p e below T0 (mkF m 241 #[.val (.int p1), .val (.long p2), .second, .val (.int p3), s4, s5, s6, .val (.int nn), s8, s9, s10, .val (.ref bA), .unset, .unset] []) t := fun t k => k
  have CR0 := CHr.refl H0
  have kn1 : ∀ t, own_S p e below T0 (mkF m 248 #[.val (.int p1), .val (.long p2), .second, .val (.int p3), s4, s5, s6, .val (.int nn), s8, s9, s10, .val (.ref bA), .unset, .unset] [(.int (((p1.toUInt32 >>> ((6 : Int32) &&& 31).toUInt32).toInt32) &&& (15 : Int32)))]) t → own_S p e below T0 (mkF m 241 #[.val (.int p1), .val (.long p2), .second, .val (.int p3), s4, s5, s6, .val (.int nn), s8, s9, s10, .val (.ref bA), .unset, .unset] []) t := fun t kt => kn0 t (by
    show own_S p e below T0 (mkF m 241 #[.val (.int p1), .val (.long p2), .second, .val (.int p3), s4, s5, s6, .val (.int nn), s8, s9, s10, .val (.ref bA), .unset, .unset] []) _
    refine XS.iloadN X0.here hx rfl (hb hby at_241) rfl ?_
    show own_S p e below T0 (mkF m 242 #[.val (.int p1), .val (.long p2), .second, .val (.int p3), s4, s5, s6, .val (.int nn), s8, s9, s10, .val (.ref bA), .unset, .unset] [(.int p1)]) _
    refine XS.bipush X0.here hx rfl (hb hby at_242) ?_
    show own_S p e below T0 (mkF m 244 #[.val (.int p1), .val (.long p2), .second, .val (.int p3), s4, s5, s6, .val (.int nn), s8, s9, s10, .val (.ref bA), .unset, .unset] [(.int (6 : Int32)), (.int p1)]) _
    refine XS.iushr X0.here hx rfl (hb hby at_244) rfl ?_
    show own_S p e below T0 (mkF m 245 #[.val (.int p1), .val (.long p2), .second, .val (.int p3), s4, s5, s6, .val (.int nn), s8, s9, s10, .val (.ref bA), .unset, .unset] [(.int ((p1.toUInt32 >>> ((6 : Int32) &&& 31).toUInt32).toInt32))]) _
    refine XS.bipush X0.here hx rfl (hb hby at_245) ?_
    show own_S p e below T0 (mkF m 247 #[.val (.int p1), .val (.long p2), .second, .val (.int p3), s4, s5, s6, .val (.int nn), s8, s9, s10, .val (.ref bA), .unset, .unset] [(.int (15 : Int32)), (.int ((p1.toUInt32 >>> ((6 : Int32) &&& 31).toUInt32).toInt32))]) _
    refine XS.iand X0.here hx rfl (hb hby at_247) rfl ?_
    exact kt)
  by_cases hc248 : (((p1.toUInt32 >>> ((6 : Int32) &&& 31).toUInt32).toInt32) &&& (15 : Int32)) = (0 : Int32)
  · have kn2 : ∀ t, own_S p e below T0 (mkF m 334 #[.val (.int p1), .val (.long p2), .second, .val (.int p3), s4, s5, s6, .val (.int nn), s8, s9, s10, .val (.ref bA), .val .null, .val .null] [.null]) t → own_S p e below T0 (mkF m 241 #[.val (.int p1), .val (.long p2), .second, .val (.int p3), s4, s5, s6, .val (.int nn), s8, s9, s10, .val (.ref bA), .unset, .unset] []) t := fun t kt => kn1 t (by
      show own_S p e below T0 (mkF m 248 #[.val (.int p1), .val (.long p2), .second, .val (.int p3), s4, s5, s6, .val (.int nn), s8, s9, s10, .val (.ref bA), .unset, .unset] [(.int (((p1.toUInt32 >>> ((6 : Int32) &&& 31).toUInt32).toInt32) &&& (15 : Int32)))]) _
      refine XS.ifNo X0.here hx rfl (hb hby at_248) rfl ((if0 _ _).trans (teq hc248).2) ?_
      show own_S p e below T0 (mkF m 251 #[.val (.int p1), .val (.long p2), .second, .val (.int p3), s4, s5, s6, .val (.int nn), s8, s9, s10, .val (.ref bA), .unset, .unset] []) _
      refine XS.aconstNull X0.here hx rfl (hb hby at_251) ?_
      show own_S p e below T0 (mkF m 252 #[.val (.int p1), .val (.long p2), .second, .val (.int p3), s4, s5, s6, .val (.int nn), s8, s9, s10, .val (.ref bA), .unset, .unset] [.null]) _
      refine XS.goto X0.here hx rfl (pc0 := 252) (pc' := 262) rfl (hb hby at_252) (by decide) (by decide) ?_
      show own_S p e below T0 (mkF m 262 #[.val (.int p1), .val (.long p2), .second, .val (.int p3), s4, s5, s6, .val (.int nn), s8, s9, s10, .val (.ref bA), .unset, .unset] [.null]) _
      refine XS.astore X0.here hx rfl (hb hby at_262) rfl rfl (l' := #[.val (.int p1), .val (.long p2), .second, .val (.int p3), s4, s5, s6, .val (.int nn), s8, s9, s10, .val (.ref bA), .val .null, .unset]) rfl ?_
      show own_S p e below T0 (mkF m 264 #[.val (.int p1), .val (.long p2), .second, .val (.int p3), s4, s5, s6, .val (.int nn), s8, s9, s10, .val (.ref bA), .val .null, .unset] []) _
      refine XS.aload X0.here hx rfl (hb hby at_264) rfl rfl ?_
      show own_S p e below T0 (mkF m 266 #[.val (.int p1), .val (.long p2), .second, .val (.int p3), s4, s5, s6, .val (.int nn), s8, s9, s10, .val (.ref bA), .val .null, .unset] [.null]) _
      refine XS.ifnonnullNo X0.here hx rfl (hb hby at_266) rfl ?_
      show own_S p e below T0 (mkF m 269 #[.val (.int p1), .val (.long p2), .second, .val (.int p3), s4, s5, s6, .val (.int nn), s8, s9, s10, .val (.ref bA), .val .null, .unset] []) _
      refine XS.aconstNull X0.here hx rfl (hb hby at_269) ?_
      show own_S p e below T0 (mkF m 270 #[.val (.int p1), .val (.long p2), .second, .val (.int p3), s4, s5, s6, .val (.int nn), s8, s9, s10, .val (.ref bA), .val .null, .unset] [.null]) _
      refine XS.astore X0.here hx rfl (hb hby at_270) rfl rfl (l' := #[.val (.int p1), .val (.long p2), .second, .val (.int p3), s4, s5, s6, .val (.int nn), s8, s9, s10, .val (.ref bA), .val .null, .val .null]) rfl ?_
      show own_S p e below T0 (mkF m 272 #[.val (.int p1), .val (.long p2), .second, .val (.int p3), s4, s5, s6, .val (.int nn), s8, s9, s10, .val (.ref bA), .val .null, .val .null] []) _
      refine XS.goto X0.here hx rfl (pc0 := 272) (pc' := 332) rfl (hb hby at_272) (by decide) (by decide) ?_
      show own_S p e below T0 (mkF m 332 #[.val (.int p1), .val (.long p2), .second, .val (.int p3), s4, s5, s6, .val (.int nn), s8, s9, s10, .val (.ref bA), .val .null, .val .null] []) _
      refine XS.aload X0.here hx rfl (hb hby at_332) rfl rfl ?_
      exact kt)
    obtain ⟨_, _, ⟨T3, L3, cc3, ss3⟩, -, X3, ⟨Lc3, hQ3, l3, y3, z3⟩, st3⟩ := Jvm.LawKit.callS X0 hx (y := (⟨"com/example/runs_to_scores/runstoscores/formats/Subtask", "labelled", "(Ljava/lang/String;)Lcom/example/runs_to_scores/runstoscores/formats/Subtask;"⟩ : MethodName)) hown (mvT hZ (hw _ (List.mem_of_getElem? (i := 49) rfl))) (mvT hZ (hw _ (List.mem_of_getElem? (i := 50) rfl))) (mvT hZ (hw _ (List.mem_of_getElem? (i := 51) rfl))) (mvT hZ (hw _ (List.mem_of_getElem? (i := 52) rfl))) (by decide) (backOf (W := 0) (rmFindN l Z a0 hw []  bV kV g0 y0 ty0 ky0 g1 y1 ty1 ky1 g2 y2 ty2 ky2 G1 h0 n0 Z0 O0 O2 P5 SV EV VV Fg0 Ey0 Vy0 Cy0 Ky0 Fg1 Ey1 Vy1 Cy1 Ky1 Fg2 Ey2 Vy2 Cy2 Ky2) hZ (hw _ (List.mem_of_getElem? (i := 52) rfl)) (hw _ (List.mem_of_getElem? (i := 51) rfl)) (by decide) (by decide)) (g := (mkF m 334 #[.val (.int p1), .val (.long p2), .second, .val (.int p3), s4, s5, s6, .val (.int nn), s8, s9, s10, .val (.ref bA), .val .null, .val .null] [.null])) rfl (by rw [hml]; rfl) (argsL := [.null]) (rest := []) (lenOf pd_6 rfl) rfl (by show 2 * 0 + _ ≤ _; exact Nat.le_of_eq rfl) (hb hby at_334) (fun _ _ => ⟨rfl, e0, (by decide : 3 + 1 ≤ _), (by decide : 39 + 3 ≤ _)⟩)
    dsimp only [Pt.U, Pt.locs, Pt.cells, Pt.slots] at X3 l3 y3 z3 st3 hQ3
    subst l3 y3 z3
    have X3 : Stand p l e _ _ m _ below meth c T3 _ 4 42 := X3
    obtain ⟨rfl, Nq3, K3⟩ := hQ3
    have Nf3 := Fr.app Nf0 Nq3
    have CS4 := CHr.keep K3 all0 CR0.1
    have CR4 := CR0.trans CS4
    have Z5 : n0 ≤ T3.heap.size := Nat.le_trans Z0 K3.1
    have hk6 := Nat.le_trans hk0 K3.1
    have Od7 : Old Z n0 T3.heap := O0.keep K3 all0
    have kn8 : ∀ t, own_S p e below T3 (mkF m 337 #[.val (.int p1), .val (.long p2), .second, .val (.int p3), s4, s5, s6, .val (.int nn), s8, s9, s10, .val (.ref bA), .val .null, .val .null] [.null]) t → own_S p e below T0 (mkF m 241 #[.val (.int p1), .val (.long p2), .second, .val (.int p3), s4, s5, s6, .val (.int nn), s8, s9, s10, .val (.ref bA), .unset, .unset] []) t := fun t kt => kn2 t (st3 _ kt)
    have kn9 : ∀ t, own_S p e below T3 (mkF m 347 #[.val (.int p1), .val (.long p2), .second, .val (.int p3), s4, s5, s6, .val (.int nn), s8, s9, s10, .val (.ref bA), .val .null, .val .null] [(.int (1 : Int32))]) t → own_S p e below T0 (mkF m 241 #[.val (.int p1), .val (.long p2), .second, .val (.int p3), s4, s5, s6, .val (.int nn), s8, s9, s10, .val (.ref bA), .unset, .unset] []) t := fun t kt => kn8 t (by
      show own_S p e below T3 (mkF m 337 #[.val (.int p1), .val (.long p2), .second, .val (.int p3), s4, s5, s6, .val (.int nn), s8, s9, s10, .val (.ref bA), .val .null, .val .null] [.null]) _
      refine XS.aload X3.here hx rfl (hb hby at_337) rfl rfl ?_
      show own_S p e below T3 (mkF m 339 #[.val (.int p1), .val (.long p2), .second, .val (.int p3), s4, s5, s6, .val (.int nn), s8, s9, s10, .val (.ref bA), .val .null, .val .null] [.null, .null]) _
      refine Jvm.RoadKit.acmp (g := (mkF m 339 #[.val (.int p1), .val (.long p2), .second, .val (.int p3), s4, s5, s6, .val (.int nn), s8, s9, s10, .val (.ref bA), .val .null, .val .null] [.null, .null])) X3 hx rfl rfl rfl (pc0 := 339) (pc' := 342) (same := true) rfl (hb hby at_339) rfl (decide_eq_true rfl) (by decide) (by decide) ?_
      show own_S p e below T3 (mkF m 342 #[.val (.int p1), .val (.long p2), .second, .val (.int p3), s4, s5, s6, .val (.int nn), s8, s9, s10, .val (.ref bA), .val .null, .val .null] []) _
      refine XS.iconst X3.here hx rfl (hb hby at_342) ?_
      show own_S p e below T3 (mkF m 343 #[.val (.int p1), .val (.long p2), .second, .val (.int p3), s4, s5, s6, .val (.int nn), s8, s9, s10, .val (.ref bA), .val .null, .val .null] [(.int (1 : Int32))]) _
      refine XS.goto X3.here hx rfl (pc0 := 343) (pc' := 347) rfl (hb hby at_343) (by decide) (by decide) ?_
      exact kt)
    obtain ⟨fs, hr, hrun, hended, hRW⟩ := X3.leaveW hS0 hk6 (v := some (.int (1 : Int32))) (fun h => by rw [hret] at h; cases h)
    refine ⟨_, _, id (kn9 _ (retN X3 hx (t := .boolean) hret (by simp) (hb hby at_347) hr)), hrun, hended, _, _, rfl, ?_, ⟨hRW.1, hRW.2.1, hRW.2.2.1, hRW.2.2.2.mono (by decide) (by decide)⟩⟩
    show Q0 Z p1 p2 p3 bV kV g0 y0 ty0 ky0 g1 y1 ty1 ky1 g2 y2 ty2 ky2 G1 G3 h0 n0 _ T3.heap _
    exact ⟨rfl, Nf3⟩
  · have kn10 : ∀ t, own_S p e below T0 (mkF m 259 #[.val (.int p1), .val (.long p2), .second, .val (.int p3), s4, s5, s6, .val (.int nn), s8, s9, s10, .val (.ref bA), .unset, .unset] [(.ref bA), (.int nn)]) t → own_S p e below T0 (mkF m 241 #[.val (.int p1), .val (.long p2), .second, .val (.int p3), s4, s5, s6, .val (.int nn), s8, s9, s10, .val (.ref bA), .unset, .unset] []) t := fun t kt => kn1 t (by
      show own_S p e below T0 (mkF m 248 #[.val (.int p1), .val (.long p2), .second, .val (.int p3), s4, s5, s6, .val (.int nn), s8, s9, s10, .val (.ref bA), .unset, .unset] [(.int (((p1.toUInt32 >>> ((6 : Int32) &&& 31).toUInt32).toInt32) &&& (15 : Int32)))]) _
      refine XS.ifYes X0.here hx rfl (pc0 := 248) (pc' := 255) rfl (hb hby at_248) rfl ((if0 _ _).trans (feq hc248).2) (by decide) (by decide) ?_
      show own_S p e below T0 (mkF m 255 #[.val (.int p1), .val (.long p2), .second, .val (.int p3), s4, s5, s6, .val (.int nn), s8, s9, s10, .val (.ref bA), .unset, .unset] []) _
      refine XS.iload X0.here hx rfl (hb hby at_255) rfl ?_
      show own_S p e below T0 (mkF m 257 #[.val (.int p1), .val (.long p2), .second, .val (.int p3), s4, s5, s6, .val (.int nn), s8, s9, s10, .val (.ref bA), .unset, .unset] [(.int nn)]) _
      refine XS.aload X0.here hx rfl (hb hby at_257) rfl rfl ?_
      exact kt)
    obtain ⟨_, _, ⟨T11, L11, cc11, ss11⟩, -, X11, hSn11, hgr11, ⟨Lc11, hQ11, l11, y11, z11, CC11⟩, st11⟩ := callSS X0 hx (y := (⟨"com/example/runs_to_scores/runstoscores/formats/SubtaskLabelledPinLaw", "make", "(I[C)Ljava/lang/String;"⟩ : MethodName)) hown (mvT hZ (hw _ (List.mem_of_getElem? (i := 79) rfl))) (mvT hZ (hw _ (List.mem_of_getElem? (i := 80) rfl))) (mvT hZ (hw _ (List.mem_of_getElem? (i := 24) rfl))) (mvT hZ (hw _ (List.mem_of_getElem? (i := 81) rfl))) (by decide) (backOfSH (s := s) (vm0 := vm0) (W := 0) (rm12 l Z a0 hw [] nn bA kA c0 c1 c2 c3 c4 c5 c6 G1 h0 n0 Z0 A_bA ok0 ok1 ok2 ok3 ok4 ok5 ok6 O0 O2 P5) hZ (hw _ (List.mem_of_getElem? (i := 81) rfl)) (hw _ (List.mem_of_getElem? (i := 24) rfl)) (by decide) (by decide) (own_EW hw) CR0.1) (g := (mkF m 259 #[.val (.int p1), .val (.long p2), .second, .val (.int p3), s4, s5, s6, .val (.int nn), s8, s9, s10, .val (.ref bA), .unset, .unset] [(.ref bA), (.int nn)])) rfl (by rw [hml]; rfl) (argsL := [(.int nn), (.ref bA)]) (rest := []) (lenOf pd_7 rfl) rfl (by show 2 * 0 + _ ≤ _; exact Nat.le_of_eq rfl) (hb hby at_259) (fun _ _ => ⟨rfl, e0, (by decide : 3 + 4 ≤ _), (by decide : 39 + 20 ≤ _)⟩)
    dsimp only [Pt.U, Pt.locs, Pt.cells, Pt.slots] at CC11
    dsimp only [Pt.U, Pt.locs, Pt.cells, Pt.slots] at X11 l11 y11 z11 st11 hQ11
    subst l11 y11 z11
    have X11 : Stand p l e _ (s.setVm T11.vm) m _ below meth c T11 _ 7 59 := X11
    have hZ : Z.Warmed39 (s.setVm T11.vm).vm := State.Warmed39.trans (t := s.setVm vm0) hZ hSn11.1
    have hown : (s.setVm T11.vm).vm.findClass "com/example/runs_to_scores/runstoscores/formats/SubtaskLabelledPinLaw" = some m.cls := by rw [show (s.setVm T11.vm).vm = T11.vm from rfl, hSn11.1.alike.findClass]; exact hown
    have hSn11 : s.Since T11.vm T11.heap.size := foldS hS0 (by rw [e0]; exact hk0) hSn11 hgr11
    obtain ⟨b11, t11, kb11, cs11, rfl, Nq11, gb11, K11, Ex11, Va11, Co11, Ar11, hp11, hl11⟩ := hQ11
    have Nf11 := Fr.app Nf0 Nq11
    have CR12 := CR0.trans CC11
    have Z13 : n0 ≤ T11.heap.size := Nat.le_trans Z0 K11.1
    have hk14 := Nat.le_trans hk0 K11.1
    have Od15 : Old Z n0 T11.heap := O0.keep K11 all0
    have kn16 : ∀ t, own_S p e below T11 (mkF m 262 #[.val (.int p1), .val (.long p2), .second, .val (.int p3), s4, s5, s6, .val (.int nn), s8, s9, s10, .val (.ref bA), .unset, .unset] [(.ref b11)]) t → own_S p e below T0 (mkF m 241 #[.val (.int p1), .val (.long p2), .second, .val (.int p3), s4, s5, s6, .val (.int nn), s8, s9, s10, .val (.ref bA), .unset, .unset] []) t := fun t kt => kn10 t (st11.trans kt)
    have kn17 : ∀ t, own_S p e below T11 (mkF m 264 #[.val (.int p1), .val (.long p2), .second, .val (.int p3), s4, s5, s6, .val (.int nn), s8, s9, s10, .val (.ref bA), .val (.ref b11), .unset] []) t → own_S p e below T0 (mkF m 241 #[.val (.int p1), .val (.long p2), .second, .val (.int p3), s4, s5, s6, .val (.int nn), s8, s9, s10, .val (.ref bA), .unset, .unset] []) t := fun t kt => kn16 t (by
      show own_S p e below T11 (mkF m 262 #[.val (.int p1), .val (.long p2), .second, .val (.int p3), s4, s5, s6, .val (.int nn), s8, s9, s10, .val (.ref bA), .unset, .unset] [(.ref b11)]) _
      refine XS.astore X11.here hx rfl (hb hby at_262) rfl rfl (l' := #[.val (.int p1), .val (.long p2), .second, .val (.int p3), s4, s5, s6, .val (.int nn), s8, s9, s10, .val (.ref bA), .val (.ref b11), .unset]) rfl ?_
      exact kt)
    obtain ⟨s2, o2, t1, t2, t3, t4⟩ := tl6 (n0 := n0) p1 p2 p3 bV kV g0 y0 ty0 ky0 g1 y1 ty1 ky1 g2 y2 ty2 ky2 G1 G3 (s4) (s5) (s6) (.val (.int nn)) (s8) (s9) (s10) (.val (.ref bA)) b11 t11 kb11 cs11 (X11.mono (by decide) (by decide)) hx hZ hw hby hml hown hret hlk rfl Nf11 Z13 hSn11 (Nat.le_refl _) CR12.1 Ex11 Va11 Co11 Ar11 hp11 hl11 Od15 O2 P5 O4 rG3 SV EV VV Fg0 Ey0 Vy0 Cy0 Ky0 Fg1 Ey1 Vy1 Cy1 Ky1 Fg2 Ey2 Vy2 Cy2 Ky2 Sg0 Sg1 Sg2
    exact ⟨s2, o2, id (kn17 _ (t1)), t2, t3, t4⟩

theorem pd_8 : parseMethodDescriptor "(Ljava/lang/String;IJZIC)C" = some ⟨[(.object "java/lang/String"), .int, .long, .boolean, .int, .char], some .char⟩ := by decide +kernel
set_option maxRecDepth 65536 in
set_option maxHeartbeats 40000000 in
theorem tl4 {p : Program} {l : Launch} {e : Env} {s : State} {m : MethodId} {args : Array Value} {below : List Frame} {meth : Method} {c : Code} {T0 : State} {locs : List Loc} {Z : State} {a0 : Array Value} {h0 : Heap} {n0 : Nat} (p1 : Int32) (p2 : Int64) (p3 : Int32) (bV : Addr) (kV : ClassId) (g0 : Addr) (y0 : Addr) (ty0 : Addr) (ky0 : ClassId) (g1 : Addr) (y1 : Addr) (ty1 : Addr) (ky1 : ClassId) (g2 : Addr) (y2 : Addr) (ty2 : Addr) (ky2 : ClassId) (G1 : Int32) (G3 : Value) (md : Int32) (xB : Addr) (tB : Addr) (kB : ClassId) (csB : List Int32) (s6 : Slot) (nn : Int32) (d8 : Int32) (ps : Int32) (mc : Int32) (bA : Addr) (kA : ClassId) (c0 : Int32) (c1 : Int32) (c2 : Int32) {vm0 : Vm} {k0 : Nat}
    (X0 : Stand p l e room_1 (s.setVm vm0) m args below meth c T0 locs 3 39) (hx : p.tables.exec = Jvm.exec) (hZ : Z.Warmed39 (s.setVm vm0).vm) (hw : ∀ d ∈ tables_1, d.before a0 Z = true) (hby : c.code = code) (hml : c.maxLocals = 14) (hown : (s.setVm vm0).vm.findClass "com/example/runs_to_scores/runstoscores/formats/SubtaskLabelledPinLaw" = some m.cls) (hret : meth.sig.returnType = some .boolean) (hlk : meth.locks = false) (e0 : T0.heap = h0) (Nf0 : Fr n0 locs) (Z0 : n0 ≤ h0.size) (hS0 : s.Since vm0 k0) (hk0 : k0 ≤ h0.size) (H0 : CHv Z consts_1 vm0 h0) (E_xB : Exa Z h0 xB "java/lang/String") (V_xB : Fld Z h0 xB "java/lang/String" "value" "[B" (.ref tB)) (C_xB : Fld Z h0 xB "java/lang/String" "coder" "B" (.int (0 : Int32))) (K_xB : Arv Z h0 tB kB .byte (Int32.ofNat csB.length) ((csB.map (fun c => c.toInt8.toInt32)).map Value.int) (.int (0 : Int32))) (hp_xB : ∀ c ∈ csB, ¬ c < 0 ∧ ¬ (255 : Int32) < c) (hl_xB : csB.length ≤ 64) (okm : own_ok mc) (A_bA : Arv Z h0 bA kA .char (7 : Int32) [(.int c0), (.int c1), (.int c2), (.int (0 : Int32)), (.int (0 : Int32)), (.int (0 : Int32)), (.int (0 : Int32))] (.int (0 : Int32))) (g_bA : n0 ≤ bA) (nxb : @Ne Nat xB bA) (ntb : @Ne Nat tB bA) (ok0 : own_ok c0) (ok1 : own_ok c1) (ok2 : own_ok c2) (O0 : Old Z n0 h0) (O2 : Sta Z Z.heap "java/lang/String" "COMPACT_STRINGS" "Z" (.int G1)) (P5 : ¬ (G1 = (0 : Int32))) (O4 : Sta Z Z.heap "jdk/internal/util/Preconditions" "SIOOBE_FORMATTER" "Ljava/util/function/BiFunction;" G3) (rG3 : G3.isRef = true) (SV : Sta Z Z.heap "com/example/runs_to_scores/runstoscores/formats/Subtask" "$VALUES" "[Lcom/example/runs_to_scores/runstoscores/formats/Subtask;" (.ref bV)) (EV : Exa Z Z.heap bV "[Lcom/example/runs_to_scores/runstoscores/formats/Subtask;") (VV : Arv Z Z.heap bV kV (.object "com/example/runs_to_scores/runstoscores/formats/Subtask") (3 : Int32) [(.ref g0), (.ref g1), (.ref g2)] .null) (Fg0 : Fld Z Z.heap g0 "com/example/runs_to_scores/runstoscores/formats/Subtask" "label" "Ljava/lang/String;" (.ref y0)) (Ey0 : Exa Z Z.heap y0 "java/lang/String") (Vy0 : Fld Z Z.heap y0 "java/lang/String" "value" "[B" (.ref ty0)) (Cy0 : Fld Z Z.heap y0 "java/lang/String" "coder" "B" (.int (0 : Int32))) (Ky0 : Arv Z Z.heap ty0 ky0 .byte (6 : Int32) ((([(116 : Int32), (114 : Int32), (105 : Int32), (97 : Int32), (103 : Int32), (101 : Int32)] : List Int32).map (fun c => c.toInt8.toInt32)).map Value.int) (.int (0 : Int32))) (Fg1 : Fld Z Z.heap g1 "com/example/runs_to_scores/runstoscores/formats/Subtask" "label" "Ljava/lang/String;" (.ref y1)) (Ey1 : Exa Z Z.heap y1 "java/lang/String") (Vy1 : Fld Z Z.heap y1 "java/lang/String" "value" "[B" (.ref ty1)) (Cy1 : Fld Z Z.heap y1 "java/lang/String" "coder" "B" (.int (0 : Int32))) (Ky1 : Arv Z Z.heap ty1 ky1 .byte (5 : Int32) ((([(97 : Int32), (110 : Int32), (110 : Int32), (104 : Int32), (105 : Int32)] : List Int32).map (fun c => c.toInt8.toInt32)).map Value.int) (.int (0 : Int32))) (Fg2 : Fld Z Z.heap g2 "com/example/runs_to_scores/runstoscores/formats/Subtask" "label" "Ljava/lang/String;" (.ref y2)) (Ey2 : Exa Z Z.heap y2 "java/lang/String") (Vy2 : Fld Z Z.heap y2 "java/lang/String" "value" "[B" (.ref ty2)) (Cy2 : Fld Z Z.heap y2 "java/lang/String" "coder" "B" (.int (0 : Int32))) (Ky2 : Arv Z Z.heap ty2 ky2 .byte (7 : Int32) ((([(97 : Int32), (110 : Int32), (110 : Int32), (104 : Int32), (105 : Int32), (101 : Int32), (118 : Int32)] : List Int32).map (fun c => c.toInt8.toInt32)).map Value.int) (.int (0 : Int32))) (Sg0 : Sta Z Z.heap "com/example/runs_to_scores/runstoscores/formats/Subtask" "TRIAGE" "Lcom/example/runs_to_scores/runstoscores/formats/Subtask;" (.ref g0)) (Sg1 : Sta Z Z.heap "com/example/runs_to_scores/runstoscores/formats/Subtask" "ANNHI" "Lcom/example/runs_to_scores/runstoscores/formats/Subtask;" (.ref g1)) (Sg2 : Sta Z Z.heap "com/example/runs_to_scores/runstoscores/formats/Subtask" "ANNHIEV" "Lcom/example/runs_to_scores/runstoscores/formats/Subtask;" (.ref g2)) :
    ∃ s₂ o, Steps p.tables e below (T0.setTop (mkF m 171 #[.val (.int p1), .val (.long p2), .second, .val (.int p3), .val (.int md), .val (.ref xB), s6, .val (.int nn), .val (.int d8), .val (.int ps), .val (.int mc), .val (.ref bA), .unset, .unset] [])) s₂ ∧ s₂.status = .running ∧ Ended s₂ below o ∧ ∃ v L, o = .returned v ∧ Q0 Z p1 p2 p3 bV kV g0 y0 ty0 ky0 g1 y1 ty1 ky1 g2 y2 ty2 ky2 G1 G3 h0 n0 v s₂.heap L ∧ ReturnedEndW s o s₂ L 32 5312 := by
  have kn0 : ∀ t, own_S p e below T0 (mkF m 171 #[.val (.int p1), .val (.long p2), .second, .val (.int p3), .val (.int md), .val (.ref xB), s6, .val (.int nn), .val (.int d8), .val (.int ps), .val (.int mc), .val (.ref bA), .unset, .unset] []) t → own_S p e below T0 (mkF m 171 #[.val (.int p1), .val (.long p2), .second, .val (.int p3), .val (.int md), .val (.ref xB), s6, .val (.int nn), .val (.int d8), .val (.int ps), .val (.int mc), .val (.ref bA), .unset, .unset] []) t := fun t k => k
  have CR0 := CHr.refl H0
  have kn1 : ∀ t, own_S p e below T0 (mkF m 184 #[.val (.int p1), .val (.long p2), .second, .val (.int p3), .val (.int md), .val (.ref xB), s6, .val (.int nn), .val (.int d8), .val (.int ps), .val (.int mc), .val (.ref bA), .unset, .unset] [(.int mc), (.int ps), (.int d8), (.long p2), (.int (3 : Int32)), (.ref xB), (.int (3 : Int32)), (.ref bA)]) t → own_S p e below T0 (mkF m 171 #[.val (.int p1), .val (.long p2), .second, .val (.int p3), .val (.int md), .val (.ref xB), s6, .val (.int nn), .val (.int d8), .val (.int ps), .val (.int mc), .val (.ref bA), .unset, .unset] []) t := fun t kt => kn0 t (by
    show own_S p e below T0 (mkF m 171 #[.val (.int p1), .val (.long p2), .second, .val (.int p3), .val (.int md), .val (.ref xB), s6, .val (.int nn), .val (.int d8), .val (.int ps), .val (.int mc), .val (.ref bA), .unset, .unset] []) _
    refine XS.aload X0.here hx rfl (hb hby at_171) rfl rfl ?_
    show own_S p e below T0 (mkF m 173 #[.val (.int p1), .val (.long p2), .second, .val (.int p3), .val (.int md), .val (.ref xB), s6, .val (.int nn), .val (.int d8), .val (.int ps), .val (.int mc), .val (.ref bA), .unset, .unset] [(.ref bA)]) _
    refine XS.iconst X0.here hx rfl (hb hby at_173) ?_
    show own_S p e below T0 (mkF m 174 #[.val (.int p1), .val (.long p2), .second, .val (.int p3), .val (.int md), .val (.ref xB), s6, .val (.int nn), .val (.int d8), .val (.int ps), .val (.int mc), .val (.ref bA), .unset, .unset] [(.int (3 : Int32)), (.ref bA)]) _
    refine XS.aload X0.here hx rfl (hb hby at_174) rfl rfl ?_
    show own_S p e below T0 (mkF m 176 #[.val (.int p1), .val (.long p2), .second, .val (.int p3), .val (.int md), .val (.ref xB), s6, .val (.int nn), .val (.int d8), .val (.int ps), .val (.int mc), .val (.ref bA), .unset, .unset] [(.ref xB), (.int (3 : Int32)), (.ref bA)]) _
    refine XS.iconst X0.here hx rfl (hb hby at_176) ?_
    show own_S p e below T0 (mkF m 177 #[.val (.int p1), .val (.long p2), .second, .val (.int p3), .val (.int md), .val (.ref xB), s6, .val (.int nn), .val (.int d8), .val (.int ps), .val (.int mc), .val (.ref bA), .unset, .unset] [(.int (3 : Int32)), (.ref xB), (.int (3 : Int32)), (.ref bA)]) _
    refine XS.lloadN X0.here hx rfl (hb hby at_177) rfl ?_
    show own_S p e below T0 (mkF m 178 #[.val (.int p1), .val (.long p2), .second, .val (.int p3), .val (.int md), .val (.ref xB), s6, .val (.int nn), .val (.int d8), .val (.int ps), .val (.int mc), .val (.ref bA), .unset, .unset] [(.long p2), (.int (3 : Int32)), (.ref xB), (.int (3 : Int32)), (.ref bA)]) _
    refine XS.iload X0.here hx rfl (hb hby at_178) rfl ?_
    show own_S p e below T0 (mkF m 180 #[.val (.int p1), .val (.long p2), .second, .val (.int p3), .val (.int md), .val (.ref xB), s6, .val (.int nn), .val (.int d8), .val (.int ps), .val (.int mc), .val (.ref bA), .unset, .unset] [(.int d8), (.long p2), (.int (3 : Int32)), (.ref xB), (.int (3 : Int32)), (.ref bA)]) _
    refine XS.iload X0.here hx rfl (hb hby at_180) rfl ?_
    show own_S p e below T0 (mkF m 182 #[.val (.int p1), .val (.long p2), .second, .val (.int p3), .val (.int md), .val (.ref xB), s6, .val (.int nn), .val (.int d8), .val (.int ps), .val (.int mc), .val (.ref bA), .unset, .unset] [(.int ps), (.int d8), (.long p2), (.int (3 : Int32)), (.ref xB), (.int (3 : Int32)), (.ref bA)]) _
    refine XS.iload X0.here hx rfl (hb hby at_182) rfl ?_
    exact kt)
  obtain ⟨_, _, ⟨T2, L2, cc2, ss2⟩, -, X2, ⟨Lc2, hQ2, l2, y2, z2⟩, st2⟩ := Jvm.LawKit.callS X0 hx (y := (⟨"com/example/runs_to_scores/runstoscores/formats/SubtaskLabelledPinLaw", "pick", "(Ljava/lang/String;IJZIC)C"⟩ : MethodName)) hown (mvT hZ (hw _ (List.mem_of_getElem? (i := 22) rfl))) (mvT hZ (hw _ (List.mem_of_getElem? (i := 23) rfl))) (mvT hZ (hw _ (List.mem_of_getElem? (i := 24) rfl))) (mvT hZ (hw _ (List.mem_of_getElem? (i := 25) rfl))) (by decide) (backOf (W := 2) (rm3 l Z a0 hw [] xB (3 : Int32) p2 d8 ps mc tB kB csB 3 G1 G3 h0 n0 Z0 E_xB V_xB C_xB K_xB hp_xB hl_xB rfl (by decide) okm O0 O2 P5 O4 rG3) hZ (hw _ (List.mem_of_getElem? (i := 25) rfl)) (hw _ (List.mem_of_getElem? (i := 24) rfl)) (by decide) (by decide)) (g := (mkF m 184 #[.val (.int p1), .val (.long p2), .second, .val (.int p3), .val (.int md), .val (.ref xB), s6, .val (.int nn), .val (.int d8), .val (.int ps), .val (.int mc), .val (.ref bA), .unset, .unset] [(.int mc), (.int ps), (.int d8), (.long p2), (.int (3 : Int32)), (.ref xB), (.int (3 : Int32)), (.ref bA)])) rfl (by rw [hml]; rfl) (argsL := [(.ref xB), (.int (3 : Int32)), (.long p2), (.int d8), (.int ps), (.int mc)]) (rest := [(.int (3 : Int32)), (.ref bA)]) (lenOf pd_8 rfl) rfl (by show 2 * 0 + _ ≤ _; exact Nat.le_of_eq rfl) (hb hby at_184) (fun _ _ => ⟨rfl, e0, (by decide : 3 + 0 ≤ _), (by decide : 39 + 0 ≤ _)⟩)
  dsimp only [Pt.U, Pt.locs, Pt.cells, Pt.slots] at X2 l2 y2 z2 st2 hQ2
  subst l2 y2 z2
  have X2 : Stand p l e _ _ m _ below meth c T2 _ 3 39 := X2
  obtain ⟨c3, rfl, Nq2, eq2, ok3⟩ := hQ2
  have Nf2 := Fr.app Nf0 Nq2
  have kn3 : ∀ t, own_S p e below T2 (mkF m 187 #[.val (.int p1), .val (.long p2), .second, .val (.int p3), .val (.int md), .val (.ref xB), s6, .val (.int nn), .val (.int d8), .val (.int ps), .val (.int mc), .val (.ref bA), .unset, .unset] [(.int c3), (.int (3 : Int32)), (.ref bA)]) t → own_S p e below T0 (mkF m 171 #[.val (.int p1), .val (.long p2), .second, .val (.int p3), .val (.int md), .val (.ref xB), s6, .val (.int nn), .val (.int d8), .val (.int ps), .val (.int mc), .val (.ref bA), .unset, .unset] []) t := fun t kt => kn1 t (st2 _ kt)
  obtain ⟨cl4, Ar4, q4, Sz4, Ng4, Hs4, Gs4⟩ := id A_bA
  have hin4 : ¬ ((3 : Int32) < 0 ∨ cl4.slots.size ≤ ((3 : Int32)).toNatClampNeg) := inb_of Sz4 ⟨by decide, by decide⟩
  obtain ⟨T4, h4, X4, e4, W4, st4⟩ := stC X2 hx hZ eq2 Ar4 (j := (3 : Int32)) hin4 (g := (mkF m 187 #[.val (.int p1), .val (.long p2), .second, .val (.int p3), .val (.int md), .val (.ref xB), s6, .val (.int nn), .val (.int d8), .val (.int ps), .val (.int mc), .val (.ref bA), .unset, .unset] [(.int c3), (.int (3 : Int32)), (.ref bA)])) rfl rfl (hb hby at_187)
  have CS5 := CHr.wr W4 (Safe.arr hZ.alike Ar4 nofun) CR0.1
  have CR5 := CR0.trans CS5
  have Z6 : n0 ≤ h4.size := Nat.le_trans Z0 (Keep.of_wr W4).1
  have hk7 := Nat.le_trans hk0 (Keep.of_wr W4).1
  have Od8 : Old Z n0 h4 := O0.wr W4 g_bA
  have V4 : Arv Z h4 bA kA .char (7 : Int32) [(.int c0), (.int c1), (.int c2), (.int (c3.toUInt32.toUInt16.toUInt32.toInt32)), (.int (0 : Int32)), (.int (0 : Int32)), (.int (0 : Int32))] (.int (0 : Int32)) := Arv.set Ar4 q4 Sz4 Ng4 Hs4 Gs4 (fits_nar_char _) W4 3 rfl (Nat.le_of_ble_eq_true rfl)
  rw [(show (c3.toUInt32.toUInt16.toUInt32.toInt32) = c3 from ok3.2.2)] at V4
  have Nf9 := Fr.snoc X4 Nf2 g_bA
  have kn10 : ∀ t, own_S p e below T4 (mkF m 188 #[.val (.int p1), .val (.long p2), .second, .val (.int p3), .val (.int md), .val (.ref xB), s6, .val (.int nn), .val (.int d8), .val (.int ps), .val (.int mc), .val (.ref bA), .unset, .unset] []) t → own_S p e below T0 (mkF m 171 #[.val (.int p1), .val (.long p2), .second, .val (.int p3), .val (.int md), .val (.ref xB), s6, .val (.int nn), .val (.int d8), .val (.int ps), .val (.int mc), .val (.ref bA), .unset, .unset] []) t := fun t kt => kn3 t (st4 _ kt)
  have kn11 : ∀ t, own_S p e below T4 (mkF m 201 #[.val (.int p1), .val (.long p2), .second, .val (.int p3), .val (.int md), .val (.ref xB), s6, .val (.int nn), .val (.int d8), .val (.int ps), .val (.int mc), .val (.ref bA), .unset, .unset] [(.int mc), (.int ps), (.int d8), (.long p2), (.int (4 : Int32)), (.ref xB), (.int (4 : Int32)), (.ref bA)]) t → own_S p e below T0 (mkF m 171 #[.val (.int p1), .val (.long p2), .second, .val (.int p3), .val (.int md), .val (.ref xB), s6, .val (.int nn), .val (.int d8), .val (.int ps), .val (.int mc), .val (.ref bA), .unset, .unset] []) t := fun t kt => kn10 t (by
    show own_S p e below T4 (mkF m 188 #[.val (.int p1), .val (.long p2), .second, .val (.int p3), .val (.int md), .val (.ref xB), s6, .val (.int nn), .val (.int d8), .val (.int ps), .val (.int mc), .val (.ref bA), .unset, .unset] []) _
    refine XS.aload X4.here hx rfl (hb hby at_188) rfl rfl ?_
    show own_S p e below T4 (mkF m 190 #[.val (.int p1), .val (.long p2), .second, .val (.int p3), .val (.int md), .val (.ref xB), s6, .val (.int nn), .val (.int d8), .val (.int ps), .val (.int mc), .val (.ref bA), .unset, .unset] [(.ref bA)]) _
    refine XS.iconst X4.here hx rfl (hb hby at_190) ?_
    show own_S p e below T4 (mkF m 191 #[.val (.int p1), .val (.long p2), .second, .val (.int p3), .val (.int md), .val (.ref xB), s6, .val (.int nn), .val (.int d8), .val (.int ps), .val (.int mc), .val (.ref bA), .unset, .unset] [(.int (4 : Int32)), (.ref bA)]) _
    refine XS.aload X4.here hx rfl (hb hby at_191) rfl rfl ?_
    show own_S p e below T4 (mkF m 193 #[.val (.int p1), .val (.long p2), .second, .val (.int p3), .val (.int md), .val (.ref xB), s6, .val (.int nn), .val (.int d8), .val (.int ps), .val (.int mc), .val (.ref bA), .unset, .unset] [(.ref xB), (.int (4 : Int32)), (.ref bA)]) _
    refine XS.iconst X4.here hx rfl (hb hby at_193) ?_
    show own_S p e below T4 (mkF m 194 #[.val (.int p1), .val (.long p2), .second, .val (.int p3), .val (.int md), .val (.ref xB), s6, .val (.int nn), .val (.int d8), .val (.int ps), .val (.int mc), .val (.ref bA), .unset, .unset] [(.int (4 : Int32)), (.ref xB), (.int (4 : Int32)), (.ref bA)]) _
    refine XS.lloadN X4.here hx rfl (hb hby at_194) rfl ?_
    show own_S p e below T4 (mkF m 195 #[.val (.int p1), .val (.long p2), .second, .val (.int p3), .val (.int md), .val (.ref xB), s6, .val (.int nn), .val (.int d8), .val (.int ps), .val (.int mc), .val (.ref bA), .unset, .unset] [(.long p2), (.int (4 : Int32)), (.ref xB), (.int (4 : Int32)), (.ref bA)]) _
    refine XS.iload X4.here hx rfl (hb hby at_195) rfl ?_
    show own_S p e below T4 (mkF m 197 #[.val (.int p1), .val (.long p2), .second, .val (.int p3), .val (.int md), .val (.ref xB), s6, .val (.int nn), .val (.int d8), .val (.int ps), .val (.int mc), .val (.ref bA), .unset, .unset] [(.int d8), (.long p2), (.int (4 : Int32)), (.ref xB), (.int (4 : Int32)), (.ref bA)]) _
    refine XS.iload X4.here hx rfl (hb hby at_197) rfl ?_
    show own_S p e below T4 (mkF m 199 #[.val (.int p1), .val (.long p2), .second, .val (.int p3), .val (.int md), .val (.ref xB), s6, .val (.int nn), .val (.int d8), .val (.int ps), .val (.int mc), .val (.ref bA), .unset, .unset] [(.int ps), (.int d8), (.long p2), (.int (4 : Int32)), (.ref xB), (.int (4 : Int32)), (.ref bA)]) _
    refine XS.iload X4.here hx rfl (hb hby at_199) rfl ?_
    exact kt)
  have f13 := (E_xB.wr W4)
  have f14 := (V_xB.other W4 (Or.inl nxb))
  have f15 := (C_xB.other W4 (Or.inl nxb))
  have f16 := (K_xB.other W4 ntb)
  obtain ⟨_, _, ⟨T12, L12, cc12, ss12⟩, -, X12, ⟨Lc12, hQ12, l12, y12, z12⟩, st12⟩ := Jvm.LawKit.callS X4 hx (y := (⟨"com/example/runs_to_scores/runstoscores/formats/SubtaskLabelledPinLaw", "pick", "(Ljava/lang/String;IJZIC)C"⟩ : MethodName)) hown (mvT hZ (hw _ (List.mem_of_getElem? (i := 22) rfl))) (mvT hZ (hw _ (List.mem_of_getElem? (i := 23) rfl))) (mvT hZ (hw _ (List.mem_of_getElem? (i := 24) rfl))) (mvT hZ (hw _ (List.mem_of_getElem? (i := 25) rfl))) (by decide) (backOf (W := 2) (rm3 l Z a0 hw [] xB (4 : Int32) p2 d8 ps mc tB kB csB 4 G1 G3 h4 n0 Z6 f13 f14 f15 f16 hp_xB hl_xB rfl (by decide) okm Od8 O2 P5 O4 rG3) hZ (hw _ (List.mem_of_getElem? (i := 25) rfl)) (hw _ (List.mem_of_getElem? (i := 24) rfl)) (by decide) (by decide)) (g := (mkF m 201 #[.val (.int p1), .val (.long p2), .second, .val (.int p3), .val (.int md), .val (.ref xB), s6, .val (.int nn), .val (.int d8), .val (.int ps), .val (.int mc), .val (.ref bA), .unset, .unset] [(.int mc), (.int ps), (.int d8), (.long p2), (.int (4 : Int32)), (.ref xB), (.int (4 : Int32)), (.ref bA)])) rfl (by rw [hml]; rfl) (argsL := [(.ref xB), (.int (4 : Int32)), (.long p2), (.int d8), (.int ps), (.int mc)]) (rest := [(.int (4 : Int32)), (.ref bA)]) (lenOf pd_8 rfl) rfl (by show 2 * 0 + _ ≤ _; exact Nat.le_of_eq rfl) (hb hby at_201) (fun _ _ => ⟨rfl, e4, (by decide : 3 + 0 ≤ _), (by decide : 39 + 0 ≤ _)⟩)
  dsimp only [Pt.U, Pt.locs, Pt.cells, Pt.slots] at X12 l12 y12 z12 st12 hQ12
  subst l12 y12 z12
  have X12 : Stand p l e _ _ m _ below meth c T12 _ 3 39 := X12
  obtain ⟨c4, rfl, Nq12, eq12, ok4⟩ := hQ12
  have Nf12 := Fr.app Nf9 Nq12
  have kn17 : ∀ t, own_S p e below T12 (mkF m 204 #[.val (.int p1), .val (.long p2), .second, .val (.int p3), .val (.int md), .val (.ref xB), s6, .val (.int nn), .val (.int d8), .val (.int ps), .val (.int mc), .val (.ref bA), .unset, .unset] [(.int c4), (.int (4 : Int32)), (.ref bA)]) t → own_S p e below T0 (mkF m 171 #[.val (.int p1), .val (.long p2), .second, .val (.int p3), .val (.int md), .val (.ref xB), s6, .val (.int nn), .val (.int d8), .val (.int ps), .val (.int mc), .val (.ref bA), .unset, .unset] []) t := fun t kt => kn11 t (st12 _ kt)
  obtain ⟨cl18, Ar18, q18, Sz18, Ng18, Hs18, Gs18⟩ := id V4
  have hin18 : ¬ ((4 : Int32) < 0 ∨ cl18.slots.size ≤ ((4 : Int32)).toNatClampNeg) := inb_of Sz18 ⟨by decide, by decide⟩
  obtain ⟨T18, h18, X18, e18, W18, st18⟩ := stC X12 hx hZ eq12 Ar18 (j := (4 : Int32)) hin18 (g := (mkF m 204 #[.val (.int p1), .val (.long p2), .second, .val (.int p3), .val (.int md), .val (.ref xB), s6, .val (.int nn), .val (.int d8), .val (.int ps), .val (.int mc), .val (.ref bA), .unset, .unset] [(.int c4), (.int (4 : Int32)), (.ref bA)])) rfl rfl (hb hby at_204)
  have CS19 := CHr.wr W18 (Safe.arr hZ.alike Ar18 nofun) CR5.1
  have CR19 := CR5.trans CS19
  have Z20 : n0 ≤ h18.size := Nat.le_trans Z6 (Keep.of_wr W18).1
  have hk21 := Nat.le_trans hk7 (Keep.of_wr W18).1
  have Od22 : Old Z n0 h18 := Od8.wr W18 g_bA
  have V18 : Arv Z h18 bA kA .char (7 : Int32) [(.int c0), (.int c1), (.int c2), (.int c3), (.int (c4.toUInt32.toUInt16.toUInt32.toInt32)), (.int (0 : Int32)), (.int (0 : Int32))] (.int (0 : Int32)) := Arv.set Ar18 q18 Sz18 Ng18 Hs18 Gs18 (fits_nar_char _) W18 4 rfl (Nat.le_of_ble_eq_true rfl)
  rw [(show (c4.toUInt32.toUInt16.toUInt32.toInt32) = c4 from ok4.2.2)] at V18
  have Nf23 := Fr.snoc X18 Nf12 g_bA
  have kn24 : ∀ t, own_S p e below T18 (mkF m 205 #[.val (.int p1), .val (.long p2), .second, .val (.int p3), .val (.int md), .val (.ref xB), s6, .val (.int nn), .val (.int d8), .val (.int ps), .val (.int mc), .val (.ref bA), .unset, .unset] []) t → own_S p e below T0 (mkF m 171 #[.val (.int p1), .val (.long p2), .second, .val (.int p3), .val (.int md), .val (.ref xB), s6, .val (.int nn), .val (.int d8), .val (.int ps), .val (.int mc), .val (.ref bA), .unset, .unset] []) t := fun t kt => kn17 t (st18 _ kt)
  have kn25 : ∀ t, own_S p e below T18 (mkF m 218 #[.val (.int p1), .val (.long p2), .second, .val (.int p3), .val (.int md), .val (.ref xB), s6, .val (.int nn), .val (.int d8), .val (.int ps), .val (.int mc), .val (.ref bA), .unset, .unset] [(.int mc), (.int ps), (.int d8), (.long p2), (.int (5 : Int32)), (.ref xB), (.int (5 : Int32)), (.ref bA)]) t → own_S p e below T0 (mkF m 171 #[.val (.int p1), .val (.long p2), .second, .val (.int p3), .val (.int md), .val (.ref xB), s6, .val (.int nn), .val (.int d8), .val (.int ps), .val (.int mc), .val (.ref bA), .unset, .unset] []) t := fun t kt => kn24 t (by
    show own_S p e below T18 (mkF m 205 #[.val (.int p1), .val (.long p2), .second, .val (.int p3), .val (.int md), .val (.ref xB), s6, .val (.int nn), .val (.int d8), .val (.int ps), .val (.int mc), .val (.ref bA), .unset, .unset] []) _
    refine XS.aload X18.here hx rfl (hb hby at_205) rfl rfl ?_
    show own_S p e below T18 (mkF m 207 #[.val (.int p1), .val (.long p2), .second, .val (.int p3), .val (.int md), .val (.ref xB), s6, .val (.int nn), .val (.int d8), .val (.int ps), .val (.int mc), .val (.ref bA), .unset, .unset] [(.ref bA)]) _
    refine XS.iconst X18.here hx rfl (hb hby at_207) ?_
    show own_S p e below T18 (mkF m 208 #[.val (.int p1), .val (.long p2), .second, .val (.int p3), .val (.int md), .val (.ref xB), s6, .val (.int nn), .val (.int d8), .val (.int ps), .val (.int mc), .val (.ref bA), .unset, .unset] [(.int (5 : Int32)), (.ref bA)]) _
    refine XS.aload X18.here hx rfl (hb hby at_208) rfl rfl ?_
    show own_S p e below T18 (mkF m 210 #[.val (.int p1), .val (.long p2), .second, .val (.int p3), .val (.int md), .val (.ref xB), s6, .val (.int nn), .val (.int d8), .val (.int ps), .val (.int mc), .val (.ref bA), .unset, .unset] [(.ref xB), (.int (5 : Int32)), (.ref bA)]) _
    refine XS.iconst X18.here hx rfl (hb hby at_210) ?_
    show own_S p e below T18 (mkF m 211 #[.val (.int p1), .val (.long p2), .second, .val (.int p3), .val (.int md), .val (.ref xB), s6, .val (.int nn), .val (.int d8), .val (.int ps), .val (.int mc), .val (.ref bA), .unset, .unset] [(.int (5 : Int32)), (.ref xB), (.int (5 : Int32)), (.ref bA)]) _
    refine XS.lloadN X18.here hx rfl (hb hby at_211) rfl ?_
    show own_S p e below T18 (mkF m 212 #[.val (.int p1), .val (.long p2), .second, .val (.int p3), .val (.int md), .val (.ref xB), s6, .val (.int nn), .val (.int d8), .val (.int ps), .val (.int mc), .val (.ref bA), .unset, .unset] [(.long p2), (.int (5 : Int32)), (.ref xB), (.int (5 : Int32)), (.ref bA)]) _
    refine XS.iload X18.here hx rfl (hb hby at_212) rfl ?_
    show own_S p e below T18 (mkF m 214 #[.val (.int p1), .val (.long p2), .second, .val (.int p3), .val (.int md), .val (.ref xB), s6, .val (.int nn), .val (.int d8), .val (.int ps), .val (.int mc), .val (.ref bA), .unset, .unset] [(.int d8), (.long p2), (.int (5 : Int32)), (.ref xB), (.int (5 : Int32)), (.ref bA)]) _
    refine XS.iload X18.here hx rfl (hb hby at_214) rfl ?_
    show own_S p e below T18 (mkF m 216 #[.val (.int p1), .val (.long p2), .second, .val (.int p3), .val (.int md), .val (.ref xB), s6, .val (.int nn), .val (.int d8), .val (.int ps), .val (.int mc), .val (.ref bA), .unset, .unset] [(.int ps), (.int d8), (.long p2), (.int (5 : Int32)), (.ref xB), (.int (5 : Int32)), (.ref bA)]) _
    refine XS.iload X18.here hx rfl (hb hby at_216) rfl ?_
    exact kt)
  have f27 := (f13.wr W18)
  have f28 := (f14.other W18 (Or.inl nxb))
  have f29 := (f15.other W18 (Or.inl nxb))
  have f30 := (f16.other W18 ntb)
  obtain ⟨_, _, ⟨T26, L26, cc26, ss26⟩, -, X26, ⟨Lc26, hQ26, l26, y26, z26⟩, st26⟩ := Jvm.LawKit.callS X18 hx (y := (⟨"com/example/runs_to_scores/runstoscores/formats/SubtaskLabelledPinLaw", "pick", "(Ljava/lang/String;IJZIC)C"⟩ : MethodName)) hown (mvT hZ (hw _ (List.mem_of_getElem? (i := 22) rfl))) (mvT hZ (hw _ (List.mem_of_getElem? (i := 23) rfl))) (mvT hZ (hw _ (List.mem_of_getElem? (i := 24) rfl))) (mvT hZ (hw _ (List.mem_of_getElem? (i := 25) rfl))) (by decide) (backOf (W := 2) (rm3 l Z a0 hw [] xB (5 : Int32) p2 d8 ps mc tB kB csB 5 G1 G3 h18 n0 Z20 f27 f28 f29 f30 hp_xB hl_xB rfl (by decide) okm Od22 O2 P5 O4 rG3) hZ (hw _ (List.mem_of_getElem? (i := 25) rfl)) (hw _ (List.mem_of_getElem? (i := 24) rfl)) (by decide) (by decide)) (g := (mkF m 218 #[.val (.int p1), .val (.long p2), .second, .val (.int p3), .val (.int md), .val (.ref xB), s6, .val (.int nn), .val (.int d8), .val (.int ps), .val (.int mc), .val (.ref bA), .unset, .unset] [(.int mc), (.int ps), (.int d8), (.long p2), (.int (5 : Int32)), (.ref xB), (.int (5 : Int32)), (.ref bA)])) rfl (by rw [hml]; rfl) (argsL := [(.ref xB), (.int (5 : Int32)), (.long p2), (.int d8), (.int ps), (.int mc)]) (rest := [(.int (5 : Int32)), (.ref bA)]) (lenOf pd_8 rfl) rfl (by show 2 * 0 + _ ≤ _; exact Nat.le_of_eq rfl) (hb hby at_218) (fun _ _ => ⟨rfl, e18, (by decide : 3 + 0 ≤ _), (by decide : 39 + 0 ≤ _)⟩)
  dsimp only [Pt.U, Pt.locs, Pt.cells, Pt.slots] at X26 l26 y26 z26 st26 hQ26
  subst l26 y26 z26
  have X26 : Stand p l e _ _ m _ below meth c T26 _ 3 39 := X26
  obtain ⟨c5, rfl, Nq26, eq26, ok5⟩ := hQ26
  have Nf26 := Fr.app Nf23 Nq26
  have kn31 : ∀ t, own_S p e below T26 (mkF m 221 #[.val (.int p1), .val (.long p2), .second, .val (.int p3), .val (.int md), .val (.ref xB), s6, .val (.int nn), .val (.int d8), .val (.int ps), .val (.int mc), .val (.ref bA), .unset, .unset] [(.int c5), (.int (5 : Int32)), (.ref bA)]) t → own_S p e below T0 (mkF m 171 #[.val (.int p1), .val (.long p2), .second, .val (.int p3), .val (.int md), .val (.ref xB), s6, .val (.int nn), .val (.int d8), .val (.int ps), .val (.int mc), .val (.ref bA), .unset, .unset] []) t := fun t kt => kn25 t (st26 _ kt)
  obtain ⟨cl32, Ar32, q32, Sz32, Ng32, Hs32, Gs32⟩ := id V18
  have hin32 : ¬ ((5 : Int32) < 0 ∨ cl32.slots.size ≤ ((5 : Int32)).toNatClampNeg) := inb_of Sz32 ⟨by decide, by decide⟩
  obtain ⟨T32, h32, X32, e32, W32, st32⟩ := stC X26 hx hZ eq26 Ar32 (j := (5 : Int32)) hin32 (g := (mkF m 221 #[.val (.int p1), .val (.long p2), .second, .val (.int p3), .val (.int md), .val (.ref xB), s6, .val (.int nn), .val (.int d8), .val (.int ps), .val (.int mc), .val (.ref bA), .unset, .unset] [(.int c5), (.int (5 : Int32)), (.ref bA)])) rfl rfl (hb hby at_221)
  have CS33 := CHr.wr W32 (Safe.arr hZ.alike Ar32 nofun) CR19.1
  have CR33 := CR19.trans CS33
  have Z34 : n0 ≤ h32.size := Nat.le_trans Z20 (Keep.of_wr W32).1
  have hk35 := Nat.le_trans hk21 (Keep.of_wr W32).1
  have Od36 : Old Z n0 h32 := Od22.wr W32 g_bA
  have V32 : Arv Z h32 bA kA .char (7 : Int32) [(.int c0), (.int c1), (.int c2), (.int c3), (.int c4), (.int (c5.toUInt32.toUInt16.toUInt32.toInt32)), (.int (0 : Int32))] (.int (0 : Int32)) := Arv.set Ar32 q32 Sz32 Ng32 Hs32 Gs32 (fits_nar_char _) W32 5 rfl (Nat.le_of_ble_eq_true rfl)
  rw [(show (c5.toUInt32.toUInt16.toUInt32.toInt32) = c5 from ok5.2.2)] at V32
  have Nf37 := Fr.snoc X32 Nf26 g_bA
  have kn38 : ∀ t, own_S p e below T32 (mkF m 222 #[.val (.int p1), .val (.long p2), .second, .val (.int p3), .val (.int md), .val (.ref xB), s6, .val (.int nn), .val (.int d8), .val (.int ps), .val (.int mc), .val (.ref bA), .unset, .unset] []) t → own_S p e below T0 (mkF m 171 #[.val (.int p1), .val (.long p2), .second, .val (.int p3), .val (.int md), .val (.ref xB), s6, .val (.int nn), .val (.int d8), .val (.int ps), .val (.int mc), .val (.ref bA), .unset, .unset] []) t := fun t kt => kn31 t (st32 _ kt)
  have kn39 : ∀ t, own_S p e below T32 (mkF m 237 #[.val (.int p1), .val (.long p2), .second, .val (.int p3), .val (.int md), .val (.ref xB), s6, .val (.int nn), .val (.int d8), .val (.int ps), .val (.int mc), .val (.ref bA), .unset, .unset] [(.int mc), (.int ps), (.int d8), (.long p2), (.int (6 : Int32)), (.ref xB), (.int (6 : Int32)), (.ref bA)]) t → own_S p e below T0 (mkF m 171 #[.val (.int p1), .val (.long p2), .second, .val (.int p3), .val (.int md), .val (.ref xB), s6, .val (.int nn), .val (.int d8), .val (.int ps), .val (.int mc), .val (.ref bA), .unset, .unset] []) t := fun t kt => kn38 t (by
    show own_S p e below T32 (mkF m 222 #[.val (.int p1), .val (.long p2), .second, .val (.int p3), .val (.int md), .val (.ref xB), s6, .val (.int nn), .val (.int d8), .val (.int ps), .val (.int mc), .val (.ref bA), .unset, .unset] []) _
    refine XS.aload X32.here hx rfl (hb hby at_222) rfl rfl ?_
    show own_S p e below T32 (mkF m 224 #[.val (.int p1), .val (.long p2), .second, .val (.int p3), .val (.int md), .val (.ref xB), s6, .val (.int nn), .val (.int d8), .val (.int ps), .val (.int mc), .val (.ref bA), .unset, .unset] [(.ref bA)]) _
    refine XS.bipush X32.here hx rfl (hb hby at_224) ?_
    show own_S p e below T32 (mkF m 226 #[.val (.int p1), .val (.long p2), .second, .val (.int p3), .val (.int md), .val (.ref xB), s6, .val (.int nn), .val (.int d8), .val (.int ps), .val (.int mc), .val (.ref bA), .unset, .unset] [(.int (6 : Int32)), (.ref bA)]) _
    refine XS.aload X32.here hx rfl (hb hby at_226) rfl rfl ?_
    show own_S p e below T32 (mkF m 228 #[.val (.int p1), .val (.long p2), .second, .val (.int p3), .val (.int md), .val (.ref xB), s6, .val (.int nn), .val (.int d8), .val (.int ps), .val (.int mc), .val (.ref bA), .unset, .unset] [(.ref xB), (.int (6 : Int32)), (.ref bA)]) _
    refine XS.bipush X32.here hx rfl (hb hby at_228) ?_
    show own_S p e below T32 (mkF m 230 #[.val (.int p1), .val (.long p2), .second, .val (.int p3), .val (.int md), .val (.ref xB), s6, .val (.int nn), .val (.int d8), .val (.int ps), .val (.int mc), .val (.ref bA), .unset, .unset] [(.int (6 : Int32)), (.ref xB), (.int (6 : Int32)), (.ref bA)]) _
    refine XS.lloadN X32.here hx rfl (hb hby at_230) rfl ?_
    show own_S p e below T32 (mkF m 231 #[.val (.int p1), .val (.long p2), .second, .val (.int p3), .val (.int md), .val (.ref xB), s6, .val (.int nn), .val (.int d8), .val (.int ps), .val (.int mc), .val (.ref bA), .unset, .unset] [(.long p2), (.int (6 : Int32)), (.ref xB), (.int (6 : Int32)), (.ref bA)]) _
    refine XS.iload X32.here hx rfl (hb hby at_231) rfl ?_
    show own_S p e below T32 (mkF m 233 #[.val (.int p1), .val (.long p2), .second, .val (.int p3), .val (.int md), .val (.ref xB), s6, .val (.int nn), .val (.int d8), .val (.int ps), .val (.int mc), .val (.ref bA), .unset, .unset] [(.int d8), (.long p2), (.int (6 : Int32)), (.ref xB), (.int (6 : Int32)), (.ref bA)]) _
    refine XS.iload X32.here hx rfl (hb hby at_233) rfl ?_
    show own_S p e below T32 (mkF m 235 #[.val (.int p1), .val (.long p2), .second, .val (.int p3), .val (.int md), .val (.ref xB), s6, .val (.int nn), .val (.int d8), .val (.int ps), .val (.int mc), .val (.ref bA), .unset, .unset] [(.int ps), (.int d8), (.long p2), (.int (6 : Int32)), (.ref xB), (.int (6 : Int32)), (.ref bA)]) _
    refine XS.iload X32.here hx rfl (hb hby at_235) rfl ?_
    exact kt)
  have f41 := (f27.wr W32)
  have f42 := (f28.other W32 (Or.inl nxb))
  have f43 := (f29.other W32 (Or.inl nxb))
  have f44 := (f30.other W32 ntb)
  obtain ⟨_, _, ⟨T40, L40, cc40, ss40⟩, -, X40, ⟨Lc40, hQ40, l40, y40, z40⟩, st40⟩ := Jvm.LawKit.callS X32 hx (y := (⟨"com/example/runs_to_scores/runstoscores/formats/SubtaskLabelledPinLaw", "pick", "(Ljava/lang/String;IJZIC)C"⟩ : MethodName)) hown (mvT hZ (hw _ (List.mem_of_getElem? (i := 22) rfl))) (mvT hZ (hw _ (List.mem_of_getElem? (i := 23) rfl))) (mvT hZ (hw _ (List.mem_of_getElem? (i := 24) rfl))) (mvT hZ (hw _ (List.mem_of_getElem? (i := 25) rfl))) (by decide) (backOf (W := 2) (rm3 l Z a0 hw [] xB (6 : Int32) p2 d8 ps mc tB kB csB 6 G1 G3 h32 n0 Z34 f41 f42 f43 f44 hp_xB hl_xB rfl (by decide) okm Od36 O2 P5 O4 rG3) hZ (hw _ (List.mem_of_getElem? (i := 25) rfl)) (hw _ (List.mem_of_getElem? (i := 24) rfl)) (by decide) (by decide)) (g := (mkF m 237 #[.val (.int p1), .val (.long p2), .second, .val (.int p3), .val (.int md), .val (.ref xB), s6, .val (.int nn), .val (.int d8), .val (.int ps), .val (.int mc), .val (.ref bA), .unset, .unset] [(.int mc), (.int ps), (.int d8), (.long p2), (.int (6 : Int32)), (.ref xB), (.int (6 : Int32)), (.ref bA)])) rfl (by rw [hml]; rfl) (argsL := [(.ref xB), (.int (6 : Int32)), (.long p2), (.int d8), (.int ps), (.int mc)]) (rest := [(.int (6 : Int32)), (.ref bA)]) (lenOf pd_8 rfl) rfl (by show 2 * 0 + _ ≤ _; exact Nat.le_of_eq rfl) (hb hby at_237) (fun _ _ => ⟨rfl, e32, (by decide : 3 + 0 ≤ _), (by decide : 39 + 0 ≤ _)⟩)
  dsimp only [Pt.U, Pt.locs, Pt.cells, Pt.slots] at X40 l40 y40 z40 st40 hQ40
  subst l40 y40 z40
  have X40 : Stand p l e _ _ m _ below meth c T40 _ 3 39 := X40
  obtain ⟨c6, rfl, Nq40, eq40, ok6⟩ := hQ40
  have Nf40 := Fr.app Nf37 Nq40
  have kn45 : ∀ t, own_S p e below T40 (mkF m 240 #[.val (.int p1), .val (.long p2), .second, .val (.int p3), .val (.int md), .val (.ref xB), s6, .val (.int nn), .val (.int d8), .val (.int ps), .val (.int mc), .val (.ref bA), .unset, .unset] [(.int c6), (.int (6 : Int32)), (.ref bA)]) t → own_S p e below T0 (mkF m 171 #[.val (.int p1), .val (.long p2), .second, .val (.int p3), .val (.int md), .val (.ref xB), s6, .val (.int nn), .val (.int d8), .val (.int ps), .val (.int mc), .val (.ref bA), .unset, .unset] []) t := fun t kt => kn39 t (st40 _ kt)
  obtain ⟨cl46, Ar46, q46, Sz46, Ng46, Hs46, Gs46⟩ := id V32
  have hin46 : ¬ ((6 : Int32) < 0 ∨ cl46.slots.size ≤ ((6 : Int32)).toNatClampNeg) := inb_of Sz46 ⟨by decide, by decide⟩
  obtain ⟨T46, h46, X46, e46, W46, st46⟩ := stC X40 hx hZ eq40 Ar46 (j := (6 : Int32)) hin46 (g := (mkF m 240 #[.val (.int p1), .val (.long p2), .second, .val (.int p3), .val (.int md), .val (.ref xB), s6, .val (.int nn), .val (.int d8), .val (.int ps), .val (.int mc), .val (.ref bA), .unset, .unset] [(.int c6), (.int (6 : Int32)), (.ref bA)])) rfl rfl (hb hby at_240)
  have CS47 := CHr.wr W46 (Safe.arr hZ.alike Ar46 nofun) CR33.1
  have CR47 := CR33.trans CS47
  have Z48 : n0 ≤ h46.size := Nat.le_trans Z34 (Keep.of_wr W46).1
  have hk49 := Nat.le_trans hk35 (Keep.of_wr W46).1
  have Od50 : Old Z n0 h46 := Od36.wr W46 g_bA
  have V46 : Arv Z h46 bA kA .char (7 : Int32) [(.int c0), (.int c1), (.int c2), (.int c3), (.int c4), (.int c5), (.int (c6.toUInt32.toUInt16.toUInt32.toInt32))] (.int (0 : Int32)) := Arv.set Ar46 q46 Sz46 Ng46 Hs46 Gs46 (fits_nar_char _) W46 6 rfl (Nat.le_of_ble_eq_true rfl)
  rw [(show (c6.toUInt32.toUInt16.toUInt32.toInt32) = c6 from ok6.2.2)] at V46
  have Nf51 := Fr.snoc X46 Nf40 g_bA
  have kn52 : ∀ t, own_S p e below T46 (mkF m 241 #[.val (.int p1), .val (.long p2), .second, .val (.int p3), .val (.int md), .val (.ref xB), s6, .val (.int nn), .val (.int d8), .val (.int ps), .val (.int mc), .val (.ref bA), .unset, .unset] []) t → own_S p e below T0 (mkF m 171 #[.val (.int p1), .val (.long p2), .second, .val (.int p3), .val (.int md), .val (.ref xB), s6, .val (.int nn), .val (.int d8), .val (.int ps), .val (.int mc), .val (.ref bA), .unset, .unset] []) t := fun t kt => kn45 t (st46 _ kt)
  obtain ⟨s2, o2, t1, t2, t3, t4⟩ := tl5 (n0 := n0) p1 p2 p3 bV kV g0 y0 ty0 ky0 g1 y1 ty1 ky1 g2 y2 ty2 ky2 G1 G3 (.val (.int md)) (.val (.ref xB)) (s6) nn (.val (.int d8)) (.val (.int ps)) (.val (.int mc)) bA kA c0 c1 c2 c3 c4 c5 c6 (X46.mono (by decide) (by decide)) hx hZ hw hby hml hown hret hlk e46 Nf51 Z48 hS0 hk49 CR47.1 V46 ok0 ok1 ok2 ok3 ok4 ok5 ok6 Od50 O2 P5 O4 rG3 SV EV VV Fg0 Ey0 Vy0 Cy0 Ky0 Fg1 Ey1 Vy1 Cy1 Ky1 Fg2 Ey2 Vy2 Cy2 Ky2 Sg0 Sg1 Sg2
  exact ⟨s2, o2, id (kn52 _ (t1)), t2, t3, t4⟩

set_option maxRecDepth 65536 in
set_option maxHeartbeats 40000000 in
theorem tl3 {p : Program} {l : Launch} {e : Env} {s : State} {m : MethodId} {args : Array Value} {below : List Frame} {meth : Method} {c : Code} {T0 : State} {locs : List Loc} {Z : State} {a0 : Array Value} {h0 : Heap} {n0 : Nat} (p1 : Int32) (p2 : Int64) (p3 : Int32) (bV : Addr) (kV : ClassId) (g0 : Addr) (y0 : Addr) (ty0 : Addr) (ky0 : ClassId) (g1 : Addr) (y1 : Addr) (ty1 : Addr) (ky1 : ClassId) (g2 : Addr) (y2 : Addr) (ty2 : Addr) (ky2 : ClassId) (G1 : Int32) (G3 : Value) (md : Int32) (xB : Addr) (tB : Addr) (kB : ClassId) (csB : List Int32) (s6 : Slot) (nn : Int32) (d8 : Int32) {vm0 : Vm} {k0 : Nat}
    (X0 : Stand p l e room_1 (s.setVm vm0) m args below meth c T0 locs 2 32) (hx : p.tables.exec = Jvm.exec) (hZ : Z.Warmed39 (s.setVm vm0).vm) (hw : ∀ d ∈ tables_1, d.before a0 Z = true) (hby : c.code = code) (hml : c.maxLocals = 14) (hown : (s.setVm vm0).vm.findClass "com/example/runs_to_scores/runstoscores/formats/SubtaskLabelledPinLaw" = some m.cls) (hret : meth.sig.returnType = some .boolean) (hlk : meth.locks = false) (e0 : T0.heap = h0) (Nf0 : Fr n0 locs) (Z0 : n0 ≤ h0.size) (hS0 : s.Since vm0 k0) (hk0 : k0 ≤ h0.size) (H0 : CHv Z consts_1 vm0 h0) (E_xB : Exa Z h0 xB "java/lang/String") (V_xB : Fld Z h0 xB "java/lang/String" "value" "[B" (.ref tB)) (C_xB : Fld Z h0 xB "java/lang/String" "coder" "B" (.int (0 : Int32))) (K_xB : Arv Z h0 tB kB .byte (Int32.ofNat csB.length) ((csB.map (fun c => c.toInt8.toInt32)).map Value.int) (.int (0 : Int32))) (hp_xB : ∀ c ∈ csB, ¬ c < 0 ∧ ¬ (255 : Int32) < c) (hl_xB : csB.length ≤ 64) (O0 : Old Z n0 h0) (O2 : Sta Z Z.heap "java/lang/String" "COMPACT_STRINGS" "Z" (.int G1)) (P5 : ¬ (G1 = (0 : Int32))) (O4 : Sta Z Z.heap "jdk/internal/util/Preconditions" "SIOOBE_FORMATTER" "Ljava/util/function/BiFunction;" G3) (rG3 : G3.isRef = true) (SV : Sta Z Z.heap "com/example/runs_to_scores/runstoscores/formats/Subtask" "$VALUES" "[Lcom/example/runs_to_scores/runstoscores/formats/Subtask;" (.ref bV)) (EV : Exa Z Z.heap bV "[Lcom/example/runs_to_scores/runstoscores/formats/Subtask;") (VV : Arv Z Z.heap bV kV (.object "com/example/runs_to_scores/runstoscores/formats/Subtask") (3 : Int32) [(.ref g0), (.ref g1), (.ref g2)] .null) (Fg0 : Fld Z Z.heap g0 "com/example/runs_to_scores/runstoscores/formats/Subtask" "label" "Ljava/lang/String;" (.ref y0)) (Ey0 : Exa Z Z.heap y0 "java/lang/String") (Vy0 : Fld Z Z.heap y0 "java/lang/String" "value" "[B" (.ref ty0)) (Cy0 : Fld Z Z.heap y0 "java/lang/String" "coder" "B" (.int (0 : Int32))) (Ky0 : Arv Z Z.heap ty0 ky0 .byte (6 : Int32) ((([(116 : Int32), (114 : Int32), (105 : Int32), (97 : Int32), (103 : Int32), (101 : Int32)] : List Int32).map (fun c => c.toInt8.toInt32)).map Value.int) (.int (0 : Int32))) (Fg1 : Fld Z Z.heap g1 "com/example/runs_to_scores/runstoscores/formats/Subtask" "label" "Ljava/lang/String;" (.ref y1)) (Ey1 : Exa Z Z.heap y1 "java/lang/String") (Vy1 : Fld Z Z.heap y1 "java/lang/String" "value" "[B" (.ref ty1)) (Cy1 : Fld Z Z.heap y1 "java/lang/String" "coder" "B" (.int (0 : Int32))) (Ky1 : Arv Z Z.heap ty1 ky1 .byte (5 : Int32) ((([(97 : Int32), (110 : Int32), (110 : Int32), (104 : Int32), (105 : Int32)] : List Int32).map (fun c => c.toInt8.toInt32)).map Value.int) (.int (0 : Int32))) (Fg2 : Fld Z Z.heap g2 "com/example/runs_to_scores/runstoscores/formats/Subtask" "label" "Ljava/lang/String;" (.ref y2)) (Ey2 : Exa Z Z.heap y2 "java/lang/String") (Vy2 : Fld Z Z.heap y2 "java/lang/String" "value" "[B" (.ref ty2)) (Cy2 : Fld Z Z.heap y2 "java/lang/String" "coder" "B" (.int (0 : Int32))) (Ky2 : Arv Z Z.heap ty2 ky2 .byte (7 : Int32) ((([(97 : Int32), (110 : Int32), (110 : Int32), (104 : Int32), (105 : Int32), (101 : Int32), (118 : Int32)] : List Int32).map (fun c => c.toInt8.toInt32)).map Value.int) (.int (0 : Int32))) (Sg0 : Sta Z Z.heap "com/example/runs_to_scores/runstoscores/formats/Subtask" "TRIAGE" "Lcom/example/runs_to_scores/runstoscores/formats/Subtask;" (.ref g0)) (Sg1 : Sta Z Z.heap "com/example/runs_to_scores/runstoscores/formats/Subtask" "ANNHI" "Lcom/example/runs_to_scores/runstoscores/formats/Subtask;" (.ref g1)) (Sg2 : Sta Z Z.heap "com/example/runs_to_scores/runstoscores/formats/Subtask" "ANNHIEV" "Lcom/example/runs_to_scores/runstoscores/formats/Subtask;" (.ref g2)) :
    ∃ s₂ o, Steps p.tables e below (T0.setTop (mkF m 94 #[.val (.int p1), .val (.long p2), .second, .val (.int p3), .val (.int md), .val (.ref xB), s6, .val (.int nn), .unset, .unset, .unset, .unset, .unset, .unset] [(.int d8)])) s₂ ∧ s₂.status = .running ∧ Ended s₂ below o ∧ ∃ v L, o = .returned v ∧ Q0 Z p1 p2 p3 bV kV g0 y0 ty0 ky0 g1 y1 ty1 ky1 g2 y2 ty2 ky2 G1 G3 h0 n0 v s₂.heap L ∧ ReturnedEndW s o s₂ L 32 5312 := by
  have kn0 : ∀ t, own_S p e below T0 (mkF m 94 #[.val (.int p1), .val (.long p2), .second, .val (.int p3), .val (.int md), .val (.ref xB), s6, .val (.int nn), .unset, .unset, .unset, .unset, .unset, .unset] [(.int d8)]) t → own_S p e below T0 (mkF m 94 #[.val (.int p1), .val (.long p2), .second, .val (.int p3), .val (.int md), .val (.ref xB), s6, .val (.int nn), .unset, .unset, .unset, .unset, .unset, .unset] [(.int d8)]) t := fun t k => k
  have CR0 := CHr.refl H0
  have kn1 : ∀ t, own_S p e below T0 (mkF m 102 #[.val (.int p1), .val (.long p2), .second, .val (.int p3), .val (.int md), .val (.ref xB), s6, .val (.int nn), .val (.int d8), .unset, .unset, .unset, .unset, .unset] [(.int (((p3.toUInt32 >>> ((1 : Int32) &&& 31).toUInt32).toInt32) &&& (7 : Int32)))]) t → own_S p e below T0 (mkF m 94 #[.val (.int p1), .val (.long p2), .second, .val (.int p3), .val (.int md), .val (.ref xB), s6, .val (.int nn), .unset, .unset, .unset, .unset, .unset, .unset] [(.int d8)]) t := fun t kt => kn0 t (by
    show own_S p e below T0 (mkF m 94 #[.val (.int p1), .val (.long p2), .second, .val (.int p3), .val (.int md), .val (.ref xB), s6, .val (.int nn), .unset, .unset, .unset, .unset, .unset, .unset] [(.int d8)]) _
    refine XS.istore X0.here hx rfl (hb hby at_94) rfl (l' := #[.val (.int p1), .val (.long p2), .second, .val (.int p3), .val (.int md), .val (.ref xB), s6, .val (.int nn), .val (.int d8), .unset, .unset, .unset, .unset, .unset]) rfl ?_
    show own_S p e below T0 (mkF m 96 #[.val (.int p1), .val (.long p2), .second, .val (.int p3), .val (.int md), .val (.ref xB), s6, .val (.int nn), .val (.int d8), .unset, .unset, .unset, .unset, .unset] []) _
    refine XS.iloadN X0.here hx rfl (hb hby at_96) rfl ?_
    show own_S p e below T0 (mkF m 97 #[.val (.int p1), .val (.long p2), .second, .val (.int p3), .val (.int md), .val (.ref xB), s6, .val (.int nn), .val (.int d8), .unset, .unset, .unset, .unset, .unset] [(.int p3)]) _
    refine XS.iconst X0.here hx rfl (hb hby at_97) ?_
    show own_S p e below T0 (mkF m 98 #[.val (.int p1), .val (.long p2), .second, .val (.int p3), .val (.int md), .val (.ref xB), s6, .val (.int nn), .val (.int d8), .unset, .unset, .unset, .unset, .unset] [(.int (1 : Int32)), (.int p3)]) _
    refine XS.iushr X0.here hx rfl (hb hby at_98) rfl ?_
    show own_S p e below T0 (mkF m 99 #[.val (.int p1), .val (.long p2), .second, .val (.int p3), .val (.int md), .val (.ref xB), s6, .val (.int nn), .val (.int d8), .unset, .unset, .unset, .unset, .unset] [(.int ((p3.toUInt32 >>> ((1 : Int32) &&& 31).toUInt32).toInt32))]) _
    refine XS.bipush X0.here hx rfl (hb hby at_99) ?_
    show own_S p e below T0 (mkF m 101 #[.val (.int p1), .val (.long p2), .second, .val (.int p3), .val (.int md), .val (.ref xB), s6, .val (.int nn), .val (.int d8), .unset, .unset, .unset, .unset, .unset] [(.int (7 : Int32)), (.int ((p3.toUInt32 >>> ((1 : Int32) &&& 31).toUInt32).toInt32))]) _
    refine XS.iand X0.here hx rfl (hb hby at_101) rfl ?_
    exact kt)
  obtain ⟨ps, hps⟩ : ∃ z : Int32, z = (((p3.toUInt32 >>> ((1 : Int32) &&& 31).toUInt32).toInt32) &&& (7 : Int32)) := ⟨_, rfl⟩
  rw [← hps] at kn1
  have kn2 : ∀ t, own_S p e below T0 (mkF m 112 #[.val (.int p1), .val (.long p2), .second, .val (.int p3), .val (.int md), .val (.ref xB), s6, .val (.int nn), .val (.int d8), .val (.int ps), .unset, .unset, .unset, .unset] [(.int ((((p3.toUInt32 >>> ((4 : Int32) &&& 31).toUInt32).toInt32) &&& (255 : Int32)).toUInt32.toUInt16.toUInt32.toInt32))]) t → own_S p e below T0 (mkF m 94 #[.val (.int p1), .val (.long p2), .second, .val (.int p3), .val (.int md), .val (.ref xB), s6, .val (.int nn), .unset, .unset, .unset, .unset, .unset, .unset] [(.int d8)]) t := fun t kt => kn1 t (by
    show own_S p e below T0 (mkF m 102 #[.val (.int p1), .val (.long p2), .second, .val (.int p3), .val (.int md), .val (.ref xB), s6, .val (.int nn), .val (.int d8), .unset, .unset, .unset, .unset, .unset] [(.int ps)]) _
    refine XS.istore X0.here hx rfl (hb hby at_102) rfl (l' := #[.val (.int p1), .val (.long p2), .second, .val (.int p3), .val (.int md), .val (.ref xB), s6, .val (.int nn), .val (.int d8), .val (.int ps), .unset, .unset, .unset, .unset]) rfl ?_
    show own_S p e below T0 (mkF m 104 #[.val (.int p1), .val (.long p2), .second, .val (.int p3), .val (.int md), .val (.ref xB), s6, .val (.int nn), .val (.int d8), .val (.int ps), .unset, .unset, .unset, .unset] []) _
    refine XS.iloadN X0.here hx rfl (hb hby at_104) rfl ?_
    show own_S p e below T0 (mkF m 105 #[.val (.int p1), .val (.long p2), .second, .val (.int p3), .val (.int md), .val (.ref xB), s6, .val (.int nn), .val (.int d8), .val (.int ps), .unset, .unset, .unset, .unset] [(.int p3)]) _
    refine XS.iconst X0.here hx rfl (hb hby at_105) ?_
    show own_S p e below T0 (mkF m 106 #[.val (.int p1), .val (.long p2), .second, .val (.int p3), .val (.int md), .val (.ref xB), s6, .val (.int nn), .val (.int d8), .val (.int ps), .unset, .unset, .unset, .unset] [(.int (4 : Int32)), (.int p3)]) _
    refine XS.iushr X0.here hx rfl (hb hby at_106) rfl ?_
    show own_S p e below T0 (mkF m 107 #[.val (.int p1), .val (.long p2), .second, .val (.int p3), .val (.int md), .val (.ref xB), s6, .val (.int nn), .val (.int d8), .val (.int ps), .unset, .unset, .unset, .unset] [(.int ((p3.toUInt32 >>> ((4 : Int32) &&& 31).toUInt32).toInt32))]) _
    refine XS.sipush X0.here hx rfl (hb hby at_107) ?_
    show own_S p e below T0 (mkF m 110 #[.val (.int p1), .val (.long p2), .second, .val (.int p3), .val (.int md), .val (.ref xB), s6, .val (.int nn), .val (.int d8), .val (.int ps), .unset, .unset, .unset, .unset] [(.int (255 : Int32)), (.int ((p3.toUInt32 >>> ((4 : Int32) &&& 31).toUInt32).toInt32))]) _
    refine XS.iand X0.here hx rfl (hb hby at_110) rfl ?_
    show own_S p e below T0 (mkF m 111 #[.val (.int p1), .val (.long p2), .second, .val (.int p3), .val (.int md), .val (.ref xB), s6, .val (.int nn), .val (.int d8), .val (.int ps), .unset, .unset, .unset, .unset] [(.int (((p3.toUInt32 >>> ((4 : Int32) &&& 31).toUInt32).toInt32) &&& (255 : Int32)))]) _
    refine XS.i2c X0.here hx rfl (hb hby at_111) rfl ?_
    exact kt)
  obtain ⟨mc, hmc⟩ : ∃ z : Int32, z = ((((p3.toUInt32 >>> ((4 : Int32) &&& 31).toUInt32).toInt32) &&& (255 : Int32)).toUInt32.toUInt16.toUInt32.toInt32) := ⟨_, rfl⟩
  rw [← hmc] at kn2
  have okm : own_ok mc := by rw [hmc]; exact own_okA _
  have kn3 : ∀ t, own_S p e below T0 (mkF m 116 #[.val (.int p1), .val (.long p2), .second, .val (.int p3), .val (.int md), .val (.ref xB), s6, .val (.int nn), .val (.int d8), .val (.int ps), .val (.int mc), .unset, .unset, .unset] [(.int (7 : Int32))]) t → own_S p e below T0 (mkF m 94 #[.val (.int p1), .val (.long p2), .second, .val (.int p3), .val (.int md), .val (.ref xB), s6, .val (.int nn), .unset, .unset, .unset, .unset, .unset, .unset] [(.int d8)]) t := fun t kt => kn2 t (by
    show own_S p e below T0 (mkF m 112 #[.val (.int p1), .val (.long p2), .second, .val (.int p3), .val (.int md), .val (.ref xB), s6, .val (.int nn), .val (.int d8), .val (.int ps), .unset, .unset, .unset, .unset] [(.int mc)]) _
    refine XS.istore X0.here hx rfl (hb hby at_112) rfl (l' := #[.val (.int p1), .val (.long p2), .second, .val (.int p3), .val (.int md), .val (.ref xB), s6, .val (.int nn), .val (.int d8), .val (.int ps), .val (.int mc), .unset, .unset, .unset]) rfl ?_
    show own_S p e below T0 (mkF m 114 #[.val (.int p1), .val (.long p2), .second, .val (.int p3), .val (.int md), .val (.ref xB), s6, .val (.int nn), .val (.int d8), .val (.int ps), .val (.int mc), .unset, .unset, .unset] []) _
    refine XS.bipush X0.here hx rfl (hb hby at_114) ?_
    exact kt)
  obtain ⟨T4, h4, kk4, X4, e4, E4, A4, st4⟩ := newP X0 hx hZ (hw _ (List.mem_of_getElem? (i := 21) rfl)) e0 (g := (mkF m 116 #[.val (.int p1), .val (.long p2), .second, .val (.int p3), .val (.int md), .val (.ref xB), s6, .val (.int nn), .val (.int d8), .val (.int ps), .val (.int mc), .unset, .unset, .unset] [(.int (7 : Int32))])) rfl (hb hby at_116) rfl (by decide) (cap := 7) (by decide) (by decide) (by decide) (by decide)
  obtain ⟨b4, g4⟩ : ∃ z, z = h0.size := ⟨_, rfl⟩
  rw [← g4] at A4 st4
  have g_b4 : n0 ≤ b4 := Nat.le_trans Z0 (Nat.le_of_eq g4.symm)
  have ne_xB_b4 : xB ≠ b4 := Nat.ne_of_lt (Nat.lt_of_lt_of_le E_xB.lt (Nat.le_of_eq g4.symm))
  have ne_tB_b4 : tB ≠ b4 := Nat.ne_of_lt (Nat.lt_of_lt_of_le K_xB.lt (Nat.le_of_eq g4.symm))
  have CS5 := CHr.ext E4 CR0.1
  have CR5 := CR0.trans CS5
  have Z6 : n0 ≤ h4.size := Nat.le_trans Z0 E4.1
  have hk7 := Nat.le_trans hk0 E4.1
  have Od8 : Old Z n0 h4 := O0.ext E4
  have V4 : Arv Z h4 b4 kk4 .char (7 : Int32) [(.int (0 : Int32)), (.int (0 : Int32)), (.int (0 : Int32)), (.int (0 : Int32)), (.int (0 : Int32)), (.int (0 : Int32)), (.int (0 : Int32))] (.int (0 : Int32)) := (Arv.new A4 (by decide)).pad (pad_rep [] (.int (0 : Int32)) 7)
  have kn9 : ∀ t, own_S p e below T4 (mkF m 118 #[.val (.int p1), .val (.long p2), .second, .val (.int p3), .val (.int md), .val (.ref xB), s6, .val (.int nn), .val (.int d8), .val (.int ps), .val (.int mc), .unset, .unset, .unset] [(.ref b4)]) t → own_S p e below T0 (mkF m 94 #[.val (.int p1), .val (.long p2), .second, .val (.int p3), .val (.int md), .val (.ref xB), s6, .val (.int nn), .unset, .unset, .unset, .unset, .unset, .unset] [(.int d8)]) t := fun t kt => kn3 t (st4 _ kt)
  have kn10 : ∀ t, own_S p e below T4 (mkF m 133 #[.val (.int p1), .val (.long p2), .second, .val (.int p3), .val (.int md), .val (.ref xB), s6, .val (.int nn), .val (.int d8), .val (.int ps), .val (.int mc), .val (.ref b4), .unset, .unset] [(.int mc), (.int ps), (.int d8), (.long p2), (.int (0 : Int32)), (.ref xB), (.int (0 : Int32)), (.ref b4)]) t → own_S p e below T0 (mkF m 94 #[.val (.int p1), .val (.long p2), .second, .val (.int p3), .val (.int md), .val (.ref xB), s6, .val (.int nn), .unset, .unset, .unset, .unset, .unset, .unset] [(.int d8)]) t := fun t kt => kn9 t (by
    show own_S p e below T4 (mkF m 118 #[.val (.int p1), .val (.long p2), .second, .val (.int p3), .val (.int md), .val (.ref xB), s6, .val (.int nn), .val (.int d8), .val (.int ps), .val (.int mc), .unset, .unset, .unset] [(.ref b4)]) _
    refine XS.astore X4.here hx rfl (hb hby at_118) rfl rfl (l' := #[.val (.int p1), .val (.long p2), .second, .val (.int p3), .val (.int md), .val (.ref xB), s6, .val (.int nn), .val (.int d8), .val (.int ps), .val (.int mc), .val (.ref b4), .unset, .unset]) rfl ?_
    show own_S p e below T4 (mkF m 120 #[.val (.int p1), .val (.long p2), .second, .val (.int p3), .val (.int md), .val (.ref xB), s6, .val (.int nn), .val (.int d8), .val (.int ps), .val (.int mc), .val (.ref b4), .unset, .unset] []) _
    refine XS.aload X4.here hx rfl (hb hby at_120) rfl rfl ?_
    show own_S p e below T4 (mkF m 122 #[.val (.int p1), .val (.long p2), .second, .val (.int p3), .val (.int md), .val (.ref xB), s6, .val (.int nn), .val (.int d8), .val (.int ps), .val (.int mc), .val (.ref b4), .unset, .unset] [(.ref b4)]) _
    refine XS.iconst X4.here hx rfl (hb hby at_122) ?_
    show own_S p e below T4 (mkF m 123 #[.val (.int p1), .val (.long p2), .second, .val (.int p3), .val (.int md), .val (.ref xB), s6, .val (.int nn), .val (.int d8), .val (.int ps), .val (.int mc), .val (.ref b4), .unset, .unset] [(.int (0 : Int32)), (.ref b4)]) _
    refine XS.aload X4.here hx rfl (hb hby at_123) rfl rfl ?_
    show own_S p e below T4 (mkF m 125 #[.val (.int p1), .val (.long p2), .second, .val (.int p3), .val (.int md), .val (.ref xB), s6, .val (.int nn), .val (.int d8), .val (.int ps), .val (.int mc), .val (.ref b4), .unset, .unset] [(.ref xB), (.int (0 : Int32)), (.ref b4)]) _
    refine XS.iconst X4.here hx rfl (hb hby at_125) ?_
    show own_S p e below T4 (mkF m 126 #[.val (.int p1), .val (.long p2), .second, .val (.int p3), .val (.int md), .val (.ref xB), s6, .val (.int nn), .val (.int d8), .val (.int ps), .val (.int mc), .val (.ref b4), .unset, .unset] [(.int (0 : Int32)), (.ref xB), (.int (0 : Int32)), (.ref b4)]) _
    refine XS.lloadN X4.here hx rfl (hb hby at_126) rfl ?_
    show own_S p e below T4 (mkF m 127 #[.val (.int p1), .val (.long p2), .second, .val (.int p3), .val (.int md), .val (.ref xB), s6, .val (.int nn), .val (.int d8), .val (.int ps), .val (.int mc), .val (.ref b4), .unset, .unset] [(.long p2), (.int (0 : Int32)), (.ref xB), (.int (0 : Int32)), (.ref b4)]) _
    refine XS.iload X4.here hx rfl (hb hby at_127) rfl ?_
    show own_S p e below T4 (mkF m 129 #[.val (.int p1), .val (.long p2), .second, .val (.int p3), .val (.int md), .val (.ref xB), s6, .val (.int nn), .val (.int d8), .val (.int ps), .val (.int mc), .val (.ref b4), .unset, .unset] [(.int d8), (.long p2), (.int (0 : Int32)), (.ref xB), (.int (0 : Int32)), (.ref b4)]) _
    refine XS.iload X4.here hx rfl (hb hby at_129) rfl ?_
    show own_S p e below T4 (mkF m 131 #[.val (.int p1), .val (.long p2), .second, .val (.int p3), .val (.int md), .val (.ref xB), s6, .val (.int nn), .val (.int d8), .val (.int ps), .val (.int mc), .val (.ref b4), .unset, .unset] [(.int ps), (.int d8), (.long p2), (.int (0 : Int32)), (.ref xB), (.int (0 : Int32)), (.ref b4)]) _
    refine XS.iload X4.here hx rfl (hb hby at_131) rfl ?_
    exact kt)
  have f12 := (E_xB.ext E4)
  have f13 := (V_xB.ext E4)
  have f14 := (C_xB.ext E4)
  have f15 := (K_xB.ext E4)
  obtain ⟨_, _, ⟨T11, L11, cc11, ss11⟩, -, X11, ⟨Lc11, hQ11, l11, y11, z11⟩, st11⟩ := Jvm.LawKit.callS X4 hx (y := (⟨"com/example/runs_to_scores/runstoscores/formats/SubtaskLabelledPinLaw", "pick", "(Ljava/lang/String;IJZIC)C"⟩ : MethodName)) hown (mvT hZ (hw _ (List.mem_of_getElem? (i := 22) rfl))) (mvT hZ (hw _ (List.mem_of_getElem? (i := 23) rfl))) (mvT hZ (hw _ (List.mem_of_getElem? (i := 24) rfl))) (mvT hZ (hw _ (List.mem_of_getElem? (i := 25) rfl))) (by decide) (backOf (W := 2) (rm3 l Z a0 hw [] xB (0 : Int32) p2 d8 ps mc tB kB csB 0 G1 G3 h4 n0 Z6 f12 f13 f14 f15 hp_xB hl_xB rfl (by decide) okm Od8 O2 P5 O4 rG3) hZ (hw _ (List.mem_of_getElem? (i := 25) rfl)) (hw _ (List.mem_of_getElem? (i := 24) rfl)) (by decide) (by decide)) (g := (mkF m 133 #[.val (.int p1), .val (.long p2), .second, .val (.int p3), .val (.int md), .val (.ref xB), s6, .val (.int nn), .val (.int d8), .val (.int ps), .val (.int mc), .val (.ref b4), .unset, .unset] [(.int mc), (.int ps), (.int d8), (.long p2), (.int (0 : Int32)), (.ref xB), (.int (0 : Int32)), (.ref b4)])) rfl (by rw [hml]; rfl) (argsL := [(.ref xB), (.int (0 : Int32)), (.long p2), (.int d8), (.int ps), (.int mc)]) (rest := [(.int (0 : Int32)), (.ref b4)]) (lenOf pd_8 rfl) rfl (by show 2 * 0 + _ ≤ _; exact Nat.le_of_eq rfl) (hb hby at_133) (fun _ _ => ⟨rfl, e4, (by decide : 3 + 0 ≤ _), (by decide : 39 + 0 ≤ _)⟩)
  dsimp only [Pt.U, Pt.locs, Pt.cells, Pt.slots] at X11 l11 y11 z11 st11 hQ11
  subst l11 y11 z11
  have X11 : Stand p l e _ _ m _ below meth c T11 _ 3 39 := X11
  obtain ⟨c0, rfl, Nq11, eq11, ok0⟩ := hQ11
  have Nf11 := Fr.app Nf0 Nq11
  have kn16 : ∀ t, own_S p e below T11 (mkF m 136 #[.val (.int p1), .val (.long p2), .second, .val (.int p3), .val (.int md), .val (.ref xB), s6, .val (.int nn), .val (.int d8), .val (.int ps), .val (.int mc), .val (.ref b4), .unset, .unset] [(.int c0), (.int (0 : Int32)), (.ref b4)]) t → own_S p e below T0 (mkF m 94 #[.val (.int p1), .val (.long p2), .second, .val (.int p3), .val (.int md), .val (.ref xB), s6, .val (.int nn), .unset, .unset, .unset, .unset, .unset, .unset] [(.int d8)]) t := fun t kt => kn10 t (st11 _ kt)
  obtain ⟨cl17, Ar17, q17, Sz17, Ng17, Hs17, Gs17⟩ := id V4
  have hin17 : ¬ ((0 : Int32) < 0 ∨ cl17.slots.size ≤ ((0 : Int32)).toNatClampNeg) := inb_of Sz17 ⟨by decide, by decide⟩
  obtain ⟨T17, h17, X17, e17, W17, st17⟩ := stC X11 hx hZ eq11 Ar17 (j := (0 : Int32)) hin17 (g := (mkF m 136 #[.val (.int p1), .val (.long p2), .second, .val (.int p3), .val (.int md), .val (.ref xB), s6, .val (.int nn), .val (.int d8), .val (.int ps), .val (.int mc), .val (.ref b4), .unset, .unset] [(.int c0), (.int (0 : Int32)), (.ref b4)])) rfl rfl (hb hby at_136)
  have CS18 := CHr.wr W17 (Safe.arr hZ.alike Ar17 nofun) CR5.1
  have CR18 := CR5.trans CS18
  have Z19 : n0 ≤ h17.size := Nat.le_trans Z6 (Keep.of_wr W17).1
  have hk20 := Nat.le_trans hk7 (Keep.of_wr W17).1
  have Od21 : Old Z n0 h17 := Od8.wr W17 g_b4
  have V17 : Arv Z h17 b4 kk4 .char (7 : Int32) [(.int (c0.toUInt32.toUInt16.toUInt32.toInt32)), (.int (0 : Int32)), (.int (0 : Int32)), (.int (0 : Int32)), (.int (0 : Int32)), (.int (0 : Int32)), (.int (0 : Int32))] (.int (0 : Int32)) := Arv.set Ar17 q17 Sz17 Ng17 Hs17 Gs17 (fits_nar_char _) W17 0 rfl (Nat.le_of_ble_eq_true rfl)
  rw [(show (c0.toUInt32.toUInt16.toUInt32.toInt32) = c0 from ok0.2.2)] at V17
  have Nf22 := Fr.snoc X17 Nf11 g_b4
  have kn23 : ∀ t, own_S p e below T17 (mkF m 137 #[.val (.int p1), .val (.long p2), .second, .val (.int p3), .val (.int md), .val (.ref xB), s6, .val (.int nn), .val (.int d8), .val (.int ps), .val (.int mc), .val (.ref b4), .unset, .unset] []) t → own_S p e below T0 (mkF m 94 #[.val (.int p1), .val (.long p2), .second, .val (.int p3), .val (.int md), .val (.ref xB), s6, .val (.int nn), .unset, .unset, .unset, .unset, .unset, .unset] [(.int d8)]) t := fun t kt => kn16 t (st17 _ kt)
  have kn24 : ∀ t, own_S p e below T17 (mkF m 150 #[.val (.int p1), .val (.long p2), .second, .val (.int p3), .val (.int md), .val (.ref xB), s6, .val (.int nn), .val (.int d8), .val (.int ps), .val (.int mc), .val (.ref b4), .unset, .unset] [(.int mc), (.int ps), (.int d8), (.long p2), (.int (1 : Int32)), (.ref xB), (.int (1 : Int32)), (.ref b4)]) t → own_S p e below T0 (mkF m 94 #[.val (.int p1), .val (.long p2), .second, .val (.int p3), .val (.int md), .val (.ref xB), s6, .val (.int nn), .unset, .unset, .unset, .unset, .unset, .unset] [(.int d8)]) t := fun t kt => kn23 t (by
    show own_S p e below T17 (mkF m 137 #[.val (.int p1), .val (.long p2), .second, .val (.int p3), .val (.int md), .val (.ref xB), s6, .val (.int nn), .val (.int d8), .val (.int ps), .val (.int mc), .val (.ref b4), .unset, .unset] []) _
    refine XS.aload X17.here hx rfl (hb hby at_137) rfl rfl ?_
    show own_S p e below T17 (mkF m 139 #[.val (.int p1), .val (.long p2), .second, .val (.int p3), .val (.int md), .val (.ref xB), s6, .val (.int nn), .val (.int d8), .val (.int ps), .val (.int mc), .val (.ref b4), .unset, .unset] [(.ref b4)]) _
    refine XS.iconst X17.here hx rfl (hb hby at_139) ?_
    show own_S p e below T17 (mkF m 140 #[.val (.int p1), .val (.long p2), .second, .val (.int p3), .val (.int md), .val (.ref xB), s6, .val (.int nn), .val (.int d8), .val (.int ps), .val (.int mc), .val (.ref b4), .unset, .unset] [(.int (1 : Int32)), (.ref b4)]) _
    refine XS.aload X17.here hx rfl (hb hby at_140) rfl rfl ?_
    show own_S p e below T17 (mkF m 142 #[.val (.int p1), .val (.long p2), .second, .val (.int p3), .val (.int md), .val (.ref xB), s6, .val (.int nn), .val (.int d8), .val (.int ps), .val (.int mc), .val (.ref b4), .unset, .unset] [(.ref xB), (.int (1 : Int32)), (.ref b4)]) _
    refine XS.iconst X17.here hx rfl (hb hby at_142) ?_
    show own_S p e below T17 (mkF m 143 #[.val (.int p1), .val (.long p2), .second, .val (.int p3), .val (.int md), .val (.ref xB), s6, .val (.int nn), .val (.int d8), .val (.int ps), .val (.int mc), .val (.ref b4), .unset, .unset] [(.int (1 : Int32)), (.ref xB), (.int (1 : Int32)), (.ref b4)]) _
    refine XS.lloadN X17.here hx rfl (hb hby at_143) rfl ?_
    show own_S p e below T17 (mkF m 144 #[.val (.int p1), .val (.long p2), .second, .val (.int p3), .val (.int md), .val (.ref xB), s6, .val (.int nn), .val (.int d8), .val (.int ps), .val (.int mc), .val (.ref b4), .unset, .unset] [(.long p2), (.int (1 : Int32)), (.ref xB), (.int (1 : Int32)), (.ref b4)]) _
    refine XS.iload X17.here hx rfl (hb hby at_144) rfl ?_
    show own_S p e below T17 (mkF m 146 #[.val (.int p1), .val (.long p2), .second, .val (.int p3), .val (.int md), .val (.ref xB), s6, .val (.int nn), .val (.int d8), .val (.int ps), .val (.int mc), .val (.ref b4), .unset, .unset] [(.int d8), (.long p2), (.int (1 : Int32)), (.ref xB), (.int (1 : Int32)), (.ref b4)]) _
    refine XS.iload X17.here hx rfl (hb hby at_146) rfl ?_
    show own_S p e below T17 (mkF m 148 #[.val (.int p1), .val (.long p2), .second, .val (.int p3), .val (.int md), .val (.ref xB), s6, .val (.int nn), .val (.int d8), .val (.int ps), .val (.int mc), .val (.ref b4), .unset, .unset] [(.int ps), (.int d8), (.long p2), (.int (1 : Int32)), (.ref xB), (.int (1 : Int32)), (.ref b4)]) _
    refine XS.iload X17.here hx rfl (hb hby at_148) rfl ?_
    exact kt)
  have f26 := (f12.wr W17)
  have f27 := (f13.other W17 (Or.inl ne_xB_b4))
  have f28 := (f14.other W17 (Or.inl ne_xB_b4))
  have f29 := (f15.other W17 ne_tB_b4)
  obtain ⟨_, _, ⟨T25, L25, cc25, ss25⟩, -, X25, ⟨Lc25, hQ25, l25, y25, z25⟩, st25⟩ := Jvm.LawKit.callS X17 hx (y := (⟨"com/example/runs_to_scores/runstoscores/formats/SubtaskLabelledPinLaw", "pick", "(Ljava/lang/String;IJZIC)C"⟩ : MethodName)) hown (mvT hZ (hw _ (List.mem_of_getElem? (i := 22) rfl))) (mvT hZ (hw _ (List.mem_of_getElem? (i := 23) rfl))) (mvT hZ (hw _ (List.mem_of_getElem? (i := 24) rfl))) (mvT hZ (hw _ (List.mem_of_getElem? (i := 25) rfl))) (by decide) (backOf (W := 2) (rm3 l Z a0 hw [] xB (1 : Int32) p2 d8 ps mc tB kB csB 1 G1 G3 h17 n0 Z19 f26 f27 f28 f29 hp_xB hl_xB rfl (by decide) okm Od21 O2 P5 O4 rG3) hZ (hw _ (List.mem_of_getElem? (i := 25) rfl)) (hw _ (List.mem_of_getElem? (i := 24) rfl)) (by decide) (by decide)) (g := (mkF m 150 #[.val (.int p1), .val (.long p2), .second, .val (.int p3), .val (.int md), .val (.ref xB), s6, .val (.int nn), .val (.int d8), .val (.int ps), .val (.int mc), .val (.ref b4), .unset, .unset] [(.int mc), (.int ps), (.int d8), (.long p2), (.int (1 : Int32)), (.ref xB), (.int (1 : Int32)), (.ref b4)])) rfl (by rw [hml]; rfl) (argsL := [(.ref xB), (.int (1 : Int32)), (.long p2), (.int d8), (.int ps), (.int mc)]) (rest := [(.int (1 : Int32)), (.ref b4)]) (lenOf pd_8 rfl) rfl (by show 2 * 0 + _ ≤ _; exact Nat.le_of_eq rfl) (hb hby at_150) (fun _ _ => ⟨rfl, e17, (by decide : 3 + 0 ≤ _), (by decide : 39 + 0 ≤ _)⟩)
  dsimp only [Pt.U, Pt.locs, Pt.cells, Pt.slots] at X25 l25 y25 z25 st25 hQ25
  subst l25 y25 z25
  have X25 : Stand p l e _ _ m _ below meth c T25 _ 3 39 := X25
  obtain ⟨c1, rfl, Nq25, eq25, ok1⟩ := hQ25
  have Nf25 := Fr.app Nf22 Nq25
  have kn30 : ∀ t, own_S p e below T25 (mkF m 153 #[.val (.int p1), .val (.long p2), .second, .val (.int p3), .val (.int md), .val (.ref xB), s6, .val (.int nn), .val (.int d8), .val (.int ps), .val (.int mc), .val (.ref b4), .unset, .unset] [(.int c1), (.int (1 : Int32)), (.ref b4)]) t → own_S p e below T0 (mkF m 94 #[.val (.int p1), .val (.long p2), .second, .val (.int p3), .val (.int md), .val (.ref xB), s6, .val (.int nn), .unset, .unset, .unset, .unset, .unset, .unset] [(.int d8)]) t := fun t kt => kn24 t (st25 _ kt)
  obtain ⟨cl31, Ar31, q31, Sz31, Ng31, Hs31, Gs31⟩ := id V17
  have hin31 : ¬ ((1 : Int32) < 0 ∨ cl31.slots.size ≤ ((1 : Int32)).toNatClampNeg) := inb_of Sz31 ⟨by decide, by decide⟩
  obtain ⟨T31, h31, X31, e31, W31, st31⟩ := stC X25 hx hZ eq25 Ar31 (j := (1 : Int32)) hin31 (g := (mkF m 153 #[.val (.int p1), .val (.long p2), .second, .val (.int p3), .val (.int md), .val (.ref xB), s6, .val (.int nn), .val (.int d8), .val (.int ps), .val (.int mc), .val (.ref b4), .unset, .unset] [(.int c1), (.int (1 : Int32)), (.ref b4)])) rfl rfl (hb hby at_153)
  have CS32 := CHr.wr W31 (Safe.arr hZ.alike Ar31 nofun) CR18.1
  have CR32 := CR18.trans CS32
  have Z33 : n0 ≤ h31.size := Nat.le_trans Z19 (Keep.of_wr W31).1
  have hk34 := Nat.le_trans hk20 (Keep.of_wr W31).1
  have Od35 : Old Z n0 h31 := Od21.wr W31 g_b4
  have V31 : Arv Z h31 b4 kk4 .char (7 : Int32) [(.int c0), (.int (c1.toUInt32.toUInt16.toUInt32.toInt32)), (.int (0 : Int32)), (.int (0 : Int32)), (.int (0 : Int32)), (.int (0 : Int32)), (.int (0 : Int32))] (.int (0 : Int32)) := Arv.set Ar31 q31 Sz31 Ng31 Hs31 Gs31 (fits_nar_char _) W31 1 rfl (Nat.le_of_ble_eq_true rfl)
  rw [(show (c1.toUInt32.toUInt16.toUInt32.toInt32) = c1 from ok1.2.2)] at V31
  have Nf36 := Fr.snoc X31 Nf25 g_b4
  have kn37 : ∀ t, own_S p e below T31 (mkF m 154 #[.val (.int p1), .val (.long p2), .second, .val (.int p3), .val (.int md), .val (.ref xB), s6, .val (.int nn), .val (.int d8), .val (.int ps), .val (.int mc), .val (.ref b4), .unset, .unset] []) t → own_S p e below T0 (mkF m 94 #[.val (.int p1), .val (.long p2), .second, .val (.int p3), .val (.int md), .val (.ref xB), s6, .val (.int nn), .unset, .unset, .unset, .unset, .unset, .unset] [(.int d8)]) t := fun t kt => kn30 t (st31 _ kt)
  have kn38 : ∀ t, own_S p e below T31 (mkF m 167 #[.val (.int p1), .val (.long p2), .second, .val (.int p3), .val (.int md), .val (.ref xB), s6, .val (.int nn), .val (.int d8), .val (.int ps), .val (.int mc), .val (.ref b4), .unset, .unset] [(.int mc), (.int ps), (.int d8), (.long p2), (.int (2 : Int32)), (.ref xB), (.int (2 : Int32)), (.ref b4)]) t → own_S p e below T0 (mkF m 94 #[.val (.int p1), .val (.long p2), .second, .val (.int p3), .val (.int md), .val (.ref xB), s6, .val (.int nn), .unset, .unset, .unset, .unset, .unset, .unset] [(.int d8)]) t := fun t kt => kn37 t (by
    show own_S p e below T31 (mkF m 154 #[.val (.int p1), .val (.long p2), .second, .val (.int p3), .val (.int md), .val (.ref xB), s6, .val (.int nn), .val (.int d8), .val (.int ps), .val (.int mc), .val (.ref b4), .unset, .unset] []) _
    refine XS.aload X31.here hx rfl (hb hby at_154) rfl rfl ?_
    show own_S p e below T31 (mkF m 156 #[.val (.int p1), .val (.long p2), .second, .val (.int p3), .val (.int md), .val (.ref xB), s6, .val (.int nn), .val (.int d8), .val (.int ps), .val (.int mc), .val (.ref b4), .unset, .unset] [(.ref b4)]) _
    refine XS.iconst X31.here hx rfl (hb hby at_156) ?_
    show own_S p e below T31 (mkF m 157 #[.val (.int p1), .val (.long p2), .second, .val (.int p3), .val (.int md), .val (.ref xB), s6, .val (.int nn), .val (.int d8), .val (.int ps), .val (.int mc), .val (.ref b4), .unset, .unset] [(.int (2 : Int32)), (.ref b4)]) _
    refine XS.aload X31.here hx rfl (hb hby at_157) rfl rfl ?_
    show own_S p e below T31 (mkF m 159 #[.val (.int p1), .val (.long p2), .second, .val (.int p3), .val (.int md), .val (.ref xB), s6, .val (.int nn), .val (.int d8), .val (.int ps), .val (.int mc), .val (.ref b4), .unset, .unset] [(.ref xB), (.int (2 : Int32)), (.ref b4)]) _
    refine XS.iconst X31.here hx rfl (hb hby at_159) ?_
    show own_S p e below T31 (mkF m 160 #[.val (.int p1), .val (.long p2), .second, .val (.int p3), .val (.int md), .val (.ref xB), s6, .val (.int nn), .val (.int d8), .val (.int ps), .val (.int mc), .val (.ref b4), .unset, .unset] [(.int (2 : Int32)), (.ref xB), (.int (2 : Int32)), (.ref b4)]) _
    refine XS.lloadN X31.here hx rfl (hb hby at_160) rfl ?_
    show own_S p e below T31 (mkF m 161 #[.val (.int p1), .val (.long p2), .second, .val (.int p3), .val (.int md), .val (.ref xB), s6, .val (.int nn), .val (.int d8), .val (.int ps), .val (.int mc), .val (.ref b4), .unset, .unset] [(.long p2), (.int (2 : Int32)), (.ref xB), (.int (2 : Int32)), (.ref b4)]) _
    refine XS.iload X31.here hx rfl (hb hby at_161) rfl ?_
    show own_S p e below T31 (mkF m 163 #[.val (.int p1), .val (.long p2), .second, .val (.int p3), .val (.int md), .val (.ref xB), s6, .val (.int nn), .val (.int d8), .val (.int ps), .val (.int mc), .val (.ref b4), .unset, .unset] [(.int d8), (.long p2), (.int (2 : Int32)), (.ref xB), (.int (2 : Int32)), (.ref b4)]) _
    refine XS.iload X31.here hx rfl (hb hby at_163) rfl ?_
    show own_S p e below T31 (mkF m 165 #[.val (.int p1), .val (.long p2), .second, .val (.int p3), .val (.int md), .val (.ref xB), s6, .val (.int nn), .val (.int d8), .val (.int ps), .val (.int mc), .val (.ref b4), .unset, .unset] [(.int ps), (.int d8), (.long p2), (.int (2 : Int32)), (.ref xB), (.int (2 : Int32)), (.ref b4)]) _
    refine XS.iload X31.here hx rfl (hb hby at_165) rfl ?_
    exact kt)
  have f40 := (f26.wr W31)
  have f41 := (f27.other W31 (Or.inl ne_xB_b4))
  have f42 := (f28.other W31 (Or.inl ne_xB_b4))
  have f43 := (f29.other W31 ne_tB_b4)
  obtain ⟨_, _, ⟨T39, L39, cc39, ss39⟩, -, X39, ⟨Lc39, hQ39, l39, y39, z39⟩, st39⟩ := Jvm.LawKit.callS X31 hx (y := (⟨"com/example/runs_to_scores/runstoscores/formats/SubtaskLabelledPinLaw", "pick", "(Ljava/lang/String;IJZIC)C"⟩ : MethodName)) hown (mvT hZ (hw _ (List.mem_of_getElem? (i := 22) rfl))) (mvT hZ (hw _ (List.mem_of_getElem? (i := 23) rfl))) (mvT hZ (hw _ (List.mem_of_getElem? (i := 24) rfl))) (mvT hZ (hw _ (List.mem_of_getElem? (i := 25) rfl))) (by decide) (backOf (W := 2) (rm3 l Z a0 hw [] xB (2 : Int32) p2 d8 ps mc tB kB csB 2 G1 G3 h31 n0 Z33 f40 f41 f42 f43 hp_xB hl_xB rfl (by decide) okm Od35 O2 P5 O4 rG3) hZ (hw _ (List.mem_of_getElem? (i := 25) rfl)) (hw _ (List.mem_of_getElem? (i := 24) rfl)) (by decide) (by decide)) (g := (mkF m 167 #[.val (.int p1), .val (.long p2), .second, .val (.int p3), .val (.int md), .val (.ref xB), s6, .val (.int nn), .val (.int d8), .val (.int ps), .val (.int mc), .val (.ref b4), .unset, .unset] [(.int mc), (.int ps), (.int d8), (.long p2), (.int (2 : Int32)), (.ref xB), (.int (2 : Int32)), (.ref b4)])) rfl (by rw [hml]; rfl) (argsL := [(.ref xB), (.int (2 : Int32)), (.long p2), (.int d8), (.int ps), (.int mc)]) (rest := [(.int (2 : Int32)), (.ref b4)]) (lenOf pd_8 rfl) rfl (by show 2 * 0 + _ ≤ _; exact Nat.le_of_eq rfl) (hb hby at_167) (fun _ _ => ⟨rfl, e31, (by decide : 3 + 0 ≤ _), (by decide : 39 + 0 ≤ _)⟩)
  dsimp only [Pt.U, Pt.locs, Pt.cells, Pt.slots] at X39 l39 y39 z39 st39 hQ39
  subst l39 y39 z39
  have X39 : Stand p l e _ _ m _ below meth c T39 _ 3 39 := X39
  obtain ⟨c2, rfl, Nq39, eq39, ok2⟩ := hQ39
  have Nf39 := Fr.app Nf36 Nq39
  have kn44 : ∀ t, own_S p e below T39 (mkF m 170 #[.val (.int p1), .val (.long p2), .second, .val (.int p3), .val (.int md), .val (.ref xB), s6, .val (.int nn), .val (.int d8), .val (.int ps), .val (.int mc), .val (.ref b4), .unset, .unset] [(.int c2), (.int (2 : Int32)), (.ref b4)]) t → own_S p e below T0 (mkF m 94 #[.val (.int p1), .val (.long p2), .second, .val (.int p3), .val (.int md), .val (.ref xB), s6, .val (.int nn), .unset, .unset, .unset, .unset, .unset, .unset] [(.int d8)]) t := fun t kt => kn38 t (st39 _ kt)
  obtain ⟨cl45, Ar45, q45, Sz45, Ng45, Hs45, Gs45⟩ := id V31
  have hin45 : ¬ ((2 : Int32) < 0 ∨ cl45.slots.size ≤ ((2 : Int32)).toNatClampNeg) := inb_of Sz45 ⟨by decide, by decide⟩
  obtain ⟨T45, h45, X45, e45, W45, st45⟩ := stC X39 hx hZ eq39 Ar45 (j := (2 : Int32)) hin45 (g := (mkF m 170 #[.val (.int p1), .val (.long p2), .second, .val (.int p3), .val (.int md), .val (.ref xB), s6, .val (.int nn), .val (.int d8), .val (.int ps), .val (.int mc), .val (.ref b4), .unset, .unset] [(.int c2), (.int (2 : Int32)), (.ref b4)])) rfl rfl (hb hby at_170)
  have CS46 := CHr.wr W45 (Safe.arr hZ.alike Ar45 nofun) CR32.1
  have CR46 := CR32.trans CS46
  have Z47 : n0 ≤ h45.size := Nat.le_trans Z33 (Keep.of_wr W45).1
  have hk48 := Nat.le_trans hk34 (Keep.of_wr W45).1
  have Od49 : Old Z n0 h45 := Od35.wr W45 g_b4
  have V45 : Arv Z h45 b4 kk4 .char (7 : Int32) [(.int c0), (.int c1), (.int (c2.toUInt32.toUInt16.toUInt32.toInt32)), (.int (0 : Int32)), (.int (0 : Int32)), (.int (0 : Int32)), (.int (0 : Int32))] (.int (0 : Int32)) := Arv.set Ar45 q45 Sz45 Ng45 Hs45 Gs45 (fits_nar_char _) W45 2 rfl (Nat.le_of_ble_eq_true rfl)
  rw [(show (c2.toUInt32.toUInt16.toUInt32.toInt32) = c2 from ok2.2.2)] at V45
  have Nf50 := Fr.snoc X45 Nf39 g_b4
  have kn51 : ∀ t, own_S p e below T45 (mkF m 171 #[.val (.int p1), .val (.long p2), .second, .val (.int p3), .val (.int md), .val (.ref xB), s6, .val (.int nn), .val (.int d8), .val (.int ps), .val (.int mc), .val (.ref b4), .unset, .unset] []) t → own_S p e below T0 (mkF m 94 #[.val (.int p1), .val (.long p2), .second, .val (.int p3), .val (.int md), .val (.ref xB), s6, .val (.int nn), .unset, .unset, .unset, .unset, .unset, .unset] [(.int d8)]) t := fun t kt => kn44 t (st45 _ kt)
  have f52 := (f40.wr W45)
  have f53 := (f41.other W45 (Or.inl ne_xB_b4))
  have f54 := (f42.other W45 (Or.inl ne_xB_b4))
  have f55 := (f43.other W45 ne_tB_b4)
  obtain ⟨s2, o2, t1, t2, t3, t4⟩ := tl4 (n0 := n0) p1 p2 p3 bV kV g0 y0 ty0 ky0 g1 y1 ty1 ky1 g2 y2 ty2 ky2 G1 G3 md xB tB kB csB (s6) nn d8 ps mc b4 kk4 c0 c1 c2 (X45.mono (by decide) (by decide)) hx hZ hw hby hml hown hret hlk e45 Nf50 Z47 hS0 hk48 CR46.1 f52 f53 f54 f55 hp_xB hl_xB okm V45 g_b4 ne_xB_b4 ne_tB_b4 ok0 ok1 ok2 Od49 O2 P5 O4 rG3 SV EV VV Fg0 Ey0 Vy0 Cy0 Ky0 Fg1 Ey1 Vy1 Cy1 Ky1 Fg2 Ey2 Vy2 Cy2 Ky2 Sg0 Sg1 Sg2
  exact ⟨s2, o2, id (kn51 _ (t1)), t2, t3, t4⟩

set_option maxRecDepth 65536 in
set_option maxHeartbeats 40000000 in
theorem tl2 {p : Program} {l : Launch} {e : Env} {s : State} {m : MethodId} {args : Array Value} {below : List Frame} {meth : Method} {c : Code} {T0 : State} {locs : List Loc} {Z : State} {a0 : Array Value} {h0 : Heap} {n0 : Nat} (p1 : Int32) (p2 : Int64) (p3 : Int32) (bV : Addr) (kV : ClassId) (g0 : Addr) (y0 : Addr) (ty0 : Addr) (ky0 : ClassId) (g1 : Addr) (y1 : Addr) (ty1 : Addr) (ky1 : ClassId) (g2 : Addr) (y2 : Addr) (ty2 : Addr) (ky2 : ClassId) (G1 : Int32) (G3 : Value) (md : Int32) (xB : Addr) (tB : Addr) (kB : ClassId) (csB : List Int32) (s6 : Slot) (nn : Int32) {vm0 : Vm} {k0 : Nat}
    (X0 : Stand p l e room_1 (s.setVm vm0) m args below meth c T0 locs 2 32) (hx : p.tables.exec = Jvm.exec) (hZ : Z.Warmed39 (s.setVm vm0).vm) (hw : ∀ d ∈ tables_1, d.before a0 Z = true) (hby : c.code = code) (hml : c.maxLocals = 14) (hown : (s.setVm vm0).vm.findClass "com/example/runs_to_scores/runstoscores/formats/SubtaskLabelledPinLaw" = some m.cls) (hret : meth.sig.returnType = some .boolean) (hlk : meth.locks = false) (e0 : T0.heap = h0) (Nf0 : Fr n0 locs) (Z0 : n0 ≤ h0.size) (hS0 : s.Since vm0 k0) (hk0 : k0 ≤ h0.size) (H0 : CHv Z consts_1 vm0 h0) (E_xB : Exa Z h0 xB "java/lang/String") (V_xB : Fld Z h0 xB "java/lang/String" "value" "[B" (.ref tB)) (C_xB : Fld Z h0 xB "java/lang/String" "coder" "B" (.int (0 : Int32))) (K_xB : Arv Z h0 tB kB .byte (Int32.ofNat csB.length) ((csB.map (fun c => c.toInt8.toInt32)).map Value.int) (.int (0 : Int32))) (hp_xB : ∀ c ∈ csB, ¬ c < 0 ∧ ¬ (255 : Int32) < c) (hl_xB : csB.length ≤ 64) (O0 : Old Z n0 h0) (O2 : Sta Z Z.heap "java/lang/String" "COMPACT_STRINGS" "Z" (.int G1)) (P5 : ¬ (G1 = (0 : Int32))) (O4 : Sta Z Z.heap "jdk/internal/util/Preconditions" "SIOOBE_FORMATTER" "Ljava/util/function/BiFunction;" G3) (rG3 : G3.isRef = true) (SV : Sta Z Z.heap "com/example/runs_to_scores/runstoscores/formats/Subtask" "$VALUES" "[Lcom/example/runs_to_scores/runstoscores/formats/Subtask;" (.ref bV)) (EV : Exa Z Z.heap bV "[Lcom/example/runs_to_scores/runstoscores/formats/Subtask;") (VV : Arv Z Z.heap bV kV (.object "com/example/runs_to_scores/runstoscores/formats/Subtask") (3 : Int32) [(.ref g0), (.ref g1), (.ref g2)] .null) (Fg0 : Fld Z Z.heap g0 "com/example/runs_to_scores/runstoscores/formats/Subtask" "label" "Ljava/lang/String;" (.ref y0)) (Ey0 : Exa Z Z.heap y0 "java/lang/String") (Vy0 : Fld Z Z.heap y0 "java/lang/String" "value" "[B" (.ref ty0)) (Cy0 : Fld Z Z.heap y0 "java/lang/String" "coder" "B" (.int (0 : Int32))) (Ky0 : Arv Z Z.heap ty0 ky0 .byte (6 : Int32) ((([(116 : Int32), (114 : Int32), (105 : Int32), (97 : Int32), (103 : Int32), (101 : Int32)] : List Int32).map (fun c => c.toInt8.toInt32)).map Value.int) (.int (0 : Int32))) (Fg1 : Fld Z Z.heap g1 "com/example/runs_to_scores/runstoscores/formats/Subtask" "label" "Ljava/lang/String;" (.ref y1)) (Ey1 : Exa Z Z.heap y1 "java/lang/String") (Vy1 : Fld Z Z.heap y1 "java/lang/String" "value" "[B" (.ref ty1)) (Cy1 : Fld Z Z.heap y1 "java/lang/String" "coder" "B" (.int (0 : Int32))) (Ky1 : Arv Z Z.heap ty1 ky1 .byte (5 : Int32) ((([(97 : Int32), (110 : Int32), (110 : Int32), (104 : Int32), (105 : Int32)] : List Int32).map (fun c => c.toInt8.toInt32)).map Value.int) (.int (0 : Int32))) (Fg2 : Fld Z Z.heap g2 "com/example/runs_to_scores/runstoscores/formats/Subtask" "label" "Ljava/lang/String;" (.ref y2)) (Ey2 : Exa Z Z.heap y2 "java/lang/String") (Vy2 : Fld Z Z.heap y2 "java/lang/String" "value" "[B" (.ref ty2)) (Cy2 : Fld Z Z.heap y2 "java/lang/String" "coder" "B" (.int (0 : Int32))) (Ky2 : Arv Z Z.heap ty2 ky2 .byte (7 : Int32) ((([(97 : Int32), (110 : Int32), (110 : Int32), (104 : Int32), (105 : Int32), (101 : Int32), (118 : Int32)] : List Int32).map (fun c => c.toInt8.toInt32)).map Value.int) (.int (0 : Int32))) (Sg0 : Sta Z Z.heap "com/example/runs_to_scores/runstoscores/formats/Subtask" "TRIAGE" "Lcom/example/runs_to_scores/runstoscores/formats/Subtask;" (.ref g0)) (Sg1 : Sta Z Z.heap "com/example/runs_to_scores/runstoscores/formats/Subtask" "ANNHI" "Lcom/example/runs_to_scores/runstoscores/formats/Subtask;" (.ref g1)) (Sg2 : Sta Z Z.heap "com/example/runs_to_scores/runstoscores/formats/Subtask" "ANNHIEV" "Lcom/example/runs_to_scores/runstoscores/formats/Subtask;" (.ref g2)) :
    ∃ s₂ o, Steps p.tables e below (T0.setTop (mkF m 81 #[.val (.int p1), .val (.long p2), .second, .val (.int p3), .val (.int md), .val (.ref xB), s6, .unset, .unset, .unset, .unset, .unset, .unset, .unset] [(.int nn)])) s₂ ∧ s₂.status = .running ∧ Ended s₂ below o ∧ ∃ v L, o = .returned v ∧ Q0 Z p1 p2 p3 bV kV g0 y0 ty0 ky0 g1 y1 ty1 ky1 g2 y2 ty2 ky2 G1 G3 h0 n0 v s₂.heap L ∧ ReturnedEndW s o s₂ L 32 5312 := by
  have kn0 : ∀ t, own_S p e below T0 (mkF m 81 #[.val (.int p1), .val (.long p2), .second, .val (.int p3), .val (.int md), .val (.ref xB), s6, .unset, .unset, .unset, .unset, .unset, .unset, .unset] [(.int nn)]) t → own_S p e below T0 (mkF m 81 #[.val (.int p1), .val (.long p2), .second, .val (.int p3), .val (.int md), .val (.ref xB), s6, .unset, .unset, .unset, .unset, .unset, .unset, .unset] [(.int nn)]) t := fun t k => k
  have CR0 := CHr.refl H0
  have kn1 : ∀ t, own_S p e below T0 (mkF m 86 #[.val (.int p1), .val (.long p2), .second, .val (.int p3), .val (.int md), .val (.ref xB), s6, .val (.int nn), .unset, .unset, .unset, .unset, .unset, .unset] [(.int (p3 &&& (1 : Int32)))]) t → own_S p e below T0 (mkF m 81 #[.val (.int p1), .val (.long p2), .second, .val (.int p3), .val (.int md), .val (.ref xB), s6, .unset, .unset, .unset, .unset, .unset, .unset, .unset] [(.int nn)]) t := fun t kt => kn0 t (by
    show own_S p e below T0 (mkF m 81 #[.val (.int p1), .val (.long p2), .second, .val (.int p3), .val (.int md), .val (.ref xB), s6, .unset, .unset, .unset, .unset, .unset, .unset, .unset] [(.int nn)]) _
    refine XS.istore X0.here hx rfl (hb hby at_81) rfl (l' := #[.val (.int p1), .val (.long p2), .second, .val (.int p3), .val (.int md), .val (.ref xB), s6, .val (.int nn), .unset, .unset, .unset, .unset, .unset, .unset]) rfl ?_
    show own_S p e below T0 (mkF m 83 #[.val (.int p1), .val (.long p2), .second, .val (.int p3), .val (.int md), .val (.ref xB), s6, .val (.int nn), .unset, .unset, .unset, .unset, .unset, .unset] []) _
    refine XS.iloadN X0.here hx rfl (hb hby at_83) rfl ?_
    show own_S p e below T0 (mkF m 84 #[.val (.int p1), .val (.long p2), .second, .val (.int p3), .val (.int md), .val (.ref xB), s6, .val (.int nn), .unset, .unset, .unset, .unset, .unset, .unset] [(.int p3)]) _
    refine XS.iconst X0.here hx rfl (hb hby at_84) ?_
    show own_S p e below T0 (mkF m 85 #[.val (.int p1), .val (.long p2), .second, .val (.int p3), .val (.int md), .val (.ref xB), s6, .val (.int nn), .unset, .unset, .unset, .unset, .unset, .unset] [(.int (1 : Int32)), (.int p3)]) _
    refine XS.iand X0.here hx rfl (hb hby at_85) rfl ?_
    exact kt)
  by_cases hc86 : (p3 &&& (1 : Int32)) = (0 : Int32)
  · have kn2 : ∀ t, own_S p e below T0 (mkF m 94 #[.val (.int p1), .val (.long p2), .second, .val (.int p3), .val (.int md), .val (.ref xB), s6, .val (.int nn), .unset, .unset, .unset, .unset, .unset, .unset] [(.int (0 : Int32))]) t → own_S p e below T0 (mkF m 81 #[.val (.int p1), .val (.long p2), .second, .val (.int p3), .val (.int md), .val (.ref xB), s6, .unset, .unset, .unset, .unset, .unset, .unset, .unset] [(.int nn)]) t := fun t kt => kn1 t (by
      show own_S p e below T0 (mkF m 86 #[.val (.int p1), .val (.long p2), .second, .val (.int p3), .val (.int md), .val (.ref xB), s6, .val (.int nn), .unset, .unset, .unset, .unset, .unset, .unset] [(.int (p3 &&& (1 : Int32)))]) _
      refine XS.ifYes X0.here hx rfl (pc0 := 86) (pc' := 93) rfl (hb hby at_86) rfl ((if0 _ _).trans (teq hc86).1) (by decide) (by decide) ?_
      show own_S p e below T0 (mkF m 93 #[.val (.int p1), .val (.long p2), .second, .val (.int p3), .val (.int md), .val (.ref xB), s6, .val (.int nn), .unset, .unset, .unset, .unset, .unset, .unset] []) _
      refine XS.iconst X0.here hx rfl (hb hby at_93) ?_
      exact kt)
    obtain ⟨s2, o2, t1, t2, t3, t4⟩ := tl3 (n0 := n0) p1 p2 p3 bV kV g0 y0 ty0 ky0 g1 y1 ty1 ky1 g2 y2 ty2 ky2 G1 G3 md xB tB kB csB s6 nn (0 : Int32) (X0.mono (by decide) (by decide)) hx hZ hw hby hml hown hret hlk e0 Nf0 Z0 hS0 hk0 CR0.1 E_xB V_xB C_xB K_xB hp_xB hl_xB O0 O2 P5 O4 rG3 SV EV VV Fg0 Ey0 Vy0 Cy0 Ky0 Fg1 Ey1 Vy1 Cy1 Ky1 Fg2 Ey2 Vy2 Cy2 Ky2 Sg0 Sg1 Sg2
    exact ⟨s2, o2, id (kn2 _ (t1)), t2, t3, t4⟩
  · have kn3 : ∀ t, own_S p e below T0 (mkF m 94 #[.val (.int p1), .val (.long p2), .second, .val (.int p3), .val (.int md), .val (.ref xB), s6, .val (.int nn), .unset, .unset, .unset, .unset, .unset, .unset] [(.int (1 : Int32))]) t → own_S p e below T0 (mkF m 81 #[.val (.int p1), .val (.long p2), .second, .val (.int p3), .val (.int md), .val (.ref xB), s6, .unset, .unset, .unset, .unset, .unset, .unset, .unset] [(.int nn)]) t := fun t kt => kn1 t (by
      show own_S p e below T0 (mkF m 86 #[.val (.int p1), .val (.long p2), .second, .val (.int p3), .val (.int md), .val (.ref xB), s6, .val (.int nn), .unset, .unset, .unset, .unset, .unset, .unset] [(.int (p3 &&& (1 : Int32)))]) _
      refine XS.ifNo X0.here hx rfl (hb hby at_86) rfl ((if0 _ _).trans (feq hc86).1) ?_
      show own_S p e below T0 (mkF m 89 #[.val (.int p1), .val (.long p2), .second, .val (.int p3), .val (.int md), .val (.ref xB), s6, .val (.int nn), .unset, .unset, .unset, .unset, .unset, .unset] []) _
      refine XS.iconst X0.here hx rfl (hb hby at_89) ?_
      show own_S p e below T0 (mkF m 90 #[.val (.int p1), .val (.long p2), .second, .val (.int p3), .val (.int md), .val (.ref xB), s6, .val (.int nn), .unset, .unset, .unset, .unset, .unset, .unset] [(.int (1 : Int32))]) _
      refine XS.goto X0.here hx rfl (pc0 := 90) (pc' := 94) rfl (hb hby at_90) (by decide) (by decide) ?_
      exact kt)
    obtain ⟨s2, o2, t1, t2, t3, t4⟩ := tl3 (n0 := n0) p1 p2 p3 bV kV g0 y0 ty0 ky0 g1 y1 ty1 ky1 g2 y2 ty2 ky2 G1 G3 md xB tB kB csB s6 nn (1 : Int32) (X0.mono (by decide) (by decide)) hx hZ hw hby hml hown hret hlk e0 Nf0 Z0 hS0 hk0 CR0.1 E_xB V_xB C_xB K_xB hp_xB hl_xB O0 O2 P5 O4 rG3 SV EV VV Fg0 Ey0 Vy0 Cy0 Ky0 Fg1 Ey1 Vy1 Cy1 Ky1 Fg2 Ey2 Vy2 Cy2 Ky2 Sg0 Sg1 Sg2
    exact ⟨s2, o2, id (kn3 _ (t1)), t2, t3, t4⟩

set_option maxRecDepth 65536 in
set_option maxHeartbeats 40000000 in
theorem tl1 {p : Program} {l : Launch} {e : Env} {s : State} {m : MethodId} {args : Array Value} {below : List Frame} {meth : Method} {c : Code} {T0 : State} {locs : List Loc} {Z : State} {a0 : Array Value} {h0 : Heap} {n0 : Nat} (p1 : Int32) (p2 : Int64) (p3 : Int32) (bV : Addr) (kV : ClassId) (g0 : Addr) (y0 : Addr) (ty0 : Addr) (ky0 : ClassId) (g1 : Addr) (y1 : Addr) (ty1 : Addr) (ky1 : ClassId) (g2 : Addr) (y2 : Addr) (ty2 : Addr) (ky2 : ClassId) (G1 : Int32) (G3 : Value) (md : Int32) (xB : Addr) (tB : Addr) (kB : ClassId) (csB : List Int32) {vm0 : Vm} {k0 : Nat}
    (X0 : Stand p l e room_1 (s.setVm vm0) m args below meth c T0 locs 2 32) (hx : p.tables.exec = Jvm.exec) (hZ : Z.Warmed39 (s.setVm vm0).vm) (hw : ∀ d ∈ tables_1, d.before a0 Z = true) (hby : c.code = code) (hml : c.maxLocals = 14) (hown : (s.setVm vm0).vm.findClass "com/example/runs_to_scores/runstoscores/formats/SubtaskLabelledPinLaw" = some m.cls) (hret : meth.sig.returnType = some .boolean) (hlk : meth.locks = false) (e0 : T0.heap = h0) (Nf0 : Fr n0 locs) (Z0 : n0 ≤ h0.size) (hS0 : s.Since vm0 k0) (hk0 : k0 ≤ h0.size) (H0 : CHv Z consts_1 vm0 h0) (E_xB : Exa Z h0 xB "java/lang/String") (V_xB : Fld Z h0 xB "java/lang/String" "value" "[B" (.ref tB)) (C_xB : Fld Z h0 xB "java/lang/String" "coder" "B" (.int (0 : Int32))) (K_xB : Arv Z h0 tB kB .byte (Int32.ofNat csB.length) ((csB.map (fun c => c.toInt8.toInt32)).map Value.int) (.int (0 : Int32))) (hp_xB : ∀ c ∈ csB, ¬ c < 0 ∧ ¬ (255 : Int32) < c) (hl_xB : csB.length ≤ 64) (O0 : Old Z n0 h0) (O2 : Sta Z Z.heap "java/lang/String" "COMPACT_STRINGS" "Z" (.int G1)) (P5 : ¬ (G1 = (0 : Int32))) (O4 : Sta Z Z.heap "jdk/internal/util/Preconditions" "SIOOBE_FORMATTER" "Ljava/util/function/BiFunction;" G3) (rG3 : G3.isRef = true) (SV : Sta Z Z.heap "com/example/runs_to_scores/runstoscores/formats/Subtask" "$VALUES" "[Lcom/example/runs_to_scores/runstoscores/formats/Subtask;" (.ref bV)) (EV : Exa Z Z.heap bV "[Lcom/example/runs_to_scores/runstoscores/formats/Subtask;") (VV : Arv Z Z.heap bV kV (.object "com/example/runs_to_scores/runstoscores/formats/Subtask") (3 : Int32) [(.ref g0), (.ref g1), (.ref g2)] .null) (Fg0 : Fld Z Z.heap g0 "com/example/runs_to_scores/runstoscores/formats/Subtask" "label" "Ljava/lang/String;" (.ref y0)) (Ey0 : Exa Z Z.heap y0 "java/lang/String") (Vy0 : Fld Z Z.heap y0 "java/lang/String" "value" "[B" (.ref ty0)) (Cy0 : Fld Z Z.heap y0 "java/lang/String" "coder" "B" (.int (0 : Int32))) (Ky0 : Arv Z Z.heap ty0 ky0 .byte (6 : Int32) ((([(116 : Int32), (114 : Int32), (105 : Int32), (97 : Int32), (103 : Int32), (101 : Int32)] : List Int32).map (fun c => c.toInt8.toInt32)).map Value.int) (.int (0 : Int32))) (Fg1 : Fld Z Z.heap g1 "com/example/runs_to_scores/runstoscores/formats/Subtask" "label" "Ljava/lang/String;" (.ref y1)) (Ey1 : Exa Z Z.heap y1 "java/lang/String") (Vy1 : Fld Z Z.heap y1 "java/lang/String" "value" "[B" (.ref ty1)) (Cy1 : Fld Z Z.heap y1 "java/lang/String" "coder" "B" (.int (0 : Int32))) (Ky1 : Arv Z Z.heap ty1 ky1 .byte (5 : Int32) ((([(97 : Int32), (110 : Int32), (110 : Int32), (104 : Int32), (105 : Int32)] : List Int32).map (fun c => c.toInt8.toInt32)).map Value.int) (.int (0 : Int32))) (Fg2 : Fld Z Z.heap g2 "com/example/runs_to_scores/runstoscores/formats/Subtask" "label" "Ljava/lang/String;" (.ref y2)) (Ey2 : Exa Z Z.heap y2 "java/lang/String") (Vy2 : Fld Z Z.heap y2 "java/lang/String" "value" "[B" (.ref ty2)) (Cy2 : Fld Z Z.heap y2 "java/lang/String" "coder" "B" (.int (0 : Int32))) (Ky2 : Arv Z Z.heap ty2 ky2 .byte (7 : Int32) ((([(97 : Int32), (110 : Int32), (110 : Int32), (104 : Int32), (105 : Int32), (101 : Int32), (118 : Int32)] : List Int32).map (fun c => c.toInt8.toInt32)).map Value.int) (.int (0 : Int32))) (Sg0 : Sta Z Z.heap "com/example/runs_to_scores/runstoscores/formats/Subtask" "TRIAGE" "Lcom/example/runs_to_scores/runstoscores/formats/Subtask;" (.ref g0)) (Sg1 : Sta Z Z.heap "com/example/runs_to_scores/runstoscores/formats/Subtask" "ANNHI" "Lcom/example/runs_to_scores/runstoscores/formats/Subtask;" (.ref g1)) (Sg2 : Sta Z Z.heap "com/example/runs_to_scores/runstoscores/formats/Subtask" "ANNHIEV" "Lcom/example/runs_to_scores/runstoscores/formats/Subtask;" (.ref g2)) :
    ∃ s₂ o, Steps p.tables e below (T0.setTop (mkF m 39 #[.val (.int p1), .val (.long p2), .second, .val (.int p3), .val (.int md), .unset, .unset, .unset, .unset, .unset, .unset, .unset, .unset, .unset] [(.ref xB)])) s₂ ∧ s₂.status = .running ∧ Ended s₂ below o ∧ ∃ v L, o = .returned v ∧ Q0 Z p1 p2 p3 bV kV g0 y0 ty0 ky0 g1 y1 ty1 ky1 g2 y2 ty2 ky2 G1 G3 h0 n0 v s₂.heap L ∧ ReturnedEndW s o s₂ L 32 5312 := by
  have kn0 : ∀ t, own_S p e below T0 (mkF m 39 #[.val (.int p1), .val (.long p2), .second, .val (.int p3), .val (.int md), .unset, .unset, .unset, .unset, .unset, .unset, .unset, .unset, .unset] [(.ref xB)]) t → own_S p e below T0 (mkF m 39 #[.val (.int p1), .val (.long p2), .second, .val (.int p3), .val (.int md), .unset, .unset, .unset, .unset, .unset, .unset, .unset, .unset, .unset] [(.ref xB)]) t := fun t k => k
  have CR0 := CHr.refl H0
  have kn1 : ∀ t, own_S p e below T0 (mkF m 46 #[.val (.int p1), .val (.long p2), .second, .val (.int p3), .val (.int md), .val (.ref xB), .unset, .unset, .unset, .unset, .unset, .unset, .unset, .unset] [(.int (((p1.toUInt32 >>> ((2 : Int32) &&& 31).toUInt32).toInt32) &&& (1 : Int32)))]) t → own_S p e below T0 (mkF m 39 #[.val (.int p1), .val (.long p2), .second, .val (.int p3), .val (.int md), .unset, .unset, .unset, .unset, .unset, .unset, .unset, .unset, .unset] [(.ref xB)]) t := fun t kt => kn0 t (by
    show own_S p e below T0 (mkF m 39 #[.val (.int p1), .val (.long p2), .second, .val (.int p3), .val (.int md), .unset, .unset, .unset, .unset, .unset, .unset, .unset, .unset, .unset] [(.ref xB)]) _
    refine XS.astore X0.here hx rfl (hb hby at_39) rfl rfl (l' := #[.val (.int p1), .val (.long p2), .second, .val (.int p3), .val (.int md), .val (.ref xB), .unset, .unset, .unset, .unset, .unset, .unset, .unset, .unset]) rfl ?_
    show own_S p e below T0 (mkF m 41 #[.val (.int p1), .val (.long p2), .second, .val (.int p3), .val (.int md), .val (.ref xB), .unset, .unset, .unset, .unset, .unset, .unset, .unset, .unset] []) _
    refine XS.iloadN X0.here hx rfl (hb hby at_41) rfl ?_
    show own_S p e below T0 (mkF m 42 #[.val (.int p1), .val (.long p2), .second, .val (.int p3), .val (.int md), .val (.ref xB), .unset, .unset, .unset, .unset, .unset, .unset, .unset, .unset] [(.int p1)]) _
    refine XS.iconst X0.here hx rfl (hb hby at_42) ?_
    show own_S p e below T0 (mkF m 43 #[.val (.int p1), .val (.long p2), .second, .val (.int p3), .val (.int md), .val (.ref xB), .unset, .unset, .unset, .unset, .unset, .unset, .unset, .unset] [(.int (2 : Int32)), (.int p1)]) _
    refine XS.iushr X0.here hx rfl (hb hby at_43) rfl ?_
    show own_S p e below T0 (mkF m 44 #[.val (.int p1), .val (.long p2), .second, .val (.int p3), .val (.int md), .val (.ref xB), .unset, .unset, .unset, .unset, .unset, .unset, .unset, .unset] [(.int ((p1.toUInt32 >>> ((2 : Int32) &&& 31).toUInt32).toInt32))]) _
    refine XS.iconst X0.here hx rfl (hb hby at_44) ?_
    show own_S p e below T0 (mkF m 45 #[.val (.int p1), .val (.long p2), .second, .val (.int p3), .val (.int md), .val (.ref xB), .unset, .unset, .unset, .unset, .unset, .unset, .unset, .unset] [(.int (1 : Int32)), (.int ((p1.toUInt32 >>> ((2 : Int32) &&& 31).toUInt32).toInt32))]) _
    refine XS.iand X0.here hx rfl (hb hby at_45) rfl ?_
    exact kt)
  by_cases hc46 : (((p1.toUInt32 >>> ((2 : Int32) &&& 31).toUInt32).toInt32) &&& (1 : Int32)) = (0 : Int32)
  · have kn2 : ∀ t, own_S p e below T0 (mkF m 64 #[.val (.int p1), .val (.long p2), .second, .val (.int p3), .val (.int md), .val (.ref xB), .val (.int (0 : Int32)), .unset, .unset, .unset, .unset, .unset, .unset, .unset] [(.int (3 : Int32)), (.int md)]) t → own_S p e below T0 (mkF m 39 #[.val (.int p1), .val (.long p2), .second, .val (.int p3), .val (.int md), .unset, .unset, .unset, .unset, .unset, .unset, .unset, .unset, .unset] [(.ref xB)]) t := fun t kt => kn1 t (by
      show own_S p e below T0 (mkF m 46 #[.val (.int p1), .val (.long p2), .second, .val (.int p3), .val (.int md), .val (.ref xB), .unset, .unset, .unset, .unset, .unset, .unset, .unset, .unset] [(.int (((p1.toUInt32 >>> ((2 : Int32) &&& 31).toUInt32).toInt32) &&& (1 : Int32)))]) _
      refine XS.ifYes X0.here hx rfl (pc0 := 46) (pc' := 53) rfl (hb hby at_46) rfl ((if0 _ _).trans (teq hc46).1) (by decide) (by decide) ?_
      show own_S p e below T0 (mkF m 53 #[.val (.int p1), .val (.long p2), .second, .val (.int p3), .val (.int md), .val (.ref xB), .unset, .unset, .unset, .unset, .unset, .unset, .unset, .unset] []) _
      refine XS.iconst X0.here hx rfl (hb hby at_53) ?_
      show own_S p e below T0 (mkF m 54 #[.val (.int p1), .val (.long p2), .second, .val (.int p3), .val (.int md), .val (.ref xB), .unset, .unset, .unset, .unset, .unset, .unset, .unset, .unset] [(.int (0 : Int32))]) _
      refine XS.istore X0.here hx rfl (hb hby at_54) rfl (l' := #[.val (.int p1), .val (.long p2), .second, .val (.int p3), .val (.int md), .val (.ref xB), .val (.int (0 : Int32)), .unset, .unset, .unset, .unset, .unset, .unset, .unset]) rfl ?_
      show own_S p e below T0 (mkF m 56 #[.val (.int p1), .val (.long p2), .second, .val (.int p3), .val (.int md), .val (.ref xB), .val (.int (0 : Int32)), .unset, .unset, .unset, .unset, .unset, .unset, .unset] []) _
      refine XS.iload X0.here hx rfl (hb hby at_56) rfl ?_
      show own_S p e below T0 (mkF m 58 #[.val (.int p1), .val (.long p2), .second, .val (.int p3), .val (.int md), .val (.ref xB), .val (.int (0 : Int32)), .unset, .unset, .unset, .unset, .unset, .unset, .unset] [(.int (0 : Int32))]) _
      refine XS.ifNo X0.here hx rfl (hb hby at_58) rfl ((if0 _ _).trans (teq (by decide : (0 : Int32) = (0 : Int32))).2) ?_
      show own_S p e below T0 (mkF m 61 #[.val (.int p1), .val (.long p2), .second, .val (.int p3), .val (.int md), .val (.ref xB), .val (.int (0 : Int32)), .unset, .unset, .unset, .unset, .unset, .unset, .unset] []) _
      refine XS.iload X0.here hx rfl (hb hby at_61) rfl ?_
      show own_S p e below T0 (mkF m 63 #[.val (.int p1), .val (.long p2), .second, .val (.int p3), .val (.int md), .val (.ref xB), .val (.int (0 : Int32)), .unset, .unset, .unset, .unset, .unset, .unset, .unset] [(.int md)]) _
      refine XS.iconst X0.here hx rfl (hb hby at_63) ?_
      exact kt)
    by_cases hc64 : md = (3 : Int32)
    · have kn3 : ∀ t, own_S p e below T0 (mkF m 81 #[.val (.int p1), .val (.long p2), .second, .val (.int p3), .val (.int md), .val (.ref xB), .val (.int (0 : Int32)), .unset, .unset, .unset, .unset, .unset, .unset, .unset] [(.int (((p1.toUInt32 >>> ((3 : Int32) &&& 31).toUInt32).toInt32) &&& (7 : Int32)))]) t → own_S p e below T0 (mkF m 39 #[.val (.int p1), .val (.long p2), .second, .val (.int p3), .val (.int md), .unset, .unset, .unset, .unset, .unset, .unset, .unset, .unset, .unset] [(.ref xB)]) t := fun t kt => kn2 t (by
        show own_S p e below T0 (mkF m 64 #[.val (.int p1), .val (.long p2), .second, .val (.int p3), .val (.int md), .val (.ref xB), .val (.int (0 : Int32)), .unset, .unset, .unset, .unset, .unset, .unset, .unset] [(.int (3 : Int32)), (.int md)]) _
        refine XS.icmpNo X0.here hx rfl (hb hby at_64) rfl (teq hc64).2 ?_
        show own_S p e below T0 (mkF m 67 #[.val (.int p1), .val (.long p2), .second, .val (.int p3), .val (.int md), .val (.ref xB), .val (.int (0 : Int32)), .unset, .unset, .unset, .unset, .unset, .unset, .unset] []) _
        refine XS.iloadN X0.here hx rfl (hb hby at_67) rfl ?_
        show own_S p e below T0 (mkF m 68 #[.val (.int p1), .val (.long p2), .second, .val (.int p3), .val (.int md), .val (.ref xB), .val (.int (0 : Int32)), .unset, .unset, .unset, .unset, .unset, .unset, .unset] [(.int p1)]) _
        refine XS.iconst X0.here hx rfl (hb hby at_68) ?_
        show own_S p e below T0 (mkF m 69 #[.val (.int p1), .val (.long p2), .second, .val (.int p3), .val (.int md), .val (.ref xB), .val (.int (0 : Int32)), .unset, .unset, .unset, .unset, .unset, .unset, .unset] [(.int (3 : Int32)), (.int p1)]) _
        refine XS.iushr X0.here hx rfl (hb hby at_69) rfl ?_
        show own_S p e below T0 (mkF m 70 #[.val (.int p1), .val (.long p2), .second, .val (.int p3), .val (.int md), .val (.ref xB), .val (.int (0 : Int32)), .unset, .unset, .unset, .unset, .unset, .unset, .unset] [(.int ((p1.toUInt32 >>> ((3 : Int32) &&& 31).toUInt32).toInt32))]) _
        refine XS.bipush X0.here hx rfl (hb hby at_70) ?_
        show own_S p e below T0 (mkF m 72 #[.val (.int p1), .val (.long p2), .second, .val (.int p3), .val (.int md), .val (.ref xB), .val (.int (0 : Int32)), .unset, .unset, .unset, .unset, .unset, .unset, .unset] [(.int (7 : Int32)), (.int ((p1.toUInt32 >>> ((3 : Int32) &&& 31).toUInt32).toInt32))]) _
        refine XS.iand X0.here hx rfl (hb hby at_72) rfl ?_
        show own_S p e below T0 (mkF m 73 #[.val (.int p1), .val (.long p2), .second, .val (.int p3), .val (.int md), .val (.ref xB), .val (.int (0 : Int32)), .unset, .unset, .unset, .unset, .unset, .unset, .unset] [(.int (((p1.toUInt32 >>> ((3 : Int32) &&& 31).toUInt32).toInt32) &&& (7 : Int32)))]) _
        refine XS.goto X0.here hx rfl (pc0 := 73) (pc' := 81) rfl (hb hby at_73) (by decide) (by decide) ?_
        exact kt)
      obtain ⟨s2, o2, t1, t2, t3, t4⟩ := tl2 (n0 := n0) p1 p2 p3 bV kV g0 y0 ty0 ky0 g1 y1 ty1 ky1 g2 y2 ty2 ky2 G1 G3 md xB tB kB csB (.val (.int (0 : Int32))) (((p1.toUInt32 >>> ((3 : Int32) &&& 31).toUInt32).toInt32) &&& (7 : Int32)) (X0.mono (by decide) (by decide)) hx hZ hw hby hml hown hret hlk e0 Nf0 Z0 hS0 hk0 CR0.1 E_xB V_xB C_xB K_xB hp_xB hl_xB O0 O2 P5 O4 rG3 SV EV VV Fg0 Ey0 Vy0 Cy0 Ky0 Fg1 Ey1 Vy1 Cy1 Ky1 Fg2 Ey2 Vy2 Cy2 Ky2 Sg0 Sg1 Sg2
      exact ⟨s2, o2, id (kn3 _ (t1)), t2, t3, t4⟩
    · have kn4 : ∀ t, own_S p e below T0 (mkF m 78 #[.val (.int p1), .val (.long p2), .second, .val (.int p3), .val (.int md), .val (.ref xB), .val (.int (0 : Int32)), .unset, .unset, .unset, .unset, .unset, .unset, .unset] [(.ref xB)]) t → own_S p e below T0 (mkF m 39 #[.val (.int p1), .val (.long p2), .second, .val (.int p3), .val (.int md), .unset, .unset, .unset, .unset, .unset, .unset, .unset, .unset, .unset] [(.ref xB)]) t := fun t kt => kn2 t (by
        show own_S p e below T0 (mkF m 64 #[.val (.int p1), .val (.long p2), .second, .val (.int p3), .val (.int md), .val (.ref xB), .val (.int (0 : Int32)), .unset, .unset, .unset, .unset, .unset, .unset, .unset] [(.int (3 : Int32)), (.int md)]) _
        refine XS.icmpYes X0.here hx rfl (pc0 := 64) (pc' := 76) rfl (hb hby at_64) rfl (feq hc64).2 (by decide) (by decide) ?_
        show own_S p e below T0 (mkF m 76 #[.val (.int p1), .val (.long p2), .second, .val (.int p3), .val (.int md), .val (.ref xB), .val (.int (0 : Int32)), .unset, .unset, .unset, .unset, .unset, .unset, .unset] []) _
        refine XS.aload X0.here hx rfl (hb hby at_76) rfl rfl ?_
        exact kt)
      have hln : ∀ d ∈ StrChars.Road.wordsLen, d.before a0 Z = true := fun d hd => hw d ((by decide +kernel : ∀ d ∈ StrChars.Road.wordsLen, d ∈ tables_1) d hd)
      obtain ⟨cq5, kq5, qa5, qb5, qc5⟩ := isOf hZ e0 E_xB
      obtain ⟨_, _, ⟨T5, L5, cc5, ss5⟩, -, X5, ⟨Lc5, hQ5, l5, y5, z5⟩, st5⟩ := X0.virtualBack hx (y := (⟨"java/lang/String", "length", "()I"⟩ : MethodName)) (z := (⟨"java/lang/String", "length", "()I"⟩ : MethodName)) hown (mvT hZ (hw _ (List.mem_of_getElem? (i := 8) rfl))) (mvT hZ (hw _ (List.mem_of_getElem? (i := 9) rfl))) (notFace_of_selects (args := #[]) (mvT hZ (hw _ (List.mem_of_getElem? (i := 11) rfl)))) (mvT hZ (hw _ (List.mem_of_getElem? (i := 11) rfl))) (mvT hZ (hw _ (List.mem_of_getElem? (i := 10) rfl))) (by decide) (StrChars.Road.lenW (W := 0) hZ hln (kI := 4) (hw _ (List.mem_of_getElem? (i := 2) rfl)) E_xB V_xB C_xB K_xB (StrChars.Road.codOf (cs := csB) (n := csB.length) rfl (fun x hx => (hp_xB x hx).2)) (own_up _ hp_xB) (O2.ext O0.2) P5 (Nat.le_trans hl_xB (by decide)) (by decide) (by decide)) qa5 qc5 (g := (mkF m 78 #[.val (.int p1), .val (.long p2), .second, .val (.int p3), .val (.int md), .val (.ref xB), .val (.int (0 : Int32)), .unset, .unset, .unset, .unset, .unset, .unset, .unset] [(.ref xB)])) rfl (by rw [hml]; rfl) (Steps.refl _) (argsL := []) (rest := []) (lenOf pd_0 rfl) rfl (by show 2 * 0 + _ ≤ _; exact Nat.le_of_eq rfl) (hb hby at_78) (fun _ _ => ⟨rfl, e0, (by decide : 2 + 0 ≤ _), (by decide : 32 + 0 ≤ _)⟩)
      dsimp only [Pt.U, Pt.locs, Pt.cells, Pt.slots] at X5 l5 y5 z5 st5 hQ5
      subst l5 y5 z5
      have X5 : Stand p l e _ _ m _ below meth c T5 _ 2 32 := X5
      obtain ⟨rfl, rfl, eq5⟩ := hQ5
      have Nq5 : Fr n0 ([] : List Loc) := Fr.nil n0
      have Nf5 := Fr.app Nf0 Nq5
      have kn6 : ∀ t, own_S p e below T5 (mkF m 81 #[.val (.int p1), .val (.long p2), .second, .val (.int p3), .val (.int md), .val (.ref xB), .val (.int (0 : Int32)), .unset, .unset, .unset, .unset, .unset, .unset, .unset] [(.int (Int32.ofNat csB.length))]) t → own_S p e below T0 (mkF m 39 #[.val (.int p1), .val (.long p2), .second, .val (.int p3), .val (.int md), .unset, .unset, .unset, .unset, .unset, .unset, .unset, .unset, .unset] [(.ref xB)]) t := fun t kt => kn4 t (st5.trans kt)
      obtain ⟨s2, o2, t1, t2, t3, t4⟩ := tl2 (n0 := n0) p1 p2 p3 bV kV g0 y0 ty0 ky0 g1 y1 ty1 ky1 g2 y2 ty2 ky2 G1 G3 md xB tB kB csB (.val (.int (0 : Int32))) (Int32.ofNat csB.length) (X5.mono (by decide) (by decide)) hx hZ hw hby hml hown hret hlk eq5 Nf5 Z0 hS0 hk0 CR0.1 E_xB V_xB C_xB K_xB hp_xB hl_xB O0 O2 P5 O4 rG3 SV EV VV Fg0 Ey0 Vy0 Cy0 Ky0 Fg1 Ey1 Vy1 Cy1 Ky1 Fg2 Ey2 Vy2 Cy2 Ky2 Sg0 Sg1 Sg2
      exact ⟨s2, o2, id (kn6 _ (t1)), t2, t3, t4⟩
  · have kn7 : ∀ t, own_S p e below T0 (mkF m 81 #[.val (.int p1), .val (.long p2), .second, .val (.int p3), .val (.int md), .val (.ref xB), .val (.int (1 : Int32)), .unset, .unset, .unset, .unset, .unset, .unset, .unset] [(.int (((p1.toUInt32 >>> ((3 : Int32) &&& 31).toUInt32).toInt32) &&& (7 : Int32)))]) t → own_S p e below T0 (mkF m 39 #[.val (.int p1), .val (.long p2), .second, .val (.int p3), .val (.int md), .unset, .unset, .unset, .unset, .unset, .unset, .unset, .unset, .unset] [(.ref xB)]) t := fun t kt => kn1 t (by
      show own_S p e below T0 (mkF m 46 #[.val (.int p1), .val (.long p2), .second, .val (.int p3), .val (.int md), .val (.ref xB), .unset, .unset, .unset, .unset, .unset, .unset, .unset, .unset] [(.int (((p1.toUInt32 >>> ((2 : Int32) &&& 31).toUInt32).toInt32) &&& (1 : Int32)))]) _
      refine XS.ifNo X0.here hx rfl (hb hby at_46) rfl ((if0 _ _).trans (feq hc46).1) ?_
      show own_S p e below T0 (mkF m 49 #[.val (.int p1), .val (.long p2), .second, .val (.int p3), .val (.int md), .val (.ref xB), .unset, .unset, .unset, .unset, .unset, .unset, .unset, .unset] []) _
      refine XS.iconst X0.here hx rfl (hb hby at_49) ?_
      show own_S p e below T0 (mkF m 50 #[.val (.int p1), .val (.long p2), .second, .val (.int p3), .val (.int md), .val (.ref xB), .unset, .unset, .unset, .unset, .unset, .unset, .unset, .unset] [(.int (1 : Int32))]) _
      refine XS.goto X0.here hx rfl (pc0 := 50) (pc' := 54) rfl (hb hby at_50) (by decide) (by decide) ?_
      show own_S p e below T0 (mkF m 54 #[.val (.int p1), .val (.long p2), .second, .val (.int p3), .val (.int md), .val (.ref xB), .unset, .unset, .unset, .unset, .unset, .unset, .unset, .unset] [(.int (1 : Int32))]) _
      refine XS.istore X0.here hx rfl (hb hby at_54) rfl (l' := #[.val (.int p1), .val (.long p2), .second, .val (.int p3), .val (.int md), .val (.ref xB), .val (.int (1 : Int32)), .unset, .unset, .unset, .unset, .unset, .unset, .unset]) rfl ?_
      show own_S p e below T0 (mkF m 56 #[.val (.int p1), .val (.long p2), .second, .val (.int p3), .val (.int md), .val (.ref xB), .val (.int (1 : Int32)), .unset, .unset, .unset, .unset, .unset, .unset, .unset] []) _
      refine XS.iload X0.here hx rfl (hb hby at_56) rfl ?_
      show own_S p e below T0 (mkF m 58 #[.val (.int p1), .val (.long p2), .second, .val (.int p3), .val (.int md), .val (.ref xB), .val (.int (1 : Int32)), .unset, .unset, .unset, .unset, .unset, .unset, .unset] [(.int (1 : Int32))]) _
      refine XS.ifYes X0.here hx rfl (pc0 := 58) (pc' := 67) rfl (hb hby at_58) rfl ((if0 _ _).trans (feq (by decide : ¬ ((1 : Int32) = (0 : Int32)))).2) (by decide) (by decide) ?_
      show own_S p e below T0 (mkF m 67 #[.val (.int p1), .val (.long p2), .second, .val (.int p3), .val (.int md), .val (.ref xB), .val (.int (1 : Int32)), .unset, .unset, .unset, .unset, .unset, .unset, .unset] []) _
      refine XS.iloadN X0.here hx rfl (hb hby at_67) rfl ?_
      show own_S p e below T0 (mkF m 68 #[.val (.int p1), .val (.long p2), .second, .val (.int p3), .val (.int md), .val (.ref xB), .val (.int (1 : Int32)), .unset, .unset, .unset, .unset, .unset, .unset, .unset] [(.int p1)]) _
      refine XS.iconst X0.here hx rfl (hb hby at_68) ?_
      show own_S p e below T0 (mkF m 69 #[.val (.int p1), .val (.long p2), .second, .val (.int p3), .val (.int md), .val (.ref xB), .val (.int (1 : Int32)), .unset, .unset, .unset, .unset, .unset, .unset, .unset] [(.int (3 : Int32)), (.int p1)]) _
      refine XS.iushr X0.here hx rfl (hb hby at_69) rfl ?_
      show own_S p e below T0 (mkF m 70 #[.val (.int p1), .val (.long p2), .second, .val (.int p3), .val (.int md), .val (.ref xB), .val (.int (1 : Int32)), .unset, .unset, .unset, .unset, .unset, .unset, .unset] [(.int ((p1.toUInt32 >>> ((3 : Int32) &&& 31).toUInt32).toInt32))]) _
      refine XS.bipush X0.here hx rfl (hb hby at_70) ?_
      show own_S p e below T0 (mkF m 72 #[.val (.int p1), .val (.long p2), .second, .val (.int p3), .val (.int md), .val (.ref xB), .val (.int (1 : Int32)), .unset, .unset, .unset, .unset, .unset, .unset, .unset] [(.int (7 : Int32)), (.int ((p1.toUInt32 >>> ((3 : Int32) &&& 31).toUInt32).toInt32))]) _
      refine XS.iand X0.here hx rfl (hb hby at_72) rfl ?_
      show own_S p e below T0 (mkF m 73 #[.val (.int p1), .val (.long p2), .second, .val (.int p3), .val (.int md), .val (.ref xB), .val (.int (1 : Int32)), .unset, .unset, .unset, .unset, .unset, .unset, .unset] [(.int (((p1.toUInt32 >>> ((3 : Int32) &&& 31).toUInt32).toInt32) &&& (7 : Int32)))]) _
      refine XS.goto X0.here hx rfl (pc0 := 73) (pc' := 81) rfl (hb hby at_73) (by decide) (by decide) ?_
      exact kt)
    obtain ⟨s2, o2, t1, t2, t3, t4⟩ := tl2 (n0 := n0) p1 p2 p3 bV kV g0 y0 ty0 ky0 g1 y1 ty1 ky1 g2 y2 ty2 ky2 G1 G3 md xB tB kB csB (.val (.int (1 : Int32))) (((p1.toUInt32 >>> ((3 : Int32) &&& 31).toUInt32).toInt32) &&& (7 : Int32)) (X0.mono (by decide) (by decide)) hx hZ hw hby hml hown hret hlk e0 Nf0 Z0 hS0 hk0 CR0.1 E_xB V_xB C_xB K_xB hp_xB hl_xB O0 O2 P5 O4 rG3 SV EV VV Fg0 Ey0 Vy0 Cy0 Ky0 Fg1 Ey1 Vy1 Cy1 Ky1 Fg2 Ey2 Vy2 Cy2 Ky2 Sg0 Sg1 Sg2
    exact ⟨s2, o2, id (kn7 _ (t1)), t2, t3, t4⟩

theorem ef_rm0 (m : MethodId) (x0 : Int32) (x1 : Int64) (x2 : Int32) : entryFrame m #[(.int x0), (.long x1), (.int x2)] maxLocals = mkF m 0 #[.val (.int x0), .val (.long x1), .second, .val (.int x2), .unset, .unset, .unset, .unset, .unset, .unset, .unset, .unset, .unset, .unset] [] := by first | (simp [entryFrame, mkF, argsToLocals, Value.category, maxLocals]; done) | rfl
 
set_option maxRecDepth 65536 in
set_option maxHeartbeats 40000000 in
theorem rm0 (l : Launch) (Z : State) (a0 : Array Value) (hw : ∀ d ∈ tables_1, d.before a0 Z = true) (ws : List Jvm.Cond) (p1 : Int32) (p2 : Int64) (p3 : Int32) (bV : Addr) (kV : ClassId) (g0 : Addr) (y0 : Addr) (ty0 : Addr) (ky0 : ClassId) (g1 : Addr) (y1 : Addr) (ty1 : Addr) (ky1 : ClassId) (g2 : Addr) (y2 : Addr) (ty2 : Addr) (ky2 : ClassId) (G1 : Int32) (G3 : Value) (h0 : Heap) (n0 : Nat) (Z0 : n0 ≤ h0.size) (O0 : Old Z n0 h0) (O2 : Sta Z Z.heap "java/lang/String" "COMPACT_STRINGS" "Z" (.int G1)) (P5 : ¬ (G1 = (0 : Int32))) (O4 : Sta Z Z.heap "jdk/internal/util/Preconditions" "SIOOBE_FORMATTER" "Ljava/util/function/BiFunction;" G3) (rG3 : G3.isRef = true) (SV : Sta Z Z.heap "com/example/runs_to_scores/runstoscores/formats/Subtask" "$VALUES" "[Lcom/example/runs_to_scores/runstoscores/formats/Subtask;" (.ref bV)) (EV : Exa Z Z.heap bV "[Lcom/example/runs_to_scores/runstoscores/formats/Subtask;") (VV : Arv Z Z.heap bV kV (.object "com/example/runs_to_scores/runstoscores/formats/Subtask") (3 : Int32) [(.ref g0), (.ref g1), (.ref g2)] .null) (Fg0 : Fld Z Z.heap g0 "com/example/runs_to_scores/runstoscores/formats/Subtask" "label" "Ljava/lang/String;" (.ref y0)) (Ey0 : Exa Z Z.heap y0 "java/lang/String") (Vy0 : Fld Z Z.heap y0 "java/lang/String" "value" "[B" (.ref ty0)) (Cy0 : Fld Z Z.heap y0 "java/lang/String" "coder" "B" (.int (0 : Int32))) (Ky0 : Arv Z Z.heap ty0 ky0 .byte (6 : Int32) ((([(116 : Int32), (114 : Int32), (105 : Int32), (97 : Int32), (103 : Int32), (101 : Int32)] : List Int32).map (fun c => c.toInt8.toInt32)).map Value.int) (.int (0 : Int32))) (Fg1 : Fld Z Z.heap g1 "com/example/runs_to_scores/runstoscores/formats/Subtask" "label" "Ljava/lang/String;" (.ref y1)) (Ey1 : Exa Z Z.heap y1 "java/lang/String") (Vy1 : Fld Z Z.heap y1 "java/lang/String" "value" "[B" (.ref ty1)) (Cy1 : Fld Z Z.heap y1 "java/lang/String" "coder" "B" (.int (0 : Int32))) (Ky1 : Arv Z Z.heap ty1 ky1 .byte (5 : Int32) ((([(97 : Int32), (110 : Int32), (110 : Int32), (104 : Int32), (105 : Int32)] : List Int32).map (fun c => c.toInt8.toInt32)).map Value.int) (.int (0 : Int32))) (Fg2 : Fld Z Z.heap g2 "com/example/runs_to_scores/runstoscores/formats/Subtask" "label" "Ljava/lang/String;" (.ref y2)) (Ey2 : Exa Z Z.heap y2 "java/lang/String") (Vy2 : Fld Z Z.heap y2 "java/lang/String" "value" "[B" (.ref ty2)) (Cy2 : Fld Z Z.heap y2 "java/lang/String" "coder" "B" (.int (0 : Int32))) (Ky2 : Arv Z Z.heap ty2 ky2 .byte (7 : Int32) ((([(97 : Int32), (110 : Int32), (110 : Int32), (104 : Int32), (105 : Int32), (101 : Int32), (118 : Int32)] : List Int32).map (fun c => c.toInt8.toInt32)).map Value.int) (.int (0 : Int32))) (Sg0 : Sta Z Z.heap "com/example/runs_to_scores/runstoscores/formats/Subtask" "TRIAGE" "Lcom/example/runs_to_scores/runstoscores/formats/Subtask;" (.ref g0)) (Sg1 : Sta Z Z.heap "com/example/runs_to_scores/runstoscores/formats/Subtask" "ANNHI" "Lcom/example/runs_to_scores/runstoscores/formats/Subtask;" (.ref g1)) (Sg2 : Sta Z Z.heap "com/example/runs_to_scores/runstoscores/formats/Subtask" "ANNHIEV" "Lcom/example/runs_to_scores/runstoscores/formats/Subtask;" (.ref g2)) (hz0 : h0 = Z.heap) (HC : ∀ p ∈ consts_1, Jvm.Lit.constHeld Z p.1 p.2) (hcw : Jvm.Lit.compactW.before a0 Z = true) :
    MetFree l x (head1 (Jvm.Cond.code x code maxLocals ret :: ws) room_1) (fun a U => a = #[(.int p1), (.long p2), (.int p3)] ∧ Z.Warmed39 U.vm ∧ U.heap = h0 ∧ U.vm = Z.vm) (fun _ _ _ _ _ => True) (fun _ U o U' => ∃ v L, o = .returned v ∧ Q0 Z p1 p2 p3 bV kV g0 y0 ty0 ky0 g1 y1 ty1 ky1 g2 y2 ty2 ky2 G1 G3 h0 n0 v U'.heap L ∧ ReturnedEndW U o U' L 32 5312) := by
  refine MetFree.of_bodySF (plainFor_of_name pn_0) hisR ?_
  intro p e s m args below meth c s₁ Bd hml0 hP hK
  obtain ⟨rfl, hZ, hh, hvz⟩ := hP
  have hx := Bd.exec
  have hby := Bd.bytes
  have hml : c.maxLocals = 14 := hml0
  have hown : s.vm.findClass "com/example/runs_to_scores/runstoscores/formats/SubtaskLabelledPinLaw" = some m.cls := findClass_of_methodNamed Bd.named
  have hnm := (name_of_methodNamed Bd.named Bd.method).1
  have X0 : Stand p l e room_1 s m #[(.int p1), (.long p2), (.int p3)] below meth c s₁ [] 0 0 := Stand.of_body Bd
  have e0 : s₁.heap = h0 := by rw [← hh, Bd.state]; rfl
  have Nf0 := Fr.nil n0
  obtain ⟨Gl, hGl, kn0⟩ : ∃ Gl : State → Prop, (∀ t, Gl t → Steps p.tables e below (s₁.setTop (entryFrame m #[(.int p1), (.long p2), (.int p3)] maxLocals)) t) ∧ ∀ t, own_S p e below s₁ (mkF m 0 #[.val (.int p1), .val (.long p2), .second, .val (.int p3), .unset, .unset, .unset, .unset, .unset, .unset, .unset, .unset, .unset, .unset] []) t → Gl t := ⟨fun t => Steps p.tables e below (s₁.setTop (entryFrame m #[(.int p1), (.long p2), (.int p3)] maxLocals)) t, fun _ k => k, fun t k => castTop (ef_rm0 m p1 p2 p3) k⟩
  have hCH : CHv Z consts_1 s.vm h0 := by rw [show s.vm = Z.vm from hvz, hz0]; exact CHv.start (own_EW hw) HC hcw (hw _ (List.mem_of_getElem? (i := 3) rfl)) (hw _ (List.mem_of_getElem? (i := 2) rfl))
  have X0 : Stand p l e room_1 (s.setVm s.vm) m #[(.int p1), (.long p2), (.int p3)] below meth c s₁ [] 0 0 := X0
  have hZ : Z.Warmed39 (s.setVm s.vm).vm := hZ
  have hown : (s.setVm s.vm).vm.findClass "com/example/runs_to_scores/runstoscores/formats/SubtaskLabelledPinLaw" = some m.cls := hown
  have hSt0 : s.Since s.vm 0 := (State.WarmedH.refl s).since 0
  have CR0 := CHr.refl hCH
  have kn1 : ∀ t, own_S p e below s₁ (mkF m 7 #[.val (.int p1), .val (.long p2), .second, .val (.int p3), .val (.int (p1 &&& (3 : Int32))), .unset, .unset, .unset, .unset, .unset, .unset, .unset, .unset, .unset] [(.int (p1 &&& (3 : Int32)))]) t → Gl t := fun t kt => kn0 t (by
    show own_S p e below s₁ (mkF m 0 #[.val (.int p1), .val (.long p2), .second, .val (.int p3), .unset, .unset, .unset, .unset, .unset, .unset, .unset, .unset, .unset, .unset] []) _
    refine XS.iloadN X0.here hx rfl (hb hby at_0) rfl ?_
    show own_S p e below s₁ (mkF m 1 #[.val (.int p1), .val (.long p2), .second, .val (.int p3), .unset, .unset, .unset, .unset, .unset, .unset, .unset, .unset, .unset, .unset] [(.int p1)]) _
    refine XS.iconst X0.here hx rfl (hb hby at_1) ?_
    show own_S p e below s₁ (mkF m 2 #[.val (.int p1), .val (.long p2), .second, .val (.int p3), .unset, .unset, .unset, .unset, .unset, .unset, .unset, .unset, .unset, .unset] [(.int (3 : Int32)), (.int p1)]) _
    refine XS.iand X0.here hx rfl (hb hby at_2) rfl ?_
    show own_S p e below s₁ (mkF m 3 #[.val (.int p1), .val (.long p2), .second, .val (.int p3), .unset, .unset, .unset, .unset, .unset, .unset, .unset, .unset, .unset, .unset] [(.int (p1 &&& (3 : Int32)))]) _
    refine XS.istore X0.here hx rfl (hb hby at_3) rfl (l' := #[.val (.int p1), .val (.long p2), .second, .val (.int p3), .val (.int (p1 &&& (3 : Int32))), .unset, .unset, .unset, .unset, .unset, .unset, .unset, .unset, .unset]) rfl ?_
    show own_S p e below s₁ (mkF m 5 #[.val (.int p1), .val (.long p2), .second, .val (.int p3), .val (.int (p1 &&& (3 : Int32))), .unset, .unset, .unset, .unset, .unset, .unset, .unset, .unset, .unset] []) _
    refine XS.iload X0.here hx rfl (hb hby at_5) rfl ?_
    exact kt)
  by_cases hc7 : (p1 &&& (3 : Int32)) = (0 : Int32)
  · have kn2 : ∀ t, own_S p e below s₁ (mkF m 10 #[.val (.int p1), .val (.long p2), .second, .val (.int p3), .val (.int (p1 &&& (3 : Int32))), .unset, .unset, .unset, .unset, .unset, .unset, .unset, .unset, .unset] []) t → Gl t := fun t kt => kn1 t (by
      show own_S p e below s₁ (mkF m 7 #[.val (.int p1), .val (.long p2), .second, .val (.int p3), .val (.int (p1 &&& (3 : Int32))), .unset, .unset, .unset, .unset, .unset, .unset, .unset, .unset, .unset] [(.int (p1 &&& (3 : Int32)))]) _
      refine XS.ifNo X0.here hx rfl (hb hby at_7) rfl ((if0 _ _).trans (teq hc7).2) ?_
      exact kt)
    obtain ⟨a3, T3, h3, kc3, t3, kk3, X3, e3, E3, hSn3, hkn3, hZ, hown, Ex3, Co3, Va3, Ar3, la3, lb3, CC3, Lt3, sf3, st3⟩ := ldcCH (vm0 := s.vm) X0 hx hZ hown (hw _ (List.mem_of_getElem? (i := 0) rfl)) (own_wS hw) e0 hSt0 (Nat.zero_le _) (own_EW hw) (List.mem_of_getElem? (i := 0) rfl) CR0.1 (vs := [(.int (116 : Int32)), (.int (114 : Int32)), (.int (105 : Int32)), (.int (97 : Int32)), (.int (103 : Int32)), (.int (101 : Int32))]) (z := (6 : Int32)) ⟨by decide, by decide⟩ (by decide) rfl (g := (mkF m 10 #[.val (.int p1), .val (.long p2), .second, .val (.int p3), .val (.int (p1 &&& (3 : Int32))), .unset, .unset, .unset, .unset, .unset, .unset, .unset, .unset, .unset] [])) rfl (hb hby at_10) (n := 24) (by decide) (by decide) (by decide) (by decide)
    have CR4 := CR0.trans CC3
    have Z5 : n0 ≤ h3.size := Nat.le_trans Z0 E3.1
    have hk6 := Nat.le_trans (Nat.zero_le _) E3.1
    have Od7 : Old Z n0 h3 := O0.ext E3
    have Ag3 : Arv Z h3 t3 kk3 .byte (Int32.ofNat ([(116 : Int32), (114 : Int32), (105 : Int32), (97 : Int32), (103 : Int32), (101 : Int32)] : List Int32).length) ((([(116 : Int32), (114 : Int32), (105 : Int32), (97 : Int32), (103 : Int32), (101 : Int32)] : List Int32).map (fun c => c.toInt8.toInt32)).map Value.int) (.int (0 : Int32)) := Ar3
    have hp3 : ∀ c ∈ ([(116 : Int32), (114 : Int32), (105 : Int32), (97 : Int32), (103 : Int32), (101 : Int32)] : List Int32), ¬ c < 0 ∧ ¬ (255 : Int32) < c := by decide
    have hl3 : ([(116 : Int32), (114 : Int32), (105 : Int32), (97 : Int32), (103 : Int32), (101 : Int32)] : List Int32).length ≤ 64 := by decide
    have kn8 : ∀ t, own_S p e below T3 (mkF m 12 #[.val (.int p1), .val (.long p2), .second, .val (.int p3), .val (.int (p1 &&& (3 : Int32))), .unset, .unset, .unset, .unset, .unset, .unset, .unset, .unset, .unset] [(.ref a3)]) t → Gl t := fun t kt => kn2 t (st3 _ kt)
    have kn9 : ∀ t, own_S p e below T3 (mkF m 39 #[.val (.int p1), .val (.long p2), .second, .val (.int p3), .val (.int (p1 &&& (3 : Int32))), .unset, .unset, .unset, .unset, .unset, .unset, .unset, .unset, .unset] [(.ref a3)]) t → Gl t := fun t kt => kn8 t (by
      show own_S p e below T3 (mkF m 12 #[.val (.int p1), .val (.long p2), .second, .val (.int p3), .val (.int (p1 &&& (3 : Int32))), .unset, .unset, .unset, .unset, .unset, .unset, .unset, .unset, .unset] [(.ref a3)]) _
      refine XS.goto X3.here hx rfl (pc0 := 12) (pc' := 39) rfl (hb hby at_12) (by decide) (by decide) ?_
      exact kt)
    obtain ⟨s2, o2, t1, t2, t3, t4⟩ := tl1 (n0 := n0) p1 p2 p3 bV kV g0 y0 ty0 ky0 g1 y1 ty1 ky1 g2 y2 ty2 ky2 G1 G3 (p1 &&& (3 : Int32)) a3 t3 kk3 ([(116 : Int32), (114 : Int32), (105 : Int32), (97 : Int32), (103 : Int32), (101 : Int32)] : List Int32) (X3.mono (by decide) (by decide)) hx hZ hw hby hml hown Bd.returns (BodyLoose.notSynchronized Bd) e3 Nf0 Z5 hSn3 hkn3 CR4.1 Ex3 Va3 Co3 Ag3 hp3 hl3 Od7 O2 P5 O4 rG3 SV EV VV Fg0 Ey0 Vy0 Cy0 Ky0 Fg1 Ey1 Vy1 Cy1 Ky1 Fg2 Ey2 Vy2 Cy2 Ky2 Sg0 Sg1 Sg2
    exact ⟨s2, o2, hGl _ (kn9 _ (t1)), t2, t3, t4⟩
  · have kn10 : ∀ t, own_S p e below s₁ (mkF m 18 #[.val (.int p1), .val (.long p2), .second, .val (.int p3), .val (.int (p1 &&& (3 : Int32))), .unset, .unset, .unset, .unset, .unset, .unset, .unset, .unset, .unset] [(.int (1 : Int32)), (.int (p1 &&& (3 : Int32)))]) t → Gl t := fun t kt => kn1 t (by
      show own_S p e below s₁ (mkF m 7 #[.val (.int p1), .val (.long p2), .second, .val (.int p3), .val (.int (p1 &&& (3 : Int32))), .unset, .unset, .unset, .unset, .unset, .unset, .unset, .unset, .unset] [(.int (p1 &&& (3 : Int32)))]) _
      refine XS.ifYes X0.here hx rfl (pc0 := 7) (pc' := 15) rfl (hb hby at_7) rfl ((if0 _ _).trans (feq hc7).2) (by decide) (by decide) ?_
      show own_S p e below s₁ (mkF m 15 #[.val (.int p1), .val (.long p2), .second, .val (.int p3), .val (.int (p1 &&& (3 : Int32))), .unset, .unset, .unset, .unset, .unset, .unset, .unset, .unset, .unset] []) _
      refine XS.iload X0.here hx rfl (hb hby at_15) rfl ?_
      show own_S p e below s₁ (mkF m 17 #[.val (.int p1), .val (.long p2), .second, .val (.int p3), .val (.int (p1 &&& (3 : Int32))), .unset, .unset, .unset, .unset, .unset, .unset, .unset, .unset, .unset] [(.int (p1 &&& (3 : Int32)))]) _
      refine XS.iconst X0.here hx rfl (hb hby at_17) ?_
      exact kt)
    by_cases hc18 : (p1 &&& (3 : Int32)) = (1 : Int32)
    · have kn11 : ∀ t, own_S p e below s₁ (mkF m 21 #[.val (.int p1), .val (.long p2), .second, .val (.int p3), .val (.int (p1 &&& (3 : Int32))), .unset, .unset, .unset, .unset, .unset, .unset, .unset, .unset, .unset] []) t → Gl t := fun t kt => kn10 t (by
        show own_S p e below s₁ (mkF m 18 #[.val (.int p1), .val (.long p2), .second, .val (.int p3), .val (.int (p1 &&& (3 : Int32))), .unset, .unset, .unset, .unset, .unset, .unset, .unset, .unset, .unset] [(.int (1 : Int32)), (.int (p1 &&& (3 : Int32)))]) _
        refine XS.icmpNo X0.here hx rfl (hb hby at_18) rfl (teq hc18).2 ?_
        exact kt)
      obtain ⟨a12, T12, h12, kc12, t12, kk12, X12, e12, E12, hSn12, hkn12, hZ, hown, Ex12, Co12, Va12, Ar12, la12, lb12, CC12, Lt12, sf12, st12⟩ := ldcCH (vm0 := s.vm) X0 hx hZ hown (hw _ (List.mem_of_getElem? (i := 108) rfl)) (own_wS hw) e0 hSt0 (Nat.zero_le _) (own_EW hw) (List.mem_of_getElem? (i := 1) rfl) CR0.1 (vs := [(.int (97 : Int32)), (.int (110 : Int32)), (.int (110 : Int32)), (.int (104 : Int32)), (.int (105 : Int32))]) (z := (5 : Int32)) ⟨by decide, by decide⟩ (by decide) rfl (g := (mkF m 21 #[.val (.int p1), .val (.long p2), .second, .val (.int p3), .val (.int (p1 &&& (3 : Int32))), .unset, .unset, .unset, .unset, .unset, .unset, .unset, .unset, .unset] [])) rfl (hb hby at_21) (n := 20) (by decide) (by decide) (by decide) (by decide)
      have CR13 := CR0.trans CC12
      have Z14 : n0 ≤ h12.size := Nat.le_trans Z0 E12.1
      have hk15 := Nat.le_trans (Nat.zero_le _) E12.1
      have Od16 : Old Z n0 h12 := O0.ext E12
      have Ag12 : Arv Z h12 t12 kk12 .byte (Int32.ofNat ([(97 : Int32), (110 : Int32), (110 : Int32), (104 : Int32), (105 : Int32)] : List Int32).length) ((([(97 : Int32), (110 : Int32), (110 : Int32), (104 : Int32), (105 : Int32)] : List Int32).map (fun c => c.toInt8.toInt32)).map Value.int) (.int (0 : Int32)) := Ar12
      have hp12 : ∀ c ∈ ([(97 : Int32), (110 : Int32), (110 : Int32), (104 : Int32), (105 : Int32)] : List Int32), ¬ c < 0 ∧ ¬ (255 : Int32) < c := by decide
      have hl12 : ([(97 : Int32), (110 : Int32), (110 : Int32), (104 : Int32), (105 : Int32)] : List Int32).length ≤ 64 := by decide
      have kn17 : ∀ t, own_S p e below T12 (mkF m 23 #[.val (.int p1), .val (.long p2), .second, .val (.int p3), .val (.int (p1 &&& (3 : Int32))), .unset, .unset, .unset, .unset, .unset, .unset, .unset, .unset, .unset] [(.ref a12)]) t → Gl t := fun t kt => kn11 t (st12 _ kt)
      have kn18 : ∀ t, own_S p e below T12 (mkF m 39 #[.val (.int p1), .val (.long p2), .second, .val (.int p3), .val (.int (p1 &&& (3 : Int32))), .unset, .unset, .unset, .unset, .unset, .unset, .unset, .unset, .unset] [(.ref a12)]) t → Gl t := fun t kt => kn17 t (by
        show own_S p e below T12 (mkF m 23 #[.val (.int p1), .val (.long p2), .second, .val (.int p3), .val (.int (p1 &&& (3 : Int32))), .unset, .unset, .unset, .unset, .unset, .unset, .unset, .unset, .unset] [(.ref a12)]) _
        refine XS.goto X12.here hx rfl (pc0 := 23) (pc' := 39) rfl (hb hby at_23) (by decide) (by decide) ?_
        exact kt)
      obtain ⟨s2, o2, t1, t2, t3, t4⟩ := tl1 (n0 := n0) p1 p2 p3 bV kV g0 y0 ty0 ky0 g1 y1 ty1 ky1 g2 y2 ty2 ky2 G1 G3 (p1 &&& (3 : Int32)) a12 t12 kk12 ([(97 : Int32), (110 : Int32), (110 : Int32), (104 : Int32), (105 : Int32)] : List Int32) (X12.mono (by decide) (by decide)) hx hZ hw hby hml hown Bd.returns (BodyLoose.notSynchronized Bd) e12 Nf0 Z14 hSn12 hkn12 CR13.1 Ex12 Va12 Co12 Ag12 hp12 hl12 Od16 O2 P5 O4 rG3 SV EV VV Fg0 Ey0 Vy0 Cy0 Ky0 Fg1 Ey1 Vy1 Cy1 Ky1 Fg2 Ey2 Vy2 Cy2 Ky2 Sg0 Sg1 Sg2
      exact ⟨s2, o2, hGl _ (kn18 _ (t1)), t2, t3, t4⟩
    · have kn19 : ∀ t, own_S p e below s₁ (mkF m 29 #[.val (.int p1), .val (.long p2), .second, .val (.int p3), .val (.int (p1 &&& (3 : Int32))), .unset, .unset, .unset, .unset, .unset, .unset, .unset, .unset, .unset] [(.int (2 : Int32)), (.int (p1 &&& (3 : Int32)))]) t → Gl t := fun t kt => kn10 t (by
        show own_S p e below s₁ (mkF m 18 #[.val (.int p1), .val (.long p2), .second, .val (.int p3), .val (.int (p1 &&& (3 : Int32))), .unset, .unset, .unset, .unset, .unset, .unset, .unset, .unset, .unset] [(.int (1 : Int32)), (.int (p1 &&& (3 : Int32)))]) _
        refine XS.icmpYes X0.here hx rfl (pc0 := 18) (pc' := 26) rfl (hb hby at_18) rfl (feq hc18).2 (by decide) (by decide) ?_
        show own_S p e below s₁ (mkF m 26 #[.val (.int p1), .val (.long p2), .second, .val (.int p3), .val (.int (p1 &&& (3 : Int32))), .unset, .unset, .unset, .unset, .unset, .unset, .unset, .unset, .unset] []) _
        refine XS.iload X0.here hx rfl (hb hby at_26) rfl ?_
        show own_S p e below s₁ (mkF m 28 #[.val (.int p1), .val (.long p2), .second, .val (.int p3), .val (.int (p1 &&& (3 : Int32))), .unset, .unset, .unset, .unset, .unset, .unset, .unset, .unset, .unset] [(.int (p1 &&& (3 : Int32)))]) _
        refine XS.iconst X0.here hx rfl (hb hby at_28) ?_
        exact kt)
      by_cases hc29 : (p1 &&& (3 : Int32)) = (2 : Int32)
      · have kn20 : ∀ t, own_S p e below s₁ (mkF m 32 #[.val (.int p1), .val (.long p2), .second, .val (.int p3), .val (.int (p1 &&& (3 : Int32))), .unset, .unset, .unset, .unset, .unset, .unset, .unset, .unset, .unset] []) t → Gl t := fun t kt => kn19 t (by
          show own_S p e below s₁ (mkF m 29 #[.val (.int p1), .val (.long p2), .second, .val (.int p3), .val (.int (p1 &&& (3 : Int32))), .unset, .unset, .unset, .unset, .unset, .unset, .unset, .unset, .unset] [(.int (2 : Int32)), (.int (p1 &&& (3 : Int32)))]) _
          refine XS.icmpNo X0.here hx rfl (hb hby at_29) rfl (teq hc29).2 ?_
          exact kt)
        obtain ⟨a21, T21, h21, kc21, t21, kk21, X21, e21, E21, hSn21, hkn21, hZ, hown, Ex21, Co21, Va21, Ar21, la21, lb21, CC21, Lt21, sf21, st21⟩ := ldcCH (vm0 := s.vm) X0 hx hZ hown (hw _ (List.mem_of_getElem? (i := 109) rfl)) (own_wS hw) e0 hSt0 (Nat.zero_le _) (own_EW hw) (List.mem_of_getElem? (i := 2) rfl) CR0.1 (vs := [(.int (97 : Int32)), (.int (110 : Int32)), (.int (110 : Int32)), (.int (104 : Int32)), (.int (105 : Int32)), (.int (101 : Int32)), (.int (118 : Int32))]) (z := (7 : Int32)) ⟨by decide, by decide⟩ (by decide) rfl (g := (mkF m 32 #[.val (.int p1), .val (.long p2), .second, .val (.int p3), .val (.int (p1 &&& (3 : Int32))), .unset, .unset, .unset, .unset, .unset, .unset, .unset, .unset, .unset] [])) rfl (hb hby at_32) (n := 28) (by decide) (by decide) (by decide) (by decide)
        have CR22 := CR0.trans CC21
        have Z23 : n0 ≤ h21.size := Nat.le_trans Z0 E21.1
        have hk24 := Nat.le_trans (Nat.zero_le _) E21.1
        have Od25 : Old Z n0 h21 := O0.ext E21
        have Ag21 : Arv Z h21 t21 kk21 .byte (Int32.ofNat ([(97 : Int32), (110 : Int32), (110 : Int32), (104 : Int32), (105 : Int32), (101 : Int32), (118 : Int32)] : List Int32).length) ((([(97 : Int32), (110 : Int32), (110 : Int32), (104 : Int32), (105 : Int32), (101 : Int32), (118 : Int32)] : List Int32).map (fun c => c.toInt8.toInt32)).map Value.int) (.int (0 : Int32)) := Ar21
        have hp21 : ∀ c ∈ ([(97 : Int32), (110 : Int32), (110 : Int32), (104 : Int32), (105 : Int32), (101 : Int32), (118 : Int32)] : List Int32), ¬ c < 0 ∧ ¬ (255 : Int32) < c := by decide
        have hl21 : ([(97 : Int32), (110 : Int32), (110 : Int32), (104 : Int32), (105 : Int32), (101 : Int32), (118 : Int32)] : List Int32).length ≤ 64 := by decide
        have kn26 : ∀ t, own_S p e below T21 (mkF m 34 #[.val (.int p1), .val (.long p2), .second, .val (.int p3), .val (.int (p1 &&& (3 : Int32))), .unset, .unset, .unset, .unset, .unset, .unset, .unset, .unset, .unset] [(.ref a21)]) t → Gl t := fun t kt => kn20 t (st21 _ kt)
        have kn27 : ∀ t, own_S p e below T21 (mkF m 39 #[.val (.int p1), .val (.long p2), .second, .val (.int p3), .val (.int (p1 &&& (3 : Int32))), .unset, .unset, .unset, .unset, .unset, .unset, .unset, .unset, .unset] [(.ref a21)]) t → Gl t := fun t kt => kn26 t (by
          show own_S p e below T21 (mkF m 34 #[.val (.int p1), .val (.long p2), .second, .val (.int p3), .val (.int (p1 &&& (3 : Int32))), .unset, .unset, .unset, .unset, .unset, .unset, .unset, .unset, .unset] [(.ref a21)]) _
          refine XS.goto X21.here hx rfl (pc0 := 34) (pc' := 39) rfl (hb hby at_34) (by decide) (by decide) ?_
          exact kt)
        obtain ⟨s2, o2, t1, t2, t3, t4⟩ := tl1 (n0 := n0) p1 p2 p3 bV kV g0 y0 ty0 ky0 g1 y1 ty1 ky1 g2 y2 ty2 ky2 G1 G3 (p1 &&& (3 : Int32)) a21 t21 kk21 ([(97 : Int32), (110 : Int32), (110 : Int32), (104 : Int32), (105 : Int32), (101 : Int32), (118 : Int32)] : List Int32) (X21.mono (by decide) (by decide)) hx hZ hw hby hml hown Bd.returns (BodyLoose.notSynchronized Bd) e21 Nf0 Z23 hSn21 hkn21 CR22.1 Ex21 Va21 Co21 Ag21 hp21 hl21 Od25 O2 P5 O4 rG3 SV EV VV Fg0 Ey0 Vy0 Cy0 Ky0 Fg1 Ey1 Vy1 Cy1 Ky1 Fg2 Ey2 Vy2 Cy2 Ky2 Sg0 Sg1 Sg2
        exact ⟨s2, o2, hGl _ (kn27 _ (t1)), t2, t3, t4⟩
      · have kn28 : ∀ t, own_S p e below s₁ (mkF m 37 #[.val (.int p1), .val (.long p2), .second, .val (.int p3), .val (.int (p1 &&& (3 : Int32))), .unset, .unset, .unset, .unset, .unset, .unset, .unset, .unset, .unset] []) t → Gl t := fun t kt => kn19 t (by
          show own_S p e below s₁ (mkF m 29 #[.val (.int p1), .val (.long p2), .second, .val (.int p3), .val (.int (p1 &&& (3 : Int32))), .unset, .unset, .unset, .unset, .unset, .unset, .unset, .unset, .unset] [(.int (2 : Int32)), (.int (p1 &&& (3 : Int32)))]) _
          refine XS.icmpYes X0.here hx rfl (pc0 := 29) (pc' := 37) rfl (hb hby at_29) rfl (feq hc29).2 (by decide) (by decide) ?_
          exact kt)
        obtain ⟨a29, T29, h29, kc29, t29, kk29, X29, e29, E29, hSn29, hkn29, hZ, hown, Ex29, Co29, Va29, Ar29, la29, lb29, CC29, Lt29, sf29, st29⟩ := ldcCH (vm0 := s.vm) X0 hx hZ hown (hw _ (List.mem_of_getElem? (i := 78) rfl)) (own_wS hw) e0 hSt0 (Nat.zero_le _) (own_EW hw) (List.mem_of_getElem? (i := 3) rfl) CR0.1 (vs := []) (z := (0 : Int32)) ⟨by decide, by decide⟩ (by decide) rfl (g := (mkF m 37 #[.val (.int p1), .val (.long p2), .second, .val (.int p3), .val (.int (p1 &&& (3 : Int32))), .unset, .unset, .unset, .unset, .unset, .unset, .unset, .unset, .unset] [])) rfl (hb hby at_37) (n := 4) (by decide) (by decide) (by decide) (by decide)
        have CR30 := CR0.trans CC29
        have Z31 : n0 ≤ h29.size := Nat.le_trans Z0 E29.1
        have hk32 := Nat.le_trans (Nat.zero_le _) E29.1
        have Od33 : Old Z n0 h29 := O0.ext E29
        have Ag29 : Arv Z h29 t29 kk29 .byte (Int32.ofNat ([] : List Int32).length) ((([] : List Int32).map (fun c => c.toInt8.toInt32)).map Value.int) (.int (0 : Int32)) := Ar29
        have hp29 : ∀ c ∈ ([] : List Int32), ¬ c < 0 ∧ ¬ (255 : Int32) < c := by decide
        have hl29 : ([] : List Int32).length ≤ 64 := by decide
        have kn34 : ∀ t, own_S p e below T29 (mkF m 39 #[.val (.int p1), .val (.long p2), .second, .val (.int p3), .val (.int (p1 &&& (3 : Int32))), .unset, .unset, .unset, .unset, .unset, .unset, .unset, .unset, .unset] [(.ref a29)]) t → Gl t := fun t kt => kn28 t (st29 _ kt)
        obtain ⟨s2, o2, t1, t2, t3, t4⟩ := tl1 (n0 := n0) p1 p2 p3 bV kV g0 y0 ty0 ky0 g1 y1 ty1 ky1 g2 y2 ty2 ky2 G1 G3 (p1 &&& (3 : Int32)) a29 t29 kk29 ([] : List Int32) (X29.mono (by decide) (by decide)) hx hZ hw hby hml hown Bd.returns (BodyLoose.notSynchronized Bd) e29 Nf0 Z31 hSn29 hkn29 CR30.1 Ex29 Va29 Co29 Ag29 hp29 hl29 Od33 O2 P5 O4 rG3 SV EV VV Fg0 Ey0 Vy0 Cy0 Ky0 Fg1 Ey1 Vy1 Cy1 Ky1 Fg2 Ey2 Vy2 Cy2 Ky2 Sg0 Sg1 Sg2
        exact ⟨s2, o2, hGl _ (kn34 _ (t1)), t2, t3, t4⟩

set_option maxRecDepth 65536 in
set_option maxHeartbeats 40000000 in
theorem comes_1 {Post : Tables → Env → Array Value → State → Outcome → State → Prop} (hpost : ∀ tb e args s v u, (limb_1_1.after args s (.returned v) u = true ∧ limb_1_2.after args s (.returned v) u = true ∧ True) → ReturnedEndW s (.returned v) u (Jvm.fieldLocs frame_1_writes args s ++ Jvm.arrayLocs frame_1_arrays args s ++ Jvm.staticLocs frame_1_statics s) 32 5312 → Post tb e args s (.returned v) u) :
    ArmFor flags0 classFile x code maxLocals ret World_1 tables_1 room_1 Calls_1 rest_1 Pre_1 Post := by
  intro l hfl _ _ p e ha hc hk s m args below hf hA hF happ hP
  obtain ⟨hcalls, hrest, hpre⟩ := hP
  obtain ⟨-, -, -, hnamed, -, -, -, hat⟩ := (Spec.applies_iff hf).mp happ
  obtain ⟨hg, hn⟩ := and_e (Cond.before_iff.mp (show (Jvm.Cond.and given_1 narrow_1).before args s = true from hpre))
  obtain ⟨gc, gr0⟩ := and_e hg
  obtain ⟨ga0, gr1⟩ := and_e gr0
  obtain ⟨ga1, gr2⟩ := and_e gr1
  obtain ⟨w0, w1, w2, rfl⟩ : ∃ w0 w1 w2 : Value, args = #[w0, w1, w2] := by
    have hs : args.size = 3 := by simpa [Cond.value, given_1] using gc
    obtain ⟨L⟩ := args
    match L, hs with
    | [w0, w1, w2], _ => exact ⟨w0, w1, w2, rfl⟩
  have hw := fun d (hd : d ∈ tables_1) => atoms_spec (ws := Jvm.Cond.code x code maxLocals ret :: tables_1) hat d (List.mem_cons_of_mem _ hd)
  have hfit : Fit s := fun {y c} hc i hi => by
    obtain ⟨ha, rfl⟩ := Array.getElem?_eq_some_iff.mp hc
    have q := List.all_eq_true.mp ((Array.all_eq_true_iff_forall_mem.mp hF) _ (Array.getElem_mem ha)) i (List.mem_range.mpr hi)
    simpa [Array.getElem?_eq_getElem hi] using q
  obtain ⟨hsets, hown0⟩ := atoms_of _ (rest_1_c_eq ▸ (show rest_1_c.before _ s = true from hrest))
  have hr0 := Cond.before_iff.mp hown0
  obtain ⟨i0, ei0⟩ := is_v ga0
  obtain rfl : w0 = (.int i0) := Option.some.inj ei0
  obtain ⟨i1, ei1⟩ := isL_v ga1
  obtain rfl : w1 = (.long i1) := Option.some.inj ei1
  obtain ⟨i2, ei2⟩ := is_v gr2
  obtain rfl : w2 = (.int i2) := Option.some.inj ei2
  obtain ⟨m0, r0⟩ := and_e hn
  obtain ⟨m1, r1⟩ := and_e r0
  obtain ⟨m2, r2⟩ := and_e r1
  obtain ⟨m3, r3⟩ := and_e r2
  obtain ⟨m4, r4⟩ := and_e r3
  obtain ⟨m5, r5⟩ := and_e r4
  obtain ⟨m6, r6⟩ := and_e r5
  obtain ⟨m7, r7⟩ := and_e r6
  obtain ⟨m8, r8⟩ := and_e r7
  obtain ⟨m9, r9⟩ := and_e r8
  obtain ⟨m10, r10⟩ := and_e r9
  obtain ⟨m11, r11⟩ := and_e r10
  obtain ⟨m12, r12⟩ := and_e r11
  obtain ⟨m13, r13⟩ := and_e r12
  obtain ⟨m14, r14⟩ := and_e r13
  obtain ⟨m15, r15⟩ := and_e r14
  obtain ⟨m16, r16⟩ := and_e r15
  obtain ⟨m17, r17⟩ := and_e r16
  obtain ⟨m18, r18⟩ := and_e r17
  obtain ⟨m19, r19⟩ := and_e r18
  obtain ⟨m20, r20⟩ := and_e r19
  obtain ⟨m21, r21⟩ := and_e r20
  obtain ⟨m22, r22⟩ := and_e r21
  obtain ⟨m23, r23⟩ := and_e r22
  obtain ⟨m24, r24⟩ := and_e r23
  obtain ⟨m25, r25⟩ := and_e r24
  obtain ⟨m26, r26⟩ := and_e r25
  obtain ⟨m27, r27⟩ := and_e r26
  obtain ⟨m28, r28⟩ := and_e r27
  obtain ⟨m29, r29⟩ := and_e r28
  obtain ⟨m30, r30⟩ := and_e r29
  obtain ⟨m31, r31⟩ := and_e r30
  obtain ⟨m32, r32⟩ := and_e r31
  obtain ⟨m33, r33⟩ := and_e r32
  obtain ⟨m34, r34⟩ := and_e r33
  obtain ⟨m35, r35⟩ := and_e r34
  obtain ⟨m36, r36⟩ := and_e r35
  obtain ⟨m37, r37⟩ := and_e r36
  have m38 := r37
  obtain ⟨bV, vV⟩ := exa_v m1
  obtain ⟨cV, AV⟩ := Arr.start vV m0
  obtain ⟨lV1, lV2⟩ := own_len AV vV (own_eqi m2)
  obtain ⟨g0, vg0⟩ := exa_v m3
  have ee0 := (elem_in (own_eqr m4 vg0) vV (Term.int_eval (0 : Int32)) AV.1).2
  obtain ⟨y0, vy0⟩ := exa_v m9
  obtain ⟨ty0, vt0⟩ := arr_v m13
  obtain ⟨ct0, At0⟩ := Arr.start vt0 m13
  obtain ⟨lt0a, lt0b⟩ := own_len At0 vt0 (own_eqi m14)
  have et0_0 := (elem_in (own_eqi m21) vt0 (Term.int_eval (0 : Int32)) At0.1).2
  have et0_1 := (elem_in (own_eqi m22) vt0 (Term.int_eval (1 : Int32)) At0.1).2
  have et0_2 := (elem_in (own_eqi m23) vt0 (Term.int_eval (2 : Int32)) At0.1).2
  have et0_3 := (elem_in (own_eqi m24) vt0 (Term.int_eval (3 : Int32)) At0.1).2
  have et0_4 := (elem_in (own_eqi m25) vt0 (Term.int_eval (4 : Int32)) At0.1).2
  have et0_5 := (elem_in (own_eqi m26) vt0 (Term.int_eval (5 : Int32)) At0.1).2
  obtain ⟨g1, vg1⟩ := exa_v m5
  have ee1 := (elem_in (own_eqr m6 vg1) vV (Term.int_eval (1 : Int32)) AV.1).2
  obtain ⟨y1, vy1⟩ := exa_v m10
  obtain ⟨ty1, vt1⟩ := arr_v m16
  obtain ⟨ct1, At1⟩ := Arr.start vt1 m16
  obtain ⟨lt1a, lt1b⟩ := own_len At1 vt1 (own_eqi m17)
  have et1_0 := (elem_in (own_eqi m27) vt1 (Term.int_eval (0 : Int32)) At1.1).2
  have et1_1 := (elem_in (own_eqi m28) vt1 (Term.int_eval (1 : Int32)) At1.1).2
  have et1_2 := (elem_in (own_eqi m29) vt1 (Term.int_eval (2 : Int32)) At1.1).2
  have et1_3 := (elem_in (own_eqi m30) vt1 (Term.int_eval (3 : Int32)) At1.1).2
  have et1_4 := (elem_in (own_eqi m31) vt1 (Term.int_eval (4 : Int32)) At1.1).2
  obtain ⟨g2, vg2⟩ := exa_v m7
  have ee2 := (elem_in (own_eqr m8 vg2) vV (Term.int_eval (2 : Int32)) AV.1).2
  obtain ⟨y2, vy2⟩ := exa_v m11
  obtain ⟨ty2, vt2⟩ := arr_v m19
  obtain ⟨ct2, At2⟩ := Arr.start vt2 m19
  obtain ⟨lt2a, lt2b⟩ := own_len At2 vt2 (own_eqi m20)
  have et2_0 := (elem_in (own_eqi m32) vt2 (Term.int_eval (0 : Int32)) At2.1).2
  have et2_1 := (elem_in (own_eqi m33) vt2 (Term.int_eval (1 : Int32)) At2.1).2
  have et2_2 := (elem_in (own_eqi m34) vt2 (Term.int_eval (2 : Int32)) At2.1).2
  have et2_3 := (elem_in (own_eqi m35) vt2 (Term.int_eval (3 : Int32)) At2.1).2
  have et2_4 := (elem_in (own_eqi m36) vt2 (Term.int_eval (4 : Int32)) At2.1).2
  have et2_5 := (elem_in (own_eqi m37) vt2 (Term.int_eval (5 : Int32)) At2.1).2
  have et2_6 := (elem_in (own_eqi m38) vt2 (Term.int_eval (6 : Int32)) At2.1).2
  have n5 := not_v (Cond.before_iff.mp (hsets _ (List.mem_of_getElem? (i := 2) rfl)))
  obtain ⟨G1, e10⟩ := is_v (Cond.before_iff.mp (hsets _ (List.mem_of_getElem? (i := 1) rfl)))
  have S12 : Sta s s.heap "java/lang/String" "COMPACT_STRINGS" "Z" (.int G1) := Sta.start e10 (Or.inl (hsets _ (List.mem_of_getElem? (i := 0) rfl)))
  have c17 : ¬ (G1 = (0 : Int32)) := gotF (Cond.eq_ints e10 (Term.int_eval (0))) n5
  obtain ⟨G3, e14, r15⟩ := isR_v (Cond.before_iff.mp (hsets _ (List.mem_of_getElem? (i := 8) rfl)))
  have S16 : Sta s s.heap "jdk/internal/util/Preconditions" "SIOOBE_FORMATTER" "Ljava/util/function/BiFunction;" G3 := Sta.start e14 (Or.inl (hsets _ (List.mem_of_getElem? (i := 7) rfl)))
  obtain ⟨n, o, h1, h2, h3, _, L, rfl, ⟨rfl, N⟩, hq⟩ := rm0 l s _ hw tables_1 i0 i1 i2 bV cV.cls g0 y0 ty0 ct0.cls g1 y1 ty1 ct1.cls g2 y2 ty2 ct2.cls G1 G3 s.heap s.heap.size (Nat.le_refl _) (Old.start s) S12 c17 S16 r15 (Sta.start vV (Or.inr ⟨(hw _ (List.mem_of_getElem? (i := 51) rfl)), (hw _ (List.mem_of_getElem? (i := 57) rfl))⟩)) (Exa.start vV m1) (Arv.start hfit AV lV1 lV2 (by decide) rfl ⟨ee0, ee1, ee2, trivial⟩) (Fld.start ((fld_at vg0).symm.trans vy0)) (Exa.start vy0 m9) (Fld.start ((fld_at vy0).symm.trans vt0)) (Fld.start ((fld_at vy0).symm.trans (own_eqi m12))) (Arv.start hfit At0 lt0a lt0b (by decide) rfl ⟨et0_0, et0_1, et0_2, et0_3, et0_4, et0_5, trivial⟩) (Fld.start ((fld_at vg1).symm.trans vy1)) (Exa.start vy1 m10) (Fld.start ((fld_at vy1).symm.trans vt1)) (Fld.start ((fld_at vy1).symm.trans (own_eqi m15))) (Arv.start hfit At1 lt1a lt1b (by decide) rfl ⟨et1_0, et1_1, et1_2, et1_3, et1_4, trivial⟩) (Fld.start ((fld_at vg2).symm.trans vy2)) (Exa.start vy2 m11) (Fld.start ((fld_at vy2).symm.trans vt2)) (Fld.start ((fld_at vy2).symm.trans (own_eqi m18))) (Arv.start hfit At2 lt2a lt2b (by decide) rfl ⟨et2_0, et2_1, et2_2, et2_3, et2_4, et2_5, et2_6, trivial⟩) (Sta.start vg0 (Or.inr ⟨(hw _ (List.mem_of_getElem? (i := 51) rfl)), (hw _ (List.mem_of_getElem? (i := 65) rfl))⟩)) (Sta.start vg1 (Or.inr ⟨(hw _ (List.mem_of_getElem? (i := 51) rfl)), (hw _ (List.mem_of_getElem? (i := 66) rfl))⟩)) (Sta.start vg2 (Or.inr ⟨(hw _ (List.mem_of_getElem? (i := 51) rfl)), (hw _ (List.mem_of_getElem? (i := 67) rfl))⟩)) rfl hcalls.1 (hsets _ (List.mem_of_getElem? (i := 2) rfl)) p e ha hc hk s m _ below hf ((Spec.applies_iff_loose hf).mp happ).1 ⟨rfl, State.Warmed39.refl s, rfl, rfl⟩ trivial
  refine ⟨n, _, h1, h2, h3, hpost _ _ _ _ _ _ ⟨Cond.after_iff.mpr rfl, Cond.after_iff.mpr (eq_i res_at (Term.int_eval (1)) rfl), trivial⟩ ⟨hq.1, hq.2.1, hq.2.2.1, (hq.2.2.2.sift fun y hy => Or.inr (N y hy)).mono (by decide) (by decide)⟩⟩
theorem main_1_1 : Claimed_1_1 := comes_1 fun _ _ _ _ _ _ h hF => ⟨h.1, hF⟩
theorem main_1_2 : Claimed_1_2 := comes_1 fun _ _ _ _ _ _ h hF => ⟨h.2.1, hF⟩

end Jvm.Pilot.@@N@@
namespace Jvm.Pilot.@@N@@
open Jvm Jvm.ClassFile Sem Op Lib Jvm.Free Jvm.Stand Jvm.Pilot.@@N@@.Jvm.D
/-! MADE BY PROGRAM (witnessworld.py) out of the Statement's table words and the real class files: 22 classes; the members and pool entries that the words name. The judged class is class 1, her method 1. -/
namespace start1
open Jvm.ClassFile
def u (s : String) : CpInfo := .utf8 (stringToUtf16 s)
/-- a pool by its gaps: so many unusable entries, then the entry; so many at the end -/
def gap : Nat → List CpInfo → List CpInfo
  | 0, r => r
  | n + 1, r => .unusable :: gap n r
def poolList (es : List (Nat × CpInfo)) (last : Nat) : List CpInfo := es.foldr (fun e r => gap e.1 (e.2 :: r)) (gap last [])
def pool (es : List (Nat × CpInfo)) (last : Nat) : Array CpInfo := ⟨poolList es last⟩
def fileOf (pool : Array CpInfo) (this : Nat) (attrs : Array Attribute := #[]) (ms : Array MethodInfo := #[]) (fl : Nat := 33) (sup : Nat := 0) (ifs : Array Nat := #[]) (fds : Array FieldInfo := #[]) : ClassFile where
  minorVersion := 0
  majorVersion := 65
  constantPool := pool
  accessFlags := fl
  thisClass := this
  superClass := sup
  interfaces := ifs
  fields := fds
  methods := ms
  attributes := attrs
def plain (name : String) (sup : Option ClassId) : Class where
  name := name
  kind := .ordinary
  loader := none
  accessFlags := 33
  super := sup
  interfaces := #[]
  cf := none
  fields := #[]
  methods := #[]
  instanceTypes := #[]
  staticTypes := #[]
  resolved := #[]
  callSites := []
  init := .initialized
  statics := none
  mirror := none

def pool0 : Array CpInfo := pool [(5, u "<init>"), (0, u "()V"), (1, .class_ 10), (1, u "java/lang/Object"), (85, u "clone"), (0, u "()Ljava/lang/Object;")] 26

def k0c0 : Code := { maxStack := 0, maxLocals := 1, code := object_method_1_code, exceptionTable := #[], attributes := #[] }
def k0m0 : Method := { name := "<init>", desc := "()V", sig := { parameters := [], returnType := none }, accessFlags := 1, code := some k0c0 }
def k0m1 : Method := { name := "clone", desc := "()Ljava/lang/Object;", sig := { parameters := [], returnType := some (.object "java/lang/Object") }, accessFlags := 260, code := none }
/-- java/lang/Object -/
def k0 : Class := { plain "java/lang/Object" none with
  accessFlags := 33
  interfaces := #[]
  cf := some (fileOf pool0 8 #[] #[{ accessFlags := 1, nameIndex := 5, descriptorIndex := 6, attributes := #[] }, { accessFlags := 260, nameIndex := 96, descriptorIndex := 97, attributes := #[] }] 33 0 #[] #[])
  fields := #[]
  methods := #[k0m0, k0m1]
  instanceTypes := #[]
  staticTypes := #[]
  resolved := Array.replicate 124 none
  statics := none }

def pool1 : Array CpInfo := pool [(2, .class_ 4), (1, u "java/lang/Object"), (0, u "<init>"), (0, u "()V"), (0, .string 8), (0, u "triage"), (0, .string 10), (0, u "annhi"), (0, .string 12), (0, u "annhiev"), (0, .string 14), (0, u ""), (0, .methodref 16 17), (0, .class_ 18), (0, .nameAndType 19 20), (0, u "java/lang/String"), (0, u "length"), (0, u "()I"), (0, .methodref 22 23), (0, .class_ 24), (0, .nameAndType 25 26), (0, u "com/example/runs_to_scores/runstoscores/formats/SubtaskLabelledPinLaw"), (0, u "pick"), (0, u "(Ljava/lang/String;IJZIC)C"), (0, .methodref 22 28), (0, .nameAndType 29 30), (0, u "make"), (0, u "(I[C)Ljava/lang/String;"), (0, .methodref 16 32), (0, .nameAndType 33 34), (0, u "equals"), (0, u "(Ljava/lang/Object;)Z"), (0, .fieldref 36 37), (0, .class_ 38), (0, .nameAndType 39 40), (0, u "com/example/runs_to_scores/runstoscores/formats/Subtask"), (0, u "TRIAGE"), (0, u "Lcom/example/runs_to_scores/runstoscores/formats/Subtask;"), (0, .fieldref 36 42), (0, .nameAndType 43 40), (0, u "ANNHI"), (0, .fieldref 36 45), (0, .nameAndType 46 40), (0, u "ANNHIEV"), (0, .methodref 36 48), (0, .nameAndType 49 50), (0, u "labelled"), (0, u "(Ljava/lang/String;)Lcom/example/runs_to_scores/runstoscores/formats/Subtask;"), (0, .methodref 16 52), (0, .nameAndType 53 54), (0, u "charAt"), (0, u "(I)C"), (0, .long 255), (1, .methodref 16 58), (0, .nameAndType 5 59), (0, u "([C)V"), (2, u "law"), (0, u "(IJI)Z")] 5

def k1m0 : Method := { name := "<init>", desc := "()V", sig := { parameters := [], returnType := none }, accessFlags := 2, code := none }
def k1c1 : Code := { maxStack := 9, maxLocals := 14, code := code, exceptionTable := #[], attributes := #[] }
def k1m1 : Method := { name := "law", desc := "(IJI)Z", sig := { parameters := [.int, .long, .int], returnType := some .boolean }, accessFlags := 9, code := some k1c1 }
def k1c2 : Code := { maxStack := 4, maxLocals := 7, code := method_3_code, exceptionTable := #[], attributes := #[] }
def k1m2 : Method := { name := "pick", desc := "(Ljava/lang/String;IJZIC)C", sig := { parameters := [(.object "java/lang/String"), .int, .long, .boolean, .int, .char], returnType := some .char }, accessFlags := 10, code := some k1c2 }
def k1c3 : Code := { maxStack := 7, maxLocals := 2, code := method_4_code, exceptionTable := #[], attributes := #[] }
def k1m3 : Method := { name := "make", desc := "(I[C)Ljava/lang/String;", sig := { parameters := [.int, (.array .char)], returnType := some (.object "java/lang/String") }, accessFlags := 10, code := some k1c3 }
/-- com/example/runs_to_scores/runstoscores/formats/SubtaskLabelledPinLaw -/
def k1 : Class := { plain "com/example/runs_to_scores/runstoscores/formats/SubtaskLabelledPinLaw" (some 0) with
  accessFlags := 49
  interfaces := #[]
  cf := some (fileOf pool1 22 #[] #[{ accessFlags := 2, nameIndex := 5, descriptorIndex := 6, attributes := #[] }, { accessFlags := 9, nameIndex := 62, descriptorIndex := 63, attributes := #[] }, { accessFlags := 10, nameIndex := 25, descriptorIndex := 26, attributes := #[] }, { accessFlags := 10, nameIndex := 29, descriptorIndex := 30, attributes := #[] }] 49 2 #[] #[])
  fields := #[]
  methods := #[k1m0, k1m1, k1m2, k1m3]
  instanceTypes := #[]
  staticTypes := #[]
  resolved := Array.replicate 69 none
  statics := none }

def pool2 : Array CpInfo := pool [(1, .class_ 2), (0, u "java/io/Serializable"), (0, .class_ 4), (0, u "java/lang/Object")] 2

/-- java/io/Serializable -/
def k2 : Class := { plain "java/io/Serializable" (some 0) with
  accessFlags := 1537
  interfaces := #[]
  cf := some (fileOf pool2 1 #[] #[] 1537 3 #[] #[])
  fields := #[]
  methods := #[]
  instanceTypes := #[]
  staticTypes := #[]
  resolved := Array.replicate 7 none
  statics := none }

def pool3 : Array CpInfo := pool [(1, .class_ 2), (0, u "java/lang/Comparable"), (0, .class_ 4), (0, u "java/lang/Object")] 7

/-- java/lang/Comparable -/
def k3 : Class := { plain "java/lang/Comparable" (some 0) with
  accessFlags := 1537
  interfaces := #[]
  cf := some (fileOf pool3 1 #[] #[] 1537 3 #[] #[])
  fields := #[]
  methods := #[]
  instanceTypes := #[]
  staticTypes := #[]
  resolved := Array.replicate 12 none
  statics := none }

def pool4 : Array CpInfo := pool [(2, .class_ 4), (1, u "java/lang/CharSequence"), (42, .class_ 48), (0, u "java/lang/CharSequence$1CodePointIterator"), (10, .class_ 60), (0, u "java/lang/CharSequence$1CharIterator"), (5, .class_ 67), (0, u "java/lang/Object")] 63

/-- java/lang/CharSequence -/
def k4 : Class := { plain "java/lang/CharSequence" (some 0) with
  accessFlags := 1537
  interfaces := #[]
  cf := some (fileOf pool4 2 #[.nestMembers #[47, 59]] #[] 1537 66 #[] #[])
  fields := #[]
  methods := #[]
  instanceTypes := #[]
  staticTypes := #[]
  resolved := Array.replicate 131 none
  statics := none }

def pool5 : Array CpInfo := pool [(1, .class_ 2), (0, u "java/lang/constant/Constable"), (0, .class_ 4), (0, u "java/lang/Object")] 6

/-- java/lang/constant/Constable -/
def k5 : Class := { plain "java/lang/constant/Constable" (some 0) with
  accessFlags := 1537
  interfaces := #[]
  cf := some (fileOf pool5 1 #[] #[] 1537 3 #[] #[])
  fields := #[]
  methods := #[]
  instanceTypes := #[]
  staticTypes := #[]
  resolved := Array.replicate 11 none
  statics := none }

def pool6 : Array CpInfo := pool [(1, .class_ 2), (0, u "java/lang/constant/ConstantDesc"), (0, .class_ 4), (0, u "java/lang/Object")] 32

/-- java/lang/constant/ConstantDesc -/
def k6 : Class := { plain "java/lang/constant/ConstantDesc" (some 0) with
  accessFlags := 1537
  interfaces := #[]
  cf := some (fileOf pool6 1 #[] #[] 1537 3 #[] #[])
  fields := #[]
  methods := #[]
  instanceTypes := #[]
  staticTypes := #[]
  resolved := Array.replicate 37 none
  statics := none }

def pool7 : Array CpInfo := pool [(1, .methodref 2 3), (0, .class_ 4), (0, .nameAndType 5 6), (0, u "java/lang/Object"), (0, u "<init>"), (0, u "()V"), (0, .string 8), (0, u ""), (0, .fieldref 10 11), (0, .class_ 12), (0, .nameAndType 13 14), (0, u "java/lang/String"), (0, u "value"), (0, u "[B"), (0, .fieldref 10 16), (0, .nameAndType 17 18), (0, u "coder"), (0, u "B"), (2, u "hash"), (0, u "I"), (2, u "hashIsZero"), (0, u "Z"), (0, .methodref 10 28), (0, .nameAndType 5 29), (0, u "([CIILjava/lang/Void;)V"), (8, .fieldref 10 39), (0, .nameAndType 40 26), (0, u "COMPACT_STRINGS"), (1, .class_ 44), (1, u "java/lang/StringUTF16"), (0, u "compress"), (1, .methodref 42 48), (0, .nameAndType 49 50), (0, u "coderFromArrayLen"), (0, u "([BI)B"), (56, .class_ 109), (1, u "java/lang/StringLatin1"), (32, u "()Z"), (34, .methodref 42 178), (0, .nameAndType 45 179), (0, u "([CII)[B"), (154, u "()I"), (0, .methodref 10 336), (0, .nameAndType 17 337), (0, u "()B"), (25, u "([BI)C"), (27, u "(II)V"), (35, u "(I)C"), (64, .methodref 10 493), (0, .nameAndType 494 142), (0, u "isLatin1"), (0, .methodref 107 496), (0, .nameAndType 497 363), (0, u "charAt"), (3, u "checkIndex"), (5, u "length"), (33, .methodref 107 542), (0, .nameAndType 543 544), (0, u "equals"), (0, u "([B[B)Z"), (28, u "(Ljava/lang/Object;)Z"), (1, .class_ 576), (0, u "java/lang/CharSequence"), (22, u "CASE_INSENSITIVE_ORDER"), (0, u "Ljava/util/Comparator;"), (409, u "([C)V"), (42, .fieldref 1054 1055), (0, .class_ 1056), (0, .nameAndType 1057 1058), (0, u "jdk/internal/util/Preconditions"), (0, u "SIOOBE_FORMATTER"), (0, u "Ljava/util/function/BiFunction;"), (0, .methodref 1054 1060), (0, .nameAndType 501 1061), (0, u "(IILjava/util/function/BiFunction;)I"), (39, u "serialPersistentFields"), (0, u "[Ljava/io/ObjectStreamField;"), (0, .class_ 1104), (0, u "java/lang/String$CaseInsensitiveComparator"), (1, .class_ 1107), (0, u "java/io/Serializable"), (0, .class_ 1109), (0, u "java/lang/Comparable"), (0, .class_ 1111), (0, u "java/lang/constant/Constable"), (0, .class_ 1113), (0, u "java/lang/constant/ConstantDesc"), (2, u "serialVersionUID"), (0, u "J"), (3, u "REPL"), (0, u "C"), (2, u "LATIN1"), (1, u "UTF16")] 323

def k7m0 : Method := { name := "<init>", desc := "()V", sig := { parameters := [], returnType := none }, accessFlags := 1, code := none }
def k7c1 : Code := { maxStack := 5, maxLocals := 2, code := jdk_42_method_3_code, exceptionTable := #[], attributes := #[] }
def k7m1 : Method := { name := "<init>", desc := "([C)V", sig := { parameters := [(.array .char)], returnType := none }, accessFlags := 1, code := some k7c1 }
def k7c2 : Code := { maxStack := 2, maxLocals := 1, code := jdk_42_method_54_code, exceptionTable := #[], attributes := #[] }
def k7m2 : Method := { name := "length", desc := "()I", sig := { parameters := [], returnType := some .int }, accessFlags := 1, code := some k7c2 }
def k7c3 : Code := { maxStack := 2, maxLocals := 2, code := jdk_42_method_56_code, exceptionTable := #[], attributes := #[] }
def k7m3 : Method := { name := "charAt", desc := "(I)C", sig := { parameters := [.int], returnType := some .char }, accessFlags := 1, code := some k7c3 }
def k7c4 : Code := { maxStack := 2, maxLocals := 3, code := jdk_42_method_66_code, exceptionTable := #[], attributes := #[] }
def k7m4 : Method := { name := "equals", desc := "(Ljava/lang/Object;)Z", sig := { parameters := [(.object "java/lang/Object")], returnType := some .boolean }, accessFlags := 1, code := some k7c4 }
def k7c5 : Code := { maxStack := 4, maxLocals := 6, code := jdk_42_method_149_code, exceptionTable := #[], attributes := #[] }
def k7m5 : Method := { name := "<init>", desc := "([CIILjava/lang/Void;)V", sig := { parameters := [(.array .char), .int, .int, (.object "java/lang/Void")], returnType := none }, accessFlags := 2, code := some k7c5 }
def k7c6 : Code := { maxStack := 1, maxLocals := 1, code := jdk_42_method_152_code, exceptionTable := #[], attributes := #[] }
def k7m6 : Method := { name := "coder", desc := "()B", sig := { parameters := [], returnType := some .byte }, accessFlags := 0, code := some k7c6 }
def k7c7 : Code := { maxStack := 1, maxLocals := 1, code := jdk_42_method_154_code, exceptionTable := #[], attributes := #[] }
def k7m7 : Method := { name := "isLatin1", desc := "()Z", sig := { parameters := [], returnType := some .boolean }, accessFlags := 0, code := some k7c7 }
def k7c8 : Code := { maxStack := 3, maxLocals := 2, code := jdk_42_method_155_code, exceptionTable := #[], attributes := #[] }
def k7m8 : Method := { name := "checkIndex", desc := "(II)V", sig := { parameters := [.int, .int], returnType := none }, accessFlags := 8, code := some k7c8 }
/-- java/lang/String -/
def k7 : Class := { plain "java/lang/String" (some 0) with
  accessFlags := 49
  interfaces := #[2, 3, 4, 5, 6]
  cf := some (fileOf pool7 10 #[.nestMembers #[1103]] #[{ accessFlags := 1, nameIndex := 5, descriptorIndex := 6, attributes := #[] }, { accessFlags := 1, nameIndex := 5, descriptorIndex := 1010, attributes := #[] }, { accessFlags := 1, nameIndex := 507, descriptorIndex := 334, attributes := #[] }, { accessFlags := 1, nameIndex := 497, descriptorIndex := 427, attributes := #[] }, { accessFlags := 1, nameIndex := 543, descriptorIndex := 573, attributes := #[] }, { accessFlags := 2, nameIndex := 5, descriptorIndex := 29, attributes := #[] }, { accessFlags := 0, nameIndex := 17, descriptorIndex := 337, attributes := #[] }, { accessFlags := 0, nameIndex := 494, descriptorIndex := 142, attributes := #[] }, { accessFlags := 8, nameIndex := 501, descriptorIndex := 391, attributes := #[] }] 49 2 #[1106, 1108, 575, 1110, 1112] #[{ accessFlags := 18, nameIndex := 13, descriptorIndex := 14, attributes := #[] }, { accessFlags := 18, nameIndex := 17, descriptorIndex := 18, attributes := #[] }, { accessFlags := 2, nameIndex := 21, descriptorIndex := 22, attributes := #[] }, { accessFlags := 2, nameIndex := 25, descriptorIndex := 26, attributes := #[] }, { accessFlags := 26, nameIndex := 1116, descriptorIndex := 1117, attributes := #[] }, { accessFlags := 24, nameIndex := 40, descriptorIndex := 26, attributes := #[] }, { accessFlags := 26, nameIndex := 1101, descriptorIndex := 1102, attributes := #[] }, { accessFlags := 26, nameIndex := 1121, descriptorIndex := 1122, attributes := #[] }, { accessFlags := 25, nameIndex := 599, descriptorIndex := 600, attributes := #[] }, { accessFlags := 24, nameIndex := 1125, descriptorIndex := 18, attributes := #[] }, { accessFlags := 24, nameIndex := 1127, descriptorIndex := 18, attributes := #[] }])
  fields := #[{ name := "value", type := (.array .byte), accessFlags := 18, slot := 0, constantValue := 0 }, { name := "coder", type := .byte, accessFlags := 18, slot := 1, constantValue := 0 }, { name := "hash", type := .int, accessFlags := 2, slot := 2, constantValue := 0 }, { name := "hashIsZero", type := .boolean, accessFlags := 2, slot := 3, constantValue := 0 }, { name := "serialVersionUID", type := .long, accessFlags := 26, slot := 0, constantValue := 0 }, { name := "COMPACT_STRINGS", type := .boolean, accessFlags := 24, slot := 1, constantValue := 0 }, { name := "serialPersistentFields", type := (.array (.object "java/io/ObjectStreamField")), accessFlags := 26, slot := 2, constantValue := 0 }, { name := "REPL", type := .char, accessFlags := 26, slot := 3, constantValue := 0 }, { name := "CASE_INSENSITIVE_ORDER", type := (.object "java/util/Comparator"), accessFlags := 25, slot := 4, constantValue := 0 }, { name := "LATIN1", type := .byte, accessFlags := 24, slot := 5, constantValue := 0 }, { name := "UTF16", type := .byte, accessFlags := 24, slot := 6, constantValue := 0 }]
  methods := #[k7m0, k7m1, k7m2, k7m3, k7m4, k7m5, k7m6, k7m7, k7m8]
  instanceTypes := #[(.array .byte), .byte, .int, .boolean]
  staticTypes := #[.long, .boolean, (.array (.object "java/io/ObjectStreamField")), .char, (.object "java/util/Comparator"), .byte, .byte]
  resolved := Array.replicate 1451 none
  statics := some 0 }

def pool8 : Array CpInfo := pool [(1, .class_ 2), (0, u "java/lang/String"), (1, .class_ 6), (1, u "java/lang/Object"), (0, u "<init>"), (0, u "()V"), (0, .methodref 1 10), (0, .nameAndType 11 12), (0, u "checkIndex"), (0, u "(II)V"), (1, .class_ 16), (1, u "java/lang/StringLatin1"), (36, u "([BI)C"), (67, u "$assertionsDisabled"), (0, u "Z"), (98, .class_ 223), (1, u "java/lang/StringLatin1$LinesSpliterator"), (28, u "charAt"), (28, u "equals"), (0, u "([B[B)Z"), (107, .class_ 391), (0, u "java/lang/StringLatin1$CharsSpliterator")] 3

def k8m0 : Method := { name := "<init>", desc := "()V", sig := { parameters := [], returnType := none }, accessFlags := 0, code := none }
def k8c1 : Code := { maxStack := 2, maxLocals := 2, code := jdk_43_method_2_code, exceptionTable := #[], attributes := #[] }
def k8m1 : Method := { name := "charAt", desc := "([BI)C", sig := { parameters := [(.array .byte), .int], returnType := some .char }, accessFlags := 9, code := some k8c1 }
def k8c2 : Code := { maxStack := 3, maxLocals := 3, code := jdk_43_method_13_code, exceptionTable := #[], attributes := #[] }
def k8m2 : Method := { name := "equals", desc := "([B[B)Z", sig := { parameters := [(.array .byte), (.array .byte)], returnType := some .boolean }, accessFlags := 9, code := some k8c2 }
/-- java/lang/StringLatin1 -/
def k8 : Class := { plain "java/lang/StringLatin1" (some 0) with
  accessFlags := 48
  interfaces := #[]
  cf := some (fileOf pool8 14 #[.nestMembers #[390, 221]] #[{ accessFlags := 0, nameIndex := 7, descriptorIndex := 8, attributes := #[] }, { accessFlags := 9, nameIndex := 252, descriptorIndex := 53, attributes := #[] }, { accessFlags := 9, nameIndex := 281, descriptorIndex := 282, attributes := #[] }] 48 4 #[] #[{ accessFlags := 4120, nameIndex := 121, descriptorIndex := 122, attributes := #[] }])
  fields := #[{ name := "$assertionsDisabled", type := .boolean, accessFlags := 4120, slot := 0, constantValue := 0 }]
  methods := #[k8m0, k8m1, k8m2]
  instanceTypes := #[]
  staticTypes := #[.boolean]
  resolved := Array.replicate 395 none
  statics := none }

def pool9 : Array CpInfo := pool [(2, .class_ 4), (1, u "java/lang/Object"), (0, u "<init>"), (0, u "()V"), (17, .class_ 26), (1, u "jdk/internal/util/Preconditions"), (6, u "checkIndex"), (21, .class_ 56), (0, u "jdk/internal/util/Preconditions$4"), (57, .class_ 115), (0, u "jdk/internal/util/Preconditions$1"), (7, u "SIOOBE_FORMATTER"), (0, u "Ljava/util/function/BiFunction;"), (0, .class_ 126), (0, u "jdk/internal/util/Preconditions$2"), (3, u "AIOOBE_FORMATTER"), (0, .class_ 132), (0, u "jdk/internal/util/Preconditions$3"), (3, u "IOOBE_FORMATTER"), (41, u "(IILjava/util/function/BiFunction;)I")] 15

def k9m0 : Method := { name := "<init>", desc := "()V", sig := { parameters := [], returnType := none }, accessFlags := 1, code := none }
def k9c1 : Code := { maxStack := 3, maxLocals := 3, code := jdk_41_method_11_code, exceptionTable := #[], attributes := #[] }
def k9m1 : Method := { name := "checkIndex", desc := "(IILjava/util/function/BiFunction;)I", sig := { parameters := [.int, .int, (.object "java/util/function/BiFunction")], returnType := some .int }, accessFlags := 9, code := some k9c1 }
/-- jdk/internal/util/Preconditions -/
def k9 : Class := { plain "jdk/internal/util/Preconditions" (some 0) with
  accessFlags := 33
  interfaces := #[]
  cf := some (fileOf pool9 24 #[.nestMembers #[55, 131, 125, 114]] #[{ accessFlags := 1, nameIndex := 5, descriptorIndex := 6, attributes := #[] }, { accessFlags := 9, nameIndex := 33, descriptorIndex := 178, attributes := #[] }] 33 2 #[] #[{ accessFlags := 25, nameIndex := 123, descriptorIndex := 124, attributes := #[] }, { accessFlags := 25, nameIndex := 130, descriptorIndex := 124, attributes := #[] }, { accessFlags := 25, nameIndex := 136, descriptorIndex := 124, attributes := #[] }])
  fields := #[{ name := "SIOOBE_FORMATTER", type := (.object "java/util/function/BiFunction"), accessFlags := 25, slot := 0, constantValue := 0 }, { name := "AIOOBE_FORMATTER", type := (.object "java/util/function/BiFunction"), accessFlags := 25, slot := 1, constantValue := 0 }, { name := "IOOBE_FORMATTER", type := (.object "java/util/function/BiFunction"), accessFlags := 25, slot := 2, constantValue := 0 }]
  methods := #[k9m0, k9m1]
  instanceTypes := #[]
  staticTypes := #[(.object "java/util/function/BiFunction"), (.object "java/util/function/BiFunction"), (.object "java/util/function/BiFunction")]
  resolved := Array.replicate 194 none
  statics := some 1 }

def pool10 : Array CpInfo := pool [(2, .class_ 4), (1, u "java/lang/Enum"), (0, u "name"), (0, u "Ljava/lang/String;"), (2, u "ordinal"), (0, u "I"), (1, .class_ 14), (1, u "java/lang/Object"), (4, u "hash"), (86, .class_ 108), (1, u "java/lang/Enum$EnumDesc"), (2, .class_ 112), (0, u "java/lang/constant/Constable"), (0, .class_ 114), (0, u "java/lang/Comparable"), (0, .class_ 116), (0, u "java/io/Serializable")] 87

/-- java/lang/Enum -/
def k10 : Class := { plain "java/lang/Enum" (some 0) with
  accessFlags := 1057
  interfaces := #[5, 3, 2]
  cf := some (fileOf pool10 2 #[.nestMembers #[106]] #[] 1057 12 #[111, 113, 115] #[{ accessFlags := 18, nameIndex := 5, descriptorIndex := 6, attributes := #[] }, { accessFlags := 18, nameIndex := 9, descriptorIndex := 10, attributes := #[] }, { accessFlags := 2, nameIndex := 19, descriptorIndex := 10, attributes := #[] }])
  fields := #[{ name := "name", type := (.object "java/lang/String"), accessFlags := 18, slot := 0, constantValue := 0 }, { name := "ordinal", type := .int, accessFlags := 18, slot := 1, constantValue := 0 }, { name := "hash", type := .int, accessFlags := 2, slot := 2, constantValue := 0 }]
  methods := #[]
  instanceTypes := #[(.object "java/lang/String"), .int, .int]
  staticTypes := #[]
  resolved := Array.replicate 204 none
  statics := none }

def pool11 : Array CpInfo := pool [(1, .class_ 2), (0, u "com/example/runs_to_scores/runstoscores/formats/Subtask"), (2, u "TRIAGE"), (0, u "Lcom/example/runs_to_scores/runstoscores/formats/Subtask;"), (2, u "ANNHI"), (2, u "ANNHIEV"), (0, .fieldref 1 14), (0, .nameAndType 15 16), (0, u "$VALUES"), (0, u "[Lcom/example/runs_to_scores/runstoscores/formats/Subtask;"), (0, .methodref 18 19), (0, .class_ 16), (0, .nameAndType 20 21), (0, u "clone"), (0, u "()Ljava/lang/Object;"), (1, .class_ 25), (1, u "java/lang/Enum"), (6, .fieldref 1 33), (0, .nameAndType 34 35), (0, u "label"), (0, u "Ljava/lang/String;"), (2, u "itemFields"), (0, u "Ljava/util/List;"), (24, .methodref 1 65), (0, .nameAndType 66 67), (0, u "values"), (0, u "()[Lcom/example/runs_to_scores/runstoscores/formats/Subtask;"), (0, .methodref 69 70), (0, .class_ 71), (0, .nameAndType 72 73), (0, u "java/lang/String"), (0, u "equals"), (0, u "(Ljava/lang/Object;)Z"), (59, u "(Ljava/lang/String;)Lcom/example/runs_to_scores/runstoscores/formats/Subtask;"), (8, u "labelled")] 22

def k11c0 : Code := { maxStack := 1, maxLocals := 0, code := prog_35_method_1_code, exceptionTable := #[], attributes := #[] }
def k11m0 : Method := { name := "values", desc := "()[Lcom/example/runs_to_scores/runstoscores/formats/Subtask;", sig := { parameters := [], returnType := some (.array (.object "com/example/runs_to_scores/runstoscores/formats/Subtask")) }, accessFlags := 9, code := some k11c0 }
def k11c1 : Code := { maxStack := 2, maxLocals := 5, code := prog_35_method_6_code, exceptionTable := #[], attributes := #[] }
def k11m1 : Method := { name := "labelled", desc := "(Ljava/lang/String;)Lcom/example/runs_to_scores/runstoscores/formats/Subtask;", sig := { parameters := [(.object "java/lang/String")], returnType := some (.object "com/example/runs_to_scores/runstoscores/formats/Subtask") }, accessFlags := 8, code := some k11c1 }
/-- com/example/runs_to_scores/runstoscores/formats/Subtask -/
def k11 : Class := { plain "com/example/runs_to_scores/runstoscores/formats/Subtask" (some 10) with
  accessFlags := 16433
  interfaces := #[]
  cf := some (fileOf pool11 1 #[] #[{ accessFlags := 9, nameIndex := 66, descriptorIndex := 67, attributes := #[] }, { accessFlags := 8, nameIndex := 142, descriptorIndex := 133, attributes := #[] }] 16433 23 #[] #[{ accessFlags := 16409, nameIndex := 5, descriptorIndex := 6, attributes := #[] }, { accessFlags := 16409, nameIndex := 9, descriptorIndex := 6, attributes := #[] }, { accessFlags := 16409, nameIndex := 12, descriptorIndex := 6, attributes := #[] }, { accessFlags := 18, nameIndex := 34, descriptorIndex := 35, attributes := #[] }, { accessFlags := 18, nameIndex := 38, descriptorIndex := 39, attributes := #[] }, { accessFlags := 4122, nameIndex := 15, descriptorIndex := 16, attributes := #[] }])
  fields := #[{ name := "TRIAGE", type := (.object "com/example/runs_to_scores/runstoscores/formats/Subtask"), accessFlags := 16409, slot := 0, constantValue := 0 }, { name := "ANNHI", type := (.object "com/example/runs_to_scores/runstoscores/formats/Subtask"), accessFlags := 16409, slot := 1, constantValue := 0 }, { name := "ANNHIEV", type := (.object "com/example/runs_to_scores/runstoscores/formats/Subtask"), accessFlags := 16409, slot := 2, constantValue := 0 }, { name := "label", type := (.object "java/lang/String"), accessFlags := 18, slot := 3, constantValue := 0 }, { name := "itemFields", type := (.object "java/util/List"), accessFlags := 18, slot := 4, constantValue := 0 }, { name := "$VALUES", type := (.array (.object "com/example/runs_to_scores/runstoscores/formats/Subtask")), accessFlags := 4122, slot := 3, constantValue := 0 }]
  methods := #[k11m0, k11m1]
  instanceTypes := #[(.object "java/lang/String"), .int, .int, (.object "java/lang/String"), (.object "java/util/List")]
  staticTypes := #[(.object "com/example/runs_to_scores/runstoscores/formats/Subtask"), (.object "com/example/runs_to_scores/runstoscores/formats/Subtask"), (.object "com/example/runs_to_scores/runstoscores/formats/Subtask"), (.array (.object "com/example/runs_to_scores/runstoscores/formats/Subtask"))]
  resolved := Array.replicate 165 none
  statics := some 2 }

def pool12 : Array CpInfo := pool [(1, .class_ 2), (0, u "java/lang/Cloneable"), (0, .class_ 4), (0, u "java/lang/Object")] 2

/-- java/lang/Cloneable -/
def k12 : Class := { plain "java/lang/Cloneable" (some 0) with
  accessFlags := 1537
  interfaces := #[]
  cf := some (fileOf pool12 1 #[] #[] 1537 3 #[] #[])
  fields := #[]
  methods := #[]
  instanceTypes := #[]
  staticTypes := #[]
  resolved := Array.replicate 7 none
  statics := none }

def pool13 : Array CpInfo := pool [(6, .class_ 8), (1, u "java/lang/Object"), (0, u "<init>"), (0, u "()V"), (1, .class_ 14), (1, u "java/lang/StringUTF16"), (31, u "$assertionsDisabled"), (0, u "Z"), (13, u "HI_BYTE_SHIFT"), (0, u "I"), (2, u "LO_BYTE_SHIFT"), (49, .methodref 12 116), (0, .nameAndType 117 118), (0, u "compress"), (0, u "([CI[BII)I"), (3, u "([CII)[B"), (138, u "coderFromArrayLen"), (0, u "([BI)B"), (106, .class_ 371), (1, u "java/lang/StringUTF16$LinesSpliterator"), (58, u "MAX_LENGTH"), (196, .class_ 628), (0, u "java/lang/StringUTF16$CodePointsSpliterator"), (0, .class_ 630), (0, u "java/lang/StringUTF16$CharsSpliterator")] 4

def k13m0 : Method := { name := "<init>", desc := "()V", sig := { parameters := [], returnType := none }, accessFlags := 0, code := none }
def k13c1 : Code := { maxStack := 2, maxLocals := 2, code := jdk_52_method_15_code, exceptionTable := #[], attributes := #[] }
def k13m1 : Method := { name := "coderFromArrayLen", desc := "([BI)B", sig := { parameters := [(.array .byte), .int], returnType := some .byte }, accessFlags := 8, code := some k13c1 }
def k13c2 : Code := { maxStack := 5, maxLocals := 6, code := jdk_52_method_16_code, exceptionTable := #[], attributes := #[] }
def k13m2 : Method := { name := "compress", desc := "([CII)[B", sig := { parameters := [(.array .char), .int, .int], returnType := some (.array .byte) }, accessFlags := 9, code := some k13c2 }
def k13c3 : Code := { maxStack := 3, maxLocals := 7, code := jdk_52_method_21_code, exceptionTable := #[], attributes := #[] }
def k13m3 : Method := { name := "compress", desc := "([CI[BII)I", sig := { parameters := [(.array .char), .int, (.array .byte), .int, .int], returnType := some .int }, accessFlags := 9, code := some k13c3 }
/-- java/lang/StringUTF16 -/
def k13 : Class := { plain "java/lang/StringUTF16" (some 0) with
  accessFlags := 48
  interfaces := #[]
  cf := some (fileOf pool13 12 #[.nestMembers #[627, 629, 369]] #[{ accessFlags := 0, nameIndex := 9, descriptorIndex := 10, attributes := #[] }, { accessFlags := 8, nameIndex := 261, descriptorIndex := 262, attributes := #[] }, { accessFlags := 9, nameIndex := 117, descriptorIndex := 122, attributes := #[] }, { accessFlags := 9, nameIndex := 117, descriptorIndex := 118, attributes := #[] }] 48 6 #[] #[{ accessFlags := 26, nameIndex := 61, descriptorIndex := 62, attributes := #[] }, { accessFlags := 26, nameIndex := 65, descriptorIndex := 62, attributes := #[] }, { accessFlags := 24, nameIndex := 430, descriptorIndex := 62, attributes := #[] }, { accessFlags := 4120, nameIndex := 46, descriptorIndex := 47, attributes := #[] }])
  fields := #[{ name := "HI_BYTE_SHIFT", type := .int, accessFlags := 26, slot := 0, constantValue := 0 }, { name := "LO_BYTE_SHIFT", type := .int, accessFlags := 26, slot := 1, constantValue := 0 }, { name := "MAX_LENGTH", type := .int, accessFlags := 24, slot := 2, constantValue := 0 }, { name := "$assertionsDisabled", type := .boolean, accessFlags := 4120, slot := 3, constantValue := 0 }]
  methods := #[k13m0, k13m1, k13m2, k13m3]
  instanceTypes := #[]
  staticTypes := #[.int, .int, .int, .boolean]
  resolved := Array.replicate 635 none
  statics := none }

def pool14 : Array CpInfo := pool [(9, u "<init>"), (6, .class_ 18), (1, u "java/lang/Object"), (0, u "()V"), (1, .class_ 23), (1, u "jdk/internal/util/ArraysSupport"), (0, u "LOG2_ARRAY_LONG_INDEX_SCALE"), (0, u "I"), (2, u "U"), (0, u "Ljdk/internal/misc/Unsafe;"), (8, u "BIG_ENDIAN"), (0, u "Z"), (8, u "LOG2_BYTE_BIT_SIZE"), (4, u "LOG2_ARRAY_INT_INDEX_SCALE"), (54, u "JLA"), (0, u "Ljdk/internal/access/JavaLangAccess;"), (11, u "LOG2_ARRAY_BOOLEAN_INDEX_SCALE"), (9, u "LOG2_ARRAY_BYTE_INDEX_SCALE"), (5, u "LOG2_ARRAY_CHAR_INDEX_SCALE"), (5, u "LOG2_ARRAY_SHORT_INDEX_SCALE"), (18, u "LOG2_ARRAY_FLOAT_INDEX_SCALE"), (24, u "LOG2_ARRAY_DOUBLE_INDEX_SCALE"), (89, u "T_BOOLEAN"), (2, u "T_CHAR"), (1, u "T_FLOAT"), (1, u "T_DOUBLE"), (1, u "T_BYTE"), (1, u "T_SHORT"), (1, u "T_INT"), (1, u "T_LONG"), (1, u "SOFT_MAX_ARRAY_LENGTH")] 83

def k14m0 : Method := { name := "<init>", desc := "()V", sig := { parameters := [], returnType := none }, accessFlags := 2, code := none }
/-- jdk/internal/util/ArraysSupport -/
def k14 : Class := { plain "jdk/internal/util/ArraysSupport" (some 0) with
  accessFlags := 33
  interfaces := #[]
  cf := some (fileOf pool14 21 #[] #[{ accessFlags := 2, nameIndex := 9, descriptorIndex := 19, attributes := #[] }] 33 16 #[] #[{ accessFlags := 24, nameIndex := 28, descriptorIndex := 29, attributes := #[] }, { accessFlags := 26, nameIndex := 38, descriptorIndex := 39, attributes := #[] }, { accessFlags := 25, nameIndex := 121, descriptorIndex := 25, attributes := #[] }, { accessFlags := 25, nameIndex := 131, descriptorIndex := 25, attributes := #[] }, { accessFlags := 25, nameIndex := 137, descriptorIndex := 25, attributes := #[] }, { accessFlags := 25, nameIndex := 143, descriptorIndex := 25, attributes := #[] }, { accessFlags := 25, nameIndex := 53, descriptorIndex := 25, attributes := #[] }, { accessFlags := 25, nameIndex := 24, descriptorIndex := 25, attributes := #[] }, { accessFlags := 25, nameIndex := 162, descriptorIndex := 25, attributes := #[] }, { accessFlags := 25, nameIndex := 187, descriptorIndex := 25, attributes := #[] }, { accessFlags := 26, nameIndex := 48, descriptorIndex := 25, attributes := #[] }, { accessFlags := 25, nameIndex := 277, descriptorIndex := 25, attributes := #[] }, { accessFlags := 25, nameIndex := 280, descriptorIndex := 25, attributes := #[] }, { accessFlags := 25, nameIndex := 282, descriptorIndex := 25, attributes := #[] }, { accessFlags := 25, nameIndex := 284, descriptorIndex := 25, attributes := #[] }, { accessFlags := 25, nameIndex := 286, descriptorIndex := 25, attributes := #[] }, { accessFlags := 25, nameIndex := 288, descriptorIndex := 25, attributes := #[] }, { accessFlags := 25, nameIndex := 290, descriptorIndex := 25, attributes := #[] }, { accessFlags := 25, nameIndex := 292, descriptorIndex := 25, attributes := #[] }, { accessFlags := 26, nameIndex := 108, descriptorIndex := 109, attributes := #[] }, { accessFlags := 25, nameIndex := 294, descriptorIndex := 25, attributes := #[] }])
  fields := #[{ name := "U", type := (.object "jdk/internal/misc/Unsafe"), accessFlags := 24, slot := 0, constantValue := 0 }, { name := "BIG_ENDIAN", type := .boolean, accessFlags := 26, slot := 1, constantValue := 0 }, { name := "LOG2_ARRAY_BOOLEAN_INDEX_SCALE", type := .int, accessFlags := 25, slot := 2, constantValue := 0 }, { name := "LOG2_ARRAY_BYTE_INDEX_SCALE", type := .int, accessFlags := 25, slot := 3, constantValue := 0 }, { name := "LOG2_ARRAY_CHAR_INDEX_SCALE", type := .int, accessFlags := 25, slot := 4, constantValue := 0 }, { name := "LOG2_ARRAY_SHORT_INDEX_SCALE", type := .int, accessFlags := 25, slot := 5, constantValue := 0 }, { name := "LOG2_ARRAY_INT_INDEX_SCALE", type := .int, accessFlags := 25, slot := 6, constantValue := 0 }, { name := "LOG2_ARRAY_LONG_INDEX_SCALE", type := .int, accessFlags := 25, slot := 7, constantValue := 0 }, { name := "LOG2_ARRAY_FLOAT_INDEX_SCALE", type := .int, accessFlags := 25, slot := 8, constantValue := 0 }, { name := "LOG2_ARRAY_DOUBLE_INDEX_SCALE", type := .int, accessFlags := 25, slot := 9, constantValue := 0 }, { name := "LOG2_BYTE_BIT_SIZE", type := .int, accessFlags := 26, slot := 10, constantValue := 0 }, { name := "T_BOOLEAN", type := .int, accessFlags := 25, slot := 11, constantValue := 0 }, { name := "T_CHAR", type := .int, accessFlags := 25, slot := 12, constantValue := 0 }, { name := "T_FLOAT", type := .int, accessFlags := 25, slot := 13, constantValue := 0 }, { name := "T_DOUBLE", type := .int, accessFlags := 25, slot := 14, constantValue := 0 }, { name := "T_BYTE", type := .int, accessFlags := 25, slot := 15, constantValue := 0 }, { name := "T_SHORT", type := .int, accessFlags := 25, slot := 16, constantValue := 0 }, { name := "T_INT", type := .int, accessFlags := 25, slot := 17, constantValue := 0 }, { name := "T_LONG", type := .int, accessFlags := 25, slot := 18, constantValue := 0 }, { name := "JLA", type := (.object "jdk/internal/access/JavaLangAccess"), accessFlags := 26, slot := 19, constantValue := 0 }, { name := "SOFT_MAX_ARRAY_LENGTH", type := .int, accessFlags := 25, slot := 20, constantValue := 0 }]
  methods := #[k14m0]
  instanceTypes := #[]
  staticTypes := #[(.object "jdk/internal/misc/Unsafe"), .boolean, .int, .int, .int, .int, .int, .int, .int, .int, .int, .int, .int, .int, .int, .int, .int, .int, .int, (.object "jdk/internal/access/JavaLangAccess"), .int]
  resolved := Array.replicate 378 none
  statics := none }

/-- the primitive byte -/
def k15 : Class := { plain "byte" none with kind := .primitive 'B', accessFlags := 0x411 }
/-- [B -/
def k16 : Class := { plain "[B" (some 0) with kind := .array 15 .byte, interfaces := #[12, 2], accessFlags := 1041 }

/-- the primitive char -/
def k17 : Class := { plain "char" none with kind := .primitive 'C', accessFlags := 0x411 }
/-- [C -/
def k18 : Class := { plain "[C" (some 0) with kind := .array 17 .char, interfaces := #[12, 2], accessFlags := 1041 }

/-- the primitive int -/
def k19 : Class := { plain "int" none with kind := .primitive 'I', accessFlags := 0x411 }
/-- [I -/
def k20 : Class := { plain "[I" (some 0) with kind := .array 19 .int, interfaces := #[12, 2], accessFlags := 1041 }

/-- [Lcom/example/runs_to_scores/runstoscores/formats/Subtask; -/
def k21 : Class := { plain "[Lcom/example/runs_to_scores/runstoscores/formats/Subtask;" (some 0) with kind := .array 11 (.object "com/example/runs_to_scores/runstoscores/formats/Subtask"), interfaces := #[12, 2], accessFlags := 1041 }

def heap : Heap := #[{ cls := 7, slots := #[.long 0, .int 1, .null, .int 0, .null, .int 0, .int 0], vm := .statics 7 },
  { cls := 9, slots := #[.null, .null, .null], vm := .statics 9 },
  { cls := 11, slots := #[.ref 4, .ref 5, .ref 6, .ref 3], vm := .statics 11 },
  { cls := 21, slots := #[.ref 4, .ref 5, .ref 6], vm := .none },
  { cls := 11, slots := #[.null, .int 0, .int 0, .ref 7, .null], vm := .none },
  { cls := 11, slots := #[.null, .int 1, .int 0, .ref 8, .null], vm := .none },
  { cls := 11, slots := #[.null, .int 2, .int 0, .ref 9, .null], vm := .none },
  { cls := 7, slots := #[.ref 10, .int 0, .int 0, .int 0], vm := .none },
  { cls := 7, slots := #[.ref 11, .int 0, .int 0, .int 0], vm := .none },
  { cls := 7, slots := #[.ref 12, .int 0, .int 0, .int 0], vm := .none },
  { cls := 16, slots := #[.int 116, .int 114, .int 105, .int 97, .int 103, .int 101], vm := .none },
  { cls := 16, slots := #[.int 97, .int 110, .int 110, .int 104, .int 105], vm := .none },
  { cls := 16, slots := #[.int 97, .int 110, .int 110, .int 104, .int 105, .int 101, .int 118], vm := .none }]
def classes : Array Class := #[k0, k1, k2, k3, k4, k5, k6, k7, k8, k9, k10, k11, k12, k13, k14, k15, k16, k17, k18, k19, k20, k21]
def interned : List (Array UInt16 × Addr) := []
def slotsUsed : Nat := 62
def theMethod : MethodId := ⟨1, 1⟩
def args0 : Array Value := #[.int 1, .long 2, .int 3]
def aboutOver (below : List Frame) : State where
  vm := { classes := classes, interned := interned.toArray }
  heap := heap
  slotsUsed := slotsUsed
  threads := #[{ frames := .invoking theMethod args0 :: below }]
def below0 : List Frame := [.native { method := ⟨0, 0⟩, args := #[] }]
def about1 : State := aboutOver below0
def p0 : Program := .bare "" "" ""
def e0 : Env := launch0.env 0 0 0
theorem w_frames : about1.frames = Frame.invoking theMethod args0 :: below0 := rfl
set_option maxRecDepth 65536 in
theorem w_args : argsFit about1.vm theMethod args0 = true := by decide +kernel
set_option maxRecDepth 65536 in
theorem w_heap : heapFits about1 = true := by decide +kernel
set_option maxRecDepth 65536 in
theorem w_runnable : about1.curStatus? = some .runnable := by decide +kernel
set_option maxRecDepth 65536 in
theorem w_alone : about1.alone = true := by decide +kernel
set_option maxRecDepth 65536 in
theorem w_named : about1.methodNamed? x = some theMethod := by decide +kernel
set_option maxRecDepth 65536 in
theorem w_hears : about1.hears theMethod below0 = true := by decide +kernel
set_option maxRecDepth 65536 in
theorem w_ripe : about1.ripe theMethod args0 below0 = true := by decide +kernel
theorem w_running : about1.status = .running := rfl
set_option maxRecDepth 65536 in
theorem w_room : about1.hasRoom e0.platform room_1 = true :=
  launch0.hasRoom_least _ room_1 (by decide +kernel) (by decide +kernel) (by decide +kernel) (by decide +kernel) (by decide +kernel) (by decide +kernel)
theorem allAtoms_all (ts : List Jvm.Cond) (a : Array Jvm.Value) (st : Jvm.State) : (allAtoms ts).before a st = ts.all (fun c => c.before a st) := by
  induction ts with
  | nil => rfl
  | cons c t ih =>
    show (Jvm.Cond.and c (allAtoms t)).before a st = _
    rw [Jvm.Cond.before_and, ih, List.all_cons]
def words1 : List Jvm.Cond := Jvm.Cond.code x code maxLocals ret :: tables_1
/-- a 'code' word, met by the world's own term for the bytes: nothing is compared byte by byte -/
theorem code_word {y : MethodName} {bytes : ByteArray} {mx : Nat} {rt : Option FieldType} {a : Array Value} {s : State} {m : MethodId} {meth : Method} {c : Code} (h1 : s.methodNamed? y = some m) (h2 : s.vm.method? m = some meth) (h3 : meth.code = some c) (h4 : c.code = bytes)
    (h5 : (c.maxLocals == mx && c.exceptionTable.isEmpty && decide (c.maxStack ≤ mostOperands) && decide (meth.sig.returnType = rt) && !meth.locks && decide (parseMethodDescriptor y.desc = some meth.sig)) = true) : (Jvm.Cond.code y bytes mx rt).before a s = true := by
  simp only [Bool.and_eq_true, beq_iff_eq, Bool.not_eq_true', decide_eq_true_eq] at h5
  obtain ⟨⟨⟨⟨⟨g1, g2⟩, g3⟩, g4⟩, g5⟩, g6⟩ := h5
  simp [Cond.before, Cond.holds, Cond.value, h1, h2, h3, h4, g1, g2, g3, g4, g5, g6]
def isCode : Jvm.Cond → Bool
  | .code _ _ _ _ => true
  | _ => false
theorem all_split {L : List Jvm.Cond} {P : Jvm.Cond → Bool} (h1 : L.all (fun c => isCode c || P c) = true) (h2 : ∀ c ∈ L.filter isCode, P c = true) : L.all P = true := by
  refine List.all_eq_true.mpr fun c hc => ?_
  have h := List.all_eq_true.mp h1 c hc
  rcases Bool.eq_false_or_eq_true (isCode c) with hi | hi
  · exact h2 c (List.mem_filter.mpr ⟨hc, hi⟩)
  · simpa [hi] using h
set_option maxRecDepth 65536 in
theorem w_c0 : (Jvm.Cond.code x code maxLocals ret).before args0 about1 = true := code_word (m := ⟨1, 1⟩) (meth := k1m1) (c := k1c1) (by decide +kernel) rfl rfl rfl (by decide +kernel)
set_option maxRecDepth 65536 in
theorem w_c1 : (Jvm.Cond.code ({ cls := "java/lang/String", name := "length", desc := "()I" } : Jvm.MethodName) jdk_42_method_54_code (1 : Nat) (Option.some Jvm.ClassFile.FieldType.int)).before args0 about1 = true := code_word (m := ⟨7, 2⟩) (meth := k7m2) (c := k7c2) (by decide +kernel) rfl rfl rfl (by decide +kernel)
set_option maxRecDepth 65536 in
theorem w_c2 : (Jvm.Cond.code ({ cls := "java/lang/String", name := "coder", desc := "()B" } : Jvm.MethodName) jdk_42_method_152_code (1 : Nat) (Option.some Jvm.ClassFile.FieldType.byte)).before args0 about1 = true := code_word (m := ⟨7, 6⟩) (meth := k7m6) (c := k7c6) (by decide +kernel) rfl rfl rfl (by decide +kernel)
set_option maxRecDepth 65536 in
theorem w_c3 : (Jvm.Cond.code ({ cls := "com/example/runs_to_scores/runstoscores/formats/SubtaskLabelledPinLaw", name := "pick", desc := "(Ljava/lang/String;IJZIC)C" } : Jvm.MethodName) method_3_code (7 : Nat) (Option.some Jvm.ClassFile.FieldType.char)).before args0 about1 = true := code_word (m := ⟨1, 2⟩) (meth := k1m2) (c := k1c2) (by decide +kernel) rfl rfl rfl (by decide +kernel)
set_option maxRecDepth 65536 in
theorem w_c4 : (Jvm.Cond.code ({ cls := "java/lang/String", name := "charAt", desc := "(I)C" } : Jvm.MethodName) jdk_42_method_56_code (2 : Nat) (Option.some Jvm.ClassFile.FieldType.char)).before args0 about1 = true := code_word (m := ⟨7, 3⟩) (meth := k7m3) (c := k7c3) (by decide +kernel) rfl rfl rfl (by decide +kernel)
set_option maxRecDepth 65536 in
theorem w_c5 : (Jvm.Cond.code ({ cls := "java/lang/String", name := "isLatin1", desc := "()Z" } : Jvm.MethodName) jdk_42_method_154_code (1 : Nat) (Option.some Jvm.ClassFile.FieldType.boolean)).before args0 about1 = true := code_word (m := ⟨7, 7⟩) (meth := k7m7) (c := k7c7) (by decide +kernel) rfl rfl rfl (by decide +kernel)
set_option maxRecDepth 65536 in
theorem w_c6 : (Jvm.Cond.code ({ cls := "java/lang/StringLatin1", name := "charAt", desc := "([BI)C" } : Jvm.MethodName) jdk_43_method_2_code (2 : Nat) (Option.some Jvm.ClassFile.FieldType.char)).before args0 about1 = true := code_word (m := ⟨8, 1⟩) (meth := k8m1) (c := k8c1) (by decide +kernel) rfl rfl rfl (by decide +kernel)
set_option maxRecDepth 65536 in
theorem w_c7 : (Jvm.Cond.code ({ cls := "java/lang/String", name := "checkIndex", desc := "(II)V" } : Jvm.MethodName) jdk_42_method_155_code (2 : Nat) (Option.none : Option Jvm.ClassFile.FieldType)).before args0 about1 = true := code_word (m := ⟨7, 8⟩) (meth := k7m8) (c := k7c8) (by decide +kernel) rfl rfl rfl (by decide +kernel)
set_option maxRecDepth 65536 in
theorem w_c8 : (Jvm.Cond.code ({ cls := "jdk/internal/util/Preconditions", name := "checkIndex", desc := "(IILjava/util/function/BiFunction;)I" } : Jvm.MethodName) jdk_41_method_11_code (3 : Nat) (Option.some Jvm.ClassFile.FieldType.int)).before args0 about1 = true := code_word (m := ⟨9, 1⟩) (meth := k9m1) (c := k9c1) (by decide +kernel) rfl rfl rfl (by decide +kernel)
set_option maxRecDepth 65536 in
theorem w_c9 : (Jvm.Cond.code ({ cls := "com/example/runs_to_scores/runstoscores/formats/Subtask", name := "labelled", desc := "(Ljava/lang/String;)Lcom/example/runs_to_scores/runstoscores/formats/Subtask;" } : Jvm.MethodName) prog_35_method_6_code (5 : Nat) (Option.some (Jvm.ClassFile.FieldType.object "com/example/runs_to_scores/runstoscores/formats/Subtask"))).before args0 about1 = true := code_word (m := ⟨11, 1⟩) (meth := k11m1) (c := k11c1) (by decide +kernel) rfl rfl rfl (by decide +kernel)
set_option maxRecDepth 65536 in
theorem w_c10 : (Jvm.Cond.code ({ cls := "com/example/runs_to_scores/runstoscores/formats/Subtask", name := "values", desc := "()[Lcom/example/runs_to_scores/runstoscores/formats/Subtask;" } : Jvm.MethodName) prog_35_method_1_code (0 : Nat) (Option.some (Jvm.ClassFile.FieldType.array (Jvm.ClassFile.FieldType.object "com/example/runs_to_scores/runstoscores/formats/Subtask")))).before args0 about1 = true := code_word (m := ⟨11, 0⟩) (meth := k11m0) (c := k11c0) (by decide +kernel) rfl rfl rfl (by decide +kernel)
set_option maxRecDepth 65536 in
theorem w_c11 : (Jvm.Cond.code ({ cls := "java/lang/String", name := "equals", desc := "(Ljava/lang/Object;)Z" } : Jvm.MethodName) jdk_42_method_66_code (3 : Nat) (Option.some Jvm.ClassFile.FieldType.boolean)).before args0 about1 = true := code_word (m := ⟨7, 4⟩) (meth := k7m4) (c := k7c4) (by decide +kernel) rfl rfl rfl (by decide +kernel)
set_option maxRecDepth 65536 in
theorem w_c12 : (Jvm.Cond.code ({ cls := "com/example/runs_to_scores/runstoscores/formats/SubtaskLabelledPinLaw", name := "make", desc := "(I[C)Ljava/lang/String;" } : Jvm.MethodName) method_4_code (2 : Nat) (Option.some (Jvm.ClassFile.FieldType.object "java/lang/String"))).before args0 about1 = true := code_word (m := ⟨1, 3⟩) (meth := k1m3) (c := k1c3) (by decide +kernel) rfl rfl rfl (by decide +kernel)
set_option maxRecDepth 65536 in
theorem w_c13 : (Jvm.Cond.code ({ cls := "java/lang/String", name := "<init>", desc := "([C)V" } : Jvm.MethodName) jdk_42_method_3_code (2 : Nat) (Option.none : Option Jvm.ClassFile.FieldType)).before args0 about1 = true := code_word (m := ⟨7, 1⟩) (meth := k7m1) (c := k7c1) (by decide +kernel) rfl rfl rfl (by decide +kernel)
set_option maxRecDepth 65536 in
theorem w_c14 : (Jvm.Cond.code ({ cls := "java/lang/String", name := "<init>", desc := "([CIILjava/lang/Void;)V" } : Jvm.MethodName) jdk_42_method_149_code (6 : Nat) (Option.none : Option Jvm.ClassFile.FieldType)).before args0 about1 = true := code_word (m := ⟨7, 5⟩) (meth := k7m5) (c := k7c5) (by decide +kernel) rfl rfl rfl (by decide +kernel)
set_option maxRecDepth 65536 in
theorem w_c15 : (Jvm.Cond.code ({ cls := "java/lang/Object", name := "<init>", desc := "()V" } : Jvm.MethodName) object_method_1_code (1 : Nat) (Option.none : Option Jvm.ClassFile.FieldType)).before args0 about1 = true := code_word (m := ⟨0, 0⟩) (meth := k0m0) (c := k0c0) (by decide +kernel) rfl rfl rfl (by decide +kernel)
set_option maxRecDepth 65536 in
theorem w_c16 : (Jvm.Cond.code ({ cls := "java/lang/StringUTF16", name := "compress", desc := "([CII)[B" } : Jvm.MethodName) jdk_52_method_16_code (6 : Nat) (Option.some (Jvm.ClassFile.FieldType.array Jvm.ClassFile.FieldType.byte))).before args0 about1 = true := code_word (m := ⟨13, 2⟩) (meth := k13m2) (c := k13c2) (by decide +kernel) rfl rfl rfl (by decide +kernel)
set_option maxRecDepth 65536 in
theorem w_c17 : (Jvm.Cond.code ({ cls := "java/lang/StringUTF16", name := "compress", desc := "([CI[BII)I" } : Jvm.MethodName) jdk_52_method_21_code (7 : Nat) (Option.some Jvm.ClassFile.FieldType.int)).before args0 about1 = true := code_word (m := ⟨13, 3⟩) (meth := k13m3) (c := k13c3) (by decide +kernel) rfl rfl rfl (by decide +kernel)
set_option maxRecDepth 65536 in
theorem w_c18 : (Jvm.Cond.code ({ cls := "java/lang/StringUTF16", name := "coderFromArrayLen", desc := "([BI)B" } : Jvm.MethodName) jdk_52_method_15_code (2 : Nat) (Option.some Jvm.ClassFile.FieldType.byte)).before args0 about1 = true := code_word (m := ⟨13, 1⟩) (meth := k13m1) (c := k13c1) (by decide +kernel) rfl rfl rfl (by decide +kernel)
set_option maxRecDepth 65536 in
theorem w_c19 : (Jvm.Cond.code ({ cls := "java/lang/StringLatin1", name := "equals", desc := "([B[B)Z" } : Jvm.MethodName) jdk_43_method_13_code (3 : Nat) (Option.some Jvm.ClassFile.FieldType.boolean)).before args0 about1 = true := code_word (m := ⟨8, 2⟩) (meth := k8m2) (c := k8c2) (by decide +kernel) rfl rfl rfl (by decide +kernel)
def codes1 : List Jvm.Cond := [Jvm.Cond.code x code maxLocals ret, Jvm.Cond.code ({ cls := "java/lang/String", name := "length", desc := "()I" } : Jvm.MethodName) jdk_42_method_54_code (1 : Nat) (Option.some Jvm.ClassFile.FieldType.int), Jvm.Cond.code ({ cls := "java/lang/String", name := "coder", desc := "()B" } : Jvm.MethodName) jdk_42_method_152_code (1 : Nat) (Option.some Jvm.ClassFile.FieldType.byte), Jvm.Cond.code ({ cls := "com/example/runs_to_scores/runstoscores/formats/SubtaskLabelledPinLaw", name := "pick", desc := "(Ljava/lang/String;IJZIC)C" } : Jvm.MethodName) method_3_code (7 : Nat) (Option.some Jvm.ClassFile.FieldType.char), Jvm.Cond.code ({ cls := "java/lang/String", name := "charAt", desc := "(I)C" } : Jvm.MethodName) jdk_42_method_56_code (2 : Nat) (Option.some Jvm.ClassFile.FieldType.char), Jvm.Cond.code ({ cls := "java/lang/String", name := "isLatin1", desc := "()Z" } : Jvm.MethodName) jdk_42_method_154_code (1 : Nat) (Option.some Jvm.ClassFile.FieldType.boolean), Jvm.Cond.code ({ cls := "java/lang/StringLatin1", name := "charAt", desc := "([BI)C" } : Jvm.MethodName) jdk_43_method_2_code (2 : Nat) (Option.some Jvm.ClassFile.FieldType.char), Jvm.Cond.code ({ cls := "java/lang/String", name := "checkIndex", desc := "(II)V" } : Jvm.MethodName) jdk_42_method_155_code (2 : Nat) (Option.none : Option Jvm.ClassFile.FieldType), Jvm.Cond.code ({ cls := "jdk/internal/util/Preconditions", name := "checkIndex", desc := "(IILjava/util/function/BiFunction;)I" } : Jvm.MethodName) jdk_41_method_11_code (3 : Nat) (Option.some Jvm.ClassFile.FieldType.int), Jvm.Cond.code ({ cls := "com/example/runs_to_scores/runstoscores/formats/Subtask", name := "labelled", desc := "(Ljava/lang/String;)Lcom/example/runs_to_scores/runstoscores/formats/Subtask;" } : Jvm.MethodName) prog_35_method_6_code (5 : Nat) (Option.some (Jvm.ClassFile.FieldType.object "com/example/runs_to_scores/runstoscores/formats/Subtask")), Jvm.Cond.code ({ cls := "com/example/runs_to_scores/runstoscores/formats/Subtask", name := "values", desc := "()[Lcom/example/runs_to_scores/runstoscores/formats/Subtask;" } : Jvm.MethodName) prog_35_method_1_code (0 : Nat) (Option.some (Jvm.ClassFile.FieldType.array (Jvm.ClassFile.FieldType.object "com/example/runs_to_scores/runstoscores/formats/Subtask"))), Jvm.Cond.code ({ cls := "java/lang/String", name := "equals", desc := "(Ljava/lang/Object;)Z" } : Jvm.MethodName) jdk_42_method_66_code (3 : Nat) (Option.some Jvm.ClassFile.FieldType.boolean), Jvm.Cond.code ({ cls := "com/example/runs_to_scores/runstoscores/formats/SubtaskLabelledPinLaw", name := "make", desc := "(I[C)Ljava/lang/String;" } : Jvm.MethodName) method_4_code (2 : Nat) (Option.some (Jvm.ClassFile.FieldType.object "java/lang/String")), Jvm.Cond.code ({ cls := "java/lang/String", name := "<init>", desc := "([C)V" } : Jvm.MethodName) jdk_42_method_3_code (2 : Nat) (Option.none : Option Jvm.ClassFile.FieldType), Jvm.Cond.code ({ cls := "java/lang/String", name := "<init>", desc := "([CIILjava/lang/Void;)V" } : Jvm.MethodName) jdk_42_method_149_code (6 : Nat) (Option.none : Option Jvm.ClassFile.FieldType), Jvm.Cond.code ({ cls := "java/lang/Object", name := "<init>", desc := "()V" } : Jvm.MethodName) object_method_1_code (1 : Nat) (Option.none : Option Jvm.ClassFile.FieldType), Jvm.Cond.code ({ cls := "java/lang/StringUTF16", name := "compress", desc := "([CII)[B" } : Jvm.MethodName) jdk_52_method_16_code (6 : Nat) (Option.some (Jvm.ClassFile.FieldType.array Jvm.ClassFile.FieldType.byte)), Jvm.Cond.code ({ cls := "java/lang/StringUTF16", name := "compress", desc := "([CI[BII)I" } : Jvm.MethodName) jdk_52_method_21_code (7 : Nat) (Option.some Jvm.ClassFile.FieldType.int), Jvm.Cond.code ({ cls := "java/lang/StringUTF16", name := "coderFromArrayLen", desc := "([BI)B" } : Jvm.MethodName) jdk_52_method_15_code (2 : Nat) (Option.some Jvm.ClassFile.FieldType.byte), Jvm.Cond.code ({ cls := "java/lang/StringLatin1", name := "equals", desc := "([B[B)Z" } : Jvm.MethodName) jdk_43_method_13_code (3 : Nat) (Option.some Jvm.ClassFile.FieldType.boolean)]
set_option maxRecDepth 65536 in
theorem codes_eq : words1.filter isCode = codes1 := rfl
theorem w_codes : ∀ c ∈ words1.filter isCode, c.before args0 about1 = true := by
  rw [codes_eq]
  intro c hc
  simp only [codes1, List.mem_cons, List.not_mem_nil, or_false] at hc
  rcases hc with rfl | rfl | rfl | rfl | rfl | rfl | rfl | rfl | rfl | rfl | rfl | rfl | rfl | rfl | rfl | rfl | rfl | rfl | rfl | rfl
  · exact w_c0
  · exact w_c1
  · exact w_c2
  · exact w_c3
  · exact w_c4
  · exact w_c5
  · exact w_c6
  · exact w_c7
  · exact w_c8
  · exact w_c9
  · exact w_c10
  · exact w_c11
  · exact w_c12
  · exact w_c13
  · exact w_c14
  · exact w_c15
  · exact w_c16
  · exact w_c17
  · exact w_c18
  · exact w_c19
set_option maxRecDepth 65536 in
theorem w_t1 : (words1.take 24).all (fun c => isCode c || c.before args0 about1) = true := by decide +kernel
set_option maxRecDepth 65536 in
theorem w_t2 : ((words1.drop 24).take 24).all (fun c => isCode c || c.before args0 about1) = true := by decide +kernel
set_option maxRecDepth 65536 in
theorem w_t3 : (((words1.drop 24).drop 24).take 24).all (fun c => isCode c || c.before args0 about1) = true := by decide +kernel
set_option maxRecDepth 65536 in
theorem w_t4 : ((((words1.drop 24).drop 24).drop 24).take 24).all (fun c => isCode c || c.before args0 about1) = true := by decide +kernel
set_option maxRecDepth 65536 in
theorem w_t5 : ((((words1.drop 24).drop 24).drop 24).drop 24).all (fun c => isCode c || c.before args0 about1) = true := by decide +kernel
theorem w_tables : (allAtoms (Jvm.Cond.code x code maxLocals ret :: tables_1)).before args0 about1 = true := by
  rw [allAtoms_all]
  show words1.all (fun c => c.before args0 about1) = true
  refine all_split ?_ w_codes
  rw [← List.take_append_drop 24 words1, List.all_append, w_t1, ← List.take_append_drop 24 (words1.drop 24), List.all_append, w_t2, ← List.take_append_drop 24 ((words1.drop 24).drop 24), List.all_append, w_t3, ← List.take_append_drop 24 (((words1.drop 24).drop 24).drop 24), List.all_append, w_t4, w_t5]
  rfl
set_option maxRecDepth 65536 in
theorem w_rest : rest_1_c.before args0 about1 = true := by decide +kernel
set_option maxRecDepth 65536 in
theorem w_case : (Jvm.Cond.and given_1 narrow_1).before args0 about1 = true := by decide +kernel
set_option maxRecDepth 65536 in
theorem w_consts : constsHeld consts_1 about1 := Jvm.Lit.constsHeldB_iff.mp (by decide +kernel)
theorem w_applies : (headSpec (Jvm.Cond.code x code maxLocals ret :: tables_1) room_1).applies x e0.platform about1 = true :=
  (Spec.applies_iff w_frames).mpr ⟨w_running, w_runnable, w_alone, w_named, w_hears, w_ripe, w_room, w_tables⟩
theorem atStart : AtStart classFile x code maxLocals ret World_1 tables_1 room_1 Calls_1 rest_1 Pre_1 launch0 p0 e0 about1 theMethod args0 below0 :=
  ⟨lists_1, trivial, launch0.admits_env _ _ _, launch0.least_env, fairChoices_fair.cas, fairChoices_fair.clock, w_frames, w_args, w_heap, w_applies, ⟨w_consts, trivial⟩, w_rest, w_case⟩
end start1
theorem witness_1 : WitnessClaimed_1 := ⟨start1.p0, start1.e0, start1.about1, start1.theMethod, start1.args0, start1.below0, start1.atStart⟩
end Jvm.Pilot.@@N@@
