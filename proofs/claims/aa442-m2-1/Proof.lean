import JvmDerived
import JvmDerived.Pilot.@@N@@Statement
import JvmDerived.Pilot.@@N@@Code
set_option linter.unusedVariables false
set_option linter.unusedSimpArgs false

namespace Jvm.RoadKit
open Sem ClassFile Op Lib Jvm.Stand Jvm.Free Jvm.LawKit
section New
variable {p : Program} {l : Launch} {e : Env} {R : Room} {s : State} {m : MethodId} {args : Array Value} {below : List Frame} {meth : Method} {c : Code} {T : State} {locs : List Loc} {cells slots : Nat}
theorem retI (X : Stand p l e R s m args below meth c T locs cells slots) (hx : p.tables.exec = Jvm.exec) {pc : Nat} {Ls : Array Slot} {z : Int32} {rest : List Value} (hret : meth.sig.returnType = some .int) (hd : decode c.code pc = .ok (.ireturn, 1)) {fs : List Frame}
    (hl : ∀ (f : JFrame) (acts : List Action), f.method = m → f.locked = none → f.entered = [] → (doReturn e (T.setTop f) acts (some (.int z))).1 = T.setFrames fs) : Steps p.tables e below (T.setTop (mkF m pc Ls (.int z :: rest))) (T.setFrames fs) := by
  have hm' : T.vm.method? m = some meth := X.method'
  have hn : narrow .int (.int z) = .int z := rfl
  show Steps p.tables e below (T.setTop { method := m, pc := pc, locals := Ls, stack := _ :: rest, locked := none }) _
  jvm_step X.here [X.here.top, hx, hd, hm', hret, hn]
  first | (intro acts; rw [hl _ acts rfl rfl rfl]) | rw [hl _ _ rfl rfl rfl]
  exact Steps.refl _
end New
end Jvm.RoadKit

namespace Jvm.Pilot.@@N@@
namespace StrChars
open Jvm Sem ClassFile Op Lib Jvm.Stand Jvm.Free.XT Jvm.Free.ALB Jvm.Free.JM Jvm.Free
open Jvm.Lib.Cold (StaticIs)
def Ch (a : Addr) (A : Cell) (U : State) : Prop := Arr .char a A U ∧ Typed .char A
theorem Ch.mv {a : Addr} {A : Cell} {U U' : State} (h : Ch a A U) (hal : U.vm.Alike U'.vm) (hh : U'.heap = U.heap) : Ch a A U' := ⟨h.1.mv hal hh, h.2⟩
theorem Ch.keep {a : Addr} {A : Cell} {U U' : State} (h : Ch a A U) (hal : U.vm.Alike U'.vm) (hk : U'.heap[a]? = some A) : Ch a A U' := ⟨h.1.keep hal hk, h.2⟩
def cv (A : Cell) (i : Nat) : Int32 := match A.slots[i]? with | some (.int x) => x | _ => 0
theorem Ch.get {a : Addr} {A : Cell} {U : State} (h : Ch a A U) {i : Nat} (hi : i < A.slots.size) : A.slots[i]? = some (.int (cv A i)) := by
  have e := Array.getElem?_eq_getElem hi
  have f := h.2 i _ e
  unfold cv; rw [e]
  generalize A.slots[i] = v at f
  cases v <;> simp [fits] at f ⊢
def lo8 (x : Int32) : Int32 := x.toInt8.toInt32
theorem fits_lo8 (y : Int32) : fits .byte (.int (lo8 y)) = true := by
  have h1 := y.toInt8.le_toInt
  have h2 := y.toInt8.toInt_lt
  simp only [lo8, fits, Bool.and_eq_true, decide_eq_true_eq, Int32.le_iff_toInt_le, Int8.toInt_toInt32, show (-128 : Int32).toInt = -128 from by decide, show (127 : Int32).toInt = 127 from by decide]
  omega
def Laid (A A' : Cell) (lo hi : Nat) (f : Nat → Value) : Prop := A'.cls = A.cls ∧ A'.vm = A.vm ∧ A'.slots.size = A.slots.size ∧ ∀ i, A'.slots[i]? = if lo ≤ i ∧ i < hi then some (f i) else A.slots[i]?
theorem Laid.zero (A : Cell) (lo : Nat) (f : Nat → Value) : Laid A A lo (lo + 0) f := ⟨rfl, rfl, rfl, fun i => by rw [if_neg (by omega)]⟩
theorem Laid.step {A Ak : Cell} {lo k : Nat} {f : Nat → Value} {v : Value} (h : Laid A Ak lo k f) (hlo : lo ≤ k) (hk : k < Ak.slots.size) (hv : v = f k) : Laid A (Ak.setSlot k v) lo (k + 1) f := by
  refine ⟨h.1, h.2.1, by simpa [Cell.setSlot] using h.2.2.1, fun i => ?_⟩
  by_cases e : k = i
  · subst e; rw [Cell.slots_setSlot_self v hk, if_pos (by omega), hv]
  · rw [Cell.slots_setSlot_ne v e, h.2.2.2 i]
    by_cases q : lo ≤ i ∧ i < k
    · rw [if_pos q, if_pos (by omega)]
    · rw [if_neg q, if_neg (by omega)]
def U16 : String := "java/lang/StringUTF16"
namespace Cmp5
def yN : MethodName := ⟨"java/lang/StringUTF16", "compress", "([CI[BII)I"⟩
abbrev yB : ByteArray := jdk_52_method_21_code
theorem d0 : decode yB 0 = .ok (.iconst 0, 1) := by decide +kernel
theorem d1 : decode yB 1 = .ok (.istore 5, 2) := by decide +kernel
theorem d3 : decode yB 3 = .ok (.iload 5, 2) := by decide +kernel
theorem d5 : decode yB 5 = .ok (.iload 4, 2) := by decide +kernel
theorem d7 : decode yB 7 = .ok (.if_icmp (.ge) 37, 3) := by decide +kernel
theorem d10 : decode yB 10 = .ok (.aload_n 0, 1) := by decide +kernel
theorem d11 : decode yB 11 = .ok (.iload_n 1, 1) := by decide +kernel
theorem d12 : decode yB 12 = .ok (.caload, 1) := by decide +kernel
theorem d13 : decode yB 13 = .ok (.istore 6, 2) := by decide +kernel
theorem d15 : decode yB 15 = .ok (.iload 6, 2) := by decide +kernel
theorem d17 : decode yB 17 = .ok (.sipush 255, 3) := by decide +kernel
theorem d20 : decode yB 20 = .ok (.if_icmp (.le) 6, 3) := by decide +kernel
theorem d26 : decode yB 26 = .ok (.aload_n 2, 1) := by decide +kernel
theorem d27 : decode yB 27 = .ok (.iload_n 3, 1) := by decide +kernel
theorem d28 : decode yB 28 = .ok (.iload 6, 2) := by decide +kernel
theorem d30 : decode yB 30 = .ok (.i2b, 1) := by decide +kernel
theorem d31 : decode yB 31 = .ok (.bastore, 1) := by decide +kernel
theorem d32 : decode yB 32 = .ok (.iinc 1 1, 3) := by decide +kernel
theorem d35 : decode yB 35 = .ok (.iinc 3 1, 3) := by decide +kernel
theorem d38 : decode yB 38 = .ok (.iinc 5 1, 3) := by decide +kernel
theorem d41 : decode yB 41 = .ok (.goto (-38), 3) := by decide +kernel
theorem d44 : decode yB 44 = .ok (.iload 4, 2) := by decide +kernel
theorem d46 : decode yB 46 = .ok (.ireturn, 1) := by decide +kernel
def site : List Cond := []
def tab : Cond := tabOf yN yB 7 (some .int) site
def P (b : Addr) (A : Cell) (d : Addr) (B : Cell) (o q len : Nat) (args : Array Value) (s : State) : Prop := args = #[.ref b, .int (Int32.ofNat o), .ref d, .int (Int32.ofNat q), .int (Int32.ofNat len)] ∧ Ch b A s ∧ Arr .byte d B s ∧ b ≠ d ∧ o + len ≤ A.slots.size ∧ q + len ≤ B.slots.size ∧ ∀ i, i < len → ¬ 255 < cv A (o + i)
def E (b : Addr) (A : Cell) (d : Addr) (B : Cell) (o q len : Nat) (r : Option Value) (s u : State) : Prop := r = some (.int (Int32.ofNat len)) ∧ ∃ B', Put d B' s u ∧ Laid B B' q (q + len) (fun j => Value.int (lo8 (cv A (o + (j - q)))))
theorem law (l : Launch) (b : Addr) (A : Cell) (d : Addr) (B : Cell) (o q len : Nat) : Law l yN 5 5 0 0 yB 7 (some .int) site (P b A d B o q len) (E b A d B o q len) (copyLocs d q len) 0 0 := by
  refine Law.of_walk (plainFor_of_name (by decide +kernel)) (by decide +kernel) (by decide +kernel) (by decide) (fun _ _ h => by rw [h.1]; rfl) (fun _ U U' hal hh h => ⟨h.1, h.2.1.mv hal hh, h.2.2.1.mv hal hh, h.2.2.2⟩) (fun r U U' V V' h1 hal h2 h => ⟨h.1, h.2.elim fun B' q => ⟨B', q.1.mv h1 h2, q.2⟩⟩) ?_
  intro p e s m args below meth c s₁ X0 hexec hbytes hml hret hlk hnm hown hh0 W hP
  obtain ⟨rfl, hA, hB, hne, l1, l2, hp⟩ := hP
  have c1 : Steps p.tables e below (s₁.setTop (entryFrame m #[.ref b, .int (Int32.ofNat o), .ref d, .int (Int32.ofNat q), .int (Int32.ofNat len)] 7)) (s₁.setTop (mkF m 0 #[.val (.ref b), .val (.int (Int32.ofNat o)), .val (.ref d), .val (.int (Int32.ofNat q)), .val (.int (Int32.ofNat len)), .unset, .unset] [])) := entry rfl
  have hA0 := hA.1.mv X0.warmed.alike hh0
  have hB0 := hB.mv X0.warmed.alike hh0
  have a31 := hA.1.2.2.2
  have c2 : Steps p.tables e below (s₁.setTop (entryFrame m #[.ref b, .int (Int32.ofNat o), .ref d, .int (Int32.ofNat q), .int (Int32.ofNat len)] 7)) (s₁.setTop (mkF m 3 #[.val (.ref b), .val (.int (Int32.ofNat o)), .val (.ref d), .val (.int (Int32.ofNat q)), .val (.int (Int32.ofNat len)), .val (.int 0), .unset] [])) := c1.trans (by
    refine iconstV X0.here hexec rfl 0 (hb hbytes d0) (by decide) ?_
    refine XS.istore X0.here hexec rfl (hb hbytes d1) rfl rfl ?_
    exact Steps.refl _)
  have loop : ∀ (r i : Nat), i + r = len → ∀ (z : Slot), (z = .unset ∨ ∃ w, z = .val w ∧ w.category = 1) → ∀ (Tl : State) (Bk : Cell), Stand p l e { frames := 0, locals := 0, cells := 0, slots := 0 } s m #[.ref b, .int (Int32.ofNat o), .ref d, .int (Int32.ofNat q), .int (Int32.ofNat len)] below meth c Tl ([] ++ copyLocs d q i) 0 0 → Put d Bk s₁ Tl → Laid B Bk q (q + i) (fun j => Value.int (lo8 (cv A (o + (j - q))))) →
      Steps p.tables e below (s₁.setTop (entryFrame m #[.ref b, .int (Int32.ofNat o), .ref d, .int (Int32.ofNat q), .int (Int32.ofNat len)] 7)) (Tl.setTop (mkF m 3 #[.val (.ref b), .val (.int (Int32.ofNat (o + i))), .val (.ref d), .val (.int (Int32.ofNat (q + i))), .val (.int (Int32.ofNat len)), .val (.int (Int32.ofNat i)), z] [])) → ∃ (T' : State) (B' : Cell) (z' : Slot), Stand p l e { frames := 0, locals := 0, cells := 0, slots := 0 } s m #[.ref b, .int (Int32.ofNat o), .ref d, .int (Int32.ofNat q), .int (Int32.ofNat len)] below meth c T' ([] ++ copyLocs d q len) 0 0 ∧ Put d B' s₁ T' ∧ Laid B B' q (q + len) (fun j => Value.int (lo8 (cv A (o + (j - q))))) ∧
      Steps p.tables e below (s₁.setTop (entryFrame m #[.ref b, .int (Int32.ofNat o), .ref d, .int (Int32.ofNat q), .int (Int32.ofNat len)] 7)) (T'.setTop (mkF m 3 #[.val (.ref b), .val (.int (Int32.ofNat (o + len))), .val (.ref d), .val (.int (Int32.ofNat (q + len))), .val (.int (Int32.ofNat len)), .val (.int (Int32.ofNat len)), z'] [])) := by
    intro r
    induction r with
    | zero =>
      intro i hi z hz Tl Bk Xl pl fl cl
      have hil : i = len := by omega
      rw [hil] at Xl fl cl
      exact ⟨Tl, Bk, z, Xl, pl, fl, cl⟩
    | succ r ih =>
      intro i hi z hz Tl Bk Xl pl fl cl
      have all := X0.warmed.alike.symm.trans Xl.warmed.alike
      have hAl := hA0.keep all (pl.other hne hA0.1)
      have hBk := hB0.like all pl.1 fl.1 fl.2.1 fl.2.2.1
      have hlt : q + i < Bk.slots.size := by rw [fl.2.2.1]; omega
      have c3 : Steps p.tables e below (s₁.setTop (entryFrame m #[.ref b, .int (Int32.ofNat o), .ref d, .int (Int32.ofNat q), .int (Int32.ofNat len)] 7)) (Tl.setTop (mkF m 12 #[.val (.ref b), .val (.int (Int32.ofNat (o + i))), .val (.ref d), .val (.int (Int32.ofNat (q + i))), .val (.int (Int32.ofNat len)), .val (.int (Int32.ofNat i)), z] [.int (Int32.ofNat (o + i)), .ref b])) := cl.trans (by
        refine XS.iload Xl.here hexec rfl (hb hbytes d3) rfl ?_
        refine XS.iload Xl.here hexec rfl (hb hbytes d5) rfl ?_
        refine XS.icmpNo Xl.here hexec rfl (hb hbytes d7) rfl (ii_ge_f (lt32 (by omega) (by omega))) ?_
        refine XS.aloadN Xl.here hexec rfl (hb hbytes d10) rfl rfl ?_
        refine XS.iloadN Xl.here hexec rfl (hb hbytes d11) rfl ?_
        exact Steps.refl _)
      have c4 : Steps p.tables e below (s₁.setTop (entryFrame m #[.ref b, .int (Int32.ofNat o), .ref d, .int (Int32.ofNat q), .int (Int32.ofNat len)] 7)) (Tl.setTop (mkF m 13 #[.val (.ref b), .val (.int (Int32.ofNat (o + i))), .val (.ref d), .val (.int (Int32.ofNat (q + i))), .val (.int (Int32.ofNat len)), .val (.int (Int32.ofNat i)), z] [.int (cv A (o + i))])) := c3.trans (by
        refine Xl.aget hexec hAl rfl (hA.get (i := o + i) (by omega)) rfl rfl (hb hbytes d12) ?_
        exact Steps.refl _)
      have c5 : Steps p.tables e below (s₁.setTop (entryFrame m #[.ref b, .int (Int32.ofNat o), .ref d, .int (Int32.ofNat q), .int (Int32.ofNat len)] 7)) (Tl.setTop (mkF m 15 #[.val (.ref b), .val (.int (Int32.ofNat (o + i))), .val (.ref d), .val (.int (Int32.ofNat (q + i))), .val (.int (Int32.ofNat len)), .val (.int (Int32.ofNat i)), .val (.int (cv A (o + i)))] [])) := c4.trans (by
        refine XS.istoreS Xl.here hexec rfl (hb hbytes d13) rfl rfl hz ?_
        exact Steps.refl _)
      have c6 : Steps p.tables e below (s₁.setTop (entryFrame m #[.ref b, .int (Int32.ofNat o), .ref d, .int (Int32.ofNat q), .int (Int32.ofNat len)] 7)) (Tl.setTop (mkF m 31 #[.val (.ref b), .val (.int (Int32.ofNat (o + i))), .val (.ref d), .val (.int (Int32.ofNat (q + i))), .val (.int (Int32.ofNat len)), .val (.int (Int32.ofNat i)), .val (.int (cv A (o + i)))] [.int (lo8 (cv A (o + i))), .int (Int32.ofNat (q + i)), .ref d])) := c5.trans (by
        refine XS.iload Xl.here hexec rfl (hb hbytes d15) rfl ?_
        refine sipushV Xl.here hexec rfl 255 (hb hbytes d17) (by decide) ?_
        refine XS.icmpYes Xl.here hexec rfl (pc0 := 20) rfl (hb hbytes d20) rfl (ii_le_t (hp i (by omega))) (by decide) rfl ?_
        refine XS.aloadN Xl.here hexec rfl (hb hbytes d26) rfl rfl ?_
        refine XS.iloadN Xl.here hexec rfl (hb hbytes d27) rfl ?_
        refine XS.iload Xl.here hexec rfl (hb hbytes d28) rfl ?_
        refine i2b Xl.here hexec rfl (hb hbytes d30) rfl ?_
        exact Steps.refl _)
      obtain ⟨T7, X7, p7, st7⟩ := Xl.aput hexec hBk rfl hlt rfl (fits_lo8 (cv A (o + i))) (g := (mkF m 31 #[.val (.ref b), .val (.int (Int32.ofNat (o + i))), .val (.ref d), .val (.int (Int32.ofNat (q + i))), .val (.int (Int32.ofNat len)), .val (.int (Int32.ofNat i)), .val (.int (cv A (o + i)))] [.int (lo8 (cv A (o + i))), .int (Int32.ofNat (q + i)), .ref d])) rfl (rest := []) rfl (hb hbytes d31)
      have c8 : Steps p.tables e below (s₁.setTop (entryFrame m #[.ref b, .int (Int32.ofNat o), .ref d, .int (Int32.ofNat q), .int (Int32.ofNat len)] 7)) (T7.setTop (mkF m 32 #[.val (.ref b), .val (.int (Int32.ofNat (o + i))), .val (.ref d), .val (.int (Int32.ofNat (q + i))), .val (.int (Int32.ofNat len)), .val (.int (Int32.ofNat i)), .val (.int (cv A (o + i)))] [])) := c6.trans (st7 _ (Steps.refl _))
      have c9 : Steps p.tables e below (s₁.setTop (entryFrame m #[.ref b, .int (Int32.ofNat o), .ref d, .int (Int32.ofNat q), .int (Int32.ofNat len)] 7)) (T7.setTop (mkF m 3 #[.val (.ref b), .val (.int (Int32.ofNat (o + i) + 1)), .val (.ref d), .val (.int (Int32.ofNat (q + i) + 1)), .val (.int (Int32.ofNat len)), .val (.int (Int32.ofNat i + 1)), .val (.int (cv A (o + i)))] [])) := c8.trans (by
        refine iincV X7.here hexec rfl 1 (hb hbytes d32) (by decide) rfl rfl ?_
        refine iincV X7.here hexec rfl 1 (hb hbytes d35) (by decide) rfl rfl ?_
        refine iincV X7.here hexec rfl 1 (hb hbytes d38) (by decide) rfl rfl ?_
        refine XS.goto X7.here hexec rfl (pc0 := 41) rfl (hb hbytes d41) (by decide) rfl ?_
        exact Steps.refl _)
      have c10 : Steps p.tables e below (s₁.setTop (entryFrame m #[.ref b, .int (Int32.ofNat o), .ref d, .int (Int32.ofNat q), .int (Int32.ofNat len)] 7)) (T7.setTop (mkF m 3 #[.val (.ref b), .val (.int (Int32.ofNat (o + (i + 1)))), .val (.ref d), .val (.int (Int32.ofNat (q + (i + 1)))), .val (.int (Int32.ofNat len)), .val (.int (Int32.ofNat (i + 1))), .val (.int (cv A (o + i)))] [])) := by
        have := c9
        rw [succ32, succ32, succ32] at this
        exact this
      exact ih (i + 1) (by omega) _ (Or.inr ⟨_, rfl, rfl⟩) T7 _ (by rw [copyLocs_step, ← List.append_assoc]; exact X7) (pl.trans p7) (fl.step (by omega) hlt (by simp)) c10
  obtain ⟨T9, B9, z9, X9, p9, f9, g9⟩ := loop len 0 (by omega) .unset (Or.inl rfl) s₁ B (by simpa [copyLocs] using X0) ⟨hB0.1, fun _ _ => rfl, rfl⟩ (Laid.zero _ _ _) c2
  have c11 : Steps p.tables e below (s₁.setTop (entryFrame m #[.ref b, .int (Int32.ofNat o), .ref d, .int (Int32.ofNat q), .int (Int32.ofNat len)] 7)) (T9.setTop (mkF m 46 #[.val (.ref b), .val (.int (Int32.ofNat (o + len))), .val (.ref d), .val (.int (Int32.ofNat (q + len))), .val (.int (Int32.ofNat len)), .val (.int (Int32.ofNat len)), z9] [.int (Int32.ofNat len)])) := g9.trans (by
    refine XS.iload X9.here hexec rfl (hb hbytes d3) rfl ?_
    refine XS.iload X9.here hexec rfl (hb hbytes d5) rfl ?_
    refine XS.icmpYes X9.here hexec rfl (pc0 := 7) rfl (hb hbytes d7) rfl (ii_ge_t (nlt32 (by omega) (Nat.le_refl _))) (by decide) rfl ?_
    refine XS.iload X9.here hexec rfl (hb hbytes d44) rfl ?_
    exact Steps.refl _)
  exact ⟨T9, some (.int (Int32.ofNat len)), _, _, _, X9, by simp, rfl, rfl, (fun h => by cases h), ⟨rfl, B9, p9.from hh0, f9⟩, fun fs hl => c11.trans (X9.ireturnOut hexec hret rfl (Or.inl rfl) (hb hbytes d46) hl)⟩
end Cmp5
namespace Cmp3
def yN : MethodName := ⟨"java/lang/StringUTF16", "compress", "([CII)[B"⟩
abbrev yB : ByteArray := jdk_52_method_16_code
theorem d0 : decode yB 0 = .ok (.iload_n 2, 1) := by decide +kernel
theorem d1 : decode yB 1 = .ok (.newarray .byte, 2) := by decide +kernel
theorem d3 : decode yB 3 = .ok (.astore_n 3, 1) := by decide +kernel
theorem d4 : decode yB 4 = .ok (.aload_n 0, 1) := by decide +kernel
theorem d5 : decode yB 5 = .ok (.iload_n 1, 1) := by decide +kernel
theorem d6 : decode yB 6 = .ok (.aload_n 3, 1) := by decide +kernel
theorem d7 : decode yB 7 = .ok (.iconst 0, 1) := by decide +kernel
theorem d8 : decode yB 8 = .ok (.iload_n 2, 1) := by decide +kernel
theorem d9 : decode yB 9 = .ok (.invokestatic 115, 3) := by decide +kernel
theorem d12 : decode yB 12 = .ok (.istore 4, 2) := by decide +kernel
theorem d14 : decode yB 14 = .ok (.iload 4, 2) := by decide +kernel
theorem d16 : decode yB 16 = .ok (.iload_n 2, 1) := by decide +kernel
theorem d17 : decode yB 17 = .ok (.if_icmp (.eq) 40, 3) := by decide +kernel
theorem d57 : decode yB 57 = .ok (.aload_n 3, 1) := by decide +kernel
theorem d58 : decode yB 58 = .ok (.areturn, 1) := by decide +kernel
def site : List Cond := [.arrayClass .byte, Cmp5.tab] ++ staticW U16 115 Cmp5.yN
def tab : Cond := tabOf yN yB 6 (some (.array .byte)) site
def P (b : Addr) (A : Cell) (o len : Nat) (args : Array Value) (s : State) : Prop := args = #[.ref b, .int (Int32.ofNat o), .int (Int32.ofNat len)] ∧ Ch b A s ∧ o + len ≤ A.slots.size ∧ len ≤ 536870912 ∧ ∀ i, i < len → ¬ 255 < cv A (o + i)
def E (b : Addr) (A : Cell) (o len : Nat) (r : Option Value) (s u : State) : Prop := NewArr .byte "[B" len (fun j => .int (lo8 (cv A (o + j)))) r s u ∧ u.heap.size = s.heap.size + 1
theorem law (l : Launch) (b : Addr) (A : Cell) (o len : Nat) : Law l yN 3 3 1 18 yB 6 (some (.array .byte)) site (P b A o len) (E b A o len) [] 1 len := by
  refine Law.of_walk (plainFor_of_name (by decide +kernel)) (by decide +kernel) (by decide +kernel) (by decide) (fun _ _ h => by rw [h.1]; rfl) (fun _ U U' hal hh h => ⟨h.1, h.2.1.mv hal hh, h.2.2⟩) (fun r U U' V V' h1 hal h2 h => ⟨NewArr.mv r U U' V V' h1 hal h2 h.1, by rw [h1, h2]; exact h.2⟩) ?_
  intro p e s m args below meth c s₁ X0 hexec hbytes hml hret hlk hnm hown hh0 W hP
  obtain ⟨rfl, hA, l1, l2, hp⟩ := hP
  have a31 := hA.1.2.2.2
  have c1 : Steps p.tables e below (s₁.setTop (entryFrame m #[.ref b, .int (Int32.ofNat o), .int (Int32.ofNat len)] 6)) (s₁.setTop (mkF m 0 #[.val (.ref b), .val (.int (Int32.ofNat o)), .val (.int (Int32.ofNat len)), .unset, .unset, .unset] [])) := entry rfl
  have c2 : Steps p.tables e below (s₁.setTop (entryFrame m #[.ref b, .int (Int32.ofNat o), .int (Int32.ofNat len)] 6)) (s₁.setTop (mkF m 1 #[.val (.ref b), .val (.int (Int32.ofNat o)), .val (.int (Int32.ofNat len)), .unset, .unset, .unset] [.int (Int32.ofNat len)])) := c1.trans (by
    refine XS.iloadN X0.here hexec rfl (hb hbytes d0) rfl ?_
    exact Steps.refl _)
  obtain ⟨T3, B3, X3, ba3, bs3, bv3, bh3, bf3, st3⟩ := X0.anew hexec (atype := .byte) (wk W (.arrayClass .byte)) rfl (by show len * 1 ≤ _; omega) (by omega) (g := (mkF m 1 #[.val (.ref b), .val (.int (Int32.ofNat o)), .val (.int (Int32.ofNat len)), .unset, .unset, .unset] [.int (Int32.ofNat len)])) rfl (hb hbytes d1) (rest := []) rfl (Nat.le_refl _) (by show 0 + len ≤ len; omega)
  rw [hh0] at ba3 st3
  have kp3 : XT.Kept s T3 := (XT.Kept.of_eq hh0).push bh3
  have hA3 := hA.keep X3.warmed.alike (kp3 _ _ hA.1.1)
  have hne : b ≠ s.heap.size := hA.1.ne
  have c4 : Steps p.tables e below (s₁.setTop (entryFrame m #[.ref b, .int (Int32.ofNat o), .int (Int32.ofNat len)] 6)) (T3.setTop (mkF m 3 #[.val (.ref b), .val (.int (Int32.ofNat o)), .val (.int (Int32.ofNat len)), .unset, .unset, .unset] [.ref s.heap.size])) := c2.trans (st3 _ (Steps.refl _))
  have c5 : Steps p.tables e below (s₁.setTop (entryFrame m #[.ref b, .int (Int32.ofNat o), .int (Int32.ofNat len)] 6)) (T3.setTop (mkF m 9 #[.val (.ref b), .val (.int (Int32.ofNat o)), .val (.int (Int32.ofNat len)), .val (.ref s.heap.size), .unset, .unset] [.int (Int32.ofNat len), .int 0, .ref s.heap.size, .int (Int32.ofNat o), .ref b])) := c4.trans (by
    refine XS.astoreN X3.here hexec rfl (hb hbytes d3) rfl rfl rfl ?_
    refine XS.aloadN X3.here hexec rfl (hb hbytes d4) rfl rfl ?_
    refine XS.iloadN X3.here hexec rfl (hb hbytes d5) rfl ?_
    refine XS.aloadN X3.here hexec rfl (hb hbytes d6) rfl rfl ?_
    refine iconstV X3.here hexec rfl 0 (hb hbytes d7) (by decide) ?_
    refine XS.iloadN X3.here hexec rfl (hb hbytes d8) rfl ?_
    exact Steps.refl _)
  obtain ⟨v6, T6, X6, E6, g6⟩ := X3.callS hexec (Cmp5.law l b A s.heap.size B3 o 0 len) hown (wks W (staticW U16 115 Cmp5.yN)) (wk W Cmp5.tab) (W := 0) (Nat.le_of_ble_eq_true rfl) (Nat.le_of_ble_eq_true rfl) (Nat.le_refl _) (by show 0 + len + 0 ≤ len; omega) (g := (mkF m 9 #[.val (.ref b), .val (.int (Int32.ofNat o)), .val (.int (Int32.ofNat len)), .val (.ref s.heap.size), .unset, .unset] [.int (Int32.ofNat len), .int (Int32.ofNat 0), .ref s.heap.size, .int (Int32.ofNat o), .ref b])) rfl (by rw [hml]; rfl) c5 (argsL := [.ref b, .int (Int32.ofNat o), .ref s.heap.size, .int (Int32.ofNat 0), .int (Int32.ofNat len)]) (rest := []) rfl rfl (by show 2 * 0 + 0 ≤ _; decide) (hb hbytes d9) (⟨rfl, hA3, ba3, hne, l1, by rw [bs3]; simp, hp⟩)
  obtain ⟨rfl, B6, p6, f6⟩ := E6
  have c7 : Steps p.tables e below (s₁.setTop (entryFrame m #[.ref b, .int (Int32.ofNat o), .int (Int32.ofNat len)] 6)) (T6.setTop (mkF m 12 #[.val (.ref b), .val (.int (Int32.ofNat o)), .val (.int (Int32.ofNat len)), .val (.ref s.heap.size), .unset, .unset] [.int (Int32.ofNat len)])) := g6
  have c8 : Steps p.tables e below (s₁.setTop (entryFrame m #[.ref b, .int (Int32.ofNat o), .int (Int32.ofNat len)] 6)) (T6.setTop (mkF m 58 #[.val (.ref b), .val (.int (Int32.ofNat o)), .val (.int (Int32.ofNat len)), .val (.ref s.heap.size), .val (.int (Int32.ofNat len)), .unset] [.ref s.heap.size])) := c7.trans (by
    refine XS.istore X6.here hexec rfl (hb hbytes d12) rfl rfl ?_
    refine XS.iload X6.here hexec rfl (hb hbytes d14) rfl ?_
    refine XS.iloadN X6.here hexec rfl (hb hbytes d16) rfl ?_
    refine XS.icmpYes X6.here hexec rfl (pc0 := 17) rfl (hb hbytes d17) rfl (ii_eq_t rfl) (by decide) rfl ?_
    refine XS.aloadN X6.here hexec rfl (hb hbytes d57) rfl rfl ?_
    exact Steps.refl _)
  have X8 := X6.wide (L' := []) (cells' := 1) (slots' := len) (fun x hx hlt => by
    simp only [List.nil_append, copyLocs, List.mem_map, List.mem_range] at hx
    obtain ⟨i, -, rfl⟩ := hx
    exact absurd hlt (Nat.lt_irrefl _)) (Nat.le_refl _) (by omega)
  exact ⟨T6, some (.ref s.heap.size), _, _, _, X8, rfl, rfl, rfl, (fun h => by cases h), ⟨⟨rfl, B6, ba3.like (X3.warmed.alike.symm.trans X6.warmed.alike) p6.1 f6.1 f6.2.1 f6.2.2.1, f6.2.1.trans bv3, by rw [X6.warmed.alike.findClass, f6.1]; exact bf3, by rw [f6.2.2.1, bs3]; simp, fun j hj => by rw [f6.2.2.2 j, if_pos (by omega)]; rfl, kp3.put p6 (Nat.le_refl _)⟩, by rw [p6.2.2, bh3, hh0]; simp⟩, fun fs hl => c8.trans (X8.areturnOut hexec rfl hret rfl (hb hbytes d58) hl)⟩
end Cmp3
namespace CodL
def yN : MethodName := ⟨"java/lang/StringUTF16", "coderFromArrayLen", "([BI)B"⟩
abbrev yB : ByteArray := jdk_52_method_15_code
theorem d0 : decode yB 0 = .ok (.iload_n 1, 1) := by decide +kernel
theorem d1 : decode yB 1 = .ok (.aload_n 0, 1) := by decide +kernel
theorem d2 : decode yB 2 = .ok (.arraylength, 1) := by decide +kernel
theorem d3 : decode yB 3 = .ok (.isub, 1) := by decide +kernel
theorem d4 : decode yB 4 = .ok (.bipush 31, 2) := by decide +kernel
theorem d6 : decode yB 6 = .ok (.iushr, 1) := by decide +kernel
theorem d7 : decode yB 7 = .ok (.i2b, 1) := by decide +kernel
theorem d8 : decode yB 8 = .ok (.ireturn, 1) := by decide +kernel
def site : List Cond := []
def tab : Cond := tabOf yN yB 2 (some .byte) site
def P (d : Addr) (B : Cell) (args : Array Value) (s : State) : Prop := args = #[.ref d, .int (Int32.ofNat B.slots.size)] ∧ Arr .byte d B s
def E (r : Option Value) (s u : State) : Prop := XT.PureE (some (.int 0)) r s u
theorem law (l : Launch) (d : Addr) (B : Cell) : Law l yN 2 2 0 0 yB 2 (some .byte) site (P d B) E [] 0 0 := by
  refine Law.of_walk (plainFor_of_name (by decide +kernel)) (by decide +kernel) (by decide +kernel) (by decide) (fun _ _ h => by rw [h.1]; rfl) (fun _ U U' hal hh h => ⟨h.1, h.2.mv hal hh⟩) (fun r U U' V V' h1 hal h2 h => XT.PureE.mv r U U' V V' h1 hal h2 h) ?_
  intro p e s m args below meth c s₁ X0 hexec hbytes hml hret hlk hnm hown hh0 W hP
  obtain ⟨rfl, hB⟩ := hP
  have hB0 := hB.mv X0.warmed.alike hh0
  have c1 : Steps p.tables e below (s₁.setTop (entryFrame m #[.ref d, .int (Int32.ofNat B.slots.size)] 2)) (s₁.setTop (mkF m 0 #[.val (.ref d), .val (.int (Int32.ofNat B.slots.size))] [])) := entry rfl
  have c2 : Steps p.tables e below (s₁.setTop (entryFrame m #[.ref d, .int (Int32.ofNat B.slots.size)] 2)) (s₁.setTop (mkF m 2 #[.val (.ref d), .val (.int (Int32.ofNat B.slots.size))] [.ref d, .int (Int32.ofNat B.slots.size)])) := c1.trans (by
    refine XS.iloadN X0.here hexec rfl (hb hbytes d0) rfl ?_
    refine XS.aloadN X0.here hexec rfl (hb hbytes d1) rfl rfl ?_
    exact Steps.refl _)
  have c3 : Steps p.tables e below (s₁.setTop (entryFrame m #[.ref d, .int (Int32.ofNat B.slots.size)] 2)) (s₁.setTop (mkF m 8 #[.val (.ref d), .val (.int (Int32.ofNat B.slots.size))] [.int (lo8 (ushr (Int32.ofNat B.slots.size - Int32.ofNat B.slots.size) 31))])) := c2.trans (by
    refine X0.alen hexec hB0 rfl rfl (hb hbytes d2) ?_
    refine XS.isub X0.here hexec rfl (hb hbytes d3) rfl ?_
    refine bipushV X0.here hexec rfl 31 (hb hbytes d4) (by decide) ?_
    refine iushr X0.here hexec rfl (hb hbytes d6) rfl ?_
    refine i2b X0.here hexec rfl (hb hbytes d7) rfl ?_
    exact Steps.refl _)
  have e0 : lo8 (ushr (Int32.ofNat B.slots.size - Int32.ofNat B.slots.size) 31) = 0 := by rw [Int32.sub_self]; decide
  rw [e0] at c3
  exact ⟨s₁, some (.int 0), _, _, _, X0, rfl, rfl, rfl, (fun h => by cases h), ⟨rfl, hh0⟩, fun fs hl => c3.trans (X0.ireturnOut hexec hret rfl (Or.inr (Or.inr (Or.inl rfl))) (hb hbytes d8) hl)⟩
end CodL
def Got (a : Addr) (D : Cell) (fV fC : Field) (A : Cell) (o len : Nat) (r : Option Value) (s u : State) : Prop := r = none ∧ ∃ D' V : Cell, Blank "java/lang/String" a D' u ∧ Same D D' [fV.slot, fC.slot] ∧ D'.slots[fV.slot]? = some (.ref s.heap.size) ∧ D'.slots[fC.slot]? = some (.int 0) ∧ Arr .byte s.heap.size V u ∧ V.vm = .none ∧ u.vm.findClass "[B" = some V.cls ∧ V.slots.size = len ∧ (∀ j, j < len → V.slots[j]? = some (.int (lo8 (cv A (o + j))))) ∧ (∀ (y : Addr) (c : Cell), y ≠ a → s.heap[y]? = some c → u.heap[y]? = some c) ∧ u.heap.size = s.heap.size + 1
theorem Got.mv {a : Addr} {D A : Cell} {fV fC : Field} {o len : Nat} : ∀ r (U U' V V' : State), U'.heap = U.heap → V.vm.Alike V'.vm → V'.heap = V.heap → Got a D fV fC A o len r U V → Got a D fV fC A o len r U' V' :=
  fun r U U' V V' h1 hal h2 ⟨e0, D', X, a1, a2, a3, a4, a5, a6, a7, a8, a9, a10, a11⟩ => ⟨e0, D', X, a1.mv hal h2, a2, by rw [h1]; exact a3, a4, by rw [h1]; exact a5.mv hal h2, a6, by rw [hal.findClass]; exact a7, a8, a9, by rw [h1, h2]; exact a10, by rw [h1, h2]; exact a11⟩
namespace New4
def yN : MethodName := ⟨"java/lang/String", "<init>", "([CIILjava/lang/Void;)V"⟩
abbrev yB : ByteArray := jdk_42_method_149_code
theorem d0 : decode yB 0 = .ok (.aload_n 0, 1) := by decide +kernel
theorem d1 : decode yB 1 = .ok (.invokespecial 1, 3) := by decide +kernel
theorem d4 : decode yB 4 = .ok (.iload_n 3, 1) := by decide +kernel
theorem d5 : decode yB 5 = .ok (.ifCond (.ne) 22, 3) := by decide +kernel
theorem d27 : decode yB 27 = .ok (.getstatic 38, 3) := by decide +kernel
theorem d30 : decode yB 30 = .ok (.ifCond (.eq) 28, 3) := by decide +kernel
theorem d33 : decode yB 33 = .ok (.aload_n 1, 1) := by decide +kernel
theorem d34 : decode yB 34 = .ok (.iload_n 2, 1) := by decide +kernel
theorem d35 : decode yB 35 = .ok (.iload_n 3, 1) := by decide +kernel
theorem d36 : decode yB 36 = .ok (.invokestatic 177, 3) := by decide +kernel
theorem d39 : decode yB 39 = .ok (.astore 5, 2) := by decide +kernel
theorem d41 : decode yB 41 = .ok (.aload_n 0, 1) := by decide +kernel
theorem d42 : decode yB 42 = .ok (.aload 5, 2) := by decide +kernel
theorem d44 : decode yB 44 = .ok (.iload_n 3, 1) := by decide +kernel
theorem d45 : decode yB 45 = .ok (.invokestatic 47, 3) := by decide +kernel
theorem d48 : decode yB 48 = .ok (.putfield 15, 3) := by decide +kernel
theorem d51 : decode yB 51 = .ok (.aload_n 0, 1) := by decide +kernel
theorem d52 : decode yB 52 = .ok (.aload 5, 2) := by decide +kernel
theorem d54 : decode yB 54 = .ok (.putfield 9, 3) := by decide +kernel
theorem d57 : decode yB 57 = .ok (.return_, 1) := by decide +kernel
def site : List Cond := [.fieldLink "java/lang/String" 38 "java/lang/String" "COMPACT_STRINGS" "Z", Cmp3.tab, CodL.tab, .laysFinal "java/lang/String" "java/lang/String" "value" "[B", .fieldLink "java/lang/String" 9 "java/lang/String" "value" "[B", .laysFinal "java/lang/String" "java/lang/String" "coder" "B", .fieldLink "java/lang/String" 15 "java/lang/String" "coder" "B"] ++ objW "java/lang/String" 1 ++ staticW "java/lang/String" 177 Cmp3.yN ++ staticW "java/lang/String" 47 CodL.yN
def tab : Cond := tabOf yN yB 6 none site
def P (a : Addr) (D : Cell) (fV fC : Field) (b : Addr) (A : Cell) (z : Int32) (o len : Nat) (args : Array Value) (s : State) : Prop := args = #[.ref a, .ref b, .int (Int32.ofNat o), .int (Int32.ofNat len), .null] ∧ Blank "java/lang/String" a D s ∧ Found "java/lang/String" "value" "[B" fV s ∧ Found "java/lang/String" "coder" "B" fC s ∧ Ch b A s ∧ StaticIs s "java/lang/String" "COMPACT_STRINGS" "Z" (.int z) ∧ ¬ z = 0 ∧ 0 < len ∧ o + len ≤ A.slots.size ∧ len ≤ 536870912 ∧ ∀ i, i < len → ¬ 255 < cv A (o + i)
def E (a : Addr) (D : Cell) (fV fC : Field) (A : Cell) (o len : Nat) (r : Option Value) (s u : State) : Prop := Got a D fV fC A o len r s u
theorem law (l : Launch) (a : Addr) (D : Cell) (fV fC : Field) (b : Addr) (A : Cell) (z : Int32) (o len : Nat) : Law l yN 5 4 2 35 yB 6 none site (P a D fV fC b A z o len) (E a D fV fC A o len) [⟨a, fC.slot⟩, ⟨a, fV.slot⟩] 1 len := by
  refine Law.of_walk (plainFor_of_name (by decide +kernel)) (by decide +kernel) (by decide +kernel) (by decide) (fun _ _ h => by rw [h.1]; rfl) (fun _ U U' hal hh h => ⟨h.1, h.2.1.mv hal hh, h.2.2.1.al hal, h.2.2.2.1.al hal, h.2.2.2.2.1.mv hal hh, h.2.2.2.2.2.1.there hal hh, h.2.2.2.2.2.2⟩) (fun r U U' V V' h1 hal h2 h => Got.mv r U U' V V' h1 hal h2 h) ?_
  intro p e s m args below meth c s₁ X0 hexec hbytes hml hret hlk hnm hown hh0 W hP
  obtain ⟨rfl, hB, f1, f2, hA, s1, hz, l0, l1, l2, hp⟩ := hP
  have a31 := hA.1.2.2.2
  have c1 : Steps p.tables e below (s₁.setTop (entryFrame m #[.ref a, .ref b, .int (Int32.ofNat o), .int (Int32.ofNat len), .null] 6)) (s₁.setTop (mkF m 0 #[.val (.ref a), .val (.ref b), .val (.int (Int32.ofNat o)), .val (.int (Int32.ofNat len)), .val .null, .unset] [])) := entry rfl
  have c2 : Steps p.tables e below (s₁.setTop (entryFrame m #[.ref a, .ref b, .int (Int32.ofNat o), .int (Int32.ofNat len), .null] 6)) (s₁.setTop (mkF m 1 #[.val (.ref a), .val (.ref b), .val (.int (Int32.ofNat o)), .val (.int (Int32.ofNat len)), .val .null, .unset] [.ref a])) := c1.trans (by
    refine XS.aloadN X0.here hexec rfl (hb hbytes d0) rfl rfl ?_
    exact Steps.refl _)
  obtain ⟨T3, X3, q3, st3⟩ := X0.oinit hexec hown (wks W (objW "java/lang/String" 1)) (g := (mkF m 1 #[.val (.ref a), .val (.ref b), .val (.int (Int32.ofNat o)), .val (.int (Int32.ofNat len)), .val .null, .unset] [.ref a])) rfl (by rw [hml]; rfl) (rest := []) rfl (hb hbytes d1) (W := 0) (by show 2 * 0 + 0 ≤ _; decide) (Nat.le_of_ble_eq_true rfl) (Nat.le_of_ble_eq_true rfl)
  have hh3 := q3.trans hh0
  have c4 : Steps p.tables e below (s₁.setTop (entryFrame m #[.ref a, .ref b, .int (Int32.ofNat o), .int (Int32.ofNat len), .null] 6)) (T3.setTop (mkF m 27 #[.val (.ref a), .val (.ref b), .val (.int (Int32.ofNat o)), .val (.int (Int32.ofNat len)), .val .null, .unset] [])) := (c2.trans (st3 _ (Steps.refl _))).trans (by
    refine XS.iloadN X3.here hexec rfl (hb hbytes d4) rfl ?_
    refine XS.ifYes X3.here hexec rfl (pc0 := 5) rfl (hb hbytes d5) rfl (i0_ne_t (nz32 (by omega) l0)) (by decide) rfl ?_
    exact Steps.refl _)
  obtain ⟨T5, X5, q5, st5⟩ := X3.sget hexec hown (wk W (.fieldLink "java/lang/String" 38 "java/lang/String" "COMPACT_STRINGS" "Z")) s1 (fun _ _ h => by rw [hh3]; exact h) (g := (mkF m 27 #[.val (.ref a), .val (.ref b), .val (.int (Int32.ofNat o)), .val (.int (Int32.ofNat len)), .val .null, .unset] [])) rfl (hb hbytes d27)
  have hh5 := q5.trans hh3
  have c6 : Steps p.tables e below (s₁.setTop (entryFrame m #[.ref a, .ref b, .int (Int32.ofNat o), .int (Int32.ofNat len), .null] 6)) (T5.setTop (mkF m 30 #[.val (.ref a), .val (.ref b), .val (.int (Int32.ofNat o)), .val (.int (Int32.ofNat len)), .val .null, .unset] [.int z])) := c4.trans (st5 _ (Steps.refl _))
  have c7 : Steps p.tables e below (s₁.setTop (entryFrame m #[.ref a, .ref b, .int (Int32.ofNat o), .int (Int32.ofNat len), .null] 6)) (T5.setTop (mkF m 36 #[.val (.ref a), .val (.ref b), .val (.int (Int32.ofNat o)), .val (.int (Int32.ofNat len)), .val .null, .unset] [.int (Int32.ofNat len), .int (Int32.ofNat o), .ref b])) := c6.trans (by
    refine XS.ifNo X5.here hexec rfl (hb hbytes d30) rfl (i0_eq_f hz) ?_
    refine XS.aloadN X5.here hexec rfl (hb hbytes d33) rfl rfl ?_
    refine XS.iloadN X5.here hexec rfl (hb hbytes d34) rfl ?_
    refine XS.iloadN X5.here hexec rfl (hb hbytes d35) rfl ?_
    exact Steps.refl _)
  obtain ⟨v8, T8, X8, E8, g8⟩ := X5.callS hexec (Cmp3.law l b A o len) hown (wks W (staticW "java/lang/String" 177 Cmp3.yN)) (wk W Cmp3.tab) (W := 0) (Nat.le_of_ble_eq_true rfl) (Nat.le_of_ble_eq_true rfl) (Nat.le_refl _) (by show 0 + len ≤ len; omega) (g := (mkF m 36 #[.val (.ref a), .val (.ref b), .val (.int (Int32.ofNat o)), .val (.int (Int32.ofNat len)), .val .null, .unset] [.int (Int32.ofNat len), .int (Int32.ofNat o), .ref b])) rfl (by rw [hml]; rfl) c7 (argsL := [.ref b, .int (Int32.ofNat o), .int (Int32.ofNat len)]) (rest := []) rfl rfl (by show 2 * 0 + 0 ≤ _; decide) (hb hbytes d36) (⟨rfl, hA.mv X5.warmed.alike hh5, l1, l2, hp⟩)
  obtain ⟨e8, z8⟩ := E8
  obtain ⟨rfl, N, n1, n2, n3, n4, n5, n6⟩ := NewArr.mv _ T5 s _ _ hh5.symm (Vm.Alike.refl _) rfl e8
  rw [hh5] at z8
  have hB1 := hB.keep X8.warmed.alike (n6 _ _ hB.1)
  have hne : s.heap.size ≠ a := (Nat.ne_of_lt (Array.getElem?_eq_some_iff.mp hB.1).1).symm
  have c9 : Steps p.tables e below (s₁.setTop (entryFrame m #[.ref a, .ref b, .int (Int32.ofNat o), .int (Int32.ofNat len), .null] 6)) (T8.setTop (mkF m 39 #[.val (.ref a), .val (.ref b), .val (.int (Int32.ofNat o)), .val (.int (Int32.ofNat len)), .val .null, .unset] [.ref s.heap.size])) := g8
  have c10 : Steps p.tables e below (s₁.setTop (entryFrame m #[.ref a, .ref b, .int (Int32.ofNat o), .int (Int32.ofNat len), .null] 6)) (T8.setTop (mkF m 45 #[.val (.ref a), .val (.ref b), .val (.int (Int32.ofNat o)), .val (.int (Int32.ofNat len)), .val .null, .val (.ref s.heap.size)] [.int (Int32.ofNat N.slots.size), .ref s.heap.size, .ref a])) := by
    have hc : Steps p.tables e below (s₁.setTop (entryFrame m #[.ref a, .ref b, .int (Int32.ofNat o), .int (Int32.ofNat len), .null] 6)) (T8.setTop (mkF m 45 #[.val (.ref a), .val (.ref b), .val (.int (Int32.ofNat o)), .val (.int (Int32.ofNat len)), .val .null, .val (.ref s.heap.size)] [.int (Int32.ofNat len), .ref s.heap.size, .ref a])) := c9.trans (by
      refine XS.astore X8.here hexec rfl (hb hbytes d39) rfl rfl rfl ?_
      refine XS.aloadN X8.here hexec rfl (hb hbytes d41) rfl rfl ?_
      refine XS.aload X8.here hexec rfl (hb hbytes d42) rfl rfl ?_
      refine XS.iloadN X8.here hexec rfl (hb hbytes d44) rfl ?_
      exact Steps.refl _)
    rw [n4]; exact hc
  obtain ⟨v11, T11, X11, E11, g11⟩ := X8.callS hexec (CodL.law l s.heap.size N) hown (wks W (staticW "java/lang/String" 47 CodL.yN)) (wk W CodL.tab) (W := 1) (Nat.le_of_ble_eq_true rfl) (Nat.le_of_ble_eq_true rfl) (Nat.le_refl _) (by show 0 + len + 0 ≤ len; omega) (g := (mkF m 45 #[.val (.ref a), .val (.ref b), .val (.int (Int32.ofNat o)), .val (.int (Int32.ofNat len)), .val .null, .val (.ref s.heap.size)] [.int (Int32.ofNat N.slots.size), .ref s.heap.size, .ref a])) rfl (by rw [hml]; rfl) c10 (argsL := [.ref s.heap.size, .int (Int32.ofNat N.slots.size)]) (rest := [.ref a]) rfl rfl (by show 2 * 0 + (1 + 0) ≤ _; decide) (hb hbytes d45) (⟨rfl, n1⟩)
  obtain ⟨rfl, q11⟩ := E11
  have hB11 := hB1.mv (X8.warmed.alike.symm.trans X11.warmed.alike) q11
  have c12 : Steps p.tables e below (s₁.setTop (entryFrame m #[.ref a, .ref b, .int (Int32.ofNat o), .int (Int32.ofNat len), .null] 6)) (T11.setTop (mkF m 48 #[.val (.ref a), .val (.ref b), .val (.int (Int32.ofNat o)), .val (.int (Int32.ofNat len)), .val .null, .val (.ref s.heap.size)] [.int 0, .ref a])) := g11
  obtain ⟨T13, X13, p13, bl13, sl13, st13⟩ := X11.finit hexec hown (wk W (.fieldLink "java/lang/String" 15 "java/lang/String" "coder" "B")) (Or.inr ⟨_, (wk W (.laysFinal "java/lang/String" "java/lang/String" "coder" "B"))⟩) (Or.inl ⟨rfl, hnm⟩) f2 (Or.inl rfl) hB11 (t := .byte) (by decide +kernel) rfl (g := (mkF m 48 #[.val (.ref a), .val (.ref b), .val (.int (Int32.ofNat o)), .val (.int (Int32.ofNat len)), .val .null, .val (.ref s.heap.size)] [.int 0, .ref a])) rfl (rest := []) rfl (hb hbytes d48)
  have c14 : Steps p.tables e below (s₁.setTop (entryFrame m #[.ref a, .ref b, .int (Int32.ofNat o), .int (Int32.ofNat len), .null] 6)) (T13.setTop (mkF m 54 #[.val (.ref a), .val (.ref b), .val (.int (Int32.ofNat o)), .val (.int (Int32.ofNat len)), .val .null, .val (.ref s.heap.size)] [.ref s.heap.size, .ref a])) := (c12.trans (st13 _ (Steps.refl _))).trans (by
    refine XS.aloadN X13.here hexec rfl (hb hbytes d51) rfl rfl ?_
    refine XS.aload X13.here hexec rfl (hb hbytes d52) rfl rfl ?_
    exact Steps.refl _)
  obtain ⟨T15, X15, p15, bl15, sl15, st15⟩ := X13.finit hexec hown (wk W (.fieldLink "java/lang/String" 9 "java/lang/String" "value" "[B")) (Or.inr ⟨_, (wk W (.laysFinal "java/lang/String" "java/lang/String" "value" "[B"))⟩) (Or.inl ⟨rfl, hnm⟩) f1 (Or.inl rfl) bl13 (t := (.array .byte)) (by decide +kernel) rfl (g := (mkF m 54 #[.val (.ref a), .val (.ref b), .val (.int (Int32.ofNat o)), .val (.int (Int32.ofNat len)), .val .null, .val (.ref s.heap.size)] [.ref s.heap.size, .ref a])) rfl (rest := []) rfl (hb hbytes d54)
  have c16 : Steps p.tables e below (s₁.setTop (entryFrame m #[.ref a, .ref b, .int (Int32.ofNat o), .int (Int32.ofNat len), .null] 6)) (T15.setTop (mkF m 57 #[.val (.ref a), .val (.ref b), .val (.int (Int32.ofNat o)), .val (.int (Int32.ofNat len)), .val .null, .val (.ref s.heap.size)] [])) := c14.trans (st15 _ (Steps.refl _))
  have ap := apart (Or.inr ⟨_, (wk W (.laysFinal "java/lang/String" "java/lang/String" "value" "[B"))⟩) (Or.inr ⟨_, (wk W (.laysFinal "java/lang/String" "java/lang/String" "coder" "B"))⟩) f1 f2 (t₁ := .array .byte) (t₂ := .byte) (by decide +kernel) (by decide +kernel) (by decide)
  have al := X8.warmed.alike.symm.trans X15.warmed.alike
  have n7 : T11.heap[s.heap.size]? = some N := by rw [q11]; exact n1.1
  exact ⟨T15, none, _, _, _, X15, by simp, rfl, by omega, (fun _ => rfl), ⟨rfl, _, N, bl15, ((Same.refl D _).set _ (by simp)).set _ (by simp), sl15, (Cell.slots_setSlot_ne _ ap).trans sl13, n1.keep al (p15.other hne (p13.other hne n7)), n2, by rw [al.findClass]; exact n3, n4, n5, fun y c h1 h2 => p15.other h1 (p13.other h1 (by rw [q11]; exact n6 y c h2)), by rw [p15.2.2, p13.2.2, q11]; exact z8⟩, fun fs hl => c16.trans (X15.returnOut hexec hret (hb hbytes d57) hl)⟩
end New4
namespace New1
def yN : MethodName := ⟨"java/lang/String", "<init>", "([C)V"⟩
abbrev yB : ByteArray := jdk_42_method_3_code
theorem d0 : decode yB 0 = .ok (.aload_n 0, 1) := by decide +kernel
theorem d1 : decode yB 1 = .ok (.aload_n 1, 1) := by decide +kernel
theorem d2 : decode yB 2 = .ok (.iconst 0, 1) := by decide +kernel
theorem d3 : decode yB 3 = .ok (.aload_n 1, 1) := by decide +kernel
theorem d4 : decode yB 4 = .ok (.arraylength, 1) := by decide +kernel
theorem d5 : decode yB 5 = .ok (.aconst_null, 1) := by decide +kernel
theorem d6 : decode yB 6 = .ok (.invokespecial 27, 3) := by decide +kernel
theorem d9 : decode yB 9 = .ok (.return_, 1) := by decide +kernel
def site : List Cond := [New4.tab] ++ initW "java/lang/String" 27 New4.yN
def tab : Cond := tabOf yN yB 2 none site
def P (a : Addr) (D : Cell) (fV fC : Field) (b : Addr) (A : Cell) (z : Int32) (args : Array Value) (s : State) : Prop := args = #[.ref a, .ref b] ∧ Blank "java/lang/String" a D s ∧ Found "java/lang/String" "value" "[B" fV s ∧ Found "java/lang/String" "coder" "B" fC s ∧ Ch b A s ∧ StaticIs s "java/lang/String" "COMPACT_STRINGS" "Z" (.int z) ∧ ¬ z = 0 ∧ 0 < A.slots.size ∧ A.slots.size ≤ 536870912 ∧ ∀ i, i < A.slots.size → ¬ 255 < cv A i
def E (a : Addr) (D : Cell) (fV fC : Field) (A : Cell) (r : Option Value) (s u : State) : Prop := Got a D fV fC A 0 A.slots.size r s u
theorem law (l : Launch) (a : Addr) (D : Cell) (fV fC : Field) (b : Addr) (A : Cell) (z : Int32) : Law l yN 2 1 3 52 yB 2 none site (P a D fV fC b A z) (E a D fV fC A) [⟨a, fC.slot⟩, ⟨a, fV.slot⟩] 1 A.slots.size := by
  refine Law.of_walk (plainFor_of_name (by decide +kernel)) (by decide +kernel) (by decide +kernel) (by decide) (fun _ _ h => by rw [h.1]; rfl) (fun _ U U' hal hh h => ⟨h.1, h.2.1.mv hal hh, h.2.2.1.al hal, h.2.2.2.1.al hal, h.2.2.2.2.1.mv hal hh, h.2.2.2.2.2.1.there hal hh, h.2.2.2.2.2.2⟩) (fun r U U' V V' h1 hal h2 h => Got.mv r U U' V V' h1 hal h2 h) ?_
  intro p e s m args below meth c s₁ X0 hexec hbytes hml hret hlk hnm hown hh0 W hP
  obtain ⟨rfl, hB, f1, f2, hA, s1, hz, l0, l2, hp⟩ := hP
  have c1 : Steps p.tables e below (s₁.setTop (entryFrame m #[.ref a, .ref b] 2)) (s₁.setTop (mkF m 0 #[.val (.ref a), .val (.ref b)] [])) := entry rfl
  have c2 : Steps p.tables e below (s₁.setTop (entryFrame m #[.ref a, .ref b] 2)) (s₁.setTop (mkF m 6 #[.val (.ref a), .val (.ref b)] [.null, .int (Int32.ofNat A.slots.size), .int 0, .ref b, .ref a])) := c1.trans (by
    refine XS.aloadN X0.here hexec rfl (hb hbytes d0) rfl rfl ?_
    refine XS.aloadN X0.here hexec rfl (hb hbytes d1) rfl rfl ?_
    refine iconstV X0.here hexec rfl 0 (hb hbytes d2) (by decide) ?_
    refine XS.aloadN X0.here hexec rfl (hb hbytes d3) rfl rfl ?_
    refine X0.alen hexec (hA.1.mv X0.warmed.alike hh0) rfl rfl (hb hbytes d4) ?_
    refine XS.aconstNull X0.here hexec rfl (hb hbytes d5) ?_
    exact Steps.refl _)
  obtain ⟨v3, T3, X3, E3, g3⟩ := X0.callN hexec (New4.law l a D fV fC b A z 0 A.slots.size) rfl hown (wks W (initW "java/lang/String" 27 New4.yN)) (W New4.tab (by simp only [site, List.mem_cons, List.mem_append, true_or, or_true])) (W := 0) (Nat.le_of_ble_eq_true rfl) (Nat.le_of_ble_eq_true rfl) (Nat.le_refl _) (by show 0 + A.slots.size ≤ A.slots.size; omega) (g := (mkF m 6 #[.val (.ref a), .val (.ref b)] [.null, .int (Int32.ofNat A.slots.size), .int (Int32.ofNat 0), .ref b, .ref a])) rfl (by rw [hml]; rfl) c2 (argsL := [.ref b, .int (Int32.ofNat 0), .int (Int32.ofNat A.slots.size), .null]) (rest := []) rfl rfl (by show 2 * 0 + 0 ≤ _; decide) (hb hbytes d6) (⟨rfl, hB.mv X0.warmed.alike hh0, f1.al X0.warmed.alike, f2.al X0.warmed.alike, hA.mv X0.warmed.alike hh0, s1.there X0.warmed.alike hh0, hz, l0, by omega, l2, fun i hi => by rw [Nat.zero_add]; exact hp i hi⟩)
  have e0 := Got.mv _ s₁ s _ _ hh0.symm (Vm.Alike.refl _) rfl E3
  obtain rfl := e0.1
  have c4 : Steps p.tables e below (s₁.setTop (entryFrame m #[.ref a, .ref b] 2)) (T3.setTop (mkF m 9 #[.val (.ref a), .val (.ref b)] [])) := g3
  exact ⟨T3, none, _, _, _, X3, by simp, rfl, by omega, (fun _ => rfl), e0, fun fs hl => c4.trans (X3.returnOut hexec hret (hb hbytes d9) hl)⟩
theorem pays {l : Launch} {R : Room} {p : Program} {e : Env} {below : List Frame} {s : State} {sargs : Array Value} {len W : Nat} (a : Addr) (D : Cell) (fV fC : Field) (b : Addr) (A : Cell) (z : Int32) (htab : tab.before sargs s = true) (hfr : 4 ≤ R.frames) (hlo : W + 65 ≤ R.locals) :
    Back l R p e below s sargs yN len W (fun A₁ a₁ => A₁.cells + 1 ≤ R.cells ∧ A₁.slots + A.slots.size ≤ R.slots ∧ P a D fV fC b A z a₁ A₁.U) (fun A₁ _ v₁ B₁ => E a D fV fC A v₁ A₁.U B₁.U ∧ B₁.locs = A₁.locs ++ [⟨a, fC.slot⟩, ⟨a, fV.slot⟩] ∧ B₁.cells = A₁.cells + 1 ∧ B₁.slots = A₁.slots + A.slots.size) :=
  (law l a D fV fC b A z).pays htab hfr (by omega)
end New1
theorem lo8_mask {x : Int32} (h0 : ¬ x < 0) (h1 : ¬ 255 < x) : lo8 x &&& 255 = x := by
  have t : ∀ k : Fin 256, lo8 (Int32.ofNat k.val) &&& 255 = Int32.ofNat k.val := by decide +kernel
  rw [Int32.lt_iff_toInt_lt] at h0 h1
  have e0 : (0 : Int32).toInt = 0 := rfl
  have e1 : (255 : Int32).toInt = 255 := rfl
  obtain ⟨k, hk⟩ : ∃ k : Nat, x.toInt = k := ⟨x.toInt.toNat, by omega⟩
  have hx : x = Int32.ofNat k := Int32.toInt_inj.mp (by rw [hk, Int32.toInt_ofNat_small (by omega)])
  rw [hx]
  exact t ⟨k, by omega⟩
end StrChars
namespace StrChars.Road
open Jvm Sem ClassFile Op Lib Jvm.Stand Jvm.Free Jvm.Free.XT
open Jvm.Lib.Cold (StaticIs)
abbrev ST : String := "java/lang/String"
abbrev words : List Jvm.Cond := [.code New1.yN New1.yB 2 none, .initialized ST, .methodLink ST 27 New4.yN, .instanceMethod New4.yN,
  .code New4.yN New4.yB 6 none, .fieldLink ST 38 ST "COMPACT_STRINGS" "Z", .laysFinal ST ST "value" "[B", .fieldLink ST 9 ST "value" "[B", .laysFinal ST ST "coder" "B", .fieldLink ST 15 ST "coder" "B",
  .methodLink ST 1 Lib.objectInit, .instanceMethod Lib.objectInit, .code Lib.objectInit ⟨#[0xb1]⟩ 1 none, .methodLink ST 177 Cmp3.yN, .static Cmp3.yN, .methodLink ST 47 CodL.yN, .static CodL.yN,
  .code Cmp3.yN Cmp3.yB 6 (some (.array .byte)), .initialized U16, .arrayClass .byte, .methodLink U16 115 Cmp5.yN, .static Cmp5.yN, .code Cmp5.yN Cmp5.yB 7 (some .int), .code CodL.yN CodL.yB 2 (some .byte)]
theorem tab_of {a : Array Value} {s : State} (h : ∀ w ∈ words, w.before a s = true) : New1.tab.before a s = true := by
  have h5 : Cmp5.tab.before a s = true := unparts (wk h (.code Cmp5.yN Cmp5.yB 7 (some .int))) (wks h (.initialized Cmp5.yN.cls :: Cmp5.site))
  have hc : CodL.tab.before a s = true := unparts (wk h (.code CodL.yN CodL.yB 2 (some .byte))) (wks h (.initialized CodL.yN.cls :: CodL.site))
  have q5 : ∀ w ∈ Cmp5.tab :: words, w.before a s = true := fun w hw => (List.mem_cons.mp hw).elim (fun e => e ▸ h5) (h w)
  have h3 : Cmp3.tab.before a s = true := unparts (wk q5 (.code Cmp3.yN Cmp3.yB 6 (some (.array .byte)))) (wks q5 (.initialized Cmp3.yN.cls :: Cmp3.site))
  have q3 : ∀ w ∈ Cmp3.tab :: CodL.tab :: words, w.before a s = true := fun w hw => (List.mem_cons.mp hw).elim (fun e => e ▸ h3) fun hw => (List.mem_cons.mp hw).elim (fun e => e ▸ hc) (h w)
  have h4 : New4.tab.before a s = true := unparts (wk q3 (.code New4.yN New4.yB 6 none)) (wks q3 (.initialized New4.yN.cls :: New4.site))
  have q4 : ∀ w ∈ New4.tab :: words, w.before a s = true := fun w hw => (List.mem_cons.mp hw).elim (fun e => e ▸ h4) (h w)
  exact unparts (wk q4 (.code New1.yN New1.yB 2 none)) (wks q4 (.initialized New1.yN.cls :: New1.site))
theorem moved {Z s : State} {a0 args : Array Value} (hZ : Z.Warmed39 s.vm) (hw : ∀ d ∈ words, d.before a0 Z = true) : ∀ d ∈ words, d.before args s = true := fun d hd => by
  have q := hw d hd
  have t : ∀ d ∈ words, d = .arrayClass .byte ∨ (d.onTables && d.keepsFace) = true := by decide +kernel
  rcases t d hd with rfl | t
  · exact RoadKit.mvA hZ q
  · exact RoadKit.mv hZ q t
def Q (Z : State) (x : Addr) (A : Cell) (h : Heap) (v : Option Value) (h' : Heap) (L : List Loc) : Prop := v = none ∧ (∀ y ∈ L, y.base = x) ∧ RoadKit.Keep h h' [x] ∧ h'.size = h.size + 1 ∧ RoadKit.Exa Z h' x ST ∧ RoadKit.Fld Z h' x ST "value" "[B" (.ref h.size) ∧ RoadKit.Fld Z h' x ST "coder" "B" (.int 0) ∧
  (∃ V : Cell, RoadKit.Arr Z h' h.size V .byte ∧ V.vm = .none ∧ Z.vm.findClass "[B" = some V.cls ∧ V.slots.size = A.slots.size ∧ ∀ j, j < A.slots.size → V.slots[j]? = some (.int (lo8 (cv A j)))) ∧
  ∀ (O n d : String) (w : Value), RoadKit.Fld Z h x O n d w → RoadKit.slotOf Z O n d ≠ RoadKit.slotOf Z ST "value" "[B" → RoadKit.slotOf Z O n d ≠ RoadKit.slotOf Z ST "coder" "B" → RoadKit.Fld Z h' x O n d w
theorem back {p : Program} {l : Launch} {e : Env} {R : Room} {s : State} {args : Array Value} {below : List Frame} {len W : Nat} {Z : State} {a0 : Array Value} {h : Heap} (hZ : Z.Warmed39 s.vm) (hw : ∀ d ∈ words, d.before a0 Z = true) {kI : Nat} (wi : (Jvm.Cond.instantiable ST kI).before a0 Z = true)
    {x b : Addr} {A : Cell} {z : Int32} {v0 c0 : Value} (E : RoadKit.Exa Z h x ST) (V : RoadKit.Fld Z h x ST "value" "[B" v0) (C : RoadKit.Fld Z h x ST "coder" "B" c0) (K : RoadKit.Arr Z h b A .char) (hty : Typed .char A) (S : RoadKit.Sta Z h ST "COMPACT_STRINGS" "Z" (.int z)) (hz : ¬ z = 0)
    (l0 : 0 < A.slots.size) (l2 : A.slots.size ≤ 536870912) (hp : ∀ i, i < A.slots.size → ¬ 255 < cv A i) (hfr : 4 ≤ R.frames) (hlo : W + 65 ≤ R.locals) :
    Back l R p e below s args New1.yN len W (fun P a => a = #[.ref x, .ref b] ∧ P.U.heap = h ∧ P.cells + 1 ≤ R.cells ∧ P.slots + A.slots.size ≤ R.slots)
      (fun P _ v B => ∃ L, Q Z x A h v B.U.heap L ∧ B.locs = P.locs ++ L ∧ B.cells = P.cells + 1 ∧ B.slots = P.slots + A.slots.size) := by
  intro m meth c P g ig mk a X hg hsize hdg hW hn hp'
  obtain ⟨rfl, rfl, r1, r2⟩ := hp'
  have al : Z.vm.Alike P.U.vm := hZ.alike.trans X.warmed.alike
  obtain ⟨D, cfV, kV, iV, fV, hD, gV, stV, knV, obV, asV, slV⟩ := id V
  obtain ⟨D', cfC, kC, iC, fC, hD', gC, stC, -, -, asC, slC⟩ := id C
  cases hD.symm.trans hD'
  obtain ⟨D2, kD, e1, e2, e3, e4, e5⟩ := id E
  cases hD.symm.trans e1
  obtain ⟨c2, k2, i1, i2, i3, -⟩ := Cond.instantiable_spec wi
  cases e2.symm.trans i1
  cases e3.symm.trans i2
  obtain ⟨kU, u1, u2⟩ := al.2.2 _ _ e3
  have hB : Blank ST x D P.U := ⟨hD, ⟨knV, fun q hq => by rw [hq] at obV; cases obV⟩, by rw [al.findClass]; exact e2, kU, u1, by rw [u2]; exact i3, by rw [u2]; exact e5 i3⟩
  have F1 : Found ST "value" "[B" fV P.U := ⟨SBG.found_only al ⟨cfV, kV, iV, gV⟩, stV⟩
  have F2 : Found ST "coder" "B" fC P.U := ⟨SBG.found_only al ⟨cfC, kC, iC, gC⟩, stC⟩
  have hA : Ch b A P.U := ⟨⟨K.1, State.isArrayOf_alike al K.2.1, K.2.2, by omega⟩, hty⟩
  have hS : StaticIs P.U ST "COMPACT_STRINGS" "Z" (.int z) := by
    obtain ⟨cfS, iS, kS, fS, st, cS, t1, t2, t3, t4, t5, t6, t7⟩ := S
    exact StaticIs.there (s := { Z with heap := P.U.heap }) ⟨cfS, iS, kS, fS, st, cS, t1, t2, t3, t4, t5, (fun q => by rw [q] at t6; cases t6), t7⟩ al rfl
  obtain ⟨v, B, X', ⟨⟨hv, E', V', q1, q2, q3, q4, q5, q6, q7, q8, q9, q10, q11⟩, hl, hc, hs⟩, st⟩ := New1.pays x D fV fC b A z (tab_of (moved hZ hw)) hfr hlo m meth c P g ig mk _ X hg hsize hdg hW hn ⟨r1, r2, rfl, hB, F1, F2, hA, hS, hz, l0, l2, hp⟩
  have al' : Z.vm.Alike B.U.vm := hZ.alike.trans X'.warmed.alike
  have hsz : E'.slots.size = D.slots.size := by
    obtain ⟨-, -, -, kB, w1, w2, w3⟩ := q1
    obtain ⟨kB', y1, y2⟩ := al'.2.2 _ _ e3
    rw [q2.2.1] at w1
    cases w1.symm.trans y1
    rw [w3, e5 i3, y2]
  refine ⟨v, B, X', ⟨_, ⟨hv, ?_, ⟨by omega, fun y cy hy hn' => q10 y cy (by simpa using hn') hy, fun y cy hy => ?_⟩, q11, ⟨E', _, q1.1, by rw [q2.2.1]; exact e2, by rw [q2.2.1]; exact e3, by rw [q2.1]; exact obV, fun _ => by rw [hsz]; exact e5 i3⟩,
    ⟨E', cfV, kV, iV, fV, q1.1, gV, stV, by rw [q2.1]; exact knV, by rw [q2.1]; exact obV, by rw [q2.2.1]; exact asV, q3⟩, ⟨E', cfC, kC, iC, fC, q1.1, gC, stC, by rw [q2.1]; exact knV, by rw [q2.1]; exact obV, by rw [q2.2.1]; exact asC, q4⟩,
    ⟨V', ⟨q5.1, State.isArrayOf_alike al'.symm q5.2.1, q5.2.2.1⟩, q6, by rw [← al'.findClass]; exact q7, q8, fun j hj => by have := q9 j hj; rwa [Nat.zero_add] at this⟩, fun O n d w F n1 n2 => ?_⟩, hl, hc, hs⟩, st⟩
  · intro y hy
    simp only [List.mem_cons, List.not_mem_nil, or_false] at hy
    rcases hy with rfl | rfl <;> rfl
  · by_cases q : y = x
    · subst q
      cases hD.symm.trans hy
      exact ⟨E', q1.1, q2.2.1, q2.1, hsz⟩
    · exact ⟨cy, q10 y cy q hy, rfl, rfl, rfl⟩
  · obtain ⟨D3, cf, k, i, f, g1, g2, g3, g4, g5, g6, g7⟩ := F
    cases hD.symm.trans g1
    simp only [RoadKit.slotOf, g2, gV, gC, Option.map_some, Option.getD_some] at n1 n2
    exact ⟨E', cf, k, i, f, q1.1, g2, g3, by rw [q2.1]; exact g4, by rw [q2.1]; exact g5, by rw [q2.2.1]; exact g6, by rw [q2.2.2 f.slot (by simp [n1, n2])]; exact g7⟩
end StrChars.Road
namespace StrChars.Road
open Jvm Sem ClassFile Op Lib Jvm.Stand Jvm.Free Jvm.Free.XT
def QA (Z : State) (x : Addr) (zn : Int32) (cs : List Int32) (h : Heap) (v : Option Value) (h' : Heap) (L : List Loc) : Prop := v = none ∧ (∀ y ∈ L, y.base = x) ∧ RoadKit.Keep h h' [x] ∧ h'.size = h.size + 1 ∧ RoadKit.Exa Z h' x ST ∧ RoadKit.Fld Z h' x ST "value" "[B" (.ref h.size) ∧ RoadKit.Fld Z h' x ST "coder" "B" (.int 0) ∧
  (∃ kb, Z.vm.findClass "[B" = some kb ∧ RoadKit.Arv Z h' h.size kb .byte zn (cs.map fun c => .int (lo8 c)) (.int 0)) ∧
  ∀ (O n d : String) (w : Value), RoadKit.Fld Z h x O n d w → RoadKit.slotOf Z O n d ≠ RoadKit.slotOf Z ST "value" "[B" → RoadKit.slotOf Z O n d ≠ RoadKit.slotOf Z ST "coder" "B" → RoadKit.Fld Z h' x O n d w
theorem backArv {p : Program} {l : Launch} {e : Env} {R : Room} {s : State} {args : Array Value} {below : List Frame} {len W : Nat} {Z : State} {a0 : Array Value} {h : Heap} (hZ : Z.Warmed39 s.vm) (hw : ∀ d ∈ words, d.before a0 Z = true) {kI : Nat} (wi : (Jvm.Cond.instantiable ST kI).before a0 Z = true)
    {x b : Addr} {k : ClassId} {zn z : Int32} {cs : List Int32} {dv v0 c0 : Value} (E : RoadKit.Exa Z h x ST) (V : RoadKit.Fld Z h x ST "value" "[B" v0) (C : RoadKit.Fld Z h x ST "coder" "B" c0) (K : RoadKit.Arv Z h b k .char zn (cs.map Value.int) dv) (S : RoadKit.Sta Z h ST "COMPACT_STRINGS" "Z" (.int z)) (hz : ¬ z = 0)
    (hlen : zn.toNatClampNeg = cs.length) (h0 : 0 < cs.length) (hbig : cs.length ≤ 536870912) (hall : ∀ c ∈ cs, ¬ 255 < c) (hfr : 4 ≤ R.frames) (hlo : W + 65 ≤ R.locals) :
    Back l R p e below s args New1.yN len W (fun P a => a = #[.ref x, .ref b] ∧ P.U.heap = h ∧ P.cells + 1 ≤ R.cells ∧ P.slots + cs.length ≤ R.slots)
      (fun P _ v B => ∃ L, QA Z x zn cs h v B.U.heap L ∧ B.locs = P.locs ++ L ∧ B.cells = P.cells + 1 ∧ B.slots = P.slots + cs.length) := by
  obtain ⟨A, K1, K2, K3, K4, K5, K6⟩ := K
  have e : A.slots.size = cs.length := K3.trans hlen
  have hat : ∀ (i : Nat) (hi : i < cs.length), A.slots[i]? = some (.int cs[i]) := fun i hi => by rw [K5 i (by omega)]; simp [List.getD_eq_getElem?_getD, hi]
  have hcv : ∀ (i : Nat) (hi : i < cs.length), cv A i = cs[i] := fun i hi => by unfold cv; rw [hat i hi]
  have hty : Typed .char A := fun i v hv => by
    have hi : i < A.slots.size := (Array.getElem?_eq_some_iff.mp hv).1
    have q := K5 i hi
    rw [hv] at q
    rw [Option.some.inj q]
    exact K6 i hi
  refine Back.mono (back hZ hw wi E V C K1 hty S hz (by omega) (by omega) (fun i hi => by rw [hcv i (by omega)]; exact hall _ (List.getElem_mem _)) hfr hlo) (fun P a hp => ⟨hp.1, hp.2.1, hp.2.2.1, by rw [e]; exact hp.2.2.2⟩) (fun P a v B hp hq => ?_)
  obtain ⟨L, ⟨q1, q2, q3, q4, q5, q6, q7, ⟨V', v1, v2, v3, v4, v5⟩, q9⟩, hl, hc, hs⟩ := hq
  refine ⟨L, ⟨q1, q2, q3, q4, q5, q6, q7, ⟨V'.cls, v3, V', v1, rfl, by rw [v4, e, hlen], K4, fun i hi => ?_, fun i hi => ?_⟩, q9⟩, hl, hc, by rw [hs, e]⟩
  · have hi' : i < cs.length := by omega
    rw [v5 i (by omega), hcv i hi']; simp [List.getD_eq_getElem?_getD, hi']
  · have hi' : i < cs.length := by omega
    simp only [List.getD_eq_getElem?_getD, List.getElem?_map, List.getElem?_eq_getElem hi', Option.map_some, Option.getD_some]
    exact fits_lo8 _
end StrChars.Road
namespace StrChars.Road
open Jvm Sem ClassFile Op Lib Jvm.Stand Jvm.Free Jvm.Free.XT
def QV (Z : State) (x : Addr) (N : Int32) (bs : List Int32) (h : Heap) (n0 : Nat) (v : Option Value) (h' : Heap) (L : List Loc) : Prop := v = none ∧ RoadKit.Fr n0 L ∧ RoadKit.Keep h h' [x] ∧ RoadKit.Exa Z h' x ST ∧ RoadKit.Fld Z h' x ST "coder" "B" (.int 0) ∧
  ∃ (t : Addr) (kb : ClassId), n0 ≤ t ∧ h.size ≤ t ∧ ¬ t = x ∧ RoadKit.Fld Z h' x ST "value" "[B" (.ref t) ∧ RoadKit.Arv Z h' t kb .byte N (bs.map Value.int) (.int 0)
theorem backV {p : Program} {l : Launch} {e : Env} {R : Room} {s : State} {args : Array Value} {below : List Frame} {len W : Nat} {Z : State} {a0 : Array Value} {h : Heap} (hZ : Z.Warmed39 s.vm) (hw : ∀ d ∈ words, d.before a0 Z = true) {kI : Nat} (wi : (Jvm.Cond.instantiable ST kI).before a0 Z = true)
    {x b : Addr} {kC : ClassId} {cs bs : List Int32} {d v0 c0 : Value} {z N : Int32} {n n0 : Nat} (hx0 : n0 ≤ x) (hh0 : n0 ≤ h.size) (E : RoadKit.Exa Z h x ST) (V : RoadKit.Fld Z h x ST "value" "[B" v0) (C : RoadKit.Fld Z h x ST "coder" "B" c0) (K : RoadKit.Arv Z h b kC .char N (cs.map Value.int) d) (S : RoadKit.Sta Z h ST "COMPACT_STRINGS" "Z" (.int z)) (hz : ¬ z = 0)
    (hn : cs.length = n) (hN : N = Int32.ofNat n) (l0 : 0 < n) (l2 : n ≤ 4000) (hp : ∀ c ∈ cs, ¬ c < 0 ∧ ¬ (255 : Int32) < c) (hb : bs = cs.map (fun c => c.toInt8.toInt32)) (hfr : 4 ≤ R.frames) (hlo : W + 65 ≤ R.locals) :
    Back l R p e below s args (⟨"java/lang/String", "<init>", "([C)V"⟩ : MethodName) len W (fun P a => a = #[.ref x, .ref b] ∧ P.U.heap = h ∧ P.cells + 1 ≤ R.cells ∧ P.slots + n ≤ R.slots)
      (fun P _ v B => ∃ L, QV Z x N bs h n0 v B.U.heap L ∧ B.locs = P.locs ++ L ∧ B.cells = P.cells + 1 ∧ B.slots = P.slots + n) := by
  subst hn hN hb
  refine Back.mono (backArv hZ hw wi E V C K S hz (n32 (by omega)) l0 (by omega) (fun c hc => (hp c hc).2) hfr hlo) (fun P a hp => hp) (fun P a v B hp hq => ?_)
  obtain ⟨L, ⟨q1, q2, q3, q4, q5, q6, q7, ⟨kb, v1, v2⟩, q9⟩, hl, hc, hs⟩ := hq
  exact ⟨L, ⟨q1, fun y hy => by rw [q2 y hy]; exact hx0, q3, q5, q7, h.size, kb, hh0, Nat.le_refl _, Nat.ne_of_gt E.lt, q6, by rw [List.map_map]; exact v2⟩, hl, hc, hs⟩
end StrChars.Road
namespace StrChars
open Jvm Sem ClassFile Op Lib Jvm.Stand Jvm.Free.XT Jvm.Free.ALB Jvm.Free.JM Jvm.Free
open Jvm.Lib.Cold (StaticIs)
def hi8 (x : Int32) : Int32 := lo8 (x >>> ((8 : Int32) &&& 31))
def pairCh (u v : Int32) : Int32 := (((u &&& 255) <<< ((0 : Int32) &&& 31)) ||| ((v &&& 255) <<< ((8 : Int32) &&& 31))).toUInt32.toUInt16.toUInt32.toInt32
theorem shr0 (c : Int32) : c >>> ((0 : Int32) &&& 31) = c := by
  have e : ((0 : Int32) &&& 31) = 0 := by decide
  rw [e]
  apply Int32.toBitVec_inj.mp
  rw [Int32.toBitVec_shiftRight]
  have e1 : ((0 : Int32).toBitVec.smod 32) = 0#32 := by decide
  rw [e1, BitVec.sshiftRight_eq']
  exact BitVec.sshiftRight_zero
theorem lo8_and (x : Int32) : (lo8 x &&& 255).toBitVec.toNat = x.toBitVec.toNat % 256 := by
  have h : (lo8 x).toBitVec = (x.toBitVec.signExtend 8).signExtend 32 := by rw [lo8, Int8.toBitVec_toInt32, Int32.toBitVec_toInt8]
  rw [Int32.toBitVec_and, BitVec.toNat_and, h]
  have e : ((x.toBitVec.signExtend 8).signExtend 32).toNat % 256 = x.toBitVec.toNat % 256 := by
    rw [BitVec.toNat_signExtend]
    have hlt := x.toBitVec.isLt
    simp only [BitVec.toNat_setWidth, BitVec.toNat_signExtend]
    split <;> split <;> omega
  rw [← e]
  exact Nat.and_two_pow_sub_one_eq_mod _ 8
theorem pair_says {c : Int32} (h0 : ¬ c < 0) (h1 : ¬ 65535 < c) : pairCh (lo8 c) (hi8 c) = c := by
  rw [Int32.lt_iff_toInt_lt] at h0 h1
  have e0 : (0 : Int32).toInt = 0 := rfl
  have e1 : (65535 : Int32).toInt = 65535 := rfl
  have hc : c.toInt = c.toBitVec.toNat := by
    have := c.toBitVec.isLt
    have e : c.toInt = c.toBitVec.toInt := rfl
    rw [e] at h0 h1
    rw [e]
    rw [BitVec.toInt_eq_toNat_cond] at h0 h1 ⊢
    split at h0 <;> split <;> omega
  have hn : c.toBitVec.toNat < 65536 := by omega
  have a1 := lo8_and c
  have a2 : (hi8 c &&& 255).toBitVec.toNat = c.toBitVec.toNat / 256 := by
    rw [hi8, lo8_and]
    have e : ((8 : Int32) &&& 31) = 8 := by decide
    rw [e, Int32.toBitVec_shiftRight]
    have e2 : ((8 : Int32).toBitVec.smod 32) = 8#32 := by decide
    rw [e2, BitVec.sshiftRight_eq', BitVec.toNat_sshiftRight_of_msb_false (by rw [BitVec.msb_eq_false_iff_two_mul_lt]; omega)]
    show c.toBitVec.toNat >>> 8 % 256 = _
    rw [Nat.shiftRight_eq_div_pow]
    omega
  unfold pairCh
  apply Int32.toBitVec_inj.mp
  apply BitVec.eq_of_toNat_eq
  have f0 : ((0 : Int32) &&& 31) = 0 := by decide
  have f8 : ((8 : Int32) &&& 31) = 8 := by decide
  rw [f0, f8]
  have g : (((lo8 c &&& 255) <<< (0 : Int32)) ||| ((hi8 c &&& 255) <<< (8 : Int32))).toBitVec.toNat = c.toBitVec.toNat := by
    rw [Int32.toBitVec_or, Int32.toBitVec_shiftLeft, Int32.toBitVec_shiftLeft]
    have s0 : ((0 : Int32).toBitVec.smod 32) = 0#32 := by decide
    have s8 : ((8 : Int32).toBitVec.smod 32) = 8#32 := by decide
    rw [s0, s8, BitVec.toNat_or]
    simp only [BitVec.shiftLeft_eq', BitVec.toNat_shiftLeft, a1, a2]
    show (c.toBitVec.toNat % 256) <<< 0 % 2 ^ 32 ||| (c.toBitVec.toNat / 256) <<< 8 % 2 ^ 32 = _
    rw [Nat.shiftLeft_zero, Nat.mod_eq_of_lt (show c.toBitVec.toNat % 256 < 2 ^ 32 by omega), Nat.mod_eq_of_lt (show (c.toBitVec.toNat / 256) <<< 8 < 2 ^ 32 by rw [Nat.shiftLeft_eq]; omega), Nat.or_comm, ← Nat.shiftLeft_add_eq_or_of_lt (by omega), Nat.shiftLeft_eq]
    omega
  show BitVec.toNat (((((lo8 c &&& 255) <<< (0 : Int32)) ||| ((hi8 c &&& 255) <<< (8 : Int32))).toBitVec.setWidth 16).setWidth 32) = _
  rw [BitVec.toNat_setWidth, BitVec.toNat_setWidth, g]
  omega
end StrChars
namespace StrChars
open Jvm Sem ClassFile Op Lib Jvm.Stand Jvm.Free.XT Jvm.Free.ALB Jvm.Free.JM Jvm.Free
open Jvm.Lib.Cold (StaticIs)
theorem shr1 {n : Nat} (h : 2 * n < 2 ^ 31) : Int32.ofNat (2 * n) >>> ((1 : Int32) &&& 31) = Int32.ofNat n := by
  have e : ((1 : Int32) &&& 31) = 1 := by decide
  rw [e]
  apply Int32.toBitVec_inj.mp
  rw [Int32.toBitVec_shiftRight]
  have e1 : ((1 : Int32).toBitVec.smod 32) = 1#32 := by decide
  have hm : (BitVec.ofNat 32 (2 * n)).toNat = 2 * n := by rw [BitVec.toNat_ofNat, Nat.mod_eq_of_lt (by omega)]
  rw [e1, BitVec.sshiftRight_eq']
  apply BitVec.eq_of_toNat_eq
  show ((BitVec.ofNat 32 (2 * n)).sshiftRight 1).toNat = (BitVec.ofNat 32 n).toNat
  rw [BitVec.toNat_sshiftRight_of_msb_false (by rw [BitVec.msb_eq_false_iff_two_mul_lt, hm]; omega), hm, BitVec.toNat_ofNat, Nat.shiftRight_eq_div_pow]
  omega
def chr8 (u : Int32) : Int32 := (u &&& 255).toUInt32.toUInt16.toUInt32.toInt32
theorem chr8_lo8 {c : Int32} (h0 : ¬ c < 0) (h1 : ¬ 255 < c) : chr8 (lo8 c) = c := by
  have t : ∀ k : Fin 256, (Int32.ofNat k.val).toUInt32.toUInt16.toUInt32.toInt32 = Int32.ofNat k.val := by decide +kernel
  unfold chr8
  rw [lo8_mask h0 h1]
  rw [Int32.lt_iff_toInt_lt] at h0 h1
  have e0 : (0 : Int32).toInt = 0 := rfl
  have e1 : (255 : Int32).toInt = 255 := rfl
  obtain ⟨k, hk⟩ : ∃ k : Nat, c.toInt = k := ⟨c.toInt.toNat, by omega⟩
  have hx : c = Int32.ofNat k := Int32.toInt_inj.mp (by rw [hk, Int32.toInt_ofNat_small (by omega)])
  rw [hx]
  exact t ⟨k, by omega⟩
theorem narrow_ch {c : Int32} (h0 : ¬ c < 0) (h1 : ¬ 65535 < c) : narrow .char (.int c) = .int c := by
  have q : narrow .char (.int (pairCh (lo8 c) (hi8 c))) = .int (pairCh (lo8 c) (hi8 c)) := narrow_c _
  rwa [pair_says h0 h1] at q
def Cod (cd : Int32) (n : Nat) (f : Nat → Int32) (V : Cell) : Prop := (cd = 0 ∧ V.slots.size = n ∧ ∀ j, j < n → V.slots[j]? = some (.int (lo8 (f j))) ∧ ¬ 255 < f j) ∨ (cd = 1 ∧ V.slots.size = 2 * n ∧ (∀ j, j < n → V.slots[2 * j]? = some (.int (lo8 (f j))) ∧ V.slots[2 * j + 1]? = some (.int (hi8 (f j)))) ∧ ∃ j, j < n ∧ 255 < f j)
theorem Cod.cd {cd : Int32} {n : Nat} {f : Nat → Int32} {V : Cell} (h : Cod cd n f V) : cd = 0 ∨ cd = 1 := h.imp (fun q => q.1) fun q => q.1
theorem Cod.len {cd : Int32} {n : Nat} {f : Nat → Int32} {V : Cell} (h : Cod cd n f V) (hs : V.slots.size < 2 ^ 31) : Int32.ofNat V.slots.size >>> (cd &&& 31) = Int32.ofNat n := by
  rcases h with ⟨rfl, h, -⟩ | ⟨rfl, h, -⟩
  · rw [shr0, h]
  · rw [h, shr1 (by omega)]
def Txt (x t : Addr) (V : Cell) (cd : Int32) (n : Nat) (f : Nat → Int32) (U : State) : Prop := Exact "java/lang/String" x U ∧ Has x "java/lang/String" "value" "[B" (.ref t) U ∧ Has x "java/lang/String" "coder" "B" (.int cd) U ∧ XT.Arr .byte t V U ∧ Cod cd n f V ∧ ∀ j, j < n → ¬ f j < 0 ∧ ¬ 65535 < f j
theorem Txt.mv {x t : Addr} {V : Cell} {cd : Int32} {n : Nat} {f : Nat → Int32} {U U' : State} (h : Txt x t V cd n f U) (hal : U.vm.Alike U'.vm) (hh : U'.heap = U.heap) : Txt x t V cd n f U' := ⟨h.1.mv hal hh, h.2.1.mv hal hh, h.2.2.1.mv hal hh, h.2.2.2.1.mv hal hh, h.2.2.2.2⟩
namespace Cdr
def yN : MethodName := ⟨"java/lang/String", "coder", "()B"⟩
abbrev yB : ByteArray := jdk_42_method_152_code
theorem d0 : decode yB 0 = .ok (.getstatic 38, 3) := by decide +kernel
theorem d3 : decode yB 3 = .ok (.ifCond (.eq) 10, 3) := by decide +kernel
theorem d6 : decode yB 6 = .ok (.aload_n 0, 1) := by decide +kernel
theorem d7 : decode yB 7 = .ok (.getfield 15, 3) := by decide +kernel
theorem d10 : decode yB 10 = .ok (.goto 4, 3) := by decide +kernel
theorem d14 : decode yB 14 = .ok (.ireturn, 1) := by decide +kernel
def site : List Cond := [.fieldLink "java/lang/String" 38 "java/lang/String" "COMPACT_STRINGS" "Z", .fieldLink "java/lang/String" 15 "java/lang/String" "coder" "B"]
def tab : Cond := tabOf yN yB 1 (some .byte) site
def P (x : Addr) (cd z : Int32) (args : Array Value) (s : State) : Prop := args = #[.ref x] ∧ Has x "java/lang/String" "coder" "B" (.int cd) s ∧ (cd = 0 ∨ cd = 1) ∧ StaticIs s "java/lang/String" "COMPACT_STRINGS" "Z" (.int z) ∧ ¬ z = 0
def E (cd : Int32) (r : Option Value) (s u : State) : Prop := XT.PureE (some (.int cd)) r s u
theorem law (l : Launch) (x : Addr) (cd z : Int32) : Law l yN 1 0 0 0 yB 1 (some .byte) site (P x cd z) (E cd) [] 0 0 := by
  refine Law.of_walk (plainFor_of_name (by decide +kernel)) (by decide +kernel) (by decide +kernel) (by decide) (fun _ _ h => by rw [h.1]; rfl) (fun _ U U' hal hh h => ⟨h.1, h.2.1.mv hal hh, h.2.2.1, h.2.2.2.1.there hal hh, h.2.2.2.2⟩) (fun r U U' V V' h1 hal h2 h => XT.PureE.mv r U U' V V' h1 hal h2 h) ?_
  intro p e s m args below meth c s₁ X0 hexec hbytes hml hret hlk hnm hown hh0 W hP
  obtain ⟨rfl, hx, hc, s1, hz⟩ := hP
  have c1 : Steps p.tables e below (s₁.setTop (entryFrame m #[.ref x] 1)) (s₁.setTop (mkF m 0 #[.val (.ref x)] [])) := entry rfl
  obtain ⟨T2, X2, q2, st2⟩ := X0.sget hexec hown (wk W (.fieldLink "java/lang/String" 38 "java/lang/String" "COMPACT_STRINGS" "Z")) s1 (fun _ _ h => by rw [hh0]; exact h) (g := (mkF m 0 #[.val (.ref x)] [])) rfl (hb hbytes d0)
  have hh2 := q2.trans hh0
  have c3 : Steps p.tables e below (s₁.setTop (entryFrame m #[.ref x] 1)) (T2.setTop (mkF m 7 #[.val (.ref x)] [.ref x])) := (c1.trans (st2 _ (Steps.refl _))).trans (by
    refine XS.ifNo X2.here hexec rfl (hb hbytes d3) rfl (i0_eq_f hz) ?_
    refine XS.aloadN X2.here hexec rfl (hb hbytes d6) rfl rfl ?_
    exact Steps.refl _)
  obtain ⟨T4, X4, q4, st4⟩ := X2.hget hexec hown (wk W (.fieldLink "java/lang/String" 15 "java/lang/String" "coder" "B")) (hx.mv X2.warmed.alike hh2) (g := (mkF m 7 #[.val (.ref x)] [.ref x])) rfl (rest := []) rfl (hb hbytes d7)
  have c5 : Steps p.tables e below (s₁.setTop (entryFrame m #[.ref x] 1)) (T4.setTop (mkF m 14 #[.val (.ref x)] [.int cd])) := (c3.trans (st4 _ (Steps.refl _))).trans (by
    refine XS.goto X4.here hexec rfl (pc0 := 10) rfl (hb hbytes d10) (by decide) rfl ?_
    exact Steps.refl _)
  exact ⟨T4, some (.int cd), _, _, _, X4, rfl, rfl, rfl, (fun h => by cases h), ⟨rfl, q4.trans hh2⟩, fun fs hl => c5.trans (X4.ireturnOut hexec hret (by rcases hc with rfl | rfl <;> rfl) (Or.inr (Or.inr (Or.inl rfl))) (hb hbytes d14) hl)⟩
end Cdr
namespace Len
def yN : MethodName := ⟨"java/lang/String", "length", "()I"⟩
abbrev yB : ByteArray := jdk_42_method_54_code
theorem d0 : decode yB 0 = .ok (.aload_n 0, 1) := by decide +kernel
theorem d1 : decode yB 1 = .ok (.getfield 9, 3) := by decide +kernel
theorem d4 : decode yB 4 = .ok (.arraylength, 1) := by decide +kernel
theorem d5 : decode yB 5 = .ok (.aload_n 0, 1) := by decide +kernel
theorem d6 : decode yB 6 = .ok (.invokevirtual 335, 3) := by decide +kernel
theorem d9 : decode yB 9 = .ok (.ishr, 1) := by decide +kernel
theorem d10 : decode yB 10 = .ok (.ireturn, 1) := by decide +kernel
def site : List Cond := [.fieldLink "java/lang/String" 9 "java/lang/String" "value" "[B", Cdr.tab] ++ virtW "java/lang/String" 335 "java/lang/String" Cdr.yN Cdr.yN
def tab : Cond := tabOf yN yB 1 (some .int) site
def P (x t : Addr) (V : Cell) (cd : Int32) (n : Nat) (f : Nat → Int32) (z : Int32) (args : Array Value) (s : State) : Prop := args = #[.ref x] ∧ Txt x t V cd n f s ∧ StaticIs s "java/lang/String" "COMPACT_STRINGS" "Z" (.int z) ∧ ¬ z = 0
def E (n : Nat) (r : Option Value) (s u : State) : Prop := XT.PureE (some (.int (Int32.ofNat n))) r s u
theorem law (l : Launch) (x t : Addr) (V : Cell) (cd : Int32) (n : Nat) (f : Nat → Int32) (z : Int32) : Law l yN 1 0 1 13 yB 1 (some .int) site (P x t V cd n f z) (E n) [] 0 0 := by
  refine Law.of_walk (plainFor_of_name (by decide +kernel)) (by decide +kernel) (by decide +kernel) (by decide) (fun _ _ h => by rw [h.1]; rfl) (fun _ U U' hal hh h => ⟨h.1, h.2.1.mv hal hh, h.2.2.1.there hal hh, h.2.2.2⟩) (fun r U U' V V' h1 hal h2 h => XT.PureE.mv r U U' V V' h1 hal h2 h) ?_
  intro p e s m args below meth c s₁ X0 hexec hbytes hml hret hlk hnm hown hh0 W hP
  obtain ⟨rfl, hx, s1, hz⟩ := hP
  have v31 := hx.2.2.2.1.2.2.2
  have c1 : Steps p.tables e below (s₁.setTop (entryFrame m #[.ref x] 1)) (s₁.setTop (mkF m 1 #[.val (.ref x)] [.ref x])) := Steps.trans (entry rfl) (by
    show Steps p.tables e below (s₁.setTop (mkF m 0 #[.val (.ref x)] [])) _
    refine XS.aloadN X0.here hexec rfl (hb hbytes d0) rfl rfl ?_
    exact Steps.refl _)
  obtain ⟨T2, X2, q2, st2⟩ := X0.hget hexec hown (wk W (.fieldLink "java/lang/String" 9 "java/lang/String" "value" "[B")) (hx.mv X0.warmed.alike hh0).2.1 (g := (mkF m 1 #[.val (.ref x)] [.ref x])) rfl (rest := []) rfl (hb hbytes d1)
  have hh2 := q2.trans hh0
  have hx2 := hx.mv X2.warmed.alike hh2
  have c3 : Steps p.tables e below (s₁.setTop (entryFrame m #[.ref x] 1)) (T2.setTop (mkF m 6 #[.val (.ref x)] [.ref x, .int (Int32.ofNat V.slots.size)])) := (c1.trans (st2 _ (Steps.refl _))).trans (by
    refine X2.alen hexec hx2.2.2.2.1 rfl rfl (hb hbytes d4) ?_
    refine XS.aloadN X2.here hexec rfl (hb hbytes d5) rfl rfl ?_
    exact Steps.refl _)
  obtain ⟨v4, T4, X4, E4, g4⟩ := X2.callV hexec (Cdr.law l x cd z) hown (wks W (virtW "java/lang/String" 335 "java/lang/String" Cdr.yN Cdr.yN)) rfl (by decide) (wk W Cdr.tab) (W := 1) (Nat.le_of_ble_eq_true rfl) (Nat.le_of_ble_eq_true rfl) (Nat.le_refl _) (Nat.le_refl _) (hx2.1.fc X2.warmed.alike) hx2.1.is (g := (mkF m 6 #[.val (.ref x)] [.ref x, .int (Int32.ofNat V.slots.size)])) rfl (by rw [hml]; rfl) c3 (argsL := []) (rest := [.int (Int32.ofNat V.slots.size)]) rfl rfl (by show 2 * 0 + (1 + 0) ≤ _; decide) (hb hbytes d6) (⟨rfl, hx2.2.2.1, hx.2.2.2.2.1.cd, s1.there X2.warmed.alike hh2, hz⟩)
  obtain ⟨rfl, q4⟩ := E4
  have c5 : Steps p.tables e below (s₁.setTop (entryFrame m #[.ref x] 1)) (T4.setTop (mkF m 10 #[.val (.ref x)] [.int (Int32.ofNat V.slots.size >>> (cd &&& 31))])) := Steps.trans g4 (by
    refine ishr X4.here hexec rfl (hb hbytes d9) rfl ?_
    exact Steps.refl _)
  rw [hx.2.2.2.2.1.len v31] at c5
  exact ⟨T4, some (.int (Int32.ofNat n)), _, _, _, X4, rfl, rfl, rfl, (fun h => by cases h), ⟨rfl, q4.trans hh2⟩, fun fs hl => c5.trans (X4.ireturnOut hexec hret rfl (Or.inl rfl) (hb hbytes d10) hl)⟩
theorem pays {l : Launch} {R : Room} {p : Program} {e : Env} {below : List Frame} {s : State} {sargs : Array Value} {len W : Nat} (x t : Addr) (V : Cell) (cd : Int32) (n : Nat) (f : Nat → Int32) (z : Int32) (htab : tab.before sargs s = true) (hfr : 2 ≤ R.frames) (hlo : W + 25 ≤ R.locals) :
    Back l R p e below s sargs yN len W (fun A₁ a₁ => A₁.cells + 0 ≤ R.cells ∧ A₁.slots + 0 ≤ R.slots ∧ P x t V cd n f z a₁ A₁.U) (fun A₁ _ v₁ B₁ => E n v₁ A₁.U B₁.U ∧ B₁.locs = A₁.locs ++ [] ∧ B₁.cells = A₁.cells + 0 ∧ B₁.slots = A₁.slots + 0) :=
  (law l x t V cd n f z).pays htab hfr (by omega)
end Len
namespace IsL
def yN : MethodName := ⟨"java/lang/String", "isLatin1", "()Z"⟩
abbrev yB : ByteArray := jdk_42_method_154_code
theorem d0 : decode yB 0 = .ok (.getstatic 38, 3) := by decide +kernel
theorem d3 : decode yB 3 = .ok (.ifCond (.eq) 14, 3) := by decide +kernel
theorem d6 : decode yB 6 = .ok (.aload_n 0, 1) := by decide +kernel
theorem d7 : decode yB 7 = .ok (.getfield 15, 3) := by decide +kernel
theorem d10 : decode yB 10 = .ok (.ifCond (.ne) 7, 3) := by decide +kernel
theorem d13 : decode yB 13 = .ok (.iconst 1, 1) := by decide +kernel
theorem d14 : decode yB 14 = .ok (.goto 4, 3) := by decide +kernel
theorem d17 : decode yB 17 = .ok (.iconst 0, 1) := by decide +kernel
theorem d18 : decode yB 18 = .ok (.ireturn, 1) := by decide +kernel
def site : List Cond := [.fieldLink "java/lang/String" 38 "java/lang/String" "COMPACT_STRINGS" "Z", .fieldLink "java/lang/String" 15 "java/lang/String" "coder" "B"]
def tab : Cond := tabOf yN yB 1 (some .boolean) site
def P (x : Addr) (cd z : Int32) (args : Array Value) (s : State) : Prop := args = #[.ref x] ∧ Has x "java/lang/String" "coder" "B" (.int cd) s ∧ (cd = 0 ∨ cd = 1) ∧ StaticIs s "java/lang/String" "COMPACT_STRINGS" "Z" (.int z) ∧ ¬ z = 0
def E (cd : Int32) (r : Option Value) (s u : State) : Prop := XT.PureE (some (.int (1 - cd))) r s u
theorem law (l : Launch) (x : Addr) (cd z : Int32) : Law l yN 1 0 0 0 yB 1 (some .boolean) site (P x cd z) (E cd) [] 0 0 := by
  refine Law.of_walk (plainFor_of_name (by decide +kernel)) (by decide +kernel) (by decide +kernel) (by decide) (fun _ _ h => by rw [h.1]; rfl) (fun _ U U' hal hh h => ⟨h.1, h.2.1.mv hal hh, h.2.2.1, h.2.2.2.1.there hal hh, h.2.2.2.2⟩) (fun r U U' V V' h1 hal h2 h => XT.PureE.mv r U U' V V' h1 hal h2 h) ?_
  intro p e s m args below meth c s₁ X0 hexec hbytes hml hret hlk hnm hown hh0 W hP
  obtain ⟨rfl, hx, hc, s1, hz⟩ := hP
  have c1 : Steps p.tables e below (s₁.setTop (entryFrame m #[.ref x] 1)) (s₁.setTop (mkF m 0 #[.val (.ref x)] [])) := entry rfl
  obtain ⟨T2, X2, q2, st2⟩ := X0.sget hexec hown (wk W (.fieldLink "java/lang/String" 38 "java/lang/String" "COMPACT_STRINGS" "Z")) s1 (fun _ _ h => by rw [hh0]; exact h) (g := (mkF m 0 #[.val (.ref x)] [])) rfl (hb hbytes d0)
  have hh2 := q2.trans hh0
  have c3 : Steps p.tables e below (s₁.setTop (entryFrame m #[.ref x] 1)) (T2.setTop (mkF m 7 #[.val (.ref x)] [.ref x])) := (c1.trans (st2 _ (Steps.refl _))).trans (by
    refine XS.ifNo X2.here hexec rfl (hb hbytes d3) rfl (i0_eq_f hz) ?_
    refine XS.aloadN X2.here hexec rfl (hb hbytes d6) rfl rfl ?_
    exact Steps.refl _)
  obtain ⟨T4, X4, q4, st4⟩ := X2.hget hexec hown (wk W (.fieldLink "java/lang/String" 15 "java/lang/String" "coder" "B")) (hx.mv X2.warmed.alike hh2) (g := (mkF m 7 #[.val (.ref x)] [.ref x])) rfl (rest := []) rfl (hb hbytes d7)
  have c5 : Steps p.tables e below (s₁.setTop (entryFrame m #[.ref x] 1)) (T4.setTop (mkF m 10 #[.val (.ref x)] [.int cd])) := c3.trans (st4 _ (Steps.refl _))
  have c6 : Steps p.tables e below (s₁.setTop (entryFrame m #[.ref x] 1)) (T4.setTop (mkF m 18 #[.val (.ref x)] [.int (1 - cd)])) := by
    rcases hc with rfl | rfl
    · exact c5.trans (by
        refine XS.ifNo X4.here hexec rfl (hb hbytes d10) rfl (i0_ne_f rfl) ?_
        refine iconstV X4.here hexec rfl 1 (hb hbytes d13) (by decide) ?_
        refine XS.goto X4.here hexec rfl (pc0 := 14) rfl (hb hbytes d14) (by decide) rfl ?_
        exact Steps.refl _)
    · exact c5.trans (by
        refine XS.ifYes X4.here hexec rfl (pc0 := 10) rfl (hb hbytes d10) rfl (i0_ne_t (by decide)) (by decide) rfl ?_
        refine iconstV X4.here hexec rfl 0 (hb hbytes d17) (by decide) ?_
        exact Steps.refl _)
  exact ⟨T4, some (.int (1 - cd)), _, _, _, X4, rfl, rfl, rfl, (fun h => by cases h), ⟨rfl, q4.trans hh2⟩, fun fs hl => c6.trans (X4.ireturnOut hexec hret (by rcases hc with rfl | rfl <;> rfl) (Or.inr (Or.inl rfl)) (hb hbytes d18) hl)⟩
end IsL
namespace LChA
def yN : MethodName := ⟨"java/lang/StringLatin1", "charAt", "([BI)C"⟩
abbrev yB : ByteArray := jdk_43_method_2_code
theorem d0 : decode yB 0 = .ok (.iload_n 1, 1) := by decide +kernel
theorem d1 : decode yB 1 = .ok (.aload_n 0, 1) := by decide +kernel
theorem d2 : decode yB 2 = .ok (.arraylength, 1) := by decide +kernel
theorem d3 : decode yB 3 = .ok (.invokestatic 9, 3) := by decide +kernel
theorem d6 : decode yB 6 = .ok (.aload_n 0, 1) := by decide +kernel
theorem d7 : decode yB 7 = .ok (.iload_n 1, 1) := by decide +kernel
theorem d8 : decode yB 8 = .ok (.baload, 1) := by decide +kernel
theorem d9 : decode yB 9 = .ok (.sipush 255, 3) := by decide +kernel
theorem d12 : decode yB 12 = .ok (.iand, 1) := by decide +kernel
theorem d13 : decode yB 13 = .ok (.i2c, 1) := by decide +kernel
theorem d14 : decode yB 14 = .ok (.ireturn, 1) := by decide +kernel
def site : List Cond := [JO.Str_checkIndex.tab] ++ staticW "java/lang/StringLatin1" 9 JO.Str_checkIndex.yN
def tab : Cond := tabOf yN yB 2 (some .char) site
def P (t : Addr) (V : Cell) (i : Nat) (u : Int32) (fm : Value) (args : Array Value) (s : State) : Prop := args = #[.ref t, .int (Int32.ofNat i)] ∧ XT.Arr .byte t V s ∧ V.slots[i]? = some (.int u) ∧ (StaticIs s "jdk/internal/util/Preconditions" "SIOOBE_FORMATTER" "Ljava/util/function/BiFunction;" fm ∧ fm.isRef = true)
def E (u : Int32) (r : Option Value) (s w : State) : Prop := XT.PureE (some (.int (chr8 u))) r s w
theorem law (l : Launch) (t : Addr) (V : Cell) (i : Nat) (u : Int32) (fm : Value) : Law l yN 2 2 2 27 yB 2 (some .char) site (P t V i u fm) (E u) [] 0 0 := by
  refine Law.of_walk (plainFor_of_name (by decide +kernel)) (by decide +kernel) (by decide +kernel) (by decide) (fun _ _ h => by rw [h.1]; rfl) (fun _ U U' hal hh h => ⟨h.1, h.2.1.mv hal hh, h.2.2.1, h.2.2.2.1.there hal hh, h.2.2.2.2⟩) (fun r U U' V V' h1 hal h2 h => XT.PureE.mv r U U' V V' h1 hal h2 h) ?_
  intro p e s m args below meth c s₁ X0 hexec hbytes hml hret hlk hnm hown hh0 W hP
  obtain ⟨rfl, hV, hu, s1, rf⟩ := hP
  have v31 := hV.2.2.2
  have hi : i < V.slots.size := (Array.getElem?_eq_some_iff.mp hu).1
  have c1 : Steps p.tables e below (s₁.setTop (entryFrame m #[.ref t, .int (Int32.ofNat i)] 2)) (s₁.setTop (mkF m 0 #[.val (.ref t), .val (.int (Int32.ofNat i))] [])) := entry rfl
  have c2 : Steps p.tables e below (s₁.setTop (entryFrame m #[.ref t, .int (Int32.ofNat i)] 2)) (s₁.setTop (mkF m 3 #[.val (.ref t), .val (.int (Int32.ofNat i))] [.int (Int32.ofNat V.slots.size), .int (Int32.ofNat i)])) := c1.trans (by
    refine XS.iloadN X0.here hexec rfl (hb hbytes d0) rfl ?_
    refine XS.aloadN X0.here hexec rfl (hb hbytes d1) rfl rfl ?_
    refine X0.alen hexec (hV.mv X0.warmed.alike hh0) rfl rfl (hb hbytes d2) ?_
    exact Steps.refl _)
  obtain ⟨v3, T3, X3, E3, g3⟩ := X0.callS hexec (JO.Str_checkIndex.law l (Int32.ofNat i) (Int32.ofNat V.slots.size) fm) hown (wks W (staticW "java/lang/StringLatin1" 9 JO.Str_checkIndex.yN)) (wk W JO.Str_checkIndex.tab) (W := 0) (Nat.le_of_ble_eq_true rfl) (Nat.le_of_ble_eq_true rfl) (Nat.le_refl _) (Nat.le_refl _) (g := (mkF m 3 #[.val (.ref t), .val (.int (Int32.ofNat i))] [.int (Int32.ofNat V.slots.size), .int (Int32.ofNat i)])) rfl (by rw [hml]; rfl) c2 (argsL := [.int (Int32.ofNat i), .int (Int32.ofNat V.slots.size)]) (rest := []) rfl rfl (by show 2 * 0 + 0 ≤ _; decide) (hb hbytes d3) (⟨rfl, rf, s1.there X0.warmed.alike hh0, Int32.ofNat_not_neg (by omega), lt32 v31 hi⟩)
  obtain ⟨rfl, q3⟩ := E3
  have hh3 := q3.trans hh0
  have c4 : Steps p.tables e below (s₁.setTop (entryFrame m #[.ref t, .int (Int32.ofNat i)] 2)) (T3.setTop (mkF m 14 #[.val (.ref t), .val (.int (Int32.ofNat i))] [.int (chr8 u)])) := Steps.trans g3 (by
    refine XS.aloadN X3.here hexec rfl (hb hbytes d6) rfl rfl ?_
    refine XS.iloadN X3.here hexec rfl (hb hbytes d7) rfl ?_
    refine X3.aget hexec (hV.mv X3.warmed.alike hh3) rfl hu rfl rfl (hb hbytes d8) ?_
    refine sipushV X3.here hexec rfl 255 (hb hbytes d9) (by decide) ?_
    refine XS.iand X3.here hexec rfl (hb hbytes d12) rfl ?_
    refine i2c X3.here hexec rfl (hb hbytes d13) rfl ?_
    exact Steps.refl _)
  exact ⟨T3, some (.int (chr8 u)), _, _, _, X3, rfl, rfl, rfl, (fun h => by cases h), ⟨rfl, hh3⟩, fun fs hl => c4.trans (X3.ireturnOut hexec hret (narrow_c _) (Or.inr (Or.inr (Or.inr (Or.inl rfl)))) (hb hbytes d14) hl)⟩
end LChA
end StrChars
namespace StrChars.Road
open Jvm Sem ClassFile Op Lib Jvm.Stand Jvm.Free Jvm.Free.XT
open Jvm.Lib.Cold (StaticIs)
theorem consq {a : Array Value} {s : State} {c : Jvm.Cond} {L : List Jvm.Cond} (h0 : c.before a s = true) (h : ∀ w ∈ L, w.before a s = true) : ∀ w ∈ c :: L, w.before a s = true := fun w hw => (List.mem_cons.mp hw).elim (fun e => e ▸ h0) (h w)
abbrev wordsLen : List Jvm.Cond := [.code Len.yN Len.yB 1 (some .int), .initialized ST, .fieldLink ST 9 ST "value" "[B", .fieldLink ST 38 ST "COMPACT_STRINGS" "Z", .fieldLink ST 15 ST "coder" "B", .code Cdr.yN Cdr.yB 1 (some .byte), .methodLink ST 335 Cdr.yN, .declares Cdr.yN, .selects ST Cdr.yN Cdr.yN, .instanceMethod Cdr.yN]
theorem tabLen_of {a : Array Value} {s : State} (h : ∀ w ∈ wordsLen, w.before a s = true) : Len.tab.before a s = true := by
  have hc : Cdr.tab.before a s = true := unparts (wk h (.code Cdr.yN Cdr.yB 1 (some .byte))) (wks h (.initialized Cdr.yN.cls :: Cdr.site))
  have q := consq hc h
  exact unparts (wk q (.code Len.yN Len.yB 1 (some .int))) (wks q (.initialized Len.yN.cls :: Len.site))
theorem movedLen {Z s : State} {a0 args : Array Value} (hZ : Z.Warmed39 s.vm) (hw : ∀ d ∈ wordsLen, d.before a0 Z = true) : ∀ d ∈ wordsLen, d.before args s = true := fun d hd => by
  have q := hw d hd
  have t : ∀ d ∈ wordsLen, d = .arrayClass .byte ∨ (d.onTables && d.keepsFace) = true := by decide +kernel
  rcases t d hd with rfl | t
  · exact RoadKit.mvA hZ q
  · exact RoadKit.mv hZ q t
def wideBytes : List Int32 → List Value
  | [] => []
  | c :: cs => .int (lo8 c) :: .int (hi8 c) :: wideBytes cs
theorem wide_lo (d : Value) : ∀ (cs : List Int32) (j : Nat), j < cs.length → (wideBytes cs).getD (2 * j) d = .int (lo8 (cs.getD j 0))
  | [], j, h => absurd h (Nat.not_lt_zero j)
  | c :: cs, 0, _ => rfl
  | c :: cs, j + 1, h => by
    have q := wide_lo d cs j (by simpa using h)
    rw [show 2 * (j + 1) = 2 * j + 1 + 1 from by omega]
    simpa [wideBytes] using q
theorem wide_hi (d : Value) : ∀ (cs : List Int32) (j : Nat), j < cs.length → (wideBytes cs).getD (2 * j + 1) d = .int (hi8 (cs.getD j 0))
  | [], j, h => absurd h (Nat.not_lt_zero j)
  | c :: cs, 0, _ => rfl
  | c :: cs, j + 1, h => by
    have q := wide_hi d cs j (by simpa using h)
    rw [show 2 * (j + 1) + 1 = 2 * j + 1 + 1 + 1 from by omega]
    simpa [wideBytes] using q
theorem low_at (d : Value) (cs : List Int32) (j : Nat) (h : j < cs.length) : (cs.map fun c => Value.int (lo8 c)).getD j d = .int (lo8 (cs.getD j 0)) := by
  simp [List.getD_eq_getElem?_getD, h]
def CodA (cs : List Int32) (cd N2 : Int32) (vs : List Value) : Prop := (cd = 0 ∧ N2 = Int32.ofNat cs.length ∧ vs = (cs.map fun c => Value.int (lo8 c)) ∧ ∀ c ∈ cs, ¬ 255 < c) ∨ (cd = 1 ∧ N2 = Int32.ofNat (2 * cs.length) ∧ vs = wideBytes cs ∧ ∃ c ∈ cs, 255 < c)
theorem CodA.cod {cs : List Int32} {cd N2 : Int32} {vs : List Value} {V : Cell} (h : CodA cs cd N2 vs) (hn : 2 * cs.length < 2 ^ 31) (hs : V.slots.size = N2.toNatClampNeg) (hv : RoadKit.Has V vs (.int 0)) : Cod cd cs.length (fun j => cs.getD j 0) V := by
  rcases h with ⟨rfl, rfl, rfl, h⟩ | ⟨rfl, rfl, rfl, c, hc, hw⟩
  · rw [n32 (by omega)] at hs
    exact Or.inl ⟨rfl, hs, fun j hj => ⟨by rw [hv j (by omega), low_at _ _ _ hj], by
      have e : cs.getD j 0 = cs[j] := by simp [List.getD_eq_getElem?_getD, hj]
      show ¬ 255 < cs.getD j 0
      rw [e]; exact h _ (List.getElem_mem _)⟩⟩
  · rw [n32 (by omega)] at hs
    obtain ⟨j, hj, rfl⟩ := List.getElem_of_mem hc
    exact Or.inr ⟨rfl, hs, fun j hj => ⟨by rw [hv _ (by omega), wide_lo _ _ _ hj], by rw [hv _ (by omega), wide_hi _ _ _ hj]⟩, j, hj, by
      have e : cs.getD j 0 = cs[j] := by simp [List.getD_eq_getElem?_getD, hj]
      show 255 < cs.getD j 0
      rw [e]; exact hw⟩
theorem strObj {Z U : State} {a0 : Array Value} {kI : Nat} (wi : (Jvm.Cond.instantiable ST kI).before a0 Z = true) (al : Z.vm.Alike U.vm) {x : Addr} {v0 c0 : Value} (E : RoadKit.Exa Z U.heap x ST) (V : RoadKit.Fld Z U.heap x ST "value" "[B" v0) (C : RoadKit.Fld Z U.heap x ST "coder" "B" c0) :
    ∃ (D : Cell) (fV fC : Field), Blank ST x D U ∧ Found ST "value" "[B" fV U ∧ Found ST "coder" "B" fC U ∧ D.slots[fV.slot]? = some v0 ∧ D.slots[fC.slot]? = some c0 ∧ RoadKit.slotOf Z ST "value" "[B" = fV.slot ∧ RoadKit.slotOf Z ST "coder" "B" = fC.slot := by
  obtain ⟨D, cfV, kV, iV, fV, hD, gV, stV, knV, obV, asV, slV⟩ := V
  obtain ⟨D', cfC, kC, iC, fC, hD', gC, stC, -, -, asC, slC⟩ := C
  cases hD.symm.trans hD'
  obtain ⟨D2, kD, e1, e2, e3, e4, e5⟩ := E
  cases hD.symm.trans e1
  obtain ⟨c2, k2, i1, i2, i3, -⟩ := Cond.instantiable_spec wi
  cases e2.symm.trans i1
  cases e3.symm.trans i2
  obtain ⟨kU, u1, u2⟩ := al.2.2 _ _ e3
  exact ⟨D, fV, fC, ⟨hD, ⟨knV, fun q hq => by rw [hq] at obV; cases obV⟩, by rw [al.findClass]; exact e2, kU, u1, by rw [u2]; exact i3, by rw [u2]; exact e5 i3⟩, ⟨SBG.found_only al ⟨cfV, kV, iV, gV⟩, stV⟩, ⟨SBG.found_only al ⟨cfC, kC, iC, gC⟩, stC⟩, slV, slC, by simp [RoadKit.slotOf, gV], by simp [RoadKit.slotOf, gC]⟩
theorem sta_is {Z U : State} (al : Z.vm.Alike U.vm) {C n d : String} {v : Value} (S : RoadKit.Sta Z U.heap C n d v) : StaticIs U C n d v := by
  obtain ⟨cfS, iS, kS, fS, st, cS, t1, t2, t3, t4, t5, t6, t7⟩ := S
  exact StaticIs.there (s := { Z with heap := U.heap }) ⟨cfS, iS, kS, fS, st, cS, t1, t2, t3, t4, t5, (fun q => by rw [q] at t6; cases t6), t7⟩ al rfl
theorem lenW {p : Program} {l : Launch} {e : Env} {R : Room} {s : State} {args : Array Value} {below : List Frame} {len W : Nat} {Z : State} {a0 : Array Value} {h : Heap} (hZ : Z.Warmed39 s.vm) (hw : ∀ d ∈ wordsLen, d.before a0 Z = true) {kI : Nat} (wi : (Jvm.Cond.instantiable ST kI).before a0 Z = true)
    {x t : Addr} {kb : ClassId} {cs : List Int32} {cd N2 z : Int32} {vs : List Value} (E : RoadKit.Exa Z h x ST) (V : RoadKit.Fld Z h x ST "value" "[B" (.ref t)) (C : RoadKit.Fld Z h x ST "coder" "B" (.int cd)) (K : RoadKit.Arv Z h t kb .byte N2 vs (.int 0)) (hc : CodA cs cd N2 vs) (hb : ∀ c ∈ cs, ¬ c < 0 ∧ ¬ (65535 : Int32) < c)
    (S : RoadKit.Sta Z h ST "COMPACT_STRINGS" "Z" (.int z)) (hz : ¬ z = 0) (l2 : cs.length ≤ 4000) (hfr : 2 ≤ R.frames) (hlo : W + 25 ≤ R.locals) :
    Back l R p e below s args (⟨"java/lang/String", "length", "()I"⟩ : MethodName) len W (fun P a => a = #[.ref x] ∧ P.U.heap = h ∧ P.cells + 0 ≤ R.cells ∧ P.slots + 0 ≤ R.slots)
      (fun P _ v B => ∃ L, (v = some (.int (Int32.ofNat cs.length)) ∧ L = [] ∧ B.U.heap = h) ∧ B.locs = P.locs ++ L ∧ B.cells = P.cells + 0 ∧ B.slots = P.slots + 0) := by
  obtain ⟨A, K1, K2, K3, K4, K5, K6⟩ := K
  have hcod := hc.cod (by omega) K3 K5
  intro m meth c P g ig mk a X hg hsize hdg hW hn hp'
  obtain ⟨rfl, rfl, r1, r2⟩ := hp'
  have al : Z.vm.Alike P.U.vm := hZ.alike.trans X.warmed.alike
  obtain ⟨D, fV, fC, hB, F1, F2, g1, g2, -, -⟩ := strObj wi al E V C
  have hx : Txt x t A cd cs.length (fun j => cs.getD j 0) P.U := ⟨⟨_, hB.2.2.1, D, hB.1, rfl, by cases q : D.vm <;> first | rfl | exact absurd q (hB.2.1.2 _)⟩, Has.of hB F1 g1, Has.of hB F2 g2, ⟨K1.1, State.isArrayOf_alike al K1.2.1, K1.2.2, by rcases hcod with ⟨-, q, -⟩ | ⟨-, q, -⟩ <;> omega⟩, hcod, fun j hj => by
    have e : cs.getD j 0 = cs[j] := by simp [List.getD_eq_getElem?_getD, hj]
    show ¬ cs.getD j 0 < 0 ∧ ¬ 65535 < cs.getD j 0
    rw [e]; exact hb _ (List.getElem_mem _)⟩
  obtain ⟨v, B, X', ⟨⟨hv, hh⟩, hl, hk, hs⟩, st⟩ := Len.pays x t A cd cs.length (fun j => cs.getD j 0) z (tabLen_of (movedLen hZ hw)) hfr hlo m meth c P g ig mk _ X hg hsize hdg hW hn ⟨r1, r2, rfl, hx, sta_is al S, hz⟩
  exact ⟨v, B, X', ⟨[], ⟨hv, rfl, hh⟩, hl, hk, hs⟩, st⟩
end StrChars.Road
namespace StrChars.Road
open Jvm Sem ClassFile Op Lib Jvm.Stand Jvm.Free Jvm.Free.XT
open Jvm.Lib.Cold (StaticIs)
theorem txt_of {Z U : State} {a0 : Array Value} {kI : Nat} (wi : (Jvm.Cond.instantiable ST kI).before a0 Z = true) (al : Z.vm.Alike U.vm) {x t : Addr} {kb : ClassId} {cs : List Int32} {cd N2 : Int32} {vs : List Value} (E : RoadKit.Exa Z U.heap x ST) (V : RoadKit.Fld Z U.heap x ST "value" "[B" (.ref t)) (C : RoadKit.Fld Z U.heap x ST "coder" "B" (.int cd)) (K : RoadKit.Arv Z U.heap t kb .byte N2 vs (.int 0)) (hc : CodA cs cd N2 vs) (hb : ∀ c ∈ cs, ¬ c < 0 ∧ ¬ (65535 : Int32) < c) (l2 : cs.length ≤ 4000) :
    ∃ A, Txt x t A cd cs.length (fun j => cs.getD j 0) U := by
  obtain ⟨A, K1, K2, K3, K4, K5, K6⟩ := K
  have hcod := hc.cod (by omega) K3 K5
  obtain ⟨D, fV, fC, hB, F1, F2, g1, g2, -, -⟩ := strObj wi al E V C
  exact ⟨A, ⟨_, hB.2.2.1, D, hB.1, rfl, by cases q : D.vm <;> first | rfl | exact absurd q (hB.2.1.2 _)⟩, Has.of hB F1 g1, Has.of hB F2 g2, ⟨K1.1, State.isArrayOf_alike al K1.2.1, K1.2.2, by rcases hcod with ⟨-, q, -⟩ | ⟨-, q, -⟩ <;> omega⟩, hcod, fun j hj => by
    have e : cs.getD j 0 = cs[j] := by simp [List.getD_eq_getElem?_getD, hj]
    show ¬ cs.getD j 0 < 0 ∧ ¬ 65535 < cs.getD j 0
    rw [e]; exact hb _ (List.getElem_mem _)⟩
end StrChars.Road
namespace StrChars
open Jvm Sem ClassFile Op Lib Jvm.Stand Jvm.Free.XT Jvm.Free.ALB Jvm.Free.JM Jvm.Free
open Jvm.Lib.Cold (StaticIs)
namespace ChN
def yN : MethodName := ⟨"java/lang/String", "charAt", "(I)C"⟩
abbrev yB : ByteArray := jdk_42_method_56_code
theorem d0 : decode yB 0 = .ok (.aload_n 0, 1) := by decide +kernel
theorem d1 : decode yB 1 = .ok (.invokevirtual 492, 3) := by decide +kernel
theorem d4 : decode yB 4 = .ok (.ifCond (.eq) 12, 3) := by decide +kernel
theorem d7 : decode yB 7 = .ok (.aload_n 0, 1) := by decide +kernel
theorem d8 : decode yB 8 = .ok (.getfield 9, 3) := by decide +kernel
theorem d11 : decode yB 11 = .ok (.iload_n 1, 1) := by decide +kernel
theorem d12 : decode yB 12 = .ok (.invokestatic 495, 3) := by decide +kernel
theorem d15 : decode yB 15 = .ok (.ireturn, 1) := by decide +kernel
def site : List Cond := [.fieldLink "java/lang/String" 9 "java/lang/String" "value" "[B", IsL.tab, LChA.tab] ++ virtW "java/lang/String" 492 "java/lang/String" IsL.yN IsL.yN ++ staticW "java/lang/String" 495 LChA.yN
def tab : Cond := tabOf yN yB 2 (some .char) site
def P (x t : Addr) (V : Cell) (n : Nat) (f : Nat → Int32) (z : Int32) (fm : Value) (i : Nat) (args : Array Value) (s : State) : Prop := args = #[.ref x, .int (Int32.ofNat i)] ∧ Txt x t V 0 n f s ∧ i < n ∧ StaticIs s "java/lang/String" "COMPACT_STRINGS" "Z" (.int z) ∧ ¬ z = 0 ∧ StaticIs s "jdk/internal/util/Preconditions" "SIOOBE_FORMATTER" "Ljava/util/function/BiFunction;" fm ∧ fm.isRef = true
def E (f : Nat → Int32) (i : Nat) (r : Option Value) (s u : State) : Prop := XT.PureE (some (.int (f i))) r s u
theorem law (l : Launch) (x t : Addr) (V : Cell) (n : Nat) (f : Nat → Int32) (z : Int32) (fm : Value) (i : Nat) : Law l yN 2 1 3 40 yB 2 (some .char) site (P x t V n f z fm i) (E f i) [] 0 0 := by
  refine Law.of_walk (plainFor_of_name (by decide +kernel)) (by decide +kernel) (by decide +kernel) (by decide) (fun _ _ h => by rw [h.1]; rfl) (fun _ U U' hal hh h => ⟨h.1, h.2.1.mv hal hh, h.2.2.1, h.2.2.2.1.there hal hh, h.2.2.2.2.1, h.2.2.2.2.2.1.there hal hh, h.2.2.2.2.2.2⟩) (fun r U U' V V' h1 hal h2 h => XT.PureE.mv r U U' V V' h1 hal h2 h) ?_
  intro p e s m args below meth c s₁ X0 hexec hbytes hml hret hlk hnm hown hh0 W hP
  obtain ⟨rfl, hx, hi, s1, hz, s3, rf⟩ := hP
  have v31 := hx.2.2.2.1.2.2.2
  have hr := hx.2.2.2.2.2 i hi
  have hx0 := hx.mv X0.warmed.alike hh0
  have c1 : Steps p.tables e below (s₁.setTop (entryFrame m #[.ref x, .int (Int32.ofNat i)] 2)) (s₁.setTop (mkF m 1 #[.val (.ref x), .val (.int (Int32.ofNat i))] [.ref x])) := Steps.trans (entry rfl) (by
    show Steps p.tables e below (s₁.setTop (mkF m 0 #[.val (.ref x), .val (.int (Int32.ofNat i))] [])) _
    refine XS.aloadN X0.here hexec rfl (hb hbytes d0) rfl rfl ?_
    exact Steps.refl _)
  obtain ⟨v2, T2, X2, E2, g2⟩ := X0.callV hexec (IsL.law l x 0 z) hown (wks W (virtW "java/lang/String" 492 "java/lang/String" IsL.yN IsL.yN)) rfl (by decide) (wk W IsL.tab) (W := 0) (Nat.le_of_ble_eq_true rfl) (Nat.le_of_ble_eq_true rfl) (Nat.le_refl _) (Nat.le_refl _) (hx0.1.fc X0.warmed.alike) hx0.1.is (g := (mkF m 1 #[.val (.ref x), .val (.int (Int32.ofNat i))] [.ref x])) rfl (by rw [hml]; rfl) c1 (argsL := []) (rest := []) rfl rfl (by show 2 * 0 + 0 ≤ _; decide) (hb hbytes d1) (⟨rfl, hx0.2.2.1, hx.2.2.2.2.1.cd, s1.there X0.warmed.alike hh0, hz⟩)
  obtain ⟨rfl, q2⟩ := E2
  have hh2 := q2.trans hh0
  have hx2 := hx.mv X2.warmed.alike hh2
  obtain ⟨-, k1, k2⟩ | ⟨k0, -⟩ := hx.2.2.2.2.1
  · have c3 : Steps p.tables e below (s₁.setTop (entryFrame m #[.ref x, .int (Int32.ofNat i)] 2)) (T2.setTop (mkF m 8 #[.val (.ref x), .val (.int (Int32.ofNat i))] [.ref x])) := Steps.trans g2 (by
      refine XS.ifNo X2.here hexec rfl (hb hbytes d4) rfl (i0_eq_f (by decide)) ?_
      refine XS.aloadN X2.here hexec rfl (hb hbytes d7) rfl rfl ?_
      exact Steps.refl _)
    obtain ⟨T4, X4, q4, st4⟩ := X2.hget hexec hown (wk W (.fieldLink "java/lang/String" 9 "java/lang/String" "value" "[B")) hx2.2.1 (g := (mkF m 8 #[.val (.ref x), .val (.int (Int32.ofNat i))] [.ref x])) rfl (rest := []) rfl (hb hbytes d8)
    have hh4 := q4.trans hh2
    have c5 : Steps p.tables e below (s₁.setTop (entryFrame m #[.ref x, .int (Int32.ofNat i)] 2)) (T4.setTop (mkF m 12 #[.val (.ref x), .val (.int (Int32.ofNat i))] [.int (Int32.ofNat i), .ref t])) := (c3.trans (st4 _ (Steps.refl _))).trans (by
      refine XS.iloadN X4.here hexec rfl (hb hbytes d11) rfl ?_
      exact Steps.refl _)
    obtain ⟨v6, T6, X6, E6, g6⟩ := X4.callS hexec (LChA.law l t V i (lo8 (f i)) fm) hown (wks W (staticW "java/lang/String" 495 LChA.yN)) (wk W LChA.tab) (W := 0) (Nat.le_of_ble_eq_true rfl) (Nat.le_of_ble_eq_true rfl) (Nat.le_refl _) (Nat.le_refl _) (g := (mkF m 12 #[.val (.ref x), .val (.int (Int32.ofNat i))] [.int (Int32.ofNat i), .ref t])) rfl (by rw [hml]; rfl) c5 (argsL := [.ref t, .int (Int32.ofNat i)]) (rest := []) rfl rfl (by show 2 * 0 + 0 ≤ _; decide) (hb hbytes d12) (⟨rfl, hx.2.2.2.1.mv X4.warmed.alike hh4, (k2 i hi).1, s3.there X4.warmed.alike hh4, rf⟩)
    obtain ⟨rfl, q6⟩ := E6
    rw [chr8_lo8 hr.1 (k2 i hi).2] at g6
    exact ⟨T6, some (.int (f i)), _, _, _, X6, rfl, rfl, rfl, (fun h => by cases h), ⟨rfl, q6.trans hh4⟩, fun fs hl => Steps.trans g6 (X6.ireturnOut hexec hret (narrow_ch hr.1 hr.2) (Or.inr (Or.inr (Or.inr (Or.inl rfl)))) (hb hbytes d15) hl)⟩
  · exact absurd k0 (by decide)
theorem pays {l : Launch} {R : Room} {p : Program} {e : Env} {below : List Frame} {s : State} {sargs : Array Value} {len W : Nat} (x t : Addr) (V : Cell) (n : Nat) (f : Nat → Int32) (z : Int32) (fm : Value) (i : Nat) (htab : tab.before sargs s = true) (hfr : 4 ≤ R.frames) (hlo : W + 53 ≤ R.locals) :
    Back l R p e below s sargs yN len W (fun A₁ a₁ => A₁.cells + 0 ≤ R.cells ∧ A₁.slots + 0 ≤ R.slots ∧ P x t V n f z fm i a₁ A₁.U) (fun A₁ _ v₁ B₁ => E f i v₁ A₁.U B₁.U ∧ B₁.locs = A₁.locs ++ [] ∧ B₁.cells = A₁.cells + 0 ∧ B₁.slots = A₁.slots + 0) :=
  (law l x t V n f z fm i).pays htab hfr (by omega)
end ChN
end StrChars
namespace StrChars.Road
open Jvm Sem ClassFile Op Lib Jvm.Stand Jvm.Free Jvm.Free.XT
open Jvm.Lib.Cold (StaticIs)
abbrev wordsChN : List Jvm.Cond := [.code ChN.yN ChN.yB 2 (some .char), .initialized ST, .fieldLink ST 9 ST "value" "[B", .fieldLink ST 38 ST "COMPACT_STRINGS" "Z", .fieldLink ST 15 ST "coder" "B", .code IsL.yN IsL.yB 1 (some .boolean), .methodLink ST 492 IsL.yN, .declares IsL.yN, .selects ST IsL.yN IsL.yN, .instanceMethod IsL.yN,
  .methodLink ST 495 LChA.yN, .static LChA.yN, .code LChA.yN LChA.yB 2 (some .char), .initialized "java/lang/StringLatin1", .methodLink "java/lang/StringLatin1" 9 JO.Str_checkIndex.yN, .static JO.Str_checkIndex.yN, .code JO.Str_checkIndex.yN JO.Str_checkIndex.yB 2 none,
  .fieldLink ST 1053 "jdk/internal/util/Preconditions" "SIOOBE_FORMATTER" "Ljava/util/function/BiFunction;", .methodLink ST 1059 JC.PreCheck.yN, .static JC.PreCheck.yN, .code JC.PreCheck.yN JC.PreCheck.yB 3 (some .int), .initialized "jdk/internal/util/Preconditions"]
theorem tabChN_of {a : Array Value} {s : State} (h : ∀ w ∈ wordsChN, w.before a s = true) : ChN.tab.before a s = true := by
  have hp : JC.PreCheck.tab.before a s = true := unparts (wk h (.code JC.PreCheck.yN JC.PreCheck.yB 3 (some .int))) (wks h (.initialized JC.PreCheck.yN.cls :: JC.PreCheck.site))
  have qk := consq hp h
  have hk : JO.Str_checkIndex.tab.before a s = true := unparts (wk qk (.code JO.Str_checkIndex.yN JO.Str_checkIndex.yB 2 none)) (wks qk (.initialized JO.Str_checkIndex.yN.cls :: JO.Str_checkIndex.site))
  have ql := consq hk h
  have hl : LChA.tab.before a s = true := unparts (wk ql (.code LChA.yN LChA.yB 2 (some .char))) (wks ql (.initialized LChA.yN.cls :: LChA.site))
  have hi : IsL.tab.before a s = true := unparts (wk h (.code IsL.yN IsL.yB 1 (some .boolean))) (wks h (.initialized IsL.yN.cls :: IsL.site))
  have q := consq hi (consq hl h)
  exact unparts (wk q (.code ChN.yN ChN.yB 2 (some .char))) (wks q (.initialized ChN.yN.cls :: ChN.site))
theorem movedChN {Z s : State} {a0 args : Array Value} (hZ : Z.Warmed39 s.vm) (hw : ∀ d ∈ wordsChN, d.before a0 Z = true) : ∀ d ∈ wordsChN, d.before args s = true := fun d hd => by
  have t : ∀ d ∈ wordsChN, (d.onTables && d.keepsFace) = true := by decide +kernel
  exact RoadKit.mv hZ (hw d hd) (t d hd)
theorem chN {p : Program} {l : Launch} {e : Env} {R : Room} {s : State} {args : Array Value} {below : List Frame} {len W : Nat} {Z : State} {a0 : Array Value} {h : Heap} (hZ : Z.Warmed39 s.vm) (hw : ∀ d ∈ wordsChN, d.before a0 Z = true) {kI : Nat} (wi : (Jvm.Cond.instantiable ST kI).before a0 Z = true)
    {x t : Addr} {kb : ClassId} {cs : List Int32} {N2 z : Int32} {vs : List Value} {fm : Value} {i : Nat} {j : Int32} (E : RoadKit.Exa Z h x ST) (V : RoadKit.Fld Z h x ST "value" "[B" (.ref t)) (C : RoadKit.Fld Z h x ST "coder" "B" (.int 0)) (K : RoadKit.Arv Z h t kb .byte N2 vs (.int 0)) (hc : CodA cs 0 N2 vs) (hb : ∀ c ∈ cs, ¬ c < 0 ∧ ¬ (65535 : Int32) < c)
    (S : RoadKit.Sta Z h ST "COMPACT_STRINGS" "Z" (.int z)) (hz : ¬ z = 0) (F : RoadKit.Sta Z h "jdk/internal/util/Preconditions" "SIOOBE_FORMATTER" "Ljava/util/function/BiFunction;" fm) (rf : fm.isRef = true) (l2 : cs.length ≤ 4000) (hi : i < cs.length) (hj : j = Int32.ofNat i) (hfr : 4 ≤ R.frames) (hlo : W + 53 ≤ R.locals) :
    Back l R p e below s args (⟨"java/lang/String", "charAt", "(I)C"⟩ : MethodName) len W (fun P a => a = #[.ref x, .int j] ∧ P.U.heap = h ∧ P.cells + 0 ≤ R.cells ∧ P.slots + 0 ≤ R.slots)
      (fun P _ v B => ∃ L, (v = some (.int (cs.getD i 0)) ∧ L = [] ∧ B.U.heap = h) ∧ B.locs = P.locs ++ L ∧ B.cells = P.cells + 0 ∧ B.slots = P.slots + 0) := by
  subst hj
  intro m meth c P g ig mk a X hg hsize hdg hW hn hp'
  obtain ⟨rfl, rfl, r1, r2⟩ := hp'
  have al : Z.vm.Alike P.U.vm := hZ.alike.trans X.warmed.alike
  obtain ⟨A, hx⟩ := txt_of wi al E V C K hc hb l2
  obtain ⟨v, B, X', ⟨⟨hv, hh⟩, hl, hk, hs⟩, st⟩ := ChN.pays x t A cs.length (fun j => cs.getD j 0) z fm i (tabChN_of (movedChN hZ hw)) hfr hlo m meth c P g ig mk _ X hg hsize hdg hW hn ⟨r1, r2, rfl, hx, hi, sta_is al S, hz, sta_is al F, rf⟩
  exact ⟨v, B, X', ⟨[], ⟨hv, rfl, hh⟩, hl, hk, hs⟩, st⟩
theorem codOf {cs : List Int32} {n : Nat} (hn : cs.length = n) (hb : ∀ c ∈ cs, ¬ 255 < c) : CodA cs 0 (Int32.ofNat n) ((cs.map lo8).map Value.int) := Or.inl ⟨rfl, by rw [hn], by simp [List.map_map, Function.comp_def], hb⟩
end StrChars.Road
end Jvm.Pilot.@@N@@

namespace Jvm.Pilot.@@N@@
open Jvm Jvm.ClassFile Sem Op Lib Jvm.Free Jvm.Stand Jvm.LawKit Jvm.RoadKit Bundle Jvm.Pilot.@@N@@.Jvm.D
abbrev own_S (p : Program) (e : Env) (below : List Frame) (T : State) (f : JFrame) (t : State) : Prop := Steps p.tables e below (T.setTop f) t

theorem own_fin {c : Int32} {N : Nat} (h0 : 0 ≤ c.toInt) (h : c.toInt < N) : ∃ n : Fin N, c = Int32.ofInt (n.1 : Int) :=
  ⟨⟨c.toInt.toNat, by omega⟩, by rw [Int.toNat_of_nonneg h0, Int32.ofInt_toInt]⟩

theorem own_up (cs : List Int32) (h : ∀ c ∈ cs, ¬ c < 0 ∧ ¬ (255 : Int32) < c) : ∀ c ∈ cs, ¬ c < 0 ∧ ¬ (65535 : Int32) < c := fun c hc => ⟨(h c hc).1, fun q => (h c hc).2 (by rw [Int32.lt_iff_toInt_lt] at q ⊢; have e1 : (65535 : Int32).toInt = 65535 := rfl; have e2 : (255 : Int32).toInt = 255 := rfl; omega)⟩

abbrev own_us (z : Int64) (k : Int32) : Int64 := ((z.toUInt64 >>> (k &&& 0x3f).toInt64.toUInt64).toInt64)
abbrev own_c (p : Int32) : Int32 := (p.toUInt32.toUInt16.toUInt32.toInt32)
/-- a digit's sign -/
def own_hx (d : Int32) : Int32 := if d < (10 : Int32) then nar .char (own_c ((48 : Int32) + d)) else nar .char (own_c ((97 : Int32) + (d - (10 : Int32))))
def own_dg (v : Int64) (k : Int32) : Int32 := (own_us v k &&& (15 : Int64)).toInt32
def own_hex (v : Int64) (k : Int32) : Int32 := own_hx (own_dg v k)
/-- a sign's digit -/
def own_val (c : Int32) : Int32 := if (57 : Int32) < c then ((c - (97 : Int32)) + (10 : Int32)) else (c - (48 : Int32))
theorem own_dgr (v : Int64) (k : Int32) : 0 ≤ (own_dg v k).toInt ∧ (own_dg v k).toInt < 16 ∧ (own_dg v k).toInt64 = (own_us v k &&& (15 : Int64)) := by
  have h := c_maskL (own_us v k) (15 : Int64) 4 (by decide) (by decide)
  have h1 := c_l2i (own_us v k &&& (15 : Int64))
  have r := rng32 (own_dg v k)
  have q : (own_dg v k).toInt = (own_us v k &&& (15 : Int64)).toInt := by
    unfold own_dg at r ⊢
    omega
  refine ⟨by omega, by omega, ?_⟩
  apply Int64.toInt_inj.mp
  rw [c_i2l, q]
theorem own_hx16 : ∀ n : Fin 16, ¬ own_hx (Int32.ofInt (n.1 : Int)) < (48 : Int32) ∧ ¬ (102 : Int32) < own_hx (Int32.ofInt (n.1 : Int)) ∧ ((57 : Int32) < own_hx (Int32.ofInt (n.1 : Int)) → ¬ own_hx (Int32.ofInt (n.1 : Int)) < (97 : Int32)) ∧ own_val (own_hx (Int32.ofInt (n.1 : Int))) = Int32.ofInt (n.1 : Int) ∧ own_c (own_hx (Int32.ofInt (n.1 : Int))) = own_hx (Int32.ofInt (n.1 : Int)) ∧ ¬ own_hx (Int32.ofInt (n.1 : Int)) < 0 ∧ ¬ (255 : Int32) < own_hx (Int32.ofInt (n.1 : Int)) := by decide +kernel
theorem own_hxs (v : Int64) (k : Int32) : ¬ own_hex v k < (48 : Int32) ∧ ¬ (102 : Int32) < own_hex v k ∧ ((57 : Int32) < own_hex v k → ¬ own_hex v k < (97 : Int32)) ∧ own_val (own_hex v k) = own_dg v k ∧ own_c (own_hex v k) = own_hex v k ∧ ¬ own_hex v k < 0 ∧ ¬ (255 : Int32) < own_hex v k := by
  obtain ⟨h0, h1, -⟩ := own_dgr v k
  obtain ⟨n, e⟩ := own_fin (N := 16) h0 (by omega)
  unfold own_hex
  rw [e]
  exact own_hx16 n
def own_acc (a : Int64) (c : Int32) : Int64 := ((a <<< ((4 : Int32) &&& 0x3f).toInt64) ||| (own_val c).toInt64)
theorem own_bv (z : Int64) (k : Int32) (n : Nat) (h : ((k &&& 0x3f).toInt64.toBitVec % 64#64).toNat = n) : (own_us z k).toBitVec = z.toBitVec >>> n := by
  subst h; rfl
theorem own_glue (x : BitVec 64) : ((x >>> 4) <<< 4) ||| (x &&& 15#64) = x := by
  apply BitVec.eq_of_getLsbD_eq
  intro i hi
  have h15 : (15#64).getLsbD i = decide (i < 4) := by
    rw [show (15#64 : BitVec 64) = BitVec.allOnes 64 >>> 60 from by decide, BitVec.getLsbD_ushiftRight, BitVec.getLsbD_allOnes]
    simp; omega
  simp only [BitVec.getLsbD_or, BitVec.getLsbD_shiftLeft, BitVec.getLsbD_ushiftRight, BitVec.getLsbD_and, h15]
  by_cases q : i < 4
  · simp [q, hi]
  · have : 4 + (i - 4) = i := by omega
    simp [q, hi, this]
theorem own_step (v : Int64) (k j : Int32) (n m : Nat) (hk : ((k &&& 0x3f).toInt64.toBitVec % 64#64).toNat = n) (hj : ((j &&& 0x3f).toInt64.toBitVec % 64#64).toNat = m) (hm : m = n + 4) : own_acc (own_us v j) (own_hex v k) = own_us v k := by
  unfold own_acc
  rw [(own_hxs v k).2.2.2.1, (own_dgr v k).2.2]
  apply Int64.toBitVec_inj.mp
  rw [Int64.toBitVec_or, Int64.toBitVec_and, own_bv v k n hk]
  have e : (own_us v j <<< ((4 : Int32) &&& 0x3f).toInt64).toBitVec = (own_us v j).toBitVec <<< 4 := rfl
  rw [e, own_bv v j m hj, hm, BitVec.shiftRight_add]
  exact own_glue _
theorem own_first (v : Int64) : own_acc (0 : Int64) (own_hex v (60 : Int32)) = own_us v (60 : Int32) := by
  unfold own_acc
  rw [(own_hxs v 60).2.2.2.1, (own_dgr v 60).2.2]
  apply Int64.toBitVec_inj.mp
  rw [Int64.toBitVec_or, Int64.toBitVec_and, own_bv v 60 60 (by decide)]
  have e : ((0 : Int64) <<< ((4 : Int32) &&& 0x3f).toInt64).toBitVec = 0#64 := by decide
  rw [e, BitVec.zero_or]
  have g := own_glue (v.toBitVec >>> 60)
  rw [← BitVec.shiftRight_add, show (60 + 4 : Nat) = 64 from rfl, BitVec.ushiftRight_eq_zero (by decide), BitVec.zero_shiftLeft, BitVec.zero_or] at g
  exact g
theorem own_last (v : Int64) : own_us v (0 : Int32) = v := by
  apply Int64.toBitVec_inj.mp
  rw [own_bv v 0 0 (by decide)]
  simp

theorem own_parse (v : Int64) : own_acc (own_acc (own_acc (own_acc (own_acc (own_acc (own_acc (own_acc (own_acc (own_acc (own_acc (own_acc (own_acc (own_acc (own_acc (own_acc ((0 : Int64)) (own_hex v (60 : Int32))) (own_hex v (56 : Int32))) (own_hex v (52 : Int32))) (own_hex v (48 : Int32))) (own_hex v (44 : Int32))) (own_hex v (40 : Int32))) (own_hex v (36 : Int32))) (own_hex v (32 : Int32))) (own_hex v (28 : Int32))) (own_hex v (24 : Int32))) (own_hex v (20 : Int32))) (own_hex v (16 : Int32))) (own_hex v (12 : Int32))) (own_hex v (8 : Int32))) (own_hex v (4 : Int32))) (own_hex v (0 : Int32)) = v := by
  rw [own_first, own_step v 56 60 56 60 (by decide) (by decide) rfl, own_step v 52 56 52 56 (by decide) (by decide) rfl, own_step v 48 52 48 52 (by decide) (by decide) rfl, own_step v 44 48 44 48 (by decide) (by decide) rfl, own_step v 40 44 40 44 (by decide) (by decide) rfl, own_step v 36 40 36 40 (by decide) (by decide) rfl, own_step v 32 36 32 36 (by decide) (by decide) rfl, own_step v 28 32 28 32 (by decide) (by decide) rfl, own_step v 24 28 24 28 (by decide) (by decide) rfl, own_step v 20 24 20 24 (by decide) (by decide) rfl, own_step v 16 20 16 20 (by decide) (by decide) rfl, own_step v 12 16 12 16 (by decide) (by decide) rfl, own_step v 8 12 8 12 (by decide) (by decide) rfl, own_step v 4 8 4 8 (by decide) (by decide) rfl, own_step v 0 4 0 4 (by decide) (by decide) rfl, own_last]

theorem d_method_3_0 : decode method_3_code 0 = .ok (.lload_n 0, 1) := by decide +kernel
theorem d_method_3_1 : decode method_3_code 1 = .ok (.iload_n 2, 1) := by decide +kernel
theorem d_method_3_2 : decode method_3_code 2 = .ok (.lushr, 1) := by decide +kernel
theorem d_method_3_3 : decode method_3_code 3 = .ok (.ldc2_w 34, 3) := by decide +kernel
theorem d_method_3_6 : decode method_3_code 6 = .ok (.land, 1) := by decide +kernel
theorem d_method_3_7 : decode method_3_code 7 = .ok (.l2i, 1) := by decide +kernel
theorem d_method_3_8 : decode method_3_code 8 = .ok (.istore_n 3, 1) := by decide +kernel
theorem d_method_3_9 : decode method_3_code 9 = .ok (.iload_n 3, 1) := by decide +kernel
theorem d_method_3_10 : decode method_3_code 10 = .ok (.bipush 10, 2) := by decide +kernel
theorem d_method_3_12 : decode method_3_code 12 = .ok (.if_icmp .ge 9, 3) := by decide +kernel
theorem d_method_3_15 : decode method_3_code 15 = .ok (.bipush 48, 2) := by decide +kernel
theorem d_method_3_17 : decode method_3_code 17 = .ok (.iload_n 3, 1) := by decide +kernel
theorem d_method_3_18 : decode method_3_code 18 = .ok (.iadd, 1) := by decide +kernel
theorem d_method_3_19 : decode method_3_code 19 = .ok (.i2c, 1) := by decide +kernel
theorem d_method_3_20 : decode method_3_code 20 = .ok (.ireturn, 1) := by decide +kernel
theorem d_method_3_21 : decode method_3_code 21 = .ok (.bipush 97, 2) := by decide +kernel
theorem d_method_3_23 : decode method_3_code 23 = .ok (.iload_n 3, 1) := by decide +kernel
theorem d_method_3_24 : decode method_3_code 24 = .ok (.bipush 10, 2) := by decide +kernel
theorem d_method_3_26 : decode method_3_code 26 = .ok (.isub, 1) := by decide +kernel
theorem d_method_3_27 : decode method_3_code 27 = .ok (.iadd, 1) := by decide +kernel
theorem d_method_3_28 : decode method_3_code 28 = .ok (.i2c, 1) := by decide +kernel
theorem d_method_3_29 : decode method_3_code 29 = .ok (.ireturn, 1) := by decide +kernel
theorem pn_0 : plainName "com/example/dual_delivery/dualdelivery/model/ReceiptHandleParsePinLaw" = true := by first | (simp [plainName, overriddenIn]; done) | decide +kernel
theorem ef_rm2 (m : MethodId) (x0 : Int64) (x1 : Int32) : entryFrame m #[(.long x0), (.int x1)] 4 = mkF m 0 #[.val (.long x0), .second, .val (.int x1), .unset] [] := by first | (simp [entryFrame, mkF, argsToLocals, Value.category]; done) | rfl
def Q2 (Z : State) (q1 : Int64) (p2 : Int32) (h0 : Heap) (n0 : Nat) (v : Option Value) (h : Heap) (L : List Loc) : Prop := v = some (.int (own_hex q1 p2)) ∧ Fr n0 L ∧ h = h0
set_option maxRecDepth 65536 in
set_option maxHeartbeats 40000000 in
theorem rm2 (l : Launch) (Z : State) (a0 : Array Value) (hw : ∀ d ∈ tables_1, d.before a0 Z = true) (ws : List Jvm.Cond) (q1 : Int64) (p2 : Int32) (h0 : Heap) (n0 : Nat) (Z0 : n0 ≤ h0.size) :
    MetFree l (⟨"com/example/dual_delivery/dualdelivery/model/ReceiptHandleParsePinLaw", "hexDigit", "(JI)C"⟩ : MethodName) (head1 (Jvm.Cond.code (⟨"com/example/dual_delivery/dualdelivery/model/ReceiptHandleParsePinLaw", "hexDigit", "(JI)C"⟩ : MethodName) method_3_code 4 (some .char) :: ws) ({ frames := 0, cells := 0, slots := 0, locals := 0 } : Room)) (fun a U => a = #[(.long q1), (.int p2)] ∧ Z.Warmed39 U.vm ∧ U.heap = h0) (fun _ _ _ _ _ => True) (fun _ U o U' => ∃ v L, o = .returned v ∧ Q2 Z q1 p2 h0 n0 v U'.heap L ∧ FrameEnd U o U' L ({ frames := 0, cells := 0, slots := 0, locals := 0 } : Room).cells ({ frames := 0, cells := 0, slots := 0, locals := 0 } : Room).slots) := by
  refine MetFree.of_bodySF (plainFor_of_name pn_0) hisR ?_
  intro p e s m args below meth c s₁ Bd hml0 hP hK
  obtain ⟨rfl, hZ, hh⟩ := hP
  have hx := Bd.exec
  have hby := Bd.bytes
  have hml : c.maxLocals = 4 := hml0
  have hown : s.vm.findClass "com/example/dual_delivery/dualdelivery/model/ReceiptHandleParsePinLaw" = some m.cls := findClass_of_methodNamed Bd.named
  have hnm := (name_of_methodNamed Bd.named Bd.method).1
  have X0 : Stand p l e ({ frames := 0, cells := 0, slots := 0, locals := 0 } : Room) s m #[(.long q1), (.int p2)] below meth c s₁ [] 0 0 := Stand.of_body Bd
  have e0 : s₁.heap = h0 := by rw [← hh, Bd.state]; rfl
  have Nf0 := Fr.nil n0
  obtain ⟨Gl, hGl, kn0⟩ : ∃ Gl : State → Prop, (∀ t, Gl t → Steps p.tables e below (s₁.setTop (entryFrame m #[(.long q1), (.int p2)] 4)) t) ∧ ∀ t, own_S p e below s₁ (mkF m 0 #[.val (.long q1), .second, .val (.int p2), .unset] []) t → Gl t := ⟨fun t => Steps p.tables e below (s₁.setTop (entryFrame m #[(.long q1), (.int p2)] 4)) t, fun _ k => k, fun t k => castTop (ef_rm2 m q1 p2) k⟩
  have kn1 : ∀ t, own_S p e below s₁ (mkF m 9 #[.val (.long q1), .second, .val (.int p2), .val (.int ((((q1.toUInt64 >>> (p2 &&& 0x3f).toInt64.toUInt64).toInt64) &&& (15 : Int64)).toInt32))] []) t → Gl t := fun t kt => kn0 t (by
    show own_S p e below s₁ (mkF m 0 #[.val (.long q1), .second, .val (.int p2), .unset] []) _
    refine XS.lloadN X0.here hx rfl (hb hby d_method_3_0) rfl ?_
    show own_S p e below s₁ (mkF m 1 #[.val (.long q1), .second, .val (.int p2), .unset] [(.long q1)]) _
    refine XS.iloadN X0.here hx rfl (hb hby d_method_3_1) rfl ?_
    show own_S p e below s₁ (mkF m 2 #[.val (.long q1), .second, .val (.int p2), .unset] [(.int p2), (.long q1)]) _
    refine XS.lushr X0.here hx rfl (hb hby d_method_3_2) rfl ?_
    show own_S p e below s₁ (mkF m 3 #[.val (.long q1), .second, .val (.int p2), .unset] [(.long ((q1.toUInt64 >>> (p2 &&& 0x3f).toInt64.toUInt64).toInt64))]) _
    refine X0.ldc2Long hx hown (mvT hZ (hw _ (List.mem_of_getElem? (i := 8) rfl))) (g := (mkF m 3 #[.val (.long q1), .second, .val (.int p2), .unset] [(.long ((q1.toUInt64 >>> (p2 &&& 0x3f).toInt64.toUInt64).toInt64))])) rfl (hb hby d_method_3_3) _ ?_
    show own_S p e below s₁ (mkF m 6 #[.val (.long q1), .second, .val (.int p2), .unset] [(.long (15 : Int64)), (.long ((q1.toUInt64 >>> (p2 &&& 0x3f).toInt64.toUInt64).toInt64))]) _
    refine XS.land X0.here hx rfl (hb hby d_method_3_6) rfl ?_
    show own_S p e below s₁ (mkF m 7 #[.val (.long q1), .second, .val (.int p2), .unset] [(.long (((q1.toUInt64 >>> (p2 &&& 0x3f).toInt64.toUInt64).toInt64) &&& (15 : Int64)))]) _
    refine XS.l2i X0.here hx rfl (hb hby d_method_3_7) rfl ?_
    show own_S p e below s₁ (mkF m 8 #[.val (.long q1), .second, .val (.int p2), .unset] [(.int ((((q1.toUInt64 >>> (p2 &&& 0x3f).toInt64.toUInt64).toInt64) &&& (15 : Int64)).toInt32))]) _
    refine XS.istoreN X0.here hx rfl (hb hby d_method_3_8) rfl (l' := #[.val (.long q1), .second, .val (.int p2), .val (.int ((((q1.toUInt64 >>> (p2 &&& 0x3f).toInt64.toUInt64).toInt64) &&& (15 : Int64)).toInt32))]) rfl ?_
    exact kt)
  rw [(show ((((q1.toUInt64 >>> (p2 &&& 0x3f).toInt64.toUInt64).toInt64) &&& (15 : Int64)).toInt32) = (own_dg q1 p2) from rfl)] at kn1
  have kn2 : ∀ t, own_S p e below s₁ (mkF m 12 #[.val (.long q1), .second, .val (.int p2), .val (.int (own_dg q1 p2))] [(.int (10 : Int32)), (.int (own_dg q1 p2))]) t → Gl t := fun t kt => kn1 t (by
    show own_S p e below s₁ (mkF m 9 #[.val (.long q1), .second, .val (.int p2), .val (.int (own_dg q1 p2))] []) _
    refine XS.iloadN X0.here hx rfl (hb hby d_method_3_9) rfl ?_
    show own_S p e below s₁ (mkF m 10 #[.val (.long q1), .second, .val (.int p2), .val (.int (own_dg q1 p2))] [(.int (own_dg q1 p2))]) _
    refine XS.bipush X0.here hx rfl (hb hby d_method_3_10) ?_
    exact kt)
  by_cases hc12 : (own_dg q1 p2) < (10 : Int32)
  · have kn3 : ∀ t, own_S p e below s₁ (mkF m 20 #[.val (.long q1), .second, .val (.int p2), .val (.int (own_dg q1 p2))] [(.int (((48 : Int32) + (own_dg q1 p2)).toUInt32.toUInt16.toUInt32.toInt32))]) t → Gl t := fun t kt => kn2 t (by
      show own_S p e below s₁ (mkF m 12 #[.val (.long q1), .second, .val (.int p2), .val (.int (own_dg q1 p2))] [(.int (10 : Int32)), (.int (own_dg q1 p2))]) _
      refine XS.icmpNo X0.here hx rfl (hb hby d_method_3_12) rfl (tlt hc12).2.1 ?_
      show own_S p e below s₁ (mkF m 15 #[.val (.long q1), .second, .val (.int p2), .val (.int (own_dg q1 p2))] []) _
      refine XS.bipush X0.here hx rfl (hb hby d_method_3_15) ?_
      show own_S p e below s₁ (mkF m 17 #[.val (.long q1), .second, .val (.int p2), .val (.int (own_dg q1 p2))] [(.int (48 : Int32))]) _
      refine XS.iloadN X0.here hx rfl (hb hby d_method_3_17) rfl ?_
      show own_S p e below s₁ (mkF m 18 #[.val (.long q1), .second, .val (.int p2), .val (.int (own_dg q1 p2))] [(.int (own_dg q1 p2)), (.int (48 : Int32))]) _
      refine XS.iadd X0.here hx rfl (hb hby d_method_3_18) rfl ?_
      show own_S p e below s₁ (mkF m 19 #[.val (.long q1), .second, .val (.int p2), .val (.int (own_dg q1 p2))] [(.int ((48 : Int32) + (own_dg q1 p2)))]) _
      refine XS.i2c X0.here hx rfl (hb hby d_method_3_19) rfl ?_
      exact kt)
    obtain ⟨fs, hr, hrun, hended, hW, hsame⟩ := X0.leave (v := some (.int (nar .char (((48 : Int32) + (own_dg q1 p2)).toUInt32.toUInt16.toUInt32.toInt32)))) (fun h => by rw [Bd.returns] at h; cases h)
    refine ⟨_, _, hGl _ (kn3 _ (retN X0 hx (t := .char) Bd.returns (by simp) (hb hby d_method_3_20) hr)), hrun, hended, _, _, rfl, ?_, ⟨_, rfl⟩, hW, hsame.mono (by decide) (by decide)⟩
    show Q2 Z q1 p2 h0 n0 _ s₁.heap _
    rw [e0]
    exact ⟨by rw [own_hex, own_hx, if_pos hc12], Nf0, rfl⟩
  · have kn4 : ∀ t, own_S p e below s₁ (mkF m 29 #[.val (.long q1), .second, .val (.int p2), .val (.int (own_dg q1 p2))] [(.int (((97 : Int32) + ((own_dg q1 p2) - (10 : Int32))).toUInt32.toUInt16.toUInt32.toInt32))]) t → Gl t := fun t kt => kn2 t (by
      show own_S p e below s₁ (mkF m 12 #[.val (.long q1), .second, .val (.int p2), .val (.int (own_dg q1 p2))] [(.int (10 : Int32)), (.int (own_dg q1 p2))]) _
      refine XS.icmpYes X0.here hx rfl (pc0 := 12) (pc' := 21) rfl (hb hby d_method_3_12) rfl (flt hc12).2.1 (by decide) (by decide) ?_
      show own_S p e below s₁ (mkF m 21 #[.val (.long q1), .second, .val (.int p2), .val (.int (own_dg q1 p2))] []) _
      refine XS.bipush X0.here hx rfl (hb hby d_method_3_21) ?_
      show own_S p e below s₁ (mkF m 23 #[.val (.long q1), .second, .val (.int p2), .val (.int (own_dg q1 p2))] [(.int (97 : Int32))]) _
      refine XS.iloadN X0.here hx rfl (hb hby d_method_3_23) rfl ?_
      show own_S p e below s₁ (mkF m 24 #[.val (.long q1), .second, .val (.int p2), .val (.int (own_dg q1 p2))] [(.int (own_dg q1 p2)), (.int (97 : Int32))]) _
      refine XS.bipush X0.here hx rfl (hb hby d_method_3_24) ?_
      show own_S p e below s₁ (mkF m 26 #[.val (.long q1), .second, .val (.int p2), .val (.int (own_dg q1 p2))] [(.int (10 : Int32)), (.int (own_dg q1 p2)), (.int (97 : Int32))]) _
      refine XS.isub X0.here hx rfl (hb hby d_method_3_26) rfl ?_
      show own_S p e below s₁ (mkF m 27 #[.val (.long q1), .second, .val (.int p2), .val (.int (own_dg q1 p2))] [(.int ((own_dg q1 p2) - (10 : Int32))), (.int (97 : Int32))]) _
      refine XS.iadd X0.here hx rfl (hb hby d_method_3_27) rfl ?_
      show own_S p e below s₁ (mkF m 28 #[.val (.long q1), .second, .val (.int p2), .val (.int (own_dg q1 p2))] [(.int ((97 : Int32) + ((own_dg q1 p2) - (10 : Int32))))]) _
      refine XS.i2c X0.here hx rfl (hb hby d_method_3_28) rfl ?_
      exact kt)
    obtain ⟨fs, hr, hrun, hended, hW, hsame⟩ := X0.leave (v := some (.int (nar .char (((97 : Int32) + ((own_dg q1 p2) - (10 : Int32))).toUInt32.toUInt16.toUInt32.toInt32)))) (fun h => by rw [Bd.returns] at h; cases h)
    refine ⟨_, _, hGl _ (kn4 _ (retN X0 hx (t := .char) Bd.returns (by simp) (hb hby d_method_3_29) hr)), hrun, hended, _, _, rfl, ?_, ⟨_, rfl⟩, hW, hsame.mono (by decide) (by decide)⟩
    show Q2 Z q1 p2 h0 n0 _ s₁.heap _
    rw [e0]
    exact ⟨by rw [own_hex, own_hx, if_neg hc12], Nf0, rfl⟩

def Q1_0 (Z : State) (a1 : Addr) (q3 : Int64) (kk1 : ClassId) (u0 : Int32) (u1 : Int32) (u2 : Int32) (u3 : Int32) (u4 : Int32) (u5 : Int32) (u6 : Int32) (u7 : Int32) (u8 : Int32) (u9 : Int32) (u10 : Int32) (u11 : Int32) (u12 : Int32) (u13 : Int32) (u14 : Int32) (u15 : Int32) (u16 : Int32) (u17 : Int32) (u18 : Int32) (u19 : Int32) (u20 : Int32) (u21 : Int32) (u22 : Int32) (u23 : Int32) (u24 : Int32) (u25 : Int32) (u26 : Int32) (u27 : Int32) (u28 : Int32) (u29 : Int32) (u30 : Int32) (u31 : Int32) (u32 : Int32) (u33 : Int32) (u34 : Int32) (u35 : Int32) (u36 : Int32) (u37 : Int32) (u38 : Int32) (u39 : Int32) (u40 : Int32) (u41 : Int32) (u42 : Int32) (u43 : Int32) (u44 : Int32) (u45 : Int32) (u46 : Int32) (u47 : Int32) (hB : Heap) (h0 : Heap) (n0 : Nat) (v : Option Value) (h : Heap) (L : List Loc) : Prop := v = none ∧ Fr n0 L ∧ Keep hB h [a1] ∧ Arv Z h a1 kk1 .char (48 : Int32) ((.int (own_hex q3 (60 : Int32))) :: (.int (own_hex q3 (56 : Int32))) :: (.int (own_hex q3 (52 : Int32))) :: (.int (own_hex q3 (48 : Int32))) :: (.int (own_hex q3 (44 : Int32))) :: (.int (own_hex q3 (40 : Int32))) :: (.int (own_hex q3 (36 : Int32))) :: (.int (own_hex q3 (32 : Int32))) :: (.int (own_hex q3 (28 : Int32))) :: (.int (own_hex q3 (24 : Int32))) :: (.int (own_hex q3 (20 : Int32))) :: (.int (own_hex q3 (16 : Int32))) :: (.int (own_hex q3 (12 : Int32))) :: (.int (own_hex q3 (8 : Int32))) :: (.int (own_hex q3 (4 : Int32))) :: (.int (own_hex q3 (0 : Int32))) :: (.int u16) :: (.int u17) :: (.int u18) :: (.int u19) :: (.int u20) :: (.int u21) :: (.int u22) :: (.int u23) :: (.int u24) :: (.int u25) :: (.int u26) :: (.int u27) :: (.int u28) :: (.int u29) :: (.int u30) :: (.int u31) :: (.int u32) :: (.int u33) :: (.int u34) :: (.int u35) :: (.int u36) :: (.int u37) :: (.int u38) :: (.int u39) :: (.int u40) :: (.int u41) :: (.int u42) :: (.int u43) :: (.int u44) :: (.int u45) :: (.int u46) :: (.int u47) :: []) (.int (0 : Int32))
theorem d_method_4_136 : decode method_4_code 136 = .ok (.aload_n 0, 1) := by decide +kernel
theorem d_method_4_137 : decode method_4_code 137 = .ok (.iload_n 1, 1) := by decide +kernel
theorem d_method_4_138 : decode method_4_code 138 = .ok (.bipush 12, 2) := by decide +kernel
theorem d_method_4_140 : decode method_4_code 140 = .ok (.iadd, 1) := by decide +kernel
theorem d_method_4_141 : decode method_4_code 141 = .ok (.lload_n 2, 1) := by decide +kernel
theorem d_method_4_142 : decode method_4_code 142 = .ok (.bipush 12, 2) := by decide +kernel
theorem d_method_4_144 : decode method_4_code 144 = .ok (.invokestatic 36, 3) := by decide +kernel
theorem d_method_4_147 : decode method_4_code 147 = .ok (.castore, 1) := by decide +kernel
theorem d_method_4_148 : decode method_4_code 148 = .ok (.aload_n 0, 1) := by decide +kernel
theorem d_method_4_149 : decode method_4_code 149 = .ok (.iload_n 1, 1) := by decide +kernel
theorem d_method_4_150 : decode method_4_code 150 = .ok (.bipush 13, 2) := by decide +kernel
theorem d_method_4_152 : decode method_4_code 152 = .ok (.iadd, 1) := by decide +kernel
theorem d_method_4_153 : decode method_4_code 153 = .ok (.lload_n 2, 1) := by decide +kernel
theorem d_method_4_154 : decode method_4_code 154 = .ok (.bipush 8, 2) := by decide +kernel
theorem d_method_4_156 : decode method_4_code 156 = .ok (.invokestatic 36, 3) := by decide +kernel
theorem d_method_4_159 : decode method_4_code 159 = .ok (.castore, 1) := by decide +kernel
theorem d_method_4_160 : decode method_4_code 160 = .ok (.aload_n 0, 1) := by decide +kernel
theorem d_method_4_161 : decode method_4_code 161 = .ok (.iload_n 1, 1) := by decide +kernel
theorem d_method_4_162 : decode method_4_code 162 = .ok (.bipush 14, 2) := by decide +kernel
theorem d_method_4_164 : decode method_4_code 164 = .ok (.iadd, 1) := by decide +kernel
theorem d_method_4_165 : decode method_4_code 165 = .ok (.lload_n 2, 1) := by decide +kernel
theorem d_method_4_166 : decode method_4_code 166 = .ok (.iconst 4, 1) := by decide +kernel
theorem d_method_4_167 : decode method_4_code 167 = .ok (.invokestatic 36, 3) := by decide +kernel
theorem d_method_4_170 : decode method_4_code 170 = .ok (.castore, 1) := by decide +kernel
theorem d_method_4_171 : decode method_4_code 171 = .ok (.aload_n 0, 1) := by decide +kernel
theorem d_method_4_172 : decode method_4_code 172 = .ok (.iload_n 1, 1) := by decide +kernel
theorem d_method_4_173 : decode method_4_code 173 = .ok (.bipush 15, 2) := by decide +kernel
theorem d_method_4_175 : decode method_4_code 175 = .ok (.iadd, 1) := by decide +kernel
theorem d_method_4_176 : decode method_4_code 176 = .ok (.lload_n 2, 1) := by decide +kernel
theorem d_method_4_177 : decode method_4_code 177 = .ok (.iconst 0, 1) := by decide +kernel
theorem d_method_4_178 : decode method_4_code 178 = .ok (.invokestatic 36, 3) := by decide +kernel
theorem d_method_4_181 : decode method_4_code 181 = .ok (.castore, 1) := by decide +kernel
theorem d_method_4_182 : decode method_4_code 182 = .ok (.return_, 1) := by decide +kernel
theorem pd_0 : parseMethodDescriptor "(JI)C" = some ⟨[.long, .int], some .char⟩ := by decide +kernel
set_option maxRecDepth 65536 in
set_option maxHeartbeats 40000000 in
theorem tlp_0_3 {p : Program} {l : Launch} {e : Env} {s : State} {m : MethodId} {args : Array Value} {below : List Frame} {meth : Method} {c : Code} {T0 : State} {locs : List Loc} {Z : State} {a0 : Array Value} {h0 : Heap} {n0 : Nat} (a1 : Addr) (q3 : Int64) (kk1 : ClassId) (u0 : Int32) (u1 : Int32) (u2 : Int32) (u3 : Int32) (u4 : Int32) (u5 : Int32) (u6 : Int32) (u7 : Int32) (u8 : Int32) (u9 : Int32) (u10 : Int32) (u11 : Int32) (u12 : Int32) (u13 : Int32) (u14 : Int32) (u15 : Int32) (u16 : Int32) (u17 : Int32) (u18 : Int32) (u19 : Int32) (u20 : Int32) (u21 : Int32) (u22 : Int32) (u23 : Int32) (u24 : Int32) (u25 : Int32) (u26 : Int32) (u27 : Int32) (u28 : Int32) (u29 : Int32) (u30 : Int32) (u31 : Int32) (u32 : Int32) (u33 : Int32) (u34 : Int32) (u35 : Int32) (u36 : Int32) (u37 : Int32) (u38 : Int32) (u39 : Int32) (u40 : Int32) (u41 : Int32) (u42 : Int32) (u43 : Int32) (u44 : Int32) (u45 : Int32) (u46 : Int32) (u47 : Int32) (hB : Heap)
    (X0 : Stand p l e ({ frames := 1, cells := 0, slots := 0, locals := 17 } : Room) s m args below meth c T0 locs 0 0) (hx : p.tables.exec = Jvm.exec) (hZ : Z.Warmed39 s.vm) (hw : ∀ d ∈ tables_1, d.before a0 Z = true) (hby : c.code = method_4_code) (hml : c.maxLocals = 4) (hown : s.vm.findClass "com/example/dual_delivery/dualdelivery/model/ReceiptHandleParsePinLaw" = some m.cls) (hret : meth.sig.returnType = none) (hlk : meth.locks = false) (e0 : T0.heap = h0) (Nf0 : Fr n0 locs) (Z0 : n0 ≤ h0.size) (V1 : Arv Z h0 a1 kk1 .char (48 : Int32) ((.int (own_hex q3 (60 : Int32))) :: (.int (own_hex q3 (56 : Int32))) :: (.int (own_hex q3 (52 : Int32))) :: (.int (own_hex q3 (48 : Int32))) :: (.int (own_hex q3 (44 : Int32))) :: (.int (own_hex q3 (40 : Int32))) :: (.int (own_hex q3 (36 : Int32))) :: (.int (own_hex q3 (32 : Int32))) :: (.int (own_hex q3 (28 : Int32))) :: (.int (own_hex q3 (24 : Int32))) :: (.int (own_hex q3 (20 : Int32))) :: (.int (own_hex q3 (16 : Int32))) :: (.int u12) :: (.int u13) :: (.int u14) :: (.int u15) :: (.int u16) :: (.int u17) :: (.int u18) :: (.int u19) :: (.int u20) :: (.int u21) :: (.int u22) :: (.int u23) :: (.int u24) :: (.int u25) :: (.int u26) :: (.int u27) :: (.int u28) :: (.int u29) :: (.int u30) :: (.int u31) :: (.int u32) :: (.int u33) :: (.int u34) :: (.int u35) :: (.int u36) :: (.int u37) :: (.int u38) :: (.int u39) :: (.int u40) :: (.int u41) :: (.int u42) :: (.int u43) :: (.int u44) :: (.int u45) :: (.int u46) :: (.int u47) :: []) (.int (0 : Int32))) (KB : Keep hB h0 [a1]) (g_a1 : n0 ≤ a1) :
    ∃ s₂ o, Steps p.tables e below (T0.setTop (mkF m 136 #[.val (.ref a1), .val (.int (0 : Int32)), .val (.long q3), .second] [])) s₂ ∧ s₂.status = .running ∧ Ended s₂ below o ∧ ∃ v L, o = .returned v ∧ Q1_0 Z a1 q3 kk1 u0 u1 u2 u3 u4 u5 u6 u7 u8 u9 u10 u11 u12 u13 u14 u15 u16 u17 u18 u19 u20 u21 u22 u23 u24 u25 u26 u27 u28 u29 u30 u31 u32 u33 u34 u35 u36 u37 u38 u39 u40 u41 u42 u43 u44 u45 u46 u47 hB h0 n0 v s₂.heap L ∧ FrameEnd s o s₂ L ({ frames := 1, cells := 0, slots := 0, locals := 17 } : Room).cells ({ frames := 1, cells := 0, slots := 0, locals := 17 } : Room).slots := by
  have kn0 : ∀ t, own_S p e below T0 (mkF m 136 #[.val (.ref a1), .val (.int (0 : Int32)), .val (.long q3), .second] []) t → own_S p e below T0 (mkF m 136 #[.val (.ref a1), .val (.int (0 : Int32)), .val (.long q3), .second] []) t := fun t k => k
  have kn1 : ∀ t, own_S p e below T0 (mkF m 144 #[.val (.ref a1), .val (.int (0 : Int32)), .val (.long q3), .second] [(.int (12 : Int32)), (.long q3), (.int (12 : Int32)), (.ref a1)]) t → own_S p e below T0 (mkF m 136 #[.val (.ref a1), .val (.int (0 : Int32)), .val (.long q3), .second] []) t := fun t kt => kn0 t (by
    show own_S p e below T0 (mkF m 136 #[.val (.ref a1), .val (.int (0 : Int32)), .val (.long q3), .second] []) _
    refine XS.aloadN X0.here hx rfl (hb hby d_method_4_136) rfl rfl ?_
    show own_S p e below T0 (mkF m 137 #[.val (.ref a1), .val (.int (0 : Int32)), .val (.long q3), .second] [(.ref a1)]) _
    refine XS.iloadN X0.here hx rfl (hb hby d_method_4_137) rfl ?_
    show own_S p e below T0 (mkF m 138 #[.val (.ref a1), .val (.int (0 : Int32)), .val (.long q3), .second] [(.int (0 : Int32)), (.ref a1)]) _
    refine XS.bipush X0.here hx rfl (hb hby d_method_4_138) ?_
    show own_S p e below T0 (mkF m 140 #[.val (.ref a1), .val (.int (0 : Int32)), .val (.long q3), .second] [(.int (12 : Int32)), (.int (0 : Int32)), (.ref a1)]) _
    refine XS.iadd X0.here hx rfl (hb hby d_method_4_140) rfl ?_
    rw [(by decide : ((0 : Int32) + (12 : Int32)) = (12 : Int32))]
    show own_S p e below T0 (mkF m 141 #[.val (.ref a1), .val (.int (0 : Int32)), .val (.long q3), .second] [(.int (12 : Int32)), (.ref a1)]) _
    refine XS.lloadN X0.here hx rfl (hb hby d_method_4_141) rfl ?_
    show own_S p e below T0 (mkF m 142 #[.val (.ref a1), .val (.int (0 : Int32)), .val (.long q3), .second] [(.long q3), (.int (12 : Int32)), (.ref a1)]) _
    refine XS.bipush X0.here hx rfl (hb hby d_method_4_142) ?_
    exact kt)
  obtain ⟨_, _, ⟨T2, L2, cc2, ss2⟩, -, X2, ⟨Lc2, hQ2, l2, y2, z2⟩, st2⟩ := Jvm.LawKit.callS X0 hx (y := (⟨"com/example/dual_delivery/dualdelivery/model/ReceiptHandleParsePinLaw", "hexDigit", "(JI)C"⟩ : MethodName)) hown (mvT hZ (hw _ (List.mem_of_getElem? (i := 5) rfl))) (mvT hZ (hw _ (List.mem_of_getElem? (i := 6) rfl))) (mvT hZ (hw _ (List.mem_of_getElem? (i := 3) rfl))) (mvT hZ (hw _ (List.mem_of_getElem? (i := 7) rfl))) (by decide) (backOf (W := 2) (rm2 l Z a0 hw [] q3 (12 : Int32)  h0 n0 Z0 ) hZ (hw _ (List.mem_of_getElem? (i := 7) rfl)) (hw _ (List.mem_of_getElem? (i := 3) rfl)) (by decide) (by decide)) (g := (mkF m 144 #[.val (.ref a1), .val (.int (0 : Int32)), .val (.long q3), .second] [(.int (12 : Int32)), (.long q3), (.int (12 : Int32)), (.ref a1)])) rfl (by rw [hml]; rfl) (argsL := [(.long q3), (.int (12 : Int32))]) (rest := [(.int (12 : Int32)), (.ref a1)]) (lenOf pd_0 rfl) rfl (by show 2 * 0 + _ ≤ _; exact Nat.le_of_eq rfl) (hb hby d_method_4_144) (fun _ _ => ⟨rfl, e0, (by decide : 0 + 0 ≤ _), (by decide : 0 + 0 ≤ _)⟩)
  dsimp only [Pt.U, Pt.locs, Pt.cells, Pt.slots] at X2 l2 y2 z2 st2 hQ2
  subst l2 y2 z2
  have X2 : Stand p l e _ _ m _ below meth c T2 _ 0 0 := X2
  obtain ⟨rfl, Nq2, eq2⟩ := hQ2
  have Nf2 := Fr.app Nf0 Nq2
  have kn3 : ∀ t, own_S p e below T2 (mkF m 147 #[.val (.ref a1), .val (.int (0 : Int32)), .val (.long q3), .second] [(.int (own_hex q3 (12 : Int32))), (.int (12 : Int32)), (.ref a1)]) t → own_S p e below T0 (mkF m 136 #[.val (.ref a1), .val (.int (0 : Int32)), .val (.long q3), .second] []) t := fun t kt => kn1 t (st2 _ kt)
  obtain ⟨cl4, Ar4, q4, Sz4, Ng4, Hs4, Gs4⟩ := id V1
  have hin4 : ¬ ((12 : Int32) < 0 ∨ cl4.slots.size ≤ ((12 : Int32)).toNatClampNeg) := inb_of Sz4 ⟨by decide, by decide⟩
  obtain ⟨T4, h4, X4, e4, W4, st4⟩ := stC X2 hx hZ eq2 Ar4 (j := (12 : Int32)) hin4 (g := (mkF m 147 #[.val (.ref a1), .val (.int (0 : Int32)), .val (.long q3), .second] [(.int (own_hex q3 (12 : Int32))), (.int (12 : Int32)), (.ref a1)])) rfl rfl (hb hby d_method_4_147)
  have Z5 : n0 ≤ h4.size := Nat.le_trans Z0 (Keep.of_wr W4).1
  have K6 : Keep hB h4 [a1] := KB.wr W4 (Or.inl (List.mem_of_getElem? (i := 0) rfl))
  have V4 : Arv Z h4 a1 kk1 .char (48 : Int32) ((.int (own_hex q3 (60 : Int32))) :: (.int (own_hex q3 (56 : Int32))) :: (.int (own_hex q3 (52 : Int32))) :: (.int (own_hex q3 (48 : Int32))) :: (.int (own_hex q3 (44 : Int32))) :: (.int (own_hex q3 (40 : Int32))) :: (.int (own_hex q3 (36 : Int32))) :: (.int (own_hex q3 (32 : Int32))) :: (.int (own_hex q3 (28 : Int32))) :: (.int (own_hex q3 (24 : Int32))) :: (.int (own_hex q3 (20 : Int32))) :: (.int (own_hex q3 (16 : Int32))) :: (.int ((own_hex q3 (12 : Int32)).toUInt32.toUInt16.toUInt32.toInt32)) :: (.int u13) :: (.int u14) :: (.int u15) :: (.int u16) :: (.int u17) :: (.int u18) :: (.int u19) :: (.int u20) :: (.int u21) :: (.int u22) :: (.int u23) :: (.int u24) :: (.int u25) :: (.int u26) :: (.int u27) :: (.int u28) :: (.int u29) :: (.int u30) :: (.int u31) :: (.int u32) :: (.int u33) :: (.int u34) :: (.int u35) :: (.int u36) :: (.int u37) :: (.int u38) :: (.int u39) :: (.int u40) :: (.int u41) :: (.int u42) :: (.int u43) :: (.int u44) :: (.int u45) :: (.int u46) :: (.int u47) :: []) (.int (0 : Int32)) := Arv.set Ar4 q4 Sz4 Ng4 Hs4 Gs4 (fits_nar_char _) W4 12 rfl (Nat.le_of_ble_eq_true rfl)
  rw [(show ((own_hex q3 (12 : Int32)).toUInt32.toUInt16.toUInt32.toInt32) = (own_hex q3 (12 : Int32)) from (own_hxs _ _).2.2.2.2.1)] at V4
  have Nf7 := Fr.snoc X4 Nf2 g_a1
  have kn8 : ∀ t, own_S p e below T4 (mkF m 148 #[.val (.ref a1), .val (.int (0 : Int32)), .val (.long q3), .second] []) t → own_S p e below T0 (mkF m 136 #[.val (.ref a1), .val (.int (0 : Int32)), .val (.long q3), .second] []) t := fun t kt => kn3 t (st4 _ kt)
  have kn9 : ∀ t, own_S p e below T4 (mkF m 156 #[.val (.ref a1), .val (.int (0 : Int32)), .val (.long q3), .second] [(.int (8 : Int32)), (.long q3), (.int (13 : Int32)), (.ref a1)]) t → own_S p e below T0 (mkF m 136 #[.val (.ref a1), .val (.int (0 : Int32)), .val (.long q3), .second] []) t := fun t kt => kn8 t (by
    show own_S p e below T4 (mkF m 148 #[.val (.ref a1), .val (.int (0 : Int32)), .val (.long q3), .second] []) _
    refine XS.aloadN X4.here hx rfl (hb hby d_method_4_148) rfl rfl ?_
    show own_S p e below T4 (mkF m 149 #[.val (.ref a1), .val (.int (0 : Int32)), .val (.long q3), .second] [(.ref a1)]) _
    refine XS.iloadN X4.here hx rfl (hb hby d_method_4_149) rfl ?_
    show own_S p e below T4 (mkF m 150 #[.val (.ref a1), .val (.int (0 : Int32)), .val (.long q3), .second] [(.int (0 : Int32)), (.ref a1)]) _
    refine XS.bipush X4.here hx rfl (hb hby d_method_4_150) ?_
    show own_S p e below T4 (mkF m 152 #[.val (.ref a1), .val (.int (0 : Int32)), .val (.long q3), .second] [(.int (13 : Int32)), (.int (0 : Int32)), (.ref a1)]) _
    refine XS.iadd X4.here hx rfl (hb hby d_method_4_152) rfl ?_
    rw [(by decide : ((0 : Int32) + (13 : Int32)) = (13 : Int32))]
    show own_S p e below T4 (mkF m 153 #[.val (.ref a1), .val (.int (0 : Int32)), .val (.long q3), .second] [(.int (13 : Int32)), (.ref a1)]) _
    refine XS.lloadN X4.here hx rfl (hb hby d_method_4_153) rfl ?_
    show own_S p e below T4 (mkF m 154 #[.val (.ref a1), .val (.int (0 : Int32)), .val (.long q3), .second] [(.long q3), (.int (13 : Int32)), (.ref a1)]) _
    refine XS.bipush X4.here hx rfl (hb hby d_method_4_154) ?_
    exact kt)
  obtain ⟨_, _, ⟨T10, L10, cc10, ss10⟩, -, X10, ⟨Lc10, hQ10, l10, y10, z10⟩, st10⟩ := Jvm.LawKit.callS X4 hx (y := (⟨"com/example/dual_delivery/dualdelivery/model/ReceiptHandleParsePinLaw", "hexDigit", "(JI)C"⟩ : MethodName)) hown (mvT hZ (hw _ (List.mem_of_getElem? (i := 5) rfl))) (mvT hZ (hw _ (List.mem_of_getElem? (i := 6) rfl))) (mvT hZ (hw _ (List.mem_of_getElem? (i := 3) rfl))) (mvT hZ (hw _ (List.mem_of_getElem? (i := 7) rfl))) (by decide) (backOf (W := 2) (rm2 l Z a0 hw [] q3 (8 : Int32)  h4 n0 Z5 ) hZ (hw _ (List.mem_of_getElem? (i := 7) rfl)) (hw _ (List.mem_of_getElem? (i := 3) rfl)) (by decide) (by decide)) (g := (mkF m 156 #[.val (.ref a1), .val (.int (0 : Int32)), .val (.long q3), .second] [(.int (8 : Int32)), (.long q3), (.int (13 : Int32)), (.ref a1)])) rfl (by rw [hml]; rfl) (argsL := [(.long q3), (.int (8 : Int32))]) (rest := [(.int (13 : Int32)), (.ref a1)]) (lenOf pd_0 rfl) rfl (by show 2 * 0 + _ ≤ _; exact Nat.le_of_eq rfl) (hb hby d_method_4_156) (fun _ _ => ⟨rfl, e4, (by decide : 0 + 0 ≤ _), (by decide : 0 + 0 ≤ _)⟩)
  dsimp only [Pt.U, Pt.locs, Pt.cells, Pt.slots] at X10 l10 y10 z10 st10 hQ10
  subst l10 y10 z10
  have X10 : Stand p l e _ _ m _ below meth c T10 _ 0 0 := X10
  obtain ⟨rfl, Nq10, eq10⟩ := hQ10
  have Nf10 := Fr.app Nf7 Nq10
  have kn11 : ∀ t, own_S p e below T10 (mkF m 159 #[.val (.ref a1), .val (.int (0 : Int32)), .val (.long q3), .second] [(.int (own_hex q3 (8 : Int32))), (.int (13 : Int32)), (.ref a1)]) t → own_S p e below T0 (mkF m 136 #[.val (.ref a1), .val (.int (0 : Int32)), .val (.long q3), .second] []) t := fun t kt => kn9 t (st10 _ kt)
  obtain ⟨cl12, Ar12, q12, Sz12, Ng12, Hs12, Gs12⟩ := id V4
  have hin12 : ¬ ((13 : Int32) < 0 ∨ cl12.slots.size ≤ ((13 : Int32)).toNatClampNeg) := inb_of Sz12 ⟨by decide, by decide⟩
  obtain ⟨T12, h12, X12, e12, W12, st12⟩ := stC X10 hx hZ eq10 Ar12 (j := (13 : Int32)) hin12 (g := (mkF m 159 #[.val (.ref a1), .val (.int (0 : Int32)), .val (.long q3), .second] [(.int (own_hex q3 (8 : Int32))), (.int (13 : Int32)), (.ref a1)])) rfl rfl (hb hby d_method_4_159)
  have Z13 : n0 ≤ h12.size := Nat.le_trans Z5 (Keep.of_wr W12).1
  have K14 : Keep hB h12 [a1] := K6.wr W12 (Or.inl (List.mem_of_getElem? (i := 0) rfl))
  have V12 : Arv Z h12 a1 kk1 .char (48 : Int32) ((.int (own_hex q3 (60 : Int32))) :: (.int (own_hex q3 (56 : Int32))) :: (.int (own_hex q3 (52 : Int32))) :: (.int (own_hex q3 (48 : Int32))) :: (.int (own_hex q3 (44 : Int32))) :: (.int (own_hex q3 (40 : Int32))) :: (.int (own_hex q3 (36 : Int32))) :: (.int (own_hex q3 (32 : Int32))) :: (.int (own_hex q3 (28 : Int32))) :: (.int (own_hex q3 (24 : Int32))) :: (.int (own_hex q3 (20 : Int32))) :: (.int (own_hex q3 (16 : Int32))) :: (.int (own_hex q3 (12 : Int32))) :: (.int ((own_hex q3 (8 : Int32)).toUInt32.toUInt16.toUInt32.toInt32)) :: (.int u14) :: (.int u15) :: (.int u16) :: (.int u17) :: (.int u18) :: (.int u19) :: (.int u20) :: (.int u21) :: (.int u22) :: (.int u23) :: (.int u24) :: (.int u25) :: (.int u26) :: (.int u27) :: (.int u28) :: (.int u29) :: (.int u30) :: (.int u31) :: (.int u32) :: (.int u33) :: (.int u34) :: (.int u35) :: (.int u36) :: (.int u37) :: (.int u38) :: (.int u39) :: (.int u40) :: (.int u41) :: (.int u42) :: (.int u43) :: (.int u44) :: (.int u45) :: (.int u46) :: (.int u47) :: []) (.int (0 : Int32)) := Arv.set Ar12 q12 Sz12 Ng12 Hs12 Gs12 (fits_nar_char _) W12 13 rfl (Nat.le_of_ble_eq_true rfl)
  rw [(show ((own_hex q3 (8 : Int32)).toUInt32.toUInt16.toUInt32.toInt32) = (own_hex q3 (8 : Int32)) from (own_hxs _ _).2.2.2.2.1)] at V12
  have Nf15 := Fr.snoc X12 Nf10 g_a1
  have kn16 : ∀ t, own_S p e below T12 (mkF m 160 #[.val (.ref a1), .val (.int (0 : Int32)), .val (.long q3), .second] []) t → own_S p e below T0 (mkF m 136 #[.val (.ref a1), .val (.int (0 : Int32)), .val (.long q3), .second] []) t := fun t kt => kn11 t (st12 _ kt)
  have kn17 : ∀ t, own_S p e below T12 (mkF m 167 #[.val (.ref a1), .val (.int (0 : Int32)), .val (.long q3), .second] [(.int (4 : Int32)), (.long q3), (.int (14 : Int32)), (.ref a1)]) t → own_S p e below T0 (mkF m 136 #[.val (.ref a1), .val (.int (0 : Int32)), .val (.long q3), .second] []) t := fun t kt => kn16 t (by
    show own_S p e below T12 (mkF m 160 #[.val (.ref a1), .val (.int (0 : Int32)), .val (.long q3), .second] []) _
    refine XS.aloadN X12.here hx rfl (hb hby d_method_4_160) rfl rfl ?_
    show own_S p e below T12 (mkF m 161 #[.val (.ref a1), .val (.int (0 : Int32)), .val (.long q3), .second] [(.ref a1)]) _
    refine XS.iloadN X12.here hx rfl (hb hby d_method_4_161) rfl ?_
    show own_S p e below T12 (mkF m 162 #[.val (.ref a1), .val (.int (0 : Int32)), .val (.long q3), .second] [(.int (0 : Int32)), (.ref a1)]) _
    refine XS.bipush X12.here hx rfl (hb hby d_method_4_162) ?_
    show own_S p e below T12 (mkF m 164 #[.val (.ref a1), .val (.int (0 : Int32)), .val (.long q3), .second] [(.int (14 : Int32)), (.int (0 : Int32)), (.ref a1)]) _
    refine XS.iadd X12.here hx rfl (hb hby d_method_4_164) rfl ?_
    rw [(by decide : ((0 : Int32) + (14 : Int32)) = (14 : Int32))]
    show own_S p e below T12 (mkF m 165 #[.val (.ref a1), .val (.int (0 : Int32)), .val (.long q3), .second] [(.int (14 : Int32)), (.ref a1)]) _
    refine XS.lloadN X12.here hx rfl (hb hby d_method_4_165) rfl ?_
    show own_S p e below T12 (mkF m 166 #[.val (.ref a1), .val (.int (0 : Int32)), .val (.long q3), .second] [(.long q3), (.int (14 : Int32)), (.ref a1)]) _
    refine XS.iconst X12.here hx rfl (hb hby d_method_4_166) ?_
    exact kt)
  obtain ⟨_, _, ⟨T18, L18, cc18, ss18⟩, -, X18, ⟨Lc18, hQ18, l18, y18, z18⟩, st18⟩ := Jvm.LawKit.callS X12 hx (y := (⟨"com/example/dual_delivery/dualdelivery/model/ReceiptHandleParsePinLaw", "hexDigit", "(JI)C"⟩ : MethodName)) hown (mvT hZ (hw _ (List.mem_of_getElem? (i := 5) rfl))) (mvT hZ (hw _ (List.mem_of_getElem? (i := 6) rfl))) (mvT hZ (hw _ (List.mem_of_getElem? (i := 3) rfl))) (mvT hZ (hw _ (List.mem_of_getElem? (i := 7) rfl))) (by decide) (backOf (W := 2) (rm2 l Z a0 hw [] q3 (4 : Int32)  h12 n0 Z13 ) hZ (hw _ (List.mem_of_getElem? (i := 7) rfl)) (hw _ (List.mem_of_getElem? (i := 3) rfl)) (by decide) (by decide)) (g := (mkF m 167 #[.val (.ref a1), .val (.int (0 : Int32)), .val (.long q3), .second] [(.int (4 : Int32)), (.long q3), (.int (14 : Int32)), (.ref a1)])) rfl (by rw [hml]; rfl) (argsL := [(.long q3), (.int (4 : Int32))]) (rest := [(.int (14 : Int32)), (.ref a1)]) (lenOf pd_0 rfl) rfl (by show 2 * 0 + _ ≤ _; exact Nat.le_of_eq rfl) (hb hby d_method_4_167) (fun _ _ => ⟨rfl, e12, (by decide : 0 + 0 ≤ _), (by decide : 0 + 0 ≤ _)⟩)
  dsimp only [Pt.U, Pt.locs, Pt.cells, Pt.slots] at X18 l18 y18 z18 st18 hQ18
  subst l18 y18 z18
  have X18 : Stand p l e _ _ m _ below meth c T18 _ 0 0 := X18
  obtain ⟨rfl, Nq18, eq18⟩ := hQ18
  have Nf18 := Fr.app Nf15 Nq18
  have kn19 : ∀ t, own_S p e below T18 (mkF m 170 #[.val (.ref a1), .val (.int (0 : Int32)), .val (.long q3), .second] [(.int (own_hex q3 (4 : Int32))), (.int (14 : Int32)), (.ref a1)]) t → own_S p e below T0 (mkF m 136 #[.val (.ref a1), .val (.int (0 : Int32)), .val (.long q3), .second] []) t := fun t kt => kn17 t (st18 _ kt)
  obtain ⟨cl20, Ar20, q20, Sz20, Ng20, Hs20, Gs20⟩ := id V12
  have hin20 : ¬ ((14 : Int32) < 0 ∨ cl20.slots.size ≤ ((14 : Int32)).toNatClampNeg) := inb_of Sz20 ⟨by decide, by decide⟩
  obtain ⟨T20, h20, X20, e20, W20, st20⟩ := stC X18 hx hZ eq18 Ar20 (j := (14 : Int32)) hin20 (g := (mkF m 170 #[.val (.ref a1), .val (.int (0 : Int32)), .val (.long q3), .second] [(.int (own_hex q3 (4 : Int32))), (.int (14 : Int32)), (.ref a1)])) rfl rfl (hb hby d_method_4_170)
  have Z21 : n0 ≤ h20.size := Nat.le_trans Z13 (Keep.of_wr W20).1
  have K22 : Keep hB h20 [a1] := K14.wr W20 (Or.inl (List.mem_of_getElem? (i := 0) rfl))
  have V20 : Arv Z h20 a1 kk1 .char (48 : Int32) ((.int (own_hex q3 (60 : Int32))) :: (.int (own_hex q3 (56 : Int32))) :: (.int (own_hex q3 (52 : Int32))) :: (.int (own_hex q3 (48 : Int32))) :: (.int (own_hex q3 (44 : Int32))) :: (.int (own_hex q3 (40 : Int32))) :: (.int (own_hex q3 (36 : Int32))) :: (.int (own_hex q3 (32 : Int32))) :: (.int (own_hex q3 (28 : Int32))) :: (.int (own_hex q3 (24 : Int32))) :: (.int (own_hex q3 (20 : Int32))) :: (.int (own_hex q3 (16 : Int32))) :: (.int (own_hex q3 (12 : Int32))) :: (.int (own_hex q3 (8 : Int32))) :: (.int ((own_hex q3 (4 : Int32)).toUInt32.toUInt16.toUInt32.toInt32)) :: (.int u15) :: (.int u16) :: (.int u17) :: (.int u18) :: (.int u19) :: (.int u20) :: (.int u21) :: (.int u22) :: (.int u23) :: (.int u24) :: (.int u25) :: (.int u26) :: (.int u27) :: (.int u28) :: (.int u29) :: (.int u30) :: (.int u31) :: (.int u32) :: (.int u33) :: (.int u34) :: (.int u35) :: (.int u36) :: (.int u37) :: (.int u38) :: (.int u39) :: (.int u40) :: (.int u41) :: (.int u42) :: (.int u43) :: (.int u44) :: (.int u45) :: (.int u46) :: (.int u47) :: []) (.int (0 : Int32)) := Arv.set Ar20 q20 Sz20 Ng20 Hs20 Gs20 (fits_nar_char _) W20 14 rfl (Nat.le_of_ble_eq_true rfl)
  rw [(show ((own_hex q3 (4 : Int32)).toUInt32.toUInt16.toUInt32.toInt32) = (own_hex q3 (4 : Int32)) from (own_hxs _ _).2.2.2.2.1)] at V20
  have Nf23 := Fr.snoc X20 Nf18 g_a1
  have kn24 : ∀ t, own_S p e below T20 (mkF m 171 #[.val (.ref a1), .val (.int (0 : Int32)), .val (.long q3), .second] []) t → own_S p e below T0 (mkF m 136 #[.val (.ref a1), .val (.int (0 : Int32)), .val (.long q3), .second] []) t := fun t kt => kn19 t (st20 _ kt)
  have kn25 : ∀ t, own_S p e below T20 (mkF m 178 #[.val (.ref a1), .val (.int (0 : Int32)), .val (.long q3), .second] [(.int (0 : Int32)), (.long q3), (.int (15 : Int32)), (.ref a1)]) t → own_S p e below T0 (mkF m 136 #[.val (.ref a1), .val (.int (0 : Int32)), .val (.long q3), .second] []) t := fun t kt => kn24 t (by
    show own_S p e below T20 (mkF m 171 #[.val (.ref a1), .val (.int (0 : Int32)), .val (.long q3), .second] []) _
    refine XS.aloadN X20.here hx rfl (hb hby d_method_4_171) rfl rfl ?_
    show own_S p e below T20 (mkF m 172 #[.val (.ref a1), .val (.int (0 : Int32)), .val (.long q3), .second] [(.ref a1)]) _
    refine XS.iloadN X20.here hx rfl (hb hby d_method_4_172) rfl ?_
    show own_S p e below T20 (mkF m 173 #[.val (.ref a1), .val (.int (0 : Int32)), .val (.long q3), .second] [(.int (0 : Int32)), (.ref a1)]) _
    refine XS.bipush X20.here hx rfl (hb hby d_method_4_173) ?_
    show own_S p e below T20 (mkF m 175 #[.val (.ref a1), .val (.int (0 : Int32)), .val (.long q3), .second] [(.int (15 : Int32)), (.int (0 : Int32)), (.ref a1)]) _
    refine XS.iadd X20.here hx rfl (hb hby d_method_4_175) rfl ?_
    rw [(by decide : ((0 : Int32) + (15 : Int32)) = (15 : Int32))]
    show own_S p e below T20 (mkF m 176 #[.val (.ref a1), .val (.int (0 : Int32)), .val (.long q3), .second] [(.int (15 : Int32)), (.ref a1)]) _
    refine XS.lloadN X20.here hx rfl (hb hby d_method_4_176) rfl ?_
    show own_S p e below T20 (mkF m 177 #[.val (.ref a1), .val (.int (0 : Int32)), .val (.long q3), .second] [(.long q3), (.int (15 : Int32)), (.ref a1)]) _
    refine XS.iconst X20.here hx rfl (hb hby d_method_4_177) ?_
    exact kt)
  obtain ⟨_, _, ⟨T26, L26, cc26, ss26⟩, -, X26, ⟨Lc26, hQ26, l26, y26, z26⟩, st26⟩ := Jvm.LawKit.callS X20 hx (y := (⟨"com/example/dual_delivery/dualdelivery/model/ReceiptHandleParsePinLaw", "hexDigit", "(JI)C"⟩ : MethodName)) hown (mvT hZ (hw _ (List.mem_of_getElem? (i := 5) rfl))) (mvT hZ (hw _ (List.mem_of_getElem? (i := 6) rfl))) (mvT hZ (hw _ (List.mem_of_getElem? (i := 3) rfl))) (mvT hZ (hw _ (List.mem_of_getElem? (i := 7) rfl))) (by decide) (backOf (W := 2) (rm2 l Z a0 hw [] q3 (0 : Int32)  h20 n0 Z21 ) hZ (hw _ (List.mem_of_getElem? (i := 7) rfl)) (hw _ (List.mem_of_getElem? (i := 3) rfl)) (by decide) (by decide)) (g := (mkF m 178 #[.val (.ref a1), .val (.int (0 : Int32)), .val (.long q3), .second] [(.int (0 : Int32)), (.long q3), (.int (15 : Int32)), (.ref a1)])) rfl (by rw [hml]; rfl) (argsL := [(.long q3), (.int (0 : Int32))]) (rest := [(.int (15 : Int32)), (.ref a1)]) (lenOf pd_0 rfl) rfl (by show 2 * 0 + _ ≤ _; exact Nat.le_of_eq rfl) (hb hby d_method_4_178) (fun _ _ => ⟨rfl, e20, (by decide : 0 + 0 ≤ _), (by decide : 0 + 0 ≤ _)⟩)
  dsimp only [Pt.U, Pt.locs, Pt.cells, Pt.slots] at X26 l26 y26 z26 st26 hQ26
  subst l26 y26 z26
  have X26 : Stand p l e _ _ m _ below meth c T26 _ 0 0 := X26
  obtain ⟨rfl, Nq26, eq26⟩ := hQ26
  have Nf26 := Fr.app Nf23 Nq26
  have kn27 : ∀ t, own_S p e below T26 (mkF m 181 #[.val (.ref a1), .val (.int (0 : Int32)), .val (.long q3), .second] [(.int (own_hex q3 (0 : Int32))), (.int (15 : Int32)), (.ref a1)]) t → own_S p e below T0 (mkF m 136 #[.val (.ref a1), .val (.int (0 : Int32)), .val (.long q3), .second] []) t := fun t kt => kn25 t (st26 _ kt)
  obtain ⟨cl28, Ar28, q28, Sz28, Ng28, Hs28, Gs28⟩ := id V20
  have hin28 : ¬ ((15 : Int32) < 0 ∨ cl28.slots.size ≤ ((15 : Int32)).toNatClampNeg) := inb_of Sz28 ⟨by decide, by decide⟩
  obtain ⟨T28, h28, X28, e28, W28, st28⟩ := stC X26 hx hZ eq26 Ar28 (j := (15 : Int32)) hin28 (g := (mkF m 181 #[.val (.ref a1), .val (.int (0 : Int32)), .val (.long q3), .second] [(.int (own_hex q3 (0 : Int32))), (.int (15 : Int32)), (.ref a1)])) rfl rfl (hb hby d_method_4_181)
  have Z29 : n0 ≤ h28.size := Nat.le_trans Z21 (Keep.of_wr W28).1
  have K30 : Keep hB h28 [a1] := K22.wr W28 (Or.inl (List.mem_of_getElem? (i := 0) rfl))
  have V28 : Arv Z h28 a1 kk1 .char (48 : Int32) ((.int (own_hex q3 (60 : Int32))) :: (.int (own_hex q3 (56 : Int32))) :: (.int (own_hex q3 (52 : Int32))) :: (.int (own_hex q3 (48 : Int32))) :: (.int (own_hex q3 (44 : Int32))) :: (.int (own_hex q3 (40 : Int32))) :: (.int (own_hex q3 (36 : Int32))) :: (.int (own_hex q3 (32 : Int32))) :: (.int (own_hex q3 (28 : Int32))) :: (.int (own_hex q3 (24 : Int32))) :: (.int (own_hex q3 (20 : Int32))) :: (.int (own_hex q3 (16 : Int32))) :: (.int (own_hex q3 (12 : Int32))) :: (.int (own_hex q3 (8 : Int32))) :: (.int (own_hex q3 (4 : Int32))) :: (.int ((own_hex q3 (0 : Int32)).toUInt32.toUInt16.toUInt32.toInt32)) :: (.int u16) :: (.int u17) :: (.int u18) :: (.int u19) :: (.int u20) :: (.int u21) :: (.int u22) :: (.int u23) :: (.int u24) :: (.int u25) :: (.int u26) :: (.int u27) :: (.int u28) :: (.int u29) :: (.int u30) :: (.int u31) :: (.int u32) :: (.int u33) :: (.int u34) :: (.int u35) :: (.int u36) :: (.int u37) :: (.int u38) :: (.int u39) :: (.int u40) :: (.int u41) :: (.int u42) :: (.int u43) :: (.int u44) :: (.int u45) :: (.int u46) :: (.int u47) :: []) (.int (0 : Int32)) := Arv.set Ar28 q28 Sz28 Ng28 Hs28 Gs28 (fits_nar_char _) W28 15 rfl (Nat.le_of_ble_eq_true rfl)
  rw [(show ((own_hex q3 (0 : Int32)).toUInt32.toUInt16.toUInt32.toInt32) = (own_hex q3 (0 : Int32)) from (own_hxs _ _).2.2.2.2.1)] at V28
  have Nf31 := Fr.snoc X28 Nf26 g_a1
  have kn32 : ∀ t, own_S p e below T28 (mkF m 182 #[.val (.ref a1), .val (.int (0 : Int32)), .val (.long q3), .second] []) t → own_S p e below T0 (mkF m 136 #[.val (.ref a1), .val (.int (0 : Int32)), .val (.long q3), .second] []) t := fun t kt => kn27 t (st28 _ kt)
  obtain ⟨fs, hr, hrun, hended, hW, hsame⟩ := X28.leave (v := none) (fun _ => rfl)
  refine ⟨_, _, id (kn32 _ (X28.returnOut hx hret (hb hby d_method_4_182) hr)), hrun, hended, _, _, rfl, ?_, ⟨_, rfl⟩, hW, hsame.mono (by decide) (by decide)⟩
  show Q1_0 Z a1 q3 kk1 u0 u1 u2 u3 u4 u5 u6 u7 u8 u9 u10 u11 u12 u13 u14 u15 u16 u17 u18 u19 u20 u21 u22 u23 u24 u25 u26 u27 u28 u29 u30 u31 u32 u33 u34 u35 u36 u37 u38 u39 u40 u41 u42 u43 u44 u45 u46 u47 hB h0 n0 _ T28.heap _
  rw [e28]
  exact ⟨rfl, Nf31, K30, V28⟩

theorem d_method_4_88 : decode method_4_code 88 = .ok (.aload_n 0, 1) := by decide +kernel
theorem d_method_4_89 : decode method_4_code 89 = .ok (.iload_n 1, 1) := by decide +kernel
theorem d_method_4_90 : decode method_4_code 90 = .ok (.bipush 8, 2) := by decide +kernel
theorem d_method_4_92 : decode method_4_code 92 = .ok (.iadd, 1) := by decide +kernel
theorem d_method_4_93 : decode method_4_code 93 = .ok (.lload_n 2, 1) := by decide +kernel
theorem d_method_4_94 : decode method_4_code 94 = .ok (.bipush 28, 2) := by decide +kernel
theorem d_method_4_96 : decode method_4_code 96 = .ok (.invokestatic 36, 3) := by decide +kernel
theorem d_method_4_99 : decode method_4_code 99 = .ok (.castore, 1) := by decide +kernel
theorem d_method_4_100 : decode method_4_code 100 = .ok (.aload_n 0, 1) := by decide +kernel
theorem d_method_4_101 : decode method_4_code 101 = .ok (.iload_n 1, 1) := by decide +kernel
theorem d_method_4_102 : decode method_4_code 102 = .ok (.bipush 9, 2) := by decide +kernel
theorem d_method_4_104 : decode method_4_code 104 = .ok (.iadd, 1) := by decide +kernel
theorem d_method_4_105 : decode method_4_code 105 = .ok (.lload_n 2, 1) := by decide +kernel
theorem d_method_4_106 : decode method_4_code 106 = .ok (.bipush 24, 2) := by decide +kernel
theorem d_method_4_108 : decode method_4_code 108 = .ok (.invokestatic 36, 3) := by decide +kernel
theorem d_method_4_111 : decode method_4_code 111 = .ok (.castore, 1) := by decide +kernel
theorem d_method_4_112 : decode method_4_code 112 = .ok (.aload_n 0, 1) := by decide +kernel
theorem d_method_4_113 : decode method_4_code 113 = .ok (.iload_n 1, 1) := by decide +kernel
theorem d_method_4_114 : decode method_4_code 114 = .ok (.bipush 10, 2) := by decide +kernel
theorem d_method_4_116 : decode method_4_code 116 = .ok (.iadd, 1) := by decide +kernel
theorem d_method_4_117 : decode method_4_code 117 = .ok (.lload_n 2, 1) := by decide +kernel
theorem d_method_4_118 : decode method_4_code 118 = .ok (.bipush 20, 2) := by decide +kernel
theorem d_method_4_120 : decode method_4_code 120 = .ok (.invokestatic 36, 3) := by decide +kernel
theorem d_method_4_123 : decode method_4_code 123 = .ok (.castore, 1) := by decide +kernel
theorem d_method_4_124 : decode method_4_code 124 = .ok (.aload_n 0, 1) := by decide +kernel
theorem d_method_4_125 : decode method_4_code 125 = .ok (.iload_n 1, 1) := by decide +kernel
theorem d_method_4_126 : decode method_4_code 126 = .ok (.bipush 11, 2) := by decide +kernel
theorem d_method_4_128 : decode method_4_code 128 = .ok (.iadd, 1) := by decide +kernel
theorem d_method_4_129 : decode method_4_code 129 = .ok (.lload_n 2, 1) := by decide +kernel
theorem d_method_4_130 : decode method_4_code 130 = .ok (.bipush 16, 2) := by decide +kernel
theorem d_method_4_132 : decode method_4_code 132 = .ok (.invokestatic 36, 3) := by decide +kernel
theorem d_method_4_135 : decode method_4_code 135 = .ok (.castore, 1) := by decide +kernel
set_option maxRecDepth 65536 in
set_option maxHeartbeats 40000000 in
theorem tlp_0_2 {p : Program} {l : Launch} {e : Env} {s : State} {m : MethodId} {args : Array Value} {below : List Frame} {meth : Method} {c : Code} {T0 : State} {locs : List Loc} {Z : State} {a0 : Array Value} {h0 : Heap} {n0 : Nat} (a1 : Addr) (q3 : Int64) (kk1 : ClassId) (u0 : Int32) (u1 : Int32) (u2 : Int32) (u3 : Int32) (u4 : Int32) (u5 : Int32) (u6 : Int32) (u7 : Int32) (u8 : Int32) (u9 : Int32) (u10 : Int32) (u11 : Int32) (u12 : Int32) (u13 : Int32) (u14 : Int32) (u15 : Int32) (u16 : Int32) (u17 : Int32) (u18 : Int32) (u19 : Int32) (u20 : Int32) (u21 : Int32) (u22 : Int32) (u23 : Int32) (u24 : Int32) (u25 : Int32) (u26 : Int32) (u27 : Int32) (u28 : Int32) (u29 : Int32) (u30 : Int32) (u31 : Int32) (u32 : Int32) (u33 : Int32) (u34 : Int32) (u35 : Int32) (u36 : Int32) (u37 : Int32) (u38 : Int32) (u39 : Int32) (u40 : Int32) (u41 : Int32) (u42 : Int32) (u43 : Int32) (u44 : Int32) (u45 : Int32) (u46 : Int32) (u47 : Int32) (hB : Heap)
    (X0 : Stand p l e ({ frames := 1, cells := 0, slots := 0, locals := 17 } : Room) s m args below meth c T0 locs 0 0) (hx : p.tables.exec = Jvm.exec) (hZ : Z.Warmed39 s.vm) (hw : ∀ d ∈ tables_1, d.before a0 Z = true) (hby : c.code = method_4_code) (hml : c.maxLocals = 4) (hown : s.vm.findClass "com/example/dual_delivery/dualdelivery/model/ReceiptHandleParsePinLaw" = some m.cls) (hret : meth.sig.returnType = none) (hlk : meth.locks = false) (e0 : T0.heap = h0) (Nf0 : Fr n0 locs) (Z0 : n0 ≤ h0.size) (V1 : Arv Z h0 a1 kk1 .char (48 : Int32) ((.int (own_hex q3 (60 : Int32))) :: (.int (own_hex q3 (56 : Int32))) :: (.int (own_hex q3 (52 : Int32))) :: (.int (own_hex q3 (48 : Int32))) :: (.int (own_hex q3 (44 : Int32))) :: (.int (own_hex q3 (40 : Int32))) :: (.int (own_hex q3 (36 : Int32))) :: (.int (own_hex q3 (32 : Int32))) :: (.int u8) :: (.int u9) :: (.int u10) :: (.int u11) :: (.int u12) :: (.int u13) :: (.int u14) :: (.int u15) :: (.int u16) :: (.int u17) :: (.int u18) :: (.int u19) :: (.int u20) :: (.int u21) :: (.int u22) :: (.int u23) :: (.int u24) :: (.int u25) :: (.int u26) :: (.int u27) :: (.int u28) :: (.int u29) :: (.int u30) :: (.int u31) :: (.int u32) :: (.int u33) :: (.int u34) :: (.int u35) :: (.int u36) :: (.int u37) :: (.int u38) :: (.int u39) :: (.int u40) :: (.int u41) :: (.int u42) :: (.int u43) :: (.int u44) :: (.int u45) :: (.int u46) :: (.int u47) :: []) (.int (0 : Int32))) (KB : Keep hB h0 [a1]) (g_a1 : n0 ≤ a1) :
    ∃ s₂ o, Steps p.tables e below (T0.setTop (mkF m 88 #[.val (.ref a1), .val (.int (0 : Int32)), .val (.long q3), .second] [])) s₂ ∧ s₂.status = .running ∧ Ended s₂ below o ∧ ∃ v L, o = .returned v ∧ Q1_0 Z a1 q3 kk1 u0 u1 u2 u3 u4 u5 u6 u7 u8 u9 u10 u11 u12 u13 u14 u15 u16 u17 u18 u19 u20 u21 u22 u23 u24 u25 u26 u27 u28 u29 u30 u31 u32 u33 u34 u35 u36 u37 u38 u39 u40 u41 u42 u43 u44 u45 u46 u47 hB h0 n0 v s₂.heap L ∧ FrameEnd s o s₂ L ({ frames := 1, cells := 0, slots := 0, locals := 17 } : Room).cells ({ frames := 1, cells := 0, slots := 0, locals := 17 } : Room).slots := by
  have kn0 : ∀ t, own_S p e below T0 (mkF m 88 #[.val (.ref a1), .val (.int (0 : Int32)), .val (.long q3), .second] []) t → own_S p e below T0 (mkF m 88 #[.val (.ref a1), .val (.int (0 : Int32)), .val (.long q3), .second] []) t := fun t k => k
  have kn1 : ∀ t, own_S p e below T0 (mkF m 96 #[.val (.ref a1), .val (.int (0 : Int32)), .val (.long q3), .second] [(.int (28 : Int32)), (.long q3), (.int (8 : Int32)), (.ref a1)]) t → own_S p e below T0 (mkF m 88 #[.val (.ref a1), .val (.int (0 : Int32)), .val (.long q3), .second] []) t := fun t kt => kn0 t (by
    show own_S p e below T0 (mkF m 88 #[.val (.ref a1), .val (.int (0 : Int32)), .val (.long q3), .second] []) _
    refine XS.aloadN X0.here hx rfl (hb hby d_method_4_88) rfl rfl ?_
    show own_S p e below T0 (mkF m 89 #[.val (.ref a1), .val (.int (0 : Int32)), .val (.long q3), .second] [(.ref a1)]) _
    refine XS.iloadN X0.here hx rfl (hb hby d_method_4_89) rfl ?_
    show own_S p e below T0 (mkF m 90 #[.val (.ref a1), .val (.int (0 : Int32)), .val (.long q3), .second] [(.int (0 : Int32)), (.ref a1)]) _
    refine XS.bipush X0.here hx rfl (hb hby d_method_4_90) ?_
    show own_S p e below T0 (mkF m 92 #[.val (.ref a1), .val (.int (0 : Int32)), .val (.long q3), .second] [(.int (8 : Int32)), (.int (0 : Int32)), (.ref a1)]) _
    refine XS.iadd X0.here hx rfl (hb hby d_method_4_92) rfl ?_
    rw [(by decide : ((0 : Int32) + (8 : Int32)) = (8 : Int32))]
    show own_S p e below T0 (mkF m 93 #[.val (.ref a1), .val (.int (0 : Int32)), .val (.long q3), .second] [(.int (8 : Int32)), (.ref a1)]) _
    refine XS.lloadN X0.here hx rfl (hb hby d_method_4_93) rfl ?_
    show own_S p e below T0 (mkF m 94 #[.val (.ref a1), .val (.int (0 : Int32)), .val (.long q3), .second] [(.long q3), (.int (8 : Int32)), (.ref a1)]) _
    refine XS.bipush X0.here hx rfl (hb hby d_method_4_94) ?_
    exact kt)
  obtain ⟨_, _, ⟨T2, L2, cc2, ss2⟩, -, X2, ⟨Lc2, hQ2, l2, y2, z2⟩, st2⟩ := Jvm.LawKit.callS X0 hx (y := (⟨"com/example/dual_delivery/dualdelivery/model/ReceiptHandleParsePinLaw", "hexDigit", "(JI)C"⟩ : MethodName)) hown (mvT hZ (hw _ (List.mem_of_getElem? (i := 5) rfl))) (mvT hZ (hw _ (List.mem_of_getElem? (i := 6) rfl))) (mvT hZ (hw _ (List.mem_of_getElem? (i := 3) rfl))) (mvT hZ (hw _ (List.mem_of_getElem? (i := 7) rfl))) (by decide) (backOf (W := 2) (rm2 l Z a0 hw [] q3 (28 : Int32)  h0 n0 Z0 ) hZ (hw _ (List.mem_of_getElem? (i := 7) rfl)) (hw _ (List.mem_of_getElem? (i := 3) rfl)) (by decide) (by decide)) (g := (mkF m 96 #[.val (.ref a1), .val (.int (0 : Int32)), .val (.long q3), .second] [(.int (28 : Int32)), (.long q3), (.int (8 : Int32)), (.ref a1)])) rfl (by rw [hml]; rfl) (argsL := [(.long q3), (.int (28 : Int32))]) (rest := [(.int (8 : Int32)), (.ref a1)]) (lenOf pd_0 rfl) rfl (by show 2 * 0 + _ ≤ _; exact Nat.le_of_eq rfl) (hb hby d_method_4_96) (fun _ _ => ⟨rfl, e0, (by decide : 0 + 0 ≤ _), (by decide : 0 + 0 ≤ _)⟩)
  dsimp only [Pt.U, Pt.locs, Pt.cells, Pt.slots] at X2 l2 y2 z2 st2 hQ2
  subst l2 y2 z2
  have X2 : Stand p l e _ _ m _ below meth c T2 _ 0 0 := X2
  obtain ⟨rfl, Nq2, eq2⟩ := hQ2
  have Nf2 := Fr.app Nf0 Nq2
  have kn3 : ∀ t, own_S p e below T2 (mkF m 99 #[.val (.ref a1), .val (.int (0 : Int32)), .val (.long q3), .second] [(.int (own_hex q3 (28 : Int32))), (.int (8 : Int32)), (.ref a1)]) t → own_S p e below T0 (mkF m 88 #[.val (.ref a1), .val (.int (0 : Int32)), .val (.long q3), .second] []) t := fun t kt => kn1 t (st2 _ kt)
  obtain ⟨cl4, Ar4, q4, Sz4, Ng4, Hs4, Gs4⟩ := id V1
  have hin4 : ¬ ((8 : Int32) < 0 ∨ cl4.slots.size ≤ ((8 : Int32)).toNatClampNeg) := inb_of Sz4 ⟨by decide, by decide⟩
  obtain ⟨T4, h4, X4, e4, W4, st4⟩ := stC X2 hx hZ eq2 Ar4 (j := (8 : Int32)) hin4 (g := (mkF m 99 #[.val (.ref a1), .val (.int (0 : Int32)), .val (.long q3), .second] [(.int (own_hex q3 (28 : Int32))), (.int (8 : Int32)), (.ref a1)])) rfl rfl (hb hby d_method_4_99)
  have Z5 : n0 ≤ h4.size := Nat.le_trans Z0 (Keep.of_wr W4).1
  have K6 : Keep hB h4 [a1] := KB.wr W4 (Or.inl (List.mem_of_getElem? (i := 0) rfl))
  have V4 : Arv Z h4 a1 kk1 .char (48 : Int32) ((.int (own_hex q3 (60 : Int32))) :: (.int (own_hex q3 (56 : Int32))) :: (.int (own_hex q3 (52 : Int32))) :: (.int (own_hex q3 (48 : Int32))) :: (.int (own_hex q3 (44 : Int32))) :: (.int (own_hex q3 (40 : Int32))) :: (.int (own_hex q3 (36 : Int32))) :: (.int (own_hex q3 (32 : Int32))) :: (.int ((own_hex q3 (28 : Int32)).toUInt32.toUInt16.toUInt32.toInt32)) :: (.int u9) :: (.int u10) :: (.int u11) :: (.int u12) :: (.int u13) :: (.int u14) :: (.int u15) :: (.int u16) :: (.int u17) :: (.int u18) :: (.int u19) :: (.int u20) :: (.int u21) :: (.int u22) :: (.int u23) :: (.int u24) :: (.int u25) :: (.int u26) :: (.int u27) :: (.int u28) :: (.int u29) :: (.int u30) :: (.int u31) :: (.int u32) :: (.int u33) :: (.int u34) :: (.int u35) :: (.int u36) :: (.int u37) :: (.int u38) :: (.int u39) :: (.int u40) :: (.int u41) :: (.int u42) :: (.int u43) :: (.int u44) :: (.int u45) :: (.int u46) :: (.int u47) :: []) (.int (0 : Int32)) := Arv.set Ar4 q4 Sz4 Ng4 Hs4 Gs4 (fits_nar_char _) W4 8 rfl (Nat.le_of_ble_eq_true rfl)
  rw [(show ((own_hex q3 (28 : Int32)).toUInt32.toUInt16.toUInt32.toInt32) = (own_hex q3 (28 : Int32)) from (own_hxs _ _).2.2.2.2.1)] at V4
  have Nf7 := Fr.snoc X4 Nf2 g_a1
  have kn8 : ∀ t, own_S p e below T4 (mkF m 100 #[.val (.ref a1), .val (.int (0 : Int32)), .val (.long q3), .second] []) t → own_S p e below T0 (mkF m 88 #[.val (.ref a1), .val (.int (0 : Int32)), .val (.long q3), .second] []) t := fun t kt => kn3 t (st4 _ kt)
  have kn9 : ∀ t, own_S p e below T4 (mkF m 108 #[.val (.ref a1), .val (.int (0 : Int32)), .val (.long q3), .second] [(.int (24 : Int32)), (.long q3), (.int (9 : Int32)), (.ref a1)]) t → own_S p e below T0 (mkF m 88 #[.val (.ref a1), .val (.int (0 : Int32)), .val (.long q3), .second] []) t := fun t kt => kn8 t (by
    show own_S p e below T4 (mkF m 100 #[.val (.ref a1), .val (.int (0 : Int32)), .val (.long q3), .second] []) _
    refine XS.aloadN X4.here hx rfl (hb hby d_method_4_100) rfl rfl ?_
    show own_S p e below T4 (mkF m 101 #[.val (.ref a1), .val (.int (0 : Int32)), .val (.long q3), .second] [(.ref a1)]) _
    refine XS.iloadN X4.here hx rfl (hb hby d_method_4_101) rfl ?_
    show own_S p e below T4 (mkF m 102 #[.val (.ref a1), .val (.int (0 : Int32)), .val (.long q3), .second] [(.int (0 : Int32)), (.ref a1)]) _
    refine XS.bipush X4.here hx rfl (hb hby d_method_4_102) ?_
    show own_S p e below T4 (mkF m 104 #[.val (.ref a1), .val (.int (0 : Int32)), .val (.long q3), .second] [(.int (9 : Int32)), (.int (0 : Int32)), (.ref a1)]) _
    refine XS.iadd X4.here hx rfl (hb hby d_method_4_104) rfl ?_
    rw [(by decide : ((0 : Int32) + (9 : Int32)) = (9 : Int32))]
    show own_S p e below T4 (mkF m 105 #[.val (.ref a1), .val (.int (0 : Int32)), .val (.long q3), .second] [(.int (9 : Int32)), (.ref a1)]) _
    refine XS.lloadN X4.here hx rfl (hb hby d_method_4_105) rfl ?_
    show own_S p e below T4 (mkF m 106 #[.val (.ref a1), .val (.int (0 : Int32)), .val (.long q3), .second] [(.long q3), (.int (9 : Int32)), (.ref a1)]) _
    refine XS.bipush X4.here hx rfl (hb hby d_method_4_106) ?_
    exact kt)
  obtain ⟨_, _, ⟨T10, L10, cc10, ss10⟩, -, X10, ⟨Lc10, hQ10, l10, y10, z10⟩, st10⟩ := Jvm.LawKit.callS X4 hx (y := (⟨"com/example/dual_delivery/dualdelivery/model/ReceiptHandleParsePinLaw", "hexDigit", "(JI)C"⟩ : MethodName)) hown (mvT hZ (hw _ (List.mem_of_getElem? (i := 5) rfl))) (mvT hZ (hw _ (List.mem_of_getElem? (i := 6) rfl))) (mvT hZ (hw _ (List.mem_of_getElem? (i := 3) rfl))) (mvT hZ (hw _ (List.mem_of_getElem? (i := 7) rfl))) (by decide) (backOf (W := 2) (rm2 l Z a0 hw [] q3 (24 : Int32)  h4 n0 Z5 ) hZ (hw _ (List.mem_of_getElem? (i := 7) rfl)) (hw _ (List.mem_of_getElem? (i := 3) rfl)) (by decide) (by decide)) (g := (mkF m 108 #[.val (.ref a1), .val (.int (0 : Int32)), .val (.long q3), .second] [(.int (24 : Int32)), (.long q3), (.int (9 : Int32)), (.ref a1)])) rfl (by rw [hml]; rfl) (argsL := [(.long q3), (.int (24 : Int32))]) (rest := [(.int (9 : Int32)), (.ref a1)]) (lenOf pd_0 rfl) rfl (by show 2 * 0 + _ ≤ _; exact Nat.le_of_eq rfl) (hb hby d_method_4_108) (fun _ _ => ⟨rfl, e4, (by decide : 0 + 0 ≤ _), (by decide : 0 + 0 ≤ _)⟩)
  dsimp only [Pt.U, Pt.locs, Pt.cells, Pt.slots] at X10 l10 y10 z10 st10 hQ10
  subst l10 y10 z10
  have X10 : Stand p l e _ _ m _ below meth c T10 _ 0 0 := X10
  obtain ⟨rfl, Nq10, eq10⟩ := hQ10
  have Nf10 := Fr.app Nf7 Nq10
  have kn11 : ∀ t, own_S p e below T10 (mkF m 111 #[.val (.ref a1), .val (.int (0 : Int32)), .val (.long q3), .second] [(.int (own_hex q3 (24 : Int32))), (.int (9 : Int32)), (.ref a1)]) t → own_S p e below T0 (mkF m 88 #[.val (.ref a1), .val (.int (0 : Int32)), .val (.long q3), .second] []) t := fun t kt => kn9 t (st10 _ kt)
  obtain ⟨cl12, Ar12, q12, Sz12, Ng12, Hs12, Gs12⟩ := id V4
  have hin12 : ¬ ((9 : Int32) < 0 ∨ cl12.slots.size ≤ ((9 : Int32)).toNatClampNeg) := inb_of Sz12 ⟨by decide, by decide⟩
  obtain ⟨T12, h12, X12, e12, W12, st12⟩ := stC X10 hx hZ eq10 Ar12 (j := (9 : Int32)) hin12 (g := (mkF m 111 #[.val (.ref a1), .val (.int (0 : Int32)), .val (.long q3), .second] [(.int (own_hex q3 (24 : Int32))), (.int (9 : Int32)), (.ref a1)])) rfl rfl (hb hby d_method_4_111)
  have Z13 : n0 ≤ h12.size := Nat.le_trans Z5 (Keep.of_wr W12).1
  have K14 : Keep hB h12 [a1] := K6.wr W12 (Or.inl (List.mem_of_getElem? (i := 0) rfl))
  have V12 : Arv Z h12 a1 kk1 .char (48 : Int32) ((.int (own_hex q3 (60 : Int32))) :: (.int (own_hex q3 (56 : Int32))) :: (.int (own_hex q3 (52 : Int32))) :: (.int (own_hex q3 (48 : Int32))) :: (.int (own_hex q3 (44 : Int32))) :: (.int (own_hex q3 (40 : Int32))) :: (.int (own_hex q3 (36 : Int32))) :: (.int (own_hex q3 (32 : Int32))) :: (.int (own_hex q3 (28 : Int32))) :: (.int ((own_hex q3 (24 : Int32)).toUInt32.toUInt16.toUInt32.toInt32)) :: (.int u10) :: (.int u11) :: (.int u12) :: (.int u13) :: (.int u14) :: (.int u15) :: (.int u16) :: (.int u17) :: (.int u18) :: (.int u19) :: (.int u20) :: (.int u21) :: (.int u22) :: (.int u23) :: (.int u24) :: (.int u25) :: (.int u26) :: (.int u27) :: (.int u28) :: (.int u29) :: (.int u30) :: (.int u31) :: (.int u32) :: (.int u33) :: (.int u34) :: (.int u35) :: (.int u36) :: (.int u37) :: (.int u38) :: (.int u39) :: (.int u40) :: (.int u41) :: (.int u42) :: (.int u43) :: (.int u44) :: (.int u45) :: (.int u46) :: (.int u47) :: []) (.int (0 : Int32)) := Arv.set Ar12 q12 Sz12 Ng12 Hs12 Gs12 (fits_nar_char _) W12 9 rfl (Nat.le_of_ble_eq_true rfl)
  rw [(show ((own_hex q3 (24 : Int32)).toUInt32.toUInt16.toUInt32.toInt32) = (own_hex q3 (24 : Int32)) from (own_hxs _ _).2.2.2.2.1)] at V12
  have Nf15 := Fr.snoc X12 Nf10 g_a1
  have kn16 : ∀ t, own_S p e below T12 (mkF m 112 #[.val (.ref a1), .val (.int (0 : Int32)), .val (.long q3), .second] []) t → own_S p e below T0 (mkF m 88 #[.val (.ref a1), .val (.int (0 : Int32)), .val (.long q3), .second] []) t := fun t kt => kn11 t (st12 _ kt)
  have kn17 : ∀ t, own_S p e below T12 (mkF m 120 #[.val (.ref a1), .val (.int (0 : Int32)), .val (.long q3), .second] [(.int (20 : Int32)), (.long q3), (.int (10 : Int32)), (.ref a1)]) t → own_S p e below T0 (mkF m 88 #[.val (.ref a1), .val (.int (0 : Int32)), .val (.long q3), .second] []) t := fun t kt => kn16 t (by
    show own_S p e below T12 (mkF m 112 #[.val (.ref a1), .val (.int (0 : Int32)), .val (.long q3), .second] []) _
    refine XS.aloadN X12.here hx rfl (hb hby d_method_4_112) rfl rfl ?_
    show own_S p e below T12 (mkF m 113 #[.val (.ref a1), .val (.int (0 : Int32)), .val (.long q3), .second] [(.ref a1)]) _
    refine XS.iloadN X12.here hx rfl (hb hby d_method_4_113) rfl ?_
    show own_S p e below T12 (mkF m 114 #[.val (.ref a1), .val (.int (0 : Int32)), .val (.long q3), .second] [(.int (0 : Int32)), (.ref a1)]) _
    refine XS.bipush X12.here hx rfl (hb hby d_method_4_114) ?_
    show own_S p e below T12 (mkF m 116 #[.val (.ref a1), .val (.int (0 : Int32)), .val (.long q3), .second] [(.int (10 : Int32)), (.int (0 : Int32)), (.ref a1)]) _
    refine XS.iadd X12.here hx rfl (hb hby d_method_4_116) rfl ?_
    rw [(by decide : ((0 : Int32) + (10 : Int32)) = (10 : Int32))]
    show own_S p e below T12 (mkF m 117 #[.val (.ref a1), .val (.int (0 : Int32)), .val (.long q3), .second] [(.int (10 : Int32)), (.ref a1)]) _
    refine XS.lloadN X12.here hx rfl (hb hby d_method_4_117) rfl ?_
    show own_S p e below T12 (mkF m 118 #[.val (.ref a1), .val (.int (0 : Int32)), .val (.long q3), .second] [(.long q3), (.int (10 : Int32)), (.ref a1)]) _
    refine XS.bipush X12.here hx rfl (hb hby d_method_4_118) ?_
    exact kt)
  obtain ⟨_, _, ⟨T18, L18, cc18, ss18⟩, -, X18, ⟨Lc18, hQ18, l18, y18, z18⟩, st18⟩ := Jvm.LawKit.callS X12 hx (y := (⟨"com/example/dual_delivery/dualdelivery/model/ReceiptHandleParsePinLaw", "hexDigit", "(JI)C"⟩ : MethodName)) hown (mvT hZ (hw _ (List.mem_of_getElem? (i := 5) rfl))) (mvT hZ (hw _ (List.mem_of_getElem? (i := 6) rfl))) (mvT hZ (hw _ (List.mem_of_getElem? (i := 3) rfl))) (mvT hZ (hw _ (List.mem_of_getElem? (i := 7) rfl))) (by decide) (backOf (W := 2) (rm2 l Z a0 hw [] q3 (20 : Int32)  h12 n0 Z13 ) hZ (hw _ (List.mem_of_getElem? (i := 7) rfl)) (hw _ (List.mem_of_getElem? (i := 3) rfl)) (by decide) (by decide)) (g := (mkF m 120 #[.val (.ref a1), .val (.int (0 : Int32)), .val (.long q3), .second] [(.int (20 : Int32)), (.long q3), (.int (10 : Int32)), (.ref a1)])) rfl (by rw [hml]; rfl) (argsL := [(.long q3), (.int (20 : Int32))]) (rest := [(.int (10 : Int32)), (.ref a1)]) (lenOf pd_0 rfl) rfl (by show 2 * 0 + _ ≤ _; exact Nat.le_of_eq rfl) (hb hby d_method_4_120) (fun _ _ => ⟨rfl, e12, (by decide : 0 + 0 ≤ _), (by decide : 0 + 0 ≤ _)⟩)
  dsimp only [Pt.U, Pt.locs, Pt.cells, Pt.slots] at X18 l18 y18 z18 st18 hQ18
  subst l18 y18 z18
  have X18 : Stand p l e _ _ m _ below meth c T18 _ 0 0 := X18
  obtain ⟨rfl, Nq18, eq18⟩ := hQ18
  have Nf18 := Fr.app Nf15 Nq18
  have kn19 : ∀ t, own_S p e below T18 (mkF m 123 #[.val (.ref a1), .val (.int (0 : Int32)), .val (.long q3), .second] [(.int (own_hex q3 (20 : Int32))), (.int (10 : Int32)), (.ref a1)]) t → own_S p e below T0 (mkF m 88 #[.val (.ref a1), .val (.int (0 : Int32)), .val (.long q3), .second] []) t := fun t kt => kn17 t (st18 _ kt)
  obtain ⟨cl20, Ar20, q20, Sz20, Ng20, Hs20, Gs20⟩ := id V12
  have hin20 : ¬ ((10 : Int32) < 0 ∨ cl20.slots.size ≤ ((10 : Int32)).toNatClampNeg) := inb_of Sz20 ⟨by decide, by decide⟩
  obtain ⟨T20, h20, X20, e20, W20, st20⟩ := stC X18 hx hZ eq18 Ar20 (j := (10 : Int32)) hin20 (g := (mkF m 123 #[.val (.ref a1), .val (.int (0 : Int32)), .val (.long q3), .second] [(.int (own_hex q3 (20 : Int32))), (.int (10 : Int32)), (.ref a1)])) rfl rfl (hb hby d_method_4_123)
  have Z21 : n0 ≤ h20.size := Nat.le_trans Z13 (Keep.of_wr W20).1
  have K22 : Keep hB h20 [a1] := K14.wr W20 (Or.inl (List.mem_of_getElem? (i := 0) rfl))
  have V20 : Arv Z h20 a1 kk1 .char (48 : Int32) ((.int (own_hex q3 (60 : Int32))) :: (.int (own_hex q3 (56 : Int32))) :: (.int (own_hex q3 (52 : Int32))) :: (.int (own_hex q3 (48 : Int32))) :: (.int (own_hex q3 (44 : Int32))) :: (.int (own_hex q3 (40 : Int32))) :: (.int (own_hex q3 (36 : Int32))) :: (.int (own_hex q3 (32 : Int32))) :: (.int (own_hex q3 (28 : Int32))) :: (.int (own_hex q3 (24 : Int32))) :: (.int ((own_hex q3 (20 : Int32)).toUInt32.toUInt16.toUInt32.toInt32)) :: (.int u11) :: (.int u12) :: (.int u13) :: (.int u14) :: (.int u15) :: (.int u16) :: (.int u17) :: (.int u18) :: (.int u19) :: (.int u20) :: (.int u21) :: (.int u22) :: (.int u23) :: (.int u24) :: (.int u25) :: (.int u26) :: (.int u27) :: (.int u28) :: (.int u29) :: (.int u30) :: (.int u31) :: (.int u32) :: (.int u33) :: (.int u34) :: (.int u35) :: (.int u36) :: (.int u37) :: (.int u38) :: (.int u39) :: (.int u40) :: (.int u41) :: (.int u42) :: (.int u43) :: (.int u44) :: (.int u45) :: (.int u46) :: (.int u47) :: []) (.int (0 : Int32)) := Arv.set Ar20 q20 Sz20 Ng20 Hs20 Gs20 (fits_nar_char _) W20 10 rfl (Nat.le_of_ble_eq_true rfl)
  rw [(show ((own_hex q3 (20 : Int32)).toUInt32.toUInt16.toUInt32.toInt32) = (own_hex q3 (20 : Int32)) from (own_hxs _ _).2.2.2.2.1)] at V20
  have Nf23 := Fr.snoc X20 Nf18 g_a1
  have kn24 : ∀ t, own_S p e below T20 (mkF m 124 #[.val (.ref a1), .val (.int (0 : Int32)), .val (.long q3), .second] []) t → own_S p e below T0 (mkF m 88 #[.val (.ref a1), .val (.int (0 : Int32)), .val (.long q3), .second] []) t := fun t kt => kn19 t (st20 _ kt)
  have kn25 : ∀ t, own_S p e below T20 (mkF m 132 #[.val (.ref a1), .val (.int (0 : Int32)), .val (.long q3), .second] [(.int (16 : Int32)), (.long q3), (.int (11 : Int32)), (.ref a1)]) t → own_S p e below T0 (mkF m 88 #[.val (.ref a1), .val (.int (0 : Int32)), .val (.long q3), .second] []) t := fun t kt => kn24 t (by
    show own_S p e below T20 (mkF m 124 #[.val (.ref a1), .val (.int (0 : Int32)), .val (.long q3), .second] []) _
    refine XS.aloadN X20.here hx rfl (hb hby d_method_4_124) rfl rfl ?_
    show own_S p e below T20 (mkF m 125 #[.val (.ref a1), .val (.int (0 : Int32)), .val (.long q3), .second] [(.ref a1)]) _
    refine XS.iloadN X20.here hx rfl (hb hby d_method_4_125) rfl ?_
    show own_S p e below T20 (mkF m 126 #[.val (.ref a1), .val (.int (0 : Int32)), .val (.long q3), .second] [(.int (0 : Int32)), (.ref a1)]) _
    refine XS.bipush X20.here hx rfl (hb hby d_method_4_126) ?_
    show own_S p e below T20 (mkF m 128 #[.val (.ref a1), .val (.int (0 : Int32)), .val (.long q3), .second] [(.int (11 : Int32)), (.int (0 : Int32)), (.ref a1)]) _
    refine XS.iadd X20.here hx rfl (hb hby d_method_4_128) rfl ?_
    rw [(by decide : ((0 : Int32) + (11 : Int32)) = (11 : Int32))]
    show own_S p e below T20 (mkF m 129 #[.val (.ref a1), .val (.int (0 : Int32)), .val (.long q3), .second] [(.int (11 : Int32)), (.ref a1)]) _
    refine XS.lloadN X20.here hx rfl (hb hby d_method_4_129) rfl ?_
    show own_S p e below T20 (mkF m 130 #[.val (.ref a1), .val (.int (0 : Int32)), .val (.long q3), .second] [(.long q3), (.int (11 : Int32)), (.ref a1)]) _
    refine XS.bipush X20.here hx rfl (hb hby d_method_4_130) ?_
    exact kt)
  obtain ⟨_, _, ⟨T26, L26, cc26, ss26⟩, -, X26, ⟨Lc26, hQ26, l26, y26, z26⟩, st26⟩ := Jvm.LawKit.callS X20 hx (y := (⟨"com/example/dual_delivery/dualdelivery/model/ReceiptHandleParsePinLaw", "hexDigit", "(JI)C"⟩ : MethodName)) hown (mvT hZ (hw _ (List.mem_of_getElem? (i := 5) rfl))) (mvT hZ (hw _ (List.mem_of_getElem? (i := 6) rfl))) (mvT hZ (hw _ (List.mem_of_getElem? (i := 3) rfl))) (mvT hZ (hw _ (List.mem_of_getElem? (i := 7) rfl))) (by decide) (backOf (W := 2) (rm2 l Z a0 hw [] q3 (16 : Int32)  h20 n0 Z21 ) hZ (hw _ (List.mem_of_getElem? (i := 7) rfl)) (hw _ (List.mem_of_getElem? (i := 3) rfl)) (by decide) (by decide)) (g := (mkF m 132 #[.val (.ref a1), .val (.int (0 : Int32)), .val (.long q3), .second] [(.int (16 : Int32)), (.long q3), (.int (11 : Int32)), (.ref a1)])) rfl (by rw [hml]; rfl) (argsL := [(.long q3), (.int (16 : Int32))]) (rest := [(.int (11 : Int32)), (.ref a1)]) (lenOf pd_0 rfl) rfl (by show 2 * 0 + _ ≤ _; exact Nat.le_of_eq rfl) (hb hby d_method_4_132) (fun _ _ => ⟨rfl, e20, (by decide : 0 + 0 ≤ _), (by decide : 0 + 0 ≤ _)⟩)
  dsimp only [Pt.U, Pt.locs, Pt.cells, Pt.slots] at X26 l26 y26 z26 st26 hQ26
  subst l26 y26 z26
  have X26 : Stand p l e _ _ m _ below meth c T26 _ 0 0 := X26
  obtain ⟨rfl, Nq26, eq26⟩ := hQ26
  have Nf26 := Fr.app Nf23 Nq26
  have kn27 : ∀ t, own_S p e below T26 (mkF m 135 #[.val (.ref a1), .val (.int (0 : Int32)), .val (.long q3), .second] [(.int (own_hex q3 (16 : Int32))), (.int (11 : Int32)), (.ref a1)]) t → own_S p e below T0 (mkF m 88 #[.val (.ref a1), .val (.int (0 : Int32)), .val (.long q3), .second] []) t := fun t kt => kn25 t (st26 _ kt)
  obtain ⟨cl28, Ar28, q28, Sz28, Ng28, Hs28, Gs28⟩ := id V20
  have hin28 : ¬ ((11 : Int32) < 0 ∨ cl28.slots.size ≤ ((11 : Int32)).toNatClampNeg) := inb_of Sz28 ⟨by decide, by decide⟩
  obtain ⟨T28, h28, X28, e28, W28, st28⟩ := stC X26 hx hZ eq26 Ar28 (j := (11 : Int32)) hin28 (g := (mkF m 135 #[.val (.ref a1), .val (.int (0 : Int32)), .val (.long q3), .second] [(.int (own_hex q3 (16 : Int32))), (.int (11 : Int32)), (.ref a1)])) rfl rfl (hb hby d_method_4_135)
  have Z29 : n0 ≤ h28.size := Nat.le_trans Z21 (Keep.of_wr W28).1
  have K30 : Keep hB h28 [a1] := K22.wr W28 (Or.inl (List.mem_of_getElem? (i := 0) rfl))
  have V28 : Arv Z h28 a1 kk1 .char (48 : Int32) ((.int (own_hex q3 (60 : Int32))) :: (.int (own_hex q3 (56 : Int32))) :: (.int (own_hex q3 (52 : Int32))) :: (.int (own_hex q3 (48 : Int32))) :: (.int (own_hex q3 (44 : Int32))) :: (.int (own_hex q3 (40 : Int32))) :: (.int (own_hex q3 (36 : Int32))) :: (.int (own_hex q3 (32 : Int32))) :: (.int (own_hex q3 (28 : Int32))) :: (.int (own_hex q3 (24 : Int32))) :: (.int (own_hex q3 (20 : Int32))) :: (.int ((own_hex q3 (16 : Int32)).toUInt32.toUInt16.toUInt32.toInt32)) :: (.int u12) :: (.int u13) :: (.int u14) :: (.int u15) :: (.int u16) :: (.int u17) :: (.int u18) :: (.int u19) :: (.int u20) :: (.int u21) :: (.int u22) :: (.int u23) :: (.int u24) :: (.int u25) :: (.int u26) :: (.int u27) :: (.int u28) :: (.int u29) :: (.int u30) :: (.int u31) :: (.int u32) :: (.int u33) :: (.int u34) :: (.int u35) :: (.int u36) :: (.int u37) :: (.int u38) :: (.int u39) :: (.int u40) :: (.int u41) :: (.int u42) :: (.int u43) :: (.int u44) :: (.int u45) :: (.int u46) :: (.int u47) :: []) (.int (0 : Int32)) := Arv.set Ar28 q28 Sz28 Ng28 Hs28 Gs28 (fits_nar_char _) W28 11 rfl (Nat.le_of_ble_eq_true rfl)
  rw [(show ((own_hex q3 (16 : Int32)).toUInt32.toUInt16.toUInt32.toInt32) = (own_hex q3 (16 : Int32)) from (own_hxs _ _).2.2.2.2.1)] at V28
  have Nf31 := Fr.snoc X28 Nf26 g_a1
  have kn32 : ∀ t, own_S p e below T28 (mkF m 136 #[.val (.ref a1), .val (.int (0 : Int32)), .val (.long q3), .second] []) t → own_S p e below T0 (mkF m 88 #[.val (.ref a1), .val (.int (0 : Int32)), .val (.long q3), .second] []) t := fun t kt => kn27 t (st28 _ kt)
  obtain ⟨s2, o2, t1, t2, t3, t4⟩ := tlp_0_3 (n0 := n0) a1 q3 kk1 u0 u1 u2 u3 u4 u5 u6 u7 u8 u9 u10 u11 u12 u13 u14 u15 u16 u17 u18 u19 u20 u21 u22 u23 u24 u25 u26 u27 u28 u29 u30 u31 u32 u33 u34 u35 u36 u37 u38 u39 u40 u41 u42 u43 u44 u45 u46 u47 hB  X28 hx hZ hw hby hml hown hret hlk e28 Nf31 Z29 V28 K30 g_a1
  exact ⟨s2, o2, id (kn32 _ t1), t2, t3, t4⟩

theorem d_method_4_42 : decode method_4_code 42 = .ok (.aload_n 0, 1) := by decide +kernel
theorem d_method_4_43 : decode method_4_code 43 = .ok (.iload_n 1, 1) := by decide +kernel
theorem d_method_4_44 : decode method_4_code 44 = .ok (.iconst 4, 1) := by decide +kernel
theorem d_method_4_45 : decode method_4_code 45 = .ok (.iadd, 1) := by decide +kernel
theorem d_method_4_46 : decode method_4_code 46 = .ok (.lload_n 2, 1) := by decide +kernel
theorem d_method_4_47 : decode method_4_code 47 = .ok (.bipush 44, 2) := by decide +kernel
theorem d_method_4_49 : decode method_4_code 49 = .ok (.invokestatic 36, 3) := by decide +kernel
theorem d_method_4_52 : decode method_4_code 52 = .ok (.castore, 1) := by decide +kernel
theorem d_method_4_53 : decode method_4_code 53 = .ok (.aload_n 0, 1) := by decide +kernel
theorem d_method_4_54 : decode method_4_code 54 = .ok (.iload_n 1, 1) := by decide +kernel
theorem d_method_4_55 : decode method_4_code 55 = .ok (.iconst 5, 1) := by decide +kernel
theorem d_method_4_56 : decode method_4_code 56 = .ok (.iadd, 1) := by decide +kernel
theorem d_method_4_57 : decode method_4_code 57 = .ok (.lload_n 2, 1) := by decide +kernel
theorem d_method_4_58 : decode method_4_code 58 = .ok (.bipush 40, 2) := by decide +kernel
theorem d_method_4_60 : decode method_4_code 60 = .ok (.invokestatic 36, 3) := by decide +kernel
theorem d_method_4_63 : decode method_4_code 63 = .ok (.castore, 1) := by decide +kernel
theorem d_method_4_64 : decode method_4_code 64 = .ok (.aload_n 0, 1) := by decide +kernel
theorem d_method_4_65 : decode method_4_code 65 = .ok (.iload_n 1, 1) := by decide +kernel
theorem d_method_4_66 : decode method_4_code 66 = .ok (.bipush 6, 2) := by decide +kernel
theorem d_method_4_68 : decode method_4_code 68 = .ok (.iadd, 1) := by decide +kernel
theorem d_method_4_69 : decode method_4_code 69 = .ok (.lload_n 2, 1) := by decide +kernel
theorem d_method_4_70 : decode method_4_code 70 = .ok (.bipush 36, 2) := by decide +kernel
theorem d_method_4_72 : decode method_4_code 72 = .ok (.invokestatic 36, 3) := by decide +kernel
theorem d_method_4_75 : decode method_4_code 75 = .ok (.castore, 1) := by decide +kernel
theorem d_method_4_76 : decode method_4_code 76 = .ok (.aload_n 0, 1) := by decide +kernel
theorem d_method_4_77 : decode method_4_code 77 = .ok (.iload_n 1, 1) := by decide +kernel
theorem d_method_4_78 : decode method_4_code 78 = .ok (.bipush 7, 2) := by decide +kernel
theorem d_method_4_80 : decode method_4_code 80 = .ok (.iadd, 1) := by decide +kernel
theorem d_method_4_81 : decode method_4_code 81 = .ok (.lload_n 2, 1) := by decide +kernel
theorem d_method_4_82 : decode method_4_code 82 = .ok (.bipush 32, 2) := by decide +kernel
theorem d_method_4_84 : decode method_4_code 84 = .ok (.invokestatic 36, 3) := by decide +kernel
theorem d_method_4_87 : decode method_4_code 87 = .ok (.castore, 1) := by decide +kernel
set_option maxRecDepth 65536 in
set_option maxHeartbeats 40000000 in
theorem tlp_0_1 {p : Program} {l : Launch} {e : Env} {s : State} {m : MethodId} {args : Array Value} {below : List Frame} {meth : Method} {c : Code} {T0 : State} {locs : List Loc} {Z : State} {a0 : Array Value} {h0 : Heap} {n0 : Nat} (a1 : Addr) (q3 : Int64) (kk1 : ClassId) (u0 : Int32) (u1 : Int32) (u2 : Int32) (u3 : Int32) (u4 : Int32) (u5 : Int32) (u6 : Int32) (u7 : Int32) (u8 : Int32) (u9 : Int32) (u10 : Int32) (u11 : Int32) (u12 : Int32) (u13 : Int32) (u14 : Int32) (u15 : Int32) (u16 : Int32) (u17 : Int32) (u18 : Int32) (u19 : Int32) (u20 : Int32) (u21 : Int32) (u22 : Int32) (u23 : Int32) (u24 : Int32) (u25 : Int32) (u26 : Int32) (u27 : Int32) (u28 : Int32) (u29 : Int32) (u30 : Int32) (u31 : Int32) (u32 : Int32) (u33 : Int32) (u34 : Int32) (u35 : Int32) (u36 : Int32) (u37 : Int32) (u38 : Int32) (u39 : Int32) (u40 : Int32) (u41 : Int32) (u42 : Int32) (u43 : Int32) (u44 : Int32) (u45 : Int32) (u46 : Int32) (u47 : Int32) (hB : Heap)
    (X0 : Stand p l e ({ frames := 1, cells := 0, slots := 0, locals := 17 } : Room) s m args below meth c T0 locs 0 0) (hx : p.tables.exec = Jvm.exec) (hZ : Z.Warmed39 s.vm) (hw : ∀ d ∈ tables_1, d.before a0 Z = true) (hby : c.code = method_4_code) (hml : c.maxLocals = 4) (hown : s.vm.findClass "com/example/dual_delivery/dualdelivery/model/ReceiptHandleParsePinLaw" = some m.cls) (hret : meth.sig.returnType = none) (hlk : meth.locks = false) (e0 : T0.heap = h0) (Nf0 : Fr n0 locs) (Z0 : n0 ≤ h0.size) (V1 : Arv Z h0 a1 kk1 .char (48 : Int32) ((.int (own_hex q3 (60 : Int32))) :: (.int (own_hex q3 (56 : Int32))) :: (.int (own_hex q3 (52 : Int32))) :: (.int (own_hex q3 (48 : Int32))) :: (.int u4) :: (.int u5) :: (.int u6) :: (.int u7) :: (.int u8) :: (.int u9) :: (.int u10) :: (.int u11) :: (.int u12) :: (.int u13) :: (.int u14) :: (.int u15) :: (.int u16) :: (.int u17) :: (.int u18) :: (.int u19) :: (.int u20) :: (.int u21) :: (.int u22) :: (.int u23) :: (.int u24) :: (.int u25) :: (.int u26) :: (.int u27) :: (.int u28) :: (.int u29) :: (.int u30) :: (.int u31) :: (.int u32) :: (.int u33) :: (.int u34) :: (.int u35) :: (.int u36) :: (.int u37) :: (.int u38) :: (.int u39) :: (.int u40) :: (.int u41) :: (.int u42) :: (.int u43) :: (.int u44) :: (.int u45) :: (.int u46) :: (.int u47) :: []) (.int (0 : Int32))) (KB : Keep hB h0 [a1]) (g_a1 : n0 ≤ a1) :
    ∃ s₂ o, Steps p.tables e below (T0.setTop (mkF m 42 #[.val (.ref a1), .val (.int (0 : Int32)), .val (.long q3), .second] [])) s₂ ∧ s₂.status = .running ∧ Ended s₂ below o ∧ ∃ v L, o = .returned v ∧ Q1_0 Z a1 q3 kk1 u0 u1 u2 u3 u4 u5 u6 u7 u8 u9 u10 u11 u12 u13 u14 u15 u16 u17 u18 u19 u20 u21 u22 u23 u24 u25 u26 u27 u28 u29 u30 u31 u32 u33 u34 u35 u36 u37 u38 u39 u40 u41 u42 u43 u44 u45 u46 u47 hB h0 n0 v s₂.heap L ∧ FrameEnd s o s₂ L ({ frames := 1, cells := 0, slots := 0, locals := 17 } : Room).cells ({ frames := 1, cells := 0, slots := 0, locals := 17 } : Room).slots := by
  have kn0 : ∀ t, own_S p e below T0 (mkF m 42 #[.val (.ref a1), .val (.int (0 : Int32)), .val (.long q3), .second] []) t → own_S p e below T0 (mkF m 42 #[.val (.ref a1), .val (.int (0 : Int32)), .val (.long q3), .second] []) t := fun t k => k
  have kn1 : ∀ t, own_S p e below T0 (mkF m 49 #[.val (.ref a1), .val (.int (0 : Int32)), .val (.long q3), .second] [(.int (44 : Int32)), (.long q3), (.int (4 : Int32)), (.ref a1)]) t → own_S p e below T0 (mkF m 42 #[.val (.ref a1), .val (.int (0 : Int32)), .val (.long q3), .second] []) t := fun t kt => kn0 t (by
    show own_S p e below T0 (mkF m 42 #[.val (.ref a1), .val (.int (0 : Int32)), .val (.long q3), .second] []) _
    refine XS.aloadN X0.here hx rfl (hb hby d_method_4_42) rfl rfl ?_
    show own_S p e below T0 (mkF m 43 #[.val (.ref a1), .val (.int (0 : Int32)), .val (.long q3), .second] [(.ref a1)]) _
    refine XS.iloadN X0.here hx rfl (hb hby d_method_4_43) rfl ?_
    show own_S p e below T0 (mkF m 44 #[.val (.ref a1), .val (.int (0 : Int32)), .val (.long q3), .second] [(.int (0 : Int32)), (.ref a1)]) _
    refine XS.iconst X0.here hx rfl (hb hby d_method_4_44) ?_
    show own_S p e below T0 (mkF m 45 #[.val (.ref a1), .val (.int (0 : Int32)), .val (.long q3), .second] [(.int (4 : Int32)), (.int (0 : Int32)), (.ref a1)]) _
    refine XS.iadd X0.here hx rfl (hb hby d_method_4_45) rfl ?_
    rw [(by decide : ((0 : Int32) + (4 : Int32)) = (4 : Int32))]
    show own_S p e below T0 (mkF m 46 #[.val (.ref a1), .val (.int (0 : Int32)), .val (.long q3), .second] [(.int (4 : Int32)), (.ref a1)]) _
    refine XS.lloadN X0.here hx rfl (hb hby d_method_4_46) rfl ?_
    show own_S p e below T0 (mkF m 47 #[.val (.ref a1), .val (.int (0 : Int32)), .val (.long q3), .second] [(.long q3), (.int (4 : Int32)), (.ref a1)]) _
    refine XS.bipush X0.here hx rfl (hb hby d_method_4_47) ?_
    exact kt)
  obtain ⟨_, _, ⟨T2, L2, cc2, ss2⟩, -, X2, ⟨Lc2, hQ2, l2, y2, z2⟩, st2⟩ := Jvm.LawKit.callS X0 hx (y := (⟨"com/example/dual_delivery/dualdelivery/model/ReceiptHandleParsePinLaw", "hexDigit", "(JI)C"⟩ : MethodName)) hown (mvT hZ (hw _ (List.mem_of_getElem? (i := 5) rfl))) (mvT hZ (hw _ (List.mem_of_getElem? (i := 6) rfl))) (mvT hZ (hw _ (List.mem_of_getElem? (i := 3) rfl))) (mvT hZ (hw _ (List.mem_of_getElem? (i := 7) rfl))) (by decide) (backOf (W := 2) (rm2 l Z a0 hw [] q3 (44 : Int32)  h0 n0 Z0 ) hZ (hw _ (List.mem_of_getElem? (i := 7) rfl)) (hw _ (List.mem_of_getElem? (i := 3) rfl)) (by decide) (by decide)) (g := (mkF m 49 #[.val (.ref a1), .val (.int (0 : Int32)), .val (.long q3), .second] [(.int (44 : Int32)), (.long q3), (.int (4 : Int32)), (.ref a1)])) rfl (by rw [hml]; rfl) (argsL := [(.long q3), (.int (44 : Int32))]) (rest := [(.int (4 : Int32)), (.ref a1)]) (lenOf pd_0 rfl) rfl (by show 2 * 0 + _ ≤ _; exact Nat.le_of_eq rfl) (hb hby d_method_4_49) (fun _ _ => ⟨rfl, e0, (by decide : 0 + 0 ≤ _), (by decide : 0 + 0 ≤ _)⟩)
  dsimp only [Pt.U, Pt.locs, Pt.cells, Pt.slots] at X2 l2 y2 z2 st2 hQ2
  subst l2 y2 z2
  have X2 : Stand p l e _ _ m _ below meth c T2 _ 0 0 := X2
  obtain ⟨rfl, Nq2, eq2⟩ := hQ2
  have Nf2 := Fr.app Nf0 Nq2
  have kn3 : ∀ t, own_S p e below T2 (mkF m 52 #[.val (.ref a1), .val (.int (0 : Int32)), .val (.long q3), .second] [(.int (own_hex q3 (44 : Int32))), (.int (4 : Int32)), (.ref a1)]) t → own_S p e below T0 (mkF m 42 #[.val (.ref a1), .val (.int (0 : Int32)), .val (.long q3), .second] []) t := fun t kt => kn1 t (st2 _ kt)
  obtain ⟨cl4, Ar4, q4, Sz4, Ng4, Hs4, Gs4⟩ := id V1
  have hin4 : ¬ ((4 : Int32) < 0 ∨ cl4.slots.size ≤ ((4 : Int32)).toNatClampNeg) := inb_of Sz4 ⟨by decide, by decide⟩
  obtain ⟨T4, h4, X4, e4, W4, st4⟩ := stC X2 hx hZ eq2 Ar4 (j := (4 : Int32)) hin4 (g := (mkF m 52 #[.val (.ref a1), .val (.int (0 : Int32)), .val (.long q3), .second] [(.int (own_hex q3 (44 : Int32))), (.int (4 : Int32)), (.ref a1)])) rfl rfl (hb hby d_method_4_52)
  have Z5 : n0 ≤ h4.size := Nat.le_trans Z0 (Keep.of_wr W4).1
  have K6 : Keep hB h4 [a1] := KB.wr W4 (Or.inl (List.mem_of_getElem? (i := 0) rfl))
  have V4 : Arv Z h4 a1 kk1 .char (48 : Int32) ((.int (own_hex q3 (60 : Int32))) :: (.int (own_hex q3 (56 : Int32))) :: (.int (own_hex q3 (52 : Int32))) :: (.int (own_hex q3 (48 : Int32))) :: (.int ((own_hex q3 (44 : Int32)).toUInt32.toUInt16.toUInt32.toInt32)) :: (.int u5) :: (.int u6) :: (.int u7) :: (.int u8) :: (.int u9) :: (.int u10) :: (.int u11) :: (.int u12) :: (.int u13) :: (.int u14) :: (.int u15) :: (.int u16) :: (.int u17) :: (.int u18) :: (.int u19) :: (.int u20) :: (.int u21) :: (.int u22) :: (.int u23) :: (.int u24) :: (.int u25) :: (.int u26) :: (.int u27) :: (.int u28) :: (.int u29) :: (.int u30) :: (.int u31) :: (.int u32) :: (.int u33) :: (.int u34) :: (.int u35) :: (.int u36) :: (.int u37) :: (.int u38) :: (.int u39) :: (.int u40) :: (.int u41) :: (.int u42) :: (.int u43) :: (.int u44) :: (.int u45) :: (.int u46) :: (.int u47) :: []) (.int (0 : Int32)) := Arv.set Ar4 q4 Sz4 Ng4 Hs4 Gs4 (fits_nar_char _) W4 4 rfl (Nat.le_of_ble_eq_true rfl)
  rw [(show ((own_hex q3 (44 : Int32)).toUInt32.toUInt16.toUInt32.toInt32) = (own_hex q3 (44 : Int32)) from (own_hxs _ _).2.2.2.2.1)] at V4
  have Nf7 := Fr.snoc X4 Nf2 g_a1
  have kn8 : ∀ t, own_S p e below T4 (mkF m 53 #[.val (.ref a1), .val (.int (0 : Int32)), .val (.long q3), .second] []) t → own_S p e below T0 (mkF m 42 #[.val (.ref a1), .val (.int (0 : Int32)), .val (.long q3), .second] []) t := fun t kt => kn3 t (st4 _ kt)
  have kn9 : ∀ t, own_S p e below T4 (mkF m 60 #[.val (.ref a1), .val (.int (0 : Int32)), .val (.long q3), .second] [(.int (40 : Int32)), (.long q3), (.int (5 : Int32)), (.ref a1)]) t → own_S p e below T0 (mkF m 42 #[.val (.ref a1), .val (.int (0 : Int32)), .val (.long q3), .second] []) t := fun t kt => kn8 t (by
    show own_S p e below T4 (mkF m 53 #[.val (.ref a1), .val (.int (0 : Int32)), .val (.long q3), .second] []) _
    refine XS.aloadN X4.here hx rfl (hb hby d_method_4_53) rfl rfl ?_
    show own_S p e below T4 (mkF m 54 #[.val (.ref a1), .val (.int (0 : Int32)), .val (.long q3), .second] [(.ref a1)]) _
    refine XS.iloadN X4.here hx rfl (hb hby d_method_4_54) rfl ?_
    show own_S p e below T4 (mkF m 55 #[.val (.ref a1), .val (.int (0 : Int32)), .val (.long q3), .second] [(.int (0 : Int32)), (.ref a1)]) _
    refine XS.iconst X4.here hx rfl (hb hby d_method_4_55) ?_
    show own_S p e below T4 (mkF m 56 #[.val (.ref a1), .val (.int (0 : Int32)), .val (.long q3), .second] [(.int (5 : Int32)), (.int (0 : Int32)), (.ref a1)]) _
    refine XS.iadd X4.here hx rfl (hb hby d_method_4_56) rfl ?_
    rw [(by decide : ((0 : Int32) + (5 : Int32)) = (5 : Int32))]
    show own_S p e below T4 (mkF m 57 #[.val (.ref a1), .val (.int (0 : Int32)), .val (.long q3), .second] [(.int (5 : Int32)), (.ref a1)]) _
    refine XS.lloadN X4.here hx rfl (hb hby d_method_4_57) rfl ?_
    show own_S p e below T4 (mkF m 58 #[.val (.ref a1), .val (.int (0 : Int32)), .val (.long q3), .second] [(.long q3), (.int (5 : Int32)), (.ref a1)]) _
    refine XS.bipush X4.here hx rfl (hb hby d_method_4_58) ?_
    exact kt)
  obtain ⟨_, _, ⟨T10, L10, cc10, ss10⟩, -, X10, ⟨Lc10, hQ10, l10, y10, z10⟩, st10⟩ := Jvm.LawKit.callS X4 hx (y := (⟨"com/example/dual_delivery/dualdelivery/model/ReceiptHandleParsePinLaw", "hexDigit", "(JI)C"⟩ : MethodName)) hown (mvT hZ (hw _ (List.mem_of_getElem? (i := 5) rfl))) (mvT hZ (hw _ (List.mem_of_getElem? (i := 6) rfl))) (mvT hZ (hw _ (List.mem_of_getElem? (i := 3) rfl))) (mvT hZ (hw _ (List.mem_of_getElem? (i := 7) rfl))) (by decide) (backOf (W := 2) (rm2 l Z a0 hw [] q3 (40 : Int32)  h4 n0 Z5 ) hZ (hw _ (List.mem_of_getElem? (i := 7) rfl)) (hw _ (List.mem_of_getElem? (i := 3) rfl)) (by decide) (by decide)) (g := (mkF m 60 #[.val (.ref a1), .val (.int (0 : Int32)), .val (.long q3), .second] [(.int (40 : Int32)), (.long q3), (.int (5 : Int32)), (.ref a1)])) rfl (by rw [hml]; rfl) (argsL := [(.long q3), (.int (40 : Int32))]) (rest := [(.int (5 : Int32)), (.ref a1)]) (lenOf pd_0 rfl) rfl (by show 2 * 0 + _ ≤ _; exact Nat.le_of_eq rfl) (hb hby d_method_4_60) (fun _ _ => ⟨rfl, e4, (by decide : 0 + 0 ≤ _), (by decide : 0 + 0 ≤ _)⟩)
  dsimp only [Pt.U, Pt.locs, Pt.cells, Pt.slots] at X10 l10 y10 z10 st10 hQ10
  subst l10 y10 z10
  have X10 : Stand p l e _ _ m _ below meth c T10 _ 0 0 := X10
  obtain ⟨rfl, Nq10, eq10⟩ := hQ10
  have Nf10 := Fr.app Nf7 Nq10
  have kn11 : ∀ t, own_S p e below T10 (mkF m 63 #[.val (.ref a1), .val (.int (0 : Int32)), .val (.long q3), .second] [(.int (own_hex q3 (40 : Int32))), (.int (5 : Int32)), (.ref a1)]) t → own_S p e below T0 (mkF m 42 #[.val (.ref a1), .val (.int (0 : Int32)), .val (.long q3), .second] []) t := fun t kt => kn9 t (st10 _ kt)
  obtain ⟨cl12, Ar12, q12, Sz12, Ng12, Hs12, Gs12⟩ := id V4
  have hin12 : ¬ ((5 : Int32) < 0 ∨ cl12.slots.size ≤ ((5 : Int32)).toNatClampNeg) := inb_of Sz12 ⟨by decide, by decide⟩
  obtain ⟨T12, h12, X12, e12, W12, st12⟩ := stC X10 hx hZ eq10 Ar12 (j := (5 : Int32)) hin12 (g := (mkF m 63 #[.val (.ref a1), .val (.int (0 : Int32)), .val (.long q3), .second] [(.int (own_hex q3 (40 : Int32))), (.int (5 : Int32)), (.ref a1)])) rfl rfl (hb hby d_method_4_63)
  have Z13 : n0 ≤ h12.size := Nat.le_trans Z5 (Keep.of_wr W12).1
  have K14 : Keep hB h12 [a1] := K6.wr W12 (Or.inl (List.mem_of_getElem? (i := 0) rfl))
  have V12 : Arv Z h12 a1 kk1 .char (48 : Int32) ((.int (own_hex q3 (60 : Int32))) :: (.int (own_hex q3 (56 : Int32))) :: (.int (own_hex q3 (52 : Int32))) :: (.int (own_hex q3 (48 : Int32))) :: (.int (own_hex q3 (44 : Int32))) :: (.int ((own_hex q3 (40 : Int32)).toUInt32.toUInt16.toUInt32.toInt32)) :: (.int u6) :: (.int u7) :: (.int u8) :: (.int u9) :: (.int u10) :: (.int u11) :: (.int u12) :: (.int u13) :: (.int u14) :: (.int u15) :: (.int u16) :: (.int u17) :: (.int u18) :: (.int u19) :: (.int u20) :: (.int u21) :: (.int u22) :: (.int u23) :: (.int u24) :: (.int u25) :: (.int u26) :: (.int u27) :: (.int u28) :: (.int u29) :: (.int u30) :: (.int u31) :: (.int u32) :: (.int u33) :: (.int u34) :: (.int u35) :: (.int u36) :: (.int u37) :: (.int u38) :: (.int u39) :: (.int u40) :: (.int u41) :: (.int u42) :: (.int u43) :: (.int u44) :: (.int u45) :: (.int u46) :: (.int u47) :: []) (.int (0 : Int32)) := Arv.set Ar12 q12 Sz12 Ng12 Hs12 Gs12 (fits_nar_char _) W12 5 rfl (Nat.le_of_ble_eq_true rfl)
  rw [(show ((own_hex q3 (40 : Int32)).toUInt32.toUInt16.toUInt32.toInt32) = (own_hex q3 (40 : Int32)) from (own_hxs _ _).2.2.2.2.1)] at V12
  have Nf15 := Fr.snoc X12 Nf10 g_a1
  have kn16 : ∀ t, own_S p e below T12 (mkF m 64 #[.val (.ref a1), .val (.int (0 : Int32)), .val (.long q3), .second] []) t → own_S p e below T0 (mkF m 42 #[.val (.ref a1), .val (.int (0 : Int32)), .val (.long q3), .second] []) t := fun t kt => kn11 t (st12 _ kt)
  have kn17 : ∀ t, own_S p e below T12 (mkF m 72 #[.val (.ref a1), .val (.int (0 : Int32)), .val (.long q3), .second] [(.int (36 : Int32)), (.long q3), (.int (6 : Int32)), (.ref a1)]) t → own_S p e below T0 (mkF m 42 #[.val (.ref a1), .val (.int (0 : Int32)), .val (.long q3), .second] []) t := fun t kt => kn16 t (by
    show own_S p e below T12 (mkF m 64 #[.val (.ref a1), .val (.int (0 : Int32)), .val (.long q3), .second] []) _
    refine XS.aloadN X12.here hx rfl (hb hby d_method_4_64) rfl rfl ?_
    show own_S p e below T12 (mkF m 65 #[.val (.ref a1), .val (.int (0 : Int32)), .val (.long q3), .second] [(.ref a1)]) _
    refine XS.iloadN X12.here hx rfl (hb hby d_method_4_65) rfl ?_
    show own_S p e below T12 (mkF m 66 #[.val (.ref a1), .val (.int (0 : Int32)), .val (.long q3), .second] [(.int (0 : Int32)), (.ref a1)]) _
    refine XS.bipush X12.here hx rfl (hb hby d_method_4_66) ?_
    show own_S p e below T12 (mkF m 68 #[.val (.ref a1), .val (.int (0 : Int32)), .val (.long q3), .second] [(.int (6 : Int32)), (.int (0 : Int32)), (.ref a1)]) _
    refine XS.iadd X12.here hx rfl (hb hby d_method_4_68) rfl ?_
    rw [(by decide : ((0 : Int32) + (6 : Int32)) = (6 : Int32))]
    show own_S p e below T12 (mkF m 69 #[.val (.ref a1), .val (.int (0 : Int32)), .val (.long q3), .second] [(.int (6 : Int32)), (.ref a1)]) _
    refine XS.lloadN X12.here hx rfl (hb hby d_method_4_69) rfl ?_
    show own_S p e below T12 (mkF m 70 #[.val (.ref a1), .val (.int (0 : Int32)), .val (.long q3), .second] [(.long q3), (.int (6 : Int32)), (.ref a1)]) _
    refine XS.bipush X12.here hx rfl (hb hby d_method_4_70) ?_
    exact kt)
  obtain ⟨_, _, ⟨T18, L18, cc18, ss18⟩, -, X18, ⟨Lc18, hQ18, l18, y18, z18⟩, st18⟩ := Jvm.LawKit.callS X12 hx (y := (⟨"com/example/dual_delivery/dualdelivery/model/ReceiptHandleParsePinLaw", "hexDigit", "(JI)C"⟩ : MethodName)) hown (mvT hZ (hw _ (List.mem_of_getElem? (i := 5) rfl))) (mvT hZ (hw _ (List.mem_of_getElem? (i := 6) rfl))) (mvT hZ (hw _ (List.mem_of_getElem? (i := 3) rfl))) (mvT hZ (hw _ (List.mem_of_getElem? (i := 7) rfl))) (by decide) (backOf (W := 2) (rm2 l Z a0 hw [] q3 (36 : Int32)  h12 n0 Z13 ) hZ (hw _ (List.mem_of_getElem? (i := 7) rfl)) (hw _ (List.mem_of_getElem? (i := 3) rfl)) (by decide) (by decide)) (g := (mkF m 72 #[.val (.ref a1), .val (.int (0 : Int32)), .val (.long q3), .second] [(.int (36 : Int32)), (.long q3), (.int (6 : Int32)), (.ref a1)])) rfl (by rw [hml]; rfl) (argsL := [(.long q3), (.int (36 : Int32))]) (rest := [(.int (6 : Int32)), (.ref a1)]) (lenOf pd_0 rfl) rfl (by show 2 * 0 + _ ≤ _; exact Nat.le_of_eq rfl) (hb hby d_method_4_72) (fun _ _ => ⟨rfl, e12, (by decide : 0 + 0 ≤ _), (by decide : 0 + 0 ≤ _)⟩)
  dsimp only [Pt.U, Pt.locs, Pt.cells, Pt.slots] at X18 l18 y18 z18 st18 hQ18
  subst l18 y18 z18
  have X18 : Stand p l e _ _ m _ below meth c T18 _ 0 0 := X18
  obtain ⟨rfl, Nq18, eq18⟩ := hQ18
  have Nf18 := Fr.app Nf15 Nq18
  have kn19 : ∀ t, own_S p e below T18 (mkF m 75 #[.val (.ref a1), .val (.int (0 : Int32)), .val (.long q3), .second] [(.int (own_hex q3 (36 : Int32))), (.int (6 : Int32)), (.ref a1)]) t → own_S p e below T0 (mkF m 42 #[.val (.ref a1), .val (.int (0 : Int32)), .val (.long q3), .second] []) t := fun t kt => kn17 t (st18 _ kt)
  obtain ⟨cl20, Ar20, q20, Sz20, Ng20, Hs20, Gs20⟩ := id V12
  have hin20 : ¬ ((6 : Int32) < 0 ∨ cl20.slots.size ≤ ((6 : Int32)).toNatClampNeg) := inb_of Sz20 ⟨by decide, by decide⟩
  obtain ⟨T20, h20, X20, e20, W20, st20⟩ := stC X18 hx hZ eq18 Ar20 (j := (6 : Int32)) hin20 (g := (mkF m 75 #[.val (.ref a1), .val (.int (0 : Int32)), .val (.long q3), .second] [(.int (own_hex q3 (36 : Int32))), (.int (6 : Int32)), (.ref a1)])) rfl rfl (hb hby d_method_4_75)
  have Z21 : n0 ≤ h20.size := Nat.le_trans Z13 (Keep.of_wr W20).1
  have K22 : Keep hB h20 [a1] := K14.wr W20 (Or.inl (List.mem_of_getElem? (i := 0) rfl))
  have V20 : Arv Z h20 a1 kk1 .char (48 : Int32) ((.int (own_hex q3 (60 : Int32))) :: (.int (own_hex q3 (56 : Int32))) :: (.int (own_hex q3 (52 : Int32))) :: (.int (own_hex q3 (48 : Int32))) :: (.int (own_hex q3 (44 : Int32))) :: (.int (own_hex q3 (40 : Int32))) :: (.int ((own_hex q3 (36 : Int32)).toUInt32.toUInt16.toUInt32.toInt32)) :: (.int u7) :: (.int u8) :: (.int u9) :: (.int u10) :: (.int u11) :: (.int u12) :: (.int u13) :: (.int u14) :: (.int u15) :: (.int u16) :: (.int u17) :: (.int u18) :: (.int u19) :: (.int u20) :: (.int u21) :: (.int u22) :: (.int u23) :: (.int u24) :: (.int u25) :: (.int u26) :: (.int u27) :: (.int u28) :: (.int u29) :: (.int u30) :: (.int u31) :: (.int u32) :: (.int u33) :: (.int u34) :: (.int u35) :: (.int u36) :: (.int u37) :: (.int u38) :: (.int u39) :: (.int u40) :: (.int u41) :: (.int u42) :: (.int u43) :: (.int u44) :: (.int u45) :: (.int u46) :: (.int u47) :: []) (.int (0 : Int32)) := Arv.set Ar20 q20 Sz20 Ng20 Hs20 Gs20 (fits_nar_char _) W20 6 rfl (Nat.le_of_ble_eq_true rfl)
  rw [(show ((own_hex q3 (36 : Int32)).toUInt32.toUInt16.toUInt32.toInt32) = (own_hex q3 (36 : Int32)) from (own_hxs _ _).2.2.2.2.1)] at V20
  have Nf23 := Fr.snoc X20 Nf18 g_a1
  have kn24 : ∀ t, own_S p e below T20 (mkF m 76 #[.val (.ref a1), .val (.int (0 : Int32)), .val (.long q3), .second] []) t → own_S p e below T0 (mkF m 42 #[.val (.ref a1), .val (.int (0 : Int32)), .val (.long q3), .second] []) t := fun t kt => kn19 t (st20 _ kt)
  have kn25 : ∀ t, own_S p e below T20 (mkF m 84 #[.val (.ref a1), .val (.int (0 : Int32)), .val (.long q3), .second] [(.int (32 : Int32)), (.long q3), (.int (7 : Int32)), (.ref a1)]) t → own_S p e below T0 (mkF m 42 #[.val (.ref a1), .val (.int (0 : Int32)), .val (.long q3), .second] []) t := fun t kt => kn24 t (by
    show own_S p e below T20 (mkF m 76 #[.val (.ref a1), .val (.int (0 : Int32)), .val (.long q3), .second] []) _
    refine XS.aloadN X20.here hx rfl (hb hby d_method_4_76) rfl rfl ?_
    show own_S p e below T20 (mkF m 77 #[.val (.ref a1), .val (.int (0 : Int32)), .val (.long q3), .second] [(.ref a1)]) _
    refine XS.iloadN X20.here hx rfl (hb hby d_method_4_77) rfl ?_
    show own_S p e below T20 (mkF m 78 #[.val (.ref a1), .val (.int (0 : Int32)), .val (.long q3), .second] [(.int (0 : Int32)), (.ref a1)]) _
    refine XS.bipush X20.here hx rfl (hb hby d_method_4_78) ?_
    show own_S p e below T20 (mkF m 80 #[.val (.ref a1), .val (.int (0 : Int32)), .val (.long q3), .second] [(.int (7 : Int32)), (.int (0 : Int32)), (.ref a1)]) _
    refine XS.iadd X20.here hx rfl (hb hby d_method_4_80) rfl ?_
    rw [(by decide : ((0 : Int32) + (7 : Int32)) = (7 : Int32))]
    show own_S p e below T20 (mkF m 81 #[.val (.ref a1), .val (.int (0 : Int32)), .val (.long q3), .second] [(.int (7 : Int32)), (.ref a1)]) _
    refine XS.lloadN X20.here hx rfl (hb hby d_method_4_81) rfl ?_
    show own_S p e below T20 (mkF m 82 #[.val (.ref a1), .val (.int (0 : Int32)), .val (.long q3), .second] [(.long q3), (.int (7 : Int32)), (.ref a1)]) _
    refine XS.bipush X20.here hx rfl (hb hby d_method_4_82) ?_
    exact kt)
  obtain ⟨_, _, ⟨T26, L26, cc26, ss26⟩, -, X26, ⟨Lc26, hQ26, l26, y26, z26⟩, st26⟩ := Jvm.LawKit.callS X20 hx (y := (⟨"com/example/dual_delivery/dualdelivery/model/ReceiptHandleParsePinLaw", "hexDigit", "(JI)C"⟩ : MethodName)) hown (mvT hZ (hw _ (List.mem_of_getElem? (i := 5) rfl))) (mvT hZ (hw _ (List.mem_of_getElem? (i := 6) rfl))) (mvT hZ (hw _ (List.mem_of_getElem? (i := 3) rfl))) (mvT hZ (hw _ (List.mem_of_getElem? (i := 7) rfl))) (by decide) (backOf (W := 2) (rm2 l Z a0 hw [] q3 (32 : Int32)  h20 n0 Z21 ) hZ (hw _ (List.mem_of_getElem? (i := 7) rfl)) (hw _ (List.mem_of_getElem? (i := 3) rfl)) (by decide) (by decide)) (g := (mkF m 84 #[.val (.ref a1), .val (.int (0 : Int32)), .val (.long q3), .second] [(.int (32 : Int32)), (.long q3), (.int (7 : Int32)), (.ref a1)])) rfl (by rw [hml]; rfl) (argsL := [(.long q3), (.int (32 : Int32))]) (rest := [(.int (7 : Int32)), (.ref a1)]) (lenOf pd_0 rfl) rfl (by show 2 * 0 + _ ≤ _; exact Nat.le_of_eq rfl) (hb hby d_method_4_84) (fun _ _ => ⟨rfl, e20, (by decide : 0 + 0 ≤ _), (by decide : 0 + 0 ≤ _)⟩)
  dsimp only [Pt.U, Pt.locs, Pt.cells, Pt.slots] at X26 l26 y26 z26 st26 hQ26
  subst l26 y26 z26
  have X26 : Stand p l e _ _ m _ below meth c T26 _ 0 0 := X26
  obtain ⟨rfl, Nq26, eq26⟩ := hQ26
  have Nf26 := Fr.app Nf23 Nq26
  have kn27 : ∀ t, own_S p e below T26 (mkF m 87 #[.val (.ref a1), .val (.int (0 : Int32)), .val (.long q3), .second] [(.int (own_hex q3 (32 : Int32))), (.int (7 : Int32)), (.ref a1)]) t → own_S p e below T0 (mkF m 42 #[.val (.ref a1), .val (.int (0 : Int32)), .val (.long q3), .second] []) t := fun t kt => kn25 t (st26 _ kt)
  obtain ⟨cl28, Ar28, q28, Sz28, Ng28, Hs28, Gs28⟩ := id V20
  have hin28 : ¬ ((7 : Int32) < 0 ∨ cl28.slots.size ≤ ((7 : Int32)).toNatClampNeg) := inb_of Sz28 ⟨by decide, by decide⟩
  obtain ⟨T28, h28, X28, e28, W28, st28⟩ := stC X26 hx hZ eq26 Ar28 (j := (7 : Int32)) hin28 (g := (mkF m 87 #[.val (.ref a1), .val (.int (0 : Int32)), .val (.long q3), .second] [(.int (own_hex q3 (32 : Int32))), (.int (7 : Int32)), (.ref a1)])) rfl rfl (hb hby d_method_4_87)
  have Z29 : n0 ≤ h28.size := Nat.le_trans Z21 (Keep.of_wr W28).1
  have K30 : Keep hB h28 [a1] := K22.wr W28 (Or.inl (List.mem_of_getElem? (i := 0) rfl))
  have V28 : Arv Z h28 a1 kk1 .char (48 : Int32) ((.int (own_hex q3 (60 : Int32))) :: (.int (own_hex q3 (56 : Int32))) :: (.int (own_hex q3 (52 : Int32))) :: (.int (own_hex q3 (48 : Int32))) :: (.int (own_hex q3 (44 : Int32))) :: (.int (own_hex q3 (40 : Int32))) :: (.int (own_hex q3 (36 : Int32))) :: (.int ((own_hex q3 (32 : Int32)).toUInt32.toUInt16.toUInt32.toInt32)) :: (.int u8) :: (.int u9) :: (.int u10) :: (.int u11) :: (.int u12) :: (.int u13) :: (.int u14) :: (.int u15) :: (.int u16) :: (.int u17) :: (.int u18) :: (.int u19) :: (.int u20) :: (.int u21) :: (.int u22) :: (.int u23) :: (.int u24) :: (.int u25) :: (.int u26) :: (.int u27) :: (.int u28) :: (.int u29) :: (.int u30) :: (.int u31) :: (.int u32) :: (.int u33) :: (.int u34) :: (.int u35) :: (.int u36) :: (.int u37) :: (.int u38) :: (.int u39) :: (.int u40) :: (.int u41) :: (.int u42) :: (.int u43) :: (.int u44) :: (.int u45) :: (.int u46) :: (.int u47) :: []) (.int (0 : Int32)) := Arv.set Ar28 q28 Sz28 Ng28 Hs28 Gs28 (fits_nar_char _) W28 7 rfl (Nat.le_of_ble_eq_true rfl)
  rw [(show ((own_hex q3 (32 : Int32)).toUInt32.toUInt16.toUInt32.toInt32) = (own_hex q3 (32 : Int32)) from (own_hxs _ _).2.2.2.2.1)] at V28
  have Nf31 := Fr.snoc X28 Nf26 g_a1
  have kn32 : ∀ t, own_S p e below T28 (mkF m 88 #[.val (.ref a1), .val (.int (0 : Int32)), .val (.long q3), .second] []) t → own_S p e below T0 (mkF m 42 #[.val (.ref a1), .val (.int (0 : Int32)), .val (.long q3), .second] []) t := fun t kt => kn27 t (st28 _ kt)
  obtain ⟨s2, o2, t1, t2, t3, t4⟩ := tlp_0_2 (n0 := n0) a1 q3 kk1 u0 u1 u2 u3 u4 u5 u6 u7 u8 u9 u10 u11 u12 u13 u14 u15 u16 u17 u18 u19 u20 u21 u22 u23 u24 u25 u26 u27 u28 u29 u30 u31 u32 u33 u34 u35 u36 u37 u38 u39 u40 u41 u42 u43 u44 u45 u46 u47 hB  X28 hx hZ hw hby hml hown hret hlk e28 Nf31 Z29 V28 K30 g_a1
  exact ⟨s2, o2, id (kn32 _ t1), t2, t3, t4⟩

theorem d_method_4_0 : decode method_4_code 0 = .ok (.aload_n 0, 1) := by decide +kernel
theorem d_method_4_1 : decode method_4_code 1 = .ok (.iload_n 1, 1) := by decide +kernel
theorem d_method_4_2 : decode method_4_code 2 = .ok (.lload_n 2, 1) := by decide +kernel
theorem d_method_4_3 : decode method_4_code 3 = .ok (.bipush 60, 2) := by decide +kernel
theorem d_method_4_5 : decode method_4_code 5 = .ok (.invokestatic 36, 3) := by decide +kernel
theorem d_method_4_8 : decode method_4_code 8 = .ok (.castore, 1) := by decide +kernel
theorem d_method_4_9 : decode method_4_code 9 = .ok (.aload_n 0, 1) := by decide +kernel
theorem d_method_4_10 : decode method_4_code 10 = .ok (.iload_n 1, 1) := by decide +kernel
theorem d_method_4_11 : decode method_4_code 11 = .ok (.iconst 1, 1) := by decide +kernel
theorem d_method_4_12 : decode method_4_code 12 = .ok (.iadd, 1) := by decide +kernel
theorem d_method_4_13 : decode method_4_code 13 = .ok (.lload_n 2, 1) := by decide +kernel
theorem d_method_4_14 : decode method_4_code 14 = .ok (.bipush 56, 2) := by decide +kernel
theorem d_method_4_16 : decode method_4_code 16 = .ok (.invokestatic 36, 3) := by decide +kernel
theorem d_method_4_19 : decode method_4_code 19 = .ok (.castore, 1) := by decide +kernel
theorem d_method_4_20 : decode method_4_code 20 = .ok (.aload_n 0, 1) := by decide +kernel
theorem d_method_4_21 : decode method_4_code 21 = .ok (.iload_n 1, 1) := by decide +kernel
theorem d_method_4_22 : decode method_4_code 22 = .ok (.iconst 2, 1) := by decide +kernel
theorem d_method_4_23 : decode method_4_code 23 = .ok (.iadd, 1) := by decide +kernel
theorem d_method_4_24 : decode method_4_code 24 = .ok (.lload_n 2, 1) := by decide +kernel
theorem d_method_4_25 : decode method_4_code 25 = .ok (.bipush 52, 2) := by decide +kernel
theorem d_method_4_27 : decode method_4_code 27 = .ok (.invokestatic 36, 3) := by decide +kernel
theorem d_method_4_30 : decode method_4_code 30 = .ok (.castore, 1) := by decide +kernel
theorem d_method_4_31 : decode method_4_code 31 = .ok (.aload_n 0, 1) := by decide +kernel
theorem d_method_4_32 : decode method_4_code 32 = .ok (.iload_n 1, 1) := by decide +kernel
theorem d_method_4_33 : decode method_4_code 33 = .ok (.iconst 3, 1) := by decide +kernel
theorem d_method_4_34 : decode method_4_code 34 = .ok (.iadd, 1) := by decide +kernel
theorem d_method_4_35 : decode method_4_code 35 = .ok (.lload_n 2, 1) := by decide +kernel
theorem d_method_4_36 : decode method_4_code 36 = .ok (.bipush 48, 2) := by decide +kernel
theorem d_method_4_38 : decode method_4_code 38 = .ok (.invokestatic 36, 3) := by decide +kernel
theorem d_method_4_41 : decode method_4_code 41 = .ok (.castore, 1) := by decide +kernel
theorem ef_rm1_0 (m : MethodId) (x0 : Addr) (x2 : Int64) : entryFrame m #[(.ref x0), (.int (0 : Int32)), (.long x2)] 4 = mkF m 0 #[.val (.ref x0), .val (.int (0 : Int32)), .val (.long x2), .second] [] := by first | (simp [entryFrame, mkF, argsToLocals, Value.category]; done) | rfl
 
set_option maxRecDepth 65536 in
set_option maxHeartbeats 40000000 in
theorem rm1_0 (l : Launch) (Z : State) (a0 : Array Value) (hw : ∀ d ∈ tables_1, d.before a0 Z = true) (ws : List Jvm.Cond) (a1 : Addr) (q3 : Int64) (kk1 : ClassId) (u0 : Int32) (u1 : Int32) (u2 : Int32) (u3 : Int32) (u4 : Int32) (u5 : Int32) (u6 : Int32) (u7 : Int32) (u8 : Int32) (u9 : Int32) (u10 : Int32) (u11 : Int32) (u12 : Int32) (u13 : Int32) (u14 : Int32) (u15 : Int32) (u16 : Int32) (u17 : Int32) (u18 : Int32) (u19 : Int32) (u20 : Int32) (u21 : Int32) (u22 : Int32) (u23 : Int32) (u24 : Int32) (u25 : Int32) (u26 : Int32) (u27 : Int32) (u28 : Int32) (u29 : Int32) (u30 : Int32) (u31 : Int32) (u32 : Int32) (u33 : Int32) (u34 : Int32) (u35 : Int32) (u36 : Int32) (u37 : Int32) (u38 : Int32) (u39 : Int32) (u40 : Int32) (u41 : Int32) (u42 : Int32) (u43 : Int32) (u44 : Int32) (u45 : Int32) (u46 : Int32) (u47 : Int32) (hB : Heap) (h0 : Heap) (n0 : Nat) (Z0 : n0 ≤ h0.size) (V1 : Arv Z h0 a1 kk1 .char (48 : Int32) ((.int u0) :: (.int u1) :: (.int u2) :: (.int u3) :: (.int u4) :: (.int u5) :: (.int u6) :: (.int u7) :: (.int u8) :: (.int u9) :: (.int u10) :: (.int u11) :: (.int u12) :: (.int u13) :: (.int u14) :: (.int u15) :: (.int u16) :: (.int u17) :: (.int u18) :: (.int u19) :: (.int u20) :: (.int u21) :: (.int u22) :: (.int u23) :: (.int u24) :: (.int u25) :: (.int u26) :: (.int u27) :: (.int u28) :: (.int u29) :: (.int u30) :: (.int u31) :: (.int u32) :: (.int u33) :: (.int u34) :: (.int u35) :: (.int u36) :: (.int u37) :: (.int u38) :: (.int u39) :: (.int u40) :: (.int u41) :: (.int u42) :: (.int u43) :: (.int u44) :: (.int u45) :: (.int u46) :: (.int u47) :: []) (.int (0 : Int32))) (KB : Keep hB h0 [a1]) (g_a1 : n0 ≤ a1) :
    MetFree l (⟨"com/example/dual_delivery/dualdelivery/model/ReceiptHandleParsePinLaw", "put", "([CIJ)V"⟩ : MethodName) (head1 (Jvm.Cond.code (⟨"com/example/dual_delivery/dualdelivery/model/ReceiptHandleParsePinLaw", "put", "([CIJ)V"⟩ : MethodName) method_4_code 4 none :: ws) ({ frames := 1, cells := 0, slots := 0, locals := 17 } : Room)) (fun a U => a = #[(.ref a1), (.int (0 : Int32)), (.long q3)] ∧ Z.Warmed39 U.vm ∧ U.heap = h0) (fun _ _ _ _ _ => True) (fun _ U o U' => ∃ v L, o = .returned v ∧ Q1_0 Z a1 q3 kk1 u0 u1 u2 u3 u4 u5 u6 u7 u8 u9 u10 u11 u12 u13 u14 u15 u16 u17 u18 u19 u20 u21 u22 u23 u24 u25 u26 u27 u28 u29 u30 u31 u32 u33 u34 u35 u36 u37 u38 u39 u40 u41 u42 u43 u44 u45 u46 u47 hB h0 n0 v U'.heap L ∧ FrameEnd U o U' L ({ frames := 1, cells := 0, slots := 0, locals := 17 } : Room).cells ({ frames := 1, cells := 0, slots := 0, locals := 17 } : Room).slots) := by
  refine MetFree.of_bodySF (plainFor_of_name pn_0) hisR ?_
  intro p e s m args below meth c s₁ Bd hml0 hP hK
  obtain ⟨rfl, hZ, hh⟩ := hP
  have hx := Bd.exec
  have hby := Bd.bytes
  have hml : c.maxLocals = 4 := hml0
  have hown : s.vm.findClass "com/example/dual_delivery/dualdelivery/model/ReceiptHandleParsePinLaw" = some m.cls := findClass_of_methodNamed Bd.named
  have hnm := (name_of_methodNamed Bd.named Bd.method).1
  have X0 : Stand p l e ({ frames := 1, cells := 0, slots := 0, locals := 17 } : Room) s m #[(.ref a1), (.int (0 : Int32)), (.long q3)] below meth c s₁ [] 0 0 := Stand.of_body Bd
  have e0 : s₁.heap = h0 := by rw [← hh, Bd.state]; rfl
  have Nf0 := Fr.nil n0
  obtain ⟨Gl, hGl, kn0⟩ : ∃ Gl : State → Prop, (∀ t, Gl t → Steps p.tables e below (s₁.setTop (entryFrame m #[(.ref a1), (.int (0 : Int32)), (.long q3)] 4)) t) ∧ ∀ t, own_S p e below s₁ (mkF m 0 #[.val (.ref a1), .val (.int (0 : Int32)), .val (.long q3), .second] []) t → Gl t := ⟨fun t => Steps p.tables e below (s₁.setTop (entryFrame m #[(.ref a1), (.int (0 : Int32)), (.long q3)] 4)) t, fun _ k => k, fun t k => castTop (ef_rm1_0 m a1 q3) k⟩
  have kn1 : ∀ t, own_S p e below s₁ (mkF m 5 #[.val (.ref a1), .val (.int (0 : Int32)), .val (.long q3), .second] [(.int (60 : Int32)), (.long q3), (.int (0 : Int32)), (.ref a1)]) t → Gl t := fun t kt => kn0 t (by
    show own_S p e below s₁ (mkF m 0 #[.val (.ref a1), .val (.int (0 : Int32)), .val (.long q3), .second] []) _
    refine XS.aloadN X0.here hx rfl (hb hby d_method_4_0) rfl rfl ?_
    show own_S p e below s₁ (mkF m 1 #[.val (.ref a1), .val (.int (0 : Int32)), .val (.long q3), .second] [(.ref a1)]) _
    refine XS.iloadN X0.here hx rfl (hb hby d_method_4_1) rfl ?_
    show own_S p e below s₁ (mkF m 2 #[.val (.ref a1), .val (.int (0 : Int32)), .val (.long q3), .second] [(.int (0 : Int32)), (.ref a1)]) _
    refine XS.lloadN X0.here hx rfl (hb hby d_method_4_2) rfl ?_
    show own_S p e below s₁ (mkF m 3 #[.val (.ref a1), .val (.int (0 : Int32)), .val (.long q3), .second] [(.long q3), (.int (0 : Int32)), (.ref a1)]) _
    refine XS.bipush X0.here hx rfl (hb hby d_method_4_3) ?_
    exact kt)
  obtain ⟨_, _, ⟨T2, L2, cc2, ss2⟩, -, X2, ⟨Lc2, hQ2, l2, y2, z2⟩, st2⟩ := Jvm.LawKit.callS X0 hx (y := (⟨"com/example/dual_delivery/dualdelivery/model/ReceiptHandleParsePinLaw", "hexDigit", "(JI)C"⟩ : MethodName)) hown (mvT hZ (hw _ (List.mem_of_getElem? (i := 5) rfl))) (mvT hZ (hw _ (List.mem_of_getElem? (i := 6) rfl))) (mvT hZ (hw _ (List.mem_of_getElem? (i := 3) rfl))) (mvT hZ (hw _ (List.mem_of_getElem? (i := 7) rfl))) (by decide) (backOf (W := 2) (rm2 l Z a0 hw [] q3 (60 : Int32)  h0 n0 Z0 ) hZ (hw _ (List.mem_of_getElem? (i := 7) rfl)) (hw _ (List.mem_of_getElem? (i := 3) rfl)) (by decide) (by decide)) (g := (mkF m 5 #[.val (.ref a1), .val (.int (0 : Int32)), .val (.long q3), .second] [(.int (60 : Int32)), (.long q3), (.int (0 : Int32)), (.ref a1)])) rfl (by rw [hml]; rfl) (argsL := [(.long q3), (.int (60 : Int32))]) (rest := [(.int (0 : Int32)), (.ref a1)]) (lenOf pd_0 rfl) rfl (by show 2 * 0 + _ ≤ _; exact Nat.le_of_eq rfl) (hb hby d_method_4_5) (fun _ _ => ⟨rfl, e0, (by decide : 0 + 0 ≤ _), (by decide : 0 + 0 ≤ _)⟩)
  dsimp only [Pt.U, Pt.locs, Pt.cells, Pt.slots] at X2 l2 y2 z2 st2 hQ2
  subst l2 y2 z2
  have X2 : Stand p l e _ _ m _ below meth c T2 _ 0 0 := X2
  obtain ⟨rfl, Nq2, eq2⟩ := hQ2
  have Nf2 := Fr.app Nf0 Nq2
  have kn3 : ∀ t, own_S p e below T2 (mkF m 8 #[.val (.ref a1), .val (.int (0 : Int32)), .val (.long q3), .second] [(.int (own_hex q3 (60 : Int32))), (.int (0 : Int32)), (.ref a1)]) t → Gl t := fun t kt => kn1 t (st2 _ kt)
  obtain ⟨cl4, Ar4, q4, Sz4, Ng4, Hs4, Gs4⟩ := id V1
  have hin4 : ¬ ((0 : Int32) < 0 ∨ cl4.slots.size ≤ ((0 : Int32)).toNatClampNeg) := inb_of Sz4 ⟨by decide, by decide⟩
  obtain ⟨T4, h4, X4, e4, W4, st4⟩ := stC X2 hx hZ eq2 Ar4 (j := (0 : Int32)) hin4 (g := (mkF m 8 #[.val (.ref a1), .val (.int (0 : Int32)), .val (.long q3), .second] [(.int (own_hex q3 (60 : Int32))), (.int (0 : Int32)), (.ref a1)])) rfl rfl (hb hby d_method_4_8)
  have Z5 : n0 ≤ h4.size := Nat.le_trans Z0 (Keep.of_wr W4).1
  have K6 : Keep hB h4 [a1] := KB.wr W4 (Or.inl (List.mem_of_getElem? (i := 0) rfl))
  have V4 : Arv Z h4 a1 kk1 .char (48 : Int32) ((.int ((own_hex q3 (60 : Int32)).toUInt32.toUInt16.toUInt32.toInt32)) :: (.int u1) :: (.int u2) :: (.int u3) :: (.int u4) :: (.int u5) :: (.int u6) :: (.int u7) :: (.int u8) :: (.int u9) :: (.int u10) :: (.int u11) :: (.int u12) :: (.int u13) :: (.int u14) :: (.int u15) :: (.int u16) :: (.int u17) :: (.int u18) :: (.int u19) :: (.int u20) :: (.int u21) :: (.int u22) :: (.int u23) :: (.int u24) :: (.int u25) :: (.int u26) :: (.int u27) :: (.int u28) :: (.int u29) :: (.int u30) :: (.int u31) :: (.int u32) :: (.int u33) :: (.int u34) :: (.int u35) :: (.int u36) :: (.int u37) :: (.int u38) :: (.int u39) :: (.int u40) :: (.int u41) :: (.int u42) :: (.int u43) :: (.int u44) :: (.int u45) :: (.int u46) :: (.int u47) :: []) (.int (0 : Int32)) := Arv.set Ar4 q4 Sz4 Ng4 Hs4 Gs4 (fits_nar_char _) W4 0 rfl (Nat.le_of_ble_eq_true rfl)
  rw [(show ((own_hex q3 (60 : Int32)).toUInt32.toUInt16.toUInt32.toInt32) = (own_hex q3 (60 : Int32)) from (own_hxs _ _).2.2.2.2.1)] at V4
  have Nf7 := Fr.snoc X4 Nf2 g_a1
  have kn8 : ∀ t, own_S p e below T4 (mkF m 9 #[.val (.ref a1), .val (.int (0 : Int32)), .val (.long q3), .second] []) t → Gl t := fun t kt => kn3 t (st4 _ kt)
  have kn9 : ∀ t, own_S p e below T4 (mkF m 16 #[.val (.ref a1), .val (.int (0 : Int32)), .val (.long q3), .second] [(.int (56 : Int32)), (.long q3), (.int (1 : Int32)), (.ref a1)]) t → Gl t := fun t kt => kn8 t (by
    show own_S p e below T4 (mkF m 9 #[.val (.ref a1), .val (.int (0 : Int32)), .val (.long q3), .second] []) _
    refine XS.aloadN X4.here hx rfl (hb hby d_method_4_9) rfl rfl ?_
    show own_S p e below T4 (mkF m 10 #[.val (.ref a1), .val (.int (0 : Int32)), .val (.long q3), .second] [(.ref a1)]) _
    refine XS.iloadN X4.here hx rfl (hb hby d_method_4_10) rfl ?_
    show own_S p e below T4 (mkF m 11 #[.val (.ref a1), .val (.int (0 : Int32)), .val (.long q3), .second] [(.int (0 : Int32)), (.ref a1)]) _
    refine XS.iconst X4.here hx rfl (hb hby d_method_4_11) ?_
    show own_S p e below T4 (mkF m 12 #[.val (.ref a1), .val (.int (0 : Int32)), .val (.long q3), .second] [(.int (1 : Int32)), (.int (0 : Int32)), (.ref a1)]) _
    refine XS.iadd X4.here hx rfl (hb hby d_method_4_12) rfl ?_
    rw [(by decide : ((0 : Int32) + (1 : Int32)) = (1 : Int32))]
    show own_S p e below T4 (mkF m 13 #[.val (.ref a1), .val (.int (0 : Int32)), .val (.long q3), .second] [(.int (1 : Int32)), (.ref a1)]) _
    refine XS.lloadN X4.here hx rfl (hb hby d_method_4_13) rfl ?_
    show own_S p e below T4 (mkF m 14 #[.val (.ref a1), .val (.int (0 : Int32)), .val (.long q3), .second] [(.long q3), (.int (1 : Int32)), (.ref a1)]) _
    refine XS.bipush X4.here hx rfl (hb hby d_method_4_14) ?_
    exact kt)
  obtain ⟨_, _, ⟨T10, L10, cc10, ss10⟩, -, X10, ⟨Lc10, hQ10, l10, y10, z10⟩, st10⟩ := Jvm.LawKit.callS X4 hx (y := (⟨"com/example/dual_delivery/dualdelivery/model/ReceiptHandleParsePinLaw", "hexDigit", "(JI)C"⟩ : MethodName)) hown (mvT hZ (hw _ (List.mem_of_getElem? (i := 5) rfl))) (mvT hZ (hw _ (List.mem_of_getElem? (i := 6) rfl))) (mvT hZ (hw _ (List.mem_of_getElem? (i := 3) rfl))) (mvT hZ (hw _ (List.mem_of_getElem? (i := 7) rfl))) (by decide) (backOf (W := 2) (rm2 l Z a0 hw [] q3 (56 : Int32)  h4 n0 Z5 ) hZ (hw _ (List.mem_of_getElem? (i := 7) rfl)) (hw _ (List.mem_of_getElem? (i := 3) rfl)) (by decide) (by decide)) (g := (mkF m 16 #[.val (.ref a1), .val (.int (0 : Int32)), .val (.long q3), .second] [(.int (56 : Int32)), (.long q3), (.int (1 : Int32)), (.ref a1)])) rfl (by rw [hml]; rfl) (argsL := [(.long q3), (.int (56 : Int32))]) (rest := [(.int (1 : Int32)), (.ref a1)]) (lenOf pd_0 rfl) rfl (by show 2 * 0 + _ ≤ _; exact Nat.le_of_eq rfl) (hb hby d_method_4_16) (fun _ _ => ⟨rfl, e4, (by decide : 0 + 0 ≤ _), (by decide : 0 + 0 ≤ _)⟩)
  dsimp only [Pt.U, Pt.locs, Pt.cells, Pt.slots] at X10 l10 y10 z10 st10 hQ10
  subst l10 y10 z10
  have X10 : Stand p l e _ _ m _ below meth c T10 _ 0 0 := X10
  obtain ⟨rfl, Nq10, eq10⟩ := hQ10
  have Nf10 := Fr.app Nf7 Nq10
  have kn11 : ∀ t, own_S p e below T10 (mkF m 19 #[.val (.ref a1), .val (.int (0 : Int32)), .val (.long q3), .second] [(.int (own_hex q3 (56 : Int32))), (.int (1 : Int32)), (.ref a1)]) t → Gl t := fun t kt => kn9 t (st10 _ kt)
  obtain ⟨cl12, Ar12, q12, Sz12, Ng12, Hs12, Gs12⟩ := id V4
  have hin12 : ¬ ((1 : Int32) < 0 ∨ cl12.slots.size ≤ ((1 : Int32)).toNatClampNeg) := inb_of Sz12 ⟨by decide, by decide⟩
  obtain ⟨T12, h12, X12, e12, W12, st12⟩ := stC X10 hx hZ eq10 Ar12 (j := (1 : Int32)) hin12 (g := (mkF m 19 #[.val (.ref a1), .val (.int (0 : Int32)), .val (.long q3), .second] [(.int (own_hex q3 (56 : Int32))), (.int (1 : Int32)), (.ref a1)])) rfl rfl (hb hby d_method_4_19)
  have Z13 : n0 ≤ h12.size := Nat.le_trans Z5 (Keep.of_wr W12).1
  have K14 : Keep hB h12 [a1] := K6.wr W12 (Or.inl (List.mem_of_getElem? (i := 0) rfl))
  have V12 : Arv Z h12 a1 kk1 .char (48 : Int32) ((.int (own_hex q3 (60 : Int32))) :: (.int ((own_hex q3 (56 : Int32)).toUInt32.toUInt16.toUInt32.toInt32)) :: (.int u2) :: (.int u3) :: (.int u4) :: (.int u5) :: (.int u6) :: (.int u7) :: (.int u8) :: (.int u9) :: (.int u10) :: (.int u11) :: (.int u12) :: (.int u13) :: (.int u14) :: (.int u15) :: (.int u16) :: (.int u17) :: (.int u18) :: (.int u19) :: (.int u20) :: (.int u21) :: (.int u22) :: (.int u23) :: (.int u24) :: (.int u25) :: (.int u26) :: (.int u27) :: (.int u28) :: (.int u29) :: (.int u30) :: (.int u31) :: (.int u32) :: (.int u33) :: (.int u34) :: (.int u35) :: (.int u36) :: (.int u37) :: (.int u38) :: (.int u39) :: (.int u40) :: (.int u41) :: (.int u42) :: (.int u43) :: (.int u44) :: (.int u45) :: (.int u46) :: (.int u47) :: []) (.int (0 : Int32)) := Arv.set Ar12 q12 Sz12 Ng12 Hs12 Gs12 (fits_nar_char _) W12 1 rfl (Nat.le_of_ble_eq_true rfl)
  rw [(show ((own_hex q3 (56 : Int32)).toUInt32.toUInt16.toUInt32.toInt32) = (own_hex q3 (56 : Int32)) from (own_hxs _ _).2.2.2.2.1)] at V12
  have Nf15 := Fr.snoc X12 Nf10 g_a1
  have kn16 : ∀ t, own_S p e below T12 (mkF m 20 #[.val (.ref a1), .val (.int (0 : Int32)), .val (.long q3), .second] []) t → Gl t := fun t kt => kn11 t (st12 _ kt)
  have kn17 : ∀ t, own_S p e below T12 (mkF m 27 #[.val (.ref a1), .val (.int (0 : Int32)), .val (.long q3), .second] [(.int (52 : Int32)), (.long q3), (.int (2 : Int32)), (.ref a1)]) t → Gl t := fun t kt => kn16 t (by
    show own_S p e below T12 (mkF m 20 #[.val (.ref a1), .val (.int (0 : Int32)), .val (.long q3), .second] []) _
    refine XS.aloadN X12.here hx rfl (hb hby d_method_4_20) rfl rfl ?_
    show own_S p e below T12 (mkF m 21 #[.val (.ref a1), .val (.int (0 : Int32)), .val (.long q3), .second] [(.ref a1)]) _
    refine XS.iloadN X12.here hx rfl (hb hby d_method_4_21) rfl ?_
    show own_S p e below T12 (mkF m 22 #[.val (.ref a1), .val (.int (0 : Int32)), .val (.long q3), .second] [(.int (0 : Int32)), (.ref a1)]) _
    refine XS.iconst X12.here hx rfl (hb hby d_method_4_22) ?_
    show own_S p e below T12 (mkF m 23 #[.val (.ref a1), .val (.int (0 : Int32)), .val (.long q3), .second] [(.int (2 : Int32)), (.int (0 : Int32)), (.ref a1)]) _
    refine XS.iadd X12.here hx rfl (hb hby d_method_4_23) rfl ?_
    rw [(by decide : ((0 : Int32) + (2 : Int32)) = (2 : Int32))]
    show own_S p e below T12 (mkF m 24 #[.val (.ref a1), .val (.int (0 : Int32)), .val (.long q3), .second] [(.int (2 : Int32)), (.ref a1)]) _
    refine XS.lloadN X12.here hx rfl (hb hby d_method_4_24) rfl ?_
    show own_S p e below T12 (mkF m 25 #[.val (.ref a1), .val (.int (0 : Int32)), .val (.long q3), .second] [(.long q3), (.int (2 : Int32)), (.ref a1)]) _
    refine XS.bipush X12.here hx rfl (hb hby d_method_4_25) ?_
    exact kt)
  obtain ⟨_, _, ⟨T18, L18, cc18, ss18⟩, -, X18, ⟨Lc18, hQ18, l18, y18, z18⟩, st18⟩ := Jvm.LawKit.callS X12 hx (y := (⟨"com/example/dual_delivery/dualdelivery/model/ReceiptHandleParsePinLaw", "hexDigit", "(JI)C"⟩ : MethodName)) hown (mvT hZ (hw _ (List.mem_of_getElem? (i := 5) rfl))) (mvT hZ (hw _ (List.mem_of_getElem? (i := 6) rfl))) (mvT hZ (hw _ (List.mem_of_getElem? (i := 3) rfl))) (mvT hZ (hw _ (List.mem_of_getElem? (i := 7) rfl))) (by decide) (backOf (W := 2) (rm2 l Z a0 hw [] q3 (52 : Int32)  h12 n0 Z13 ) hZ (hw _ (List.mem_of_getElem? (i := 7) rfl)) (hw _ (List.mem_of_getElem? (i := 3) rfl)) (by decide) (by decide)) (g := (mkF m 27 #[.val (.ref a1), .val (.int (0 : Int32)), .val (.long q3), .second] [(.int (52 : Int32)), (.long q3), (.int (2 : Int32)), (.ref a1)])) rfl (by rw [hml]; rfl) (argsL := [(.long q3), (.int (52 : Int32))]) (rest := [(.int (2 : Int32)), (.ref a1)]) (lenOf pd_0 rfl) rfl (by show 2 * 0 + _ ≤ _; exact Nat.le_of_eq rfl) (hb hby d_method_4_27) (fun _ _ => ⟨rfl, e12, (by decide : 0 + 0 ≤ _), (by decide : 0 + 0 ≤ _)⟩)
  dsimp only [Pt.U, Pt.locs, Pt.cells, Pt.slots] at X18 l18 y18 z18 st18 hQ18
  subst l18 y18 z18
  have X18 : Stand p l e _ _ m _ below meth c T18 _ 0 0 := X18
  obtain ⟨rfl, Nq18, eq18⟩ := hQ18
  have Nf18 := Fr.app Nf15 Nq18
  have kn19 : ∀ t, own_S p e below T18 (mkF m 30 #[.val (.ref a1), .val (.int (0 : Int32)), .val (.long q3), .second] [(.int (own_hex q3 (52 : Int32))), (.int (2 : Int32)), (.ref a1)]) t → Gl t := fun t kt => kn17 t (st18 _ kt)
  obtain ⟨cl20, Ar20, q20, Sz20, Ng20, Hs20, Gs20⟩ := id V12
  have hin20 : ¬ ((2 : Int32) < 0 ∨ cl20.slots.size ≤ ((2 : Int32)).toNatClampNeg) := inb_of Sz20 ⟨by decide, by decide⟩
  obtain ⟨T20, h20, X20, e20, W20, st20⟩ := stC X18 hx hZ eq18 Ar20 (j := (2 : Int32)) hin20 (g := (mkF m 30 #[.val (.ref a1), .val (.int (0 : Int32)), .val (.long q3), .second] [(.int (own_hex q3 (52 : Int32))), (.int (2 : Int32)), (.ref a1)])) rfl rfl (hb hby d_method_4_30)
  have Z21 : n0 ≤ h20.size := Nat.le_trans Z13 (Keep.of_wr W20).1
  have K22 : Keep hB h20 [a1] := K14.wr W20 (Or.inl (List.mem_of_getElem? (i := 0) rfl))
  have V20 : Arv Z h20 a1 kk1 .char (48 : Int32) ((.int (own_hex q3 (60 : Int32))) :: (.int (own_hex q3 (56 : Int32))) :: (.int ((own_hex q3 (52 : Int32)).toUInt32.toUInt16.toUInt32.toInt32)) :: (.int u3) :: (.int u4) :: (.int u5) :: (.int u6) :: (.int u7) :: (.int u8) :: (.int u9) :: (.int u10) :: (.int u11) :: (.int u12) :: (.int u13) :: (.int u14) :: (.int u15) :: (.int u16) :: (.int u17) :: (.int u18) :: (.int u19) :: (.int u20) :: (.int u21) :: (.int u22) :: (.int u23) :: (.int u24) :: (.int u25) :: (.int u26) :: (.int u27) :: (.int u28) :: (.int u29) :: (.int u30) :: (.int u31) :: (.int u32) :: (.int u33) :: (.int u34) :: (.int u35) :: (.int u36) :: (.int u37) :: (.int u38) :: (.int u39) :: (.int u40) :: (.int u41) :: (.int u42) :: (.int u43) :: (.int u44) :: (.int u45) :: (.int u46) :: (.int u47) :: []) (.int (0 : Int32)) := Arv.set Ar20 q20 Sz20 Ng20 Hs20 Gs20 (fits_nar_char _) W20 2 rfl (Nat.le_of_ble_eq_true rfl)
  rw [(show ((own_hex q3 (52 : Int32)).toUInt32.toUInt16.toUInt32.toInt32) = (own_hex q3 (52 : Int32)) from (own_hxs _ _).2.2.2.2.1)] at V20
  have Nf23 := Fr.snoc X20 Nf18 g_a1
  have kn24 : ∀ t, own_S p e below T20 (mkF m 31 #[.val (.ref a1), .val (.int (0 : Int32)), .val (.long q3), .second] []) t → Gl t := fun t kt => kn19 t (st20 _ kt)
  have kn25 : ∀ t, own_S p e below T20 (mkF m 38 #[.val (.ref a1), .val (.int (0 : Int32)), .val (.long q3), .second] [(.int (48 : Int32)), (.long q3), (.int (3 : Int32)), (.ref a1)]) t → Gl t := fun t kt => kn24 t (by
    show own_S p e below T20 (mkF m 31 #[.val (.ref a1), .val (.int (0 : Int32)), .val (.long q3), .second] []) _
    refine XS.aloadN X20.here hx rfl (hb hby d_method_4_31) rfl rfl ?_
    show own_S p e below T20 (mkF m 32 #[.val (.ref a1), .val (.int (0 : Int32)), .val (.long q3), .second] [(.ref a1)]) _
    refine XS.iloadN X20.here hx rfl (hb hby d_method_4_32) rfl ?_
    show own_S p e below T20 (mkF m 33 #[.val (.ref a1), .val (.int (0 : Int32)), .val (.long q3), .second] [(.int (0 : Int32)), (.ref a1)]) _
    refine XS.iconst X20.here hx rfl (hb hby d_method_4_33) ?_
    show own_S p e below T20 (mkF m 34 #[.val (.ref a1), .val (.int (0 : Int32)), .val (.long q3), .second] [(.int (3 : Int32)), (.int (0 : Int32)), (.ref a1)]) _
    refine XS.iadd X20.here hx rfl (hb hby d_method_4_34) rfl ?_
    rw [(by decide : ((0 : Int32) + (3 : Int32)) = (3 : Int32))]
    show own_S p e below T20 (mkF m 35 #[.val (.ref a1), .val (.int (0 : Int32)), .val (.long q3), .second] [(.int (3 : Int32)), (.ref a1)]) _
    refine XS.lloadN X20.here hx rfl (hb hby d_method_4_35) rfl ?_
    show own_S p e below T20 (mkF m 36 #[.val (.ref a1), .val (.int (0 : Int32)), .val (.long q3), .second] [(.long q3), (.int (3 : Int32)), (.ref a1)]) _
    refine XS.bipush X20.here hx rfl (hb hby d_method_4_36) ?_
    exact kt)
  obtain ⟨_, _, ⟨T26, L26, cc26, ss26⟩, -, X26, ⟨Lc26, hQ26, l26, y26, z26⟩, st26⟩ := Jvm.LawKit.callS X20 hx (y := (⟨"com/example/dual_delivery/dualdelivery/model/ReceiptHandleParsePinLaw", "hexDigit", "(JI)C"⟩ : MethodName)) hown (mvT hZ (hw _ (List.mem_of_getElem? (i := 5) rfl))) (mvT hZ (hw _ (List.mem_of_getElem? (i := 6) rfl))) (mvT hZ (hw _ (List.mem_of_getElem? (i := 3) rfl))) (mvT hZ (hw _ (List.mem_of_getElem? (i := 7) rfl))) (by decide) (backOf (W := 2) (rm2 l Z a0 hw [] q3 (48 : Int32)  h20 n0 Z21 ) hZ (hw _ (List.mem_of_getElem? (i := 7) rfl)) (hw _ (List.mem_of_getElem? (i := 3) rfl)) (by decide) (by decide)) (g := (mkF m 38 #[.val (.ref a1), .val (.int (0 : Int32)), .val (.long q3), .second] [(.int (48 : Int32)), (.long q3), (.int (3 : Int32)), (.ref a1)])) rfl (by rw [hml]; rfl) (argsL := [(.long q3), (.int (48 : Int32))]) (rest := [(.int (3 : Int32)), (.ref a1)]) (lenOf pd_0 rfl) rfl (by show 2 * 0 + _ ≤ _; exact Nat.le_of_eq rfl) (hb hby d_method_4_38) (fun _ _ => ⟨rfl, e20, (by decide : 0 + 0 ≤ _), (by decide : 0 + 0 ≤ _)⟩)
  dsimp only [Pt.U, Pt.locs, Pt.cells, Pt.slots] at X26 l26 y26 z26 st26 hQ26
  subst l26 y26 z26
  have X26 : Stand p l e _ _ m _ below meth c T26 _ 0 0 := X26
  obtain ⟨rfl, Nq26, eq26⟩ := hQ26
  have Nf26 := Fr.app Nf23 Nq26
  have kn27 : ∀ t, own_S p e below T26 (mkF m 41 #[.val (.ref a1), .val (.int (0 : Int32)), .val (.long q3), .second] [(.int (own_hex q3 (48 : Int32))), (.int (3 : Int32)), (.ref a1)]) t → Gl t := fun t kt => kn25 t (st26 _ kt)
  obtain ⟨cl28, Ar28, q28, Sz28, Ng28, Hs28, Gs28⟩ := id V20
  have hin28 : ¬ ((3 : Int32) < 0 ∨ cl28.slots.size ≤ ((3 : Int32)).toNatClampNeg) := inb_of Sz28 ⟨by decide, by decide⟩
  obtain ⟨T28, h28, X28, e28, W28, st28⟩ := stC X26 hx hZ eq26 Ar28 (j := (3 : Int32)) hin28 (g := (mkF m 41 #[.val (.ref a1), .val (.int (0 : Int32)), .val (.long q3), .second] [(.int (own_hex q3 (48 : Int32))), (.int (3 : Int32)), (.ref a1)])) rfl rfl (hb hby d_method_4_41)
  have Z29 : n0 ≤ h28.size := Nat.le_trans Z21 (Keep.of_wr W28).1
  have K30 : Keep hB h28 [a1] := K22.wr W28 (Or.inl (List.mem_of_getElem? (i := 0) rfl))
  have V28 : Arv Z h28 a1 kk1 .char (48 : Int32) ((.int (own_hex q3 (60 : Int32))) :: (.int (own_hex q3 (56 : Int32))) :: (.int (own_hex q3 (52 : Int32))) :: (.int ((own_hex q3 (48 : Int32)).toUInt32.toUInt16.toUInt32.toInt32)) :: (.int u4) :: (.int u5) :: (.int u6) :: (.int u7) :: (.int u8) :: (.int u9) :: (.int u10) :: (.int u11) :: (.int u12) :: (.int u13) :: (.int u14) :: (.int u15) :: (.int u16) :: (.int u17) :: (.int u18) :: (.int u19) :: (.int u20) :: (.int u21) :: (.int u22) :: (.int u23) :: (.int u24) :: (.int u25) :: (.int u26) :: (.int u27) :: (.int u28) :: (.int u29) :: (.int u30) :: (.int u31) :: (.int u32) :: (.int u33) :: (.int u34) :: (.int u35) :: (.int u36) :: (.int u37) :: (.int u38) :: (.int u39) :: (.int u40) :: (.int u41) :: (.int u42) :: (.int u43) :: (.int u44) :: (.int u45) :: (.int u46) :: (.int u47) :: []) (.int (0 : Int32)) := Arv.set Ar28 q28 Sz28 Ng28 Hs28 Gs28 (fits_nar_char _) W28 3 rfl (Nat.le_of_ble_eq_true rfl)
  rw [(show ((own_hex q3 (48 : Int32)).toUInt32.toUInt16.toUInt32.toInt32) = (own_hex q3 (48 : Int32)) from (own_hxs _ _).2.2.2.2.1)] at V28
  have Nf31 := Fr.snoc X28 Nf26 g_a1
  have kn32 : ∀ t, own_S p e below T28 (mkF m 42 #[.val (.ref a1), .val (.int (0 : Int32)), .val (.long q3), .second] []) t → Gl t := fun t kt => kn27 t (st28 _ kt)
  obtain ⟨s2, o2, t1, t2, t3, t4⟩ := tlp_0_1 (n0 := n0) a1 q3 kk1 u0 u1 u2 u3 u4 u5 u6 u7 u8 u9 u10 u11 u12 u13 u14 u15 u16 u17 u18 u19 u20 u21 u22 u23 u24 u25 u26 u27 u28 u29 u30 u31 u32 u33 u34 u35 u36 u37 u38 u39 u40 u41 u42 u43 u44 u45 u46 u47 hB  X28 hx hZ hw hby hml hown Bd.returns (BodyLoose.notSynchronized Bd) e28 Nf31 Z29 V28 K30 g_a1
  exact ⟨s2, o2, hGl _ (kn32 _ t1), t2, t3, t4⟩

def Q1_16 (Z : State) (a1 : Addr) (q3 : Int64) (kk1 : ClassId) (u0 : Int32) (u1 : Int32) (u2 : Int32) (u3 : Int32) (u4 : Int32) (u5 : Int32) (u6 : Int32) (u7 : Int32) (u8 : Int32) (u9 : Int32) (u10 : Int32) (u11 : Int32) (u12 : Int32) (u13 : Int32) (u14 : Int32) (u15 : Int32) (u16 : Int32) (u17 : Int32) (u18 : Int32) (u19 : Int32) (u20 : Int32) (u21 : Int32) (u22 : Int32) (u23 : Int32) (u24 : Int32) (u25 : Int32) (u26 : Int32) (u27 : Int32) (u28 : Int32) (u29 : Int32) (u30 : Int32) (u31 : Int32) (u32 : Int32) (u33 : Int32) (u34 : Int32) (u35 : Int32) (u36 : Int32) (u37 : Int32) (u38 : Int32) (u39 : Int32) (u40 : Int32) (u41 : Int32) (u42 : Int32) (u43 : Int32) (u44 : Int32) (u45 : Int32) (u46 : Int32) (u47 : Int32) (hB : Heap) (h0 : Heap) (n0 : Nat) (v : Option Value) (h : Heap) (L : List Loc) : Prop := v = none ∧ Fr n0 L ∧ Keep hB h [a1] ∧ Arv Z h a1 kk1 .char (48 : Int32) ((.int u0) :: (.int u1) :: (.int u2) :: (.int u3) :: (.int u4) :: (.int u5) :: (.int u6) :: (.int u7) :: (.int u8) :: (.int u9) :: (.int u10) :: (.int u11) :: (.int u12) :: (.int u13) :: (.int u14) :: (.int u15) :: (.int (own_hex q3 (60 : Int32))) :: (.int (own_hex q3 (56 : Int32))) :: (.int (own_hex q3 (52 : Int32))) :: (.int (own_hex q3 (48 : Int32))) :: (.int (own_hex q3 (44 : Int32))) :: (.int (own_hex q3 (40 : Int32))) :: (.int (own_hex q3 (36 : Int32))) :: (.int (own_hex q3 (32 : Int32))) :: (.int (own_hex q3 (28 : Int32))) :: (.int (own_hex q3 (24 : Int32))) :: (.int (own_hex q3 (20 : Int32))) :: (.int (own_hex q3 (16 : Int32))) :: (.int (own_hex q3 (12 : Int32))) :: (.int (own_hex q3 (8 : Int32))) :: (.int (own_hex q3 (4 : Int32))) :: (.int (own_hex q3 (0 : Int32))) :: (.int u32) :: (.int u33) :: (.int u34) :: (.int u35) :: (.int u36) :: (.int u37) :: (.int u38) :: (.int u39) :: (.int u40) :: (.int u41) :: (.int u42) :: (.int u43) :: (.int u44) :: (.int u45) :: (.int u46) :: (.int u47) :: []) (.int (0 : Int32))
set_option maxRecDepth 65536 in
set_option maxHeartbeats 40000000 in
theorem tlp_16_3 {p : Program} {l : Launch} {e : Env} {s : State} {m : MethodId} {args : Array Value} {below : List Frame} {meth : Method} {c : Code} {T0 : State} {locs : List Loc} {Z : State} {a0 : Array Value} {h0 : Heap} {n0 : Nat} (a1 : Addr) (q3 : Int64) (kk1 : ClassId) (u0 : Int32) (u1 : Int32) (u2 : Int32) (u3 : Int32) (u4 : Int32) (u5 : Int32) (u6 : Int32) (u7 : Int32) (u8 : Int32) (u9 : Int32) (u10 : Int32) (u11 : Int32) (u12 : Int32) (u13 : Int32) (u14 : Int32) (u15 : Int32) (u16 : Int32) (u17 : Int32) (u18 : Int32) (u19 : Int32) (u20 : Int32) (u21 : Int32) (u22 : Int32) (u23 : Int32) (u24 : Int32) (u25 : Int32) (u26 : Int32) (u27 : Int32) (u28 : Int32) (u29 : Int32) (u30 : Int32) (u31 : Int32) (u32 : Int32) (u33 : Int32) (u34 : Int32) (u35 : Int32) (u36 : Int32) (u37 : Int32) (u38 : Int32) (u39 : Int32) (u40 : Int32) (u41 : Int32) (u42 : Int32) (u43 : Int32) (u44 : Int32) (u45 : Int32) (u46 : Int32) (u47 : Int32) (hB : Heap)
    (X0 : Stand p l e ({ frames := 1, cells := 0, slots := 0, locals := 17 } : Room) s m args below meth c T0 locs 0 0) (hx : p.tables.exec = Jvm.exec) (hZ : Z.Warmed39 s.vm) (hw : ∀ d ∈ tables_1, d.before a0 Z = true) (hby : c.code = method_4_code) (hml : c.maxLocals = 4) (hown : s.vm.findClass "com/example/dual_delivery/dualdelivery/model/ReceiptHandleParsePinLaw" = some m.cls) (hret : meth.sig.returnType = none) (hlk : meth.locks = false) (e0 : T0.heap = h0) (Nf0 : Fr n0 locs) (Z0 : n0 ≤ h0.size) (V1 : Arv Z h0 a1 kk1 .char (48 : Int32) ((.int u0) :: (.int u1) :: (.int u2) :: (.int u3) :: (.int u4) :: (.int u5) :: (.int u6) :: (.int u7) :: (.int u8) :: (.int u9) :: (.int u10) :: (.int u11) :: (.int u12) :: (.int u13) :: (.int u14) :: (.int u15) :: (.int (own_hex q3 (60 : Int32))) :: (.int (own_hex q3 (56 : Int32))) :: (.int (own_hex q3 (52 : Int32))) :: (.int (own_hex q3 (48 : Int32))) :: (.int (own_hex q3 (44 : Int32))) :: (.int (own_hex q3 (40 : Int32))) :: (.int (own_hex q3 (36 : Int32))) :: (.int (own_hex q3 (32 : Int32))) :: (.int (own_hex q3 (28 : Int32))) :: (.int (own_hex q3 (24 : Int32))) :: (.int (own_hex q3 (20 : Int32))) :: (.int (own_hex q3 (16 : Int32))) :: (.int u28) :: (.int u29) :: (.int u30) :: (.int u31) :: (.int u32) :: (.int u33) :: (.int u34) :: (.int u35) :: (.int u36) :: (.int u37) :: (.int u38) :: (.int u39) :: (.int u40) :: (.int u41) :: (.int u42) :: (.int u43) :: (.int u44) :: (.int u45) :: (.int u46) :: (.int u47) :: []) (.int (0 : Int32))) (KB : Keep hB h0 [a1]) (g_a1 : n0 ≤ a1) :
    ∃ s₂ o, Steps p.tables e below (T0.setTop (mkF m 136 #[.val (.ref a1), .val (.int (16 : Int32)), .val (.long q3), .second] [])) s₂ ∧ s₂.status = .running ∧ Ended s₂ below o ∧ ∃ v L, o = .returned v ∧ Q1_16 Z a1 q3 kk1 u0 u1 u2 u3 u4 u5 u6 u7 u8 u9 u10 u11 u12 u13 u14 u15 u16 u17 u18 u19 u20 u21 u22 u23 u24 u25 u26 u27 u28 u29 u30 u31 u32 u33 u34 u35 u36 u37 u38 u39 u40 u41 u42 u43 u44 u45 u46 u47 hB h0 n0 v s₂.heap L ∧ FrameEnd s o s₂ L ({ frames := 1, cells := 0, slots := 0, locals := 17 } : Room).cells ({ frames := 1, cells := 0, slots := 0, locals := 17 } : Room).slots := by
  have kn0 : ∀ t, own_S p e below T0 (mkF m 136 #[.val (.ref a1), .val (.int (16 : Int32)), .val (.long q3), .second] []) t → own_S p e below T0 (mkF m 136 #[.val (.ref a1), .val (.int (16 : Int32)), .val (.long q3), .second] []) t := fun t k => k
  have kn1 : ∀ t, own_S p e below T0 (mkF m 144 #[.val (.ref a1), .val (.int (16 : Int32)), .val (.long q3), .second] [(.int (12 : Int32)), (.long q3), (.int (28 : Int32)), (.ref a1)]) t → own_S p e below T0 (mkF m 136 #[.val (.ref a1), .val (.int (16 : Int32)), .val (.long q3), .second] []) t := fun t kt => kn0 t (by
    show own_S p e below T0 (mkF m 136 #[.val (.ref a1), .val (.int (16 : Int32)), .val (.long q3), .second] []) _
    refine XS.aloadN X0.here hx rfl (hb hby d_method_4_136) rfl rfl ?_
    show own_S p e below T0 (mkF m 137 #[.val (.ref a1), .val (.int (16 : Int32)), .val (.long q3), .second] [(.ref a1)]) _
    refine XS.iloadN X0.here hx rfl (hb hby d_method_4_137) rfl ?_
    show own_S p e below T0 (mkF m 138 #[.val (.ref a1), .val (.int (16 : Int32)), .val (.long q3), .second] [(.int (16 : Int32)), (.ref a1)]) _
    refine XS.bipush X0.here hx rfl (hb hby d_method_4_138) ?_
    show own_S p e below T0 (mkF m 140 #[.val (.ref a1), .val (.int (16 : Int32)), .val (.long q3), .second] [(.int (12 : Int32)), (.int (16 : Int32)), (.ref a1)]) _
    refine XS.iadd X0.here hx rfl (hb hby d_method_4_140) rfl ?_
    rw [(by decide : ((16 : Int32) + (12 : Int32)) = (28 : Int32))]
    show own_S p e below T0 (mkF m 141 #[.val (.ref a1), .val (.int (16 : Int32)), .val (.long q3), .second] [(.int (28 : Int32)), (.ref a1)]) _
    refine XS.lloadN X0.here hx rfl (hb hby d_method_4_141) rfl ?_
    show own_S p e below T0 (mkF m 142 #[.val (.ref a1), .val (.int (16 : Int32)), .val (.long q3), .second] [(.long q3), (.int (28 : Int32)), (.ref a1)]) _
    refine XS.bipush X0.here hx rfl (hb hby d_method_4_142) ?_
    exact kt)
  obtain ⟨_, _, ⟨T2, L2, cc2, ss2⟩, -, X2, ⟨Lc2, hQ2, l2, y2, z2⟩, st2⟩ := Jvm.LawKit.callS X0 hx (y := (⟨"com/example/dual_delivery/dualdelivery/model/ReceiptHandleParsePinLaw", "hexDigit", "(JI)C"⟩ : MethodName)) hown (mvT hZ (hw _ (List.mem_of_getElem? (i := 5) rfl))) (mvT hZ (hw _ (List.mem_of_getElem? (i := 6) rfl))) (mvT hZ (hw _ (List.mem_of_getElem? (i := 3) rfl))) (mvT hZ (hw _ (List.mem_of_getElem? (i := 7) rfl))) (by decide) (backOf (W := 2) (rm2 l Z a0 hw [] q3 (12 : Int32)  h0 n0 Z0 ) hZ (hw _ (List.mem_of_getElem? (i := 7) rfl)) (hw _ (List.mem_of_getElem? (i := 3) rfl)) (by decide) (by decide)) (g := (mkF m 144 #[.val (.ref a1), .val (.int (16 : Int32)), .val (.long q3), .second] [(.int (12 : Int32)), (.long q3), (.int (28 : Int32)), (.ref a1)])) rfl (by rw [hml]; rfl) (argsL := [(.long q3), (.int (12 : Int32))]) (rest := [(.int (28 : Int32)), (.ref a1)]) (lenOf pd_0 rfl) rfl (by show 2 * 0 + _ ≤ _; exact Nat.le_of_eq rfl) (hb hby d_method_4_144) (fun _ _ => ⟨rfl, e0, (by decide : 0 + 0 ≤ _), (by decide : 0 + 0 ≤ _)⟩)
  dsimp only [Pt.U, Pt.locs, Pt.cells, Pt.slots] at X2 l2 y2 z2 st2 hQ2
  subst l2 y2 z2
  have X2 : Stand p l e _ _ m _ below meth c T2 _ 0 0 := X2
  obtain ⟨rfl, Nq2, eq2⟩ := hQ2
  have Nf2 := Fr.app Nf0 Nq2
  have kn3 : ∀ t, own_S p e below T2 (mkF m 147 #[.val (.ref a1), .val (.int (16 : Int32)), .val (.long q3), .second] [(.int (own_hex q3 (12 : Int32))), (.int (28 : Int32)), (.ref a1)]) t → own_S p e below T0 (mkF m 136 #[.val (.ref a1), .val (.int (16 : Int32)), .val (.long q3), .second] []) t := fun t kt => kn1 t (st2 _ kt)
  obtain ⟨cl4, Ar4, q4, Sz4, Ng4, Hs4, Gs4⟩ := id V1
  have hin4 : ¬ ((28 : Int32) < 0 ∨ cl4.slots.size ≤ ((28 : Int32)).toNatClampNeg) := inb_of Sz4 ⟨by decide, by decide⟩
  obtain ⟨T4, h4, X4, e4, W4, st4⟩ := stC X2 hx hZ eq2 Ar4 (j := (28 : Int32)) hin4 (g := (mkF m 147 #[.val (.ref a1), .val (.int (16 : Int32)), .val (.long q3), .second] [(.int (own_hex q3 (12 : Int32))), (.int (28 : Int32)), (.ref a1)])) rfl rfl (hb hby d_method_4_147)
  have Z5 : n0 ≤ h4.size := Nat.le_trans Z0 (Keep.of_wr W4).1
  have K6 : Keep hB h4 [a1] := KB.wr W4 (Or.inl (List.mem_of_getElem? (i := 0) rfl))
  have V4 : Arv Z h4 a1 kk1 .char (48 : Int32) ((.int u0) :: (.int u1) :: (.int u2) :: (.int u3) :: (.int u4) :: (.int u5) :: (.int u6) :: (.int u7) :: (.int u8) :: (.int u9) :: (.int u10) :: (.int u11) :: (.int u12) :: (.int u13) :: (.int u14) :: (.int u15) :: (.int (own_hex q3 (60 : Int32))) :: (.int (own_hex q3 (56 : Int32))) :: (.int (own_hex q3 (52 : Int32))) :: (.int (own_hex q3 (48 : Int32))) :: (.int (own_hex q3 (44 : Int32))) :: (.int (own_hex q3 (40 : Int32))) :: (.int (own_hex q3 (36 : Int32))) :: (.int (own_hex q3 (32 : Int32))) :: (.int (own_hex q3 (28 : Int32))) :: (.int (own_hex q3 (24 : Int32))) :: (.int (own_hex q3 (20 : Int32))) :: (.int (own_hex q3 (16 : Int32))) :: (.int ((own_hex q3 (12 : Int32)).toUInt32.toUInt16.toUInt32.toInt32)) :: (.int u29) :: (.int u30) :: (.int u31) :: (.int u32) :: (.int u33) :: (.int u34) :: (.int u35) :: (.int u36) :: (.int u37) :: (.int u38) :: (.int u39) :: (.int u40) :: (.int u41) :: (.int u42) :: (.int u43) :: (.int u44) :: (.int u45) :: (.int u46) :: (.int u47) :: []) (.int (0 : Int32)) := Arv.set Ar4 q4 Sz4 Ng4 Hs4 Gs4 (fits_nar_char _) W4 28 rfl (Nat.le_of_ble_eq_true rfl)
  rw [(show ((own_hex q3 (12 : Int32)).toUInt32.toUInt16.toUInt32.toInt32) = (own_hex q3 (12 : Int32)) from (own_hxs _ _).2.2.2.2.1)] at V4
  have Nf7 := Fr.snoc X4 Nf2 g_a1
  have kn8 : ∀ t, own_S p e below T4 (mkF m 148 #[.val (.ref a1), .val (.int (16 : Int32)), .val (.long q3), .second] []) t → own_S p e below T0 (mkF m 136 #[.val (.ref a1), .val (.int (16 : Int32)), .val (.long q3), .second] []) t := fun t kt => kn3 t (st4 _ kt)
  have kn9 : ∀ t, own_S p e below T4 (mkF m 156 #[.val (.ref a1), .val (.int (16 : Int32)), .val (.long q3), .second] [(.int (8 : Int32)), (.long q3), (.int (29 : Int32)), (.ref a1)]) t → own_S p e below T0 (mkF m 136 #[.val (.ref a1), .val (.int (16 : Int32)), .val (.long q3), .second] []) t := fun t kt => kn8 t (by
    show own_S p e below T4 (mkF m 148 #[.val (.ref a1), .val (.int (16 : Int32)), .val (.long q3), .second] []) _
    refine XS.aloadN X4.here hx rfl (hb hby d_method_4_148) rfl rfl ?_
    show own_S p e below T4 (mkF m 149 #[.val (.ref a1), .val (.int (16 : Int32)), .val (.long q3), .second] [(.ref a1)]) _
    refine XS.iloadN X4.here hx rfl (hb hby d_method_4_149) rfl ?_
    show own_S p e below T4 (mkF m 150 #[.val (.ref a1), .val (.int (16 : Int32)), .val (.long q3), .second] [(.int (16 : Int32)), (.ref a1)]) _
    refine XS.bipush X4.here hx rfl (hb hby d_method_4_150) ?_
    show own_S p e below T4 (mkF m 152 #[.val (.ref a1), .val (.int (16 : Int32)), .val (.long q3), .second] [(.int (13 : Int32)), (.int (16 : Int32)), (.ref a1)]) _
    refine XS.iadd X4.here hx rfl (hb hby d_method_4_152) rfl ?_
    rw [(by decide : ((16 : Int32) + (13 : Int32)) = (29 : Int32))]
    show own_S p e below T4 (mkF m 153 #[.val (.ref a1), .val (.int (16 : Int32)), .val (.long q3), .second] [(.int (29 : Int32)), (.ref a1)]) _
    refine XS.lloadN X4.here hx rfl (hb hby d_method_4_153) rfl ?_
    show own_S p e below T4 (mkF m 154 #[.val (.ref a1), .val (.int (16 : Int32)), .val (.long q3), .second] [(.long q3), (.int (29 : Int32)), (.ref a1)]) _
    refine XS.bipush X4.here hx rfl (hb hby d_method_4_154) ?_
    exact kt)
  obtain ⟨_, _, ⟨T10, L10, cc10, ss10⟩, -, X10, ⟨Lc10, hQ10, l10, y10, z10⟩, st10⟩ := Jvm.LawKit.callS X4 hx (y := (⟨"com/example/dual_delivery/dualdelivery/model/ReceiptHandleParsePinLaw", "hexDigit", "(JI)C"⟩ : MethodName)) hown (mvT hZ (hw _ (List.mem_of_getElem? (i := 5) rfl))) (mvT hZ (hw _ (List.mem_of_getElem? (i := 6) rfl))) (mvT hZ (hw _ (List.mem_of_getElem? (i := 3) rfl))) (mvT hZ (hw _ (List.mem_of_getElem? (i := 7) rfl))) (by decide) (backOf (W := 2) (rm2 l Z a0 hw [] q3 (8 : Int32)  h4 n0 Z5 ) hZ (hw _ (List.mem_of_getElem? (i := 7) rfl)) (hw _ (List.mem_of_getElem? (i := 3) rfl)) (by decide) (by decide)) (g := (mkF m 156 #[.val (.ref a1), .val (.int (16 : Int32)), .val (.long q3), .second] [(.int (8 : Int32)), (.long q3), (.int (29 : Int32)), (.ref a1)])) rfl (by rw [hml]; rfl) (argsL := [(.long q3), (.int (8 : Int32))]) (rest := [(.int (29 : Int32)), (.ref a1)]) (lenOf pd_0 rfl) rfl (by show 2 * 0 + _ ≤ _; exact Nat.le_of_eq rfl) (hb hby d_method_4_156) (fun _ _ => ⟨rfl, e4, (by decide : 0 + 0 ≤ _), (by decide : 0 + 0 ≤ _)⟩)
  dsimp only [Pt.U, Pt.locs, Pt.cells, Pt.slots] at X10 l10 y10 z10 st10 hQ10
  subst l10 y10 z10
  have X10 : Stand p l e _ _ m _ below meth c T10 _ 0 0 := X10
  obtain ⟨rfl, Nq10, eq10⟩ := hQ10
  have Nf10 := Fr.app Nf7 Nq10
  have kn11 : ∀ t, own_S p e below T10 (mkF m 159 #[.val (.ref a1), .val (.int (16 : Int32)), .val (.long q3), .second] [(.int (own_hex q3 (8 : Int32))), (.int (29 : Int32)), (.ref a1)]) t → own_S p e below T0 (mkF m 136 #[.val (.ref a1), .val (.int (16 : Int32)), .val (.long q3), .second] []) t := fun t kt => kn9 t (st10 _ kt)
  obtain ⟨cl12, Ar12, q12, Sz12, Ng12, Hs12, Gs12⟩ := id V4
  have hin12 : ¬ ((29 : Int32) < 0 ∨ cl12.slots.size ≤ ((29 : Int32)).toNatClampNeg) := inb_of Sz12 ⟨by decide, by decide⟩
  obtain ⟨T12, h12, X12, e12, W12, st12⟩ := stC X10 hx hZ eq10 Ar12 (j := (29 : Int32)) hin12 (g := (mkF m 159 #[.val (.ref a1), .val (.int (16 : Int32)), .val (.long q3), .second] [(.int (own_hex q3 (8 : Int32))), (.int (29 : Int32)), (.ref a1)])) rfl rfl (hb hby d_method_4_159)
  have Z13 : n0 ≤ h12.size := Nat.le_trans Z5 (Keep.of_wr W12).1
  have K14 : Keep hB h12 [a1] := K6.wr W12 (Or.inl (List.mem_of_getElem? (i := 0) rfl))
  have V12 : Arv Z h12 a1 kk1 .char (48 : Int32) ((.int u0) :: (.int u1) :: (.int u2) :: (.int u3) :: (.int u4) :: (.int u5) :: (.int u6) :: (.int u7) :: (.int u8) :: (.int u9) :: (.int u10) :: (.int u11) :: (.int u12) :: (.int u13) :: (.int u14) :: (.int u15) :: (.int (own_hex q3 (60 : Int32))) :: (.int (own_hex q3 (56 : Int32))) :: (.int (own_hex q3 (52 : Int32))) :: (.int (own_hex q3 (48 : Int32))) :: (.int (own_hex q3 (44 : Int32))) :: (.int (own_hex q3 (40 : Int32))) :: (.int (own_hex q3 (36 : Int32))) :: (.int (own_hex q3 (32 : Int32))) :: (.int (own_hex q3 (28 : Int32))) :: (.int (own_hex q3 (24 : Int32))) :: (.int (own_hex q3 (20 : Int32))) :: (.int (own_hex q3 (16 : Int32))) :: (.int (own_hex q3 (12 : Int32))) :: (.int ((own_hex q3 (8 : Int32)).toUInt32.toUInt16.toUInt32.toInt32)) :: (.int u30) :: (.int u31) :: (.int u32) :: (.int u33) :: (.int u34) :: (.int u35) :: (.int u36) :: (.int u37) :: (.int u38) :: (.int u39) :: (.int u40) :: (.int u41) :: (.int u42) :: (.int u43) :: (.int u44) :: (.int u45) :: (.int u46) :: (.int u47) :: []) (.int (0 : Int32)) := Arv.set Ar12 q12 Sz12 Ng12 Hs12 Gs12 (fits_nar_char _) W12 29 rfl (Nat.le_of_ble_eq_true rfl)
  rw [(show ((own_hex q3 (8 : Int32)).toUInt32.toUInt16.toUInt32.toInt32) = (own_hex q3 (8 : Int32)) from (own_hxs _ _).2.2.2.2.1)] at V12
  have Nf15 := Fr.snoc X12 Nf10 g_a1
  have kn16 : ∀ t, own_S p e below T12 (mkF m 160 #[.val (.ref a1), .val (.int (16 : Int32)), .val (.long q3), .second] []) t → own_S p e below T0 (mkF m 136 #[.val (.ref a1), .val (.int (16 : Int32)), .val (.long q3), .second] []) t := fun t kt => kn11 t (st12 _ kt)
  have kn17 : ∀ t, own_S p e below T12 (mkF m 167 #[.val (.ref a1), .val (.int (16 : Int32)), .val (.long q3), .second] [(.int (4 : Int32)), (.long q3), (.int (30 : Int32)), (.ref a1)]) t → own_S p e below T0 (mkF m 136 #[.val (.ref a1), .val (.int (16 : Int32)), .val (.long q3), .second] []) t := fun t kt => kn16 t (by
    show own_S p e below T12 (mkF m 160 #[.val (.ref a1), .val (.int (16 : Int32)), .val (.long q3), .second] []) _
    refine XS.aloadN X12.here hx rfl (hb hby d_method_4_160) rfl rfl ?_
    show own_S p e below T12 (mkF m 161 #[.val (.ref a1), .val (.int (16 : Int32)), .val (.long q3), .second] [(.ref a1)]) _
    refine XS.iloadN X12.here hx rfl (hb hby d_method_4_161) rfl ?_
    show own_S p e below T12 (mkF m 162 #[.val (.ref a1), .val (.int (16 : Int32)), .val (.long q3), .second] [(.int (16 : Int32)), (.ref a1)]) _
    refine XS.bipush X12.here hx rfl (hb hby d_method_4_162) ?_
    show own_S p e below T12 (mkF m 164 #[.val (.ref a1), .val (.int (16 : Int32)), .val (.long q3), .second] [(.int (14 : Int32)), (.int (16 : Int32)), (.ref a1)]) _
    refine XS.iadd X12.here hx rfl (hb hby d_method_4_164) rfl ?_
    rw [(by decide : ((16 : Int32) + (14 : Int32)) = (30 : Int32))]
    show own_S p e below T12 (mkF m 165 #[.val (.ref a1), .val (.int (16 : Int32)), .val (.long q3), .second] [(.int (30 : Int32)), (.ref a1)]) _
    refine XS.lloadN X12.here hx rfl (hb hby d_method_4_165) rfl ?_
    show own_S p e below T12 (mkF m 166 #[.val (.ref a1), .val (.int (16 : Int32)), .val (.long q3), .second] [(.long q3), (.int (30 : Int32)), (.ref a1)]) _
    refine XS.iconst X12.here hx rfl (hb hby d_method_4_166) ?_
    exact kt)
  obtain ⟨_, _, ⟨T18, L18, cc18, ss18⟩, -, X18, ⟨Lc18, hQ18, l18, y18, z18⟩, st18⟩ := Jvm.LawKit.callS X12 hx (y := (⟨"com/example/dual_delivery/dualdelivery/model/ReceiptHandleParsePinLaw", "hexDigit", "(JI)C"⟩ : MethodName)) hown (mvT hZ (hw _ (List.mem_of_getElem? (i := 5) rfl))) (mvT hZ (hw _ (List.mem_of_getElem? (i := 6) rfl))) (mvT hZ (hw _ (List.mem_of_getElem? (i := 3) rfl))) (mvT hZ (hw _ (List.mem_of_getElem? (i := 7) rfl))) (by decide) (backOf (W := 2) (rm2 l Z a0 hw [] q3 (4 : Int32)  h12 n0 Z13 ) hZ (hw _ (List.mem_of_getElem? (i := 7) rfl)) (hw _ (List.mem_of_getElem? (i := 3) rfl)) (by decide) (by decide)) (g := (mkF m 167 #[.val (.ref a1), .val (.int (16 : Int32)), .val (.long q3), .second] [(.int (4 : Int32)), (.long q3), (.int (30 : Int32)), (.ref a1)])) rfl (by rw [hml]; rfl) (argsL := [(.long q3), (.int (4 : Int32))]) (rest := [(.int (30 : Int32)), (.ref a1)]) (lenOf pd_0 rfl) rfl (by show 2 * 0 + _ ≤ _; exact Nat.le_of_eq rfl) (hb hby d_method_4_167) (fun _ _ => ⟨rfl, e12, (by decide : 0 + 0 ≤ _), (by decide : 0 + 0 ≤ _)⟩)
  dsimp only [Pt.U, Pt.locs, Pt.cells, Pt.slots] at X18 l18 y18 z18 st18 hQ18
  subst l18 y18 z18
  have X18 : Stand p l e _ _ m _ below meth c T18 _ 0 0 := X18
  obtain ⟨rfl, Nq18, eq18⟩ := hQ18
  have Nf18 := Fr.app Nf15 Nq18
  have kn19 : ∀ t, own_S p e below T18 (mkF m 170 #[.val (.ref a1), .val (.int (16 : Int32)), .val (.long q3), .second] [(.int (own_hex q3 (4 : Int32))), (.int (30 : Int32)), (.ref a1)]) t → own_S p e below T0 (mkF m 136 #[.val (.ref a1), .val (.int (16 : Int32)), .val (.long q3), .second] []) t := fun t kt => kn17 t (st18 _ kt)
  obtain ⟨cl20, Ar20, q20, Sz20, Ng20, Hs20, Gs20⟩ := id V12
  have hin20 : ¬ ((30 : Int32) < 0 ∨ cl20.slots.size ≤ ((30 : Int32)).toNatClampNeg) := inb_of Sz20 ⟨by decide, by decide⟩
  obtain ⟨T20, h20, X20, e20, W20, st20⟩ := stC X18 hx hZ eq18 Ar20 (j := (30 : Int32)) hin20 (g := (mkF m 170 #[.val (.ref a1), .val (.int (16 : Int32)), .val (.long q3), .second] [(.int (own_hex q3 (4 : Int32))), (.int (30 : Int32)), (.ref a1)])) rfl rfl (hb hby d_method_4_170)
  have Z21 : n0 ≤ h20.size := Nat.le_trans Z13 (Keep.of_wr W20).1
  have K22 : Keep hB h20 [a1] := K14.wr W20 (Or.inl (List.mem_of_getElem? (i := 0) rfl))
  have V20 : Arv Z h20 a1 kk1 .char (48 : Int32) ((.int u0) :: (.int u1) :: (.int u2) :: (.int u3) :: (.int u4) :: (.int u5) :: (.int u6) :: (.int u7) :: (.int u8) :: (.int u9) :: (.int u10) :: (.int u11) :: (.int u12) :: (.int u13) :: (.int u14) :: (.int u15) :: (.int (own_hex q3 (60 : Int32))) :: (.int (own_hex q3 (56 : Int32))) :: (.int (own_hex q3 (52 : Int32))) :: (.int (own_hex q3 (48 : Int32))) :: (.int (own_hex q3 (44 : Int32))) :: (.int (own_hex q3 (40 : Int32))) :: (.int (own_hex q3 (36 : Int32))) :: (.int (own_hex q3 (32 : Int32))) :: (.int (own_hex q3 (28 : Int32))) :: (.int (own_hex q3 (24 : Int32))) :: (.int (own_hex q3 (20 : Int32))) :: (.int (own_hex q3 (16 : Int32))) :: (.int (own_hex q3 (12 : Int32))) :: (.int (own_hex q3 (8 : Int32))) :: (.int ((own_hex q3 (4 : Int32)).toUInt32.toUInt16.toUInt32.toInt32)) :: (.int u31) :: (.int u32) :: (.int u33) :: (.int u34) :: (.int u35) :: (.int u36) :: (.int u37) :: (.int u38) :: (.int u39) :: (.int u40) :: (.int u41) :: (.int u42) :: (.int u43) :: (.int u44) :: (.int u45) :: (.int u46) :: (.int u47) :: []) (.int (0 : Int32)) := Arv.set Ar20 q20 Sz20 Ng20 Hs20 Gs20 (fits_nar_char _) W20 30 rfl (Nat.le_of_ble_eq_true rfl)
  rw [(show ((own_hex q3 (4 : Int32)).toUInt32.toUInt16.toUInt32.toInt32) = (own_hex q3 (4 : Int32)) from (own_hxs _ _).2.2.2.2.1)] at V20
  have Nf23 := Fr.snoc X20 Nf18 g_a1
  have kn24 : ∀ t, own_S p e below T20 (mkF m 171 #[.val (.ref a1), .val (.int (16 : Int32)), .val (.long q3), .second] []) t → own_S p e below T0 (mkF m 136 #[.val (.ref a1), .val (.int (16 : Int32)), .val (.long q3), .second] []) t := fun t kt => kn19 t (st20 _ kt)
  have kn25 : ∀ t, own_S p e below T20 (mkF m 178 #[.val (.ref a1), .val (.int (16 : Int32)), .val (.long q3), .second] [(.int (0 : Int32)), (.long q3), (.int (31 : Int32)), (.ref a1)]) t → own_S p e below T0 (mkF m 136 #[.val (.ref a1), .val (.int (16 : Int32)), .val (.long q3), .second] []) t := fun t kt => kn24 t (by
    show own_S p e below T20 (mkF m 171 #[.val (.ref a1), .val (.int (16 : Int32)), .val (.long q3), .second] []) _
    refine XS.aloadN X20.here hx rfl (hb hby d_method_4_171) rfl rfl ?_
    show own_S p e below T20 (mkF m 172 #[.val (.ref a1), .val (.int (16 : Int32)), .val (.long q3), .second] [(.ref a1)]) _
    refine XS.iloadN X20.here hx rfl (hb hby d_method_4_172) rfl ?_
    show own_S p e below T20 (mkF m 173 #[.val (.ref a1), .val (.int (16 : Int32)), .val (.long q3), .second] [(.int (16 : Int32)), (.ref a1)]) _
    refine XS.bipush X20.here hx rfl (hb hby d_method_4_173) ?_
    show own_S p e below T20 (mkF m 175 #[.val (.ref a1), .val (.int (16 : Int32)), .val (.long q3), .second] [(.int (15 : Int32)), (.int (16 : Int32)), (.ref a1)]) _
    refine XS.iadd X20.here hx rfl (hb hby d_method_4_175) rfl ?_
    rw [(by decide : ((16 : Int32) + (15 : Int32)) = (31 : Int32))]
    show own_S p e below T20 (mkF m 176 #[.val (.ref a1), .val (.int (16 : Int32)), .val (.long q3), .second] [(.int (31 : Int32)), (.ref a1)]) _
    refine XS.lloadN X20.here hx rfl (hb hby d_method_4_176) rfl ?_
    show own_S p e below T20 (mkF m 177 #[.val (.ref a1), .val (.int (16 : Int32)), .val (.long q3), .second] [(.long q3), (.int (31 : Int32)), (.ref a1)]) _
    refine XS.iconst X20.here hx rfl (hb hby d_method_4_177) ?_
    exact kt)
  obtain ⟨_, _, ⟨T26, L26, cc26, ss26⟩, -, X26, ⟨Lc26, hQ26, l26, y26, z26⟩, st26⟩ := Jvm.LawKit.callS X20 hx (y := (⟨"com/example/dual_delivery/dualdelivery/model/ReceiptHandleParsePinLaw", "hexDigit", "(JI)C"⟩ : MethodName)) hown (mvT hZ (hw _ (List.mem_of_getElem? (i := 5) rfl))) (mvT hZ (hw _ (List.mem_of_getElem? (i := 6) rfl))) (mvT hZ (hw _ (List.mem_of_getElem? (i := 3) rfl))) (mvT hZ (hw _ (List.mem_of_getElem? (i := 7) rfl))) (by decide) (backOf (W := 2) (rm2 l Z a0 hw [] q3 (0 : Int32)  h20 n0 Z21 ) hZ (hw _ (List.mem_of_getElem? (i := 7) rfl)) (hw _ (List.mem_of_getElem? (i := 3) rfl)) (by decide) (by decide)) (g := (mkF m 178 #[.val (.ref a1), .val (.int (16 : Int32)), .val (.long q3), .second] [(.int (0 : Int32)), (.long q3), (.int (31 : Int32)), (.ref a1)])) rfl (by rw [hml]; rfl) (argsL := [(.long q3), (.int (0 : Int32))]) (rest := [(.int (31 : Int32)), (.ref a1)]) (lenOf pd_0 rfl) rfl (by show 2 * 0 + _ ≤ _; exact Nat.le_of_eq rfl) (hb hby d_method_4_178) (fun _ _ => ⟨rfl, e20, (by decide : 0 + 0 ≤ _), (by decide : 0 + 0 ≤ _)⟩)
  dsimp only [Pt.U, Pt.locs, Pt.cells, Pt.slots] at X26 l26 y26 z26 st26 hQ26
  subst l26 y26 z26
  have X26 : Stand p l e _ _ m _ below meth c T26 _ 0 0 := X26
  obtain ⟨rfl, Nq26, eq26⟩ := hQ26
  have Nf26 := Fr.app Nf23 Nq26
  have kn27 : ∀ t, own_S p e below T26 (mkF m 181 #[.val (.ref a1), .val (.int (16 : Int32)), .val (.long q3), .second] [(.int (own_hex q3 (0 : Int32))), (.int (31 : Int32)), (.ref a1)]) t → own_S p e below T0 (mkF m 136 #[.val (.ref a1), .val (.int (16 : Int32)), .val (.long q3), .second] []) t := fun t kt => kn25 t (st26 _ kt)
  obtain ⟨cl28, Ar28, q28, Sz28, Ng28, Hs28, Gs28⟩ := id V20
  have hin28 : ¬ ((31 : Int32) < 0 ∨ cl28.slots.size ≤ ((31 : Int32)).toNatClampNeg) := inb_of Sz28 ⟨by decide, by decide⟩
  obtain ⟨T28, h28, X28, e28, W28, st28⟩ := stC X26 hx hZ eq26 Ar28 (j := (31 : Int32)) hin28 (g := (mkF m 181 #[.val (.ref a1), .val (.int (16 : Int32)), .val (.long q3), .second] [(.int (own_hex q3 (0 : Int32))), (.int (31 : Int32)), (.ref a1)])) rfl rfl (hb hby d_method_4_181)
  have Z29 : n0 ≤ h28.size := Nat.le_trans Z21 (Keep.of_wr W28).1
  have K30 : Keep hB h28 [a1] := K22.wr W28 (Or.inl (List.mem_of_getElem? (i := 0) rfl))
  have V28 : Arv Z h28 a1 kk1 .char (48 : Int32) ((.int u0) :: (.int u1) :: (.int u2) :: (.int u3) :: (.int u4) :: (.int u5) :: (.int u6) :: (.int u7) :: (.int u8) :: (.int u9) :: (.int u10) :: (.int u11) :: (.int u12) :: (.int u13) :: (.int u14) :: (.int u15) :: (.int (own_hex q3 (60 : Int32))) :: (.int (own_hex q3 (56 : Int32))) :: (.int (own_hex q3 (52 : Int32))) :: (.int (own_hex q3 (48 : Int32))) :: (.int (own_hex q3 (44 : Int32))) :: (.int (own_hex q3 (40 : Int32))) :: (.int (own_hex q3 (36 : Int32))) :: (.int (own_hex q3 (32 : Int32))) :: (.int (own_hex q3 (28 : Int32))) :: (.int (own_hex q3 (24 : Int32))) :: (.int (own_hex q3 (20 : Int32))) :: (.int (own_hex q3 (16 : Int32))) :: (.int (own_hex q3 (12 : Int32))) :: (.int (own_hex q3 (8 : Int32))) :: (.int (own_hex q3 (4 : Int32))) :: (.int ((own_hex q3 (0 : Int32)).toUInt32.toUInt16.toUInt32.toInt32)) :: (.int u32) :: (.int u33) :: (.int u34) :: (.int u35) :: (.int u36) :: (.int u37) :: (.int u38) :: (.int u39) :: (.int u40) :: (.int u41) :: (.int u42) :: (.int u43) :: (.int u44) :: (.int u45) :: (.int u46) :: (.int u47) :: []) (.int (0 : Int32)) := Arv.set Ar28 q28 Sz28 Ng28 Hs28 Gs28 (fits_nar_char _) W28 31 rfl (Nat.le_of_ble_eq_true rfl)
  rw [(show ((own_hex q3 (0 : Int32)).toUInt32.toUInt16.toUInt32.toInt32) = (own_hex q3 (0 : Int32)) from (own_hxs _ _).2.2.2.2.1)] at V28
  have Nf31 := Fr.snoc X28 Nf26 g_a1
  have kn32 : ∀ t, own_S p e below T28 (mkF m 182 #[.val (.ref a1), .val (.int (16 : Int32)), .val (.long q3), .second] []) t → own_S p e below T0 (mkF m 136 #[.val (.ref a1), .val (.int (16 : Int32)), .val (.long q3), .second] []) t := fun t kt => kn27 t (st28 _ kt)
  obtain ⟨fs, hr, hrun, hended, hW, hsame⟩ := X28.leave (v := none) (fun _ => rfl)
  refine ⟨_, _, id (kn32 _ (X28.returnOut hx hret (hb hby d_method_4_182) hr)), hrun, hended, _, _, rfl, ?_, ⟨_, rfl⟩, hW, hsame.mono (by decide) (by decide)⟩
  show Q1_16 Z a1 q3 kk1 u0 u1 u2 u3 u4 u5 u6 u7 u8 u9 u10 u11 u12 u13 u14 u15 u16 u17 u18 u19 u20 u21 u22 u23 u24 u25 u26 u27 u28 u29 u30 u31 u32 u33 u34 u35 u36 u37 u38 u39 u40 u41 u42 u43 u44 u45 u46 u47 hB h0 n0 _ T28.heap _
  rw [e28]
  exact ⟨rfl, Nf31, K30, V28⟩

set_option maxRecDepth 65536 in
set_option maxHeartbeats 40000000 in
theorem tlp_16_2 {p : Program} {l : Launch} {e : Env} {s : State} {m : MethodId} {args : Array Value} {below : List Frame} {meth : Method} {c : Code} {T0 : State} {locs : List Loc} {Z : State} {a0 : Array Value} {h0 : Heap} {n0 : Nat} (a1 : Addr) (q3 : Int64) (kk1 : ClassId) (u0 : Int32) (u1 : Int32) (u2 : Int32) (u3 : Int32) (u4 : Int32) (u5 : Int32) (u6 : Int32) (u7 : Int32) (u8 : Int32) (u9 : Int32) (u10 : Int32) (u11 : Int32) (u12 : Int32) (u13 : Int32) (u14 : Int32) (u15 : Int32) (u16 : Int32) (u17 : Int32) (u18 : Int32) (u19 : Int32) (u20 : Int32) (u21 : Int32) (u22 : Int32) (u23 : Int32) (u24 : Int32) (u25 : Int32) (u26 : Int32) (u27 : Int32) (u28 : Int32) (u29 : Int32) (u30 : Int32) (u31 : Int32) (u32 : Int32) (u33 : Int32) (u34 : Int32) (u35 : Int32) (u36 : Int32) (u37 : Int32) (u38 : Int32) (u39 : Int32) (u40 : Int32) (u41 : Int32) (u42 : Int32) (u43 : Int32) (u44 : Int32) (u45 : Int32) (u46 : Int32) (u47 : Int32) (hB : Heap)
    (X0 : Stand p l e ({ frames := 1, cells := 0, slots := 0, locals := 17 } : Room) s m args below meth c T0 locs 0 0) (hx : p.tables.exec = Jvm.exec) (hZ : Z.Warmed39 s.vm) (hw : ∀ d ∈ tables_1, d.before a0 Z = true) (hby : c.code = method_4_code) (hml : c.maxLocals = 4) (hown : s.vm.findClass "com/example/dual_delivery/dualdelivery/model/ReceiptHandleParsePinLaw" = some m.cls) (hret : meth.sig.returnType = none) (hlk : meth.locks = false) (e0 : T0.heap = h0) (Nf0 : Fr n0 locs) (Z0 : n0 ≤ h0.size) (V1 : Arv Z h0 a1 kk1 .char (48 : Int32) ((.int u0) :: (.int u1) :: (.int u2) :: (.int u3) :: (.int u4) :: (.int u5) :: (.int u6) :: (.int u7) :: (.int u8) :: (.int u9) :: (.int u10) :: (.int u11) :: (.int u12) :: (.int u13) :: (.int u14) :: (.int u15) :: (.int (own_hex q3 (60 : Int32))) :: (.int (own_hex q3 (56 : Int32))) :: (.int (own_hex q3 (52 : Int32))) :: (.int (own_hex q3 (48 : Int32))) :: (.int (own_hex q3 (44 : Int32))) :: (.int (own_hex q3 (40 : Int32))) :: (.int (own_hex q3 (36 : Int32))) :: (.int (own_hex q3 (32 : Int32))) :: (.int u24) :: (.int u25) :: (.int u26) :: (.int u27) :: (.int u28) :: (.int u29) :: (.int u30) :: (.int u31) :: (.int u32) :: (.int u33) :: (.int u34) :: (.int u35) :: (.int u36) :: (.int u37) :: (.int u38) :: (.int u39) :: (.int u40) :: (.int u41) :: (.int u42) :: (.int u43) :: (.int u44) :: (.int u45) :: (.int u46) :: (.int u47) :: []) (.int (0 : Int32))) (KB : Keep hB h0 [a1]) (g_a1 : n0 ≤ a1) :
    ∃ s₂ o, Steps p.tables e below (T0.setTop (mkF m 88 #[.val (.ref a1), .val (.int (16 : Int32)), .val (.long q3), .second] [])) s₂ ∧ s₂.status = .running ∧ Ended s₂ below o ∧ ∃ v L, o = .returned v ∧ Q1_16 Z a1 q3 kk1 u0 u1 u2 u3 u4 u5 u6 u7 u8 u9 u10 u11 u12 u13 u14 u15 u16 u17 u18 u19 u20 u21 u22 u23 u24 u25 u26 u27 u28 u29 u30 u31 u32 u33 u34 u35 u36 u37 u38 u39 u40 u41 u42 u43 u44 u45 u46 u47 hB h0 n0 v s₂.heap L ∧ FrameEnd s o s₂ L ({ frames := 1, cells := 0, slots := 0, locals := 17 } : Room).cells ({ frames := 1, cells := 0, slots := 0, locals := 17 } : Room).slots := by
  have kn0 : ∀ t, own_S p e below T0 (mkF m 88 #[.val (.ref a1), .val (.int (16 : Int32)), .val (.long q3), .second] []) t → own_S p e below T0 (mkF m 88 #[.val (.ref a1), .val (.int (16 : Int32)), .val (.long q3), .second] []) t := fun t k => k
  have kn1 : ∀ t, own_S p e below T0 (mkF m 96 #[.val (.ref a1), .val (.int (16 : Int32)), .val (.long q3), .second] [(.int (28 : Int32)), (.long q3), (.int (24 : Int32)), (.ref a1)]) t → own_S p e below T0 (mkF m 88 #[.val (.ref a1), .val (.int (16 : Int32)), .val (.long q3), .second] []) t := fun t kt => kn0 t (by
    show own_S p e below T0 (mkF m 88 #[.val (.ref a1), .val (.int (16 : Int32)), .val (.long q3), .second] []) _
    refine XS.aloadN X0.here hx rfl (hb hby d_method_4_88) rfl rfl ?_
    show own_S p e below T0 (mkF m 89 #[.val (.ref a1), .val (.int (16 : Int32)), .val (.long q3), .second] [(.ref a1)]) _
    refine XS.iloadN X0.here hx rfl (hb hby d_method_4_89) rfl ?_
    show own_S p e below T0 (mkF m 90 #[.val (.ref a1), .val (.int (16 : Int32)), .val (.long q3), .second] [(.int (16 : Int32)), (.ref a1)]) _
    refine XS.bipush X0.here hx rfl (hb hby d_method_4_90) ?_
    show own_S p e below T0 (mkF m 92 #[.val (.ref a1), .val (.int (16 : Int32)), .val (.long q3), .second] [(.int (8 : Int32)), (.int (16 : Int32)), (.ref a1)]) _
    refine XS.iadd X0.here hx rfl (hb hby d_method_4_92) rfl ?_
    rw [(by decide : ((16 : Int32) + (8 : Int32)) = (24 : Int32))]
    show own_S p e below T0 (mkF m 93 #[.val (.ref a1), .val (.int (16 : Int32)), .val (.long q3), .second] [(.int (24 : Int32)), (.ref a1)]) _
    refine XS.lloadN X0.here hx rfl (hb hby d_method_4_93) rfl ?_
    show own_S p e below T0 (mkF m 94 #[.val (.ref a1), .val (.int (16 : Int32)), .val (.long q3), .second] [(.long q3), (.int (24 : Int32)), (.ref a1)]) _
    refine XS.bipush X0.here hx rfl (hb hby d_method_4_94) ?_
    exact kt)
  obtain ⟨_, _, ⟨T2, L2, cc2, ss2⟩, -, X2, ⟨Lc2, hQ2, l2, y2, z2⟩, st2⟩ := Jvm.LawKit.callS X0 hx (y := (⟨"com/example/dual_delivery/dualdelivery/model/ReceiptHandleParsePinLaw", "hexDigit", "(JI)C"⟩ : MethodName)) hown (mvT hZ (hw _ (List.mem_of_getElem? (i := 5) rfl))) (mvT hZ (hw _ (List.mem_of_getElem? (i := 6) rfl))) (mvT hZ (hw _ (List.mem_of_getElem? (i := 3) rfl))) (mvT hZ (hw _ (List.mem_of_getElem? (i := 7) rfl))) (by decide) (backOf (W := 2) (rm2 l Z a0 hw [] q3 (28 : Int32)  h0 n0 Z0 ) hZ (hw _ (List.mem_of_getElem? (i := 7) rfl)) (hw _ (List.mem_of_getElem? (i := 3) rfl)) (by decide) (by decide)) (g := (mkF m 96 #[.val (.ref a1), .val (.int (16 : Int32)), .val (.long q3), .second] [(.int (28 : Int32)), (.long q3), (.int (24 : Int32)), (.ref a1)])) rfl (by rw [hml]; rfl) (argsL := [(.long q3), (.int (28 : Int32))]) (rest := [(.int (24 : Int32)), (.ref a1)]) (lenOf pd_0 rfl) rfl (by show 2 * 0 + _ ≤ _; exact Nat.le_of_eq rfl) (hb hby d_method_4_96) (fun _ _ => ⟨rfl, e0, (by decide : 0 + 0 ≤ _), (by decide : 0 + 0 ≤ _)⟩)
  dsimp only [Pt.U, Pt.locs, Pt.cells, Pt.slots] at X2 l2 y2 z2 st2 hQ2
  subst l2 y2 z2
  have X2 : Stand p l e _ _ m _ below meth c T2 _ 0 0 := X2
  obtain ⟨rfl, Nq2, eq2⟩ := hQ2
  have Nf2 := Fr.app Nf0 Nq2
  have kn3 : ∀ t, own_S p e below T2 (mkF m 99 #[.val (.ref a1), .val (.int (16 : Int32)), .val (.long q3), .second] [(.int (own_hex q3 (28 : Int32))), (.int (24 : Int32)), (.ref a1)]) t → own_S p e below T0 (mkF m 88 #[.val (.ref a1), .val (.int (16 : Int32)), .val (.long q3), .second] []) t := fun t kt => kn1 t (st2 _ kt)
  obtain ⟨cl4, Ar4, q4, Sz4, Ng4, Hs4, Gs4⟩ := id V1
  have hin4 : ¬ ((24 : Int32) < 0 ∨ cl4.slots.size ≤ ((24 : Int32)).toNatClampNeg) := inb_of Sz4 ⟨by decide, by decide⟩
  obtain ⟨T4, h4, X4, e4, W4, st4⟩ := stC X2 hx hZ eq2 Ar4 (j := (24 : Int32)) hin4 (g := (mkF m 99 #[.val (.ref a1), .val (.int (16 : Int32)), .val (.long q3), .second] [(.int (own_hex q3 (28 : Int32))), (.int (24 : Int32)), (.ref a1)])) rfl rfl (hb hby d_method_4_99)
  have Z5 : n0 ≤ h4.size := Nat.le_trans Z0 (Keep.of_wr W4).1
  have K6 : Keep hB h4 [a1] := KB.wr W4 (Or.inl (List.mem_of_getElem? (i := 0) rfl))
  have V4 : Arv Z h4 a1 kk1 .char (48 : Int32) ((.int u0) :: (.int u1) :: (.int u2) :: (.int u3) :: (.int u4) :: (.int u5) :: (.int u6) :: (.int u7) :: (.int u8) :: (.int u9) :: (.int u10) :: (.int u11) :: (.int u12) :: (.int u13) :: (.int u14) :: (.int u15) :: (.int (own_hex q3 (60 : Int32))) :: (.int (own_hex q3 (56 : Int32))) :: (.int (own_hex q3 (52 : Int32))) :: (.int (own_hex q3 (48 : Int32))) :: (.int (own_hex q3 (44 : Int32))) :: (.int (own_hex q3 (40 : Int32))) :: (.int (own_hex q3 (36 : Int32))) :: (.int (own_hex q3 (32 : Int32))) :: (.int ((own_hex q3 (28 : Int32)).toUInt32.toUInt16.toUInt32.toInt32)) :: (.int u25) :: (.int u26) :: (.int u27) :: (.int u28) :: (.int u29) :: (.int u30) :: (.int u31) :: (.int u32) :: (.int u33) :: (.int u34) :: (.int u35) :: (.int u36) :: (.int u37) :: (.int u38) :: (.int u39) :: (.int u40) :: (.int u41) :: (.int u42) :: (.int u43) :: (.int u44) :: (.int u45) :: (.int u46) :: (.int u47) :: []) (.int (0 : Int32)) := Arv.set Ar4 q4 Sz4 Ng4 Hs4 Gs4 (fits_nar_char _) W4 24 rfl (Nat.le_of_ble_eq_true rfl)
  rw [(show ((own_hex q3 (28 : Int32)).toUInt32.toUInt16.toUInt32.toInt32) = (own_hex q3 (28 : Int32)) from (own_hxs _ _).2.2.2.2.1)] at V4
  have Nf7 := Fr.snoc X4 Nf2 g_a1
  have kn8 : ∀ t, own_S p e below T4 (mkF m 100 #[.val (.ref a1), .val (.int (16 : Int32)), .val (.long q3), .second] []) t → own_S p e below T0 (mkF m 88 #[.val (.ref a1), .val (.int (16 : Int32)), .val (.long q3), .second] []) t := fun t kt => kn3 t (st4 _ kt)
  have kn9 : ∀ t, own_S p e below T4 (mkF m 108 #[.val (.ref a1), .val (.int (16 : Int32)), .val (.long q3), .second] [(.int (24 : Int32)), (.long q3), (.int (25 : Int32)), (.ref a1)]) t → own_S p e below T0 (mkF m 88 #[.val (.ref a1), .val (.int (16 : Int32)), .val (.long q3), .second] []) t := fun t kt => kn8 t (by
    show own_S p e below T4 (mkF m 100 #[.val (.ref a1), .val (.int (16 : Int32)), .val (.long q3), .second] []) _
    refine XS.aloadN X4.here hx rfl (hb hby d_method_4_100) rfl rfl ?_
    show own_S p e below T4 (mkF m 101 #[.val (.ref a1), .val (.int (16 : Int32)), .val (.long q3), .second] [(.ref a1)]) _
    refine XS.iloadN X4.here hx rfl (hb hby d_method_4_101) rfl ?_
    show own_S p e below T4 (mkF m 102 #[.val (.ref a1), .val (.int (16 : Int32)), .val (.long q3), .second] [(.int (16 : Int32)), (.ref a1)]) _
    refine XS.bipush X4.here hx rfl (hb hby d_method_4_102) ?_
    show own_S p e below T4 (mkF m 104 #[.val (.ref a1), .val (.int (16 : Int32)), .val (.long q3), .second] [(.int (9 : Int32)), (.int (16 : Int32)), (.ref a1)]) _
    refine XS.iadd X4.here hx rfl (hb hby d_method_4_104) rfl ?_
    rw [(by decide : ((16 : Int32) + (9 : Int32)) = (25 : Int32))]
    show own_S p e below T4 (mkF m 105 #[.val (.ref a1), .val (.int (16 : Int32)), .val (.long q3), .second] [(.int (25 : Int32)), (.ref a1)]) _
    refine XS.lloadN X4.here hx rfl (hb hby d_method_4_105) rfl ?_
    show own_S p e below T4 (mkF m 106 #[.val (.ref a1), .val (.int (16 : Int32)), .val (.long q3), .second] [(.long q3), (.int (25 : Int32)), (.ref a1)]) _
    refine XS.bipush X4.here hx rfl (hb hby d_method_4_106) ?_
    exact kt)
  obtain ⟨_, _, ⟨T10, L10, cc10, ss10⟩, -, X10, ⟨Lc10, hQ10, l10, y10, z10⟩, st10⟩ := Jvm.LawKit.callS X4 hx (y := (⟨"com/example/dual_delivery/dualdelivery/model/ReceiptHandleParsePinLaw", "hexDigit", "(JI)C"⟩ : MethodName)) hown (mvT hZ (hw _ (List.mem_of_getElem? (i := 5) rfl))) (mvT hZ (hw _ (List.mem_of_getElem? (i := 6) rfl))) (mvT hZ (hw _ (List.mem_of_getElem? (i := 3) rfl))) (mvT hZ (hw _ (List.mem_of_getElem? (i := 7) rfl))) (by decide) (backOf (W := 2) (rm2 l Z a0 hw [] q3 (24 : Int32)  h4 n0 Z5 ) hZ (hw _ (List.mem_of_getElem? (i := 7) rfl)) (hw _ (List.mem_of_getElem? (i := 3) rfl)) (by decide) (by decide)) (g := (mkF m 108 #[.val (.ref a1), .val (.int (16 : Int32)), .val (.long q3), .second] [(.int (24 : Int32)), (.long q3), (.int (25 : Int32)), (.ref a1)])) rfl (by rw [hml]; rfl) (argsL := [(.long q3), (.int (24 : Int32))]) (rest := [(.int (25 : Int32)), (.ref a1)]) (lenOf pd_0 rfl) rfl (by show 2 * 0 + _ ≤ _; exact Nat.le_of_eq rfl) (hb hby d_method_4_108) (fun _ _ => ⟨rfl, e4, (by decide : 0 + 0 ≤ _), (by decide : 0 + 0 ≤ _)⟩)
  dsimp only [Pt.U, Pt.locs, Pt.cells, Pt.slots] at X10 l10 y10 z10 st10 hQ10
  subst l10 y10 z10
  have X10 : Stand p l e _ _ m _ below meth c T10 _ 0 0 := X10
  obtain ⟨rfl, Nq10, eq10⟩ := hQ10
  have Nf10 := Fr.app Nf7 Nq10
  have kn11 : ∀ t, own_S p e below T10 (mkF m 111 #[.val (.ref a1), .val (.int (16 : Int32)), .val (.long q3), .second] [(.int (own_hex q3 (24 : Int32))), (.int (25 : Int32)), (.ref a1)]) t → own_S p e below T0 (mkF m 88 #[.val (.ref a1), .val (.int (16 : Int32)), .val (.long q3), .second] []) t := fun t kt => kn9 t (st10 _ kt)
  obtain ⟨cl12, Ar12, q12, Sz12, Ng12, Hs12, Gs12⟩ := id V4
  have hin12 : ¬ ((25 : Int32) < 0 ∨ cl12.slots.size ≤ ((25 : Int32)).toNatClampNeg) := inb_of Sz12 ⟨by decide, by decide⟩
  obtain ⟨T12, h12, X12, e12, W12, st12⟩ := stC X10 hx hZ eq10 Ar12 (j := (25 : Int32)) hin12 (g := (mkF m 111 #[.val (.ref a1), .val (.int (16 : Int32)), .val (.long q3), .second] [(.int (own_hex q3 (24 : Int32))), (.int (25 : Int32)), (.ref a1)])) rfl rfl (hb hby d_method_4_111)
  have Z13 : n0 ≤ h12.size := Nat.le_trans Z5 (Keep.of_wr W12).1
  have K14 : Keep hB h12 [a1] := K6.wr W12 (Or.inl (List.mem_of_getElem? (i := 0) rfl))
  have V12 : Arv Z h12 a1 kk1 .char (48 : Int32) ((.int u0) :: (.int u1) :: (.int u2) :: (.int u3) :: (.int u4) :: (.int u5) :: (.int u6) :: (.int u7) :: (.int u8) :: (.int u9) :: (.int u10) :: (.int u11) :: (.int u12) :: (.int u13) :: (.int u14) :: (.int u15) :: (.int (own_hex q3 (60 : Int32))) :: (.int (own_hex q3 (56 : Int32))) :: (.int (own_hex q3 (52 : Int32))) :: (.int (own_hex q3 (48 : Int32))) :: (.int (own_hex q3 (44 : Int32))) :: (.int (own_hex q3 (40 : Int32))) :: (.int (own_hex q3 (36 : Int32))) :: (.int (own_hex q3 (32 : Int32))) :: (.int (own_hex q3 (28 : Int32))) :: (.int ((own_hex q3 (24 : Int32)).toUInt32.toUInt16.toUInt32.toInt32)) :: (.int u26) :: (.int u27) :: (.int u28) :: (.int u29) :: (.int u30) :: (.int u31) :: (.int u32) :: (.int u33) :: (.int u34) :: (.int u35) :: (.int u36) :: (.int u37) :: (.int u38) :: (.int u39) :: (.int u40) :: (.int u41) :: (.int u42) :: (.int u43) :: (.int u44) :: (.int u45) :: (.int u46) :: (.int u47) :: []) (.int (0 : Int32)) := Arv.set Ar12 q12 Sz12 Ng12 Hs12 Gs12 (fits_nar_char _) W12 25 rfl (Nat.le_of_ble_eq_true rfl)
  rw [(show ((own_hex q3 (24 : Int32)).toUInt32.toUInt16.toUInt32.toInt32) = (own_hex q3 (24 : Int32)) from (own_hxs _ _).2.2.2.2.1)] at V12
  have Nf15 := Fr.snoc X12 Nf10 g_a1
  have kn16 : ∀ t, own_S p e below T12 (mkF m 112 #[.val (.ref a1), .val (.int (16 : Int32)), .val (.long q3), .second] []) t → own_S p e below T0 (mkF m 88 #[.val (.ref a1), .val (.int (16 : Int32)), .val (.long q3), .second] []) t := fun t kt => kn11 t (st12 _ kt)
  have kn17 : ∀ t, own_S p e below T12 (mkF m 120 #[.val (.ref a1), .val (.int (16 : Int32)), .val (.long q3), .second] [(.int (20 : Int32)), (.long q3), (.int (26 : Int32)), (.ref a1)]) t → own_S p e below T0 (mkF m 88 #[.val (.ref a1), .val (.int (16 : Int32)), .val (.long q3), .second] []) t := fun t kt => kn16 t (by
    show own_S p e below T12 (mkF m 112 #[.val (.ref a1), .val (.int (16 : Int32)), .val (.long q3), .second] []) _
    refine XS.aloadN X12.here hx rfl (hb hby d_method_4_112) rfl rfl ?_
    show own_S p e below T12 (mkF m 113 #[.val (.ref a1), .val (.int (16 : Int32)), .val (.long q3), .second] [(.ref a1)]) _
    refine XS.iloadN X12.here hx rfl (hb hby d_method_4_113) rfl ?_
    show own_S p e below T12 (mkF m 114 #[.val (.ref a1), .val (.int (16 : Int32)), .val (.long q3), .second] [(.int (16 : Int32)), (.ref a1)]) _
    refine XS.bipush X12.here hx rfl (hb hby d_method_4_114) ?_
    show own_S p e below T12 (mkF m 116 #[.val (.ref a1), .val (.int (16 : Int32)), .val (.long q3), .second] [(.int (10 : Int32)), (.int (16 : Int32)), (.ref a1)]) _
    refine XS.iadd X12.here hx rfl (hb hby d_method_4_116) rfl ?_
    rw [(by decide : ((16 : Int32) + (10 : Int32)) = (26 : Int32))]
    show own_S p e below T12 (mkF m 117 #[.val (.ref a1), .val (.int (16 : Int32)), .val (.long q3), .second] [(.int (26 : Int32)), (.ref a1)]) _
    refine XS.lloadN X12.here hx rfl (hb hby d_method_4_117) rfl ?_
    show own_S p e below T12 (mkF m 118 #[.val (.ref a1), .val (.int (16 : Int32)), .val (.long q3), .second] [(.long q3), (.int (26 : Int32)), (.ref a1)]) _
    refine XS.bipush X12.here hx rfl (hb hby d_method_4_118) ?_
    exact kt)
  obtain ⟨_, _, ⟨T18, L18, cc18, ss18⟩, -, X18, ⟨Lc18, hQ18, l18, y18, z18⟩, st18⟩ := Jvm.LawKit.callS X12 hx (y := (⟨"com/example/dual_delivery/dualdelivery/model/ReceiptHandleParsePinLaw", "hexDigit", "(JI)C"⟩ : MethodName)) hown (mvT hZ (hw _ (List.mem_of_getElem? (i := 5) rfl))) (mvT hZ (hw _ (List.mem_of_getElem? (i := 6) rfl))) (mvT hZ (hw _ (List.mem_of_getElem? (i := 3) rfl))) (mvT hZ (hw _ (List.mem_of_getElem? (i := 7) rfl))) (by decide) (backOf (W := 2) (rm2 l Z a0 hw [] q3 (20 : Int32)  h12 n0 Z13 ) hZ (hw _ (List.mem_of_getElem? (i := 7) rfl)) (hw _ (List.mem_of_getElem? (i := 3) rfl)) (by decide) (by decide)) (g := (mkF m 120 #[.val (.ref a1), .val (.int (16 : Int32)), .val (.long q3), .second] [(.int (20 : Int32)), (.long q3), (.int (26 : Int32)), (.ref a1)])) rfl (by rw [hml]; rfl) (argsL := [(.long q3), (.int (20 : Int32))]) (rest := [(.int (26 : Int32)), (.ref a1)]) (lenOf pd_0 rfl) rfl (by show 2 * 0 + _ ≤ _; exact Nat.le_of_eq rfl) (hb hby d_method_4_120) (fun _ _ => ⟨rfl, e12, (by decide : 0 + 0 ≤ _), (by decide : 0 + 0 ≤ _)⟩)
  dsimp only [Pt.U, Pt.locs, Pt.cells, Pt.slots] at X18 l18 y18 z18 st18 hQ18
  subst l18 y18 z18
  have X18 : Stand p l e _ _ m _ below meth c T18 _ 0 0 := X18
  obtain ⟨rfl, Nq18, eq18⟩ := hQ18
  have Nf18 := Fr.app Nf15 Nq18
  have kn19 : ∀ t, own_S p e below T18 (mkF m 123 #[.val (.ref a1), .val (.int (16 : Int32)), .val (.long q3), .second] [(.int (own_hex q3 (20 : Int32))), (.int (26 : Int32)), (.ref a1)]) t → own_S p e below T0 (mkF m 88 #[.val (.ref a1), .val (.int (16 : Int32)), .val (.long q3), .second] []) t := fun t kt => kn17 t (st18 _ kt)
  obtain ⟨cl20, Ar20, q20, Sz20, Ng20, Hs20, Gs20⟩ := id V12
  have hin20 : ¬ ((26 : Int32) < 0 ∨ cl20.slots.size ≤ ((26 : Int32)).toNatClampNeg) := inb_of Sz20 ⟨by decide, by decide⟩
  obtain ⟨T20, h20, X20, e20, W20, st20⟩ := stC X18 hx hZ eq18 Ar20 (j := (26 : Int32)) hin20 (g := (mkF m 123 #[.val (.ref a1), .val (.int (16 : Int32)), .val (.long q3), .second] [(.int (own_hex q3 (20 : Int32))), (.int (26 : Int32)), (.ref a1)])) rfl rfl (hb hby d_method_4_123)
  have Z21 : n0 ≤ h20.size := Nat.le_trans Z13 (Keep.of_wr W20).1
  have K22 : Keep hB h20 [a1] := K14.wr W20 (Or.inl (List.mem_of_getElem? (i := 0) rfl))
  have V20 : Arv Z h20 a1 kk1 .char (48 : Int32) ((.int u0) :: (.int u1) :: (.int u2) :: (.int u3) :: (.int u4) :: (.int u5) :: (.int u6) :: (.int u7) :: (.int u8) :: (.int u9) :: (.int u10) :: (.int u11) :: (.int u12) :: (.int u13) :: (.int u14) :: (.int u15) :: (.int (own_hex q3 (60 : Int32))) :: (.int (own_hex q3 (56 : Int32))) :: (.int (own_hex q3 (52 : Int32))) :: (.int (own_hex q3 (48 : Int32))) :: (.int (own_hex q3 (44 : Int32))) :: (.int (own_hex q3 (40 : Int32))) :: (.int (own_hex q3 (36 : Int32))) :: (.int (own_hex q3 (32 : Int32))) :: (.int (own_hex q3 (28 : Int32))) :: (.int (own_hex q3 (24 : Int32))) :: (.int ((own_hex q3 (20 : Int32)).toUInt32.toUInt16.toUInt32.toInt32)) :: (.int u27) :: (.int u28) :: (.int u29) :: (.int u30) :: (.int u31) :: (.int u32) :: (.int u33) :: (.int u34) :: (.int u35) :: (.int u36) :: (.int u37) :: (.int u38) :: (.int u39) :: (.int u40) :: (.int u41) :: (.int u42) :: (.int u43) :: (.int u44) :: (.int u45) :: (.int u46) :: (.int u47) :: []) (.int (0 : Int32)) := Arv.set Ar20 q20 Sz20 Ng20 Hs20 Gs20 (fits_nar_char _) W20 26 rfl (Nat.le_of_ble_eq_true rfl)
  rw [(show ((own_hex q3 (20 : Int32)).toUInt32.toUInt16.toUInt32.toInt32) = (own_hex q3 (20 : Int32)) from (own_hxs _ _).2.2.2.2.1)] at V20
  have Nf23 := Fr.snoc X20 Nf18 g_a1
  have kn24 : ∀ t, own_S p e below T20 (mkF m 124 #[.val (.ref a1), .val (.int (16 : Int32)), .val (.long q3), .second] []) t → own_S p e below T0 (mkF m 88 #[.val (.ref a1), .val (.int (16 : Int32)), .val (.long q3), .second] []) t := fun t kt => kn19 t (st20 _ kt)
  have kn25 : ∀ t, own_S p e below T20 (mkF m 132 #[.val (.ref a1), .val (.int (16 : Int32)), .val (.long q3), .second] [(.int (16 : Int32)), (.long q3), (.int (27 : Int32)), (.ref a1)]) t → own_S p e below T0 (mkF m 88 #[.val (.ref a1), .val (.int (16 : Int32)), .val (.long q3), .second] []) t := fun t kt => kn24 t (by
    show own_S p e below T20 (mkF m 124 #[.val (.ref a1), .val (.int (16 : Int32)), .val (.long q3), .second] []) _
    refine XS.aloadN X20.here hx rfl (hb hby d_method_4_124) rfl rfl ?_
    show own_S p e below T20 (mkF m 125 #[.val (.ref a1), .val (.int (16 : Int32)), .val (.long q3), .second] [(.ref a1)]) _
    refine XS.iloadN X20.here hx rfl (hb hby d_method_4_125) rfl ?_
    show own_S p e below T20 (mkF m 126 #[.val (.ref a1), .val (.int (16 : Int32)), .val (.long q3), .second] [(.int (16 : Int32)), (.ref a1)]) _
    refine XS.bipush X20.here hx rfl (hb hby d_method_4_126) ?_
    show own_S p e below T20 (mkF m 128 #[.val (.ref a1), .val (.int (16 : Int32)), .val (.long q3), .second] [(.int (11 : Int32)), (.int (16 : Int32)), (.ref a1)]) _
    refine XS.iadd X20.here hx rfl (hb hby d_method_4_128) rfl ?_
    rw [(by decide : ((16 : Int32) + (11 : Int32)) = (27 : Int32))]
    show own_S p e below T20 (mkF m 129 #[.val (.ref a1), .val (.int (16 : Int32)), .val (.long q3), .second] [(.int (27 : Int32)), (.ref a1)]) _
    refine XS.lloadN X20.here hx rfl (hb hby d_method_4_129) rfl ?_
    show own_S p e below T20 (mkF m 130 #[.val (.ref a1), .val (.int (16 : Int32)), .val (.long q3), .second] [(.long q3), (.int (27 : Int32)), (.ref a1)]) _
    refine XS.bipush X20.here hx rfl (hb hby d_method_4_130) ?_
    exact kt)
  obtain ⟨_, _, ⟨T26, L26, cc26, ss26⟩, -, X26, ⟨Lc26, hQ26, l26, y26, z26⟩, st26⟩ := Jvm.LawKit.callS X20 hx (y := (⟨"com/example/dual_delivery/dualdelivery/model/ReceiptHandleParsePinLaw", "hexDigit", "(JI)C"⟩ : MethodName)) hown (mvT hZ (hw _ (List.mem_of_getElem? (i := 5) rfl))) (mvT hZ (hw _ (List.mem_of_getElem? (i := 6) rfl))) (mvT hZ (hw _ (List.mem_of_getElem? (i := 3) rfl))) (mvT hZ (hw _ (List.mem_of_getElem? (i := 7) rfl))) (by decide) (backOf (W := 2) (rm2 l Z a0 hw [] q3 (16 : Int32)  h20 n0 Z21 ) hZ (hw _ (List.mem_of_getElem? (i := 7) rfl)) (hw _ (List.mem_of_getElem? (i := 3) rfl)) (by decide) (by decide)) (g := (mkF m 132 #[.val (.ref a1), .val (.int (16 : Int32)), .val (.long q3), .second] [(.int (16 : Int32)), (.long q3), (.int (27 : Int32)), (.ref a1)])) rfl (by rw [hml]; rfl) (argsL := [(.long q3), (.int (16 : Int32))]) (rest := [(.int (27 : Int32)), (.ref a1)]) (lenOf pd_0 rfl) rfl (by show 2 * 0 + _ ≤ _; exact Nat.le_of_eq rfl) (hb hby d_method_4_132) (fun _ _ => ⟨rfl, e20, (by decide : 0 + 0 ≤ _), (by decide : 0 + 0 ≤ _)⟩)
  dsimp only [Pt.U, Pt.locs, Pt.cells, Pt.slots] at X26 l26 y26 z26 st26 hQ26
  subst l26 y26 z26
  have X26 : Stand p l e _ _ m _ below meth c T26 _ 0 0 := X26
  obtain ⟨rfl, Nq26, eq26⟩ := hQ26
  have Nf26 := Fr.app Nf23 Nq26
  have kn27 : ∀ t, own_S p e below T26 (mkF m 135 #[.val (.ref a1), .val (.int (16 : Int32)), .val (.long q3), .second] [(.int (own_hex q3 (16 : Int32))), (.int (27 : Int32)), (.ref a1)]) t → own_S p e below T0 (mkF m 88 #[.val (.ref a1), .val (.int (16 : Int32)), .val (.long q3), .second] []) t := fun t kt => kn25 t (st26 _ kt)
  obtain ⟨cl28, Ar28, q28, Sz28, Ng28, Hs28, Gs28⟩ := id V20
  have hin28 : ¬ ((27 : Int32) < 0 ∨ cl28.slots.size ≤ ((27 : Int32)).toNatClampNeg) := inb_of Sz28 ⟨by decide, by decide⟩
  obtain ⟨T28, h28, X28, e28, W28, st28⟩ := stC X26 hx hZ eq26 Ar28 (j := (27 : Int32)) hin28 (g := (mkF m 135 #[.val (.ref a1), .val (.int (16 : Int32)), .val (.long q3), .second] [(.int (own_hex q3 (16 : Int32))), (.int (27 : Int32)), (.ref a1)])) rfl rfl (hb hby d_method_4_135)
  have Z29 : n0 ≤ h28.size := Nat.le_trans Z21 (Keep.of_wr W28).1
  have K30 : Keep hB h28 [a1] := K22.wr W28 (Or.inl (List.mem_of_getElem? (i := 0) rfl))
  have V28 : Arv Z h28 a1 kk1 .char (48 : Int32) ((.int u0) :: (.int u1) :: (.int u2) :: (.int u3) :: (.int u4) :: (.int u5) :: (.int u6) :: (.int u7) :: (.int u8) :: (.int u9) :: (.int u10) :: (.int u11) :: (.int u12) :: (.int u13) :: (.int u14) :: (.int u15) :: (.int (own_hex q3 (60 : Int32))) :: (.int (own_hex q3 (56 : Int32))) :: (.int (own_hex q3 (52 : Int32))) :: (.int (own_hex q3 (48 : Int32))) :: (.int (own_hex q3 (44 : Int32))) :: (.int (own_hex q3 (40 : Int32))) :: (.int (own_hex q3 (36 : Int32))) :: (.int (own_hex q3 (32 : Int32))) :: (.int (own_hex q3 (28 : Int32))) :: (.int (own_hex q3 (24 : Int32))) :: (.int (own_hex q3 (20 : Int32))) :: (.int ((own_hex q3 (16 : Int32)).toUInt32.toUInt16.toUInt32.toInt32)) :: (.int u28) :: (.int u29) :: (.int u30) :: (.int u31) :: (.int u32) :: (.int u33) :: (.int u34) :: (.int u35) :: (.int u36) :: (.int u37) :: (.int u38) :: (.int u39) :: (.int u40) :: (.int u41) :: (.int u42) :: (.int u43) :: (.int u44) :: (.int u45) :: (.int u46) :: (.int u47) :: []) (.int (0 : Int32)) := Arv.set Ar28 q28 Sz28 Ng28 Hs28 Gs28 (fits_nar_char _) W28 27 rfl (Nat.le_of_ble_eq_true rfl)
  rw [(show ((own_hex q3 (16 : Int32)).toUInt32.toUInt16.toUInt32.toInt32) = (own_hex q3 (16 : Int32)) from (own_hxs _ _).2.2.2.2.1)] at V28
  have Nf31 := Fr.snoc X28 Nf26 g_a1
  have kn32 : ∀ t, own_S p e below T28 (mkF m 136 #[.val (.ref a1), .val (.int (16 : Int32)), .val (.long q3), .second] []) t → own_S p e below T0 (mkF m 88 #[.val (.ref a1), .val (.int (16 : Int32)), .val (.long q3), .second] []) t := fun t kt => kn27 t (st28 _ kt)
  obtain ⟨s2, o2, t1, t2, t3, t4⟩ := tlp_16_3 (n0 := n0) a1 q3 kk1 u0 u1 u2 u3 u4 u5 u6 u7 u8 u9 u10 u11 u12 u13 u14 u15 u16 u17 u18 u19 u20 u21 u22 u23 u24 u25 u26 u27 u28 u29 u30 u31 u32 u33 u34 u35 u36 u37 u38 u39 u40 u41 u42 u43 u44 u45 u46 u47 hB  X28 hx hZ hw hby hml hown hret hlk e28 Nf31 Z29 V28 K30 g_a1
  exact ⟨s2, o2, id (kn32 _ t1), t2, t3, t4⟩

set_option maxRecDepth 65536 in
set_option maxHeartbeats 40000000 in
theorem tlp_16_1 {p : Program} {l : Launch} {e : Env} {s : State} {m : MethodId} {args : Array Value} {below : List Frame} {meth : Method} {c : Code} {T0 : State} {locs : List Loc} {Z : State} {a0 : Array Value} {h0 : Heap} {n0 : Nat} (a1 : Addr) (q3 : Int64) (kk1 : ClassId) (u0 : Int32) (u1 : Int32) (u2 : Int32) (u3 : Int32) (u4 : Int32) (u5 : Int32) (u6 : Int32) (u7 : Int32) (u8 : Int32) (u9 : Int32) (u10 : Int32) (u11 : Int32) (u12 : Int32) (u13 : Int32) (u14 : Int32) (u15 : Int32) (u16 : Int32) (u17 : Int32) (u18 : Int32) (u19 : Int32) (u20 : Int32) (u21 : Int32) (u22 : Int32) (u23 : Int32) (u24 : Int32) (u25 : Int32) (u26 : Int32) (u27 : Int32) (u28 : Int32) (u29 : Int32) (u30 : Int32) (u31 : Int32) (u32 : Int32) (u33 : Int32) (u34 : Int32) (u35 : Int32) (u36 : Int32) (u37 : Int32) (u38 : Int32) (u39 : Int32) (u40 : Int32) (u41 : Int32) (u42 : Int32) (u43 : Int32) (u44 : Int32) (u45 : Int32) (u46 : Int32) (u47 : Int32) (hB : Heap)
    (X0 : Stand p l e ({ frames := 1, cells := 0, slots := 0, locals := 17 } : Room) s m args below meth c T0 locs 0 0) (hx : p.tables.exec = Jvm.exec) (hZ : Z.Warmed39 s.vm) (hw : ∀ d ∈ tables_1, d.before a0 Z = true) (hby : c.code = method_4_code) (hml : c.maxLocals = 4) (hown : s.vm.findClass "com/example/dual_delivery/dualdelivery/model/ReceiptHandleParsePinLaw" = some m.cls) (hret : meth.sig.returnType = none) (hlk : meth.locks = false) (e0 : T0.heap = h0) (Nf0 : Fr n0 locs) (Z0 : n0 ≤ h0.size) (V1 : Arv Z h0 a1 kk1 .char (48 : Int32) ((.int u0) :: (.int u1) :: (.int u2) :: (.int u3) :: (.int u4) :: (.int u5) :: (.int u6) :: (.int u7) :: (.int u8) :: (.int u9) :: (.int u10) :: (.int u11) :: (.int u12) :: (.int u13) :: (.int u14) :: (.int u15) :: (.int (own_hex q3 (60 : Int32))) :: (.int (own_hex q3 (56 : Int32))) :: (.int (own_hex q3 (52 : Int32))) :: (.int (own_hex q3 (48 : Int32))) :: (.int u20) :: (.int u21) :: (.int u22) :: (.int u23) :: (.int u24) :: (.int u25) :: (.int u26) :: (.int u27) :: (.int u28) :: (.int u29) :: (.int u30) :: (.int u31) :: (.int u32) :: (.int u33) :: (.int u34) :: (.int u35) :: (.int u36) :: (.int u37) :: (.int u38) :: (.int u39) :: (.int u40) :: (.int u41) :: (.int u42) :: (.int u43) :: (.int u44) :: (.int u45) :: (.int u46) :: (.int u47) :: []) (.int (0 : Int32))) (KB : Keep hB h0 [a1]) (g_a1 : n0 ≤ a1) :
    ∃ s₂ o, Steps p.tables e below (T0.setTop (mkF m 42 #[.val (.ref a1), .val (.int (16 : Int32)), .val (.long q3), .second] [])) s₂ ∧ s₂.status = .running ∧ Ended s₂ below o ∧ ∃ v L, o = .returned v ∧ Q1_16 Z a1 q3 kk1 u0 u1 u2 u3 u4 u5 u6 u7 u8 u9 u10 u11 u12 u13 u14 u15 u16 u17 u18 u19 u20 u21 u22 u23 u24 u25 u26 u27 u28 u29 u30 u31 u32 u33 u34 u35 u36 u37 u38 u39 u40 u41 u42 u43 u44 u45 u46 u47 hB h0 n0 v s₂.heap L ∧ FrameEnd s o s₂ L ({ frames := 1, cells := 0, slots := 0, locals := 17 } : Room).cells ({ frames := 1, cells := 0, slots := 0, locals := 17 } : Room).slots := by
  have kn0 : ∀ t, own_S p e below T0 (mkF m 42 #[.val (.ref a1), .val (.int (16 : Int32)), .val (.long q3), .second] []) t → own_S p e below T0 (mkF m 42 #[.val (.ref a1), .val (.int (16 : Int32)), .val (.long q3), .second] []) t := fun t k => k
  have kn1 : ∀ t, own_S p e below T0 (mkF m 49 #[.val (.ref a1), .val (.int (16 : Int32)), .val (.long q3), .second] [(.int (44 : Int32)), (.long q3), (.int (20 : Int32)), (.ref a1)]) t → own_S p e below T0 (mkF m 42 #[.val (.ref a1), .val (.int (16 : Int32)), .val (.long q3), .second] []) t := fun t kt => kn0 t (by
    show own_S p e below T0 (mkF m 42 #[.val (.ref a1), .val (.int (16 : Int32)), .val (.long q3), .second] []) _
    refine XS.aloadN X0.here hx rfl (hb hby d_method_4_42) rfl rfl ?_
    show own_S p e below T0 (mkF m 43 #[.val (.ref a1), .val (.int (16 : Int32)), .val (.long q3), .second] [(.ref a1)]) _
    refine XS.iloadN X0.here hx rfl (hb hby d_method_4_43) rfl ?_
    show own_S p e below T0 (mkF m 44 #[.val (.ref a1), .val (.int (16 : Int32)), .val (.long q3), .second] [(.int (16 : Int32)), (.ref a1)]) _
    refine XS.iconst X0.here hx rfl (hb hby d_method_4_44) ?_
    show own_S p e below T0 (mkF m 45 #[.val (.ref a1), .val (.int (16 : Int32)), .val (.long q3), .second] [(.int (4 : Int32)), (.int (16 : Int32)), (.ref a1)]) _
    refine XS.iadd X0.here hx rfl (hb hby d_method_4_45) rfl ?_
    rw [(by decide : ((16 : Int32) + (4 : Int32)) = (20 : Int32))]
    show own_S p e below T0 (mkF m 46 #[.val (.ref a1), .val (.int (16 : Int32)), .val (.long q3), .second] [(.int (20 : Int32)), (.ref a1)]) _
    refine XS.lloadN X0.here hx rfl (hb hby d_method_4_46) rfl ?_
    show own_S p e below T0 (mkF m 47 #[.val (.ref a1), .val (.int (16 : Int32)), .val (.long q3), .second] [(.long q3), (.int (20 : Int32)), (.ref a1)]) _
    refine XS.bipush X0.here hx rfl (hb hby d_method_4_47) ?_
    exact kt)
  obtain ⟨_, _, ⟨T2, L2, cc2, ss2⟩, -, X2, ⟨Lc2, hQ2, l2, y2, z2⟩, st2⟩ := Jvm.LawKit.callS X0 hx (y := (⟨"com/example/dual_delivery/dualdelivery/model/ReceiptHandleParsePinLaw", "hexDigit", "(JI)C"⟩ : MethodName)) hown (mvT hZ (hw _ (List.mem_of_getElem? (i := 5) rfl))) (mvT hZ (hw _ (List.mem_of_getElem? (i := 6) rfl))) (mvT hZ (hw _ (List.mem_of_getElem? (i := 3) rfl))) (mvT hZ (hw _ (List.mem_of_getElem? (i := 7) rfl))) (by decide) (backOf (W := 2) (rm2 l Z a0 hw [] q3 (44 : Int32)  h0 n0 Z0 ) hZ (hw _ (List.mem_of_getElem? (i := 7) rfl)) (hw _ (List.mem_of_getElem? (i := 3) rfl)) (by decide) (by decide)) (g := (mkF m 49 #[.val (.ref a1), .val (.int (16 : Int32)), .val (.long q3), .second] [(.int (44 : Int32)), (.long q3), (.int (20 : Int32)), (.ref a1)])) rfl (by rw [hml]; rfl) (argsL := [(.long q3), (.int (44 : Int32))]) (rest := [(.int (20 : Int32)), (.ref a1)]) (lenOf pd_0 rfl) rfl (by show 2 * 0 + _ ≤ _; exact Nat.le_of_eq rfl) (hb hby d_method_4_49) (fun _ _ => ⟨rfl, e0, (by decide : 0 + 0 ≤ _), (by decide : 0 + 0 ≤ _)⟩)
  dsimp only [Pt.U, Pt.locs, Pt.cells, Pt.slots] at X2 l2 y2 z2 st2 hQ2
  subst l2 y2 z2
  have X2 : Stand p l e _ _ m _ below meth c T2 _ 0 0 := X2
  obtain ⟨rfl, Nq2, eq2⟩ := hQ2
  have Nf2 := Fr.app Nf0 Nq2
  have kn3 : ∀ t, own_S p e below T2 (mkF m 52 #[.val (.ref a1), .val (.int (16 : Int32)), .val (.long q3), .second] [(.int (own_hex q3 (44 : Int32))), (.int (20 : Int32)), (.ref a1)]) t → own_S p e below T0 (mkF m 42 #[.val (.ref a1), .val (.int (16 : Int32)), .val (.long q3), .second] []) t := fun t kt => kn1 t (st2 _ kt)
  obtain ⟨cl4, Ar4, q4, Sz4, Ng4, Hs4, Gs4⟩ := id V1
  have hin4 : ¬ ((20 : Int32) < 0 ∨ cl4.slots.size ≤ ((20 : Int32)).toNatClampNeg) := inb_of Sz4 ⟨by decide, by decide⟩
  obtain ⟨T4, h4, X4, e4, W4, st4⟩ := stC X2 hx hZ eq2 Ar4 (j := (20 : Int32)) hin4 (g := (mkF m 52 #[.val (.ref a1), .val (.int (16 : Int32)), .val (.long q3), .second] [(.int (own_hex q3 (44 : Int32))), (.int (20 : Int32)), (.ref a1)])) rfl rfl (hb hby d_method_4_52)
  have Z5 : n0 ≤ h4.size := Nat.le_trans Z0 (Keep.of_wr W4).1
  have K6 : Keep hB h4 [a1] := KB.wr W4 (Or.inl (List.mem_of_getElem? (i := 0) rfl))
  have V4 : Arv Z h4 a1 kk1 .char (48 : Int32) ((.int u0) :: (.int u1) :: (.int u2) :: (.int u3) :: (.int u4) :: (.int u5) :: (.int u6) :: (.int u7) :: (.int u8) :: (.int u9) :: (.int u10) :: (.int u11) :: (.int u12) :: (.int u13) :: (.int u14) :: (.int u15) :: (.int (own_hex q3 (60 : Int32))) :: (.int (own_hex q3 (56 : Int32))) :: (.int (own_hex q3 (52 : Int32))) :: (.int (own_hex q3 (48 : Int32))) :: (.int ((own_hex q3 (44 : Int32)).toUInt32.toUInt16.toUInt32.toInt32)) :: (.int u21) :: (.int u22) :: (.int u23) :: (.int u24) :: (.int u25) :: (.int u26) :: (.int u27) :: (.int u28) :: (.int u29) :: (.int u30) :: (.int u31) :: (.int u32) :: (.int u33) :: (.int u34) :: (.int u35) :: (.int u36) :: (.int u37) :: (.int u38) :: (.int u39) :: (.int u40) :: (.int u41) :: (.int u42) :: (.int u43) :: (.int u44) :: (.int u45) :: (.int u46) :: (.int u47) :: []) (.int (0 : Int32)) := Arv.set Ar4 q4 Sz4 Ng4 Hs4 Gs4 (fits_nar_char _) W4 20 rfl (Nat.le_of_ble_eq_true rfl)
  rw [(show ((own_hex q3 (44 : Int32)).toUInt32.toUInt16.toUInt32.toInt32) = (own_hex q3 (44 : Int32)) from (own_hxs _ _).2.2.2.2.1)] at V4
  have Nf7 := Fr.snoc X4 Nf2 g_a1
  have kn8 : ∀ t, own_S p e below T4 (mkF m 53 #[.val (.ref a1), .val (.int (16 : Int32)), .val (.long q3), .second] []) t → own_S p e below T0 (mkF m 42 #[.val (.ref a1), .val (.int (16 : Int32)), .val (.long q3), .second] []) t := fun t kt => kn3 t (st4 _ kt)
  have kn9 : ∀ t, own_S p e below T4 (mkF m 60 #[.val (.ref a1), .val (.int (16 : Int32)), .val (.long q3), .second] [(.int (40 : Int32)), (.long q3), (.int (21 : Int32)), (.ref a1)]) t → own_S p e below T0 (mkF m 42 #[.val (.ref a1), .val (.int (16 : Int32)), .val (.long q3), .second] []) t := fun t kt => kn8 t (by
    show own_S p e below T4 (mkF m 53 #[.val (.ref a1), .val (.int (16 : Int32)), .val (.long q3), .second] []) _
    refine XS.aloadN X4.here hx rfl (hb hby d_method_4_53) rfl rfl ?_
    show own_S p e below T4 (mkF m 54 #[.val (.ref a1), .val (.int (16 : Int32)), .val (.long q3), .second] [(.ref a1)]) _
    refine XS.iloadN X4.here hx rfl (hb hby d_method_4_54) rfl ?_
    show own_S p e below T4 (mkF m 55 #[.val (.ref a1), .val (.int (16 : Int32)), .val (.long q3), .second] [(.int (16 : Int32)), (.ref a1)]) _
    refine XS.iconst X4.here hx rfl (hb hby d_method_4_55) ?_
    show own_S p e below T4 (mkF m 56 #[.val (.ref a1), .val (.int (16 : Int32)), .val (.long q3), .second] [(.int (5 : Int32)), (.int (16 : Int32)), (.ref a1)]) _
    refine XS.iadd X4.here hx rfl (hb hby d_method_4_56) rfl ?_
    rw [(by decide : ((16 : Int32) + (5 : Int32)) = (21 : Int32))]
    show own_S p e below T4 (mkF m 57 #[.val (.ref a1), .val (.int (16 : Int32)), .val (.long q3), .second] [(.int (21 : Int32)), (.ref a1)]) _
    refine XS.lloadN X4.here hx rfl (hb hby d_method_4_57) rfl ?_
    show own_S p e below T4 (mkF m 58 #[.val (.ref a1), .val (.int (16 : Int32)), .val (.long q3), .second] [(.long q3), (.int (21 : Int32)), (.ref a1)]) _
    refine XS.bipush X4.here hx rfl (hb hby d_method_4_58) ?_
    exact kt)
  obtain ⟨_, _, ⟨T10, L10, cc10, ss10⟩, -, X10, ⟨Lc10, hQ10, l10, y10, z10⟩, st10⟩ := Jvm.LawKit.callS X4 hx (y := (⟨"com/example/dual_delivery/dualdelivery/model/ReceiptHandleParsePinLaw", "hexDigit", "(JI)C"⟩ : MethodName)) hown (mvT hZ (hw _ (List.mem_of_getElem? (i := 5) rfl))) (mvT hZ (hw _ (List.mem_of_getElem? (i := 6) rfl))) (mvT hZ (hw _ (List.mem_of_getElem? (i := 3) rfl))) (mvT hZ (hw _ (List.mem_of_getElem? (i := 7) rfl))) (by decide) (backOf (W := 2) (rm2 l Z a0 hw [] q3 (40 : Int32)  h4 n0 Z5 ) hZ (hw _ (List.mem_of_getElem? (i := 7) rfl)) (hw _ (List.mem_of_getElem? (i := 3) rfl)) (by decide) (by decide)) (g := (mkF m 60 #[.val (.ref a1), .val (.int (16 : Int32)), .val (.long q3), .second] [(.int (40 : Int32)), (.long q3), (.int (21 : Int32)), (.ref a1)])) rfl (by rw [hml]; rfl) (argsL := [(.long q3), (.int (40 : Int32))]) (rest := [(.int (21 : Int32)), (.ref a1)]) (lenOf pd_0 rfl) rfl (by show 2 * 0 + _ ≤ _; exact Nat.le_of_eq rfl) (hb hby d_method_4_60) (fun _ _ => ⟨rfl, e4, (by decide : 0 + 0 ≤ _), (by decide : 0 + 0 ≤ _)⟩)
  dsimp only [Pt.U, Pt.locs, Pt.cells, Pt.slots] at X10 l10 y10 z10 st10 hQ10
  subst l10 y10 z10
  have X10 : Stand p l e _ _ m _ below meth c T10 _ 0 0 := X10
  obtain ⟨rfl, Nq10, eq10⟩ := hQ10
  have Nf10 := Fr.app Nf7 Nq10
  have kn11 : ∀ t, own_S p e below T10 (mkF m 63 #[.val (.ref a1), .val (.int (16 : Int32)), .val (.long q3), .second] [(.int (own_hex q3 (40 : Int32))), (.int (21 : Int32)), (.ref a1)]) t → own_S p e below T0 (mkF m 42 #[.val (.ref a1), .val (.int (16 : Int32)), .val (.long q3), .second] []) t := fun t kt => kn9 t (st10 _ kt)
  obtain ⟨cl12, Ar12, q12, Sz12, Ng12, Hs12, Gs12⟩ := id V4
  have hin12 : ¬ ((21 : Int32) < 0 ∨ cl12.slots.size ≤ ((21 : Int32)).toNatClampNeg) := inb_of Sz12 ⟨by decide, by decide⟩
  obtain ⟨T12, h12, X12, e12, W12, st12⟩ := stC X10 hx hZ eq10 Ar12 (j := (21 : Int32)) hin12 (g := (mkF m 63 #[.val (.ref a1), .val (.int (16 : Int32)), .val (.long q3), .second] [(.int (own_hex q3 (40 : Int32))), (.int (21 : Int32)), (.ref a1)])) rfl rfl (hb hby d_method_4_63)
  have Z13 : n0 ≤ h12.size := Nat.le_trans Z5 (Keep.of_wr W12).1
  have K14 : Keep hB h12 [a1] := K6.wr W12 (Or.inl (List.mem_of_getElem? (i := 0) rfl))
  have V12 : Arv Z h12 a1 kk1 .char (48 : Int32) ((.int u0) :: (.int u1) :: (.int u2) :: (.int u3) :: (.int u4) :: (.int u5) :: (.int u6) :: (.int u7) :: (.int u8) :: (.int u9) :: (.int u10) :: (.int u11) :: (.int u12) :: (.int u13) :: (.int u14) :: (.int u15) :: (.int (own_hex q3 (60 : Int32))) :: (.int (own_hex q3 (56 : Int32))) :: (.int (own_hex q3 (52 : Int32))) :: (.int (own_hex q3 (48 : Int32))) :: (.int (own_hex q3 (44 : Int32))) :: (.int ((own_hex q3 (40 : Int32)).toUInt32.toUInt16.toUInt32.toInt32)) :: (.int u22) :: (.int u23) :: (.int u24) :: (.int u25) :: (.int u26) :: (.int u27) :: (.int u28) :: (.int u29) :: (.int u30) :: (.int u31) :: (.int u32) :: (.int u33) :: (.int u34) :: (.int u35) :: (.int u36) :: (.int u37) :: (.int u38) :: (.int u39) :: (.int u40) :: (.int u41) :: (.int u42) :: (.int u43) :: (.int u44) :: (.int u45) :: (.int u46) :: (.int u47) :: []) (.int (0 : Int32)) := Arv.set Ar12 q12 Sz12 Ng12 Hs12 Gs12 (fits_nar_char _) W12 21 rfl (Nat.le_of_ble_eq_true rfl)
  rw [(show ((own_hex q3 (40 : Int32)).toUInt32.toUInt16.toUInt32.toInt32) = (own_hex q3 (40 : Int32)) from (own_hxs _ _).2.2.2.2.1)] at V12
  have Nf15 := Fr.snoc X12 Nf10 g_a1
  have kn16 : ∀ t, own_S p e below T12 (mkF m 64 #[.val (.ref a1), .val (.int (16 : Int32)), .val (.long q3), .second] []) t → own_S p e below T0 (mkF m 42 #[.val (.ref a1), .val (.int (16 : Int32)), .val (.long q3), .second] []) t := fun t kt => kn11 t (st12 _ kt)
  have kn17 : ∀ t, own_S p e below T12 (mkF m 72 #[.val (.ref a1), .val (.int (16 : Int32)), .val (.long q3), .second] [(.int (36 : Int32)), (.long q3), (.int (22 : Int32)), (.ref a1)]) t → own_S p e below T0 (mkF m 42 #[.val (.ref a1), .val (.int (16 : Int32)), .val (.long q3), .second] []) t := fun t kt => kn16 t (by
    show own_S p e below T12 (mkF m 64 #[.val (.ref a1), .val (.int (16 : Int32)), .val (.long q3), .second] []) _
    refine XS.aloadN X12.here hx rfl (hb hby d_method_4_64) rfl rfl ?_
    show own_S p e below T12 (mkF m 65 #[.val (.ref a1), .val (.int (16 : Int32)), .val (.long q3), .second] [(.ref a1)]) _
    refine XS.iloadN X12.here hx rfl (hb hby d_method_4_65) rfl ?_
    show own_S p e below T12 (mkF m 66 #[.val (.ref a1), .val (.int (16 : Int32)), .val (.long q3), .second] [(.int (16 : Int32)), (.ref a1)]) _
    refine XS.bipush X12.here hx rfl (hb hby d_method_4_66) ?_
    show own_S p e below T12 (mkF m 68 #[.val (.ref a1), .val (.int (16 : Int32)), .val (.long q3), .second] [(.int (6 : Int32)), (.int (16 : Int32)), (.ref a1)]) _
    refine XS.iadd X12.here hx rfl (hb hby d_method_4_68) rfl ?_
    rw [(by decide : ((16 : Int32) + (6 : Int32)) = (22 : Int32))]
    show own_S p e below T12 (mkF m 69 #[.val (.ref a1), .val (.int (16 : Int32)), .val (.long q3), .second] [(.int (22 : Int32)), (.ref a1)]) _
    refine XS.lloadN X12.here hx rfl (hb hby d_method_4_69) rfl ?_
    show own_S p e below T12 (mkF m 70 #[.val (.ref a1), .val (.int (16 : Int32)), .val (.long q3), .second] [(.long q3), (.int (22 : Int32)), (.ref a1)]) _
    refine XS.bipush X12.here hx rfl (hb hby d_method_4_70) ?_
    exact kt)
  obtain ⟨_, _, ⟨T18, L18, cc18, ss18⟩, -, X18, ⟨Lc18, hQ18, l18, y18, z18⟩, st18⟩ := Jvm.LawKit.callS X12 hx (y := (⟨"com/example/dual_delivery/dualdelivery/model/ReceiptHandleParsePinLaw", "hexDigit", "(JI)C"⟩ : MethodName)) hown (mvT hZ (hw _ (List.mem_of_getElem? (i := 5) rfl))) (mvT hZ (hw _ (List.mem_of_getElem? (i := 6) rfl))) (mvT hZ (hw _ (List.mem_of_getElem? (i := 3) rfl))) (mvT hZ (hw _ (List.mem_of_getElem? (i := 7) rfl))) (by decide) (backOf (W := 2) (rm2 l Z a0 hw [] q3 (36 : Int32)  h12 n0 Z13 ) hZ (hw _ (List.mem_of_getElem? (i := 7) rfl)) (hw _ (List.mem_of_getElem? (i := 3) rfl)) (by decide) (by decide)) (g := (mkF m 72 #[.val (.ref a1), .val (.int (16 : Int32)), .val (.long q3), .second] [(.int (36 : Int32)), (.long q3), (.int (22 : Int32)), (.ref a1)])) rfl (by rw [hml]; rfl) (argsL := [(.long q3), (.int (36 : Int32))]) (rest := [(.int (22 : Int32)), (.ref a1)]) (lenOf pd_0 rfl) rfl (by show 2 * 0 + _ ≤ _; exact Nat.le_of_eq rfl) (hb hby d_method_4_72) (fun _ _ => ⟨rfl, e12, (by decide : 0 + 0 ≤ _), (by decide : 0 + 0 ≤ _)⟩)
  dsimp only [Pt.U, Pt.locs, Pt.cells, Pt.slots] at X18 l18 y18 z18 st18 hQ18
  subst l18 y18 z18
  have X18 : Stand p l e _ _ m _ below meth c T18 _ 0 0 := X18
  obtain ⟨rfl, Nq18, eq18⟩ := hQ18
  have Nf18 := Fr.app Nf15 Nq18
  have kn19 : ∀ t, own_S p e below T18 (mkF m 75 #[.val (.ref a1), .val (.int (16 : Int32)), .val (.long q3), .second] [(.int (own_hex q3 (36 : Int32))), (.int (22 : Int32)), (.ref a1)]) t → own_S p e below T0 (mkF m 42 #[.val (.ref a1), .val (.int (16 : Int32)), .val (.long q3), .second] []) t := fun t kt => kn17 t (st18 _ kt)
  obtain ⟨cl20, Ar20, q20, Sz20, Ng20, Hs20, Gs20⟩ := id V12
  have hin20 : ¬ ((22 : Int32) < 0 ∨ cl20.slots.size ≤ ((22 : Int32)).toNatClampNeg) := inb_of Sz20 ⟨by decide, by decide⟩
  obtain ⟨T20, h20, X20, e20, W20, st20⟩ := stC X18 hx hZ eq18 Ar20 (j := (22 : Int32)) hin20 (g := (mkF m 75 #[.val (.ref a1), .val (.int (16 : Int32)), .val (.long q3), .second] [(.int (own_hex q3 (36 : Int32))), (.int (22 : Int32)), (.ref a1)])) rfl rfl (hb hby d_method_4_75)
  have Z21 : n0 ≤ h20.size := Nat.le_trans Z13 (Keep.of_wr W20).1
  have K22 : Keep hB h20 [a1] := K14.wr W20 (Or.inl (List.mem_of_getElem? (i := 0) rfl))
  have V20 : Arv Z h20 a1 kk1 .char (48 : Int32) ((.int u0) :: (.int u1) :: (.int u2) :: (.int u3) :: (.int u4) :: (.int u5) :: (.int u6) :: (.int u7) :: (.int u8) :: (.int u9) :: (.int u10) :: (.int u11) :: (.int u12) :: (.int u13) :: (.int u14) :: (.int u15) :: (.int (own_hex q3 (60 : Int32))) :: (.int (own_hex q3 (56 : Int32))) :: (.int (own_hex q3 (52 : Int32))) :: (.int (own_hex q3 (48 : Int32))) :: (.int (own_hex q3 (44 : Int32))) :: (.int (own_hex q3 (40 : Int32))) :: (.int ((own_hex q3 (36 : Int32)).toUInt32.toUInt16.toUInt32.toInt32)) :: (.int u23) :: (.int u24) :: (.int u25) :: (.int u26) :: (.int u27) :: (.int u28) :: (.int u29) :: (.int u30) :: (.int u31) :: (.int u32) :: (.int u33) :: (.int u34) :: (.int u35) :: (.int u36) :: (.int u37) :: (.int u38) :: (.int u39) :: (.int u40) :: (.int u41) :: (.int u42) :: (.int u43) :: (.int u44) :: (.int u45) :: (.int u46) :: (.int u47) :: []) (.int (0 : Int32)) := Arv.set Ar20 q20 Sz20 Ng20 Hs20 Gs20 (fits_nar_char _) W20 22 rfl (Nat.le_of_ble_eq_true rfl)
  rw [(show ((own_hex q3 (36 : Int32)).toUInt32.toUInt16.toUInt32.toInt32) = (own_hex q3 (36 : Int32)) from (own_hxs _ _).2.2.2.2.1)] at V20
  have Nf23 := Fr.snoc X20 Nf18 g_a1
  have kn24 : ∀ t, own_S p e below T20 (mkF m 76 #[.val (.ref a1), .val (.int (16 : Int32)), .val (.long q3), .second] []) t → own_S p e below T0 (mkF m 42 #[.val (.ref a1), .val (.int (16 : Int32)), .val (.long q3), .second] []) t := fun t kt => kn19 t (st20 _ kt)
  have kn25 : ∀ t, own_S p e below T20 (mkF m 84 #[.val (.ref a1), .val (.int (16 : Int32)), .val (.long q3), .second] [(.int (32 : Int32)), (.long q3), (.int (23 : Int32)), (.ref a1)]) t → own_S p e below T0 (mkF m 42 #[.val (.ref a1), .val (.int (16 : Int32)), .val (.long q3), .second] []) t := fun t kt => kn24 t (by
    show own_S p e below T20 (mkF m 76 #[.val (.ref a1), .val (.int (16 : Int32)), .val (.long q3), .second] []) _
    refine XS.aloadN X20.here hx rfl (hb hby d_method_4_76) rfl rfl ?_
    show own_S p e below T20 (mkF m 77 #[.val (.ref a1), .val (.int (16 : Int32)), .val (.long q3), .second] [(.ref a1)]) _
    refine XS.iloadN X20.here hx rfl (hb hby d_method_4_77) rfl ?_
    show own_S p e below T20 (mkF m 78 #[.val (.ref a1), .val (.int (16 : Int32)), .val (.long q3), .second] [(.int (16 : Int32)), (.ref a1)]) _
    refine XS.bipush X20.here hx rfl (hb hby d_method_4_78) ?_
    show own_S p e below T20 (mkF m 80 #[.val (.ref a1), .val (.int (16 : Int32)), .val (.long q3), .second] [(.int (7 : Int32)), (.int (16 : Int32)), (.ref a1)]) _
    refine XS.iadd X20.here hx rfl (hb hby d_method_4_80) rfl ?_
    rw [(by decide : ((16 : Int32) + (7 : Int32)) = (23 : Int32))]
    show own_S p e below T20 (mkF m 81 #[.val (.ref a1), .val (.int (16 : Int32)), .val (.long q3), .second] [(.int (23 : Int32)), (.ref a1)]) _
    refine XS.lloadN X20.here hx rfl (hb hby d_method_4_81) rfl ?_
    show own_S p e below T20 (mkF m 82 #[.val (.ref a1), .val (.int (16 : Int32)), .val (.long q3), .second] [(.long q3), (.int (23 : Int32)), (.ref a1)]) _
    refine XS.bipush X20.here hx rfl (hb hby d_method_4_82) ?_
    exact kt)
  obtain ⟨_, _, ⟨T26, L26, cc26, ss26⟩, -, X26, ⟨Lc26, hQ26, l26, y26, z26⟩, st26⟩ := Jvm.LawKit.callS X20 hx (y := (⟨"com/example/dual_delivery/dualdelivery/model/ReceiptHandleParsePinLaw", "hexDigit", "(JI)C"⟩ : MethodName)) hown (mvT hZ (hw _ (List.mem_of_getElem? (i := 5) rfl))) (mvT hZ (hw _ (List.mem_of_getElem? (i := 6) rfl))) (mvT hZ (hw _ (List.mem_of_getElem? (i := 3) rfl))) (mvT hZ (hw _ (List.mem_of_getElem? (i := 7) rfl))) (by decide) (backOf (W := 2) (rm2 l Z a0 hw [] q3 (32 : Int32)  h20 n0 Z21 ) hZ (hw _ (List.mem_of_getElem? (i := 7) rfl)) (hw _ (List.mem_of_getElem? (i := 3) rfl)) (by decide) (by decide)) (g := (mkF m 84 #[.val (.ref a1), .val (.int (16 : Int32)), .val (.long q3), .second] [(.int (32 : Int32)), (.long q3), (.int (23 : Int32)), (.ref a1)])) rfl (by rw [hml]; rfl) (argsL := [(.long q3), (.int (32 : Int32))]) (rest := [(.int (23 : Int32)), (.ref a1)]) (lenOf pd_0 rfl) rfl (by show 2 * 0 + _ ≤ _; exact Nat.le_of_eq rfl) (hb hby d_method_4_84) (fun _ _ => ⟨rfl, e20, (by decide : 0 + 0 ≤ _), (by decide : 0 + 0 ≤ _)⟩)
  dsimp only [Pt.U, Pt.locs, Pt.cells, Pt.slots] at X26 l26 y26 z26 st26 hQ26
  subst l26 y26 z26
  have X26 : Stand p l e _ _ m _ below meth c T26 _ 0 0 := X26
  obtain ⟨rfl, Nq26, eq26⟩ := hQ26
  have Nf26 := Fr.app Nf23 Nq26
  have kn27 : ∀ t, own_S p e below T26 (mkF m 87 #[.val (.ref a1), .val (.int (16 : Int32)), .val (.long q3), .second] [(.int (own_hex q3 (32 : Int32))), (.int (23 : Int32)), (.ref a1)]) t → own_S p e below T0 (mkF m 42 #[.val (.ref a1), .val (.int (16 : Int32)), .val (.long q3), .second] []) t := fun t kt => kn25 t (st26 _ kt)
  obtain ⟨cl28, Ar28, q28, Sz28, Ng28, Hs28, Gs28⟩ := id V20
  have hin28 : ¬ ((23 : Int32) < 0 ∨ cl28.slots.size ≤ ((23 : Int32)).toNatClampNeg) := inb_of Sz28 ⟨by decide, by decide⟩
  obtain ⟨T28, h28, X28, e28, W28, st28⟩ := stC X26 hx hZ eq26 Ar28 (j := (23 : Int32)) hin28 (g := (mkF m 87 #[.val (.ref a1), .val (.int (16 : Int32)), .val (.long q3), .second] [(.int (own_hex q3 (32 : Int32))), (.int (23 : Int32)), (.ref a1)])) rfl rfl (hb hby d_method_4_87)
  have Z29 : n0 ≤ h28.size := Nat.le_trans Z21 (Keep.of_wr W28).1
  have K30 : Keep hB h28 [a1] := K22.wr W28 (Or.inl (List.mem_of_getElem? (i := 0) rfl))
  have V28 : Arv Z h28 a1 kk1 .char (48 : Int32) ((.int u0) :: (.int u1) :: (.int u2) :: (.int u3) :: (.int u4) :: (.int u5) :: (.int u6) :: (.int u7) :: (.int u8) :: (.int u9) :: (.int u10) :: (.int u11) :: (.int u12) :: (.int u13) :: (.int u14) :: (.int u15) :: (.int (own_hex q3 (60 : Int32))) :: (.int (own_hex q3 (56 : Int32))) :: (.int (own_hex q3 (52 : Int32))) :: (.int (own_hex q3 (48 : Int32))) :: (.int (own_hex q3 (44 : Int32))) :: (.int (own_hex q3 (40 : Int32))) :: (.int (own_hex q3 (36 : Int32))) :: (.int ((own_hex q3 (32 : Int32)).toUInt32.toUInt16.toUInt32.toInt32)) :: (.int u24) :: (.int u25) :: (.int u26) :: (.int u27) :: (.int u28) :: (.int u29) :: (.int u30) :: (.int u31) :: (.int u32) :: (.int u33) :: (.int u34) :: (.int u35) :: (.int u36) :: (.int u37) :: (.int u38) :: (.int u39) :: (.int u40) :: (.int u41) :: (.int u42) :: (.int u43) :: (.int u44) :: (.int u45) :: (.int u46) :: (.int u47) :: []) (.int (0 : Int32)) := Arv.set Ar28 q28 Sz28 Ng28 Hs28 Gs28 (fits_nar_char _) W28 23 rfl (Nat.le_of_ble_eq_true rfl)
  rw [(show ((own_hex q3 (32 : Int32)).toUInt32.toUInt16.toUInt32.toInt32) = (own_hex q3 (32 : Int32)) from (own_hxs _ _).2.2.2.2.1)] at V28
  have Nf31 := Fr.snoc X28 Nf26 g_a1
  have kn32 : ∀ t, own_S p e below T28 (mkF m 88 #[.val (.ref a1), .val (.int (16 : Int32)), .val (.long q3), .second] []) t → own_S p e below T0 (mkF m 42 #[.val (.ref a1), .val (.int (16 : Int32)), .val (.long q3), .second] []) t := fun t kt => kn27 t (st28 _ kt)
  obtain ⟨s2, o2, t1, t2, t3, t4⟩ := tlp_16_2 (n0 := n0) a1 q3 kk1 u0 u1 u2 u3 u4 u5 u6 u7 u8 u9 u10 u11 u12 u13 u14 u15 u16 u17 u18 u19 u20 u21 u22 u23 u24 u25 u26 u27 u28 u29 u30 u31 u32 u33 u34 u35 u36 u37 u38 u39 u40 u41 u42 u43 u44 u45 u46 u47 hB  X28 hx hZ hw hby hml hown hret hlk e28 Nf31 Z29 V28 K30 g_a1
  exact ⟨s2, o2, id (kn32 _ t1), t2, t3, t4⟩

theorem ef_rm1_16 (m : MethodId) (x0 : Addr) (x2 : Int64) : entryFrame m #[(.ref x0), (.int (16 : Int32)), (.long x2)] 4 = mkF m 0 #[.val (.ref x0), .val (.int (16 : Int32)), .val (.long x2), .second] [] := by first | (simp [entryFrame, mkF, argsToLocals, Value.category]; done) | rfl
 
set_option maxRecDepth 65536 in
set_option maxHeartbeats 40000000 in
theorem rm1_16 (l : Launch) (Z : State) (a0 : Array Value) (hw : ∀ d ∈ tables_1, d.before a0 Z = true) (ws : List Jvm.Cond) (a1 : Addr) (q3 : Int64) (kk1 : ClassId) (u0 : Int32) (u1 : Int32) (u2 : Int32) (u3 : Int32) (u4 : Int32) (u5 : Int32) (u6 : Int32) (u7 : Int32) (u8 : Int32) (u9 : Int32) (u10 : Int32) (u11 : Int32) (u12 : Int32) (u13 : Int32) (u14 : Int32) (u15 : Int32) (u16 : Int32) (u17 : Int32) (u18 : Int32) (u19 : Int32) (u20 : Int32) (u21 : Int32) (u22 : Int32) (u23 : Int32) (u24 : Int32) (u25 : Int32) (u26 : Int32) (u27 : Int32) (u28 : Int32) (u29 : Int32) (u30 : Int32) (u31 : Int32) (u32 : Int32) (u33 : Int32) (u34 : Int32) (u35 : Int32) (u36 : Int32) (u37 : Int32) (u38 : Int32) (u39 : Int32) (u40 : Int32) (u41 : Int32) (u42 : Int32) (u43 : Int32) (u44 : Int32) (u45 : Int32) (u46 : Int32) (u47 : Int32) (hB : Heap) (h0 : Heap) (n0 : Nat) (Z0 : n0 ≤ h0.size) (V1 : Arv Z h0 a1 kk1 .char (48 : Int32) ((.int u0) :: (.int u1) :: (.int u2) :: (.int u3) :: (.int u4) :: (.int u5) :: (.int u6) :: (.int u7) :: (.int u8) :: (.int u9) :: (.int u10) :: (.int u11) :: (.int u12) :: (.int u13) :: (.int u14) :: (.int u15) :: (.int u16) :: (.int u17) :: (.int u18) :: (.int u19) :: (.int u20) :: (.int u21) :: (.int u22) :: (.int u23) :: (.int u24) :: (.int u25) :: (.int u26) :: (.int u27) :: (.int u28) :: (.int u29) :: (.int u30) :: (.int u31) :: (.int u32) :: (.int u33) :: (.int u34) :: (.int u35) :: (.int u36) :: (.int u37) :: (.int u38) :: (.int u39) :: (.int u40) :: (.int u41) :: (.int u42) :: (.int u43) :: (.int u44) :: (.int u45) :: (.int u46) :: (.int u47) :: []) (.int (0 : Int32))) (KB : Keep hB h0 [a1]) (g_a1 : n0 ≤ a1) :
    MetFree l (⟨"com/example/dual_delivery/dualdelivery/model/ReceiptHandleParsePinLaw", "put", "([CIJ)V"⟩ : MethodName) (head1 (Jvm.Cond.code (⟨"com/example/dual_delivery/dualdelivery/model/ReceiptHandleParsePinLaw", "put", "([CIJ)V"⟩ : MethodName) method_4_code 4 none :: ws) ({ frames := 1, cells := 0, slots := 0, locals := 17 } : Room)) (fun a U => a = #[(.ref a1), (.int (16 : Int32)), (.long q3)] ∧ Z.Warmed39 U.vm ∧ U.heap = h0) (fun _ _ _ _ _ => True) (fun _ U o U' => ∃ v L, o = .returned v ∧ Q1_16 Z a1 q3 kk1 u0 u1 u2 u3 u4 u5 u6 u7 u8 u9 u10 u11 u12 u13 u14 u15 u16 u17 u18 u19 u20 u21 u22 u23 u24 u25 u26 u27 u28 u29 u30 u31 u32 u33 u34 u35 u36 u37 u38 u39 u40 u41 u42 u43 u44 u45 u46 u47 hB h0 n0 v U'.heap L ∧ FrameEnd U o U' L ({ frames := 1, cells := 0, slots := 0, locals := 17 } : Room).cells ({ frames := 1, cells := 0, slots := 0, locals := 17 } : Room).slots) := by
  refine MetFree.of_bodySF (plainFor_of_name pn_0) hisR ?_
  intro p e s m args below meth c s₁ Bd hml0 hP hK
  obtain ⟨rfl, hZ, hh⟩ := hP
  have hx := Bd.exec
  have hby := Bd.bytes
  have hml : c.maxLocals = 4 := hml0
  have hown : s.vm.findClass "com/example/dual_delivery/dualdelivery/model/ReceiptHandleParsePinLaw" = some m.cls := findClass_of_methodNamed Bd.named
  have hnm := (name_of_methodNamed Bd.named Bd.method).1
  have X0 : Stand p l e ({ frames := 1, cells := 0, slots := 0, locals := 17 } : Room) s m #[(.ref a1), (.int (16 : Int32)), (.long q3)] below meth c s₁ [] 0 0 := Stand.of_body Bd
  have e0 : s₁.heap = h0 := by rw [← hh, Bd.state]; rfl
  have Nf0 := Fr.nil n0
  obtain ⟨Gl, hGl, kn0⟩ : ∃ Gl : State → Prop, (∀ t, Gl t → Steps p.tables e below (s₁.setTop (entryFrame m #[(.ref a1), (.int (16 : Int32)), (.long q3)] 4)) t) ∧ ∀ t, own_S p e below s₁ (mkF m 0 #[.val (.ref a1), .val (.int (16 : Int32)), .val (.long q3), .second] []) t → Gl t := ⟨fun t => Steps p.tables e below (s₁.setTop (entryFrame m #[(.ref a1), (.int (16 : Int32)), (.long q3)] 4)) t, fun _ k => k, fun t k => castTop (ef_rm1_16 m a1 q3) k⟩
  have kn1 : ∀ t, own_S p e below s₁ (mkF m 5 #[.val (.ref a1), .val (.int (16 : Int32)), .val (.long q3), .second] [(.int (60 : Int32)), (.long q3), (.int (16 : Int32)), (.ref a1)]) t → Gl t := fun t kt => kn0 t (by
    show own_S p e below s₁ (mkF m 0 #[.val (.ref a1), .val (.int (16 : Int32)), .val (.long q3), .second] []) _
    refine XS.aloadN X0.here hx rfl (hb hby d_method_4_0) rfl rfl ?_
    show own_S p e below s₁ (mkF m 1 #[.val (.ref a1), .val (.int (16 : Int32)), .val (.long q3), .second] [(.ref a1)]) _
    refine XS.iloadN X0.here hx rfl (hb hby d_method_4_1) rfl ?_
    show own_S p e below s₁ (mkF m 2 #[.val (.ref a1), .val (.int (16 : Int32)), .val (.long q3), .second] [(.int (16 : Int32)), (.ref a1)]) _
    refine XS.lloadN X0.here hx rfl (hb hby d_method_4_2) rfl ?_
    show own_S p e below s₁ (mkF m 3 #[.val (.ref a1), .val (.int (16 : Int32)), .val (.long q3), .second] [(.long q3), (.int (16 : Int32)), (.ref a1)]) _
    refine XS.bipush X0.here hx rfl (hb hby d_method_4_3) ?_
    exact kt)
  obtain ⟨_, _, ⟨T2, L2, cc2, ss2⟩, -, X2, ⟨Lc2, hQ2, l2, y2, z2⟩, st2⟩ := Jvm.LawKit.callS X0 hx (y := (⟨"com/example/dual_delivery/dualdelivery/model/ReceiptHandleParsePinLaw", "hexDigit", "(JI)C"⟩ : MethodName)) hown (mvT hZ (hw _ (List.mem_of_getElem? (i := 5) rfl))) (mvT hZ (hw _ (List.mem_of_getElem? (i := 6) rfl))) (mvT hZ (hw _ (List.mem_of_getElem? (i := 3) rfl))) (mvT hZ (hw _ (List.mem_of_getElem? (i := 7) rfl))) (by decide) (backOf (W := 2) (rm2 l Z a0 hw [] q3 (60 : Int32)  h0 n0 Z0 ) hZ (hw _ (List.mem_of_getElem? (i := 7) rfl)) (hw _ (List.mem_of_getElem? (i := 3) rfl)) (by decide) (by decide)) (g := (mkF m 5 #[.val (.ref a1), .val (.int (16 : Int32)), .val (.long q3), .second] [(.int (60 : Int32)), (.long q3), (.int (16 : Int32)), (.ref a1)])) rfl (by rw [hml]; rfl) (argsL := [(.long q3), (.int (60 : Int32))]) (rest := [(.int (16 : Int32)), (.ref a1)]) (lenOf pd_0 rfl) rfl (by show 2 * 0 + _ ≤ _; exact Nat.le_of_eq rfl) (hb hby d_method_4_5) (fun _ _ => ⟨rfl, e0, (by decide : 0 + 0 ≤ _), (by decide : 0 + 0 ≤ _)⟩)
  dsimp only [Pt.U, Pt.locs, Pt.cells, Pt.slots] at X2 l2 y2 z2 st2 hQ2
  subst l2 y2 z2
  have X2 : Stand p l e _ _ m _ below meth c T2 _ 0 0 := X2
  obtain ⟨rfl, Nq2, eq2⟩ := hQ2
  have Nf2 := Fr.app Nf0 Nq2
  have kn3 : ∀ t, own_S p e below T2 (mkF m 8 #[.val (.ref a1), .val (.int (16 : Int32)), .val (.long q3), .second] [(.int (own_hex q3 (60 : Int32))), (.int (16 : Int32)), (.ref a1)]) t → Gl t := fun t kt => kn1 t (st2 _ kt)
  obtain ⟨cl4, Ar4, q4, Sz4, Ng4, Hs4, Gs4⟩ := id V1
  have hin4 : ¬ ((16 : Int32) < 0 ∨ cl4.slots.size ≤ ((16 : Int32)).toNatClampNeg) := inb_of Sz4 ⟨by decide, by decide⟩
  obtain ⟨T4, h4, X4, e4, W4, st4⟩ := stC X2 hx hZ eq2 Ar4 (j := (16 : Int32)) hin4 (g := (mkF m 8 #[.val (.ref a1), .val (.int (16 : Int32)), .val (.long q3), .second] [(.int (own_hex q3 (60 : Int32))), (.int (16 : Int32)), (.ref a1)])) rfl rfl (hb hby d_method_4_8)
  have Z5 : n0 ≤ h4.size := Nat.le_trans Z0 (Keep.of_wr W4).1
  have K6 : Keep hB h4 [a1] := KB.wr W4 (Or.inl (List.mem_of_getElem? (i := 0) rfl))
  have V4 : Arv Z h4 a1 kk1 .char (48 : Int32) ((.int u0) :: (.int u1) :: (.int u2) :: (.int u3) :: (.int u4) :: (.int u5) :: (.int u6) :: (.int u7) :: (.int u8) :: (.int u9) :: (.int u10) :: (.int u11) :: (.int u12) :: (.int u13) :: (.int u14) :: (.int u15) :: (.int ((own_hex q3 (60 : Int32)).toUInt32.toUInt16.toUInt32.toInt32)) :: (.int u17) :: (.int u18) :: (.int u19) :: (.int u20) :: (.int u21) :: (.int u22) :: (.int u23) :: (.int u24) :: (.int u25) :: (.int u26) :: (.int u27) :: (.int u28) :: (.int u29) :: (.int u30) :: (.int u31) :: (.int u32) :: (.int u33) :: (.int u34) :: (.int u35) :: (.int u36) :: (.int u37) :: (.int u38) :: (.int u39) :: (.int u40) :: (.int u41) :: (.int u42) :: (.int u43) :: (.int u44) :: (.int u45) :: (.int u46) :: (.int u47) :: []) (.int (0 : Int32)) := Arv.set Ar4 q4 Sz4 Ng4 Hs4 Gs4 (fits_nar_char _) W4 16 rfl (Nat.le_of_ble_eq_true rfl)
  rw [(show ((own_hex q3 (60 : Int32)).toUInt32.toUInt16.toUInt32.toInt32) = (own_hex q3 (60 : Int32)) from (own_hxs _ _).2.2.2.2.1)] at V4
  have Nf7 := Fr.snoc X4 Nf2 g_a1
  have kn8 : ∀ t, own_S p e below T4 (mkF m 9 #[.val (.ref a1), .val (.int (16 : Int32)), .val (.long q3), .second] []) t → Gl t := fun t kt => kn3 t (st4 _ kt)
  have kn9 : ∀ t, own_S p e below T4 (mkF m 16 #[.val (.ref a1), .val (.int (16 : Int32)), .val (.long q3), .second] [(.int (56 : Int32)), (.long q3), (.int (17 : Int32)), (.ref a1)]) t → Gl t := fun t kt => kn8 t (by
    show own_S p e below T4 (mkF m 9 #[.val (.ref a1), .val (.int (16 : Int32)), .val (.long q3), .second] []) _
    refine XS.aloadN X4.here hx rfl (hb hby d_method_4_9) rfl rfl ?_
    show own_S p e below T4 (mkF m 10 #[.val (.ref a1), .val (.int (16 : Int32)), .val (.long q3), .second] [(.ref a1)]) _
    refine XS.iloadN X4.here hx rfl (hb hby d_method_4_10) rfl ?_
    show own_S p e below T4 (mkF m 11 #[.val (.ref a1), .val (.int (16 : Int32)), .val (.long q3), .second] [(.int (16 : Int32)), (.ref a1)]) _
    refine XS.iconst X4.here hx rfl (hb hby d_method_4_11) ?_
    show own_S p e below T4 (mkF m 12 #[.val (.ref a1), .val (.int (16 : Int32)), .val (.long q3), .second] [(.int (1 : Int32)), (.int (16 : Int32)), (.ref a1)]) _
    refine XS.iadd X4.here hx rfl (hb hby d_method_4_12) rfl ?_
    rw [(by decide : ((16 : Int32) + (1 : Int32)) = (17 : Int32))]
    show own_S p e below T4 (mkF m 13 #[.val (.ref a1), .val (.int (16 : Int32)), .val (.long q3), .second] [(.int (17 : Int32)), (.ref a1)]) _
    refine XS.lloadN X4.here hx rfl (hb hby d_method_4_13) rfl ?_
    show own_S p e below T4 (mkF m 14 #[.val (.ref a1), .val (.int (16 : Int32)), .val (.long q3), .second] [(.long q3), (.int (17 : Int32)), (.ref a1)]) _
    refine XS.bipush X4.here hx rfl (hb hby d_method_4_14) ?_
    exact kt)
  obtain ⟨_, _, ⟨T10, L10, cc10, ss10⟩, -, X10, ⟨Lc10, hQ10, l10, y10, z10⟩, st10⟩ := Jvm.LawKit.callS X4 hx (y := (⟨"com/example/dual_delivery/dualdelivery/model/ReceiptHandleParsePinLaw", "hexDigit", "(JI)C"⟩ : MethodName)) hown (mvT hZ (hw _ (List.mem_of_getElem? (i := 5) rfl))) (mvT hZ (hw _ (List.mem_of_getElem? (i := 6) rfl))) (mvT hZ (hw _ (List.mem_of_getElem? (i := 3) rfl))) (mvT hZ (hw _ (List.mem_of_getElem? (i := 7) rfl))) (by decide) (backOf (W := 2) (rm2 l Z a0 hw [] q3 (56 : Int32)  h4 n0 Z5 ) hZ (hw _ (List.mem_of_getElem? (i := 7) rfl)) (hw _ (List.mem_of_getElem? (i := 3) rfl)) (by decide) (by decide)) (g := (mkF m 16 #[.val (.ref a1), .val (.int (16 : Int32)), .val (.long q3), .second] [(.int (56 : Int32)), (.long q3), (.int (17 : Int32)), (.ref a1)])) rfl (by rw [hml]; rfl) (argsL := [(.long q3), (.int (56 : Int32))]) (rest := [(.int (17 : Int32)), (.ref a1)]) (lenOf pd_0 rfl) rfl (by show 2 * 0 + _ ≤ _; exact Nat.le_of_eq rfl) (hb hby d_method_4_16) (fun _ _ => ⟨rfl, e4, (by decide : 0 + 0 ≤ _), (by decide : 0 + 0 ≤ _)⟩)
  dsimp only [Pt.U, Pt.locs, Pt.cells, Pt.slots] at X10 l10 y10 z10 st10 hQ10
  subst l10 y10 z10
  have X10 : Stand p l e _ _ m _ below meth c T10 _ 0 0 := X10
  obtain ⟨rfl, Nq10, eq10⟩ := hQ10
  have Nf10 := Fr.app Nf7 Nq10
  have kn11 : ∀ t, own_S p e below T10 (mkF m 19 #[.val (.ref a1), .val (.int (16 : Int32)), .val (.long q3), .second] [(.int (own_hex q3 (56 : Int32))), (.int (17 : Int32)), (.ref a1)]) t → Gl t := fun t kt => kn9 t (st10 _ kt)
  obtain ⟨cl12, Ar12, q12, Sz12, Ng12, Hs12, Gs12⟩ := id V4
  have hin12 : ¬ ((17 : Int32) < 0 ∨ cl12.slots.size ≤ ((17 : Int32)).toNatClampNeg) := inb_of Sz12 ⟨by decide, by decide⟩
  obtain ⟨T12, h12, X12, e12, W12, st12⟩ := stC X10 hx hZ eq10 Ar12 (j := (17 : Int32)) hin12 (g := (mkF m 19 #[.val (.ref a1), .val (.int (16 : Int32)), .val (.long q3), .second] [(.int (own_hex q3 (56 : Int32))), (.int (17 : Int32)), (.ref a1)])) rfl rfl (hb hby d_method_4_19)
  have Z13 : n0 ≤ h12.size := Nat.le_trans Z5 (Keep.of_wr W12).1
  have K14 : Keep hB h12 [a1] := K6.wr W12 (Or.inl (List.mem_of_getElem? (i := 0) rfl))
  have V12 : Arv Z h12 a1 kk1 .char (48 : Int32) ((.int u0) :: (.int u1) :: (.int u2) :: (.int u3) :: (.int u4) :: (.int u5) :: (.int u6) :: (.int u7) :: (.int u8) :: (.int u9) :: (.int u10) :: (.int u11) :: (.int u12) :: (.int u13) :: (.int u14) :: (.int u15) :: (.int (own_hex q3 (60 : Int32))) :: (.int ((own_hex q3 (56 : Int32)).toUInt32.toUInt16.toUInt32.toInt32)) :: (.int u18) :: (.int u19) :: (.int u20) :: (.int u21) :: (.int u22) :: (.int u23) :: (.int u24) :: (.int u25) :: (.int u26) :: (.int u27) :: (.int u28) :: (.int u29) :: (.int u30) :: (.int u31) :: (.int u32) :: (.int u33) :: (.int u34) :: (.int u35) :: (.int u36) :: (.int u37) :: (.int u38) :: (.int u39) :: (.int u40) :: (.int u41) :: (.int u42) :: (.int u43) :: (.int u44) :: (.int u45) :: (.int u46) :: (.int u47) :: []) (.int (0 : Int32)) := Arv.set Ar12 q12 Sz12 Ng12 Hs12 Gs12 (fits_nar_char _) W12 17 rfl (Nat.le_of_ble_eq_true rfl)
  rw [(show ((own_hex q3 (56 : Int32)).toUInt32.toUInt16.toUInt32.toInt32) = (own_hex q3 (56 : Int32)) from (own_hxs _ _).2.2.2.2.1)] at V12
  have Nf15 := Fr.snoc X12 Nf10 g_a1
  have kn16 : ∀ t, own_S p e below T12 (mkF m 20 #[.val (.ref a1), .val (.int (16 : Int32)), .val (.long q3), .second] []) t → Gl t := fun t kt => kn11 t (st12 _ kt)
  have kn17 : ∀ t, own_S p e below T12 (mkF m 27 #[.val (.ref a1), .val (.int (16 : Int32)), .val (.long q3), .second] [(.int (52 : Int32)), (.long q3), (.int (18 : Int32)), (.ref a1)]) t → Gl t := fun t kt => kn16 t (by
    show own_S p e below T12 (mkF m 20 #[.val (.ref a1), .val (.int (16 : Int32)), .val (.long q3), .second] []) _
    refine XS.aloadN X12.here hx rfl (hb hby d_method_4_20) rfl rfl ?_
    show own_S p e below T12 (mkF m 21 #[.val (.ref a1), .val (.int (16 : Int32)), .val (.long q3), .second] [(.ref a1)]) _
    refine XS.iloadN X12.here hx rfl (hb hby d_method_4_21) rfl ?_
    show own_S p e below T12 (mkF m 22 #[.val (.ref a1), .val (.int (16 : Int32)), .val (.long q3), .second] [(.int (16 : Int32)), (.ref a1)]) _
    refine XS.iconst X12.here hx rfl (hb hby d_method_4_22) ?_
    show own_S p e below T12 (mkF m 23 #[.val (.ref a1), .val (.int (16 : Int32)), .val (.long q3), .second] [(.int (2 : Int32)), (.int (16 : Int32)), (.ref a1)]) _
    refine XS.iadd X12.here hx rfl (hb hby d_method_4_23) rfl ?_
    rw [(by decide : ((16 : Int32) + (2 : Int32)) = (18 : Int32))]
    show own_S p e below T12 (mkF m 24 #[.val (.ref a1), .val (.int (16 : Int32)), .val (.long q3), .second] [(.int (18 : Int32)), (.ref a1)]) _
    refine XS.lloadN X12.here hx rfl (hb hby d_method_4_24) rfl ?_
    show own_S p e below T12 (mkF m 25 #[.val (.ref a1), .val (.int (16 : Int32)), .val (.long q3), .second] [(.long q3), (.int (18 : Int32)), (.ref a1)]) _
    refine XS.bipush X12.here hx rfl (hb hby d_method_4_25) ?_
    exact kt)
  obtain ⟨_, _, ⟨T18, L18, cc18, ss18⟩, -, X18, ⟨Lc18, hQ18, l18, y18, z18⟩, st18⟩ := Jvm.LawKit.callS X12 hx (y := (⟨"com/example/dual_delivery/dualdelivery/model/ReceiptHandleParsePinLaw", "hexDigit", "(JI)C"⟩ : MethodName)) hown (mvT hZ (hw _ (List.mem_of_getElem? (i := 5) rfl))) (mvT hZ (hw _ (List.mem_of_getElem? (i := 6) rfl))) (mvT hZ (hw _ (List.mem_of_getElem? (i := 3) rfl))) (mvT hZ (hw _ (List.mem_of_getElem? (i := 7) rfl))) (by decide) (backOf (W := 2) (rm2 l Z a0 hw [] q3 (52 : Int32)  h12 n0 Z13 ) hZ (hw _ (List.mem_of_getElem? (i := 7) rfl)) (hw _ (List.mem_of_getElem? (i := 3) rfl)) (by decide) (by decide)) (g := (mkF m 27 #[.val (.ref a1), .val (.int (16 : Int32)), .val (.long q3), .second] [(.int (52 : Int32)), (.long q3), (.int (18 : Int32)), (.ref a1)])) rfl (by rw [hml]; rfl) (argsL := [(.long q3), (.int (52 : Int32))]) (rest := [(.int (18 : Int32)), (.ref a1)]) (lenOf pd_0 rfl) rfl (by show 2 * 0 + _ ≤ _; exact Nat.le_of_eq rfl) (hb hby d_method_4_27) (fun _ _ => ⟨rfl, e12, (by decide : 0 + 0 ≤ _), (by decide : 0 + 0 ≤ _)⟩)
  dsimp only [Pt.U, Pt.locs, Pt.cells, Pt.slots] at X18 l18 y18 z18 st18 hQ18
  subst l18 y18 z18
  have X18 : Stand p l e _ _ m _ below meth c T18 _ 0 0 := X18
  obtain ⟨rfl, Nq18, eq18⟩ := hQ18
  have Nf18 := Fr.app Nf15 Nq18
  have kn19 : ∀ t, own_S p e below T18 (mkF m 30 #[.val (.ref a1), .val (.int (16 : Int32)), .val (.long q3), .second] [(.int (own_hex q3 (52 : Int32))), (.int (18 : Int32)), (.ref a1)]) t → Gl t := fun t kt => kn17 t (st18 _ kt)
  obtain ⟨cl20, Ar20, q20, Sz20, Ng20, Hs20, Gs20⟩ := id V12
  have hin20 : ¬ ((18 : Int32) < 0 ∨ cl20.slots.size ≤ ((18 : Int32)).toNatClampNeg) := inb_of Sz20 ⟨by decide, by decide⟩
  obtain ⟨T20, h20, X20, e20, W20, st20⟩ := stC X18 hx hZ eq18 Ar20 (j := (18 : Int32)) hin20 (g := (mkF m 30 #[.val (.ref a1), .val (.int (16 : Int32)), .val (.long q3), .second] [(.int (own_hex q3 (52 : Int32))), (.int (18 : Int32)), (.ref a1)])) rfl rfl (hb hby d_method_4_30)
  have Z21 : n0 ≤ h20.size := Nat.le_trans Z13 (Keep.of_wr W20).1
  have K22 : Keep hB h20 [a1] := K14.wr W20 (Or.inl (List.mem_of_getElem? (i := 0) rfl))
  have V20 : Arv Z h20 a1 kk1 .char (48 : Int32) ((.int u0) :: (.int u1) :: (.int u2) :: (.int u3) :: (.int u4) :: (.int u5) :: (.int u6) :: (.int u7) :: (.int u8) :: (.int u9) :: (.int u10) :: (.int u11) :: (.int u12) :: (.int u13) :: (.int u14) :: (.int u15) :: (.int (own_hex q3 (60 : Int32))) :: (.int (own_hex q3 (56 : Int32))) :: (.int ((own_hex q3 (52 : Int32)).toUInt32.toUInt16.toUInt32.toInt32)) :: (.int u19) :: (.int u20) :: (.int u21) :: (.int u22) :: (.int u23) :: (.int u24) :: (.int u25) :: (.int u26) :: (.int u27) :: (.int u28) :: (.int u29) :: (.int u30) :: (.int u31) :: (.int u32) :: (.int u33) :: (.int u34) :: (.int u35) :: (.int u36) :: (.int u37) :: (.int u38) :: (.int u39) :: (.int u40) :: (.int u41) :: (.int u42) :: (.int u43) :: (.int u44) :: (.int u45) :: (.int u46) :: (.int u47) :: []) (.int (0 : Int32)) := Arv.set Ar20 q20 Sz20 Ng20 Hs20 Gs20 (fits_nar_char _) W20 18 rfl (Nat.le_of_ble_eq_true rfl)
  rw [(show ((own_hex q3 (52 : Int32)).toUInt32.toUInt16.toUInt32.toInt32) = (own_hex q3 (52 : Int32)) from (own_hxs _ _).2.2.2.2.1)] at V20
  have Nf23 := Fr.snoc X20 Nf18 g_a1
  have kn24 : ∀ t, own_S p e below T20 (mkF m 31 #[.val (.ref a1), .val (.int (16 : Int32)), .val (.long q3), .second] []) t → Gl t := fun t kt => kn19 t (st20 _ kt)
  have kn25 : ∀ t, own_S p e below T20 (mkF m 38 #[.val (.ref a1), .val (.int (16 : Int32)), .val (.long q3), .second] [(.int (48 : Int32)), (.long q3), (.int (19 : Int32)), (.ref a1)]) t → Gl t := fun t kt => kn24 t (by
    show own_S p e below T20 (mkF m 31 #[.val (.ref a1), .val (.int (16 : Int32)), .val (.long q3), .second] []) _
    refine XS.aloadN X20.here hx rfl (hb hby d_method_4_31) rfl rfl ?_
    show own_S p e below T20 (mkF m 32 #[.val (.ref a1), .val (.int (16 : Int32)), .val (.long q3), .second] [(.ref a1)]) _
    refine XS.iloadN X20.here hx rfl (hb hby d_method_4_32) rfl ?_
    show own_S p e below T20 (mkF m 33 #[.val (.ref a1), .val (.int (16 : Int32)), .val (.long q3), .second] [(.int (16 : Int32)), (.ref a1)]) _
    refine XS.iconst X20.here hx rfl (hb hby d_method_4_33) ?_
    show own_S p e below T20 (mkF m 34 #[.val (.ref a1), .val (.int (16 : Int32)), .val (.long q3), .second] [(.int (3 : Int32)), (.int (16 : Int32)), (.ref a1)]) _
    refine XS.iadd X20.here hx rfl (hb hby d_method_4_34) rfl ?_
    rw [(by decide : ((16 : Int32) + (3 : Int32)) = (19 : Int32))]
    show own_S p e below T20 (mkF m 35 #[.val (.ref a1), .val (.int (16 : Int32)), .val (.long q3), .second] [(.int (19 : Int32)), (.ref a1)]) _
    refine XS.lloadN X20.here hx rfl (hb hby d_method_4_35) rfl ?_
    show own_S p e below T20 (mkF m 36 #[.val (.ref a1), .val (.int (16 : Int32)), .val (.long q3), .second] [(.long q3), (.int (19 : Int32)), (.ref a1)]) _
    refine XS.bipush X20.here hx rfl (hb hby d_method_4_36) ?_
    exact kt)
  obtain ⟨_, _, ⟨T26, L26, cc26, ss26⟩, -, X26, ⟨Lc26, hQ26, l26, y26, z26⟩, st26⟩ := Jvm.LawKit.callS X20 hx (y := (⟨"com/example/dual_delivery/dualdelivery/model/ReceiptHandleParsePinLaw", "hexDigit", "(JI)C"⟩ : MethodName)) hown (mvT hZ (hw _ (List.mem_of_getElem? (i := 5) rfl))) (mvT hZ (hw _ (List.mem_of_getElem? (i := 6) rfl))) (mvT hZ (hw _ (List.mem_of_getElem? (i := 3) rfl))) (mvT hZ (hw _ (List.mem_of_getElem? (i := 7) rfl))) (by decide) (backOf (W := 2) (rm2 l Z a0 hw [] q3 (48 : Int32)  h20 n0 Z21 ) hZ (hw _ (List.mem_of_getElem? (i := 7) rfl)) (hw _ (List.mem_of_getElem? (i := 3) rfl)) (by decide) (by decide)) (g := (mkF m 38 #[.val (.ref a1), .val (.int (16 : Int32)), .val (.long q3), .second] [(.int (48 : Int32)), (.long q3), (.int (19 : Int32)), (.ref a1)])) rfl (by rw [hml]; rfl) (argsL := [(.long q3), (.int (48 : Int32))]) (rest := [(.int (19 : Int32)), (.ref a1)]) (lenOf pd_0 rfl) rfl (by show 2 * 0 + _ ≤ _; exact Nat.le_of_eq rfl) (hb hby d_method_4_38) (fun _ _ => ⟨rfl, e20, (by decide : 0 + 0 ≤ _), (by decide : 0 + 0 ≤ _)⟩)
  dsimp only [Pt.U, Pt.locs, Pt.cells, Pt.slots] at X26 l26 y26 z26 st26 hQ26
  subst l26 y26 z26
  have X26 : Stand p l e _ _ m _ below meth c T26 _ 0 0 := X26
  obtain ⟨rfl, Nq26, eq26⟩ := hQ26
  have Nf26 := Fr.app Nf23 Nq26
  have kn27 : ∀ t, own_S p e below T26 (mkF m 41 #[.val (.ref a1), .val (.int (16 : Int32)), .val (.long q3), .second] [(.int (own_hex q3 (48 : Int32))), (.int (19 : Int32)), (.ref a1)]) t → Gl t := fun t kt => kn25 t (st26 _ kt)
  obtain ⟨cl28, Ar28, q28, Sz28, Ng28, Hs28, Gs28⟩ := id V20
  have hin28 : ¬ ((19 : Int32) < 0 ∨ cl28.slots.size ≤ ((19 : Int32)).toNatClampNeg) := inb_of Sz28 ⟨by decide, by decide⟩
  obtain ⟨T28, h28, X28, e28, W28, st28⟩ := stC X26 hx hZ eq26 Ar28 (j := (19 : Int32)) hin28 (g := (mkF m 41 #[.val (.ref a1), .val (.int (16 : Int32)), .val (.long q3), .second] [(.int (own_hex q3 (48 : Int32))), (.int (19 : Int32)), (.ref a1)])) rfl rfl (hb hby d_method_4_41)
  have Z29 : n0 ≤ h28.size := Nat.le_trans Z21 (Keep.of_wr W28).1
  have K30 : Keep hB h28 [a1] := K22.wr W28 (Or.inl (List.mem_of_getElem? (i := 0) rfl))
  have V28 : Arv Z h28 a1 kk1 .char (48 : Int32) ((.int u0) :: (.int u1) :: (.int u2) :: (.int u3) :: (.int u4) :: (.int u5) :: (.int u6) :: (.int u7) :: (.int u8) :: (.int u9) :: (.int u10) :: (.int u11) :: (.int u12) :: (.int u13) :: (.int u14) :: (.int u15) :: (.int (own_hex q3 (60 : Int32))) :: (.int (own_hex q3 (56 : Int32))) :: (.int (own_hex q3 (52 : Int32))) :: (.int ((own_hex q3 (48 : Int32)).toUInt32.toUInt16.toUInt32.toInt32)) :: (.int u20) :: (.int u21) :: (.int u22) :: (.int u23) :: (.int u24) :: (.int u25) :: (.int u26) :: (.int u27) :: (.int u28) :: (.int u29) :: (.int u30) :: (.int u31) :: (.int u32) :: (.int u33) :: (.int u34) :: (.int u35) :: (.int u36) :: (.int u37) :: (.int u38) :: (.int u39) :: (.int u40) :: (.int u41) :: (.int u42) :: (.int u43) :: (.int u44) :: (.int u45) :: (.int u46) :: (.int u47) :: []) (.int (0 : Int32)) := Arv.set Ar28 q28 Sz28 Ng28 Hs28 Gs28 (fits_nar_char _) W28 19 rfl (Nat.le_of_ble_eq_true rfl)
  rw [(show ((own_hex q3 (48 : Int32)).toUInt32.toUInt16.toUInt32.toInt32) = (own_hex q3 (48 : Int32)) from (own_hxs _ _).2.2.2.2.1)] at V28
  have Nf31 := Fr.snoc X28 Nf26 g_a1
  have kn32 : ∀ t, own_S p e below T28 (mkF m 42 #[.val (.ref a1), .val (.int (16 : Int32)), .val (.long q3), .second] []) t → Gl t := fun t kt => kn27 t (st28 _ kt)
  obtain ⟨s2, o2, t1, t2, t3, t4⟩ := tlp_16_1 (n0 := n0) a1 q3 kk1 u0 u1 u2 u3 u4 u5 u6 u7 u8 u9 u10 u11 u12 u13 u14 u15 u16 u17 u18 u19 u20 u21 u22 u23 u24 u25 u26 u27 u28 u29 u30 u31 u32 u33 u34 u35 u36 u37 u38 u39 u40 u41 u42 u43 u44 u45 u46 u47 hB  X28 hx hZ hw hby hml hown Bd.returns (BodyLoose.notSynchronized Bd) e28 Nf31 Z29 V28 K30 g_a1
  exact ⟨s2, o2, hGl _ (kn32 _ t1), t2, t3, t4⟩

def Q1_32 (Z : State) (a1 : Addr) (q3 : Int64) (kk1 : ClassId) (u0 : Int32) (u1 : Int32) (u2 : Int32) (u3 : Int32) (u4 : Int32) (u5 : Int32) (u6 : Int32) (u7 : Int32) (u8 : Int32) (u9 : Int32) (u10 : Int32) (u11 : Int32) (u12 : Int32) (u13 : Int32) (u14 : Int32) (u15 : Int32) (u16 : Int32) (u17 : Int32) (u18 : Int32) (u19 : Int32) (u20 : Int32) (u21 : Int32) (u22 : Int32) (u23 : Int32) (u24 : Int32) (u25 : Int32) (u26 : Int32) (u27 : Int32) (u28 : Int32) (u29 : Int32) (u30 : Int32) (u31 : Int32) (u32 : Int32) (u33 : Int32) (u34 : Int32) (u35 : Int32) (u36 : Int32) (u37 : Int32) (u38 : Int32) (u39 : Int32) (u40 : Int32) (u41 : Int32) (u42 : Int32) (u43 : Int32) (u44 : Int32) (u45 : Int32) (u46 : Int32) (u47 : Int32) (hB : Heap) (h0 : Heap) (n0 : Nat) (v : Option Value) (h : Heap) (L : List Loc) : Prop := v = none ∧ Fr n0 L ∧ Keep hB h [a1] ∧ Arv Z h a1 kk1 .char (48 : Int32) ((.int u0) :: (.int u1) :: (.int u2) :: (.int u3) :: (.int u4) :: (.int u5) :: (.int u6) :: (.int u7) :: (.int u8) :: (.int u9) :: (.int u10) :: (.int u11) :: (.int u12) :: (.int u13) :: (.int u14) :: (.int u15) :: (.int u16) :: (.int u17) :: (.int u18) :: (.int u19) :: (.int u20) :: (.int u21) :: (.int u22) :: (.int u23) :: (.int u24) :: (.int u25) :: (.int u26) :: (.int u27) :: (.int u28) :: (.int u29) :: (.int u30) :: (.int u31) :: (.int (own_hex q3 (60 : Int32))) :: (.int (own_hex q3 (56 : Int32))) :: (.int (own_hex q3 (52 : Int32))) :: (.int (own_hex q3 (48 : Int32))) :: (.int (own_hex q3 (44 : Int32))) :: (.int (own_hex q3 (40 : Int32))) :: (.int (own_hex q3 (36 : Int32))) :: (.int (own_hex q3 (32 : Int32))) :: (.int (own_hex q3 (28 : Int32))) :: (.int (own_hex q3 (24 : Int32))) :: (.int (own_hex q3 (20 : Int32))) :: (.int (own_hex q3 (16 : Int32))) :: (.int (own_hex q3 (12 : Int32))) :: (.int (own_hex q3 (8 : Int32))) :: (.int (own_hex q3 (4 : Int32))) :: (.int (own_hex q3 (0 : Int32))) :: []) (.int (0 : Int32))
set_option maxRecDepth 65536 in
set_option maxHeartbeats 40000000 in
theorem tlp_32_3 {p : Program} {l : Launch} {e : Env} {s : State} {m : MethodId} {args : Array Value} {below : List Frame} {meth : Method} {c : Code} {T0 : State} {locs : List Loc} {Z : State} {a0 : Array Value} {h0 : Heap} {n0 : Nat} (a1 : Addr) (q3 : Int64) (kk1 : ClassId) (u0 : Int32) (u1 : Int32) (u2 : Int32) (u3 : Int32) (u4 : Int32) (u5 : Int32) (u6 : Int32) (u7 : Int32) (u8 : Int32) (u9 : Int32) (u10 : Int32) (u11 : Int32) (u12 : Int32) (u13 : Int32) (u14 : Int32) (u15 : Int32) (u16 : Int32) (u17 : Int32) (u18 : Int32) (u19 : Int32) (u20 : Int32) (u21 : Int32) (u22 : Int32) (u23 : Int32) (u24 : Int32) (u25 : Int32) (u26 : Int32) (u27 : Int32) (u28 : Int32) (u29 : Int32) (u30 : Int32) (u31 : Int32) (u32 : Int32) (u33 : Int32) (u34 : Int32) (u35 : Int32) (u36 : Int32) (u37 : Int32) (u38 : Int32) (u39 : Int32) (u40 : Int32) (u41 : Int32) (u42 : Int32) (u43 : Int32) (u44 : Int32) (u45 : Int32) (u46 : Int32) (u47 : Int32) (hB : Heap)
    (X0 : Stand p l e ({ frames := 1, cells := 0, slots := 0, locals := 17 } : Room) s m args below meth c T0 locs 0 0) (hx : p.tables.exec = Jvm.exec) (hZ : Z.Warmed39 s.vm) (hw : ∀ d ∈ tables_1, d.before a0 Z = true) (hby : c.code = method_4_code) (hml : c.maxLocals = 4) (hown : s.vm.findClass "com/example/dual_delivery/dualdelivery/model/ReceiptHandleParsePinLaw" = some m.cls) (hret : meth.sig.returnType = none) (hlk : meth.locks = false) (e0 : T0.heap = h0) (Nf0 : Fr n0 locs) (Z0 : n0 ≤ h0.size) (V1 : Arv Z h0 a1 kk1 .char (48 : Int32) ((.int u0) :: (.int u1) :: (.int u2) :: (.int u3) :: (.int u4) :: (.int u5) :: (.int u6) :: (.int u7) :: (.int u8) :: (.int u9) :: (.int u10) :: (.int u11) :: (.int u12) :: (.int u13) :: (.int u14) :: (.int u15) :: (.int u16) :: (.int u17) :: (.int u18) :: (.int u19) :: (.int u20) :: (.int u21) :: (.int u22) :: (.int u23) :: (.int u24) :: (.int u25) :: (.int u26) :: (.int u27) :: (.int u28) :: (.int u29) :: (.int u30) :: (.int u31) :: (.int (own_hex q3 (60 : Int32))) :: (.int (own_hex q3 (56 : Int32))) :: (.int (own_hex q3 (52 : Int32))) :: (.int (own_hex q3 (48 : Int32))) :: (.int (own_hex q3 (44 : Int32))) :: (.int (own_hex q3 (40 : Int32))) :: (.int (own_hex q3 (36 : Int32))) :: (.int (own_hex q3 (32 : Int32))) :: (.int (own_hex q3 (28 : Int32))) :: (.int (own_hex q3 (24 : Int32))) :: (.int (own_hex q3 (20 : Int32))) :: (.int (own_hex q3 (16 : Int32))) :: (.int u44) :: (.int u45) :: (.int u46) :: (.int u47) :: []) (.int (0 : Int32))) (KB : Keep hB h0 [a1]) (g_a1 : n0 ≤ a1) :
    ∃ s₂ o, Steps p.tables e below (T0.setTop (mkF m 136 #[.val (.ref a1), .val (.int (32 : Int32)), .val (.long q3), .second] [])) s₂ ∧ s₂.status = .running ∧ Ended s₂ below o ∧ ∃ v L, o = .returned v ∧ Q1_32 Z a1 q3 kk1 u0 u1 u2 u3 u4 u5 u6 u7 u8 u9 u10 u11 u12 u13 u14 u15 u16 u17 u18 u19 u20 u21 u22 u23 u24 u25 u26 u27 u28 u29 u30 u31 u32 u33 u34 u35 u36 u37 u38 u39 u40 u41 u42 u43 u44 u45 u46 u47 hB h0 n0 v s₂.heap L ∧ FrameEnd s o s₂ L ({ frames := 1, cells := 0, slots := 0, locals := 17 } : Room).cells ({ frames := 1, cells := 0, slots := 0, locals := 17 } : Room).slots := by
  have kn0 : ∀ t, own_S p e below T0 (mkF m 136 #[.val (.ref a1), .val (.int (32 : Int32)), .val (.long q3), .second] []) t → own_S p e below T0 (mkF m 136 #[.val (.ref a1), .val (.int (32 : Int32)), .val (.long q3), .second] []) t := fun t k => k
  have kn1 : ∀ t, own_S p e below T0 (mkF m 144 #[.val (.ref a1), .val (.int (32 : Int32)), .val (.long q3), .second] [(.int (12 : Int32)), (.long q3), (.int (44 : Int32)), (.ref a1)]) t → own_S p e below T0 (mkF m 136 #[.val (.ref a1), .val (.int (32 : Int32)), .val (.long q3), .second] []) t := fun t kt => kn0 t (by
    show own_S p e below T0 (mkF m 136 #[.val (.ref a1), .val (.int (32 : Int32)), .val (.long q3), .second] []) _
    refine XS.aloadN X0.here hx rfl (hb hby d_method_4_136) rfl rfl ?_
    show own_S p e below T0 (mkF m 137 #[.val (.ref a1), .val (.int (32 : Int32)), .val (.long q3), .second] [(.ref a1)]) _
    refine XS.iloadN X0.here hx rfl (hb hby d_method_4_137) rfl ?_
    show own_S p e below T0 (mkF m 138 #[.val (.ref a1), .val (.int (32 : Int32)), .val (.long q3), .second] [(.int (32 : Int32)), (.ref a1)]) _
    refine XS.bipush X0.here hx rfl (hb hby d_method_4_138) ?_
    show own_S p e below T0 (mkF m 140 #[.val (.ref a1), .val (.int (32 : Int32)), .val (.long q3), .second] [(.int (12 : Int32)), (.int (32 : Int32)), (.ref a1)]) _
    refine XS.iadd X0.here hx rfl (hb hby d_method_4_140) rfl ?_
    rw [(by decide : ((32 : Int32) + (12 : Int32)) = (44 : Int32))]
    show own_S p e below T0 (mkF m 141 #[.val (.ref a1), .val (.int (32 : Int32)), .val (.long q3), .second] [(.int (44 : Int32)), (.ref a1)]) _
    refine XS.lloadN X0.here hx rfl (hb hby d_method_4_141) rfl ?_
    show own_S p e below T0 (mkF m 142 #[.val (.ref a1), .val (.int (32 : Int32)), .val (.long q3), .second] [(.long q3), (.int (44 : Int32)), (.ref a1)]) _
    refine XS.bipush X0.here hx rfl (hb hby d_method_4_142) ?_
    exact kt)
  obtain ⟨_, _, ⟨T2, L2, cc2, ss2⟩, -, X2, ⟨Lc2, hQ2, l2, y2, z2⟩, st2⟩ := Jvm.LawKit.callS X0 hx (y := (⟨"com/example/dual_delivery/dualdelivery/model/ReceiptHandleParsePinLaw", "hexDigit", "(JI)C"⟩ : MethodName)) hown (mvT hZ (hw _ (List.mem_of_getElem? (i := 5) rfl))) (mvT hZ (hw _ (List.mem_of_getElem? (i := 6) rfl))) (mvT hZ (hw _ (List.mem_of_getElem? (i := 3) rfl))) (mvT hZ (hw _ (List.mem_of_getElem? (i := 7) rfl))) (by decide) (backOf (W := 2) (rm2 l Z a0 hw [] q3 (12 : Int32)  h0 n0 Z0 ) hZ (hw _ (List.mem_of_getElem? (i := 7) rfl)) (hw _ (List.mem_of_getElem? (i := 3) rfl)) (by decide) (by decide)) (g := (mkF m 144 #[.val (.ref a1), .val (.int (32 : Int32)), .val (.long q3), .second] [(.int (12 : Int32)), (.long q3), (.int (44 : Int32)), (.ref a1)])) rfl (by rw [hml]; rfl) (argsL := [(.long q3), (.int (12 : Int32))]) (rest := [(.int (44 : Int32)), (.ref a1)]) (lenOf pd_0 rfl) rfl (by show 2 * 0 + _ ≤ _; exact Nat.le_of_eq rfl) (hb hby d_method_4_144) (fun _ _ => ⟨rfl, e0, (by decide : 0 + 0 ≤ _), (by decide : 0 + 0 ≤ _)⟩)
  dsimp only [Pt.U, Pt.locs, Pt.cells, Pt.slots] at X2 l2 y2 z2 st2 hQ2
  subst l2 y2 z2
  have X2 : Stand p l e _ _ m _ below meth c T2 _ 0 0 := X2
  obtain ⟨rfl, Nq2, eq2⟩ := hQ2
  have Nf2 := Fr.app Nf0 Nq2
  have kn3 : ∀ t, own_S p e below T2 (mkF m 147 #[.val (.ref a1), .val (.int (32 : Int32)), .val (.long q3), .second] [(.int (own_hex q3 (12 : Int32))), (.int (44 : Int32)), (.ref a1)]) t → own_S p e below T0 (mkF m 136 #[.val (.ref a1), .val (.int (32 : Int32)), .val (.long q3), .second] []) t := fun t kt => kn1 t (st2 _ kt)
  obtain ⟨cl4, Ar4, q4, Sz4, Ng4, Hs4, Gs4⟩ := id V1
  have hin4 : ¬ ((44 : Int32) < 0 ∨ cl4.slots.size ≤ ((44 : Int32)).toNatClampNeg) := inb_of Sz4 ⟨by decide, by decide⟩
  obtain ⟨T4, h4, X4, e4, W4, st4⟩ := stC X2 hx hZ eq2 Ar4 (j := (44 : Int32)) hin4 (g := (mkF m 147 #[.val (.ref a1), .val (.int (32 : Int32)), .val (.long q3), .second] [(.int (own_hex q3 (12 : Int32))), (.int (44 : Int32)), (.ref a1)])) rfl rfl (hb hby d_method_4_147)
  have Z5 : n0 ≤ h4.size := Nat.le_trans Z0 (Keep.of_wr W4).1
  have K6 : Keep hB h4 [a1] := KB.wr W4 (Or.inl (List.mem_of_getElem? (i := 0) rfl))
  have V4 : Arv Z h4 a1 kk1 .char (48 : Int32) ((.int u0) :: (.int u1) :: (.int u2) :: (.int u3) :: (.int u4) :: (.int u5) :: (.int u6) :: (.int u7) :: (.int u8) :: (.int u9) :: (.int u10) :: (.int u11) :: (.int u12) :: (.int u13) :: (.int u14) :: (.int u15) :: (.int u16) :: (.int u17) :: (.int u18) :: (.int u19) :: (.int u20) :: (.int u21) :: (.int u22) :: (.int u23) :: (.int u24) :: (.int u25) :: (.int u26) :: (.int u27) :: (.int u28) :: (.int u29) :: (.int u30) :: (.int u31) :: (.int (own_hex q3 (60 : Int32))) :: (.int (own_hex q3 (56 : Int32))) :: (.int (own_hex q3 (52 : Int32))) :: (.int (own_hex q3 (48 : Int32))) :: (.int (own_hex q3 (44 : Int32))) :: (.int (own_hex q3 (40 : Int32))) :: (.int (own_hex q3 (36 : Int32))) :: (.int (own_hex q3 (32 : Int32))) :: (.int (own_hex q3 (28 : Int32))) :: (.int (own_hex q3 (24 : Int32))) :: (.int (own_hex q3 (20 : Int32))) :: (.int (own_hex q3 (16 : Int32))) :: (.int ((own_hex q3 (12 : Int32)).toUInt32.toUInt16.toUInt32.toInt32)) :: (.int u45) :: (.int u46) :: (.int u47) :: []) (.int (0 : Int32)) := Arv.set Ar4 q4 Sz4 Ng4 Hs4 Gs4 (fits_nar_char _) W4 44 rfl (Nat.le_of_ble_eq_true rfl)
  rw [(show ((own_hex q3 (12 : Int32)).toUInt32.toUInt16.toUInt32.toInt32) = (own_hex q3 (12 : Int32)) from (own_hxs _ _).2.2.2.2.1)] at V4
  have Nf7 := Fr.snoc X4 Nf2 g_a1
  have kn8 : ∀ t, own_S p e below T4 (mkF m 148 #[.val (.ref a1), .val (.int (32 : Int32)), .val (.long q3), .second] []) t → own_S p e below T0 (mkF m 136 #[.val (.ref a1), .val (.int (32 : Int32)), .val (.long q3), .second] []) t := fun t kt => kn3 t (st4 _ kt)
  have kn9 : ∀ t, own_S p e below T4 (mkF m 156 #[.val (.ref a1), .val (.int (32 : Int32)), .val (.long q3), .second] [(.int (8 : Int32)), (.long q3), (.int (45 : Int32)), (.ref a1)]) t → own_S p e below T0 (mkF m 136 #[.val (.ref a1), .val (.int (32 : Int32)), .val (.long q3), .second] []) t := fun t kt => kn8 t (by
    show own_S p e below T4 (mkF m 148 #[.val (.ref a1), .val (.int (32 : Int32)), .val (.long q3), .second] []) _
    refine XS.aloadN X4.here hx rfl (hb hby d_method_4_148) rfl rfl ?_
    show own_S p e below T4 (mkF m 149 #[.val (.ref a1), .val (.int (32 : Int32)), .val (.long q3), .second] [(.ref a1)]) _
    refine XS.iloadN X4.here hx rfl (hb hby d_method_4_149) rfl ?_
    show own_S p e below T4 (mkF m 150 #[.val (.ref a1), .val (.int (32 : Int32)), .val (.long q3), .second] [(.int (32 : Int32)), (.ref a1)]) _
    refine XS.bipush X4.here hx rfl (hb hby d_method_4_150) ?_
    show own_S p e below T4 (mkF m 152 #[.val (.ref a1), .val (.int (32 : Int32)), .val (.long q3), .second] [(.int (13 : Int32)), (.int (32 : Int32)), (.ref a1)]) _
    refine XS.iadd X4.here hx rfl (hb hby d_method_4_152) rfl ?_
    rw [(by decide : ((32 : Int32) + (13 : Int32)) = (45 : Int32))]
    show own_S p e below T4 (mkF m 153 #[.val (.ref a1), .val (.int (32 : Int32)), .val (.long q3), .second] [(.int (45 : Int32)), (.ref a1)]) _
    refine XS.lloadN X4.here hx rfl (hb hby d_method_4_153) rfl ?_
    show own_S p e below T4 (mkF m 154 #[.val (.ref a1), .val (.int (32 : Int32)), .val (.long q3), .second] [(.long q3), (.int (45 : Int32)), (.ref a1)]) _
    refine XS.bipush X4.here hx rfl (hb hby d_method_4_154) ?_
    exact kt)
  obtain ⟨_, _, ⟨T10, L10, cc10, ss10⟩, -, X10, ⟨Lc10, hQ10, l10, y10, z10⟩, st10⟩ := Jvm.LawKit.callS X4 hx (y := (⟨"com/example/dual_delivery/dualdelivery/model/ReceiptHandleParsePinLaw", "hexDigit", "(JI)C"⟩ : MethodName)) hown (mvT hZ (hw _ (List.mem_of_getElem? (i := 5) rfl))) (mvT hZ (hw _ (List.mem_of_getElem? (i := 6) rfl))) (mvT hZ (hw _ (List.mem_of_getElem? (i := 3) rfl))) (mvT hZ (hw _ (List.mem_of_getElem? (i := 7) rfl))) (by decide) (backOf (W := 2) (rm2 l Z a0 hw [] q3 (8 : Int32)  h4 n0 Z5 ) hZ (hw _ (List.mem_of_getElem? (i := 7) rfl)) (hw _ (List.mem_of_getElem? (i := 3) rfl)) (by decide) (by decide)) (g := (mkF m 156 #[.val (.ref a1), .val (.int (32 : Int32)), .val (.long q3), .second] [(.int (8 : Int32)), (.long q3), (.int (45 : Int32)), (.ref a1)])) rfl (by rw [hml]; rfl) (argsL := [(.long q3), (.int (8 : Int32))]) (rest := [(.int (45 : Int32)), (.ref a1)]) (lenOf pd_0 rfl) rfl (by show 2 * 0 + _ ≤ _; exact Nat.le_of_eq rfl) (hb hby d_method_4_156) (fun _ _ => ⟨rfl, e4, (by decide : 0 + 0 ≤ _), (by decide : 0 + 0 ≤ _)⟩)
  dsimp only [Pt.U, Pt.locs, Pt.cells, Pt.slots] at X10 l10 y10 z10 st10 hQ10
  subst l10 y10 z10
  have X10 : Stand p l e _ _ m _ below meth c T10 _ 0 0 := X10
  obtain ⟨rfl, Nq10, eq10⟩ := hQ10
  have Nf10 := Fr.app Nf7 Nq10
  have kn11 : ∀ t, own_S p e below T10 (mkF m 159 #[.val (.ref a1), .val (.int (32 : Int32)), .val (.long q3), .second] [(.int (own_hex q3 (8 : Int32))), (.int (45 : Int32)), (.ref a1)]) t → own_S p e below T0 (mkF m 136 #[.val (.ref a1), .val (.int (32 : Int32)), .val (.long q3), .second] []) t := fun t kt => kn9 t (st10 _ kt)
  obtain ⟨cl12, Ar12, q12, Sz12, Ng12, Hs12, Gs12⟩ := id V4
  have hin12 : ¬ ((45 : Int32) < 0 ∨ cl12.slots.size ≤ ((45 : Int32)).toNatClampNeg) := inb_of Sz12 ⟨by decide, by decide⟩
  obtain ⟨T12, h12, X12, e12, W12, st12⟩ := stC X10 hx hZ eq10 Ar12 (j := (45 : Int32)) hin12 (g := (mkF m 159 #[.val (.ref a1), .val (.int (32 : Int32)), .val (.long q3), .second] [(.int (own_hex q3 (8 : Int32))), (.int (45 : Int32)), (.ref a1)])) rfl rfl (hb hby d_method_4_159)
  have Z13 : n0 ≤ h12.size := Nat.le_trans Z5 (Keep.of_wr W12).1
  have K14 : Keep hB h12 [a1] := K6.wr W12 (Or.inl (List.mem_of_getElem? (i := 0) rfl))
  have V12 : Arv Z h12 a1 kk1 .char (48 : Int32) ((.int u0) :: (.int u1) :: (.int u2) :: (.int u3) :: (.int u4) :: (.int u5) :: (.int u6) :: (.int u7) :: (.int u8) :: (.int u9) :: (.int u10) :: (.int u11) :: (.int u12) :: (.int u13) :: (.int u14) :: (.int u15) :: (.int u16) :: (.int u17) :: (.int u18) :: (.int u19) :: (.int u20) :: (.int u21) :: (.int u22) :: (.int u23) :: (.int u24) :: (.int u25) :: (.int u26) :: (.int u27) :: (.int u28) :: (.int u29) :: (.int u30) :: (.int u31) :: (.int (own_hex q3 (60 : Int32))) :: (.int (own_hex q3 (56 : Int32))) :: (.int (own_hex q3 (52 : Int32))) :: (.int (own_hex q3 (48 : Int32))) :: (.int (own_hex q3 (44 : Int32))) :: (.int (own_hex q3 (40 : Int32))) :: (.int (own_hex q3 (36 : Int32))) :: (.int (own_hex q3 (32 : Int32))) :: (.int (own_hex q3 (28 : Int32))) :: (.int (own_hex q3 (24 : Int32))) :: (.int (own_hex q3 (20 : Int32))) :: (.int (own_hex q3 (16 : Int32))) :: (.int (own_hex q3 (12 : Int32))) :: (.int ((own_hex q3 (8 : Int32)).toUInt32.toUInt16.toUInt32.toInt32)) :: (.int u46) :: (.int u47) :: []) (.int (0 : Int32)) := Arv.set Ar12 q12 Sz12 Ng12 Hs12 Gs12 (fits_nar_char _) W12 45 rfl (Nat.le_of_ble_eq_true rfl)
  rw [(show ((own_hex q3 (8 : Int32)).toUInt32.toUInt16.toUInt32.toInt32) = (own_hex q3 (8 : Int32)) from (own_hxs _ _).2.2.2.2.1)] at V12
  have Nf15 := Fr.snoc X12 Nf10 g_a1
  have kn16 : ∀ t, own_S p e below T12 (mkF m 160 #[.val (.ref a1), .val (.int (32 : Int32)), .val (.long q3), .second] []) t → own_S p e below T0 (mkF m 136 #[.val (.ref a1), .val (.int (32 : Int32)), .val (.long q3), .second] []) t := fun t kt => kn11 t (st12 _ kt)
  have kn17 : ∀ t, own_S p e below T12 (mkF m 167 #[.val (.ref a1), .val (.int (32 : Int32)), .val (.long q3), .second] [(.int (4 : Int32)), (.long q3), (.int (46 : Int32)), (.ref a1)]) t → own_S p e below T0 (mkF m 136 #[.val (.ref a1), .val (.int (32 : Int32)), .val (.long q3), .second] []) t := fun t kt => kn16 t (by
    show own_S p e below T12 (mkF m 160 #[.val (.ref a1), .val (.int (32 : Int32)), .val (.long q3), .second] []) _
    refine XS.aloadN X12.here hx rfl (hb hby d_method_4_160) rfl rfl ?_
    show own_S p e below T12 (mkF m 161 #[.val (.ref a1), .val (.int (32 : Int32)), .val (.long q3), .second] [(.ref a1)]) _
    refine XS.iloadN X12.here hx rfl (hb hby d_method_4_161) rfl ?_
    show own_S p e below T12 (mkF m 162 #[.val (.ref a1), .val (.int (32 : Int32)), .val (.long q3), .second] [(.int (32 : Int32)), (.ref a1)]) _
    refine XS.bipush X12.here hx rfl (hb hby d_method_4_162) ?_
    show own_S p e below T12 (mkF m 164 #[.val (.ref a1), .val (.int (32 : Int32)), .val (.long q3), .second] [(.int (14 : Int32)), (.int (32 : Int32)), (.ref a1)]) _
    refine XS.iadd X12.here hx rfl (hb hby d_method_4_164) rfl ?_
    rw [(by decide : ((32 : Int32) + (14 : Int32)) = (46 : Int32))]
    show own_S p e below T12 (mkF m 165 #[.val (.ref a1), .val (.int (32 : Int32)), .val (.long q3), .second] [(.int (46 : Int32)), (.ref a1)]) _
    refine XS.lloadN X12.here hx rfl (hb hby d_method_4_165) rfl ?_
    show own_S p e below T12 (mkF m 166 #[.val (.ref a1), .val (.int (32 : Int32)), .val (.long q3), .second] [(.long q3), (.int (46 : Int32)), (.ref a1)]) _
    refine XS.iconst X12.here hx rfl (hb hby d_method_4_166) ?_
    exact kt)
  obtain ⟨_, _, ⟨T18, L18, cc18, ss18⟩, -, X18, ⟨Lc18, hQ18, l18, y18, z18⟩, st18⟩ := Jvm.LawKit.callS X12 hx (y := (⟨"com/example/dual_delivery/dualdelivery/model/ReceiptHandleParsePinLaw", "hexDigit", "(JI)C"⟩ : MethodName)) hown (mvT hZ (hw _ (List.mem_of_getElem? (i := 5) rfl))) (mvT hZ (hw _ (List.mem_of_getElem? (i := 6) rfl))) (mvT hZ (hw _ (List.mem_of_getElem? (i := 3) rfl))) (mvT hZ (hw _ (List.mem_of_getElem? (i := 7) rfl))) (by decide) (backOf (W := 2) (rm2 l Z a0 hw [] q3 (4 : Int32)  h12 n0 Z13 ) hZ (hw _ (List.mem_of_getElem? (i := 7) rfl)) (hw _ (List.mem_of_getElem? (i := 3) rfl)) (by decide) (by decide)) (g := (mkF m 167 #[.val (.ref a1), .val (.int (32 : Int32)), .val (.long q3), .second] [(.int (4 : Int32)), (.long q3), (.int (46 : Int32)), (.ref a1)])) rfl (by rw [hml]; rfl) (argsL := [(.long q3), (.int (4 : Int32))]) (rest := [(.int (46 : Int32)), (.ref a1)]) (lenOf pd_0 rfl) rfl (by show 2 * 0 + _ ≤ _; exact Nat.le_of_eq rfl) (hb hby d_method_4_167) (fun _ _ => ⟨rfl, e12, (by decide : 0 + 0 ≤ _), (by decide : 0 + 0 ≤ _)⟩)
  dsimp only [Pt.U, Pt.locs, Pt.cells, Pt.slots] at X18 l18 y18 z18 st18 hQ18
  subst l18 y18 z18
  have X18 : Stand p l e _ _ m _ below meth c T18 _ 0 0 := X18
  obtain ⟨rfl, Nq18, eq18⟩ := hQ18
  have Nf18 := Fr.app Nf15 Nq18
  have kn19 : ∀ t, own_S p e below T18 (mkF m 170 #[.val (.ref a1), .val (.int (32 : Int32)), .val (.long q3), .second] [(.int (own_hex q3 (4 : Int32))), (.int (46 : Int32)), (.ref a1)]) t → own_S p e below T0 (mkF m 136 #[.val (.ref a1), .val (.int (32 : Int32)), .val (.long q3), .second] []) t := fun t kt => kn17 t (st18 _ kt)
  obtain ⟨cl20, Ar20, q20, Sz20, Ng20, Hs20, Gs20⟩ := id V12
  have hin20 : ¬ ((46 : Int32) < 0 ∨ cl20.slots.size ≤ ((46 : Int32)).toNatClampNeg) := inb_of Sz20 ⟨by decide, by decide⟩
  obtain ⟨T20, h20, X20, e20, W20, st20⟩ := stC X18 hx hZ eq18 Ar20 (j := (46 : Int32)) hin20 (g := (mkF m 170 #[.val (.ref a1), .val (.int (32 : Int32)), .val (.long q3), .second] [(.int (own_hex q3 (4 : Int32))), (.int (46 : Int32)), (.ref a1)])) rfl rfl (hb hby d_method_4_170)
  have Z21 : n0 ≤ h20.size := Nat.le_trans Z13 (Keep.of_wr W20).1
  have K22 : Keep hB h20 [a1] := K14.wr W20 (Or.inl (List.mem_of_getElem? (i := 0) rfl))
  have V20 : Arv Z h20 a1 kk1 .char (48 : Int32) ((.int u0) :: (.int u1) :: (.int u2) :: (.int u3) :: (.int u4) :: (.int u5) :: (.int u6) :: (.int u7) :: (.int u8) :: (.int u9) :: (.int u10) :: (.int u11) :: (.int u12) :: (.int u13) :: (.int u14) :: (.int u15) :: (.int u16) :: (.int u17) :: (.int u18) :: (.int u19) :: (.int u20) :: (.int u21) :: (.int u22) :: (.int u23) :: (.int u24) :: (.int u25) :: (.int u26) :: (.int u27) :: (.int u28) :: (.int u29) :: (.int u30) :: (.int u31) :: (.int (own_hex q3 (60 : Int32))) :: (.int (own_hex q3 (56 : Int32))) :: (.int (own_hex q3 (52 : Int32))) :: (.int (own_hex q3 (48 : Int32))) :: (.int (own_hex q3 (44 : Int32))) :: (.int (own_hex q3 (40 : Int32))) :: (.int (own_hex q3 (36 : Int32))) :: (.int (own_hex q3 (32 : Int32))) :: (.int (own_hex q3 (28 : Int32))) :: (.int (own_hex q3 (24 : Int32))) :: (.int (own_hex q3 (20 : Int32))) :: (.int (own_hex q3 (16 : Int32))) :: (.int (own_hex q3 (12 : Int32))) :: (.int (own_hex q3 (8 : Int32))) :: (.int ((own_hex q3 (4 : Int32)).toUInt32.toUInt16.toUInt32.toInt32)) :: (.int u47) :: []) (.int (0 : Int32)) := Arv.set Ar20 q20 Sz20 Ng20 Hs20 Gs20 (fits_nar_char _) W20 46 rfl (Nat.le_of_ble_eq_true rfl)
  rw [(show ((own_hex q3 (4 : Int32)).toUInt32.toUInt16.toUInt32.toInt32) = (own_hex q3 (4 : Int32)) from (own_hxs _ _).2.2.2.2.1)] at V20
  have Nf23 := Fr.snoc X20 Nf18 g_a1
  have kn24 : ∀ t, own_S p e below T20 (mkF m 171 #[.val (.ref a1), .val (.int (32 : Int32)), .val (.long q3), .second] []) t → own_S p e below T0 (mkF m 136 #[.val (.ref a1), .val (.int (32 : Int32)), .val (.long q3), .second] []) t := fun t kt => kn19 t (st20 _ kt)
  have kn25 : ∀ t, own_S p e below T20 (mkF m 178 #[.val (.ref a1), .val (.int (32 : Int32)), .val (.long q3), .second] [(.int (0 : Int32)), (.long q3), (.int (47 : Int32)), (.ref a1)]) t → own_S p e below T0 (mkF m 136 #[.val (.ref a1), .val (.int (32 : Int32)), .val (.long q3), .second] []) t := fun t kt => kn24 t (by
    show own_S p e below T20 (mkF m 171 #[.val (.ref a1), .val (.int (32 : Int32)), .val (.long q3), .second] []) _
    refine XS.aloadN X20.here hx rfl (hb hby d_method_4_171) rfl rfl ?_
    show own_S p e below T20 (mkF m 172 #[.val (.ref a1), .val (.int (32 : Int32)), .val (.long q3), .second] [(.ref a1)]) _
    refine XS.iloadN X20.here hx rfl (hb hby d_method_4_172) rfl ?_
    show own_S p e below T20 (mkF m 173 #[.val (.ref a1), .val (.int (32 : Int32)), .val (.long q3), .second] [(.int (32 : Int32)), (.ref a1)]) _
    refine XS.bipush X20.here hx rfl (hb hby d_method_4_173) ?_
    show own_S p e below T20 (mkF m 175 #[.val (.ref a1), .val (.int (32 : Int32)), .val (.long q3), .second] [(.int (15 : Int32)), (.int (32 : Int32)), (.ref a1)]) _
    refine XS.iadd X20.here hx rfl (hb hby d_method_4_175) rfl ?_
    rw [(by decide : ((32 : Int32) + (15 : Int32)) = (47 : Int32))]
    show own_S p e below T20 (mkF m 176 #[.val (.ref a1), .val (.int (32 : Int32)), .val (.long q3), .second] [(.int (47 : Int32)), (.ref a1)]) _
    refine XS.lloadN X20.here hx rfl (hb hby d_method_4_176) rfl ?_
    show own_S p e below T20 (mkF m 177 #[.val (.ref a1), .val (.int (32 : Int32)), .val (.long q3), .second] [(.long q3), (.int (47 : Int32)), (.ref a1)]) _
    refine XS.iconst X20.here hx rfl (hb hby d_method_4_177) ?_
    exact kt)
  obtain ⟨_, _, ⟨T26, L26, cc26, ss26⟩, -, X26, ⟨Lc26, hQ26, l26, y26, z26⟩, st26⟩ := Jvm.LawKit.callS X20 hx (y := (⟨"com/example/dual_delivery/dualdelivery/model/ReceiptHandleParsePinLaw", "hexDigit", "(JI)C"⟩ : MethodName)) hown (mvT hZ (hw _ (List.mem_of_getElem? (i := 5) rfl))) (mvT hZ (hw _ (List.mem_of_getElem? (i := 6) rfl))) (mvT hZ (hw _ (List.mem_of_getElem? (i := 3) rfl))) (mvT hZ (hw _ (List.mem_of_getElem? (i := 7) rfl))) (by decide) (backOf (W := 2) (rm2 l Z a0 hw [] q3 (0 : Int32)  h20 n0 Z21 ) hZ (hw _ (List.mem_of_getElem? (i := 7) rfl)) (hw _ (List.mem_of_getElem? (i := 3) rfl)) (by decide) (by decide)) (g := (mkF m 178 #[.val (.ref a1), .val (.int (32 : Int32)), .val (.long q3), .second] [(.int (0 : Int32)), (.long q3), (.int (47 : Int32)), (.ref a1)])) rfl (by rw [hml]; rfl) (argsL := [(.long q3), (.int (0 : Int32))]) (rest := [(.int (47 : Int32)), (.ref a1)]) (lenOf pd_0 rfl) rfl (by show 2 * 0 + _ ≤ _; exact Nat.le_of_eq rfl) (hb hby d_method_4_178) (fun _ _ => ⟨rfl, e20, (by decide : 0 + 0 ≤ _), (by decide : 0 + 0 ≤ _)⟩)
  dsimp only [Pt.U, Pt.locs, Pt.cells, Pt.slots] at X26 l26 y26 z26 st26 hQ26
  subst l26 y26 z26
  have X26 : Stand p l e _ _ m _ below meth c T26 _ 0 0 := X26
  obtain ⟨rfl, Nq26, eq26⟩ := hQ26
  have Nf26 := Fr.app Nf23 Nq26
  have kn27 : ∀ t, own_S p e below T26 (mkF m 181 #[.val (.ref a1), .val (.int (32 : Int32)), .val (.long q3), .second] [(.int (own_hex q3 (0 : Int32))), (.int (47 : Int32)), (.ref a1)]) t → own_S p e below T0 (mkF m 136 #[.val (.ref a1), .val (.int (32 : Int32)), .val (.long q3), .second] []) t := fun t kt => kn25 t (st26 _ kt)
  obtain ⟨cl28, Ar28, q28, Sz28, Ng28, Hs28, Gs28⟩ := id V20
  have hin28 : ¬ ((47 : Int32) < 0 ∨ cl28.slots.size ≤ ((47 : Int32)).toNatClampNeg) := inb_of Sz28 ⟨by decide, by decide⟩
  obtain ⟨T28, h28, X28, e28, W28, st28⟩ := stC X26 hx hZ eq26 Ar28 (j := (47 : Int32)) hin28 (g := (mkF m 181 #[.val (.ref a1), .val (.int (32 : Int32)), .val (.long q3), .second] [(.int (own_hex q3 (0 : Int32))), (.int (47 : Int32)), (.ref a1)])) rfl rfl (hb hby d_method_4_181)
  have Z29 : n0 ≤ h28.size := Nat.le_trans Z21 (Keep.of_wr W28).1
  have K30 : Keep hB h28 [a1] := K22.wr W28 (Or.inl (List.mem_of_getElem? (i := 0) rfl))
  have V28 : Arv Z h28 a1 kk1 .char (48 : Int32) ((.int u0) :: (.int u1) :: (.int u2) :: (.int u3) :: (.int u4) :: (.int u5) :: (.int u6) :: (.int u7) :: (.int u8) :: (.int u9) :: (.int u10) :: (.int u11) :: (.int u12) :: (.int u13) :: (.int u14) :: (.int u15) :: (.int u16) :: (.int u17) :: (.int u18) :: (.int u19) :: (.int u20) :: (.int u21) :: (.int u22) :: (.int u23) :: (.int u24) :: (.int u25) :: (.int u26) :: (.int u27) :: (.int u28) :: (.int u29) :: (.int u30) :: (.int u31) :: (.int (own_hex q3 (60 : Int32))) :: (.int (own_hex q3 (56 : Int32))) :: (.int (own_hex q3 (52 : Int32))) :: (.int (own_hex q3 (48 : Int32))) :: (.int (own_hex q3 (44 : Int32))) :: (.int (own_hex q3 (40 : Int32))) :: (.int (own_hex q3 (36 : Int32))) :: (.int (own_hex q3 (32 : Int32))) :: (.int (own_hex q3 (28 : Int32))) :: (.int (own_hex q3 (24 : Int32))) :: (.int (own_hex q3 (20 : Int32))) :: (.int (own_hex q3 (16 : Int32))) :: (.int (own_hex q3 (12 : Int32))) :: (.int (own_hex q3 (8 : Int32))) :: (.int (own_hex q3 (4 : Int32))) :: (.int ((own_hex q3 (0 : Int32)).toUInt32.toUInt16.toUInt32.toInt32)) :: []) (.int (0 : Int32)) := Arv.set Ar28 q28 Sz28 Ng28 Hs28 Gs28 (fits_nar_char _) W28 47 rfl (Nat.le_of_ble_eq_true rfl)
  rw [(show ((own_hex q3 (0 : Int32)).toUInt32.toUInt16.toUInt32.toInt32) = (own_hex q3 (0 : Int32)) from (own_hxs _ _).2.2.2.2.1)] at V28
  have Nf31 := Fr.snoc X28 Nf26 g_a1
  have kn32 : ∀ t, own_S p e below T28 (mkF m 182 #[.val (.ref a1), .val (.int (32 : Int32)), .val (.long q3), .second] []) t → own_S p e below T0 (mkF m 136 #[.val (.ref a1), .val (.int (32 : Int32)), .val (.long q3), .second] []) t := fun t kt => kn27 t (st28 _ kt)
  obtain ⟨fs, hr, hrun, hended, hW, hsame⟩ := X28.leave (v := none) (fun _ => rfl)
  refine ⟨_, _, id (kn32 _ (X28.returnOut hx hret (hb hby d_method_4_182) hr)), hrun, hended, _, _, rfl, ?_, ⟨_, rfl⟩, hW, hsame.mono (by decide) (by decide)⟩
  show Q1_32 Z a1 q3 kk1 u0 u1 u2 u3 u4 u5 u6 u7 u8 u9 u10 u11 u12 u13 u14 u15 u16 u17 u18 u19 u20 u21 u22 u23 u24 u25 u26 u27 u28 u29 u30 u31 u32 u33 u34 u35 u36 u37 u38 u39 u40 u41 u42 u43 u44 u45 u46 u47 hB h0 n0 _ T28.heap _
  rw [e28]
  exact ⟨rfl, Nf31, K30, V28⟩

set_option maxRecDepth 65536 in
set_option maxHeartbeats 40000000 in
theorem tlp_32_2 {p : Program} {l : Launch} {e : Env} {s : State} {m : MethodId} {args : Array Value} {below : List Frame} {meth : Method} {c : Code} {T0 : State} {locs : List Loc} {Z : State} {a0 : Array Value} {h0 : Heap} {n0 : Nat} (a1 : Addr) (q3 : Int64) (kk1 : ClassId) (u0 : Int32) (u1 : Int32) (u2 : Int32) (u3 : Int32) (u4 : Int32) (u5 : Int32) (u6 : Int32) (u7 : Int32) (u8 : Int32) (u9 : Int32) (u10 : Int32) (u11 : Int32) (u12 : Int32) (u13 : Int32) (u14 : Int32) (u15 : Int32) (u16 : Int32) (u17 : Int32) (u18 : Int32) (u19 : Int32) (u20 : Int32) (u21 : Int32) (u22 : Int32) (u23 : Int32) (u24 : Int32) (u25 : Int32) (u26 : Int32) (u27 : Int32) (u28 : Int32) (u29 : Int32) (u30 : Int32) (u31 : Int32) (u32 : Int32) (u33 : Int32) (u34 : Int32) (u35 : Int32) (u36 : Int32) (u37 : Int32) (u38 : Int32) (u39 : Int32) (u40 : Int32) (u41 : Int32) (u42 : Int32) (u43 : Int32) (u44 : Int32) (u45 : Int32) (u46 : Int32) (u47 : Int32) (hB : Heap)
    (X0 : Stand p l e ({ frames := 1, cells := 0, slots := 0, locals := 17 } : Room) s m args below meth c T0 locs 0 0) (hx : p.tables.exec = Jvm.exec) (hZ : Z.Warmed39 s.vm) (hw : ∀ d ∈ tables_1, d.before a0 Z = true) (hby : c.code = method_4_code) (hml : c.maxLocals = 4) (hown : s.vm.findClass "com/example/dual_delivery/dualdelivery/model/ReceiptHandleParsePinLaw" = some m.cls) (hret : meth.sig.returnType = none) (hlk : meth.locks = false) (e0 : T0.heap = h0) (Nf0 : Fr n0 locs) (Z0 : n0 ≤ h0.size) (V1 : Arv Z h0 a1 kk1 .char (48 : Int32) ((.int u0) :: (.int u1) :: (.int u2) :: (.int u3) :: (.int u4) :: (.int u5) :: (.int u6) :: (.int u7) :: (.int u8) :: (.int u9) :: (.int u10) :: (.int u11) :: (.int u12) :: (.int u13) :: (.int u14) :: (.int u15) :: (.int u16) :: (.int u17) :: (.int u18) :: (.int u19) :: (.int u20) :: (.int u21) :: (.int u22) :: (.int u23) :: (.int u24) :: (.int u25) :: (.int u26) :: (.int u27) :: (.int u28) :: (.int u29) :: (.int u30) :: (.int u31) :: (.int (own_hex q3 (60 : Int32))) :: (.int (own_hex q3 (56 : Int32))) :: (.int (own_hex q3 (52 : Int32))) :: (.int (own_hex q3 (48 : Int32))) :: (.int (own_hex q3 (44 : Int32))) :: (.int (own_hex q3 (40 : Int32))) :: (.int (own_hex q3 (36 : Int32))) :: (.int (own_hex q3 (32 : Int32))) :: (.int u40) :: (.int u41) :: (.int u42) :: (.int u43) :: (.int u44) :: (.int u45) :: (.int u46) :: (.int u47) :: []) (.int (0 : Int32))) (KB : Keep hB h0 [a1]) (g_a1 : n0 ≤ a1) :
    ∃ s₂ o, Steps p.tables e below (T0.setTop (mkF m 88 #[.val (.ref a1), .val (.int (32 : Int32)), .val (.long q3), .second] [])) s₂ ∧ s₂.status = .running ∧ Ended s₂ below o ∧ ∃ v L, o = .returned v ∧ Q1_32 Z a1 q3 kk1 u0 u1 u2 u3 u4 u5 u6 u7 u8 u9 u10 u11 u12 u13 u14 u15 u16 u17 u18 u19 u20 u21 u22 u23 u24 u25 u26 u27 u28 u29 u30 u31 u32 u33 u34 u35 u36 u37 u38 u39 u40 u41 u42 u43 u44 u45 u46 u47 hB h0 n0 v s₂.heap L ∧ FrameEnd s o s₂ L ({ frames := 1, cells := 0, slots := 0, locals := 17 } : Room).cells ({ frames := 1, cells := 0, slots := 0, locals := 17 } : Room).slots := by
  have kn0 : ∀ t, own_S p e below T0 (mkF m 88 #[.val (.ref a1), .val (.int (32 : Int32)), .val (.long q3), .second] []) t → own_S p e below T0 (mkF m 88 #[.val (.ref a1), .val (.int (32 : Int32)), .val (.long q3), .second] []) t := fun t k => k
  have kn1 : ∀ t, own_S p e below T0 (mkF m 96 #[.val (.ref a1), .val (.int (32 : Int32)), .val (.long q3), .second] [(.int (28 : Int32)), (.long q3), (.int (40 : Int32)), (.ref a1)]) t → own_S p e below T0 (mkF m 88 #[.val (.ref a1), .val (.int (32 : Int32)), .val (.long q3), .second] []) t := fun t kt => kn0 t (by
    show own_S p e below T0 (mkF m 88 #[.val (.ref a1), .val (.int (32 : Int32)), .val (.long q3), .second] []) _
    refine XS.aloadN X0.here hx rfl (hb hby d_method_4_88) rfl rfl ?_
    show own_S p e below T0 (mkF m 89 #[.val (.ref a1), .val (.int (32 : Int32)), .val (.long q3), .second] [(.ref a1)]) _
    refine XS.iloadN X0.here hx rfl (hb hby d_method_4_89) rfl ?_
    show own_S p e below T0 (mkF m 90 #[.val (.ref a1), .val (.int (32 : Int32)), .val (.long q3), .second] [(.int (32 : Int32)), (.ref a1)]) _
    refine XS.bipush X0.here hx rfl (hb hby d_method_4_90) ?_
    show own_S p e below T0 (mkF m 92 #[.val (.ref a1), .val (.int (32 : Int32)), .val (.long q3), .second] [(.int (8 : Int32)), (.int (32 : Int32)), (.ref a1)]) _
    refine XS.iadd X0.here hx rfl (hb hby d_method_4_92) rfl ?_
    rw [(by decide : ((32 : Int32) + (8 : Int32)) = (40 : Int32))]
    show own_S p e below T0 (mkF m 93 #[.val (.ref a1), .val (.int (32 : Int32)), .val (.long q3), .second] [(.int (40 : Int32)), (.ref a1)]) _
    refine XS.lloadN X0.here hx rfl (hb hby d_method_4_93) rfl ?_
    show own_S p e below T0 (mkF m 94 #[.val (.ref a1), .val (.int (32 : Int32)), .val (.long q3), .second] [(.long q3), (.int (40 : Int32)), (.ref a1)]) _
    refine XS.bipush X0.here hx rfl (hb hby d_method_4_94) ?_
    exact kt)
  obtain ⟨_, _, ⟨T2, L2, cc2, ss2⟩, -, X2, ⟨Lc2, hQ2, l2, y2, z2⟩, st2⟩ := Jvm.LawKit.callS X0 hx (y := (⟨"com/example/dual_delivery/dualdelivery/model/ReceiptHandleParsePinLaw", "hexDigit", "(JI)C"⟩ : MethodName)) hown (mvT hZ (hw _ (List.mem_of_getElem? (i := 5) rfl))) (mvT hZ (hw _ (List.mem_of_getElem? (i := 6) rfl))) (mvT hZ (hw _ (List.mem_of_getElem? (i := 3) rfl))) (mvT hZ (hw _ (List.mem_of_getElem? (i := 7) rfl))) (by decide) (backOf (W := 2) (rm2 l Z a0 hw [] q3 (28 : Int32)  h0 n0 Z0 ) hZ (hw _ (List.mem_of_getElem? (i := 7) rfl)) (hw _ (List.mem_of_getElem? (i := 3) rfl)) (by decide) (by decide)) (g := (mkF m 96 #[.val (.ref a1), .val (.int (32 : Int32)), .val (.long q3), .second] [(.int (28 : Int32)), (.long q3), (.int (40 : Int32)), (.ref a1)])) rfl (by rw [hml]; rfl) (argsL := [(.long q3), (.int (28 : Int32))]) (rest := [(.int (40 : Int32)), (.ref a1)]) (lenOf pd_0 rfl) rfl (by show 2 * 0 + _ ≤ _; exact Nat.le_of_eq rfl) (hb hby d_method_4_96) (fun _ _ => ⟨rfl, e0, (by decide : 0 + 0 ≤ _), (by decide : 0 + 0 ≤ _)⟩)
  dsimp only [Pt.U, Pt.locs, Pt.cells, Pt.slots] at X2 l2 y2 z2 st2 hQ2
  subst l2 y2 z2
  have X2 : Stand p l e _ _ m _ below meth c T2 _ 0 0 := X2
  obtain ⟨rfl, Nq2, eq2⟩ := hQ2
  have Nf2 := Fr.app Nf0 Nq2
  have kn3 : ∀ t, own_S p e below T2 (mkF m 99 #[.val (.ref a1), .val (.int (32 : Int32)), .val (.long q3), .second] [(.int (own_hex q3 (28 : Int32))), (.int (40 : Int32)), (.ref a1)]) t → own_S p e below T0 (mkF m 88 #[.val (.ref a1), .val (.int (32 : Int32)), .val (.long q3), .second] []) t := fun t kt => kn1 t (st2 _ kt)
  obtain ⟨cl4, Ar4, q4, Sz4, Ng4, Hs4, Gs4⟩ := id V1
  have hin4 : ¬ ((40 : Int32) < 0 ∨ cl4.slots.size ≤ ((40 : Int32)).toNatClampNeg) := inb_of Sz4 ⟨by decide, by decide⟩
  obtain ⟨T4, h4, X4, e4, W4, st4⟩ := stC X2 hx hZ eq2 Ar4 (j := (40 : Int32)) hin4 (g := (mkF m 99 #[.val (.ref a1), .val (.int (32 : Int32)), .val (.long q3), .second] [(.int (own_hex q3 (28 : Int32))), (.int (40 : Int32)), (.ref a1)])) rfl rfl (hb hby d_method_4_99)
  have Z5 : n0 ≤ h4.size := Nat.le_trans Z0 (Keep.of_wr W4).1
  have K6 : Keep hB h4 [a1] := KB.wr W4 (Or.inl (List.mem_of_getElem? (i := 0) rfl))
  have V4 : Arv Z h4 a1 kk1 .char (48 : Int32) ((.int u0) :: (.int u1) :: (.int u2) :: (.int u3) :: (.int u4) :: (.int u5) :: (.int u6) :: (.int u7) :: (.int u8) :: (.int u9) :: (.int u10) :: (.int u11) :: (.int u12) :: (.int u13) :: (.int u14) :: (.int u15) :: (.int u16) :: (.int u17) :: (.int u18) :: (.int u19) :: (.int u20) :: (.int u21) :: (.int u22) :: (.int u23) :: (.int u24) :: (.int u25) :: (.int u26) :: (.int u27) :: (.int u28) :: (.int u29) :: (.int u30) :: (.int u31) :: (.int (own_hex q3 (60 : Int32))) :: (.int (own_hex q3 (56 : Int32))) :: (.int (own_hex q3 (52 : Int32))) :: (.int (own_hex q3 (48 : Int32))) :: (.int (own_hex q3 (44 : Int32))) :: (.int (own_hex q3 (40 : Int32))) :: (.int (own_hex q3 (36 : Int32))) :: (.int (own_hex q3 (32 : Int32))) :: (.int ((own_hex q3 (28 : Int32)).toUInt32.toUInt16.toUInt32.toInt32)) :: (.int u41) :: (.int u42) :: (.int u43) :: (.int u44) :: (.int u45) :: (.int u46) :: (.int u47) :: []) (.int (0 : Int32)) := Arv.set Ar4 q4 Sz4 Ng4 Hs4 Gs4 (fits_nar_char _) W4 40 rfl (Nat.le_of_ble_eq_true rfl)
  rw [(show ((own_hex q3 (28 : Int32)).toUInt32.toUInt16.toUInt32.toInt32) = (own_hex q3 (28 : Int32)) from (own_hxs _ _).2.2.2.2.1)] at V4
  have Nf7 := Fr.snoc X4 Nf2 g_a1
  have kn8 : ∀ t, own_S p e below T4 (mkF m 100 #[.val (.ref a1), .val (.int (32 : Int32)), .val (.long q3), .second] []) t → own_S p e below T0 (mkF m 88 #[.val (.ref a1), .val (.int (32 : Int32)), .val (.long q3), .second] []) t := fun t kt => kn3 t (st4 _ kt)
  have kn9 : ∀ t, own_S p e below T4 (mkF m 108 #[.val (.ref a1), .val (.int (32 : Int32)), .val (.long q3), .second] [(.int (24 : Int32)), (.long q3), (.int (41 : Int32)), (.ref a1)]) t → own_S p e below T0 (mkF m 88 #[.val (.ref a1), .val (.int (32 : Int32)), .val (.long q3), .second] []) t := fun t kt => kn8 t (by
    show own_S p e below T4 (mkF m 100 #[.val (.ref a1), .val (.int (32 : Int32)), .val (.long q3), .second] []) _
    refine XS.aloadN X4.here hx rfl (hb hby d_method_4_100) rfl rfl ?_
    show own_S p e below T4 (mkF m 101 #[.val (.ref a1), .val (.int (32 : Int32)), .val (.long q3), .second] [(.ref a1)]) _
    refine XS.iloadN X4.here hx rfl (hb hby d_method_4_101) rfl ?_
    show own_S p e below T4 (mkF m 102 #[.val (.ref a1), .val (.int (32 : Int32)), .val (.long q3), .second] [(.int (32 : Int32)), (.ref a1)]) _
    refine XS.bipush X4.here hx rfl (hb hby d_method_4_102) ?_
    show own_S p e below T4 (mkF m 104 #[.val (.ref a1), .val (.int (32 : Int32)), .val (.long q3), .second] [(.int (9 : Int32)), (.int (32 : Int32)), (.ref a1)]) _
    refine XS.iadd X4.here hx rfl (hb hby d_method_4_104) rfl ?_
    rw [(by decide : ((32 : Int32) + (9 : Int32)) = (41 : Int32))]
    show own_S p e below T4 (mkF m 105 #[.val (.ref a1), .val (.int (32 : Int32)), .val (.long q3), .second] [(.int (41 : Int32)), (.ref a1)]) _
    refine XS.lloadN X4.here hx rfl (hb hby d_method_4_105) rfl ?_
    show own_S p e below T4 (mkF m 106 #[.val (.ref a1), .val (.int (32 : Int32)), .val (.long q3), .second] [(.long q3), (.int (41 : Int32)), (.ref a1)]) _
    refine XS.bipush X4.here hx rfl (hb hby d_method_4_106) ?_
    exact kt)
  obtain ⟨_, _, ⟨T10, L10, cc10, ss10⟩, -, X10, ⟨Lc10, hQ10, l10, y10, z10⟩, st10⟩ := Jvm.LawKit.callS X4 hx (y := (⟨"com/example/dual_delivery/dualdelivery/model/ReceiptHandleParsePinLaw", "hexDigit", "(JI)C"⟩ : MethodName)) hown (mvT hZ (hw _ (List.mem_of_getElem? (i := 5) rfl))) (mvT hZ (hw _ (List.mem_of_getElem? (i := 6) rfl))) (mvT hZ (hw _ (List.mem_of_getElem? (i := 3) rfl))) (mvT hZ (hw _ (List.mem_of_getElem? (i := 7) rfl))) (by decide) (backOf (W := 2) (rm2 l Z a0 hw [] q3 (24 : Int32)  h4 n0 Z5 ) hZ (hw _ (List.mem_of_getElem? (i := 7) rfl)) (hw _ (List.mem_of_getElem? (i := 3) rfl)) (by decide) (by decide)) (g := (mkF m 108 #[.val (.ref a1), .val (.int (32 : Int32)), .val (.long q3), .second] [(.int (24 : Int32)), (.long q3), (.int (41 : Int32)), (.ref a1)])) rfl (by rw [hml]; rfl) (argsL := [(.long q3), (.int (24 : Int32))]) (rest := [(.int (41 : Int32)), (.ref a1)]) (lenOf pd_0 rfl) rfl (by show 2 * 0 + _ ≤ _; exact Nat.le_of_eq rfl) (hb hby d_method_4_108) (fun _ _ => ⟨rfl, e4, (by decide : 0 + 0 ≤ _), (by decide : 0 + 0 ≤ _)⟩)
  dsimp only [Pt.U, Pt.locs, Pt.cells, Pt.slots] at X10 l10 y10 z10 st10 hQ10
  subst l10 y10 z10
  have X10 : Stand p l e _ _ m _ below meth c T10 _ 0 0 := X10
  obtain ⟨rfl, Nq10, eq10⟩ := hQ10
  have Nf10 := Fr.app Nf7 Nq10
  have kn11 : ∀ t, own_S p e below T10 (mkF m 111 #[.val (.ref a1), .val (.int (32 : Int32)), .val (.long q3), .second] [(.int (own_hex q3 (24 : Int32))), (.int (41 : Int32)), (.ref a1)]) t → own_S p e below T0 (mkF m 88 #[.val (.ref a1), .val (.int (32 : Int32)), .val (.long q3), .second] []) t := fun t kt => kn9 t (st10 _ kt)
  obtain ⟨cl12, Ar12, q12, Sz12, Ng12, Hs12, Gs12⟩ := id V4
  have hin12 : ¬ ((41 : Int32) < 0 ∨ cl12.slots.size ≤ ((41 : Int32)).toNatClampNeg) := inb_of Sz12 ⟨by decide, by decide⟩
  obtain ⟨T12, h12, X12, e12, W12, st12⟩ := stC X10 hx hZ eq10 Ar12 (j := (41 : Int32)) hin12 (g := (mkF m 111 #[.val (.ref a1), .val (.int (32 : Int32)), .val (.long q3), .second] [(.int (own_hex q3 (24 : Int32))), (.int (41 : Int32)), (.ref a1)])) rfl rfl (hb hby d_method_4_111)
  have Z13 : n0 ≤ h12.size := Nat.le_trans Z5 (Keep.of_wr W12).1
  have K14 : Keep hB h12 [a1] := K6.wr W12 (Or.inl (List.mem_of_getElem? (i := 0) rfl))
  have V12 : Arv Z h12 a1 kk1 .char (48 : Int32) ((.int u0) :: (.int u1) :: (.int u2) :: (.int u3) :: (.int u4) :: (.int u5) :: (.int u6) :: (.int u7) :: (.int u8) :: (.int u9) :: (.int u10) :: (.int u11) :: (.int u12) :: (.int u13) :: (.int u14) :: (.int u15) :: (.int u16) :: (.int u17) :: (.int u18) :: (.int u19) :: (.int u20) :: (.int u21) :: (.int u22) :: (.int u23) :: (.int u24) :: (.int u25) :: (.int u26) :: (.int u27) :: (.int u28) :: (.int u29) :: (.int u30) :: (.int u31) :: (.int (own_hex q3 (60 : Int32))) :: (.int (own_hex q3 (56 : Int32))) :: (.int (own_hex q3 (52 : Int32))) :: (.int (own_hex q3 (48 : Int32))) :: (.int (own_hex q3 (44 : Int32))) :: (.int (own_hex q3 (40 : Int32))) :: (.int (own_hex q3 (36 : Int32))) :: (.int (own_hex q3 (32 : Int32))) :: (.int (own_hex q3 (28 : Int32))) :: (.int ((own_hex q3 (24 : Int32)).toUInt32.toUInt16.toUInt32.toInt32)) :: (.int u42) :: (.int u43) :: (.int u44) :: (.int u45) :: (.int u46) :: (.int u47) :: []) (.int (0 : Int32)) := Arv.set Ar12 q12 Sz12 Ng12 Hs12 Gs12 (fits_nar_char _) W12 41 rfl (Nat.le_of_ble_eq_true rfl)
  rw [(show ((own_hex q3 (24 : Int32)).toUInt32.toUInt16.toUInt32.toInt32) = (own_hex q3 (24 : Int32)) from (own_hxs _ _).2.2.2.2.1)] at V12
  have Nf15 := Fr.snoc X12 Nf10 g_a1
  have kn16 : ∀ t, own_S p e below T12 (mkF m 112 #[.val (.ref a1), .val (.int (32 : Int32)), .val (.long q3), .second] []) t → own_S p e below T0 (mkF m 88 #[.val (.ref a1), .val (.int (32 : Int32)), .val (.long q3), .second] []) t := fun t kt => kn11 t (st12 _ kt)
  have kn17 : ∀ t, own_S p e below T12 (mkF m 120 #[.val (.ref a1), .val (.int (32 : Int32)), .val (.long q3), .second] [(.int (20 : Int32)), (.long q3), (.int (42 : Int32)), (.ref a1)]) t → own_S p e below T0 (mkF m 88 #[.val (.ref a1), .val (.int (32 : Int32)), .val (.long q3), .second] []) t := fun t kt => kn16 t (by
    show own_S p e below T12 (mkF m 112 #[.val (.ref a1), .val (.int (32 : Int32)), .val (.long q3), .second] []) _
    refine XS.aloadN X12.here hx rfl (hb hby d_method_4_112) rfl rfl ?_
    show own_S p e below T12 (mkF m 113 #[.val (.ref a1), .val (.int (32 : Int32)), .val (.long q3), .second] [(.ref a1)]) _
    refine XS.iloadN X12.here hx rfl (hb hby d_method_4_113) rfl ?_
    show own_S p e below T12 (mkF m 114 #[.val (.ref a1), .val (.int (32 : Int32)), .val (.long q3), .second] [(.int (32 : Int32)), (.ref a1)]) _
    refine XS.bipush X12.here hx rfl (hb hby d_method_4_114) ?_
    show own_S p e below T12 (mkF m 116 #[.val (.ref a1), .val (.int (32 : Int32)), .val (.long q3), .second] [(.int (10 : Int32)), (.int (32 : Int32)), (.ref a1)]) _
    refine XS.iadd X12.here hx rfl (hb hby d_method_4_116) rfl ?_
    rw [(by decide : ((32 : Int32) + (10 : Int32)) = (42 : Int32))]
    show own_S p e below T12 (mkF m 117 #[.val (.ref a1), .val (.int (32 : Int32)), .val (.long q3), .second] [(.int (42 : Int32)), (.ref a1)]) _
    refine XS.lloadN X12.here hx rfl (hb hby d_method_4_117) rfl ?_
    show own_S p e below T12 (mkF m 118 #[.val (.ref a1), .val (.int (32 : Int32)), .val (.long q3), .second] [(.long q3), (.int (42 : Int32)), (.ref a1)]) _
    refine XS.bipush X12.here hx rfl (hb hby d_method_4_118) ?_
    exact kt)
  obtain ⟨_, _, ⟨T18, L18, cc18, ss18⟩, -, X18, ⟨Lc18, hQ18, l18, y18, z18⟩, st18⟩ := Jvm.LawKit.callS X12 hx (y := (⟨"com/example/dual_delivery/dualdelivery/model/ReceiptHandleParsePinLaw", "hexDigit", "(JI)C"⟩ : MethodName)) hown (mvT hZ (hw _ (List.mem_of_getElem? (i := 5) rfl))) (mvT hZ (hw _ (List.mem_of_getElem? (i := 6) rfl))) (mvT hZ (hw _ (List.mem_of_getElem? (i := 3) rfl))) (mvT hZ (hw _ (List.mem_of_getElem? (i := 7) rfl))) (by decide) (backOf (W := 2) (rm2 l Z a0 hw [] q3 (20 : Int32)  h12 n0 Z13 ) hZ (hw _ (List.mem_of_getElem? (i := 7) rfl)) (hw _ (List.mem_of_getElem? (i := 3) rfl)) (by decide) (by decide)) (g := (mkF m 120 #[.val (.ref a1), .val (.int (32 : Int32)), .val (.long q3), .second] [(.int (20 : Int32)), (.long q3), (.int (42 : Int32)), (.ref a1)])) rfl (by rw [hml]; rfl) (argsL := [(.long q3), (.int (20 : Int32))]) (rest := [(.int (42 : Int32)), (.ref a1)]) (lenOf pd_0 rfl) rfl (by show 2 * 0 + _ ≤ _; exact Nat.le_of_eq rfl) (hb hby d_method_4_120) (fun _ _ => ⟨rfl, e12, (by decide : 0 + 0 ≤ _), (by decide : 0 + 0 ≤ _)⟩)
  dsimp only [Pt.U, Pt.locs, Pt.cells, Pt.slots] at X18 l18 y18 z18 st18 hQ18
  subst l18 y18 z18
  have X18 : Stand p l e _ _ m _ below meth c T18 _ 0 0 := X18
  obtain ⟨rfl, Nq18, eq18⟩ := hQ18
  have Nf18 := Fr.app Nf15 Nq18
  have kn19 : ∀ t, own_S p e below T18 (mkF m 123 #[.val (.ref a1), .val (.int (32 : Int32)), .val (.long q3), .second] [(.int (own_hex q3 (20 : Int32))), (.int (42 : Int32)), (.ref a1)]) t → own_S p e below T0 (mkF m 88 #[.val (.ref a1), .val (.int (32 : Int32)), .val (.long q3), .second] []) t := fun t kt => kn17 t (st18 _ kt)
  obtain ⟨cl20, Ar20, q20, Sz20, Ng20, Hs20, Gs20⟩ := id V12
  have hin20 : ¬ ((42 : Int32) < 0 ∨ cl20.slots.size ≤ ((42 : Int32)).toNatClampNeg) := inb_of Sz20 ⟨by decide, by decide⟩
  obtain ⟨T20, h20, X20, e20, W20, st20⟩ := stC X18 hx hZ eq18 Ar20 (j := (42 : Int32)) hin20 (g := (mkF m 123 #[.val (.ref a1), .val (.int (32 : Int32)), .val (.long q3), .second] [(.int (own_hex q3 (20 : Int32))), (.int (42 : Int32)), (.ref a1)])) rfl rfl (hb hby d_method_4_123)
  have Z21 : n0 ≤ h20.size := Nat.le_trans Z13 (Keep.of_wr W20).1
  have K22 : Keep hB h20 [a1] := K14.wr W20 (Or.inl (List.mem_of_getElem? (i := 0) rfl))
  have V20 : Arv Z h20 a1 kk1 .char (48 : Int32) ((.int u0) :: (.int u1) :: (.int u2) :: (.int u3) :: (.int u4) :: (.int u5) :: (.int u6) :: (.int u7) :: (.int u8) :: (.int u9) :: (.int u10) :: (.int u11) :: (.int u12) :: (.int u13) :: (.int u14) :: (.int u15) :: (.int u16) :: (.int u17) :: (.int u18) :: (.int u19) :: (.int u20) :: (.int u21) :: (.int u22) :: (.int u23) :: (.int u24) :: (.int u25) :: (.int u26) :: (.int u27) :: (.int u28) :: (.int u29) :: (.int u30) :: (.int u31) :: (.int (own_hex q3 (60 : Int32))) :: (.int (own_hex q3 (56 : Int32))) :: (.int (own_hex q3 (52 : Int32))) :: (.int (own_hex q3 (48 : Int32))) :: (.int (own_hex q3 (44 : Int32))) :: (.int (own_hex q3 (40 : Int32))) :: (.int (own_hex q3 (36 : Int32))) :: (.int (own_hex q3 (32 : Int32))) :: (.int (own_hex q3 (28 : Int32))) :: (.int (own_hex q3 (24 : Int32))) :: (.int ((own_hex q3 (20 : Int32)).toUInt32.toUInt16.toUInt32.toInt32)) :: (.int u43) :: (.int u44) :: (.int u45) :: (.int u46) :: (.int u47) :: []) (.int (0 : Int32)) := Arv.set Ar20 q20 Sz20 Ng20 Hs20 Gs20 (fits_nar_char _) W20 42 rfl (Nat.le_of_ble_eq_true rfl)
  rw [(show ((own_hex q3 (20 : Int32)).toUInt32.toUInt16.toUInt32.toInt32) = (own_hex q3 (20 : Int32)) from (own_hxs _ _).2.2.2.2.1)] at V20
  have Nf23 := Fr.snoc X20 Nf18 g_a1
  have kn24 : ∀ t, own_S p e below T20 (mkF m 124 #[.val (.ref a1), .val (.int (32 : Int32)), .val (.long q3), .second] []) t → own_S p e below T0 (mkF m 88 #[.val (.ref a1), .val (.int (32 : Int32)), .val (.long q3), .second] []) t := fun t kt => kn19 t (st20 _ kt)
  have kn25 : ∀ t, own_S p e below T20 (mkF m 132 #[.val (.ref a1), .val (.int (32 : Int32)), .val (.long q3), .second] [(.int (16 : Int32)), (.long q3), (.int (43 : Int32)), (.ref a1)]) t → own_S p e below T0 (mkF m 88 #[.val (.ref a1), .val (.int (32 : Int32)), .val (.long q3), .second] []) t := fun t kt => kn24 t (by
    show own_S p e below T20 (mkF m 124 #[.val (.ref a1), .val (.int (32 : Int32)), .val (.long q3), .second] []) _
    refine XS.aloadN X20.here hx rfl (hb hby d_method_4_124) rfl rfl ?_
    show own_S p e below T20 (mkF m 125 #[.val (.ref a1), .val (.int (32 : Int32)), .val (.long q3), .second] [(.ref a1)]) _
    refine XS.iloadN X20.here hx rfl (hb hby d_method_4_125) rfl ?_
    show own_S p e below T20 (mkF m 126 #[.val (.ref a1), .val (.int (32 : Int32)), .val (.long q3), .second] [(.int (32 : Int32)), (.ref a1)]) _
    refine XS.bipush X20.here hx rfl (hb hby d_method_4_126) ?_
    show own_S p e below T20 (mkF m 128 #[.val (.ref a1), .val (.int (32 : Int32)), .val (.long q3), .second] [(.int (11 : Int32)), (.int (32 : Int32)), (.ref a1)]) _
    refine XS.iadd X20.here hx rfl (hb hby d_method_4_128) rfl ?_
    rw [(by decide : ((32 : Int32) + (11 : Int32)) = (43 : Int32))]
    show own_S p e below T20 (mkF m 129 #[.val (.ref a1), .val (.int (32 : Int32)), .val (.long q3), .second] [(.int (43 : Int32)), (.ref a1)]) _
    refine XS.lloadN X20.here hx rfl (hb hby d_method_4_129) rfl ?_
    show own_S p e below T20 (mkF m 130 #[.val (.ref a1), .val (.int (32 : Int32)), .val (.long q3), .second] [(.long q3), (.int (43 : Int32)), (.ref a1)]) _
    refine XS.bipush X20.here hx rfl (hb hby d_method_4_130) ?_
    exact kt)
  obtain ⟨_, _, ⟨T26, L26, cc26, ss26⟩, -, X26, ⟨Lc26, hQ26, l26, y26, z26⟩, st26⟩ := Jvm.LawKit.callS X20 hx (y := (⟨"com/example/dual_delivery/dualdelivery/model/ReceiptHandleParsePinLaw", "hexDigit", "(JI)C"⟩ : MethodName)) hown (mvT hZ (hw _ (List.mem_of_getElem? (i := 5) rfl))) (mvT hZ (hw _ (List.mem_of_getElem? (i := 6) rfl))) (mvT hZ (hw _ (List.mem_of_getElem? (i := 3) rfl))) (mvT hZ (hw _ (List.mem_of_getElem? (i := 7) rfl))) (by decide) (backOf (W := 2) (rm2 l Z a0 hw [] q3 (16 : Int32)  h20 n0 Z21 ) hZ (hw _ (List.mem_of_getElem? (i := 7) rfl)) (hw _ (List.mem_of_getElem? (i := 3) rfl)) (by decide) (by decide)) (g := (mkF m 132 #[.val (.ref a1), .val (.int (32 : Int32)), .val (.long q3), .second] [(.int (16 : Int32)), (.long q3), (.int (43 : Int32)), (.ref a1)])) rfl (by rw [hml]; rfl) (argsL := [(.long q3), (.int (16 : Int32))]) (rest := [(.int (43 : Int32)), (.ref a1)]) (lenOf pd_0 rfl) rfl (by show 2 * 0 + _ ≤ _; exact Nat.le_of_eq rfl) (hb hby d_method_4_132) (fun _ _ => ⟨rfl, e20, (by decide : 0 + 0 ≤ _), (by decide : 0 + 0 ≤ _)⟩)
  dsimp only [Pt.U, Pt.locs, Pt.cells, Pt.slots] at X26 l26 y26 z26 st26 hQ26
  subst l26 y26 z26
  have X26 : Stand p l e _ _ m _ below meth c T26 _ 0 0 := X26
  obtain ⟨rfl, Nq26, eq26⟩ := hQ26
  have Nf26 := Fr.app Nf23 Nq26
  have kn27 : ∀ t, own_S p e below T26 (mkF m 135 #[.val (.ref a1), .val (.int (32 : Int32)), .val (.long q3), .second] [(.int (own_hex q3 (16 : Int32))), (.int (43 : Int32)), (.ref a1)]) t → own_S p e below T0 (mkF m 88 #[.val (.ref a1), .val (.int (32 : Int32)), .val (.long q3), .second] []) t := fun t kt => kn25 t (st26 _ kt)
  obtain ⟨cl28, Ar28, q28, Sz28, Ng28, Hs28, Gs28⟩ := id V20
  have hin28 : ¬ ((43 : Int32) < 0 ∨ cl28.slots.size ≤ ((43 : Int32)).toNatClampNeg) := inb_of Sz28 ⟨by decide, by decide⟩
  obtain ⟨T28, h28, X28, e28, W28, st28⟩ := stC X26 hx hZ eq26 Ar28 (j := (43 : Int32)) hin28 (g := (mkF m 135 #[.val (.ref a1), .val (.int (32 : Int32)), .val (.long q3), .second] [(.int (own_hex q3 (16 : Int32))), (.int (43 : Int32)), (.ref a1)])) rfl rfl (hb hby d_method_4_135)
  have Z29 : n0 ≤ h28.size := Nat.le_trans Z21 (Keep.of_wr W28).1
  have K30 : Keep hB h28 [a1] := K22.wr W28 (Or.inl (List.mem_of_getElem? (i := 0) rfl))
  have V28 : Arv Z h28 a1 kk1 .char (48 : Int32) ((.int u0) :: (.int u1) :: (.int u2) :: (.int u3) :: (.int u4) :: (.int u5) :: (.int u6) :: (.int u7) :: (.int u8) :: (.int u9) :: (.int u10) :: (.int u11) :: (.int u12) :: (.int u13) :: (.int u14) :: (.int u15) :: (.int u16) :: (.int u17) :: (.int u18) :: (.int u19) :: (.int u20) :: (.int u21) :: (.int u22) :: (.int u23) :: (.int u24) :: (.int u25) :: (.int u26) :: (.int u27) :: (.int u28) :: (.int u29) :: (.int u30) :: (.int u31) :: (.int (own_hex q3 (60 : Int32))) :: (.int (own_hex q3 (56 : Int32))) :: (.int (own_hex q3 (52 : Int32))) :: (.int (own_hex q3 (48 : Int32))) :: (.int (own_hex q3 (44 : Int32))) :: (.int (own_hex q3 (40 : Int32))) :: (.int (own_hex q3 (36 : Int32))) :: (.int (own_hex q3 (32 : Int32))) :: (.int (own_hex q3 (28 : Int32))) :: (.int (own_hex q3 (24 : Int32))) :: (.int (own_hex q3 (20 : Int32))) :: (.int ((own_hex q3 (16 : Int32)).toUInt32.toUInt16.toUInt32.toInt32)) :: (.int u44) :: (.int u45) :: (.int u46) :: (.int u47) :: []) (.int (0 : Int32)) := Arv.set Ar28 q28 Sz28 Ng28 Hs28 Gs28 (fits_nar_char _) W28 43 rfl (Nat.le_of_ble_eq_true rfl)
  rw [(show ((own_hex q3 (16 : Int32)).toUInt32.toUInt16.toUInt32.toInt32) = (own_hex q3 (16 : Int32)) from (own_hxs _ _).2.2.2.2.1)] at V28
  have Nf31 := Fr.snoc X28 Nf26 g_a1
  have kn32 : ∀ t, own_S p e below T28 (mkF m 136 #[.val (.ref a1), .val (.int (32 : Int32)), .val (.long q3), .second] []) t → own_S p e below T0 (mkF m 88 #[.val (.ref a1), .val (.int (32 : Int32)), .val (.long q3), .second] []) t := fun t kt => kn27 t (st28 _ kt)
  obtain ⟨s2, o2, t1, t2, t3, t4⟩ := tlp_32_3 (n0 := n0) a1 q3 kk1 u0 u1 u2 u3 u4 u5 u6 u7 u8 u9 u10 u11 u12 u13 u14 u15 u16 u17 u18 u19 u20 u21 u22 u23 u24 u25 u26 u27 u28 u29 u30 u31 u32 u33 u34 u35 u36 u37 u38 u39 u40 u41 u42 u43 u44 u45 u46 u47 hB  X28 hx hZ hw hby hml hown hret hlk e28 Nf31 Z29 V28 K30 g_a1
  exact ⟨s2, o2, id (kn32 _ t1), t2, t3, t4⟩

set_option maxRecDepth 65536 in
set_option maxHeartbeats 40000000 in
theorem tlp_32_1 {p : Program} {l : Launch} {e : Env} {s : State} {m : MethodId} {args : Array Value} {below : List Frame} {meth : Method} {c : Code} {T0 : State} {locs : List Loc} {Z : State} {a0 : Array Value} {h0 : Heap} {n0 : Nat} (a1 : Addr) (q3 : Int64) (kk1 : ClassId) (u0 : Int32) (u1 : Int32) (u2 : Int32) (u3 : Int32) (u4 : Int32) (u5 : Int32) (u6 : Int32) (u7 : Int32) (u8 : Int32) (u9 : Int32) (u10 : Int32) (u11 : Int32) (u12 : Int32) (u13 : Int32) (u14 : Int32) (u15 : Int32) (u16 : Int32) (u17 : Int32) (u18 : Int32) (u19 : Int32) (u20 : Int32) (u21 : Int32) (u22 : Int32) (u23 : Int32) (u24 : Int32) (u25 : Int32) (u26 : Int32) (u27 : Int32) (u28 : Int32) (u29 : Int32) (u30 : Int32) (u31 : Int32) (u32 : Int32) (u33 : Int32) (u34 : Int32) (u35 : Int32) (u36 : Int32) (u37 : Int32) (u38 : Int32) (u39 : Int32) (u40 : Int32) (u41 : Int32) (u42 : Int32) (u43 : Int32) (u44 : Int32) (u45 : Int32) (u46 : Int32) (u47 : Int32) (hB : Heap)
    (X0 : Stand p l e ({ frames := 1, cells := 0, slots := 0, locals := 17 } : Room) s m args below meth c T0 locs 0 0) (hx : p.tables.exec = Jvm.exec) (hZ : Z.Warmed39 s.vm) (hw : ∀ d ∈ tables_1, d.before a0 Z = true) (hby : c.code = method_4_code) (hml : c.maxLocals = 4) (hown : s.vm.findClass "com/example/dual_delivery/dualdelivery/model/ReceiptHandleParsePinLaw" = some m.cls) (hret : meth.sig.returnType = none) (hlk : meth.locks = false) (e0 : T0.heap = h0) (Nf0 : Fr n0 locs) (Z0 : n0 ≤ h0.size) (V1 : Arv Z h0 a1 kk1 .char (48 : Int32) ((.int u0) :: (.int u1) :: (.int u2) :: (.int u3) :: (.int u4) :: (.int u5) :: (.int u6) :: (.int u7) :: (.int u8) :: (.int u9) :: (.int u10) :: (.int u11) :: (.int u12) :: (.int u13) :: (.int u14) :: (.int u15) :: (.int u16) :: (.int u17) :: (.int u18) :: (.int u19) :: (.int u20) :: (.int u21) :: (.int u22) :: (.int u23) :: (.int u24) :: (.int u25) :: (.int u26) :: (.int u27) :: (.int u28) :: (.int u29) :: (.int u30) :: (.int u31) :: (.int (own_hex q3 (60 : Int32))) :: (.int (own_hex q3 (56 : Int32))) :: (.int (own_hex q3 (52 : Int32))) :: (.int (own_hex q3 (48 : Int32))) :: (.int u36) :: (.int u37) :: (.int u38) :: (.int u39) :: (.int u40) :: (.int u41) :: (.int u42) :: (.int u43) :: (.int u44) :: (.int u45) :: (.int u46) :: (.int u47) :: []) (.int (0 : Int32))) (KB : Keep hB h0 [a1]) (g_a1 : n0 ≤ a1) :
    ∃ s₂ o, Steps p.tables e below (T0.setTop (mkF m 42 #[.val (.ref a1), .val (.int (32 : Int32)), .val (.long q3), .second] [])) s₂ ∧ s₂.status = .running ∧ Ended s₂ below o ∧ ∃ v L, o = .returned v ∧ Q1_32 Z a1 q3 kk1 u0 u1 u2 u3 u4 u5 u6 u7 u8 u9 u10 u11 u12 u13 u14 u15 u16 u17 u18 u19 u20 u21 u22 u23 u24 u25 u26 u27 u28 u29 u30 u31 u32 u33 u34 u35 u36 u37 u38 u39 u40 u41 u42 u43 u44 u45 u46 u47 hB h0 n0 v s₂.heap L ∧ FrameEnd s o s₂ L ({ frames := 1, cells := 0, slots := 0, locals := 17 } : Room).cells ({ frames := 1, cells := 0, slots := 0, locals := 17 } : Room).slots := by
  have kn0 : ∀ t, own_S p e below T0 (mkF m 42 #[.val (.ref a1), .val (.int (32 : Int32)), .val (.long q3), .second] []) t → own_S p e below T0 (mkF m 42 #[.val (.ref a1), .val (.int (32 : Int32)), .val (.long q3), .second] []) t := fun t k => k
  have kn1 : ∀ t, own_S p e below T0 (mkF m 49 #[.val (.ref a1), .val (.int (32 : Int32)), .val (.long q3), .second] [(.int (44 : Int32)), (.long q3), (.int (36 : Int32)), (.ref a1)]) t → own_S p e below T0 (mkF m 42 #[.val (.ref a1), .val (.int (32 : Int32)), .val (.long q3), .second] []) t := fun t kt => kn0 t (by
    show own_S p e below T0 (mkF m 42 #[.val (.ref a1), .val (.int (32 : Int32)), .val (.long q3), .second] []) _
    refine XS.aloadN X0.here hx rfl (hb hby d_method_4_42) rfl rfl ?_
    show own_S p e below T0 (mkF m 43 #[.val (.ref a1), .val (.int (32 : Int32)), .val (.long q3), .second] [(.ref a1)]) _
    refine XS.iloadN X0.here hx rfl (hb hby d_method_4_43) rfl ?_
    show own_S p e below T0 (mkF m 44 #[.val (.ref a1), .val (.int (32 : Int32)), .val (.long q3), .second] [(.int (32 : Int32)), (.ref a1)]) _
    refine XS.iconst X0.here hx rfl (hb hby d_method_4_44) ?_
    show own_S p e below T0 (mkF m 45 #[.val (.ref a1), .val (.int (32 : Int32)), .val (.long q3), .second] [(.int (4 : Int32)), (.int (32 : Int32)), (.ref a1)]) _
    refine XS.iadd X0.here hx rfl (hb hby d_method_4_45) rfl ?_
    rw [(by decide : ((32 : Int32) + (4 : Int32)) = (36 : Int32))]
    show own_S p e below T0 (mkF m 46 #[.val (.ref a1), .val (.int (32 : Int32)), .val (.long q3), .second] [(.int (36 : Int32)), (.ref a1)]) _
    refine XS.lloadN X0.here hx rfl (hb hby d_method_4_46) rfl ?_
    show own_S p e below T0 (mkF m 47 #[.val (.ref a1), .val (.int (32 : Int32)), .val (.long q3), .second] [(.long q3), (.int (36 : Int32)), (.ref a1)]) _
    refine XS.bipush X0.here hx rfl (hb hby d_method_4_47) ?_
    exact kt)
  obtain ⟨_, _, ⟨T2, L2, cc2, ss2⟩, -, X2, ⟨Lc2, hQ2, l2, y2, z2⟩, st2⟩ := Jvm.LawKit.callS X0 hx (y := (⟨"com/example/dual_delivery/dualdelivery/model/ReceiptHandleParsePinLaw", "hexDigit", "(JI)C"⟩ : MethodName)) hown (mvT hZ (hw _ (List.mem_of_getElem? (i := 5) rfl))) (mvT hZ (hw _ (List.mem_of_getElem? (i := 6) rfl))) (mvT hZ (hw _ (List.mem_of_getElem? (i := 3) rfl))) (mvT hZ (hw _ (List.mem_of_getElem? (i := 7) rfl))) (by decide) (backOf (W := 2) (rm2 l Z a0 hw [] q3 (44 : Int32)  h0 n0 Z0 ) hZ (hw _ (List.mem_of_getElem? (i := 7) rfl)) (hw _ (List.mem_of_getElem? (i := 3) rfl)) (by decide) (by decide)) (g := (mkF m 49 #[.val (.ref a1), .val (.int (32 : Int32)), .val (.long q3), .second] [(.int (44 : Int32)), (.long q3), (.int (36 : Int32)), (.ref a1)])) rfl (by rw [hml]; rfl) (argsL := [(.long q3), (.int (44 : Int32))]) (rest := [(.int (36 : Int32)), (.ref a1)]) (lenOf pd_0 rfl) rfl (by show 2 * 0 + _ ≤ _; exact Nat.le_of_eq rfl) (hb hby d_method_4_49) (fun _ _ => ⟨rfl, e0, (by decide : 0 + 0 ≤ _), (by decide : 0 + 0 ≤ _)⟩)
  dsimp only [Pt.U, Pt.locs, Pt.cells, Pt.slots] at X2 l2 y2 z2 st2 hQ2
  subst l2 y2 z2
  have X2 : Stand p l e _ _ m _ below meth c T2 _ 0 0 := X2
  obtain ⟨rfl, Nq2, eq2⟩ := hQ2
  have Nf2 := Fr.app Nf0 Nq2
  have kn3 : ∀ t, own_S p e below T2 (mkF m 52 #[.val (.ref a1), .val (.int (32 : Int32)), .val (.long q3), .second] [(.int (own_hex q3 (44 : Int32))), (.int (36 : Int32)), (.ref a1)]) t → own_S p e below T0 (mkF m 42 #[.val (.ref a1), .val (.int (32 : Int32)), .val (.long q3), .second] []) t := fun t kt => kn1 t (st2 _ kt)
  obtain ⟨cl4, Ar4, q4, Sz4, Ng4, Hs4, Gs4⟩ := id V1
  have hin4 : ¬ ((36 : Int32) < 0 ∨ cl4.slots.size ≤ ((36 : Int32)).toNatClampNeg) := inb_of Sz4 ⟨by decide, by decide⟩
  obtain ⟨T4, h4, X4, e4, W4, st4⟩ := stC X2 hx hZ eq2 Ar4 (j := (36 : Int32)) hin4 (g := (mkF m 52 #[.val (.ref a1), .val (.int (32 : Int32)), .val (.long q3), .second] [(.int (own_hex q3 (44 : Int32))), (.int (36 : Int32)), (.ref a1)])) rfl rfl (hb hby d_method_4_52)
  have Z5 : n0 ≤ h4.size := Nat.le_trans Z0 (Keep.of_wr W4).1
  have K6 : Keep hB h4 [a1] := KB.wr W4 (Or.inl (List.mem_of_getElem? (i := 0) rfl))
  have V4 : Arv Z h4 a1 kk1 .char (48 : Int32) ((.int u0) :: (.int u1) :: (.int u2) :: (.int u3) :: (.int u4) :: (.int u5) :: (.int u6) :: (.int u7) :: (.int u8) :: (.int u9) :: (.int u10) :: (.int u11) :: (.int u12) :: (.int u13) :: (.int u14) :: (.int u15) :: (.int u16) :: (.int u17) :: (.int u18) :: (.int u19) :: (.int u20) :: (.int u21) :: (.int u22) :: (.int u23) :: (.int u24) :: (.int u25) :: (.int u26) :: (.int u27) :: (.int u28) :: (.int u29) :: (.int u30) :: (.int u31) :: (.int (own_hex q3 (60 : Int32))) :: (.int (own_hex q3 (56 : Int32))) :: (.int (own_hex q3 (52 : Int32))) :: (.int (own_hex q3 (48 : Int32))) :: (.int ((own_hex q3 (44 : Int32)).toUInt32.toUInt16.toUInt32.toInt32)) :: (.int u37) :: (.int u38) :: (.int u39) :: (.int u40) :: (.int u41) :: (.int u42) :: (.int u43) :: (.int u44) :: (.int u45) :: (.int u46) :: (.int u47) :: []) (.int (0 : Int32)) := Arv.set Ar4 q4 Sz4 Ng4 Hs4 Gs4 (fits_nar_char _) W4 36 rfl (Nat.le_of_ble_eq_true rfl)
  rw [(show ((own_hex q3 (44 : Int32)).toUInt32.toUInt16.toUInt32.toInt32) = (own_hex q3 (44 : Int32)) from (own_hxs _ _).2.2.2.2.1)] at V4
  have Nf7 := Fr.snoc X4 Nf2 g_a1
  have kn8 : ∀ t, own_S p e below T4 (mkF m 53 #[.val (.ref a1), .val (.int (32 : Int32)), .val (.long q3), .second] []) t → own_S p e below T0 (mkF m 42 #[.val (.ref a1), .val (.int (32 : Int32)), .val (.long q3), .second] []) t := fun t kt => kn3 t (st4 _ kt)
  have kn9 : ∀ t, own_S p e below T4 (mkF m 60 #[.val (.ref a1), .val (.int (32 : Int32)), .val (.long q3), .second] [(.int (40 : Int32)), (.long q3), (.int (37 : Int32)), (.ref a1)]) t → own_S p e below T0 (mkF m 42 #[.val (.ref a1), .val (.int (32 : Int32)), .val (.long q3), .second] []) t := fun t kt => kn8 t (by
    show own_S p e below T4 (mkF m 53 #[.val (.ref a1), .val (.int (32 : Int32)), .val (.long q3), .second] []) _
    refine XS.aloadN X4.here hx rfl (hb hby d_method_4_53) rfl rfl ?_
    show own_S p e below T4 (mkF m 54 #[.val (.ref a1), .val (.int (32 : Int32)), .val (.long q3), .second] [(.ref a1)]) _
    refine XS.iloadN X4.here hx rfl (hb hby d_method_4_54) rfl ?_
    show own_S p e below T4 (mkF m 55 #[.val (.ref a1), .val (.int (32 : Int32)), .val (.long q3), .second] [(.int (32 : Int32)), (.ref a1)]) _
    refine XS.iconst X4.here hx rfl (hb hby d_method_4_55) ?_
    show own_S p e below T4 (mkF m 56 #[.val (.ref a1), .val (.int (32 : Int32)), .val (.long q3), .second] [(.int (5 : Int32)), (.int (32 : Int32)), (.ref a1)]) _
    refine XS.iadd X4.here hx rfl (hb hby d_method_4_56) rfl ?_
    rw [(by decide : ((32 : Int32) + (5 : Int32)) = (37 : Int32))]
    show own_S p e below T4 (mkF m 57 #[.val (.ref a1), .val (.int (32 : Int32)), .val (.long q3), .second] [(.int (37 : Int32)), (.ref a1)]) _
    refine XS.lloadN X4.here hx rfl (hb hby d_method_4_57) rfl ?_
    show own_S p e below T4 (mkF m 58 #[.val (.ref a1), .val (.int (32 : Int32)), .val (.long q3), .second] [(.long q3), (.int (37 : Int32)), (.ref a1)]) _
    refine XS.bipush X4.here hx rfl (hb hby d_method_4_58) ?_
    exact kt)
  obtain ⟨_, _, ⟨T10, L10, cc10, ss10⟩, -, X10, ⟨Lc10, hQ10, l10, y10, z10⟩, st10⟩ := Jvm.LawKit.callS X4 hx (y := (⟨"com/example/dual_delivery/dualdelivery/model/ReceiptHandleParsePinLaw", "hexDigit", "(JI)C"⟩ : MethodName)) hown (mvT hZ (hw _ (List.mem_of_getElem? (i := 5) rfl))) (mvT hZ (hw _ (List.mem_of_getElem? (i := 6) rfl))) (mvT hZ (hw _ (List.mem_of_getElem? (i := 3) rfl))) (mvT hZ (hw _ (List.mem_of_getElem? (i := 7) rfl))) (by decide) (backOf (W := 2) (rm2 l Z a0 hw [] q3 (40 : Int32)  h4 n0 Z5 ) hZ (hw _ (List.mem_of_getElem? (i := 7) rfl)) (hw _ (List.mem_of_getElem? (i := 3) rfl)) (by decide) (by decide)) (g := (mkF m 60 #[.val (.ref a1), .val (.int (32 : Int32)), .val (.long q3), .second] [(.int (40 : Int32)), (.long q3), (.int (37 : Int32)), (.ref a1)])) rfl (by rw [hml]; rfl) (argsL := [(.long q3), (.int (40 : Int32))]) (rest := [(.int (37 : Int32)), (.ref a1)]) (lenOf pd_0 rfl) rfl (by show 2 * 0 + _ ≤ _; exact Nat.le_of_eq rfl) (hb hby d_method_4_60) (fun _ _ => ⟨rfl, e4, (by decide : 0 + 0 ≤ _), (by decide : 0 + 0 ≤ _)⟩)
  dsimp only [Pt.U, Pt.locs, Pt.cells, Pt.slots] at X10 l10 y10 z10 st10 hQ10
  subst l10 y10 z10
  have X10 : Stand p l e _ _ m _ below meth c T10 _ 0 0 := X10
  obtain ⟨rfl, Nq10, eq10⟩ := hQ10
  have Nf10 := Fr.app Nf7 Nq10
  have kn11 : ∀ t, own_S p e below T10 (mkF m 63 #[.val (.ref a1), .val (.int (32 : Int32)), .val (.long q3), .second] [(.int (own_hex q3 (40 : Int32))), (.int (37 : Int32)), (.ref a1)]) t → own_S p e below T0 (mkF m 42 #[.val (.ref a1), .val (.int (32 : Int32)), .val (.long q3), .second] []) t := fun t kt => kn9 t (st10 _ kt)
  obtain ⟨cl12, Ar12, q12, Sz12, Ng12, Hs12, Gs12⟩ := id V4
  have hin12 : ¬ ((37 : Int32) < 0 ∨ cl12.slots.size ≤ ((37 : Int32)).toNatClampNeg) := inb_of Sz12 ⟨by decide, by decide⟩
  obtain ⟨T12, h12, X12, e12, W12, st12⟩ := stC X10 hx hZ eq10 Ar12 (j := (37 : Int32)) hin12 (g := (mkF m 63 #[.val (.ref a1), .val (.int (32 : Int32)), .val (.long q3), .second] [(.int (own_hex q3 (40 : Int32))), (.int (37 : Int32)), (.ref a1)])) rfl rfl (hb hby d_method_4_63)
  have Z13 : n0 ≤ h12.size := Nat.le_trans Z5 (Keep.of_wr W12).1
  have K14 : Keep hB h12 [a1] := K6.wr W12 (Or.inl (List.mem_of_getElem? (i := 0) rfl))
  have V12 : Arv Z h12 a1 kk1 .char (48 : Int32) ((.int u0) :: (.int u1) :: (.int u2) :: (.int u3) :: (.int u4) :: (.int u5) :: (.int u6) :: (.int u7) :: (.int u8) :: (.int u9) :: (.int u10) :: (.int u11) :: (.int u12) :: (.int u13) :: (.int u14) :: (.int u15) :: (.int u16) :: (.int u17) :: (.int u18) :: (.int u19) :: (.int u20) :: (.int u21) :: (.int u22) :: (.int u23) :: (.int u24) :: (.int u25) :: (.int u26) :: (.int u27) :: (.int u28) :: (.int u29) :: (.int u30) :: (.int u31) :: (.int (own_hex q3 (60 : Int32))) :: (.int (own_hex q3 (56 : Int32))) :: (.int (own_hex q3 (52 : Int32))) :: (.int (own_hex q3 (48 : Int32))) :: (.int (own_hex q3 (44 : Int32))) :: (.int ((own_hex q3 (40 : Int32)).toUInt32.toUInt16.toUInt32.toInt32)) :: (.int u38) :: (.int u39) :: (.int u40) :: (.int u41) :: (.int u42) :: (.int u43) :: (.int u44) :: (.int u45) :: (.int u46) :: (.int u47) :: []) (.int (0 : Int32)) := Arv.set Ar12 q12 Sz12 Ng12 Hs12 Gs12 (fits_nar_char _) W12 37 rfl (Nat.le_of_ble_eq_true rfl)
  rw [(show ((own_hex q3 (40 : Int32)).toUInt32.toUInt16.toUInt32.toInt32) = (own_hex q3 (40 : Int32)) from (own_hxs _ _).2.2.2.2.1)] at V12
  have Nf15 := Fr.snoc X12 Nf10 g_a1
  have kn16 : ∀ t, own_S p e below T12 (mkF m 64 #[.val (.ref a1), .val (.int (32 : Int32)), .val (.long q3), .second] []) t → own_S p e below T0 (mkF m 42 #[.val (.ref a1), .val (.int (32 : Int32)), .val (.long q3), .second] []) t := fun t kt => kn11 t (st12 _ kt)
  have kn17 : ∀ t, own_S p e below T12 (mkF m 72 #[.val (.ref a1), .val (.int (32 : Int32)), .val (.long q3), .second] [(.int (36 : Int32)), (.long q3), (.int (38 : Int32)), (.ref a1)]) t → own_S p e below T0 (mkF m 42 #[.val (.ref a1), .val (.int (32 : Int32)), .val (.long q3), .second] []) t := fun t kt => kn16 t (by
    show own_S p e below T12 (mkF m 64 #[.val (.ref a1), .val (.int (32 : Int32)), .val (.long q3), .second] []) _
    refine XS.aloadN X12.here hx rfl (hb hby d_method_4_64) rfl rfl ?_
    show own_S p e below T12 (mkF m 65 #[.val (.ref a1), .val (.int (32 : Int32)), .val (.long q3), .second] [(.ref a1)]) _
    refine XS.iloadN X12.here hx rfl (hb hby d_method_4_65) rfl ?_
    show own_S p e below T12 (mkF m 66 #[.val (.ref a1), .val (.int (32 : Int32)), .val (.long q3), .second] [(.int (32 : Int32)), (.ref a1)]) _
    refine XS.bipush X12.here hx rfl (hb hby d_method_4_66) ?_
    show own_S p e below T12 (mkF m 68 #[.val (.ref a1), .val (.int (32 : Int32)), .val (.long q3), .second] [(.int (6 : Int32)), (.int (32 : Int32)), (.ref a1)]) _
    refine XS.iadd X12.here hx rfl (hb hby d_method_4_68) rfl ?_
    rw [(by decide : ((32 : Int32) + (6 : Int32)) = (38 : Int32))]
    show own_S p e below T12 (mkF m 69 #[.val (.ref a1), .val (.int (32 : Int32)), .val (.long q3), .second] [(.int (38 : Int32)), (.ref a1)]) _
    refine XS.lloadN X12.here hx rfl (hb hby d_method_4_69) rfl ?_
    show own_S p e below T12 (mkF m 70 #[.val (.ref a1), .val (.int (32 : Int32)), .val (.long q3), .second] [(.long q3), (.int (38 : Int32)), (.ref a1)]) _
    refine XS.bipush X12.here hx rfl (hb hby d_method_4_70) ?_
    exact kt)
  obtain ⟨_, _, ⟨T18, L18, cc18, ss18⟩, -, X18, ⟨Lc18, hQ18, l18, y18, z18⟩, st18⟩ := Jvm.LawKit.callS X12 hx (y := (⟨"com/example/dual_delivery/dualdelivery/model/ReceiptHandleParsePinLaw", "hexDigit", "(JI)C"⟩ : MethodName)) hown (mvT hZ (hw _ (List.mem_of_getElem? (i := 5) rfl))) (mvT hZ (hw _ (List.mem_of_getElem? (i := 6) rfl))) (mvT hZ (hw _ (List.mem_of_getElem? (i := 3) rfl))) (mvT hZ (hw _ (List.mem_of_getElem? (i := 7) rfl))) (by decide) (backOf (W := 2) (rm2 l Z a0 hw [] q3 (36 : Int32)  h12 n0 Z13 ) hZ (hw _ (List.mem_of_getElem? (i := 7) rfl)) (hw _ (List.mem_of_getElem? (i := 3) rfl)) (by decide) (by decide)) (g := (mkF m 72 #[.val (.ref a1), .val (.int (32 : Int32)), .val (.long q3), .second] [(.int (36 : Int32)), (.long q3), (.int (38 : Int32)), (.ref a1)])) rfl (by rw [hml]; rfl) (argsL := [(.long q3), (.int (36 : Int32))]) (rest := [(.int (38 : Int32)), (.ref a1)]) (lenOf pd_0 rfl) rfl (by show 2 * 0 + _ ≤ _; exact Nat.le_of_eq rfl) (hb hby d_method_4_72) (fun _ _ => ⟨rfl, e12, (by decide : 0 + 0 ≤ _), (by decide : 0 + 0 ≤ _)⟩)
  dsimp only [Pt.U, Pt.locs, Pt.cells, Pt.slots] at X18 l18 y18 z18 st18 hQ18
  subst l18 y18 z18
  have X18 : Stand p l e _ _ m _ below meth c T18 _ 0 0 := X18
  obtain ⟨rfl, Nq18, eq18⟩ := hQ18
  have Nf18 := Fr.app Nf15 Nq18
  have kn19 : ∀ t, own_S p e below T18 (mkF m 75 #[.val (.ref a1), .val (.int (32 : Int32)), .val (.long q3), .second] [(.int (own_hex q3 (36 : Int32))), (.int (38 : Int32)), (.ref a1)]) t → own_S p e below T0 (mkF m 42 #[.val (.ref a1), .val (.int (32 : Int32)), .val (.long q3), .second] []) t := fun t kt => kn17 t (st18 _ kt)
  obtain ⟨cl20, Ar20, q20, Sz20, Ng20, Hs20, Gs20⟩ := id V12
  have hin20 : ¬ ((38 : Int32) < 0 ∨ cl20.slots.size ≤ ((38 : Int32)).toNatClampNeg) := inb_of Sz20 ⟨by decide, by decide⟩
  obtain ⟨T20, h20, X20, e20, W20, st20⟩ := stC X18 hx hZ eq18 Ar20 (j := (38 : Int32)) hin20 (g := (mkF m 75 #[.val (.ref a1), .val (.int (32 : Int32)), .val (.long q3), .second] [(.int (own_hex q3 (36 : Int32))), (.int (38 : Int32)), (.ref a1)])) rfl rfl (hb hby d_method_4_75)
  have Z21 : n0 ≤ h20.size := Nat.le_trans Z13 (Keep.of_wr W20).1
  have K22 : Keep hB h20 [a1] := K14.wr W20 (Or.inl (List.mem_of_getElem? (i := 0) rfl))
  have V20 : Arv Z h20 a1 kk1 .char (48 : Int32) ((.int u0) :: (.int u1) :: (.int u2) :: (.int u3) :: (.int u4) :: (.int u5) :: (.int u6) :: (.int u7) :: (.int u8) :: (.int u9) :: (.int u10) :: (.int u11) :: (.int u12) :: (.int u13) :: (.int u14) :: (.int u15) :: (.int u16) :: (.int u17) :: (.int u18) :: (.int u19) :: (.int u20) :: (.int u21) :: (.int u22) :: (.int u23) :: (.int u24) :: (.int u25) :: (.int u26) :: (.int u27) :: (.int u28) :: (.int u29) :: (.int u30) :: (.int u31) :: (.int (own_hex q3 (60 : Int32))) :: (.int (own_hex q3 (56 : Int32))) :: (.int (own_hex q3 (52 : Int32))) :: (.int (own_hex q3 (48 : Int32))) :: (.int (own_hex q3 (44 : Int32))) :: (.int (own_hex q3 (40 : Int32))) :: (.int ((own_hex q3 (36 : Int32)).toUInt32.toUInt16.toUInt32.toInt32)) :: (.int u39) :: (.int u40) :: (.int u41) :: (.int u42) :: (.int u43) :: (.int u44) :: (.int u45) :: (.int u46) :: (.int u47) :: []) (.int (0 : Int32)) := Arv.set Ar20 q20 Sz20 Ng20 Hs20 Gs20 (fits_nar_char _) W20 38 rfl (Nat.le_of_ble_eq_true rfl)
  rw [(show ((own_hex q3 (36 : Int32)).toUInt32.toUInt16.toUInt32.toInt32) = (own_hex q3 (36 : Int32)) from (own_hxs _ _).2.2.2.2.1)] at V20
  have Nf23 := Fr.snoc X20 Nf18 g_a1
  have kn24 : ∀ t, own_S p e below T20 (mkF m 76 #[.val (.ref a1), .val (.int (32 : Int32)), .val (.long q3), .second] []) t → own_S p e below T0 (mkF m 42 #[.val (.ref a1), .val (.int (32 : Int32)), .val (.long q3), .second] []) t := fun t kt => kn19 t (st20 _ kt)
  have kn25 : ∀ t, own_S p e below T20 (mkF m 84 #[.val (.ref a1), .val (.int (32 : Int32)), .val (.long q3), .second] [(.int (32 : Int32)), (.long q3), (.int (39 : Int32)), (.ref a1)]) t → own_S p e below T0 (mkF m 42 #[.val (.ref a1), .val (.int (32 : Int32)), .val (.long q3), .second] []) t := fun t kt => kn24 t (by
    show own_S p e below T20 (mkF m 76 #[.val (.ref a1), .val (.int (32 : Int32)), .val (.long q3), .second] []) _
    refine XS.aloadN X20.here hx rfl (hb hby d_method_4_76) rfl rfl ?_
    show own_S p e below T20 (mkF m 77 #[.val (.ref a1), .val (.int (32 : Int32)), .val (.long q3), .second] [(.ref a1)]) _
    refine XS.iloadN X20.here hx rfl (hb hby d_method_4_77) rfl ?_
    show own_S p e below T20 (mkF m 78 #[.val (.ref a1), .val (.int (32 : Int32)), .val (.long q3), .second] [(.int (32 : Int32)), (.ref a1)]) _
    refine XS.bipush X20.here hx rfl (hb hby d_method_4_78) ?_
    show own_S p e below T20 (mkF m 80 #[.val (.ref a1), .val (.int (32 : Int32)), .val (.long q3), .second] [(.int (7 : Int32)), (.int (32 : Int32)), (.ref a1)]) _
    refine XS.iadd X20.here hx rfl (hb hby d_method_4_80) rfl ?_
    rw [(by decide : ((32 : Int32) + (7 : Int32)) = (39 : Int32))]
    show own_S p e below T20 (mkF m 81 #[.val (.ref a1), .val (.int (32 : Int32)), .val (.long q3), .second] [(.int (39 : Int32)), (.ref a1)]) _
    refine XS.lloadN X20.here hx rfl (hb hby d_method_4_81) rfl ?_
    show own_S p e below T20 (mkF m 82 #[.val (.ref a1), .val (.int (32 : Int32)), .val (.long q3), .second] [(.long q3), (.int (39 : Int32)), (.ref a1)]) _
    refine XS.bipush X20.here hx rfl (hb hby d_method_4_82) ?_
    exact kt)
  obtain ⟨_, _, ⟨T26, L26, cc26, ss26⟩, -, X26, ⟨Lc26, hQ26, l26, y26, z26⟩, st26⟩ := Jvm.LawKit.callS X20 hx (y := (⟨"com/example/dual_delivery/dualdelivery/model/ReceiptHandleParsePinLaw", "hexDigit", "(JI)C"⟩ : MethodName)) hown (mvT hZ (hw _ (List.mem_of_getElem? (i := 5) rfl))) (mvT hZ (hw _ (List.mem_of_getElem? (i := 6) rfl))) (mvT hZ (hw _ (List.mem_of_getElem? (i := 3) rfl))) (mvT hZ (hw _ (List.mem_of_getElem? (i := 7) rfl))) (by decide) (backOf (W := 2) (rm2 l Z a0 hw [] q3 (32 : Int32)  h20 n0 Z21 ) hZ (hw _ (List.mem_of_getElem? (i := 7) rfl)) (hw _ (List.mem_of_getElem? (i := 3) rfl)) (by decide) (by decide)) (g := (mkF m 84 #[.val (.ref a1), .val (.int (32 : Int32)), .val (.long q3), .second] [(.int (32 : Int32)), (.long q3), (.int (39 : Int32)), (.ref a1)])) rfl (by rw [hml]; rfl) (argsL := [(.long q3), (.int (32 : Int32))]) (rest := [(.int (39 : Int32)), (.ref a1)]) (lenOf pd_0 rfl) rfl (by show 2 * 0 + _ ≤ _; exact Nat.le_of_eq rfl) (hb hby d_method_4_84) (fun _ _ => ⟨rfl, e20, (by decide : 0 + 0 ≤ _), (by decide : 0 + 0 ≤ _)⟩)
  dsimp only [Pt.U, Pt.locs, Pt.cells, Pt.slots] at X26 l26 y26 z26 st26 hQ26
  subst l26 y26 z26
  have X26 : Stand p l e _ _ m _ below meth c T26 _ 0 0 := X26
  obtain ⟨rfl, Nq26, eq26⟩ := hQ26
  have Nf26 := Fr.app Nf23 Nq26
  have kn27 : ∀ t, own_S p e below T26 (mkF m 87 #[.val (.ref a1), .val (.int (32 : Int32)), .val (.long q3), .second] [(.int (own_hex q3 (32 : Int32))), (.int (39 : Int32)), (.ref a1)]) t → own_S p e below T0 (mkF m 42 #[.val (.ref a1), .val (.int (32 : Int32)), .val (.long q3), .second] []) t := fun t kt => kn25 t (st26 _ kt)
  obtain ⟨cl28, Ar28, q28, Sz28, Ng28, Hs28, Gs28⟩ := id V20
  have hin28 : ¬ ((39 : Int32) < 0 ∨ cl28.slots.size ≤ ((39 : Int32)).toNatClampNeg) := inb_of Sz28 ⟨by decide, by decide⟩
  obtain ⟨T28, h28, X28, e28, W28, st28⟩ := stC X26 hx hZ eq26 Ar28 (j := (39 : Int32)) hin28 (g := (mkF m 87 #[.val (.ref a1), .val (.int (32 : Int32)), .val (.long q3), .second] [(.int (own_hex q3 (32 : Int32))), (.int (39 : Int32)), (.ref a1)])) rfl rfl (hb hby d_method_4_87)
  have Z29 : n0 ≤ h28.size := Nat.le_trans Z21 (Keep.of_wr W28).1
  have K30 : Keep hB h28 [a1] := K22.wr W28 (Or.inl (List.mem_of_getElem? (i := 0) rfl))
  have V28 : Arv Z h28 a1 kk1 .char (48 : Int32) ((.int u0) :: (.int u1) :: (.int u2) :: (.int u3) :: (.int u4) :: (.int u5) :: (.int u6) :: (.int u7) :: (.int u8) :: (.int u9) :: (.int u10) :: (.int u11) :: (.int u12) :: (.int u13) :: (.int u14) :: (.int u15) :: (.int u16) :: (.int u17) :: (.int u18) :: (.int u19) :: (.int u20) :: (.int u21) :: (.int u22) :: (.int u23) :: (.int u24) :: (.int u25) :: (.int u26) :: (.int u27) :: (.int u28) :: (.int u29) :: (.int u30) :: (.int u31) :: (.int (own_hex q3 (60 : Int32))) :: (.int (own_hex q3 (56 : Int32))) :: (.int (own_hex q3 (52 : Int32))) :: (.int (own_hex q3 (48 : Int32))) :: (.int (own_hex q3 (44 : Int32))) :: (.int (own_hex q3 (40 : Int32))) :: (.int (own_hex q3 (36 : Int32))) :: (.int ((own_hex q3 (32 : Int32)).toUInt32.toUInt16.toUInt32.toInt32)) :: (.int u40) :: (.int u41) :: (.int u42) :: (.int u43) :: (.int u44) :: (.int u45) :: (.int u46) :: (.int u47) :: []) (.int (0 : Int32)) := Arv.set Ar28 q28 Sz28 Ng28 Hs28 Gs28 (fits_nar_char _) W28 39 rfl (Nat.le_of_ble_eq_true rfl)
  rw [(show ((own_hex q3 (32 : Int32)).toUInt32.toUInt16.toUInt32.toInt32) = (own_hex q3 (32 : Int32)) from (own_hxs _ _).2.2.2.2.1)] at V28
  have Nf31 := Fr.snoc X28 Nf26 g_a1
  have kn32 : ∀ t, own_S p e below T28 (mkF m 88 #[.val (.ref a1), .val (.int (32 : Int32)), .val (.long q3), .second] []) t → own_S p e below T0 (mkF m 42 #[.val (.ref a1), .val (.int (32 : Int32)), .val (.long q3), .second] []) t := fun t kt => kn27 t (st28 _ kt)
  obtain ⟨s2, o2, t1, t2, t3, t4⟩ := tlp_32_2 (n0 := n0) a1 q3 kk1 u0 u1 u2 u3 u4 u5 u6 u7 u8 u9 u10 u11 u12 u13 u14 u15 u16 u17 u18 u19 u20 u21 u22 u23 u24 u25 u26 u27 u28 u29 u30 u31 u32 u33 u34 u35 u36 u37 u38 u39 u40 u41 u42 u43 u44 u45 u46 u47 hB  X28 hx hZ hw hby hml hown hret hlk e28 Nf31 Z29 V28 K30 g_a1
  exact ⟨s2, o2, id (kn32 _ t1), t2, t3, t4⟩

theorem ef_rm1_32 (m : MethodId) (x0 : Addr) (x2 : Int64) : entryFrame m #[(.ref x0), (.int (32 : Int32)), (.long x2)] 4 = mkF m 0 #[.val (.ref x0), .val (.int (32 : Int32)), .val (.long x2), .second] [] := by first | (simp [entryFrame, mkF, argsToLocals, Value.category]; done) | rfl
 
set_option maxRecDepth 65536 in
set_option maxHeartbeats 40000000 in
theorem rm1_32 (l : Launch) (Z : State) (a0 : Array Value) (hw : ∀ d ∈ tables_1, d.before a0 Z = true) (ws : List Jvm.Cond) (a1 : Addr) (q3 : Int64) (kk1 : ClassId) (u0 : Int32) (u1 : Int32) (u2 : Int32) (u3 : Int32) (u4 : Int32) (u5 : Int32) (u6 : Int32) (u7 : Int32) (u8 : Int32) (u9 : Int32) (u10 : Int32) (u11 : Int32) (u12 : Int32) (u13 : Int32) (u14 : Int32) (u15 : Int32) (u16 : Int32) (u17 : Int32) (u18 : Int32) (u19 : Int32) (u20 : Int32) (u21 : Int32) (u22 : Int32) (u23 : Int32) (u24 : Int32) (u25 : Int32) (u26 : Int32) (u27 : Int32) (u28 : Int32) (u29 : Int32) (u30 : Int32) (u31 : Int32) (u32 : Int32) (u33 : Int32) (u34 : Int32) (u35 : Int32) (u36 : Int32) (u37 : Int32) (u38 : Int32) (u39 : Int32) (u40 : Int32) (u41 : Int32) (u42 : Int32) (u43 : Int32) (u44 : Int32) (u45 : Int32) (u46 : Int32) (u47 : Int32) (hB : Heap) (h0 : Heap) (n0 : Nat) (Z0 : n0 ≤ h0.size) (V1 : Arv Z h0 a1 kk1 .char (48 : Int32) ((.int u0) :: (.int u1) :: (.int u2) :: (.int u3) :: (.int u4) :: (.int u5) :: (.int u6) :: (.int u7) :: (.int u8) :: (.int u9) :: (.int u10) :: (.int u11) :: (.int u12) :: (.int u13) :: (.int u14) :: (.int u15) :: (.int u16) :: (.int u17) :: (.int u18) :: (.int u19) :: (.int u20) :: (.int u21) :: (.int u22) :: (.int u23) :: (.int u24) :: (.int u25) :: (.int u26) :: (.int u27) :: (.int u28) :: (.int u29) :: (.int u30) :: (.int u31) :: (.int u32) :: (.int u33) :: (.int u34) :: (.int u35) :: (.int u36) :: (.int u37) :: (.int u38) :: (.int u39) :: (.int u40) :: (.int u41) :: (.int u42) :: (.int u43) :: (.int u44) :: (.int u45) :: (.int u46) :: (.int u47) :: []) (.int (0 : Int32))) (KB : Keep hB h0 [a1]) (g_a1 : n0 ≤ a1) :
    MetFree l (⟨"com/example/dual_delivery/dualdelivery/model/ReceiptHandleParsePinLaw", "put", "([CIJ)V"⟩ : MethodName) (head1 (Jvm.Cond.code (⟨"com/example/dual_delivery/dualdelivery/model/ReceiptHandleParsePinLaw", "put", "([CIJ)V"⟩ : MethodName) method_4_code 4 none :: ws) ({ frames := 1, cells := 0, slots := 0, locals := 17 } : Room)) (fun a U => a = #[(.ref a1), (.int (32 : Int32)), (.long q3)] ∧ Z.Warmed39 U.vm ∧ U.heap = h0) (fun _ _ _ _ _ => True) (fun _ U o U' => ∃ v L, o = .returned v ∧ Q1_32 Z a1 q3 kk1 u0 u1 u2 u3 u4 u5 u6 u7 u8 u9 u10 u11 u12 u13 u14 u15 u16 u17 u18 u19 u20 u21 u22 u23 u24 u25 u26 u27 u28 u29 u30 u31 u32 u33 u34 u35 u36 u37 u38 u39 u40 u41 u42 u43 u44 u45 u46 u47 hB h0 n0 v U'.heap L ∧ FrameEnd U o U' L ({ frames := 1, cells := 0, slots := 0, locals := 17 } : Room).cells ({ frames := 1, cells := 0, slots := 0, locals := 17 } : Room).slots) := by
  refine MetFree.of_bodySF (plainFor_of_name pn_0) hisR ?_
  intro p e s m args below meth c s₁ Bd hml0 hP hK
  obtain ⟨rfl, hZ, hh⟩ := hP
  have hx := Bd.exec
  have hby := Bd.bytes
  have hml : c.maxLocals = 4 := hml0
  have hown : s.vm.findClass "com/example/dual_delivery/dualdelivery/model/ReceiptHandleParsePinLaw" = some m.cls := findClass_of_methodNamed Bd.named
  have hnm := (name_of_methodNamed Bd.named Bd.method).1
  have X0 : Stand p l e ({ frames := 1, cells := 0, slots := 0, locals := 17 } : Room) s m #[(.ref a1), (.int (32 : Int32)), (.long q3)] below meth c s₁ [] 0 0 := Stand.of_body Bd
  have e0 : s₁.heap = h0 := by rw [← hh, Bd.state]; rfl
  have Nf0 := Fr.nil n0
  obtain ⟨Gl, hGl, kn0⟩ : ∃ Gl : State → Prop, (∀ t, Gl t → Steps p.tables e below (s₁.setTop (entryFrame m #[(.ref a1), (.int (32 : Int32)), (.long q3)] 4)) t) ∧ ∀ t, own_S p e below s₁ (mkF m 0 #[.val (.ref a1), .val (.int (32 : Int32)), .val (.long q3), .second] []) t → Gl t := ⟨fun t => Steps p.tables e below (s₁.setTop (entryFrame m #[(.ref a1), (.int (32 : Int32)), (.long q3)] 4)) t, fun _ k => k, fun t k => castTop (ef_rm1_32 m a1 q3) k⟩
  have kn1 : ∀ t, own_S p e below s₁ (mkF m 5 #[.val (.ref a1), .val (.int (32 : Int32)), .val (.long q3), .second] [(.int (60 : Int32)), (.long q3), (.int (32 : Int32)), (.ref a1)]) t → Gl t := fun t kt => kn0 t (by
    show own_S p e below s₁ (mkF m 0 #[.val (.ref a1), .val (.int (32 : Int32)), .val (.long q3), .second] []) _
    refine XS.aloadN X0.here hx rfl (hb hby d_method_4_0) rfl rfl ?_
    show own_S p e below s₁ (mkF m 1 #[.val (.ref a1), .val (.int (32 : Int32)), .val (.long q3), .second] [(.ref a1)]) _
    refine XS.iloadN X0.here hx rfl (hb hby d_method_4_1) rfl ?_
    show own_S p e below s₁ (mkF m 2 #[.val (.ref a1), .val (.int (32 : Int32)), .val (.long q3), .second] [(.int (32 : Int32)), (.ref a1)]) _
    refine XS.lloadN X0.here hx rfl (hb hby d_method_4_2) rfl ?_
    show own_S p e below s₁ (mkF m 3 #[.val (.ref a1), .val (.int (32 : Int32)), .val (.long q3), .second] [(.long q3), (.int (32 : Int32)), (.ref a1)]) _
    refine XS.bipush X0.here hx rfl (hb hby d_method_4_3) ?_
    exact kt)
  obtain ⟨_, _, ⟨T2, L2, cc2, ss2⟩, -, X2, ⟨Lc2, hQ2, l2, y2, z2⟩, st2⟩ := Jvm.LawKit.callS X0 hx (y := (⟨"com/example/dual_delivery/dualdelivery/model/ReceiptHandleParsePinLaw", "hexDigit", "(JI)C"⟩ : MethodName)) hown (mvT hZ (hw _ (List.mem_of_getElem? (i := 5) rfl))) (mvT hZ (hw _ (List.mem_of_getElem? (i := 6) rfl))) (mvT hZ (hw _ (List.mem_of_getElem? (i := 3) rfl))) (mvT hZ (hw _ (List.mem_of_getElem? (i := 7) rfl))) (by decide) (backOf (W := 2) (rm2 l Z a0 hw [] q3 (60 : Int32)  h0 n0 Z0 ) hZ (hw _ (List.mem_of_getElem? (i := 7) rfl)) (hw _ (List.mem_of_getElem? (i := 3) rfl)) (by decide) (by decide)) (g := (mkF m 5 #[.val (.ref a1), .val (.int (32 : Int32)), .val (.long q3), .second] [(.int (60 : Int32)), (.long q3), (.int (32 : Int32)), (.ref a1)])) rfl (by rw [hml]; rfl) (argsL := [(.long q3), (.int (60 : Int32))]) (rest := [(.int (32 : Int32)), (.ref a1)]) (lenOf pd_0 rfl) rfl (by show 2 * 0 + _ ≤ _; exact Nat.le_of_eq rfl) (hb hby d_method_4_5) (fun _ _ => ⟨rfl, e0, (by decide : 0 + 0 ≤ _), (by decide : 0 + 0 ≤ _)⟩)
  dsimp only [Pt.U, Pt.locs, Pt.cells, Pt.slots] at X2 l2 y2 z2 st2 hQ2
  subst l2 y2 z2
  have X2 : Stand p l e _ _ m _ below meth c T2 _ 0 0 := X2
  obtain ⟨rfl, Nq2, eq2⟩ := hQ2
  have Nf2 := Fr.app Nf0 Nq2
  have kn3 : ∀ t, own_S p e below T2 (mkF m 8 #[.val (.ref a1), .val (.int (32 : Int32)), .val (.long q3), .second] [(.int (own_hex q3 (60 : Int32))), (.int (32 : Int32)), (.ref a1)]) t → Gl t := fun t kt => kn1 t (st2 _ kt)
  obtain ⟨cl4, Ar4, q4, Sz4, Ng4, Hs4, Gs4⟩ := id V1
  have hin4 : ¬ ((32 : Int32) < 0 ∨ cl4.slots.size ≤ ((32 : Int32)).toNatClampNeg) := inb_of Sz4 ⟨by decide, by decide⟩
  obtain ⟨T4, h4, X4, e4, W4, st4⟩ := stC X2 hx hZ eq2 Ar4 (j := (32 : Int32)) hin4 (g := (mkF m 8 #[.val (.ref a1), .val (.int (32 : Int32)), .val (.long q3), .second] [(.int (own_hex q3 (60 : Int32))), (.int (32 : Int32)), (.ref a1)])) rfl rfl (hb hby d_method_4_8)
  have Z5 : n0 ≤ h4.size := Nat.le_trans Z0 (Keep.of_wr W4).1
  have K6 : Keep hB h4 [a1] := KB.wr W4 (Or.inl (List.mem_of_getElem? (i := 0) rfl))
  have V4 : Arv Z h4 a1 kk1 .char (48 : Int32) ((.int u0) :: (.int u1) :: (.int u2) :: (.int u3) :: (.int u4) :: (.int u5) :: (.int u6) :: (.int u7) :: (.int u8) :: (.int u9) :: (.int u10) :: (.int u11) :: (.int u12) :: (.int u13) :: (.int u14) :: (.int u15) :: (.int u16) :: (.int u17) :: (.int u18) :: (.int u19) :: (.int u20) :: (.int u21) :: (.int u22) :: (.int u23) :: (.int u24) :: (.int u25) :: (.int u26) :: (.int u27) :: (.int u28) :: (.int u29) :: (.int u30) :: (.int u31) :: (.int ((own_hex q3 (60 : Int32)).toUInt32.toUInt16.toUInt32.toInt32)) :: (.int u33) :: (.int u34) :: (.int u35) :: (.int u36) :: (.int u37) :: (.int u38) :: (.int u39) :: (.int u40) :: (.int u41) :: (.int u42) :: (.int u43) :: (.int u44) :: (.int u45) :: (.int u46) :: (.int u47) :: []) (.int (0 : Int32)) := Arv.set Ar4 q4 Sz4 Ng4 Hs4 Gs4 (fits_nar_char _) W4 32 rfl (Nat.le_of_ble_eq_true rfl)
  rw [(show ((own_hex q3 (60 : Int32)).toUInt32.toUInt16.toUInt32.toInt32) = (own_hex q3 (60 : Int32)) from (own_hxs _ _).2.2.2.2.1)] at V4
  have Nf7 := Fr.snoc X4 Nf2 g_a1
  have kn8 : ∀ t, own_S p e below T4 (mkF m 9 #[.val (.ref a1), .val (.int (32 : Int32)), .val (.long q3), .second] []) t → Gl t := fun t kt => kn3 t (st4 _ kt)
  have kn9 : ∀ t, own_S p e below T4 (mkF m 16 #[.val (.ref a1), .val (.int (32 : Int32)), .val (.long q3), .second] [(.int (56 : Int32)), (.long q3), (.int (33 : Int32)), (.ref a1)]) t → Gl t := fun t kt => kn8 t (by
    show own_S p e below T4 (mkF m 9 #[.val (.ref a1), .val (.int (32 : Int32)), .val (.long q3), .second] []) _
    refine XS.aloadN X4.here hx rfl (hb hby d_method_4_9) rfl rfl ?_
    show own_S p e below T4 (mkF m 10 #[.val (.ref a1), .val (.int (32 : Int32)), .val (.long q3), .second] [(.ref a1)]) _
    refine XS.iloadN X4.here hx rfl (hb hby d_method_4_10) rfl ?_
    show own_S p e below T4 (mkF m 11 #[.val (.ref a1), .val (.int (32 : Int32)), .val (.long q3), .second] [(.int (32 : Int32)), (.ref a1)]) _
    refine XS.iconst X4.here hx rfl (hb hby d_method_4_11) ?_
    show own_S p e below T4 (mkF m 12 #[.val (.ref a1), .val (.int (32 : Int32)), .val (.long q3), .second] [(.int (1 : Int32)), (.int (32 : Int32)), (.ref a1)]) _
    refine XS.iadd X4.here hx rfl (hb hby d_method_4_12) rfl ?_
    rw [(by decide : ((32 : Int32) + (1 : Int32)) = (33 : Int32))]
    show own_S p e below T4 (mkF m 13 #[.val (.ref a1), .val (.int (32 : Int32)), .val (.long q3), .second] [(.int (33 : Int32)), (.ref a1)]) _
    refine XS.lloadN X4.here hx rfl (hb hby d_method_4_13) rfl ?_
    show own_S p e below T4 (mkF m 14 #[.val (.ref a1), .val (.int (32 : Int32)), .val (.long q3), .second] [(.long q3), (.int (33 : Int32)), (.ref a1)]) _
    refine XS.bipush X4.here hx rfl (hb hby d_method_4_14) ?_
    exact kt)
  obtain ⟨_, _, ⟨T10, L10, cc10, ss10⟩, -, X10, ⟨Lc10, hQ10, l10, y10, z10⟩, st10⟩ := Jvm.LawKit.callS X4 hx (y := (⟨"com/example/dual_delivery/dualdelivery/model/ReceiptHandleParsePinLaw", "hexDigit", "(JI)C"⟩ : MethodName)) hown (mvT hZ (hw _ (List.mem_of_getElem? (i := 5) rfl))) (mvT hZ (hw _ (List.mem_of_getElem? (i := 6) rfl))) (mvT hZ (hw _ (List.mem_of_getElem? (i := 3) rfl))) (mvT hZ (hw _ (List.mem_of_getElem? (i := 7) rfl))) (by decide) (backOf (W := 2) (rm2 l Z a0 hw [] q3 (56 : Int32)  h4 n0 Z5 ) hZ (hw _ (List.mem_of_getElem? (i := 7) rfl)) (hw _ (List.mem_of_getElem? (i := 3) rfl)) (by decide) (by decide)) (g := (mkF m 16 #[.val (.ref a1), .val (.int (32 : Int32)), .val (.long q3), .second] [(.int (56 : Int32)), (.long q3), (.int (33 : Int32)), (.ref a1)])) rfl (by rw [hml]; rfl) (argsL := [(.long q3), (.int (56 : Int32))]) (rest := [(.int (33 : Int32)), (.ref a1)]) (lenOf pd_0 rfl) rfl (by show 2 * 0 + _ ≤ _; exact Nat.le_of_eq rfl) (hb hby d_method_4_16) (fun _ _ => ⟨rfl, e4, (by decide : 0 + 0 ≤ _), (by decide : 0 + 0 ≤ _)⟩)
  dsimp only [Pt.U, Pt.locs, Pt.cells, Pt.slots] at X10 l10 y10 z10 st10 hQ10
  subst l10 y10 z10
  have X10 : Stand p l e _ _ m _ below meth c T10 _ 0 0 := X10
  obtain ⟨rfl, Nq10, eq10⟩ := hQ10
  have Nf10 := Fr.app Nf7 Nq10
  have kn11 : ∀ t, own_S p e below T10 (mkF m 19 #[.val (.ref a1), .val (.int (32 : Int32)), .val (.long q3), .second] [(.int (own_hex q3 (56 : Int32))), (.int (33 : Int32)), (.ref a1)]) t → Gl t := fun t kt => kn9 t (st10 _ kt)
  obtain ⟨cl12, Ar12, q12, Sz12, Ng12, Hs12, Gs12⟩ := id V4
  have hin12 : ¬ ((33 : Int32) < 0 ∨ cl12.slots.size ≤ ((33 : Int32)).toNatClampNeg) := inb_of Sz12 ⟨by decide, by decide⟩
  obtain ⟨T12, h12, X12, e12, W12, st12⟩ := stC X10 hx hZ eq10 Ar12 (j := (33 : Int32)) hin12 (g := (mkF m 19 #[.val (.ref a1), .val (.int (32 : Int32)), .val (.long q3), .second] [(.int (own_hex q3 (56 : Int32))), (.int (33 : Int32)), (.ref a1)])) rfl rfl (hb hby d_method_4_19)
  have Z13 : n0 ≤ h12.size := Nat.le_trans Z5 (Keep.of_wr W12).1
  have K14 : Keep hB h12 [a1] := K6.wr W12 (Or.inl (List.mem_of_getElem? (i := 0) rfl))
  have V12 : Arv Z h12 a1 kk1 .char (48 : Int32) ((.int u0) :: (.int u1) :: (.int u2) :: (.int u3) :: (.int u4) :: (.int u5) :: (.int u6) :: (.int u7) :: (.int u8) :: (.int u9) :: (.int u10) :: (.int u11) :: (.int u12) :: (.int u13) :: (.int u14) :: (.int u15) :: (.int u16) :: (.int u17) :: (.int u18) :: (.int u19) :: (.int u20) :: (.int u21) :: (.int u22) :: (.int u23) :: (.int u24) :: (.int u25) :: (.int u26) :: (.int u27) :: (.int u28) :: (.int u29) :: (.int u30) :: (.int u31) :: (.int (own_hex q3 (60 : Int32))) :: (.int ((own_hex q3 (56 : Int32)).toUInt32.toUInt16.toUInt32.toInt32)) :: (.int u34) :: (.int u35) :: (.int u36) :: (.int u37) :: (.int u38) :: (.int u39) :: (.int u40) :: (.int u41) :: (.int u42) :: (.int u43) :: (.int u44) :: (.int u45) :: (.int u46) :: (.int u47) :: []) (.int (0 : Int32)) := Arv.set Ar12 q12 Sz12 Ng12 Hs12 Gs12 (fits_nar_char _) W12 33 rfl (Nat.le_of_ble_eq_true rfl)
  rw [(show ((own_hex q3 (56 : Int32)).toUInt32.toUInt16.toUInt32.toInt32) = (own_hex q3 (56 : Int32)) from (own_hxs _ _).2.2.2.2.1)] at V12
  have Nf15 := Fr.snoc X12 Nf10 g_a1
  have kn16 : ∀ t, own_S p e below T12 (mkF m 20 #[.val (.ref a1), .val (.int (32 : Int32)), .val (.long q3), .second] []) t → Gl t := fun t kt => kn11 t (st12 _ kt)
  have kn17 : ∀ t, own_S p e below T12 (mkF m 27 #[.val (.ref a1), .val (.int (32 : Int32)), .val (.long q3), .second] [(.int (52 : Int32)), (.long q3), (.int (34 : Int32)), (.ref a1)]) t → Gl t := fun t kt => kn16 t (by
    show own_S p e below T12 (mkF m 20 #[.val (.ref a1), .val (.int (32 : Int32)), .val (.long q3), .second] []) _
    refine XS.aloadN X12.here hx rfl (hb hby d_method_4_20) rfl rfl ?_
    show own_S p e below T12 (mkF m 21 #[.val (.ref a1), .val (.int (32 : Int32)), .val (.long q3), .second] [(.ref a1)]) _
    refine XS.iloadN X12.here hx rfl (hb hby d_method_4_21) rfl ?_
    show own_S p e below T12 (mkF m 22 #[.val (.ref a1), .val (.int (32 : Int32)), .val (.long q3), .second] [(.int (32 : Int32)), (.ref a1)]) _
    refine XS.iconst X12.here hx rfl (hb hby d_method_4_22) ?_
    show own_S p e below T12 (mkF m 23 #[.val (.ref a1), .val (.int (32 : Int32)), .val (.long q3), .second] [(.int (2 : Int32)), (.int (32 : Int32)), (.ref a1)]) _
    refine XS.iadd X12.here hx rfl (hb hby d_method_4_23) rfl ?_
    rw [(by decide : ((32 : Int32) + (2 : Int32)) = (34 : Int32))]
    show own_S p e below T12 (mkF m 24 #[.val (.ref a1), .val (.int (32 : Int32)), .val (.long q3), .second] [(.int (34 : Int32)), (.ref a1)]) _
    refine XS.lloadN X12.here hx rfl (hb hby d_method_4_24) rfl ?_
    show own_S p e below T12 (mkF m 25 #[.val (.ref a1), .val (.int (32 : Int32)), .val (.long q3), .second] [(.long q3), (.int (34 : Int32)), (.ref a1)]) _
    refine XS.bipush X12.here hx rfl (hb hby d_method_4_25) ?_
    exact kt)
  obtain ⟨_, _, ⟨T18, L18, cc18, ss18⟩, -, X18, ⟨Lc18, hQ18, l18, y18, z18⟩, st18⟩ := Jvm.LawKit.callS X12 hx (y := (⟨"com/example/dual_delivery/dualdelivery/model/ReceiptHandleParsePinLaw", "hexDigit", "(JI)C"⟩ : MethodName)) hown (mvT hZ (hw _ (List.mem_of_getElem? (i := 5) rfl))) (mvT hZ (hw _ (List.mem_of_getElem? (i := 6) rfl))) (mvT hZ (hw _ (List.mem_of_getElem? (i := 3) rfl))) (mvT hZ (hw _ (List.mem_of_getElem? (i := 7) rfl))) (by decide) (backOf (W := 2) (rm2 l Z a0 hw [] q3 (52 : Int32)  h12 n0 Z13 ) hZ (hw _ (List.mem_of_getElem? (i := 7) rfl)) (hw _ (List.mem_of_getElem? (i := 3) rfl)) (by decide) (by decide)) (g := (mkF m 27 #[.val (.ref a1), .val (.int (32 : Int32)), .val (.long q3), .second] [(.int (52 : Int32)), (.long q3), (.int (34 : Int32)), (.ref a1)])) rfl (by rw [hml]; rfl) (argsL := [(.long q3), (.int (52 : Int32))]) (rest := [(.int (34 : Int32)), (.ref a1)]) (lenOf pd_0 rfl) rfl (by show 2 * 0 + _ ≤ _; exact Nat.le_of_eq rfl) (hb hby d_method_4_27) (fun _ _ => ⟨rfl, e12, (by decide : 0 + 0 ≤ _), (by decide : 0 + 0 ≤ _)⟩)
  dsimp only [Pt.U, Pt.locs, Pt.cells, Pt.slots] at X18 l18 y18 z18 st18 hQ18
  subst l18 y18 z18
  have X18 : Stand p l e _ _ m _ below meth c T18 _ 0 0 := X18
  obtain ⟨rfl, Nq18, eq18⟩ := hQ18
  have Nf18 := Fr.app Nf15 Nq18
  have kn19 : ∀ t, own_S p e below T18 (mkF m 30 #[.val (.ref a1), .val (.int (32 : Int32)), .val (.long q3), .second] [(.int (own_hex q3 (52 : Int32))), (.int (34 : Int32)), (.ref a1)]) t → Gl t := fun t kt => kn17 t (st18 _ kt)
  obtain ⟨cl20, Ar20, q20, Sz20, Ng20, Hs20, Gs20⟩ := id V12
  have hin20 : ¬ ((34 : Int32) < 0 ∨ cl20.slots.size ≤ ((34 : Int32)).toNatClampNeg) := inb_of Sz20 ⟨by decide, by decide⟩
  obtain ⟨T20, h20, X20, e20, W20, st20⟩ := stC X18 hx hZ eq18 Ar20 (j := (34 : Int32)) hin20 (g := (mkF m 30 #[.val (.ref a1), .val (.int (32 : Int32)), .val (.long q3), .second] [(.int (own_hex q3 (52 : Int32))), (.int (34 : Int32)), (.ref a1)])) rfl rfl (hb hby d_method_4_30)
  have Z21 : n0 ≤ h20.size := Nat.le_trans Z13 (Keep.of_wr W20).1
  have K22 : Keep hB h20 [a1] := K14.wr W20 (Or.inl (List.mem_of_getElem? (i := 0) rfl))
  have V20 : Arv Z h20 a1 kk1 .char (48 : Int32) ((.int u0) :: (.int u1) :: (.int u2) :: (.int u3) :: (.int u4) :: (.int u5) :: (.int u6) :: (.int u7) :: (.int u8) :: (.int u9) :: (.int u10) :: (.int u11) :: (.int u12) :: (.int u13) :: (.int u14) :: (.int u15) :: (.int u16) :: (.int u17) :: (.int u18) :: (.int u19) :: (.int u20) :: (.int u21) :: (.int u22) :: (.int u23) :: (.int u24) :: (.int u25) :: (.int u26) :: (.int u27) :: (.int u28) :: (.int u29) :: (.int u30) :: (.int u31) :: (.int (own_hex q3 (60 : Int32))) :: (.int (own_hex q3 (56 : Int32))) :: (.int ((own_hex q3 (52 : Int32)).toUInt32.toUInt16.toUInt32.toInt32)) :: (.int u35) :: (.int u36) :: (.int u37) :: (.int u38) :: (.int u39) :: (.int u40) :: (.int u41) :: (.int u42) :: (.int u43) :: (.int u44) :: (.int u45) :: (.int u46) :: (.int u47) :: []) (.int (0 : Int32)) := Arv.set Ar20 q20 Sz20 Ng20 Hs20 Gs20 (fits_nar_char _) W20 34 rfl (Nat.le_of_ble_eq_true rfl)
  rw [(show ((own_hex q3 (52 : Int32)).toUInt32.toUInt16.toUInt32.toInt32) = (own_hex q3 (52 : Int32)) from (own_hxs _ _).2.2.2.2.1)] at V20
  have Nf23 := Fr.snoc X20 Nf18 g_a1
  have kn24 : ∀ t, own_S p e below T20 (mkF m 31 #[.val (.ref a1), .val (.int (32 : Int32)), .val (.long q3), .second] []) t → Gl t := fun t kt => kn19 t (st20 _ kt)
  have kn25 : ∀ t, own_S p e below T20 (mkF m 38 #[.val (.ref a1), .val (.int (32 : Int32)), .val (.long q3), .second] [(.int (48 : Int32)), (.long q3), (.int (35 : Int32)), (.ref a1)]) t → Gl t := fun t kt => kn24 t (by
    show own_S p e below T20 (mkF m 31 #[.val (.ref a1), .val (.int (32 : Int32)), .val (.long q3), .second] []) _
    refine XS.aloadN X20.here hx rfl (hb hby d_method_4_31) rfl rfl ?_
    show own_S p e below T20 (mkF m 32 #[.val (.ref a1), .val (.int (32 : Int32)), .val (.long q3), .second] [(.ref a1)]) _
    refine XS.iloadN X20.here hx rfl (hb hby d_method_4_32) rfl ?_
    show own_S p e below T20 (mkF m 33 #[.val (.ref a1), .val (.int (32 : Int32)), .val (.long q3), .second] [(.int (32 : Int32)), (.ref a1)]) _
    refine XS.iconst X20.here hx rfl (hb hby d_method_4_33) ?_
    show own_S p e below T20 (mkF m 34 #[.val (.ref a1), .val (.int (32 : Int32)), .val (.long q3), .second] [(.int (3 : Int32)), (.int (32 : Int32)), (.ref a1)]) _
    refine XS.iadd X20.here hx rfl (hb hby d_method_4_34) rfl ?_
    rw [(by decide : ((32 : Int32) + (3 : Int32)) = (35 : Int32))]
    show own_S p e below T20 (mkF m 35 #[.val (.ref a1), .val (.int (32 : Int32)), .val (.long q3), .second] [(.int (35 : Int32)), (.ref a1)]) _
    refine XS.lloadN X20.here hx rfl (hb hby d_method_4_35) rfl ?_
    show own_S p e below T20 (mkF m 36 #[.val (.ref a1), .val (.int (32 : Int32)), .val (.long q3), .second] [(.long q3), (.int (35 : Int32)), (.ref a1)]) _
    refine XS.bipush X20.here hx rfl (hb hby d_method_4_36) ?_
    exact kt)
  obtain ⟨_, _, ⟨T26, L26, cc26, ss26⟩, -, X26, ⟨Lc26, hQ26, l26, y26, z26⟩, st26⟩ := Jvm.LawKit.callS X20 hx (y := (⟨"com/example/dual_delivery/dualdelivery/model/ReceiptHandleParsePinLaw", "hexDigit", "(JI)C"⟩ : MethodName)) hown (mvT hZ (hw _ (List.mem_of_getElem? (i := 5) rfl))) (mvT hZ (hw _ (List.mem_of_getElem? (i := 6) rfl))) (mvT hZ (hw _ (List.mem_of_getElem? (i := 3) rfl))) (mvT hZ (hw _ (List.mem_of_getElem? (i := 7) rfl))) (by decide) (backOf (W := 2) (rm2 l Z a0 hw [] q3 (48 : Int32)  h20 n0 Z21 ) hZ (hw _ (List.mem_of_getElem? (i := 7) rfl)) (hw _ (List.mem_of_getElem? (i := 3) rfl)) (by decide) (by decide)) (g := (mkF m 38 #[.val (.ref a1), .val (.int (32 : Int32)), .val (.long q3), .second] [(.int (48 : Int32)), (.long q3), (.int (35 : Int32)), (.ref a1)])) rfl (by rw [hml]; rfl) (argsL := [(.long q3), (.int (48 : Int32))]) (rest := [(.int (35 : Int32)), (.ref a1)]) (lenOf pd_0 rfl) rfl (by show 2 * 0 + _ ≤ _; exact Nat.le_of_eq rfl) (hb hby d_method_4_38) (fun _ _ => ⟨rfl, e20, (by decide : 0 + 0 ≤ _), (by decide : 0 + 0 ≤ _)⟩)
  dsimp only [Pt.U, Pt.locs, Pt.cells, Pt.slots] at X26 l26 y26 z26 st26 hQ26
  subst l26 y26 z26
  have X26 : Stand p l e _ _ m _ below meth c T26 _ 0 0 := X26
  obtain ⟨rfl, Nq26, eq26⟩ := hQ26
  have Nf26 := Fr.app Nf23 Nq26
  have kn27 : ∀ t, own_S p e below T26 (mkF m 41 #[.val (.ref a1), .val (.int (32 : Int32)), .val (.long q3), .second] [(.int (own_hex q3 (48 : Int32))), (.int (35 : Int32)), (.ref a1)]) t → Gl t := fun t kt => kn25 t (st26 _ kt)
  obtain ⟨cl28, Ar28, q28, Sz28, Ng28, Hs28, Gs28⟩ := id V20
  have hin28 : ¬ ((35 : Int32) < 0 ∨ cl28.slots.size ≤ ((35 : Int32)).toNatClampNeg) := inb_of Sz28 ⟨by decide, by decide⟩
  obtain ⟨T28, h28, X28, e28, W28, st28⟩ := stC X26 hx hZ eq26 Ar28 (j := (35 : Int32)) hin28 (g := (mkF m 41 #[.val (.ref a1), .val (.int (32 : Int32)), .val (.long q3), .second] [(.int (own_hex q3 (48 : Int32))), (.int (35 : Int32)), (.ref a1)])) rfl rfl (hb hby d_method_4_41)
  have Z29 : n0 ≤ h28.size := Nat.le_trans Z21 (Keep.of_wr W28).1
  have K30 : Keep hB h28 [a1] := K22.wr W28 (Or.inl (List.mem_of_getElem? (i := 0) rfl))
  have V28 : Arv Z h28 a1 kk1 .char (48 : Int32) ((.int u0) :: (.int u1) :: (.int u2) :: (.int u3) :: (.int u4) :: (.int u5) :: (.int u6) :: (.int u7) :: (.int u8) :: (.int u9) :: (.int u10) :: (.int u11) :: (.int u12) :: (.int u13) :: (.int u14) :: (.int u15) :: (.int u16) :: (.int u17) :: (.int u18) :: (.int u19) :: (.int u20) :: (.int u21) :: (.int u22) :: (.int u23) :: (.int u24) :: (.int u25) :: (.int u26) :: (.int u27) :: (.int u28) :: (.int u29) :: (.int u30) :: (.int u31) :: (.int (own_hex q3 (60 : Int32))) :: (.int (own_hex q3 (56 : Int32))) :: (.int (own_hex q3 (52 : Int32))) :: (.int ((own_hex q3 (48 : Int32)).toUInt32.toUInt16.toUInt32.toInt32)) :: (.int u36) :: (.int u37) :: (.int u38) :: (.int u39) :: (.int u40) :: (.int u41) :: (.int u42) :: (.int u43) :: (.int u44) :: (.int u45) :: (.int u46) :: (.int u47) :: []) (.int (0 : Int32)) := Arv.set Ar28 q28 Sz28 Ng28 Hs28 Gs28 (fits_nar_char _) W28 35 rfl (Nat.le_of_ble_eq_true rfl)
  rw [(show ((own_hex q3 (48 : Int32)).toUInt32.toUInt16.toUInt32.toInt32) = (own_hex q3 (48 : Int32)) from (own_hxs _ _).2.2.2.2.1)] at V28
  have Nf31 := Fr.snoc X28 Nf26 g_a1
  have kn32 : ∀ t, own_S p e below T28 (mkF m 42 #[.val (.ref a1), .val (.int (32 : Int32)), .val (.long q3), .second] []) t → Gl t := fun t kt => kn27 t (st28 _ kt)
  obtain ⟨s2, o2, t1, t2, t3, t4⟩ := tlp_32_1 (n0 := n0) a1 q3 kk1 u0 u1 u2 u3 u4 u5 u6 u7 u8 u9 u10 u11 u12 u13 u14 u15 u16 u17 u18 u19 u20 u21 u22 u23 u24 u25 u26 u27 u28 u29 u30 u31 u32 u33 u34 u35 u36 u37 u38 u39 u40 u41 u42 u43 u44 u45 u46 u47 hB  X28 hx hZ hw hby hml hown Bd.returns (BodyLoose.notSynchronized Bd) e28 Nf31 Z29 V28 K30 g_a1
  exact ⟨s2, o2, hGl _ (kn32 _ t1), t2, t3, t4⟩

abbrev own_cs (v0 v1 v2 : Int64) : List Int32 := ((own_hex v0 (60 : Int32)) :: (own_hex v0 (56 : Int32)) :: (own_hex v0 (52 : Int32)) :: (own_hex v0 (48 : Int32)) :: (own_hex v0 (44 : Int32)) :: (own_hex v0 (40 : Int32)) :: (own_hex v0 (36 : Int32)) :: (own_hex v0 (32 : Int32)) :: (own_hex v0 (28 : Int32)) :: (own_hex v0 (24 : Int32)) :: (own_hex v0 (20 : Int32)) :: (own_hex v0 (16 : Int32)) :: (own_hex v0 (12 : Int32)) :: (own_hex v0 (8 : Int32)) :: (own_hex v0 (4 : Int32)) :: (own_hex v0 (0 : Int32)) :: (own_hex v1 (60 : Int32)) :: (own_hex v1 (56 : Int32)) :: (own_hex v1 (52 : Int32)) :: (own_hex v1 (48 : Int32)) :: (own_hex v1 (44 : Int32)) :: (own_hex v1 (40 : Int32)) :: (own_hex v1 (36 : Int32)) :: (own_hex v1 (32 : Int32)) :: (own_hex v1 (28 : Int32)) :: (own_hex v1 (24 : Int32)) :: (own_hex v1 (20 : Int32)) :: (own_hex v1 (16 : Int32)) :: (own_hex v1 (12 : Int32)) :: (own_hex v1 (8 : Int32)) :: (own_hex v1 (4 : Int32)) :: (own_hex v1 (0 : Int32)) :: (own_hex v2 (60 : Int32)) :: (own_hex v2 (56 : Int32)) :: (own_hex v2 (52 : Int32)) :: (own_hex v2 (48 : Int32)) :: (own_hex v2 (44 : Int32)) :: (own_hex v2 (40 : Int32)) :: (own_hex v2 (36 : Int32)) :: (own_hex v2 (32 : Int32)) :: (own_hex v2 (28 : Int32)) :: (own_hex v2 (24 : Int32)) :: (own_hex v2 (20 : Int32)) :: (own_hex v2 (16 : Int32)) :: (own_hex v2 (12 : Int32)) :: (own_hex v2 (8 : Int32)) :: (own_hex v2 (4 : Int32)) :: (own_hex v2 (0 : Int32)) :: [])
def own_room12 : Room := ({ frames := 4, cells := 0, slots := 0, locals := 54 } : Room)
theorem d_prog_17_method_3_15 : decode prog_17_method_3_code 15 = .ok (.iload 5, 2) := by decide +kernel
theorem d_prog_17_method_3_17 : decode prog_17_method_3_code 17 = .ok (.iload_n 2, 1) := by decide +kernel
theorem d_prog_17_method_3_18 : decode prog_17_method_3_code 18 = .ok (.if_icmp .ge 86, 3) := by decide +kernel
theorem d_prog_17_method_3_21 : decode prog_17_method_3_code 21 = .ok (.aload_n 0, 1) := by decide +kernel
theorem d_prog_17_method_3_22 : decode prog_17_method_3_code 22 = .ok (.iload 5, 2) := by decide +kernel
theorem d_prog_17_method_3_24 : decode prog_17_method_3_code 24 = .ok (.invokevirtual 41, 3) := by decide +kernel
theorem d_prog_17_method_3_27 : decode prog_17_method_3_code 27 = .ok (.istore 6, 2) := by decide +kernel
theorem d_prog_17_method_3_29 : decode prog_17_method_3_code 29 = .ok (.iload 6, 2) := by decide +kernel
theorem d_prog_17_method_3_31 : decode prog_17_method_3_code 31 = .ok (.bipush 48, 2) := by decide +kernel
theorem d_prog_17_method_3_33 : decode prog_17_method_3_code 33 = .ok (.if_icmp .lt 20, 3) := by decide +kernel
theorem d_prog_17_method_3_36 : decode prog_17_method_3_code 36 = .ok (.iload 6, 2) := by decide +kernel
theorem d_prog_17_method_3_38 : decode prog_17_method_3_code 38 = .ok (.bipush 57, 2) := by decide +kernel
theorem d_prog_17_method_3_40 : decode prog_17_method_3_code 40 = .ok (.if_icmp .gt 13, 3) := by decide +kernel
theorem d_prog_17_method_3_43 : decode prog_17_method_3_code 43 = .ok (.iload 6, 2) := by decide +kernel
theorem d_prog_17_method_3_45 : decode prog_17_method_3_code 45 = .ok (.bipush 48, 2) := by decide +kernel
theorem d_prog_17_method_3_47 : decode prog_17_method_3_code 47 = .ok (.isub, 1) := by decide +kernel
theorem d_prog_17_method_3_48 : decode prog_17_method_3_code 48 = .ok (.istore 7, 2) := by decide +kernel
theorem d_prog_17_method_3_50 : decode prog_17_method_3_code 50 = .ok (.goto 40, 3) := by decide +kernel
theorem d_prog_17_method_3_53 : decode prog_17_method_3_code 53 = .ok (.iload 6, 2) := by decide +kernel
theorem d_prog_17_method_3_55 : decode prog_17_method_3_code 55 = .ok (.bipush 97, 2) := by decide +kernel
theorem d_prog_17_method_3_57 : decode prog_17_method_3_code 57 = .ok (.if_icmp .lt 23, 3) := by decide +kernel
theorem d_prog_17_method_3_60 : decode prog_17_method_3_code 60 = .ok (.iload 6, 2) := by decide +kernel
theorem d_prog_17_method_3_62 : decode prog_17_method_3_code 62 = .ok (.bipush 102, 2) := by decide +kernel
theorem d_prog_17_method_3_64 : decode prog_17_method_3_code 64 = .ok (.if_icmp .gt 16, 3) := by decide +kernel
theorem d_prog_17_method_3_67 : decode prog_17_method_3_code 67 = .ok (.iload 6, 2) := by decide +kernel
theorem d_prog_17_method_3_69 : decode prog_17_method_3_code 69 = .ok (.bipush 97, 2) := by decide +kernel
theorem d_prog_17_method_3_71 : decode prog_17_method_3_code 71 = .ok (.isub, 1) := by decide +kernel
theorem d_prog_17_method_3_72 : decode prog_17_method_3_code 72 = .ok (.bipush 10, 2) := by decide +kernel
theorem d_prog_17_method_3_74 : decode prog_17_method_3_code 74 = .ok (.iadd, 1) := by decide +kernel
theorem d_prog_17_method_3_75 : decode prog_17_method_3_code 75 = .ok (.istore 7, 2) := by decide +kernel
theorem d_prog_17_method_3_77 : decode prog_17_method_3_code 77 = .ok (.goto 13, 3) := by decide +kernel
theorem d_prog_17_method_3_90 : decode prog_17_method_3_code 90 = .ok (.lload_n 3, 1) := by decide +kernel
theorem d_prog_17_method_3_91 : decode prog_17_method_3_code 91 = .ok (.iconst 4, 1) := by decide +kernel
theorem d_prog_17_method_3_92 : decode prog_17_method_3_code 92 = .ok (.lshl, 1) := by decide +kernel
theorem d_prog_17_method_3_93 : decode prog_17_method_3_code 93 = .ok (.iload 7, 2) := by decide +kernel
theorem d_prog_17_method_3_95 : decode prog_17_method_3_code 95 = .ok (.i2l, 1) := by decide +kernel
theorem d_prog_17_method_3_96 : decode prog_17_method_3_code 96 = .ok (.lor, 1) := by decide +kernel
theorem d_prog_17_method_3_97 : decode prog_17_method_3_code 97 = .ok (.lstore_n 3, 1) := by decide +kernel
theorem d_prog_17_method_3_98 : decode prog_17_method_3_code 98 = .ok (.iinc 5 1, 3) := by decide +kernel
theorem d_prog_17_method_3_101 : decode prog_17_method_3_code 101 = .ok (.goto (-86), 3) := by decide +kernel
theorem pd_1 : parseMethodDescriptor "(I)C" = some ⟨[.int], some .char⟩ := by decide +kernel
set_option maxRecDepth 65536 in
set_option maxHeartbeats 40000000 in
theorem turn_a {p : Program} {l : Launch} {e : Env} {s : State} {m : MethodId} {args : Array Value} {below : List Frame} {meth : Method} {c : Code} {T0 : State} {locs : List Loc} {cells slots : Nat} {Z : State} {a0 : Array Value} {h0 : Heap} {n0 : Nat} {x1 : Addr} {t1 : Addr} {k1 : ClassId} {p1 : Int32} {e1 : Int32} {q1 : Int64} {j1 : Int32} {c1 : Int32} {i1 : Nat} {cs : List Int32} {N1 : Int32} {vs : List Value} {G1 : Int32} {G3 : Value}
    (X0 : Stand p l e ({ frames := 4, cells := 0, slots := 0, locals := 54 } : Room) s m args below meth c T0 locs cells slots) (hx : p.tables.exec = Jvm.exec) (hZ : Z.Warmed39 s.vm) (hw : ∀ d ∈ tables_1, d.before a0 Z = true) (hby : c.code = prog_17_method_3_code) (hml : c.maxLocals = 8) (hown : s.vm.findClass "com/example/dual_delivery/dualdelivery/model/ReceiptHandle" = some m.cls) (e0 : T0.heap = h0) (hcell : cells ≤ ({ frames := 4, cells := 0, slots := 0, locals := 54 } : Room).cells) (hslot : slots ≤ ({ frames := 4, cells := 0, slots := 0, locals := 54 } : Room).slots) (E_x1 : Exa Z h0 x1 "java/lang/String") (V_x1 : Fld Z h0 x1 "java/lang/String" "value" "[B" (.ref t1)) (C_x1 : Fld Z h0 x1 "java/lang/String" "coder" "B" (.int (0 : Int32))) (K_x1 : Arv Z h0 t1 k1 .byte N1 vs (.int (0 : Int32))) (hcd : StrChars.Road.CodA cs 0 N1 vs) (hbd : ∀ x ∈ cs, ¬ x < 0 ∧ ¬ (65535 : Int32) < x) (hlen : cs.length ≤ 4000) (hi : i1 < cs.length) (hj : j1 = Int32.ofNat i1) (hlt : j1 < e1) (hget : cs.getD i1 0 = c1) (d1 : ¬ c1 < (48 : Int32)) (d2 : ¬ (102 : Int32) < c1) (d3 : (57 : Int32) < c1 → ¬ c1 < (97 : Int32)) (O0 : Old Z n0 h0) (O2 : Sta Z Z.heap "java/lang/String" "COMPACT_STRINGS" "Z" (.int G1)) (P5 : ¬ (G1 = (0 : Int32))) (O4 : Sta Z Z.heap "jdk/internal/util/Preconditions" "SIOOBE_FORMATTER" "Ljava/util/function/BiFunction;" G3) (rG3 : G3.isRef = true) :
    ∃ T' : State, Stand p l e ({ frames := 4, cells := 0, slots := 0, locals := 54 } : Room) s m args below meth c T' locs cells slots ∧ T'.heap = h0 ∧ ∀ t, own_S p e below T' (mkF m 15 #[.val (.ref x1), .val (.int p1), .val (.int e1), .val (.long (own_acc q1 c1)), .second, .val (.int (j1 + (1 : Int32))), .val (.int c1), .val (.int (own_val c1))] []) t → own_S p e below T0 (mkF m 15 #[.val (.ref x1), .val (.int p1), .val (.int e1), .val (.long q1), .second, .val (.int j1), .unset, .unset] []) t := by
  have Nf0 := Fr.nil n0
  have kn0 : ∀ t, own_S p e below T0 (mkF m 15 #[.val (.ref x1), .val (.int p1), .val (.int e1), .val (.long q1), .second, .val (.int j1), .unset, .unset] []) t → own_S p e below T0 (mkF m 15 #[.val (.ref x1), .val (.int p1), .val (.int e1), .val (.long q1), .second, .val (.int j1), .unset, .unset] []) t := fun t k => k
  have kn1 : ∀ t, own_S p e below T0 (mkF m 18 #[.val (.ref x1), .val (.int p1), .val (.int e1), .val (.long q1), .second, .val (.int j1), .unset, .unset] [(.int e1), (.int j1)]) t → own_S p e below T0 (mkF m 15 #[.val (.ref x1), .val (.int p1), .val (.int e1), .val (.long q1), .second, .val (.int j1), .unset, .unset] []) t := fun t kt => kn0 t (by
    show own_S p e below T0 (mkF m 15 #[.val (.ref x1), .val (.int p1), .val (.int e1), .val (.long q1), .second, .val (.int j1), .unset, .unset] []) _
    refine XS.iload X0.here hx rfl (hb hby d_prog_17_method_3_15) rfl ?_
    show own_S p e below T0 (mkF m 17 #[.val (.ref x1), .val (.int p1), .val (.int e1), .val (.long q1), .second, .val (.int j1), .unset, .unset] [(.int j1)]) _
    refine XS.iloadN X0.here hx rfl (hb hby d_prog_17_method_3_17) rfl ?_
    exact kt)
  have hc18_2 : j1 < e1 := hlt
  have kn3 : ∀ t, own_S p e below T0 (mkF m 24 #[.val (.ref x1), .val (.int p1), .val (.int e1), .val (.long q1), .second, .val (.int j1), .unset, .unset] [(.int j1), (.ref x1)]) t → own_S p e below T0 (mkF m 15 #[.val (.ref x1), .val (.int p1), .val (.int e1), .val (.long q1), .second, .val (.int j1), .unset, .unset] []) t := fun t kt => kn1 t (by
    show own_S p e below T0 (mkF m 18 #[.val (.ref x1), .val (.int p1), .val (.int e1), .val (.long q1), .second, .val (.int j1), .unset, .unset] [(.int e1), (.int j1)]) _
    refine XS.icmpNo X0.here hx rfl (hb hby d_prog_17_method_3_18) rfl (tlt hc18_2).2.1 ?_
    show own_S p e below T0 (mkF m 21 #[.val (.ref x1), .val (.int p1), .val (.int e1), .val (.long q1), .second, .val (.int j1), .unset, .unset] []) _
    refine XS.aloadN X0.here hx rfl (hb hby d_prog_17_method_3_21) rfl rfl ?_
    show own_S p e below T0 (mkF m 22 #[.val (.ref x1), .val (.int p1), .val (.int e1), .val (.long q1), .second, .val (.int j1), .unset, .unset] [(.ref x1)]) _
    refine XS.iload X0.here hx rfl (hb hby d_prog_17_method_3_22) rfl ?_
    exact kt)
  have hch : ∀ d ∈ StrChars.Road.wordsChN, d.before a0 Z = true := fun d hd => hw d ((by decide +kernel : ∀ d ∈ StrChars.Road.wordsChN, d ∈ tables_1) d hd)
  obtain ⟨cq4, kq4, qa4, qb4, qc4⟩ := isOf hZ e0 E_x1
  obtain ⟨_, _, ⟨T4, L4, cc4, ss4⟩, -, X4, ⟨Lc4, hQ4, l4, y4, z4⟩, st4⟩ := X0.virtualBack hx (y := (⟨"java/lang/String", "charAt", "(I)C"⟩ : MethodName)) (z := (⟨"java/lang/String", "charAt", "(I)C"⟩ : MethodName)) hown (mvT hZ (hw _ (List.mem_of_getElem? (i := 57) rfl))) (mvT hZ (hw _ (List.mem_of_getElem? (i := 58) rfl))) (notFace_of_selects (args := #[]) (mvT hZ (hw _ (List.mem_of_getElem? (i := 60) rfl)))) (mvT hZ (hw _ (List.mem_of_getElem? (i := 60) rfl))) (mvT hZ (hw _ (List.mem_of_getElem? (i := 59) rfl))) (by decide) (StrChars.Road.chN (W := 0) hZ hch (kI := 4) (hw _ (List.mem_of_getElem? (i := 10) rfl)) E_x1 V_x1 C_x1 K_x1 hcd hbd (O2.ext O0.2) P5 (O4.ext O0.2) rG3 hlen (i := i1) hi (j := j1) hj (by decide) (by decide)) qa4 qc4 (g := (mkF m 24 #[.val (.ref x1), .val (.int p1), .val (.int e1), .val (.long q1), .second, .val (.int j1), .unset, .unset] [(.int j1), (.ref x1)])) rfl (by rw [hml]; rfl) (Steps.refl _) (argsL := [(.int j1)]) (rest := []) (lenOf pd_1 rfl) rfl (by show 2 * 0 + _ ≤ _; exact Nat.le_of_eq rfl) (hb hby d_prog_17_method_3_24) (fun _ _ => ⟨rfl, e0, hcell, hslot⟩)
  dsimp only [Pt.U, Pt.locs, Pt.cells, Pt.slots] at X4 l4 y4 z4 st4 hQ4
  subst l4 y4 z4
  obtain ⟨rfl, rfl, eq4⟩ := hQ4
  have Nq4 : Fr n0 ([] : List Loc) := Fr.nil n0
  rw [hget] at st4
  have Nf4 := Fr.app Nf0 Nq4
  have kn5 : ∀ t, own_S p e below T4 (mkF m 27 #[.val (.ref x1), .val (.int p1), .val (.int e1), .val (.long q1), .second, .val (.int j1), .unset, .unset] [(.int c1)]) t → own_S p e below T0 (mkF m 15 #[.val (.ref x1), .val (.int p1), .val (.int e1), .val (.long q1), .second, .val (.int j1), .unset, .unset] []) t := fun t kt => kn3 t (st4.trans kt)
  have kn6 : ∀ t, own_S p e below T4 (mkF m 33 #[.val (.ref x1), .val (.int p1), .val (.int e1), .val (.long q1), .second, .val (.int j1), .val (.int c1), .unset] [(.int (48 : Int32)), (.int c1)]) t → own_S p e below T0 (mkF m 15 #[.val (.ref x1), .val (.int p1), .val (.int e1), .val (.long q1), .second, .val (.int j1), .unset, .unset] []) t := fun t kt => kn5 t (by
    show own_S p e below T4 (mkF m 27 #[.val (.ref x1), .val (.int p1), .val (.int e1), .val (.long q1), .second, .val (.int j1), .unset, .unset] [(.int c1)]) _
    refine XS.istore X4.here hx rfl (hb hby d_prog_17_method_3_27) rfl (l' := #[.val (.ref x1), .val (.int p1), .val (.int e1), .val (.long q1), .second, .val (.int j1), .val (.int c1), .unset]) rfl ?_
    show own_S p e below T4 (mkF m 29 #[.val (.ref x1), .val (.int p1), .val (.int e1), .val (.long q1), .second, .val (.int j1), .val (.int c1), .unset] []) _
    refine XS.iload X4.here hx rfl (hb hby d_prog_17_method_3_29) rfl ?_
    show own_S p e below T4 (mkF m 31 #[.val (.ref x1), .val (.int p1), .val (.int e1), .val (.long q1), .second, .val (.int j1), .val (.int c1), .unset] [(.int c1)]) _
    refine XS.bipush X4.here hx rfl (hb hby d_prog_17_method_3_31) ?_
    exact kt)
  have hc33_7 : ¬ (c1 < (48 : Int32)) := d1
  have kn8 : ∀ t, own_S p e below T4 (mkF m 40 #[.val (.ref x1), .val (.int p1), .val (.int e1), .val (.long q1), .second, .val (.int j1), .val (.int c1), .unset] [(.int (57 : Int32)), (.int c1)]) t → own_S p e below T0 (mkF m 15 #[.val (.ref x1), .val (.int p1), .val (.int e1), .val (.long q1), .second, .val (.int j1), .unset, .unset] []) t := fun t kt => kn6 t (by
    show own_S p e below T4 (mkF m 33 #[.val (.ref x1), .val (.int p1), .val (.int e1), .val (.long q1), .second, .val (.int j1), .val (.int c1), .unset] [(.int (48 : Int32)), (.int c1)]) _
    refine XS.icmpNo X4.here hx rfl (hb hby d_prog_17_method_3_33) rfl (flt hc33_7).1 ?_
    show own_S p e below T4 (mkF m 36 #[.val (.ref x1), .val (.int p1), .val (.int e1), .val (.long q1), .second, .val (.int j1), .val (.int c1), .unset] []) _
    refine XS.iload X4.here hx rfl (hb hby d_prog_17_method_3_36) rfl ?_
    show own_S p e below T4 (mkF m 38 #[.val (.ref x1), .val (.int p1), .val (.int e1), .val (.long q1), .second, .val (.int j1), .val (.int c1), .unset] [(.int c1)]) _
    refine XS.bipush X4.here hx rfl (hb hby d_prog_17_method_3_38) ?_
    exact kt)
  have kn9 : ∀ t, own_S p e below T4 (mkF m 90 #[.val (.ref x1), .val (.int p1), .val (.int e1), .val (.long q1), .second, .val (.int j1), .val (.int c1), .val (.int (own_val c1))] []) t → own_S p e below T0 (mkF m 15 #[.val (.ref x1), .val (.int p1), .val (.int e1), .val (.long q1), .second, .val (.int j1), .unset, .unset] []) t := by
    intro t kt
    by_cases hc40 : (57 : Int32) < c1
    · have kn10 : ∀ t, own_S p e below T4 (mkF m 57 #[.val (.ref x1), .val (.int p1), .val (.int e1), .val (.long q1), .second, .val (.int j1), .val (.int c1), .unset] [(.int (97 : Int32)), (.int c1)]) t → own_S p e below T0 (mkF m 15 #[.val (.ref x1), .val (.int p1), .val (.int e1), .val (.long q1), .second, .val (.int j1), .unset, .unset] []) t := fun t kt => kn8 t (by
        show own_S p e below T4 (mkF m 40 #[.val (.ref x1), .val (.int p1), .val (.int e1), .val (.long q1), .second, .val (.int j1), .val (.int c1), .unset] [(.int (57 : Int32)), (.int c1)]) _
        refine XS.icmpYes X4.here hx rfl (pc0 := 40) (pc' := 53) rfl (hb hby d_prog_17_method_3_40) rfl (tlt hc40).2.2.1 (by decide) (by decide) ?_
        show own_S p e below T4 (mkF m 53 #[.val (.ref x1), .val (.int p1), .val (.int e1), .val (.long q1), .second, .val (.int j1), .val (.int c1), .unset] []) _
        refine XS.iload X4.here hx rfl (hb hby d_prog_17_method_3_53) rfl ?_
        show own_S p e below T4 (mkF m 55 #[.val (.ref x1), .val (.int p1), .val (.int e1), .val (.long q1), .second, .val (.int j1), .val (.int c1), .unset] [(.int c1)]) _
        refine XS.bipush X4.here hx rfl (hb hby d_prog_17_method_3_55) ?_
        exact kt)
      have hc57_11 : ¬ (c1 < (97 : Int32)) := d3 hc40
      have kn12 : ∀ t, own_S p e below T4 (mkF m 64 #[.val (.ref x1), .val (.int p1), .val (.int e1), .val (.long q1), .second, .val (.int j1), .val (.int c1), .unset] [(.int (102 : Int32)), (.int c1)]) t → own_S p e below T0 (mkF m 15 #[.val (.ref x1), .val (.int p1), .val (.int e1), .val (.long q1), .second, .val (.int j1), .unset, .unset] []) t := fun t kt => kn10 t (by
        show own_S p e below T4 (mkF m 57 #[.val (.ref x1), .val (.int p1), .val (.int e1), .val (.long q1), .second, .val (.int j1), .val (.int c1), .unset] [(.int (97 : Int32)), (.int c1)]) _
        refine XS.icmpNo X4.here hx rfl (hb hby d_prog_17_method_3_57) rfl (flt hc57_11).1 ?_
        show own_S p e below T4 (mkF m 60 #[.val (.ref x1), .val (.int p1), .val (.int e1), .val (.long q1), .second, .val (.int j1), .val (.int c1), .unset] []) _
        refine XS.iload X4.here hx rfl (hb hby d_prog_17_method_3_60) rfl ?_
        show own_S p e below T4 (mkF m 62 #[.val (.ref x1), .val (.int p1), .val (.int e1), .val (.long q1), .second, .val (.int j1), .val (.int c1), .unset] [(.int c1)]) _
        refine XS.bipush X4.here hx rfl (hb hby d_prog_17_method_3_62) ?_
        exact kt)
      have hc64_13 : ¬ ((102 : Int32) < c1) := d2
      rw [(show (own_val c1) = ((c1 - (97 : Int32)) + (10 : Int32)) from by rw [own_val, if_pos hc40])] at kt
      exact kn12 t (by
        show own_S p e below T4 (mkF m 64 #[.val (.ref x1), .val (.int p1), .val (.int e1), .val (.long q1), .second, .val (.int j1), .val (.int c1), .unset] [(.int (102 : Int32)), (.int c1)]) _
        refine XS.icmpNo X4.here hx rfl (hb hby d_prog_17_method_3_64) rfl (flt hc64_13).2.2.1 ?_
        show own_S p e below T4 (mkF m 67 #[.val (.ref x1), .val (.int p1), .val (.int e1), .val (.long q1), .second, .val (.int j1), .val (.int c1), .unset] []) _
        refine XS.iload X4.here hx rfl (hb hby d_prog_17_method_3_67) rfl ?_
        show own_S p e below T4 (mkF m 69 #[.val (.ref x1), .val (.int p1), .val (.int e1), .val (.long q1), .second, .val (.int j1), .val (.int c1), .unset] [(.int c1)]) _
        refine XS.bipush X4.here hx rfl (hb hby d_prog_17_method_3_69) ?_
        show own_S p e below T4 (mkF m 71 #[.val (.ref x1), .val (.int p1), .val (.int e1), .val (.long q1), .second, .val (.int j1), .val (.int c1), .unset] [(.int (97 : Int32)), (.int c1)]) _
        refine XS.isub X4.here hx rfl (hb hby d_prog_17_method_3_71) rfl ?_
        show own_S p e below T4 (mkF m 72 #[.val (.ref x1), .val (.int p1), .val (.int e1), .val (.long q1), .second, .val (.int j1), .val (.int c1), .unset] [(.int (c1 - (97 : Int32)))]) _
        refine XS.bipush X4.here hx rfl (hb hby d_prog_17_method_3_72) ?_
        show own_S p e below T4 (mkF m 74 #[.val (.ref x1), .val (.int p1), .val (.int e1), .val (.long q1), .second, .val (.int j1), .val (.int c1), .unset] [(.int (10 : Int32)), (.int (c1 - (97 : Int32)))]) _
        refine XS.iadd X4.here hx rfl (hb hby d_prog_17_method_3_74) rfl ?_
        show own_S p e below T4 (mkF m 75 #[.val (.ref x1), .val (.int p1), .val (.int e1), .val (.long q1), .second, .val (.int j1), .val (.int c1), .unset] [(.int ((c1 - (97 : Int32)) + (10 : Int32)))]) _
        refine XS.istore X4.here hx rfl (hb hby d_prog_17_method_3_75) rfl (l' := #[.val (.ref x1), .val (.int p1), .val (.int e1), .val (.long q1), .second, .val (.int j1), .val (.int c1), .val (.int ((c1 - (97 : Int32)) + (10 : Int32)))]) rfl ?_
        show own_S p e below T4 (mkF m 77 #[.val (.ref x1), .val (.int p1), .val (.int e1), .val (.long q1), .second, .val (.int j1), .val (.int c1), .val (.int ((c1 - (97 : Int32)) + (10 : Int32)))] []) _
        refine XS.goto X4.here hx rfl (pc0 := 77) (pc' := 90) rfl (hb hby d_prog_17_method_3_77) (by decide) (by decide) ?_
        exact kt)
    · rw [(show (own_val c1) = (c1 - (48 : Int32)) from by rw [own_val, if_neg hc40])] at kt
      exact kn8 t (by
        show own_S p e below T4 (mkF m 40 #[.val (.ref x1), .val (.int p1), .val (.int e1), .val (.long q1), .second, .val (.int j1), .val (.int c1), .unset] [(.int (57 : Int32)), (.int c1)]) _
        refine XS.icmpNo X4.here hx rfl (hb hby d_prog_17_method_3_40) rfl (flt hc40).2.2.1 ?_
        show own_S p e below T4 (mkF m 43 #[.val (.ref x1), .val (.int p1), .val (.int e1), .val (.long q1), .second, .val (.int j1), .val (.int c1), .unset] []) _
        refine XS.iload X4.here hx rfl (hb hby d_prog_17_method_3_43) rfl ?_
        show own_S p e below T4 (mkF m 45 #[.val (.ref x1), .val (.int p1), .val (.int e1), .val (.long q1), .second, .val (.int j1), .val (.int c1), .unset] [(.int c1)]) _
        refine XS.bipush X4.here hx rfl (hb hby d_prog_17_method_3_45) ?_
        show own_S p e below T4 (mkF m 47 #[.val (.ref x1), .val (.int p1), .val (.int e1), .val (.long q1), .second, .val (.int j1), .val (.int c1), .unset] [(.int (48 : Int32)), (.int c1)]) _
        refine XS.isub X4.here hx rfl (hb hby d_prog_17_method_3_47) rfl ?_
        show own_S p e below T4 (mkF m 48 #[.val (.ref x1), .val (.int p1), .val (.int e1), .val (.long q1), .second, .val (.int j1), .val (.int c1), .unset] [(.int (c1 - (48 : Int32)))]) _
        refine XS.istore X4.here hx rfl (hb hby d_prog_17_method_3_48) rfl (l' := #[.val (.ref x1), .val (.int p1), .val (.int e1), .val (.long q1), .second, .val (.int j1), .val (.int c1), .val (.int (c1 - (48 : Int32)))]) rfl ?_
        show own_S p e below T4 (mkF m 50 #[.val (.ref x1), .val (.int p1), .val (.int e1), .val (.long q1), .second, .val (.int j1), .val (.int c1), .val (.int (c1 - (48 : Int32)))] []) _
        refine XS.goto X4.here hx rfl (pc0 := 50) (pc' := 90) rfl (hb hby d_prog_17_method_3_50) (by decide) (by decide) ?_
        exact kt)
  have kn14 : ∀ t, own_S p e below T4 (mkF m 97 #[.val (.ref x1), .val (.int p1), .val (.int e1), .val (.long q1), .second, .val (.int j1), .val (.int c1), .val (.int (own_val c1))] [(.long ((q1 <<< ((4 : Int32) &&& 0x3f).toInt64) ||| ((own_val c1).toInt64)))]) t → own_S p e below T0 (mkF m 15 #[.val (.ref x1), .val (.int p1), .val (.int e1), .val (.long q1), .second, .val (.int j1), .unset, .unset] []) t := fun t kt => kn9 t (by
    show own_S p e below T4 (mkF m 90 #[.val (.ref x1), .val (.int p1), .val (.int e1), .val (.long q1), .second, .val (.int j1), .val (.int c1), .val (.int (own_val c1))] []) _
    refine XS.lloadN X4.here hx rfl (hb hby d_prog_17_method_3_90) rfl ?_
    show own_S p e below T4 (mkF m 91 #[.val (.ref x1), .val (.int p1), .val (.int e1), .val (.long q1), .second, .val (.int j1), .val (.int c1), .val (.int (own_val c1))] [(.long q1)]) _
    refine XS.iconst X4.here hx rfl (hb hby d_prog_17_method_3_91) ?_
    show own_S p e below T4 (mkF m 92 #[.val (.ref x1), .val (.int p1), .val (.int e1), .val (.long q1), .second, .val (.int j1), .val (.int c1), .val (.int (own_val c1))] [(.int (4 : Int32)), (.long q1)]) _
    refine XS.lshl X4.here hx rfl (hb hby d_prog_17_method_3_92) rfl ?_
    show own_S p e below T4 (mkF m 93 #[.val (.ref x1), .val (.int p1), .val (.int e1), .val (.long q1), .second, .val (.int j1), .val (.int c1), .val (.int (own_val c1))] [(.long (q1 <<< ((4 : Int32) &&& 0x3f).toInt64))]) _
    refine XS.iload X4.here hx rfl (hb hby d_prog_17_method_3_93) rfl ?_
    show own_S p e below T4 (mkF m 95 #[.val (.ref x1), .val (.int p1), .val (.int e1), .val (.long q1), .second, .val (.int j1), .val (.int c1), .val (.int (own_val c1))] [(.int (own_val c1)), (.long (q1 <<< ((4 : Int32) &&& 0x3f).toInt64))]) _
    refine XS.i2l X4.here hx rfl (hb hby d_prog_17_method_3_95) rfl ?_
    show own_S p e below T4 (mkF m 96 #[.val (.ref x1), .val (.int p1), .val (.int e1), .val (.long q1), .second, .val (.int j1), .val (.int c1), .val (.int (own_val c1))] [(.long ((own_val c1).toInt64)), (.long (q1 <<< ((4 : Int32) &&& 0x3f).toInt64))]) _
    refine XS.lor X4.here hx rfl (hb hby d_prog_17_method_3_96) rfl ?_
    exact kt)
  rw [(show ((q1 <<< ((4 : Int32) &&& 0x3f).toInt64) ||| ((own_val c1).toInt64)) = (own_acc q1 c1) from rfl)] at kn14
  have kn15 : ∀ t, own_S p e below T4 (mkF m 15 #[.val (.ref x1), .val (.int p1), .val (.int e1), .val (.long (own_acc q1 c1)), .second, .val (.int (j1 + (1 : Int32))), .val (.int c1), .val (.int (own_val c1))] []) t → own_S p e below T0 (mkF m 15 #[.val (.ref x1), .val (.int p1), .val (.int e1), .val (.long q1), .second, .val (.int j1), .unset, .unset] []) t := fun t kt => kn14 t (by
    show own_S p e below T4 (mkF m 97 #[.val (.ref x1), .val (.int p1), .val (.int e1), .val (.long q1), .second, .val (.int j1), .val (.int c1), .val (.int (own_val c1))] [(.long (own_acc q1 c1))]) _
    refine XS.lstoreN X4.here hx rfl (hb hby d_prog_17_method_3_97) rfl (l' := #[.val (.ref x1), .val (.int p1), .val (.int e1), .val (.long (own_acc q1 c1)), .second, .val (.int j1), .val (.int c1), .val (.int (own_val c1))]) rfl ?_
    show own_S p e below T4 (mkF m 98 #[.val (.ref x1), .val (.int p1), .val (.int e1), .val (.long (own_acc q1 c1)), .second, .val (.int j1), .val (.int c1), .val (.int (own_val c1))] []) _
    refine XS.iinc X4.here hx rfl (hb hby d_prog_17_method_3_98) rfl (l' := #[.val (.ref x1), .val (.int p1), .val (.int e1), .val (.long (own_acc q1 c1)), .second, .val (.int (j1 + (1 : Int32))), .val (.int c1), .val (.int (own_val c1))]) rfl ?_
    show own_S p e below T4 (mkF m 101 #[.val (.ref x1), .val (.int p1), .val (.int e1), .val (.long (own_acc q1 c1)), .second, .val (.int (j1 + (1 : Int32))), .val (.int c1), .val (.int (own_val c1))] []) _
    refine XS.goto X4.here hx rfl (pc0 := 101) (pc' := 15) rfl (hb hby d_prog_17_method_3_101) (by decide) (by decide) ?_
    exact kt)
  have Xe := X4
  simp only [List.append_nil, Nat.add_zero] at Xe
  exact ⟨T4, Xe, eq4, kn15⟩

set_option maxRecDepth 65536 in
set_option maxHeartbeats 40000000 in
theorem turn_b {p : Program} {l : Launch} {e : Env} {s : State} {m : MethodId} {args : Array Value} {below : List Frame} {meth : Method} {c : Code} {T0 : State} {locs : List Loc} {cells slots : Nat} {Z : State} {a0 : Array Value} {h0 : Heap} {n0 : Nat} {x1 : Addr} {t1 : Addr} {k1 : ClassId} {p1 : Int32} {e1 : Int32} {q1 : Int64} {j1 : Int32} {c1 : Int32} {i1 : Nat} {cs : List Int32} {N1 : Int32} {vs : List Value} {G1 : Int32} {G3 : Value} {c6 : Int32} {c7 : Int32}
    (X0 : Stand p l e ({ frames := 4, cells := 0, slots := 0, locals := 54 } : Room) s m args below meth c T0 locs cells slots) (hx : p.tables.exec = Jvm.exec) (hZ : Z.Warmed39 s.vm) (hw : ∀ d ∈ tables_1, d.before a0 Z = true) (hby : c.code = prog_17_method_3_code) (hml : c.maxLocals = 8) (hown : s.vm.findClass "com/example/dual_delivery/dualdelivery/model/ReceiptHandle" = some m.cls) (e0 : T0.heap = h0) (hcell : cells ≤ ({ frames := 4, cells := 0, slots := 0, locals := 54 } : Room).cells) (hslot : slots ≤ ({ frames := 4, cells := 0, slots := 0, locals := 54 } : Room).slots) (E_x1 : Exa Z h0 x1 "java/lang/String") (V_x1 : Fld Z h0 x1 "java/lang/String" "value" "[B" (.ref t1)) (C_x1 : Fld Z h0 x1 "java/lang/String" "coder" "B" (.int (0 : Int32))) (K_x1 : Arv Z h0 t1 k1 .byte N1 vs (.int (0 : Int32))) (hcd : StrChars.Road.CodA cs 0 N1 vs) (hbd : ∀ x ∈ cs, ¬ x < 0 ∧ ¬ (65535 : Int32) < x) (hlen : cs.length ≤ 4000) (hi : i1 < cs.length) (hj : j1 = Int32.ofNat i1) (hlt : j1 < e1) (hget : cs.getD i1 0 = c1) (d1 : ¬ c1 < (48 : Int32)) (d2 : ¬ (102 : Int32) < c1) (d3 : (57 : Int32) < c1 → ¬ c1 < (97 : Int32)) (O0 : Old Z n0 h0) (O2 : Sta Z Z.heap "java/lang/String" "COMPACT_STRINGS" "Z" (.int G1)) (P5 : ¬ (G1 = (0 : Int32))) (O4 : Sta Z Z.heap "jdk/internal/util/Preconditions" "SIOOBE_FORMATTER" "Ljava/util/function/BiFunction;" G3) (rG3 : G3.isRef = true) :
    ∃ T' : State, Stand p l e ({ frames := 4, cells := 0, slots := 0, locals := 54 } : Room) s m args below meth c T' locs cells slots ∧ T'.heap = h0 ∧ ∀ t, own_S p e below T' (mkF m 15 #[.val (.ref x1), .val (.int p1), .val (.int e1), .val (.long (own_acc q1 c1)), .second, .val (.int (j1 + (1 : Int32))), .val (.int c1), .val (.int (own_val c1))] []) t → own_S p e below T0 (mkF m 15 #[.val (.ref x1), .val (.int p1), .val (.int e1), .val (.long q1), .second, .val (.int j1), .val (.int c6), .val (.int c7)] []) t := by
  have Nf0 := Fr.nil n0
  have kn0 : ∀ t, own_S p e below T0 (mkF m 15 #[.val (.ref x1), .val (.int p1), .val (.int e1), .val (.long q1), .second, .val (.int j1), .val (.int c6), .val (.int c7)] []) t → own_S p e below T0 (mkF m 15 #[.val (.ref x1), .val (.int p1), .val (.int e1), .val (.long q1), .second, .val (.int j1), .val (.int c6), .val (.int c7)] []) t := fun t k => k
  have kn1 : ∀ t, own_S p e below T0 (mkF m 18 #[.val (.ref x1), .val (.int p1), .val (.int e1), .val (.long q1), .second, .val (.int j1), .val (.int c6), .val (.int c7)] [(.int e1), (.int j1)]) t → own_S p e below T0 (mkF m 15 #[.val (.ref x1), .val (.int p1), .val (.int e1), .val (.long q1), .second, .val (.int j1), .val (.int c6), .val (.int c7)] []) t := fun t kt => kn0 t (by
    show own_S p e below T0 (mkF m 15 #[.val (.ref x1), .val (.int p1), .val (.int e1), .val (.long q1), .second, .val (.int j1), .val (.int c6), .val (.int c7)] []) _
    refine XS.iload X0.here hx rfl (hb hby d_prog_17_method_3_15) rfl ?_
    show own_S p e below T0 (mkF m 17 #[.val (.ref x1), .val (.int p1), .val (.int e1), .val (.long q1), .second, .val (.int j1), .val (.int c6), .val (.int c7)] [(.int j1)]) _
    refine XS.iloadN X0.here hx rfl (hb hby d_prog_17_method_3_17) rfl ?_
    exact kt)
  have hc18_2 : j1 < e1 := hlt
  have kn3 : ∀ t, own_S p e below T0 (mkF m 24 #[.val (.ref x1), .val (.int p1), .val (.int e1), .val (.long q1), .second, .val (.int j1), .val (.int c6), .val (.int c7)] [(.int j1), (.ref x1)]) t → own_S p e below T0 (mkF m 15 #[.val (.ref x1), .val (.int p1), .val (.int e1), .val (.long q1), .second, .val (.int j1), .val (.int c6), .val (.int c7)] []) t := fun t kt => kn1 t (by
    show own_S p e below T0 (mkF m 18 #[.val (.ref x1), .val (.int p1), .val (.int e1), .val (.long q1), .second, .val (.int j1), .val (.int c6), .val (.int c7)] [(.int e1), (.int j1)]) _
    refine XS.icmpNo X0.here hx rfl (hb hby d_prog_17_method_3_18) rfl (tlt hc18_2).2.1 ?_
    show own_S p e below T0 (mkF m 21 #[.val (.ref x1), .val (.int p1), .val (.int e1), .val (.long q1), .second, .val (.int j1), .val (.int c6), .val (.int c7)] []) _
    refine XS.aloadN X0.here hx rfl (hb hby d_prog_17_method_3_21) rfl rfl ?_
    show own_S p e below T0 (mkF m 22 #[.val (.ref x1), .val (.int p1), .val (.int e1), .val (.long q1), .second, .val (.int j1), .val (.int c6), .val (.int c7)] [(.ref x1)]) _
    refine XS.iload X0.here hx rfl (hb hby d_prog_17_method_3_22) rfl ?_
    exact kt)
  have hch : ∀ d ∈ StrChars.Road.wordsChN, d.before a0 Z = true := fun d hd => hw d ((by decide +kernel : ∀ d ∈ StrChars.Road.wordsChN, d ∈ tables_1) d hd)
  obtain ⟨cq4, kq4, qa4, qb4, qc4⟩ := isOf hZ e0 E_x1
  obtain ⟨_, _, ⟨T4, L4, cc4, ss4⟩, -, X4, ⟨Lc4, hQ4, l4, y4, z4⟩, st4⟩ := X0.virtualBack hx (y := (⟨"java/lang/String", "charAt", "(I)C"⟩ : MethodName)) (z := (⟨"java/lang/String", "charAt", "(I)C"⟩ : MethodName)) hown (mvT hZ (hw _ (List.mem_of_getElem? (i := 57) rfl))) (mvT hZ (hw _ (List.mem_of_getElem? (i := 58) rfl))) (notFace_of_selects (args := #[]) (mvT hZ (hw _ (List.mem_of_getElem? (i := 60) rfl)))) (mvT hZ (hw _ (List.mem_of_getElem? (i := 60) rfl))) (mvT hZ (hw _ (List.mem_of_getElem? (i := 59) rfl))) (by decide) (StrChars.Road.chN (W := 0) hZ hch (kI := 4) (hw _ (List.mem_of_getElem? (i := 10) rfl)) E_x1 V_x1 C_x1 K_x1 hcd hbd (O2.ext O0.2) P5 (O4.ext O0.2) rG3 hlen (i := i1) hi (j := j1) hj (by decide) (by decide)) qa4 qc4 (g := (mkF m 24 #[.val (.ref x1), .val (.int p1), .val (.int e1), .val (.long q1), .second, .val (.int j1), .val (.int c6), .val (.int c7)] [(.int j1), (.ref x1)])) rfl (by rw [hml]; rfl) (Steps.refl _) (argsL := [(.int j1)]) (rest := []) (lenOf pd_1 rfl) rfl (by show 2 * 0 + _ ≤ _; exact Nat.le_of_eq rfl) (hb hby d_prog_17_method_3_24) (fun _ _ => ⟨rfl, e0, hcell, hslot⟩)
  dsimp only [Pt.U, Pt.locs, Pt.cells, Pt.slots] at X4 l4 y4 z4 st4 hQ4
  subst l4 y4 z4
  obtain ⟨rfl, rfl, eq4⟩ := hQ4
  have Nq4 : Fr n0 ([] : List Loc) := Fr.nil n0
  rw [hget] at st4
  have Nf4 := Fr.app Nf0 Nq4
  have kn5 : ∀ t, own_S p e below T4 (mkF m 27 #[.val (.ref x1), .val (.int p1), .val (.int e1), .val (.long q1), .second, .val (.int j1), .val (.int c6), .val (.int c7)] [(.int c1)]) t → own_S p e below T0 (mkF m 15 #[.val (.ref x1), .val (.int p1), .val (.int e1), .val (.long q1), .second, .val (.int j1), .val (.int c6), .val (.int c7)] []) t := fun t kt => kn3 t (st4.trans kt)
  have kn6 : ∀ t, own_S p e below T4 (mkF m 33 #[.val (.ref x1), .val (.int p1), .val (.int e1), .val (.long q1), .second, .val (.int j1), .val (.int c1), .val (.int c7)] [(.int (48 : Int32)), (.int c1)]) t → own_S p e below T0 (mkF m 15 #[.val (.ref x1), .val (.int p1), .val (.int e1), .val (.long q1), .second, .val (.int j1), .val (.int c6), .val (.int c7)] []) t := fun t kt => kn5 t (by
    show own_S p e below T4 (mkF m 27 #[.val (.ref x1), .val (.int p1), .val (.int e1), .val (.long q1), .second, .val (.int j1), .val (.int c6), .val (.int c7)] [(.int c1)]) _
    refine XS.istore X4.here hx rfl (hb hby d_prog_17_method_3_27) rfl (l' := #[.val (.ref x1), .val (.int p1), .val (.int e1), .val (.long q1), .second, .val (.int j1), .val (.int c1), .val (.int c7)]) rfl ?_
    show own_S p e below T4 (mkF m 29 #[.val (.ref x1), .val (.int p1), .val (.int e1), .val (.long q1), .second, .val (.int j1), .val (.int c1), .val (.int c7)] []) _
    refine XS.iload X4.here hx rfl (hb hby d_prog_17_method_3_29) rfl ?_
    show own_S p e below T4 (mkF m 31 #[.val (.ref x1), .val (.int p1), .val (.int e1), .val (.long q1), .second, .val (.int j1), .val (.int c1), .val (.int c7)] [(.int c1)]) _
    refine XS.bipush X4.here hx rfl (hb hby d_prog_17_method_3_31) ?_
    exact kt)
  have hc33_7 : ¬ (c1 < (48 : Int32)) := d1
  have kn8 : ∀ t, own_S p e below T4 (mkF m 40 #[.val (.ref x1), .val (.int p1), .val (.int e1), .val (.long q1), .second, .val (.int j1), .val (.int c1), .val (.int c7)] [(.int (57 : Int32)), (.int c1)]) t → own_S p e below T0 (mkF m 15 #[.val (.ref x1), .val (.int p1), .val (.int e1), .val (.long q1), .second, .val (.int j1), .val (.int c6), .val (.int c7)] []) t := fun t kt => kn6 t (by
    show own_S p e below T4 (mkF m 33 #[.val (.ref x1), .val (.int p1), .val (.int e1), .val (.long q1), .second, .val (.int j1), .val (.int c1), .val (.int c7)] [(.int (48 : Int32)), (.int c1)]) _
    refine XS.icmpNo X4.here hx rfl (hb hby d_prog_17_method_3_33) rfl (flt hc33_7).1 ?_
    show own_S p e below T4 (mkF m 36 #[.val (.ref x1), .val (.int p1), .val (.int e1), .val (.long q1), .second, .val (.int j1), .val (.int c1), .val (.int c7)] []) _
    refine XS.iload X4.here hx rfl (hb hby d_prog_17_method_3_36) rfl ?_
    show own_S p e below T4 (mkF m 38 #[.val (.ref x1), .val (.int p1), .val (.int e1), .val (.long q1), .second, .val (.int j1), .val (.int c1), .val (.int c7)] [(.int c1)]) _
    refine XS.bipush X4.here hx rfl (hb hby d_prog_17_method_3_38) ?_
    exact kt)
  have kn9 : ∀ t, own_S p e below T4 (mkF m 90 #[.val (.ref x1), .val (.int p1), .val (.int e1), .val (.long q1), .second, .val (.int j1), .val (.int c1), .val (.int (own_val c1))] []) t → own_S p e below T0 (mkF m 15 #[.val (.ref x1), .val (.int p1), .val (.int e1), .val (.long q1), .second, .val (.int j1), .val (.int c6), .val (.int c7)] []) t := by
    intro t kt
    by_cases hc40 : (57 : Int32) < c1
    · have kn10 : ∀ t, own_S p e below T4 (mkF m 57 #[.val (.ref x1), .val (.int p1), .val (.int e1), .val (.long q1), .second, .val (.int j1), .val (.int c1), .val (.int c7)] [(.int (97 : Int32)), (.int c1)]) t → own_S p e below T0 (mkF m 15 #[.val (.ref x1), .val (.int p1), .val (.int e1), .val (.long q1), .second, .val (.int j1), .val (.int c6), .val (.int c7)] []) t := fun t kt => kn8 t (by
        show own_S p e below T4 (mkF m 40 #[.val (.ref x1), .val (.int p1), .val (.int e1), .val (.long q1), .second, .val (.int j1), .val (.int c1), .val (.int c7)] [(.int (57 : Int32)), (.int c1)]) _
        refine XS.icmpYes X4.here hx rfl (pc0 := 40) (pc' := 53) rfl (hb hby d_prog_17_method_3_40) rfl (tlt hc40).2.2.1 (by decide) (by decide) ?_
        show own_S p e below T4 (mkF m 53 #[.val (.ref x1), .val (.int p1), .val (.int e1), .val (.long q1), .second, .val (.int j1), .val (.int c1), .val (.int c7)] []) _
        refine XS.iload X4.here hx rfl (hb hby d_prog_17_method_3_53) rfl ?_
        show own_S p e below T4 (mkF m 55 #[.val (.ref x1), .val (.int p1), .val (.int e1), .val (.long q1), .second, .val (.int j1), .val (.int c1), .val (.int c7)] [(.int c1)]) _
        refine XS.bipush X4.here hx rfl (hb hby d_prog_17_method_3_55) ?_
        exact kt)
      have hc57_11 : ¬ (c1 < (97 : Int32)) := d3 hc40
      have kn12 : ∀ t, own_S p e below T4 (mkF m 64 #[.val (.ref x1), .val (.int p1), .val (.int e1), .val (.long q1), .second, .val (.int j1), .val (.int c1), .val (.int c7)] [(.int (102 : Int32)), (.int c1)]) t → own_S p e below T0 (mkF m 15 #[.val (.ref x1), .val (.int p1), .val (.int e1), .val (.long q1), .second, .val (.int j1), .val (.int c6), .val (.int c7)] []) t := fun t kt => kn10 t (by
        show own_S p e below T4 (mkF m 57 #[.val (.ref x1), .val (.int p1), .val (.int e1), .val (.long q1), .second, .val (.int j1), .val (.int c1), .val (.int c7)] [(.int (97 : Int32)), (.int c1)]) _
        refine XS.icmpNo X4.here hx rfl (hb hby d_prog_17_method_3_57) rfl (flt hc57_11).1 ?_
        show own_S p e below T4 (mkF m 60 #[.val (.ref x1), .val (.int p1), .val (.int e1), .val (.long q1), .second, .val (.int j1), .val (.int c1), .val (.int c7)] []) _
        refine XS.iload X4.here hx rfl (hb hby d_prog_17_method_3_60) rfl ?_
        show own_S p e below T4 (mkF m 62 #[.val (.ref x1), .val (.int p1), .val (.int e1), .val (.long q1), .second, .val (.int j1), .val (.int c1), .val (.int c7)] [(.int c1)]) _
        refine XS.bipush X4.here hx rfl (hb hby d_prog_17_method_3_62) ?_
        exact kt)
      have hc64_13 : ¬ ((102 : Int32) < c1) := d2
      rw [(show (own_val c1) = ((c1 - (97 : Int32)) + (10 : Int32)) from by rw [own_val, if_pos hc40])] at kt
      exact kn12 t (by
        show own_S p e below T4 (mkF m 64 #[.val (.ref x1), .val (.int p1), .val (.int e1), .val (.long q1), .second, .val (.int j1), .val (.int c1), .val (.int c7)] [(.int (102 : Int32)), (.int c1)]) _
        refine XS.icmpNo X4.here hx rfl (hb hby d_prog_17_method_3_64) rfl (flt hc64_13).2.2.1 ?_
        show own_S p e below T4 (mkF m 67 #[.val (.ref x1), .val (.int p1), .val (.int e1), .val (.long q1), .second, .val (.int j1), .val (.int c1), .val (.int c7)] []) _
        refine XS.iload X4.here hx rfl (hb hby d_prog_17_method_3_67) rfl ?_
        show own_S p e below T4 (mkF m 69 #[.val (.ref x1), .val (.int p1), .val (.int e1), .val (.long q1), .second, .val (.int j1), .val (.int c1), .val (.int c7)] [(.int c1)]) _
        refine XS.bipush X4.here hx rfl (hb hby d_prog_17_method_3_69) ?_
        show own_S p e below T4 (mkF m 71 #[.val (.ref x1), .val (.int p1), .val (.int e1), .val (.long q1), .second, .val (.int j1), .val (.int c1), .val (.int c7)] [(.int (97 : Int32)), (.int c1)]) _
        refine XS.isub X4.here hx rfl (hb hby d_prog_17_method_3_71) rfl ?_
        show own_S p e below T4 (mkF m 72 #[.val (.ref x1), .val (.int p1), .val (.int e1), .val (.long q1), .second, .val (.int j1), .val (.int c1), .val (.int c7)] [(.int (c1 - (97 : Int32)))]) _
        refine XS.bipush X4.here hx rfl (hb hby d_prog_17_method_3_72) ?_
        show own_S p e below T4 (mkF m 74 #[.val (.ref x1), .val (.int p1), .val (.int e1), .val (.long q1), .second, .val (.int j1), .val (.int c1), .val (.int c7)] [(.int (10 : Int32)), (.int (c1 - (97 : Int32)))]) _
        refine XS.iadd X4.here hx rfl (hb hby d_prog_17_method_3_74) rfl ?_
        show own_S p e below T4 (mkF m 75 #[.val (.ref x1), .val (.int p1), .val (.int e1), .val (.long q1), .second, .val (.int j1), .val (.int c1), .val (.int c7)] [(.int ((c1 - (97 : Int32)) + (10 : Int32)))]) _
        refine XS.istore X4.here hx rfl (hb hby d_prog_17_method_3_75) rfl (l' := #[.val (.ref x1), .val (.int p1), .val (.int e1), .val (.long q1), .second, .val (.int j1), .val (.int c1), .val (.int ((c1 - (97 : Int32)) + (10 : Int32)))]) rfl ?_
        show own_S p e below T4 (mkF m 77 #[.val (.ref x1), .val (.int p1), .val (.int e1), .val (.long q1), .second, .val (.int j1), .val (.int c1), .val (.int ((c1 - (97 : Int32)) + (10 : Int32)))] []) _
        refine XS.goto X4.here hx rfl (pc0 := 77) (pc' := 90) rfl (hb hby d_prog_17_method_3_77) (by decide) (by decide) ?_
        exact kt)
    · rw [(show (own_val c1) = (c1 - (48 : Int32)) from by rw [own_val, if_neg hc40])] at kt
      exact kn8 t (by
        show own_S p e below T4 (mkF m 40 #[.val (.ref x1), .val (.int p1), .val (.int e1), .val (.long q1), .second, .val (.int j1), .val (.int c1), .val (.int c7)] [(.int (57 : Int32)), (.int c1)]) _
        refine XS.icmpNo X4.here hx rfl (hb hby d_prog_17_method_3_40) rfl (flt hc40).2.2.1 ?_
        show own_S p e below T4 (mkF m 43 #[.val (.ref x1), .val (.int p1), .val (.int e1), .val (.long q1), .second, .val (.int j1), .val (.int c1), .val (.int c7)] []) _
        refine XS.iload X4.here hx rfl (hb hby d_prog_17_method_3_43) rfl ?_
        show own_S p e below T4 (mkF m 45 #[.val (.ref x1), .val (.int p1), .val (.int e1), .val (.long q1), .second, .val (.int j1), .val (.int c1), .val (.int c7)] [(.int c1)]) _
        refine XS.bipush X4.here hx rfl (hb hby d_prog_17_method_3_45) ?_
        show own_S p e below T4 (mkF m 47 #[.val (.ref x1), .val (.int p1), .val (.int e1), .val (.long q1), .second, .val (.int j1), .val (.int c1), .val (.int c7)] [(.int (48 : Int32)), (.int c1)]) _
        refine XS.isub X4.here hx rfl (hb hby d_prog_17_method_3_47) rfl ?_
        show own_S p e below T4 (mkF m 48 #[.val (.ref x1), .val (.int p1), .val (.int e1), .val (.long q1), .second, .val (.int j1), .val (.int c1), .val (.int c7)] [(.int (c1 - (48 : Int32)))]) _
        refine XS.istore X4.here hx rfl (hb hby d_prog_17_method_3_48) rfl (l' := #[.val (.ref x1), .val (.int p1), .val (.int e1), .val (.long q1), .second, .val (.int j1), .val (.int c1), .val (.int (c1 - (48 : Int32)))]) rfl ?_
        show own_S p e below T4 (mkF m 50 #[.val (.ref x1), .val (.int p1), .val (.int e1), .val (.long q1), .second, .val (.int j1), .val (.int c1), .val (.int (c1 - (48 : Int32)))] []) _
        refine XS.goto X4.here hx rfl (pc0 := 50) (pc' := 90) rfl (hb hby d_prog_17_method_3_50) (by decide) (by decide) ?_
        exact kt)
  have kn14 : ∀ t, own_S p e below T4 (mkF m 97 #[.val (.ref x1), .val (.int p1), .val (.int e1), .val (.long q1), .second, .val (.int j1), .val (.int c1), .val (.int (own_val c1))] [(.long ((q1 <<< ((4 : Int32) &&& 0x3f).toInt64) ||| ((own_val c1).toInt64)))]) t → own_S p e below T0 (mkF m 15 #[.val (.ref x1), .val (.int p1), .val (.int e1), .val (.long q1), .second, .val (.int j1), .val (.int c6), .val (.int c7)] []) t := fun t kt => kn9 t (by
    show own_S p e below T4 (mkF m 90 #[.val (.ref x1), .val (.int p1), .val (.int e1), .val (.long q1), .second, .val (.int j1), .val (.int c1), .val (.int (own_val c1))] []) _
    refine XS.lloadN X4.here hx rfl (hb hby d_prog_17_method_3_90) rfl ?_
    show own_S p e below T4 (mkF m 91 #[.val (.ref x1), .val (.int p1), .val (.int e1), .val (.long q1), .second, .val (.int j1), .val (.int c1), .val (.int (own_val c1))] [(.long q1)]) _
    refine XS.iconst X4.here hx rfl (hb hby d_prog_17_method_3_91) ?_
    show own_S p e below T4 (mkF m 92 #[.val (.ref x1), .val (.int p1), .val (.int e1), .val (.long q1), .second, .val (.int j1), .val (.int c1), .val (.int (own_val c1))] [(.int (4 : Int32)), (.long q1)]) _
    refine XS.lshl X4.here hx rfl (hb hby d_prog_17_method_3_92) rfl ?_
    show own_S p e below T4 (mkF m 93 #[.val (.ref x1), .val (.int p1), .val (.int e1), .val (.long q1), .second, .val (.int j1), .val (.int c1), .val (.int (own_val c1))] [(.long (q1 <<< ((4 : Int32) &&& 0x3f).toInt64))]) _
    refine XS.iload X4.here hx rfl (hb hby d_prog_17_method_3_93) rfl ?_
    show own_S p e below T4 (mkF m 95 #[.val (.ref x1), .val (.int p1), .val (.int e1), .val (.long q1), .second, .val (.int j1), .val (.int c1), .val (.int (own_val c1))] [(.int (own_val c1)), (.long (q1 <<< ((4 : Int32) &&& 0x3f).toInt64))]) _
    refine XS.i2l X4.here hx rfl (hb hby d_prog_17_method_3_95) rfl ?_
    show own_S p e below T4 (mkF m 96 #[.val (.ref x1), .val (.int p1), .val (.int e1), .val (.long q1), .second, .val (.int j1), .val (.int c1), .val (.int (own_val c1))] [(.long ((own_val c1).toInt64)), (.long (q1 <<< ((4 : Int32) &&& 0x3f).toInt64))]) _
    refine XS.lor X4.here hx rfl (hb hby d_prog_17_method_3_96) rfl ?_
    exact kt)
  rw [(show ((q1 <<< ((4 : Int32) &&& 0x3f).toInt64) ||| ((own_val c1).toInt64)) = (own_acc q1 c1) from rfl)] at kn14
  have kn15 : ∀ t, own_S p e below T4 (mkF m 15 #[.val (.ref x1), .val (.int p1), .val (.int e1), .val (.long (own_acc q1 c1)), .second, .val (.int (j1 + (1 : Int32))), .val (.int c1), .val (.int (own_val c1))] []) t → own_S p e below T0 (mkF m 15 #[.val (.ref x1), .val (.int p1), .val (.int e1), .val (.long q1), .second, .val (.int j1), .val (.int c6), .val (.int c7)] []) t := fun t kt => kn14 t (by
    show own_S p e below T4 (mkF m 97 #[.val (.ref x1), .val (.int p1), .val (.int e1), .val (.long q1), .second, .val (.int j1), .val (.int c1), .val (.int (own_val c1))] [(.long (own_acc q1 c1))]) _
    refine XS.lstoreN X4.here hx rfl (hb hby d_prog_17_method_3_97) rfl (l' := #[.val (.ref x1), .val (.int p1), .val (.int e1), .val (.long (own_acc q1 c1)), .second, .val (.int j1), .val (.int c1), .val (.int (own_val c1))]) rfl ?_
    show own_S p e below T4 (mkF m 98 #[.val (.ref x1), .val (.int p1), .val (.int e1), .val (.long (own_acc q1 c1)), .second, .val (.int j1), .val (.int c1), .val (.int (own_val c1))] []) _
    refine XS.iinc X4.here hx rfl (hb hby d_prog_17_method_3_98) rfl (l' := #[.val (.ref x1), .val (.int p1), .val (.int e1), .val (.long (own_acc q1 c1)), .second, .val (.int (j1 + (1 : Int32))), .val (.int c1), .val (.int (own_val c1))]) rfl ?_
    show own_S p e below T4 (mkF m 101 #[.val (.ref x1), .val (.int p1), .val (.int e1), .val (.long (own_acc q1 c1)), .second, .val (.int (j1 + (1 : Int32))), .val (.int c1), .val (.int (own_val c1))] []) _
    refine XS.goto X4.here hx rfl (pc0 := 101) (pc' := 15) rfl (hb hby d_prog_17_method_3_101) (by decide) (by decide) ?_
    exact kt)
  have Xe := X4
  simp only [List.append_nil, Nat.add_zero] at Xe
  exact ⟨T4, Xe, eq4, kn15⟩

theorem d_prog_17_method_3_0 : decode prog_17_method_3_code 0 = .ok (.iload_n 1, 1) := by decide +kernel
theorem d_prog_17_method_3_1 : decode prog_17_method_3_code 1 = .ok (.iconst 1, 1) := by decide +kernel
theorem d_prog_17_method_3_2 : decode prog_17_method_3_code 2 = .ok (.iadd, 1) := by decide +kernel
theorem d_prog_17_method_3_3 : decode prog_17_method_3_code 3 = .ok (.bipush 16, 2) := by decide +kernel
theorem d_prog_17_method_3_5 : decode prog_17_method_3_code 5 = .ok (.imul, 1) := by decide +kernel
theorem d_prog_17_method_3_6 : decode prog_17_method_3_code 6 = .ok (.istore_n 2, 1) := by decide +kernel
theorem d_prog_17_method_3_7 : decode prog_17_method_3_code 7 = .ok (.lconst 0, 1) := by decide +kernel
theorem d_prog_17_method_3_8 : decode prog_17_method_3_code 8 = .ok (.lstore_n 3, 1) := by decide +kernel
theorem d_prog_17_method_3_9 : decode prog_17_method_3_code 9 = .ok (.iload_n 1, 1) := by decide +kernel
theorem d_prog_17_method_3_10 : decode prog_17_method_3_code 10 = .ok (.bipush 16, 2) := by decide +kernel
theorem d_prog_17_method_3_12 : decode prog_17_method_3_code 12 = .ok (.imul, 1) := by decide +kernel
theorem d_prog_17_method_3_13 : decode prog_17_method_3_code 13 = .ok (.istore 5, 2) := by decide +kernel
theorem d_prog_17_method_3_104 : decode prog_17_method_3_code 104 = .ok (.lload_n 3, 1) := by decide +kernel
theorem d_prog_17_method_3_105 : decode prog_17_method_3_code 105 = .ok (.lreturn, 1) := by decide +kernel
theorem pn_1 : plainName "com/example/dual_delivery/dualdelivery/model/ReceiptHandle" = true := by first | (simp [plainName, overriddenIn]; done) | decide +kernel
theorem ef_rm12_0 (m : MethodId) (x0 : Addr) : entryFrame m #[(.ref x0), (.int (0 : Int32))] 8 = mkF m 0 #[.val (.ref x0), .val (.int (0 : Int32)), .unset, .unset, .unset, .unset, .unset, .unset] [] := by first | (simp [entryFrame, mkF, argsToLocals, Value.category]; done) | rfl
def Q12_0 (Z : State) (x1 : Addr) (t1 : Addr) (k1 : ClassId) (v0 : Int64) (v1 : Int64) (v2 : Int64) (G1 : Int32) (G3 : Value) (h0 : Heap) (n0 : Nat) (v : Option Value) (h : Heap) (L : List Loc) : Prop := v = some (.long v0) ∧ Fr n0 L ∧ h = h0
set_option maxRecDepth 65536 in
set_option maxHeartbeats 40000000 in
theorem rm12_0 (l : Launch) (Z : State) (a0 : Array Value) (hw : ∀ d ∈ tables_1, d.before a0 Z = true) (ws : List Jvm.Cond) (x1 : Addr) (t1 : Addr) (k1 : ClassId) (v0 : Int64) (v1 : Int64) (v2 : Int64) (G1 : Int32) (G3 : Value) (h0 : Heap) (n0 : Nat) (Z0 : n0 ≤ h0.size) (E_x1 : Exa Z h0 x1 "java/lang/String") (V_x1 : Fld Z h0 x1 "java/lang/String" "value" "[B" (.ref t1)) (C_x1 : Fld Z h0 x1 "java/lang/String" "coder" "B" (.int (0 : Int32))) (K_x1 : Arv Z h0 t1 k1 .byte (48 : Int32) (((own_cs v0 v1 v2).map (fun c => c.toInt8.toInt32)).map Value.int) (.int (0 : Int32))) (hp_x1 : ∀ c ∈ (own_cs v0 v1 v2), ¬ c < 0 ∧ ¬ (255 : Int32) < c) (O0 : Old Z n0 h0) (O2 : Sta Z Z.heap "java/lang/String" "COMPACT_STRINGS" "Z" (.int G1)) (P5 : ¬ (G1 = (0 : Int32))) (O4 : Sta Z Z.heap "jdk/internal/util/Preconditions" "SIOOBE_FORMATTER" "Ljava/util/function/BiFunction;" G3) (rG3 : G3.isRef = true) :
    MetFree l (⟨"com/example/dual_delivery/dualdelivery/model/ReceiptHandle", "parseLong", "(Ljava/lang/String;I)J"⟩ : MethodName) (head1 (Jvm.Cond.code (⟨"com/example/dual_delivery/dualdelivery/model/ReceiptHandle", "parseLong", "(Ljava/lang/String;I)J"⟩ : MethodName) prog_17_method_3_code 8 (some .long) :: ws) ({ frames := 4, cells := 0, slots := 0, locals := 54 } : Room)) (fun a U => a = #[(.ref x1), (.int (0 : Int32))] ∧ Z.Warmed39 U.vm ∧ U.heap = h0) (fun _ _ _ _ _ => True) (fun _ U o U' => ∃ v L, o = .returned v ∧ Q12_0 Z x1 t1 k1 v0 v1 v2 G1 G3 h0 n0 v U'.heap L ∧ FrameEnd U o U' L ({ frames := 4, cells := 0, slots := 0, locals := 54 } : Room).cells ({ frames := 4, cells := 0, slots := 0, locals := 54 } : Room).slots) := by
  refine MetFree.of_bodySF (plainFor_of_name pn_1) hisR ?_
  intro p e s m args below meth c s₁ Bd hml0 hP hK
  obtain ⟨rfl, hZ, hh⟩ := hP
  have hx := Bd.exec
  have hby := Bd.bytes
  have hml : c.maxLocals = 8 := hml0
  have hown : s.vm.findClass "com/example/dual_delivery/dualdelivery/model/ReceiptHandle" = some m.cls := findClass_of_methodNamed Bd.named
  have hnm := (name_of_methodNamed Bd.named Bd.method).1
  have X0 : Stand p l e ({ frames := 4, cells := 0, slots := 0, locals := 54 } : Room) s m #[(.ref x1), (.int (0 : Int32))] below meth c s₁ [] 0 0 := Stand.of_body Bd
  have e0 : s₁.heap = h0 := by rw [← hh, Bd.state]; rfl
  have Nf0 := Fr.nil n0
  obtain ⟨Gl, hGl, kn0⟩ : ∃ Gl : State → Prop, (∀ t, Gl t → Steps p.tables e below (s₁.setTop (entryFrame m #[(.ref x1), (.int (0 : Int32))] 8)) t) ∧ ∀ t, own_S p e below s₁ (mkF m 0 #[.val (.ref x1), .val (.int (0 : Int32)), .unset, .unset, .unset, .unset, .unset, .unset] []) t → Gl t := ⟨fun t => Steps p.tables e below (s₁.setTop (entryFrame m #[(.ref x1), (.int (0 : Int32))] 8)) t, fun _ k => k, fun t k => castTop (ef_rm12_0 m x1) k⟩
  have hcd : StrChars.Road.CodA (own_cs v0 v1 v2) 0 (48 : Int32) (((own_cs v0 v1 v2).map (fun c => c.toInt8.toInt32)).map Value.int) := StrChars.Road.codOf (n := 48) rfl (fun x hx => (hp_x1 x hx).2)
  have hbd : ∀ x ∈ (own_cs v0 v1 v2), ¬ x < 0 ∧ ¬ (65535 : Int32) < x := own_up _ hp_x1
  have kn1 : ∀ t, own_S p e below s₁ (mkF m 15 #[.val (.ref x1), .val (.int (0 : Int32)), .val (.int (16 : Int32)), .val (.long (0 : Int64)), .second, .val (.int (0 : Int32)), .unset, .unset] []) t → Gl t := fun t kt => kn0 t (by
    show own_S p e below s₁ (mkF m 0 #[.val (.ref x1), .val (.int (0 : Int32)), .unset, .unset, .unset, .unset, .unset, .unset] []) _
    refine XS.iloadN X0.here hx rfl (hb hby d_prog_17_method_3_0) rfl ?_
    show own_S p e below s₁ (mkF m 1 #[.val (.ref x1), .val (.int (0 : Int32)), .unset, .unset, .unset, .unset, .unset, .unset] [(.int (0 : Int32))]) _
    refine XS.iconst X0.here hx rfl (hb hby d_prog_17_method_3_1) ?_
    show own_S p e below s₁ (mkF m 2 #[.val (.ref x1), .val (.int (0 : Int32)), .unset, .unset, .unset, .unset, .unset, .unset] [(.int (1 : Int32)), (.int (0 : Int32))]) _
    refine XS.iadd X0.here hx rfl (hb hby d_prog_17_method_3_2) rfl ?_
    rw [(by decide : ((0 : Int32) + (1 : Int32)) = (1 : Int32))]
    show own_S p e below s₁ (mkF m 3 #[.val (.ref x1), .val (.int (0 : Int32)), .unset, .unset, .unset, .unset, .unset, .unset] [(.int (1 : Int32))]) _
    refine XS.bipush X0.here hx rfl (hb hby d_prog_17_method_3_3) ?_
    show own_S p e below s₁ (mkF m 5 #[.val (.ref x1), .val (.int (0 : Int32)), .unset, .unset, .unset, .unset, .unset, .unset] [(.int (16 : Int32)), (.int (1 : Int32))]) _
    refine XS.imul X0.here hx rfl (hb hby d_prog_17_method_3_5) rfl ?_
    rw [(by decide : ((1 : Int32) * (16 : Int32)) = (16 : Int32))]
    show own_S p e below s₁ (mkF m 6 #[.val (.ref x1), .val (.int (0 : Int32)), .unset, .unset, .unset, .unset, .unset, .unset] [(.int (16 : Int32))]) _
    refine XS.istoreN X0.here hx rfl (hb hby d_prog_17_method_3_6) rfl (l' := #[.val (.ref x1), .val (.int (0 : Int32)), .val (.int (16 : Int32)), .unset, .unset, .unset, .unset, .unset]) rfl ?_
    show own_S p e below s₁ (mkF m 7 #[.val (.ref x1), .val (.int (0 : Int32)), .val (.int (16 : Int32)), .unset, .unset, .unset, .unset, .unset] []) _
    refine XS.lconst X0.here hx rfl (hb hby d_prog_17_method_3_7) ?_
    show own_S p e below s₁ (mkF m 8 #[.val (.ref x1), .val (.int (0 : Int32)), .val (.int (16 : Int32)), .unset, .unset, .unset, .unset, .unset] [(.long (0 : Int64))]) _
    refine XS.lstoreN X0.here hx rfl (hb hby d_prog_17_method_3_8) rfl (l' := #[.val (.ref x1), .val (.int (0 : Int32)), .val (.int (16 : Int32)), .val (.long (0 : Int64)), .second, .unset, .unset, .unset]) rfl ?_
    show own_S p e below s₁ (mkF m 9 #[.val (.ref x1), .val (.int (0 : Int32)), .val (.int (16 : Int32)), .val (.long (0 : Int64)), .second, .unset, .unset, .unset] []) _
    refine XS.iloadN X0.here hx rfl (hb hby d_prog_17_method_3_9) rfl ?_
    show own_S p e below s₁ (mkF m 10 #[.val (.ref x1), .val (.int (0 : Int32)), .val (.int (16 : Int32)), .val (.long (0 : Int64)), .second, .unset, .unset, .unset] [(.int (0 : Int32))]) _
    refine XS.bipush X0.here hx rfl (hb hby d_prog_17_method_3_10) ?_
    show own_S p e below s₁ (mkF m 12 #[.val (.ref x1), .val (.int (0 : Int32)), .val (.int (16 : Int32)), .val (.long (0 : Int64)), .second, .unset, .unset, .unset] [(.int (16 : Int32)), (.int (0 : Int32))]) _
    refine XS.imul X0.here hx rfl (hb hby d_prog_17_method_3_12) rfl ?_
    rw [(by decide : ((0 : Int32) * (16 : Int32)) = (0 : Int32))]
    show own_S p e below s₁ (mkF m 13 #[.val (.ref x1), .val (.int (0 : Int32)), .val (.int (16 : Int32)), .val (.long (0 : Int64)), .second, .unset, .unset, .unset] [(.int (0 : Int32))]) _
    refine XS.istore X0.here hx rfl (hb hby d_prog_17_method_3_13) rfl (l' := #[.val (.ref x1), .val (.int (0 : Int32)), .val (.int (16 : Int32)), .val (.long (0 : Int64)), .second, .val (.int (0 : Int32)), .unset, .unset]) rfl ?_
    exact kt)
  obtain ⟨T2, X2, e2, st2⟩ := turn_a X0 hx hZ hw hby hml hown e0 (by decide) (by decide) (x1 := x1) (p1 := (0 : Int32)) (e1 := (16 : Int32)) (q1 := (0 : Int64)) (j1 := (0 : Int32)) (c1 := (own_hex v0 (60 : Int32))) (i1 := 0) (cs := (own_cs v0 v1 v2)) E_x1 V_x1 C_x1 K_x1 hcd hbd (Nat.le_of_ble_eq_true rfl) (Nat.le_of_ble_eq_true rfl) rfl (by decide) rfl (own_hxs _ _).1 (own_hxs _ _).2.1 (own_hxs _ _).2.2.1 O0 O2 P5 O4 rG3
  have kn3 : ∀ t, own_S p e below T2 (mkF m 15 #[.val (.ref x1), .val (.int (0 : Int32)), .val (.int (16 : Int32)), .val (.long (own_acc (0 : Int64) (own_hex v0 (60 : Int32)))), .second, .val (.int ((0 : Int32) + (1 : Int32))), .val (.int (own_hex v0 (60 : Int32))), .val (.int (own_val (own_hex v0 (60 : Int32))))] []) t → Gl t := fun t kt => kn1 t (st2 _ kt)
  rw [(show ((0 : Int32) + (1 : Int32)) = (1 : Int32) from by decide)] at kn3
  rw [(show (own_acc (0 : Int64) (own_hex v0 (60 : Int32))) = (own_us v0 (60 : Int32)) from own_first v0)] at kn3
  obtain ⟨T4, X4, e4, st4⟩ := turn_b X2 hx hZ hw hby hml hown e2 (by decide) (by decide) (x1 := x1) (p1 := (0 : Int32)) (e1 := (16 : Int32)) (q1 := (own_us v0 (60 : Int32))) (j1 := (1 : Int32)) (c1 := (own_hex v0 (56 : Int32))) (i1 := 1) (cs := (own_cs v0 v1 v2)) E_x1 V_x1 C_x1 K_x1 hcd hbd (Nat.le_of_ble_eq_true rfl) (Nat.le_of_ble_eq_true rfl) rfl (by decide) rfl (own_hxs _ _).1 (own_hxs _ _).2.1 (own_hxs _ _).2.2.1 O0 O2 P5 O4 rG3
  have kn5 : ∀ t, own_S p e below T4 (mkF m 15 #[.val (.ref x1), .val (.int (0 : Int32)), .val (.int (16 : Int32)), .val (.long (own_acc (own_us v0 (60 : Int32)) (own_hex v0 (56 : Int32)))), .second, .val (.int ((1 : Int32) + (1 : Int32))), .val (.int (own_hex v0 (56 : Int32))), .val (.int (own_val (own_hex v0 (56 : Int32))))] []) t → Gl t := fun t kt => kn3 t (st4 _ kt)
  rw [(show ((1 : Int32) + (1 : Int32)) = (2 : Int32) from by decide)] at kn5
  rw [(show (own_acc (own_us v0 (60 : Int32)) (own_hex v0 (56 : Int32))) = (own_us v0 (56 : Int32)) from own_step v0 56 60 56 60 (by decide) (by decide) rfl)] at kn5
  obtain ⟨T6, X6, e6, st6⟩ := turn_b X4 hx hZ hw hby hml hown e4 (by decide) (by decide) (x1 := x1) (p1 := (0 : Int32)) (e1 := (16 : Int32)) (q1 := (own_us v0 (56 : Int32))) (j1 := (2 : Int32)) (c1 := (own_hex v0 (52 : Int32))) (i1 := 2) (cs := (own_cs v0 v1 v2)) E_x1 V_x1 C_x1 K_x1 hcd hbd (Nat.le_of_ble_eq_true rfl) (Nat.le_of_ble_eq_true rfl) rfl (by decide) rfl (own_hxs _ _).1 (own_hxs _ _).2.1 (own_hxs _ _).2.2.1 O0 O2 P5 O4 rG3
  have kn7 : ∀ t, own_S p e below T6 (mkF m 15 #[.val (.ref x1), .val (.int (0 : Int32)), .val (.int (16 : Int32)), .val (.long (own_acc (own_us v0 (56 : Int32)) (own_hex v0 (52 : Int32)))), .second, .val (.int ((2 : Int32) + (1 : Int32))), .val (.int (own_hex v0 (52 : Int32))), .val (.int (own_val (own_hex v0 (52 : Int32))))] []) t → Gl t := fun t kt => kn5 t (st6 _ kt)
  rw [(show ((2 : Int32) + (1 : Int32)) = (3 : Int32) from by decide)] at kn7
  rw [(show (own_acc (own_us v0 (56 : Int32)) (own_hex v0 (52 : Int32))) = (own_us v0 (52 : Int32)) from own_step v0 52 56 52 56 (by decide) (by decide) rfl)] at kn7
  obtain ⟨T8, X8, e8, st8⟩ := turn_b X6 hx hZ hw hby hml hown e6 (by decide) (by decide) (x1 := x1) (p1 := (0 : Int32)) (e1 := (16 : Int32)) (q1 := (own_us v0 (52 : Int32))) (j1 := (3 : Int32)) (c1 := (own_hex v0 (48 : Int32))) (i1 := 3) (cs := (own_cs v0 v1 v2)) E_x1 V_x1 C_x1 K_x1 hcd hbd (Nat.le_of_ble_eq_true rfl) (Nat.le_of_ble_eq_true rfl) rfl (by decide) rfl (own_hxs _ _).1 (own_hxs _ _).2.1 (own_hxs _ _).2.2.1 O0 O2 P5 O4 rG3
  have kn9 : ∀ t, own_S p e below T8 (mkF m 15 #[.val (.ref x1), .val (.int (0 : Int32)), .val (.int (16 : Int32)), .val (.long (own_acc (own_us v0 (52 : Int32)) (own_hex v0 (48 : Int32)))), .second, .val (.int ((3 : Int32) + (1 : Int32))), .val (.int (own_hex v0 (48 : Int32))), .val (.int (own_val (own_hex v0 (48 : Int32))))] []) t → Gl t := fun t kt => kn7 t (st8 _ kt)
  rw [(show ((3 : Int32) + (1 : Int32)) = (4 : Int32) from by decide)] at kn9
  rw [(show (own_acc (own_us v0 (52 : Int32)) (own_hex v0 (48 : Int32))) = (own_us v0 (48 : Int32)) from own_step v0 48 52 48 52 (by decide) (by decide) rfl)] at kn9
  obtain ⟨T10, X10, e10, st10⟩ := turn_b X8 hx hZ hw hby hml hown e8 (by decide) (by decide) (x1 := x1) (p1 := (0 : Int32)) (e1 := (16 : Int32)) (q1 := (own_us v0 (48 : Int32))) (j1 := (4 : Int32)) (c1 := (own_hex v0 (44 : Int32))) (i1 := 4) (cs := (own_cs v0 v1 v2)) E_x1 V_x1 C_x1 K_x1 hcd hbd (Nat.le_of_ble_eq_true rfl) (Nat.le_of_ble_eq_true rfl) rfl (by decide) rfl (own_hxs _ _).1 (own_hxs _ _).2.1 (own_hxs _ _).2.2.1 O0 O2 P5 O4 rG3
  have kn11 : ∀ t, own_S p e below T10 (mkF m 15 #[.val (.ref x1), .val (.int (0 : Int32)), .val (.int (16 : Int32)), .val (.long (own_acc (own_us v0 (48 : Int32)) (own_hex v0 (44 : Int32)))), .second, .val (.int ((4 : Int32) + (1 : Int32))), .val (.int (own_hex v0 (44 : Int32))), .val (.int (own_val (own_hex v0 (44 : Int32))))] []) t → Gl t := fun t kt => kn9 t (st10 _ kt)
  rw [(show ((4 : Int32) + (1 : Int32)) = (5 : Int32) from by decide)] at kn11
  rw [(show (own_acc (own_us v0 (48 : Int32)) (own_hex v0 (44 : Int32))) = (own_us v0 (44 : Int32)) from own_step v0 44 48 44 48 (by decide) (by decide) rfl)] at kn11
  obtain ⟨T12, X12, e12, st12⟩ := turn_b X10 hx hZ hw hby hml hown e10 (by decide) (by decide) (x1 := x1) (p1 := (0 : Int32)) (e1 := (16 : Int32)) (q1 := (own_us v0 (44 : Int32))) (j1 := (5 : Int32)) (c1 := (own_hex v0 (40 : Int32))) (i1 := 5) (cs := (own_cs v0 v1 v2)) E_x1 V_x1 C_x1 K_x1 hcd hbd (Nat.le_of_ble_eq_true rfl) (Nat.le_of_ble_eq_true rfl) rfl (by decide) rfl (own_hxs _ _).1 (own_hxs _ _).2.1 (own_hxs _ _).2.2.1 O0 O2 P5 O4 rG3
  have kn13 : ∀ t, own_S p e below T12 (mkF m 15 #[.val (.ref x1), .val (.int (0 : Int32)), .val (.int (16 : Int32)), .val (.long (own_acc (own_us v0 (44 : Int32)) (own_hex v0 (40 : Int32)))), .second, .val (.int ((5 : Int32) + (1 : Int32))), .val (.int (own_hex v0 (40 : Int32))), .val (.int (own_val (own_hex v0 (40 : Int32))))] []) t → Gl t := fun t kt => kn11 t (st12 _ kt)
  rw [(show ((5 : Int32) + (1 : Int32)) = (6 : Int32) from by decide)] at kn13
  rw [(show (own_acc (own_us v0 (44 : Int32)) (own_hex v0 (40 : Int32))) = (own_us v0 (40 : Int32)) from own_step v0 40 44 40 44 (by decide) (by decide) rfl)] at kn13
  obtain ⟨T14, X14, e14, st14⟩ := turn_b X12 hx hZ hw hby hml hown e12 (by decide) (by decide) (x1 := x1) (p1 := (0 : Int32)) (e1 := (16 : Int32)) (q1 := (own_us v0 (40 : Int32))) (j1 := (6 : Int32)) (c1 := (own_hex v0 (36 : Int32))) (i1 := 6) (cs := (own_cs v0 v1 v2)) E_x1 V_x1 C_x1 K_x1 hcd hbd (Nat.le_of_ble_eq_true rfl) (Nat.le_of_ble_eq_true rfl) rfl (by decide) rfl (own_hxs _ _).1 (own_hxs _ _).2.1 (own_hxs _ _).2.2.1 O0 O2 P5 O4 rG3
  have kn15 : ∀ t, own_S p e below T14 (mkF m 15 #[.val (.ref x1), .val (.int (0 : Int32)), .val (.int (16 : Int32)), .val (.long (own_acc (own_us v0 (40 : Int32)) (own_hex v0 (36 : Int32)))), .second, .val (.int ((6 : Int32) + (1 : Int32))), .val (.int (own_hex v0 (36 : Int32))), .val (.int (own_val (own_hex v0 (36 : Int32))))] []) t → Gl t := fun t kt => kn13 t (st14 _ kt)
  rw [(show ((6 : Int32) + (1 : Int32)) = (7 : Int32) from by decide)] at kn15
  rw [(show (own_acc (own_us v0 (40 : Int32)) (own_hex v0 (36 : Int32))) = (own_us v0 (36 : Int32)) from own_step v0 36 40 36 40 (by decide) (by decide) rfl)] at kn15
  obtain ⟨T16, X16, e16, st16⟩ := turn_b X14 hx hZ hw hby hml hown e14 (by decide) (by decide) (x1 := x1) (p1 := (0 : Int32)) (e1 := (16 : Int32)) (q1 := (own_us v0 (36 : Int32))) (j1 := (7 : Int32)) (c1 := (own_hex v0 (32 : Int32))) (i1 := 7) (cs := (own_cs v0 v1 v2)) E_x1 V_x1 C_x1 K_x1 hcd hbd (Nat.le_of_ble_eq_true rfl) (Nat.le_of_ble_eq_true rfl) rfl (by decide) rfl (own_hxs _ _).1 (own_hxs _ _).2.1 (own_hxs _ _).2.2.1 O0 O2 P5 O4 rG3
  have kn17 : ∀ t, own_S p e below T16 (mkF m 15 #[.val (.ref x1), .val (.int (0 : Int32)), .val (.int (16 : Int32)), .val (.long (own_acc (own_us v0 (36 : Int32)) (own_hex v0 (32 : Int32)))), .second, .val (.int ((7 : Int32) + (1 : Int32))), .val (.int (own_hex v0 (32 : Int32))), .val (.int (own_val (own_hex v0 (32 : Int32))))] []) t → Gl t := fun t kt => kn15 t (st16 _ kt)
  rw [(show ((7 : Int32) + (1 : Int32)) = (8 : Int32) from by decide)] at kn17
  rw [(show (own_acc (own_us v0 (36 : Int32)) (own_hex v0 (32 : Int32))) = (own_us v0 (32 : Int32)) from own_step v0 32 36 32 36 (by decide) (by decide) rfl)] at kn17
  obtain ⟨T18, X18, e18, st18⟩ := turn_b X16 hx hZ hw hby hml hown e16 (by decide) (by decide) (x1 := x1) (p1 := (0 : Int32)) (e1 := (16 : Int32)) (q1 := (own_us v0 (32 : Int32))) (j1 := (8 : Int32)) (c1 := (own_hex v0 (28 : Int32))) (i1 := 8) (cs := (own_cs v0 v1 v2)) E_x1 V_x1 C_x1 K_x1 hcd hbd (Nat.le_of_ble_eq_true rfl) (Nat.le_of_ble_eq_true rfl) rfl (by decide) rfl (own_hxs _ _).1 (own_hxs _ _).2.1 (own_hxs _ _).2.2.1 O0 O2 P5 O4 rG3
  have kn19 : ∀ t, own_S p e below T18 (mkF m 15 #[.val (.ref x1), .val (.int (0 : Int32)), .val (.int (16 : Int32)), .val (.long (own_acc (own_us v0 (32 : Int32)) (own_hex v0 (28 : Int32)))), .second, .val (.int ((8 : Int32) + (1 : Int32))), .val (.int (own_hex v0 (28 : Int32))), .val (.int (own_val (own_hex v0 (28 : Int32))))] []) t → Gl t := fun t kt => kn17 t (st18 _ kt)
  rw [(show ((8 : Int32) + (1 : Int32)) = (9 : Int32) from by decide)] at kn19
  rw [(show (own_acc (own_us v0 (32 : Int32)) (own_hex v0 (28 : Int32))) = (own_us v0 (28 : Int32)) from own_step v0 28 32 28 32 (by decide) (by decide) rfl)] at kn19
  obtain ⟨T20, X20, e20, st20⟩ := turn_b X18 hx hZ hw hby hml hown e18 (by decide) (by decide) (x1 := x1) (p1 := (0 : Int32)) (e1 := (16 : Int32)) (q1 := (own_us v0 (28 : Int32))) (j1 := (9 : Int32)) (c1 := (own_hex v0 (24 : Int32))) (i1 := 9) (cs := (own_cs v0 v1 v2)) E_x1 V_x1 C_x1 K_x1 hcd hbd (Nat.le_of_ble_eq_true rfl) (Nat.le_of_ble_eq_true rfl) rfl (by decide) rfl (own_hxs _ _).1 (own_hxs _ _).2.1 (own_hxs _ _).2.2.1 O0 O2 P5 O4 rG3
  have kn21 : ∀ t, own_S p e below T20 (mkF m 15 #[.val (.ref x1), .val (.int (0 : Int32)), .val (.int (16 : Int32)), .val (.long (own_acc (own_us v0 (28 : Int32)) (own_hex v0 (24 : Int32)))), .second, .val (.int ((9 : Int32) + (1 : Int32))), .val (.int (own_hex v0 (24 : Int32))), .val (.int (own_val (own_hex v0 (24 : Int32))))] []) t → Gl t := fun t kt => kn19 t (st20 _ kt)
  rw [(show ((9 : Int32) + (1 : Int32)) = (10 : Int32) from by decide)] at kn21
  rw [(show (own_acc (own_us v0 (28 : Int32)) (own_hex v0 (24 : Int32))) = (own_us v0 (24 : Int32)) from own_step v0 24 28 24 28 (by decide) (by decide) rfl)] at kn21
  obtain ⟨T22, X22, e22, st22⟩ := turn_b X20 hx hZ hw hby hml hown e20 (by decide) (by decide) (x1 := x1) (p1 := (0 : Int32)) (e1 := (16 : Int32)) (q1 := (own_us v0 (24 : Int32))) (j1 := (10 : Int32)) (c1 := (own_hex v0 (20 : Int32))) (i1 := 10) (cs := (own_cs v0 v1 v2)) E_x1 V_x1 C_x1 K_x1 hcd hbd (Nat.le_of_ble_eq_true rfl) (Nat.le_of_ble_eq_true rfl) rfl (by decide) rfl (own_hxs _ _).1 (own_hxs _ _).2.1 (own_hxs _ _).2.2.1 O0 O2 P5 O4 rG3
  have kn23 : ∀ t, own_S p e below T22 (mkF m 15 #[.val (.ref x1), .val (.int (0 : Int32)), .val (.int (16 : Int32)), .val (.long (own_acc (own_us v0 (24 : Int32)) (own_hex v0 (20 : Int32)))), .second, .val (.int ((10 : Int32) + (1 : Int32))), .val (.int (own_hex v0 (20 : Int32))), .val (.int (own_val (own_hex v0 (20 : Int32))))] []) t → Gl t := fun t kt => kn21 t (st22 _ kt)
  rw [(show ((10 : Int32) + (1 : Int32)) = (11 : Int32) from by decide)] at kn23
  rw [(show (own_acc (own_us v0 (24 : Int32)) (own_hex v0 (20 : Int32))) = (own_us v0 (20 : Int32)) from own_step v0 20 24 20 24 (by decide) (by decide) rfl)] at kn23
  obtain ⟨T24, X24, e24, st24⟩ := turn_b X22 hx hZ hw hby hml hown e22 (by decide) (by decide) (x1 := x1) (p1 := (0 : Int32)) (e1 := (16 : Int32)) (q1 := (own_us v0 (20 : Int32))) (j1 := (11 : Int32)) (c1 := (own_hex v0 (16 : Int32))) (i1 := 11) (cs := (own_cs v0 v1 v2)) E_x1 V_x1 C_x1 K_x1 hcd hbd (Nat.le_of_ble_eq_true rfl) (Nat.le_of_ble_eq_true rfl) rfl (by decide) rfl (own_hxs _ _).1 (own_hxs _ _).2.1 (own_hxs _ _).2.2.1 O0 O2 P5 O4 rG3
  have kn25 : ∀ t, own_S p e below T24 (mkF m 15 #[.val (.ref x1), .val (.int (0 : Int32)), .val (.int (16 : Int32)), .val (.long (own_acc (own_us v0 (20 : Int32)) (own_hex v0 (16 : Int32)))), .second, .val (.int ((11 : Int32) + (1 : Int32))), .val (.int (own_hex v0 (16 : Int32))), .val (.int (own_val (own_hex v0 (16 : Int32))))] []) t → Gl t := fun t kt => kn23 t (st24 _ kt)
  rw [(show ((11 : Int32) + (1 : Int32)) = (12 : Int32) from by decide)] at kn25
  rw [(show (own_acc (own_us v0 (20 : Int32)) (own_hex v0 (16 : Int32))) = (own_us v0 (16 : Int32)) from own_step v0 16 20 16 20 (by decide) (by decide) rfl)] at kn25
  obtain ⟨T26, X26, e26, st26⟩ := turn_b X24 hx hZ hw hby hml hown e24 (by decide) (by decide) (x1 := x1) (p1 := (0 : Int32)) (e1 := (16 : Int32)) (q1 := (own_us v0 (16 : Int32))) (j1 := (12 : Int32)) (c1 := (own_hex v0 (12 : Int32))) (i1 := 12) (cs := (own_cs v0 v1 v2)) E_x1 V_x1 C_x1 K_x1 hcd hbd (Nat.le_of_ble_eq_true rfl) (Nat.le_of_ble_eq_true rfl) rfl (by decide) rfl (own_hxs _ _).1 (own_hxs _ _).2.1 (own_hxs _ _).2.2.1 O0 O2 P5 O4 rG3
  have kn27 : ∀ t, own_S p e below T26 (mkF m 15 #[.val (.ref x1), .val (.int (0 : Int32)), .val (.int (16 : Int32)), .val (.long (own_acc (own_us v0 (16 : Int32)) (own_hex v0 (12 : Int32)))), .second, .val (.int ((12 : Int32) + (1 : Int32))), .val (.int (own_hex v0 (12 : Int32))), .val (.int (own_val (own_hex v0 (12 : Int32))))] []) t → Gl t := fun t kt => kn25 t (st26 _ kt)
  rw [(show ((12 : Int32) + (1 : Int32)) = (13 : Int32) from by decide)] at kn27
  rw [(show (own_acc (own_us v0 (16 : Int32)) (own_hex v0 (12 : Int32))) = (own_us v0 (12 : Int32)) from own_step v0 12 16 12 16 (by decide) (by decide) rfl)] at kn27
  obtain ⟨T28, X28, e28, st28⟩ := turn_b X26 hx hZ hw hby hml hown e26 (by decide) (by decide) (x1 := x1) (p1 := (0 : Int32)) (e1 := (16 : Int32)) (q1 := (own_us v0 (12 : Int32))) (j1 := (13 : Int32)) (c1 := (own_hex v0 (8 : Int32))) (i1 := 13) (cs := (own_cs v0 v1 v2)) E_x1 V_x1 C_x1 K_x1 hcd hbd (Nat.le_of_ble_eq_true rfl) (Nat.le_of_ble_eq_true rfl) rfl (by decide) rfl (own_hxs _ _).1 (own_hxs _ _).2.1 (own_hxs _ _).2.2.1 O0 O2 P5 O4 rG3
  have kn29 : ∀ t, own_S p e below T28 (mkF m 15 #[.val (.ref x1), .val (.int (0 : Int32)), .val (.int (16 : Int32)), .val (.long (own_acc (own_us v0 (12 : Int32)) (own_hex v0 (8 : Int32)))), .second, .val (.int ((13 : Int32) + (1 : Int32))), .val (.int (own_hex v0 (8 : Int32))), .val (.int (own_val (own_hex v0 (8 : Int32))))] []) t → Gl t := fun t kt => kn27 t (st28 _ kt)
  rw [(show ((13 : Int32) + (1 : Int32)) = (14 : Int32) from by decide)] at kn29
  rw [(show (own_acc (own_us v0 (12 : Int32)) (own_hex v0 (8 : Int32))) = (own_us v0 (8 : Int32)) from own_step v0 8 12 8 12 (by decide) (by decide) rfl)] at kn29
  obtain ⟨T30, X30, e30, st30⟩ := turn_b X28 hx hZ hw hby hml hown e28 (by decide) (by decide) (x1 := x1) (p1 := (0 : Int32)) (e1 := (16 : Int32)) (q1 := (own_us v0 (8 : Int32))) (j1 := (14 : Int32)) (c1 := (own_hex v0 (4 : Int32))) (i1 := 14) (cs := (own_cs v0 v1 v2)) E_x1 V_x1 C_x1 K_x1 hcd hbd (Nat.le_of_ble_eq_true rfl) (Nat.le_of_ble_eq_true rfl) rfl (by decide) rfl (own_hxs _ _).1 (own_hxs _ _).2.1 (own_hxs _ _).2.2.1 O0 O2 P5 O4 rG3
  have kn31 : ∀ t, own_S p e below T30 (mkF m 15 #[.val (.ref x1), .val (.int (0 : Int32)), .val (.int (16 : Int32)), .val (.long (own_acc (own_us v0 (8 : Int32)) (own_hex v0 (4 : Int32)))), .second, .val (.int ((14 : Int32) + (1 : Int32))), .val (.int (own_hex v0 (4 : Int32))), .val (.int (own_val (own_hex v0 (4 : Int32))))] []) t → Gl t := fun t kt => kn29 t (st30 _ kt)
  rw [(show ((14 : Int32) + (1 : Int32)) = (15 : Int32) from by decide)] at kn31
  rw [(show (own_acc (own_us v0 (8 : Int32)) (own_hex v0 (4 : Int32))) = (own_us v0 (4 : Int32)) from own_step v0 4 8 4 8 (by decide) (by decide) rfl)] at kn31
  obtain ⟨T32, X32, e32, st32⟩ := turn_b X30 hx hZ hw hby hml hown e30 (by decide) (by decide) (x1 := x1) (p1 := (0 : Int32)) (e1 := (16 : Int32)) (q1 := (own_us v0 (4 : Int32))) (j1 := (15 : Int32)) (c1 := (own_hex v0 (0 : Int32))) (i1 := 15) (cs := (own_cs v0 v1 v2)) E_x1 V_x1 C_x1 K_x1 hcd hbd (Nat.le_of_ble_eq_true rfl) (Nat.le_of_ble_eq_true rfl) rfl (by decide) rfl (own_hxs _ _).1 (own_hxs _ _).2.1 (own_hxs _ _).2.2.1 O0 O2 P5 O4 rG3
  have kn33 : ∀ t, own_S p e below T32 (mkF m 15 #[.val (.ref x1), .val (.int (0 : Int32)), .val (.int (16 : Int32)), .val (.long (own_acc (own_us v0 (4 : Int32)) (own_hex v0 (0 : Int32)))), .second, .val (.int ((15 : Int32) + (1 : Int32))), .val (.int (own_hex v0 (0 : Int32))), .val (.int (own_val (own_hex v0 (0 : Int32))))] []) t → Gl t := fun t kt => kn31 t (st32 _ kt)
  rw [(show ((15 : Int32) + (1 : Int32)) = (16 : Int32) from by decide)] at kn33
  rw [(show (own_acc (own_us v0 (4 : Int32)) (own_hex v0 (0 : Int32))) = (own_us v0 (0 : Int32)) from own_step v0 0 4 0 4 (by decide) (by decide) rfl)] at kn33
  rw [(show (own_us v0 (0 : Int32)) = v0 from own_last v0)] at kn33
  have kn34 : ∀ t, own_S p e below T32 (mkF m 105 #[.val (.ref x1), .val (.int (0 : Int32)), .val (.int (16 : Int32)), .val (.long v0), .second, .val (.int (16 : Int32)), .val (.int (own_hex v0 (0 : Int32))), .val (.int (own_val (own_hex v0 (0 : Int32))))] [(.long v0)]) t → Gl t := fun t kt => kn33 t (by
    show own_S p e below T32 (mkF m 15 #[.val (.ref x1), .val (.int (0 : Int32)), .val (.int (16 : Int32)), .val (.long v0), .second, .val (.int (16 : Int32)), .val (.int (own_hex v0 (0 : Int32))), .val (.int (own_val (own_hex v0 (0 : Int32))))] []) _
    refine XS.iload X32.here hx rfl (hb hby d_prog_17_method_3_15) rfl ?_
    show own_S p e below T32 (mkF m 17 #[.val (.ref x1), .val (.int (0 : Int32)), .val (.int (16 : Int32)), .val (.long v0), .second, .val (.int (16 : Int32)), .val (.int (own_hex v0 (0 : Int32))), .val (.int (own_val (own_hex v0 (0 : Int32))))] [(.int (16 : Int32))]) _
    refine XS.iloadN X32.here hx rfl (hb hby d_prog_17_method_3_17) rfl ?_
    show own_S p e below T32 (mkF m 18 #[.val (.ref x1), .val (.int (0 : Int32)), .val (.int (16 : Int32)), .val (.long v0), .second, .val (.int (16 : Int32)), .val (.int (own_hex v0 (0 : Int32))), .val (.int (own_val (own_hex v0 (0 : Int32))))] [(.int (16 : Int32)), (.int (16 : Int32))]) _
    refine XS.icmpYes X32.here hx rfl (pc0 := 18) (pc' := 104) rfl (hb hby d_prog_17_method_3_18) rfl (flt (by decide : ¬ ((16 : Int32) < (16 : Int32)))).2.1 (by decide) (by decide) ?_
    show own_S p e below T32 (mkF m 104 #[.val (.ref x1), .val (.int (0 : Int32)), .val (.int (16 : Int32)), .val (.long v0), .second, .val (.int (16 : Int32)), .val (.int (own_hex v0 (0 : Int32))), .val (.int (own_val (own_hex v0 (0 : Int32))))] []) _
    refine XS.lloadN X32.here hx rfl (hb hby d_prog_17_method_3_104) rfl ?_
    exact kt)
  obtain ⟨fs, hr, hrun, hended, hW, hsame⟩ := X32.leave (v := some (.long v0)) (fun h => by rw [Bd.returns] at h; cases h)
  refine ⟨_, _, hGl _ (kn34 _ (X32.lreturnOut hx Bd.returns (hb hby d_prog_17_method_3_105) hr)), hrun, hended, _, _, rfl, ?_, ⟨_, rfl⟩, hW, hsame.mono (by decide) (by decide)⟩
  show Q12_0 Z x1 t1 k1 v0 v1 v2 G1 G3 h0 n0 _ T32.heap _
  rw [e32]
  exact ⟨rfl, Nf0, rfl⟩

theorem ef_rm12_1 (m : MethodId) (x0 : Addr) : entryFrame m #[(.ref x0), (.int (1 : Int32))] 8 = mkF m 0 #[.val (.ref x0), .val (.int (1 : Int32)), .unset, .unset, .unset, .unset, .unset, .unset] [] := by first | (simp [entryFrame, mkF, argsToLocals, Value.category]; done) | rfl
def Q12_1 (Z : State) (x1 : Addr) (t1 : Addr) (k1 : ClassId) (v0 : Int64) (v1 : Int64) (v2 : Int64) (G1 : Int32) (G3 : Value) (h0 : Heap) (n0 : Nat) (v : Option Value) (h : Heap) (L : List Loc) : Prop := v = some (.long v1) ∧ Fr n0 L ∧ h = h0
set_option maxRecDepth 65536 in
set_option maxHeartbeats 40000000 in
theorem rm12_1 (l : Launch) (Z : State) (a0 : Array Value) (hw : ∀ d ∈ tables_1, d.before a0 Z = true) (ws : List Jvm.Cond) (x1 : Addr) (t1 : Addr) (k1 : ClassId) (v0 : Int64) (v1 : Int64) (v2 : Int64) (G1 : Int32) (G3 : Value) (h0 : Heap) (n0 : Nat) (Z0 : n0 ≤ h0.size) (E_x1 : Exa Z h0 x1 "java/lang/String") (V_x1 : Fld Z h0 x1 "java/lang/String" "value" "[B" (.ref t1)) (C_x1 : Fld Z h0 x1 "java/lang/String" "coder" "B" (.int (0 : Int32))) (K_x1 : Arv Z h0 t1 k1 .byte (48 : Int32) (((own_cs v0 v1 v2).map (fun c => c.toInt8.toInt32)).map Value.int) (.int (0 : Int32))) (hp_x1 : ∀ c ∈ (own_cs v0 v1 v2), ¬ c < 0 ∧ ¬ (255 : Int32) < c) (O0 : Old Z n0 h0) (O2 : Sta Z Z.heap "java/lang/String" "COMPACT_STRINGS" "Z" (.int G1)) (P5 : ¬ (G1 = (0 : Int32))) (O4 : Sta Z Z.heap "jdk/internal/util/Preconditions" "SIOOBE_FORMATTER" "Ljava/util/function/BiFunction;" G3) (rG3 : G3.isRef = true) :
    MetFree l (⟨"com/example/dual_delivery/dualdelivery/model/ReceiptHandle", "parseLong", "(Ljava/lang/String;I)J"⟩ : MethodName) (head1 (Jvm.Cond.code (⟨"com/example/dual_delivery/dualdelivery/model/ReceiptHandle", "parseLong", "(Ljava/lang/String;I)J"⟩ : MethodName) prog_17_method_3_code 8 (some .long) :: ws) ({ frames := 4, cells := 0, slots := 0, locals := 54 } : Room)) (fun a U => a = #[(.ref x1), (.int (1 : Int32))] ∧ Z.Warmed39 U.vm ∧ U.heap = h0) (fun _ _ _ _ _ => True) (fun _ U o U' => ∃ v L, o = .returned v ∧ Q12_1 Z x1 t1 k1 v0 v1 v2 G1 G3 h0 n0 v U'.heap L ∧ FrameEnd U o U' L ({ frames := 4, cells := 0, slots := 0, locals := 54 } : Room).cells ({ frames := 4, cells := 0, slots := 0, locals := 54 } : Room).slots) := by
  refine MetFree.of_bodySF (plainFor_of_name pn_1) hisR ?_
  intro p e s m args below meth c s₁ Bd hml0 hP hK
  obtain ⟨rfl, hZ, hh⟩ := hP
  have hx := Bd.exec
  have hby := Bd.bytes
  have hml : c.maxLocals = 8 := hml0
  have hown : s.vm.findClass "com/example/dual_delivery/dualdelivery/model/ReceiptHandle" = some m.cls := findClass_of_methodNamed Bd.named
  have hnm := (name_of_methodNamed Bd.named Bd.method).1
  have X0 : Stand p l e ({ frames := 4, cells := 0, slots := 0, locals := 54 } : Room) s m #[(.ref x1), (.int (1 : Int32))] below meth c s₁ [] 0 0 := Stand.of_body Bd
  have e0 : s₁.heap = h0 := by rw [← hh, Bd.state]; rfl
  have Nf0 := Fr.nil n0
  obtain ⟨Gl, hGl, kn0⟩ : ∃ Gl : State → Prop, (∀ t, Gl t → Steps p.tables e below (s₁.setTop (entryFrame m #[(.ref x1), (.int (1 : Int32))] 8)) t) ∧ ∀ t, own_S p e below s₁ (mkF m 0 #[.val (.ref x1), .val (.int (1 : Int32)), .unset, .unset, .unset, .unset, .unset, .unset] []) t → Gl t := ⟨fun t => Steps p.tables e below (s₁.setTop (entryFrame m #[(.ref x1), (.int (1 : Int32))] 8)) t, fun _ k => k, fun t k => castTop (ef_rm12_1 m x1) k⟩
  have hcd : StrChars.Road.CodA (own_cs v0 v1 v2) 0 (48 : Int32) (((own_cs v0 v1 v2).map (fun c => c.toInt8.toInt32)).map Value.int) := StrChars.Road.codOf (n := 48) rfl (fun x hx => (hp_x1 x hx).2)
  have hbd : ∀ x ∈ (own_cs v0 v1 v2), ¬ x < 0 ∧ ¬ (65535 : Int32) < x := own_up _ hp_x1
  have kn1 : ∀ t, own_S p e below s₁ (mkF m 15 #[.val (.ref x1), .val (.int (1 : Int32)), .val (.int (32 : Int32)), .val (.long (0 : Int64)), .second, .val (.int (16 : Int32)), .unset, .unset] []) t → Gl t := fun t kt => kn0 t (by
    show own_S p e below s₁ (mkF m 0 #[.val (.ref x1), .val (.int (1 : Int32)), .unset, .unset, .unset, .unset, .unset, .unset] []) _
    refine XS.iloadN X0.here hx rfl (hb hby d_prog_17_method_3_0) rfl ?_
    show own_S p e below s₁ (mkF m 1 #[.val (.ref x1), .val (.int (1 : Int32)), .unset, .unset, .unset, .unset, .unset, .unset] [(.int (1 : Int32))]) _
    refine XS.iconst X0.here hx rfl (hb hby d_prog_17_method_3_1) ?_
    show own_S p e below s₁ (mkF m 2 #[.val (.ref x1), .val (.int (1 : Int32)), .unset, .unset, .unset, .unset, .unset, .unset] [(.int (1 : Int32)), (.int (1 : Int32))]) _
    refine XS.iadd X0.here hx rfl (hb hby d_prog_17_method_3_2) rfl ?_
    rw [(by decide : ((1 : Int32) + (1 : Int32)) = (2 : Int32))]
    show own_S p e below s₁ (mkF m 3 #[.val (.ref x1), .val (.int (1 : Int32)), .unset, .unset, .unset, .unset, .unset, .unset] [(.int (2 : Int32))]) _
    refine XS.bipush X0.here hx rfl (hb hby d_prog_17_method_3_3) ?_
    show own_S p e below s₁ (mkF m 5 #[.val (.ref x1), .val (.int (1 : Int32)), .unset, .unset, .unset, .unset, .unset, .unset] [(.int (16 : Int32)), (.int (2 : Int32))]) _
    refine XS.imul X0.here hx rfl (hb hby d_prog_17_method_3_5) rfl ?_
    rw [(by decide : ((2 : Int32) * (16 : Int32)) = (32 : Int32))]
    show own_S p e below s₁ (mkF m 6 #[.val (.ref x1), .val (.int (1 : Int32)), .unset, .unset, .unset, .unset, .unset, .unset] [(.int (32 : Int32))]) _
    refine XS.istoreN X0.here hx rfl (hb hby d_prog_17_method_3_6) rfl (l' := #[.val (.ref x1), .val (.int (1 : Int32)), .val (.int (32 : Int32)), .unset, .unset, .unset, .unset, .unset]) rfl ?_
    show own_S p e below s₁ (mkF m 7 #[.val (.ref x1), .val (.int (1 : Int32)), .val (.int (32 : Int32)), .unset, .unset, .unset, .unset, .unset] []) _
    refine XS.lconst X0.here hx rfl (hb hby d_prog_17_method_3_7) ?_
    show own_S p e below s₁ (mkF m 8 #[.val (.ref x1), .val (.int (1 : Int32)), .val (.int (32 : Int32)), .unset, .unset, .unset, .unset, .unset] [(.long (0 : Int64))]) _
    refine XS.lstoreN X0.here hx rfl (hb hby d_prog_17_method_3_8) rfl (l' := #[.val (.ref x1), .val (.int (1 : Int32)), .val (.int (32 : Int32)), .val (.long (0 : Int64)), .second, .unset, .unset, .unset]) rfl ?_
    show own_S p e below s₁ (mkF m 9 #[.val (.ref x1), .val (.int (1 : Int32)), .val (.int (32 : Int32)), .val (.long (0 : Int64)), .second, .unset, .unset, .unset] []) _
    refine XS.iloadN X0.here hx rfl (hb hby d_prog_17_method_3_9) rfl ?_
    show own_S p e below s₁ (mkF m 10 #[.val (.ref x1), .val (.int (1 : Int32)), .val (.int (32 : Int32)), .val (.long (0 : Int64)), .second, .unset, .unset, .unset] [(.int (1 : Int32))]) _
    refine XS.bipush X0.here hx rfl (hb hby d_prog_17_method_3_10) ?_
    show own_S p e below s₁ (mkF m 12 #[.val (.ref x1), .val (.int (1 : Int32)), .val (.int (32 : Int32)), .val (.long (0 : Int64)), .second, .unset, .unset, .unset] [(.int (16 : Int32)), (.int (1 : Int32))]) _
    refine XS.imul X0.here hx rfl (hb hby d_prog_17_method_3_12) rfl ?_
    rw [(by decide : ((1 : Int32) * (16 : Int32)) = (16 : Int32))]
    show own_S p e below s₁ (mkF m 13 #[.val (.ref x1), .val (.int (1 : Int32)), .val (.int (32 : Int32)), .val (.long (0 : Int64)), .second, .unset, .unset, .unset] [(.int (16 : Int32))]) _
    refine XS.istore X0.here hx rfl (hb hby d_prog_17_method_3_13) rfl (l' := #[.val (.ref x1), .val (.int (1 : Int32)), .val (.int (32 : Int32)), .val (.long (0 : Int64)), .second, .val (.int (16 : Int32)), .unset, .unset]) rfl ?_
    exact kt)
  obtain ⟨T2, X2, e2, st2⟩ := turn_a X0 hx hZ hw hby hml hown e0 (by decide) (by decide) (x1 := x1) (p1 := (1 : Int32)) (e1 := (32 : Int32)) (q1 := (0 : Int64)) (j1 := (16 : Int32)) (c1 := (own_hex v1 (60 : Int32))) (i1 := 16) (cs := (own_cs v0 v1 v2)) E_x1 V_x1 C_x1 K_x1 hcd hbd (Nat.le_of_ble_eq_true rfl) (Nat.le_of_ble_eq_true rfl) rfl (by decide) rfl (own_hxs _ _).1 (own_hxs _ _).2.1 (own_hxs _ _).2.2.1 O0 O2 P5 O4 rG3
  have kn3 : ∀ t, own_S p e below T2 (mkF m 15 #[.val (.ref x1), .val (.int (1 : Int32)), .val (.int (32 : Int32)), .val (.long (own_acc (0 : Int64) (own_hex v1 (60 : Int32)))), .second, .val (.int ((16 : Int32) + (1 : Int32))), .val (.int (own_hex v1 (60 : Int32))), .val (.int (own_val (own_hex v1 (60 : Int32))))] []) t → Gl t := fun t kt => kn1 t (st2 _ kt)
  rw [(show ((16 : Int32) + (1 : Int32)) = (17 : Int32) from by decide)] at kn3
  rw [(show (own_acc (0 : Int64) (own_hex v1 (60 : Int32))) = (own_us v1 (60 : Int32)) from own_first v1)] at kn3
  obtain ⟨T4, X4, e4, st4⟩ := turn_b X2 hx hZ hw hby hml hown e2 (by decide) (by decide) (x1 := x1) (p1 := (1 : Int32)) (e1 := (32 : Int32)) (q1 := (own_us v1 (60 : Int32))) (j1 := (17 : Int32)) (c1 := (own_hex v1 (56 : Int32))) (i1 := 17) (cs := (own_cs v0 v1 v2)) E_x1 V_x1 C_x1 K_x1 hcd hbd (Nat.le_of_ble_eq_true rfl) (Nat.le_of_ble_eq_true rfl) rfl (by decide) rfl (own_hxs _ _).1 (own_hxs _ _).2.1 (own_hxs _ _).2.2.1 O0 O2 P5 O4 rG3
  have kn5 : ∀ t, own_S p e below T4 (mkF m 15 #[.val (.ref x1), .val (.int (1 : Int32)), .val (.int (32 : Int32)), .val (.long (own_acc (own_us v1 (60 : Int32)) (own_hex v1 (56 : Int32)))), .second, .val (.int ((17 : Int32) + (1 : Int32))), .val (.int (own_hex v1 (56 : Int32))), .val (.int (own_val (own_hex v1 (56 : Int32))))] []) t → Gl t := fun t kt => kn3 t (st4 _ kt)
  rw [(show ((17 : Int32) + (1 : Int32)) = (18 : Int32) from by decide)] at kn5
  rw [(show (own_acc (own_us v1 (60 : Int32)) (own_hex v1 (56 : Int32))) = (own_us v1 (56 : Int32)) from own_step v1 56 60 56 60 (by decide) (by decide) rfl)] at kn5
  obtain ⟨T6, X6, e6, st6⟩ := turn_b X4 hx hZ hw hby hml hown e4 (by decide) (by decide) (x1 := x1) (p1 := (1 : Int32)) (e1 := (32 : Int32)) (q1 := (own_us v1 (56 : Int32))) (j1 := (18 : Int32)) (c1 := (own_hex v1 (52 : Int32))) (i1 := 18) (cs := (own_cs v0 v1 v2)) E_x1 V_x1 C_x1 K_x1 hcd hbd (Nat.le_of_ble_eq_true rfl) (Nat.le_of_ble_eq_true rfl) rfl (by decide) rfl (own_hxs _ _).1 (own_hxs _ _).2.1 (own_hxs _ _).2.2.1 O0 O2 P5 O4 rG3
  have kn7 : ∀ t, own_S p e below T6 (mkF m 15 #[.val (.ref x1), .val (.int (1 : Int32)), .val (.int (32 : Int32)), .val (.long (own_acc (own_us v1 (56 : Int32)) (own_hex v1 (52 : Int32)))), .second, .val (.int ((18 : Int32) + (1 : Int32))), .val (.int (own_hex v1 (52 : Int32))), .val (.int (own_val (own_hex v1 (52 : Int32))))] []) t → Gl t := fun t kt => kn5 t (st6 _ kt)
  rw [(show ((18 : Int32) + (1 : Int32)) = (19 : Int32) from by decide)] at kn7
  rw [(show (own_acc (own_us v1 (56 : Int32)) (own_hex v1 (52 : Int32))) = (own_us v1 (52 : Int32)) from own_step v1 52 56 52 56 (by decide) (by decide) rfl)] at kn7
  obtain ⟨T8, X8, e8, st8⟩ := turn_b X6 hx hZ hw hby hml hown e6 (by decide) (by decide) (x1 := x1) (p1 := (1 : Int32)) (e1 := (32 : Int32)) (q1 := (own_us v1 (52 : Int32))) (j1 := (19 : Int32)) (c1 := (own_hex v1 (48 : Int32))) (i1 := 19) (cs := (own_cs v0 v1 v2)) E_x1 V_x1 C_x1 K_x1 hcd hbd (Nat.le_of_ble_eq_true rfl) (Nat.le_of_ble_eq_true rfl) rfl (by decide) rfl (own_hxs _ _).1 (own_hxs _ _).2.1 (own_hxs _ _).2.2.1 O0 O2 P5 O4 rG3
  have kn9 : ∀ t, own_S p e below T8 (mkF m 15 #[.val (.ref x1), .val (.int (1 : Int32)), .val (.int (32 : Int32)), .val (.long (own_acc (own_us v1 (52 : Int32)) (own_hex v1 (48 : Int32)))), .second, .val (.int ((19 : Int32) + (1 : Int32))), .val (.int (own_hex v1 (48 : Int32))), .val (.int (own_val (own_hex v1 (48 : Int32))))] []) t → Gl t := fun t kt => kn7 t (st8 _ kt)
  rw [(show ((19 : Int32) + (1 : Int32)) = (20 : Int32) from by decide)] at kn9
  rw [(show (own_acc (own_us v1 (52 : Int32)) (own_hex v1 (48 : Int32))) = (own_us v1 (48 : Int32)) from own_step v1 48 52 48 52 (by decide) (by decide) rfl)] at kn9
  obtain ⟨T10, X10, e10, st10⟩ := turn_b X8 hx hZ hw hby hml hown e8 (by decide) (by decide) (x1 := x1) (p1 := (1 : Int32)) (e1 := (32 : Int32)) (q1 := (own_us v1 (48 : Int32))) (j1 := (20 : Int32)) (c1 := (own_hex v1 (44 : Int32))) (i1 := 20) (cs := (own_cs v0 v1 v2)) E_x1 V_x1 C_x1 K_x1 hcd hbd (Nat.le_of_ble_eq_true rfl) (Nat.le_of_ble_eq_true rfl) rfl (by decide) rfl (own_hxs _ _).1 (own_hxs _ _).2.1 (own_hxs _ _).2.2.1 O0 O2 P5 O4 rG3
  have kn11 : ∀ t, own_S p e below T10 (mkF m 15 #[.val (.ref x1), .val (.int (1 : Int32)), .val (.int (32 : Int32)), .val (.long (own_acc (own_us v1 (48 : Int32)) (own_hex v1 (44 : Int32)))), .second, .val (.int ((20 : Int32) + (1 : Int32))), .val (.int (own_hex v1 (44 : Int32))), .val (.int (own_val (own_hex v1 (44 : Int32))))] []) t → Gl t := fun t kt => kn9 t (st10 _ kt)
  rw [(show ((20 : Int32) + (1 : Int32)) = (21 : Int32) from by decide)] at kn11
  rw [(show (own_acc (own_us v1 (48 : Int32)) (own_hex v1 (44 : Int32))) = (own_us v1 (44 : Int32)) from own_step v1 44 48 44 48 (by decide) (by decide) rfl)] at kn11
  obtain ⟨T12, X12, e12, st12⟩ := turn_b X10 hx hZ hw hby hml hown e10 (by decide) (by decide) (x1 := x1) (p1 := (1 : Int32)) (e1 := (32 : Int32)) (q1 := (own_us v1 (44 : Int32))) (j1 := (21 : Int32)) (c1 := (own_hex v1 (40 : Int32))) (i1 := 21) (cs := (own_cs v0 v1 v2)) E_x1 V_x1 C_x1 K_x1 hcd hbd (Nat.le_of_ble_eq_true rfl) (Nat.le_of_ble_eq_true rfl) rfl (by decide) rfl (own_hxs _ _).1 (own_hxs _ _).2.1 (own_hxs _ _).2.2.1 O0 O2 P5 O4 rG3
  have kn13 : ∀ t, own_S p e below T12 (mkF m 15 #[.val (.ref x1), .val (.int (1 : Int32)), .val (.int (32 : Int32)), .val (.long (own_acc (own_us v1 (44 : Int32)) (own_hex v1 (40 : Int32)))), .second, .val (.int ((21 : Int32) + (1 : Int32))), .val (.int (own_hex v1 (40 : Int32))), .val (.int (own_val (own_hex v1 (40 : Int32))))] []) t → Gl t := fun t kt => kn11 t (st12 _ kt)
  rw [(show ((21 : Int32) + (1 : Int32)) = (22 : Int32) from by decide)] at kn13
  rw [(show (own_acc (own_us v1 (44 : Int32)) (own_hex v1 (40 : Int32))) = (own_us v1 (40 : Int32)) from own_step v1 40 44 40 44 (by decide) (by decide) rfl)] at kn13
  obtain ⟨T14, X14, e14, st14⟩ := turn_b X12 hx hZ hw hby hml hown e12 (by decide) (by decide) (x1 := x1) (p1 := (1 : Int32)) (e1 := (32 : Int32)) (q1 := (own_us v1 (40 : Int32))) (j1 := (22 : Int32)) (c1 := (own_hex v1 (36 : Int32))) (i1 := 22) (cs := (own_cs v0 v1 v2)) E_x1 V_x1 C_x1 K_x1 hcd hbd (Nat.le_of_ble_eq_true rfl) (Nat.le_of_ble_eq_true rfl) rfl (by decide) rfl (own_hxs _ _).1 (own_hxs _ _).2.1 (own_hxs _ _).2.2.1 O0 O2 P5 O4 rG3
  have kn15 : ∀ t, own_S p e below T14 (mkF m 15 #[.val (.ref x1), .val (.int (1 : Int32)), .val (.int (32 : Int32)), .val (.long (own_acc (own_us v1 (40 : Int32)) (own_hex v1 (36 : Int32)))), .second, .val (.int ((22 : Int32) + (1 : Int32))), .val (.int (own_hex v1 (36 : Int32))), .val (.int (own_val (own_hex v1 (36 : Int32))))] []) t → Gl t := fun t kt => kn13 t (st14 _ kt)
  rw [(show ((22 : Int32) + (1 : Int32)) = (23 : Int32) from by decide)] at kn15
  rw [(show (own_acc (own_us v1 (40 : Int32)) (own_hex v1 (36 : Int32))) = (own_us v1 (36 : Int32)) from own_step v1 36 40 36 40 (by decide) (by decide) rfl)] at kn15
  obtain ⟨T16, X16, e16, st16⟩ := turn_b X14 hx hZ hw hby hml hown e14 (by decide) (by decide) (x1 := x1) (p1 := (1 : Int32)) (e1 := (32 : Int32)) (q1 := (own_us v1 (36 : Int32))) (j1 := (23 : Int32)) (c1 := (own_hex v1 (32 : Int32))) (i1 := 23) (cs := (own_cs v0 v1 v2)) E_x1 V_x1 C_x1 K_x1 hcd hbd (Nat.le_of_ble_eq_true rfl) (Nat.le_of_ble_eq_true rfl) rfl (by decide) rfl (own_hxs _ _).1 (own_hxs _ _).2.1 (own_hxs _ _).2.2.1 O0 O2 P5 O4 rG3
  have kn17 : ∀ t, own_S p e below T16 (mkF m 15 #[.val (.ref x1), .val (.int (1 : Int32)), .val (.int (32 : Int32)), .val (.long (own_acc (own_us v1 (36 : Int32)) (own_hex v1 (32 : Int32)))), .second, .val (.int ((23 : Int32) + (1 : Int32))), .val (.int (own_hex v1 (32 : Int32))), .val (.int (own_val (own_hex v1 (32 : Int32))))] []) t → Gl t := fun t kt => kn15 t (st16 _ kt)
  rw [(show ((23 : Int32) + (1 : Int32)) = (24 : Int32) from by decide)] at kn17
  rw [(show (own_acc (own_us v1 (36 : Int32)) (own_hex v1 (32 : Int32))) = (own_us v1 (32 : Int32)) from own_step v1 32 36 32 36 (by decide) (by decide) rfl)] at kn17
  obtain ⟨T18, X18, e18, st18⟩ := turn_b X16 hx hZ hw hby hml hown e16 (by decide) (by decide) (x1 := x1) (p1 := (1 : Int32)) (e1 := (32 : Int32)) (q1 := (own_us v1 (32 : Int32))) (j1 := (24 : Int32)) (c1 := (own_hex v1 (28 : Int32))) (i1 := 24) (cs := (own_cs v0 v1 v2)) E_x1 V_x1 C_x1 K_x1 hcd hbd (Nat.le_of_ble_eq_true rfl) (Nat.le_of_ble_eq_true rfl) rfl (by decide) rfl (own_hxs _ _).1 (own_hxs _ _).2.1 (own_hxs _ _).2.2.1 O0 O2 P5 O4 rG3
  have kn19 : ∀ t, own_S p e below T18 (mkF m 15 #[.val (.ref x1), .val (.int (1 : Int32)), .val (.int (32 : Int32)), .val (.long (own_acc (own_us v1 (32 : Int32)) (own_hex v1 (28 : Int32)))), .second, .val (.int ((24 : Int32) + (1 : Int32))), .val (.int (own_hex v1 (28 : Int32))), .val (.int (own_val (own_hex v1 (28 : Int32))))] []) t → Gl t := fun t kt => kn17 t (st18 _ kt)
  rw [(show ((24 : Int32) + (1 : Int32)) = (25 : Int32) from by decide)] at kn19
  rw [(show (own_acc (own_us v1 (32 : Int32)) (own_hex v1 (28 : Int32))) = (own_us v1 (28 : Int32)) from own_step v1 28 32 28 32 (by decide) (by decide) rfl)] at kn19
  obtain ⟨T20, X20, e20, st20⟩ := turn_b X18 hx hZ hw hby hml hown e18 (by decide) (by decide) (x1 := x1) (p1 := (1 : Int32)) (e1 := (32 : Int32)) (q1 := (own_us v1 (28 : Int32))) (j1 := (25 : Int32)) (c1 := (own_hex v1 (24 : Int32))) (i1 := 25) (cs := (own_cs v0 v1 v2)) E_x1 V_x1 C_x1 K_x1 hcd hbd (Nat.le_of_ble_eq_true rfl) (Nat.le_of_ble_eq_true rfl) rfl (by decide) rfl (own_hxs _ _).1 (own_hxs _ _).2.1 (own_hxs _ _).2.2.1 O0 O2 P5 O4 rG3
  have kn21 : ∀ t, own_S p e below T20 (mkF m 15 #[.val (.ref x1), .val (.int (1 : Int32)), .val (.int (32 : Int32)), .val (.long (own_acc (own_us v1 (28 : Int32)) (own_hex v1 (24 : Int32)))), .second, .val (.int ((25 : Int32) + (1 : Int32))), .val (.int (own_hex v1 (24 : Int32))), .val (.int (own_val (own_hex v1 (24 : Int32))))] []) t → Gl t := fun t kt => kn19 t (st20 _ kt)
  rw [(show ((25 : Int32) + (1 : Int32)) = (26 : Int32) from by decide)] at kn21
  rw [(show (own_acc (own_us v1 (28 : Int32)) (own_hex v1 (24 : Int32))) = (own_us v1 (24 : Int32)) from own_step v1 24 28 24 28 (by decide) (by decide) rfl)] at kn21
  obtain ⟨T22, X22, e22, st22⟩ := turn_b X20 hx hZ hw hby hml hown e20 (by decide) (by decide) (x1 := x1) (p1 := (1 : Int32)) (e1 := (32 : Int32)) (q1 := (own_us v1 (24 : Int32))) (j1 := (26 : Int32)) (c1 := (own_hex v1 (20 : Int32))) (i1 := 26) (cs := (own_cs v0 v1 v2)) E_x1 V_x1 C_x1 K_x1 hcd hbd (Nat.le_of_ble_eq_true rfl) (Nat.le_of_ble_eq_true rfl) rfl (by decide) rfl (own_hxs _ _).1 (own_hxs _ _).2.1 (own_hxs _ _).2.2.1 O0 O2 P5 O4 rG3
  have kn23 : ∀ t, own_S p e below T22 (mkF m 15 #[.val (.ref x1), .val (.int (1 : Int32)), .val (.int (32 : Int32)), .val (.long (own_acc (own_us v1 (24 : Int32)) (own_hex v1 (20 : Int32)))), .second, .val (.int ((26 : Int32) + (1 : Int32))), .val (.int (own_hex v1 (20 : Int32))), .val (.int (own_val (own_hex v1 (20 : Int32))))] []) t → Gl t := fun t kt => kn21 t (st22 _ kt)
  rw [(show ((26 : Int32) + (1 : Int32)) = (27 : Int32) from by decide)] at kn23
  rw [(show (own_acc (own_us v1 (24 : Int32)) (own_hex v1 (20 : Int32))) = (own_us v1 (20 : Int32)) from own_step v1 20 24 20 24 (by decide) (by decide) rfl)] at kn23
  obtain ⟨T24, X24, e24, st24⟩ := turn_b X22 hx hZ hw hby hml hown e22 (by decide) (by decide) (x1 := x1) (p1 := (1 : Int32)) (e1 := (32 : Int32)) (q1 := (own_us v1 (20 : Int32))) (j1 := (27 : Int32)) (c1 := (own_hex v1 (16 : Int32))) (i1 := 27) (cs := (own_cs v0 v1 v2)) E_x1 V_x1 C_x1 K_x1 hcd hbd (Nat.le_of_ble_eq_true rfl) (Nat.le_of_ble_eq_true rfl) rfl (by decide) rfl (own_hxs _ _).1 (own_hxs _ _).2.1 (own_hxs _ _).2.2.1 O0 O2 P5 O4 rG3
  have kn25 : ∀ t, own_S p e below T24 (mkF m 15 #[.val (.ref x1), .val (.int (1 : Int32)), .val (.int (32 : Int32)), .val (.long (own_acc (own_us v1 (20 : Int32)) (own_hex v1 (16 : Int32)))), .second, .val (.int ((27 : Int32) + (1 : Int32))), .val (.int (own_hex v1 (16 : Int32))), .val (.int (own_val (own_hex v1 (16 : Int32))))] []) t → Gl t := fun t kt => kn23 t (st24 _ kt)
  rw [(show ((27 : Int32) + (1 : Int32)) = (28 : Int32) from by decide)] at kn25
  rw [(show (own_acc (own_us v1 (20 : Int32)) (own_hex v1 (16 : Int32))) = (own_us v1 (16 : Int32)) from own_step v1 16 20 16 20 (by decide) (by decide) rfl)] at kn25
  obtain ⟨T26, X26, e26, st26⟩ := turn_b X24 hx hZ hw hby hml hown e24 (by decide) (by decide) (x1 := x1) (p1 := (1 : Int32)) (e1 := (32 : Int32)) (q1 := (own_us v1 (16 : Int32))) (j1 := (28 : Int32)) (c1 := (own_hex v1 (12 : Int32))) (i1 := 28) (cs := (own_cs v0 v1 v2)) E_x1 V_x1 C_x1 K_x1 hcd hbd (Nat.le_of_ble_eq_true rfl) (Nat.le_of_ble_eq_true rfl) rfl (by decide) rfl (own_hxs _ _).1 (own_hxs _ _).2.1 (own_hxs _ _).2.2.1 O0 O2 P5 O4 rG3
  have kn27 : ∀ t, own_S p e below T26 (mkF m 15 #[.val (.ref x1), .val (.int (1 : Int32)), .val (.int (32 : Int32)), .val (.long (own_acc (own_us v1 (16 : Int32)) (own_hex v1 (12 : Int32)))), .second, .val (.int ((28 : Int32) + (1 : Int32))), .val (.int (own_hex v1 (12 : Int32))), .val (.int (own_val (own_hex v1 (12 : Int32))))] []) t → Gl t := fun t kt => kn25 t (st26 _ kt)
  rw [(show ((28 : Int32) + (1 : Int32)) = (29 : Int32) from by decide)] at kn27
  rw [(show (own_acc (own_us v1 (16 : Int32)) (own_hex v1 (12 : Int32))) = (own_us v1 (12 : Int32)) from own_step v1 12 16 12 16 (by decide) (by decide) rfl)] at kn27
  obtain ⟨T28, X28, e28, st28⟩ := turn_b X26 hx hZ hw hby hml hown e26 (by decide) (by decide) (x1 := x1) (p1 := (1 : Int32)) (e1 := (32 : Int32)) (q1 := (own_us v1 (12 : Int32))) (j1 := (29 : Int32)) (c1 := (own_hex v1 (8 : Int32))) (i1 := 29) (cs := (own_cs v0 v1 v2)) E_x1 V_x1 C_x1 K_x1 hcd hbd (Nat.le_of_ble_eq_true rfl) (Nat.le_of_ble_eq_true rfl) rfl (by decide) rfl (own_hxs _ _).1 (own_hxs _ _).2.1 (own_hxs _ _).2.2.1 O0 O2 P5 O4 rG3
  have kn29 : ∀ t, own_S p e below T28 (mkF m 15 #[.val (.ref x1), .val (.int (1 : Int32)), .val (.int (32 : Int32)), .val (.long (own_acc (own_us v1 (12 : Int32)) (own_hex v1 (8 : Int32)))), .second, .val (.int ((29 : Int32) + (1 : Int32))), .val (.int (own_hex v1 (8 : Int32))), .val (.int (own_val (own_hex v1 (8 : Int32))))] []) t → Gl t := fun t kt => kn27 t (st28 _ kt)
  rw [(show ((29 : Int32) + (1 : Int32)) = (30 : Int32) from by decide)] at kn29
  rw [(show (own_acc (own_us v1 (12 : Int32)) (own_hex v1 (8 : Int32))) = (own_us v1 (8 : Int32)) from own_step v1 8 12 8 12 (by decide) (by decide) rfl)] at kn29
  obtain ⟨T30, X30, e30, st30⟩ := turn_b X28 hx hZ hw hby hml hown e28 (by decide) (by decide) (x1 := x1) (p1 := (1 : Int32)) (e1 := (32 : Int32)) (q1 := (own_us v1 (8 : Int32))) (j1 := (30 : Int32)) (c1 := (own_hex v1 (4 : Int32))) (i1 := 30) (cs := (own_cs v0 v1 v2)) E_x1 V_x1 C_x1 K_x1 hcd hbd (Nat.le_of_ble_eq_true rfl) (Nat.le_of_ble_eq_true rfl) rfl (by decide) rfl (own_hxs _ _).1 (own_hxs _ _).2.1 (own_hxs _ _).2.2.1 O0 O2 P5 O4 rG3
  have kn31 : ∀ t, own_S p e below T30 (mkF m 15 #[.val (.ref x1), .val (.int (1 : Int32)), .val (.int (32 : Int32)), .val (.long (own_acc (own_us v1 (8 : Int32)) (own_hex v1 (4 : Int32)))), .second, .val (.int ((30 : Int32) + (1 : Int32))), .val (.int (own_hex v1 (4 : Int32))), .val (.int (own_val (own_hex v1 (4 : Int32))))] []) t → Gl t := fun t kt => kn29 t (st30 _ kt)
  rw [(show ((30 : Int32) + (1 : Int32)) = (31 : Int32) from by decide)] at kn31
  rw [(show (own_acc (own_us v1 (8 : Int32)) (own_hex v1 (4 : Int32))) = (own_us v1 (4 : Int32)) from own_step v1 4 8 4 8 (by decide) (by decide) rfl)] at kn31
  obtain ⟨T32, X32, e32, st32⟩ := turn_b X30 hx hZ hw hby hml hown e30 (by decide) (by decide) (x1 := x1) (p1 := (1 : Int32)) (e1 := (32 : Int32)) (q1 := (own_us v1 (4 : Int32))) (j1 := (31 : Int32)) (c1 := (own_hex v1 (0 : Int32))) (i1 := 31) (cs := (own_cs v0 v1 v2)) E_x1 V_x1 C_x1 K_x1 hcd hbd (Nat.le_of_ble_eq_true rfl) (Nat.le_of_ble_eq_true rfl) rfl (by decide) rfl (own_hxs _ _).1 (own_hxs _ _).2.1 (own_hxs _ _).2.2.1 O0 O2 P5 O4 rG3
  have kn33 : ∀ t, own_S p e below T32 (mkF m 15 #[.val (.ref x1), .val (.int (1 : Int32)), .val (.int (32 : Int32)), .val (.long (own_acc (own_us v1 (4 : Int32)) (own_hex v1 (0 : Int32)))), .second, .val (.int ((31 : Int32) + (1 : Int32))), .val (.int (own_hex v1 (0 : Int32))), .val (.int (own_val (own_hex v1 (0 : Int32))))] []) t → Gl t := fun t kt => kn31 t (st32 _ kt)
  rw [(show ((31 : Int32) + (1 : Int32)) = (32 : Int32) from by decide)] at kn33
  rw [(show (own_acc (own_us v1 (4 : Int32)) (own_hex v1 (0 : Int32))) = (own_us v1 (0 : Int32)) from own_step v1 0 4 0 4 (by decide) (by decide) rfl)] at kn33
  rw [(show (own_us v1 (0 : Int32)) = v1 from own_last v1)] at kn33
  have kn34 : ∀ t, own_S p e below T32 (mkF m 105 #[.val (.ref x1), .val (.int (1 : Int32)), .val (.int (32 : Int32)), .val (.long v1), .second, .val (.int (32 : Int32)), .val (.int (own_hex v1 (0 : Int32))), .val (.int (own_val (own_hex v1 (0 : Int32))))] [(.long v1)]) t → Gl t := fun t kt => kn33 t (by
    show own_S p e below T32 (mkF m 15 #[.val (.ref x1), .val (.int (1 : Int32)), .val (.int (32 : Int32)), .val (.long v1), .second, .val (.int (32 : Int32)), .val (.int (own_hex v1 (0 : Int32))), .val (.int (own_val (own_hex v1 (0 : Int32))))] []) _
    refine XS.iload X32.here hx rfl (hb hby d_prog_17_method_3_15) rfl ?_
    show own_S p e below T32 (mkF m 17 #[.val (.ref x1), .val (.int (1 : Int32)), .val (.int (32 : Int32)), .val (.long v1), .second, .val (.int (32 : Int32)), .val (.int (own_hex v1 (0 : Int32))), .val (.int (own_val (own_hex v1 (0 : Int32))))] [(.int (32 : Int32))]) _
    refine XS.iloadN X32.here hx rfl (hb hby d_prog_17_method_3_17) rfl ?_
    show own_S p e below T32 (mkF m 18 #[.val (.ref x1), .val (.int (1 : Int32)), .val (.int (32 : Int32)), .val (.long v1), .second, .val (.int (32 : Int32)), .val (.int (own_hex v1 (0 : Int32))), .val (.int (own_val (own_hex v1 (0 : Int32))))] [(.int (32 : Int32)), (.int (32 : Int32))]) _
    refine XS.icmpYes X32.here hx rfl (pc0 := 18) (pc' := 104) rfl (hb hby d_prog_17_method_3_18) rfl (flt (by decide : ¬ ((32 : Int32) < (32 : Int32)))).2.1 (by decide) (by decide) ?_
    show own_S p e below T32 (mkF m 104 #[.val (.ref x1), .val (.int (1 : Int32)), .val (.int (32 : Int32)), .val (.long v1), .second, .val (.int (32 : Int32)), .val (.int (own_hex v1 (0 : Int32))), .val (.int (own_val (own_hex v1 (0 : Int32))))] []) _
    refine XS.lloadN X32.here hx rfl (hb hby d_prog_17_method_3_104) rfl ?_
    exact kt)
  obtain ⟨fs, hr, hrun, hended, hW, hsame⟩ := X32.leave (v := some (.long v1)) (fun h => by rw [Bd.returns] at h; cases h)
  refine ⟨_, _, hGl _ (kn34 _ (X32.lreturnOut hx Bd.returns (hb hby d_prog_17_method_3_105) hr)), hrun, hended, _, _, rfl, ?_, ⟨_, rfl⟩, hW, hsame.mono (by decide) (by decide)⟩
  show Q12_1 Z x1 t1 k1 v0 v1 v2 G1 G3 h0 n0 _ T32.heap _
  rw [e32]
  exact ⟨rfl, Nf0, rfl⟩

theorem ef_rm12_2 (m : MethodId) (x0 : Addr) : entryFrame m #[(.ref x0), (.int (2 : Int32))] 8 = mkF m 0 #[.val (.ref x0), .val (.int (2 : Int32)), .unset, .unset, .unset, .unset, .unset, .unset] [] := by first | (simp [entryFrame, mkF, argsToLocals, Value.category]; done) | rfl
def Q12_2 (Z : State) (x1 : Addr) (t1 : Addr) (k1 : ClassId) (v0 : Int64) (v1 : Int64) (v2 : Int64) (G1 : Int32) (G3 : Value) (h0 : Heap) (n0 : Nat) (v : Option Value) (h : Heap) (L : List Loc) : Prop := v = some (.long v2) ∧ Fr n0 L ∧ h = h0
set_option maxRecDepth 65536 in
set_option maxHeartbeats 40000000 in
theorem rm12_2 (l : Launch) (Z : State) (a0 : Array Value) (hw : ∀ d ∈ tables_1, d.before a0 Z = true) (ws : List Jvm.Cond) (x1 : Addr) (t1 : Addr) (k1 : ClassId) (v0 : Int64) (v1 : Int64) (v2 : Int64) (G1 : Int32) (G3 : Value) (h0 : Heap) (n0 : Nat) (Z0 : n0 ≤ h0.size) (E_x1 : Exa Z h0 x1 "java/lang/String") (V_x1 : Fld Z h0 x1 "java/lang/String" "value" "[B" (.ref t1)) (C_x1 : Fld Z h0 x1 "java/lang/String" "coder" "B" (.int (0 : Int32))) (K_x1 : Arv Z h0 t1 k1 .byte (48 : Int32) (((own_cs v0 v1 v2).map (fun c => c.toInt8.toInt32)).map Value.int) (.int (0 : Int32))) (hp_x1 : ∀ c ∈ (own_cs v0 v1 v2), ¬ c < 0 ∧ ¬ (255 : Int32) < c) (O0 : Old Z n0 h0) (O2 : Sta Z Z.heap "java/lang/String" "COMPACT_STRINGS" "Z" (.int G1)) (P5 : ¬ (G1 = (0 : Int32))) (O4 : Sta Z Z.heap "jdk/internal/util/Preconditions" "SIOOBE_FORMATTER" "Ljava/util/function/BiFunction;" G3) (rG3 : G3.isRef = true) :
    MetFree l (⟨"com/example/dual_delivery/dualdelivery/model/ReceiptHandle", "parseLong", "(Ljava/lang/String;I)J"⟩ : MethodName) (head1 (Jvm.Cond.code (⟨"com/example/dual_delivery/dualdelivery/model/ReceiptHandle", "parseLong", "(Ljava/lang/String;I)J"⟩ : MethodName) prog_17_method_3_code 8 (some .long) :: ws) ({ frames := 4, cells := 0, slots := 0, locals := 54 } : Room)) (fun a U => a = #[(.ref x1), (.int (2 : Int32))] ∧ Z.Warmed39 U.vm ∧ U.heap = h0) (fun _ _ _ _ _ => True) (fun _ U o U' => ∃ v L, o = .returned v ∧ Q12_2 Z x1 t1 k1 v0 v1 v2 G1 G3 h0 n0 v U'.heap L ∧ FrameEnd U o U' L ({ frames := 4, cells := 0, slots := 0, locals := 54 } : Room).cells ({ frames := 4, cells := 0, slots := 0, locals := 54 } : Room).slots) := by
  refine MetFree.of_bodySF (plainFor_of_name pn_1) hisR ?_
  intro p e s m args below meth c s₁ Bd hml0 hP hK
  obtain ⟨rfl, hZ, hh⟩ := hP
  have hx := Bd.exec
  have hby := Bd.bytes
  have hml : c.maxLocals = 8 := hml0
  have hown : s.vm.findClass "com/example/dual_delivery/dualdelivery/model/ReceiptHandle" = some m.cls := findClass_of_methodNamed Bd.named
  have hnm := (name_of_methodNamed Bd.named Bd.method).1
  have X0 : Stand p l e ({ frames := 4, cells := 0, slots := 0, locals := 54 } : Room) s m #[(.ref x1), (.int (2 : Int32))] below meth c s₁ [] 0 0 := Stand.of_body Bd
  have e0 : s₁.heap = h0 := by rw [← hh, Bd.state]; rfl
  have Nf0 := Fr.nil n0
  obtain ⟨Gl, hGl, kn0⟩ : ∃ Gl : State → Prop, (∀ t, Gl t → Steps p.tables e below (s₁.setTop (entryFrame m #[(.ref x1), (.int (2 : Int32))] 8)) t) ∧ ∀ t, own_S p e below s₁ (mkF m 0 #[.val (.ref x1), .val (.int (2 : Int32)), .unset, .unset, .unset, .unset, .unset, .unset] []) t → Gl t := ⟨fun t => Steps p.tables e below (s₁.setTop (entryFrame m #[(.ref x1), (.int (2 : Int32))] 8)) t, fun _ k => k, fun t k => castTop (ef_rm12_2 m x1) k⟩
  have hcd : StrChars.Road.CodA (own_cs v0 v1 v2) 0 (48 : Int32) (((own_cs v0 v1 v2).map (fun c => c.toInt8.toInt32)).map Value.int) := StrChars.Road.codOf (n := 48) rfl (fun x hx => (hp_x1 x hx).2)
  have hbd : ∀ x ∈ (own_cs v0 v1 v2), ¬ x < 0 ∧ ¬ (65535 : Int32) < x := own_up _ hp_x1
  have kn1 : ∀ t, own_S p e below s₁ (mkF m 15 #[.val (.ref x1), .val (.int (2 : Int32)), .val (.int (48 : Int32)), .val (.long (0 : Int64)), .second, .val (.int (32 : Int32)), .unset, .unset] []) t → Gl t := fun t kt => kn0 t (by
    show own_S p e below s₁ (mkF m 0 #[.val (.ref x1), .val (.int (2 : Int32)), .unset, .unset, .unset, .unset, .unset, .unset] []) _
    refine XS.iloadN X0.here hx rfl (hb hby d_prog_17_method_3_0) rfl ?_
    show own_S p e below s₁ (mkF m 1 #[.val (.ref x1), .val (.int (2 : Int32)), .unset, .unset, .unset, .unset, .unset, .unset] [(.int (2 : Int32))]) _
    refine XS.iconst X0.here hx rfl (hb hby d_prog_17_method_3_1) ?_
    show own_S p e below s₁ (mkF m 2 #[.val (.ref x1), .val (.int (2 : Int32)), .unset, .unset, .unset, .unset, .unset, .unset] [(.int (1 : Int32)), (.int (2 : Int32))]) _
    refine XS.iadd X0.here hx rfl (hb hby d_prog_17_method_3_2) rfl ?_
    rw [(by decide : ((2 : Int32) + (1 : Int32)) = (3 : Int32))]
    show own_S p e below s₁ (mkF m 3 #[.val (.ref x1), .val (.int (2 : Int32)), .unset, .unset, .unset, .unset, .unset, .unset] [(.int (3 : Int32))]) _
    refine XS.bipush X0.here hx rfl (hb hby d_prog_17_method_3_3) ?_
    show own_S p e below s₁ (mkF m 5 #[.val (.ref x1), .val (.int (2 : Int32)), .unset, .unset, .unset, .unset, .unset, .unset] [(.int (16 : Int32)), (.int (3 : Int32))]) _
    refine XS.imul X0.here hx rfl (hb hby d_prog_17_method_3_5) rfl ?_
    rw [(by decide : ((3 : Int32) * (16 : Int32)) = (48 : Int32))]
    show own_S p e below s₁ (mkF m 6 #[.val (.ref x1), .val (.int (2 : Int32)), .unset, .unset, .unset, .unset, .unset, .unset] [(.int (48 : Int32))]) _
    refine XS.istoreN X0.here hx rfl (hb hby d_prog_17_method_3_6) rfl (l' := #[.val (.ref x1), .val (.int (2 : Int32)), .val (.int (48 : Int32)), .unset, .unset, .unset, .unset, .unset]) rfl ?_
    show own_S p e below s₁ (mkF m 7 #[.val (.ref x1), .val (.int (2 : Int32)), .val (.int (48 : Int32)), .unset, .unset, .unset, .unset, .unset] []) _
    refine XS.lconst X0.here hx rfl (hb hby d_prog_17_method_3_7) ?_
    show own_S p e below s₁ (mkF m 8 #[.val (.ref x1), .val (.int (2 : Int32)), .val (.int (48 : Int32)), .unset, .unset, .unset, .unset, .unset] [(.long (0 : Int64))]) _
    refine XS.lstoreN X0.here hx rfl (hb hby d_prog_17_method_3_8) rfl (l' := #[.val (.ref x1), .val (.int (2 : Int32)), .val (.int (48 : Int32)), .val (.long (0 : Int64)), .second, .unset, .unset, .unset]) rfl ?_
    show own_S p e below s₁ (mkF m 9 #[.val (.ref x1), .val (.int (2 : Int32)), .val (.int (48 : Int32)), .val (.long (0 : Int64)), .second, .unset, .unset, .unset] []) _
    refine XS.iloadN X0.here hx rfl (hb hby d_prog_17_method_3_9) rfl ?_
    show own_S p e below s₁ (mkF m 10 #[.val (.ref x1), .val (.int (2 : Int32)), .val (.int (48 : Int32)), .val (.long (0 : Int64)), .second, .unset, .unset, .unset] [(.int (2 : Int32))]) _
    refine XS.bipush X0.here hx rfl (hb hby d_prog_17_method_3_10) ?_
    show own_S p e below s₁ (mkF m 12 #[.val (.ref x1), .val (.int (2 : Int32)), .val (.int (48 : Int32)), .val (.long (0 : Int64)), .second, .unset, .unset, .unset] [(.int (16 : Int32)), (.int (2 : Int32))]) _
    refine XS.imul X0.here hx rfl (hb hby d_prog_17_method_3_12) rfl ?_
    rw [(by decide : ((2 : Int32) * (16 : Int32)) = (32 : Int32))]
    show own_S p e below s₁ (mkF m 13 #[.val (.ref x1), .val (.int (2 : Int32)), .val (.int (48 : Int32)), .val (.long (0 : Int64)), .second, .unset, .unset, .unset] [(.int (32 : Int32))]) _
    refine XS.istore X0.here hx rfl (hb hby d_prog_17_method_3_13) rfl (l' := #[.val (.ref x1), .val (.int (2 : Int32)), .val (.int (48 : Int32)), .val (.long (0 : Int64)), .second, .val (.int (32 : Int32)), .unset, .unset]) rfl ?_
    exact kt)
  obtain ⟨T2, X2, e2, st2⟩ := turn_a X0 hx hZ hw hby hml hown e0 (by decide) (by decide) (x1 := x1) (p1 := (2 : Int32)) (e1 := (48 : Int32)) (q1 := (0 : Int64)) (j1 := (32 : Int32)) (c1 := (own_hex v2 (60 : Int32))) (i1 := 32) (cs := (own_cs v0 v1 v2)) E_x1 V_x1 C_x1 K_x1 hcd hbd (Nat.le_of_ble_eq_true rfl) (Nat.le_of_ble_eq_true rfl) rfl (by decide) rfl (own_hxs _ _).1 (own_hxs _ _).2.1 (own_hxs _ _).2.2.1 O0 O2 P5 O4 rG3
  have kn3 : ∀ t, own_S p e below T2 (mkF m 15 #[.val (.ref x1), .val (.int (2 : Int32)), .val (.int (48 : Int32)), .val (.long (own_acc (0 : Int64) (own_hex v2 (60 : Int32)))), .second, .val (.int ((32 : Int32) + (1 : Int32))), .val (.int (own_hex v2 (60 : Int32))), .val (.int (own_val (own_hex v2 (60 : Int32))))] []) t → Gl t := fun t kt => kn1 t (st2 _ kt)
  rw [(show ((32 : Int32) + (1 : Int32)) = (33 : Int32) from by decide)] at kn3
  rw [(show (own_acc (0 : Int64) (own_hex v2 (60 : Int32))) = (own_us v2 (60 : Int32)) from own_first v2)] at kn3
  obtain ⟨T4, X4, e4, st4⟩ := turn_b X2 hx hZ hw hby hml hown e2 (by decide) (by decide) (x1 := x1) (p1 := (2 : Int32)) (e1 := (48 : Int32)) (q1 := (own_us v2 (60 : Int32))) (j1 := (33 : Int32)) (c1 := (own_hex v2 (56 : Int32))) (i1 := 33) (cs := (own_cs v0 v1 v2)) E_x1 V_x1 C_x1 K_x1 hcd hbd (Nat.le_of_ble_eq_true rfl) (Nat.le_of_ble_eq_true rfl) rfl (by decide) rfl (own_hxs _ _).1 (own_hxs _ _).2.1 (own_hxs _ _).2.2.1 O0 O2 P5 O4 rG3
  have kn5 : ∀ t, own_S p e below T4 (mkF m 15 #[.val (.ref x1), .val (.int (2 : Int32)), .val (.int (48 : Int32)), .val (.long (own_acc (own_us v2 (60 : Int32)) (own_hex v2 (56 : Int32)))), .second, .val (.int ((33 : Int32) + (1 : Int32))), .val (.int (own_hex v2 (56 : Int32))), .val (.int (own_val (own_hex v2 (56 : Int32))))] []) t → Gl t := fun t kt => kn3 t (st4 _ kt)
  rw [(show ((33 : Int32) + (1 : Int32)) = (34 : Int32) from by decide)] at kn5
  rw [(show (own_acc (own_us v2 (60 : Int32)) (own_hex v2 (56 : Int32))) = (own_us v2 (56 : Int32)) from own_step v2 56 60 56 60 (by decide) (by decide) rfl)] at kn5
  obtain ⟨T6, X6, e6, st6⟩ := turn_b X4 hx hZ hw hby hml hown e4 (by decide) (by decide) (x1 := x1) (p1 := (2 : Int32)) (e1 := (48 : Int32)) (q1 := (own_us v2 (56 : Int32))) (j1 := (34 : Int32)) (c1 := (own_hex v2 (52 : Int32))) (i1 := 34) (cs := (own_cs v0 v1 v2)) E_x1 V_x1 C_x1 K_x1 hcd hbd (Nat.le_of_ble_eq_true rfl) (Nat.le_of_ble_eq_true rfl) rfl (by decide) rfl (own_hxs _ _).1 (own_hxs _ _).2.1 (own_hxs _ _).2.2.1 O0 O2 P5 O4 rG3
  have kn7 : ∀ t, own_S p e below T6 (mkF m 15 #[.val (.ref x1), .val (.int (2 : Int32)), .val (.int (48 : Int32)), .val (.long (own_acc (own_us v2 (56 : Int32)) (own_hex v2 (52 : Int32)))), .second, .val (.int ((34 : Int32) + (1 : Int32))), .val (.int (own_hex v2 (52 : Int32))), .val (.int (own_val (own_hex v2 (52 : Int32))))] []) t → Gl t := fun t kt => kn5 t (st6 _ kt)
  rw [(show ((34 : Int32) + (1 : Int32)) = (35 : Int32) from by decide)] at kn7
  rw [(show (own_acc (own_us v2 (56 : Int32)) (own_hex v2 (52 : Int32))) = (own_us v2 (52 : Int32)) from own_step v2 52 56 52 56 (by decide) (by decide) rfl)] at kn7
  obtain ⟨T8, X8, e8, st8⟩ := turn_b X6 hx hZ hw hby hml hown e6 (by decide) (by decide) (x1 := x1) (p1 := (2 : Int32)) (e1 := (48 : Int32)) (q1 := (own_us v2 (52 : Int32))) (j1 := (35 : Int32)) (c1 := (own_hex v2 (48 : Int32))) (i1 := 35) (cs := (own_cs v0 v1 v2)) E_x1 V_x1 C_x1 K_x1 hcd hbd (Nat.le_of_ble_eq_true rfl) (Nat.le_of_ble_eq_true rfl) rfl (by decide) rfl (own_hxs _ _).1 (own_hxs _ _).2.1 (own_hxs _ _).2.2.1 O0 O2 P5 O4 rG3
  have kn9 : ∀ t, own_S p e below T8 (mkF m 15 #[.val (.ref x1), .val (.int (2 : Int32)), .val (.int (48 : Int32)), .val (.long (own_acc (own_us v2 (52 : Int32)) (own_hex v2 (48 : Int32)))), .second, .val (.int ((35 : Int32) + (1 : Int32))), .val (.int (own_hex v2 (48 : Int32))), .val (.int (own_val (own_hex v2 (48 : Int32))))] []) t → Gl t := fun t kt => kn7 t (st8 _ kt)
  rw [(show ((35 : Int32) + (1 : Int32)) = (36 : Int32) from by decide)] at kn9
  rw [(show (own_acc (own_us v2 (52 : Int32)) (own_hex v2 (48 : Int32))) = (own_us v2 (48 : Int32)) from own_step v2 48 52 48 52 (by decide) (by decide) rfl)] at kn9
  obtain ⟨T10, X10, e10, st10⟩ := turn_b X8 hx hZ hw hby hml hown e8 (by decide) (by decide) (x1 := x1) (p1 := (2 : Int32)) (e1 := (48 : Int32)) (q1 := (own_us v2 (48 : Int32))) (j1 := (36 : Int32)) (c1 := (own_hex v2 (44 : Int32))) (i1 := 36) (cs := (own_cs v0 v1 v2)) E_x1 V_x1 C_x1 K_x1 hcd hbd (Nat.le_of_ble_eq_true rfl) (Nat.le_of_ble_eq_true rfl) rfl (by decide) rfl (own_hxs _ _).1 (own_hxs _ _).2.1 (own_hxs _ _).2.2.1 O0 O2 P5 O4 rG3
  have kn11 : ∀ t, own_S p e below T10 (mkF m 15 #[.val (.ref x1), .val (.int (2 : Int32)), .val (.int (48 : Int32)), .val (.long (own_acc (own_us v2 (48 : Int32)) (own_hex v2 (44 : Int32)))), .second, .val (.int ((36 : Int32) + (1 : Int32))), .val (.int (own_hex v2 (44 : Int32))), .val (.int (own_val (own_hex v2 (44 : Int32))))] []) t → Gl t := fun t kt => kn9 t (st10 _ kt)
  rw [(show ((36 : Int32) + (1 : Int32)) = (37 : Int32) from by decide)] at kn11
  rw [(show (own_acc (own_us v2 (48 : Int32)) (own_hex v2 (44 : Int32))) = (own_us v2 (44 : Int32)) from own_step v2 44 48 44 48 (by decide) (by decide) rfl)] at kn11
  obtain ⟨T12, X12, e12, st12⟩ := turn_b X10 hx hZ hw hby hml hown e10 (by decide) (by decide) (x1 := x1) (p1 := (2 : Int32)) (e1 := (48 : Int32)) (q1 := (own_us v2 (44 : Int32))) (j1 := (37 : Int32)) (c1 := (own_hex v2 (40 : Int32))) (i1 := 37) (cs := (own_cs v0 v1 v2)) E_x1 V_x1 C_x1 K_x1 hcd hbd (Nat.le_of_ble_eq_true rfl) (Nat.le_of_ble_eq_true rfl) rfl (by decide) rfl (own_hxs _ _).1 (own_hxs _ _).2.1 (own_hxs _ _).2.2.1 O0 O2 P5 O4 rG3
  have kn13 : ∀ t, own_S p e below T12 (mkF m 15 #[.val (.ref x1), .val (.int (2 : Int32)), .val (.int (48 : Int32)), .val (.long (own_acc (own_us v2 (44 : Int32)) (own_hex v2 (40 : Int32)))), .second, .val (.int ((37 : Int32) + (1 : Int32))), .val (.int (own_hex v2 (40 : Int32))), .val (.int (own_val (own_hex v2 (40 : Int32))))] []) t → Gl t := fun t kt => kn11 t (st12 _ kt)
  rw [(show ((37 : Int32) + (1 : Int32)) = (38 : Int32) from by decide)] at kn13
  rw [(show (own_acc (own_us v2 (44 : Int32)) (own_hex v2 (40 : Int32))) = (own_us v2 (40 : Int32)) from own_step v2 40 44 40 44 (by decide) (by decide) rfl)] at kn13
  obtain ⟨T14, X14, e14, st14⟩ := turn_b X12 hx hZ hw hby hml hown e12 (by decide) (by decide) (x1 := x1) (p1 := (2 : Int32)) (e1 := (48 : Int32)) (q1 := (own_us v2 (40 : Int32))) (j1 := (38 : Int32)) (c1 := (own_hex v2 (36 : Int32))) (i1 := 38) (cs := (own_cs v0 v1 v2)) E_x1 V_x1 C_x1 K_x1 hcd hbd (Nat.le_of_ble_eq_true rfl) (Nat.le_of_ble_eq_true rfl) rfl (by decide) rfl (own_hxs _ _).1 (own_hxs _ _).2.1 (own_hxs _ _).2.2.1 O0 O2 P5 O4 rG3
  have kn15 : ∀ t, own_S p e below T14 (mkF m 15 #[.val (.ref x1), .val (.int (2 : Int32)), .val (.int (48 : Int32)), .val (.long (own_acc (own_us v2 (40 : Int32)) (own_hex v2 (36 : Int32)))), .second, .val (.int ((38 : Int32) + (1 : Int32))), .val (.int (own_hex v2 (36 : Int32))), .val (.int (own_val (own_hex v2 (36 : Int32))))] []) t → Gl t := fun t kt => kn13 t (st14 _ kt)
  rw [(show ((38 : Int32) + (1 : Int32)) = (39 : Int32) from by decide)] at kn15
  rw [(show (own_acc (own_us v2 (40 : Int32)) (own_hex v2 (36 : Int32))) = (own_us v2 (36 : Int32)) from own_step v2 36 40 36 40 (by decide) (by decide) rfl)] at kn15
  obtain ⟨T16, X16, e16, st16⟩ := turn_b X14 hx hZ hw hby hml hown e14 (by decide) (by decide) (x1 := x1) (p1 := (2 : Int32)) (e1 := (48 : Int32)) (q1 := (own_us v2 (36 : Int32))) (j1 := (39 : Int32)) (c1 := (own_hex v2 (32 : Int32))) (i1 := 39) (cs := (own_cs v0 v1 v2)) E_x1 V_x1 C_x1 K_x1 hcd hbd (Nat.le_of_ble_eq_true rfl) (Nat.le_of_ble_eq_true rfl) rfl (by decide) rfl (own_hxs _ _).1 (own_hxs _ _).2.1 (own_hxs _ _).2.2.1 O0 O2 P5 O4 rG3
  have kn17 : ∀ t, own_S p e below T16 (mkF m 15 #[.val (.ref x1), .val (.int (2 : Int32)), .val (.int (48 : Int32)), .val (.long (own_acc (own_us v2 (36 : Int32)) (own_hex v2 (32 : Int32)))), .second, .val (.int ((39 : Int32) + (1 : Int32))), .val (.int (own_hex v2 (32 : Int32))), .val (.int (own_val (own_hex v2 (32 : Int32))))] []) t → Gl t := fun t kt => kn15 t (st16 _ kt)
  rw [(show ((39 : Int32) + (1 : Int32)) = (40 : Int32) from by decide)] at kn17
  rw [(show (own_acc (own_us v2 (36 : Int32)) (own_hex v2 (32 : Int32))) = (own_us v2 (32 : Int32)) from own_step v2 32 36 32 36 (by decide) (by decide) rfl)] at kn17
  obtain ⟨T18, X18, e18, st18⟩ := turn_b X16 hx hZ hw hby hml hown e16 (by decide) (by decide) (x1 := x1) (p1 := (2 : Int32)) (e1 := (48 : Int32)) (q1 := (own_us v2 (32 : Int32))) (j1 := (40 : Int32)) (c1 := (own_hex v2 (28 : Int32))) (i1 := 40) (cs := (own_cs v0 v1 v2)) E_x1 V_x1 C_x1 K_x1 hcd hbd (Nat.le_of_ble_eq_true rfl) (Nat.le_of_ble_eq_true rfl) rfl (by decide) rfl (own_hxs _ _).1 (own_hxs _ _).2.1 (own_hxs _ _).2.2.1 O0 O2 P5 O4 rG3
  have kn19 : ∀ t, own_S p e below T18 (mkF m 15 #[.val (.ref x1), .val (.int (2 : Int32)), .val (.int (48 : Int32)), .val (.long (own_acc (own_us v2 (32 : Int32)) (own_hex v2 (28 : Int32)))), .second, .val (.int ((40 : Int32) + (1 : Int32))), .val (.int (own_hex v2 (28 : Int32))), .val (.int (own_val (own_hex v2 (28 : Int32))))] []) t → Gl t := fun t kt => kn17 t (st18 _ kt)
  rw [(show ((40 : Int32) + (1 : Int32)) = (41 : Int32) from by decide)] at kn19
  rw [(show (own_acc (own_us v2 (32 : Int32)) (own_hex v2 (28 : Int32))) = (own_us v2 (28 : Int32)) from own_step v2 28 32 28 32 (by decide) (by decide) rfl)] at kn19
  obtain ⟨T20, X20, e20, st20⟩ := turn_b X18 hx hZ hw hby hml hown e18 (by decide) (by decide) (x1 := x1) (p1 := (2 : Int32)) (e1 := (48 : Int32)) (q1 := (own_us v2 (28 : Int32))) (j1 := (41 : Int32)) (c1 := (own_hex v2 (24 : Int32))) (i1 := 41) (cs := (own_cs v0 v1 v2)) E_x1 V_x1 C_x1 K_x1 hcd hbd (Nat.le_of_ble_eq_true rfl) (Nat.le_of_ble_eq_true rfl) rfl (by decide) rfl (own_hxs _ _).1 (own_hxs _ _).2.1 (own_hxs _ _).2.2.1 O0 O2 P5 O4 rG3
  have kn21 : ∀ t, own_S p e below T20 (mkF m 15 #[.val (.ref x1), .val (.int (2 : Int32)), .val (.int (48 : Int32)), .val (.long (own_acc (own_us v2 (28 : Int32)) (own_hex v2 (24 : Int32)))), .second, .val (.int ((41 : Int32) + (1 : Int32))), .val (.int (own_hex v2 (24 : Int32))), .val (.int (own_val (own_hex v2 (24 : Int32))))] []) t → Gl t := fun t kt => kn19 t (st20 _ kt)
  rw [(show ((41 : Int32) + (1 : Int32)) = (42 : Int32) from by decide)] at kn21
  rw [(show (own_acc (own_us v2 (28 : Int32)) (own_hex v2 (24 : Int32))) = (own_us v2 (24 : Int32)) from own_step v2 24 28 24 28 (by decide) (by decide) rfl)] at kn21
  obtain ⟨T22, X22, e22, st22⟩ := turn_b X20 hx hZ hw hby hml hown e20 (by decide) (by decide) (x1 := x1) (p1 := (2 : Int32)) (e1 := (48 : Int32)) (q1 := (own_us v2 (24 : Int32))) (j1 := (42 : Int32)) (c1 := (own_hex v2 (20 : Int32))) (i1 := 42) (cs := (own_cs v0 v1 v2)) E_x1 V_x1 C_x1 K_x1 hcd hbd (Nat.le_of_ble_eq_true rfl) (Nat.le_of_ble_eq_true rfl) rfl (by decide) rfl (own_hxs _ _).1 (own_hxs _ _).2.1 (own_hxs _ _).2.2.1 O0 O2 P5 O4 rG3
  have kn23 : ∀ t, own_S p e below T22 (mkF m 15 #[.val (.ref x1), .val (.int (2 : Int32)), .val (.int (48 : Int32)), .val (.long (own_acc (own_us v2 (24 : Int32)) (own_hex v2 (20 : Int32)))), .second, .val (.int ((42 : Int32) + (1 : Int32))), .val (.int (own_hex v2 (20 : Int32))), .val (.int (own_val (own_hex v2 (20 : Int32))))] []) t → Gl t := fun t kt => kn21 t (st22 _ kt)
  rw [(show ((42 : Int32) + (1 : Int32)) = (43 : Int32) from by decide)] at kn23
  rw [(show (own_acc (own_us v2 (24 : Int32)) (own_hex v2 (20 : Int32))) = (own_us v2 (20 : Int32)) from own_step v2 20 24 20 24 (by decide) (by decide) rfl)] at kn23
  obtain ⟨T24, X24, e24, st24⟩ := turn_b X22 hx hZ hw hby hml hown e22 (by decide) (by decide) (x1 := x1) (p1 := (2 : Int32)) (e1 := (48 : Int32)) (q1 := (own_us v2 (20 : Int32))) (j1 := (43 : Int32)) (c1 := (own_hex v2 (16 : Int32))) (i1 := 43) (cs := (own_cs v0 v1 v2)) E_x1 V_x1 C_x1 K_x1 hcd hbd (Nat.le_of_ble_eq_true rfl) (Nat.le_of_ble_eq_true rfl) rfl (by decide) rfl (own_hxs _ _).1 (own_hxs _ _).2.1 (own_hxs _ _).2.2.1 O0 O2 P5 O4 rG3
  have kn25 : ∀ t, own_S p e below T24 (mkF m 15 #[.val (.ref x1), .val (.int (2 : Int32)), .val (.int (48 : Int32)), .val (.long (own_acc (own_us v2 (20 : Int32)) (own_hex v2 (16 : Int32)))), .second, .val (.int ((43 : Int32) + (1 : Int32))), .val (.int (own_hex v2 (16 : Int32))), .val (.int (own_val (own_hex v2 (16 : Int32))))] []) t → Gl t := fun t kt => kn23 t (st24 _ kt)
  rw [(show ((43 : Int32) + (1 : Int32)) = (44 : Int32) from by decide)] at kn25
  rw [(show (own_acc (own_us v2 (20 : Int32)) (own_hex v2 (16 : Int32))) = (own_us v2 (16 : Int32)) from own_step v2 16 20 16 20 (by decide) (by decide) rfl)] at kn25
  obtain ⟨T26, X26, e26, st26⟩ := turn_b X24 hx hZ hw hby hml hown e24 (by decide) (by decide) (x1 := x1) (p1 := (2 : Int32)) (e1 := (48 : Int32)) (q1 := (own_us v2 (16 : Int32))) (j1 := (44 : Int32)) (c1 := (own_hex v2 (12 : Int32))) (i1 := 44) (cs := (own_cs v0 v1 v2)) E_x1 V_x1 C_x1 K_x1 hcd hbd (Nat.le_of_ble_eq_true rfl) (Nat.le_of_ble_eq_true rfl) rfl (by decide) rfl (own_hxs _ _).1 (own_hxs _ _).2.1 (own_hxs _ _).2.2.1 O0 O2 P5 O4 rG3
  have kn27 : ∀ t, own_S p e below T26 (mkF m 15 #[.val (.ref x1), .val (.int (2 : Int32)), .val (.int (48 : Int32)), .val (.long (own_acc (own_us v2 (16 : Int32)) (own_hex v2 (12 : Int32)))), .second, .val (.int ((44 : Int32) + (1 : Int32))), .val (.int (own_hex v2 (12 : Int32))), .val (.int (own_val (own_hex v2 (12 : Int32))))] []) t → Gl t := fun t kt => kn25 t (st26 _ kt)
  rw [(show ((44 : Int32) + (1 : Int32)) = (45 : Int32) from by decide)] at kn27
  rw [(show (own_acc (own_us v2 (16 : Int32)) (own_hex v2 (12 : Int32))) = (own_us v2 (12 : Int32)) from own_step v2 12 16 12 16 (by decide) (by decide) rfl)] at kn27
  obtain ⟨T28, X28, e28, st28⟩ := turn_b X26 hx hZ hw hby hml hown e26 (by decide) (by decide) (x1 := x1) (p1 := (2 : Int32)) (e1 := (48 : Int32)) (q1 := (own_us v2 (12 : Int32))) (j1 := (45 : Int32)) (c1 := (own_hex v2 (8 : Int32))) (i1 := 45) (cs := (own_cs v0 v1 v2)) E_x1 V_x1 C_x1 K_x1 hcd hbd (Nat.le_of_ble_eq_true rfl) (Nat.le_of_ble_eq_true rfl) rfl (by decide) rfl (own_hxs _ _).1 (own_hxs _ _).2.1 (own_hxs _ _).2.2.1 O0 O2 P5 O4 rG3
  have kn29 : ∀ t, own_S p e below T28 (mkF m 15 #[.val (.ref x1), .val (.int (2 : Int32)), .val (.int (48 : Int32)), .val (.long (own_acc (own_us v2 (12 : Int32)) (own_hex v2 (8 : Int32)))), .second, .val (.int ((45 : Int32) + (1 : Int32))), .val (.int (own_hex v2 (8 : Int32))), .val (.int (own_val (own_hex v2 (8 : Int32))))] []) t → Gl t := fun t kt => kn27 t (st28 _ kt)
  rw [(show ((45 : Int32) + (1 : Int32)) = (46 : Int32) from by decide)] at kn29
  rw [(show (own_acc (own_us v2 (12 : Int32)) (own_hex v2 (8 : Int32))) = (own_us v2 (8 : Int32)) from own_step v2 8 12 8 12 (by decide) (by decide) rfl)] at kn29
  obtain ⟨T30, X30, e30, st30⟩ := turn_b X28 hx hZ hw hby hml hown e28 (by decide) (by decide) (x1 := x1) (p1 := (2 : Int32)) (e1 := (48 : Int32)) (q1 := (own_us v2 (8 : Int32))) (j1 := (46 : Int32)) (c1 := (own_hex v2 (4 : Int32))) (i1 := 46) (cs := (own_cs v0 v1 v2)) E_x1 V_x1 C_x1 K_x1 hcd hbd (Nat.le_of_ble_eq_true rfl) (Nat.le_of_ble_eq_true rfl) rfl (by decide) rfl (own_hxs _ _).1 (own_hxs _ _).2.1 (own_hxs _ _).2.2.1 O0 O2 P5 O4 rG3
  have kn31 : ∀ t, own_S p e below T30 (mkF m 15 #[.val (.ref x1), .val (.int (2 : Int32)), .val (.int (48 : Int32)), .val (.long (own_acc (own_us v2 (8 : Int32)) (own_hex v2 (4 : Int32)))), .second, .val (.int ((46 : Int32) + (1 : Int32))), .val (.int (own_hex v2 (4 : Int32))), .val (.int (own_val (own_hex v2 (4 : Int32))))] []) t → Gl t := fun t kt => kn29 t (st30 _ kt)
  rw [(show ((46 : Int32) + (1 : Int32)) = (47 : Int32) from by decide)] at kn31
  rw [(show (own_acc (own_us v2 (8 : Int32)) (own_hex v2 (4 : Int32))) = (own_us v2 (4 : Int32)) from own_step v2 4 8 4 8 (by decide) (by decide) rfl)] at kn31
  obtain ⟨T32, X32, e32, st32⟩ := turn_b X30 hx hZ hw hby hml hown e30 (by decide) (by decide) (x1 := x1) (p1 := (2 : Int32)) (e1 := (48 : Int32)) (q1 := (own_us v2 (4 : Int32))) (j1 := (47 : Int32)) (c1 := (own_hex v2 (0 : Int32))) (i1 := 47) (cs := (own_cs v0 v1 v2)) E_x1 V_x1 C_x1 K_x1 hcd hbd (Nat.le_of_ble_eq_true rfl) (Nat.le_of_ble_eq_true rfl) rfl (by decide) rfl (own_hxs _ _).1 (own_hxs _ _).2.1 (own_hxs _ _).2.2.1 O0 O2 P5 O4 rG3
  have kn33 : ∀ t, own_S p e below T32 (mkF m 15 #[.val (.ref x1), .val (.int (2 : Int32)), .val (.int (48 : Int32)), .val (.long (own_acc (own_us v2 (4 : Int32)) (own_hex v2 (0 : Int32)))), .second, .val (.int ((47 : Int32) + (1 : Int32))), .val (.int (own_hex v2 (0 : Int32))), .val (.int (own_val (own_hex v2 (0 : Int32))))] []) t → Gl t := fun t kt => kn31 t (st32 _ kt)
  rw [(show ((47 : Int32) + (1 : Int32)) = (48 : Int32) from by decide)] at kn33
  rw [(show (own_acc (own_us v2 (4 : Int32)) (own_hex v2 (0 : Int32))) = (own_us v2 (0 : Int32)) from own_step v2 0 4 0 4 (by decide) (by decide) rfl)] at kn33
  rw [(show (own_us v2 (0 : Int32)) = v2 from own_last v2)] at kn33
  have kn34 : ∀ t, own_S p e below T32 (mkF m 105 #[.val (.ref x1), .val (.int (2 : Int32)), .val (.int (48 : Int32)), .val (.long v2), .second, .val (.int (48 : Int32)), .val (.int (own_hex v2 (0 : Int32))), .val (.int (own_val (own_hex v2 (0 : Int32))))] [(.long v2)]) t → Gl t := fun t kt => kn33 t (by
    show own_S p e below T32 (mkF m 15 #[.val (.ref x1), .val (.int (2 : Int32)), .val (.int (48 : Int32)), .val (.long v2), .second, .val (.int (48 : Int32)), .val (.int (own_hex v2 (0 : Int32))), .val (.int (own_val (own_hex v2 (0 : Int32))))] []) _
    refine XS.iload X32.here hx rfl (hb hby d_prog_17_method_3_15) rfl ?_
    show own_S p e below T32 (mkF m 17 #[.val (.ref x1), .val (.int (2 : Int32)), .val (.int (48 : Int32)), .val (.long v2), .second, .val (.int (48 : Int32)), .val (.int (own_hex v2 (0 : Int32))), .val (.int (own_val (own_hex v2 (0 : Int32))))] [(.int (48 : Int32))]) _
    refine XS.iloadN X32.here hx rfl (hb hby d_prog_17_method_3_17) rfl ?_
    show own_S p e below T32 (mkF m 18 #[.val (.ref x1), .val (.int (2 : Int32)), .val (.int (48 : Int32)), .val (.long v2), .second, .val (.int (48 : Int32)), .val (.int (own_hex v2 (0 : Int32))), .val (.int (own_val (own_hex v2 (0 : Int32))))] [(.int (48 : Int32)), (.int (48 : Int32))]) _
    refine XS.icmpYes X32.here hx rfl (pc0 := 18) (pc' := 104) rfl (hb hby d_prog_17_method_3_18) rfl (flt (by decide : ¬ ((48 : Int32) < (48 : Int32)))).2.1 (by decide) (by decide) ?_
    show own_S p e below T32 (mkF m 104 #[.val (.ref x1), .val (.int (2 : Int32)), .val (.int (48 : Int32)), .val (.long v2), .second, .val (.int (48 : Int32)), .val (.int (own_hex v2 (0 : Int32))), .val (.int (own_val (own_hex v2 (0 : Int32))))] []) _
    refine XS.lloadN X32.here hx rfl (hb hby d_prog_17_method_3_104) rfl ?_
    exact kt)
  obtain ⟨fs, hr, hrun, hended, hW, hsame⟩ := X32.leave (v := some (.long v2)) (fun h => by rw [Bd.returns] at h; cases h)
  refine ⟨_, _, hGl _ (kn34 _ (X32.lreturnOut hx Bd.returns (hb hby d_prog_17_method_3_105) hr)), hrun, hended, _, _, rfl, ?_, ⟨_, rfl⟩, hW, hsame.mono (by decide) (by decide)⟩
  show Q12_2 Z x1 t1 k1 v0 v1 v2 G1 G3 h0 n0 _ T32.heap _
  rw [e32]
  exact ⟨rfl, Nf0, rfl⟩

theorem d_prog_17_method_1_0 : decode prog_17_method_1_code 0 = .ok (.aload_n 0, 1) := by decide +kernel
theorem d_prog_17_method_1_1 : decode prog_17_method_1_code 1 = .ok (.invokespecial 1, 3) := by decide +kernel
theorem d_prog_17_method_1_4 : decode prog_17_method_1_code 4 = .ok (.aload_n 0, 1) := by decide +kernel
theorem d_prog_17_method_1_5 : decode prog_17_method_1_code 5 = .ok (.lload_n 1, 1) := by decide +kernel
theorem d_prog_17_method_1_6 : decode prog_17_method_1_code 6 = .ok (.putfield 7, 3) := by decide +kernel
theorem d_prog_17_method_1_9 : decode prog_17_method_1_code 9 = .ok (.aload_n 0, 1) := by decide +kernel
theorem d_prog_17_method_1_10 : decode prog_17_method_1_code 10 = .ok (.lload_n 3, 1) := by decide +kernel
theorem d_prog_17_method_1_11 : decode prog_17_method_1_code 11 = .ok (.putfield 13, 3) := by decide +kernel
theorem d_prog_17_method_1_14 : decode prog_17_method_1_code 14 = .ok (.aload_n 0, 1) := by decide +kernel
theorem d_prog_17_method_1_15 : decode prog_17_method_1_code 15 = .ok (.lload 5, 2) := by decide +kernel
theorem d_prog_17_method_1_17 : decode prog_17_method_1_code 17 = .ok (.putfield 16, 3) := by decide +kernel
theorem d_prog_17_method_1_20 : decode prog_17_method_1_code 20 = .ok (.return_, 1) := by decide +kernel
theorem ef_rm18 (m : MethodId) (x0 : Addr) (x1 : Int64) (x2 : Int64) (x3 : Int64) : entryFrame m #[(.ref x0), (.long x1), (.long x2), (.long x3)] 7 = mkF m 0 #[.val (.ref x0), .val (.long x1), .second, .val (.long x2), .second, .val (.long x3), .second] [] := by first | (simp [entryFrame, mkF, argsToLocals, Value.category]; done) | rfl
def Q18 (Z : State) (a1 : Addr) (q2 : Int64) (q3 : Int64) (q4 : Int64) (h0 : Heap) (n0 : Nat) (v : Option Value) (h : Heap) (L : List Loc) : Prop := v = none ∧ Fr n0 L ∧ Keep h0 h [a1] ∧ Exa Z h a1 "com/example/dual_delivery/dualdelivery/model/ReceiptHandle" ∧ Fld Z h a1 "com/example/dual_delivery/dualdelivery/model/ReceiptHandle" "messageId" "J" (.long q2) ∧ Fld Z h a1 "com/example/dual_delivery/dualdelivery/model/ReceiptHandle" "hiddenUntilMillis" "J" (.long q3) ∧ Fld Z h a1 "com/example/dual_delivery/dualdelivery/model/ReceiptHandle" "token" "J" (.long q4)
set_option maxRecDepth 65536 in
set_option maxHeartbeats 40000000 in
theorem rm18 (l : Launch) (Z : State) (a0 : Array Value) (hw : ∀ d ∈ tables_1, d.before a0 Z = true) (ws : List Jvm.Cond) (a1 : Addr) (q2 : Int64) (q3 : Int64) (q4 : Int64) (h0 : Heap) (n0 : Nat) (Z0 : n0 ≤ h0.size) (F0 : Fld Z h0 a1 "com/example/dual_delivery/dualdelivery/model/ReceiptHandle" "messageId" "J" (.long (0 : Int64))) (F1 : Fld Z h0 a1 "com/example/dual_delivery/dualdelivery/model/ReceiptHandle" "hiddenUntilMillis" "J" (.long (0 : Int64))) (F2 : Fld Z h0 a1 "com/example/dual_delivery/dualdelivery/model/ReceiptHandle" "token" "J" (.long (0 : Int64))) (E1 : Exa Z h0 a1 "com/example/dual_delivery/dualdelivery/model/ReceiptHandle") (g_a1 : n0 ≤ a1) :
    MetFree l (⟨"com/example/dual_delivery/dualdelivery/model/ReceiptHandle", "<init>", "(JJJ)V"⟩ : MethodName) (head1 (Jvm.Cond.code (⟨"com/example/dual_delivery/dualdelivery/model/ReceiptHandle", "<init>", "(JJJ)V"⟩ : MethodName) prog_17_method_1_code 7 none :: ws) ({ frames := 1, cells := 0, slots := 0, locals := 12 } : Room)) (fun a U => a = #[(.ref a1), (.long q2), (.long q3), (.long q4)] ∧ Z.Warmed39 U.vm ∧ U.heap = h0) (fun _ _ _ _ _ => True) (fun _ U o U' => ∃ v L, o = .returned v ∧ Q18 Z a1 q2 q3 q4 h0 n0 v U'.heap L ∧ FrameEnd U o U' L ({ frames := 1, cells := 0, slots := 0, locals := 12 } : Room).cells ({ frames := 1, cells := 0, slots := 0, locals := 12 } : Room).slots) := by
  refine MetFree.of_bodySF (plainFor_of_name pn_1) hisR ?_
  intro p e s m args below meth c s₁ Bd hml0 hP hK
  obtain ⟨rfl, hZ, hh⟩ := hP
  have hx := Bd.exec
  have hby := Bd.bytes
  have hml : c.maxLocals = 7 := hml0
  have hown : s.vm.findClass "com/example/dual_delivery/dualdelivery/model/ReceiptHandle" = some m.cls := findClass_of_methodNamed Bd.named
  have hnm := (name_of_methodNamed Bd.named Bd.method).1
  have X0 : Stand p l e ({ frames := 1, cells := 0, slots := 0, locals := 12 } : Room) s m #[(.ref a1), (.long q2), (.long q3), (.long q4)] below meth c s₁ [] 0 0 := Stand.of_body Bd
  have e0 : s₁.heap = h0 := by rw [← hh, Bd.state]; rfl
  have Nf0 := Fr.nil n0
  obtain ⟨Gl, hGl, kn0⟩ : ∃ Gl : State → Prop, (∀ t, Gl t → Steps p.tables e below (s₁.setTop (entryFrame m #[(.ref a1), (.long q2), (.long q3), (.long q4)] 7)) t) ∧ ∀ t, own_S p e below s₁ (mkF m 0 #[.val (.ref a1), .val (.long q2), .second, .val (.long q3), .second, .val (.long q4), .second] []) t → Gl t := ⟨fun t => Steps p.tables e below (s₁.setTop (entryFrame m #[(.ref a1), (.long q2), (.long q3), (.long q4)] 7)) t, fun _ k => k, fun t k => castTop (ef_rm18 m a1 q2 q3 q4) k⟩
  have kn1 : ∀ t, own_S p e below s₁ (mkF m 1 #[.val (.ref a1), .val (.long q2), .second, .val (.long q3), .second, .val (.long q4), .second] [(.ref a1)]) t → Gl t := fun t kt => kn0 t (by
    show own_S p e below s₁ (mkF m 0 #[.val (.ref a1), .val (.long q2), .second, .val (.long q3), .second, .val (.long q4), .second] []) _
    refine XS.aloadN X0.here hx rfl (hb hby d_prog_17_method_1_0) rfl rfl ?_
    exact kt)
  obtain ⟨T2, X2, e2, st2⟩ := initO X0 hx hZ hown (hw _ (List.mem_of_getElem? (i := 82) rfl)) (hw _ (List.mem_of_getElem? (i := 20) rfl)) (hw _ (List.mem_of_getElem? (i := 21) rfl)) e0 (g := (mkF m 1 #[.val (.ref a1), .val (.long q2), .second, .val (.long q3), .second, .val (.long q4), .second] [(.ref a1)])) rfl (by rw [hml]; rfl) rfl (hb hby d_prog_17_method_1_1) (by decide) (W := 0) (by show 2 * 0 + _ ≤ _; exact Nat.le_of_eq rfl) (by decide)
  have kn3 : ∀ t, own_S p e below T2 (mkF m 4 #[.val (.ref a1), .val (.long q2), .second, .val (.long q3), .second, .val (.long q4), .second] []) t → Gl t := fun t kt => kn1 t (st2 _ kt)
  have kn4 : ∀ t, own_S p e below T2 (mkF m 6 #[.val (.ref a1), .val (.long q2), .second, .val (.long q3), .second, .val (.long q4), .second] [(.long q2), (.ref a1)]) t → Gl t := fun t kt => kn3 t (by
    show own_S p e below T2 (mkF m 4 #[.val (.ref a1), .val (.long q2), .second, .val (.long q3), .second, .val (.long q4), .second] []) _
    refine XS.aloadN X2.here hx rfl (hb hby d_prog_17_method_1_4) rfl rfl ?_
    show own_S p e below T2 (mkF m 5 #[.val (.ref a1), .val (.long q2), .second, .val (.long q3), .second, .val (.long q4), .second] [(.ref a1)]) _
    refine XS.lloadN X2.here hx rfl (hb hby d_prog_17_method_1_5) rfl ?_
    exact kt)
  obtain ⟨T5, h5, X5, e5, W5, st5⟩ := putF X2 hx hZ hown (host := "") (Or.inl (hw _ (List.mem_of_getElem? (i := 83) rfl))) Via.refl e2 F0 E1 (Or.inr ⟨(hw _ (List.mem_of_getElem? (i := 84) rfl)), rfl, hnm⟩) (hw _ (List.mem_of_getElem? (i := 53) rfl)) (ty := .long) (by decide) rfl rfl (g := (mkF m 6 #[.val (.ref a1), .val (.long q2), .second, .val (.long q3), .second, .val (.long q4), .second] [(.long q2), (.ref a1)])) rfl rfl (hb hby d_prog_17_method_1_6)
  have Z6 : n0 ≤ h5.size := Nat.le_trans Z0 (Keep.of_wr W5).1
  have K7 : Keep h0 h5 [a1] := (Keep.refl h0 [a1]).wr W5 (Or.inl (List.mem_of_getElem? (i := 0) rfl))
  have Fw5 := F0.same W5
  have Nf8 := Fr.snoc X5 Nf0 g_a1
  have kn9 : ∀ t, own_S p e below T5 (mkF m 9 #[.val (.ref a1), .val (.long q2), .second, .val (.long q3), .second, .val (.long q4), .second] []) t → Gl t := fun t kt => kn4 t (st5 _ kt)
  have kn10 : ∀ t, own_S p e below T5 (mkF m 11 #[.val (.ref a1), .val (.long q2), .second, .val (.long q3), .second, .val (.long q4), .second] [(.long q3), (.ref a1)]) t → Gl t := fun t kt => kn9 t (by
    show own_S p e below T5 (mkF m 9 #[.val (.ref a1), .val (.long q2), .second, .val (.long q3), .second, .val (.long q4), .second] []) _
    refine XS.aloadN X5.here hx rfl (hb hby d_prog_17_method_1_9) rfl rfl ?_
    show own_S p e below T5 (mkF m 10 #[.val (.ref a1), .val (.long q2), .second, .val (.long q3), .second, .val (.long q4), .second] [(.ref a1)]) _
    refine XS.lloadN X5.here hx rfl (hb hby d_prog_17_method_1_10) rfl ?_
    exact kt)
  have f11 := (F1.other W5 (Or.inr (slot_ne (Or.inr (hw _ (List.mem_of_getElem? (i := 86) rfl))) (Or.inr (hw _ (List.mem_of_getElem? (i := 84) rfl))) (by decide) (t := .long) (t' := .long) (by decide) (by decide))))
  have f12 := (E1.wr W5)
  obtain ⟨T13, h13, X13, e13, W13, st13⟩ := putF X5 hx hZ hown (host := "") (Or.inl (hw _ (List.mem_of_getElem? (i := 85) rfl))) Via.refl e5 f11 f12 (Or.inr ⟨(hw _ (List.mem_of_getElem? (i := 86) rfl)), rfl, hnm⟩) (hw _ (List.mem_of_getElem? (i := 53) rfl)) (ty := .long) (by decide) rfl rfl (g := (mkF m 11 #[.val (.ref a1), .val (.long q2), .second, .val (.long q3), .second, .val (.long q4), .second] [(.long q3), (.ref a1)])) rfl rfl (hb hby d_prog_17_method_1_11)
  have Z14 : n0 ≤ h13.size := Nat.le_trans Z6 (Keep.of_wr W13).1
  have K15 : Keep h0 h13 [a1] := K7.wr W13 (Or.inl (List.mem_of_getElem? (i := 0) rfl))
  have Fw13 := f11.same W13
  have Nf16 := Fr.snoc X13 Nf8 g_a1
  have kn17 : ∀ t, own_S p e below T13 (mkF m 14 #[.val (.ref a1), .val (.long q2), .second, .val (.long q3), .second, .val (.long q4), .second] []) t → Gl t := fun t kt => kn10 t (st13 _ kt)
  have kn18 : ∀ t, own_S p e below T13 (mkF m 17 #[.val (.ref a1), .val (.long q2), .second, .val (.long q3), .second, .val (.long q4), .second] [(.long q4), (.ref a1)]) t → Gl t := fun t kt => kn17 t (by
    show own_S p e below T13 (mkF m 14 #[.val (.ref a1), .val (.long q2), .second, .val (.long q3), .second, .val (.long q4), .second] []) _
    refine XS.aloadN X13.here hx rfl (hb hby d_prog_17_method_1_14) rfl rfl ?_
    show own_S p e below T13 (mkF m 15 #[.val (.ref a1), .val (.long q2), .second, .val (.long q3), .second, .val (.long q4), .second] [(.ref a1)]) _
    refine XS.lload X13.here hx rfl (hb hby d_prog_17_method_1_15) rfl ?_
    exact kt)
  have f19 := ((F2.other W5 (Or.inr (slot_ne (Or.inr (hw _ (List.mem_of_getElem? (i := 88) rfl))) (Or.inr (hw _ (List.mem_of_getElem? (i := 84) rfl))) (by decide) (t := .long) (t' := .long) (by decide) (by decide)))).other W13 (Or.inr (slot_ne (Or.inr (hw _ (List.mem_of_getElem? (i := 88) rfl))) (Or.inr (hw _ (List.mem_of_getElem? (i := 86) rfl))) (by decide) (t := .long) (t' := .long) (by decide) (by decide))))
  have f20 := (f12.wr W13)
  obtain ⟨T21, h21, X21, e21, W21, st21⟩ := putF X13 hx hZ hown (host := "") (Or.inl (hw _ (List.mem_of_getElem? (i := 87) rfl))) Via.refl e13 f19 f20 (Or.inr ⟨(hw _ (List.mem_of_getElem? (i := 88) rfl)), rfl, hnm⟩) (hw _ (List.mem_of_getElem? (i := 53) rfl)) (ty := .long) (by decide) rfl rfl (g := (mkF m 17 #[.val (.ref a1), .val (.long q2), .second, .val (.long q3), .second, .val (.long q4), .second] [(.long q4), (.ref a1)])) rfl rfl (hb hby d_prog_17_method_1_17)
  have Z22 : n0 ≤ h21.size := Nat.le_trans Z14 (Keep.of_wr W21).1
  have K23 : Keep h0 h21 [a1] := K15.wr W21 (Or.inl (List.mem_of_getElem? (i := 0) rfl))
  have Fw21 := f19.same W21
  have Nf24 := Fr.snoc X21 Nf16 g_a1
  have kn25 : ∀ t, own_S p e below T21 (mkF m 20 #[.val (.ref a1), .val (.long q2), .second, .val (.long q3), .second, .val (.long q4), .second] []) t → Gl t := fun t kt => kn18 t (st21 _ kt)
  obtain ⟨fs, hr, hrun, hended, hW, hsame⟩ := X21.leave (v := none) (fun _ => rfl)
  refine ⟨_, _, hGl _ (kn25 _ (X21.returnOut hx Bd.returns (hb hby d_prog_17_method_1_20) hr)), hrun, hended, _, _, rfl, ?_, ⟨_, rfl⟩, hW, hsame.mono (by decide) (by decide)⟩
  show Q18 Z a1 q2 q3 q4 h0 n0 _ T21.heap _
  rw [e21]
  have f26 := (f20.wr W21)
  have f27 := ((Fw5.other W13 (Or.inr (slot_ne (Or.inr (hw _ (List.mem_of_getElem? (i := 84) rfl))) (Or.inr (hw _ (List.mem_of_getElem? (i := 86) rfl))) (by decide) (t := .long) (t' := .long) (by decide) (by decide)))).other W21 (Or.inr (slot_ne (Or.inr (hw _ (List.mem_of_getElem? (i := 84) rfl))) (Or.inr (hw _ (List.mem_of_getElem? (i := 88) rfl))) (by decide) (t := .long) (t' := .long) (by decide) (by decide))))
  have f28 := (Fw13.other W21 (Or.inr (slot_ne (Or.inr (hw _ (List.mem_of_getElem? (i := 86) rfl))) (Or.inr (hw _ (List.mem_of_getElem? (i := 88) rfl))) (by decide) (t := .long) (t' := .long) (by decide) (by decide))))
  exact ⟨rfl, Nf24, K23, f26, f27, f28, Fw21⟩

theorem d_prog_17_method_4_0 : decode prog_17_method_4_code 0 = .ok (.aload_n 0, 1) := by decide +kernel
theorem d_prog_17_method_4_1 : decode prog_17_method_4_code 1 = .ok (.getfield 7, 3) := by decide +kernel
theorem d_prog_17_method_4_4 : decode prog_17_method_4_code 4 = .ok (.lreturn, 1) := by decide +kernel
theorem ef_rm19 (m : MethodId) (x0 : Addr) : entryFrame m #[(.ref x0)] 1 = mkF m 0 #[.val (.ref x0)] [] := by first | (simp [entryFrame, mkF, argsToLocals, Value.category]; done) | rfl
def Q19 (Z : State) (a1 : Addr) (w1 : Int64) (h0 : Heap) (n0 : Nat) (v : Option Value) (h : Heap) (L : List Loc) : Prop := v = some (.long w1) ∧ Fr n0 L ∧ h = h0
set_option maxRecDepth 65536 in
set_option maxHeartbeats 40000000 in
theorem rm19 (l : Launch) (Z : State) (a0 : Array Value) (hw : ∀ d ∈ tables_1, d.before a0 Z = true) (ws : List Jvm.Cond) (a1 : Addr) (w1 : Int64) (h0 : Heap) (n0 : Nat) (Z0 : n0 ≤ h0.size) (F1 : Fld Z h0 a1 "com/example/dual_delivery/dualdelivery/model/ReceiptHandle" "messageId" "J" (.long w1)) :
    MetFree l (⟨"com/example/dual_delivery/dualdelivery/model/ReceiptHandle", "getMessageId", "()J"⟩ : MethodName) (head1 (Jvm.Cond.code (⟨"com/example/dual_delivery/dualdelivery/model/ReceiptHandle", "getMessageId", "()J"⟩ : MethodName) prog_17_method_4_code 1 (some .long) :: ws) ({ frames := 0, cells := 0, slots := 0, locals := 0 } : Room)) (fun a U => a = #[(.ref a1)] ∧ Z.Warmed39 U.vm ∧ U.heap = h0) (fun _ _ _ _ _ => True) (fun _ U o U' => ∃ v L, o = .returned v ∧ Q19 Z a1 w1 h0 n0 v U'.heap L ∧ FrameEnd U o U' L ({ frames := 0, cells := 0, slots := 0, locals := 0 } : Room).cells ({ frames := 0, cells := 0, slots := 0, locals := 0 } : Room).slots) := by
  refine MetFree.of_bodySF (plainFor_of_name pn_1) hisR ?_
  intro p e s m args below meth c s₁ Bd hml0 hP hK
  obtain ⟨rfl, hZ, hh⟩ := hP
  have hx := Bd.exec
  have hby := Bd.bytes
  have hml : c.maxLocals = 1 := hml0
  have hown : s.vm.findClass "com/example/dual_delivery/dualdelivery/model/ReceiptHandle" = some m.cls := findClass_of_methodNamed Bd.named
  have hnm := (name_of_methodNamed Bd.named Bd.method).1
  have X0 : Stand p l e ({ frames := 0, cells := 0, slots := 0, locals := 0 } : Room) s m #[(.ref a1)] below meth c s₁ [] 0 0 := Stand.of_body Bd
  have e0 : s₁.heap = h0 := by rw [← hh, Bd.state]; rfl
  have Nf0 := Fr.nil n0
  obtain ⟨Gl, hGl, kn0⟩ : ∃ Gl : State → Prop, (∀ t, Gl t → Steps p.tables e below (s₁.setTop (entryFrame m #[(.ref a1)] 1)) t) ∧ ∀ t, own_S p e below s₁ (mkF m 0 #[.val (.ref a1)] []) t → Gl t := ⟨fun t => Steps p.tables e below (s₁.setTop (entryFrame m #[(.ref a1)] 1)) t, fun _ k => k, fun t k => castTop (ef_rm19 m a1) k⟩
  have kn1 : ∀ t, own_S p e below s₁ (mkF m 1 #[.val (.ref a1)] [(.ref a1)]) t → Gl t := fun t kt => kn0 t (by
    show own_S p e below s₁ (mkF m 0 #[.val (.ref a1)] []) _
    refine XS.aloadN X0.here hx rfl (hb hby d_prog_17_method_4_0) rfl rfl ?_
    exact kt)
  obtain ⟨T2, X2, e2, st2⟩ := getF X0 hx hZ hown (host := "") (Or.inl (hw _ (List.mem_of_getElem? (i := 83) rfl))) Via.refl e0 F1 (g := (mkF m 1 #[.val (.ref a1)] [(.ref a1)])) rfl rfl (hb hby d_prog_17_method_4_1)
  have kn3 : ∀ t, own_S p e below T2 (mkF m 4 #[.val (.ref a1)] [(.long w1)]) t → Gl t := fun t kt => kn1 t (st2 _ kt)
  obtain ⟨fs, hr, hrun, hended, hW, hsame⟩ := X2.leave (v := some (.long w1)) (fun h => by rw [Bd.returns] at h; cases h)
  refine ⟨_, _, hGl _ (kn3 _ (X2.lreturnOut hx Bd.returns (hb hby d_prog_17_method_4_4) hr)), hrun, hended, _, _, rfl, ?_, ⟨_, rfl⟩, hW, hsame.mono (by decide) (by decide)⟩
  show Q19 Z a1 w1 h0 n0 _ T2.heap _
  rw [e2]
  exact ⟨rfl, Nf0, rfl⟩

theorem d_prog_17_method_5_0 : decode prog_17_method_5_code 0 = .ok (.aload_n 0, 1) := by decide +kernel
theorem d_prog_17_method_5_1 : decode prog_17_method_5_code 1 = .ok (.getfield 13, 3) := by decide +kernel
theorem d_prog_17_method_5_4 : decode prog_17_method_5_code 4 = .ok (.lreturn, 1) := by decide +kernel
theorem ef_rm20 (m : MethodId) (x0 : Addr) : entryFrame m #[(.ref x0)] 1 = mkF m 0 #[.val (.ref x0)] [] := by first | (simp [entryFrame, mkF, argsToLocals, Value.category]; done) | rfl
def Q20 (Z : State) (a1 : Addr) (w1 : Int64) (h0 : Heap) (n0 : Nat) (v : Option Value) (h : Heap) (L : List Loc) : Prop := v = some (.long w1) ∧ Fr n0 L ∧ h = h0
set_option maxRecDepth 65536 in
set_option maxHeartbeats 40000000 in
theorem rm20 (l : Launch) (Z : State) (a0 : Array Value) (hw : ∀ d ∈ tables_1, d.before a0 Z = true) (ws : List Jvm.Cond) (a1 : Addr) (w1 : Int64) (h0 : Heap) (n0 : Nat) (Z0 : n0 ≤ h0.size) (F1 : Fld Z h0 a1 "com/example/dual_delivery/dualdelivery/model/ReceiptHandle" "hiddenUntilMillis" "J" (.long w1)) :
    MetFree l (⟨"com/example/dual_delivery/dualdelivery/model/ReceiptHandle", "getHiddenUntilMillis", "()J"⟩ : MethodName) (head1 (Jvm.Cond.code (⟨"com/example/dual_delivery/dualdelivery/model/ReceiptHandle", "getHiddenUntilMillis", "()J"⟩ : MethodName) prog_17_method_5_code 1 (some .long) :: ws) ({ frames := 0, cells := 0, slots := 0, locals := 0 } : Room)) (fun a U => a = #[(.ref a1)] ∧ Z.Warmed39 U.vm ∧ U.heap = h0) (fun _ _ _ _ _ => True) (fun _ U o U' => ∃ v L, o = .returned v ∧ Q20 Z a1 w1 h0 n0 v U'.heap L ∧ FrameEnd U o U' L ({ frames := 0, cells := 0, slots := 0, locals := 0 } : Room).cells ({ frames := 0, cells := 0, slots := 0, locals := 0 } : Room).slots) := by
  refine MetFree.of_bodySF (plainFor_of_name pn_1) hisR ?_
  intro p e s m args below meth c s₁ Bd hml0 hP hK
  obtain ⟨rfl, hZ, hh⟩ := hP
  have hx := Bd.exec
  have hby := Bd.bytes
  have hml : c.maxLocals = 1 := hml0
  have hown : s.vm.findClass "com/example/dual_delivery/dualdelivery/model/ReceiptHandle" = some m.cls := findClass_of_methodNamed Bd.named
  have hnm := (name_of_methodNamed Bd.named Bd.method).1
  have X0 : Stand p l e ({ frames := 0, cells := 0, slots := 0, locals := 0 } : Room) s m #[(.ref a1)] below meth c s₁ [] 0 0 := Stand.of_body Bd
  have e0 : s₁.heap = h0 := by rw [← hh, Bd.state]; rfl
  have Nf0 := Fr.nil n0
  obtain ⟨Gl, hGl, kn0⟩ : ∃ Gl : State → Prop, (∀ t, Gl t → Steps p.tables e below (s₁.setTop (entryFrame m #[(.ref a1)] 1)) t) ∧ ∀ t, own_S p e below s₁ (mkF m 0 #[.val (.ref a1)] []) t → Gl t := ⟨fun t => Steps p.tables e below (s₁.setTop (entryFrame m #[(.ref a1)] 1)) t, fun _ k => k, fun t k => castTop (ef_rm20 m a1) k⟩
  have kn1 : ∀ t, own_S p e below s₁ (mkF m 1 #[.val (.ref a1)] [(.ref a1)]) t → Gl t := fun t kt => kn0 t (by
    show own_S p e below s₁ (mkF m 0 #[.val (.ref a1)] []) _
    refine XS.aloadN X0.here hx rfl (hb hby d_prog_17_method_5_0) rfl rfl ?_
    exact kt)
  obtain ⟨T2, X2, e2, st2⟩ := getF X0 hx hZ hown (host := "") (Or.inl (hw _ (List.mem_of_getElem? (i := 85) rfl))) Via.refl e0 F1 (g := (mkF m 1 #[.val (.ref a1)] [(.ref a1)])) rfl rfl (hb hby d_prog_17_method_5_1)
  have kn3 : ∀ t, own_S p e below T2 (mkF m 4 #[.val (.ref a1)] [(.long w1)]) t → Gl t := fun t kt => kn1 t (st2 _ kt)
  obtain ⟨fs, hr, hrun, hended, hW, hsame⟩ := X2.leave (v := some (.long w1)) (fun h => by rw [Bd.returns] at h; cases h)
  refine ⟨_, _, hGl _ (kn3 _ (X2.lreturnOut hx Bd.returns (hb hby d_prog_17_method_5_4) hr)), hrun, hended, _, _, rfl, ?_, ⟨_, rfl⟩, hW, hsame.mono (by decide) (by decide)⟩
  show Q20 Z a1 w1 h0 n0 _ T2.heap _
  rw [e2]
  exact ⟨rfl, Nf0, rfl⟩

theorem d_prog_17_method_6_0 : decode prog_17_method_6_code 0 = .ok (.aload_n 0, 1) := by decide +kernel
theorem d_prog_17_method_6_1 : decode prog_17_method_6_code 1 = .ok (.getfield 16, 3) := by decide +kernel
theorem d_prog_17_method_6_4 : decode prog_17_method_6_code 4 = .ok (.lreturn, 1) := by decide +kernel
theorem ef_rm21 (m : MethodId) (x0 : Addr) : entryFrame m #[(.ref x0)] 1 = mkF m 0 #[.val (.ref x0)] [] := by first | (simp [entryFrame, mkF, argsToLocals, Value.category]; done) | rfl
def Q21 (Z : State) (a1 : Addr) (w1 : Int64) (h0 : Heap) (n0 : Nat) (v : Option Value) (h : Heap) (L : List Loc) : Prop := v = some (.long w1) ∧ Fr n0 L ∧ h = h0
set_option maxRecDepth 65536 in
set_option maxHeartbeats 40000000 in
theorem rm21 (l : Launch) (Z : State) (a0 : Array Value) (hw : ∀ d ∈ tables_1, d.before a0 Z = true) (ws : List Jvm.Cond) (a1 : Addr) (w1 : Int64) (h0 : Heap) (n0 : Nat) (Z0 : n0 ≤ h0.size) (F1 : Fld Z h0 a1 "com/example/dual_delivery/dualdelivery/model/ReceiptHandle" "token" "J" (.long w1)) :
    MetFree l (⟨"com/example/dual_delivery/dualdelivery/model/ReceiptHandle", "getToken", "()J"⟩ : MethodName) (head1 (Jvm.Cond.code (⟨"com/example/dual_delivery/dualdelivery/model/ReceiptHandle", "getToken", "()J"⟩ : MethodName) prog_17_method_6_code 1 (some .long) :: ws) ({ frames := 0, cells := 0, slots := 0, locals := 0 } : Room)) (fun a U => a = #[(.ref a1)] ∧ Z.Warmed39 U.vm ∧ U.heap = h0) (fun _ _ _ _ _ => True) (fun _ U o U' => ∃ v L, o = .returned v ∧ Q21 Z a1 w1 h0 n0 v U'.heap L ∧ FrameEnd U o U' L ({ frames := 0, cells := 0, slots := 0, locals := 0 } : Room).cells ({ frames := 0, cells := 0, slots := 0, locals := 0 } : Room).slots) := by
  refine MetFree.of_bodySF (plainFor_of_name pn_1) hisR ?_
  intro p e s m args below meth c s₁ Bd hml0 hP hK
  obtain ⟨rfl, hZ, hh⟩ := hP
  have hx := Bd.exec
  have hby := Bd.bytes
  have hml : c.maxLocals = 1 := hml0
  have hown : s.vm.findClass "com/example/dual_delivery/dualdelivery/model/ReceiptHandle" = some m.cls := findClass_of_methodNamed Bd.named
  have hnm := (name_of_methodNamed Bd.named Bd.method).1
  have X0 : Stand p l e ({ frames := 0, cells := 0, slots := 0, locals := 0 } : Room) s m #[(.ref a1)] below meth c s₁ [] 0 0 := Stand.of_body Bd
  have e0 : s₁.heap = h0 := by rw [← hh, Bd.state]; rfl
  have Nf0 := Fr.nil n0
  obtain ⟨Gl, hGl, kn0⟩ : ∃ Gl : State → Prop, (∀ t, Gl t → Steps p.tables e below (s₁.setTop (entryFrame m #[(.ref a1)] 1)) t) ∧ ∀ t, own_S p e below s₁ (mkF m 0 #[.val (.ref a1)] []) t → Gl t := ⟨fun t => Steps p.tables e below (s₁.setTop (entryFrame m #[(.ref a1)] 1)) t, fun _ k => k, fun t k => castTop (ef_rm21 m a1) k⟩
  have kn1 : ∀ t, own_S p e below s₁ (mkF m 1 #[.val (.ref a1)] [(.ref a1)]) t → Gl t := fun t kt => kn0 t (by
    show own_S p e below s₁ (mkF m 0 #[.val (.ref a1)] []) _
    refine XS.aloadN X0.here hx rfl (hb hby d_prog_17_method_6_0) rfl rfl ?_
    exact kt)
  obtain ⟨T2, X2, e2, st2⟩ := getF X0 hx hZ hown (host := "") (Or.inl (hw _ (List.mem_of_getElem? (i := 87) rfl))) Via.refl e0 F1 (g := (mkF m 1 #[.val (.ref a1)] [(.ref a1)])) rfl rfl (hb hby d_prog_17_method_6_1)
  have kn3 : ∀ t, own_S p e below T2 (mkF m 4 #[.val (.ref a1)] [(.long w1)]) t → Gl t := fun t kt => kn1 t (st2 _ kt)
  obtain ⟨fs, hr, hrun, hended, hW, hsame⟩ := X2.leave (v := some (.long w1)) (fun h => by rw [Bd.returns] at h; cases h)
  refine ⟨_, _, hGl _ (kn3 _ (X2.lreturnOut hx Bd.returns (hb hby d_prog_17_method_6_4) hr)), hrun, hended, _, _, rfl, ?_, ⟨_, rfl⟩, hW, hsame.mono (by decide) (by decide)⟩
  show Q21 Z a1 w1 h0 n0 _ T2.heap _
  rw [e2]
  exact ⟨rfl, Nf0, rfl⟩

theorem d_prog_17_method_2_0 : decode prog_17_method_2_code 0 = .ok (.aload_n 0, 1) := by decide +kernel
theorem d_prog_17_method_2_1 : decode prog_17_method_2_code 1 = .ok (.invokevirtual 19, 3) := by decide +kernel
theorem d_prog_17_method_2_4 : decode prog_17_method_2_code 4 = .ok (.bipush 48, 2) := by decide +kernel
theorem d_prog_17_method_2_6 : decode prog_17_method_2_code 6 = .ok (.if_icmp .eq 20, 3) := by decide +kernel
theorem d_prog_17_method_2_26 : decode prog_17_method_2_code 26 = .ok (.new 8, 3) := by decide +kernel
theorem d_prog_17_method_2_29 : decode prog_17_method_2_code 29 = .ok (.dup, 1) := by decide +kernel
theorem d_prog_17_method_2_30 : decode prog_17_method_2_code 30 = .ok (.aload_n 0, 1) := by decide +kernel
theorem d_prog_17_method_2_31 : decode prog_17_method_2_code 31 = .ok (.iconst 0, 1) := by decide +kernel
theorem d_prog_17_method_2_32 : decode prog_17_method_2_code 32 = .ok (.invokestatic 34, 3) := by decide +kernel
theorem d_prog_17_method_2_35 : decode prog_17_method_2_code 35 = .ok (.aload_n 0, 1) := by decide +kernel
theorem d_prog_17_method_2_36 : decode prog_17_method_2_code 36 = .ok (.iconst 1, 1) := by decide +kernel
theorem d_prog_17_method_2_37 : decode prog_17_method_2_code 37 = .ok (.invokestatic 34, 3) := by decide +kernel
theorem d_prog_17_method_2_40 : decode prog_17_method_2_code 40 = .ok (.aload_n 0, 1) := by decide +kernel
theorem d_prog_17_method_2_41 : decode prog_17_method_2_code 41 = .ok (.iconst 2, 1) := by decide +kernel
theorem d_prog_17_method_2_42 : decode prog_17_method_2_code 42 = .ok (.invokestatic 34, 3) := by decide +kernel
theorem d_prog_17_method_2_45 : decode prog_17_method_2_code 45 = .ok (.invokespecial 38, 3) := by decide +kernel
theorem d_prog_17_method_2_48 : decode prog_17_method_2_code 48 = .ok (.areturn, 1) := by decide +kernel
theorem pd_2 : parseMethodDescriptor "()I" = some ⟨[], some .int⟩ := by decide +kernel
theorem pd_3 : parseMethodDescriptor "(Ljava/lang/String;I)J" = some ⟨[(.object "java/lang/String"), .int], some .long⟩ := by decide +kernel
theorem pd_4 : parseMethodDescriptor "(JJJ)V" = some ⟨[.long, .long, .long], none⟩ := by decide +kernel
theorem ef_rm9 (m : MethodId) (x0 : Addr) : entryFrame m #[(.ref x0)] 1 = mkF m 0 #[.val (.ref x0)] [] := by first | (simp [entryFrame, mkF, argsToLocals, Value.category]; done) | rfl
def Q9 (Z : State) (x1 : Addr) (t1 : Addr) (k1 : ClassId) (v0 : Int64) (v1 : Int64) (v2 : Int64) (G1 : Int32) (G3 : Value) (h0 : Heap) (n0 : Nat) (v : Option Value) (h : Heap) (L : List Loc) : Prop := ∃ b : Addr, v = some (.ref b) ∧ Fr n0 L ∧ n0 ≤ b ∧ Keep h0 h [] ∧ Exa Z h b "com/example/dual_delivery/dualdelivery/model/ReceiptHandle" ∧ Fld Z h b "com/example/dual_delivery/dualdelivery/model/ReceiptHandle" "messageId" "J" (.long v0) ∧ Fld Z h b "com/example/dual_delivery/dualdelivery/model/ReceiptHandle" "hiddenUntilMillis" "J" (.long v1) ∧ Fld Z h b "com/example/dual_delivery/dualdelivery/model/ReceiptHandle" "token" "J" (.long v2)
set_option maxRecDepth 65536 in
set_option maxHeartbeats 40000000 in
theorem rm9 (l : Launch) (Z : State) (a0 : Array Value) (hw : ∀ d ∈ tables_1, d.before a0 Z = true) (ws : List Jvm.Cond) (x1 : Addr) (t1 : Addr) (k1 : ClassId) (v0 : Int64) (v1 : Int64) (v2 : Int64) (G1 : Int32) (G3 : Value) (h0 : Heap) (n0 : Nat) (Z0 : n0 ≤ h0.size) (E_x1 : Exa Z h0 x1 "java/lang/String") (V_x1 : Fld Z h0 x1 "java/lang/String" "value" "[B" (.ref t1)) (C_x1 : Fld Z h0 x1 "java/lang/String" "coder" "B" (.int (0 : Int32))) (K_x1 : Arv Z h0 t1 k1 .byte (48 : Int32) (((own_cs v0 v1 v2).map (fun c => c.toInt8.toInt32)).map Value.int) (.int (0 : Int32))) (hp_x1 : ∀ c ∈ (own_cs v0 v1 v2), ¬ c < 0 ∧ ¬ (255 : Int32) < c) (O0 : Old Z n0 h0) (O2 : Sta Z Z.heap "java/lang/String" "COMPACT_STRINGS" "Z" (.int G1)) (P5 : ¬ (G1 = (0 : Int32))) (O4 : Sta Z Z.heap "jdk/internal/util/Preconditions" "SIOOBE_FORMATTER" "Ljava/util/function/BiFunction;" G3) (rG3 : G3.isRef = true) :
    MetFree l (⟨"com/example/dual_delivery/dualdelivery/model/ReceiptHandle", "parse", "(Ljava/lang/String;)Lcom/example/dual_delivery/dualdelivery/model/ReceiptHandle;"⟩ : MethodName) (head1 (Jvm.Cond.code (⟨"com/example/dual_delivery/dualdelivery/model/ReceiptHandle", "parse", "(Ljava/lang/String;)Lcom/example/dual_delivery/dualdelivery/model/ReceiptHandle;"⟩ : MethodName) prog_17_method_2_code 1 (some (.object "com/example/dual_delivery/dualdelivery/model/ReceiptHandle")) :: ws) ({ frames := 5, cells := 1, slots := 3, locals := 79 } : Room)) (fun a U => a = #[(.ref x1)] ∧ Z.Warmed39 U.vm ∧ U.heap = h0) (fun _ _ _ _ _ => True) (fun _ U o U' => ∃ v L, o = .returned v ∧ Q9 Z x1 t1 k1 v0 v1 v2 G1 G3 h0 n0 v U'.heap L ∧ FrameEnd U o U' L ({ frames := 5, cells := 1, slots := 3, locals := 79 } : Room).cells ({ frames := 5, cells := 1, slots := 3, locals := 79 } : Room).slots) := by
  refine MetFree.of_bodySF (plainFor_of_name pn_1) hisR ?_
  intro p e s m args below meth c s₁ Bd hml0 hP hK
  obtain ⟨rfl, hZ, hh⟩ := hP
  have hx := Bd.exec
  have hby := Bd.bytes
  have hml : c.maxLocals = 1 := hml0
  have hown : s.vm.findClass "com/example/dual_delivery/dualdelivery/model/ReceiptHandle" = some m.cls := findClass_of_methodNamed Bd.named
  have hnm := (name_of_methodNamed Bd.named Bd.method).1
  have X0 : Stand p l e ({ frames := 5, cells := 1, slots := 3, locals := 79 } : Room) s m #[(.ref x1)] below meth c s₁ [] 0 0 := Stand.of_body Bd
  have e0 : s₁.heap = h0 := by rw [← hh, Bd.state]; rfl
  have Nf0 := Fr.nil n0
  obtain ⟨Gl, hGl, kn0⟩ : ∃ Gl : State → Prop, (∀ t, Gl t → Steps p.tables e below (s₁.setTop (entryFrame m #[(.ref x1)] 1)) t) ∧ ∀ t, own_S p e below s₁ (mkF m 0 #[.val (.ref x1)] []) t → Gl t := ⟨fun t => Steps p.tables e below (s₁.setTop (entryFrame m #[(.ref x1)] 1)) t, fun _ k => k, fun t k => castTop (ef_rm9 m x1) k⟩
  have kn1 : ∀ t, own_S p e below s₁ (mkF m 1 #[.val (.ref x1)] [(.ref x1)]) t → Gl t := fun t kt => kn0 t (by
    show own_S p e below s₁ (mkF m 0 #[.val (.ref x1)] []) _
    refine XS.aloadN X0.here hx rfl (hb hby d_prog_17_method_2_0) rfl rfl ?_
    exact kt)
  have hln : ∀ d ∈ StrChars.Road.wordsLen, d.before a0 Z = true := fun d hd => hw d ((by decide +kernel : ∀ d ∈ StrChars.Road.wordsLen, d ∈ tables_1) d hd)
  have hcd_x1 : StrChars.Road.CodA (own_cs v0 v1 v2) 0 (48 : Int32) (((own_cs v0 v1 v2).map (fun c => c.toInt8.toInt32)).map Value.int) := StrChars.Road.codOf (n := 48) rfl (fun x hx => (hp_x1 x hx).2)
  have hbd_x1 : ∀ x ∈ (own_cs v0 v1 v2), ¬ x < 0 ∧ ¬ (65535 : Int32) < x := own_up _ hp_x1
  obtain ⟨cq2, kq2, qa2, qb2, qc2⟩ := isOf hZ e0 E_x1
  obtain ⟨_, _, ⟨T2, L2, cc2, ss2⟩, -, X2, ⟨Lc2, hQ2, l2, y2, z2⟩, st2⟩ := X0.virtualBack hx (y := (⟨"java/lang/String", "length", "()I"⟩ : MethodName)) (z := (⟨"java/lang/String", "length", "()I"⟩ : MethodName)) hown (mvT hZ (hw _ (List.mem_of_getElem? (i := 42) rfl))) (mvT hZ (hw _ (List.mem_of_getElem? (i := 43) rfl))) (notFace_of_selects (args := #[]) (mvT hZ (hw _ (List.mem_of_getElem? (i := 45) rfl)))) (mvT hZ (hw _ (List.mem_of_getElem? (i := 45) rfl))) (mvT hZ (hw _ (List.mem_of_getElem? (i := 44) rfl))) (by decide) (StrChars.Road.lenW (W := 0) hZ hln (kI := 4) (hw _ (List.mem_of_getElem? (i := 10) rfl)) E_x1 V_x1 C_x1 K_x1 hcd_x1 hbd_x1 (O2.ext O0.2) P5 (Nat.le_of_ble_eq_true rfl) (by decide) (by decide)) qa2 qc2 (g := (mkF m 1 #[.val (.ref x1)] [(.ref x1)])) rfl (by rw [hml]; rfl) (Steps.refl _) (argsL := []) (rest := []) (lenOf pd_2 rfl) rfl (by show 2 * 0 + _ ≤ _; exact Nat.le_of_eq rfl) (hb hby d_prog_17_method_2_1) (fun _ _ => ⟨rfl, e0, (by decide : 0 + 0 ≤ _), (by decide : 0 + 0 ≤ _)⟩)
  dsimp only [Pt.U, Pt.locs, Pt.cells, Pt.slots] at X2 l2 y2 z2 st2 hQ2
  subst l2 y2 z2
  have X2 : Stand p l e _ _ m _ below meth c T2 _ 0 0 := X2
  obtain ⟨rfl, rfl, eq2⟩ := hQ2
  have Nq2 : Fr n0 ([] : List Loc) := Fr.nil n0
  have Nf2 := Fr.app Nf0 Nq2
  have kn3 : ∀ t, own_S p e below T2 (mkF m 4 #[.val (.ref x1)] [(.int (48 : Int32))]) t → Gl t := fun t kt => kn1 t (st2.trans kt)
  have kn4 : ∀ t, own_S p e below T2 (mkF m 26 #[.val (.ref x1)] []) t → Gl t := fun t kt => kn3 t (by
    show own_S p e below T2 (mkF m 4 #[.val (.ref x1)] [(.int (48 : Int32))]) _
    refine XS.bipush X2.here hx rfl (hb hby d_prog_17_method_2_4) ?_
    show own_S p e below T2 (mkF m 6 #[.val (.ref x1)] [(.int (48 : Int32)), (.int (48 : Int32))]) _
    refine XS.icmpYes X2.here hx rfl (pc0 := 6) (pc' := 26) rfl (hb hby d_prog_17_method_2_6) rfl (teq (by decide : (48 : Int32) = (48 : Int32))).1 (by decide) (by decide) ?_
    exact kt)
  obtain ⟨T5, h5, X5, e5, E5, A5, D5, -, st5⟩ := newO X2 hx hZ hown (hw _ (List.mem_of_getElem? (i := 52) rfl)) (hw _ (List.mem_of_getElem? (i := 53) rfl)) (hw _ (List.mem_of_getElem? (i := 40) rfl)) eq2 (g := (mkF m 26 #[.val (.ref x1)] [])) rfl (hb hby d_prog_17_method_2_26) (by decide) (by decide)
  obtain ⟨b5, g5⟩ : ∃ z, z = h0.size := ⟨_, rfl⟩
  rw [← g5] at A5 D5 st5
  have sz_b5 : h0.size ≤ b5 := Nat.le_trans (Keep.refl h0 []).1 (Nat.le_of_eq g5.symm)
  have g_b5 : n0 ≤ b5 := Nat.le_trans Z0 (Nat.le_of_eq g5.symm)
  have ne_x1_b5 : x1 ≠ b5 := Nat.ne_of_lt (Nat.lt_of_lt_of_le E_x1.lt (Nat.le_of_eq g5.symm))
  have ne_t1_b5 : t1 ≠ b5 := Nat.ne_of_lt (Nat.lt_of_lt_of_le K_x1.lt (Nat.le_of_eq g5.symm))
  have Z6 : n0 ≤ h5.size := Nat.le_trans Z0 E5.1
  have Od7 : Old Z n0 h5 := O0.ext E5
  have K8 : Keep h0 h5 [] := (Keep.refl h0 []).ext E5
  have F5_84 : Fld Z h5 b5 "com/example/dual_delivery/dualdelivery/model/ReceiptHandle" "messageId" "J" (.long (0 : Int64)) := D5 (Or.inr (hw _ (List.mem_of_getElem? (i := 84) rfl))) (ty := .long) (by decide)
  have F5_86 : Fld Z h5 b5 "com/example/dual_delivery/dualdelivery/model/ReceiptHandle" "hiddenUntilMillis" "J" (.long (0 : Int64)) := D5 (Or.inr (hw _ (List.mem_of_getElem? (i := 86) rfl))) (ty := .long) (by decide)
  have F5_88 : Fld Z h5 b5 "com/example/dual_delivery/dualdelivery/model/ReceiptHandle" "token" "J" (.long (0 : Int64)) := D5 (Or.inr (hw _ (List.mem_of_getElem? (i := 88) rfl))) (ty := .long) (by decide)
  have kn9 : ∀ t, own_S p e below T5 (mkF m 29 #[.val (.ref x1)] [(.ref b5)]) t → Gl t := fun t kt => kn4 t (st5 _ kt)
  have kn10 : ∀ t, own_S p e below T5 (mkF m 32 #[.val (.ref x1)] [(.int (0 : Int32)), (.ref x1), (.ref b5), (.ref b5)]) t → Gl t := fun t kt => kn9 t (by
    show own_S p e below T5 (mkF m 29 #[.val (.ref x1)] [(.ref b5)]) _
    refine XS.dup X5.here hx rfl (hb hby d_prog_17_method_2_29) rfl rfl ?_
    show own_S p e below T5 (mkF m 30 #[.val (.ref x1)] [(.ref b5), (.ref b5)]) _
    refine XS.aloadN X5.here hx rfl (hb hby d_prog_17_method_2_30) rfl rfl ?_
    show own_S p e below T5 (mkF m 31 #[.val (.ref x1)] [(.ref x1), (.ref b5), (.ref b5)]) _
    refine XS.iconst X5.here hx rfl (hb hby d_prog_17_method_2_31) ?_
    exact kt)
  have f12 := (E_x1.ext E5)
  have f13 := (V_x1.ext E5)
  have f14 := (C_x1.ext E5)
  have f15 := (K_x1.ext E5)
  obtain ⟨_, _, ⟨T11, L11, cc11, ss11⟩, -, X11, ⟨Lc11, hQ11, l11, y11, z11⟩, st11⟩ := Jvm.LawKit.callS X5 hx (y := (⟨"com/example/dual_delivery/dualdelivery/model/ReceiptHandle", "parseLong", "(Ljava/lang/String;I)J"⟩ : MethodName)) hown (mvT hZ (hw _ (List.mem_of_getElem? (i := 54) rfl))) (mvT hZ (hw _ (List.mem_of_getElem? (i := 55) rfl))) (mvT hZ (hw _ (List.mem_of_getElem? (i := 40) rfl))) (mvT hZ (hw _ (List.mem_of_getElem? (i := 56) rfl))) (by decide) (backOf (W := 2) (rm12_0 l Z a0 hw [] x1 t1 k1 v0 v1 v2 G1 G3 h5 n0 Z6 f12 f13 f14 f15 hp_x1 Od7 O2 P5 O4 rG3) hZ (hw _ (List.mem_of_getElem? (i := 56) rfl)) (hw _ (List.mem_of_getElem? (i := 40) rfl)) (by decide) (by decide)) (g := (mkF m 32 #[.val (.ref x1)] [(.int (0 : Int32)), (.ref x1), (.ref b5), (.ref b5)])) rfl (by rw [hml]; rfl) (argsL := [(.ref x1), (.int (0 : Int32))]) (rest := [(.ref b5), (.ref b5)]) (lenOf pd_3 rfl) rfl (by show 2 * 0 + _ ≤ _; exact Nat.le_of_eq rfl) (hb hby d_prog_17_method_2_32) (fun _ _ => ⟨rfl, e5, (by decide : 1 + 0 ≤ _), (by decide : 3 + 0 ≤ _)⟩)
  dsimp only [Pt.U, Pt.locs, Pt.cells, Pt.slots] at X11 l11 y11 z11 st11 hQ11
  subst l11 y11 z11
  have X11 : Stand p l e _ _ m _ below meth c T11 _ 1 3 := X11
  obtain ⟨rfl, Nq11, eq11⟩ := hQ11
  have Nf11 := Fr.app Nf2 Nq11
  have kn16 : ∀ t, own_S p e below T11 (mkF m 35 #[.val (.ref x1)] [(.long v0), (.ref b5), (.ref b5)]) t → Gl t := fun t kt => kn10 t (st11 _ kt)
  have kn17 : ∀ t, own_S p e below T11 (mkF m 37 #[.val (.ref x1)] [(.int (1 : Int32)), (.ref x1), (.long v0), (.ref b5), (.ref b5)]) t → Gl t := fun t kt => kn16 t (by
    show own_S p e below T11 (mkF m 35 #[.val (.ref x1)] [(.long v0), (.ref b5), (.ref b5)]) _
    refine XS.aloadN X11.here hx rfl (hb hby d_prog_17_method_2_35) rfl rfl ?_
    show own_S p e below T11 (mkF m 36 #[.val (.ref x1)] [(.ref x1), (.long v0), (.ref b5), (.ref b5)]) _
    refine XS.iconst X11.here hx rfl (hb hby d_prog_17_method_2_36) ?_
    exact kt)
  obtain ⟨_, _, ⟨T18, L18, cc18, ss18⟩, -, X18, ⟨Lc18, hQ18, l18, y18, z18⟩, st18⟩ := Jvm.LawKit.callS X11 hx (y := (⟨"com/example/dual_delivery/dualdelivery/model/ReceiptHandle", "parseLong", "(Ljava/lang/String;I)J"⟩ : MethodName)) hown (mvT hZ (hw _ (List.mem_of_getElem? (i := 54) rfl))) (mvT hZ (hw _ (List.mem_of_getElem? (i := 55) rfl))) (mvT hZ (hw _ (List.mem_of_getElem? (i := 40) rfl))) (mvT hZ (hw _ (List.mem_of_getElem? (i := 56) rfl))) (by decide) (backOf (W := 4) (rm12_1 l Z a0 hw [] x1 t1 k1 v0 v1 v2 G1 G3 h5 n0 Z6 f12 f13 f14 f15 hp_x1 Od7 O2 P5 O4 rG3) hZ (hw _ (List.mem_of_getElem? (i := 56) rfl)) (hw _ (List.mem_of_getElem? (i := 40) rfl)) (by decide) (by decide)) (g := (mkF m 37 #[.val (.ref x1)] [(.int (1 : Int32)), (.ref x1), (.long v0), (.ref b5), (.ref b5)])) rfl (by rw [hml]; rfl) (argsL := [(.ref x1), (.int (1 : Int32))]) (rest := [(.long v0), (.ref b5), (.ref b5)]) (lenOf pd_3 rfl) rfl (by show 2 * 0 + _ ≤ _; exact Nat.le_of_eq rfl) (hb hby d_prog_17_method_2_37) (fun _ _ => ⟨rfl, eq11, (by decide : 1 + 0 ≤ _), (by decide : 3 + 0 ≤ _)⟩)
  dsimp only [Pt.U, Pt.locs, Pt.cells, Pt.slots] at X18 l18 y18 z18 st18 hQ18
  subst l18 y18 z18
  have X18 : Stand p l e _ _ m _ below meth c T18 _ 1 3 := X18
  obtain ⟨rfl, Nq18, eq18⟩ := hQ18
  have Nf18 := Fr.app Nf11 Nq18
  have kn19 : ∀ t, own_S p e below T18 (mkF m 40 #[.val (.ref x1)] [(.long v1), (.long v0), (.ref b5), (.ref b5)]) t → Gl t := fun t kt => kn17 t (st18 _ kt)
  have kn20 : ∀ t, own_S p e below T18 (mkF m 42 #[.val (.ref x1)] [(.int (2 : Int32)), (.ref x1), (.long v1), (.long v0), (.ref b5), (.ref b5)]) t → Gl t := fun t kt => kn19 t (by
    show own_S p e below T18 (mkF m 40 #[.val (.ref x1)] [(.long v1), (.long v0), (.ref b5), (.ref b5)]) _
    refine XS.aloadN X18.here hx rfl (hb hby d_prog_17_method_2_40) rfl rfl ?_
    show own_S p e below T18 (mkF m 41 #[.val (.ref x1)] [(.ref x1), (.long v1), (.long v0), (.ref b5), (.ref b5)]) _
    refine XS.iconst X18.here hx rfl (hb hby d_prog_17_method_2_41) ?_
    exact kt)
  obtain ⟨_, _, ⟨T21, L21, cc21, ss21⟩, -, X21, ⟨Lc21, hQ21, l21, y21, z21⟩, st21⟩ := Jvm.LawKit.callS X18 hx (y := (⟨"com/example/dual_delivery/dualdelivery/model/ReceiptHandle", "parseLong", "(Ljava/lang/String;I)J"⟩ : MethodName)) hown (mvT hZ (hw _ (List.mem_of_getElem? (i := 54) rfl))) (mvT hZ (hw _ (List.mem_of_getElem? (i := 55) rfl))) (mvT hZ (hw _ (List.mem_of_getElem? (i := 40) rfl))) (mvT hZ (hw _ (List.mem_of_getElem? (i := 56) rfl))) (by decide) (backOf (W := 6) (rm12_2 l Z a0 hw [] x1 t1 k1 v0 v1 v2 G1 G3 h5 n0 Z6 f12 f13 f14 f15 hp_x1 Od7 O2 P5 O4 rG3) hZ (hw _ (List.mem_of_getElem? (i := 56) rfl)) (hw _ (List.mem_of_getElem? (i := 40) rfl)) (by decide) (by decide)) (g := (mkF m 42 #[.val (.ref x1)] [(.int (2 : Int32)), (.ref x1), (.long v1), (.long v0), (.ref b5), (.ref b5)])) rfl (by rw [hml]; rfl) (argsL := [(.ref x1), (.int (2 : Int32))]) (rest := [(.long v1), (.long v0), (.ref b5), (.ref b5)]) (lenOf pd_3 rfl) rfl (by show 2 * 0 + _ ≤ _; exact Nat.le_of_eq rfl) (hb hby d_prog_17_method_2_42) (fun _ _ => ⟨rfl, eq18, (by decide : 1 + 0 ≤ _), (by decide : 3 + 0 ≤ _)⟩)
  dsimp only [Pt.U, Pt.locs, Pt.cells, Pt.slots] at X21 l21 y21 z21 st21 hQ21
  subst l21 y21 z21
  have X21 : Stand p l e _ _ m _ below meth c T21 _ 1 3 := X21
  obtain ⟨rfl, Nq21, eq21⟩ := hQ21
  have Nf21 := Fr.app Nf18 Nq21
  have kn22 : ∀ t, own_S p e below T21 (mkF m 45 #[.val (.ref x1)] [(.long v2), (.long v1), (.long v0), (.ref b5), (.ref b5)]) t → Gl t := fun t kt => kn20 t (st21 _ kt)
  obtain ⟨_, _, ⟨T23, L23, cc23, ss23⟩, -, X23, ⟨Lc23, hQ23, l23, y23, z23⟩, st23⟩ := X21.specialBack hx (y := (⟨"com/example/dual_delivery/dualdelivery/model/ReceiptHandle", "<init>", "(JJJ)V"⟩ : MethodName)) rfl hown (mvT hZ (hw _ (List.mem_of_getElem? (i := 79) rfl))) (mvT hZ (hw _ (List.mem_of_getElem? (i := 80) rfl))) (mvT hZ (hw _ (List.mem_of_getElem? (i := 81) rfl))) (by decide) (backOf (W := 1) (rm18 l Z a0 hw [] b5 v0 v1 v2  h5 n0 Z6 F5_84 F5_86 F5_88 A5 g_b5) hZ (hw _ (List.mem_of_getElem? (i := 81) rfl)) (hw _ (List.mem_of_getElem? (i := 40) rfl)) (by decide) (by decide)) (g := (mkF m 45 #[.val (.ref x1)] [(.long v2), (.long v1), (.long v0), (.ref b5), (.ref b5)])) rfl (by rw [hml]; rfl) (Steps.refl _) (a := b5) (argsL := [(.long v0), (.long v1), (.long v2)]) (rest := [(.ref b5)]) (lenOf pd_4 rfl) rfl (by show 2 * 0 + _ ≤ _; exact Nat.le_of_eq rfl) (hb hby d_prog_17_method_2_45) (fun _ _ => ⟨rfl, eq21, (by decide : 1 + 0 ≤ _), (by decide : 3 + 0 ≤ _)⟩)
  dsimp only [Pt.U, Pt.locs, Pt.cells, Pt.slots] at X23 l23 y23 z23 st23 hQ23
  subst l23 y23 z23
  have X23 : Stand p l e _ _ m _ below meth c T23 _ 1 3 := X23
  obtain ⟨rfl, Nq23, K23, Ex23, Fl23_0, Fl23_1, Fl23_2⟩ := hQ23
  have Nf23 := Fr.app Nf21 Nq23
  have Z24 : n0 ≤ T23.heap.size := Nat.le_trans Z6 K23.1
  have Od25 : Old Z n0 T23.heap := Od7.keep K23 (allS g_b5 all0)
  have K26 : Keep h0 T23.heap [] := K8.trans K23 (allS (Or.inr sz_b5) all0)
  have kn27 : ∀ t, own_S p e below T23 (mkF m 48 #[.val (.ref x1)] [(.ref b5)]) t → Gl t := fun t kt => kn22 t (st23.trans kt)
  obtain ⟨fs, hr, hrun, hended, hW, hsame⟩ := X23.leave (v := some (.ref b5)) (fun h => by rw [Bd.returns] at h; cases h)
  refine ⟨_, _, hGl _ (kn27 _ (by
      show own_S p e below T23 (mkF m 48 #[.val (.ref x1)] [(.ref b5)]) _
      jvm_step X23.here [X23.here.top, hx, (hb hby d_prog_17_method_2_48), X23.method', Bd.returns, Value.isRef, FieldType.isReference]
      first | (intro acts; rw [hr _ acts rfl rfl rfl]) | rw [hr _ _ rfl rfl rfl]
      exact Steps.refl _)), hrun, hended, _, _, rfl, ?_, ⟨_, rfl⟩, hW, hsame.mono (by decide) (by decide)⟩
  show Q9 Z x1 t1 k1 v0 v1 v2 G1 G3 h0 n0 _ T23.heap _
  exact ⟨_, rfl, Nf23, g_b5, K26, Ex23, Fl23_0, Fl23_1, Fl23_2⟩

theorem pd_5 : parseMethodDescriptor "([CIJ)V" = some ⟨[(.array .char), .int, .long], none⟩ := by decide +kernel
theorem pd_6 : parseMethodDescriptor "([C)V" = some ⟨[(.array .char)], none⟩ := by decide +kernel
theorem pd_7 : parseMethodDescriptor "(Ljava/lang/String;)Lcom/example/dual_delivery/dualdelivery/model/ReceiptHandle;" = some ⟨[(.object "java/lang/String")], some (.object "com/example/dual_delivery/dualdelivery/model/ReceiptHandle")⟩ := by decide +kernel
theorem pd_8 : parseMethodDescriptor "()J" = some ⟨[], some .long⟩ := by decide +kernel
theorem ef_rm0 (m : MethodId) (x0 : Int64) (x1 : Int64) (x2 : Int64) : entryFrame m #[(.long x0), (.long x1), (.long x2)] maxLocals = mkF m 0 #[.val (.long x0), .second, .val (.long x1), .second, .val (.long x2), .second, .unset, .unset] [] := by first | (simp [entryFrame, mkF, argsToLocals, Value.category, maxLocals]; done) | rfl
def Q0 (Z : State) (q1 : Int64) (q2 : Int64) (q3 : Int64) (G1 : Int32) (G3 : Value) (h0 : Heap) (n0 : Nat) (v : Option Value) (h : Heap) (L : List Loc) : Prop := v = some (.int (1 : Int32)) ∧ Fr n0 L
set_option maxRecDepth 65536 in
set_option maxHeartbeats 40000000 in
theorem rm0 (l : Launch) (Z : State) (a0 : Array Value) (hw : ∀ d ∈ tables_1, d.before a0 Z = true) (ws : List Jvm.Cond) (q1 : Int64) (q2 : Int64) (q3 : Int64) (G1 : Int32) (G3 : Value) (h0 : Heap) (n0 : Nat) (Z0 : n0 ≤ h0.size) (O0 : Old Z n0 h0) (O2 : Sta Z Z.heap "java/lang/String" "COMPACT_STRINGS" "Z" (.int G1)) (P5 : ¬ (G1 = (0 : Int32))) (O4 : Sta Z Z.heap "jdk/internal/util/Preconditions" "SIOOBE_FORMATTER" "Ljava/util/function/BiFunction;" G3) (rG3 : G3.isRef = true) :
    MetFree l x (head1 (Jvm.Cond.code x code maxLocals ret :: ws) room_1) (fun a U => a = #[(.long q1), (.long q2), (.long q3)] ∧ Z.Warmed39 U.vm ∧ U.heap = h0) (fun _ _ _ _ _ => True) (fun _ U o U' => ∃ v L, o = .returned v ∧ Q0 Z q1 q2 q3 G1 G3 h0 n0 v U'.heap L ∧ FrameEnd U o U' L 16 320) := by
  refine MetFree.of_bodySF (plainFor_of_name pn_0) hisR ?_
  intro p e s m args below meth c s₁ Bd hml0 hP hK
  obtain ⟨rfl, hZ, hh⟩ := hP
  have hx := Bd.exec
  have hby := Bd.bytes
  have hml : c.maxLocals = 8 := hml0
  have hown : s.vm.findClass "com/example/dual_delivery/dualdelivery/model/ReceiptHandleParsePinLaw" = some m.cls := findClass_of_methodNamed Bd.named
  have hnm := (name_of_methodNamed Bd.named Bd.method).1
  have X0 : Stand p l e room_1 s m #[(.long q1), (.long q2), (.long q3)] below meth c s₁ [] 0 0 := Stand.of_body Bd
  have e0 : s₁.heap = h0 := by rw [← hh, Bd.state]; rfl
  have Nf0 := Fr.nil n0
  obtain ⟨Gl, hGl, kn0⟩ : ∃ Gl : State → Prop, (∀ t, Gl t → Steps p.tables e below (s₁.setTop (entryFrame m #[(.long q1), (.long q2), (.long q3)] maxLocals)) t) ∧ ∀ t, own_S p e below s₁ (mkF m 0 #[.val (.long q1), .second, .val (.long q2), .second, .val (.long q3), .second, .unset, .unset] []) t → Gl t := ⟨fun t => Steps p.tables e below (s₁.setTop (entryFrame m #[(.long q1), (.long q2), (.long q3)] maxLocals)) t, fun _ k => k, fun t k => castTop (ef_rm0 m q1 q2 q3) k⟩
  have kn1 : ∀ t, own_S p e below s₁ (mkF m 2 #[.val (.long q1), .second, .val (.long q2), .second, .val (.long q3), .second, .unset, .unset] [(.int (48 : Int32))]) t → Gl t := fun t kt => kn0 t (by
    show own_S p e below s₁ (mkF m 0 #[.val (.long q1), .second, .val (.long q2), .second, .val (.long q3), .second, .unset, .unset] []) _
    refine XS.bipush X0.here hx rfl (hb hby at_0) ?_
    exact kt)
  obtain ⟨T2, h2, kk2, X2, e2, E2, A2, st2⟩ := newP X0 hx hZ (hw _ (List.mem_of_getElem? (i := 0) rfl)) e0 (g := (mkF m 2 #[.val (.long q1), .second, .val (.long q2), .second, .val (.long q3), .second, .unset, .unset] [(.int (48 : Int32))])) rfl (hb hby at_2) rfl (by decide) (cap := 48) (by decide) (by decide) (by decide) (by decide)
  obtain ⟨b2, g2⟩ : ∃ z, z = h0.size := ⟨_, rfl⟩
  rw [← g2] at A2 st2
  have g_b2 : n0 ≤ b2 := Nat.le_trans Z0 (Nat.le_of_eq g2.symm)
  have Z3 : n0 ≤ h2.size := Nat.le_trans Z0 E2.1
  have Od4 : Old Z n0 h2 := O0.ext E2
  have V2 : Arv Z h2 b2 kk2 .char (48 : Int32) ((.int (0 : Int32)) :: (.int (0 : Int32)) :: (.int (0 : Int32)) :: (.int (0 : Int32)) :: (.int (0 : Int32)) :: (.int (0 : Int32)) :: (.int (0 : Int32)) :: (.int (0 : Int32)) :: (.int (0 : Int32)) :: (.int (0 : Int32)) :: (.int (0 : Int32)) :: (.int (0 : Int32)) :: (.int (0 : Int32)) :: (.int (0 : Int32)) :: (.int (0 : Int32)) :: (.int (0 : Int32)) :: (.int (0 : Int32)) :: (.int (0 : Int32)) :: (.int (0 : Int32)) :: (.int (0 : Int32)) :: (.int (0 : Int32)) :: (.int (0 : Int32)) :: (.int (0 : Int32)) :: (.int (0 : Int32)) :: (.int (0 : Int32)) :: (.int (0 : Int32)) :: (.int (0 : Int32)) :: (.int (0 : Int32)) :: (.int (0 : Int32)) :: (.int (0 : Int32)) :: (.int (0 : Int32)) :: (.int (0 : Int32)) :: (.int (0 : Int32)) :: (.int (0 : Int32)) :: (.int (0 : Int32)) :: (.int (0 : Int32)) :: (.int (0 : Int32)) :: (.int (0 : Int32)) :: (.int (0 : Int32)) :: (.int (0 : Int32)) :: (.int (0 : Int32)) :: (.int (0 : Int32)) :: (.int (0 : Int32)) :: (.int (0 : Int32)) :: (.int (0 : Int32)) :: (.int (0 : Int32)) :: (.int (0 : Int32)) :: (.int (0 : Int32)) :: []) (.int (0 : Int32)) := (Arv.new A2 (by decide)).pad (pad_rep [] (.int (0 : Int32)) 48)
  have kn5 : ∀ t, own_S p e below T2 (mkF m 4 #[.val (.long q1), .second, .val (.long q2), .second, .val (.long q3), .second, .unset, .unset] [(.ref b2)]) t → Gl t := fun t kt => kn1 t (st2 _ kt)
  have kn6 : ∀ t, own_S p e below T2 (mkF m 10 #[.val (.long q1), .second, .val (.long q2), .second, .val (.long q3), .second, .val (.ref b2), .unset] [(.long q1), (.int (0 : Int32)), (.ref b2)]) t → Gl t := fun t kt => kn5 t (by
    show own_S p e below T2 (mkF m 4 #[.val (.long q1), .second, .val (.long q2), .second, .val (.long q3), .second, .unset, .unset] [(.ref b2)]) _
    refine XS.astore X2.here hx rfl (hb hby at_4) rfl rfl (l' := #[.val (.long q1), .second, .val (.long q2), .second, .val (.long q3), .second, .val (.ref b2), .unset]) rfl ?_
    show own_S p e below T2 (mkF m 6 #[.val (.long q1), .second, .val (.long q2), .second, .val (.long q3), .second, .val (.ref b2), .unset] []) _
    refine XS.aload X2.here hx rfl (hb hby at_6) rfl rfl ?_
    show own_S p e below T2 (mkF m 8 #[.val (.long q1), .second, .val (.long q2), .second, .val (.long q3), .second, .val (.ref b2), .unset] [(.ref b2)]) _
    refine XS.iconst X2.here hx rfl (hb hby at_8) ?_
    show own_S p e below T2 (mkF m 9 #[.val (.long q1), .second, .val (.long q2), .second, .val (.long q3), .second, .val (.ref b2), .unset] [(.int (0 : Int32)), (.ref b2)]) _
    refine XS.lloadN X2.here hx rfl (hb hby at_9) rfl ?_
    exact kt)
  obtain ⟨_, _, ⟨T7, L7, cc7, ss7⟩, -, X7, ⟨Lc7, hQ7, l7, y7, z7⟩, st7⟩ := Jvm.LawKit.callS X2 hx (y := (⟨"com/example/dual_delivery/dualdelivery/model/ReceiptHandleParsePinLaw", "put", "([CIJ)V"⟩ : MethodName)) hown (mvT hZ (hw _ (List.mem_of_getElem? (i := 1) rfl))) (mvT hZ (hw _ (List.mem_of_getElem? (i := 2) rfl))) (mvT hZ (hw _ (List.mem_of_getElem? (i := 3) rfl))) (mvT hZ (hw _ (List.mem_of_getElem? (i := 4) rfl))) (by decide) (backOf (W := 0) (rm1_0 l Z a0 hw [] b2 q1 kk2 (0 : Int32) (0 : Int32) (0 : Int32) (0 : Int32) (0 : Int32) (0 : Int32) (0 : Int32) (0 : Int32) (0 : Int32) (0 : Int32) (0 : Int32) (0 : Int32) (0 : Int32) (0 : Int32) (0 : Int32) (0 : Int32) (0 : Int32) (0 : Int32) (0 : Int32) (0 : Int32) (0 : Int32) (0 : Int32) (0 : Int32) (0 : Int32) (0 : Int32) (0 : Int32) (0 : Int32) (0 : Int32) (0 : Int32) (0 : Int32) (0 : Int32) (0 : Int32) (0 : Int32) (0 : Int32) (0 : Int32) (0 : Int32) (0 : Int32) (0 : Int32) (0 : Int32) (0 : Int32) (0 : Int32) (0 : Int32) (0 : Int32) (0 : Int32) (0 : Int32) (0 : Int32) (0 : Int32) (0 : Int32) h2 h2 n0 Z3 V2 (Keep.refl _ _) g_b2) hZ (hw _ (List.mem_of_getElem? (i := 4) rfl)) (hw _ (List.mem_of_getElem? (i := 3) rfl)) (by decide) (by decide)) (g := (mkF m 10 #[.val (.long q1), .second, .val (.long q2), .second, .val (.long q3), .second, .val (.ref b2), .unset] [(.long q1), (.int (0 : Int32)), (.ref b2)])) rfl (by rw [hml]; rfl) (argsL := [(.ref b2), (.int (0 : Int32)), (.long q1)]) (rest := []) (lenOf pd_5 rfl) rfl (by show 2 * 0 + _ ≤ _; exact Nat.le_of_eq rfl) (hb hby at_10) (fun _ _ => ⟨rfl, e2, (by decide : 1 + 0 ≤ _), (by decide : 48 + 0 ≤ _)⟩)
  dsimp only [Pt.U, Pt.locs, Pt.cells, Pt.slots] at X7 l7 y7 z7 st7 hQ7
  subst l7 y7 z7
  have X7 : Stand p l e _ _ m _ below meth c T7 _ 1 48 := X7
  obtain ⟨rfl, Nq7, K7, V7⟩ := hQ7
  have Nf7 := Fr.app Nf0 Nq7
  have Z8 : n0 ≤ T7.heap.size := Nat.le_trans Z3 K7.1
  have Od9 : Old Z n0 T7.heap := Od4.keep K7 (allS g_b2 all0)
  have kn10 : ∀ t, own_S p e below T7 (mkF m 13 #[.val (.long q1), .second, .val (.long q2), .second, .val (.long q3), .second, .val (.ref b2), .unset] []) t → Gl t := fun t kt => kn6 t (st7 _ kt)
  have kn11 : ∀ t, own_S p e below T7 (mkF m 18 #[.val (.long q1), .second, .val (.long q2), .second, .val (.long q3), .second, .val (.ref b2), .unset] [(.long q2), (.int (16 : Int32)), (.ref b2)]) t → Gl t := fun t kt => kn10 t (by
    show own_S p e below T7 (mkF m 13 #[.val (.long q1), .second, .val (.long q2), .second, .val (.long q3), .second, .val (.ref b2), .unset] []) _
    refine XS.aload X7.here hx rfl (hb hby at_13) rfl rfl ?_
    show own_S p e below T7 (mkF m 15 #[.val (.long q1), .second, .val (.long q2), .second, .val (.long q3), .second, .val (.ref b2), .unset] [(.ref b2)]) _
    refine XS.bipush X7.here hx rfl (hb hby at_15) ?_
    show own_S p e below T7 (mkF m 17 #[.val (.long q1), .second, .val (.long q2), .second, .val (.long q3), .second, .val (.ref b2), .unset] [(.int (16 : Int32)), (.ref b2)]) _
    refine XS.lloadN X7.here hx rfl (hb hby at_17) rfl ?_
    exact kt)
  obtain ⟨_, _, ⟨T12, L12, cc12, ss12⟩, -, X12, ⟨Lc12, hQ12, l12, y12, z12⟩, st12⟩ := Jvm.LawKit.callS X7 hx (y := (⟨"com/example/dual_delivery/dualdelivery/model/ReceiptHandleParsePinLaw", "put", "([CIJ)V"⟩ : MethodName)) hown (mvT hZ (hw _ (List.mem_of_getElem? (i := 1) rfl))) (mvT hZ (hw _ (List.mem_of_getElem? (i := 2) rfl))) (mvT hZ (hw _ (List.mem_of_getElem? (i := 3) rfl))) (mvT hZ (hw _ (List.mem_of_getElem? (i := 4) rfl))) (by decide) (backOf (W := 0) (rm1_16 l Z a0 hw [] b2 q2 kk2 (own_hex q1 (60 : Int32)) (own_hex q1 (56 : Int32)) (own_hex q1 (52 : Int32)) (own_hex q1 (48 : Int32)) (own_hex q1 (44 : Int32)) (own_hex q1 (40 : Int32)) (own_hex q1 (36 : Int32)) (own_hex q1 (32 : Int32)) (own_hex q1 (28 : Int32)) (own_hex q1 (24 : Int32)) (own_hex q1 (20 : Int32)) (own_hex q1 (16 : Int32)) (own_hex q1 (12 : Int32)) (own_hex q1 (8 : Int32)) (own_hex q1 (4 : Int32)) (own_hex q1 (0 : Int32)) (0 : Int32) (0 : Int32) (0 : Int32) (0 : Int32) (0 : Int32) (0 : Int32) (0 : Int32) (0 : Int32) (0 : Int32) (0 : Int32) (0 : Int32) (0 : Int32) (0 : Int32) (0 : Int32) (0 : Int32) (0 : Int32) (0 : Int32) (0 : Int32) (0 : Int32) (0 : Int32) (0 : Int32) (0 : Int32) (0 : Int32) (0 : Int32) (0 : Int32) (0 : Int32) (0 : Int32) (0 : Int32) (0 : Int32) (0 : Int32) (0 : Int32) (0 : Int32) T7.heap T7.heap n0 Z8 V7 (Keep.refl _ _) g_b2) hZ (hw _ (List.mem_of_getElem? (i := 4) rfl)) (hw _ (List.mem_of_getElem? (i := 3) rfl)) (by decide) (by decide)) (g := (mkF m 18 #[.val (.long q1), .second, .val (.long q2), .second, .val (.long q3), .second, .val (.ref b2), .unset] [(.long q2), (.int (16 : Int32)), (.ref b2)])) rfl (by rw [hml]; rfl) (argsL := [(.ref b2), (.int (16 : Int32)), (.long q2)]) (rest := []) (lenOf pd_5 rfl) rfl (by show 2 * 0 + _ ≤ _; exact Nat.le_of_eq rfl) (hb hby at_18) (fun _ _ => ⟨rfl, rfl, (by decide : 1 + 0 ≤ _), (by decide : 48 + 0 ≤ _)⟩)
  dsimp only [Pt.U, Pt.locs, Pt.cells, Pt.slots] at X12 l12 y12 z12 st12 hQ12
  subst l12 y12 z12
  have X12 : Stand p l e _ _ m _ below meth c T12 _ 1 48 := X12
  obtain ⟨rfl, Nq12, K12, V12⟩ := hQ12
  have Nf12 := Fr.app Nf7 Nq12
  have Z13 : n0 ≤ T12.heap.size := Nat.le_trans Z8 K12.1
  have Od14 : Old Z n0 T12.heap := Od9.keep K12 (allS g_b2 all0)
  have kn15 : ∀ t, own_S p e below T12 (mkF m 21 #[.val (.long q1), .second, .val (.long q2), .second, .val (.long q3), .second, .val (.ref b2), .unset] []) t → Gl t := fun t kt => kn11 t (st12 _ kt)
  have kn16 : ∀ t, own_S p e below T12 (mkF m 27 #[.val (.long q1), .second, .val (.long q2), .second, .val (.long q3), .second, .val (.ref b2), .unset] [(.long q3), (.int (32 : Int32)), (.ref b2)]) t → Gl t := fun t kt => kn15 t (by
    show own_S p e below T12 (mkF m 21 #[.val (.long q1), .second, .val (.long q2), .second, .val (.long q3), .second, .val (.ref b2), .unset] []) _
    refine XS.aload X12.here hx rfl (hb hby at_21) rfl rfl ?_
    show own_S p e below T12 (mkF m 23 #[.val (.long q1), .second, .val (.long q2), .second, .val (.long q3), .second, .val (.ref b2), .unset] [(.ref b2)]) _
    refine XS.bipush X12.here hx rfl (hb hby at_23) ?_
    show own_S p e below T12 (mkF m 25 #[.val (.long q1), .second, .val (.long q2), .second, .val (.long q3), .second, .val (.ref b2), .unset] [(.int (32 : Int32)), (.ref b2)]) _
    refine XS.lload X12.here hx rfl (hb hby at_25) rfl ?_
    exact kt)
  obtain ⟨_, _, ⟨T17, L17, cc17, ss17⟩, -, X17, ⟨Lc17, hQ17, l17, y17, z17⟩, st17⟩ := Jvm.LawKit.callS X12 hx (y := (⟨"com/example/dual_delivery/dualdelivery/model/ReceiptHandleParsePinLaw", "put", "([CIJ)V"⟩ : MethodName)) hown (mvT hZ (hw _ (List.mem_of_getElem? (i := 1) rfl))) (mvT hZ (hw _ (List.mem_of_getElem? (i := 2) rfl))) (mvT hZ (hw _ (List.mem_of_getElem? (i := 3) rfl))) (mvT hZ (hw _ (List.mem_of_getElem? (i := 4) rfl))) (by decide) (backOf (W := 0) (rm1_32 l Z a0 hw [] b2 q3 kk2 (own_hex q1 (60 : Int32)) (own_hex q1 (56 : Int32)) (own_hex q1 (52 : Int32)) (own_hex q1 (48 : Int32)) (own_hex q1 (44 : Int32)) (own_hex q1 (40 : Int32)) (own_hex q1 (36 : Int32)) (own_hex q1 (32 : Int32)) (own_hex q1 (28 : Int32)) (own_hex q1 (24 : Int32)) (own_hex q1 (20 : Int32)) (own_hex q1 (16 : Int32)) (own_hex q1 (12 : Int32)) (own_hex q1 (8 : Int32)) (own_hex q1 (4 : Int32)) (own_hex q1 (0 : Int32)) (own_hex q2 (60 : Int32)) (own_hex q2 (56 : Int32)) (own_hex q2 (52 : Int32)) (own_hex q2 (48 : Int32)) (own_hex q2 (44 : Int32)) (own_hex q2 (40 : Int32)) (own_hex q2 (36 : Int32)) (own_hex q2 (32 : Int32)) (own_hex q2 (28 : Int32)) (own_hex q2 (24 : Int32)) (own_hex q2 (20 : Int32)) (own_hex q2 (16 : Int32)) (own_hex q2 (12 : Int32)) (own_hex q2 (8 : Int32)) (own_hex q2 (4 : Int32)) (own_hex q2 (0 : Int32)) (0 : Int32) (0 : Int32) (0 : Int32) (0 : Int32) (0 : Int32) (0 : Int32) (0 : Int32) (0 : Int32) (0 : Int32) (0 : Int32) (0 : Int32) (0 : Int32) (0 : Int32) (0 : Int32) (0 : Int32) (0 : Int32) T12.heap T12.heap n0 Z13 V12 (Keep.refl _ _) g_b2) hZ (hw _ (List.mem_of_getElem? (i := 4) rfl)) (hw _ (List.mem_of_getElem? (i := 3) rfl)) (by decide) (by decide)) (g := (mkF m 27 #[.val (.long q1), .second, .val (.long q2), .second, .val (.long q3), .second, .val (.ref b2), .unset] [(.long q3), (.int (32 : Int32)), (.ref b2)])) rfl (by rw [hml]; rfl) (argsL := [(.ref b2), (.int (32 : Int32)), (.long q3)]) (rest := []) (lenOf pd_5 rfl) rfl (by show 2 * 0 + _ ≤ _; exact Nat.le_of_eq rfl) (hb hby at_27) (fun _ _ => ⟨rfl, rfl, (by decide : 1 + 0 ≤ _), (by decide : 48 + 0 ≤ _)⟩)
  dsimp only [Pt.U, Pt.locs, Pt.cells, Pt.slots] at X17 l17 y17 z17 st17 hQ17
  subst l17 y17 z17
  have X17 : Stand p l e _ _ m _ below meth c T17 _ 1 48 := X17
  obtain ⟨rfl, Nq17, K17, V17⟩ := hQ17
  have Nf17 := Fr.app Nf12 Nq17
  have Z18 : n0 ≤ T17.heap.size := Nat.le_trans Z13 K17.1
  have Od19 : Old Z n0 T17.heap := Od14.keep K17 (allS g_b2 all0)
  have kn20 : ∀ t, own_S p e below T17 (mkF m 30 #[.val (.long q1), .second, .val (.long q2), .second, .val (.long q3), .second, .val (.ref b2), .unset] []) t → Gl t := fun t kt => kn16 t (st17 _ kt)
  obtain ⟨T21, h21, X21, e21, E21, A21, D21, -, st21⟩ := newO X17 hx hZ hown (hw _ (List.mem_of_getElem? (i := 9) rfl)) (hw _ (List.mem_of_getElem? (i := 10) rfl)) (hw _ (List.mem_of_getElem? (i := 11) rfl)) rfl (g := (mkF m 30 #[.val (.long q1), .second, .val (.long q2), .second, .val (.long q3), .second, .val (.ref b2), .unset] [])) rfl (hb hby at_30) (by decide) (by decide)
  obtain ⟨b21, g21⟩ : ∃ z, z = T17.heap.size := ⟨_, rfl⟩
  rw [← g21] at A21 D21 st21
  have g_b21 : n0 ≤ b21 := Nat.le_trans Z18 (Nat.le_of_eq g21.symm)
  have ne_b2_b21 : b2 ≠ b21 := Nat.ne_of_lt (Nat.lt_of_lt_of_le V17.lt (Nat.le_of_eq g21.symm))
  have Z22 : n0 ≤ h21.size := Nat.le_trans Z18 E21.1
  have Od23 : Old Z n0 h21 := Od19.ext E21
  have F21_35 : Fld Z h21 b21 "java/lang/String" "coder" "B" (.int (0 : Int32)) := D21 (Or.inr (hw _ (List.mem_of_getElem? (i := 35) rfl))) (ty := .byte) (by decide)
  have F21_37 : Fld Z h21 b21 "java/lang/String" "value" "[B" .null := D21 (Or.inr (hw _ (List.mem_of_getElem? (i := 37) rfl))) (ty := (.array .byte)) (by decide)
  have kn24 : ∀ t, own_S p e below T21 (mkF m 33 #[.val (.long q1), .second, .val (.long q2), .second, .val (.long q3), .second, .val (.ref b2), .unset] [(.ref b21)]) t → Gl t := fun t kt => kn20 t (st21 _ kt)
  have kn25 : ∀ t, own_S p e below T21 (mkF m 36 #[.val (.long q1), .second, .val (.long q2), .second, .val (.long q3), .second, .val (.ref b2), .unset] [(.ref b2), (.ref b21), (.ref b21)]) t → Gl t := fun t kt => kn24 t (by
    show own_S p e below T21 (mkF m 33 #[.val (.long q1), .second, .val (.long q2), .second, .val (.long q3), .second, .val (.ref b2), .unset] [(.ref b21)]) _
    refine XS.dup X21.here hx rfl (hb hby at_33) rfl rfl ?_
    show own_S p e below T21 (mkF m 34 #[.val (.long q1), .second, .val (.long q2), .second, .val (.long q3), .second, .val (.ref b2), .unset] [(.ref b21), (.ref b21)]) _
    refine XS.aload X21.here hx rfl (hb hby at_34) rfl rfl ?_
    exact kt)
  have hws : ∀ d ∈ StrChars.Road.words, d.before a0 Z = true := fun d hd => hw d ((by decide +kernel : ∀ d ∈ StrChars.Road.words, d ∈ tables_1) d hd)
  have hp27 : ∀ c ∈ (own_cs q1 q2 q3), ¬ c < 0 ∧ ¬ (255 : Int32) < c := by
    intro c hc
    simp only [own_cs, List.mem_cons, List.not_mem_nil, or_false] at hc
    rcases hc with rfl | rfl | rfl | rfl | rfl | rfl | rfl | rfl | rfl | rfl | rfl | rfl | rfl | rfl | rfl | rfl | rfl | rfl | rfl | rfl | rfl | rfl | rfl | rfl | rfl | rfl | rfl | rfl | rfl | rfl | rfl | rfl | rfl | rfl | rfl | rfl | rfl | rfl | rfl | rfl | rfl | rfl | rfl | rfl | rfl | rfl | rfl | rfl <;> exact (own_hxs _ _).2.2.2.2.2
  have f28 := (V17.ext E21)
  obtain ⟨_, _, ⟨T26, L26, cc26, ss26⟩, -, X26, ⟨Lc26, hQ26, l26, y26, z26⟩, st26⟩ := X21.specialBack hx (y := (⟨"java/lang/String", "<init>", "([C)V"⟩ : MethodName)) rfl hown (mvT hZ (hw _ (List.mem_of_getElem? (i := 12) rfl))) (mvT hZ (hw _ (List.mem_of_getElem? (i := 13) rfl))) (mvT hZ (hw _ (List.mem_of_getElem? (i := 14) rfl))) (by decide) (StrChars.Road.backV (W := 1) hZ hws (kI := 4) (hw _ (List.mem_of_getElem? (i := 10) rfl)) (cs := (own_cs q1 q2 q3)) (bs := (own_cs q1 q2 q3).map (fun c => c.toInt8.toInt32)) (n := 48) g_b21 Z22 A21 F21_37 F21_35 f28 (O2.ext Od23.2) P5 rfl rfl (by decide) (by decide) hp27 rfl (by decide) (by decide)) (g := (mkF m 36 #[.val (.long q1), .second, .val (.long q2), .second, .val (.long q3), .second, .val (.ref b2), .unset] [(.ref b2), (.ref b21), (.ref b21)])) rfl (by rw [hml]; rfl) (Steps.refl _) (a := b21) (argsL := [(.ref b2)]) (rest := [(.ref b21)]) (lenOf pd_6 rfl) rfl (by show 2 * 0 + _ ≤ _; exact Nat.le_of_eq rfl) (hb hby at_36) (fun _ _ => ⟨rfl, e21, (by decide : 2 + 1 ≤ _), (by decide : 52 + 48 ≤ _)⟩)
  dsimp only [Pt.U, Pt.locs, Pt.cells, Pt.slots] at X26 l26 y26 z26 st26 hQ26
  subst l26 y26 z26
  have X26 : Stand p l e _ _ m _ below meth c T26 _ 3 100 := X26
  obtain ⟨rfl, Nq26, K26, Ex26, Co26, t26, kb26, ga26, sa26, nx26, Va26, Ar26⟩ := hQ26
  have Nf26 := Fr.app Nf17 Nq26
  have Z29 : n0 ≤ T26.heap.size := Nat.le_trans Z22 K26.1
  have Od30 : Old Z n0 T26.heap := Od23.keep K26 (allS g_b21 all0)
  have kn31 : ∀ t, own_S p e below T26 (mkF m 39 #[.val (.long q1), .second, .val (.long q2), .second, .val (.long q3), .second, .val (.ref b2), .unset] [(.ref b21)]) t → Gl t := fun t kt => kn25 t (st26.trans kt)
  obtain ⟨_, _, ⟨T32, L32, cc32, ss32⟩, -, X32, ⟨Lc32, hQ32, l32, y32, z32⟩, st32⟩ := Jvm.LawKit.callS X26 hx (y := (⟨"com/example/dual_delivery/dualdelivery/model/ReceiptHandle", "parse", "(Ljava/lang/String;)Lcom/example/dual_delivery/dualdelivery/model/ReceiptHandle;"⟩ : MethodName)) hown (mvT hZ (hw _ (List.mem_of_getElem? (i := 38) rfl))) (mvT hZ (hw _ (List.mem_of_getElem? (i := 39) rfl))) (mvT hZ (hw _ (List.mem_of_getElem? (i := 40) rfl))) (mvT hZ (hw _ (List.mem_of_getElem? (i := 41) rfl))) (by decide) (backOf (W := 0) (rm9 l Z a0 hw [] b21 t26 kb26 q1 q2 q3 G1 G3 T26.heap n0 Z29 Ex26 Va26 Co26 Ar26 hp27 Od30 O2 P5 O4 rG3) hZ (hw _ (List.mem_of_getElem? (i := 41) rfl)) (hw _ (List.mem_of_getElem? (i := 40) rfl)) (by decide) (by decide)) (g := (mkF m 39 #[.val (.long q1), .second, .val (.long q2), .second, .val (.long q3), .second, .val (.ref b2), .unset] [(.ref b21)])) rfl (by rw [hml]; rfl) (argsL := [(.ref b21)]) (rest := []) (lenOf pd_7 rfl) rfl (by show 2 * 0 + _ ≤ _; exact Nat.le_of_eq rfl) (hb hby at_39) (fun _ _ => ⟨rfl, rfl, (by decide : 3 + 1 ≤ _), (by decide : 100 + 3 ≤ _)⟩)
  dsimp only [Pt.U, Pt.locs, Pt.cells, Pt.slots] at X32 l32 y32 z32 st32 hQ32
  subst l32 y32 z32
  have X32 : Stand p l e _ _ m _ below meth c T32 _ 4 103 := X32
  obtain ⟨b32, rfl, Nq32, g_b32, K32, Ex32, Fl32_0, Fl32_1, Fl32_2⟩ := hQ32
  have Nf32 := Fr.app Nf26 Nq32
  have Z33 : n0 ≤ T32.heap.size := Nat.le_trans Z29 K32.1
  have Od34 : Old Z n0 T32.heap := Od30.keep K32 all0
  have kn35 : ∀ t, own_S p e below T32 (mkF m 42 #[.val (.long q1), .second, .val (.long q2), .second, .val (.long q3), .second, .val (.ref b2), .unset] [(.ref b32)]) t → Gl t := fun t kt => kn31 t (st32 _ kt)
  have kn36 : ∀ t, own_S p e below T32 (mkF m 46 #[.val (.long q1), .second, .val (.long q2), .second, .val (.long q3), .second, .val (.ref b2), .val (.ref b32)] [(.ref b32)]) t → Gl t := fun t kt => kn35 t (by
    show own_S p e below T32 (mkF m 42 #[.val (.long q1), .second, .val (.long q2), .second, .val (.long q3), .second, .val (.ref b2), .unset] [(.ref b32)]) _
    refine XS.astore X32.here hx rfl (hb hby at_42) rfl rfl (l' := #[.val (.long q1), .second, .val (.long q2), .second, .val (.long q3), .second, .val (.ref b2), .val (.ref b32)]) rfl ?_
    show own_S p e below T32 (mkF m 44 #[.val (.long q1), .second, .val (.long q2), .second, .val (.long q3), .second, .val (.ref b2), .val (.ref b32)] []) _
    refine XS.aload X32.here hx rfl (hb hby at_44) rfl rfl ?_
    exact kt)
  obtain ⟨cq37, kq37, qa37, qb37, qc37⟩ := isOf hZ rfl Ex32
  obtain ⟨_, _, ⟨T37, L37, cc37, ss37⟩, -, X37, ⟨Lc37, hQ37, l37, y37, z37⟩, st37⟩ := X32.virtualBack hx (y := (⟨"com/example/dual_delivery/dualdelivery/model/ReceiptHandle", "getMessageId", "()J"⟩ : MethodName)) (z := (⟨"com/example/dual_delivery/dualdelivery/model/ReceiptHandle", "getMessageId", "()J"⟩ : MethodName)) hown (mvT hZ (hw _ (List.mem_of_getElem? (i := 89) rfl))) (mvT hZ (hw _ (List.mem_of_getElem? (i := 90) rfl))) (notFace_of_selects (args := #[]) (mvT hZ (hw _ (List.mem_of_getElem? (i := 92) rfl)))) (mvT hZ (hw _ (List.mem_of_getElem? (i := 92) rfl))) (mvT hZ (hw _ (List.mem_of_getElem? (i := 91) rfl))) (by decide) (backOf (W := 0) (rm19 l Z a0 hw [] b32 q1 T32.heap n0 Z33 Fl32_0) hZ (hw _ (List.mem_of_getElem? (i := 93) rfl)) (hw _ (List.mem_of_getElem? (i := 40) rfl)) (by decide) (by decide)) qa37 qc37 (g := (mkF m 46 #[.val (.long q1), .second, .val (.long q2), .second, .val (.long q3), .second, .val (.ref b2), .val (.ref b32)] [(.ref b32)])) rfl (by rw [hml]; rfl) (Steps.refl _) (argsL := []) (rest := []) (lenOf pd_8 rfl) rfl (by show 2 * 0 + _ ≤ _; exact Nat.le_of_eq rfl) (hb hby at_46) (fun _ _ => ⟨rfl, rfl, (by decide : 4 + 0 ≤ _), (by decide : 103 + 0 ≤ _)⟩)
  dsimp only [Pt.U, Pt.locs, Pt.cells, Pt.slots] at X37 l37 y37 z37 st37 hQ37
  subst l37 y37 z37
  have X37 : Stand p l e _ _ m _ below meth c T37 _ 4 103 := X37
  obtain ⟨rfl, Nq37, eq37⟩ := hQ37
  have Nf37 := Fr.app Nf32 Nq37
  have kn38 : ∀ t, own_S p e below T37 (mkF m 49 #[.val (.long q1), .second, .val (.long q2), .second, .val (.long q3), .second, .val (.ref b2), .val (.ref b32)] [(.long q1)]) t → Gl t := fun t kt => kn36 t (st37.trans kt)
  have kn39 : ∀ t, own_S p e below T37 (mkF m 51 #[.val (.long q1), .second, .val (.long q2), .second, .val (.long q3), .second, .val (.ref b2), .val (.ref b32)] [(.int (lcmpW q1 q1))]) t → Gl t := fun t kt => kn38 t (by
    show own_S p e below T37 (mkF m 49 #[.val (.long q1), .second, .val (.long q2), .second, .val (.long q3), .second, .val (.ref b2), .val (.ref b32)] [(.long q1)]) _
    refine XS.lloadN X37.here hx rfl (hb hby at_49) rfl ?_
    show own_S p e below T37 (mkF m 50 #[.val (.long q1), .second, .val (.long q2), .second, .val (.long q3), .second, .val (.ref b2), .val (.ref b32)] [(.long q1), (.long q1)]) _
    refine XS.lcmp X37.here hx rfl (hb hby at_50) rfl ?_
    exact kt)
  have hc51_40 : q1 = q1 := rfl
  have kn41 : ∀ t, own_S p e below T37 (mkF m 56 #[.val (.long q1), .second, .val (.long q2), .second, .val (.long q3), .second, .val (.ref b2), .val (.ref b32)] [(.ref b32)]) t → Gl t := fun t kt => kn39 t (by
    show own_S p e below T37 (mkF m 51 #[.val (.long q1), .second, .val (.long q2), .second, .val (.long q3), .second, .val (.ref b2), .val (.ref b32)] [(.int (lcmpW q1 q1))]) _
    refine XS.ifNo X37.here hx rfl (hb hby at_51) rfl ((if0 _ _).trans (teq ((lw_eq q1 q1).mpr hc51_40)).2) ?_
    show own_S p e below T37 (mkF m 54 #[.val (.long q1), .second, .val (.long q2), .second, .val (.long q3), .second, .val (.ref b2), .val (.ref b32)] []) _
    refine XS.aload X37.here hx rfl (hb hby at_54) rfl rfl ?_
    exact kt)
  obtain ⟨cq42, kq42, qa42, qb42, qc42⟩ := isOf hZ eq37 Ex32
  obtain ⟨_, _, ⟨T42, L42, cc42, ss42⟩, -, X42, ⟨Lc42, hQ42, l42, y42, z42⟩, st42⟩ := X37.virtualBack hx (y := (⟨"com/example/dual_delivery/dualdelivery/model/ReceiptHandle", "getHiddenUntilMillis", "()J"⟩ : MethodName)) (z := (⟨"com/example/dual_delivery/dualdelivery/model/ReceiptHandle", "getHiddenUntilMillis", "()J"⟩ : MethodName)) hown (mvT hZ (hw _ (List.mem_of_getElem? (i := 94) rfl))) (mvT hZ (hw _ (List.mem_of_getElem? (i := 95) rfl))) (notFace_of_selects (args := #[]) (mvT hZ (hw _ (List.mem_of_getElem? (i := 97) rfl)))) (mvT hZ (hw _ (List.mem_of_getElem? (i := 97) rfl))) (mvT hZ (hw _ (List.mem_of_getElem? (i := 96) rfl))) (by decide) (backOf (W := 0) (rm20 l Z a0 hw [] b32 q2 T32.heap n0 Z33 Fl32_1) hZ (hw _ (List.mem_of_getElem? (i := 98) rfl)) (hw _ (List.mem_of_getElem? (i := 40) rfl)) (by decide) (by decide)) qa42 qc42 (g := (mkF m 56 #[.val (.long q1), .second, .val (.long q2), .second, .val (.long q3), .second, .val (.ref b2), .val (.ref b32)] [(.ref b32)])) rfl (by rw [hml]; rfl) (Steps.refl _) (argsL := []) (rest := []) (lenOf pd_8 rfl) rfl (by show 2 * 0 + _ ≤ _; exact Nat.le_of_eq rfl) (hb hby at_56) (fun _ _ => ⟨rfl, eq37, (by decide : 4 + 0 ≤ _), (by decide : 103 + 0 ≤ _)⟩)
  dsimp only [Pt.U, Pt.locs, Pt.cells, Pt.slots] at X42 l42 y42 z42 st42 hQ42
  subst l42 y42 z42
  have X42 : Stand p l e _ _ m _ below meth c T42 _ 4 103 := X42
  obtain ⟨rfl, Nq42, eq42⟩ := hQ42
  have Nf42 := Fr.app Nf37 Nq42
  have kn43 : ∀ t, own_S p e below T42 (mkF m 59 #[.val (.long q1), .second, .val (.long q2), .second, .val (.long q3), .second, .val (.ref b2), .val (.ref b32)] [(.long q2)]) t → Gl t := fun t kt => kn41 t (st42.trans kt)
  have kn44 : ∀ t, own_S p e below T42 (mkF m 61 #[.val (.long q1), .second, .val (.long q2), .second, .val (.long q3), .second, .val (.ref b2), .val (.ref b32)] [(.int (lcmpW q2 q2))]) t → Gl t := fun t kt => kn43 t (by
    show own_S p e below T42 (mkF m 59 #[.val (.long q1), .second, .val (.long q2), .second, .val (.long q3), .second, .val (.ref b2), .val (.ref b32)] [(.long q2)]) _
    refine XS.lloadN X42.here hx rfl (hb hby at_59) rfl ?_
    show own_S p e below T42 (mkF m 60 #[.val (.long q1), .second, .val (.long q2), .second, .val (.long q3), .second, .val (.ref b2), .val (.ref b32)] [(.long q2), (.long q2)]) _
    refine XS.lcmp X42.here hx rfl (hb hby at_60) rfl ?_
    exact kt)
  have hc61_45 : q2 = q2 := rfl
  have kn46 : ∀ t, own_S p e below T42 (mkF m 66 #[.val (.long q1), .second, .val (.long q2), .second, .val (.long q3), .second, .val (.ref b2), .val (.ref b32)] [(.ref b32)]) t → Gl t := fun t kt => kn44 t (by
    show own_S p e below T42 (mkF m 61 #[.val (.long q1), .second, .val (.long q2), .second, .val (.long q3), .second, .val (.ref b2), .val (.ref b32)] [(.int (lcmpW q2 q2))]) _
    refine XS.ifNo X42.here hx rfl (hb hby at_61) rfl ((if0 _ _).trans (teq ((lw_eq q2 q2).mpr hc61_45)).2) ?_
    show own_S p e below T42 (mkF m 64 #[.val (.long q1), .second, .val (.long q2), .second, .val (.long q3), .second, .val (.ref b2), .val (.ref b32)] []) _
    refine XS.aload X42.here hx rfl (hb hby at_64) rfl rfl ?_
    exact kt)
  obtain ⟨cq47, kq47, qa47, qb47, qc47⟩ := isOf hZ eq42 Ex32
  obtain ⟨_, _, ⟨T47, L47, cc47, ss47⟩, -, X47, ⟨Lc47, hQ47, l47, y47, z47⟩, st47⟩ := X42.virtualBack hx (y := (⟨"com/example/dual_delivery/dualdelivery/model/ReceiptHandle", "getToken", "()J"⟩ : MethodName)) (z := (⟨"com/example/dual_delivery/dualdelivery/model/ReceiptHandle", "getToken", "()J"⟩ : MethodName)) hown (mvT hZ (hw _ (List.mem_of_getElem? (i := 99) rfl))) (mvT hZ (hw _ (List.mem_of_getElem? (i := 100) rfl))) (notFace_of_selects (args := #[]) (mvT hZ (hw _ (List.mem_of_getElem? (i := 102) rfl)))) (mvT hZ (hw _ (List.mem_of_getElem? (i := 102) rfl))) (mvT hZ (hw _ (List.mem_of_getElem? (i := 101) rfl))) (by decide) (backOf (W := 0) (rm21 l Z a0 hw [] b32 q3 T32.heap n0 Z33 Fl32_2) hZ (hw _ (List.mem_of_getElem? (i := 103) rfl)) (hw _ (List.mem_of_getElem? (i := 40) rfl)) (by decide) (by decide)) qa47 qc47 (g := (mkF m 66 #[.val (.long q1), .second, .val (.long q2), .second, .val (.long q3), .second, .val (.ref b2), .val (.ref b32)] [(.ref b32)])) rfl (by rw [hml]; rfl) (Steps.refl _) (argsL := []) (rest := []) (lenOf pd_8 rfl) rfl (by show 2 * 0 + _ ≤ _; exact Nat.le_of_eq rfl) (hb hby at_66) (fun _ _ => ⟨rfl, eq42, (by decide : 4 + 0 ≤ _), (by decide : 103 + 0 ≤ _)⟩)
  dsimp only [Pt.U, Pt.locs, Pt.cells, Pt.slots] at X47 l47 y47 z47 st47 hQ47
  subst l47 y47 z47
  have X47 : Stand p l e _ _ m _ below meth c T47 _ 4 103 := X47
  obtain ⟨rfl, Nq47, eq47⟩ := hQ47
  have Nf47 := Fr.app Nf42 Nq47
  have kn48 : ∀ t, own_S p e below T47 (mkF m 69 #[.val (.long q1), .second, .val (.long q2), .second, .val (.long q3), .second, .val (.ref b2), .val (.ref b32)] [(.long q3)]) t → Gl t := fun t kt => kn46 t (st47.trans kt)
  have kn49 : ∀ t, own_S p e below T47 (mkF m 72 #[.val (.long q1), .second, .val (.long q2), .second, .val (.long q3), .second, .val (.ref b2), .val (.ref b32)] [(.int (lcmpW q3 q3))]) t → Gl t := fun t kt => kn48 t (by
    show own_S p e below T47 (mkF m 69 #[.val (.long q1), .second, .val (.long q2), .second, .val (.long q3), .second, .val (.ref b2), .val (.ref b32)] [(.long q3)]) _
    refine XS.lload X47.here hx rfl (hb hby at_69) rfl ?_
    show own_S p e below T47 (mkF m 71 #[.val (.long q1), .second, .val (.long q2), .second, .val (.long q3), .second, .val (.ref b2), .val (.ref b32)] [(.long q3), (.long q3)]) _
    refine XS.lcmp X47.here hx rfl (hb hby at_71) rfl ?_
    exact kt)
  have hc72_50 : q3 = q3 := rfl
  have kn51 : ∀ t, own_S p e below T47 (mkF m 80 #[.val (.long q1), .second, .val (.long q2), .second, .val (.long q3), .second, .val (.ref b2), .val (.ref b32)] [(.int (1 : Int32))]) t → Gl t := fun t kt => kn49 t (by
    show own_S p e below T47 (mkF m 72 #[.val (.long q1), .second, .val (.long q2), .second, .val (.long q3), .second, .val (.ref b2), .val (.ref b32)] [(.int (lcmpW q3 q3))]) _
    refine XS.ifNo X47.here hx rfl (hb hby at_72) rfl ((if0 _ _).trans (teq ((lw_eq q3 q3).mpr hc72_50)).2) ?_
    show own_S p e below T47 (mkF m 75 #[.val (.long q1), .second, .val (.long q2), .second, .val (.long q3), .second, .val (.ref b2), .val (.ref b32)] []) _
    refine XS.iconst X47.here hx rfl (hb hby at_75) ?_
    show own_S p e below T47 (mkF m 76 #[.val (.long q1), .second, .val (.long q2), .second, .val (.long q3), .second, .val (.ref b2), .val (.ref b32)] [(.int (1 : Int32))]) _
    refine XS.goto X47.here hx rfl (pc0 := 76) (pc' := 80) rfl (hb hby at_76) (by decide) (by decide) ?_
    exact kt)
  obtain ⟨fs, hr, hrun, hended, hW, hsame⟩ := X47.leave (v := some (.int (1 : Int32))) (fun h => by rw [Bd.returns] at h; cases h)
  refine ⟨_, _, hGl _ (kn51 _ (retN X47 hx (t := .boolean) Bd.returns (by simp) (hb hby at_80) hr)), hrun, hended, _, _, rfl, ?_, ⟨_, rfl⟩, hW, hsame.mono (by decide) (by decide)⟩
  show Q0 Z q1 q2 q3 G1 G3 h0 n0 _ T47.heap _
  rw [eq47]
  exact ⟨rfl, Nf47⟩

set_option maxRecDepth 65536 in
set_option maxHeartbeats 40000000 in
theorem comes_1 {Post : Tables → Env → Array Value → State → Outcome → State → Prop} (hpost : ∀ tb e args s v u, (limb_1_1.after args s (.returned v) u = true ∧ limb_1_2.after args s (.returned v) u = true ∧ True) → FrameEnd s (.returned v) u (Jvm.fieldLocs frame_1_writes args s ++ Jvm.arrayLocs frame_1_arrays args s ++ Jvm.staticLocs frame_1_statics s) 16 320 → Post tb e args s (.returned v) u) :
    ArmFor flags0 classFile x code maxLocals ret World_1 tables_1 room_1 Calls_1 rest_1 Pre_1 Post := by
  intro l hfl _ _ p e ha hc hk s m args below hf hA hF happ hP
  obtain ⟨hcalls, hrest, hpre⟩ := hP
  obtain ⟨-, -, -, hnamed, -, -, -, hat⟩ := (Spec.applies_iff hf).mp happ
  obtain ⟨hg, hn⟩ := and_e (Cond.before_iff.mp (show (Jvm.Cond.and given_1 narrow_1).before args s = true from hpre))
  obtain ⟨gc, gr0⟩ := and_e hg
  obtain ⟨ga0, gr1⟩ := and_e gr0
  obtain ⟨ga1, gr2⟩ := and_e gr1
  obtain ⟨w0, w1, w2, rfl⟩ : ∃ w0 w1 w2 : Value, args = #[w0, w1, w2] := by
    have hs : args.size = 3 := by simpa [Cond.value, given_1] using gc
    obtain ⟨L⟩ := args
    match L, hs with
    | [w0, w1, w2], _ => exact ⟨w0, w1, w2, rfl⟩
  have hw := fun d (hd : d ∈ tables_1) => atoms_spec (ws := Jvm.Cond.code x code maxLocals ret :: tables_1) hat d (List.mem_cons_of_mem _ hd)
  have hfit : Fit s := fun {y c} hc i hi => by
    obtain ⟨ha, rfl⟩ := Array.getElem?_eq_some_iff.mp hc
    have q := List.all_eq_true.mp ((Array.all_eq_true_iff_forall_mem.mp hF) _ (Array.getElem_mem ha)) i (List.mem_range.mpr hi)
    simpa [Array.getElem?_eq_getElem hi] using q
  obtain ⟨hsets, hown0⟩ := atoms_of _ (rest_1_c_eq ▸ (show rest_1_c.before _ s = true from hrest))
  have hr0 := Cond.before_iff.mp hown0
  obtain ⟨i0, ei0⟩ := isL_v ga0
  obtain rfl : w0 = (.long i0) := Option.some.inj ei0
  obtain ⟨i1, ei1⟩ := isL_v ga1
  obtain rfl : w1 = (.long i1) := Option.some.inj ei1
  obtain ⟨i2, ei2⟩ := isL_v gr2
  obtain rfl : w2 = (.long i2) := Option.some.inj ei2
  have n5 := not_v (Cond.before_iff.mp (hsets _ (List.mem_of_getElem? (i := 2) rfl)))
  obtain ⟨G1, e10⟩ := is_v (Cond.before_iff.mp (hsets _ (List.mem_of_getElem? (i := 1) rfl)))
  have S12 : Sta s s.heap "java/lang/String" "COMPACT_STRINGS" "Z" (.int G1) := Sta.start e10 (Or.inl (hsets _ (List.mem_of_getElem? (i := 0) rfl)))
  have c17 : ¬ (G1 = (0 : Int32)) := gotF (Cond.eq_ints e10 (Term.int_eval (0))) n5
  obtain ⟨G3, e14, r15⟩ := isR_v (Cond.before_iff.mp (hsets _ (List.mem_of_getElem? (i := 8) rfl)))
  have S16 : Sta s s.heap "jdk/internal/util/Preconditions" "SIOOBE_FORMATTER" "Ljava/util/function/BiFunction;" G3 := Sta.start e14 (Or.inl (hsets _ (List.mem_of_getElem? (i := 7) rfl)))
  obtain ⟨n, o, h1, h2, h3, _, L, rfl, ⟨rfl, N⟩, hq⟩ := rm0 l s _ hw tables_1 i0 i1 i2 G1 G3 s.heap s.heap.size (Nat.le_refl _) (Old.start s) S12 c17 S16 r15 p e ha hc hk s m _ below hf ((Spec.applies_iff_loose hf).mp happ).1 ⟨rfl, State.Warmed39.refl s, rfl⟩ trivial
  refine ⟨n, _, h1, h2, h3, hpost _ _ _ _ _ _ ⟨Cond.after_iff.mpr rfl, Cond.after_iff.mpr (eq_i res_at (Term.int_eval (1)) rfl), trivial⟩ ⟨hq.1, hq.2.1, (hq.2.2.sift fun y hy => Or.inr (N y hy)).mono (by decide) (by decide)⟩⟩
theorem main_1_1 : Claimed_1_1 := comes_1 fun _ _ _ _ _ _ h hF => ⟨h.1, hF⟩
theorem main_1_2 : Claimed_1_2 := comes_1 fun _ _ _ _ _ _ h hF => ⟨h.2.1, hF⟩

end Jvm.Pilot.@@N@@
namespace Jvm.Pilot.@@N@@
open Jvm Jvm.ClassFile Sem Op Lib Jvm.Free Jvm.Stand Jvm.Pilot.@@N@@.Jvm.D
/-! MADE BY PROGRAM (witnessworld.py) out of the Statement's table words and the real class files: 20 classes; the members and pool entries that the words name. The judged class is class 1, her method 1. -/
namespace start1
open Jvm.ClassFile
def u (s : String) : CpInfo := .utf8 (stringToUtf16 s)
/-- a pool by its gaps: so many unusable entries, then the entry; so many at the end -/
def gap : Nat → List CpInfo → List CpInfo
  | 0, r => r
  | n + 1, r => .unusable :: gap n r
def poolList (es : List (Nat × CpInfo)) (last : Nat) : List CpInfo := es.foldr (fun e r => gap e.1 (e.2 :: r)) (gap last [])
def pool (es : List (Nat × CpInfo)) (last : Nat) : Array CpInfo := ⟨poolList es last⟩
def fileOf (pool : Array CpInfo) (this : Nat) (attrs : Array Attribute := #[]) (ms : Array MethodInfo := #[]) (fl : Nat := 33) (sup : Nat := 0) (ifs : Array Nat := #[]) (fds : Array FieldInfo := #[]) : ClassFile where
  minorVersion := 0
  majorVersion := 65
  constantPool := pool
  accessFlags := fl
  thisClass := this
  superClass := sup
  interfaces := ifs
  fields := fds
  methods := ms
  attributes := attrs
def plain (name : String) (sup : Option ClassId) : Class where
  name := name
  kind := .ordinary
  loader := none
  accessFlags := 33
  super := sup
  interfaces := #[]
  cf := none
  fields := #[]
  methods := #[]
  instanceTypes := #[]
  staticTypes := #[]
  resolved := #[]
  callSites := []
  init := .initialized
  statics := none
  mirror := none

def pool0 : Array CpInfo := pool [(5, u "<init>"), (0, u "()V"), (1, .class_ 10), (1, u "java/lang/Object")] 113

def k0c0 : Code := { maxStack := 0, maxLocals := 1, code := object_method_1_code, exceptionTable := #[], attributes := #[] }
def k0m0 : Method := { name := "<init>", desc := "()V", sig := { parameters := [], returnType := none }, accessFlags := 1, code := some k0c0 }
/-- java/lang/Object -/
def k0 : Class := { plain "java/lang/Object" none with
  accessFlags := 33
  interfaces := #[]
  cf := some (fileOf pool0 8 #[] #[{ accessFlags := 1, nameIndex := 5, descriptorIndex := 6, attributes := #[] }] 33 0 #[] #[])
  fields := #[]
  methods := #[k0m0]
  instanceTypes := #[]
  staticTypes := #[]
  resolved := Array.replicate 124 none
  statics := none }

def pool1 : Array CpInfo := pool [(2, .class_ 4), (1, u "java/lang/Object"), (0, u "<init>"), (0, u "()V"), (0, .methodref 8 9), (0, .class_ 10), (0, .nameAndType 11 12), (0, u "com/example/dual_delivery/dualdelivery/model/ReceiptHandleParsePinLaw"), (0, u "put"), (0, u "([CIJ)V"), (0, .class_ 14), (0, u "java/lang/String"), (0, .methodref 13 16), (0, .nameAndType 5 17), (0, u "([C)V"), (0, .methodref 19 20), (0, .class_ 21), (0, .nameAndType 22 23), (0, u "com/example/dual_delivery/dualdelivery/model/ReceiptHandle"), (0, u "parse"), (0, u "(Ljava/lang/String;)Lcom/example/dual_delivery/dualdelivery/model/ReceiptHandle;"), (0, .methodref 19 25), (0, .nameAndType 26 27), (0, u "getMessageId"), (0, u "()J"), (0, .methodref 19 29), (0, .nameAndType 30 27), (0, u "getHiddenUntilMillis"), (0, .methodref 19 32), (0, .nameAndType 33 27), (0, u "getToken"), (0, .long 15), (1, .methodref 8 37), (0, .nameAndType 38 39), (0, u "hexDigit"), (0, u "(JI)C"), (2, u "law"), (0, u "(JJJ)Z")] 5

def k1m0 : Method := { name := "<init>", desc := "()V", sig := { parameters := [], returnType := none }, accessFlags := 1, code := none }
def k1c1 : Code := { maxStack := 4, maxLocals := 8, code := code, exceptionTable := #[], attributes := #[] }
def k1m1 : Method := { name := "law", desc := "(JJJ)Z", sig := { parameters := [.long, .long, .long], returnType := some .boolean }, accessFlags := 9, code := some k1c1 }
def k1c2 : Code := { maxStack := 4, maxLocals := 4, code := method_3_code, exceptionTable := #[], attributes := #[] }
def k1m2 : Method := { name := "hexDigit", desc := "(JI)C", sig := { parameters := [.long, .int], returnType := some .char }, accessFlags := 10, code := some k1c2 }
def k1c3 : Code := { maxStack := 5, maxLocals := 4, code := method_4_code, exceptionTable := #[], attributes := #[] }
def k1m3 : Method := { name := "put", desc := "([CIJ)V", sig := { parameters := [(.array .char), .int, .long], returnType := none }, accessFlags := 10, code := some k1c3 }
/-- com/example/dual_delivery/dualdelivery/model/ReceiptHandleParsePinLaw -/
def k1 : Class := { plain "com/example/dual_delivery/dualdelivery/model/ReceiptHandleParsePinLaw" (some 0) with
  accessFlags := 49
  interfaces := #[]
  cf := some (fileOf pool1 8 #[] #[{ accessFlags := 1, nameIndex := 5, descriptorIndex := 6, attributes := #[] }, { accessFlags := 9, nameIndex := 42, descriptorIndex := 43, attributes := #[] }, { accessFlags := 10, nameIndex := 38, descriptorIndex := 39, attributes := #[] }, { accessFlags := 10, nameIndex := 11, descriptorIndex := 12, attributes := #[] }] 49 2 #[] #[])
  fields := #[]
  methods := #[k1m0, k1m1, k1m2, k1m3]
  instanceTypes := #[]
  staticTypes := #[]
  resolved := Array.replicate 49 none
  statics := none }

def pool2 : Array CpInfo := pool [(1, .class_ 2), (0, u "java/io/Serializable"), (0, .class_ 4), (0, u "java/lang/Object")] 2

/-- java/io/Serializable -/
def k2 : Class := { plain "java/io/Serializable" (some 0) with
  accessFlags := 1537
  interfaces := #[]
  cf := some (fileOf pool2 1 #[] #[] 1537 3 #[] #[])
  fields := #[]
  methods := #[]
  instanceTypes := #[]
  staticTypes := #[]
  resolved := Array.replicate 7 none
  statics := none }

def pool3 : Array CpInfo := pool [(1, .class_ 2), (0, u "java/lang/Comparable"), (0, .class_ 4), (0, u "java/lang/Object")] 7

/-- java/lang/Comparable -/
def k3 : Class := { plain "java/lang/Comparable" (some 0) with
  accessFlags := 1537
  interfaces := #[]
  cf := some (fileOf pool3 1 #[] #[] 1537 3 #[] #[])
  fields := #[]
  methods := #[]
  instanceTypes := #[]
  staticTypes := #[]
  resolved := Array.replicate 12 none
  statics := none }

def pool4 : Array CpInfo := pool [(2, .class_ 4), (1, u "java/lang/CharSequence"), (42, .class_ 48), (0, u "java/lang/CharSequence$1CodePointIterator"), (10, .class_ 60), (0, u "java/lang/CharSequence$1CharIterator"), (5, .class_ 67), (0, u "java/lang/Object")] 63

/-- java/lang/CharSequence -/
def k4 : Class := { plain "java/lang/CharSequence" (some 0) with
  accessFlags := 1537
  interfaces := #[]
  cf := some (fileOf pool4 2 #[.nestMembers #[47, 59]] #[] 1537 66 #[] #[])
  fields := #[]
  methods := #[]
  instanceTypes := #[]
  staticTypes := #[]
  resolved := Array.replicate 131 none
  statics := none }

def pool5 : Array CpInfo := pool [(1, .class_ 2), (0, u "java/lang/constant/Constable"), (0, .class_ 4), (0, u "java/lang/Object")] 6

/-- java/lang/constant/Constable -/
def k5 : Class := { plain "java/lang/constant/Constable" (some 0) with
  accessFlags := 1537
  interfaces := #[]
  cf := some (fileOf pool5 1 #[] #[] 1537 3 #[] #[])
  fields := #[]
  methods := #[]
  instanceTypes := #[]
  staticTypes := #[]
  resolved := Array.replicate 11 none
  statics := none }

def pool6 : Array CpInfo := pool [(1, .class_ 2), (0, u "java/lang/constant/ConstantDesc"), (0, .class_ 4), (0, u "java/lang/Object")] 32

/-- java/lang/constant/ConstantDesc -/
def k6 : Class := { plain "java/lang/constant/ConstantDesc" (some 0) with
  accessFlags := 1537
  interfaces := #[]
  cf := some (fileOf pool6 1 #[] #[] 1537 3 #[] #[])
  fields := #[]
  methods := #[]
  instanceTypes := #[]
  staticTypes := #[]
  resolved := Array.replicate 37 none
  statics := none }

def pool7 : Array CpInfo := pool [(1, .methodref 2 3), (0, .class_ 4), (0, .nameAndType 5 6), (0, u "java/lang/Object"), (0, u "<init>"), (0, u "()V"), (2, .fieldref 10 11), (0, .class_ 12), (0, .nameAndType 13 14), (0, u "java/lang/String"), (0, u "value"), (0, u "[B"), (0, .fieldref 10 16), (0, .nameAndType 17 18), (0, u "coder"), (0, u "B"), (2, u "hash"), (0, u "I"), (2, u "hashIsZero"), (0, u "Z"), (0, .methodref 10 28), (0, .nameAndType 5 29), (0, u "([CIILjava/lang/Void;)V"), (8, .fieldref 10 39), (0, .nameAndType 40 26), (0, u "COMPACT_STRINGS"), (1, .class_ 44), (1, u "java/lang/StringUTF16"), (0, u "compress"), (1, .methodref 42 48), (0, .nameAndType 49 50), (0, u "coderFromArrayLen"), (0, u "([BI)B"), (56, .class_ 109), (1, u "java/lang/StringLatin1"), (32, u "()Z"), (34, .methodref 42 178), (0, .nameAndType 45 179), (0, u "([CII)[B"), (154, u "()I"), (0, .methodref 10 336), (0, .nameAndType 17 337), (0, u "()B"), (25, u "([BI)C"), (27, u "(II)V"), (35, u "(I)C"), (64, .methodref 10 493), (0, .nameAndType 494 142), (0, u "isLatin1"), (0, .methodref 107 496), (0, .nameAndType 497 363), (0, u "charAt"), (3, u "checkIndex"), (5, u "length"), (67, .class_ 576), (0, u "java/lang/CharSequence"), (22, u "CASE_INSENSITIVE_ORDER"), (0, u "Ljava/util/Comparator;"), (409, u "([C)V"), (42, .fieldref 1054 1055), (0, .class_ 1056), (0, .nameAndType 1057 1058), (0, u "jdk/internal/util/Preconditions"), (0, u "SIOOBE_FORMATTER"), (0, u "Ljava/util/function/BiFunction;"), (0, .methodref 1054 1060), (0, .nameAndType 501 1061), (0, u "(IILjava/util/function/BiFunction;)I"), (39, u "serialPersistentFields"), (0, u "[Ljava/io/ObjectStreamField;"), (0, .class_ 1104), (0, u "java/lang/String$CaseInsensitiveComparator"), (1, .class_ 1107), (0, u "java/io/Serializable"), (0, .class_ 1109), (0, u "java/lang/Comparable"), (0, .class_ 1111), (0, u "java/lang/constant/Constable"), (0, .class_ 1113), (0, u "java/lang/constant/ConstantDesc"), (2, u "serialVersionUID"), (0, u "J"), (3, u "REPL"), (0, u "C"), (2, u "LATIN1"), (1, u "UTF16")] 323

def k7m0 : Method := { name := "<init>", desc := "()V", sig := { parameters := [], returnType := none }, accessFlags := 1, code := none }
def k7c1 : Code := { maxStack := 5, maxLocals := 2, code := jdk_42_method_3_code, exceptionTable := #[], attributes := #[] }
def k7m1 : Method := { name := "<init>", desc := "([C)V", sig := { parameters := [(.array .char)], returnType := none }, accessFlags := 1, code := some k7c1 }
def k7c2 : Code := { maxStack := 2, maxLocals := 1, code := jdk_42_method_54_code, exceptionTable := #[], attributes := #[] }
def k7m2 : Method := { name := "length", desc := "()I", sig := { parameters := [], returnType := some .int }, accessFlags := 1, code := some k7c2 }
def k7c3 : Code := { maxStack := 2, maxLocals := 2, code := jdk_42_method_56_code, exceptionTable := #[], attributes := #[] }
def k7m3 : Method := { name := "charAt", desc := "(I)C", sig := { parameters := [.int], returnType := some .char }, accessFlags := 1, code := some k7c3 }
def k7c4 : Code := { maxStack := 4, maxLocals := 6, code := jdk_42_method_149_code, exceptionTable := #[], attributes := #[] }
def k7m4 : Method := { name := "<init>", desc := "([CIILjava/lang/Void;)V", sig := { parameters := [(.array .char), .int, .int, (.object "java/lang/Void")], returnType := none }, accessFlags := 2, code := some k7c4 }
def k7c5 : Code := { maxStack := 1, maxLocals := 1, code := jdk_42_method_152_code, exceptionTable := #[], attributes := #[] }
def k7m5 : Method := { name := "coder", desc := "()B", sig := { parameters := [], returnType := some .byte }, accessFlags := 0, code := some k7c5 }
def k7c6 : Code := { maxStack := 1, maxLocals := 1, code := jdk_42_method_154_code, exceptionTable := #[], attributes := #[] }
def k7m6 : Method := { name := "isLatin1", desc := "()Z", sig := { parameters := [], returnType := some .boolean }, accessFlags := 0, code := some k7c6 }
def k7c7 : Code := { maxStack := 3, maxLocals := 2, code := jdk_42_method_155_code, exceptionTable := #[], attributes := #[] }
def k7m7 : Method := { name := "checkIndex", desc := "(II)V", sig := { parameters := [.int, .int], returnType := none }, accessFlags := 8, code := some k7c7 }
/-- java/lang/String -/
def k7 : Class := { plain "java/lang/String" (some 0) with
  accessFlags := 49
  interfaces := #[2, 3, 4, 5, 6]
  cf := some (fileOf pool7 10 #[.nestMembers #[1103]] #[{ accessFlags := 1, nameIndex := 5, descriptorIndex := 6, attributes := #[] }, { accessFlags := 1, nameIndex := 5, descriptorIndex := 1010, attributes := #[] }, { accessFlags := 1, nameIndex := 507, descriptorIndex := 334, attributes := #[] }, { accessFlags := 1, nameIndex := 497, descriptorIndex := 427, attributes := #[] }, { accessFlags := 2, nameIndex := 5, descriptorIndex := 29, attributes := #[] }, { accessFlags := 0, nameIndex := 17, descriptorIndex := 337, attributes := #[] }, { accessFlags := 0, nameIndex := 494, descriptorIndex := 142, attributes := #[] }, { accessFlags := 8, nameIndex := 501, descriptorIndex := 391, attributes := #[] }] 49 2 #[1106, 1108, 575, 1110, 1112] #[{ accessFlags := 18, nameIndex := 13, descriptorIndex := 14, attributes := #[] }, { accessFlags := 18, nameIndex := 17, descriptorIndex := 18, attributes := #[] }, { accessFlags := 2, nameIndex := 21, descriptorIndex := 22, attributes := #[] }, { accessFlags := 2, nameIndex := 25, descriptorIndex := 26, attributes := #[] }, { accessFlags := 26, nameIndex := 1116, descriptorIndex := 1117, attributes := #[] }, { accessFlags := 24, nameIndex := 40, descriptorIndex := 26, attributes := #[] }, { accessFlags := 26, nameIndex := 1101, descriptorIndex := 1102, attributes := #[] }, { accessFlags := 26, nameIndex := 1121, descriptorIndex := 1122, attributes := #[] }, { accessFlags := 25, nameIndex := 599, descriptorIndex := 600, attributes := #[] }, { accessFlags := 24, nameIndex := 1125, descriptorIndex := 18, attributes := #[] }, { accessFlags := 24, nameIndex := 1127, descriptorIndex := 18, attributes := #[] }])
  fields := #[{ name := "value", type := (.array .byte), accessFlags := 18, slot := 0, constantValue := 0 }, { name := "coder", type := .byte, accessFlags := 18, slot := 1, constantValue := 0 }, { name := "hash", type := .int, accessFlags := 2, slot := 2, constantValue := 0 }, { name := "hashIsZero", type := .boolean, accessFlags := 2, slot := 3, constantValue := 0 }, { name := "serialVersionUID", type := .long, accessFlags := 26, slot := 0, constantValue := 0 }, { name := "COMPACT_STRINGS", type := .boolean, accessFlags := 24, slot := 1, constantValue := 0 }, { name := "serialPersistentFields", type := (.array (.object "java/io/ObjectStreamField")), accessFlags := 26, slot := 2, constantValue := 0 }, { name := "REPL", type := .char, accessFlags := 26, slot := 3, constantValue := 0 }, { name := "CASE_INSENSITIVE_ORDER", type := (.object "java/util/Comparator"), accessFlags := 25, slot := 4, constantValue := 0 }, { name := "LATIN1", type := .byte, accessFlags := 24, slot := 5, constantValue := 0 }, { name := "UTF16", type := .byte, accessFlags := 24, slot := 6, constantValue := 0 }]
  methods := #[k7m0, k7m1, k7m2, k7m3, k7m4, k7m5, k7m6, k7m7]
  instanceTypes := #[(.array .byte), .byte, .int, .boolean]
  staticTypes := #[.long, .boolean, (.array (.object "java/io/ObjectStreamField")), .char, (.object "java/util/Comparator"), .byte, .byte]
  resolved := Array.replicate 1451 none
  statics := some 0 }

def pool8 : Array CpInfo := pool [(6, .class_ 8), (1, u "java/lang/Object"), (0, u "<init>"), (0, u "()V"), (1, .class_ 14), (1, u "java/lang/StringUTF16"), (31, u "$assertionsDisabled"), (0, u "Z"), (13, u "HI_BYTE_SHIFT"), (0, u "I"), (2, u "LO_BYTE_SHIFT"), (49, .methodref 12 116), (0, .nameAndType 117 118), (0, u "compress"), (0, u "([CI[BII)I"), (3, u "([CII)[B"), (138, u "coderFromArrayLen"), (0, u "([BI)B"), (106, .class_ 371), (1, u "java/lang/StringUTF16$LinesSpliterator"), (58, u "MAX_LENGTH"), (196, .class_ 628), (0, u "java/lang/StringUTF16$CodePointsSpliterator"), (0, .class_ 630), (0, u "java/lang/StringUTF16$CharsSpliterator")] 4

def k8m0 : Method := { name := "<init>", desc := "()V", sig := { parameters := [], returnType := none }, accessFlags := 0, code := none }
def k8c1 : Code := { maxStack := 2, maxLocals := 2, code := jdk_52_method_15_code, exceptionTable := #[], attributes := #[] }
def k8m1 : Method := { name := "coderFromArrayLen", desc := "([BI)B", sig := { parameters := [(.array .byte), .int], returnType := some .byte }, accessFlags := 8, code := some k8c1 }
def k8c2 : Code := { maxStack := 5, maxLocals := 6, code := jdk_52_method_16_code, exceptionTable := #[], attributes := #[] }
def k8m2 : Method := { name := "compress", desc := "([CII)[B", sig := { parameters := [(.array .char), .int, .int], returnType := some (.array .byte) }, accessFlags := 9, code := some k8c2 }
def k8c3 : Code := { maxStack := 3, maxLocals := 7, code := jdk_52_method_21_code, exceptionTable := #[], attributes := #[] }
def k8m3 : Method := { name := "compress", desc := "([CI[BII)I", sig := { parameters := [(.array .char), .int, (.array .byte), .int, .int], returnType := some .int }, accessFlags := 9, code := some k8c3 }
/-- java/lang/StringUTF16 -/
def k8 : Class := { plain "java/lang/StringUTF16" (some 0) with
  accessFlags := 48
  interfaces := #[]
  cf := some (fileOf pool8 12 #[.nestMembers #[627, 629, 369]] #[{ accessFlags := 0, nameIndex := 9, descriptorIndex := 10, attributes := #[] }, { accessFlags := 8, nameIndex := 261, descriptorIndex := 262, attributes := #[] }, { accessFlags := 9, nameIndex := 117, descriptorIndex := 122, attributes := #[] }, { accessFlags := 9, nameIndex := 117, descriptorIndex := 118, attributes := #[] }] 48 6 #[] #[{ accessFlags := 26, nameIndex := 61, descriptorIndex := 62, attributes := #[] }, { accessFlags := 26, nameIndex := 65, descriptorIndex := 62, attributes := #[] }, { accessFlags := 24, nameIndex := 430, descriptorIndex := 62, attributes := #[] }, { accessFlags := 4120, nameIndex := 46, descriptorIndex := 47, attributes := #[] }])
  fields := #[{ name := "HI_BYTE_SHIFT", type := .int, accessFlags := 26, slot := 0, constantValue := 0 }, { name := "LO_BYTE_SHIFT", type := .int, accessFlags := 26, slot := 1, constantValue := 0 }, { name := "MAX_LENGTH", type := .int, accessFlags := 24, slot := 2, constantValue := 0 }, { name := "$assertionsDisabled", type := .boolean, accessFlags := 4120, slot := 3, constantValue := 0 }]
  methods := #[k8m0, k8m1, k8m2, k8m3]
  instanceTypes := #[]
  staticTypes := #[.int, .int, .int, .boolean]
  resolved := Array.replicate 635 none
  statics := none }

def pool9 : Array CpInfo := pool [(1, .methodref 2 3), (0, .class_ 4), (0, .nameAndType 5 6), (0, u "java/lang/Object"), (0, u "<init>"), (0, u "()V"), (0, .fieldref 8 9), (0, .class_ 10), (0, .nameAndType 11 12), (0, u "com/example/dual_delivery/dualdelivery/model/ReceiptHandle"), (0, u "messageId"), (0, u "J"), (0, .fieldref 8 14), (0, .nameAndType 15 12), (0, u "hiddenUntilMillis"), (0, .fieldref 8 17), (0, .nameAndType 18 12), (0, u "token"), (0, .methodref 20 21), (0, .class_ 22), (0, .nameAndType 23 24), (0, u "java/lang/String"), (0, u "length"), (0, u "()I"), (9, .methodref 8 35), (0, .nameAndType 36 37), (0, u "parseLong"), (0, u "(Ljava/lang/String;I)J"), (0, .methodref 8 39), (0, .nameAndType 5 40), (0, u "(JJJ)V"), (0, .methodref 20 42), (0, .nameAndType 43 44), (0, u "charAt"), (0, u "(I)C"), (22, u "TEXT_LENGTH"), (0, u "I"), (2, u "HEX_PER_LONG"), (3, u "parse"), (0, u "(Ljava/lang/String;)Lcom/example/dual_delivery/dualdelivery/model/ReceiptHandle;"), (1, u "getMessageId"), (0, u "()J"), (0, u "getHiddenUntilMillis"), (0, u "getToken")] 23

def k9c0 : Code := { maxStack := 3, maxLocals := 7, code := prog_17_method_1_code, exceptionTable := #[], attributes := #[] }
def k9m0 : Method := { name := "<init>", desc := "(JJJ)V", sig := { parameters := [.long, .long, .long], returnType := none }, accessFlags := 1, code := some k9c0 }
def k9c1 : Code := { maxStack := 8, maxLocals := 1, code := prog_17_method_2_code, exceptionTable := #[], attributes := #[] }
def k9m1 : Method := { name := "parse", desc := "(Ljava/lang/String;)Lcom/example/dual_delivery/dualdelivery/model/ReceiptHandle;", sig := { parameters := [(.object "java/lang/String")], returnType := some (.object "com/example/dual_delivery/dualdelivery/model/ReceiptHandle") }, accessFlags := 9, code := some k9c1 }
def k9c2 : Code := { maxStack := 4, maxLocals := 8, code := prog_17_method_3_code, exceptionTable := #[], attributes := #[] }
def k9m2 : Method := { name := "parseLong", desc := "(Ljava/lang/String;I)J", sig := { parameters := [(.object "java/lang/String"), .int], returnType := some .long }, accessFlags := 10, code := some k9c2 }
def k9c3 : Code := { maxStack := 2, maxLocals := 1, code := prog_17_method_4_code, exceptionTable := #[], attributes := #[] }
def k9m3 : Method := { name := "getMessageId", desc := "()J", sig := { parameters := [], returnType := some .long }, accessFlags := 1, code := some k9c3 }
def k9c4 : Code := { maxStack := 2, maxLocals := 1, code := prog_17_method_5_code, exceptionTable := #[], attributes := #[] }
def k9m4 : Method := { name := "getHiddenUntilMillis", desc := "()J", sig := { parameters := [], returnType := some .long }, accessFlags := 1, code := some k9c4 }
def k9c5 : Code := { maxStack := 2, maxLocals := 1, code := prog_17_method_6_code, exceptionTable := #[], attributes := #[] }
def k9m5 : Method := { name := "getToken", desc := "()J", sig := { parameters := [], returnType := some .long }, accessFlags := 1, code := some k9c5 }
/-- com/example/dual_delivery/dualdelivery/model/ReceiptHandle -/
def k9 : Class := { plain "com/example/dual_delivery/dualdelivery/model/ReceiptHandle" (some 0) with
  accessFlags := 49
  interfaces := #[]
  cf := some (fileOf pool9 8 #[] #[{ accessFlags := 1, nameIndex := 5, descriptorIndex := 40, attributes := #[] }, { accessFlags := 9, nameIndex := 75, descriptorIndex := 76, attributes := #[] }, { accessFlags := 10, nameIndex := 36, descriptorIndex := 37, attributes := #[] }, { accessFlags := 1, nameIndex := 78, descriptorIndex := 79, attributes := #[] }, { accessFlags := 1, nameIndex := 80, descriptorIndex := 79, attributes := #[] }, { accessFlags := 1, nameIndex := 81, descriptorIndex := 79, attributes := #[] }] 49 2 #[] #[{ accessFlags := 25, nameIndex := 67, descriptorIndex := 68, attributes := #[] }, { accessFlags := 26, nameIndex := 71, descriptorIndex := 68, attributes := #[] }, { accessFlags := 18, nameIndex := 11, descriptorIndex := 12, attributes := #[] }, { accessFlags := 18, nameIndex := 15, descriptorIndex := 12, attributes := #[] }, { accessFlags := 18, nameIndex := 18, descriptorIndex := 12, attributes := #[] }])
  fields := #[{ name := "TEXT_LENGTH", type := .int, accessFlags := 25, slot := 0, constantValue := 0 }, { name := "HEX_PER_LONG", type := .int, accessFlags := 26, slot := 1, constantValue := 0 }, { name := "messageId", type := .long, accessFlags := 18, slot := 0, constantValue := 0 }, { name := "hiddenUntilMillis", type := .long, accessFlags := 18, slot := 1, constantValue := 0 }, { name := "token", type := .long, accessFlags := 18, slot := 2, constantValue := 0 }]
  methods := #[k9m0, k9m1, k9m2, k9m3, k9m4, k9m5]
  instanceTypes := #[.long, .long, .long]
  staticTypes := #[.int, .int]
  resolved := Array.replicate 105 none
  statics := none }

def pool10 : Array CpInfo := pool [(1, .class_ 2), (0, u "java/lang/String"), (1, .class_ 6), (1, u "java/lang/Object"), (0, u "<init>"), (0, u "()V"), (0, .methodref 1 10), (0, .nameAndType 11 12), (0, u "checkIndex"), (0, u "(II)V"), (1, .class_ 16), (1, u "java/lang/StringLatin1"), (36, u "([BI)C"), (67, u "$assertionsDisabled"), (0, u "Z"), (98, .class_ 223), (1, u "java/lang/StringLatin1$LinesSpliterator"), (28, u "charAt"), (137, .class_ 391), (0, u "java/lang/StringLatin1$CharsSpliterator")] 3

def k10m0 : Method := { name := "<init>", desc := "()V", sig := { parameters := [], returnType := none }, accessFlags := 0, code := none }
def k10c1 : Code := { maxStack := 2, maxLocals := 2, code := jdk_43_method_2_code, exceptionTable := #[], attributes := #[] }
def k10m1 : Method := { name := "charAt", desc := "([BI)C", sig := { parameters := [(.array .byte), .int], returnType := some .char }, accessFlags := 9, code := some k10c1 }
/-- java/lang/StringLatin1 -/
def k10 : Class := { plain "java/lang/StringLatin1" (some 0) with
  accessFlags := 48
  interfaces := #[]
  cf := some (fileOf pool10 14 #[.nestMembers #[390, 221]] #[{ accessFlags := 0, nameIndex := 7, descriptorIndex := 8, attributes := #[] }, { accessFlags := 9, nameIndex := 252, descriptorIndex := 53, attributes := #[] }] 48 4 #[] #[{ accessFlags := 4120, nameIndex := 121, descriptorIndex := 122, attributes := #[] }])
  fields := #[{ name := "$assertionsDisabled", type := .boolean, accessFlags := 4120, slot := 0, constantValue := 0 }]
  methods := #[k10m0, k10m1]
  instanceTypes := #[]
  staticTypes := #[.boolean]
  resolved := Array.replicate 395 none
  statics := none }

def pool11 : Array CpInfo := pool [(2, .class_ 4), (1, u "java/lang/Object"), (0, u "<init>"), (0, u "()V"), (17, .class_ 26), (1, u "jdk/internal/util/Preconditions"), (6, u "checkIndex"), (21, .class_ 56), (0, u "jdk/internal/util/Preconditions$4"), (57, .class_ 115), (0, u "jdk/internal/util/Preconditions$1"), (7, u "SIOOBE_FORMATTER"), (0, u "Ljava/util/function/BiFunction;"), (0, .class_ 126), (0, u "jdk/internal/util/Preconditions$2"), (3, u "AIOOBE_FORMATTER"), (0, .class_ 132), (0, u "jdk/internal/util/Preconditions$3"), (3, u "IOOBE_FORMATTER"), (41, u "(IILjava/util/function/BiFunction;)I")] 15

def k11m0 : Method := { name := "<init>", desc := "()V", sig := { parameters := [], returnType := none }, accessFlags := 1, code := none }
def k11c1 : Code := { maxStack := 3, maxLocals := 3, code := jdk_41_method_11_code, exceptionTable := #[], attributes := #[] }
def k11m1 : Method := { name := "checkIndex", desc := "(IILjava/util/function/BiFunction;)I", sig := { parameters := [.int, .int, (.object "java/util/function/BiFunction")], returnType := some .int }, accessFlags := 9, code := some k11c1 }
/-- jdk/internal/util/Preconditions -/
def k11 : Class := { plain "jdk/internal/util/Preconditions" (some 0) with
  accessFlags := 33
  interfaces := #[]
  cf := some (fileOf pool11 24 #[.nestMembers #[55, 131, 125, 114]] #[{ accessFlags := 1, nameIndex := 5, descriptorIndex := 6, attributes := #[] }, { accessFlags := 9, nameIndex := 33, descriptorIndex := 178, attributes := #[] }] 33 2 #[] #[{ accessFlags := 25, nameIndex := 123, descriptorIndex := 124, attributes := #[] }, { accessFlags := 25, nameIndex := 130, descriptorIndex := 124, attributes := #[] }, { accessFlags := 25, nameIndex := 136, descriptorIndex := 124, attributes := #[] }])
  fields := #[{ name := "SIOOBE_FORMATTER", type := (.object "java/util/function/BiFunction"), accessFlags := 25, slot := 0, constantValue := 0 }, { name := "AIOOBE_FORMATTER", type := (.object "java/util/function/BiFunction"), accessFlags := 25, slot := 1, constantValue := 0 }, { name := "IOOBE_FORMATTER", type := (.object "java/util/function/BiFunction"), accessFlags := 25, slot := 2, constantValue := 0 }]
  methods := #[k11m0, k11m1]
  instanceTypes := #[]
  staticTypes := #[(.object "java/util/function/BiFunction"), (.object "java/util/function/BiFunction"), (.object "java/util/function/BiFunction")]
  resolved := Array.replicate 194 none
  statics := some 1 }

def pool12 : Array CpInfo := pool [(9, u "<init>"), (6, .class_ 18), (1, u "java/lang/Object"), (0, u "()V"), (1, .class_ 23), (1, u "jdk/internal/util/ArraysSupport"), (0, u "LOG2_ARRAY_LONG_INDEX_SCALE"), (0, u "I"), (2, u "U"), (0, u "Ljdk/internal/misc/Unsafe;"), (8, u "BIG_ENDIAN"), (0, u "Z"), (8, u "LOG2_BYTE_BIT_SIZE"), (4, u "LOG2_ARRAY_INT_INDEX_SCALE"), (54, u "JLA"), (0, u "Ljdk/internal/access/JavaLangAccess;"), (11, u "LOG2_ARRAY_BOOLEAN_INDEX_SCALE"), (9, u "LOG2_ARRAY_BYTE_INDEX_SCALE"), (5, u "LOG2_ARRAY_CHAR_INDEX_SCALE"), (5, u "LOG2_ARRAY_SHORT_INDEX_SCALE"), (18, u "LOG2_ARRAY_FLOAT_INDEX_SCALE"), (24, u "LOG2_ARRAY_DOUBLE_INDEX_SCALE"), (89, u "T_BOOLEAN"), (2, u "T_CHAR"), (1, u "T_FLOAT"), (1, u "T_DOUBLE"), (1, u "T_BYTE"), (1, u "T_SHORT"), (1, u "T_INT"), (1, u "T_LONG"), (1, u "SOFT_MAX_ARRAY_LENGTH")] 83

def k12m0 : Method := { name := "<init>", desc := "()V", sig := { parameters := [], returnType := none }, accessFlags := 2, code := none }
/-- jdk/internal/util/ArraysSupport -/
def k12 : Class := { plain "jdk/internal/util/ArraysSupport" (some 0) with
  accessFlags := 33
  interfaces := #[]
  cf := some (fileOf pool12 21 #[] #[{ accessFlags := 2, nameIndex := 9, descriptorIndex := 19, attributes := #[] }] 33 16 #[] #[{ accessFlags := 24, nameIndex := 28, descriptorIndex := 29, attributes := #[] }, { accessFlags := 26, nameIndex := 38, descriptorIndex := 39, attributes := #[] }, { accessFlags := 25, nameIndex := 121, descriptorIndex := 25, attributes := #[] }, { accessFlags := 25, nameIndex := 131, descriptorIndex := 25, attributes := #[] }, { accessFlags := 25, nameIndex := 137, descriptorIndex := 25, attributes := #[] }, { accessFlags := 25, nameIndex := 143, descriptorIndex := 25, attributes := #[] }, { accessFlags := 25, nameIndex := 53, descriptorIndex := 25, attributes := #[] }, { accessFlags := 25, nameIndex := 24, descriptorIndex := 25, attributes := #[] }, { accessFlags := 25, nameIndex := 162, descriptorIndex := 25, attributes := #[] }, { accessFlags := 25, nameIndex := 187, descriptorIndex := 25, attributes := #[] }, { accessFlags := 26, nameIndex := 48, descriptorIndex := 25, attributes := #[] }, { accessFlags := 25, nameIndex := 277, descriptorIndex := 25, attributes := #[] }, { accessFlags := 25, nameIndex := 280, descriptorIndex := 25, attributes := #[] }, { accessFlags := 25, nameIndex := 282, descriptorIndex := 25, attributes := #[] }, { accessFlags := 25, nameIndex := 284, descriptorIndex := 25, attributes := #[] }, { accessFlags := 25, nameIndex := 286, descriptorIndex := 25, attributes := #[] }, { accessFlags := 25, nameIndex := 288, descriptorIndex := 25, attributes := #[] }, { accessFlags := 25, nameIndex := 290, descriptorIndex := 25, attributes := #[] }, { accessFlags := 25, nameIndex := 292, descriptorIndex := 25, attributes := #[] }, { accessFlags := 26, nameIndex := 108, descriptorIndex := 109, attributes := #[] }, { accessFlags := 25, nameIndex := 294, descriptorIndex := 25, attributes := #[] }])
  fields := #[{ name := "U", type := (.object "jdk/internal/misc/Unsafe"), accessFlags := 24, slot := 0, constantValue := 0 }, { name := "BIG_ENDIAN", type := .boolean, accessFlags := 26, slot := 1, constantValue := 0 }, { name := "LOG2_ARRAY_BOOLEAN_INDEX_SCALE", type := .int, accessFlags := 25, slot := 2, constantValue := 0 }, { name := "LOG2_ARRAY_BYTE_INDEX_SCALE", type := .int, accessFlags := 25, slot := 3, constantValue := 0 }, { name := "LOG2_ARRAY_CHAR_INDEX_SCALE", type := .int, accessFlags := 25, slot := 4, constantValue := 0 }, { name := "LOG2_ARRAY_SHORT_INDEX_SCALE", type := .int, accessFlags := 25, slot := 5, constantValue := 0 }, { name := "LOG2_ARRAY_INT_INDEX_SCALE", type := .int, accessFlags := 25, slot := 6, constantValue := 0 }, { name := "LOG2_ARRAY_LONG_INDEX_SCALE", type := .int, accessFlags := 25, slot := 7, constantValue := 0 }, { name := "LOG2_ARRAY_FLOAT_INDEX_SCALE", type := .int, accessFlags := 25, slot := 8, constantValue := 0 }, { name := "LOG2_ARRAY_DOUBLE_INDEX_SCALE", type := .int, accessFlags := 25, slot := 9, constantValue := 0 }, { name := "LOG2_BYTE_BIT_SIZE", type := .int, accessFlags := 26, slot := 10, constantValue := 0 }, { name := "T_BOOLEAN", type := .int, accessFlags := 25, slot := 11, constantValue := 0 }, { name := "T_CHAR", type := .int, accessFlags := 25, slot := 12, constantValue := 0 }, { name := "T_FLOAT", type := .int, accessFlags := 25, slot := 13, constantValue := 0 }, { name := "T_DOUBLE", type := .int, accessFlags := 25, slot := 14, constantValue := 0 }, { name := "T_BYTE", type := .int, accessFlags := 25, slot := 15, constantValue := 0 }, { name := "T_SHORT", type := .int, accessFlags := 25, slot := 16, constantValue := 0 }, { name := "T_INT", type := .int, accessFlags := 25, slot := 17, constantValue := 0 }, { name := "T_LONG", type := .int, accessFlags := 25, slot := 18, constantValue := 0 }, { name := "JLA", type := (.object "jdk/internal/access/JavaLangAccess"), accessFlags := 26, slot := 19, constantValue := 0 }, { name := "SOFT_MAX_ARRAY_LENGTH", type := .int, accessFlags := 25, slot := 20, constantValue := 0 }]
  methods := #[k12m0]
  instanceTypes := #[]
  staticTypes := #[(.object "jdk/internal/misc/Unsafe"), .boolean, .int, .int, .int, .int, .int, .int, .int, .int, .int, .int, .int, .int, .int, .int, .int, .int, .int, (.object "jdk/internal/access/JavaLangAccess"), .int]
  resolved := Array.replicate 378 none
  statics := none }

def pool13 : Array CpInfo := pool [(1, u "java/lang/Cloneable"), (0, .class_ 1), (0, u "java/lang/Object"), (0, .class_ 3)] 3

/-- java/lang/Cloneable -/
def k13 : Class := { plain "java/lang/Cloneable" (some 0) with
  accessFlags := 1537
  interfaces := #[]
  cf := some (fileOf pool13 2 #[] #[] 1537 4 #[] #[])
  fields := #[]
  methods := #[]
  instanceTypes := #[]
  staticTypes := #[]
  resolved := Array.replicate 8 none
  statics := none }

/-- the primitive byte -/
def k14 : Class := { plain "byte" none with kind := .primitive 'B', accessFlags := 0x411 }
/-- [B -/
def k15 : Class := { plain "[B" (some 0) with kind := .array 14 .byte, interfaces := #[13, 2], accessFlags := 1041 }

/-- the primitive char -/
def k16 : Class := { plain "char" none with kind := .primitive 'C', accessFlags := 0x411 }
/-- [C -/
def k17 : Class := { plain "[C" (some 0) with kind := .array 16 .char, interfaces := #[13, 2], accessFlags := 1041 }

/-- the primitive int -/
def k18 : Class := { plain "int" none with kind := .primitive 'I', accessFlags := 0x411 }
/-- [I -/
def k19 : Class := { plain "[I" (some 0) with kind := .array 18 .int, interfaces := #[13, 2], accessFlags := 1041 }

def heap : Heap := #[{ cls := 7, slots := #[.long 0, .int 1, .null, .int 0, .null, .int 0, .int 0], vm := .statics 7 },
  { cls := 11, slots := #[.null, .null, .null], vm := .statics 11 }]
def classes : Array Class := #[k0, k1, k2, k3, k4, k5, k6, k7, k8, k9, k10, k11, k12, k13, k14, k15, k16, k17, k18, k19]
def interned : List (Array UInt16 × Addr) := []
def slotsUsed : Nat := 10
def theMethod : MethodId := ⟨1, 1⟩
def args0 : Array Value := #[.long 1, .long 2, .long 3]
def aboutOver (below : List Frame) : State where
  vm := { classes := classes, interned := interned.toArray }
  heap := heap
  slotsUsed := slotsUsed
  threads := #[{ frames := .invoking theMethod args0 :: below }]
def below0 : List Frame := [.native { method := ⟨0, 0⟩, args := #[] }]
def about1 : State := aboutOver below0
def p0 : Program := .bare "" "" ""
def e0 : Env := launch0.env 0 0 0
theorem w_frames : about1.frames = Frame.invoking theMethod args0 :: below0 := rfl
set_option maxRecDepth 65536 in
theorem w_args : argsFit about1.vm theMethod args0 = true := by decide +kernel
set_option maxRecDepth 65536 in
theorem w_heap : heapFits about1 = true := by decide +kernel
set_option maxRecDepth 65536 in
theorem w_runnable : about1.curStatus? = some .runnable := by decide +kernel
set_option maxRecDepth 65536 in
theorem w_alone : about1.alone = true := by decide +kernel
set_option maxRecDepth 65536 in
theorem w_named : about1.methodNamed? x = some theMethod := by decide +kernel
set_option maxRecDepth 65536 in
theorem w_hears : about1.hears theMethod below0 = true := by decide +kernel
set_option maxRecDepth 65536 in
theorem w_ripe : about1.ripe theMethod args0 below0 = true := by decide +kernel
theorem w_running : about1.status = .running := rfl
set_option maxRecDepth 65536 in
theorem w_room : about1.hasRoom e0.platform room_1 = true :=
  launch0.hasRoom_least _ room_1 (by decide +kernel) (by decide +kernel) (by decide +kernel) (by decide +kernel) (by decide +kernel) (by decide +kernel)
theorem allAtoms_all (ts : List Jvm.Cond) (a : Array Jvm.Value) (st : Jvm.State) : (allAtoms ts).before a st = ts.all (fun c => c.before a st) := by
  induction ts with
  | nil => rfl
  | cons c t ih =>
    show (Jvm.Cond.and c (allAtoms t)).before a st = _
    rw [Jvm.Cond.before_and, ih, List.all_cons]
def words1 : List Jvm.Cond := Jvm.Cond.code x code maxLocals ret :: tables_1
/-- a 'code' word, met by the world's own term for the bytes: nothing is compared byte by byte -/
theorem code_word {y : MethodName} {bytes : ByteArray} {mx : Nat} {rt : Option FieldType} {a : Array Value} {s : State} {m : MethodId} {meth : Method} {c : Code} (h1 : s.methodNamed? y = some m) (h2 : s.vm.method? m = some meth) (h3 : meth.code = some c) (h4 : c.code = bytes)
    (h5 : (c.maxLocals == mx && c.exceptionTable.isEmpty && decide (c.maxStack ≤ mostOperands) && decide (meth.sig.returnType = rt) && !meth.locks && decide (parseMethodDescriptor y.desc = some meth.sig)) = true) : (Jvm.Cond.code y bytes mx rt).before a s = true := by
  simp only [Bool.and_eq_true, beq_iff_eq, Bool.not_eq_true', decide_eq_true_eq] at h5
  obtain ⟨⟨⟨⟨⟨g1, g2⟩, g3⟩, g4⟩, g5⟩, g6⟩ := h5
  simp [Cond.before, Cond.holds, Cond.value, h1, h2, h3, h4, g1, g2, g3, g4, g5, g6]
def isCode : Jvm.Cond → Bool
  | .code _ _ _ _ => true
  | _ => false
theorem all_split {L : List Jvm.Cond} {P : Jvm.Cond → Bool} (h1 : L.all (fun c => isCode c || P c) = true) (h2 : ∀ c ∈ L.filter isCode, P c = true) : L.all P = true := by
  refine List.all_eq_true.mpr fun c hc => ?_
  have h := List.all_eq_true.mp h1 c hc
  rcases Bool.eq_false_or_eq_true (isCode c) with hi | hi
  · exact h2 c (List.mem_filter.mpr ⟨hc, hi⟩)
  · simpa [hi] using h
set_option maxRecDepth 65536 in
theorem w_c0 : (Jvm.Cond.code x code maxLocals ret).before args0 about1 = true := code_word (m := ⟨1, 1⟩) (meth := k1m1) (c := k1c1) (by decide +kernel) rfl rfl rfl (by decide +kernel)
set_option maxRecDepth 65536 in
theorem w_c1 : (Jvm.Cond.code ({ cls := "com/example/dual_delivery/dualdelivery/model/ReceiptHandleParsePinLaw", name := "put", desc := "([CIJ)V" } : Jvm.MethodName) method_4_code (4 : Nat) (Option.none : Option Jvm.ClassFile.FieldType)).before args0 about1 = true := code_word (m := ⟨1, 3⟩) (meth := k1m3) (c := k1c3) (by decide +kernel) rfl rfl rfl (by decide +kernel)
set_option maxRecDepth 65536 in
theorem w_c2 : (Jvm.Cond.code ({ cls := "com/example/dual_delivery/dualdelivery/model/ReceiptHandleParsePinLaw", name := "hexDigit", desc := "(JI)C" } : Jvm.MethodName) method_3_code (4 : Nat) (Option.some Jvm.ClassFile.FieldType.char)).before args0 about1 = true := code_word (m := ⟨1, 2⟩) (meth := k1m2) (c := k1c2) (by decide +kernel) rfl rfl rfl (by decide +kernel)
set_option maxRecDepth 65536 in
theorem w_c3 : (Jvm.Cond.code ({ cls := "java/lang/String", name := "<init>", desc := "([C)V" } : Jvm.MethodName) jdk_42_method_3_code (2 : Nat) (Option.none : Option Jvm.ClassFile.FieldType)).before args0 about1 = true := code_word (m := ⟨7, 1⟩) (meth := k7m1) (c := k7c1) (by decide +kernel) rfl rfl rfl (by decide +kernel)
set_option maxRecDepth 65536 in
theorem w_c4 : (Jvm.Cond.code ({ cls := "java/lang/String", name := "<init>", desc := "([CIILjava/lang/Void;)V" } : Jvm.MethodName) jdk_42_method_149_code (6 : Nat) (Option.none : Option Jvm.ClassFile.FieldType)).before args0 about1 = true := code_word (m := ⟨7, 4⟩) (meth := k7m4) (c := k7c4) (by decide +kernel) rfl rfl rfl (by decide +kernel)
set_option maxRecDepth 65536 in
theorem w_c5 : (Jvm.Cond.code ({ cls := "java/lang/Object", name := "<init>", desc := "()V" } : Jvm.MethodName) object_method_1_code (1 : Nat) (Option.none : Option Jvm.ClassFile.FieldType)).before args0 about1 = true := code_word (m := ⟨0, 0⟩) (meth := k0m0) (c := k0c0) (by decide +kernel) rfl rfl rfl (by decide +kernel)
set_option maxRecDepth 65536 in
theorem w_c6 : (Jvm.Cond.code ({ cls := "java/lang/StringUTF16", name := "compress", desc := "([CII)[B" } : Jvm.MethodName) jdk_52_method_16_code (6 : Nat) (Option.some (Jvm.ClassFile.FieldType.array Jvm.ClassFile.FieldType.byte))).before args0 about1 = true := code_word (m := ⟨8, 2⟩) (meth := k8m2) (c := k8c2) (by decide +kernel) rfl rfl rfl (by decide +kernel)
set_option maxRecDepth 65536 in
theorem w_c7 : (Jvm.Cond.code ({ cls := "java/lang/StringUTF16", name := "compress", desc := "([CI[BII)I" } : Jvm.MethodName) jdk_52_method_21_code (7 : Nat) (Option.some Jvm.ClassFile.FieldType.int)).before args0 about1 = true := code_word (m := ⟨8, 3⟩) (meth := k8m3) (c := k8c3) (by decide +kernel) rfl rfl rfl (by decide +kernel)
set_option maxRecDepth 65536 in
theorem w_c8 : (Jvm.Cond.code ({ cls := "java/lang/StringUTF16", name := "coderFromArrayLen", desc := "([BI)B" } : Jvm.MethodName) jdk_52_method_15_code (2 : Nat) (Option.some Jvm.ClassFile.FieldType.byte)).before args0 about1 = true := code_word (m := ⟨8, 1⟩) (meth := k8m1) (c := k8c1) (by decide +kernel) rfl rfl rfl (by decide +kernel)
set_option maxRecDepth 65536 in
theorem w_c9 : (Jvm.Cond.code ({ cls := "com/example/dual_delivery/dualdelivery/model/ReceiptHandle", name := "parse", desc := "(Ljava/lang/String;)Lcom/example/dual_delivery/dualdelivery/model/ReceiptHandle;" } : Jvm.MethodName) prog_17_method_2_code (1 : Nat) (Option.some (Jvm.ClassFile.FieldType.object "com/example/dual_delivery/dualdelivery/model/ReceiptHandle"))).before args0 about1 = true := code_word (m := ⟨9, 1⟩) (meth := k9m1) (c := k9c1) (by decide +kernel) rfl rfl rfl (by decide +kernel)
set_option maxRecDepth 65536 in
theorem w_c10 : (Jvm.Cond.code ({ cls := "java/lang/String", name := "length", desc := "()I" } : Jvm.MethodName) jdk_42_method_54_code (1 : Nat) (Option.some Jvm.ClassFile.FieldType.int)).before args0 about1 = true := code_word (m := ⟨7, 2⟩) (meth := k7m2) (c := k7c2) (by decide +kernel) rfl rfl rfl (by decide +kernel)
set_option maxRecDepth 65536 in
theorem w_c11 : (Jvm.Cond.code ({ cls := "java/lang/String", name := "coder", desc := "()B" } : Jvm.MethodName) jdk_42_method_152_code (1 : Nat) (Option.some Jvm.ClassFile.FieldType.byte)).before args0 about1 = true := code_word (m := ⟨7, 5⟩) (meth := k7m5) (c := k7c5) (by decide +kernel) rfl rfl rfl (by decide +kernel)
set_option maxRecDepth 65536 in
theorem w_c12 : (Jvm.Cond.code ({ cls := "com/example/dual_delivery/dualdelivery/model/ReceiptHandle", name := "parseLong", desc := "(Ljava/lang/String;I)J" } : Jvm.MethodName) prog_17_method_3_code (8 : Nat) (Option.some Jvm.ClassFile.FieldType.long)).before args0 about1 = true := code_word (m := ⟨9, 2⟩) (meth := k9m2) (c := k9c2) (by decide +kernel) rfl rfl rfl (by decide +kernel)
set_option maxRecDepth 65536 in
theorem w_c13 : (Jvm.Cond.code ({ cls := "java/lang/String", name := "charAt", desc := "(I)C" } : Jvm.MethodName) jdk_42_method_56_code (2 : Nat) (Option.some Jvm.ClassFile.FieldType.char)).before args0 about1 = true := code_word (m := ⟨7, 3⟩) (meth := k7m3) (c := k7c3) (by decide +kernel) rfl rfl rfl (by decide +kernel)
set_option maxRecDepth 65536 in
theorem w_c14 : (Jvm.Cond.code ({ cls := "java/lang/String", name := "isLatin1", desc := "()Z" } : Jvm.MethodName) jdk_42_method_154_code (1 : Nat) (Option.some Jvm.ClassFile.FieldType.boolean)).before args0 about1 = true := code_word (m := ⟨7, 6⟩) (meth := k7m6) (c := k7c6) (by decide +kernel) rfl rfl rfl (by decide +kernel)
set_option maxRecDepth 65536 in
theorem w_c15 : (Jvm.Cond.code ({ cls := "java/lang/StringLatin1", name := "charAt", desc := "([BI)C" } : Jvm.MethodName) jdk_43_method_2_code (2 : Nat) (Option.some Jvm.ClassFile.FieldType.char)).before args0 about1 = true := code_word (m := ⟨10, 1⟩) (meth := k10m1) (c := k10c1) (by decide +kernel) rfl rfl rfl (by decide +kernel)
set_option maxRecDepth 65536 in
theorem w_c16 : (Jvm.Cond.code ({ cls := "java/lang/String", name := "checkIndex", desc := "(II)V" } : Jvm.MethodName) jdk_42_method_155_code (2 : Nat) (Option.none : Option Jvm.ClassFile.FieldType)).before args0 about1 = true := code_word (m := ⟨7, 7⟩) (meth := k7m7) (c := k7c7) (by decide +kernel) rfl rfl rfl (by decide +kernel)
set_option maxRecDepth 65536 in
theorem w_c17 : (Jvm.Cond.code ({ cls := "jdk/internal/util/Preconditions", name := "checkIndex", desc := "(IILjava/util/function/BiFunction;)I" } : Jvm.MethodName) jdk_41_method_11_code (3 : Nat) (Option.some Jvm.ClassFile.FieldType.int)).before args0 about1 = true := code_word (m := ⟨11, 1⟩) (meth := k11m1) (c := k11c1) (by decide +kernel) rfl rfl rfl (by decide +kernel)
set_option maxRecDepth 65536 in
theorem w_c18 : (Jvm.Cond.code ({ cls := "com/example/dual_delivery/dualdelivery/model/ReceiptHandle", name := "<init>", desc := "(JJJ)V" } : Jvm.MethodName) prog_17_method_1_code (7 : Nat) (Option.none : Option Jvm.ClassFile.FieldType)).before args0 about1 = true := code_word (m := ⟨9, 0⟩) (meth := k9m0) (c := k9c0) (by decide +kernel) rfl rfl rfl (by decide +kernel)
set_option maxRecDepth 65536 in
theorem w_c19 : (Jvm.Cond.code ({ cls := "com/example/dual_delivery/dualdelivery/model/ReceiptHandle", name := "getMessageId", desc := "()J" } : Jvm.MethodName) prog_17_method_4_code (1 : Nat) (Option.some Jvm.ClassFile.FieldType.long)).before args0 about1 = true := code_word (m := ⟨9, 3⟩) (meth := k9m3) (c := k9c3) (by decide +kernel) rfl rfl rfl (by decide +kernel)
set_option maxRecDepth 65536 in
theorem w_c20 : (Jvm.Cond.code ({ cls := "com/example/dual_delivery/dualdelivery/model/ReceiptHandle", name := "getHiddenUntilMillis", desc := "()J" } : Jvm.MethodName) prog_17_method_5_code (1 : Nat) (Option.some Jvm.ClassFile.FieldType.long)).before args0 about1 = true := code_word (m := ⟨9, 4⟩) (meth := k9m4) (c := k9c4) (by decide +kernel) rfl rfl rfl (by decide +kernel)
set_option maxRecDepth 65536 in
theorem w_c21 : (Jvm.Cond.code ({ cls := "com/example/dual_delivery/dualdelivery/model/ReceiptHandle", name := "getToken", desc := "()J" } : Jvm.MethodName) prog_17_method_6_code (1 : Nat) (Option.some Jvm.ClassFile.FieldType.long)).before args0 about1 = true := code_word (m := ⟨9, 5⟩) (meth := k9m5) (c := k9c5) (by decide +kernel) rfl rfl rfl (by decide +kernel)
def codes1 : List Jvm.Cond := [Jvm.Cond.code x code maxLocals ret, Jvm.Cond.code ({ cls := "com/example/dual_delivery/dualdelivery/model/ReceiptHandleParsePinLaw", name := "put", desc := "([CIJ)V" } : Jvm.MethodName) method_4_code (4 : Nat) (Option.none : Option Jvm.ClassFile.FieldType), Jvm.Cond.code ({ cls := "com/example/dual_delivery/dualdelivery/model/ReceiptHandleParsePinLaw", name := "hexDigit", desc := "(JI)C" } : Jvm.MethodName) method_3_code (4 : Nat) (Option.some Jvm.ClassFile.FieldType.char), Jvm.Cond.code ({ cls := "java/lang/String", name := "<init>", desc := "([C)V" } : Jvm.MethodName) jdk_42_method_3_code (2 : Nat) (Option.none : Option Jvm.ClassFile.FieldType), Jvm.Cond.code ({ cls := "java/lang/String", name := "<init>", desc := "([CIILjava/lang/Void;)V" } : Jvm.MethodName) jdk_42_method_149_code (6 : Nat) (Option.none : Option Jvm.ClassFile.FieldType), Jvm.Cond.code ({ cls := "java/lang/Object", name := "<init>", desc := "()V" } : Jvm.MethodName) object_method_1_code (1 : Nat) (Option.none : Option Jvm.ClassFile.FieldType), Jvm.Cond.code ({ cls := "java/lang/StringUTF16", name := "compress", desc := "([CII)[B" } : Jvm.MethodName) jdk_52_method_16_code (6 : Nat) (Option.some (Jvm.ClassFile.FieldType.array Jvm.ClassFile.FieldType.byte)), Jvm.Cond.code ({ cls := "java/lang/StringUTF16", name := "compress", desc := "([CI[BII)I" } : Jvm.MethodName) jdk_52_method_21_code (7 : Nat) (Option.some Jvm.ClassFile.FieldType.int), Jvm.Cond.code ({ cls := "java/lang/StringUTF16", name := "coderFromArrayLen", desc := "([BI)B" } : Jvm.MethodName) jdk_52_method_15_code (2 : Nat) (Option.some Jvm.ClassFile.FieldType.byte), Jvm.Cond.code ({ cls := "com/example/dual_delivery/dualdelivery/model/ReceiptHandle", name := "parse", desc := "(Ljava/lang/String;)Lcom/example/dual_delivery/dualdelivery/model/ReceiptHandle;" } : Jvm.MethodName) prog_17_method_2_code (1 : Nat) (Option.some (Jvm.ClassFile.FieldType.object "com/example/dual_delivery/dualdelivery/model/ReceiptHandle")), Jvm.Cond.code ({ cls := "java/lang/String", name := "length", desc := "()I" } : Jvm.MethodName) jdk_42_method_54_code (1 : Nat) (Option.some Jvm.ClassFile.FieldType.int), Jvm.Cond.code ({ cls := "java/lang/String", name := "coder", desc := "()B" } : Jvm.MethodName) jdk_42_method_152_code (1 : Nat) (Option.some Jvm.ClassFile.FieldType.byte), Jvm.Cond.code ({ cls := "com/example/dual_delivery/dualdelivery/model/ReceiptHandle", name := "parseLong", desc := "(Ljava/lang/String;I)J" } : Jvm.MethodName) prog_17_method_3_code (8 : Nat) (Option.some Jvm.ClassFile.FieldType.long), Jvm.Cond.code ({ cls := "java/lang/String", name := "charAt", desc := "(I)C" } : Jvm.MethodName) jdk_42_method_56_code (2 : Nat) (Option.some Jvm.ClassFile.FieldType.char), Jvm.Cond.code ({ cls := "java/lang/String", name := "isLatin1", desc := "()Z" } : Jvm.MethodName) jdk_42_method_154_code (1 : Nat) (Option.some Jvm.ClassFile.FieldType.boolean), Jvm.Cond.code ({ cls := "java/lang/StringLatin1", name := "charAt", desc := "([BI)C" } : Jvm.MethodName) jdk_43_method_2_code (2 : Nat) (Option.some Jvm.ClassFile.FieldType.char), Jvm.Cond.code ({ cls := "java/lang/String", name := "checkIndex", desc := "(II)V" } : Jvm.MethodName) jdk_42_method_155_code (2 : Nat) (Option.none : Option Jvm.ClassFile.FieldType), Jvm.Cond.code ({ cls := "jdk/internal/util/Preconditions", name := "checkIndex", desc := "(IILjava/util/function/BiFunction;)I" } : Jvm.MethodName) jdk_41_method_11_code (3 : Nat) (Option.some Jvm.ClassFile.FieldType.int), Jvm.Cond.code ({ cls := "com/example/dual_delivery/dualdelivery/model/ReceiptHandle", name := "<init>", desc := "(JJJ)V" } : Jvm.MethodName) prog_17_method_1_code (7 : Nat) (Option.none : Option Jvm.ClassFile.FieldType), Jvm.Cond.code ({ cls := "com/example/dual_delivery/dualdelivery/model/ReceiptHandle", name := "getMessageId", desc := "()J" } : Jvm.MethodName) prog_17_method_4_code (1 : Nat) (Option.some Jvm.ClassFile.FieldType.long), Jvm.Cond.code ({ cls := "com/example/dual_delivery/dualdelivery/model/ReceiptHandle", name := "getHiddenUntilMillis", desc := "()J" } : Jvm.MethodName) prog_17_method_5_code (1 : Nat) (Option.some Jvm.ClassFile.FieldType.long), Jvm.Cond.code ({ cls := "com/example/dual_delivery/dualdelivery/model/ReceiptHandle", name := "getToken", desc := "()J" } : Jvm.MethodName) prog_17_method_6_code (1 : Nat) (Option.some Jvm.ClassFile.FieldType.long)]
set_option maxRecDepth 65536 in
theorem codes_eq : words1.filter isCode = codes1 := rfl
theorem w_codes : ∀ c ∈ words1.filter isCode, c.before args0 about1 = true := by
  rw [codes_eq]
  intro c hc
  simp only [codes1, List.mem_cons, List.not_mem_nil, or_false] at hc
  rcases hc with rfl | rfl | rfl | rfl | rfl | rfl | rfl | rfl | rfl | rfl | rfl | rfl | rfl | rfl | rfl | rfl | rfl | rfl | rfl | rfl | rfl | rfl
  · exact w_c0
  · exact w_c1
  · exact w_c2
  · exact w_c3
  · exact w_c4
  · exact w_c5
  · exact w_c6
  · exact w_c7
  · exact w_c8
  · exact w_c9
  · exact w_c10
  · exact w_c11
  · exact w_c12
  · exact w_c13
  · exact w_c14
  · exact w_c15
  · exact w_c16
  · exact w_c17
  · exact w_c18
  · exact w_c19
  · exact w_c20
  · exact w_c21
set_option maxRecDepth 65536 in
theorem w_t1 : (words1.take 24).all (fun c => isCode c || c.before args0 about1) = true := by decide +kernel
set_option maxRecDepth 65536 in
theorem w_t2 : ((words1.drop 24).take 24).all (fun c => isCode c || c.before args0 about1) = true := by decide +kernel
set_option maxRecDepth 65536 in
theorem w_t3 : (((words1.drop 24).drop 24).take 24).all (fun c => isCode c || c.before args0 about1) = true := by decide +kernel
set_option maxRecDepth 65536 in
theorem w_t4 : ((((words1.drop 24).drop 24).drop 24).take 24).all (fun c => isCode c || c.before args0 about1) = true := by decide +kernel
set_option maxRecDepth 65536 in
theorem w_t5 : ((((words1.drop 24).drop 24).drop 24).drop 24).all (fun c => isCode c || c.before args0 about1) = true := by decide +kernel
theorem w_tables : (allAtoms (Jvm.Cond.code x code maxLocals ret :: tables_1)).before args0 about1 = true := by
  rw [allAtoms_all]
  show words1.all (fun c => c.before args0 about1) = true
  refine all_split ?_ w_codes
  rw [← List.take_append_drop 24 words1, List.all_append, w_t1, ← List.take_append_drop 24 (words1.drop 24), List.all_append, w_t2, ← List.take_append_drop 24 ((words1.drop 24).drop 24), List.all_append, w_t3, ← List.take_append_drop 24 (((words1.drop 24).drop 24).drop 24), List.all_append, w_t4, w_t5]
  rfl
set_option maxRecDepth 65536 in
theorem w_rest : rest_1_c.before args0 about1 = true := by decide +kernel
set_option maxRecDepth 65536 in
theorem w_case : (Jvm.Cond.and given_1 narrow_1).before args0 about1 = true := by decide +kernel
theorem w_applies : (headSpec (Jvm.Cond.code x code maxLocals ret :: tables_1) room_1).applies x e0.platform about1 = true :=
  (Spec.applies_iff w_frames).mpr ⟨w_running, w_runnable, w_alone, w_named, w_hears, w_ripe, w_room, w_tables⟩
theorem atStart : AtStart classFile x code maxLocals ret World_1 tables_1 room_1 Calls_1 rest_1 Pre_1 launch0 p0 e0 about1 theMethod args0 below0 :=
  ⟨lists_1, trivial, launch0.admits_env _ _ _, launch0.least_env, fairChoices_fair.cas, fairChoices_fair.clock, w_frames, w_args, w_heap, w_applies, trivial, w_rest, w_case⟩
end start1
theorem witness_1 : WitnessClaimed_1 := ⟨start1.p0, start1.e0, start1.about1, start1.theMethod, start1.args0, start1.below0, start1.atStart⟩
end Jvm.Pilot.@@N@@
