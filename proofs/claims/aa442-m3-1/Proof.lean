import JvmDerived
import JvmDerived.Pilot.@@N@@Statement
import JvmDerived.Pilot.@@N@@Code
set_option linter.unusedVariables false
set_option linter.unusedSimpArgs false

namespace Jvm.RoadKit
open Sem ClassFile Op Lib Jvm.Stand Jvm.Free Jvm.LawKit
section New
variable {p : Program} {l : Launch} {e : Env} {R : Room} {s : State} {m : MethodId} {args : Array Value} {below : List Frame} {meth : Method} {c : Code} {T : State} {locs : List Loc} {cells slots : Nat}
theorem retI (X : Stand p l e R s m args below meth c T locs cells slots) (hx : p.tables.exec = Jvm.exec) {pc : Nat} {Ls : Array Slot} {z : Int32} {rest : List Value} (hret : meth.sig.returnType = some .int) (hd : decode c.code pc = .ok (.ireturn, 1)) {fs : List Frame}
    (hl : ∀ (f : JFrame) (acts : List Action), f.method = m → f.locked = none → f.entered = [] → (doReturn e (T.setTop f) acts (some (.int z))).1 = T.setFrames fs) : Steps p.tables e below (T.setTop (mkF m pc Ls (.int z :: rest))) (T.setFrames fs) := by
  have hm' : T.vm.method? m = some meth := X.method'
  have hn : narrow .int (.int z) = .int z := rfl
  show Steps p.tables e below (T.setTop { method := m, pc := pc, locals := Ls, stack := _ :: rest, locked := none }) _
  jvm_step X.here [X.here.top, hx, hd, hm', hret, hn]
  first | (intro acts; rw [hl _ acts rfl rfl rfl]) | rw [hl _ _ rfl rfl rfl]
  exact Steps.refl _
end New
end Jvm.RoadKit

namespace Jvm.Pilot.@@N@@
namespace StrChars
open Jvm Sem ClassFile Op Lib Jvm.Stand Jvm.Free.XT Jvm.Free.ALB Jvm.Free.JM Jvm.Free
open Jvm.Lib.Cold (StaticIs)
def Ch (a : Addr) (A : Cell) (U : State) : Prop := Arr .char a A U ∧ Typed .char A
theorem Ch.mv {a : Addr} {A : Cell} {U U' : State} (h : Ch a A U) (hal : U.vm.Alike U'.vm) (hh : U'.heap = U.heap) : Ch a A U' := ⟨h.1.mv hal hh, h.2⟩
theorem Ch.keep {a : Addr} {A : Cell} {U U' : State} (h : Ch a A U) (hal : U.vm.Alike U'.vm) (hk : U'.heap[a]? = some A) : Ch a A U' := ⟨h.1.keep hal hk, h.2⟩
def cv (A : Cell) (i : Nat) : Int32 := match A.slots[i]? with | some (.int x) => x | _ => 0
theorem Ch.get {a : Addr} {A : Cell} {U : State} (h : Ch a A U) {i : Nat} (hi : i < A.slots.size) : A.slots[i]? = some (.int (cv A i)) := by
  have e := Array.getElem?_eq_getElem hi
  have f := h.2 i _ e
  unfold cv; rw [e]
  generalize A.slots[i] = v at f
  cases v <;> simp [fits] at f ⊢
def lo8 (x : Int32) : Int32 := x.toInt8.toInt32
theorem fits_lo8 (y : Int32) : fits .byte (.int (lo8 y)) = true := by
  have h1 := y.toInt8.le_toInt
  have h2 := y.toInt8.toInt_lt
  simp only [lo8, fits, Bool.and_eq_true, decide_eq_true_eq, Int32.le_iff_toInt_le, Int8.toInt_toInt32, show (-128 : Int32).toInt = -128 from by decide, show (127 : Int32).toInt = 127 from by decide]
  omega
def Laid (A A' : Cell) (lo hi : Nat) (f : Nat → Value) : Prop := A'.cls = A.cls ∧ A'.vm = A.vm ∧ A'.slots.size = A.slots.size ∧ ∀ i, A'.slots[i]? = if lo ≤ i ∧ i < hi then some (f i) else A.slots[i]?
theorem Laid.zero (A : Cell) (lo : Nat) (f : Nat → Value) : Laid A A lo (lo + 0) f := ⟨rfl, rfl, rfl, fun i => by rw [if_neg (by omega)]⟩
theorem Laid.step {A Ak : Cell} {lo k : Nat} {f : Nat → Value} {v : Value} (h : Laid A Ak lo k f) (hlo : lo ≤ k) (hk : k < Ak.slots.size) (hv : v = f k) : Laid A (Ak.setSlot k v) lo (k + 1) f := by
  refine ⟨h.1, h.2.1, by simpa [Cell.setSlot] using h.2.2.1, fun i => ?_⟩
  by_cases e : k = i
  · subst e; rw [Cell.slots_setSlot_self v hk, if_pos (by omega), hv]
  · rw [Cell.slots_setSlot_ne v e, h.2.2.2 i]
    by_cases q : lo ≤ i ∧ i < k
    · rw [if_pos q, if_pos (by omega)]
    · rw [if_neg q, if_neg (by omega)]
def U16 : String := "java/lang/StringUTF16"
namespace Cmp5
def yN : MethodName := ⟨"java/lang/StringUTF16", "compress", "([CI[BII)I"⟩
abbrev yB : ByteArray := jdk_52_method_21_code
theorem d0 : decode yB 0 = .ok (.iconst 0, 1) := by decide +kernel
theorem d1 : decode yB 1 = .ok (.istore 5, 2) := by decide +kernel
theorem d3 : decode yB 3 = .ok (.iload 5, 2) := by decide +kernel
theorem d5 : decode yB 5 = .ok (.iload 4, 2) := by decide +kernel
theorem d7 : decode yB 7 = .ok (.if_icmp (.ge) 37, 3) := by decide +kernel
theorem d10 : decode yB 10 = .ok (.aload_n 0, 1) := by decide +kernel
theorem d11 : decode yB 11 = .ok (.iload_n 1, 1) := by decide +kernel
theorem d12 : decode yB 12 = .ok (.caload, 1) := by decide +kernel
theorem d13 : decode yB 13 = .ok (.istore 6, 2) := by decide +kernel
theorem d15 : decode yB 15 = .ok (.iload 6, 2) := by decide +kernel
theorem d17 : decode yB 17 = .ok (.sipush 255, 3) := by decide +kernel
theorem d20 : decode yB 20 = .ok (.if_icmp (.le) 6, 3) := by decide +kernel
theorem d26 : decode yB 26 = .ok (.aload_n 2, 1) := by decide +kernel
theorem d27 : decode yB 27 = .ok (.iload_n 3, 1) := by decide +kernel
theorem d28 : decode yB 28 = .ok (.iload 6, 2) := by decide +kernel
theorem d30 : decode yB 30 = .ok (.i2b, 1) := by decide +kernel
theorem d31 : decode yB 31 = .ok (.bastore, 1) := by decide +kernel
theorem d32 : decode yB 32 = .ok (.iinc 1 1, 3) := by decide +kernel
theorem d35 : decode yB 35 = .ok (.iinc 3 1, 3) := by decide +kernel
theorem d38 : decode yB 38 = .ok (.iinc 5 1, 3) := by decide +kernel
theorem d41 : decode yB 41 = .ok (.goto (-38), 3) := by decide +kernel
theorem d44 : decode yB 44 = .ok (.iload 4, 2) := by decide +kernel
theorem d46 : decode yB 46 = .ok (.ireturn, 1) := by decide +kernel
def site : List Cond := []
def tab : Cond := tabOf yN yB 7 (some .int) site
def P (b : Addr) (A : Cell) (d : Addr) (B : Cell) (o q len : Nat) (args : Array Value) (s : State) : Prop := args = #[.ref b, .int (Int32.ofNat o), .ref d, .int (Int32.ofNat q), .int (Int32.ofNat len)] ∧ Ch b A s ∧ Arr .byte d B s ∧ b ≠ d ∧ o + len ≤ A.slots.size ∧ q + len ≤ B.slots.size ∧ ∀ i, i < len → ¬ 255 < cv A (o + i)
def E (b : Addr) (A : Cell) (d : Addr) (B : Cell) (o q len : Nat) (r : Option Value) (s u : State) : Prop := r = some (.int (Int32.ofNat len)) ∧ ∃ B', Put d B' s u ∧ Laid B B' q (q + len) (fun j => Value.int (lo8 (cv A (o + (j - q)))))
theorem law (l : Launch) (b : Addr) (A : Cell) (d : Addr) (B : Cell) (o q len : Nat) : Law l yN 5 5 0 0 yB 7 (some .int) site (P b A d B o q len) (E b A d B o q len) (copyLocs d q len) 0 0 := by
  refine Law.of_walk (plainFor_of_name (by decide +kernel)) (by decide +kernel) (by decide +kernel) (by decide) (fun _ _ h => by rw [h.1]; rfl) (fun _ U U' hal hh h => ⟨h.1, h.2.1.mv hal hh, h.2.2.1.mv hal hh, h.2.2.2⟩) (fun r U U' V V' h1 hal h2 h => ⟨h.1, h.2.elim fun B' q => ⟨B', q.1.mv h1 h2, q.2⟩⟩) ?_
  intro p e s m args below meth c s₁ X0 hexec hbytes hml hret hlk hnm hown hh0 W hP
  obtain ⟨rfl, hA, hB, hne, l1, l2, hp⟩ := hP
  have c1 : Steps p.tables e below (s₁.setTop (entryFrame m #[.ref b, .int (Int32.ofNat o), .ref d, .int (Int32.ofNat q), .int (Int32.ofNat len)] 7)) (s₁.setTop (mkF m 0 #[.val (.ref b), .val (.int (Int32.ofNat o)), .val (.ref d), .val (.int (Int32.ofNat q)), .val (.int (Int32.ofNat len)), .unset, .unset] [])) := entry rfl
  have hA0 := hA.1.mv X0.warmed.alike hh0
  have hB0 := hB.mv X0.warmed.alike hh0
  have a31 := hA.1.2.2.2
  have c2 : Steps p.tables e below (s₁.setTop (entryFrame m #[.ref b, .int (Int32.ofNat o), .ref d, .int (Int32.ofNat q), .int (Int32.ofNat len)] 7)) (s₁.setTop (mkF m 3 #[.val (.ref b), .val (.int (Int32.ofNat o)), .val (.ref d), .val (.int (Int32.ofNat q)), .val (.int (Int32.ofNat len)), .val (.int 0), .unset] [])) := c1.trans (by
    refine iconstV X0.here hexec rfl 0 (hb hbytes d0) (by decide) ?_
    refine XS.istore X0.here hexec rfl (hb hbytes d1) rfl rfl ?_
    exact Steps.refl _)
  have loop : ∀ (r i : Nat), i + r = len → ∀ (z : Slot), (z = .unset ∨ ∃ w, z = .val w ∧ w.category = 1) → ∀ (Tl : State) (Bk : Cell), Stand p l e { frames := 0, locals := 0, cells := 0, slots := 0 } s m #[.ref b, .int (Int32.ofNat o), .ref d, .int (Int32.ofNat q), .int (Int32.ofNat len)] below meth c Tl ([] ++ copyLocs d q i) 0 0 → Put d Bk s₁ Tl → Laid B Bk q (q + i) (fun j => Value.int (lo8 (cv A (o + (j - q))))) →
      Steps p.tables e below (s₁.setTop (entryFrame m #[.ref b, .int (Int32.ofNat o), .ref d, .int (Int32.ofNat q), .int (Int32.ofNat len)] 7)) (Tl.setTop (mkF m 3 #[.val (.ref b), .val (.int (Int32.ofNat (o + i))), .val (.ref d), .val (.int (Int32.ofNat (q + i))), .val (.int (Int32.ofNat len)), .val (.int (Int32.ofNat i)), z] [])) → ∃ (T' : State) (B' : Cell) (z' : Slot), Stand p l e { frames := 0, locals := 0, cells := 0, slots := 0 } s m #[.ref b, .int (Int32.ofNat o), .ref d, .int (Int32.ofNat q), .int (Int32.ofNat len)] below meth c T' ([] ++ copyLocs d q len) 0 0 ∧ Put d B' s₁ T' ∧ Laid B B' q (q + len) (fun j => Value.int (lo8 (cv A (o + (j - q))))) ∧
      Steps p.tables e below (s₁.setTop (entryFrame m #[.ref b, .int (Int32.ofNat o), .ref d, .int (Int32.ofNat q), .int (Int32.ofNat len)] 7)) (T'.setTop (mkF m 3 #[.val (.ref b), .val (.int (Int32.ofNat (o + len))), .val (.ref d), .val (.int (Int32.ofNat (q + len))), .val (.int (Int32.ofNat len)), .val (.int (Int32.ofNat len)), z'] [])) := by
    intro r
    induction r with
    | zero =>
      intro i hi z hz Tl Bk Xl pl fl cl
      have hil : i = len := by omega
      rw [hil] at Xl fl cl
      exact ⟨Tl, Bk, z, Xl, pl, fl, cl⟩
    | succ r ih =>
      intro i hi z hz Tl Bk Xl pl fl cl
      have all := X0.warmed.alike.symm.trans Xl.warmed.alike
      have hAl := hA0.keep all (pl.other hne hA0.1)
      have hBk := hB0.like all pl.1 fl.1 fl.2.1 fl.2.2.1
      have hlt : q + i < Bk.slots.size := by rw [fl.2.2.1]; omega
      have c3 : Steps p.tables e below (s₁.setTop (entryFrame m #[.ref b, .int (Int32.ofNat o), .ref d, .int (Int32.ofNat q), .int (Int32.ofNat len)] 7)) (Tl.setTop (mkF m 12 #[.val (.ref b), .val (.int (Int32.ofNat (o + i))), .val (.ref d), .val (.int (Int32.ofNat (q + i))), .val (.int (Int32.ofNat len)), .val (.int (Int32.ofNat i)), z] [.int (Int32.ofNat (o + i)), .ref b])) := cl.trans (by
        refine XS.iload Xl.here hexec rfl (hb hbytes d3) rfl ?_
        refine XS.iload Xl.here hexec rfl (hb hbytes d5) rfl ?_
        refine XS.icmpNo Xl.here hexec rfl (hb hbytes d7) rfl (ii_ge_f (lt32 (by omega) (by omega))) ?_
        refine XS.aloadN Xl.here hexec rfl (hb hbytes d10) rfl rfl ?_
        refine XS.iloadN Xl.here hexec rfl (hb hbytes d11) rfl ?_
        exact Steps.refl _)
      have c4 : Steps p.tables e below (s₁.setTop (entryFrame m #[.ref b, .int (Int32.ofNat o), .ref d, .int (Int32.ofNat q), .int (Int32.ofNat len)] 7)) (Tl.setTop (mkF m 13 #[.val (.ref b), .val (.int (Int32.ofNat (o + i))), .val (.ref d), .val (.int (Int32.ofNat (q + i))), .val (.int (Int32.ofNat len)), .val (.int (Int32.ofNat i)), z] [.int (cv A (o + i))])) := c3.trans (by
        refine Xl.aget hexec hAl rfl (hA.get (i := o + i) (by omega)) rfl rfl (hb hbytes d12) ?_
        exact Steps.refl _)
      have c5 : Steps p.tables e below (s₁.setTop (entryFrame m #[.ref b, .int (Int32.ofNat o), .ref d, .int (Int32.ofNat q), .int (Int32.ofNat len)] 7)) (Tl.setTop (mkF m 15 #[.val (.ref b), .val (.int (Int32.ofNat (o + i))), .val (.ref d), .val (.int (Int32.ofNat (q + i))), .val (.int (Int32.ofNat len)), .val (.int (Int32.ofNat i)), .val (.int (cv A (o + i)))] [])) := c4.trans (by
        refine XS.istoreS Xl.here hexec rfl (hb hbytes d13) rfl rfl hz ?_
        exact Steps.refl _)
      have c6 : Steps p.tables e below (s₁.setTop (entryFrame m #[.ref b, .int (Int32.ofNat o), .ref d, .int (Int32.ofNat q), .int (Int32.ofNat len)] 7)) (Tl.setTop (mkF m 31 #[.val (.ref b), .val (.int (Int32.ofNat (o + i))), .val (.ref d), .val (.int (Int32.ofNat (q + i))), .val (.int (Int32.ofNat len)), .val (.int (Int32.ofNat i)), .val (.int (cv A (o + i)))] [.int (lo8 (cv A (o + i))), .int (Int32.ofNat (q + i)), .ref d])) := c5.trans (by
        refine XS.iload Xl.here hexec rfl (hb hbytes d15) rfl ?_
        refine sipushV Xl.here hexec rfl 255 (hb hbytes d17) (by decide) ?_
        refine XS.icmpYes Xl.here hexec rfl (pc0 := 20) rfl (hb hbytes d20) rfl (ii_le_t (hp i (by omega))) (by decide) rfl ?_
        refine XS.aloadN Xl.here hexec rfl (hb hbytes d26) rfl rfl ?_
        refine XS.iloadN Xl.here hexec rfl (hb hbytes d27) rfl ?_
        refine XS.iload Xl.here hexec rfl (hb hbytes d28) rfl ?_
        refine i2b Xl.here hexec rfl (hb hbytes d30) rfl ?_
        exact Steps.refl _)
      obtain ⟨T7, X7, p7, st7⟩ := Xl.aput hexec hBk rfl hlt rfl (fits_lo8 (cv A (o + i))) (g := (mkF m 31 #[.val (.ref b), .val (.int (Int32.ofNat (o + i))), .val (.ref d), .val (.int (Int32.ofNat (q + i))), .val (.int (Int32.ofNat len)), .val (.int (Int32.ofNat i)), .val (.int (cv A (o + i)))] [.int (lo8 (cv A (o + i))), .int (Int32.ofNat (q + i)), .ref d])) rfl (rest := []) rfl (hb hbytes d31)
      have c8 : Steps p.tables e below (s₁.setTop (entryFrame m #[.ref b, .int (Int32.ofNat o), .ref d, .int (Int32.ofNat q), .int (Int32.ofNat len)] 7)) (T7.setTop (mkF m 32 #[.val (.ref b), .val (.int (Int32.ofNat (o + i))), .val (.ref d), .val (.int (Int32.ofNat (q + i))), .val (.int (Int32.ofNat len)), .val (.int (Int32.ofNat i)), .val (.int (cv A (o + i)))] [])) := c6.trans (st7 _ (Steps.refl _))
      have c9 : Steps p.tables e below (s₁.setTop (entryFrame m #[.ref b, .int (Int32.ofNat o), .ref d, .int (Int32.ofNat q), .int (Int32.ofNat len)] 7)) (T7.setTop (mkF m 3 #[.val (.ref b), .val (.int (Int32.ofNat (o + i) + 1)), .val (.ref d), .val (.int (Int32.ofNat (q + i) + 1)), .val (.int (Int32.ofNat len)), .val (.int (Int32.ofNat i + 1)), .val (.int (cv A (o + i)))] [])) := c8.trans (by
        refine iincV X7.here hexec rfl 1 (hb hbytes d32) (by decide) rfl rfl ?_
        refine iincV X7.here hexec rfl 1 (hb hbytes d35) (by decide) rfl rfl ?_
        refine iincV X7.here hexec rfl 1 (hb hbytes d38) (by decide) rfl rfl ?_
        refine XS.goto X7.here hexec rfl (pc0 := 41) rfl (hb hbytes d41) (by decide) rfl ?_
        exact Steps.refl _)
      have c10 : Steps p.tables e below (s₁.setTop (entryFrame m #[.ref b, .int (Int32.ofNat o), .ref d, .int (Int32.ofNat q), .int (Int32.ofNat len)] 7)) (T7.setTop (mkF m 3 #[.val (.ref b), .val (.int (Int32.ofNat (o + (i + 1)))), .val (.ref d), .val (.int (Int32.ofNat (q + (i + 1)))), .val (.int (Int32.ofNat len)), .val (.int (Int32.ofNat (i + 1))), .val (.int (cv A (o + i)))] [])) := by
        have := c9
        rw [succ32, succ32, succ32] at this
        exact this
      exact ih (i + 1) (by omega) _ (Or.inr ⟨_, rfl, rfl⟩) T7 _ (by rw [copyLocs_step, ← List.append_assoc]; exact X7) (pl.trans p7) (fl.step (by omega) hlt (by simp)) c10
  obtain ⟨T9, B9, z9, X9, p9, f9, g9⟩ := loop len 0 (by omega) .unset (Or.inl rfl) s₁ B (by simpa [copyLocs] using X0) ⟨hB0.1, fun _ _ => rfl, rfl⟩ (Laid.zero _ _ _) c2
  have c11 : Steps p.tables e below (s₁.setTop (entryFrame m #[.ref b, .int (Int32.ofNat o), .ref d, .int (Int32.ofNat q), .int (Int32.ofNat len)] 7)) (T9.setTop (mkF m 46 #[.val (.ref b), .val (.int (Int32.ofNat (o + len))), .val (.ref d), .val (.int (Int32.ofNat (q + len))), .val (.int (Int32.ofNat len)), .val (.int (Int32.ofNat len)), z9] [.int (Int32.ofNat len)])) := g9.trans (by
    refine XS.iload X9.here hexec rfl (hb hbytes d3) rfl ?_
    refine XS.iload X9.here hexec rfl (hb hbytes d5) rfl ?_
    refine XS.icmpYes X9.here hexec rfl (pc0 := 7) rfl (hb hbytes d7) rfl (ii_ge_t (nlt32 (by omega) (Nat.le_refl _))) (by decide) rfl ?_
    refine XS.iload X9.here hexec rfl (hb hbytes d44) rfl ?_
    exact Steps.refl _)
  exact ⟨T9, some (.int (Int32.ofNat len)), _, _, _, X9, by simp, rfl, rfl, (fun h => by cases h), ⟨rfl, B9, p9.from hh0, f9⟩, fun fs hl => c11.trans (X9.ireturnOut hexec hret rfl (Or.inl rfl) (hb hbytes d46) hl)⟩
end Cmp5
namespace Cmp3
def yN : MethodName := ⟨"java/lang/StringUTF16", "compress", "([CII)[B"⟩
abbrev yB : ByteArray := jdk_52_method_16_code
theorem d0 : decode yB 0 = .ok (.iload_n 2, 1) := by decide +kernel
theorem d1 : decode yB 1 = .ok (.newarray .byte, 2) := by decide +kernel
theorem d3 : decode yB 3 = .ok (.astore_n 3, 1) := by decide +kernel
theorem d4 : decode yB 4 = .ok (.aload_n 0, 1) := by decide +kernel
theorem d5 : decode yB 5 = .ok (.iload_n 1, 1) := by decide +kernel
theorem d6 : decode yB 6 = .ok (.aload_n 3, 1) := by decide +kernel
theorem d7 : decode yB 7 = .ok (.iconst 0, 1) := by decide +kernel
theorem d8 : decode yB 8 = .ok (.iload_n 2, 1) := by decide +kernel
theorem d9 : decode yB 9 = .ok (.invokestatic 115, 3) := by decide +kernel
theorem d12 : decode yB 12 = .ok (.istore 4, 2) := by decide +kernel
theorem d14 : decode yB 14 = .ok (.iload 4, 2) := by decide +kernel
theorem d16 : decode yB 16 = .ok (.iload_n 2, 1) := by decide +kernel
theorem d17 : decode yB 17 = .ok (.if_icmp (.eq) 40, 3) := by decide +kernel
theorem d57 : decode yB 57 = .ok (.aload_n 3, 1) := by decide +kernel
theorem d58 : decode yB 58 = .ok (.areturn, 1) := by decide +kernel
def site : List Cond := [.arrayClass .byte, Cmp5.tab] ++ staticW U16 115 Cmp5.yN
def tab : Cond := tabOf yN yB 6 (some (.array .byte)) site
def P (b : Addr) (A : Cell) (o len : Nat) (args : Array Value) (s : State) : Prop := args = #[.ref b, .int (Int32.ofNat o), .int (Int32.ofNat len)] ∧ Ch b A s ∧ o + len ≤ A.slots.size ∧ len ≤ 536870912 ∧ ∀ i, i < len → ¬ 255 < cv A (o + i)
def E (b : Addr) (A : Cell) (o len : Nat) (r : Option Value) (s u : State) : Prop := NewArr .byte "[B" len (fun j => .int (lo8 (cv A (o + j)))) r s u ∧ u.heap.size = s.heap.size + 1
theorem law (l : Launch) (b : Addr) (A : Cell) (o len : Nat) : Law l yN 3 3 1 18 yB 6 (some (.array .byte)) site (P b A o len) (E b A o len) [] 1 len := by
  refine Law.of_walk (plainFor_of_name (by decide +kernel)) (by decide +kernel) (by decide +kernel) (by decide) (fun _ _ h => by rw [h.1]; rfl) (fun _ U U' hal hh h => ⟨h.1, h.2.1.mv hal hh, h.2.2⟩) (fun r U U' V V' h1 hal h2 h => ⟨NewArr.mv r U U' V V' h1 hal h2 h.1, by rw [h1, h2]; exact h.2⟩) ?_
  intro p e s m args below meth c s₁ X0 hexec hbytes hml hret hlk hnm hown hh0 W hP
  obtain ⟨rfl, hA, l1, l2, hp⟩ := hP
  have a31 := hA.1.2.2.2
  have c1 : Steps p.tables e below (s₁.setTop (entryFrame m #[.ref b, .int (Int32.ofNat o), .int (Int32.ofNat len)] 6)) (s₁.setTop (mkF m 0 #[.val (.ref b), .val (.int (Int32.ofNat o)), .val (.int (Int32.ofNat len)), .unset, .unset, .unset] [])) := entry rfl
  have c2 : Steps p.tables e below (s₁.setTop (entryFrame m #[.ref b, .int (Int32.ofNat o), .int (Int32.ofNat len)] 6)) (s₁.setTop (mkF m 1 #[.val (.ref b), .val (.int (Int32.ofNat o)), .val (.int (Int32.ofNat len)), .unset, .unset, .unset] [.int (Int32.ofNat len)])) := c1.trans (by
    refine XS.iloadN X0.here hexec rfl (hb hbytes d0) rfl ?_
    exact Steps.refl _)
  obtain ⟨T3, B3, X3, ba3, bs3, bv3, bh3, bf3, st3⟩ := X0.anew hexec (atype := .byte) (wk W (.arrayClass .byte)) rfl (by show len * 1 ≤ _; omega) (by omega) (g := (mkF m 1 #[.val (.ref b), .val (.int (Int32.ofNat o)), .val (.int (Int32.ofNat len)), .unset, .unset, .unset] [.int (Int32.ofNat len)])) rfl (hb hbytes d1) (rest := []) rfl (Nat.le_refl _) (by show 0 + len ≤ len; omega)
  rw [hh0] at ba3 st3
  have kp3 : XT.Kept s T3 := (XT.Kept.of_eq hh0).push bh3
  have hA3 := hA.keep X3.warmed.alike (kp3 _ _ hA.1.1)
  have hne : b ≠ s.heap.size := hA.1.ne
  have c4 : Steps p.tables e below (s₁.setTop (entryFrame m #[.ref b, .int (Int32.ofNat o), .int (Int32.ofNat len)] 6)) (T3.setTop (mkF m 3 #[.val (.ref b), .val (.int (Int32.ofNat o)), .val (.int (Int32.ofNat len)), .unset, .unset, .unset] [.ref s.heap.size])) := c2.trans (st3 _ (Steps.refl _))
  have c5 : Steps p.tables e below (s₁.setTop (entryFrame m #[.ref b, .int (Int32.ofNat o), .int (Int32.ofNat len)] 6)) (T3.setTop (mkF m 9 #[.val (.ref b), .val (.int (Int32.ofNat o)), .val (.int (Int32.ofNat len)), .val (.ref s.heap.size), .unset, .unset] [.int (Int32.ofNat len), .int 0, .ref s.heap.size, .int (Int32.ofNat o), .ref b])) := c4.trans (by
    refine XS.astoreN X3.here hexec rfl (hb hbytes d3) rfl rfl rfl ?_
    refine XS.aloadN X3.here hexec rfl (hb hbytes d4) rfl rfl ?_
    refine XS.iloadN X3.here hexec rfl (hb hbytes d5) rfl ?_
    refine XS.aloadN X3.here hexec rfl (hb hbytes d6) rfl rfl ?_
    refine iconstV X3.here hexec rfl 0 (hb hbytes d7) (by decide) ?_
    refine XS.iloadN X3.here hexec rfl (hb hbytes d8) rfl ?_
    exact Steps.refl _)
  obtain ⟨v6, T6, X6, E6, g6⟩ := X3.callS hexec (Cmp5.law l b A s.heap.size B3 o 0 len) hown (wks W (staticW U16 115 Cmp5.yN)) (wk W Cmp5.tab) (W := 0) (Nat.le_of_ble_eq_true rfl) (Nat.le_of_ble_eq_true rfl) (Nat.le_refl _) (by show 0 + len + 0 ≤ len; omega) (g := (mkF m 9 #[.val (.ref b), .val (.int (Int32.ofNat o)), .val (.int (Int32.ofNat len)), .val (.ref s.heap.size), .unset, .unset] [.int (Int32.ofNat len), .int (Int32.ofNat 0), .ref s.heap.size, .int (Int32.ofNat o), .ref b])) rfl (by rw [hml]; rfl) c5 (argsL := [.ref b, .int (Int32.ofNat o), .ref s.heap.size, .int (Int32.ofNat 0), .int (Int32.ofNat len)]) (rest := []) rfl rfl (by show 2 * 0 + 0 ≤ _; decide) (hb hbytes d9) (⟨rfl, hA3, ba3, hne, l1, by rw [bs3]; simp, hp⟩)
  obtain ⟨rfl, B6, p6, f6⟩ := E6
  have c7 : Steps p.tables e below (s₁.setTop (entryFrame m #[.ref b, .int (Int32.ofNat o), .int (Int32.ofNat len)] 6)) (T6.setTop (mkF m 12 #[.val (.ref b), .val (.int (Int32.ofNat o)), .val (.int (Int32.ofNat len)), .val (.ref s.heap.size), .unset, .unset] [.int (Int32.ofNat len)])) := g6
  have c8 : Steps p.tables e below (s₁.setTop (entryFrame m #[.ref b, .int (Int32.ofNat o), .int (Int32.ofNat len)] 6)) (T6.setTop (mkF m 58 #[.val (.ref b), .val (.int (Int32.ofNat o)), .val (.int (Int32.ofNat len)), .val (.ref s.heap.size), .val (.int (Int32.ofNat len)), .unset] [.ref s.heap.size])) := c7.trans (by
    refine XS.istore X6.here hexec rfl (hb hbytes d12) rfl rfl ?_
    refine XS.iload X6.here hexec rfl (hb hbytes d14) rfl ?_
    refine XS.iloadN X6.here hexec rfl (hb hbytes d16) rfl ?_
    refine XS.icmpYes X6.here hexec rfl (pc0 := 17) rfl (hb hbytes d17) rfl (ii_eq_t rfl) (by decide) rfl ?_
    refine XS.aloadN X6.here hexec rfl (hb hbytes d57) rfl rfl ?_
    exact Steps.refl _)
  have X8 := X6.wide (L' := []) (cells' := 1) (slots' := len) (fun x hx hlt => by
    simp only [List.nil_append, copyLocs, List.mem_map, List.mem_range] at hx
    obtain ⟨i, -, rfl⟩ := hx
    exact absurd hlt (Nat.lt_irrefl _)) (Nat.le_refl _) (by omega)
  exact ⟨T6, some (.ref s.heap.size), _, _, _, X8, rfl, rfl, rfl, (fun h => by cases h), ⟨⟨rfl, B6, ba3.like (X3.warmed.alike.symm.trans X6.warmed.alike) p6.1 f6.1 f6.2.1 f6.2.2.1, f6.2.1.trans bv3, by rw [X6.warmed.alike.findClass, f6.1]; exact bf3, by rw [f6.2.2.1, bs3]; simp, fun j hj => by rw [f6.2.2.2 j, if_pos (by omega)]; rfl, kp3.put p6 (Nat.le_refl _)⟩, by rw [p6.2.2, bh3, hh0]; simp⟩, fun fs hl => c8.trans (X8.areturnOut hexec rfl hret rfl (hb hbytes d58) hl)⟩
end Cmp3
namespace CodL
def yN : MethodName := ⟨"java/lang/StringUTF16", "coderFromArrayLen", "([BI)B"⟩
abbrev yB : ByteArray := jdk_52_method_15_code
theorem d0 : decode yB 0 = .ok (.iload_n 1, 1) := by decide +kernel
theorem d1 : decode yB 1 = .ok (.aload_n 0, 1) := by decide +kernel
theorem d2 : decode yB 2 = .ok (.arraylength, 1) := by decide +kernel
theorem d3 : decode yB 3 = .ok (.isub, 1) := by decide +kernel
theorem d4 : decode yB 4 = .ok (.bipush 31, 2) := by decide +kernel
theorem d6 : decode yB 6 = .ok (.iushr, 1) := by decide +kernel
theorem d7 : decode yB 7 = .ok (.i2b, 1) := by decide +kernel
theorem d8 : decode yB 8 = .ok (.ireturn, 1) := by decide +kernel
def site : List Cond := []
def tab : Cond := tabOf yN yB 2 (some .byte) site
def P (d : Addr) (B : Cell) (args : Array Value) (s : State) : Prop := args = #[.ref d, .int (Int32.ofNat B.slots.size)] ∧ Arr .byte d B s
def E (r : Option Value) (s u : State) : Prop := XT.PureE (some (.int 0)) r s u
theorem law (l : Launch) (d : Addr) (B : Cell) : Law l yN 2 2 0 0 yB 2 (some .byte) site (P d B) E [] 0 0 := by
  refine Law.of_walk (plainFor_of_name (by decide +kernel)) (by decide +kernel) (by decide +kernel) (by decide) (fun _ _ h => by rw [h.1]; rfl) (fun _ U U' hal hh h => ⟨h.1, h.2.mv hal hh⟩) (fun r U U' V V' h1 hal h2 h => XT.PureE.mv r U U' V V' h1 hal h2 h) ?_
  intro p e s m args below meth c s₁ X0 hexec hbytes hml hret hlk hnm hown hh0 W hP
  obtain ⟨rfl, hB⟩ := hP
  have hB0 := hB.mv X0.warmed.alike hh0
  have c1 : Steps p.tables e below (s₁.setTop (entryFrame m #[.ref d, .int (Int32.ofNat B.slots.size)] 2)) (s₁.setTop (mkF m 0 #[.val (.ref d), .val (.int (Int32.ofNat B.slots.size))] [])) := entry rfl
  have c2 : Steps p.tables e below (s₁.setTop (entryFrame m #[.ref d, .int (Int32.ofNat B.slots.size)] 2)) (s₁.setTop (mkF m 2 #[.val (.ref d), .val (.int (Int32.ofNat B.slots.size))] [.ref d, .int (Int32.ofNat B.slots.size)])) := c1.trans (by
    refine XS.iloadN X0.here hexec rfl (hb hbytes d0) rfl ?_
    refine XS.aloadN X0.here hexec rfl (hb hbytes d1) rfl rfl ?_
    exact Steps.refl _)
  have c3 : Steps p.tables e below (s₁.setTop (entryFrame m #[.ref d, .int (Int32.ofNat B.slots.size)] 2)) (s₁.setTop (mkF m 8 #[.val (.ref d), .val (.int (Int32.ofNat B.slots.size))] [.int (lo8 (ushr (Int32.ofNat B.slots.size - Int32.ofNat B.slots.size) 31))])) := c2.trans (by
    refine X0.alen hexec hB0 rfl rfl (hb hbytes d2) ?_
    refine XS.isub X0.here hexec rfl (hb hbytes d3) rfl ?_
    refine bipushV X0.here hexec rfl 31 (hb hbytes d4) (by decide) ?_
    refine iushr X0.here hexec rfl (hb hbytes d6) rfl ?_
    refine i2b X0.here hexec rfl (hb hbytes d7) rfl ?_
    exact Steps.refl _)
  have e0 : lo8 (ushr (Int32.ofNat B.slots.size - Int32.ofNat B.slots.size) 31) = 0 := by rw [Int32.sub_self]; decide
  rw [e0] at c3
  exact ⟨s₁, some (.int 0), _, _, _, X0, rfl, rfl, rfl, (fun h => by cases h), ⟨rfl, hh0⟩, fun fs hl => c3.trans (X0.ireturnOut hexec hret rfl (Or.inr (Or.inr (Or.inl rfl))) (hb hbytes d8) hl)⟩
end CodL
def Got (a : Addr) (D : Cell) (fV fC : Field) (A : Cell) (o len : Nat) (r : Option Value) (s u : State) : Prop := r = none ∧ ∃ D' V : Cell, Blank "java/lang/String" a D' u ∧ Same D D' [fV.slot, fC.slot] ∧ D'.slots[fV.slot]? = some (.ref s.heap.size) ∧ D'.slots[fC.slot]? = some (.int 0) ∧ Arr .byte s.heap.size V u ∧ V.vm = .none ∧ u.vm.findClass "[B" = some V.cls ∧ V.slots.size = len ∧ (∀ j, j < len → V.slots[j]? = some (.int (lo8 (cv A (o + j))))) ∧ (∀ (y : Addr) (c : Cell), y ≠ a → s.heap[y]? = some c → u.heap[y]? = some c) ∧ u.heap.size = s.heap.size + 1
theorem Got.mv {a : Addr} {D A : Cell} {fV fC : Field} {o len : Nat} : ∀ r (U U' V V' : State), U'.heap = U.heap → V.vm.Alike V'.vm → V'.heap = V.heap → Got a D fV fC A o len r U V → Got a D fV fC A o len r U' V' :=
  fun r U U' V V' h1 hal h2 ⟨e0, D', X, a1, a2, a3, a4, a5, a6, a7, a8, a9, a10, a11⟩ => ⟨e0, D', X, a1.mv hal h2, a2, by rw [h1]; exact a3, a4, by rw [h1]; exact a5.mv hal h2, a6, by rw [hal.findClass]; exact a7, a8, a9, by rw [h1, h2]; exact a10, by rw [h1, h2]; exact a11⟩
namespace New4
def yN : MethodName := ⟨"java/lang/String", "<init>", "([CIILjava/lang/Void;)V"⟩
abbrev yB : ByteArray := jdk_42_method_149_code
theorem d0 : decode yB 0 = .ok (.aload_n 0, 1) := by decide +kernel
theorem d1 : decode yB 1 = .ok (.invokespecial 1, 3) := by decide +kernel
theorem d4 : decode yB 4 = .ok (.iload_n 3, 1) := by decide +kernel
theorem d5 : decode yB 5 = .ok (.ifCond (.ne) 22, 3) := by decide +kernel
theorem d27 : decode yB 27 = .ok (.getstatic 38, 3) := by decide +kernel
theorem d30 : decode yB 30 = .ok (.ifCond (.eq) 28, 3) := by decide +kernel
theorem d33 : decode yB 33 = .ok (.aload_n 1, 1) := by decide +kernel
theorem d34 : decode yB 34 = .ok (.iload_n 2, 1) := by decide +kernel
theorem d35 : decode yB 35 = .ok (.iload_n 3, 1) := by decide +kernel
theorem d36 : decode yB 36 = .ok (.invokestatic 177, 3) := by decide +kernel
theorem d39 : decode yB 39 = .ok (.astore 5, 2) := by decide +kernel
theorem d41 : decode yB 41 = .ok (.aload_n 0, 1) := by decide +kernel
theorem d42 : decode yB 42 = .ok (.aload 5, 2) := by decide +kernel
theorem d44 : decode yB 44 = .ok (.iload_n 3, 1) := by decide +kernel
theorem d45 : decode yB 45 = .ok (.invokestatic 47, 3) := by decide +kernel
theorem d48 : decode yB 48 = .ok (.putfield 15, 3) := by decide +kernel
theorem d51 : decode yB 51 = .ok (.aload_n 0, 1) := by decide +kernel
theorem d52 : decode yB 52 = .ok (.aload 5, 2) := by decide +kernel
theorem d54 : decode yB 54 = .ok (.putfield 9, 3) := by decide +kernel
theorem d57 : decode yB 57 = .ok (.return_, 1) := by decide +kernel
def site : List Cond := [.fieldLink "java/lang/String" 38 "java/lang/String" "COMPACT_STRINGS" "Z", Cmp3.tab, CodL.tab, .laysFinal "java/lang/String" "java/lang/String" "value" "[B", .fieldLink "java/lang/String" 9 "java/lang/String" "value" "[B", .laysFinal "java/lang/String" "java/lang/String" "coder" "B", .fieldLink "java/lang/String" 15 "java/lang/String" "coder" "B"] ++ objW "java/lang/String" 1 ++ staticW "java/lang/String" 177 Cmp3.yN ++ staticW "java/lang/String" 47 CodL.yN
def tab : Cond := tabOf yN yB 6 none site
def P (a : Addr) (D : Cell) (fV fC : Field) (b : Addr) (A : Cell) (z : Int32) (o len : Nat) (args : Array Value) (s : State) : Prop := args = #[.ref a, .ref b, .int (Int32.ofNat o), .int (Int32.ofNat len), .null] ∧ Blank "java/lang/String" a D s ∧ Found "java/lang/String" "value" "[B" fV s ∧ Found "java/lang/String" "coder" "B" fC s ∧ Ch b A s ∧ StaticIs s "java/lang/String" "COMPACT_STRINGS" "Z" (.int z) ∧ ¬ z = 0 ∧ 0 < len ∧ o + len ≤ A.slots.size ∧ len ≤ 536870912 ∧ ∀ i, i < len → ¬ 255 < cv A (o + i)
def E (a : Addr) (D : Cell) (fV fC : Field) (A : Cell) (o len : Nat) (r : Option Value) (s u : State) : Prop := Got a D fV fC A o len r s u
theorem law (l : Launch) (a : Addr) (D : Cell) (fV fC : Field) (b : Addr) (A : Cell) (z : Int32) (o len : Nat) : Law l yN 5 4 2 35 yB 6 none site (P a D fV fC b A z o len) (E a D fV fC A o len) [⟨a, fC.slot⟩, ⟨a, fV.slot⟩] 1 len := by
  refine Law.of_walk (plainFor_of_name (by decide +kernel)) (by decide +kernel) (by decide +kernel) (by decide) (fun _ _ h => by rw [h.1]; rfl) (fun _ U U' hal hh h => ⟨h.1, h.2.1.mv hal hh, h.2.2.1.al hal, h.2.2.2.1.al hal, h.2.2.2.2.1.mv hal hh, h.2.2.2.2.2.1.there hal hh, h.2.2.2.2.2.2⟩) (fun r U U' V V' h1 hal h2 h => Got.mv r U U' V V' h1 hal h2 h) ?_
  intro p e s m args below meth c s₁ X0 hexec hbytes hml hret hlk hnm hown hh0 W hP
  obtain ⟨rfl, hB, f1, f2, hA, s1, hz, l0, l1, l2, hp⟩ := hP
  have a31 := hA.1.2.2.2
  have c1 : Steps p.tables e below (s₁.setTop (entryFrame m #[.ref a, .ref b, .int (Int32.ofNat o), .int (Int32.ofNat len), .null] 6)) (s₁.setTop (mkF m 0 #[.val (.ref a), .val (.ref b), .val (.int (Int32.ofNat o)), .val (.int (Int32.ofNat len)), .val .null, .unset] [])) := entry rfl
  have c2 : Steps p.tables e below (s₁.setTop (entryFrame m #[.ref a, .ref b, .int (Int32.ofNat o), .int (Int32.ofNat len), .null] 6)) (s₁.setTop (mkF m 1 #[.val (.ref a), .val (.ref b), .val (.int (Int32.ofNat o)), .val (.int (Int32.ofNat len)), .val .null, .unset] [.ref a])) := c1.trans (by
    refine XS.aloadN X0.here hexec rfl (hb hbytes d0) rfl rfl ?_
    exact Steps.refl _)
  obtain ⟨T3, X3, q3, st3⟩ := X0.oinit hexec hown (wks W (objW "java/lang/String" 1)) (g := (mkF m 1 #[.val (.ref a), .val (.ref b), .val (.int (Int32.ofNat o)), .val (.int (Int32.ofNat len)), .val .null, .unset] [.ref a])) rfl (by rw [hml]; rfl) (rest := []) rfl (hb hbytes d1) (W := 0) (by show 2 * 0 + 0 ≤ _; decide) (Nat.le_of_ble_eq_true rfl) (Nat.le_of_ble_eq_true rfl)
  have hh3 := q3.trans hh0
  have c4 : Steps p.tables e below (s₁.setTop (entryFrame m #[.ref a, .ref b, .int (Int32.ofNat o), .int (Int32.ofNat len), .null] 6)) (T3.setTop (mkF m 27 #[.val (.ref a), .val (.ref b), .val (.int (Int32.ofNat o)), .val (.int (Int32.ofNat len)), .val .null, .unset] [])) := (c2.trans (st3 _ (Steps.refl _))).trans (by
    refine XS.iloadN X3.here hexec rfl (hb hbytes d4) rfl ?_
    refine XS.ifYes X3.here hexec rfl (pc0 := 5) rfl (hb hbytes d5) rfl (i0_ne_t (nz32 (by omega) l0)) (by decide) rfl ?_
    exact Steps.refl _)
  obtain ⟨T5, X5, q5, st5⟩ := X3.sget hexec hown (wk W (.fieldLink "java/lang/String" 38 "java/lang/String" "COMPACT_STRINGS" "Z")) s1 (fun _ _ h => by rw [hh3]; exact h) (g := (mkF m 27 #[.val (.ref a), .val (.ref b), .val (.int (Int32.ofNat o)), .val (.int (Int32.ofNat len)), .val .null, .unset] [])) rfl (hb hbytes d27)
  have hh5 := q5.trans hh3
  have c6 : Steps p.tables e below (s₁.setTop (entryFrame m #[.ref a, .ref b, .int (Int32.ofNat o), .int (Int32.ofNat len), .null] 6)) (T5.setTop (mkF m 30 #[.val (.ref a), .val (.ref b), .val (.int (Int32.ofNat o)), .val (.int (Int32.ofNat len)), .val .null, .unset] [.int z])) := c4.trans (st5 _ (Steps.refl _))
  have c7 : Steps p.tables e below (s₁.setTop (entryFrame m #[.ref a, .ref b, .int (Int32.ofNat o), .int (Int32.ofNat len), .null] 6)) (T5.setTop (mkF m 36 #[.val (.ref a), .val (.ref b), .val (.int (Int32.ofNat o)), .val (.int (Int32.ofNat len)), .val .null, .unset] [.int (Int32.ofNat len), .int (Int32.ofNat o), .ref b])) := c6.trans (by
    refine XS.ifNo X5.here hexec rfl (hb hbytes d30) rfl (i0_eq_f hz) ?_
    refine XS.aloadN X5.here hexec rfl (hb hbytes d33) rfl rfl ?_
    refine XS.iloadN X5.here hexec rfl (hb hbytes d34) rfl ?_
    refine XS.iloadN X5.here hexec rfl (hb hbytes d35) rfl ?_
    exact Steps.refl _)
  obtain ⟨v8, T8, X8, E8, g8⟩ := X5.callS hexec (Cmp3.law l b A o len) hown (wks W (staticW "java/lang/String" 177 Cmp3.yN)) (wk W Cmp3.tab) (W := 0) (Nat.le_of_ble_eq_true rfl) (Nat.le_of_ble_eq_true rfl) (Nat.le_refl _) (by show 0 + len ≤ len; omega) (g := (mkF m 36 #[.val (.ref a), .val (.ref b), .val (.int (Int32.ofNat o)), .val (.int (Int32.ofNat len)), .val .null, .unset] [.int (Int32.ofNat len), .int (Int32.ofNat o), .ref b])) rfl (by rw [hml]; rfl) c7 (argsL := [.ref b, .int (Int32.ofNat o), .int (Int32.ofNat len)]) (rest := []) rfl rfl (by show 2 * 0 + 0 ≤ _; decide) (hb hbytes d36) (⟨rfl, hA.mv X5.warmed.alike hh5, l1, l2, hp⟩)
  obtain ⟨e8, z8⟩ := E8
  obtain ⟨rfl, N, n1, n2, n3, n4, n5, n6⟩ := NewArr.mv _ T5 s _ _ hh5.symm (Vm.Alike.refl _) rfl e8
  rw [hh5] at z8
  have hB1 := hB.keep X8.warmed.alike (n6 _ _ hB.1)
  have hne : s.heap.size ≠ a := (Nat.ne_of_lt (Array.getElem?_eq_some_iff.mp hB.1).1).symm
  have c9 : Steps p.tables e below (s₁.setTop (entryFrame m #[.ref a, .ref b, .int (Int32.ofNat o), .int (Int32.ofNat len), .null] 6)) (T8.setTop (mkF m 39 #[.val (.ref a), .val (.ref b), .val (.int (Int32.ofNat o)), .val (.int (Int32.ofNat len)), .val .null, .unset] [.ref s.heap.size])) := g8
  have c10 : Steps p.tables e below (s₁.setTop (entryFrame m #[.ref a, .ref b, .int (Int32.ofNat o), .int (Int32.ofNat len), .null] 6)) (T8.setTop (mkF m 45 #[.val (.ref a), .val (.ref b), .val (.int (Int32.ofNat o)), .val (.int (Int32.ofNat len)), .val .null, .val (.ref s.heap.size)] [.int (Int32.ofNat N.slots.size), .ref s.heap.size, .ref a])) := by
    have hc : Steps p.tables e below (s₁.setTop (entryFrame m #[.ref a, .ref b, .int (Int32.ofNat o), .int (Int32.ofNat len), .null] 6)) (T8.setTop (mkF m 45 #[.val (.ref a), .val (.ref b), .val (.int (Int32.ofNat o)), .val (.int (Int32.ofNat len)), .val .null, .val (.ref s.heap.size)] [.int (Int32.ofNat len), .ref s.heap.size, .ref a])) := c9.trans (by
      refine XS.astore X8.here hexec rfl (hb hbytes d39) rfl rfl rfl ?_
      refine XS.aloadN X8.here hexec rfl (hb hbytes d41) rfl rfl ?_
      refine XS.aload X8.here hexec rfl (hb hbytes d42) rfl rfl ?_
      refine XS.iloadN X8.here hexec rfl (hb hbytes d44) rfl ?_
      exact Steps.refl _)
    rw [n4]; exact hc
  obtain ⟨v11, T11, X11, E11, g11⟩ := X8.callS hexec (CodL.law l s.heap.size N) hown (wks W (staticW "java/lang/String" 47 CodL.yN)) (wk W CodL.tab) (W := 1) (Nat.le_of_ble_eq_true rfl) (Nat.le_of_ble_eq_true rfl) (Nat.le_refl _) (by show 0 + len + 0 ≤ len; omega) (g := (mkF m 45 #[.val (.ref a), .val (.ref b), .val (.int (Int32.ofNat o)), .val (.int (Int32.ofNat len)), .val .null, .val (.ref s.heap.size)] [.int (Int32.ofNat N.slots.size), .ref s.heap.size, .ref a])) rfl (by rw [hml]; rfl) c10 (argsL := [.ref s.heap.size, .int (Int32.ofNat N.slots.size)]) (rest := [.ref a]) rfl rfl (by show 2 * 0 + (1 + 0) ≤ _; decide) (hb hbytes d45) (⟨rfl, n1⟩)
  obtain ⟨rfl, q11⟩ := E11
  have hB11 := hB1.mv (X8.warmed.alike.symm.trans X11.warmed.alike) q11
  have c12 : Steps p.tables e below (s₁.setTop (entryFrame m #[.ref a, .ref b, .int (Int32.ofNat o), .int (Int32.ofNat len), .null] 6)) (T11.setTop (mkF m 48 #[.val (.ref a), .val (.ref b), .val (.int (Int32.ofNat o)), .val (.int (Int32.ofNat len)), .val .null, .val (.ref s.heap.size)] [.int 0, .ref a])) := g11
  obtain ⟨T13, X13, p13, bl13, sl13, st13⟩ := X11.finit hexec hown (wk W (.fieldLink "java/lang/String" 15 "java/lang/String" "coder" "B")) (Or.inr ⟨_, (wk W (.laysFinal "java/lang/String" "java/lang/String" "coder" "B"))⟩) (Or.inl ⟨rfl, hnm⟩) f2 (Or.inl rfl) hB11 (t := .byte) (by decide +kernel) rfl (g := (mkF m 48 #[.val (.ref a), .val (.ref b), .val (.int (Int32.ofNat o)), .val (.int (Int32.ofNat len)), .val .null, .val (.ref s.heap.size)] [.int 0, .ref a])) rfl (rest := []) rfl (hb hbytes d48)
  have c14 : Steps p.tables e below (s₁.setTop (entryFrame m #[.ref a, .ref b, .int (Int32.ofNat o), .int (Int32.ofNat len), .null] 6)) (T13.setTop (mkF m 54 #[.val (.ref a), .val (.ref b), .val (.int (Int32.ofNat o)), .val (.int (Int32.ofNat len)), .val .null, .val (.ref s.heap.size)] [.ref s.heap.size, .ref a])) := (c12.trans (st13 _ (Steps.refl _))).trans (by
    refine XS.aloadN X13.here hexec rfl (hb hbytes d51) rfl rfl ?_
    refine XS.aload X13.here hexec rfl (hb hbytes d52) rfl rfl ?_
    exact Steps.refl _)
  obtain ⟨T15, X15, p15, bl15, sl15, st15⟩ := X13.finit hexec hown (wk W (.fieldLink "java/lang/String" 9 "java/lang/String" "value" "[B")) (Or.inr ⟨_, (wk W (.laysFinal "java/lang/String" "java/lang/String" "value" "[B"))⟩) (Or.inl ⟨rfl, hnm⟩) f1 (Or.inl rfl) bl13 (t := (.array .byte)) (by decide +kernel) rfl (g := (mkF m 54 #[.val (.ref a), .val (.ref b), .val (.int (Int32.ofNat o)), .val (.int (Int32.ofNat len)), .val .null, .val (.ref s.heap.size)] [.ref s.heap.size, .ref a])) rfl (rest := []) rfl (hb hbytes d54)
  have c16 : Steps p.tables e below (s₁.setTop (entryFrame m #[.ref a, .ref b, .int (Int32.ofNat o), .int (Int32.ofNat len), .null] 6)) (T15.setTop (mkF m 57 #[.val (.ref a), .val (.ref b), .val (.int (Int32.ofNat o)), .val (.int (Int32.ofNat len)), .val .null, .val (.ref s.heap.size)] [])) := c14.trans (st15 _ (Steps.refl _))
  have ap := apart (Or.inr ⟨_, (wk W (.laysFinal "java/lang/String" "java/lang/String" "value" "[B"))⟩) (Or.inr ⟨_, (wk W (.laysFinal "java/lang/String" "java/lang/String" "coder" "B"))⟩) f1 f2 (t₁ := .array .byte) (t₂ := .byte) (by decide +kernel) (by decide +kernel) (by decide)
  have al := X8.warmed.alike.symm.trans X15.warmed.alike
  have n7 : T11.heap[s.heap.size]? = some N := by rw [q11]; exact n1.1
  exact ⟨T15, none, _, _, _, X15, by simp, rfl, by omega, (fun _ => rfl), ⟨rfl, _, N, bl15, ((Same.refl D _).set _ (by simp)).set _ (by simp), sl15, (Cell.slots_setSlot_ne _ ap).trans sl13, n1.keep al (p15.other hne (p13.other hne n7)), n2, by rw [al.findClass]; exact n3, n4, n5, fun y c h1 h2 => p15.other h1 (p13.other h1 (by rw [q11]; exact n6 y c h2)), by rw [p15.2.2, p13.2.2, q11]; exact z8⟩, fun fs hl => c16.trans (X15.returnOut hexec hret (hb hbytes d57) hl)⟩
end New4
namespace New1
def yN : MethodName := ⟨"java/lang/String", "<init>", "([C)V"⟩
abbrev yB : ByteArray := jdk_42_method_3_code
theorem d0 : decode yB 0 = .ok (.aload_n 0, 1) := by decide +kernel
theorem d1 : decode yB 1 = .ok (.aload_n 1, 1) := by decide +kernel
theorem d2 : decode yB 2 = .ok (.iconst 0, 1) := by decide +kernel
theorem d3 : decode yB 3 = .ok (.aload_n 1, 1) := by decide +kernel
theorem d4 : decode yB 4 = .ok (.arraylength, 1) := by decide +kernel
theorem d5 : decode yB 5 = .ok (.aconst_null, 1) := by decide +kernel
theorem d6 : decode yB 6 = .ok (.invokespecial 27, 3) := by decide +kernel
theorem d9 : decode yB 9 = .ok (.return_, 1) := by decide +kernel
def site : List Cond := [New4.tab] ++ initW "java/lang/String" 27 New4.yN
def tab : Cond := tabOf yN yB 2 none site
def P (a : Addr) (D : Cell) (fV fC : Field) (b : Addr) (A : Cell) (z : Int32) (args : Array Value) (s : State) : Prop := args = #[.ref a, .ref b] ∧ Blank "java/lang/String" a D s ∧ Found "java/lang/String" "value" "[B" fV s ∧ Found "java/lang/String" "coder" "B" fC s ∧ Ch b A s ∧ StaticIs s "java/lang/String" "COMPACT_STRINGS" "Z" (.int z) ∧ ¬ z = 0 ∧ 0 < A.slots.size ∧ A.slots.size ≤ 536870912 ∧ ∀ i, i < A.slots.size → ¬ 255 < cv A i
def E (a : Addr) (D : Cell) (fV fC : Field) (A : Cell) (r : Option Value) (s u : State) : Prop := Got a D fV fC A 0 A.slots.size r s u
theorem law (l : Launch) (a : Addr) (D : Cell) (fV fC : Field) (b : Addr) (A : Cell) (z : Int32) : Law l yN 2 1 3 52 yB 2 none site (P a D fV fC b A z) (E a D fV fC A) [⟨a, fC.slot⟩, ⟨a, fV.slot⟩] 1 A.slots.size := by
  refine Law.of_walk (plainFor_of_name (by decide +kernel)) (by decide +kernel) (by decide +kernel) (by decide) (fun _ _ h => by rw [h.1]; rfl) (fun _ U U' hal hh h => ⟨h.1, h.2.1.mv hal hh, h.2.2.1.al hal, h.2.2.2.1.al hal, h.2.2.2.2.1.mv hal hh, h.2.2.2.2.2.1.there hal hh, h.2.2.2.2.2.2⟩) (fun r U U' V V' h1 hal h2 h => Got.mv r U U' V V' h1 hal h2 h) ?_
  intro p e s m args below meth c s₁ X0 hexec hbytes hml hret hlk hnm hown hh0 W hP
  obtain ⟨rfl, hB, f1, f2, hA, s1, hz, l0, l2, hp⟩ := hP
  have c1 : Steps p.tables e below (s₁.setTop (entryFrame m #[.ref a, .ref b] 2)) (s₁.setTop (mkF m 0 #[.val (.ref a), .val (.ref b)] [])) := entry rfl
  have c2 : Steps p.tables e below (s₁.setTop (entryFrame m #[.ref a, .ref b] 2)) (s₁.setTop (mkF m 6 #[.val (.ref a), .val (.ref b)] [.null, .int (Int32.ofNat A.slots.size), .int 0, .ref b, .ref a])) := c1.trans (by
    refine XS.aloadN X0.here hexec rfl (hb hbytes d0) rfl rfl ?_
    refine XS.aloadN X0.here hexec rfl (hb hbytes d1) rfl rfl ?_
    refine iconstV X0.here hexec rfl 0 (hb hbytes d2) (by decide) ?_
    refine XS.aloadN X0.here hexec rfl (hb hbytes d3) rfl rfl ?_
    refine X0.alen hexec (hA.1.mv X0.warmed.alike hh0) rfl rfl (hb hbytes d4) ?_
    refine XS.aconstNull X0.here hexec rfl (hb hbytes d5) ?_
    exact Steps.refl _)
  obtain ⟨v3, T3, X3, E3, g3⟩ := X0.callN hexec (New4.law l a D fV fC b A z 0 A.slots.size) rfl hown (wks W (initW "java/lang/String" 27 New4.yN)) (W New4.tab (by simp only [site, List.mem_cons, List.mem_append, true_or, or_true])) (W := 0) (Nat.le_of_ble_eq_true rfl) (Nat.le_of_ble_eq_true rfl) (Nat.le_refl _) (by show 0 + A.slots.size ≤ A.slots.size; omega) (g := (mkF m 6 #[.val (.ref a), .val (.ref b)] [.null, .int (Int32.ofNat A.slots.size), .int (Int32.ofNat 0), .ref b, .ref a])) rfl (by rw [hml]; rfl) c2 (argsL := [.ref b, .int (Int32.ofNat 0), .int (Int32.ofNat A.slots.size), .null]) (rest := []) rfl rfl (by show 2 * 0 + 0 ≤ _; decide) (hb hbytes d6) (⟨rfl, hB.mv X0.warmed.alike hh0, f1.al X0.warmed.alike, f2.al X0.warmed.alike, hA.mv X0.warmed.alike hh0, s1.there X0.warmed.alike hh0, hz, l0, by omega, l2, fun i hi => by rw [Nat.zero_add]; exact hp i hi⟩)
  have e0 := Got.mv _ s₁ s _ _ hh0.symm (Vm.Alike.refl _) rfl E3
  obtain rfl := e0.1
  have c4 : Steps p.tables e below (s₁.setTop (entryFrame m #[.ref a, .ref b] 2)) (T3.setTop (mkF m 9 #[.val (.ref a), .val (.ref b)] [])) := g3
  exact ⟨T3, none, _, _, _, X3, by simp, rfl, by omega, (fun _ => rfl), e0, fun fs hl => c4.trans (X3.returnOut hexec hret (hb hbytes d9) hl)⟩
theorem pays {l : Launch} {R : Room} {p : Program} {e : Env} {below : List Frame} {s : State} {sargs : Array Value} {len W : Nat} (a : Addr) (D : Cell) (fV fC : Field) (b : Addr) (A : Cell) (z : Int32) (htab : tab.before sargs s = true) (hfr : 4 ≤ R.frames) (hlo : W + 65 ≤ R.locals) :
    Back l R p e below s sargs yN len W (fun A₁ a₁ => A₁.cells + 1 ≤ R.cells ∧ A₁.slots + A.slots.size ≤ R.slots ∧ P a D fV fC b A z a₁ A₁.U) (fun A₁ _ v₁ B₁ => E a D fV fC A v₁ A₁.U B₁.U ∧ B₁.locs = A₁.locs ++ [⟨a, fC.slot⟩, ⟨a, fV.slot⟩] ∧ B₁.cells = A₁.cells + 1 ∧ B₁.slots = A₁.slots + A.slots.size) :=
  (law l a D fV fC b A z).pays htab hfr (by omega)
end New1
theorem lo8_mask {x : Int32} (h0 : ¬ x < 0) (h1 : ¬ 255 < x) : lo8 x &&& 255 = x := by
  have t : ∀ k : Fin 256, lo8 (Int32.ofNat k.val) &&& 255 = Int32.ofNat k.val := by decide +kernel
  rw [Int32.lt_iff_toInt_lt] at h0 h1
  have e0 : (0 : Int32).toInt = 0 := rfl
  have e1 : (255 : Int32).toInt = 255 := rfl
  obtain ⟨k, hk⟩ : ∃ k : Nat, x.toInt = k := ⟨x.toInt.toNat, by omega⟩
  have hx : x = Int32.ofNat k := Int32.toInt_inj.mp (by rw [hk, Int32.toInt_ofNat_small (by omega)])
  rw [hx]
  exact t ⟨k, by omega⟩
end StrChars
namespace StrChars.Road
open Jvm Sem ClassFile Op Lib Jvm.Stand Jvm.Free Jvm.Free.XT
open Jvm.Lib.Cold (StaticIs)
abbrev ST : String := "java/lang/String"
abbrev words : List Jvm.Cond := [.code New1.yN New1.yB 2 none, .initialized ST, .methodLink ST 27 New4.yN, .instanceMethod New4.yN,
  .code New4.yN New4.yB 6 none, .fieldLink ST 38 ST "COMPACT_STRINGS" "Z", .laysFinal ST ST "value" "[B", .fieldLink ST 9 ST "value" "[B", .laysFinal ST ST "coder" "B", .fieldLink ST 15 ST "coder" "B",
  .methodLink ST 1 Lib.objectInit, .instanceMethod Lib.objectInit, .code Lib.objectInit ⟨#[0xb1]⟩ 1 none, .methodLink ST 177 Cmp3.yN, .static Cmp3.yN, .methodLink ST 47 CodL.yN, .static CodL.yN,
  .code Cmp3.yN Cmp3.yB 6 (some (.array .byte)), .initialized U16, .arrayClass .byte, .methodLink U16 115 Cmp5.yN, .static Cmp5.yN, .code Cmp5.yN Cmp5.yB 7 (some .int), .code CodL.yN CodL.yB 2 (some .byte)]
theorem tab_of {a : Array Value} {s : State} (h : ∀ w ∈ words, w.before a s = true) : New1.tab.before a s = true := by
  have h5 : Cmp5.tab.before a s = true := unparts (wk h (.code Cmp5.yN Cmp5.yB 7 (some .int))) (wks h (.initialized Cmp5.yN.cls :: Cmp5.site))
  have hc : CodL.tab.before a s = true := unparts (wk h (.code CodL.yN CodL.yB 2 (some .byte))) (wks h (.initialized CodL.yN.cls :: CodL.site))
  have q5 : ∀ w ∈ Cmp5.tab :: words, w.before a s = true := fun w hw => (List.mem_cons.mp hw).elim (fun e => e ▸ h5) (h w)
  have h3 : Cmp3.tab.before a s = true := unparts (wk q5 (.code Cmp3.yN Cmp3.yB 6 (some (.array .byte)))) (wks q5 (.initialized Cmp3.yN.cls :: Cmp3.site))
  have q3 : ∀ w ∈ Cmp3.tab :: CodL.tab :: words, w.before a s = true := fun w hw => (List.mem_cons.mp hw).elim (fun e => e ▸ h3) fun hw => (List.mem_cons.mp hw).elim (fun e => e ▸ hc) (h w)
  have h4 : New4.tab.before a s = true := unparts (wk q3 (.code New4.yN New4.yB 6 none)) (wks q3 (.initialized New4.yN.cls :: New4.site))
  have q4 : ∀ w ∈ New4.tab :: words, w.before a s = true := fun w hw => (List.mem_cons.mp hw).elim (fun e => e ▸ h4) (h w)
  exact unparts (wk q4 (.code New1.yN New1.yB 2 none)) (wks q4 (.initialized New1.yN.cls :: New1.site))
theorem moved {Z s : State} {a0 args : Array Value} (hZ : Z.Warmed39 s.vm) (hw : ∀ d ∈ words, d.before a0 Z = true) : ∀ d ∈ words, d.before args s = true := fun d hd => by
  have q := hw d hd
  have t : ∀ d ∈ words, d = .arrayClass .byte ∨ (d.onTables && d.keepsFace) = true := by decide +kernel
  rcases t d hd with rfl | t
  · exact RoadKit.mvA hZ q
  · exact RoadKit.mv hZ q t
def Q (Z : State) (x : Addr) (A : Cell) (h : Heap) (v : Option Value) (h' : Heap) (L : List Loc) : Prop := v = none ∧ (∀ y ∈ L, y.base = x) ∧ RoadKit.Keep h h' [x] ∧ h'.size = h.size + 1 ∧ RoadKit.Exa Z h' x ST ∧ RoadKit.Fld Z h' x ST "value" "[B" (.ref h.size) ∧ RoadKit.Fld Z h' x ST "coder" "B" (.int 0) ∧
  (∃ V : Cell, RoadKit.Arr Z h' h.size V .byte ∧ V.vm = .none ∧ Z.vm.findClass "[B" = some V.cls ∧ V.slots.size = A.slots.size ∧ ∀ j, j < A.slots.size → V.slots[j]? = some (.int (lo8 (cv A j)))) ∧
  ∀ (O n d : String) (w : Value), RoadKit.Fld Z h x O n d w → RoadKit.slotOf Z O n d ≠ RoadKit.slotOf Z ST "value" "[B" → RoadKit.slotOf Z O n d ≠ RoadKit.slotOf Z ST "coder" "B" → RoadKit.Fld Z h' x O n d w
theorem back {p : Program} {l : Launch} {e : Env} {R : Room} {s : State} {args : Array Value} {below : List Frame} {len W : Nat} {Z : State} {a0 : Array Value} {h : Heap} (hZ : Z.Warmed39 s.vm) (hw : ∀ d ∈ words, d.before a0 Z = true) {kI : Nat} (wi : (Jvm.Cond.instantiable ST kI).before a0 Z = true)
    {x b : Addr} {A : Cell} {z : Int32} {v0 c0 : Value} (E : RoadKit.Exa Z h x ST) (V : RoadKit.Fld Z h x ST "value" "[B" v0) (C : RoadKit.Fld Z h x ST "coder" "B" c0) (K : RoadKit.Arr Z h b A .char) (hty : Typed .char A) (S : RoadKit.Sta Z h ST "COMPACT_STRINGS" "Z" (.int z)) (hz : ¬ z = 0)
    (l0 : 0 < A.slots.size) (l2 : A.slots.size ≤ 536870912) (hp : ∀ i, i < A.slots.size → ¬ 255 < cv A i) (hfr : 4 ≤ R.frames) (hlo : W + 65 ≤ R.locals) :
    Back l R p e below s args New1.yN len W (fun P a => a = #[.ref x, .ref b] ∧ P.U.heap = h ∧ P.cells + 1 ≤ R.cells ∧ P.slots + A.slots.size ≤ R.slots)
      (fun P _ v B => ∃ L, Q Z x A h v B.U.heap L ∧ B.locs = P.locs ++ L ∧ B.cells = P.cells + 1 ∧ B.slots = P.slots + A.slots.size) := by
  intro m meth c P g ig mk a X hg hsize hdg hW hn hp'
  obtain ⟨rfl, rfl, r1, r2⟩ := hp'
  have al : Z.vm.Alike P.U.vm := hZ.alike.trans X.warmed.alike
  obtain ⟨D, cfV, kV, iV, fV, hD, gV, stV, knV, obV, asV, slV⟩ := id V
  obtain ⟨D', cfC, kC, iC, fC, hD', gC, stC, -, -, asC, slC⟩ := id C
  cases hD.symm.trans hD'
  obtain ⟨D2, kD, e1, e2, e3, e4, e5⟩ := id E
  cases hD.symm.trans e1
  obtain ⟨c2, k2, i1, i2, i3, -⟩ := Cond.instantiable_spec wi
  cases e2.symm.trans i1
  cases e3.symm.trans i2
  obtain ⟨kU, u1, u2⟩ := al.2.2 _ _ e3
  have hB : Blank ST x D P.U := ⟨hD, ⟨knV, fun q hq => by rw [hq] at obV; cases obV⟩, by rw [al.findClass]; exact e2, kU, u1, by rw [u2]; exact i3, by rw [u2]; exact e5 i3⟩
  have F1 : Found ST "value" "[B" fV P.U := ⟨SBG.found_only al ⟨cfV, kV, iV, gV⟩, stV⟩
  have F2 : Found ST "coder" "B" fC P.U := ⟨SBG.found_only al ⟨cfC, kC, iC, gC⟩, stC⟩
  have hA : Ch b A P.U := ⟨⟨K.1, State.isArrayOf_alike al K.2.1, K.2.2, by omega⟩, hty⟩
  have hS : StaticIs P.U ST "COMPACT_STRINGS" "Z" (.int z) := by
    obtain ⟨cfS, iS, kS, fS, st, cS, t1, t2, t3, t4, t5, t6, t7⟩ := S
    exact StaticIs.there (s := { Z with heap := P.U.heap }) ⟨cfS, iS, kS, fS, st, cS, t1, t2, t3, t4, t5, (fun q => by rw [q] at t6; cases t6), t7⟩ al rfl
  obtain ⟨v, B, X', ⟨⟨hv, E', V', q1, q2, q3, q4, q5, q6, q7, q8, q9, q10, q11⟩, hl, hc, hs⟩, st⟩ := New1.pays x D fV fC b A z (tab_of (moved hZ hw)) hfr hlo m meth c P g ig mk _ X hg hsize hdg hW hn ⟨r1, r2, rfl, hB, F1, F2, hA, hS, hz, l0, l2, hp⟩
  have al' : Z.vm.Alike B.U.vm := hZ.alike.trans X'.warmed.alike
  have hsz : E'.slots.size = D.slots.size := by
    obtain ⟨-, -, -, kB, w1, w2, w3⟩ := q1
    obtain ⟨kB', y1, y2⟩ := al'.2.2 _ _ e3
    rw [q2.2.1] at w1
    cases w1.symm.trans y1
    rw [w3, e5 i3, y2]
  refine ⟨v, B, X', ⟨_, ⟨hv, ?_, ⟨by omega, fun y cy hy hn' => q10 y cy (by simpa using hn') hy, fun y cy hy => ?_⟩, q11, ⟨E', _, q1.1, by rw [q2.2.1]; exact e2, by rw [q2.2.1]; exact e3, by rw [q2.1]; exact obV, fun _ => by rw [hsz]; exact e5 i3⟩,
    ⟨E', cfV, kV, iV, fV, q1.1, gV, stV, by rw [q2.1]; exact knV, by rw [q2.1]; exact obV, by rw [q2.2.1]; exact asV, q3⟩, ⟨E', cfC, kC, iC, fC, q1.1, gC, stC, by rw [q2.1]; exact knV, by rw [q2.1]; exact obV, by rw [q2.2.1]; exact asC, q4⟩,
    ⟨V', ⟨q5.1, State.isArrayOf_alike al'.symm q5.2.1, q5.2.2.1⟩, q6, by rw [← al'.findClass]; exact q7, q8, fun j hj => by have := q9 j hj; rwa [Nat.zero_add] at this⟩, fun O n d w F n1 n2 => ?_⟩, hl, hc, hs⟩, st⟩
  · intro y hy
    simp only [List.mem_cons, List.not_mem_nil, or_false] at hy
    rcases hy with rfl | rfl <;> rfl
  · by_cases q : y = x
    · subst q
      cases hD.symm.trans hy
      exact ⟨E', q1.1, q2.2.1, q2.1, hsz⟩
    · exact ⟨cy, q10 y cy q hy, rfl, rfl, rfl⟩
  · obtain ⟨D3, cf, k, i, f, g1, g2, g3, g4, g5, g6, g7⟩ := F
    cases hD.symm.trans g1
    simp only [RoadKit.slotOf, g2, gV, gC, Option.map_some, Option.getD_some] at n1 n2
    exact ⟨E', cf, k, i, f, q1.1, g2, g3, by rw [q2.1]; exact g4, by rw [q2.1]; exact g5, by rw [q2.2.1]; exact g6, by rw [q2.2.2 f.slot (by simp [n1, n2])]; exact g7⟩
end StrChars.Road
namespace StrChars.Road
open Jvm Sem ClassFile Op Lib Jvm.Stand Jvm.Free Jvm.Free.XT
def QA (Z : State) (x : Addr) (zn : Int32) (cs : List Int32) (h : Heap) (v : Option Value) (h' : Heap) (L : List Loc) : Prop := v = none ∧ (∀ y ∈ L, y.base = x) ∧ RoadKit.Keep h h' [x] ∧ h'.size = h.size + 1 ∧ RoadKit.Exa Z h' x ST ∧ RoadKit.Fld Z h' x ST "value" "[B" (.ref h.size) ∧ RoadKit.Fld Z h' x ST "coder" "B" (.int 0) ∧
  (∃ kb, Z.vm.findClass "[B" = some kb ∧ RoadKit.Arv Z h' h.size kb .byte zn (cs.map fun c => .int (lo8 c)) (.int 0)) ∧
  ∀ (O n d : String) (w : Value), RoadKit.Fld Z h x O n d w → RoadKit.slotOf Z O n d ≠ RoadKit.slotOf Z ST "value" "[B" → RoadKit.slotOf Z O n d ≠ RoadKit.slotOf Z ST "coder" "B" → RoadKit.Fld Z h' x O n d w
theorem backArv {p : Program} {l : Launch} {e : Env} {R : Room} {s : State} {args : Array Value} {below : List Frame} {len W : Nat} {Z : State} {a0 : Array Value} {h : Heap} (hZ : Z.Warmed39 s.vm) (hw : ∀ d ∈ words, d.before a0 Z = true) {kI : Nat} (wi : (Jvm.Cond.instantiable ST kI).before a0 Z = true)
    {x b : Addr} {k : ClassId} {zn z : Int32} {cs : List Int32} {dv v0 c0 : Value} (E : RoadKit.Exa Z h x ST) (V : RoadKit.Fld Z h x ST "value" "[B" v0) (C : RoadKit.Fld Z h x ST "coder" "B" c0) (K : RoadKit.Arv Z h b k .char zn (cs.map Value.int) dv) (S : RoadKit.Sta Z h ST "COMPACT_STRINGS" "Z" (.int z)) (hz : ¬ z = 0)
    (hlen : zn.toNatClampNeg = cs.length) (h0 : 0 < cs.length) (hbig : cs.length ≤ 536870912) (hall : ∀ c ∈ cs, ¬ 255 < c) (hfr : 4 ≤ R.frames) (hlo : W + 65 ≤ R.locals) :
    Back l R p e below s args New1.yN len W (fun P a => a = #[.ref x, .ref b] ∧ P.U.heap = h ∧ P.cells + 1 ≤ R.cells ∧ P.slots + cs.length ≤ R.slots)
      (fun P _ v B => ∃ L, QA Z x zn cs h v B.U.heap L ∧ B.locs = P.locs ++ L ∧ B.cells = P.cells + 1 ∧ B.slots = P.slots + cs.length) := by
  obtain ⟨A, K1, K2, K3, K4, K5, K6⟩ := K
  have e : A.slots.size = cs.length := K3.trans hlen
  have hat : ∀ (i : Nat) (hi : i < cs.length), A.slots[i]? = some (.int cs[i]) := fun i hi => by rw [K5 i (by omega)]; simp [List.getD_eq_getElem?_getD, hi]
  have hcv : ∀ (i : Nat) (hi : i < cs.length), cv A i = cs[i] := fun i hi => by unfold cv; rw [hat i hi]
  have hty : Typed .char A := fun i v hv => by
    have hi : i < A.slots.size := (Array.getElem?_eq_some_iff.mp hv).1
    have q := K5 i hi
    rw [hv] at q
    rw [Option.some.inj q]
    exact K6 i hi
  refine Back.mono (back hZ hw wi E V C K1 hty S hz (by omega) (by omega) (fun i hi => by rw [hcv i (by omega)]; exact hall _ (List.getElem_mem _)) hfr hlo) (fun P a hp => ⟨hp.1, hp.2.1, hp.2.2.1, by rw [e]; exact hp.2.2.2⟩) (fun P a v B hp hq => ?_)
  obtain ⟨L, ⟨q1, q2, q3, q4, q5, q6, q7, ⟨V', v1, v2, v3, v4, v5⟩, q9⟩, hl, hc, hs⟩ := hq
  refine ⟨L, ⟨q1, q2, q3, q4, q5, q6, q7, ⟨V'.cls, v3, V', v1, rfl, by rw [v4, e, hlen], K4, fun i hi => ?_, fun i hi => ?_⟩, q9⟩, hl, hc, by rw [hs, e]⟩
  · have hi' : i < cs.length := by omega
    rw [v5 i (by omega), hcv i hi']; simp [List.getD_eq_getElem?_getD, hi']
  · have hi' : i < cs.length := by omega
    simp only [List.getD_eq_getElem?_getD, List.getElem?_map, List.getElem?_eq_getElem hi', Option.map_some, Option.getD_some]
    exact fits_lo8 _
end StrChars.Road
namespace StrChars.Road
open Jvm Sem ClassFile Op Lib Jvm.Stand Jvm.Free Jvm.Free.XT
def QV (Z : State) (x : Addr) (N : Int32) (bs : List Int32) (h : Heap) (n0 : Nat) (v : Option Value) (h' : Heap) (L : List Loc) : Prop := v = none ∧ RoadKit.Fr n0 L ∧ RoadKit.Keep h h' [x] ∧ RoadKit.Exa Z h' x ST ∧ RoadKit.Fld Z h' x ST "coder" "B" (.int 0) ∧
  ∃ (t : Addr) (kb : ClassId), n0 ≤ t ∧ h.size ≤ t ∧ ¬ t = x ∧ RoadKit.Fld Z h' x ST "value" "[B" (.ref t) ∧ RoadKit.Arv Z h' t kb .byte N (bs.map Value.int) (.int 0)
theorem backV {p : Program} {l : Launch} {e : Env} {R : Room} {s : State} {args : Array Value} {below : List Frame} {len W : Nat} {Z : State} {a0 : Array Value} {h : Heap} (hZ : Z.Warmed39 s.vm) (hw : ∀ d ∈ words, d.before a0 Z = true) {kI : Nat} (wi : (Jvm.Cond.instantiable ST kI).before a0 Z = true)
    {x b : Addr} {kC : ClassId} {cs bs : List Int32} {d v0 c0 : Value} {z N : Int32} {n n0 : Nat} (hx0 : n0 ≤ x) (hh0 : n0 ≤ h.size) (E : RoadKit.Exa Z h x ST) (V : RoadKit.Fld Z h x ST "value" "[B" v0) (C : RoadKit.Fld Z h x ST "coder" "B" c0) (K : RoadKit.Arv Z h b kC .char N (cs.map Value.int) d) (S : RoadKit.Sta Z h ST "COMPACT_STRINGS" "Z" (.int z)) (hz : ¬ z = 0)
    (hn : cs.length = n) (hN : N = Int32.ofNat n) (l0 : 0 < n) (l2 : n ≤ 4000) (hp : ∀ c ∈ cs, ¬ c < 0 ∧ ¬ (255 : Int32) < c) (hb : bs = cs.map (fun c => c.toInt8.toInt32)) (hfr : 4 ≤ R.frames) (hlo : W + 65 ≤ R.locals) :
    Back l R p e below s args (⟨"java/lang/String", "<init>", "([C)V"⟩ : MethodName) len W (fun P a => a = #[.ref x, .ref b] ∧ P.U.heap = h ∧ P.cells + 1 ≤ R.cells ∧ P.slots + n ≤ R.slots)
      (fun P _ v B => ∃ L, QV Z x N bs h n0 v B.U.heap L ∧ B.locs = P.locs ++ L ∧ B.cells = P.cells + 1 ∧ B.slots = P.slots + n) := by
  subst hn hN hb
  refine Back.mono (backArv hZ hw wi E V C K S hz (n32 (by omega)) l0 (by omega) (fun c hc => (hp c hc).2) hfr hlo) (fun P a hp => hp) (fun P a v B hp hq => ?_)
  obtain ⟨L, ⟨q1, q2, q3, q4, q5, q6, q7, ⟨kb, v1, v2⟩, q9⟩, hl, hc, hs⟩ := hq
  exact ⟨L, ⟨q1, fun y hy => by rw [q2 y hy]; exact hx0, q3, q5, q7, h.size, kb, hh0, Nat.le_refl _, Nat.ne_of_gt E.lt, q6, by rw [List.map_map]; exact v2⟩, hl, hc, hs⟩
end StrChars.Road
namespace StrChars
open Jvm Sem ClassFile Op Lib Jvm.Stand Jvm.Free.XT Jvm.Free.ALB Jvm.Free.JM Jvm.Free
open Jvm.Lib.Cold (StaticIs)
def hi8 (x : Int32) : Int32 := lo8 (x >>> ((8 : Int32) &&& 31))
def pairCh (u v : Int32) : Int32 := (((u &&& 255) <<< ((0 : Int32) &&& 31)) ||| ((v &&& 255) <<< ((8 : Int32) &&& 31))).toUInt32.toUInt16.toUInt32.toInt32
theorem shr0 (c : Int32) : c >>> ((0 : Int32) &&& 31) = c := by
  have e : ((0 : Int32) &&& 31) = 0 := by decide
  rw [e]
  apply Int32.toBitVec_inj.mp
  rw [Int32.toBitVec_shiftRight]
  have e1 : ((0 : Int32).toBitVec.smod 32) = 0#32 := by decide
  rw [e1, BitVec.sshiftRight_eq']
  exact BitVec.sshiftRight_zero
theorem lo8_and (x : Int32) : (lo8 x &&& 255).toBitVec.toNat = x.toBitVec.toNat % 256 := by
  have h : (lo8 x).toBitVec = (x.toBitVec.signExtend 8).signExtend 32 := by rw [lo8, Int8.toBitVec_toInt32, Int32.toBitVec_toInt8]
  rw [Int32.toBitVec_and, BitVec.toNat_and, h]
  have e : ((x.toBitVec.signExtend 8).signExtend 32).toNat % 256 = x.toBitVec.toNat % 256 := by
    rw [BitVec.toNat_signExtend]
    have hlt := x.toBitVec.isLt
    simp only [BitVec.toNat_setWidth, BitVec.toNat_signExtend]
    split <;> split <;> omega
  rw [← e]
  exact Nat.and_two_pow_sub_one_eq_mod _ 8
theorem pair_says {c : Int32} (h0 : ¬ c < 0) (h1 : ¬ 65535 < c) : pairCh (lo8 c) (hi8 c) = c := by
  rw [Int32.lt_iff_toInt_lt] at h0 h1
  have e0 : (0 : Int32).toInt = 0 := rfl
  have e1 : (65535 : Int32).toInt = 65535 := rfl
  have hc : c.toInt = c.toBitVec.toNat := by
    have := c.toBitVec.isLt
    have e : c.toInt = c.toBitVec.toInt := rfl
    rw [e] at h0 h1
    rw [e]
    rw [BitVec.toInt_eq_toNat_cond] at h0 h1 ⊢
    split at h0 <;> split <;> omega
  have hn : c.toBitVec.toNat < 65536 := by omega
  have a1 := lo8_and c
  have a2 : (hi8 c &&& 255).toBitVec.toNat = c.toBitVec.toNat / 256 := by
    rw [hi8, lo8_and]
    have e : ((8 : Int32) &&& 31) = 8 := by decide
    rw [e, Int32.toBitVec_shiftRight]
    have e2 : ((8 : Int32).toBitVec.smod 32) = 8#32 := by decide
    rw [e2, BitVec.sshiftRight_eq', BitVec.toNat_sshiftRight_of_msb_false (by rw [BitVec.msb_eq_false_iff_two_mul_lt]; omega)]
    show c.toBitVec.toNat >>> 8 % 256 = _
    rw [Nat.shiftRight_eq_div_pow]
    omega
  unfold pairCh
  apply Int32.toBitVec_inj.mp
  apply BitVec.eq_of_toNat_eq
  have f0 : ((0 : Int32) &&& 31) = 0 := by decide
  have f8 : ((8 : Int32) &&& 31) = 8 := by decide
  rw [f0, f8]
  have g : (((lo8 c &&& 255) <<< (0 : Int32)) ||| ((hi8 c &&& 255) <<< (8 : Int32))).toBitVec.toNat = c.toBitVec.toNat := by
    rw [Int32.toBitVec_or, Int32.toBitVec_shiftLeft, Int32.toBitVec_shiftLeft]
    have s0 : ((0 : Int32).toBitVec.smod 32) = 0#32 := by decide
    have s8 : ((8 : Int32).toBitVec.smod 32) = 8#32 := by decide
    rw [s0, s8, BitVec.toNat_or]
    simp only [BitVec.shiftLeft_eq', BitVec.toNat_shiftLeft, a1, a2]
    show (c.toBitVec.toNat % 256) <<< 0 % 2 ^ 32 ||| (c.toBitVec.toNat / 256) <<< 8 % 2 ^ 32 = _
    rw [Nat.shiftLeft_zero, Nat.mod_eq_of_lt (show c.toBitVec.toNat % 256 < 2 ^ 32 by omega), Nat.mod_eq_of_lt (show (c.toBitVec.toNat / 256) <<< 8 < 2 ^ 32 by rw [Nat.shiftLeft_eq]; omega), Nat.or_comm, ← Nat.shiftLeft_add_eq_or_of_lt (by omega), Nat.shiftLeft_eq]
    omega
  show BitVec.toNat (((((lo8 c &&& 255) <<< (0 : Int32)) ||| ((hi8 c &&& 255) <<< (8 : Int32))).toBitVec.setWidth 16).setWidth 32) = _
  rw [BitVec.toNat_setWidth, BitVec.toNat_setWidth, g]
  omega
end StrChars
namespace StrChars
open Jvm Sem ClassFile Op Lib Jvm.Stand Jvm.Free.XT Jvm.Free.ALB Jvm.Free.JM Jvm.Free
open Jvm.Lib.Cold (StaticIs)
theorem shr1 {n : Nat} (h : 2 * n < 2 ^ 31) : Int32.ofNat (2 * n) >>> ((1 : Int32) &&& 31) = Int32.ofNat n := by
  have e : ((1 : Int32) &&& 31) = 1 := by decide
  rw [e]
  apply Int32.toBitVec_inj.mp
  rw [Int32.toBitVec_shiftRight]
  have e1 : ((1 : Int32).toBitVec.smod 32) = 1#32 := by decide
  have hm : (BitVec.ofNat 32 (2 * n)).toNat = 2 * n := by rw [BitVec.toNat_ofNat, Nat.mod_eq_of_lt (by omega)]
  rw [e1, BitVec.sshiftRight_eq']
  apply BitVec.eq_of_toNat_eq
  show ((BitVec.ofNat 32 (2 * n)).sshiftRight 1).toNat = (BitVec.ofNat 32 n).toNat
  rw [BitVec.toNat_sshiftRight_of_msb_false (by rw [BitVec.msb_eq_false_iff_two_mul_lt, hm]; omega), hm, BitVec.toNat_ofNat, Nat.shiftRight_eq_div_pow]
  omega
def chr8 (u : Int32) : Int32 := (u &&& 255).toUInt32.toUInt16.toUInt32.toInt32
theorem chr8_lo8 {c : Int32} (h0 : ¬ c < 0) (h1 : ¬ 255 < c) : chr8 (lo8 c) = c := by
  have t : ∀ k : Fin 256, (Int32.ofNat k.val).toUInt32.toUInt16.toUInt32.toInt32 = Int32.ofNat k.val := by decide +kernel
  unfold chr8
  rw [lo8_mask h0 h1]
  rw [Int32.lt_iff_toInt_lt] at h0 h1
  have e0 : (0 : Int32).toInt = 0 := rfl
  have e1 : (255 : Int32).toInt = 255 := rfl
  obtain ⟨k, hk⟩ : ∃ k : Nat, c.toInt = k := ⟨c.toInt.toNat, by omega⟩
  have hx : c = Int32.ofNat k := Int32.toInt_inj.mp (by rw [hk, Int32.toInt_ofNat_small (by omega)])
  rw [hx]
  exact t ⟨k, by omega⟩
theorem narrow_ch {c : Int32} (h0 : ¬ c < 0) (h1 : ¬ 65535 < c) : narrow .char (.int c) = .int c := by
  have q : narrow .char (.int (pairCh (lo8 c) (hi8 c))) = .int (pairCh (lo8 c) (hi8 c)) := narrow_c _
  rwa [pair_says h0 h1] at q
def Cod (cd : Int32) (n : Nat) (f : Nat → Int32) (V : Cell) : Prop := (cd = 0 ∧ V.slots.size = n ∧ ∀ j, j < n → V.slots[j]? = some (.int (lo8 (f j))) ∧ ¬ 255 < f j) ∨ (cd = 1 ∧ V.slots.size = 2 * n ∧ (∀ j, j < n → V.slots[2 * j]? = some (.int (lo8 (f j))) ∧ V.slots[2 * j + 1]? = some (.int (hi8 (f j)))) ∧ ∃ j, j < n ∧ 255 < f j)
theorem Cod.cd {cd : Int32} {n : Nat} {f : Nat → Int32} {V : Cell} (h : Cod cd n f V) : cd = 0 ∨ cd = 1 := h.imp (fun q => q.1) fun q => q.1
theorem Cod.len {cd : Int32} {n : Nat} {f : Nat → Int32} {V : Cell} (h : Cod cd n f V) (hs : V.slots.size < 2 ^ 31) : Int32.ofNat V.slots.size >>> (cd &&& 31) = Int32.ofNat n := by
  rcases h with ⟨rfl, h, -⟩ | ⟨rfl, h, -⟩
  · rw [shr0, h]
  · rw [h, shr1 (by omega)]
def Txt (x t : Addr) (V : Cell) (cd : Int32) (n : Nat) (f : Nat → Int32) (U : State) : Prop := Exact "java/lang/String" x U ∧ Has x "java/lang/String" "value" "[B" (.ref t) U ∧ Has x "java/lang/String" "coder" "B" (.int cd) U ∧ XT.Arr .byte t V U ∧ Cod cd n f V ∧ ∀ j, j < n → ¬ f j < 0 ∧ ¬ 65535 < f j
theorem Txt.mv {x t : Addr} {V : Cell} {cd : Int32} {n : Nat} {f : Nat → Int32} {U U' : State} (h : Txt x t V cd n f U) (hal : U.vm.Alike U'.vm) (hh : U'.heap = U.heap) : Txt x t V cd n f U' := ⟨h.1.mv hal hh, h.2.1.mv hal hh, h.2.2.1.mv hal hh, h.2.2.2.1.mv hal hh, h.2.2.2.2⟩
namespace Cdr
def yN : MethodName := ⟨"java/lang/String", "coder", "()B"⟩
abbrev yB : ByteArray := jdk_42_method_152_code
theorem d0 : decode yB 0 = .ok (.getstatic 38, 3) := by decide +kernel
theorem d3 : decode yB 3 = .ok (.ifCond (.eq) 10, 3) := by decide +kernel
theorem d6 : decode yB 6 = .ok (.aload_n 0, 1) := by decide +kernel
theorem d7 : decode yB 7 = .ok (.getfield 15, 3) := by decide +kernel
theorem d10 : decode yB 10 = .ok (.goto 4, 3) := by decide +kernel
theorem d14 : decode yB 14 = .ok (.ireturn, 1) := by decide +kernel
def site : List Cond := [.fieldLink "java/lang/String" 38 "java/lang/String" "COMPACT_STRINGS" "Z", .fieldLink "java/lang/String" 15 "java/lang/String" "coder" "B"]
def tab : Cond := tabOf yN yB 1 (some .byte) site
def P (x : Addr) (cd z : Int32) (args : Array Value) (s : State) : Prop := args = #[.ref x] ∧ Has x "java/lang/String" "coder" "B" (.int cd) s ∧ (cd = 0 ∨ cd = 1) ∧ StaticIs s "java/lang/String" "COMPACT_STRINGS" "Z" (.int z) ∧ ¬ z = 0
def E (cd : Int32) (r : Option Value) (s u : State) : Prop := XT.PureE (some (.int cd)) r s u
theorem law (l : Launch) (x : Addr) (cd z : Int32) : Law l yN 1 0 0 0 yB 1 (some .byte) site (P x cd z) (E cd) [] 0 0 := by
  refine Law.of_walk (plainFor_of_name (by decide +kernel)) (by decide +kernel) (by decide +kernel) (by decide) (fun _ _ h => by rw [h.1]; rfl) (fun _ U U' hal hh h => ⟨h.1, h.2.1.mv hal hh, h.2.2.1, h.2.2.2.1.there hal hh, h.2.2.2.2⟩) (fun r U U' V V' h1 hal h2 h => XT.PureE.mv r U U' V V' h1 hal h2 h) ?_
  intro p e s m args below meth c s₁ X0 hexec hbytes hml hret hlk hnm hown hh0 W hP
  obtain ⟨rfl, hx, hc, s1, hz⟩ := hP
  have c1 : Steps p.tables e below (s₁.setTop (entryFrame m #[.ref x] 1)) (s₁.setTop (mkF m 0 #[.val (.ref x)] [])) := entry rfl
  obtain ⟨T2, X2, q2, st2⟩ := X0.sget hexec hown (wk W (.fieldLink "java/lang/String" 38 "java/lang/String" "COMPACT_STRINGS" "Z")) s1 (fun _ _ h => by rw [hh0]; exact h) (g := (mkF m 0 #[.val (.ref x)] [])) rfl (hb hbytes d0)
  have hh2 := q2.trans hh0
  have c3 : Steps p.tables e below (s₁.setTop (entryFrame m #[.ref x] 1)) (T2.setTop (mkF m 7 #[.val (.ref x)] [.ref x])) := (c1.trans (st2 _ (Steps.refl _))).trans (by
    refine XS.ifNo X2.here hexec rfl (hb hbytes d3) rfl (i0_eq_f hz) ?_
    refine XS.aloadN X2.here hexec rfl (hb hbytes d6) rfl rfl ?_
    exact Steps.refl _)
  obtain ⟨T4, X4, q4, st4⟩ := X2.hget hexec hown (wk W (.fieldLink "java/lang/String" 15 "java/lang/String" "coder" "B")) (hx.mv X2.warmed.alike hh2) (g := (mkF m 7 #[.val (.ref x)] [.ref x])) rfl (rest := []) rfl (hb hbytes d7)
  have c5 : Steps p.tables e below (s₁.setTop (entryFrame m #[.ref x] 1)) (T4.setTop (mkF m 14 #[.val (.ref x)] [.int cd])) := (c3.trans (st4 _ (Steps.refl _))).trans (by
    refine XS.goto X4.here hexec rfl (pc0 := 10) rfl (hb hbytes d10) (by decide) rfl ?_
    exact Steps.refl _)
  exact ⟨T4, some (.int cd), _, _, _, X4, rfl, rfl, rfl, (fun h => by cases h), ⟨rfl, q4.trans hh2⟩, fun fs hl => c5.trans (X4.ireturnOut hexec hret (by rcases hc with rfl | rfl <;> rfl) (Or.inr (Or.inr (Or.inl rfl))) (hb hbytes d14) hl)⟩
end Cdr
namespace Len
def yN : MethodName := ⟨"java/lang/String", "length", "()I"⟩
abbrev yB : ByteArray := jdk_42_method_54_code
theorem d0 : decode yB 0 = .ok (.aload_n 0, 1) := by decide +kernel
theorem d1 : decode yB 1 = .ok (.getfield 9, 3) := by decide +kernel
theorem d4 : decode yB 4 = .ok (.arraylength, 1) := by decide +kernel
theorem d5 : decode yB 5 = .ok (.aload_n 0, 1) := by decide +kernel
theorem d6 : decode yB 6 = .ok (.invokevirtual 335, 3) := by decide +kernel
theorem d9 : decode yB 9 = .ok (.ishr, 1) := by decide +kernel
theorem d10 : decode yB 10 = .ok (.ireturn, 1) := by decide +kernel
def site : List Cond := [.fieldLink "java/lang/String" 9 "java/lang/String" "value" "[B", Cdr.tab] ++ virtW "java/lang/String" 335 "java/lang/String" Cdr.yN Cdr.yN
def tab : Cond := tabOf yN yB 1 (some .int) site
def P (x t : Addr) (V : Cell) (cd : Int32) (n : Nat) (f : Nat → Int32) (z : Int32) (args : Array Value) (s : State) : Prop := args = #[.ref x] ∧ Txt x t V cd n f s ∧ StaticIs s "java/lang/String" "COMPACT_STRINGS" "Z" (.int z) ∧ ¬ z = 0
def E (n : Nat) (r : Option Value) (s u : State) : Prop := XT.PureE (some (.int (Int32.ofNat n))) r s u
theorem law (l : Launch) (x t : Addr) (V : Cell) (cd : Int32) (n : Nat) (f : Nat → Int32) (z : Int32) : Law l yN 1 0 1 13 yB 1 (some .int) site (P x t V cd n f z) (E n) [] 0 0 := by
  refine Law.of_walk (plainFor_of_name (by decide +kernel)) (by decide +kernel) (by decide +kernel) (by decide) (fun _ _ h => by rw [h.1]; rfl) (fun _ U U' hal hh h => ⟨h.1, h.2.1.mv hal hh, h.2.2.1.there hal hh, h.2.2.2⟩) (fun r U U' V V' h1 hal h2 h => XT.PureE.mv r U U' V V' h1 hal h2 h) ?_
  intro p e s m args below meth c s₁ X0 hexec hbytes hml hret hlk hnm hown hh0 W hP
  obtain ⟨rfl, hx, s1, hz⟩ := hP
  have v31 := hx.2.2.2.1.2.2.2
  have c1 : Steps p.tables e below (s₁.setTop (entryFrame m #[.ref x] 1)) (s₁.setTop (mkF m 1 #[.val (.ref x)] [.ref x])) := Steps.trans (entry rfl) (by
    show Steps p.tables e below (s₁.setTop (mkF m 0 #[.val (.ref x)] [])) _
    refine XS.aloadN X0.here hexec rfl (hb hbytes d0) rfl rfl ?_
    exact Steps.refl _)
  obtain ⟨T2, X2, q2, st2⟩ := X0.hget hexec hown (wk W (.fieldLink "java/lang/String" 9 "java/lang/String" "value" "[B")) (hx.mv X0.warmed.alike hh0).2.1 (g := (mkF m 1 #[.val (.ref x)] [.ref x])) rfl (rest := []) rfl (hb hbytes d1)
  have hh2 := q2.trans hh0
  have hx2 := hx.mv X2.warmed.alike hh2
  have c3 : Steps p.tables e below (s₁.setTop (entryFrame m #[.ref x] 1)) (T2.setTop (mkF m 6 #[.val (.ref x)] [.ref x, .int (Int32.ofNat V.slots.size)])) := (c1.trans (st2 _ (Steps.refl _))).trans (by
    refine X2.alen hexec hx2.2.2.2.1 rfl rfl (hb hbytes d4) ?_
    refine XS.aloadN X2.here hexec rfl (hb hbytes d5) rfl rfl ?_
    exact Steps.refl _)
  obtain ⟨v4, T4, X4, E4, g4⟩ := X2.callV hexec (Cdr.law l x cd z) hown (wks W (virtW "java/lang/String" 335 "java/lang/String" Cdr.yN Cdr.yN)) rfl (by decide) (wk W Cdr.tab) (W := 1) (Nat.le_of_ble_eq_true rfl) (Nat.le_of_ble_eq_true rfl) (Nat.le_refl _) (Nat.le_refl _) (hx2.1.fc X2.warmed.alike) hx2.1.is (g := (mkF m 6 #[.val (.ref x)] [.ref x, .int (Int32.ofNat V.slots.size)])) rfl (by rw [hml]; rfl) c3 (argsL := []) (rest := [.int (Int32.ofNat V.slots.size)]) rfl rfl (by show 2 * 0 + (1 + 0) ≤ _; decide) (hb hbytes d6) (⟨rfl, hx2.2.2.1, hx.2.2.2.2.1.cd, s1.there X2.warmed.alike hh2, hz⟩)
  obtain ⟨rfl, q4⟩ := E4
  have c5 : Steps p.tables e below (s₁.setTop (entryFrame m #[.ref x] 1)) (T4.setTop (mkF m 10 #[.val (.ref x)] [.int (Int32.ofNat V.slots.size >>> (cd &&& 31))])) := Steps.trans g4 (by
    refine ishr X4.here hexec rfl (hb hbytes d9) rfl ?_
    exact Steps.refl _)
  rw [hx.2.2.2.2.1.len v31] at c5
  exact ⟨T4, some (.int (Int32.ofNat n)), _, _, _, X4, rfl, rfl, rfl, (fun h => by cases h), ⟨rfl, q4.trans hh2⟩, fun fs hl => c5.trans (X4.ireturnOut hexec hret rfl (Or.inl rfl) (hb hbytes d10) hl)⟩
theorem pays {l : Launch} {R : Room} {p : Program} {e : Env} {below : List Frame} {s : State} {sargs : Array Value} {len W : Nat} (x t : Addr) (V : Cell) (cd : Int32) (n : Nat) (f : Nat → Int32) (z : Int32) (htab : tab.before sargs s = true) (hfr : 2 ≤ R.frames) (hlo : W + 25 ≤ R.locals) :
    Back l R p e below s sargs yN len W (fun A₁ a₁ => A₁.cells + 0 ≤ R.cells ∧ A₁.slots + 0 ≤ R.slots ∧ P x t V cd n f z a₁ A₁.U) (fun A₁ _ v₁ B₁ => E n v₁ A₁.U B₁.U ∧ B₁.locs = A₁.locs ++ [] ∧ B₁.cells = A₁.cells + 0 ∧ B₁.slots = A₁.slots + 0) :=
  (law l x t V cd n f z).pays htab hfr (by omega)
end Len
namespace IsL
def yN : MethodName := ⟨"java/lang/String", "isLatin1", "()Z"⟩
abbrev yB : ByteArray := jdk_42_method_154_code
theorem d0 : decode yB 0 = .ok (.getstatic 38, 3) := by decide +kernel
theorem d3 : decode yB 3 = .ok (.ifCond (.eq) 14, 3) := by decide +kernel
theorem d6 : decode yB 6 = .ok (.aload_n 0, 1) := by decide +kernel
theorem d7 : decode yB 7 = .ok (.getfield 15, 3) := by decide +kernel
theorem d10 : decode yB 10 = .ok (.ifCond (.ne) 7, 3) := by decide +kernel
theorem d13 : decode yB 13 = .ok (.iconst 1, 1) := by decide +kernel
theorem d14 : decode yB 14 = .ok (.goto 4, 3) := by decide +kernel
theorem d17 : decode yB 17 = .ok (.iconst 0, 1) := by decide +kernel
theorem d18 : decode yB 18 = .ok (.ireturn, 1) := by decide +kernel
def site : List Cond := [.fieldLink "java/lang/String" 38 "java/lang/String" "COMPACT_STRINGS" "Z", .fieldLink "java/lang/String" 15 "java/lang/String" "coder" "B"]
def tab : Cond := tabOf yN yB 1 (some .boolean) site
def P (x : Addr) (cd z : Int32) (args : Array Value) (s : State) : Prop := args = #[.ref x] ∧ Has x "java/lang/String" "coder" "B" (.int cd) s ∧ (cd = 0 ∨ cd = 1) ∧ StaticIs s "java/lang/String" "COMPACT_STRINGS" "Z" (.int z) ∧ ¬ z = 0
def E (cd : Int32) (r : Option Value) (s u : State) : Prop := XT.PureE (some (.int (1 - cd))) r s u
theorem law (l : Launch) (x : Addr) (cd z : Int32) : Law l yN 1 0 0 0 yB 1 (some .boolean) site (P x cd z) (E cd) [] 0 0 := by
  refine Law.of_walk (plainFor_of_name (by decide +kernel)) (by decide +kernel) (by decide +kernel) (by decide) (fun _ _ h => by rw [h.1]; rfl) (fun _ U U' hal hh h => ⟨h.1, h.2.1.mv hal hh, h.2.2.1, h.2.2.2.1.there hal hh, h.2.2.2.2⟩) (fun r U U' V V' h1 hal h2 h => XT.PureE.mv r U U' V V' h1 hal h2 h) ?_
  intro p e s m args below meth c s₁ X0 hexec hbytes hml hret hlk hnm hown hh0 W hP
  obtain ⟨rfl, hx, hc, s1, hz⟩ := hP
  have c1 : Steps p.tables e below (s₁.setTop (entryFrame m #[.ref x] 1)) (s₁.setTop (mkF m 0 #[.val (.ref x)] [])) := entry rfl
  obtain ⟨T2, X2, q2, st2⟩ := X0.sget hexec hown (wk W (.fieldLink "java/lang/String" 38 "java/lang/String" "COMPACT_STRINGS" "Z")) s1 (fun _ _ h => by rw [hh0]; exact h) (g := (mkF m 0 #[.val (.ref x)] [])) rfl (hb hbytes d0)
  have hh2 := q2.trans hh0
  have c3 : Steps p.tables e below (s₁.setTop (entryFrame m #[.ref x] 1)) (T2.setTop (mkF m 7 #[.val (.ref x)] [.ref x])) := (c1.trans (st2 _ (Steps.refl _))).trans (by
    refine XS.ifNo X2.here hexec rfl (hb hbytes d3) rfl (i0_eq_f hz) ?_
    refine XS.aloadN X2.here hexec rfl (hb hbytes d6) rfl rfl ?_
    exact Steps.refl _)
  obtain ⟨T4, X4, q4, st4⟩ := X2.hget hexec hown (wk W (.fieldLink "java/lang/String" 15 "java/lang/String" "coder" "B")) (hx.mv X2.warmed.alike hh2) (g := (mkF m 7 #[.val (.ref x)] [.ref x])) rfl (rest := []) rfl (hb hbytes d7)
  have c5 : Steps p.tables e below (s₁.setTop (entryFrame m #[.ref x] 1)) (T4.setTop (mkF m 10 #[.val (.ref x)] [.int cd])) := c3.trans (st4 _ (Steps.refl _))
  have c6 : Steps p.tables e below (s₁.setTop (entryFrame m #[.ref x] 1)) (T4.setTop (mkF m 18 #[.val (.ref x)] [.int (1 - cd)])) := by
    rcases hc with rfl | rfl
    · exact c5.trans (by
        refine XS.ifNo X4.here hexec rfl (hb hbytes d10) rfl (i0_ne_f rfl) ?_
        refine iconstV X4.here hexec rfl 1 (hb hbytes d13) (by decide) ?_
        refine XS.goto X4.here hexec rfl (pc0 := 14) rfl (hb hbytes d14) (by decide) rfl ?_
        exact Steps.refl _)
    · exact c5.trans (by
        refine XS.ifYes X4.here hexec rfl (pc0 := 10) rfl (hb hbytes d10) rfl (i0_ne_t (by decide)) (by decide) rfl ?_
        refine iconstV X4.here hexec rfl 0 (hb hbytes d17) (by decide) ?_
        exact Steps.refl _)
  exact ⟨T4, some (.int (1 - cd)), _, _, _, X4, rfl, rfl, rfl, (fun h => by cases h), ⟨rfl, q4.trans hh2⟩, fun fs hl => c6.trans (X4.ireturnOut hexec hret (by rcases hc with rfl | rfl <;> rfl) (Or.inr (Or.inl rfl)) (hb hbytes d18) hl)⟩
end IsL
namespace LChA
def yN : MethodName := ⟨"java/lang/StringLatin1", "charAt", "([BI)C"⟩
abbrev yB : ByteArray := jdk_43_method_2_code
theorem d0 : decode yB 0 = .ok (.iload_n 1, 1) := by decide +kernel
theorem d1 : decode yB 1 = .ok (.aload_n 0, 1) := by decide +kernel
theorem d2 : decode yB 2 = .ok (.arraylength, 1) := by decide +kernel
theorem d3 : decode yB 3 = .ok (.invokestatic 9, 3) := by decide +kernel
theorem d6 : decode yB 6 = .ok (.aload_n 0, 1) := by decide +kernel
theorem d7 : decode yB 7 = .ok (.iload_n 1, 1) := by decide +kernel
theorem d8 : decode yB 8 = .ok (.baload, 1) := by decide +kernel
theorem d9 : decode yB 9 = .ok (.sipush 255, 3) := by decide +kernel
theorem d12 : decode yB 12 = .ok (.iand, 1) := by decide +kernel
theorem d13 : decode yB 13 = .ok (.i2c, 1) := by decide +kernel
theorem d14 : decode yB 14 = .ok (.ireturn, 1) := by decide +kernel
def site : List Cond := [JO.Str_checkIndex.tab] ++ staticW "java/lang/StringLatin1" 9 JO.Str_checkIndex.yN
def tab : Cond := tabOf yN yB 2 (some .char) site
def P (t : Addr) (V : Cell) (i : Nat) (u : Int32) (fm : Value) (args : Array Value) (s : State) : Prop := args = #[.ref t, .int (Int32.ofNat i)] ∧ XT.Arr .byte t V s ∧ V.slots[i]? = some (.int u) ∧ (StaticIs s "jdk/internal/util/Preconditions" "SIOOBE_FORMATTER" "Ljava/util/function/BiFunction;" fm ∧ fm.isRef = true)
def E (u : Int32) (r : Option Value) (s w : State) : Prop := XT.PureE (some (.int (chr8 u))) r s w
theorem law (l : Launch) (t : Addr) (V : Cell) (i : Nat) (u : Int32) (fm : Value) : Law l yN 2 2 2 27 yB 2 (some .char) site (P t V i u fm) (E u) [] 0 0 := by
  refine Law.of_walk (plainFor_of_name (by decide +kernel)) (by decide +kernel) (by decide +kernel) (by decide) (fun _ _ h => by rw [h.1]; rfl) (fun _ U U' hal hh h => ⟨h.1, h.2.1.mv hal hh, h.2.2.1, h.2.2.2.1.there hal hh, h.2.2.2.2⟩) (fun r U U' V V' h1 hal h2 h => XT.PureE.mv r U U' V V' h1 hal h2 h) ?_
  intro p e s m args below meth c s₁ X0 hexec hbytes hml hret hlk hnm hown hh0 W hP
  obtain ⟨rfl, hV, hu, s1, rf⟩ := hP
  have v31 := hV.2.2.2
  have hi : i < V.slots.size := (Array.getElem?_eq_some_iff.mp hu).1
  have c1 : Steps p.tables e below (s₁.setTop (entryFrame m #[.ref t, .int (Int32.ofNat i)] 2)) (s₁.setTop (mkF m 0 #[.val (.ref t), .val (.int (Int32.ofNat i))] [])) := entry rfl
  have c2 : Steps p.tables e below (s₁.setTop (entryFrame m #[.ref t, .int (Int32.ofNat i)] 2)) (s₁.setTop (mkF m 3 #[.val (.ref t), .val (.int (Int32.ofNat i))] [.int (Int32.ofNat V.slots.size), .int (Int32.ofNat i)])) := c1.trans (by
    refine XS.iloadN X0.here hexec rfl (hb hbytes d0) rfl ?_
    refine XS.aloadN X0.here hexec rfl (hb hbytes d1) rfl rfl ?_
    refine X0.alen hexec (hV.mv X0.warmed.alike hh0) rfl rfl (hb hbytes d2) ?_
    exact Steps.refl _)
  obtain ⟨v3, T3, X3, E3, g3⟩ := X0.callS hexec (JO.Str_checkIndex.law l (Int32.ofNat i) (Int32.ofNat V.slots.size) fm) hown (wks W (staticW "java/lang/StringLatin1" 9 JO.Str_checkIndex.yN)) (wk W JO.Str_checkIndex.tab) (W := 0) (Nat.le_of_ble_eq_true rfl) (Nat.le_of_ble_eq_true rfl) (Nat.le_refl _) (Nat.le_refl _) (g := (mkF m 3 #[.val (.ref t), .val (.int (Int32.ofNat i))] [.int (Int32.ofNat V.slots.size), .int (Int32.ofNat i)])) rfl (by rw [hml]; rfl) c2 (argsL := [.int (Int32.ofNat i), .int (Int32.ofNat V.slots.size)]) (rest := []) rfl rfl (by show 2 * 0 + 0 ≤ _; decide) (hb hbytes d3) (⟨rfl, rf, s1.there X0.warmed.alike hh0, Int32.ofNat_not_neg (by omega), lt32 v31 hi⟩)
  obtain ⟨rfl, q3⟩ := E3
  have hh3 := q3.trans hh0
  have c4 : Steps p.tables e below (s₁.setTop (entryFrame m #[.ref t, .int (Int32.ofNat i)] 2)) (T3.setTop (mkF m 14 #[.val (.ref t), .val (.int (Int32.ofNat i))] [.int (chr8 u)])) := Steps.trans g3 (by
    refine XS.aloadN X3.here hexec rfl (hb hbytes d6) rfl rfl ?_
    refine XS.iloadN X3.here hexec rfl (hb hbytes d7) rfl ?_
    refine X3.aget hexec (hV.mv X3.warmed.alike hh3) rfl hu rfl rfl (hb hbytes d8) ?_
    refine sipushV X3.here hexec rfl 255 (hb hbytes d9) (by decide) ?_
    refine XS.iand X3.here hexec rfl (hb hbytes d12) rfl ?_
    refine i2c X3.here hexec rfl (hb hbytes d13) rfl ?_
    exact Steps.refl _)
  exact ⟨T3, some (.int (chr8 u)), _, _, _, X3, rfl, rfl, rfl, (fun h => by cases h), ⟨rfl, hh3⟩, fun fs hl => c4.trans (X3.ireturnOut hexec hret (narrow_c _) (Or.inr (Or.inr (Or.inr (Or.inl rfl)))) (hb hbytes d14) hl)⟩
end LChA
end StrChars
namespace StrChars.Road
open Jvm Sem ClassFile Op Lib Jvm.Stand Jvm.Free Jvm.Free.XT
open Jvm.Lib.Cold (StaticIs)
theorem consq {a : Array Value} {s : State} {c : Jvm.Cond} {L : List Jvm.Cond} (h0 : c.before a s = true) (h : ∀ w ∈ L, w.before a s = true) : ∀ w ∈ c :: L, w.before a s = true := fun w hw => (List.mem_cons.mp hw).elim (fun e => e ▸ h0) (h w)
abbrev wordsLen : List Jvm.Cond := [.code Len.yN Len.yB 1 (some .int), .initialized ST, .fieldLink ST 9 ST "value" "[B", .fieldLink ST 38 ST "COMPACT_STRINGS" "Z", .fieldLink ST 15 ST "coder" "B", .code Cdr.yN Cdr.yB 1 (some .byte), .methodLink ST 335 Cdr.yN, .declares Cdr.yN, .selects ST Cdr.yN Cdr.yN, .instanceMethod Cdr.yN]
theorem tabLen_of {a : Array Value} {s : State} (h : ∀ w ∈ wordsLen, w.before a s = true) : Len.tab.before a s = true := by
  have hc : Cdr.tab.before a s = true := unparts (wk h (.code Cdr.yN Cdr.yB 1 (some .byte))) (wks h (.initialized Cdr.yN.cls :: Cdr.site))
  have q := consq hc h
  exact unparts (wk q (.code Len.yN Len.yB 1 (some .int))) (wks q (.initialized Len.yN.cls :: Len.site))
theorem movedLen {Z s : State} {a0 args : Array Value} (hZ : Z.Warmed39 s.vm) (hw : ∀ d ∈ wordsLen, d.before a0 Z = true) : ∀ d ∈ wordsLen, d.before args s = true := fun d hd => by
  have q := hw d hd
  have t : ∀ d ∈ wordsLen, d = .arrayClass .byte ∨ (d.onTables && d.keepsFace) = true := by decide +kernel
  rcases t d hd with rfl | t
  · exact RoadKit.mvA hZ q
  · exact RoadKit.mv hZ q t
def wideBytes : List Int32 → List Value
  | [] => []
  | c :: cs => .int (lo8 c) :: .int (hi8 c) :: wideBytes cs
theorem wide_lo (d : Value) : ∀ (cs : List Int32) (j : Nat), j < cs.length → (wideBytes cs).getD (2 * j) d = .int (lo8 (cs.getD j 0))
  | [], j, h => absurd h (Nat.not_lt_zero j)
  | c :: cs, 0, _ => rfl
  | c :: cs, j + 1, h => by
    have q := wide_lo d cs j (by simpa using h)
    rw [show 2 * (j + 1) = 2 * j + 1 + 1 from by omega]
    simpa [wideBytes] using q
theorem wide_hi (d : Value) : ∀ (cs : List Int32) (j : Nat), j < cs.length → (wideBytes cs).getD (2 * j + 1) d = .int (hi8 (cs.getD j 0))
  | [], j, h => absurd h (Nat.not_lt_zero j)
  | c :: cs, 0, _ => rfl
  | c :: cs, j + 1, h => by
    have q := wide_hi d cs j (by simpa using h)
    rw [show 2 * (j + 1) + 1 = 2 * j + 1 + 1 + 1 from by omega]
    simpa [wideBytes] using q
theorem low_at (d : Value) (cs : List Int32) (j : Nat) (h : j < cs.length) : (cs.map fun c => Value.int (lo8 c)).getD j d = .int (lo8 (cs.getD j 0)) := by
  simp [List.getD_eq_getElem?_getD, h]
def CodA (cs : List Int32) (cd N2 : Int32) (vs : List Value) : Prop := (cd = 0 ∧ N2 = Int32.ofNat cs.length ∧ vs = (cs.map fun c => Value.int (lo8 c)) ∧ ∀ c ∈ cs, ¬ 255 < c) ∨ (cd = 1 ∧ N2 = Int32.ofNat (2 * cs.length) ∧ vs = wideBytes cs ∧ ∃ c ∈ cs, 255 < c)
theorem CodA.cod {cs : List Int32} {cd N2 : Int32} {vs : List Value} {V : Cell} (h : CodA cs cd N2 vs) (hn : 2 * cs.length < 2 ^ 31) (hs : V.slots.size = N2.toNatClampNeg) (hv : RoadKit.Has V vs (.int 0)) : Cod cd cs.length (fun j => cs.getD j 0) V := by
  rcases h with ⟨rfl, rfl, rfl, h⟩ | ⟨rfl, rfl, rfl, c, hc, hw⟩
  · rw [n32 (by omega)] at hs
    exact Or.inl ⟨rfl, hs, fun j hj => ⟨by rw [hv j (by omega), low_at _ _ _ hj], by
      have e : cs.getD j 0 = cs[j] := by simp [List.getD_eq_getElem?_getD, hj]
      show ¬ 255 < cs.getD j 0
      rw [e]; exact h _ (List.getElem_mem _)⟩⟩
  · rw [n32 (by omega)] at hs
    obtain ⟨j, hj, rfl⟩ := List.getElem_of_mem hc
    exact Or.inr ⟨rfl, hs, fun j hj => ⟨by rw [hv _ (by omega), wide_lo _ _ _ hj], by rw [hv _ (by omega), wide_hi _ _ _ hj]⟩, j, hj, by
      have e : cs.getD j 0 = cs[j] := by simp [List.getD_eq_getElem?_getD, hj]
      show 255 < cs.getD j 0
      rw [e]; exact hw⟩
theorem strObj {Z U : State} {a0 : Array Value} {kI : Nat} (wi : (Jvm.Cond.instantiable ST kI).before a0 Z = true) (al : Z.vm.Alike U.vm) {x : Addr} {v0 c0 : Value} (E : RoadKit.Exa Z U.heap x ST) (V : RoadKit.Fld Z U.heap x ST "value" "[B" v0) (C : RoadKit.Fld Z U.heap x ST "coder" "B" c0) :
    ∃ (D : Cell) (fV fC : Field), Blank ST x D U ∧ Found ST "value" "[B" fV U ∧ Found ST "coder" "B" fC U ∧ D.slots[fV.slot]? = some v0 ∧ D.slots[fC.slot]? = some c0 ∧ RoadKit.slotOf Z ST "value" "[B" = fV.slot ∧ RoadKit.slotOf Z ST "coder" "B" = fC.slot := by
  obtain ⟨D, cfV, kV, iV, fV, hD, gV, stV, knV, obV, asV, slV⟩ := V
  obtain ⟨D', cfC, kC, iC, fC, hD', gC, stC, -, -, asC, slC⟩ := C
  cases hD.symm.trans hD'
  obtain ⟨D2, kD, e1, e2, e3, e4, e5⟩ := E
  cases hD.symm.trans e1
  obtain ⟨c2, k2, i1, i2, i3, -⟩ := Cond.instantiable_spec wi
  cases e2.symm.trans i1
  cases e3.symm.trans i2
  obtain ⟨kU, u1, u2⟩ := al.2.2 _ _ e3
  exact ⟨D, fV, fC, ⟨hD, ⟨knV, fun q hq => by rw [hq] at obV; cases obV⟩, by rw [al.findClass]; exact e2, kU, u1, by rw [u2]; exact i3, by rw [u2]; exact e5 i3⟩, ⟨SBG.found_only al ⟨cfV, kV, iV, gV⟩, stV⟩, ⟨SBG.found_only al ⟨cfC, kC, iC, gC⟩, stC⟩, slV, slC, by simp [RoadKit.slotOf, gV], by simp [RoadKit.slotOf, gC]⟩
theorem sta_is {Z U : State} (al : Z.vm.Alike U.vm) {C n d : String} {v : Value} (S : RoadKit.Sta Z U.heap C n d v) : StaticIs U C n d v := by
  obtain ⟨cfS, iS, kS, fS, st, cS, t1, t2, t3, t4, t5, t6, t7⟩ := S
  exact StaticIs.there (s := { Z with heap := U.heap }) ⟨cfS, iS, kS, fS, st, cS, t1, t2, t3, t4, t5, (fun q => by rw [q] at t6; cases t6), t7⟩ al rfl
theorem lenW {p : Program} {l : Launch} {e : Env} {R : Room} {s : State} {args : Array Value} {below : List Frame} {len W : Nat} {Z : State} {a0 : Array Value} {h : Heap} (hZ : Z.Warmed39 s.vm) (hw : ∀ d ∈ wordsLen, d.before a0 Z = true) {kI : Nat} (wi : (Jvm.Cond.instantiable ST kI).before a0 Z = true)
    {x t : Addr} {kb : ClassId} {cs : List Int32} {cd N2 z : Int32} {vs : List Value} (E : RoadKit.Exa Z h x ST) (V : RoadKit.Fld Z h x ST "value" "[B" (.ref t)) (C : RoadKit.Fld Z h x ST "coder" "B" (.int cd)) (K : RoadKit.Arv Z h t kb .byte N2 vs (.int 0)) (hc : CodA cs cd N2 vs) (hb : ∀ c ∈ cs, ¬ c < 0 ∧ ¬ (65535 : Int32) < c)
    (S : RoadKit.Sta Z h ST "COMPACT_STRINGS" "Z" (.int z)) (hz : ¬ z = 0) (l2 : cs.length ≤ 4000) (hfr : 2 ≤ R.frames) (hlo : W + 25 ≤ R.locals) :
    Back l R p e below s args (⟨"java/lang/String", "length", "()I"⟩ : MethodName) len W (fun P a => a = #[.ref x] ∧ P.U.heap = h ∧ P.cells + 0 ≤ R.cells ∧ P.slots + 0 ≤ R.slots)
      (fun P _ v B => ∃ L, (v = some (.int (Int32.ofNat cs.length)) ∧ L = [] ∧ B.U.heap = h) ∧ B.locs = P.locs ++ L ∧ B.cells = P.cells + 0 ∧ B.slots = P.slots + 0) := by
  obtain ⟨A, K1, K2, K3, K4, K5, K6⟩ := K
  have hcod := hc.cod (by omega) K3 K5
  intro m meth c P g ig mk a X hg hsize hdg hW hn hp'
  obtain ⟨rfl, rfl, r1, r2⟩ := hp'
  have al : Z.vm.Alike P.U.vm := hZ.alike.trans X.warmed.alike
  obtain ⟨D, fV, fC, hB, F1, F2, g1, g2, -, -⟩ := strObj wi al E V C
  have hx : Txt x t A cd cs.length (fun j => cs.getD j 0) P.U := ⟨⟨_, hB.2.2.1, D, hB.1, rfl, by cases q : D.vm <;> first | rfl | exact absurd q (hB.2.1.2 _)⟩, Has.of hB F1 g1, Has.of hB F2 g2, ⟨K1.1, State.isArrayOf_alike al K1.2.1, K1.2.2, by rcases hcod with ⟨-, q, -⟩ | ⟨-, q, -⟩ <;> omega⟩, hcod, fun j hj => by
    have e : cs.getD j 0 = cs[j] := by simp [List.getD_eq_getElem?_getD, hj]
    show ¬ cs.getD j 0 < 0 ∧ ¬ 65535 < cs.getD j 0
    rw [e]; exact hb _ (List.getElem_mem _)⟩
  obtain ⟨v, B, X', ⟨⟨hv, hh⟩, hl, hk, hs⟩, st⟩ := Len.pays x t A cd cs.length (fun j => cs.getD j 0) z (tabLen_of (movedLen hZ hw)) hfr hlo m meth c P g ig mk _ X hg hsize hdg hW hn ⟨r1, r2, rfl, hx, sta_is al S, hz⟩
  exact ⟨v, B, X', ⟨[], ⟨hv, rfl, hh⟩, hl, hk, hs⟩, st⟩
end StrChars.Road
namespace StrChars
open Jvm Sem ClassFile Op Lib Jvm.Stand Jvm.Free.XT Jvm.Free.ALB Jvm.Free.JM Jvm.Free
open Jvm.Lib.Cold (StaticIs)
namespace Emp
def yN : MethodName := ⟨"java/lang/String", "isEmpty", "()Z"⟩
abbrev yB : ByteArray := jdk_42_method_55_code
theorem d0 : decode yB 0 = .ok (.aload_n 0, 1) := by decide +kernel
theorem d1 : decode yB 1 = .ok (.getfield 9, 3) := by decide +kernel
theorem d4 : decode yB 4 = .ok (.arraylength, 1) := by decide +kernel
theorem d5 : decode yB 5 = .ok (.ifCond (.ne) 7, 3) := by decide +kernel
theorem d8 : decode yB 8 = .ok (.iconst 1, 1) := by decide +kernel
theorem d9 : decode yB 9 = .ok (.goto 4, 3) := by decide +kernel
theorem d12 : decode yB 12 = .ok (.iconst 0, 1) := by decide +kernel
theorem d13 : decode yB 13 = .ok (.ireturn, 1) := by decide +kernel
def site : List Cond := [.fieldLink "java/lang/String" 9 "java/lang/String" "value" "[B"]
def tab : Cond := tabOf yN yB 1 (some .boolean) site
def P (x t : Addr) (V : Cell) (cd : Int32) (n : Nat) (f : Nat → Int32) (args : Array Value) (s : State) : Prop := args = #[.ref x] ∧ Txt x t V cd n f s
def E (n : Nat) (r : Option Value) (s u : State) : Prop := XT.PureE (some (.int (if n = 0 then 1 else 0))) r s u
theorem law (l : Launch) (x t : Addr) (V : Cell) (cd : Int32) (n : Nat) (f : Nat → Int32) : Law l yN 1 0 0 0 yB 1 (some .boolean) site (P x t V cd n f) (E n) [] 0 0 := by
  refine Law.of_walk (plainFor_of_name (by decide +kernel)) (by decide +kernel) (by decide +kernel) (by decide) (fun _ _ h => by rw [h.1]; rfl) (fun _ U U' hal hh h => ⟨h.1, h.2.mv hal hh⟩) (fun r U U' V V' h1 hal h2 h => XT.PureE.mv r U U' V V' h1 hal h2 h) ?_
  intro p e s m args below meth c s₁ X0 hexec hbytes hml hret hlk hnm hown hh0 W hP
  obtain ⟨rfl, hx⟩ := hP
  have v31 := hx.2.2.2.1.2.2.2
  have c1 : Steps p.tables e below (s₁.setTop (entryFrame m #[.ref x] 1)) (s₁.setTop (mkF m 1 #[.val (.ref x)] [.ref x])) := Steps.trans (entry rfl) (by
    show Steps p.tables e below (s₁.setTop (mkF m 0 #[.val (.ref x)] [])) _
    refine XS.aloadN X0.here hexec rfl (hb hbytes d0) rfl rfl ?_
    exact Steps.refl _)
  obtain ⟨T2, X2, q2, st2⟩ := X0.hget hexec hown (wk W (.fieldLink "java/lang/String" 9 "java/lang/String" "value" "[B")) (hx.mv X0.warmed.alike hh0).2.1 (g := (mkF m 1 #[.val (.ref x)] [.ref x])) rfl (rest := []) rfl (hb hbytes d1)
  have hh2 := q2.trans hh0
  have hx2 := hx.mv X2.warmed.alike hh2
  have c3 : Steps p.tables e below (s₁.setTop (entryFrame m #[.ref x] 1)) (T2.setTop (mkF m 5 #[.val (.ref x)] [.int (Int32.ofNat V.slots.size)])) := (c1.trans (st2 _ (Steps.refl _))).trans (by
    refine X2.alen hexec hx2.2.2.2.1 rfl rfl (hb hbytes d4) ?_
    exact Steps.refl _)
  have hz : V.slots.size = 0 ↔ n = 0 := by
    rcases hx.2.2.2.2.1 with ⟨-, q, -⟩ | ⟨-, q, -⟩ <;> omega
  by_cases h0 : n = 0
  · have c4 : Steps p.tables e below (s₁.setTop (entryFrame m #[.ref x] 1)) (T2.setTop (mkF m 13 #[.val (.ref x)] [.int 1])) := c3.trans (by
      refine XS.ifNo X2.here hexec rfl (hb hbytes d5) rfl (i0_ne_f (by rw [hz.mpr h0]; rfl)) ?_
      refine iconstV X2.here hexec rfl 1 (hb hbytes d8) (by decide) ?_
      refine XS.goto X2.here hexec rfl (pc0 := 9) rfl (hb hbytes d9) (by decide) rfl ?_
      exact Steps.refl _)
    exact ⟨T2, some (.int 1), _, _, _, X2, rfl, rfl, rfl, (fun h => by cases h), ⟨by rw [if_pos h0], hh2⟩, fun fs hl => c4.trans (X2.ireturnOut hexec hret rfl (Or.inr (Or.inl rfl)) (hb hbytes d13) hl)⟩
  · have c4 : Steps p.tables e below (s₁.setTop (entryFrame m #[.ref x] 1)) (T2.setTop (mkF m 13 #[.val (.ref x)] [.int 0])) := c3.trans (by
      refine XS.ifYes X2.here hexec rfl (pc0 := 5) rfl (hb hbytes d5) rfl (i0_ne_t (nz32 v31 (by omega))) (by decide) rfl ?_
      refine iconstV X2.here hexec rfl 0 (hb hbytes d12) (by decide) ?_
      exact Steps.refl _)
    exact ⟨T2, some (.int 0), _, _, _, X2, rfl, rfl, rfl, (fun h => by cases h), ⟨by rw [if_neg h0], hh2⟩, fun fs hl => c4.trans (X2.ireturnOut hexec hret rfl (Or.inr (Or.inl rfl)) (hb hbytes d13) hl)⟩
theorem pays {l : Launch} {R : Room} {p : Program} {e : Env} {below : List Frame} {s : State} {sargs : Array Value} {len W : Nat} (x t : Addr) (V : Cell) (cd : Int32) (n : Nat) (f : Nat → Int32) (htab : tab.before sargs s = true) (hfr : 1 ≤ R.frames) (hlo : W + 12 ≤ R.locals) :
    Back l R p e below s sargs yN len W (fun A₁ a₁ => A₁.cells + 0 ≤ R.cells ∧ A₁.slots + 0 ≤ R.slots ∧ P x t V cd n f a₁ A₁.U) (fun A₁ _ v₁ B₁ => E n v₁ A₁.U B₁.U ∧ B₁.locs = A₁.locs ++ [] ∧ B₁.cells = A₁.cells + 0 ∧ B₁.slots = A₁.slots + 0) :=
  (law l x t V cd n f).pays htab hfr (by omega)
end Emp
def yv (A : Cell) (i : Nat) : Int32 := match A.slots[i]? with | some (.int x) => x | _ => 0
theorem yv_get {a : Addr} {A : Cell} {U : State} (h : XT.Arr .byte a A U) (ht : Typed .byte A) {i : Nat} (hi : i < A.slots.size) : A.slots[i]? = some (.int (yv A i)) := by
  have e := Array.getElem?_eq_getElem hi
  have f := ht i _ e
  unfold yv; rw [e]
  generalize A.slots[i] = v at f
  cases v <;> simp [fits] at f ⊢
def EqC (A B : Cell) : Prop := A.slots.size = B.slots.size ∧ ∀ i, i < A.slots.size → yv A i = yv B i
def Says01 (q : Prop) (r : Option Value) (s u : State) : Prop := ∃ v : Int32, r = some (.int v) ∧ u.heap = s.heap ∧ ((v = 1 ∧ q) ∨ (v = 0 ∧ ¬ q))
theorem Says01.mv {q : Prop} : ∀ r (U U' V V' : State), U'.heap = U.heap → V.vm.Alike V'.vm → V'.heap = V.heap → Says01 q r U V → Says01 q r U' V' :=
  fun r U U' V V' h1 _ h2 ⟨v, a, b, c⟩ => ⟨v, a, by rw [h1, h2]; exact b, c⟩
namespace LEq
def yN : MethodName := ⟨"java/lang/StringLatin1", "equals", "([B[B)Z"⟩
abbrev yB : ByteArray := jdk_43_method_13_code
theorem d0 : decode yB 0 = .ok (.aload_n 0, 1) := by decide +kernel
theorem d1 : decode yB 1 = .ok (.arraylength, 1) := by decide +kernel
theorem d2 : decode yB 2 = .ok (.aload_n 1, 1) := by decide +kernel
theorem d3 : decode yB 3 = .ok (.arraylength, 1) := by decide +kernel
theorem d4 : decode yB 4 = .ok (.if_icmp (.ne) 30, 3) := by decide +kernel
theorem d7 : decode yB 7 = .ok (.iconst 0, 1) := by decide +kernel
theorem d8 : decode yB 8 = .ok (.istore_n 2, 1) := by decide +kernel
theorem d9 : decode yB 9 = .ok (.iload_n 2, 1) := by decide +kernel
theorem d10 : decode yB 10 = .ok (.aload_n 0, 1) := by decide +kernel
theorem d11 : decode yB 11 = .ok (.arraylength, 1) := by decide +kernel
theorem d12 : decode yB 12 = .ok (.if_icmp (.ge) 20, 3) := by decide +kernel
theorem d15 : decode yB 15 = .ok (.aload_n 0, 1) := by decide +kernel
theorem d16 : decode yB 16 = .ok (.iload_n 2, 1) := by decide +kernel
theorem d17 : decode yB 17 = .ok (.baload, 1) := by decide +kernel
theorem d18 : decode yB 18 = .ok (.aload_n 1, 1) := by decide +kernel
theorem d19 : decode yB 19 = .ok (.iload_n 2, 1) := by decide +kernel
theorem d20 : decode yB 20 = .ok (.baload, 1) := by decide +kernel
theorem d21 : decode yB 21 = .ok (.if_icmp (.eq) 5, 3) := by decide +kernel
theorem d24 : decode yB 24 = .ok (.iconst 0, 1) := by decide +kernel
theorem d25 : decode yB 25 = .ok (.ireturn, 1) := by decide +kernel
theorem d26 : decode yB 26 = .ok (.iinc 2 1, 3) := by decide +kernel
theorem d29 : decode yB 29 = .ok (.goto (-20), 3) := by decide +kernel
theorem d32 : decode yB 32 = .ok (.iconst 1, 1) := by decide +kernel
theorem d33 : decode yB 33 = .ok (.ireturn, 1) := by decide +kernel
theorem d34 : decode yB 34 = .ok (.iconst 0, 1) := by decide +kernel
theorem d35 : decode yB 35 = .ok (.ireturn, 1) := by decide +kernel
def site : List Cond := []
def tab : Cond := tabOf yN yB 3 (some .boolean) site
def P (a : Addr) (A : Cell) (b : Addr) (B : Cell) (args : Array Value) (s : State) : Prop := args = #[.ref a, .ref b] ∧ XT.Arr .byte a A s ∧ Typed .byte A ∧ XT.Arr .byte b B s ∧ Typed .byte B
theorem law (l : Launch) (a : Addr) (A : Cell) (b : Addr) (B : Cell) : Law l yN 2 2 0 0 yB 3 (some .boolean) site (P a A b B) (Says01 (EqC A B)) [] 0 0 := by
  refine Law.of_walk (plainFor_of_name (by decide +kernel)) (by decide +kernel) (by decide +kernel) (by decide) (fun _ _ h => by rw [h.1]; rfl) (fun _ U U' hal hh h => ⟨h.1, h.2.1.mv hal hh, h.2.2.1, h.2.2.2.1.mv hal hh, h.2.2.2.2⟩) (fun r U U' V V' h1 hal h2 h => Says01.mv r U U' V V' h1 hal h2 h) ?_
  intro p e s m args below meth c s₁ X0 hexec hbytes hml hret hlk hnm hown hh0 W hP
  obtain ⟨rfl, hA, tA, hB, tB⟩ := hP
  have a31 := hA.2.2.2
  have b31 := hB.2.2.2
  have hA0 := hA.mv X0.warmed.alike hh0
  have hB0 := hB.mv X0.warmed.alike hh0
  have c1 : Steps p.tables e below (s₁.setTop (entryFrame m #[.ref a, .ref b] 3)) (s₁.setTop (mkF m 0 #[.val (.ref a), .val (.ref b), .unset] [])) := entry rfl
  have c2 : Steps p.tables e below (s₁.setTop (entryFrame m #[.ref a, .ref b] 3)) (s₁.setTop (mkF m 4 #[.val (.ref a), .val (.ref b), .unset] [.int (Int32.ofNat B.slots.size), .int (Int32.ofNat A.slots.size)])) := c1.trans (by
    refine XS.aloadN X0.here hexec rfl (hb hbytes d0) rfl rfl ?_
    refine X0.alen hexec hA0 rfl rfl (hb hbytes d1) ?_
    refine XS.aloadN X0.here hexec rfl (hb hbytes d2) rfl rfl ?_
    refine X0.alen hexec hB0 rfl rfl (hb hbytes d3) ?_
    exact Steps.refl _)
  by_cases hs : A.slots.size = B.slots.size
  · have c3 : Steps p.tables e below (s₁.setTop (entryFrame m #[.ref a, .ref b] 3)) (s₁.setTop (mkF m 9 #[.val (.ref a), .val (.ref b), .val (.int 0)] [])) := c2.trans (by
      refine XS.icmpNo X0.here hexec rfl (hb hbytes d4) rfl (ii_ne_f (by rw [hs])) ?_
      refine iconstV X0.here hexec rfl 0 (hb hbytes d7) (by decide) ?_
      refine XS.istoreN X0.here hexec rfl (hb hbytes d8) rfl rfl ?_
      exact Steps.refl _)
    have loop : ∀ (r i : Nat), i + r = A.slots.size → (∀ j, j < i → yv A j = yv B j) → Steps p.tables e below (s₁.setTop (entryFrame m #[.ref a, .ref b] 3)) (s₁.setTop (mkF m 9 #[.val (.ref a), .val (.ref b), .val (.int (Int32.ofNat i))] [])) → ∃ (pc : Nat) (Ls : Array Slot) (v : Int32), (pc = 25 ∨ pc = 33) ∧ ((v = 1 ∧ EqC A B) ∨ (v = 0 ∧ ¬ EqC A B)) ∧ Steps p.tables e below (s₁.setTop (entryFrame m #[.ref a, .ref b] 3)) (s₁.setTop (mkF m pc Ls [.int v])) := by
      intro r
      induction r with
      | zero =>
        intro i hi he cl
        exact ⟨33, _, 1, Or.inr rfl, Or.inl ⟨rfl, hs, fun j hj => he j (by omega)⟩, cl.trans (by
          refine XS.iloadN X0.here hexec rfl (hb hbytes d9) rfl ?_
          refine XS.aloadN X0.here hexec rfl (hb hbytes d10) rfl rfl ?_
          refine X0.alen hexec hA0 rfl rfl (hb hbytes d11) ?_
          refine XS.icmpYes X0.here hexec rfl (pc0 := 12) rfl (hb hbytes d12) rfl (ii_ge_t (nlt32 (by omega) (by omega))) (by decide) rfl ?_
          refine iconstV X0.here hexec rfl 1 (hb hbytes d32) (by decide) ?_
          exact Steps.refl _)⟩
      | succ r ih =>
        intro i hi he cl
        have c4 : Steps p.tables e below (s₁.setTop (entryFrame m #[.ref a, .ref b] 3)) (s₁.setTop (mkF m 21 #[.val (.ref a), .val (.ref b), .val (.int (Int32.ofNat i))] [.int (yv B i), .int (yv A i)])) := cl.trans (by
          refine XS.iloadN X0.here hexec rfl (hb hbytes d9) rfl ?_
          refine XS.aloadN X0.here hexec rfl (hb hbytes d10) rfl rfl ?_
          refine X0.alen hexec hA0 rfl rfl (hb hbytes d11) ?_
          refine XS.icmpNo X0.here hexec rfl (hb hbytes d12) rfl (ii_ge_f (lt32 (by omega) (by omega))) ?_
          refine XS.aloadN X0.here hexec rfl (hb hbytes d15) rfl rfl ?_
          refine XS.iloadN X0.here hexec rfl (hb hbytes d16) rfl ?_
          refine X0.aget hexec hA0 rfl (yv_get hA tA (i := i) (by omega)) rfl rfl (hb hbytes d17) ?_
          refine XS.aloadN X0.here hexec rfl (hb hbytes d18) rfl rfl ?_
          refine XS.iloadN X0.here hexec rfl (hb hbytes d19) rfl ?_
          refine X0.aget hexec hB0 rfl (yv_get hB tB (i := i) (by omega)) rfl rfl (hb hbytes d20) ?_
          exact Steps.refl _)
        by_cases hv : yv A i = yv B i
        · have c5 : Steps p.tables e below (s₁.setTop (entryFrame m #[.ref a, .ref b] 3)) (s₁.setTop (mkF m 9 #[.val (.ref a), .val (.ref b), .val (.int (Int32.ofNat i + 1))] [])) := c4.trans (by
            refine XS.icmpYes X0.here hexec rfl (pc0 := 21) rfl (hb hbytes d21) rfl (ii_eq_t hv) (by decide) rfl ?_
            refine iincV X0.here hexec rfl 1 (hb hbytes d26) (by decide) rfl rfl ?_
            refine XS.goto X0.here hexec rfl (pc0 := 29) rfl (hb hbytes d29) (by decide) rfl ?_
            exact Steps.refl _)
          rw [succ32] at c5
          exact ih (i + 1) (by omega) (fun j hj => by
            by_cases e : j = i
            · rw [e]; exact hv
            · exact he j (by omega)) c5
        · exact ⟨25, _, 0, Or.inl rfl, Or.inr ⟨rfl, fun q => hv (q.2 i (by omega))⟩, c4.trans (by
            refine XS.icmpNo X0.here hexec rfl (hb hbytes d21) rfl (ii_eq_f hv) ?_
            refine iconstV X0.here hexec rfl 0 (hb hbytes d24) (by decide) ?_
            exact Steps.refl _)⟩
    obtain ⟨pc, Ls, v, hpc, hv, cz⟩ := loop A.slots.size 0 (by omega) (fun j hj => absurd hj (Nat.not_lt_zero j)) c3
    have nv : narrow .boolean (.int v) = .int v := by rcases hv with ⟨rfl, -⟩ | ⟨rfl, -⟩ <;> rfl
    rcases hpc with rfl | rfl
    · exact ⟨s₁, some (.int v), _, _, _, X0, rfl, rfl, rfl, (fun h => by cases h), ⟨v, rfl, hh0, hv⟩, fun fs hl => cz.trans (X0.ireturnOut hexec hret nv (Or.inr (Or.inl rfl)) (hb hbytes d25) hl)⟩
    · exact ⟨s₁, some (.int v), _, _, _, X0, rfl, rfl, rfl, (fun h => by cases h), ⟨v, rfl, hh0, hv⟩, fun fs hl => cz.trans (X0.ireturnOut hexec hret nv (Or.inr (Or.inl rfl)) (hb hbytes d33) hl)⟩
  · have c3 : Steps p.tables e below (s₁.setTop (entryFrame m #[.ref a, .ref b] 3)) (s₁.setTop (mkF m 35 #[.val (.ref a), .val (.ref b), .unset] [.int 0])) := c2.trans (by
      refine XS.icmpYes X0.here hexec rfl (pc0 := 4) rfl (hb hbytes d4) rfl (ii_ne_t (ne32 a31 b31 hs)) (by decide) rfl ?_
      refine iconstV X0.here hexec rfl 0 (hb hbytes d34) (by decide) ?_
      exact Steps.refl _)
    exact ⟨s₁, some (.int 0), _, _, _, X0, rfl, rfl, rfl, (fun h => by cases h), ⟨0, rfl, hh0, Or.inr ⟨rfl, fun q => hs q.1⟩⟩, fun fs hl => c3.trans (X0.ireturnOut hexec hret rfl (Or.inr (Or.inl rfl)) (hb hbytes d35) hl)⟩
end LEq
theorem Cod.ty {cd : Int32} {n : Nat} {f : Nat → Int32} {V : Cell} (h : Cod cd n f V) : Typed .byte V := fun i v hv => by
  have hi : i < V.slots.size := (Array.getElem?_eq_some_iff.mp hv).1
  rcases h with ⟨-, k1, k2⟩ | ⟨-, k1, k2, -⟩
  · rw [(k2 i (by omega)).1] at hv; cases hv; exact fits_lo8 _
  · rcases Nat.mod_two_eq_zero_or_one i with e | e
    · obtain ⟨j, rfl⟩ : ∃ j, i = 2 * j := ⟨i / 2, by omega⟩
      rw [(k2 j (by omega)).1] at hv; cases hv; exact fits_lo8 _
    · obtain ⟨j, rfl⟩ : ∃ j, i = 2 * j + 1 := ⟨i / 2, by omega⟩
      rw [(k2 j (by omega)).2] at hv; cases hv; exact fits_lo8 _
def SameT (n : Nat) (f : Nat → Int32) (k : Nat) (g : Nat → Int32) : Prop := n = k ∧ ∀ j, j < n → f j = g j
theorem lo8_inj {x y : Int32} (h0 : ¬ x < 0) (h1 : ¬ 255 < x) (k0 : ¬ y < 0) (k1 : ¬ 255 < y) (h : lo8 x = lo8 y) : x = y := by
  rw [← lo8_mask h0 h1, ← lo8_mask k0 k1, h]
theorem Cod.eqv {cd : Int32} {n k : Nat} {f g : Nat → Int32} {V V' : Cell} (h : Cod cd n f V) (h' : Cod cd k g V') (hf : ∀ j, j < n → ¬ f j < 0 ∧ ¬ 65535 < f j) (hg : ∀ j, j < k → ¬ g j < 0 ∧ ¬ 65535 < g j) : EqC V V' ↔ SameT n f k g := by
  have yvv : ∀ {W : Cell} {i : Nat} {x : Int32}, W.slots[i]? = some (.int x) → yv W i = x := fun q => by unfold yv; rw [q]
  rcases h with ⟨rfl, k1, k2⟩ | ⟨rfl, k1, k2, -⟩
  · rcases h' with ⟨-, m1, m2⟩ | ⟨e, -⟩
    · constructor
      · rintro ⟨e1, e2⟩
        refine ⟨by omega, fun j hj => ?_⟩
        have q := e2 j (by omega)
        rw [yvv (k2 j hj).1, yvv (m2 j (by omega)).1] at q
        exact lo8_inj (hf j hj).1 (k2 j hj).2 (hg j (by omega)).1 (m2 j (by omega)).2 q
      · rintro ⟨rfl, e2⟩
        refine ⟨by omega, fun j hj => ?_⟩
        rw [yvv (k2 j (by omega)).1, yvv (m2 j (by omega)).1, e2 j (by omega)]
    · exact absurd e (by decide)
  · rcases h' with ⟨e, -⟩ | ⟨-, m1, m2, -⟩
    · exact absurd e (by decide)
    · constructor
      · rintro ⟨e1, e2⟩
        refine ⟨by omega, fun j hj => ?_⟩
        have q1 := e2 (2 * j) (by omega)
        have q2 := e2 (2 * j + 1) (by omega)
        rw [yvv (k2 j hj).1, yvv (m2 j (by omega)).1] at q1
        rw [yvv (k2 j hj).2, yvv (m2 j (by omega)).2] at q2
        rw [← pair_says (hf j hj).1 (hf j hj).2, ← pair_says (hg j (by omega)).1 (hg j (by omega)).2, q1, q2]
      · rintro ⟨rfl, e2⟩
        refine ⟨by omega, fun i hi => ?_⟩
        rcases Nat.mod_two_eq_zero_or_one i with e | e
        · obtain ⟨j, rfl⟩ : ∃ j, i = 2 * j := ⟨i / 2, by omega⟩
          rw [yvv (k2 j (by omega)).1, yvv (m2 j (by omega)).1, e2 j (by omega)]
        · obtain ⟨j, rfl⟩ : ∃ j, i = 2 * j + 1 := ⟨i / 2, by omega⟩
          rw [yvv (k2 j (by omega)).2, yvv (m2 j (by omega)).2, e2 j (by omega)]
theorem Cod.dif {cd cd' : Int32} {n k : Nat} {f g : Nat → Int32} {V V' : Cell} (h : Cod cd n f V) (h' : Cod cd' k g V') (hne : ¬ cd = cd') : ¬ SameT n f k g := by
  rintro ⟨rfl, e⟩
  rcases h with ⟨rfl, -, k2⟩ | ⟨rfl, -, -, j, hj, hw⟩
  · rcases h' with ⟨rfl, -⟩ | ⟨-, -, -, j, hj, hw⟩
    · exact hne rfl
    · exact (k2 j hj).2 (by rw [e j hj]; exact hw)
  · rcases h' with ⟨-, -, m2⟩ | ⟨rfl, -⟩
    · exact (m2 j hj).2 (by rw [← e j hj]; exact hw)
    · exact hne rfl
theorem cinst {p : Program} {l : Launch} {e : Env} {R : Room} {s : State} {m : MethodId} {args : Array Value} {below : List Frame} {meth : Method} {c : Code} {T : State} {locs : List Loc} {cells slots : Nat} (X : Stand p l e R s m args below meth c T locs cells slots) (hexec : p.tables.exec = Jvm.exec) {own C : String} {index : Nat} (hown : s.vm.findClass own = some m.cls) (hlink : (Cond.classLink own index C).before args s = true) {a : Addr} (hE : Exact C a T)
    {g : JFrame} (hg : g.method = m) {rest : List Value} (hstack : g.stack = .ref a :: rest) (hdg : decode c.code g.pc = .ok (.instanceof index, 3)) :
    ∃ T', Stand p l e R s m args below meth c T' locs cells slots ∧ T'.heap = T.heap ∧ ∀ target, Steps p.tables e below (T'.setTop { g with pc := g.pc + 3, stack := .int 1 :: rest }) target → Steps p.tables e below (T.setTop g) target := by
  obtain ⟨cB, h1, D, h2, h3, h4⟩ := hE
  have h1' : s.vm.findClass C = some cB := by rw [← X.warmed.alike.findClass]; exact h1
  obtain ⟨vm', X', st⟩ := X.instanceofYes hexec hown hlink h2 h4 h1' (by rw [h3]; exact Jvm.Free.SB.assignable_self _ _) hg hstack hdg
  exact ⟨_, X', rfl, st⟩
theorem cself {p : Program} {l : Launch} {e : Env} {R : Room} {s : State} {m : MethodId} {args : Array Value} {below : List Frame} {meth : Method} {c : Code} {T : State} {locs : List Loc} {cells slots : Nat} (X : Stand p l e R s m args below meth c T locs cells slots) (hexec : p.tables.exec = Jvm.exec) {own C : String} {index : Nat} (hown : s.vm.findClass own = some m.cls) (hlink : (Cond.classLink own index C).before args s = true) {a : Addr} (hE : Exact C a T)
    {g : JFrame} (hg : g.method = m) {rest : List Value} (hstack : g.stack = .ref a :: rest) (hdg : decode c.code g.pc = .ok (.checkcast index, 3)) :
    ∃ T', Stand p l e R s m args below meth c T' locs cells slots ∧ T'.heap = T.heap ∧ ∀ target, Steps p.tables e below (T'.setTop { g with pc := g.pc + 3, stack := .ref a :: rest }) target → Steps p.tables e below (T.setTop g) target := by
  obtain ⟨cB, h1, D, h2, h3, h4⟩ := hE
  have h1' : s.vm.findClass C = some cB := by rw [← X.warmed.alike.findClass]; exact h1
  obtain ⟨vm', X', st⟩ := X.checkcastYes hexec hown hlink h2 h4 h1' (by rw [h3]; exact Jvm.Free.SB.assignable_self _ _) hg hstack hdg
  exact ⟨_, X', rfl, fun t h => st t (by rw [← hstack] at h; exact h)⟩
namespace SEq
def yN : MethodName := ⟨"java/lang/String", "equals", "(Ljava/lang/Object;)Z"⟩
abbrev yB : ByteArray := jdk_42_method_66_code
theorem d0 : decode yB 0 = .ok (.aload_n 0, 1) := by decide +kernel
theorem d1 : decode yB 1 = .ok (.aload_n 1, 1) := by decide +kernel
theorem d2 : decode yB 2 = .ok (.if_acmp (.ne) 5, 3) := by decide +kernel
theorem d5 : decode yB 5 = .ok (.iconst 1, 1) := by decide +kernel
theorem d6 : decode yB 6 = .ok (.ireturn, 1) := by decide +kernel
theorem d7 : decode yB 7 = .ok (.aload_n 1, 1) := by decide +kernel
theorem d8 : decode yB 8 = .ok (.instanceof 10, 3) := by decide +kernel
theorem d11 : decode yB 11 = .ok (.ifCond (.eq) 43, 3) := by decide +kernel
theorem d14 : decode yB 14 = .ok (.aload_n 1, 1) := by decide +kernel
theorem d15 : decode yB 15 = .ok (.checkcast 10, 3) := by decide +kernel
theorem d18 : decode yB 18 = .ok (.astore_n 2, 1) := by decide +kernel
theorem d19 : decode yB 19 = .ok (.getstatic 38, 3) := by decide +kernel
theorem d22 : decode yB 22 = .ok (.ifCond (.eq) 14, 3) := by decide +kernel
theorem d25 : decode yB 25 = .ok (.aload_n 0, 1) := by decide +kernel
theorem d26 : decode yB 26 = .ok (.getfield 15, 3) := by decide +kernel
theorem d29 : decode yB 29 = .ok (.aload_n 2, 1) := by decide +kernel
theorem d30 : decode yB 30 = .ok (.getfield 15, 3) := by decide +kernel
theorem d33 : decode yB 33 = .ok (.if_icmp (.ne) 21, 3) := by decide +kernel
theorem d36 : decode yB 36 = .ok (.aload_n 0, 1) := by decide +kernel
theorem d37 : decode yB 37 = .ok (.getfield 9, 3) := by decide +kernel
theorem d40 : decode yB 40 = .ok (.aload_n 2, 1) := by decide +kernel
theorem d41 : decode yB 41 = .ok (.getfield 9, 3) := by decide +kernel
theorem d44 : decode yB 44 = .ok (.invokestatic 541, 3) := by decide +kernel
theorem d47 : decode yB 47 = .ok (.ifCond (.eq) 7, 3) := by decide +kernel
theorem d50 : decode yB 50 = .ok (.iconst 1, 1) := by decide +kernel
theorem d51 : decode yB 51 = .ok (.goto 4, 3) := by decide +kernel
theorem d54 : decode yB 54 = .ok (.iconst 0, 1) := by decide +kernel
theorem d55 : decode yB 55 = .ok (.ireturn, 1) := by decide +kernel
def site : List Cond := [.classLink "java/lang/String" 10 "java/lang/String", .fieldLink "java/lang/String" 38 "java/lang/String" "COMPACT_STRINGS" "Z", .fieldLink "java/lang/String" 15 "java/lang/String" "coder" "B", .fieldLink "java/lang/String" 9 "java/lang/String" "value" "[B", LEq.tab] ++ staticW "java/lang/String" 541 LEq.yN
def tab : Cond := tabOf yN yB 3 (some .boolean) site
def P (x t : Addr) (V : Cell) (cd : Int32) (n : Nat) (f : Nat → Int32) (y t' : Addr) (V' : Cell) (cd' : Int32) (k : Nat) (g : Nat → Int32) (z : Int32) (args : Array Value) (s : State) : Prop := args = #[.ref x, .ref y] ∧ Txt x t V cd n f s ∧ Txt y t' V' cd' k g s ∧ StaticIs s "java/lang/String" "COMPACT_STRINGS" "Z" (.int z) ∧ ¬ z = 0
theorem law (l : Launch) (x t : Addr) (V : Cell) (cd : Int32) (n : Nat) (f : Nat → Int32) (y t' : Addr) (V' : Cell) (cd' : Int32) (k : Nat) (g : Nat → Int32) (z : Int32) : Law l yN 2 1 1 14 yB 3 (some .boolean) site (P x t V cd n f y t' V' cd' k g z) (Says01 (SameT n f k g)) [] 0 0 := by
  refine Law.of_walk (plainFor_of_name (by decide +kernel)) (by decide +kernel) (by decide +kernel) (by decide) (fun _ _ h => by rw [h.1]; rfl) (fun _ U U' hal hh h => ⟨h.1, h.2.1.mv hal hh, h.2.2.1.mv hal hh, h.2.2.2.1.there hal hh, h.2.2.2.2⟩) (fun r U U' V V' h1 hal h2 h => Says01.mv r U U' V V' h1 hal h2 h) ?_
  intro p e s m args below meth c s₁ X0 hexec hbytes hml hret hlk hnm hown hh0 W hP
  obtain ⟨rfl, hx, hy, s1, hz⟩ := hP
  have c1 : Steps p.tables e below (s₁.setTop (entryFrame m #[.ref x, .ref y] 3)) (s₁.setTop (mkF m 2 #[.val (.ref x), .val (.ref y), .unset] [.ref y, .ref x])) := Steps.trans (entry rfl) (by
    show Steps p.tables e below (s₁.setTop (mkF m 0 #[.val (.ref x), .val (.ref y), .unset] [])) _
    refine XS.aloadN X0.here hexec rfl (hb hbytes d0) rfl rfl ?_
    refine XS.aloadN X0.here hexec rfl (hb hbytes d1) rfl rfl ?_
    exact Steps.refl _)
  by_cases hxy : x = y
  · have c2 : Steps p.tables e below (s₁.setTop (entryFrame m #[.ref x, .ref y] 3)) (s₁.setTop (mkF m 6 #[.val (.ref x), .val (.ref y), .unset] [.int 1])) := c1.trans (by
      refine acmpNo X0.here hexec rfl (hb hbytes d2) rfl rfl rfl (by simp [acmp, hxy]) ?_
      refine iconstV X0.here hexec rfl 1 (hb hbytes d5) (by decide) ?_
      exact Steps.refl _)
    subst hxy
    have ec : cd = cd' := by
      obtain ⟨D, fd, a1, a2, a3⟩ := hx.2.2.1
      obtain ⟨D', fd', b1, b2, b3⟩ := hy.2.2.1
      cases a1.symm.trans b1
      obtain ⟨q1, q2, q3, q4⟩ := a2.1
      obtain ⟨r1, r2, r3, r4⟩ := b2.1
      cases q4.symm.trans r4
      cases a3.symm.trans b3; rfl
    have et : t = t' := by
      obtain ⟨D, fd, a1, a2, a3⟩ := hx.2.1
      obtain ⟨D', fd', b1, b2, b3⟩ := hy.2.1
      cases a1.symm.trans b1
      obtain ⟨q1, q2, q3, q4⟩ := a2.1
      obtain ⟨r1, r2, r3, r4⟩ := b2.1
      cases q4.symm.trans r4
      cases a3.symm.trans b3; rfl
    subst ec et
    have ev : V = V' := by cases hx.2.2.2.1.1.symm.trans hy.2.2.2.1.1; rfl
    subst ev
    have hs : SameT n f k g := (Cod.eqv hx.2.2.2.2.1 hy.2.2.2.2.1 hx.2.2.2.2.2 hy.2.2.2.2.2).mp ⟨rfl, fun _ _ => rfl⟩
    exact ⟨s₁, some (.int 1), _, _, _, X0, rfl, rfl, rfl, (fun h => by cases h), ⟨1, rfl, hh0, Or.inl ⟨rfl, hs⟩⟩, fun fs hl => c2.trans (X0.ireturnOut hexec hret rfl (Or.inr (Or.inl rfl)) (hb hbytes d6) hl)⟩
  · have c2 : Steps p.tables e below (s₁.setTop (entryFrame m #[.ref x, .ref y] 3)) (s₁.setTop (mkF m 8 #[.val (.ref x), .val (.ref y), .unset] [.ref y])) := c1.trans (by
      refine acmpYes X0.here hexec rfl (pc0 := 2) rfl (hb hbytes d2) rfl rfl rfl (by simp [acmp, hxy]) (by decide) rfl ?_
      refine XS.aloadN X0.here hexec rfl (hb hbytes d7) rfl rfl ?_
      exact Steps.refl _)
    obtain ⟨T3, X3, q3, st3⟩ := cinst X0 hexec hown (wk W (.classLink "java/lang/String" 10 "java/lang/String")) (hy.mv X0.warmed.alike hh0).1 (g := (mkF m 8 #[.val (.ref x), .val (.ref y), .unset] [.ref y])) rfl (rest := []) rfl (hb hbytes d8)
    have hh3 := q3.trans hh0
    have c4 : Steps p.tables e below (s₁.setTop (entryFrame m #[.ref x, .ref y] 3)) (T3.setTop (mkF m 15 #[.val (.ref x), .val (.ref y), .unset] [.ref y])) := (c2.trans (st3 _ (Steps.refl _))).trans (by
      refine XS.ifNo X3.here hexec rfl (hb hbytes d11) rfl (i0_eq_f (by decide)) ?_
      refine XS.aloadN X3.here hexec rfl (hb hbytes d14) rfl rfl ?_
      exact Steps.refl _)
    obtain ⟨T5, X5, q5, st5⟩ := cself X3 hexec hown (wk W (.classLink "java/lang/String" 10 "java/lang/String")) (hy.mv X3.warmed.alike hh3).1 (g := (mkF m 15 #[.val (.ref x), .val (.ref y), .unset] [.ref y])) rfl (rest := []) rfl (hb hbytes d15)
    have hh5 := q5.trans hh3
    have c6 : Steps p.tables e below (s₁.setTop (entryFrame m #[.ref x, .ref y] 3)) (T5.setTop (mkF m 19 #[.val (.ref x), .val (.ref y), .val (.ref y)] [])) := (c4.trans (st5 _ (Steps.refl _))).trans (by
      refine XS.astoreN X5.here hexec rfl (hb hbytes d18) rfl rfl rfl ?_
      exact Steps.refl _)
    obtain ⟨T7, X7, q7, st7⟩ := X5.sget hexec hown (wk W (.fieldLink "java/lang/String" 38 "java/lang/String" "COMPACT_STRINGS" "Z")) s1 (fun _ _ h => by rw [hh5]; exact h) (g := (mkF m 19 #[.val (.ref x), .val (.ref y), .val (.ref y)] [])) rfl (hb hbytes d19)
    have hh7 := q7.trans hh5
    have c8 : Steps p.tables e below (s₁.setTop (entryFrame m #[.ref x, .ref y] 3)) (T7.setTop (mkF m 26 #[.val (.ref x), .val (.ref y), .val (.ref y)] [.ref x])) := (c6.trans (st7 _ (Steps.refl _))).trans (by
      refine XS.ifNo X7.here hexec rfl (hb hbytes d22) rfl (i0_eq_f hz) ?_
      refine XS.aloadN X7.here hexec rfl (hb hbytes d25) rfl rfl ?_
      exact Steps.refl _)
    obtain ⟨T9, X9, q9, st9⟩ := X7.hget hexec hown (wk W (.fieldLink "java/lang/String" 15 "java/lang/String" "coder" "B")) (hx.mv X7.warmed.alike hh7).2.2.1 (g := (mkF m 26 #[.val (.ref x), .val (.ref y), .val (.ref y)] [.ref x])) rfl (rest := []) rfl (hb hbytes d26)
    have hh9 := q9.trans hh7
    have c10 : Steps p.tables e below (s₁.setTop (entryFrame m #[.ref x, .ref y] 3)) (T9.setTop (mkF m 30 #[.val (.ref x), .val (.ref y), .val (.ref y)] [.ref y, .int cd])) := (c8.trans (st9 _ (Steps.refl _))).trans (by
      refine XS.aloadN X9.here hexec rfl (hb hbytes d29) rfl rfl ?_
      exact Steps.refl _)
    obtain ⟨T11, X11, q11, st11⟩ := X9.hget hexec hown (wk W (.fieldLink "java/lang/String" 15 "java/lang/String" "coder" "B")) (hy.mv X9.warmed.alike hh9).2.2.1 (g := (mkF m 30 #[.val (.ref x), .val (.ref y), .val (.ref y)] [.ref y, .int cd])) rfl (rest := [.int cd]) rfl (hb hbytes d30)
    have hh11 := q11.trans hh9
    have c12 : Steps p.tables e below (s₁.setTop (entryFrame m #[.ref x, .ref y] 3)) (T11.setTop (mkF m 33 #[.val (.ref x), .val (.ref y), .val (.ref y)] [.int cd', .int cd])) := c10.trans (st11 _ (Steps.refl _))
    by_cases hcd : cd = cd'
    · subst hcd
      have c13 : Steps p.tables e below (s₁.setTop (entryFrame m #[.ref x, .ref y] 3)) (T11.setTop (mkF m 37 #[.val (.ref x), .val (.ref y), .val (.ref y)] [.ref x])) := c12.trans (by
        refine XS.icmpNo X11.here hexec rfl (hb hbytes d33) rfl (ii_ne_f rfl) ?_
        refine XS.aloadN X11.here hexec rfl (hb hbytes d36) rfl rfl ?_
        exact Steps.refl _)
      obtain ⟨T14, X14, q14, st14⟩ := X11.hget hexec hown (wk W (.fieldLink "java/lang/String" 9 "java/lang/String" "value" "[B")) (hx.mv X11.warmed.alike hh11).2.1 (g := (mkF m 37 #[.val (.ref x), .val (.ref y), .val (.ref y)] [.ref x])) rfl (rest := []) rfl (hb hbytes d37)
      have hh14 := q14.trans hh11
      have c15 : Steps p.tables e below (s₁.setTop (entryFrame m #[.ref x, .ref y] 3)) (T14.setTop (mkF m 41 #[.val (.ref x), .val (.ref y), .val (.ref y)] [.ref y, .ref t])) := (c13.trans (st14 _ (Steps.refl _))).trans (by
        refine XS.aloadN X14.here hexec rfl (hb hbytes d40) rfl rfl ?_
        exact Steps.refl _)
      obtain ⟨T16, X16, q16, st16⟩ := X14.hget hexec hown (wk W (.fieldLink "java/lang/String" 9 "java/lang/String" "value" "[B")) (hy.mv X14.warmed.alike hh14).2.1 (g := (mkF m 41 #[.val (.ref x), .val (.ref y), .val (.ref y)] [.ref y, .ref t])) rfl (rest := [.ref t]) rfl (hb hbytes d41)
      have hh16 := q16.trans hh14
      have c17 : Steps p.tables e below (s₁.setTop (entryFrame m #[.ref x, .ref y] 3)) (T16.setTop (mkF m 44 #[.val (.ref x), .val (.ref y), .val (.ref y)] [.ref t', .ref t])) := c15.trans (st16 _ (Steps.refl _))
      obtain ⟨v18, T18, X18, E18, g18⟩ := X16.callS hexec (LEq.law l t V t' V') hown (wks W (staticW "java/lang/String" 541 LEq.yN)) (wk W LEq.tab) (W := 0) (Nat.le_of_ble_eq_true rfl) (Nat.le_of_ble_eq_true rfl) (Nat.le_refl _) (Nat.le_refl _) (g := (mkF m 44 #[.val (.ref x), .val (.ref y), .val (.ref y)] [.ref t', .ref t])) rfl (by rw [hml]; rfl) c17 (argsL := [.ref t, .ref t']) (rest := []) rfl rfl (by show 2 * 0 + 0 ≤ _; decide) (hb hbytes d44) (⟨rfl, hx.2.2.2.1.mv X16.warmed.alike hh16, hx.2.2.2.2.1.ty, hy.2.2.2.1.mv X16.warmed.alike hh16, hy.2.2.2.2.1.ty⟩)
      obtain ⟨v, rfl, q18, hv⟩ := E18
      have iff := Cod.eqv hx.2.2.2.2.1 hy.2.2.2.2.1 hx.2.2.2.2.2 hy.2.2.2.2.2
      rcases hv with ⟨rfl, he⟩ | ⟨rfl, he⟩
      · have c19 : Steps p.tables e below (s₁.setTop (entryFrame m #[.ref x, .ref y] 3)) (T18.setTop (mkF m 55 #[.val (.ref x), .val (.ref y), .val (.ref y)] [.int 1])) := Steps.trans g18 (by
          refine XS.ifNo X18.here hexec rfl (hb hbytes d47) rfl (i0_eq_f (by decide)) ?_
          refine iconstV X18.here hexec rfl 1 (hb hbytes d50) (by decide) ?_
          refine XS.goto X18.here hexec rfl (pc0 := 51) rfl (hb hbytes d51) (by decide) rfl ?_
          exact Steps.refl _)
        exact ⟨T18, some (.int 1), _, _, _, X18, rfl, rfl, rfl, (fun h => by cases h), ⟨1, rfl, q18.trans hh16, Or.inl ⟨rfl, iff.mp he⟩⟩, fun fs hl => c19.trans (X18.ireturnOut hexec hret rfl (Or.inr (Or.inl rfl)) (hb hbytes d55) hl)⟩
      · have c19 : Steps p.tables e below (s₁.setTop (entryFrame m #[.ref x, .ref y] 3)) (T18.setTop (mkF m 55 #[.val (.ref x), .val (.ref y), .val (.ref y)] [.int 0])) := Steps.trans g18 (by
          refine XS.ifYes X18.here hexec rfl (pc0 := 47) rfl (hb hbytes d47) rfl (i0_eq_t rfl) (by decide) rfl ?_
          refine iconstV X18.here hexec rfl 0 (hb hbytes d54) (by decide) ?_
          exact Steps.refl _)
        exact ⟨T18, some (.int 0), _, _, _, X18, rfl, rfl, rfl, (fun h => by cases h), ⟨0, rfl, q18.trans hh16, Or.inr ⟨rfl, fun q => he (iff.mpr q)⟩⟩, fun fs hl => c19.trans (X18.ireturnOut hexec hret rfl (Or.inr (Or.inl rfl)) (hb hbytes d55) hl)⟩
    · have c13 : Steps p.tables e below (s₁.setTop (entryFrame m #[.ref x, .ref y] 3)) (T11.setTop (mkF m 55 #[.val (.ref x), .val (.ref y), .val (.ref y)] [.int 0])) := c12.trans (by
        refine XS.icmpYes X11.here hexec rfl (pc0 := 33) rfl (hb hbytes d33) rfl (ii_ne_t hcd) (by decide) rfl ?_
        refine iconstV X11.here hexec rfl 0 (hb hbytes d54) (by decide) ?_
        exact Steps.refl _)
      exact ⟨T11, some (.int 0), _, _, _, X11, rfl, rfl, rfl, (fun h => by cases h), ⟨0, rfl, hh11, Or.inr ⟨rfl, Cod.dif hx.2.2.2.2.1 hy.2.2.2.2.1 hcd⟩⟩, fun fs hl => c13.trans (X11.ireturnOut hexec hret rfl (Or.inr (Or.inl rfl)) (hb hbytes d55) hl)⟩
theorem pays {l : Launch} {R : Room} {p : Program} {e : Env} {below : List Frame} {s : State} {sargs : Array Value} {len W : Nat} (x t : Addr) (V : Cell) (cd : Int32) (n : Nat) (f : Nat → Int32) (y t' : Addr) (V' : Cell) (cd' : Int32) (k : Nat) (g : Nat → Int32) (z : Int32) (htab : tab.before sargs s = true) (hfr : 2 ≤ R.frames) (hlo : W + 28 ≤ R.locals) :
    Back l R p e below s sargs yN len W (fun A₁ a₁ => A₁.cells + 0 ≤ R.cells ∧ A₁.slots + 0 ≤ R.slots ∧ P x t V cd n f y t' V' cd' k g z a₁ A₁.U) (fun A₁ _ v₁ B₁ => Says01 (SameT n f k g) v₁ A₁.U B₁.U ∧ B₁.locs = A₁.locs ++ [] ∧ B₁.cells = A₁.cells + 0 ∧ B₁.slots = A₁.slots + 0) :=
  (law l x t V cd n f y t' V' cd' k g z).pays htab hfr (by omega)
end SEq
end StrChars
namespace StrChars.Road
open Jvm Sem ClassFile Op Lib Jvm.Stand Jvm.Free Jvm.Free.XT
open Jvm.Lib.Cold (StaticIs)
abbrev wordsEmp : List Jvm.Cond := [.code Emp.yN Emp.yB 1 (some .boolean), .initialized ST, .fieldLink ST 9 ST "value" "[B"]
theorem tabEmp_of {a : Array Value} {s : State} (h : ∀ w ∈ wordsEmp, w.before a s = true) : Emp.tab.before a s = true := unparts (wk h (.code Emp.yN Emp.yB 1 (some .boolean))) (wks h (.initialized Emp.yN.cls :: Emp.site))
theorem movedEmp {Z s : State} {a0 args : Array Value} (hZ : Z.Warmed39 s.vm) (hw : ∀ d ∈ wordsEmp, d.before a0 Z = true) : ∀ d ∈ wordsEmp, d.before args s = true := fun d hd => by
  have t : ∀ d ∈ wordsEmp, (d.onTables && d.keepsFace) = true := by decide +kernel
  exact RoadKit.mv hZ (hw d hd) (t d hd)
abbrev wordsEq : List Jvm.Cond := [.code SEq.yN SEq.yB 3 (some .boolean), .initialized ST, .classLink ST 10 ST, .fieldLink ST 38 ST "COMPACT_STRINGS" "Z", .fieldLink ST 15 ST "coder" "B", .fieldLink ST 9 ST "value" "[B", .methodLink ST 541 LEq.yN, .static LEq.yN, .code LEq.yN LEq.yB 3 (some .boolean), .initialized "java/lang/StringLatin1"]
theorem tabEq_of {a : Array Value} {s : State} (h : ∀ w ∈ wordsEq, w.before a s = true) : SEq.tab.before a s = true := by
  have hl : LEq.tab.before a s = true := unparts (wk h (.code LEq.yN LEq.yB 3 (some .boolean))) (wks h (.initialized LEq.yN.cls :: LEq.site))
  have q := consq hl h
  exact unparts (wk q (.code SEq.yN SEq.yB 3 (some .boolean))) (wks q (.initialized SEq.yN.cls :: SEq.site))
theorem movedEq {Z s : State} {a0 args : Array Value} (hZ : Z.Warmed39 s.vm) (hw : ∀ d ∈ wordsEq, d.before a0 Z = true) : ∀ d ∈ wordsEq, d.before args s = true := fun d hd => by
  have t : ∀ d ∈ wordsEq, (d.onTables && d.keepsFace) = true := by decide +kernel
  exact RoadKit.mv hZ (hw d hd) (t d hd)
theorem txt_of {Z U : State} {a0 : Array Value} {kI : Nat} (wi : (Jvm.Cond.instantiable ST kI).before a0 Z = true) (al : Z.vm.Alike U.vm) {x t : Addr} {kb : ClassId} {cs : List Int32} {cd N2 : Int32} {vs : List Value} (E : RoadKit.Exa Z U.heap x ST) (V : RoadKit.Fld Z U.heap x ST "value" "[B" (.ref t)) (C : RoadKit.Fld Z U.heap x ST "coder" "B" (.int cd)) (K : RoadKit.Arv Z U.heap t kb .byte N2 vs (.int 0)) (hc : CodA cs cd N2 vs) (hb : ∀ c ∈ cs, ¬ c < 0 ∧ ¬ (65535 : Int32) < c) (l2 : cs.length ≤ 4000) :
    ∃ A, Txt x t A cd cs.length (fun j => cs.getD j 0) U := by
  obtain ⟨A, K1, K2, K3, K4, K5, K6⟩ := K
  have hcod := hc.cod (by omega) K3 K5
  obtain ⟨D, fV, fC, hB, F1, F2, g1, g2, -, -⟩ := strObj wi al E V C
  exact ⟨A, ⟨_, hB.2.2.1, D, hB.1, rfl, by cases q : D.vm <;> first | rfl | exact absurd q (hB.2.1.2 _)⟩, Has.of hB F1 g1, Has.of hB F2 g2, ⟨K1.1, State.isArrayOf_alike al K1.2.1, K1.2.2, by rcases hcod with ⟨-, q, -⟩ | ⟨-, q, -⟩ <;> omega⟩, hcod, fun j hj => by
    have e : cs.getD j 0 = cs[j] := by simp [List.getD_eq_getElem?_getD, hj]
    show ¬ cs.getD j 0 < 0 ∧ ¬ 65535 < cs.getD j 0
    rw [e]; exact hb _ (List.getElem_mem _)⟩
theorem same_list (cs ds : List Int32) : SameT cs.length (fun j => cs.getD j 0) ds.length (fun j => ds.getD j 0) ↔ cs = ds := by
  constructor
  · rintro ⟨e, q⟩
    refine List.ext_getElem e fun j h1 h2 => ?_
    have := q j h1
    simpa [List.getD_eq_getElem?_getD, h1, h2] using this
  · rintro rfl
    exact ⟨rfl, fun _ _ => rfl⟩
theorem empW {p : Program} {l : Launch} {e : Env} {R : Room} {s : State} {args : Array Value} {below : List Frame} {len W : Nat} {Z : State} {a0 : Array Value} {h : Heap} (hZ : Z.Warmed39 s.vm) (hw : ∀ d ∈ wordsEmp, d.before a0 Z = true) {kI : Nat} (wi : (Jvm.Cond.instantiable ST kI).before a0 Z = true)
    {x t : Addr} {kb : ClassId} {cs : List Int32} {cd N2 : Int32} {vs : List Value} (E : RoadKit.Exa Z h x ST) (V : RoadKit.Fld Z h x ST "value" "[B" (.ref t)) (C : RoadKit.Fld Z h x ST "coder" "B" (.int cd)) (K : RoadKit.Arv Z h t kb .byte N2 vs (.int 0)) (hc : CodA cs cd N2 vs) (hb : ∀ c ∈ cs, ¬ c < 0 ∧ ¬ (65535 : Int32) < c) (l2 : cs.length ≤ 4000) (hfr : 1 ≤ R.frames) (hlo : W + 12 ≤ R.locals) :
    Back l R p e below s args (⟨"java/lang/String", "isEmpty", "()Z"⟩ : MethodName) len W (fun P a => a = #[.ref x] ∧ P.U.heap = h ∧ P.cells + 0 ≤ R.cells ∧ P.slots + 0 ≤ R.slots)
      (fun P _ v B => ∃ L, (v = some (.int (if cs.length = 0 then 1 else 0)) ∧ L = [] ∧ B.U.heap = h) ∧ B.locs = P.locs ++ L ∧ B.cells = P.cells + 0 ∧ B.slots = P.slots + 0) := by
  intro m meth c P g ig mk a X hg hsize hdg hW hn hp'
  obtain ⟨rfl, rfl, r1, r2⟩ := hp'
  have al : Z.vm.Alike P.U.vm := hZ.alike.trans X.warmed.alike
  obtain ⟨A, hx⟩ := txt_of wi al E V C K hc hb l2
  obtain ⟨v, B, X', ⟨⟨hv, hh⟩, hl, hk, hs⟩, st⟩ := Emp.pays x t A cd cs.length (fun j => cs.getD j 0) (tabEmp_of (movedEmp hZ hw)) hfr hlo m meth c P g ig mk _ X hg hsize hdg hW hn ⟨r1, r2, rfl, hx⟩
  exact ⟨v, B, X', ⟨[], ⟨hv, rfl, hh⟩, hl, hk, hs⟩, st⟩
theorem eqW {p : Program} {l : Launch} {e : Env} {R : Room} {s : State} {args : Array Value} {below : List Frame} {len W : Nat} {Z : State} {a0 : Array Value} {h : Heap} (hZ : Z.Warmed39 s.vm) (hw : ∀ d ∈ wordsEq, d.before a0 Z = true) {kI : Nat} (wi : (Jvm.Cond.instantiable ST kI).before a0 Z = true)
    {x t : Addr} {kb : ClassId} {cs : List Int32} {cd N2 : Int32} {vs : List Value} (E : RoadKit.Exa Z h x ST) (V : RoadKit.Fld Z h x ST "value" "[B" (.ref t)) (C : RoadKit.Fld Z h x ST "coder" "B" (.int cd)) (K : RoadKit.Arv Z h t kb .byte N2 vs (.int 0)) (hc : CodA cs cd N2 vs) (hb : ∀ c ∈ cs, ¬ c < 0 ∧ ¬ (65535 : Int32) < c) (l2 : cs.length ≤ 4000)
    {y t' : Addr} {kb' : ClassId} {ds : List Int32} {cd' N2' : Int32} {vs' : List Value} (E' : RoadKit.Exa Z h y ST) (V' : RoadKit.Fld Z h y ST "value" "[B" (.ref t')) (C' : RoadKit.Fld Z h y ST "coder" "B" (.int cd')) (K' : RoadKit.Arv Z h t' kb' .byte N2' vs' (.int 0)) (hc' : CodA ds cd' N2' vs') (hb' : ∀ c ∈ ds, ¬ c < 0 ∧ ¬ (65535 : Int32) < c) (l2' : ds.length ≤ 4000)
    {z : Int32} (S : RoadKit.Sta Z h ST "COMPACT_STRINGS" "Z" (.int z)) (hz : ¬ z = 0) (hfr : 2 ≤ R.frames) (hlo : W + 28 ≤ R.locals) :
    Back l R p e below s args (⟨"java/lang/String", "equals", "(Ljava/lang/Object;)Z"⟩ : MethodName) len W (fun P a => a = #[.ref x, .ref y] ∧ P.U.heap = h ∧ P.cells + 0 ≤ R.cells ∧ P.slots + 0 ≤ R.slots)
      (fun P _ v B => ∃ L, (((v = some (.int 1) ∧ cs = ds) ∨ (v = some (.int 0) ∧ ¬ cs = ds)) ∧ L = [] ∧ B.U.heap = h) ∧ B.locs = P.locs ++ L ∧ B.cells = P.cells + 0 ∧ B.slots = P.slots + 0) := by
  intro m meth c P g ig mk a X hg hsize hdg hW hn hp'
  obtain ⟨rfl, rfl, r1, r2⟩ := hp'
  have al : Z.vm.Alike P.U.vm := hZ.alike.trans X.warmed.alike
  obtain ⟨A, hx⟩ := txt_of wi al E V C K hc hb l2
  obtain ⟨A', hy⟩ := txt_of wi al E' V' C' K' hc' hb' l2'
  obtain ⟨v, B, X', ⟨⟨w, hv, hh, hq⟩, hl, hk, hs⟩, st⟩ := SEq.pays x t A cd cs.length (fun j => cs.getD j 0) y t' A' cd' ds.length (fun j => ds.getD j 0) z (tabEq_of (movedEq hZ hw)) hfr hlo m meth c P g ig mk _ X hg hsize hdg hW hn ⟨r1, r2, rfl, hx, hy, sta_is al S, hz⟩
  refine ⟨v, B, X', ⟨[], ⟨?_, rfl, hh⟩, hl, hk, hs⟩, st⟩
  rcases hq with ⟨rfl, q⟩ | ⟨rfl, q⟩
  · exact Or.inl ⟨hv, (same_list cs ds).mp q⟩
  · exact Or.inr ⟨hv, fun e => q ((same_list cs ds).mpr e)⟩
end StrChars.Road
namespace StrChars
open Jvm Sem ClassFile Op Lib Jvm.Stand Jvm.Free.XT Jvm.Free.ALB Jvm.Free.JM Jvm.Free
open Jvm.Lib.Cold (StaticIs)
namespace ChN
def yN : MethodName := ⟨"java/lang/String", "charAt", "(I)C"⟩
abbrev yB : ByteArray := jdk_42_method_56_code
theorem d0 : decode yB 0 = .ok (.aload_n 0, 1) := by decide +kernel
theorem d1 : decode yB 1 = .ok (.invokevirtual 492, 3) := by decide +kernel
theorem d4 : decode yB 4 = .ok (.ifCond (.eq) 12, 3) := by decide +kernel
theorem d7 : decode yB 7 = .ok (.aload_n 0, 1) := by decide +kernel
theorem d8 : decode yB 8 = .ok (.getfield 9, 3) := by decide +kernel
theorem d11 : decode yB 11 = .ok (.iload_n 1, 1) := by decide +kernel
theorem d12 : decode yB 12 = .ok (.invokestatic 495, 3) := by decide +kernel
theorem d15 : decode yB 15 = .ok (.ireturn, 1) := by decide +kernel
def site : List Cond := [.fieldLink "java/lang/String" 9 "java/lang/String" "value" "[B", IsL.tab, LChA.tab] ++ virtW "java/lang/String" 492 "java/lang/String" IsL.yN IsL.yN ++ staticW "java/lang/String" 495 LChA.yN
def tab : Cond := tabOf yN yB 2 (some .char) site
def P (x t : Addr) (V : Cell) (n : Nat) (f : Nat → Int32) (z : Int32) (fm : Value) (i : Nat) (args : Array Value) (s : State) : Prop := args = #[.ref x, .int (Int32.ofNat i)] ∧ Txt x t V 0 n f s ∧ i < n ∧ StaticIs s "java/lang/String" "COMPACT_STRINGS" "Z" (.int z) ∧ ¬ z = 0 ∧ StaticIs s "jdk/internal/util/Preconditions" "SIOOBE_FORMATTER" "Ljava/util/function/BiFunction;" fm ∧ fm.isRef = true
def E (f : Nat → Int32) (i : Nat) (r : Option Value) (s u : State) : Prop := XT.PureE (some (.int (f i))) r s u
theorem law (l : Launch) (x t : Addr) (V : Cell) (n : Nat) (f : Nat → Int32) (z : Int32) (fm : Value) (i : Nat) : Law l yN 2 1 3 40 yB 2 (some .char) site (P x t V n f z fm i) (E f i) [] 0 0 := by
  refine Law.of_walk (plainFor_of_name (by decide +kernel)) (by decide +kernel) (by decide +kernel) (by decide) (fun _ _ h => by rw [h.1]; rfl) (fun _ U U' hal hh h => ⟨h.1, h.2.1.mv hal hh, h.2.2.1, h.2.2.2.1.there hal hh, h.2.2.2.2.1, h.2.2.2.2.2.1.there hal hh, h.2.2.2.2.2.2⟩) (fun r U U' V V' h1 hal h2 h => XT.PureE.mv r U U' V V' h1 hal h2 h) ?_
  intro p e s m args below meth c s₁ X0 hexec hbytes hml hret hlk hnm hown hh0 W hP
  obtain ⟨rfl, hx, hi, s1, hz, s3, rf⟩ := hP
  have v31 := hx.2.2.2.1.2.2.2
  have hr := hx.2.2.2.2.2 i hi
  have hx0 := hx.mv X0.warmed.alike hh0
  have c1 : Steps p.tables e below (s₁.setTop (entryFrame m #[.ref x, .int (Int32.ofNat i)] 2)) (s₁.setTop (mkF m 1 #[.val (.ref x), .val (.int (Int32.ofNat i))] [.ref x])) := Steps.trans (entry rfl) (by
    show Steps p.tables e below (s₁.setTop (mkF m 0 #[.val (.ref x), .val (.int (Int32.ofNat i))] [])) _
    refine XS.aloadN X0.here hexec rfl (hb hbytes d0) rfl rfl ?_
    exact Steps.refl _)
  obtain ⟨v2, T2, X2, E2, g2⟩ := X0.callV hexec (IsL.law l x 0 z) hown (wks W (virtW "java/lang/String" 492 "java/lang/String" IsL.yN IsL.yN)) rfl (by decide) (wk W IsL.tab) (W := 0) (Nat.le_of_ble_eq_true rfl) (Nat.le_of_ble_eq_true rfl) (Nat.le_refl _) (Nat.le_refl _) (hx0.1.fc X0.warmed.alike) hx0.1.is (g := (mkF m 1 #[.val (.ref x), .val (.int (Int32.ofNat i))] [.ref x])) rfl (by rw [hml]; rfl) c1 (argsL := []) (rest := []) rfl rfl (by show 2 * 0 + 0 ≤ _; decide) (hb hbytes d1) (⟨rfl, hx0.2.2.1, hx.2.2.2.2.1.cd, s1.there X0.warmed.alike hh0, hz⟩)
  obtain ⟨rfl, q2⟩ := E2
  have hh2 := q2.trans hh0
  have hx2 := hx.mv X2.warmed.alike hh2
  obtain ⟨-, k1, k2⟩ | ⟨k0, -⟩ := hx.2.2.2.2.1
  · have c3 : Steps p.tables e below (s₁.setTop (entryFrame m #[.ref x, .int (Int32.ofNat i)] 2)) (T2.setTop (mkF m 8 #[.val (.ref x), .val (.int (Int32.ofNat i))] [.ref x])) := Steps.trans g2 (by
      refine XS.ifNo X2.here hexec rfl (hb hbytes d4) rfl (i0_eq_f (by decide)) ?_
      refine XS.aloadN X2.here hexec rfl (hb hbytes d7) rfl rfl ?_
      exact Steps.refl _)
    obtain ⟨T4, X4, q4, st4⟩ := X2.hget hexec hown (wk W (.fieldLink "java/lang/String" 9 "java/lang/String" "value" "[B")) hx2.2.1 (g := (mkF m 8 #[.val (.ref x), .val (.int (Int32.ofNat i))] [.ref x])) rfl (rest := []) rfl (hb hbytes d8)
    have hh4 := q4.trans hh2
    have c5 : Steps p.tables e below (s₁.setTop (entryFrame m #[.ref x, .int (Int32.ofNat i)] 2)) (T4.setTop (mkF m 12 #[.val (.ref x), .val (.int (Int32.ofNat i))] [.int (Int32.ofNat i), .ref t])) := (c3.trans (st4 _ (Steps.refl _))).trans (by
      refine XS.iloadN X4.here hexec rfl (hb hbytes d11) rfl ?_
      exact Steps.refl _)
    obtain ⟨v6, T6, X6, E6, g6⟩ := X4.callS hexec (LChA.law l t V i (lo8 (f i)) fm) hown (wks W (staticW "java/lang/String" 495 LChA.yN)) (wk W LChA.tab) (W := 0) (Nat.le_of_ble_eq_true rfl) (Nat.le_of_ble_eq_true rfl) (Nat.le_refl _) (Nat.le_refl _) (g := (mkF m 12 #[.val (.ref x), .val (.int (Int32.ofNat i))] [.int (Int32.ofNat i), .ref t])) rfl (by rw [hml]; rfl) c5 (argsL := [.ref t, .int (Int32.ofNat i)]) (rest := []) rfl rfl (by show 2 * 0 + 0 ≤ _; decide) (hb hbytes d12) (⟨rfl, hx.2.2.2.1.mv X4.warmed.alike hh4, (k2 i hi).1, s3.there X4.warmed.alike hh4, rf⟩)
    obtain ⟨rfl, q6⟩ := E6
    rw [chr8_lo8 hr.1 (k2 i hi).2] at g6
    exact ⟨T6, some (.int (f i)), _, _, _, X6, rfl, rfl, rfl, (fun h => by cases h), ⟨rfl, q6.trans hh4⟩, fun fs hl => Steps.trans g6 (X6.ireturnOut hexec hret (narrow_ch hr.1 hr.2) (Or.inr (Or.inr (Or.inr (Or.inl rfl)))) (hb hbytes d15) hl)⟩
  · exact absurd k0 (by decide)
theorem pays {l : Launch} {R : Room} {p : Program} {e : Env} {below : List Frame} {s : State} {sargs : Array Value} {len W : Nat} (x t : Addr) (V : Cell) (n : Nat) (f : Nat → Int32) (z : Int32) (fm : Value) (i : Nat) (htab : tab.before sargs s = true) (hfr : 4 ≤ R.frames) (hlo : W + 53 ≤ R.locals) :
    Back l R p e below s sargs yN len W (fun A₁ a₁ => A₁.cells + 0 ≤ R.cells ∧ A₁.slots + 0 ≤ R.slots ∧ P x t V n f z fm i a₁ A₁.U) (fun A₁ _ v₁ B₁ => E f i v₁ A₁.U B₁.U ∧ B₁.locs = A₁.locs ++ [] ∧ B₁.cells = A₁.cells + 0 ∧ B₁.slots = A₁.slots + 0) :=
  (law l x t V n f z fm i).pays htab hfr (by omega)
end ChN
end StrChars
namespace StrChars.Road
open Jvm Sem ClassFile Op Lib Jvm.Stand Jvm.Free Jvm.Free.XT
open Jvm.Lib.Cold (StaticIs)
abbrev wordsChN : List Jvm.Cond := [.code ChN.yN ChN.yB 2 (some .char), .initialized ST, .fieldLink ST 9 ST "value" "[B", .fieldLink ST 38 ST "COMPACT_STRINGS" "Z", .fieldLink ST 15 ST "coder" "B", .code IsL.yN IsL.yB 1 (some .boolean), .methodLink ST 492 IsL.yN, .declares IsL.yN, .selects ST IsL.yN IsL.yN, .instanceMethod IsL.yN,
  .methodLink ST 495 LChA.yN, .static LChA.yN, .code LChA.yN LChA.yB 2 (some .char), .initialized "java/lang/StringLatin1", .methodLink "java/lang/StringLatin1" 9 JO.Str_checkIndex.yN, .static JO.Str_checkIndex.yN, .code JO.Str_checkIndex.yN JO.Str_checkIndex.yB 2 none,
  .fieldLink ST 1053 "jdk/internal/util/Preconditions" "SIOOBE_FORMATTER" "Ljava/util/function/BiFunction;", .methodLink ST 1059 JC.PreCheck.yN, .static JC.PreCheck.yN, .code JC.PreCheck.yN JC.PreCheck.yB 3 (some .int), .initialized "jdk/internal/util/Preconditions"]
theorem tabChN_of {a : Array Value} {s : State} (h : ∀ w ∈ wordsChN, w.before a s = true) : ChN.tab.before a s = true := by
  have hp : JC.PreCheck.tab.before a s = true := unparts (wk h (.code JC.PreCheck.yN JC.PreCheck.yB 3 (some .int))) (wks h (.initialized JC.PreCheck.yN.cls :: JC.PreCheck.site))
  have qk := consq hp h
  have hk : JO.Str_checkIndex.tab.before a s = true := unparts (wk qk (.code JO.Str_checkIndex.yN JO.Str_checkIndex.yB 2 none)) (wks qk (.initialized JO.Str_checkIndex.yN.cls :: JO.Str_checkIndex.site))
  have ql := consq hk h
  have hl : LChA.tab.before a s = true := unparts (wk ql (.code LChA.yN LChA.yB 2 (some .char))) (wks ql (.initialized LChA.yN.cls :: LChA.site))
  have hi : IsL.tab.before a s = true := unparts (wk h (.code IsL.yN IsL.yB 1 (some .boolean))) (wks h (.initialized IsL.yN.cls :: IsL.site))
  have q := consq hi (consq hl h)
  exact unparts (wk q (.code ChN.yN ChN.yB 2 (some .char))) (wks q (.initialized ChN.yN.cls :: ChN.site))
theorem movedChN {Z s : State} {a0 args : Array Value} (hZ : Z.Warmed39 s.vm) (hw : ∀ d ∈ wordsChN, d.before a0 Z = true) : ∀ d ∈ wordsChN, d.before args s = true := fun d hd => by
  have t : ∀ d ∈ wordsChN, (d.onTables && d.keepsFace) = true := by decide +kernel
  exact RoadKit.mv hZ (hw d hd) (t d hd)
theorem chN {p : Program} {l : Launch} {e : Env} {R : Room} {s : State} {args : Array Value} {below : List Frame} {len W : Nat} {Z : State} {a0 : Array Value} {h : Heap} (hZ : Z.Warmed39 s.vm) (hw : ∀ d ∈ wordsChN, d.before a0 Z = true) {kI : Nat} (wi : (Jvm.Cond.instantiable ST kI).before a0 Z = true)
    {x t : Addr} {kb : ClassId} {cs : List Int32} {N2 z : Int32} {vs : List Value} {fm : Value} {i : Nat} {j : Int32} (E : RoadKit.Exa Z h x ST) (V : RoadKit.Fld Z h x ST "value" "[B" (.ref t)) (C : RoadKit.Fld Z h x ST "coder" "B" (.int 0)) (K : RoadKit.Arv Z h t kb .byte N2 vs (.int 0)) (hc : CodA cs 0 N2 vs) (hb : ∀ c ∈ cs, ¬ c < 0 ∧ ¬ (65535 : Int32) < c)
    (S : RoadKit.Sta Z h ST "COMPACT_STRINGS" "Z" (.int z)) (hz : ¬ z = 0) (F : RoadKit.Sta Z h "jdk/internal/util/Preconditions" "SIOOBE_FORMATTER" "Ljava/util/function/BiFunction;" fm) (rf : fm.isRef = true) (l2 : cs.length ≤ 4000) (hi : i < cs.length) (hj : j = Int32.ofNat i) (hfr : 4 ≤ R.frames) (hlo : W + 53 ≤ R.locals) :
    Back l R p e below s args (⟨"java/lang/String", "charAt", "(I)C"⟩ : MethodName) len W (fun P a => a = #[.ref x, .int j] ∧ P.U.heap = h ∧ P.cells + 0 ≤ R.cells ∧ P.slots + 0 ≤ R.slots)
      (fun P _ v B => ∃ L, (v = some (.int (cs.getD i 0)) ∧ L = [] ∧ B.U.heap = h) ∧ B.locs = P.locs ++ L ∧ B.cells = P.cells + 0 ∧ B.slots = P.slots + 0) := by
  subst hj
  intro m meth c P g ig mk a X hg hsize hdg hW hn hp'
  obtain ⟨rfl, rfl, r1, r2⟩ := hp'
  have al : Z.vm.Alike P.U.vm := hZ.alike.trans X.warmed.alike
  obtain ⟨A, hx⟩ := txt_of wi al E V C K hc hb l2
  obtain ⟨v, B, X', ⟨⟨hv, hh⟩, hl, hk, hs⟩, st⟩ := ChN.pays x t A cs.length (fun j => cs.getD j 0) z fm i (tabChN_of (movedChN hZ hw)) hfr hlo m meth c P g ig mk _ X hg hsize hdg hW hn ⟨r1, r2, rfl, hx, hi, sta_is al S, hz, sta_is al F, rf⟩
  exact ⟨v, B, X', ⟨[], ⟨hv, rfl, hh⟩, hl, hk, hs⟩, st⟩
theorem codOf {cs : List Int32} {n : Nat} (hn : cs.length = n) (hb : ∀ c ∈ cs, ¬ 255 < c) : CodA cs 0 (Int32.ofNat n) ((cs.map lo8).map Value.int) := Or.inl ⟨rfl, by rw [hn], by simp [List.map_map, Function.comp_def], hb⟩
end StrChars.Road
end Jvm.Pilot.@@N@@

namespace Jvm.Pilot.@@N@@
open Jvm Jvm.ClassFile Sem Op Lib Jvm.Free Jvm.Stand Jvm.LawKit Jvm.RoadKit Bundle Jvm.Pilot.@@N@@.Jvm.D
abbrev own_S (p : Program) (e : Env) (below : List Frame) (T : State) (f : JFrame) (t : State) : Prop := Steps p.tables e below (T.setTop f) t

theorem own_up (cs : List Int32) (h : ∀ c ∈ cs, ¬ c < 0 ∧ ¬ (255 : Int32) < c) : ∀ c ∈ cs, ¬ c < 0 ∧ ¬ (65535 : Int32) < c := fun c hc => ⟨(h c hc).1, fun q => (h c hc).2 (by rw [Int32.lt_iff_toInt_lt] at q ⊢; have e1 : (65535 : Int32).toInt = 65535 := rfl; have e2 : (255 : Int32).toInt = 255 := rfl; omega)⟩

theorem own_fin {c : Int32} {N : Nat} (h0 : 0 ≤ c.toInt) (h : c.toInt < N) : ∃ n : Fin N, c = Int32.ofInt (n.1 : Int) :=
  ⟨⟨c.toInt.toNat, by omega⟩, by rw [Int.toNat_of_nonneg h0, Int32.ofInt_toInt]⟩

def own_isL (c : Int32) : Int32 := if c < (97 : Int32) then (if c < (65 : Int32) then 0 else if (90 : Int32) < c then 0 else 1) else if (122 : Int32) < c then (if c < (65 : Int32) then 0 else if (90 : Int32) < c then 0 else 1) else 1
def own_isD (c : Int32) : Int32 := if c < (48 : Int32) then 0 else if (57 : Int32) < c then 0 else 1
abbrev own_good (c : Int32) : Prop := (own_isL c = (0 : Int32) → own_isD c = (0 : Int32) → ¬ c = (45 : Int32) → c = (95 : Int32)) ∧ ¬ c < 0 ∧ ¬ (255 : Int32) < c ∧ c.toUInt32.toUInt16.toUInt32.toInt32 = c
def own_lc (v : Int32) : Int32 := if v < (26 : Int32) then nar .char (((97 : Int32) + v).toUInt32.toUInt16.toUInt32.toInt32) else nar .char (((65 : Int32) + (v - (26 : Int32))).toUInt32.toUInt16.toUInt32.toInt32)
def own_oc (v : Int32) : Int32 := if v < (26 : Int32) then nar .char (((97 : Int32) + v).toUInt32.toUInt16.toUInt32.toInt32) else if v < (52 : Int32) then nar .char (((65 : Int32) + (v - (26 : Int32))).toUInt32.toUInt16.toUInt32.toInt32) else if v < (62 : Int32) then nar .char (((48 : Int32) + (v - (52 : Int32))).toUInt32.toUInt16.toUInt32.toInt32) else if v = (62 : Int32) then 45 else 95
def own_letter (p : Int32) : Int32 := own_lc ((p &&& (2147483647 : Int32)) % (52 : Int32))
def own_other (p : Int32) : Int32 := own_oc (p &&& (63 : Int32))
theorem own_52 : ∀ n : Fin 52, own_good (own_lc (Int32.ofInt (n.1 : Int))) ∧ ¬ own_isL (own_lc (Int32.ofInt (n.1 : Int))) = (0 : Int32) := by decide +kernel
theorem own_64 : ∀ n : Fin 64, own_good (own_oc (Int32.ofInt (n.1 : Int))) := by decide +kernel
theorem own_gl (p : Int32) : own_good (own_letter p) ∧ ¬ own_isL (own_letter p) = (0 : Int32) := by
  have h1 := (c_andS p (2147483647 : Int32)).2.2 (by decide)
  have h2 := (c_iremV (p &&& (2147483647 : Int32)) (52 : Int32)).1 h1 (by decide)
  have h3 : (52 : Int32).toInt = 52 := by decide
  obtain ⟨n, e⟩ := own_fin (N := 52) h2.1 (by omega)
  unfold own_letter
  rw [e]
  exact own_52 n
theorem own_go (p : Int32) : own_good (own_other p) := by
  have h := c_and p (63 : Int32) (by decide)
  have h3 : (63 : Int32).toInt = 63 := by decide
  obtain ⟨n, e⟩ := own_fin (N := 64) h.1 (by omega)
  unfold own_other
  rw [e]
  exact own_64 n
theorem own_f0 {P : Int32 → Prop} : ∀ c ∈ ([] : List Int32), P c := fun _ q => nomatch q
theorem own_fa {P : Int32 → Prop} {a : Int32} {l : List Int32} (h : P a) (t : ∀ c ∈ l, P c) : ∀ c ∈ a :: l, P c := List.forall_mem_cons.mpr ⟨h, t⟩
theorem own_nat {n : Nat} (h : n ≤ 64) : (Int32.ofNat n).toInt = n := by
  rw [Int32.toInt_ofNat']
  have e : (Int32.size : Int) = 4294967296 := rfl
  rw [Int.bmod_eq_of_le (by omega) (by omega)]
theorem own_lt {i n : Nat} (h : i < n) (hn : n ≤ 64) : Int32.ofNat i < Int32.ofNat n := by
  rw [Int32.lt_iff_toInt_lt, own_nat hn, own_nat (Nat.le_trans (Nat.le_of_lt h) hn)]; omega
theorem own_irr (c : Int32) : ¬ c < c := by rw [Int32.lt_iff_toInt_lt]; omega
theorem own_n64 {n : Nat} (hn : n ≤ 64) : ¬ (64 : Int32) < Int32.ofNat n := by
  rw [Int32.lt_iff_toInt_lt, own_nat hn, show (64 : Int32).toInt = 64 from by decide]; omega
theorem own_one1 {n : Nat} (hn : n ≤ 64) (h : Int32.ofNat n = (1 : Int32)) : n = 1 := by
  have q := congrArg Int32.toInt h
  rw [own_nat hn, show (1 : Int32).toInt = 1 from by decide] at q; omega
theorem own_one {cs : List Int32} {c : Int32} (h : cs.length = 1) (hd : cs.getD 0 0 = c) : cs = [c] := by
  match cs, h with
  | [a], _ => rw [← hd]; rfl
theorem own_inc (i : Nat) : Int32.ofNat i + (1 : Int32) = Int32.ofNat (i + 1) := by
  rw [Int32.ofNat_add]; rfl
theorem own_mem {cs : List Int32} {P : Int32 → Prop} (h : ∀ c ∈ cs, P c) {i : Nat} (hi : i < cs.length) : P (cs.getD i 0) := by
  have e : cs.getD i 0 = cs[i] := by simp [List.getD_eq_getElem?_getD, hi]
  rw [e]; exact h _ (List.getElem_mem _)

theorem d_method_2_0 : decode method_2_code 0 = .ok (.iload_n 0, 1) := by decide +kernel
theorem d_method_2_1 : decode method_2_code 1 = .ok (.ldc 7, 2) := by decide +kernel
theorem d_method_2_3 : decode method_2_code 3 = .ok (.iand, 1) := by decide +kernel
theorem d_method_2_4 : decode method_2_code 4 = .ok (.bipush 52, 2) := by decide +kernel
theorem d_method_2_6 : decode method_2_code 6 = .ok (.irem, 1) := by decide +kernel
theorem d_method_2_7 : decode method_2_code 7 = .ok (.istore_n 1, 1) := by decide +kernel
theorem d_method_2_8 : decode method_2_code 8 = .ok (.iload_n 1, 1) := by decide +kernel
theorem d_method_2_9 : decode method_2_code 9 = .ok (.bipush 26, 2) := by decide +kernel
theorem d_method_2_11 : decode method_2_code 11 = .ok (.if_icmp .ge 9, 3) := by decide +kernel
theorem d_method_2_14 : decode method_2_code 14 = .ok (.bipush 97, 2) := by decide +kernel
theorem d_method_2_16 : decode method_2_code 16 = .ok (.iload_n 1, 1) := by decide +kernel
theorem d_method_2_17 : decode method_2_code 17 = .ok (.iadd, 1) := by decide +kernel
theorem d_method_2_18 : decode method_2_code 18 = .ok (.i2c, 1) := by decide +kernel
theorem d_method_2_19 : decode method_2_code 19 = .ok (.ireturn, 1) := by decide +kernel
theorem d_method_2_20 : decode method_2_code 20 = .ok (.bipush 65, 2) := by decide +kernel
theorem d_method_2_22 : decode method_2_code 22 = .ok (.iload_n 1, 1) := by decide +kernel
theorem d_method_2_23 : decode method_2_code 23 = .ok (.bipush 26, 2) := by decide +kernel
theorem d_method_2_25 : decode method_2_code 25 = .ok (.isub, 1) := by decide +kernel
theorem d_method_2_26 : decode method_2_code 26 = .ok (.iadd, 1) := by decide +kernel
theorem d_method_2_27 : decode method_2_code 27 = .ok (.i2c, 1) := by decide +kernel
theorem d_method_2_28 : decode method_2_code 28 = .ok (.ireturn, 1) := by decide +kernel
theorem pn_0 : plainName "com/example/dual_delivery/dualdelivery/model/ResourceNameOfPinLaw" = true := by first | (simp [plainName, overriddenIn]; done) | decide +kernel
theorem ef_rm1 (m : MethodId) (x0 : Int32) : entryFrame m #[(.int x0)] 2 = mkF m 0 #[.val (.int x0), .unset] [] := by first | (simp [entryFrame, mkF, argsToLocals, Value.category]; done) | rfl
def Q1 (Z : State) (p1 : Int32) (h0 : Heap) (n0 : Nat) (v : Option Value) (h : Heap) (L : List Loc) : Prop := v = some (.int (own_letter p1)) ∧ Fr n0 L ∧ h = h0
set_option maxRecDepth 65536 in
set_option maxHeartbeats 40000000 in
theorem rm1 (l : Launch) (Z : State) (a0 : Array Value) (hw : ∀ d ∈ tables_1, d.before a0 Z = true) (ws : List Jvm.Cond) (p1 : Int32) (h0 : Heap) (n0 : Nat) (Z0 : n0 ≤ h0.size) :
    MetFree l (⟨"com/example/dual_delivery/dualdelivery/model/ResourceNameOfPinLaw", "letter", "(I)C"⟩ : MethodName) (head1 (Jvm.Cond.code (⟨"com/example/dual_delivery/dualdelivery/model/ResourceNameOfPinLaw", "letter", "(I)C"⟩ : MethodName) method_2_code 2 (some .char) :: ws) ({ frames := 0, cells := 0, slots := 0, locals := 0 } : Room)) (fun a U => a = #[(.int p1)] ∧ Z.Warmed39 U.vm ∧ U.heap = h0) (fun _ _ _ _ _ => True) (fun _ U o U' => ∃ v L, o = .returned v ∧ Q1 Z p1 h0 n0 v U'.heap L ∧ FrameEnd U o U' L ({ frames := 0, cells := 0, slots := 0, locals := 0 } : Room).cells ({ frames := 0, cells := 0, slots := 0, locals := 0 } : Room).slots) := by
  refine MetFree.of_bodySF (plainFor_of_name pn_0) hisR ?_
  intro p e s m args below meth c s₁ Bd hml0 hP hK
  obtain ⟨rfl, hZ, hh⟩ := hP
  have hx := Bd.exec
  have hby := Bd.bytes
  have hml : c.maxLocals = 2 := hml0
  have hown : s.vm.findClass "com/example/dual_delivery/dualdelivery/model/ResourceNameOfPinLaw" = some m.cls := findClass_of_methodNamed Bd.named
  have hnm := (name_of_methodNamed Bd.named Bd.method).1
  have X0 : Stand p l e ({ frames := 0, cells := 0, slots := 0, locals := 0 } : Room) s m #[(.int p1)] below meth c s₁ [] 0 0 := Stand.of_body Bd
  have e0 : s₁.heap = h0 := by rw [← hh, Bd.state]; rfl
  have Nf0 := Fr.nil n0
  obtain ⟨Gl, hGl, kn0⟩ : ∃ Gl : State → Prop, (∀ t, Gl t → Steps p.tables e below (s₁.setTop (entryFrame m #[(.int p1)] 2)) t) ∧ ∀ t, own_S p e below s₁ (mkF m 0 #[.val (.int p1), .unset] []) t → Gl t := ⟨fun t => Steps p.tables e below (s₁.setTop (entryFrame m #[(.int p1)] 2)) t, fun _ k => k, fun t k => castTop (ef_rm1 m p1) k⟩
  have kn1 : ∀ t, own_S p e below s₁ (mkF m 11 #[.val (.int p1), .val (.int ((p1 &&& (2147483647 : Int32)) % (52 : Int32)))] [(.int (26 : Int32)), (.int ((p1 &&& (2147483647 : Int32)) % (52 : Int32)))]) t → Gl t := fun t kt => kn0 t (by
    show own_S p e below s₁ (mkF m 0 #[.val (.int p1), .unset] []) _
    refine XS.iloadN X0.here hx rfl (hb hby d_method_2_0) rfl ?_
    show own_S p e below s₁ (mkF m 1 #[.val (.int p1), .unset] [(.int p1)]) _
    refine X0.ldcInt hx hown (mvT hZ (hw _ (List.mem_of_getElem? (i := 4) rfl))) (g := (mkF m 1 #[.val (.int p1), .unset] [(.int p1)])) rfl (hb hby d_method_2_1) _ ?_
    show own_S p e below s₁ (mkF m 3 #[.val (.int p1), .unset] [(.int (2147483647 : Int32)), (.int p1)]) _
    refine XS.iand X0.here hx rfl (hb hby d_method_2_3) rfl ?_
    show own_S p e below s₁ (mkF m 4 #[.val (.int p1), .unset] [(.int (p1 &&& (2147483647 : Int32)))]) _
    refine XS.bipush X0.here hx rfl (hb hby d_method_2_4) ?_
    show own_S p e below s₁ (mkF m 6 #[.val (.int p1), .unset] [(.int (52 : Int32)), (.int (p1 &&& (2147483647 : Int32)))]) _
    refine iremM X0 hx rfl (hb hby d_method_2_6) rfl (by decide) ?_
    show own_S p e below s₁ (mkF m 7 #[.val (.int p1), .unset] [(.int ((p1 &&& (2147483647 : Int32)) % (52 : Int32)))]) _
    refine XS.istoreN X0.here hx rfl (hb hby d_method_2_7) rfl (l' := #[.val (.int p1), .val (.int ((p1 &&& (2147483647 : Int32)) % (52 : Int32)))]) rfl ?_
    show own_S p e below s₁ (mkF m 8 #[.val (.int p1), .val (.int ((p1 &&& (2147483647 : Int32)) % (52 : Int32)))] []) _
    refine XS.iloadN X0.here hx rfl (hb hby d_method_2_8) rfl ?_
    show own_S p e below s₁ (mkF m 9 #[.val (.int p1), .val (.int ((p1 &&& (2147483647 : Int32)) % (52 : Int32)))] [(.int ((p1 &&& (2147483647 : Int32)) % (52 : Int32)))]) _
    refine XS.bipush X0.here hx rfl (hb hby d_method_2_9) ?_
    exact kt)
  by_cases hc11 : ((p1 &&& (2147483647 : Int32)) % (52 : Int32)) < (26 : Int32)
  · have kn2 : ∀ t, own_S p e below s₁ (mkF m 19 #[.val (.int p1), .val (.int ((p1 &&& (2147483647 : Int32)) % (52 : Int32)))] [(.int (((97 : Int32) + ((p1 &&& (2147483647 : Int32)) % (52 : Int32))).toUInt32.toUInt16.toUInt32.toInt32))]) t → Gl t := fun t kt => kn1 t (by
      show own_S p e below s₁ (mkF m 11 #[.val (.int p1), .val (.int ((p1 &&& (2147483647 : Int32)) % (52 : Int32)))] [(.int (26 : Int32)), (.int ((p1 &&& (2147483647 : Int32)) % (52 : Int32)))]) _
      refine XS.icmpNo X0.here hx rfl (hb hby d_method_2_11) rfl (tlt hc11).2.1 ?_
      show own_S p e below s₁ (mkF m 14 #[.val (.int p1), .val (.int ((p1 &&& (2147483647 : Int32)) % (52 : Int32)))] []) _
      refine XS.bipush X0.here hx rfl (hb hby d_method_2_14) ?_
      show own_S p e below s₁ (mkF m 16 #[.val (.int p1), .val (.int ((p1 &&& (2147483647 : Int32)) % (52 : Int32)))] [(.int (97 : Int32))]) _
      refine XS.iloadN X0.here hx rfl (hb hby d_method_2_16) rfl ?_
      show own_S p e below s₁ (mkF m 17 #[.val (.int p1), .val (.int ((p1 &&& (2147483647 : Int32)) % (52 : Int32)))] [(.int ((p1 &&& (2147483647 : Int32)) % (52 : Int32))), (.int (97 : Int32))]) _
      refine XS.iadd X0.here hx rfl (hb hby d_method_2_17) rfl ?_
      show own_S p e below s₁ (mkF m 18 #[.val (.int p1), .val (.int ((p1 &&& (2147483647 : Int32)) % (52 : Int32)))] [(.int ((97 : Int32) + ((p1 &&& (2147483647 : Int32)) % (52 : Int32))))]) _
      refine XS.i2c X0.here hx rfl (hb hby d_method_2_18) rfl ?_
      exact kt)
    obtain ⟨fs, hr, hrun, hended, hW, hsame⟩ := X0.leave (v := some (.int (nar .char (((97 : Int32) + ((p1 &&& (2147483647 : Int32)) % (52 : Int32))).toUInt32.toUInt16.toUInt32.toInt32)))) (fun h => by rw [Bd.returns] at h; cases h)
    refine ⟨_, _, hGl _ (kn2 _ (retN X0 hx (t := .char) Bd.returns (by simp) (hb hby d_method_2_19) hr)), hrun, hended, _, _, rfl, ?_, ⟨_, rfl⟩, hW, hsame.mono (by decide) (by decide)⟩
    show Q1 Z p1 h0 n0 _ s₁.heap _
    rw [e0]
    exact ⟨by rw [own_letter, own_lc, if_pos hc11], Nf0, rfl⟩
  · have kn3 : ∀ t, own_S p e below s₁ (mkF m 28 #[.val (.int p1), .val (.int ((p1 &&& (2147483647 : Int32)) % (52 : Int32)))] [(.int (((65 : Int32) + (((p1 &&& (2147483647 : Int32)) % (52 : Int32)) - (26 : Int32))).toUInt32.toUInt16.toUInt32.toInt32))]) t → Gl t := fun t kt => kn1 t (by
      show own_S p e below s₁ (mkF m 11 #[.val (.int p1), .val (.int ((p1 &&& (2147483647 : Int32)) % (52 : Int32)))] [(.int (26 : Int32)), (.int ((p1 &&& (2147483647 : Int32)) % (52 : Int32)))]) _
      refine XS.icmpYes X0.here hx rfl (pc0 := 11) (pc' := 20) rfl (hb hby d_method_2_11) rfl (flt hc11).2.1 (by decide) (by decide) ?_
      show own_S p e below s₁ (mkF m 20 #[.val (.int p1), .val (.int ((p1 &&& (2147483647 : Int32)) % (52 : Int32)))] []) _
      refine XS.bipush X0.here hx rfl (hb hby d_method_2_20) ?_
      show own_S p e below s₁ (mkF m 22 #[.val (.int p1), .val (.int ((p1 &&& (2147483647 : Int32)) % (52 : Int32)))] [(.int (65 : Int32))]) _
      refine XS.iloadN X0.here hx rfl (hb hby d_method_2_22) rfl ?_
      show own_S p e below s₁ (mkF m 23 #[.val (.int p1), .val (.int ((p1 &&& (2147483647 : Int32)) % (52 : Int32)))] [(.int ((p1 &&& (2147483647 : Int32)) % (52 : Int32))), (.int (65 : Int32))]) _
      refine XS.bipush X0.here hx rfl (hb hby d_method_2_23) ?_
      show own_S p e below s₁ (mkF m 25 #[.val (.int p1), .val (.int ((p1 &&& (2147483647 : Int32)) % (52 : Int32)))] [(.int (26 : Int32)), (.int ((p1 &&& (2147483647 : Int32)) % (52 : Int32))), (.int (65 : Int32))]) _
      refine XS.isub X0.here hx rfl (hb hby d_method_2_25) rfl ?_
      show own_S p e below s₁ (mkF m 26 #[.val (.int p1), .val (.int ((p1 &&& (2147483647 : Int32)) % (52 : Int32)))] [(.int (((p1 &&& (2147483647 : Int32)) % (52 : Int32)) - (26 : Int32))), (.int (65 : Int32))]) _
      refine XS.iadd X0.here hx rfl (hb hby d_method_2_26) rfl ?_
      show own_S p e below s₁ (mkF m 27 #[.val (.int p1), .val (.int ((p1 &&& (2147483647 : Int32)) % (52 : Int32)))] [(.int ((65 : Int32) + (((p1 &&& (2147483647 : Int32)) % (52 : Int32)) - (26 : Int32))))]) _
      refine XS.i2c X0.here hx rfl (hb hby d_method_2_27) rfl ?_
      exact kt)
    obtain ⟨fs, hr, hrun, hended, hW, hsame⟩ := X0.leave (v := some (.int (nar .char (((65 : Int32) + (((p1 &&& (2147483647 : Int32)) % (52 : Int32)) - (26 : Int32))).toUInt32.toUInt16.toUInt32.toInt32)))) (fun h => by rw [Bd.returns] at h; cases h)
    refine ⟨_, _, hGl _ (kn3 _ (retN X0 hx (t := .char) Bd.returns (by simp) (hb hby d_method_2_28) hr)), hrun, hended, _, _, rfl, ?_, ⟨_, rfl⟩, hW, hsame.mono (by decide) (by decide)⟩
    show Q1 Z p1 h0 n0 _ s₁.heap _
    rw [e0]
    exact ⟨by rw [own_letter, own_lc, if_neg hc11], Nf0, rfl⟩

theorem d_method_3_0 : decode method_3_code 0 = .ok (.iload_n 0, 1) := by decide +kernel
theorem d_method_3_1 : decode method_3_code 1 = .ok (.bipush 63, 2) := by decide +kernel
theorem d_method_3_3 : decode method_3_code 3 = .ok (.iand, 1) := by decide +kernel
theorem d_method_3_4 : decode method_3_code 4 = .ok (.istore_n 1, 1) := by decide +kernel
theorem d_method_3_5 : decode method_3_code 5 = .ok (.iload_n 1, 1) := by decide +kernel
theorem d_method_3_6 : decode method_3_code 6 = .ok (.bipush 26, 2) := by decide +kernel
theorem d_method_3_8 : decode method_3_code 8 = .ok (.if_icmp .ge 9, 3) := by decide +kernel
theorem d_method_3_11 : decode method_3_code 11 = .ok (.bipush 97, 2) := by decide +kernel
theorem d_method_3_13 : decode method_3_code 13 = .ok (.iload_n 1, 1) := by decide +kernel
theorem d_method_3_14 : decode method_3_code 14 = .ok (.iadd, 1) := by decide +kernel
theorem d_method_3_15 : decode method_3_code 15 = .ok (.i2c, 1) := by decide +kernel
theorem d_method_3_16 : decode method_3_code 16 = .ok (.ireturn, 1) := by decide +kernel
theorem d_method_3_17 : decode method_3_code 17 = .ok (.iload_n 1, 1) := by decide +kernel
theorem d_method_3_18 : decode method_3_code 18 = .ok (.bipush 52, 2) := by decide +kernel
theorem d_method_3_20 : decode method_3_code 20 = .ok (.if_icmp .ge 12, 3) := by decide +kernel
theorem d_method_3_23 : decode method_3_code 23 = .ok (.bipush 65, 2) := by decide +kernel
theorem d_method_3_25 : decode method_3_code 25 = .ok (.iload_n 1, 1) := by decide +kernel
theorem d_method_3_26 : decode method_3_code 26 = .ok (.bipush 26, 2) := by decide +kernel
theorem d_method_3_28 : decode method_3_code 28 = .ok (.isub, 1) := by decide +kernel
theorem d_method_3_29 : decode method_3_code 29 = .ok (.iadd, 1) := by decide +kernel
theorem d_method_3_30 : decode method_3_code 30 = .ok (.i2c, 1) := by decide +kernel
theorem d_method_3_31 : decode method_3_code 31 = .ok (.ireturn, 1) := by decide +kernel
theorem d_method_3_32 : decode method_3_code 32 = .ok (.iload_n 1, 1) := by decide +kernel
theorem d_method_3_33 : decode method_3_code 33 = .ok (.bipush 62, 2) := by decide +kernel
theorem d_method_3_35 : decode method_3_code 35 = .ok (.if_icmp .ge 12, 3) := by decide +kernel
theorem d_method_3_38 : decode method_3_code 38 = .ok (.bipush 48, 2) := by decide +kernel
theorem d_method_3_40 : decode method_3_code 40 = .ok (.iload_n 1, 1) := by decide +kernel
theorem d_method_3_41 : decode method_3_code 41 = .ok (.bipush 52, 2) := by decide +kernel
theorem d_method_3_43 : decode method_3_code 43 = .ok (.isub, 1) := by decide +kernel
theorem d_method_3_44 : decode method_3_code 44 = .ok (.iadd, 1) := by decide +kernel
theorem d_method_3_45 : decode method_3_code 45 = .ok (.i2c, 1) := by decide +kernel
theorem d_method_3_46 : decode method_3_code 46 = .ok (.ireturn, 1) := by decide +kernel
theorem d_method_3_47 : decode method_3_code 47 = .ok (.iload_n 1, 1) := by decide +kernel
theorem d_method_3_48 : decode method_3_code 48 = .ok (.bipush 62, 2) := by decide +kernel
theorem d_method_3_50 : decode method_3_code 50 = .ok (.if_icmp .ne 6, 3) := by decide +kernel
theorem d_method_3_53 : decode method_3_code 53 = .ok (.bipush 45, 2) := by decide +kernel
theorem d_method_3_55 : decode method_3_code 55 = .ok (.ireturn, 1) := by decide +kernel
theorem d_method_3_56 : decode method_3_code 56 = .ok (.bipush 95, 2) := by decide +kernel
theorem d_method_3_58 : decode method_3_code 58 = .ok (.ireturn, 1) := by decide +kernel
theorem ef_rm2 (m : MethodId) (x0 : Int32) : entryFrame m #[(.int x0)] 2 = mkF m 0 #[.val (.int x0), .unset] [] := by first | (simp [entryFrame, mkF, argsToLocals, Value.category]; done) | rfl
def Q2 (Z : State) (p1 : Int32) (h0 : Heap) (n0 : Nat) (v : Option Value) (h : Heap) (L : List Loc) : Prop := v = some (.int (own_other p1)) ∧ Fr n0 L ∧ h = h0
set_option maxRecDepth 65536 in
set_option maxHeartbeats 40000000 in
theorem rm2 (l : Launch) (Z : State) (a0 : Array Value) (hw : ∀ d ∈ tables_1, d.before a0 Z = true) (ws : List Jvm.Cond) (p1 : Int32) (h0 : Heap) (n0 : Nat) (Z0 : n0 ≤ h0.size) :
    MetFree l (⟨"com/example/dual_delivery/dualdelivery/model/ResourceNameOfPinLaw", "other", "(I)C"⟩ : MethodName) (head1 (Jvm.Cond.code (⟨"com/example/dual_delivery/dualdelivery/model/ResourceNameOfPinLaw", "other", "(I)C"⟩ : MethodName) method_3_code 2 (some .char) :: ws) ({ frames := 0, cells := 0, slots := 0, locals := 0 } : Room)) (fun a U => a = #[(.int p1)] ∧ Z.Warmed39 U.vm ∧ U.heap = h0) (fun _ _ _ _ _ => True) (fun _ U o U' => ∃ v L, o = .returned v ∧ Q2 Z p1 h0 n0 v U'.heap L ∧ FrameEnd U o U' L ({ frames := 0, cells := 0, slots := 0, locals := 0 } : Room).cells ({ frames := 0, cells := 0, slots := 0, locals := 0 } : Room).slots) := by
  refine MetFree.of_bodySF (plainFor_of_name pn_0) hisR ?_
  intro p e s m args below meth c s₁ Bd hml0 hP hK
  obtain ⟨rfl, hZ, hh⟩ := hP
  have hx := Bd.exec
  have hby := Bd.bytes
  have hml : c.maxLocals = 2 := hml0
  have hown : s.vm.findClass "com/example/dual_delivery/dualdelivery/model/ResourceNameOfPinLaw" = some m.cls := findClass_of_methodNamed Bd.named
  have hnm := (name_of_methodNamed Bd.named Bd.method).1
  have X0 : Stand p l e ({ frames := 0, cells := 0, slots := 0, locals := 0 } : Room) s m #[(.int p1)] below meth c s₁ [] 0 0 := Stand.of_body Bd
  have e0 : s₁.heap = h0 := by rw [← hh, Bd.state]; rfl
  have Nf0 := Fr.nil n0
  obtain ⟨Gl, hGl, kn0⟩ : ∃ Gl : State → Prop, (∀ t, Gl t → Steps p.tables e below (s₁.setTop (entryFrame m #[(.int p1)] 2)) t) ∧ ∀ t, own_S p e below s₁ (mkF m 0 #[.val (.int p1), .unset] []) t → Gl t := ⟨fun t => Steps p.tables e below (s₁.setTop (entryFrame m #[(.int p1)] 2)) t, fun _ k => k, fun t k => castTop (ef_rm2 m p1) k⟩
  have kn1 : ∀ t, own_S p e below s₁ (mkF m 8 #[.val (.int p1), .val (.int (p1 &&& (63 : Int32)))] [(.int (26 : Int32)), (.int (p1 &&& (63 : Int32)))]) t → Gl t := fun t kt => kn0 t (by
    show own_S p e below s₁ (mkF m 0 #[.val (.int p1), .unset] []) _
    refine XS.iloadN X0.here hx rfl (hb hby d_method_3_0) rfl ?_
    show own_S p e below s₁ (mkF m 1 #[.val (.int p1), .unset] [(.int p1)]) _
    refine XS.bipush X0.here hx rfl (hb hby d_method_3_1) ?_
    show own_S p e below s₁ (mkF m 3 #[.val (.int p1), .unset] [(.int (63 : Int32)), (.int p1)]) _
    refine XS.iand X0.here hx rfl (hb hby d_method_3_3) rfl ?_
    show own_S p e below s₁ (mkF m 4 #[.val (.int p1), .unset] [(.int (p1 &&& (63 : Int32)))]) _
    refine XS.istoreN X0.here hx rfl (hb hby d_method_3_4) rfl (l' := #[.val (.int p1), .val (.int (p1 &&& (63 : Int32)))]) rfl ?_
    show own_S p e below s₁ (mkF m 5 #[.val (.int p1), .val (.int (p1 &&& (63 : Int32)))] []) _
    refine XS.iloadN X0.here hx rfl (hb hby d_method_3_5) rfl ?_
    show own_S p e below s₁ (mkF m 6 #[.val (.int p1), .val (.int (p1 &&& (63 : Int32)))] [(.int (p1 &&& (63 : Int32)))]) _
    refine XS.bipush X0.here hx rfl (hb hby d_method_3_6) ?_
    exact kt)
  by_cases hc8 : (p1 &&& (63 : Int32)) < (26 : Int32)
  · have kn2 : ∀ t, own_S p e below s₁ (mkF m 16 #[.val (.int p1), .val (.int (p1 &&& (63 : Int32)))] [(.int (((97 : Int32) + (p1 &&& (63 : Int32))).toUInt32.toUInt16.toUInt32.toInt32))]) t → Gl t := fun t kt => kn1 t (by
      show own_S p e below s₁ (mkF m 8 #[.val (.int p1), .val (.int (p1 &&& (63 : Int32)))] [(.int (26 : Int32)), (.int (p1 &&& (63 : Int32)))]) _
      refine XS.icmpNo X0.here hx rfl (hb hby d_method_3_8) rfl (tlt hc8).2.1 ?_
      show own_S p e below s₁ (mkF m 11 #[.val (.int p1), .val (.int (p1 &&& (63 : Int32)))] []) _
      refine XS.bipush X0.here hx rfl (hb hby d_method_3_11) ?_
      show own_S p e below s₁ (mkF m 13 #[.val (.int p1), .val (.int (p1 &&& (63 : Int32)))] [(.int (97 : Int32))]) _
      refine XS.iloadN X0.here hx rfl (hb hby d_method_3_13) rfl ?_
      show own_S p e below s₁ (mkF m 14 #[.val (.int p1), .val (.int (p1 &&& (63 : Int32)))] [(.int (p1 &&& (63 : Int32))), (.int (97 : Int32))]) _
      refine XS.iadd X0.here hx rfl (hb hby d_method_3_14) rfl ?_
      show own_S p e below s₁ (mkF m 15 #[.val (.int p1), .val (.int (p1 &&& (63 : Int32)))] [(.int ((97 : Int32) + (p1 &&& (63 : Int32))))]) _
      refine XS.i2c X0.here hx rfl (hb hby d_method_3_15) rfl ?_
      exact kt)
    obtain ⟨fs, hr, hrun, hended, hW, hsame⟩ := X0.leave (v := some (.int (nar .char (((97 : Int32) + (p1 &&& (63 : Int32))).toUInt32.toUInt16.toUInt32.toInt32)))) (fun h => by rw [Bd.returns] at h; cases h)
    refine ⟨_, _, hGl _ (kn2 _ (retN X0 hx (t := .char) Bd.returns (by simp) (hb hby d_method_3_16) hr)), hrun, hended, _, _, rfl, ?_, ⟨_, rfl⟩, hW, hsame.mono (by decide) (by decide)⟩
    show Q2 Z p1 h0 n0 _ s₁.heap _
    rw [e0]
    exact ⟨by rw [own_other, own_oc, if_pos hc8], Nf0, rfl⟩
  · have kn3 : ∀ t, own_S p e below s₁ (mkF m 20 #[.val (.int p1), .val (.int (p1 &&& (63 : Int32)))] [(.int (52 : Int32)), (.int (p1 &&& (63 : Int32)))]) t → Gl t := fun t kt => kn1 t (by
      show own_S p e below s₁ (mkF m 8 #[.val (.int p1), .val (.int (p1 &&& (63 : Int32)))] [(.int (26 : Int32)), (.int (p1 &&& (63 : Int32)))]) _
      refine XS.icmpYes X0.here hx rfl (pc0 := 8) (pc' := 17) rfl (hb hby d_method_3_8) rfl (flt hc8).2.1 (by decide) (by decide) ?_
      show own_S p e below s₁ (mkF m 17 #[.val (.int p1), .val (.int (p1 &&& (63 : Int32)))] []) _
      refine XS.iloadN X0.here hx rfl (hb hby d_method_3_17) rfl ?_
      show own_S p e below s₁ (mkF m 18 #[.val (.int p1), .val (.int (p1 &&& (63 : Int32)))] [(.int (p1 &&& (63 : Int32)))]) _
      refine XS.bipush X0.here hx rfl (hb hby d_method_3_18) ?_
      exact kt)
    by_cases hc20 : (p1 &&& (63 : Int32)) < (52 : Int32)
    · have kn4 : ∀ t, own_S p e below s₁ (mkF m 31 #[.val (.int p1), .val (.int (p1 &&& (63 : Int32)))] [(.int (((65 : Int32) + ((p1 &&& (63 : Int32)) - (26 : Int32))).toUInt32.toUInt16.toUInt32.toInt32))]) t → Gl t := fun t kt => kn3 t (by
        show own_S p e below s₁ (mkF m 20 #[.val (.int p1), .val (.int (p1 &&& (63 : Int32)))] [(.int (52 : Int32)), (.int (p1 &&& (63 : Int32)))]) _
        refine XS.icmpNo X0.here hx rfl (hb hby d_method_3_20) rfl (tlt hc20).2.1 ?_
        show own_S p e below s₁ (mkF m 23 #[.val (.int p1), .val (.int (p1 &&& (63 : Int32)))] []) _
        refine XS.bipush X0.here hx rfl (hb hby d_method_3_23) ?_
        show own_S p e below s₁ (mkF m 25 #[.val (.int p1), .val (.int (p1 &&& (63 : Int32)))] [(.int (65 : Int32))]) _
        refine XS.iloadN X0.here hx rfl (hb hby d_method_3_25) rfl ?_
        show own_S p e below s₁ (mkF m 26 #[.val (.int p1), .val (.int (p1 &&& (63 : Int32)))] [(.int (p1 &&& (63 : Int32))), (.int (65 : Int32))]) _
        refine XS.bipush X0.here hx rfl (hb hby d_method_3_26) ?_
        show own_S p e below s₁ (mkF m 28 #[.val (.int p1), .val (.int (p1 &&& (63 : Int32)))] [(.int (26 : Int32)), (.int (p1 &&& (63 : Int32))), (.int (65 : Int32))]) _
        refine XS.isub X0.here hx rfl (hb hby d_method_3_28) rfl ?_
        show own_S p e below s₁ (mkF m 29 #[.val (.int p1), .val (.int (p1 &&& (63 : Int32)))] [(.int ((p1 &&& (63 : Int32)) - (26 : Int32))), (.int (65 : Int32))]) _
        refine XS.iadd X0.here hx rfl (hb hby d_method_3_29) rfl ?_
        show own_S p e below s₁ (mkF m 30 #[.val (.int p1), .val (.int (p1 &&& (63 : Int32)))] [(.int ((65 : Int32) + ((p1 &&& (63 : Int32)) - (26 : Int32))))]) _
        refine XS.i2c X0.here hx rfl (hb hby d_method_3_30) rfl ?_
        exact kt)
      obtain ⟨fs, hr, hrun, hended, hW, hsame⟩ := X0.leave (v := some (.int (nar .char (((65 : Int32) + ((p1 &&& (63 : Int32)) - (26 : Int32))).toUInt32.toUInt16.toUInt32.toInt32)))) (fun h => by rw [Bd.returns] at h; cases h)
      refine ⟨_, _, hGl _ (kn4 _ (retN X0 hx (t := .char) Bd.returns (by simp) (hb hby d_method_3_31) hr)), hrun, hended, _, _, rfl, ?_, ⟨_, rfl⟩, hW, hsame.mono (by decide) (by decide)⟩
      show Q2 Z p1 h0 n0 _ s₁.heap _
      rw [e0]
      exact ⟨by rw [own_other, own_oc, if_neg hc8, if_pos hc20], Nf0, rfl⟩
    · have kn5 : ∀ t, own_S p e below s₁ (mkF m 35 #[.val (.int p1), .val (.int (p1 &&& (63 : Int32)))] [(.int (62 : Int32)), (.int (p1 &&& (63 : Int32)))]) t → Gl t := fun t kt => kn3 t (by
        show own_S p e below s₁ (mkF m 20 #[.val (.int p1), .val (.int (p1 &&& (63 : Int32)))] [(.int (52 : Int32)), (.int (p1 &&& (63 : Int32)))]) _
        refine XS.icmpYes X0.here hx rfl (pc0 := 20) (pc' := 32) rfl (hb hby d_method_3_20) rfl (flt hc20).2.1 (by decide) (by decide) ?_
        show own_S p e below s₁ (mkF m 32 #[.val (.int p1), .val (.int (p1 &&& (63 : Int32)))] []) _
        refine XS.iloadN X0.here hx rfl (hb hby d_method_3_32) rfl ?_
        show own_S p e below s₁ (mkF m 33 #[.val (.int p1), .val (.int (p1 &&& (63 : Int32)))] [(.int (p1 &&& (63 : Int32)))]) _
        refine XS.bipush X0.here hx rfl (hb hby d_method_3_33) ?_
        exact kt)
      by_cases hc35 : (p1 &&& (63 : Int32)) < (62 : Int32)
      · have kn6 : ∀ t, own_S p e below s₁ (mkF m 46 #[.val (.int p1), .val (.int (p1 &&& (63 : Int32)))] [(.int (((48 : Int32) + ((p1 &&& (63 : Int32)) - (52 : Int32))).toUInt32.toUInt16.toUInt32.toInt32))]) t → Gl t := fun t kt => kn5 t (by
          show own_S p e below s₁ (mkF m 35 #[.val (.int p1), .val (.int (p1 &&& (63 : Int32)))] [(.int (62 : Int32)), (.int (p1 &&& (63 : Int32)))]) _
          refine XS.icmpNo X0.here hx rfl (hb hby d_method_3_35) rfl (tlt hc35).2.1 ?_
          show own_S p e below s₁ (mkF m 38 #[.val (.int p1), .val (.int (p1 &&& (63 : Int32)))] []) _
          refine XS.bipush X0.here hx rfl (hb hby d_method_3_38) ?_
          show own_S p e below s₁ (mkF m 40 #[.val (.int p1), .val (.int (p1 &&& (63 : Int32)))] [(.int (48 : Int32))]) _
          refine XS.iloadN X0.here hx rfl (hb hby d_method_3_40) rfl ?_
          show own_S p e below s₁ (mkF m 41 #[.val (.int p1), .val (.int (p1 &&& (63 : Int32)))] [(.int (p1 &&& (63 : Int32))), (.int (48 : Int32))]) _
          refine XS.bipush X0.here hx rfl (hb hby d_method_3_41) ?_
          show own_S p e below s₁ (mkF m 43 #[.val (.int p1), .val (.int (p1 &&& (63 : Int32)))] [(.int (52 : Int32)), (.int (p1 &&& (63 : Int32))), (.int (48 : Int32))]) _
          refine XS.isub X0.here hx rfl (hb hby d_method_3_43) rfl ?_
          show own_S p e below s₁ (mkF m 44 #[.val (.int p1), .val (.int (p1 &&& (63 : Int32)))] [(.int ((p1 &&& (63 : Int32)) - (52 : Int32))), (.int (48 : Int32))]) _
          refine XS.iadd X0.here hx rfl (hb hby d_method_3_44) rfl ?_
          show own_S p e below s₁ (mkF m 45 #[.val (.int p1), .val (.int (p1 &&& (63 : Int32)))] [(.int ((48 : Int32) + ((p1 &&& (63 : Int32)) - (52 : Int32))))]) _
          refine XS.i2c X0.here hx rfl (hb hby d_method_3_45) rfl ?_
          exact kt)
        obtain ⟨fs, hr, hrun, hended, hW, hsame⟩ := X0.leave (v := some (.int (nar .char (((48 : Int32) + ((p1 &&& (63 : Int32)) - (52 : Int32))).toUInt32.toUInt16.toUInt32.toInt32)))) (fun h => by rw [Bd.returns] at h; cases h)
        refine ⟨_, _, hGl _ (kn6 _ (retN X0 hx (t := .char) Bd.returns (by simp) (hb hby d_method_3_46) hr)), hrun, hended, _, _, rfl, ?_, ⟨_, rfl⟩, hW, hsame.mono (by decide) (by decide)⟩
        show Q2 Z p1 h0 n0 _ s₁.heap _
        rw [e0]
        exact ⟨by rw [own_other, own_oc, if_neg hc8, if_neg hc20, if_pos hc35], Nf0, rfl⟩
      · have kn7 : ∀ t, own_S p e below s₁ (mkF m 50 #[.val (.int p1), .val (.int (p1 &&& (63 : Int32)))] [(.int (62 : Int32)), (.int (p1 &&& (63 : Int32)))]) t → Gl t := fun t kt => kn5 t (by
          show own_S p e below s₁ (mkF m 35 #[.val (.int p1), .val (.int (p1 &&& (63 : Int32)))] [(.int (62 : Int32)), (.int (p1 &&& (63 : Int32)))]) _
          refine XS.icmpYes X0.here hx rfl (pc0 := 35) (pc' := 47) rfl (hb hby d_method_3_35) rfl (flt hc35).2.1 (by decide) (by decide) ?_
          show own_S p e below s₁ (mkF m 47 #[.val (.int p1), .val (.int (p1 &&& (63 : Int32)))] []) _
          refine XS.iloadN X0.here hx rfl (hb hby d_method_3_47) rfl ?_
          show own_S p e below s₁ (mkF m 48 #[.val (.int p1), .val (.int (p1 &&& (63 : Int32)))] [(.int (p1 &&& (63 : Int32)))]) _
          refine XS.bipush X0.here hx rfl (hb hby d_method_3_48) ?_
          exact kt)
        by_cases hc50 : (p1 &&& (63 : Int32)) = (62 : Int32)
        · have kn8 : ∀ t, own_S p e below s₁ (mkF m 55 #[.val (.int p1), .val (.int (p1 &&& (63 : Int32)))] [(.int (45 : Int32))]) t → Gl t := fun t kt => kn7 t (by
            show own_S p e below s₁ (mkF m 50 #[.val (.int p1), .val (.int (p1 &&& (63 : Int32)))] [(.int (62 : Int32)), (.int (p1 &&& (63 : Int32)))]) _
            refine XS.icmpNo X0.here hx rfl (hb hby d_method_3_50) rfl (teq hc50).2 ?_
            show own_S p e below s₁ (mkF m 53 #[.val (.int p1), .val (.int (p1 &&& (63 : Int32)))] []) _
            refine XS.bipush X0.here hx rfl (hb hby d_method_3_53) ?_
            exact kt)
          obtain ⟨fs, hr, hrun, hended, hW, hsame⟩ := X0.leave (v := some (.int (45 : Int32))) (fun h => by rw [Bd.returns] at h; cases h)
          refine ⟨_, _, hGl _ (kn8 _ (retN X0 hx (t := .char) Bd.returns (by simp) (hb hby d_method_3_55) hr)), hrun, hended, _, _, rfl, ?_, ⟨_, rfl⟩, hW, hsame.mono (by decide) (by decide)⟩
          show Q2 Z p1 h0 n0 _ s₁.heap _
          rw [e0]
          exact ⟨by rw [own_other, own_oc, if_neg hc8, if_neg hc20, if_neg hc35, if_pos hc50], Nf0, rfl⟩
        · have kn9 : ∀ t, own_S p e below s₁ (mkF m 58 #[.val (.int p1), .val (.int (p1 &&& (63 : Int32)))] [(.int (95 : Int32))]) t → Gl t := fun t kt => kn7 t (by
            show own_S p e below s₁ (mkF m 50 #[.val (.int p1), .val (.int (p1 &&& (63 : Int32)))] [(.int (62 : Int32)), (.int (p1 &&& (63 : Int32)))]) _
            refine XS.icmpYes X0.here hx rfl (pc0 := 50) (pc' := 56) rfl (hb hby d_method_3_50) rfl (feq hc50).2 (by decide) (by decide) ?_
            show own_S p e below s₁ (mkF m 56 #[.val (.int p1), .val (.int (p1 &&& (63 : Int32)))] []) _
            refine XS.bipush X0.here hx rfl (hb hby d_method_3_56) ?_
            exact kt)
          obtain ⟨fs, hr, hrun, hended, hW, hsame⟩ := X0.leave (v := some (.int (95 : Int32))) (fun h => by rw [Bd.returns] at h; cases h)
          refine ⟨_, _, hGl _ (kn9 _ (retN X0 hx (t := .char) Bd.returns (by simp) (hb hby d_method_3_58) hr)), hrun, hended, _, _, rfl, ?_, ⟨_, rfl⟩, hW, hsame.mono (by decide) (by decide)⟩
          show Q2 Z p1 h0 n0 _ s₁.heap _
          rw [e0]
          exact ⟨by rw [own_other, own_oc, if_neg hc8, if_neg hc20, if_neg hc35, if_neg hc50], Nf0, rfl⟩

theorem d_prog_18_method_3_0 : decode prog_18_method_3_code 0 = .ok (.iload_n 0, 1) := by decide +kernel
theorem d_prog_18_method_3_1 : decode prog_18_method_3_code 1 = .ok (.bipush 97, 2) := by decide +kernel
theorem d_prog_18_method_3_3 : decode prog_18_method_3_code 3 = .ok (.if_icmp .lt 9, 3) := by decide +kernel
theorem d_prog_18_method_3_6 : decode prog_18_method_3_code 6 = .ok (.iload_n 0, 1) := by decide +kernel
theorem d_prog_18_method_3_7 : decode prog_18_method_3_code 7 = .ok (.bipush 122, 2) := by decide +kernel
theorem d_prog_18_method_3_9 : decode prog_18_method_3_code 9 = .ok (.if_icmp .le 15, 3) := by decide +kernel
theorem d_prog_18_method_3_12 : decode prog_18_method_3_code 12 = .ok (.iload_n 0, 1) := by decide +kernel
theorem d_prog_18_method_3_13 : decode prog_18_method_3_code 13 = .ok (.bipush 65, 2) := by decide +kernel
theorem d_prog_18_method_3_15 : decode prog_18_method_3_code 15 = .ok (.if_icmp .lt 13, 3) := by decide +kernel
theorem d_prog_18_method_3_18 : decode prog_18_method_3_code 18 = .ok (.iload_n 0, 1) := by decide +kernel
theorem d_prog_18_method_3_19 : decode prog_18_method_3_code 19 = .ok (.bipush 90, 2) := by decide +kernel
theorem d_prog_18_method_3_21 : decode prog_18_method_3_code 21 = .ok (.if_icmp .gt 7, 3) := by decide +kernel
theorem d_prog_18_method_3_24 : decode prog_18_method_3_code 24 = .ok (.iconst 1, 1) := by decide +kernel
theorem d_prog_18_method_3_25 : decode prog_18_method_3_code 25 = .ok (.goto 4, 3) := by decide +kernel
theorem d_prog_18_method_3_28 : decode prog_18_method_3_code 28 = .ok (.iconst 0, 1) := by decide +kernel
theorem d_prog_18_method_3_29 : decode prog_18_method_3_code 29 = .ok (.ireturn, 1) := by decide +kernel
theorem pn_1 : plainName "com/example/dual_delivery/dualdelivery/model/ResourceName" = true := by first | (simp [plainName, overriddenIn]; done) | decide +kernel
theorem ef_rm21 (m : MethodId) (x0 : Int32) : entryFrame m #[(.int x0)] 1 = mkF m 0 #[.val (.int x0)] [] := by first | (simp [entryFrame, mkF, argsToLocals, Value.category]; done) | rfl
def Q21 (Z : State) (p1 : Int32) (h0 : Heap) (n0 : Nat) (v : Option Value) (h : Heap) (L : List Loc) : Prop := v = some (.int (own_isL p1)) ∧ Fr n0 L ∧ h = h0 ∧ L = []
set_option maxRecDepth 65536 in
set_option maxHeartbeats 40000000 in
theorem rm21 (l : Launch) (Z : State) (a0 : Array Value) (hw : ∀ d ∈ tables_1, d.before a0 Z = true) (ws : List Jvm.Cond) (p1 : Int32) (h0 : Heap) (n0 : Nat) (Z0 : n0 ≤ h0.size) :
    MetFree l (⟨"com/example/dual_delivery/dualdelivery/model/ResourceName", "isLetter", "(C)Z"⟩ : MethodName) (head1 (Jvm.Cond.code (⟨"com/example/dual_delivery/dualdelivery/model/ResourceName", "isLetter", "(C)Z"⟩ : MethodName) prog_18_method_3_code 1 (some .boolean) :: ws) ({ frames := 0, cells := 0, slots := 0, locals := 0 } : Room)) (fun a U => a = #[(.int p1)] ∧ Z.Warmed39 U.vm ∧ U.heap = h0) (fun _ _ _ _ _ => True) (fun _ U o U' => ∃ v L, o = .returned v ∧ Q21 Z p1 h0 n0 v U'.heap L ∧ FrameEnd U o U' L ({ frames := 0, cells := 0, slots := 0, locals := 0 } : Room).cells ({ frames := 0, cells := 0, slots := 0, locals := 0 } : Room).slots) := by
  refine MetFree.of_bodySF (plainFor_of_name pn_1) hisR ?_
  intro p e s m args below meth c s₁ Bd hml0 hP hK
  obtain ⟨rfl, hZ, hh⟩ := hP
  have hx := Bd.exec
  have hby := Bd.bytes
  have hml : c.maxLocals = 1 := hml0
  have hown : s.vm.findClass "com/example/dual_delivery/dualdelivery/model/ResourceName" = some m.cls := findClass_of_methodNamed Bd.named
  have hnm := (name_of_methodNamed Bd.named Bd.method).1
  have X0 : Stand p l e ({ frames := 0, cells := 0, slots := 0, locals := 0 } : Room) s m #[(.int p1)] below meth c s₁ [] 0 0 := Stand.of_body Bd
  have e0 : s₁.heap = h0 := by rw [← hh, Bd.state]; rfl
  have Nf0 := Fr.nil n0
  obtain ⟨Gl, hGl, kn0⟩ : ∃ Gl : State → Prop, (∀ t, Gl t → Steps p.tables e below (s₁.setTop (entryFrame m #[(.int p1)] 1)) t) ∧ ∀ t, own_S p e below s₁ (mkF m 0 #[.val (.int p1)] []) t → Gl t := ⟨fun t => Steps p.tables e below (s₁.setTop (entryFrame m #[(.int p1)] 1)) t, fun _ k => k, fun t k => castTop (ef_rm21 m p1) k⟩
  have kn1 : ∀ t, own_S p e below s₁ (mkF m 3 #[.val (.int p1)] [(.int (97 : Int32)), (.int p1)]) t → Gl t := fun t kt => kn0 t (by
    show own_S p e below s₁ (mkF m 0 #[.val (.int p1)] []) _
    refine XS.iloadN X0.here hx rfl (hb hby d_prog_18_method_3_0) rfl ?_
    show own_S p e below s₁ (mkF m 1 #[.val (.int p1)] [(.int p1)]) _
    refine XS.bipush X0.here hx rfl (hb hby d_prog_18_method_3_1) ?_
    exact kt)
  by_cases hc3 : p1 < (97 : Int32)
  · have kn2 : ∀ t, own_S p e below s₁ (mkF m 15 #[.val (.int p1)] [(.int (65 : Int32)), (.int p1)]) t → Gl t := fun t kt => kn1 t (by
      show own_S p e below s₁ (mkF m 3 #[.val (.int p1)] [(.int (97 : Int32)), (.int p1)]) _
      refine XS.icmpYes X0.here hx rfl (pc0 := 3) (pc' := 12) rfl (hb hby d_prog_18_method_3_3) rfl (tlt hc3).1 (by decide) (by decide) ?_
      show own_S p e below s₁ (mkF m 12 #[.val (.int p1)] []) _
      refine XS.iloadN X0.here hx rfl (hb hby d_prog_18_method_3_12) rfl ?_
      show own_S p e below s₁ (mkF m 13 #[.val (.int p1)] [(.int p1)]) _
      refine XS.bipush X0.here hx rfl (hb hby d_prog_18_method_3_13) ?_
      exact kt)
    by_cases hc15 : p1 < (65 : Int32)
    · have kn3 : ∀ t, own_S p e below s₁ (mkF m 29 #[.val (.int p1)] [(.int (0 : Int32))]) t → Gl t := fun t kt => kn2 t (by
        show own_S p e below s₁ (mkF m 15 #[.val (.int p1)] [(.int (65 : Int32)), (.int p1)]) _
        refine XS.icmpYes X0.here hx rfl (pc0 := 15) (pc' := 28) rfl (hb hby d_prog_18_method_3_15) rfl (tlt hc15).1 (by decide) (by decide) ?_
        show own_S p e below s₁ (mkF m 28 #[.val (.int p1)] []) _
        refine XS.iconst X0.here hx rfl (hb hby d_prog_18_method_3_28) ?_
        exact kt)
      obtain ⟨fs, hr, hrun, hended, hW, hsame⟩ := X0.leave (v := some (.int (0 : Int32))) (fun h => by rw [Bd.returns] at h; cases h)
      refine ⟨_, _, hGl _ (kn3 _ (retN X0 hx (t := .boolean) Bd.returns (by simp) (hb hby d_prog_18_method_3_29) hr)), hrun, hended, _, _, rfl, ?_, ⟨_, rfl⟩, hW, hsame.mono (by decide) (by decide)⟩
      show Q21 Z p1 h0 n0 _ s₁.heap _
      rw [e0]
      exact ⟨by simp [own_isL, hc3, hc15], Nf0, rfl, rfl⟩
    · have kn4 : ∀ t, own_S p e below s₁ (mkF m 21 #[.val (.int p1)] [(.int (90 : Int32)), (.int p1)]) t → Gl t := fun t kt => kn2 t (by
        show own_S p e below s₁ (mkF m 15 #[.val (.int p1)] [(.int (65 : Int32)), (.int p1)]) _
        refine XS.icmpNo X0.here hx rfl (hb hby d_prog_18_method_3_15) rfl (flt hc15).1 ?_
        show own_S p e below s₁ (mkF m 18 #[.val (.int p1)] []) _
        refine XS.iloadN X0.here hx rfl (hb hby d_prog_18_method_3_18) rfl ?_
        show own_S p e below s₁ (mkF m 19 #[.val (.int p1)] [(.int p1)]) _
        refine XS.bipush X0.here hx rfl (hb hby d_prog_18_method_3_19) ?_
        exact kt)
      by_cases hc21 : (90 : Int32) < p1
      · have kn5 : ∀ t, own_S p e below s₁ (mkF m 29 #[.val (.int p1)] [(.int (0 : Int32))]) t → Gl t := fun t kt => kn4 t (by
          show own_S p e below s₁ (mkF m 21 #[.val (.int p1)] [(.int (90 : Int32)), (.int p1)]) _
          refine XS.icmpYes X0.here hx rfl (pc0 := 21) (pc' := 28) rfl (hb hby d_prog_18_method_3_21) rfl (tlt hc21).2.2.1 (by decide) (by decide) ?_
          show own_S p e below s₁ (mkF m 28 #[.val (.int p1)] []) _
          refine XS.iconst X0.here hx rfl (hb hby d_prog_18_method_3_28) ?_
          exact kt)
        obtain ⟨fs, hr, hrun, hended, hW, hsame⟩ := X0.leave (v := some (.int (0 : Int32))) (fun h => by rw [Bd.returns] at h; cases h)
        refine ⟨_, _, hGl _ (kn5 _ (retN X0 hx (t := .boolean) Bd.returns (by simp) (hb hby d_prog_18_method_3_29) hr)), hrun, hended, _, _, rfl, ?_, ⟨_, rfl⟩, hW, hsame.mono (by decide) (by decide)⟩
        show Q21 Z p1 h0 n0 _ s₁.heap _
        rw [e0]
        exact ⟨by simp [own_isL, hc3, hc15, hc21], Nf0, rfl, rfl⟩
      · have kn6 : ∀ t, own_S p e below s₁ (mkF m 29 #[.val (.int p1)] [(.int (1 : Int32))]) t → Gl t := fun t kt => kn4 t (by
          show own_S p e below s₁ (mkF m 21 #[.val (.int p1)] [(.int (90 : Int32)), (.int p1)]) _
          refine XS.icmpNo X0.here hx rfl (hb hby d_prog_18_method_3_21) rfl (flt hc21).2.2.1 ?_
          show own_S p e below s₁ (mkF m 24 #[.val (.int p1)] []) _
          refine XS.iconst X0.here hx rfl (hb hby d_prog_18_method_3_24) ?_
          show own_S p e below s₁ (mkF m 25 #[.val (.int p1)] [(.int (1 : Int32))]) _
          refine XS.goto X0.here hx rfl (pc0 := 25) (pc' := 29) rfl (hb hby d_prog_18_method_3_25) (by decide) (by decide) ?_
          exact kt)
        obtain ⟨fs, hr, hrun, hended, hW, hsame⟩ := X0.leave (v := some (.int (1 : Int32))) (fun h => by rw [Bd.returns] at h; cases h)
        refine ⟨_, _, hGl _ (kn6 _ (retN X0 hx (t := .boolean) Bd.returns (by simp) (hb hby d_prog_18_method_3_29) hr)), hrun, hended, _, _, rfl, ?_, ⟨_, rfl⟩, hW, hsame.mono (by decide) (by decide)⟩
        show Q21 Z p1 h0 n0 _ s₁.heap _
        rw [e0]
        exact ⟨by simp [own_isL, hc3, hc15, hc21], Nf0, rfl, rfl⟩
  · have kn7 : ∀ t, own_S p e below s₁ (mkF m 9 #[.val (.int p1)] [(.int (122 : Int32)), (.int p1)]) t → Gl t := fun t kt => kn1 t (by
      show own_S p e below s₁ (mkF m 3 #[.val (.int p1)] [(.int (97 : Int32)), (.int p1)]) _
      refine XS.icmpNo X0.here hx rfl (hb hby d_prog_18_method_3_3) rfl (flt hc3).1 ?_
      show own_S p e below s₁ (mkF m 6 #[.val (.int p1)] []) _
      refine XS.iloadN X0.here hx rfl (hb hby d_prog_18_method_3_6) rfl ?_
      show own_S p e below s₁ (mkF m 7 #[.val (.int p1)] [(.int p1)]) _
      refine XS.bipush X0.here hx rfl (hb hby d_prog_18_method_3_7) ?_
      exact kt)
    by_cases hc9 : (122 : Int32) < p1
    · have kn8 : ∀ t, own_S p e below s₁ (mkF m 15 #[.val (.int p1)] [(.int (65 : Int32)), (.int p1)]) t → Gl t := fun t kt => kn7 t (by
        show own_S p e below s₁ (mkF m 9 #[.val (.int p1)] [(.int (122 : Int32)), (.int p1)]) _
        refine XS.icmpNo X0.here hx rfl (hb hby d_prog_18_method_3_9) rfl (tlt hc9).2.2.2 ?_
        show own_S p e below s₁ (mkF m 12 #[.val (.int p1)] []) _
        refine XS.iloadN X0.here hx rfl (hb hby d_prog_18_method_3_12) rfl ?_
        show own_S p e below s₁ (mkF m 13 #[.val (.int p1)] [(.int p1)]) _
        refine XS.bipush X0.here hx rfl (hb hby d_prog_18_method_3_13) ?_
        exact kt)
      by_cases hc15 : p1 < (65 : Int32)
      · have kn9 : ∀ t, own_S p e below s₁ (mkF m 29 #[.val (.int p1)] [(.int (0 : Int32))]) t → Gl t := fun t kt => kn8 t (by
          show own_S p e below s₁ (mkF m 15 #[.val (.int p1)] [(.int (65 : Int32)), (.int p1)]) _
          refine XS.icmpYes X0.here hx rfl (pc0 := 15) (pc' := 28) rfl (hb hby d_prog_18_method_3_15) rfl (tlt hc15).1 (by decide) (by decide) ?_
          show own_S p e below s₁ (mkF m 28 #[.val (.int p1)] []) _
          refine XS.iconst X0.here hx rfl (hb hby d_prog_18_method_3_28) ?_
          exact kt)
        obtain ⟨fs, hr, hrun, hended, hW, hsame⟩ := X0.leave (v := some (.int (0 : Int32))) (fun h => by rw [Bd.returns] at h; cases h)
        refine ⟨_, _, hGl _ (kn9 _ (retN X0 hx (t := .boolean) Bd.returns (by simp) (hb hby d_prog_18_method_3_29) hr)), hrun, hended, _, _, rfl, ?_, ⟨_, rfl⟩, hW, hsame.mono (by decide) (by decide)⟩
        show Q21 Z p1 h0 n0 _ s₁.heap _
        rw [e0]
        exact ⟨by simp [own_isL, hc3, hc9, hc15], Nf0, rfl, rfl⟩
      · have kn10 : ∀ t, own_S p e below s₁ (mkF m 21 #[.val (.int p1)] [(.int (90 : Int32)), (.int p1)]) t → Gl t := fun t kt => kn8 t (by
          show own_S p e below s₁ (mkF m 15 #[.val (.int p1)] [(.int (65 : Int32)), (.int p1)]) _
          refine XS.icmpNo X0.here hx rfl (hb hby d_prog_18_method_3_15) rfl (flt hc15).1 ?_
          show own_S p e below s₁ (mkF m 18 #[.val (.int p1)] []) _
          refine XS.iloadN X0.here hx rfl (hb hby d_prog_18_method_3_18) rfl ?_
          show own_S p e below s₁ (mkF m 19 #[.val (.int p1)] [(.int p1)]) _
          refine XS.bipush X0.here hx rfl (hb hby d_prog_18_method_3_19) ?_
          exact kt)
        by_cases hc21 : (90 : Int32) < p1
        · have kn11 : ∀ t, own_S p e below s₁ (mkF m 29 #[.val (.int p1)] [(.int (0 : Int32))]) t → Gl t := fun t kt => kn10 t (by
            show own_S p e below s₁ (mkF m 21 #[.val (.int p1)] [(.int (90 : Int32)), (.int p1)]) _
            refine XS.icmpYes X0.here hx rfl (pc0 := 21) (pc' := 28) rfl (hb hby d_prog_18_method_3_21) rfl (tlt hc21).2.2.1 (by decide) (by decide) ?_
            show own_S p e below s₁ (mkF m 28 #[.val (.int p1)] []) _
            refine XS.iconst X0.here hx rfl (hb hby d_prog_18_method_3_28) ?_
            exact kt)
          obtain ⟨fs, hr, hrun, hended, hW, hsame⟩ := X0.leave (v := some (.int (0 : Int32))) (fun h => by rw [Bd.returns] at h; cases h)
          refine ⟨_, _, hGl _ (kn11 _ (retN X0 hx (t := .boolean) Bd.returns (by simp) (hb hby d_prog_18_method_3_29) hr)), hrun, hended, _, _, rfl, ?_, ⟨_, rfl⟩, hW, hsame.mono (by decide) (by decide)⟩
          show Q21 Z p1 h0 n0 _ s₁.heap _
          rw [e0]
          exact ⟨by simp [own_isL, hc3, hc9, hc15, hc21], Nf0, rfl, rfl⟩
        · have kn12 : ∀ t, own_S p e below s₁ (mkF m 29 #[.val (.int p1)] [(.int (1 : Int32))]) t → Gl t := fun t kt => kn10 t (by
            show own_S p e below s₁ (mkF m 21 #[.val (.int p1)] [(.int (90 : Int32)), (.int p1)]) _
            refine XS.icmpNo X0.here hx rfl (hb hby d_prog_18_method_3_21) rfl (flt hc21).2.2.1 ?_
            show own_S p e below s₁ (mkF m 24 #[.val (.int p1)] []) _
            refine XS.iconst X0.here hx rfl (hb hby d_prog_18_method_3_24) ?_
            show own_S p e below s₁ (mkF m 25 #[.val (.int p1)] [(.int (1 : Int32))]) _
            refine XS.goto X0.here hx rfl (pc0 := 25) (pc' := 29) rfl (hb hby d_prog_18_method_3_25) (by decide) (by decide) ?_
            exact kt)
          obtain ⟨fs, hr, hrun, hended, hW, hsame⟩ := X0.leave (v := some (.int (1 : Int32))) (fun h => by rw [Bd.returns] at h; cases h)
          refine ⟨_, _, hGl _ (kn12 _ (retN X0 hx (t := .boolean) Bd.returns (by simp) (hb hby d_prog_18_method_3_29) hr)), hrun, hended, _, _, rfl, ?_, ⟨_, rfl⟩, hW, hsame.mono (by decide) (by decide)⟩
          show Q21 Z p1 h0 n0 _ s₁.heap _
          rw [e0]
          exact ⟨by simp [own_isL, hc3, hc9, hc15, hc21], Nf0, rfl, rfl⟩
    · have kn13 : ∀ t, own_S p e below s₁ (mkF m 29 #[.val (.int p1)] [(.int (1 : Int32))]) t → Gl t := fun t kt => kn7 t (by
        show own_S p e below s₁ (mkF m 9 #[.val (.int p1)] [(.int (122 : Int32)), (.int p1)]) _
        refine XS.icmpYes X0.here hx rfl (pc0 := 9) (pc' := 24) rfl (hb hby d_prog_18_method_3_9) rfl (flt hc9).2.2.2 (by decide) (by decide) ?_
        show own_S p e below s₁ (mkF m 24 #[.val (.int p1)] []) _
        refine XS.iconst X0.here hx rfl (hb hby d_prog_18_method_3_24) ?_
        show own_S p e below s₁ (mkF m 25 #[.val (.int p1)] [(.int (1 : Int32))]) _
        refine XS.goto X0.here hx rfl (pc0 := 25) (pc' := 29) rfl (hb hby d_prog_18_method_3_25) (by decide) (by decide) ?_
        exact kt)
      obtain ⟨fs, hr, hrun, hended, hW, hsame⟩ := X0.leave (v := some (.int (1 : Int32))) (fun h => by rw [Bd.returns] at h; cases h)
      refine ⟨_, _, hGl _ (kn13 _ (retN X0 hx (t := .boolean) Bd.returns (by simp) (hb hby d_prog_18_method_3_29) hr)), hrun, hended, _, _, rfl, ?_, ⟨_, rfl⟩, hW, hsame.mono (by decide) (by decide)⟩
      show Q21 Z p1 h0 n0 _ s₁.heap _
      rw [e0]
      exact ⟨by simp [own_isL, hc3, hc9], Nf0, rfl, rfl⟩

theorem d_prog_18_method_4_0 : decode prog_18_method_4_code 0 = .ok (.iload_n 0, 1) := by decide +kernel
theorem d_prog_18_method_4_1 : decode prog_18_method_4_code 1 = .ok (.bipush 48, 2) := by decide +kernel
theorem d_prog_18_method_4_3 : decode prog_18_method_4_code 3 = .ok (.if_icmp .lt 13, 3) := by decide +kernel
theorem d_prog_18_method_4_6 : decode prog_18_method_4_code 6 = .ok (.iload_n 0, 1) := by decide +kernel
theorem d_prog_18_method_4_7 : decode prog_18_method_4_code 7 = .ok (.bipush 57, 2) := by decide +kernel
theorem d_prog_18_method_4_9 : decode prog_18_method_4_code 9 = .ok (.if_icmp .gt 7, 3) := by decide +kernel
theorem d_prog_18_method_4_12 : decode prog_18_method_4_code 12 = .ok (.iconst 1, 1) := by decide +kernel
theorem d_prog_18_method_4_13 : decode prog_18_method_4_code 13 = .ok (.goto 4, 3) := by decide +kernel
theorem d_prog_18_method_4_16 : decode prog_18_method_4_code 16 = .ok (.iconst 0, 1) := by decide +kernel
theorem d_prog_18_method_4_17 : decode prog_18_method_4_code 17 = .ok (.ireturn, 1) := by decide +kernel
theorem ef_rm29 (m : MethodId) (x0 : Int32) : entryFrame m #[(.int x0)] 1 = mkF m 0 #[.val (.int x0)] [] := by first | (simp [entryFrame, mkF, argsToLocals, Value.category]; done) | rfl
def Q29 (Z : State) (p1 : Int32) (h0 : Heap) (n0 : Nat) (v : Option Value) (h : Heap) (L : List Loc) : Prop := v = some (.int (own_isD p1)) ∧ Fr n0 L ∧ h = h0 ∧ L = []
set_option maxRecDepth 65536 in
set_option maxHeartbeats 40000000 in
theorem rm29 (l : Launch) (Z : State) (a0 : Array Value) (hw : ∀ d ∈ tables_1, d.before a0 Z = true) (ws : List Jvm.Cond) (p1 : Int32) (h0 : Heap) (n0 : Nat) (Z0 : n0 ≤ h0.size) :
    MetFree l (⟨"com/example/dual_delivery/dualdelivery/model/ResourceName", "isDigit", "(C)Z"⟩ : MethodName) (head1 (Jvm.Cond.code (⟨"com/example/dual_delivery/dualdelivery/model/ResourceName", "isDigit", "(C)Z"⟩ : MethodName) prog_18_method_4_code 1 (some .boolean) :: ws) ({ frames := 0, cells := 0, slots := 0, locals := 0 } : Room)) (fun a U => a = #[(.int p1)] ∧ Z.Warmed39 U.vm ∧ U.heap = h0) (fun _ _ _ _ _ => True) (fun _ U o U' => ∃ v L, o = .returned v ∧ Q29 Z p1 h0 n0 v U'.heap L ∧ FrameEnd U o U' L ({ frames := 0, cells := 0, slots := 0, locals := 0 } : Room).cells ({ frames := 0, cells := 0, slots := 0, locals := 0 } : Room).slots) := by
  refine MetFree.of_bodySF (plainFor_of_name pn_1) hisR ?_
  intro p e s m args below meth c s₁ Bd hml0 hP hK
  obtain ⟨rfl, hZ, hh⟩ := hP
  have hx := Bd.exec
  have hby := Bd.bytes
  have hml : c.maxLocals = 1 := hml0
  have hown : s.vm.findClass "com/example/dual_delivery/dualdelivery/model/ResourceName" = some m.cls := findClass_of_methodNamed Bd.named
  have hnm := (name_of_methodNamed Bd.named Bd.method).1
  have X0 : Stand p l e ({ frames := 0, cells := 0, slots := 0, locals := 0 } : Room) s m #[(.int p1)] below meth c s₁ [] 0 0 := Stand.of_body Bd
  have e0 : s₁.heap = h0 := by rw [← hh, Bd.state]; rfl
  have Nf0 := Fr.nil n0
  obtain ⟨Gl, hGl, kn0⟩ : ∃ Gl : State → Prop, (∀ t, Gl t → Steps p.tables e below (s₁.setTop (entryFrame m #[(.int p1)] 1)) t) ∧ ∀ t, own_S p e below s₁ (mkF m 0 #[.val (.int p1)] []) t → Gl t := ⟨fun t => Steps p.tables e below (s₁.setTop (entryFrame m #[(.int p1)] 1)) t, fun _ k => k, fun t k => castTop (ef_rm29 m p1) k⟩
  have kn1 : ∀ t, own_S p e below s₁ (mkF m 3 #[.val (.int p1)] [(.int (48 : Int32)), (.int p1)]) t → Gl t := fun t kt => kn0 t (by
    show own_S p e below s₁ (mkF m 0 #[.val (.int p1)] []) _
    refine XS.iloadN X0.here hx rfl (hb hby d_prog_18_method_4_0) rfl ?_
    show own_S p e below s₁ (mkF m 1 #[.val (.int p1)] [(.int p1)]) _
    refine XS.bipush X0.here hx rfl (hb hby d_prog_18_method_4_1) ?_
    exact kt)
  by_cases hc3 : p1 < (48 : Int32)
  · have kn2 : ∀ t, own_S p e below s₁ (mkF m 17 #[.val (.int p1)] [(.int (0 : Int32))]) t → Gl t := fun t kt => kn1 t (by
      show own_S p e below s₁ (mkF m 3 #[.val (.int p1)] [(.int (48 : Int32)), (.int p1)]) _
      refine XS.icmpYes X0.here hx rfl (pc0 := 3) (pc' := 16) rfl (hb hby d_prog_18_method_4_3) rfl (tlt hc3).1 (by decide) (by decide) ?_
      show own_S p e below s₁ (mkF m 16 #[.val (.int p1)] []) _
      refine XS.iconst X0.here hx rfl (hb hby d_prog_18_method_4_16) ?_
      exact kt)
    obtain ⟨fs, hr, hrun, hended, hW, hsame⟩ := X0.leave (v := some (.int (0 : Int32))) (fun h => by rw [Bd.returns] at h; cases h)
    refine ⟨_, _, hGl _ (kn2 _ (retN X0 hx (t := .boolean) Bd.returns (by simp) (hb hby d_prog_18_method_4_17) hr)), hrun, hended, _, _, rfl, ?_, ⟨_, rfl⟩, hW, hsame.mono (by decide) (by decide)⟩
    show Q29 Z p1 h0 n0 _ s₁.heap _
    rw [e0]
    exact ⟨by simp [own_isD, hc3], Nf0, rfl, rfl⟩
  · have kn3 : ∀ t, own_S p e below s₁ (mkF m 9 #[.val (.int p1)] [(.int (57 : Int32)), (.int p1)]) t → Gl t := fun t kt => kn1 t (by
      show own_S p e below s₁ (mkF m 3 #[.val (.int p1)] [(.int (48 : Int32)), (.int p1)]) _
      refine XS.icmpNo X0.here hx rfl (hb hby d_prog_18_method_4_3) rfl (flt hc3).1 ?_
      show own_S p e below s₁ (mkF m 6 #[.val (.int p1)] []) _
      refine XS.iloadN X0.here hx rfl (hb hby d_prog_18_method_4_6) rfl ?_
      show own_S p e below s₁ (mkF m 7 #[.val (.int p1)] [(.int p1)]) _
      refine XS.bipush X0.here hx rfl (hb hby d_prog_18_method_4_7) ?_
      exact kt)
    by_cases hc9 : (57 : Int32) < p1
    · have kn4 : ∀ t, own_S p e below s₁ (mkF m 17 #[.val (.int p1)] [(.int (0 : Int32))]) t → Gl t := fun t kt => kn3 t (by
        show own_S p e below s₁ (mkF m 9 #[.val (.int p1)] [(.int (57 : Int32)), (.int p1)]) _
        refine XS.icmpYes X0.here hx rfl (pc0 := 9) (pc' := 16) rfl (hb hby d_prog_18_method_4_9) rfl (tlt hc9).2.2.1 (by decide) (by decide) ?_
        show own_S p e below s₁ (mkF m 16 #[.val (.int p1)] []) _
        refine XS.iconst X0.here hx rfl (hb hby d_prog_18_method_4_16) ?_
        exact kt)
      obtain ⟨fs, hr, hrun, hended, hW, hsame⟩ := X0.leave (v := some (.int (0 : Int32))) (fun h => by rw [Bd.returns] at h; cases h)
      refine ⟨_, _, hGl _ (kn4 _ (retN X0 hx (t := .boolean) Bd.returns (by simp) (hb hby d_prog_18_method_4_17) hr)), hrun, hended, _, _, rfl, ?_, ⟨_, rfl⟩, hW, hsame.mono (by decide) (by decide)⟩
      show Q29 Z p1 h0 n0 _ s₁.heap _
      rw [e0]
      exact ⟨by simp [own_isD, hc3, hc9], Nf0, rfl, rfl⟩
    · have kn5 : ∀ t, own_S p e below s₁ (mkF m 17 #[.val (.int p1)] [(.int (1 : Int32))]) t → Gl t := fun t kt => kn3 t (by
        show own_S p e below s₁ (mkF m 9 #[.val (.int p1)] [(.int (57 : Int32)), (.int p1)]) _
        refine XS.icmpNo X0.here hx rfl (hb hby d_prog_18_method_4_9) rfl (flt hc9).2.2.1 ?_
        show own_S p e below s₁ (mkF m 12 #[.val (.int p1)] []) _
        refine XS.iconst X0.here hx rfl (hb hby d_prog_18_method_4_12) ?_
        show own_S p e below s₁ (mkF m 13 #[.val (.int p1)] [(.int (1 : Int32))]) _
        refine XS.goto X0.here hx rfl (pc0 := 13) (pc' := 17) rfl (hb hby d_prog_18_method_4_13) (by decide) (by decide) ?_
        exact kt)
      obtain ⟨fs, hr, hrun, hended, hW, hsame⟩ := X0.leave (v := some (.int (1 : Int32))) (fun h => by rw [Bd.returns] at h; cases h)
      refine ⟨_, _, hGl _ (kn5 _ (retN X0 hx (t := .boolean) Bd.returns (by simp) (hb hby d_prog_18_method_4_17) hr)), hrun, hended, _, _, rfl, ?_, ⟨_, rfl⟩, hW, hsame.mono (by decide) (by decide)⟩
      show Q29 Z p1 h0 n0 _ s₁.heap _
      rw [e0]
      exact ⟨by simp [own_isD, hc3, hc9], Nf0, rfl, rfl⟩

theorem d_jdk_31_method_11_0 : decode jdk_31_method_11_code 0 = .ok (.aload_n 0, 1) := by decide +kernel
theorem d_jdk_31_method_11_1 : decode jdk_31_method_11_code 1 = .ok (.ifnonnull 12, 3) := by decide +kernel
theorem d_jdk_31_method_11_13 : decode jdk_31_method_11_code 13 = .ok (.aload_n 0, 1) := by decide +kernel
theorem d_jdk_31_method_11_14 : decode jdk_31_method_11_code 14 = .ok (.areturn, 1) := by decide +kernel
theorem pn_2 : plainName "java/util/Objects" = true := by first | (simp [plainName, overriddenIn]; done) | decide +kernel
theorem ef_rm14 (m : MethodId) (x0 : Addr) (x1 : Addr) : entryFrame m #[(.ref x0), (.ref x1)] 2 = mkF m 0 #[.val (.ref x0), .val (.ref x1)] [] := by first | (simp [entryFrame, mkF, argsToLocals, Value.category]; done) | rfl
def Q14 (Z : State) (a1 : Addr) (a2 : Addr) (h0 : Heap) (n0 : Nat) (v : Option Value) (h : Heap) (L : List Loc) : Prop := v = some (.ref a1) ∧ Fr n0 L ∧ h = h0
set_option maxRecDepth 65536 in
set_option maxHeartbeats 40000000 in
theorem rm14 (l : Launch) (Z : State) (a0 : Array Value) (hw : ∀ d ∈ tables_1, d.before a0 Z = true) (ws : List Jvm.Cond) (a1 : Addr) (a2 : Addr) (h0 : Heap) (n0 : Nat) (Z0 : n0 ≤ h0.size) :
    MetFree l (⟨"java/util/Objects", "requireNonNull", "(Ljava/lang/Object;Ljava/lang/String;)Ljava/lang/Object;"⟩ : MethodName) (head1 (Jvm.Cond.code (⟨"java/util/Objects", "requireNonNull", "(Ljava/lang/Object;Ljava/lang/String;)Ljava/lang/Object;"⟩ : MethodName) jdk_31_method_11_code 2 (some (.object "java/lang/Object")) :: ws) ({ frames := 0, cells := 0, slots := 0, locals := 0 } : Room)) (fun a U => a = #[(.ref a1), (.ref a2)] ∧ Z.Warmed39 U.vm ∧ U.heap = h0) (fun _ _ _ _ _ => True) (fun _ U o U' => ∃ v L, o = .returned v ∧ Q14 Z a1 a2 h0 n0 v U'.heap L ∧ FrameEnd U o U' L ({ frames := 0, cells := 0, slots := 0, locals := 0 } : Room).cells ({ frames := 0, cells := 0, slots := 0, locals := 0 } : Room).slots) := by
  refine MetFree.of_bodySF (plainFor_of_name pn_2) hisR ?_
  intro p e s m args below meth c s₁ Bd hml0 hP hK
  obtain ⟨rfl, hZ, hh⟩ := hP
  have hx := Bd.exec
  have hby := Bd.bytes
  have hml : c.maxLocals = 2 := hml0
  have hown : s.vm.findClass "java/util/Objects" = some m.cls := findClass_of_methodNamed Bd.named
  have hnm := (name_of_methodNamed Bd.named Bd.method).1
  have X0 : Stand p l e ({ frames := 0, cells := 0, slots := 0, locals := 0 } : Room) s m #[(.ref a1), (.ref a2)] below meth c s₁ [] 0 0 := Stand.of_body Bd
  have e0 : s₁.heap = h0 := by rw [← hh, Bd.state]; rfl
  have Nf0 := Fr.nil n0
  obtain ⟨Gl, hGl, kn0⟩ : ∃ Gl : State → Prop, (∀ t, Gl t → Steps p.tables e below (s₁.setTop (entryFrame m #[(.ref a1), (.ref a2)] 2)) t) ∧ ∀ t, own_S p e below s₁ (mkF m 0 #[.val (.ref a1), .val (.ref a2)] []) t → Gl t := ⟨fun t => Steps p.tables e below (s₁.setTop (entryFrame m #[(.ref a1), (.ref a2)] 2)) t, fun _ k => k, fun t k => castTop (ef_rm14 m a1 a2) k⟩
  have kn1 : ∀ t, own_S p e below s₁ (mkF m 14 #[.val (.ref a1), .val (.ref a2)] [(.ref a1)]) t → Gl t := fun t kt => kn0 t (by
    show own_S p e below s₁ (mkF m 0 #[.val (.ref a1), .val (.ref a2)] []) _
    refine XS.aloadN X0.here hx rfl (hb hby d_jdk_31_method_11_0) rfl rfl ?_
    show own_S p e below s₁ (mkF m 1 #[.val (.ref a1), .val (.ref a2)] [(.ref a1)]) _
    refine XS.ifnonnullYes X0.here hx rfl (pc0 := 1) (pc' := 13) rfl (hb hby d_jdk_31_method_11_1) rfl (by decide) (by decide) ?_
    show own_S p e below s₁ (mkF m 13 #[.val (.ref a1), .val (.ref a2)] []) _
    refine XS.aloadN X0.here hx rfl (hb hby d_jdk_31_method_11_13) rfl rfl ?_
    exact kt)
  obtain ⟨fs, hr, hrun, hended, hW, hsame⟩ := X0.leave (v := some (.ref a1)) (fun h => by rw [Bd.returns] at h; cases h)
  refine ⟨_, _, hGl _ (kn1 _ (by
      show own_S p e below s₁ (mkF m 14 #[.val (.ref a1), .val (.ref a2)] [(.ref a1)]) _
      jvm_step X0.here [X0.here.top, hx, (hb hby d_jdk_31_method_11_14), X0.method', Bd.returns, Value.isRef, FieldType.isReference]
      first | (intro acts; rw [hr _ acts rfl rfl rfl]) | rw [hr _ _ rfl rfl rfl]
      exact Steps.refl _)), hrun, hended, _, _, rfl, ?_, ⟨_, rfl⟩, hW, hsame.mono (by decide) (by decide)⟩
  show Q14 Z a1 a2 h0 n0 _ s₁.heap _
  rw [e0]
  exact ⟨rfl, Nf0, rfl⟩

theorem d_jdk_43_method_3_0 : decode jdk_43_method_3_code 0 = .ok (.iload_n 0, 1) := by decide +kernel
theorem d_jdk_43_method_3_1 : decode jdk_43_method_3_code 1 = .ok (.sipush 255, 3) := by decide +kernel
theorem d_jdk_43_method_3_4 : decode jdk_43_method_3_code 4 = .ok (.if_icmp .gt 7, 3) := by decide +kernel
theorem d_jdk_43_method_3_7 : decode jdk_43_method_3_code 7 = .ok (.iconst 1, 1) := by decide +kernel
theorem d_jdk_43_method_3_8 : decode jdk_43_method_3_code 8 = .ok (.goto 4, 3) := by decide +kernel
theorem d_jdk_43_method_3_12 : decode jdk_43_method_3_code 12 = .ok (.ireturn, 1) := by decide +kernel
theorem pn_3 : plainName "java/lang/StringLatin1" = true := by first | (simp [plainName, overriddenIn]; done) | decide +kernel
theorem ef_rm10 (m : MethodId) (x0 : Int32) : entryFrame m #[(.int x0)] 1 = mkF m 0 #[.val (.int x0)] [] := by first | (simp [entryFrame, mkF, argsToLocals, Value.category]; done) | rfl
def Q10 (Z : State) (p1 : Int32) (h0 : Heap) (n0 : Nat) (v : Option Value) (h : Heap) (L : List Loc) : Prop := v = some (.int (1 : Int32)) ∧ Fr n0 L ∧ h = h0
set_option maxRecDepth 65536 in
set_option maxHeartbeats 40000000 in
theorem rm10 (l : Launch) (Z : State) (a0 : Array Value) (hw : ∀ d ∈ tables_1, d.before a0 Z = true) (ws : List Jvm.Cond) (p1 : Int32) (h0 : Heap) (n0 : Nat) (Z0 : n0 ≤ h0.size) (h2 : ¬ (255 : Int32) < p1) :
    MetFree l (⟨"java/lang/StringLatin1", "canEncode", "(C)Z"⟩ : MethodName) (head1 (Jvm.Cond.code (⟨"java/lang/StringLatin1", "canEncode", "(C)Z"⟩ : MethodName) jdk_43_method_3_code 1 (some .boolean) :: ws) ({ frames := 0, cells := 0, slots := 0, locals := 0 } : Room)) (fun a U => a = #[(.int p1)] ∧ Z.Warmed39 U.vm ∧ U.heap = h0) (fun _ _ _ _ _ => True) (fun _ U o U' => ∃ v L, o = .returned v ∧ Q10 Z p1 h0 n0 v U'.heap L ∧ FrameEnd U o U' L ({ frames := 0, cells := 0, slots := 0, locals := 0 } : Room).cells ({ frames := 0, cells := 0, slots := 0, locals := 0 } : Room).slots) := by
  refine MetFree.of_bodySF (plainFor_of_name pn_3) hisR ?_
  intro p e s m args below meth c s₁ Bd hml0 hP hK
  obtain ⟨rfl, hZ, hh⟩ := hP
  have hx := Bd.exec
  have hby := Bd.bytes
  have hml : c.maxLocals = 1 := hml0
  have hown : s.vm.findClass "java/lang/StringLatin1" = some m.cls := findClass_of_methodNamed Bd.named
  have hnm := (name_of_methodNamed Bd.named Bd.method).1
  have X0 : Stand p l e ({ frames := 0, cells := 0, slots := 0, locals := 0 } : Room) s m #[(.int p1)] below meth c s₁ [] 0 0 := Stand.of_body Bd
  have e0 : s₁.heap = h0 := by rw [← hh, Bd.state]; rfl
  have Nf0 := Fr.nil n0
  obtain ⟨Gl, hGl, kn0⟩ : ∃ Gl : State → Prop, (∀ t, Gl t → Steps p.tables e below (s₁.setTop (entryFrame m #[(.int p1)] 1)) t) ∧ ∀ t, own_S p e below s₁ (mkF m 0 #[.val (.int p1)] []) t → Gl t := ⟨fun t => Steps p.tables e below (s₁.setTop (entryFrame m #[(.int p1)] 1)) t, fun _ k => k, fun t k => castTop (ef_rm10 m p1) k⟩
  have kn1 : ∀ t, own_S p e below s₁ (mkF m 4 #[.val (.int p1)] [(.int (255 : Int32)), (.int p1)]) t → Gl t := fun t kt => kn0 t (by
    show own_S p e below s₁ (mkF m 0 #[.val (.int p1)] []) _
    refine XS.iloadN X0.here hx rfl (hb hby d_jdk_43_method_3_0) rfl ?_
    show own_S p e below s₁ (mkF m 1 #[.val (.int p1)] [(.int p1)]) _
    refine XS.sipush X0.here hx rfl (hb hby d_jdk_43_method_3_1) ?_
    exact kt)
  have hc4_2 : ¬ ((255 : Int32) < p1) := h2
  have kn3 : ∀ t, own_S p e below s₁ (mkF m 12 #[.val (.int p1)] [(.int (1 : Int32))]) t → Gl t := fun t kt => kn1 t (by
    show own_S p e below s₁ (mkF m 4 #[.val (.int p1)] [(.int (255 : Int32)), (.int p1)]) _
    refine XS.icmpNo X0.here hx rfl (hb hby d_jdk_43_method_3_4) rfl (flt hc4_2).2.2.1 ?_
    show own_S p e below s₁ (mkF m 7 #[.val (.int p1)] []) _
    refine XS.iconst X0.here hx rfl (hb hby d_jdk_43_method_3_7) ?_
    show own_S p e below s₁ (mkF m 8 #[.val (.int p1)] [(.int (1 : Int32))]) _
    refine XS.goto X0.here hx rfl (pc0 := 8) (pc' := 12) rfl (hb hby d_jdk_43_method_3_8) (by decide) (by decide) ?_
    exact kt)
  obtain ⟨fs, hr, hrun, hended, hW, hsame⟩ := X0.leave (v := some (.int (1 : Int32))) (fun h => by rw [Bd.returns] at h; cases h)
  refine ⟨_, _, hGl _ (kn3 _ (retN X0 hx (t := .boolean) Bd.returns (by simp) (hb hby d_jdk_43_method_3_12) hr)), hrun, hended, _, _, rfl, ?_, ⟨_, rfl⟩, hW, hsame.mono (by decide) (by decide)⟩
  show Q10 Z p1 h0 n0 _ s₁.heap _
  rw [e0]
  exact ⟨rfl, Nf0, rfl⟩

theorem own_bb (p : Int32) : p.toInt8.toInt32.toInt8.toInt32 = p.toInt8.toInt32 := by simp

theorem d_jdk_43_method_46_0 : decode jdk_43_method_46_code 0 = .ok (.iconst 1, 1) := by decide +kernel
theorem d_jdk_43_method_46_1 : decode jdk_43_method_46_code 1 = .ok (.newarray .byte, 2) := by decide +kernel
theorem d_jdk_43_method_46_3 : decode jdk_43_method_46_code 3 = .ok (.dup, 1) := by decide +kernel
theorem d_jdk_43_method_46_4 : decode jdk_43_method_46_code 4 = .ok (.iconst 0, 1) := by decide +kernel
theorem d_jdk_43_method_46_5 : decode jdk_43_method_46_code 5 = .ok (.iload_n 0, 1) := by decide +kernel
theorem d_jdk_43_method_46_6 : decode jdk_43_method_46_code 6 = .ok (.i2b, 1) := by decide +kernel
theorem d_jdk_43_method_46_7 : decode jdk_43_method_46_code 7 = .ok (.bastore, 1) := by decide +kernel
theorem d_jdk_43_method_46_8 : decode jdk_43_method_46_code 8 = .ok (.areturn, 1) := by decide +kernel
theorem ef_rm11 (m : MethodId) (x0 : Int32) : entryFrame m #[(.int x0)] 1 = mkF m 0 #[.val (.int x0)] [] := by first | (simp [entryFrame, mkF, argsToLocals, Value.category]; done) | rfl
def Q11 (Z : State) (p1 : Int32) (h0 : Heap) (n0 : Nat) (v : Option Value) (h : Heap) (L : List Loc) : Prop := ∃ (b : Addr) (kb : ClassId), v = some (.ref b) ∧ Fr n0 L ∧ n0 ≤ b ∧ h0.size ≤ b ∧ Keep h0 h [] ∧ Arv Z h b kb .byte (1 : Int32) [(.int (p1.toInt8.toInt32))] (.int (0 : Int32))
set_option maxRecDepth 65536 in
set_option maxHeartbeats 40000000 in
theorem rm11 (l : Launch) (Z : State) (a0 : Array Value) (hw : ∀ d ∈ tables_1, d.before a0 Z = true) (ws : List Jvm.Cond) (p1 : Int32) (h0 : Heap) (n0 : Nat) (Z0 : n0 ≤ h0.size) :
    MetFree l (⟨"java/lang/StringLatin1", "toBytes", "(C)[B"⟩ : MethodName) (head1 (Jvm.Cond.code (⟨"java/lang/StringLatin1", "toBytes", "(C)[B"⟩ : MethodName) jdk_43_method_46_code 1 (some (.array .byte)) :: ws) ({ frames := 0, cells := 1, slots := 1, locals := 0 } : Room)) (fun a U => a = #[(.int p1)] ∧ Z.Warmed39 U.vm ∧ U.heap = h0) (fun _ _ _ _ _ => True) (fun _ U o U' => ∃ v L, o = .returned v ∧ Q11 Z p1 h0 n0 v U'.heap L ∧ FrameEnd U o U' L ({ frames := 0, cells := 1, slots := 1, locals := 0 } : Room).cells ({ frames := 0, cells := 1, slots := 1, locals := 0 } : Room).slots) := by
  refine MetFree.of_bodySF (plainFor_of_name pn_3) hisR ?_
  intro p e s m args below meth c s₁ Bd hml0 hP hK
  obtain ⟨rfl, hZ, hh⟩ := hP
  have hx := Bd.exec
  have hby := Bd.bytes
  have hml : c.maxLocals = 1 := hml0
  have hown : s.vm.findClass "java/lang/StringLatin1" = some m.cls := findClass_of_methodNamed Bd.named
  have hnm := (name_of_methodNamed Bd.named Bd.method).1
  have X0 : Stand p l e ({ frames := 0, cells := 1, slots := 1, locals := 0 } : Room) s m #[(.int p1)] below meth c s₁ [] 0 0 := Stand.of_body Bd
  have e0 : s₁.heap = h0 := by rw [← hh, Bd.state]; rfl
  have Nf0 := Fr.nil n0
  obtain ⟨Gl, hGl, kn0⟩ : ∃ Gl : State → Prop, (∀ t, Gl t → Steps p.tables e below (s₁.setTop (entryFrame m #[(.int p1)] 1)) t) ∧ ∀ t, own_S p e below s₁ (mkF m 0 #[.val (.int p1)] []) t → Gl t := ⟨fun t => Steps p.tables e below (s₁.setTop (entryFrame m #[(.int p1)] 1)) t, fun _ k => k, fun t k => castTop (ef_rm11 m p1) k⟩
  have kn1 : ∀ t, own_S p e below s₁ (mkF m 1 #[.val (.int p1)] [(.int (1 : Int32))]) t → Gl t := fun t kt => kn0 t (by
    show own_S p e below s₁ (mkF m 0 #[.val (.int p1)] []) _
    refine XS.iconst X0.here hx rfl (hb hby d_jdk_43_method_46_0) ?_
    exact kt)
  obtain ⟨T2, h2, kk2, X2, e2, E2, A2, st2⟩ := newP X0 hx hZ (hw _ (List.mem_of_getElem? (i := 27) rfl)) e0 (g := (mkF m 1 #[.val (.int p1)] [(.int (1 : Int32))])) rfl (hb hby d_jdk_43_method_46_1) rfl (by decide) (cap := 1) (by decide) (by decide) (by decide) (by decide)
  obtain ⟨b2, g2⟩ : ∃ z, z = h0.size := ⟨_, rfl⟩
  rw [← g2] at A2 st2
  have sz_b2 : h0.size ≤ b2 := Nat.le_trans (Keep.refl h0 []).1 (Nat.le_of_eq g2.symm)
  have g_b2 : n0 ≤ b2 := Nat.le_trans Z0 (Nat.le_of_eq g2.symm)
  have Z3 : n0 ≤ h2.size := Nat.le_trans Z0 E2.1
  have K4 : Keep h0 h2 [] := (Keep.refl h0 []).ext E2
  have V2 : Arv Z h2 b2 kk2 .byte (1 : Int32) [(.int (0 : Int32))] (.int (0 : Int32)) := (Arv.new A2 (by decide)).pad (pad_rep [] (.int (0 : Int32)) 1)
  have kn5 : ∀ t, own_S p e below T2 (mkF m 3 #[.val (.int p1)] [(.ref b2)]) t → Gl t := fun t kt => kn1 t (st2 _ kt)
  have kn6 : ∀ t, own_S p e below T2 (mkF m 7 #[.val (.int p1)] [(.int (p1.toInt8.toInt32)), (.int (0 : Int32)), (.ref b2), (.ref b2)]) t → Gl t := fun t kt => kn5 t (by
    show own_S p e below T2 (mkF m 3 #[.val (.int p1)] [(.ref b2)]) _
    refine XS.dup X2.here hx rfl (hb hby d_jdk_43_method_46_3) rfl rfl ?_
    show own_S p e below T2 (mkF m 4 #[.val (.int p1)] [(.ref b2), (.ref b2)]) _
    refine XS.iconst X2.here hx rfl (hb hby d_jdk_43_method_46_4) ?_
    show own_S p e below T2 (mkF m 5 #[.val (.int p1)] [(.int (0 : Int32)), (.ref b2), (.ref b2)]) _
    refine XS.iloadN X2.here hx rfl (hb hby d_jdk_43_method_46_5) rfl ?_
    show own_S p e below T2 (mkF m 6 #[.val (.int p1)] [(.int p1), (.int (0 : Int32)), (.ref b2), (.ref b2)]) _
    refine XS.i2b X2.here hx rfl (hb hby d_jdk_43_method_46_6) rfl ?_
    exact kt)
  obtain ⟨cl7, Ar7, q7, Sz7, Ng7, Hs7, Gs7⟩ := id V2
  have hin7 : ¬ ((0 : Int32) < 0 ∨ cl7.slots.size ≤ ((0 : Int32)).toNatClampNeg) := inb_of Sz7 ⟨by decide, by decide⟩
  obtain ⟨T7, h7, X7, e7, W7, st7⟩ := stB X2 hx hZ e2 Ar7 (j := (0 : Int32)) hin7 (g := (mkF m 7 #[.val (.int p1)] [(.int (p1.toInt8.toInt32)), (.int (0 : Int32)), (.ref b2), (.ref b2)])) rfl rfl (hb hby d_jdk_43_method_46_7)
  have Z8 : n0 ≤ h7.size := Nat.le_trans Z3 (Keep.of_wr W7).1
  have K9 : Keep h0 h7 [] := K4.wr W7 (Or.inr sz_b2)
  have V7 : Arv Z h7 b2 kk2 .byte (1 : Int32) [(.int ((p1.toInt8.toInt32).toInt8.toInt32))] (.int (0 : Int32)) := Arv.set Ar7 q7 Sz7 Ng7 Hs7 Gs7 (fits_nar_byte _) W7 0 rfl (Nat.le_of_ble_eq_true rfl)
  rw [(show ((p1.toInt8.toInt32).toInt8.toInt32) = (p1.toInt8.toInt32) from own_bb _)] at V7
  have Nf10 := Fr.snoc X7 Nf0 g_b2
  have kn11 : ∀ t, own_S p e below T7 (mkF m 8 #[.val (.int p1)] [(.ref b2)]) t → Gl t := fun t kt => kn6 t (st7 _ kt)
  obtain ⟨fs, hr, hrun, hended, hW, hsame⟩ := X7.leave (v := some (.ref b2)) (fun h => by rw [Bd.returns] at h; cases h)
  refine ⟨_, _, hGl _ (kn11 _ (by
      show own_S p e below T7 (mkF m 8 #[.val (.int p1)] [(.ref b2)]) _
      jvm_step X7.here [X7.here.top, hx, (hb hby d_jdk_43_method_46_8), X7.method', Bd.returns, Value.isRef, FieldType.isReference]
      first | (intro acts; rw [hr _ acts rfl rfl rfl]) | rw [hr _ _ rfl rfl rfl]
      exact Steps.refl _)), hrun, hended, _, _, rfl, ?_, ⟨_, rfl⟩, hW, hsame.mono (by decide) (by decide)⟩
  show Q11 Z p1 h0 n0 _ T7.heap _
  rw [e7]
  exact ⟨b2, _, rfl, Nf10, g_b2, sz_b2, K9, V7⟩

theorem d_jdk_42_method_151_0 : decode jdk_42_method_151_code 0 = .ok (.aload_n 0, 1) := by decide +kernel
theorem d_jdk_42_method_151_1 : decode jdk_42_method_151_code 1 = .ok (.invokespecial 1, 3) := by decide +kernel
theorem d_jdk_42_method_151_4 : decode jdk_42_method_151_code 4 = .ok (.aload_n 0, 1) := by decide +kernel
theorem d_jdk_42_method_151_5 : decode jdk_42_method_151_code 5 = .ok (.aload_n 1, 1) := by decide +kernel
theorem d_jdk_42_method_151_6 : decode jdk_42_method_151_code 6 = .ok (.putfield 9, 3) := by decide +kernel
theorem d_jdk_42_method_151_9 : decode jdk_42_method_151_code 9 = .ok (.aload_n 0, 1) := by decide +kernel
theorem d_jdk_42_method_151_10 : decode jdk_42_method_151_code 10 = .ok (.iload_n 2, 1) := by decide +kernel
theorem d_jdk_42_method_151_11 : decode jdk_42_method_151_code 11 = .ok (.putfield 15, 3) := by decide +kernel
theorem d_jdk_42_method_151_14 : decode jdk_42_method_151_code 14 = .ok (.return_, 1) := by decide +kernel
theorem pn_4 : plainName "java/lang/String" = true := by first | (simp [plainName, overriddenIn]; done) | decide +kernel
theorem ef_rm12 (m : MethodId) (x0 : Addr) (x1 : Addr) : entryFrame m #[(.ref x0), (.ref x1), (.int (0 : Int32))] 3 = mkF m 0 #[.val (.ref x0), .val (.ref x1), .val (.int (0 : Int32))] [] := by first | (simp [entryFrame, mkF, argsToLocals, Value.category]; done) | rfl
def Q12 (Z : State) (a1 : Addr) (b2 : Addr) (h0 : Heap) (n0 : Nat) (v : Option Value) (h : Heap) (L : List Loc) : Prop := v = none ∧ Fr n0 L ∧ Keep h0 h [a1] ∧ Exa Z h a1 "java/lang/String" ∧ Fld Z h a1 "java/lang/String" "value" "[B" (.ref b2) ∧ Fld Z h a1 "java/lang/String" "coder" "B" (.int (0 : Int32))
set_option maxRecDepth 65536 in
set_option maxHeartbeats 40000000 in
theorem rm12 (l : Launch) (Z : State) (a0 : Array Value) (hw : ∀ d ∈ tables_1, d.before a0 Z = true) (ws : List Jvm.Cond) (a1 : Addr) (b2 : Addr) (h0 : Heap) (n0 : Nat) (Z0 : n0 ≤ h0.size) (E1 : Exa Z h0 a1 "java/lang/String") (F1 : Fld Z h0 a1 "java/lang/String" "value" "[B" .null) (F2 : Fld Z h0 a1 "java/lang/String" "coder" "B" (.int (0 : Int32))) (g_a1 : n0 ≤ a1) :
    MetFree l (⟨"java/lang/String", "<init>", "([BB)V"⟩ : MethodName) (head1 (Jvm.Cond.code (⟨"java/lang/String", "<init>", "([BB)V"⟩ : MethodName) jdk_42_method_151_code 3 none :: ws) ({ frames := 1, cells := 0, slots := 0, locals := 12 } : Room)) (fun a U => a = #[(.ref a1), (.ref b2), (.int (0 : Int32))] ∧ Z.Warmed39 U.vm ∧ U.heap = h0) (fun _ _ _ _ _ => True) (fun _ U o U' => ∃ v L, o = .returned v ∧ Q12 Z a1 b2 h0 n0 v U'.heap L ∧ FrameEnd U o U' L ({ frames := 1, cells := 0, slots := 0, locals := 12 } : Room).cells ({ frames := 1, cells := 0, slots := 0, locals := 12 } : Room).slots) := by
  refine MetFree.of_bodySF (plainFor_of_name pn_4) hisR ?_
  intro p e s m args below meth c s₁ Bd hml0 hP hK
  obtain ⟨rfl, hZ, hh⟩ := hP
  have hx := Bd.exec
  have hby := Bd.bytes
  have hml : c.maxLocals = 3 := hml0
  have hown : s.vm.findClass "java/lang/String" = some m.cls := findClass_of_methodNamed Bd.named
  have hnm := (name_of_methodNamed Bd.named Bd.method).1
  have X0 : Stand p l e ({ frames := 1, cells := 0, slots := 0, locals := 12 } : Room) s m #[(.ref a1), (.ref b2), (.int (0 : Int32))] below meth c s₁ [] 0 0 := Stand.of_body Bd
  have e0 : s₁.heap = h0 := by rw [← hh, Bd.state]; rfl
  have Nf0 := Fr.nil n0
  obtain ⟨Gl, hGl, kn0⟩ : ∃ Gl : State → Prop, (∀ t, Gl t → Steps p.tables e below (s₁.setTop (entryFrame m #[(.ref a1), (.ref b2), (.int (0 : Int32))] 3)) t) ∧ ∀ t, own_S p e below s₁ (mkF m 0 #[.val (.ref a1), .val (.ref b2), .val (.int (0 : Int32))] []) t → Gl t := ⟨fun t => Steps p.tables e below (s₁.setTop (entryFrame m #[(.ref a1), (.ref b2), (.int (0 : Int32))] 3)) t, fun _ k => k, fun t k => castTop (ef_rm12 m a1 b2) k⟩
  have kn1 : ∀ t, own_S p e below s₁ (mkF m 1 #[.val (.ref a1), .val (.ref b2), .val (.int (0 : Int32))] [(.ref a1)]) t → Gl t := fun t kt => kn0 t (by
    show own_S p e below s₁ (mkF m 0 #[.val (.ref a1), .val (.ref b2), .val (.int (0 : Int32))] []) _
    refine XS.aloadN X0.here hx rfl (hb hby d_jdk_42_method_151_0) rfl rfl ?_
    exact kt)
  obtain ⟨T2, X2, e2, st2⟩ := initO X0 hx hZ hown (hw _ (List.mem_of_getElem? (i := 19) rfl)) (hw _ (List.mem_of_getElem? (i := 20) rfl)) (hw _ (List.mem_of_getElem? (i := 21) rfl)) e0 (g := (mkF m 1 #[.val (.ref a1), .val (.ref b2), .val (.int (0 : Int32))] [(.ref a1)])) rfl (by rw [hml]; rfl) rfl (hb hby d_jdk_42_method_151_1) (by decide) (W := 0) (by show 2 * 0 + _ ≤ _; exact Nat.le_of_eq rfl) (by decide)
  have kn3 : ∀ t, own_S p e below T2 (mkF m 4 #[.val (.ref a1), .val (.ref b2), .val (.int (0 : Int32))] []) t → Gl t := fun t kt => kn1 t (st2 _ kt)
  have kn4 : ∀ t, own_S p e below T2 (mkF m 6 #[.val (.ref a1), .val (.ref b2), .val (.int (0 : Int32))] [(.ref b2), (.ref a1)]) t → Gl t := fun t kt => kn3 t (by
    show own_S p e below T2 (mkF m 4 #[.val (.ref a1), .val (.ref b2), .val (.int (0 : Int32))] []) _
    refine XS.aloadN X2.here hx rfl (hb hby d_jdk_42_method_151_4) rfl rfl ?_
    show own_S p e below T2 (mkF m 5 #[.val (.ref a1), .val (.ref b2), .val (.int (0 : Int32))] [(.ref a1)]) _
    refine XS.aloadN X2.here hx rfl (hb hby d_jdk_42_method_151_5) rfl rfl ?_
    exact kt)
  obtain ⟨T5, h5, X5, e5, W5, st5⟩ := putF X2 hx hZ hown (host := "") (Or.inl (hw _ (List.mem_of_getElem? (i := 36) rfl))) Via.refl e2 F1 E1 (Or.inr ⟨(hw _ (List.mem_of_getElem? (i := 37) rfl)), rfl, hnm⟩) (hw _ (List.mem_of_getElem? (i := 10) rfl)) (ty := (.array .byte)) (by decide) rfl rfl (g := (mkF m 6 #[.val (.ref a1), .val (.ref b2), .val (.int (0 : Int32))] [(.ref b2), (.ref a1)])) rfl rfl (hb hby d_jdk_42_method_151_6)
  have Z6 : n0 ≤ h5.size := Nat.le_trans Z0 (Keep.of_wr W5).1
  have K7 : Keep h0 h5 [a1] := (Keep.refl h0 [a1]).wr W5 (Or.inl (List.mem_of_getElem? (i := 0) rfl))
  have Fw5 := F1.same W5
  have Nf8 := Fr.snoc X5 Nf0 g_a1
  have kn9 : ∀ t, own_S p e below T5 (mkF m 9 #[.val (.ref a1), .val (.ref b2), .val (.int (0 : Int32))] []) t → Gl t := fun t kt => kn4 t (st5 _ kt)
  have kn10 : ∀ t, own_S p e below T5 (mkF m 11 #[.val (.ref a1), .val (.ref b2), .val (.int (0 : Int32))] [(.int (0 : Int32)), (.ref a1)]) t → Gl t := fun t kt => kn9 t (by
    show own_S p e below T5 (mkF m 9 #[.val (.ref a1), .val (.ref b2), .val (.int (0 : Int32))] []) _
    refine XS.aloadN X5.here hx rfl (hb hby d_jdk_42_method_151_9) rfl rfl ?_
    show own_S p e below T5 (mkF m 10 #[.val (.ref a1), .val (.ref b2), .val (.int (0 : Int32))] [(.ref a1)]) _
    refine XS.iloadN X5.here hx rfl (hb hby d_jdk_42_method_151_10) rfl ?_
    exact kt)
  have f11 := (F2.other W5 (Or.inr (slot_ne (Or.inr (hw _ (List.mem_of_getElem? (i := 35) rfl))) (Or.inr (hw _ (List.mem_of_getElem? (i := 37) rfl))) (by decide) (t := .byte) (t' := (.array .byte)) (by decide) (by decide))))
  have f12 := (E1.wr W5)
  obtain ⟨T13, h13, X13, e13, W13, st13⟩ := putFN X5 hx hZ hown (hw _ (List.mem_of_getElem? (i := 34) rfl)) Via.refl e5 f11 f12 (Or.inr ⟨(hw _ (List.mem_of_getElem? (i := 35) rfl)), rfl, hnm⟩) (hw _ (List.mem_of_getElem? (i := 10) rfl)) (ty := .byte) (v' := (.int (0 : Int32))) (by decide) rfl (by decide) (g := (mkF m 11 #[.val (.ref a1), .val (.ref b2), .val (.int (0 : Int32))] [(.int (0 : Int32)), (.ref a1)])) rfl rfl (hb hby d_jdk_42_method_151_11)
  have Z14 : n0 ≤ h13.size := Nat.le_trans Z6 (Keep.of_wr W13).1
  have K15 : Keep h0 h13 [a1] := K7.wr W13 (Or.inl (List.mem_of_getElem? (i := 0) rfl))
  have Fw13 := f11.same W13
  have Nf16 := Fr.snoc X13 Nf8 g_a1
  have kn17 : ∀ t, own_S p e below T13 (mkF m 14 #[.val (.ref a1), .val (.ref b2), .val (.int (0 : Int32))] []) t → Gl t := fun t kt => kn10 t (st13 _ kt)
  obtain ⟨fs, hr, hrun, hended, hW, hsame⟩ := X13.leave (v := none) (fun _ => rfl)
  refine ⟨_, _, hGl _ (kn17 _ (X13.returnOut hx Bd.returns (hb hby d_jdk_42_method_151_14) hr)), hrun, hended, _, _, rfl, ?_, ⟨_, rfl⟩, hW, hsame.mono (by decide) (by decide)⟩
  show Q12 Z a1 b2 h0 n0 _ T13.heap _
  rw [e13]
  have f18 := (f12.wr W13)
  have f19 := (Fw5.other W13 (Or.inr (slot_ne (Or.inr (hw _ (List.mem_of_getElem? (i := 37) rfl))) (Or.inr (hw _ (List.mem_of_getElem? (i := 35) rfl))) (by decide) (t := (.array .byte)) (t' := .byte) (by decide) (by decide))))
  exact ⟨rfl, Nf16, K15, f18, f19, Fw13⟩

theorem d_jdk_42_method_139_0 : decode jdk_42_method_139_code 0 = .ok (.getstatic 38, 3) := by decide +kernel
theorem d_jdk_42_method_139_3 : decode jdk_42_method_139_code 3 = .ok (.ifCond .eq 23, 3) := by decide +kernel
theorem d_jdk_42_method_139_6 : decode jdk_42_method_139_code 6 = .ok (.iload_n 0, 1) := by decide +kernel
theorem d_jdk_42_method_139_7 : decode jdk_42_method_139_code 7 = .ok (.invokestatic 1015, 3) := by decide +kernel
theorem d_jdk_42_method_139_10 : decode jdk_42_method_139_code 10 = .ok (.ifCond .eq 16, 3) := by decide +kernel
theorem d_jdk_42_method_139_13 : decode jdk_42_method_139_code 13 = .ok (.new 10, 3) := by decide +kernel
theorem d_jdk_42_method_139_16 : decode jdk_42_method_139_code 16 = .ok (.dup, 1) := by decide +kernel
theorem d_jdk_42_method_139_17 : decode jdk_42_method_139_code 17 = .ok (.iload_n 0, 1) := by decide +kernel
theorem d_jdk_42_method_139_18 : decode jdk_42_method_139_code 18 = .ok (.invokestatic 1018, 3) := by decide +kernel
theorem d_jdk_42_method_139_21 : decode jdk_42_method_139_code 21 = .ok (.iconst 0, 1) := by decide +kernel
theorem d_jdk_42_method_139_22 : decode jdk_42_method_139_code 22 = .ok (.invokespecial 209, 3) := by decide +kernel
theorem d_jdk_42_method_139_25 : decode jdk_42_method_139_code 25 = .ok (.areturn, 1) := by decide +kernel
theorem pd_0 : parseMethodDescriptor "(C)Z" = some ⟨[.char], some .boolean⟩ := by decide +kernel
theorem pd_1 : parseMethodDescriptor "(C)[B" = some ⟨[.char], some (.array .byte)⟩ := by decide +kernel
theorem pd_2 : parseMethodDescriptor "([BB)V" = some ⟨[(.array .byte), .byte], none⟩ := by decide +kernel
theorem ef_rm9 (m : MethodId) (x0 : Int32) : entryFrame m #[(.int x0)] 1 = mkF m 0 #[.val (.int x0)] [] := by first | (simp [entryFrame, mkF, argsToLocals, Value.category]; done) | rfl
def Q9 (Z : State) (p1 : Int32) (G1 : Int32) (h0 : Heap) (n0 : Nat) (v : Option Value) (h : Heap) (L : List Loc) : Prop := ∃ (b t : Addr) (kb : ClassId), v = some (.ref b) ∧ Fr n0 L ∧ n0 ≤ b ∧ Keep h0 h [] ∧ Exa Z h b "java/lang/String" ∧ Fld Z h b "java/lang/String" "value" "[B" (.ref t) ∧ Fld Z h b "java/lang/String" "coder" "B" (.int (0 : Int32)) ∧ Arv Z h t kb .byte (1 : Int32) [(.int (p1.toInt8.toInt32))] (.int (0 : Int32))
set_option maxRecDepth 65536 in
set_option maxHeartbeats 40000000 in
theorem rm9 (l : Launch) (Z : State) (a0 : Array Value) (hw : ∀ d ∈ tables_1, d.before a0 Z = true) (ws : List Jvm.Cond) (p1 : Int32) (G1 : Int32) (h0 : Heap) (n0 : Nat) (Z0 : n0 ≤ h0.size) (h2 : ¬ (255 : Int32) < p1) (O0 : Old Z n0 h0) (O2 : Sta Z Z.heap "java/lang/String" "COMPACT_STRINGS" "Z" (.int G1)) (P5 : ¬ (G1 = (0 : Int32))) :
    MetFree l (⟨"java/lang/String", "valueOf", "(C)Ljava/lang/String;"⟩ : MethodName) (head1 (Jvm.Cond.code (⟨"java/lang/String", "valueOf", "(C)Ljava/lang/String;"⟩ : MethodName) jdk_42_method_139_code 1 (some (.object "java/lang/String")) :: ws) ({ frames := 2, cells := 2, slots := 5, locals := 27 } : Room)) (fun a U => a = #[(.int p1)] ∧ Z.Warmed39 U.vm ∧ U.heap = h0) (fun _ _ _ _ _ => True) (fun _ U o U' => ∃ v L, o = .returned v ∧ Q9 Z p1 G1 h0 n0 v U'.heap L ∧ FrameEnd U o U' L ({ frames := 2, cells := 2, slots := 5, locals := 27 } : Room).cells ({ frames := 2, cells := 2, slots := 5, locals := 27 } : Room).slots) := by
  refine MetFree.of_bodySF (plainFor_of_name pn_4) hisR ?_
  intro p e s m args below meth c s₁ Bd hml0 hP hK
  obtain ⟨rfl, hZ, hh⟩ := hP
  have hx := Bd.exec
  have hby := Bd.bytes
  have hml : c.maxLocals = 1 := hml0
  have hown : s.vm.findClass "java/lang/String" = some m.cls := findClass_of_methodNamed Bd.named
  have hnm := (name_of_methodNamed Bd.named Bd.method).1
  have X0 : Stand p l e ({ frames := 2, cells := 2, slots := 5, locals := 27 } : Room) s m #[(.int p1)] below meth c s₁ [] 0 0 := Stand.of_body Bd
  have e0 : s₁.heap = h0 := by rw [← hh, Bd.state]; rfl
  have Nf0 := Fr.nil n0
  obtain ⟨Gl, hGl, kn0⟩ : ∃ Gl : State → Prop, (∀ t, Gl t → Steps p.tables e below (s₁.setTop (entryFrame m #[(.int p1)] 1)) t) ∧ ∀ t, own_S p e below s₁ (mkF m 0 #[.val (.int p1)] []) t → Gl t := ⟨fun t => Steps p.tables e below (s₁.setTop (entryFrame m #[(.int p1)] 1)) t, fun _ k => k, fun t k => castTop (ef_rm9 m p1) k⟩
  obtain ⟨T1, X1, e1, st1⟩ := getS2 X0 hx hZ hown (host := "") (Or.inl (hw _ (List.mem_of_getElem? (i := 22) rfl))) Via.refl e0 (O2.ext O0.2) (g := (mkF m 0 #[.val (.int p1)] [])) rfl (hb hby d_jdk_42_method_139_0)
  have kn2 : ∀ t, own_S p e below T1 (mkF m 3 #[.val (.int p1)] [(.int G1)]) t → Gl t := fun t kt => kn0 t (st1 _ kt)
  have hc3_3 : ¬ (G1 = (0 : Int32)) := P5
  have kn4 : ∀ t, own_S p e below T1 (mkF m 7 #[.val (.int p1)] [(.int p1)]) t → Gl t := fun t kt => kn2 t (by
    show own_S p e below T1 (mkF m 3 #[.val (.int p1)] [(.int G1)]) _
    refine XS.ifNo X1.here hx rfl (hb hby d_jdk_42_method_139_3) rfl ((if0 _ _).trans (feq hc3_3).1) ?_
    show own_S p e below T1 (mkF m 6 #[.val (.int p1)] []) _
    refine XS.iloadN X1.here hx rfl (hb hby d_jdk_42_method_139_6) rfl ?_
    exact kt)
  obtain ⟨_, _, ⟨T5, L5, cc5, ss5⟩, -, X5, ⟨Lc5, hQ5, l5, y5, z5⟩, st5⟩ := Jvm.LawKit.callS X1 hx (y := (⟨"java/lang/StringLatin1", "canEncode", "(C)Z"⟩ : MethodName)) hown (mvT hZ (hw _ (List.mem_of_getElem? (i := 41) rfl))) (mvT hZ (hw _ (List.mem_of_getElem? (i := 42) rfl))) (mvT hZ (hw _ (List.mem_of_getElem? (i := 43) rfl))) (mvT hZ (hw _ (List.mem_of_getElem? (i := 44) rfl))) (by decide) (backOf (W := 0) (rm10 l Z a0 hw [] p1  h0 n0 Z0 h2) hZ (hw _ (List.mem_of_getElem? (i := 44) rfl)) (hw _ (List.mem_of_getElem? (i := 43) rfl)) (by decide) (by decide)) (g := (mkF m 7 #[.val (.int p1)] [(.int p1)])) rfl (by rw [hml]; rfl) (argsL := [(.int p1)]) (rest := []) (lenOf pd_0 rfl) rfl (by show 2 * 0 + _ ≤ _; exact Nat.le_of_eq rfl) (hb hby d_jdk_42_method_139_7) (fun _ _ => ⟨rfl, e1, (by decide : 0 + 0 ≤ _), (by decide : 0 + 0 ≤ _)⟩)
  dsimp only [Pt.U, Pt.locs, Pt.cells, Pt.slots] at X5 l5 y5 z5 st5 hQ5
  subst l5 y5 z5
  have X5 : Stand p l e _ _ m _ below meth c T5 _ 0 0 := X5
  obtain ⟨rfl, Nq5, eq5⟩ := hQ5
  have Nf5 := Fr.app Nf0 Nq5
  have kn6 : ∀ t, own_S p e below T5 (mkF m 10 #[.val (.int p1)] [(.int (1 : Int32))]) t → Gl t := fun t kt => kn4 t (st5 _ kt)
  have kn7 : ∀ t, own_S p e below T5 (mkF m 13 #[.val (.int p1)] []) t → Gl t := fun t kt => kn6 t (by
    show own_S p e below T5 (mkF m 10 #[.val (.int p1)] [(.int (1 : Int32))]) _
    refine XS.ifNo X5.here hx rfl (hb hby d_jdk_42_method_139_10) rfl ((if0 _ _).trans (feq (by decide : ¬ ((1 : Int32) = (0 : Int32)))).1) ?_
    exact kt)
  obtain ⟨T8, h8, X8, e8, E8, A8, D8, -, st8⟩ := newO X5 hx hZ hown (hw _ (List.mem_of_getElem? (i := 45) rfl)) (hw _ (List.mem_of_getElem? (i := 10) rfl)) (hw _ (List.mem_of_getElem? (i := 11) rfl)) eq5 (g := (mkF m 13 #[.val (.int p1)] [])) rfl (hb hby d_jdk_42_method_139_13) (by decide) (by decide)
  obtain ⟨b8, g8⟩ : ∃ z, z = h0.size := ⟨_, rfl⟩
  rw [← g8] at A8 D8 st8
  have sz_b8 : h0.size ≤ b8 := Nat.le_trans (Keep.refl h0 []).1 (Nat.le_of_eq g8.symm)
  have g_b8 : n0 ≤ b8 := Nat.le_trans Z0 (Nat.le_of_eq g8.symm)
  have Z9 : n0 ≤ h8.size := Nat.le_trans Z0 E8.1
  have Od10 : Old Z n0 h8 := O0.ext E8
  have K11 : Keep h0 h8 [] := (Keep.refl h0 []).ext E8
  have F8_35 : Fld Z h8 b8 "java/lang/String" "coder" "B" (.int (0 : Int32)) := D8 (Or.inr (hw _ (List.mem_of_getElem? (i := 35) rfl))) (ty := .byte) (by decide)
  have F8_37 : Fld Z h8 b8 "java/lang/String" "value" "[B" .null := D8 (Or.inr (hw _ (List.mem_of_getElem? (i := 37) rfl))) (ty := (.array .byte)) (by decide)
  have kn12 : ∀ t, own_S p e below T8 (mkF m 16 #[.val (.int p1)] [(.ref b8)]) t → Gl t := fun t kt => kn7 t (st8 _ kt)
  have kn13 : ∀ t, own_S p e below T8 (mkF m 18 #[.val (.int p1)] [(.int p1), (.ref b8), (.ref b8)]) t → Gl t := fun t kt => kn12 t (by
    show own_S p e below T8 (mkF m 16 #[.val (.int p1)] [(.ref b8)]) _
    refine XS.dup X8.here hx rfl (hb hby d_jdk_42_method_139_16) rfl rfl ?_
    show own_S p e below T8 (mkF m 17 #[.val (.int p1)] [(.ref b8), (.ref b8)]) _
    refine XS.iloadN X8.here hx rfl (hb hby d_jdk_42_method_139_17) rfl ?_
    exact kt)
  obtain ⟨_, _, ⟨T14, L14, cc14, ss14⟩, -, X14, ⟨Lc14, hQ14, l14, y14, z14⟩, st14⟩ := Jvm.LawKit.callS X8 hx (y := (⟨"java/lang/StringLatin1", "toBytes", "(C)[B"⟩ : MethodName)) hown (mvT hZ (hw _ (List.mem_of_getElem? (i := 46) rfl))) (mvT hZ (hw _ (List.mem_of_getElem? (i := 47) rfl))) (mvT hZ (hw _ (List.mem_of_getElem? (i := 43) rfl))) (mvT hZ (hw _ (List.mem_of_getElem? (i := 48) rfl))) (by decide) (backOf (W := 2) (rm11 l Z a0 hw [] p1  h8 n0 Z9 ) hZ (hw _ (List.mem_of_getElem? (i := 48) rfl)) (hw _ (List.mem_of_getElem? (i := 43) rfl)) (by decide) (by decide)) (g := (mkF m 18 #[.val (.int p1)] [(.int p1), (.ref b8), (.ref b8)])) rfl (by rw [hml]; rfl) (argsL := [(.int p1)]) (rest := [(.ref b8), (.ref b8)]) (lenOf pd_1 rfl) rfl (by show 2 * 0 + _ ≤ _; exact Nat.le_of_eq rfl) (hb hby d_jdk_42_method_139_18) (fun _ _ => ⟨rfl, e8, (by decide : 1 + 1 ≤ _), (by decide : 4 + 1 ≤ _)⟩)
  dsimp only [Pt.U, Pt.locs, Pt.cells, Pt.slots] at X14 l14 y14 z14 st14 hQ14
  subst l14 y14 z14
  have X14 : Stand p l e _ _ m _ below meth c T14 _ 2 5 := X14
  obtain ⟨b14, kb14, rfl, Nq14, gb14, sb14, K14, V14⟩ := hQ14
  have Nf14 := Fr.app Nf5 Nq14
  have ne_b8_b14 : b8 ≠ b14 := Nat.ne_of_lt (Nat.lt_of_lt_of_le A8.lt sb14)
  have Z15 : n0 ≤ T14.heap.size := Nat.le_trans Z9 K14.1
  have Od16 : Old Z n0 T14.heap := Od10.keep K14 all0
  have K17 : Keep h0 T14.heap [] := K11.trans K14 (all0)
  have kn18 : ∀ t, own_S p e below T14 (mkF m 21 #[.val (.int p1)] [(.ref b14), (.ref b8), (.ref b8)]) t → Gl t := fun t kt => kn13 t (st14 _ kt)
  have kn19 : ∀ t, own_S p e below T14 (mkF m 22 #[.val (.int p1)] [(.int (0 : Int32)), (.ref b14), (.ref b8), (.ref b8)]) t → Gl t := fun t kt => kn18 t (by
    show own_S p e below T14 (mkF m 21 #[.val (.int p1)] [(.ref b14), (.ref b8), (.ref b8)]) _
    refine XS.iconst X14.here hx rfl (hb hby d_jdk_42_method_139_21) ?_
    exact kt)
  have f21 := (A8.keep K14)
  have f22 := (F8_37.keep K14 nin0)
  have f23 := (F8_35.keep K14 nin0)
  obtain ⟨_, _, ⟨T20, L20, cc20, ss20⟩, -, X20, ⟨Lc20, hQ20, l20, y20, z20⟩, st20⟩ := X14.specialBack hx (y := (⟨"java/lang/String", "<init>", "([BB)V"⟩ : MethodName)) rfl hown (mvT hZ (hw _ (List.mem_of_getElem? (i := 49) rfl))) (mvT hZ (hw _ (List.mem_of_getElem? (i := 50) rfl))) (mvT hZ (hw _ (List.mem_of_getElem? (i := 51) rfl))) (by decide) (backOf (W := 1) (rm12 l Z a0 hw [] b8 b14  T14.heap n0 Z15 f21 f22 f23 g_b8) hZ (hw _ (List.mem_of_getElem? (i := 51) rfl)) (hw _ (List.mem_of_getElem? (i := 11) rfl)) (by decide) (by decide)) (g := (mkF m 22 #[.val (.int p1)] [(.int (0 : Int32)), (.ref b14), (.ref b8), (.ref b8)])) rfl (by rw [hml]; rfl) (Steps.refl _) (a := b8) (argsL := [(.ref b14), (.int (0 : Int32))]) (rest := [(.ref b8)]) (lenOf pd_2 rfl) rfl (by show 2 * 0 + _ ≤ _; exact Nat.le_of_eq rfl) (hb hby d_jdk_42_method_139_22) (fun _ _ => ⟨rfl, rfl, (by decide : 2 + 0 ≤ _), (by decide : 5 + 0 ≤ _)⟩)
  dsimp only [Pt.U, Pt.locs, Pt.cells, Pt.slots] at X20 l20 y20 z20 st20 hQ20
  subst l20 y20 z20
  have X20 : Stand p l e _ _ m _ below meth c T20 _ 2 5 := X20
  obtain ⟨rfl, Nq20, K20, Ex20, Va20, Co20⟩ := hQ20
  have Nf20 := Fr.app Nf14 Nq20
  have Z24 : n0 ≤ T20.heap.size := Nat.le_trans Z15 K20.1
  have Od25 : Old Z n0 T20.heap := Od16.keep K20 (allS g_b8 all0)
  have K26 : Keep h0 T20.heap [] := K17.trans K20 (allS (Or.inr sz_b8) all0)
  have kn27 : ∀ t, own_S p e below T20 (mkF m 25 #[.val (.int p1)] [(.ref b8)]) t → Gl t := fun t kt => kn19 t (st20.trans kt)
  obtain ⟨fs, hr, hrun, hended, hW, hsame⟩ := X20.leave (v := some (.ref b8)) (fun h => by rw [Bd.returns] at h; cases h)
  refine ⟨_, _, hGl _ (kn27 _ (by
      show own_S p e below T20 (mkF m 25 #[.val (.int p1)] [(.ref b8)]) _
      jvm_step X20.here [X20.here.top, hx, (hb hby d_jdk_42_method_139_25), X20.method', Bd.returns, Value.isRef, FieldType.isReference]
      first | (intro acts; rw [hr _ acts rfl rfl rfl]) | rw [hr _ _ rfl rfl rfl]
      exact Steps.refl _)), hrun, hended, _, _, rfl, ?_, ⟨_, rfl⟩, hW, hsame.mono (by decide) (by decide)⟩
  show Q9 Z p1 G1 h0 n0 _ T20.heap _
  have f28 := (V14.keep K20 (ninS (Ne.symm ne_b8_b14) nin0))
  exact ⟨b8, b14, _, rfl, Nf20, g_b8, K26, Ex20, Va20, Co20, f28⟩

theorem d_prog_18_method_1_0 : decode prog_18_method_1_code 0 = .ok (.aload_n 0, 1) := by decide +kernel
theorem d_prog_18_method_1_1 : decode prog_18_method_1_code 1 = .ok (.invokespecial 1, 3) := by decide +kernel
theorem d_prog_18_method_1_4 : decode prog_18_method_1_code 4 = .ok (.aload_n 0, 1) := by decide +kernel
theorem d_prog_18_method_1_5 : decode prog_18_method_1_code 5 = .ok (.aload_n 1, 1) := by decide +kernel
theorem d_prog_18_method_1_6 : decode prog_18_method_1_code 6 = .ok (.putfield 7, 3) := by decide +kernel
theorem d_prog_18_method_1_9 : decode prog_18_method_1_code 9 = .ok (.return_, 1) := by decide +kernel
theorem ef_rm24 (m : MethodId) (x0 : Addr) (x1 : Addr) : entryFrame m #[(.ref x0), (.ref x1)] 2 = mkF m 0 #[.val (.ref x0), .val (.ref x1)] [] := by first | (simp [entryFrame, mkF, argsToLocals, Value.category]; done) | rfl
def Q24 (Z : State) (a1 : Addr) (a2 : Addr) (h0 : Heap) (n0 : Nat) (v : Option Value) (h : Heap) (L : List Loc) : Prop := v = none ∧ Fr n0 L ∧ Keep h0 h [a1] ∧ Exa Z h a1 "com/example/dual_delivery/dualdelivery/model/ResourceName" ∧ Fld Z h a1 "com/example/dual_delivery/dualdelivery/model/ResourceName" "value" "Ljava/lang/String;" (.ref a2)
set_option maxRecDepth 65536 in
set_option maxHeartbeats 40000000 in
theorem rm24 (l : Launch) (Z : State) (a0 : Array Value) (hw : ∀ d ∈ tables_1, d.before a0 Z = true) (ws : List Jvm.Cond) (a1 : Addr) (a2 : Addr) (h0 : Heap) (n0 : Nat) (Z0 : n0 ≤ h0.size) (E1 : Exa Z h0 a1 "com/example/dual_delivery/dualdelivery/model/ResourceName") (F1 : Fld Z h0 a1 "com/example/dual_delivery/dualdelivery/model/ResourceName" "value" "Ljava/lang/String;" .null) (g_a1 : n0 ≤ a1) :
    MetFree l (⟨"com/example/dual_delivery/dualdelivery/model/ResourceName", "<init>", "(Ljava/lang/String;)V"⟩ : MethodName) (head1 (Jvm.Cond.code (⟨"com/example/dual_delivery/dualdelivery/model/ResourceName", "<init>", "(Ljava/lang/String;)V"⟩ : MethodName) prog_18_method_1_code 2 none :: ws) ({ frames := 1, cells := 0, slots := 0, locals := 12 } : Room)) (fun a U => a = #[(.ref a1), (.ref a2)] ∧ Z.Warmed39 U.vm ∧ U.heap = h0) (fun _ _ _ _ _ => True) (fun _ U o U' => ∃ v L, o = .returned v ∧ Q24 Z a1 a2 h0 n0 v U'.heap L ∧ FrameEnd U o U' L ({ frames := 1, cells := 0, slots := 0, locals := 12 } : Room).cells ({ frames := 1, cells := 0, slots := 0, locals := 12 } : Room).slots) := by
  refine MetFree.of_bodySF (plainFor_of_name pn_1) hisR ?_
  intro p e s m args below meth c s₁ Bd hml0 hP hK
  obtain ⟨rfl, hZ, hh⟩ := hP
  have hx := Bd.exec
  have hby := Bd.bytes
  have hml : c.maxLocals = 2 := hml0
  have hown : s.vm.findClass "com/example/dual_delivery/dualdelivery/model/ResourceName" = some m.cls := findClass_of_methodNamed Bd.named
  have hnm := (name_of_methodNamed Bd.named Bd.method).1
  have X0 : Stand p l e ({ frames := 1, cells := 0, slots := 0, locals := 12 } : Room) s m #[(.ref a1), (.ref a2)] below meth c s₁ [] 0 0 := Stand.of_body Bd
  have e0 : s₁.heap = h0 := by rw [← hh, Bd.state]; rfl
  have Nf0 := Fr.nil n0
  obtain ⟨Gl, hGl, kn0⟩ : ∃ Gl : State → Prop, (∀ t, Gl t → Steps p.tables e below (s₁.setTop (entryFrame m #[(.ref a1), (.ref a2)] 2)) t) ∧ ∀ t, own_S p e below s₁ (mkF m 0 #[.val (.ref a1), .val (.ref a2)] []) t → Gl t := ⟨fun t => Steps p.tables e below (s₁.setTop (entryFrame m #[(.ref a1), (.ref a2)] 2)) t, fun _ k => k, fun t k => castTop (ef_rm24 m a1 a2) k⟩
  have kn1 : ∀ t, own_S p e below s₁ (mkF m 1 #[.val (.ref a1), .val (.ref a2)] [(.ref a1)]) t → Gl t := fun t kt => kn0 t (by
    show own_S p e below s₁ (mkF m 0 #[.val (.ref a1), .val (.ref a2)] []) _
    refine XS.aloadN X0.here hx rfl (hb hby d_prog_18_method_1_0) rfl rfl ?_
    exact kt)
  obtain ⟨T2, X2, e2, st2⟩ := initO X0 hx hZ hown (hw _ (List.mem_of_getElem? (i := 107) rfl)) (hw _ (List.mem_of_getElem? (i := 20) rfl)) (hw _ (List.mem_of_getElem? (i := 21) rfl)) e0 (g := (mkF m 1 #[.val (.ref a1), .val (.ref a2)] [(.ref a1)])) rfl (by rw [hml]; rfl) rfl (hb hby d_prog_18_method_1_1) (by decide) (W := 0) (by show 2 * 0 + _ ≤ _; exact Nat.le_of_eq rfl) (by decide)
  have kn3 : ∀ t, own_S p e below T2 (mkF m 4 #[.val (.ref a1), .val (.ref a2)] []) t → Gl t := fun t kt => kn1 t (st2 _ kt)
  have kn4 : ∀ t, own_S p e below T2 (mkF m 6 #[.val (.ref a1), .val (.ref a2)] [(.ref a2), (.ref a1)]) t → Gl t := fun t kt => kn3 t (by
    show own_S p e below T2 (mkF m 4 #[.val (.ref a1), .val (.ref a2)] []) _
    refine XS.aloadN X2.here hx rfl (hb hby d_prog_18_method_1_4) rfl rfl ?_
    show own_S p e below T2 (mkF m 5 #[.val (.ref a1), .val (.ref a2)] [(.ref a1)]) _
    refine XS.aloadN X2.here hx rfl (hb hby d_prog_18_method_1_5) rfl rfl ?_
    exact kt)
  obtain ⟨T5, h5, X5, e5, W5, st5⟩ := putF X2 hx hZ hown (host := "") (Or.inl (hw _ (List.mem_of_getElem? (i := 108) rfl))) Via.refl e2 F1 E1 (Or.inr ⟨(hw _ (List.mem_of_getElem? (i := 109) rfl)), rfl, hnm⟩) (hw _ (List.mem_of_getElem? (i := 103) rfl)) (ty := (.object "java/lang/String")) (by decide) rfl rfl (g := (mkF m 6 #[.val (.ref a1), .val (.ref a2)] [(.ref a2), (.ref a1)])) rfl rfl (hb hby d_prog_18_method_1_6)
  have Z6 : n0 ≤ h5.size := Nat.le_trans Z0 (Keep.of_wr W5).1
  have K7 : Keep h0 h5 [a1] := (Keep.refl h0 [a1]).wr W5 (Or.inl (List.mem_of_getElem? (i := 0) rfl))
  have Fw5 := F1.same W5
  have Nf8 := Fr.snoc X5 Nf0 g_a1
  have kn9 : ∀ t, own_S p e below T5 (mkF m 9 #[.val (.ref a1), .val (.ref a2)] []) t → Gl t := fun t kt => kn4 t (st5 _ kt)
  obtain ⟨fs, hr, hrun, hended, hW, hsame⟩ := X5.leave (v := none) (fun _ => rfl)
  refine ⟨_, _, hGl _ (kn9 _ (X5.returnOut hx Bd.returns (hb hby d_prog_18_method_1_9) hr)), hrun, hended, _, _, rfl, ?_, ⟨_, rfl⟩, hW, hsame.mono (by decide) (by decide)⟩
  show Q24 Z a1 a2 h0 n0 _ T5.heap _
  rw [e5]
  have f10 := (E1.wr W5)
  exact ⟨rfl, Nf8, K7, f10, Fw5⟩

theorem d_prog_18_method_7_0 : decode prog_18_method_7_code 0 = .ok (.aload_n 0, 1) := by decide +kernel
theorem d_prog_18_method_7_1 : decode prog_18_method_7_code 1 = .ok (.getfield 7, 3) := by decide +kernel
theorem d_prog_18_method_7_4 : decode prog_18_method_7_code 4 = .ok (.areturn, 1) := by decide +kernel
theorem ef_rm25 (m : MethodId) (x0 : Addr) : entryFrame m #[(.ref x0)] 1 = mkF m 0 #[.val (.ref x0)] [] := by first | (simp [entryFrame, mkF, argsToLocals, Value.category]; done) | rfl
def Q25 (Z : State) (a1 : Addr) (w1 : Addr) (h0 : Heap) (n0 : Nat) (v : Option Value) (h : Heap) (L : List Loc) : Prop := v = some (.ref w1) ∧ Fr n0 L ∧ h = h0
set_option maxRecDepth 65536 in
set_option maxHeartbeats 40000000 in
theorem rm25 (l : Launch) (Z : State) (a0 : Array Value) (hw : ∀ d ∈ tables_1, d.before a0 Z = true) (ws : List Jvm.Cond) (a1 : Addr) (w1 : Addr) (h0 : Heap) (n0 : Nat) (Z0 : n0 ≤ h0.size) (F1 : Fld Z h0 a1 "com/example/dual_delivery/dualdelivery/model/ResourceName" "value" "Ljava/lang/String;" (.ref w1)) :
    MetFree l (⟨"com/example/dual_delivery/dualdelivery/model/ResourceName", "toString", "()Ljava/lang/String;"⟩ : MethodName) (head1 (Jvm.Cond.code (⟨"com/example/dual_delivery/dualdelivery/model/ResourceName", "toString", "()Ljava/lang/String;"⟩ : MethodName) prog_18_method_7_code 1 (some (.object "java/lang/String")) :: ws) ({ frames := 0, cells := 0, slots := 0, locals := 0 } : Room)) (fun a U => a = #[(.ref a1)] ∧ Z.Warmed39 U.vm ∧ U.heap = h0) (fun _ _ _ _ _ => True) (fun _ U o U' => ∃ v L, o = .returned v ∧ Q25 Z a1 w1 h0 n0 v U'.heap L ∧ FrameEnd U o U' L ({ frames := 0, cells := 0, slots := 0, locals := 0 } : Room).cells ({ frames := 0, cells := 0, slots := 0, locals := 0 } : Room).slots) := by
  refine MetFree.of_bodySF (plainFor_of_name pn_1) hisR ?_
  intro p e s m args below meth c s₁ Bd hml0 hP hK
  obtain ⟨rfl, hZ, hh⟩ := hP
  have hx := Bd.exec
  have hby := Bd.bytes
  have hml : c.maxLocals = 1 := hml0
  have hown : s.vm.findClass "com/example/dual_delivery/dualdelivery/model/ResourceName" = some m.cls := findClass_of_methodNamed Bd.named
  have hnm := (name_of_methodNamed Bd.named Bd.method).1
  have X0 : Stand p l e ({ frames := 0, cells := 0, slots := 0, locals := 0 } : Room) s m #[(.ref a1)] below meth c s₁ [] 0 0 := Stand.of_body Bd
  have e0 : s₁.heap = h0 := by rw [← hh, Bd.state]; rfl
  have Nf0 := Fr.nil n0
  obtain ⟨Gl, hGl, kn0⟩ : ∃ Gl : State → Prop, (∀ t, Gl t → Steps p.tables e below (s₁.setTop (entryFrame m #[(.ref a1)] 1)) t) ∧ ∀ t, own_S p e below s₁ (mkF m 0 #[.val (.ref a1)] []) t → Gl t := ⟨fun t => Steps p.tables e below (s₁.setTop (entryFrame m #[(.ref a1)] 1)) t, fun _ k => k, fun t k => castTop (ef_rm25 m a1) k⟩
  have kn1 : ∀ t, own_S p e below s₁ (mkF m 1 #[.val (.ref a1)] [(.ref a1)]) t → Gl t := fun t kt => kn0 t (by
    show own_S p e below s₁ (mkF m 0 #[.val (.ref a1)] []) _
    refine XS.aloadN X0.here hx rfl (hb hby d_prog_18_method_7_0) rfl rfl ?_
    exact kt)
  obtain ⟨T2, X2, e2, st2⟩ := getF X0 hx hZ hown (host := "") (Or.inl (hw _ (List.mem_of_getElem? (i := 108) rfl))) Via.refl e0 F1 (g := (mkF m 1 #[.val (.ref a1)] [(.ref a1)])) rfl rfl (hb hby d_prog_18_method_7_1)
  have kn3 : ∀ t, own_S p e below T2 (mkF m 4 #[.val (.ref a1)] [(.ref w1)]) t → Gl t := fun t kt => kn1 t (st2 _ kt)
  obtain ⟨fs, hr, hrun, hended, hW, hsame⟩ := X2.leave (v := some (.ref w1)) (fun h => by rw [Bd.returns] at h; cases h)
  refine ⟨_, _, hGl _ (kn3 _ (by
      show own_S p e below T2 (mkF m 4 #[.val (.ref a1)] [(.ref w1)]) _
      jvm_step X2.here [X2.here.top, hx, (hb hby d_prog_18_method_7_4), X2.method', Bd.returns, Value.isRef, FieldType.isReference]
      first | (intro acts; rw [hr _ acts rfl rfl rfl]) | rw [hr _ _ rfl rfl rfl]
      exact Steps.refl _)), hrun, hended, _, _, rfl, ?_, ⟨_, rfl⟩, hW, hsame.mono (by decide) (by decide)⟩
  show Q25 Z a1 w1 h0 n0 _ T2.heap _
  rw [e2]
  exact ⟨rfl, Nf0, rfl⟩

theorem d_prog_18_method_2_47 : decode prog_18_method_2_code 47 = .ok (.iload_n 1, 1) := by decide +kernel
theorem d_prog_18_method_2_48 : decode prog_18_method_2_code 48 = .ok (.aload_n 0, 1) := by decide +kernel
theorem d_prog_18_method_2_49 : decode prog_18_method_2_code 49 = .ok (.invokevirtual 43, 3) := by decide +kernel
theorem d_prog_18_method_2_52 : decode prog_18_method_2_code 52 = .ok (.if_icmp .ge 57, 3) := by decide +kernel
theorem d_prog_18_method_2_55 : decode prog_18_method_2_code 55 = .ok (.aload_n 0, 1) := by decide +kernel
theorem d_prog_18_method_2_56 : decode prog_18_method_2_code 56 = .ok (.iload_n 1, 1) := by decide +kernel
theorem d_prog_18_method_2_57 : decode prog_18_method_2_code 57 = .ok (.invokevirtual 33, 3) := by decide +kernel
theorem d_prog_18_method_2_60 : decode prog_18_method_2_code 60 = .ok (.istore_n 2, 1) := by decide +kernel
theorem d_prog_18_method_2_61 : decode prog_18_method_2_code 61 = .ok (.iload_n 2, 1) := by decide +kernel
theorem d_prog_18_method_2_62 : decode prog_18_method_2_code 62 = .ok (.invokestatic 37, 3) := by decide +kernel
theorem d_prog_18_method_2_65 : decode prog_18_method_2_code 65 = .ok (.ifCond .ne 38, 3) := by decide +kernel
theorem d_prog_18_method_2_68 : decode prog_18_method_2_code 68 = .ok (.iload_n 2, 1) := by decide +kernel
theorem d_prog_18_method_2_69 : decode prog_18_method_2_code 69 = .ok (.invokestatic 47, 3) := by decide +kernel
theorem d_prog_18_method_2_72 : decode prog_18_method_2_code 72 = .ok (.ifCond .ne 31, 3) := by decide +kernel
theorem d_prog_18_method_2_75 : decode prog_18_method_2_code 75 = .ok (.iload_n 2, 1) := by decide +kernel
theorem d_prog_18_method_2_76 : decode prog_18_method_2_code 76 = .ok (.bipush 45, 2) := by decide +kernel
theorem d_prog_18_method_2_78 : decode prog_18_method_2_code 78 = .ok (.if_icmp .eq 25, 3) := by decide +kernel
theorem d_prog_18_method_2_81 : decode prog_18_method_2_code 81 = .ok (.iload_n 2, 1) := by decide +kernel
theorem d_prog_18_method_2_82 : decode prog_18_method_2_code 82 = .ok (.bipush 95, 2) := by decide +kernel
theorem d_prog_18_method_2_84 : decode prog_18_method_2_code 84 = .ok (.if_icmp .eq 19, 3) := by decide +kernel
theorem d_prog_18_method_2_103 : decode prog_18_method_2_code 103 = .ok (.iinc 1 1, 3) := by decide +kernel
theorem d_prog_18_method_2_106 : decode prog_18_method_2_code 106 = .ok (.goto (-59), 3) := by decide +kernel
theorem pd_3 : parseMethodDescriptor "()I" = some ⟨[], some .int⟩ := by decide +kernel
theorem pd_4 : parseMethodDescriptor "(I)C" = some ⟨[.int], some .char⟩ := by decide +kernel
set_option maxRecDepth 65536 in
set_option maxHeartbeats 40000000 in
theorem turn_a {p : Program} {l : Launch} {e : Env} {s : State} {m : MethodId} {args : Array Value} {below : List Frame} {meth : Method} {c : Code} {T0 : State} {locs : List Loc} {cells slots : Nat} {Z : State} {a0 : Array Value} {h0 : Heap} {n0 : Nat} {x1 : Addr} {t1 : Addr} {k1 : ClassId} {cs : List Int32} {i1 : Nat} {G1 : Int32} {G3 : Value}
    (X0 : Stand p l e ({ frames := 5, cells := 3, slots := 25, locals := 60 } : Room) s m args below meth c T0 locs cells slots) (hx : p.tables.exec = Jvm.exec) (hZ : Z.Warmed39 s.vm) (hw : ∀ d ∈ tables_1, d.before a0 Z = true) (hby : c.code = prog_18_method_2_code) (hml : c.maxLocals = 3) (hown : s.vm.findClass "com/example/dual_delivery/dualdelivery/model/ResourceName" = some m.cls) (e0 : T0.heap = h0) (hcell : cells ≤ ({ frames := 5, cells := 3, slots := 25, locals := 60 } : Room).cells) (hslot : slots ≤ ({ frames := 5, cells := 3, slots := 25, locals := 60 } : Room).slots) (E_x1 : Exa Z h0 x1 "java/lang/String") (V_x1 : Fld Z h0 x1 "java/lang/String" "value" "[B" (.ref t1)) (C_x1 : Fld Z h0 x1 "java/lang/String" "coder" "B" (.int (0 : Int32))) (K_x1 : Arv Z h0 t1 k1 .byte (Int32.ofNat cs.length) ((cs.map (fun c => c.toInt8.toInt32)).map Value.int) (.int (0 : Int32))) (hp_x1 : ∀ c ∈ cs, ¬ c < 0 ∧ ¬ (255 : Int32) < c) (hl_x1 : cs.length ≤ 64) (Z0 : n0 ≤ h0.size) (hi : i1 < cs.length) (hgood : own_good (cs.getD i1 0)) (O0 : Old Z n0 h0) (O2 : Sta Z Z.heap "java/lang/String" "COMPACT_STRINGS" "Z" (.int G1)) (P5 : ¬ (G1 = (0 : Int32))) (O4 : Sta Z Z.heap "jdk/internal/util/Preconditions" "SIOOBE_FORMATTER" "Ljava/util/function/BiFunction;" G3) (rG3 : G3.isRef = true) :
    ∃ T' : State, Stand p l e ({ frames := 5, cells := 3, slots := 25, locals := 60 } : Room) s m args below meth c T' locs cells slots ∧ T'.heap = h0 ∧ ∀ t, own_S p e below T' (mkF m 47 #[.val (.ref x1), .val (.int ((Int32.ofNat i1) + (1 : Int32))), .val (.int (cs.getD i1 0))] []) t → own_S p e below T0 (mkF m 47 #[.val (.ref x1), .val (.int (Int32.ofNat i1)), .unset] []) t := by
  have Nf0 := Fr.nil n0
  have kn0 : ∀ t, own_S p e below T0 (mkF m 47 #[.val (.ref x1), .val (.int (Int32.ofNat i1)), .unset] []) t → own_S p e below T0 (mkF m 47 #[.val (.ref x1), .val (.int (Int32.ofNat i1)), .unset] []) t := fun t k => k
  have kn1 : ∀ t, own_S p e below T0 (mkF m 49 #[.val (.ref x1), .val (.int (Int32.ofNat i1)), .unset] [(.ref x1), (.int (Int32.ofNat i1))]) t → own_S p e below T0 (mkF m 47 #[.val (.ref x1), .val (.int (Int32.ofNat i1)), .unset] []) t := fun t kt => kn0 t (by
    show own_S p e below T0 (mkF m 47 #[.val (.ref x1), .val (.int (Int32.ofNat i1)), .unset] []) _
    refine XS.iloadN X0.here hx rfl (hb hby d_prog_18_method_2_47) rfl ?_
    show own_S p e below T0 (mkF m 48 #[.val (.ref x1), .val (.int (Int32.ofNat i1)), .unset] [(.int (Int32.ofNat i1))]) _
    refine XS.aloadN X0.here hx rfl (hb hby d_prog_18_method_2_48) rfl rfl ?_
    exact kt)
  have hln : ∀ d ∈ StrChars.Road.wordsLen, d.before a0 Z = true := fun d hd => hw d ((by decide +kernel : ∀ d ∈ StrChars.Road.wordsLen, d ∈ tables_1) d hd)
  obtain ⟨cq2, kq2, qa2, qb2, qc2⟩ := isOf hZ e0 E_x1
  obtain ⟨_, _, ⟨T2, L2, cc2, ss2⟩, -, X2, ⟨Lc2, hQ2, l2, y2, z2⟩, st2⟩ := X0.virtualBack hx (y := (⟨"java/lang/String", "length", "()I"⟩ : MethodName)) (z := (⟨"java/lang/String", "length", "()I"⟩ : MethodName)) hown (mvT hZ (hw _ (List.mem_of_getElem? (i := 92) rfl))) (mvT hZ (hw _ (List.mem_of_getElem? (i := 93) rfl))) (notFace_of_selects (args := #[]) (mvT hZ (hw _ (List.mem_of_getElem? (i := 95) rfl)))) (mvT hZ (hw _ (List.mem_of_getElem? (i := 95) rfl))) (mvT hZ (hw _ (List.mem_of_getElem? (i := 94) rfl))) (by decide) (StrChars.Road.lenW (W := 1) hZ hln (kI := 4) (hw _ (List.mem_of_getElem? (i := 10) rfl)) E_x1 V_x1 C_x1 K_x1 (StrChars.Road.codOf (cs := cs) (n := cs.length) rfl (fun x hx => (hp_x1 x hx).2)) (own_up _ hp_x1) (O2.ext O0.2) P5 (Nat.le_trans hl_x1 (by decide)) (by decide) (by decide)) qa2 qc2 (g := (mkF m 49 #[.val (.ref x1), .val (.int (Int32.ofNat i1)), .unset] [(.ref x1), (.int (Int32.ofNat i1))])) rfl (by rw [hml]; rfl) (Steps.refl _) (argsL := []) (rest := [(.int (Int32.ofNat i1))]) (lenOf pd_3 rfl) rfl (by show 2 * 0 + _ ≤ _; exact Nat.le_of_eq rfl) (hb hby d_prog_18_method_2_49) (fun _ _ => ⟨rfl, e0, hcell, hslot⟩)
  dsimp only [Pt.U, Pt.locs, Pt.cells, Pt.slots] at X2 l2 y2 z2 st2 hQ2
  subst l2 y2 z2
  obtain ⟨rfl, rfl, eq2⟩ := hQ2
  have Nq2 : Fr n0 ([] : List Loc) := Fr.nil n0
  have Nf2 := Fr.app Nf0 Nq2
  have kn3 : ∀ t, own_S p e below T2 (mkF m 52 #[.val (.ref x1), .val (.int (Int32.ofNat i1)), .unset] [(.int (Int32.ofNat cs.length)), (.int (Int32.ofNat i1))]) t → own_S p e below T0 (mkF m 47 #[.val (.ref x1), .val (.int (Int32.ofNat i1)), .unset] []) t := fun t kt => kn1 t (st2.trans kt)
  have hc52_4 : (Int32.ofNat i1) < (Int32.ofNat cs.length) := own_lt hi hl_x1
  have kn5 : ∀ t, own_S p e below T2 (mkF m 57 #[.val (.ref x1), .val (.int (Int32.ofNat i1)), .unset] [(.int (Int32.ofNat i1)), (.ref x1)]) t → own_S p e below T0 (mkF m 47 #[.val (.ref x1), .val (.int (Int32.ofNat i1)), .unset] []) t := fun t kt => kn3 t (by
    show own_S p e below T2 (mkF m 52 #[.val (.ref x1), .val (.int (Int32.ofNat i1)), .unset] [(.int (Int32.ofNat cs.length)), (.int (Int32.ofNat i1))]) _
    refine XS.icmpNo X2.here hx rfl (hb hby d_prog_18_method_2_52) rfl (tlt hc52_4).2.1 ?_
    show own_S p e below T2 (mkF m 55 #[.val (.ref x1), .val (.int (Int32.ofNat i1)), .unset] []) _
    refine XS.aloadN X2.here hx rfl (hb hby d_prog_18_method_2_55) rfl rfl ?_
    show own_S p e below T2 (mkF m 56 #[.val (.ref x1), .val (.int (Int32.ofNat i1)), .unset] [(.ref x1)]) _
    refine XS.iloadN X2.here hx rfl (hb hby d_prog_18_method_2_56) rfl ?_
    exact kt)
  have hch : ∀ d ∈ StrChars.Road.wordsChN, d.before a0 Z = true := fun d hd => hw d ((by decide +kernel : ∀ d ∈ StrChars.Road.wordsChN, d ∈ tables_1) d hd)
  obtain ⟨cq6, kq6, qa6, qb6, qc6⟩ := isOf hZ eq2 E_x1
  obtain ⟨_, _, ⟨T6, L6, cc6, ss6⟩, -, X6, ⟨Lc6, hQ6, l6, y6, z6⟩, st6⟩ := X2.virtualBack hx (y := (⟨"java/lang/String", "charAt", "(I)C"⟩ : MethodName)) (z := (⟨"java/lang/String", "charAt", "(I)C"⟩ : MethodName)) hown (mvT hZ (hw _ (List.mem_of_getElem? (i := 68) rfl))) (mvT hZ (hw _ (List.mem_of_getElem? (i := 69) rfl))) (notFace_of_selects (args := #[]) (mvT hZ (hw _ (List.mem_of_getElem? (i := 71) rfl)))) (mvT hZ (hw _ (List.mem_of_getElem? (i := 71) rfl))) (mvT hZ (hw _ (List.mem_of_getElem? (i := 70) rfl))) (by decide) (StrChars.Road.chN (W := 0) hZ hch (kI := 4) (hw _ (List.mem_of_getElem? (i := 10) rfl)) E_x1 V_x1 C_x1 K_x1 (StrChars.Road.codOf (cs := cs) (n := cs.length) rfl (fun x hx => (hp_x1 x hx).2)) (own_up _ hp_x1) (O2.ext O0.2) P5 (O4.ext O0.2) rG3 (Nat.le_trans hl_x1 (by decide)) (i := i1) hi (j := (Int32.ofNat i1)) rfl (by decide) (by decide)) qa6 qc6 (g := (mkF m 57 #[.val (.ref x1), .val (.int (Int32.ofNat i1)), .unset] [(.int (Int32.ofNat i1)), (.ref x1)])) rfl (by rw [hml]; rfl) (Steps.refl _) (argsL := [(.int (Int32.ofNat i1))]) (rest := []) (lenOf pd_4 rfl) rfl (by show 2 * 0 + _ ≤ _; exact Nat.le_of_eq rfl) (hb hby d_prog_18_method_2_57) (fun _ _ => ⟨rfl, eq2, hcell, hslot⟩)
  dsimp only [Pt.U, Pt.locs, Pt.cells, Pt.slots] at X6 l6 y6 z6 st6 hQ6
  subst l6 y6 z6
  obtain ⟨rfl, rfl, eq6⟩ := hQ6
  have Nq6 : Fr n0 ([] : List Loc) := Fr.nil n0
  have Nf6 := Fr.app Nf2 Nq6
  have kn7 : ∀ t, own_S p e below T6 (mkF m 60 #[.val (.ref x1), .val (.int (Int32.ofNat i1)), .unset] [(.int (cs.getD i1 0))]) t → own_S p e below T0 (mkF m 47 #[.val (.ref x1), .val (.int (Int32.ofNat i1)), .unset] []) t := fun t kt => kn5 t (st6.trans kt)
  have kn8 : ∀ t, own_S p e below T6 (mkF m 62 #[.val (.ref x1), .val (.int (Int32.ofNat i1)), .val (.int (cs.getD i1 0))] [(.int (cs.getD i1 0))]) t → own_S p e below T0 (mkF m 47 #[.val (.ref x1), .val (.int (Int32.ofNat i1)), .unset] []) t := fun t kt => kn7 t (by
    show own_S p e below T6 (mkF m 60 #[.val (.ref x1), .val (.int (Int32.ofNat i1)), .unset] [(.int (cs.getD i1 0))]) _
    refine XS.istoreN X6.here hx rfl (hb hby d_prog_18_method_2_60) rfl (l' := #[.val (.ref x1), .val (.int (Int32.ofNat i1)), .val (.int (cs.getD i1 0))]) rfl ?_
    show own_S p e below T6 (mkF m 61 #[.val (.ref x1), .val (.int (Int32.ofNat i1)), .val (.int (cs.getD i1 0))] []) _
    refine XS.iloadN X6.here hx rfl (hb hby d_prog_18_method_2_61) rfl ?_
    exact kt)
  obtain ⟨_, _, ⟨T9, L9, cc9, ss9⟩, -, X9, ⟨Lc9, hQ9, l9, y9, z9⟩, st9⟩ := Jvm.LawKit.callS X6 hx (y := (⟨"com/example/dual_delivery/dualdelivery/model/ResourceName", "isLetter", "(C)Z"⟩ : MethodName)) hown (mvT hZ (hw _ (List.mem_of_getElem? (i := 89) rfl))) (mvT hZ (hw _ (List.mem_of_getElem? (i := 90) rfl))) (mvT hZ (hw _ (List.mem_of_getElem? (i := 54) rfl))) (mvT hZ (hw _ (List.mem_of_getElem? (i := 91) rfl))) (by decide) (backOf (W := 0) (rm21 l Z a0 hw [] (cs.getD i1 0)  h0 n0 Z0 ) hZ (hw _ (List.mem_of_getElem? (i := 91) rfl)) (hw _ (List.mem_of_getElem? (i := 54) rfl)) (by decide) (by decide)) (g := (mkF m 62 #[.val (.ref x1), .val (.int (Int32.ofNat i1)), .val (.int (cs.getD i1 0))] [(.int (cs.getD i1 0))])) rfl (by rw [hml]; rfl) (argsL := [(.int (cs.getD i1 0))]) (rest := []) (lenOf pd_0 rfl) rfl (by show 2 * 0 + _ ≤ _; exact Nat.le_of_eq rfl) (hb hby d_prog_18_method_2_62) (fun _ _ => ⟨rfl, eq6, hcell, hslot⟩)
  dsimp only [Pt.U, Pt.locs, Pt.cells, Pt.slots] at X9 l9 y9 z9 st9 hQ9
  subst l9 y9 z9
  obtain ⟨rfl, Nq9, eq9, rfl⟩ := hQ9
  have Nf9 := Fr.app Nf6 Nq9
  have kn10 : ∀ t, own_S p e below T9 (mkF m 65 #[.val (.ref x1), .val (.int (Int32.ofNat i1)), .val (.int (cs.getD i1 0))] [(.int (own_isL (cs.getD i1 0)))]) t → own_S p e below T0 (mkF m 47 #[.val (.ref x1), .val (.int (Int32.ofNat i1)), .unset] []) t := fun t kt => kn8 t (st9 _ kt)
  by_cases hc65 : (own_isL (cs.getD i1 0)) = (0 : Int32)
  · have kn11 : ∀ t, own_S p e below T9 (mkF m 69 #[.val (.ref x1), .val (.int (Int32.ofNat i1)), .val (.int (cs.getD i1 0))] [(.int (cs.getD i1 0))]) t → own_S p e below T0 (mkF m 47 #[.val (.ref x1), .val (.int (Int32.ofNat i1)), .unset] []) t := fun t kt => kn10 t (by
      show own_S p e below T9 (mkF m 65 #[.val (.ref x1), .val (.int (Int32.ofNat i1)), .val (.int (cs.getD i1 0))] [(.int (own_isL (cs.getD i1 0)))]) _
      refine XS.ifNo X9.here hx rfl (hb hby d_prog_18_method_2_65) rfl ((if0 _ _).trans (teq hc65).2) ?_
      show own_S p e below T9 (mkF m 68 #[.val (.ref x1), .val (.int (Int32.ofNat i1)), .val (.int (cs.getD i1 0))] []) _
      refine XS.iloadN X9.here hx rfl (hb hby d_prog_18_method_2_68) rfl ?_
      exact kt)
    obtain ⟨_, _, ⟨T12, L12, cc12, ss12⟩, -, X12, ⟨Lc12, hQ12, l12, y12, z12⟩, st12⟩ := Jvm.LawKit.callS X9 hx (y := (⟨"com/example/dual_delivery/dualdelivery/model/ResourceName", "isDigit", "(C)Z"⟩ : MethodName)) hown (mvT hZ (hw _ (List.mem_of_getElem? (i := 130) rfl))) (mvT hZ (hw _ (List.mem_of_getElem? (i := 131) rfl))) (mvT hZ (hw _ (List.mem_of_getElem? (i := 54) rfl))) (mvT hZ (hw _ (List.mem_of_getElem? (i := 132) rfl))) (by decide) (backOf (W := 0) (rm29 l Z a0 hw [] (cs.getD i1 0)  h0 n0 Z0 ) hZ (hw _ (List.mem_of_getElem? (i := 132) rfl)) (hw _ (List.mem_of_getElem? (i := 54) rfl)) (by decide) (by decide)) (g := (mkF m 69 #[.val (.ref x1), .val (.int (Int32.ofNat i1)), .val (.int (cs.getD i1 0))] [(.int (cs.getD i1 0))])) rfl (by rw [hml]; rfl) (argsL := [(.int (cs.getD i1 0))]) (rest := []) (lenOf pd_0 rfl) rfl (by show 2 * 0 + _ ≤ _; exact Nat.le_of_eq rfl) (hb hby d_prog_18_method_2_69) (fun _ _ => ⟨rfl, eq9, hcell, hslot⟩)
    dsimp only [Pt.U, Pt.locs, Pt.cells, Pt.slots] at X12 l12 y12 z12 st12 hQ12
    subst l12 y12 z12
    obtain ⟨rfl, Nq12, eq12, rfl⟩ := hQ12
    have Nf12 := Fr.app Nf9 Nq12
    have kn13 : ∀ t, own_S p e below T12 (mkF m 72 #[.val (.ref x1), .val (.int (Int32.ofNat i1)), .val (.int (cs.getD i1 0))] [(.int (own_isD (cs.getD i1 0)))]) t → own_S p e below T0 (mkF m 47 #[.val (.ref x1), .val (.int (Int32.ofNat i1)), .unset] []) t := fun t kt => kn11 t (st12 _ kt)
    by_cases hc72 : (own_isD (cs.getD i1 0)) = (0 : Int32)
    · have kn14 : ∀ t, own_S p e below T12 (mkF m 78 #[.val (.ref x1), .val (.int (Int32.ofNat i1)), .val (.int (cs.getD i1 0))] [(.int (45 : Int32)), (.int (cs.getD i1 0))]) t → own_S p e below T0 (mkF m 47 #[.val (.ref x1), .val (.int (Int32.ofNat i1)), .unset] []) t := fun t kt => kn13 t (by
        show own_S p e below T12 (mkF m 72 #[.val (.ref x1), .val (.int (Int32.ofNat i1)), .val (.int (cs.getD i1 0))] [(.int (own_isD (cs.getD i1 0)))]) _
        refine XS.ifNo X12.here hx rfl (hb hby d_prog_18_method_2_72) rfl ((if0 _ _).trans (teq hc72).2) ?_
        show own_S p e below T12 (mkF m 75 #[.val (.ref x1), .val (.int (Int32.ofNat i1)), .val (.int (cs.getD i1 0))] []) _
        refine XS.iloadN X12.here hx rfl (hb hby d_prog_18_method_2_75) rfl ?_
        show own_S p e below T12 (mkF m 76 #[.val (.ref x1), .val (.int (Int32.ofNat i1)), .val (.int (cs.getD i1 0))] [(.int (cs.getD i1 0))]) _
        refine XS.bipush X12.here hx rfl (hb hby d_prog_18_method_2_76) ?_
        exact kt)
      by_cases hc78 : (cs.getD i1 0) = (45 : Int32)
      · have kn15 : ∀ t, own_S p e below T12 (mkF m 47 #[.val (.ref x1), .val (.int ((Int32.ofNat i1) + (1 : Int32))), .val (.int (cs.getD i1 0))] []) t → own_S p e below T0 (mkF m 47 #[.val (.ref x1), .val (.int (Int32.ofNat i1)), .unset] []) t := fun t kt => kn14 t (by
          show own_S p e below T12 (mkF m 78 #[.val (.ref x1), .val (.int (Int32.ofNat i1)), .val (.int (cs.getD i1 0))] [(.int (45 : Int32)), (.int (cs.getD i1 0))]) _
          refine XS.icmpYes X12.here hx rfl (pc0 := 78) (pc' := 103) rfl (hb hby d_prog_18_method_2_78) rfl (teq hc78).1 (by decide) (by decide) ?_
          show own_S p e below T12 (mkF m 103 #[.val (.ref x1), .val (.int (Int32.ofNat i1)), .val (.int (cs.getD i1 0))] []) _
          refine XS.iinc X12.here hx rfl (hb hby d_prog_18_method_2_103) rfl (l' := #[.val (.ref x1), .val (.int ((Int32.ofNat i1) + (1 : Int32))), .val (.int (cs.getD i1 0))]) rfl ?_
          show own_S p e below T12 (mkF m 106 #[.val (.ref x1), .val (.int ((Int32.ofNat i1) + (1 : Int32))), .val (.int (cs.getD i1 0))] []) _
          refine XS.goto X12.here hx rfl (pc0 := 106) (pc' := 47) rfl (hb hby d_prog_18_method_2_106) (by decide) (by decide) ?_
          exact kt)
        have Xe := X12
        simp only [List.append_nil, Nat.add_zero] at Xe
        exact ⟨T12, Xe, eq12, kn15⟩
      · have kn16 : ∀ t, own_S p e below T12 (mkF m 84 #[.val (.ref x1), .val (.int (Int32.ofNat i1)), .val (.int (cs.getD i1 0))] [(.int (95 : Int32)), (.int (cs.getD i1 0))]) t → own_S p e below T0 (mkF m 47 #[.val (.ref x1), .val (.int (Int32.ofNat i1)), .unset] []) t := fun t kt => kn14 t (by
          show own_S p e below T12 (mkF m 78 #[.val (.ref x1), .val (.int (Int32.ofNat i1)), .val (.int (cs.getD i1 0))] [(.int (45 : Int32)), (.int (cs.getD i1 0))]) _
          refine XS.icmpNo X12.here hx rfl (hb hby d_prog_18_method_2_78) rfl (feq hc78).1 ?_
          show own_S p e below T12 (mkF m 81 #[.val (.ref x1), .val (.int (Int32.ofNat i1)), .val (.int (cs.getD i1 0))] []) _
          refine XS.iloadN X12.here hx rfl (hb hby d_prog_18_method_2_81) rfl ?_
          show own_S p e below T12 (mkF m 82 #[.val (.ref x1), .val (.int (Int32.ofNat i1)), .val (.int (cs.getD i1 0))] [(.int (cs.getD i1 0))]) _
          refine XS.bipush X12.here hx rfl (hb hby d_prog_18_method_2_82) ?_
          exact kt)
        have hc84_17 : (cs.getD i1 0) = (95 : Int32) := hgood.1 hc65 hc72 hc78
        have kn18 : ∀ t, own_S p e below T12 (mkF m 47 #[.val (.ref x1), .val (.int ((Int32.ofNat i1) + (1 : Int32))), .val (.int (cs.getD i1 0))] []) t → own_S p e below T0 (mkF m 47 #[.val (.ref x1), .val (.int (Int32.ofNat i1)), .unset] []) t := fun t kt => kn16 t (by
          show own_S p e below T12 (mkF m 84 #[.val (.ref x1), .val (.int (Int32.ofNat i1)), .val (.int (cs.getD i1 0))] [(.int (95 : Int32)), (.int (cs.getD i1 0))]) _
          refine XS.icmpYes X12.here hx rfl (pc0 := 84) (pc' := 103) rfl (hb hby d_prog_18_method_2_84) rfl (teq hc84_17).1 (by decide) (by decide) ?_
          show own_S p e below T12 (mkF m 103 #[.val (.ref x1), .val (.int (Int32.ofNat i1)), .val (.int (cs.getD i1 0))] []) _
          refine XS.iinc X12.here hx rfl (hb hby d_prog_18_method_2_103) rfl (l' := #[.val (.ref x1), .val (.int ((Int32.ofNat i1) + (1 : Int32))), .val (.int (cs.getD i1 0))]) rfl ?_
          show own_S p e below T12 (mkF m 106 #[.val (.ref x1), .val (.int ((Int32.ofNat i1) + (1 : Int32))), .val (.int (cs.getD i1 0))] []) _
          refine XS.goto X12.here hx rfl (pc0 := 106) (pc' := 47) rfl (hb hby d_prog_18_method_2_106) (by decide) (by decide) ?_
          exact kt)
        have Xe := X12
        simp only [List.append_nil, Nat.add_zero] at Xe
        exact ⟨T12, Xe, eq12, kn18⟩
    · have kn19 : ∀ t, own_S p e below T12 (mkF m 47 #[.val (.ref x1), .val (.int ((Int32.ofNat i1) + (1 : Int32))), .val (.int (cs.getD i1 0))] []) t → own_S p e below T0 (mkF m 47 #[.val (.ref x1), .val (.int (Int32.ofNat i1)), .unset] []) t := fun t kt => kn13 t (by
        show own_S p e below T12 (mkF m 72 #[.val (.ref x1), .val (.int (Int32.ofNat i1)), .val (.int (cs.getD i1 0))] [(.int (own_isD (cs.getD i1 0)))]) _
        refine XS.ifYes X12.here hx rfl (pc0 := 72) (pc' := 103) rfl (hb hby d_prog_18_method_2_72) rfl ((if0 _ _).trans (feq hc72).2) (by decide) (by decide) ?_
        show own_S p e below T12 (mkF m 103 #[.val (.ref x1), .val (.int (Int32.ofNat i1)), .val (.int (cs.getD i1 0))] []) _
        refine XS.iinc X12.here hx rfl (hb hby d_prog_18_method_2_103) rfl (l' := #[.val (.ref x1), .val (.int ((Int32.ofNat i1) + (1 : Int32))), .val (.int (cs.getD i1 0))]) rfl ?_
        show own_S p e below T12 (mkF m 106 #[.val (.ref x1), .val (.int ((Int32.ofNat i1) + (1 : Int32))), .val (.int (cs.getD i1 0))] []) _
        refine XS.goto X12.here hx rfl (pc0 := 106) (pc' := 47) rfl (hb hby d_prog_18_method_2_106) (by decide) (by decide) ?_
        exact kt)
      have Xe := X12
      simp only [List.append_nil, Nat.add_zero] at Xe
      exact ⟨T12, Xe, eq12, kn19⟩
  · have kn20 : ∀ t, own_S p e below T9 (mkF m 47 #[.val (.ref x1), .val (.int ((Int32.ofNat i1) + (1 : Int32))), .val (.int (cs.getD i1 0))] []) t → own_S p e below T0 (mkF m 47 #[.val (.ref x1), .val (.int (Int32.ofNat i1)), .unset] []) t := fun t kt => kn10 t (by
      show own_S p e below T9 (mkF m 65 #[.val (.ref x1), .val (.int (Int32.ofNat i1)), .val (.int (cs.getD i1 0))] [(.int (own_isL (cs.getD i1 0)))]) _
      refine XS.ifYes X9.here hx rfl (pc0 := 65) (pc' := 103) rfl (hb hby d_prog_18_method_2_65) rfl ((if0 _ _).trans (feq hc65).2) (by decide) (by decide) ?_
      show own_S p e below T9 (mkF m 103 #[.val (.ref x1), .val (.int (Int32.ofNat i1)), .val (.int (cs.getD i1 0))] []) _
      refine XS.iinc X9.here hx rfl (hb hby d_prog_18_method_2_103) rfl (l' := #[.val (.ref x1), .val (.int ((Int32.ofNat i1) + (1 : Int32))), .val (.int (cs.getD i1 0))]) rfl ?_
      show own_S p e below T9 (mkF m 106 #[.val (.ref x1), .val (.int ((Int32.ofNat i1) + (1 : Int32))), .val (.int (cs.getD i1 0))] []) _
      refine XS.goto X9.here hx rfl (pc0 := 106) (pc' := 47) rfl (hb hby d_prog_18_method_2_106) (by decide) (by decide) ?_
      exact kt)
    have Xe := X9
    simp only [List.append_nil, Nat.add_zero] at Xe
    exact ⟨T9, Xe, eq9, kn20⟩

set_option maxRecDepth 65536 in
set_option maxHeartbeats 40000000 in
theorem turn_b {p : Program} {l : Launch} {e : Env} {s : State} {m : MethodId} {args : Array Value} {below : List Frame} {meth : Method} {c : Code} {T0 : State} {locs : List Loc} {cells slots : Nat} {Z : State} {a0 : Array Value} {h0 : Heap} {n0 : Nat} {x1 : Addr} {t1 : Addr} {k1 : ClassId} {cs : List Int32} {i1 : Nat} {G1 : Int32} {G3 : Value} {c2 : Int32}
    (X0 : Stand p l e ({ frames := 5, cells := 3, slots := 25, locals := 60 } : Room) s m args below meth c T0 locs cells slots) (hx : p.tables.exec = Jvm.exec) (hZ : Z.Warmed39 s.vm) (hw : ∀ d ∈ tables_1, d.before a0 Z = true) (hby : c.code = prog_18_method_2_code) (hml : c.maxLocals = 3) (hown : s.vm.findClass "com/example/dual_delivery/dualdelivery/model/ResourceName" = some m.cls) (e0 : T0.heap = h0) (hcell : cells ≤ ({ frames := 5, cells := 3, slots := 25, locals := 60 } : Room).cells) (hslot : slots ≤ ({ frames := 5, cells := 3, slots := 25, locals := 60 } : Room).slots) (E_x1 : Exa Z h0 x1 "java/lang/String") (V_x1 : Fld Z h0 x1 "java/lang/String" "value" "[B" (.ref t1)) (C_x1 : Fld Z h0 x1 "java/lang/String" "coder" "B" (.int (0 : Int32))) (K_x1 : Arv Z h0 t1 k1 .byte (Int32.ofNat cs.length) ((cs.map (fun c => c.toInt8.toInt32)).map Value.int) (.int (0 : Int32))) (hp_x1 : ∀ c ∈ cs, ¬ c < 0 ∧ ¬ (255 : Int32) < c) (hl_x1 : cs.length ≤ 64) (Z0 : n0 ≤ h0.size) (hi : i1 < cs.length) (hgood : own_good (cs.getD i1 0)) (O0 : Old Z n0 h0) (O2 : Sta Z Z.heap "java/lang/String" "COMPACT_STRINGS" "Z" (.int G1)) (P5 : ¬ (G1 = (0 : Int32))) (O4 : Sta Z Z.heap "jdk/internal/util/Preconditions" "SIOOBE_FORMATTER" "Ljava/util/function/BiFunction;" G3) (rG3 : G3.isRef = true) :
    ∃ T' : State, Stand p l e ({ frames := 5, cells := 3, slots := 25, locals := 60 } : Room) s m args below meth c T' locs cells slots ∧ T'.heap = h0 ∧ ∀ t, own_S p e below T' (mkF m 47 #[.val (.ref x1), .val (.int ((Int32.ofNat i1) + (1 : Int32))), .val (.int (cs.getD i1 0))] []) t → own_S p e below T0 (mkF m 47 #[.val (.ref x1), .val (.int (Int32.ofNat i1)), .val (.int c2)] []) t := by
  have Nf0 := Fr.nil n0
  have kn0 : ∀ t, own_S p e below T0 (mkF m 47 #[.val (.ref x1), .val (.int (Int32.ofNat i1)), .val (.int c2)] []) t → own_S p e below T0 (mkF m 47 #[.val (.ref x1), .val (.int (Int32.ofNat i1)), .val (.int c2)] []) t := fun t k => k
  have kn1 : ∀ t, own_S p e below T0 (mkF m 49 #[.val (.ref x1), .val (.int (Int32.ofNat i1)), .val (.int c2)] [(.ref x1), (.int (Int32.ofNat i1))]) t → own_S p e below T0 (mkF m 47 #[.val (.ref x1), .val (.int (Int32.ofNat i1)), .val (.int c2)] []) t := fun t kt => kn0 t (by
    show own_S p e below T0 (mkF m 47 #[.val (.ref x1), .val (.int (Int32.ofNat i1)), .val (.int c2)] []) _
    refine XS.iloadN X0.here hx rfl (hb hby d_prog_18_method_2_47) rfl ?_
    show own_S p e below T0 (mkF m 48 #[.val (.ref x1), .val (.int (Int32.ofNat i1)), .val (.int c2)] [(.int (Int32.ofNat i1))]) _
    refine XS.aloadN X0.here hx rfl (hb hby d_prog_18_method_2_48) rfl rfl ?_
    exact kt)
  have hln : ∀ d ∈ StrChars.Road.wordsLen, d.before a0 Z = true := fun d hd => hw d ((by decide +kernel : ∀ d ∈ StrChars.Road.wordsLen, d ∈ tables_1) d hd)
  obtain ⟨cq2, kq2, qa2, qb2, qc2⟩ := isOf hZ e0 E_x1
  obtain ⟨_, _, ⟨T2, L2, cc2, ss2⟩, -, X2, ⟨Lc2, hQ2, l2, y2, z2⟩, st2⟩ := X0.virtualBack hx (y := (⟨"java/lang/String", "length", "()I"⟩ : MethodName)) (z := (⟨"java/lang/String", "length", "()I"⟩ : MethodName)) hown (mvT hZ (hw _ (List.mem_of_getElem? (i := 92) rfl))) (mvT hZ (hw _ (List.mem_of_getElem? (i := 93) rfl))) (notFace_of_selects (args := #[]) (mvT hZ (hw _ (List.mem_of_getElem? (i := 95) rfl)))) (mvT hZ (hw _ (List.mem_of_getElem? (i := 95) rfl))) (mvT hZ (hw _ (List.mem_of_getElem? (i := 94) rfl))) (by decide) (StrChars.Road.lenW (W := 1) hZ hln (kI := 4) (hw _ (List.mem_of_getElem? (i := 10) rfl)) E_x1 V_x1 C_x1 K_x1 (StrChars.Road.codOf (cs := cs) (n := cs.length) rfl (fun x hx => (hp_x1 x hx).2)) (own_up _ hp_x1) (O2.ext O0.2) P5 (Nat.le_trans hl_x1 (by decide)) (by decide) (by decide)) qa2 qc2 (g := (mkF m 49 #[.val (.ref x1), .val (.int (Int32.ofNat i1)), .val (.int c2)] [(.ref x1), (.int (Int32.ofNat i1))])) rfl (by rw [hml]; rfl) (Steps.refl _) (argsL := []) (rest := [(.int (Int32.ofNat i1))]) (lenOf pd_3 rfl) rfl (by show 2 * 0 + _ ≤ _; exact Nat.le_of_eq rfl) (hb hby d_prog_18_method_2_49) (fun _ _ => ⟨rfl, e0, hcell, hslot⟩)
  dsimp only [Pt.U, Pt.locs, Pt.cells, Pt.slots] at X2 l2 y2 z2 st2 hQ2
  subst l2 y2 z2
  obtain ⟨rfl, rfl, eq2⟩ := hQ2
  have Nq2 : Fr n0 ([] : List Loc) := Fr.nil n0
  have Nf2 := Fr.app Nf0 Nq2
  have kn3 : ∀ t, own_S p e below T2 (mkF m 52 #[.val (.ref x1), .val (.int (Int32.ofNat i1)), .val (.int c2)] [(.int (Int32.ofNat cs.length)), (.int (Int32.ofNat i1))]) t → own_S p e below T0 (mkF m 47 #[.val (.ref x1), .val (.int (Int32.ofNat i1)), .val (.int c2)] []) t := fun t kt => kn1 t (st2.trans kt)
  have hc52_4 : (Int32.ofNat i1) < (Int32.ofNat cs.length) := own_lt hi hl_x1
  have kn5 : ∀ t, own_S p e below T2 (mkF m 57 #[.val (.ref x1), .val (.int (Int32.ofNat i1)), .val (.int c2)] [(.int (Int32.ofNat i1)), (.ref x1)]) t → own_S p e below T0 (mkF m 47 #[.val (.ref x1), .val (.int (Int32.ofNat i1)), .val (.int c2)] []) t := fun t kt => kn3 t (by
    show own_S p e below T2 (mkF m 52 #[.val (.ref x1), .val (.int (Int32.ofNat i1)), .val (.int c2)] [(.int (Int32.ofNat cs.length)), (.int (Int32.ofNat i1))]) _
    refine XS.icmpNo X2.here hx rfl (hb hby d_prog_18_method_2_52) rfl (tlt hc52_4).2.1 ?_
    show own_S p e below T2 (mkF m 55 #[.val (.ref x1), .val (.int (Int32.ofNat i1)), .val (.int c2)] []) _
    refine XS.aloadN X2.here hx rfl (hb hby d_prog_18_method_2_55) rfl rfl ?_
    show own_S p e below T2 (mkF m 56 #[.val (.ref x1), .val (.int (Int32.ofNat i1)), .val (.int c2)] [(.ref x1)]) _
    refine XS.iloadN X2.here hx rfl (hb hby d_prog_18_method_2_56) rfl ?_
    exact kt)
  have hch : ∀ d ∈ StrChars.Road.wordsChN, d.before a0 Z = true := fun d hd => hw d ((by decide +kernel : ∀ d ∈ StrChars.Road.wordsChN, d ∈ tables_1) d hd)
  obtain ⟨cq6, kq6, qa6, qb6, qc6⟩ := isOf hZ eq2 E_x1
  obtain ⟨_, _, ⟨T6, L6, cc6, ss6⟩, -, X6, ⟨Lc6, hQ6, l6, y6, z6⟩, st6⟩ := X2.virtualBack hx (y := (⟨"java/lang/String", "charAt", "(I)C"⟩ : MethodName)) (z := (⟨"java/lang/String", "charAt", "(I)C"⟩ : MethodName)) hown (mvT hZ (hw _ (List.mem_of_getElem? (i := 68) rfl))) (mvT hZ (hw _ (List.mem_of_getElem? (i := 69) rfl))) (notFace_of_selects (args := #[]) (mvT hZ (hw _ (List.mem_of_getElem? (i := 71) rfl)))) (mvT hZ (hw _ (List.mem_of_getElem? (i := 71) rfl))) (mvT hZ (hw _ (List.mem_of_getElem? (i := 70) rfl))) (by decide) (StrChars.Road.chN (W := 0) hZ hch (kI := 4) (hw _ (List.mem_of_getElem? (i := 10) rfl)) E_x1 V_x1 C_x1 K_x1 (StrChars.Road.codOf (cs := cs) (n := cs.length) rfl (fun x hx => (hp_x1 x hx).2)) (own_up _ hp_x1) (O2.ext O0.2) P5 (O4.ext O0.2) rG3 (Nat.le_trans hl_x1 (by decide)) (i := i1) hi (j := (Int32.ofNat i1)) rfl (by decide) (by decide)) qa6 qc6 (g := (mkF m 57 #[.val (.ref x1), .val (.int (Int32.ofNat i1)), .val (.int c2)] [(.int (Int32.ofNat i1)), (.ref x1)])) rfl (by rw [hml]; rfl) (Steps.refl _) (argsL := [(.int (Int32.ofNat i1))]) (rest := []) (lenOf pd_4 rfl) rfl (by show 2 * 0 + _ ≤ _; exact Nat.le_of_eq rfl) (hb hby d_prog_18_method_2_57) (fun _ _ => ⟨rfl, eq2, hcell, hslot⟩)
  dsimp only [Pt.U, Pt.locs, Pt.cells, Pt.slots] at X6 l6 y6 z6 st6 hQ6
  subst l6 y6 z6
  obtain ⟨rfl, rfl, eq6⟩ := hQ6
  have Nq6 : Fr n0 ([] : List Loc) := Fr.nil n0
  have Nf6 := Fr.app Nf2 Nq6
  have kn7 : ∀ t, own_S p e below T6 (mkF m 60 #[.val (.ref x1), .val (.int (Int32.ofNat i1)), .val (.int c2)] [(.int (cs.getD i1 0))]) t → own_S p e below T0 (mkF m 47 #[.val (.ref x1), .val (.int (Int32.ofNat i1)), .val (.int c2)] []) t := fun t kt => kn5 t (st6.trans kt)
  have kn8 : ∀ t, own_S p e below T6 (mkF m 62 #[.val (.ref x1), .val (.int (Int32.ofNat i1)), .val (.int (cs.getD i1 0))] [(.int (cs.getD i1 0))]) t → own_S p e below T0 (mkF m 47 #[.val (.ref x1), .val (.int (Int32.ofNat i1)), .val (.int c2)] []) t := fun t kt => kn7 t (by
    show own_S p e below T6 (mkF m 60 #[.val (.ref x1), .val (.int (Int32.ofNat i1)), .val (.int c2)] [(.int (cs.getD i1 0))]) _
    refine XS.istoreN X6.here hx rfl (hb hby d_prog_18_method_2_60) rfl (l' := #[.val (.ref x1), .val (.int (Int32.ofNat i1)), .val (.int (cs.getD i1 0))]) rfl ?_
    show own_S p e below T6 (mkF m 61 #[.val (.ref x1), .val (.int (Int32.ofNat i1)), .val (.int (cs.getD i1 0))] []) _
    refine XS.iloadN X6.here hx rfl (hb hby d_prog_18_method_2_61) rfl ?_
    exact kt)
  obtain ⟨_, _, ⟨T9, L9, cc9, ss9⟩, -, X9, ⟨Lc9, hQ9, l9, y9, z9⟩, st9⟩ := Jvm.LawKit.callS X6 hx (y := (⟨"com/example/dual_delivery/dualdelivery/model/ResourceName", "isLetter", "(C)Z"⟩ : MethodName)) hown (mvT hZ (hw _ (List.mem_of_getElem? (i := 89) rfl))) (mvT hZ (hw _ (List.mem_of_getElem? (i := 90) rfl))) (mvT hZ (hw _ (List.mem_of_getElem? (i := 54) rfl))) (mvT hZ (hw _ (List.mem_of_getElem? (i := 91) rfl))) (by decide) (backOf (W := 0) (rm21 l Z a0 hw [] (cs.getD i1 0)  h0 n0 Z0 ) hZ (hw _ (List.mem_of_getElem? (i := 91) rfl)) (hw _ (List.mem_of_getElem? (i := 54) rfl)) (by decide) (by decide)) (g := (mkF m 62 #[.val (.ref x1), .val (.int (Int32.ofNat i1)), .val (.int (cs.getD i1 0))] [(.int (cs.getD i1 0))])) rfl (by rw [hml]; rfl) (argsL := [(.int (cs.getD i1 0))]) (rest := []) (lenOf pd_0 rfl) rfl (by show 2 * 0 + _ ≤ _; exact Nat.le_of_eq rfl) (hb hby d_prog_18_method_2_62) (fun _ _ => ⟨rfl, eq6, hcell, hslot⟩)
  dsimp only [Pt.U, Pt.locs, Pt.cells, Pt.slots] at X9 l9 y9 z9 st9 hQ9
  subst l9 y9 z9
  obtain ⟨rfl, Nq9, eq9, rfl⟩ := hQ9
  have Nf9 := Fr.app Nf6 Nq9
  have kn10 : ∀ t, own_S p e below T9 (mkF m 65 #[.val (.ref x1), .val (.int (Int32.ofNat i1)), .val (.int (cs.getD i1 0))] [(.int (own_isL (cs.getD i1 0)))]) t → own_S p e below T0 (mkF m 47 #[.val (.ref x1), .val (.int (Int32.ofNat i1)), .val (.int c2)] []) t := fun t kt => kn8 t (st9 _ kt)
  by_cases hc65 : (own_isL (cs.getD i1 0)) = (0 : Int32)
  · have kn11 : ∀ t, own_S p e below T9 (mkF m 69 #[.val (.ref x1), .val (.int (Int32.ofNat i1)), .val (.int (cs.getD i1 0))] [(.int (cs.getD i1 0))]) t → own_S p e below T0 (mkF m 47 #[.val (.ref x1), .val (.int (Int32.ofNat i1)), .val (.int c2)] []) t := fun t kt => kn10 t (by
      show own_S p e below T9 (mkF m 65 #[.val (.ref x1), .val (.int (Int32.ofNat i1)), .val (.int (cs.getD i1 0))] [(.int (own_isL (cs.getD i1 0)))]) _
      refine XS.ifNo X9.here hx rfl (hb hby d_prog_18_method_2_65) rfl ((if0 _ _).trans (teq hc65).2) ?_
      show own_S p e below T9 (mkF m 68 #[.val (.ref x1), .val (.int (Int32.ofNat i1)), .val (.int (cs.getD i1 0))] []) _
      refine XS.iloadN X9.here hx rfl (hb hby d_prog_18_method_2_68) rfl ?_
      exact kt)
    obtain ⟨_, _, ⟨T12, L12, cc12, ss12⟩, -, X12, ⟨Lc12, hQ12, l12, y12, z12⟩, st12⟩ := Jvm.LawKit.callS X9 hx (y := (⟨"com/example/dual_delivery/dualdelivery/model/ResourceName", "isDigit", "(C)Z"⟩ : MethodName)) hown (mvT hZ (hw _ (List.mem_of_getElem? (i := 130) rfl))) (mvT hZ (hw _ (List.mem_of_getElem? (i := 131) rfl))) (mvT hZ (hw _ (List.mem_of_getElem? (i := 54) rfl))) (mvT hZ (hw _ (List.mem_of_getElem? (i := 132) rfl))) (by decide) (backOf (W := 0) (rm29 l Z a0 hw [] (cs.getD i1 0)  h0 n0 Z0 ) hZ (hw _ (List.mem_of_getElem? (i := 132) rfl)) (hw _ (List.mem_of_getElem? (i := 54) rfl)) (by decide) (by decide)) (g := (mkF m 69 #[.val (.ref x1), .val (.int (Int32.ofNat i1)), .val (.int (cs.getD i1 0))] [(.int (cs.getD i1 0))])) rfl (by rw [hml]; rfl) (argsL := [(.int (cs.getD i1 0))]) (rest := []) (lenOf pd_0 rfl) rfl (by show 2 * 0 + _ ≤ _; exact Nat.le_of_eq rfl) (hb hby d_prog_18_method_2_69) (fun _ _ => ⟨rfl, eq9, hcell, hslot⟩)
    dsimp only [Pt.U, Pt.locs, Pt.cells, Pt.slots] at X12 l12 y12 z12 st12 hQ12
    subst l12 y12 z12
    obtain ⟨rfl, Nq12, eq12, rfl⟩ := hQ12
    have Nf12 := Fr.app Nf9 Nq12
    have kn13 : ∀ t, own_S p e below T12 (mkF m 72 #[.val (.ref x1), .val (.int (Int32.ofNat i1)), .val (.int (cs.getD i1 0))] [(.int (own_isD (cs.getD i1 0)))]) t → own_S p e below T0 (mkF m 47 #[.val (.ref x1), .val (.int (Int32.ofNat i1)), .val (.int c2)] []) t := fun t kt => kn11 t (st12 _ kt)
    by_cases hc72 : (own_isD (cs.getD i1 0)) = (0 : Int32)
    · have kn14 : ∀ t, own_S p e below T12 (mkF m 78 #[.val (.ref x1), .val (.int (Int32.ofNat i1)), .val (.int (cs.getD i1 0))] [(.int (45 : Int32)), (.int (cs.getD i1 0))]) t → own_S p e below T0 (mkF m 47 #[.val (.ref x1), .val (.int (Int32.ofNat i1)), .val (.int c2)] []) t := fun t kt => kn13 t (by
        show own_S p e below T12 (mkF m 72 #[.val (.ref x1), .val (.int (Int32.ofNat i1)), .val (.int (cs.getD i1 0))] [(.int (own_isD (cs.getD i1 0)))]) _
        refine XS.ifNo X12.here hx rfl (hb hby d_prog_18_method_2_72) rfl ((if0 _ _).trans (teq hc72).2) ?_
        show own_S p e below T12 (mkF m 75 #[.val (.ref x1), .val (.int (Int32.ofNat i1)), .val (.int (cs.getD i1 0))] []) _
        refine XS.iloadN X12.here hx rfl (hb hby d_prog_18_method_2_75) rfl ?_
        show own_S p e below T12 (mkF m 76 #[.val (.ref x1), .val (.int (Int32.ofNat i1)), .val (.int (cs.getD i1 0))] [(.int (cs.getD i1 0))]) _
        refine XS.bipush X12.here hx rfl (hb hby d_prog_18_method_2_76) ?_
        exact kt)
      by_cases hc78 : (cs.getD i1 0) = (45 : Int32)
      · have kn15 : ∀ t, own_S p e below T12 (mkF m 47 #[.val (.ref x1), .val (.int ((Int32.ofNat i1) + (1 : Int32))), .val (.int (cs.getD i1 0))] []) t → own_S p e below T0 (mkF m 47 #[.val (.ref x1), .val (.int (Int32.ofNat i1)), .val (.int c2)] []) t := fun t kt => kn14 t (by
          show own_S p e below T12 (mkF m 78 #[.val (.ref x1), .val (.int (Int32.ofNat i1)), .val (.int (cs.getD i1 0))] [(.int (45 : Int32)), (.int (cs.getD i1 0))]) _
          refine XS.icmpYes X12.here hx rfl (pc0 := 78) (pc' := 103) rfl (hb hby d_prog_18_method_2_78) rfl (teq hc78).1 (by decide) (by decide) ?_
          show own_S p e below T12 (mkF m 103 #[.val (.ref x1), .val (.int (Int32.ofNat i1)), .val (.int (cs.getD i1 0))] []) _
          refine XS.iinc X12.here hx rfl (hb hby d_prog_18_method_2_103) rfl (l' := #[.val (.ref x1), .val (.int ((Int32.ofNat i1) + (1 : Int32))), .val (.int (cs.getD i1 0))]) rfl ?_
          show own_S p e below T12 (mkF m 106 #[.val (.ref x1), .val (.int ((Int32.ofNat i1) + (1 : Int32))), .val (.int (cs.getD i1 0))] []) _
          refine XS.goto X12.here hx rfl (pc0 := 106) (pc' := 47) rfl (hb hby d_prog_18_method_2_106) (by decide) (by decide) ?_
          exact kt)
        have Xe := X12
        simp only [List.append_nil, Nat.add_zero] at Xe
        exact ⟨T12, Xe, eq12, kn15⟩
      · have kn16 : ∀ t, own_S p e below T12 (mkF m 84 #[.val (.ref x1), .val (.int (Int32.ofNat i1)), .val (.int (cs.getD i1 0))] [(.int (95 : Int32)), (.int (cs.getD i1 0))]) t → own_S p e below T0 (mkF m 47 #[.val (.ref x1), .val (.int (Int32.ofNat i1)), .val (.int c2)] []) t := fun t kt => kn14 t (by
          show own_S p e below T12 (mkF m 78 #[.val (.ref x1), .val (.int (Int32.ofNat i1)), .val (.int (cs.getD i1 0))] [(.int (45 : Int32)), (.int (cs.getD i1 0))]) _
          refine XS.icmpNo X12.here hx rfl (hb hby d_prog_18_method_2_78) rfl (feq hc78).1 ?_
          show own_S p e below T12 (mkF m 81 #[.val (.ref x1), .val (.int (Int32.ofNat i1)), .val (.int (cs.getD i1 0))] []) _
          refine XS.iloadN X12.here hx rfl (hb hby d_prog_18_method_2_81) rfl ?_
          show own_S p e below T12 (mkF m 82 #[.val (.ref x1), .val (.int (Int32.ofNat i1)), .val (.int (cs.getD i1 0))] [(.int (cs.getD i1 0))]) _
          refine XS.bipush X12.here hx rfl (hb hby d_prog_18_method_2_82) ?_
          exact kt)
        have hc84_17 : (cs.getD i1 0) = (95 : Int32) := hgood.1 hc65 hc72 hc78
        have kn18 : ∀ t, own_S p e below T12 (mkF m 47 #[.val (.ref x1), .val (.int ((Int32.ofNat i1) + (1 : Int32))), .val (.int (cs.getD i1 0))] []) t → own_S p e below T0 (mkF m 47 #[.val (.ref x1), .val (.int (Int32.ofNat i1)), .val (.int c2)] []) t := fun t kt => kn16 t (by
          show own_S p e below T12 (mkF m 84 #[.val (.ref x1), .val (.int (Int32.ofNat i1)), .val (.int (cs.getD i1 0))] [(.int (95 : Int32)), (.int (cs.getD i1 0))]) _
          refine XS.icmpYes X12.here hx rfl (pc0 := 84) (pc' := 103) rfl (hb hby d_prog_18_method_2_84) rfl (teq hc84_17).1 (by decide) (by decide) ?_
          show own_S p e below T12 (mkF m 103 #[.val (.ref x1), .val (.int (Int32.ofNat i1)), .val (.int (cs.getD i1 0))] []) _
          refine XS.iinc X12.here hx rfl (hb hby d_prog_18_method_2_103) rfl (l' := #[.val (.ref x1), .val (.int ((Int32.ofNat i1) + (1 : Int32))), .val (.int (cs.getD i1 0))]) rfl ?_
          show own_S p e below T12 (mkF m 106 #[.val (.ref x1), .val (.int ((Int32.ofNat i1) + (1 : Int32))), .val (.int (cs.getD i1 0))] []) _
          refine XS.goto X12.here hx rfl (pc0 := 106) (pc' := 47) rfl (hb hby d_prog_18_method_2_106) (by decide) (by decide) ?_
          exact kt)
        have Xe := X12
        simp only [List.append_nil, Nat.add_zero] at Xe
        exact ⟨T12, Xe, eq12, kn18⟩
    · have kn19 : ∀ t, own_S p e below T12 (mkF m 47 #[.val (.ref x1), .val (.int ((Int32.ofNat i1) + (1 : Int32))), .val (.int (cs.getD i1 0))] []) t → own_S p e below T0 (mkF m 47 #[.val (.ref x1), .val (.int (Int32.ofNat i1)), .val (.int c2)] []) t := fun t kt => kn13 t (by
        show own_S p e below T12 (mkF m 72 #[.val (.ref x1), .val (.int (Int32.ofNat i1)), .val (.int (cs.getD i1 0))] [(.int (own_isD (cs.getD i1 0)))]) _
        refine XS.ifYes X12.here hx rfl (pc0 := 72) (pc' := 103) rfl (hb hby d_prog_18_method_2_72) rfl ((if0 _ _).trans (feq hc72).2) (by decide) (by decide) ?_
        show own_S p e below T12 (mkF m 103 #[.val (.ref x1), .val (.int (Int32.ofNat i1)), .val (.int (cs.getD i1 0))] []) _
        refine XS.iinc X12.here hx rfl (hb hby d_prog_18_method_2_103) rfl (l' := #[.val (.ref x1), .val (.int ((Int32.ofNat i1) + (1 : Int32))), .val (.int (cs.getD i1 0))]) rfl ?_
        show own_S p e below T12 (mkF m 106 #[.val (.ref x1), .val (.int ((Int32.ofNat i1) + (1 : Int32))), .val (.int (cs.getD i1 0))] []) _
        refine XS.goto X12.here hx rfl (pc0 := 106) (pc' := 47) rfl (hb hby d_prog_18_method_2_106) (by decide) (by decide) ?_
        exact kt)
      have Xe := X12
      simp only [List.append_nil, Nat.add_zero] at Xe
      exact ⟨T12, Xe, eq12, kn19⟩
  · have kn20 : ∀ t, own_S p e below T9 (mkF m 47 #[.val (.ref x1), .val (.int ((Int32.ofNat i1) + (1 : Int32))), .val (.int (cs.getD i1 0))] []) t → own_S p e below T0 (mkF m 47 #[.val (.ref x1), .val (.int (Int32.ofNat i1)), .val (.int c2)] []) t := fun t kt => kn10 t (by
      show own_S p e below T9 (mkF m 65 #[.val (.ref x1), .val (.int (Int32.ofNat i1)), .val (.int (cs.getD i1 0))] [(.int (own_isL (cs.getD i1 0)))]) _
      refine XS.ifYes X9.here hx rfl (pc0 := 65) (pc' := 103) rfl (hb hby d_prog_18_method_2_65) rfl ((if0 _ _).trans (feq hc65).2) (by decide) (by decide) ?_
      show own_S p e below T9 (mkF m 103 #[.val (.ref x1), .val (.int (Int32.ofNat i1)), .val (.int (cs.getD i1 0))] []) _
      refine XS.iinc X9.here hx rfl (hb hby d_prog_18_method_2_103) rfl (l' := #[.val (.ref x1), .val (.int ((Int32.ofNat i1) + (1 : Int32))), .val (.int (cs.getD i1 0))]) rfl ?_
      show own_S p e below T9 (mkF m 106 #[.val (.ref x1), .val (.int ((Int32.ofNat i1) + (1 : Int32))), .val (.int (cs.getD i1 0))] []) _
      refine XS.goto X9.here hx rfl (pc0 := 106) (pc' := 47) rfl (hb hby d_prog_18_method_2_106) (by decide) (by decide) ?_
      exact kt)
    have Xe := X9
    simp only [List.append_nil, Nat.add_zero] at Xe
    exact ⟨T9, Xe, eq9, kn20⟩

set_option maxRecDepth 65536 in
set_option maxHeartbeats 40000000 in
theorem out {p : Program} {l : Launch} {e : Env} {s : State} {m : MethodId} {args : Array Value} {below : List Frame} {meth : Method} {c : Code} {T0 : State} {locs : List Loc} {cells slots : Nat} {Z : State} {a0 : Array Value} {h0 : Heap} {n0 : Nat} {x1 : Addr} {t1 : Addr} {k1 : ClassId} {cs : List Int32} {q1 : Slot} {G1 : Int32} {G3 : Value}
    (X0 : Stand p l e ({ frames := 5, cells := 3, slots := 25, locals := 60 } : Room) s m args below meth c T0 locs cells slots) (hx : p.tables.exec = Jvm.exec) (hZ : Z.Warmed39 s.vm) (hw : ∀ d ∈ tables_1, d.before a0 Z = true) (hby : c.code = prog_18_method_2_code) (hml : c.maxLocals = 3) (hown : s.vm.findClass "com/example/dual_delivery/dualdelivery/model/ResourceName" = some m.cls) (e0 : T0.heap = h0) (hcell : cells ≤ ({ frames := 5, cells := 3, slots := 25, locals := 60 } : Room).cells) (hslot : slots ≤ ({ frames := 5, cells := 3, slots := 25, locals := 60 } : Room).slots) (E_x1 : Exa Z h0 x1 "java/lang/String") (V_x1 : Fld Z h0 x1 "java/lang/String" "value" "[B" (.ref t1)) (C_x1 : Fld Z h0 x1 "java/lang/String" "coder" "B" (.int (0 : Int32))) (K_x1 : Arv Z h0 t1 k1 .byte (Int32.ofNat cs.length) ((cs.map (fun c => c.toInt8.toInt32)).map Value.int) (.int (0 : Int32))) (hp_x1 : ∀ c ∈ cs, ¬ c < 0 ∧ ¬ (255 : Int32) < c) (hl_x1 : cs.length ≤ 64) (O0 : Old Z n0 h0) (O2 : Sta Z Z.heap "java/lang/String" "COMPACT_STRINGS" "Z" (.int G1)) (P5 : ¬ (G1 = (0 : Int32))) (O4 : Sta Z Z.heap "jdk/internal/util/Preconditions" "SIOOBE_FORMATTER" "Ljava/util/function/BiFunction;" G3) (rG3 : G3.isRef = true) :
    ∃ T' : State, Stand p l e ({ frames := 5, cells := 3, slots := 25, locals := 60 } : Room) s m args below meth c T' locs cells slots ∧ T'.heap = h0 ∧ ∀ t, own_S p e below T' (mkF m 109 #[.val (.ref x1), .val (.int (Int32.ofNat cs.length)), q1] []) t → own_S p e below T0 (mkF m 47 #[.val (.ref x1), .val (.int (Int32.ofNat cs.length)), q1] []) t := by
  have Nf0 := Fr.nil n0
  have kn0 : ∀ t, own_S p e below T0 (mkF m 47 #[.val (.ref x1), .val (.int (Int32.ofNat cs.length)), q1] []) t → own_S p e below T0 (mkF m 47 #[.val (.ref x1), .val (.int (Int32.ofNat cs.length)), q1] []) t := fun t k => k
  have kn1 : ∀ t, own_S p e below T0 (mkF m 49 #[.val (.ref x1), .val (.int (Int32.ofNat cs.length)), q1] [(.ref x1), (.int (Int32.ofNat cs.length))]) t → own_S p e below T0 (mkF m 47 #[.val (.ref x1), .val (.int (Int32.ofNat cs.length)), q1] []) t := fun t kt => kn0 t (by
    show own_S p e below T0 (mkF m 47 #[.val (.ref x1), .val (.int (Int32.ofNat cs.length)), q1] []) _
    refine XS.iloadN X0.here hx rfl (hb hby d_prog_18_method_2_47) rfl ?_
    show own_S p e below T0 (mkF m 48 #[.val (.ref x1), .val (.int (Int32.ofNat cs.length)), q1] [(.int (Int32.ofNat cs.length))]) _
    refine XS.aloadN X0.here hx rfl (hb hby d_prog_18_method_2_48) rfl rfl ?_
    exact kt)
  have hln : ∀ d ∈ StrChars.Road.wordsLen, d.before a0 Z = true := fun d hd => hw d ((by decide +kernel : ∀ d ∈ StrChars.Road.wordsLen, d ∈ tables_1) d hd)
  obtain ⟨cq2, kq2, qa2, qb2, qc2⟩ := isOf hZ e0 E_x1
  obtain ⟨_, _, ⟨T2, L2, cc2, ss2⟩, -, X2, ⟨Lc2, hQ2, l2, y2, z2⟩, st2⟩ := X0.virtualBack hx (y := (⟨"java/lang/String", "length", "()I"⟩ : MethodName)) (z := (⟨"java/lang/String", "length", "()I"⟩ : MethodName)) hown (mvT hZ (hw _ (List.mem_of_getElem? (i := 92) rfl))) (mvT hZ (hw _ (List.mem_of_getElem? (i := 93) rfl))) (notFace_of_selects (args := #[]) (mvT hZ (hw _ (List.mem_of_getElem? (i := 95) rfl)))) (mvT hZ (hw _ (List.mem_of_getElem? (i := 95) rfl))) (mvT hZ (hw _ (List.mem_of_getElem? (i := 94) rfl))) (by decide) (StrChars.Road.lenW (W := 1) hZ hln (kI := 4) (hw _ (List.mem_of_getElem? (i := 10) rfl)) E_x1 V_x1 C_x1 K_x1 (StrChars.Road.codOf (cs := cs) (n := cs.length) rfl (fun x hx => (hp_x1 x hx).2)) (own_up _ hp_x1) (O2.ext O0.2) P5 (Nat.le_trans hl_x1 (by decide)) (by decide) (by decide)) qa2 qc2 (g := (mkF m 49 #[.val (.ref x1), .val (.int (Int32.ofNat cs.length)), q1] [(.ref x1), (.int (Int32.ofNat cs.length))])) rfl (by rw [hml]; rfl) (Steps.refl _) (argsL := []) (rest := [(.int (Int32.ofNat cs.length))]) (lenOf pd_3 rfl) rfl (by show 2 * 0 + _ ≤ _; exact Nat.le_of_eq rfl) (hb hby d_prog_18_method_2_49) (fun _ _ => ⟨rfl, e0, hcell, hslot⟩)
  dsimp only [Pt.U, Pt.locs, Pt.cells, Pt.slots] at X2 l2 y2 z2 st2 hQ2
  subst l2 y2 z2
  obtain ⟨rfl, rfl, eq2⟩ := hQ2
  have Nq2 : Fr n0 ([] : List Loc) := Fr.nil n0
  have Nf2 := Fr.app Nf0 Nq2
  have kn3 : ∀ t, own_S p e below T2 (mkF m 52 #[.val (.ref x1), .val (.int (Int32.ofNat cs.length)), q1] [(.int (Int32.ofNat cs.length)), (.int (Int32.ofNat cs.length))]) t → own_S p e below T0 (mkF m 47 #[.val (.ref x1), .val (.int (Int32.ofNat cs.length)), q1] []) t := fun t kt => kn1 t (st2.trans kt)
  have hc52_4 : ¬ ((Int32.ofNat cs.length) < (Int32.ofNat cs.length)) := own_irr _
  have kn5 : ∀ t, own_S p e below T2 (mkF m 109 #[.val (.ref x1), .val (.int (Int32.ofNat cs.length)), q1] []) t → own_S p e below T0 (mkF m 47 #[.val (.ref x1), .val (.int (Int32.ofNat cs.length)), q1] []) t := fun t kt => kn3 t (by
    show own_S p e below T2 (mkF m 52 #[.val (.ref x1), .val (.int (Int32.ofNat cs.length)), q1] [(.int (Int32.ofNat cs.length)), (.int (Int32.ofNat cs.length))]) _
    refine XS.icmpYes X2.here hx rfl (pc0 := 52) (pc' := 109) rfl (hb hby d_prog_18_method_2_52) rfl (flt hc52_4).2.1 (by decide) (by decide) ?_
    exact kt)
  have Xe := X2
  simp only [List.append_nil, Nat.add_zero] at Xe
  exact ⟨T2, Xe, eq2, kn5⟩

theorem own_loop {p : Program} {l : Launch} {e : Env} {s : State} {m : MethodId} {args : Array Value} {below : List Frame} {meth : Method} {c : Code} {locs : List Loc} {cells slots : Nat} {Z : State} {a0 : Array Value} {h0 : Heap} {n0 : Nat} {x1 : Addr} {t1 : Addr} {k1 : ClassId} {cs : List Int32} {G1 : Int32} {G3 : Value}
    (hx : p.tables.exec = Jvm.exec) (hZ : Z.Warmed39 s.vm) (hw : ∀ d ∈ tables_1, d.before a0 Z = true) (hby : c.code = prog_18_method_2_code) (hml : c.maxLocals = 3) (hown : s.vm.findClass "com/example/dual_delivery/dualdelivery/model/ResourceName" = some m.cls) (hcell : cells ≤ 3) (hslot : slots ≤ 25) (E_x1 : Exa Z h0 x1 "java/lang/String") (V_x1 : Fld Z h0 x1 "java/lang/String" "value" "[B" (.ref t1)) (C_x1 : Fld Z h0 x1 "java/lang/String" "coder" "B" (.int (0 : Int32))) (K_x1 : Arv Z h0 t1 k1 .byte (Int32.ofNat cs.length) ((cs.map (fun c => c.toInt8.toInt32)).map Value.int) (.int (0 : Int32))) (hp_x1 : ∀ c ∈ cs, ¬ c < 0 ∧ ¬ (255 : Int32) < c) (hl_x1 : cs.length ≤ 64) (O0 : Old Z n0 h0) (O2 : Sta Z Z.heap "java/lang/String" "COMPACT_STRINGS" "Z" (.int G1)) (P5 : ¬ (G1 = (0 : Int32))) (O4 : Sta Z Z.heap "jdk/internal/util/Preconditions" "SIOOBE_FORMATTER" "Ljava/util/function/BiFunction;" G3) (rG3 : G3.isRef = true) (Z0 : n0 ≤ h0.size) (hgd : ∀ c ∈ cs, own_good c) :
    ∀ (j i1 : Nat) (q1 : Slot) (T0 : State), (q1 = .unset ∨ ∃ z, q1 = .val (.int z)) → i1 + j = cs.length → Stand p l e ({ frames := 5, cells := 3, slots := 25, locals := 60 } : Room) s m args below meth c T0 locs cells slots → T0.heap = h0 → ∃ (T' : State) (q' : Slot), Stand p l e ({ frames := 5, cells := 3, slots := 25, locals := 60 } : Room) s m args below meth c T' locs cells slots ∧ T'.heap = h0 ∧ ∀ t, own_S p e below T' (mkF m 109 #[.val (.ref x1), .val (.int (Int32.ofNat cs.length)), q'] []) t → own_S p e below T0 (mkF m 47 #[.val (.ref x1), .val (.int (Int32.ofNat i1)), q1] []) t := by
  intro j
  induction j with
  | zero =>
    intro i1 q1 T0 _ hj X0 e0
    obtain rfl : i1 = cs.length := by omega
    obtain ⟨T', X', e', st⟩ := out X0 hx hZ hw hby hml hown e0 hcell hslot E_x1 V_x1 C_x1 K_x1 hp_x1 hl_x1 O0 O2 P5 O4 rG3
    exact ⟨T', q1, X', e', st⟩
  | succ j ih =>
    intro i1 q1 T0 hq hj X0 e0
    have hi : i1 < cs.length := by omega
    obtain ⟨T1, X1, e1, st1⟩ : ∃ T1 : State, Stand p l e ({ frames := 5, cells := 3, slots := 25, locals := 60 } : Room) s m args below meth c T1 locs cells slots ∧ T1.heap = h0 ∧ ∀ t, own_S p e below T1 (mkF m 47 #[.val (.ref x1), .val (.int ((Int32.ofNat i1) + (1 : Int32))), .val (.int (cs.getD i1 0))] []) t → own_S p e below T0 (mkF m 47 #[.val (.ref x1), .val (.int (Int32.ofNat i1)), q1] []) t := by
      rcases hq with rfl | ⟨z, rfl⟩
      · exact turn_a X0 hx hZ hw hby hml hown e0 hcell hslot E_x1 V_x1 C_x1 K_x1 hp_x1 hl_x1 Z0 hi (own_mem hgd hi) O0 O2 P5 O4 rG3
      · exact turn_b X0 hx hZ hw hby hml hown e0 hcell hslot E_x1 V_x1 C_x1 K_x1 hp_x1 hl_x1 Z0 hi (own_mem hgd hi) O0 O2 P5 O4 rG3
    rw [own_inc] at st1
    obtain ⟨T', q', X', e', st⟩ := ih (i1 + 1) _ T1 (Or.inr ⟨_, rfl⟩) (by omega) X1 e1
    exact ⟨T', q', X', e', fun t kt => st1 t (st t kt)⟩

theorem d_prog_18_method_2_0 : decode prog_18_method_2_code 0 = .ok (.aload_n 0, 1) := by decide +kernel
theorem d_prog_18_method_2_1 : decode prog_18_method_2_code 1 = .ok (.ldc 13, 2) := by decide +kernel
theorem d_prog_18_method_2_3 : decode prog_18_method_2_code 3 = .ok (.invokestatic 14, 3) := by decide +kernel
theorem d_prog_18_method_2_6 : decode prog_18_method_2_code 6 = .ok (.pop, 1) := by decide +kernel
theorem d_prog_18_method_2_7 : decode prog_18_method_2_code 7 = .ok (.aload_n 0, 1) := by decide +kernel
theorem d_prog_18_method_2_8 : decode prog_18_method_2_code 8 = .ok (.invokevirtual 20, 3) := by decide +kernel
theorem d_prog_18_method_2_11 : decode prog_18_method_2_code 11 = .ok (.ifCond .eq 13, 3) := by decide +kernel
theorem d_prog_18_method_2_24 : decode prog_18_method_2_code 24 = .ok (.aload_n 0, 1) := by decide +kernel
theorem d_prog_18_method_2_25 : decode prog_18_method_2_code 25 = .ok (.iconst 0, 1) := by decide +kernel
theorem d_prog_18_method_2_26 : decode prog_18_method_2_code 26 = .ok (.invokevirtual 33, 3) := by decide +kernel
theorem d_prog_18_method_2_29 : decode prog_18_method_2_code 29 = .ok (.invokestatic 37, 3) := by decide +kernel
theorem d_prog_18_method_2_32 : decode prog_18_method_2_code 32 = .ok (.ifCond .ne 13, 3) := by decide +kernel
theorem d_prog_18_method_2_45 : decode prog_18_method_2_code 45 = .ok (.iconst 1, 1) := by decide +kernel
theorem d_prog_18_method_2_46 : decode prog_18_method_2_code 46 = .ok (.istore_n 1, 1) := by decide +kernel
theorem d_prog_18_method_2_109 : decode prog_18_method_2_code 109 = .ok (.aload_n 0, 1) := by decide +kernel
theorem d_prog_18_method_2_110 : decode prog_18_method_2_code 110 = .ok (.invokevirtual 43, 3) := by decide +kernel
theorem d_prog_18_method_2_113 : decode prog_18_method_2_code 113 = .ok (.bipush 64, 2) := by decide +kernel
theorem d_prog_18_method_2_115 : decode prog_18_method_2_code 115 = .ok (.if_icmp .le 20, 3) := by decide +kernel
theorem d_prog_18_method_2_135 : decode prog_18_method_2_code 135 = .ok (.new 8, 3) := by decide +kernel
theorem d_prog_18_method_2_138 : decode prog_18_method_2_code 138 = .ok (.dup, 1) := by decide +kernel
theorem d_prog_18_method_2_139 : decode prog_18_method_2_code 139 = .ok (.aload_n 0, 1) := by decide +kernel
theorem d_prog_18_method_2_140 : decode prog_18_method_2_code 140 = .ok (.invokespecial 55, 3) := by decide +kernel
theorem d_prog_18_method_2_143 : decode prog_18_method_2_code 143 = .ok (.areturn, 1) := by decide +kernel
theorem pd_5 : parseMethodDescriptor "(Ljava/lang/Object;Ljava/lang/String;)Ljava/lang/Object;" = some ⟨[(.object "java/lang/Object"), (.object "java/lang/String")], some (.object "java/lang/Object")⟩ := by decide +kernel
theorem pd_6 : parseMethodDescriptor "()Z" = some ⟨[], some .boolean⟩ := by decide +kernel
theorem pd_7 : parseMethodDescriptor "(Ljava/lang/String;)V" = some ⟨[(.object "java/lang/String")], none⟩ := by decide +kernel
theorem ef_rm13 (m : MethodId) (x0 : Addr) : entryFrame m #[(.ref x0)] 3 = mkF m 0 #[.val (.ref x0), .unset, .unset] [] := by first | (simp [entryFrame, mkF, argsToLocals, Value.category]; done) | rfl
def Q13 (Z : State) (x1 : Addr) (t1 : Addr) (k1 : ClassId) (cs : List Int32) (G1 : Int32) (G3 : Value) (h0 : Heap) (n0 : Nat) (v : Option Value) (h : Heap) (L : List Loc) : Prop := ∃ b : Addr, v = some (.ref b) ∧ Fr n0 L ∧ n0 ≤ b ∧ Keep h0 h [] ∧ Exa Z h b "com/example/dual_delivery/dualdelivery/model/ResourceName" ∧ Fld Z h b "com/example/dual_delivery/dualdelivery/model/ResourceName" "value" "Ljava/lang/String;" (.ref x1)
set_option maxRecDepth 65536 in
set_option maxHeartbeats 40000000 in
theorem rm13 (l : Launch) (Z : State) (a0 : Array Value) (hw : ∀ d ∈ tables_1, d.before a0 Z = true) (ws : List Jvm.Cond) (x1 : Addr) (t1 : Addr) (k1 : ClassId) (cs : List Int32) (G1 : Int32) (G3 : Value) (h0 : Heap) (n0 : Nat) (Z0 : n0 ≤ h0.size) (E_x1 : Exa Z h0 x1 "java/lang/String") (V_x1 : Fld Z h0 x1 "java/lang/String" "value" "[B" (.ref t1)) (C_x1 : Fld Z h0 x1 "java/lang/String" "coder" "B" (.int (0 : Int32))) (K_x1 : Arv Z h0 t1 k1 .byte (Int32.ofNat cs.length) ((cs.map (fun c => c.toInt8.toInt32)).map Value.int) (.int (0 : Int32))) (hp_x1 : ∀ c ∈ cs, ¬ c < 0 ∧ ¬ (255 : Int32) < c) (hl_x1 : cs.length ≤ 64) (hne : 0 < cs.length) (hL : ¬ own_isL (cs.getD 0 0) = (0 : Int32)) (hgd : ∀ c ∈ cs, own_good c) (O0 : Old Z n0 h0) (O2 : Sta Z Z.heap "java/lang/String" "COMPACT_STRINGS" "Z" (.int G1)) (P5 : ¬ (G1 = (0 : Int32))) (O4 : Sta Z Z.heap "jdk/internal/util/Preconditions" "SIOOBE_FORMATTER" "Ljava/util/function/BiFunction;" G3) (rG3 : G3.isRef = true) :
    MetFree l (⟨"com/example/dual_delivery/dualdelivery/model/ResourceName", "of", "(Ljava/lang/String;)Lcom/example/dual_delivery/dualdelivery/model/ResourceName;"⟩ : MethodName) (head1 (Jvm.Cond.code (⟨"com/example/dual_delivery/dualdelivery/model/ResourceName", "of", "(Ljava/lang/String;)Lcom/example/dual_delivery/dualdelivery/model/ResourceName;"⟩ : MethodName) prog_18_method_2_code 3 (some (.object "com/example/dual_delivery/dualdelivery/model/ResourceName")) :: ws) ({ frames := 5, cells := 3, slots := 25, locals := 60 } : Room)) (fun a U => a = #[(.ref x1)] ∧ Z.Warmed39 U.vm ∧ U.heap = h0) (fun _ _ _ _ _ => True) (fun _ U o U' => ∃ v L, o = .returned v ∧ Q13 Z x1 t1 k1 cs G1 G3 h0 n0 v U'.heap L ∧ ReturnedEndW U o U' L ({ frames := 5, cells := 3, slots := 25, locals := 60 } : Room).cells ({ frames := 5, cells := 3, slots := 25, locals := 60 } : Room).slots) := by
  refine MetFree.of_bodySF (plainFor_of_name pn_1) hisR ?_
  intro p e s m args below meth c s₁ Bd hml0 hP hK
  obtain ⟨rfl, hZ, hh⟩ := hP
  have hx := Bd.exec
  have hby := Bd.bytes
  have hml : c.maxLocals = 3 := hml0
  have hown : s.vm.findClass "com/example/dual_delivery/dualdelivery/model/ResourceName" = some m.cls := findClass_of_methodNamed Bd.named
  have hnm := (name_of_methodNamed Bd.named Bd.method).1
  have X0 : Stand p l e ({ frames := 5, cells := 3, slots := 25, locals := 60 } : Room) s m #[(.ref x1)] below meth c s₁ [] 0 0 := Stand.of_body Bd
  have e0 : s₁.heap = h0 := by rw [← hh, Bd.state]; rfl
  have Nf0 := Fr.nil n0
  obtain ⟨Gl, hGl, kn0⟩ : ∃ Gl : State → Prop, (∀ t, Gl t → Steps p.tables e below (s₁.setTop (entryFrame m #[(.ref x1)] 3)) t) ∧ ∀ t, own_S p e below s₁ (mkF m 0 #[.val (.ref x1), .unset, .unset] []) t → Gl t := ⟨fun t => Steps p.tables e below (s₁.setTop (entryFrame m #[(.ref x1)] 3)) t, fun _ k => k, fun t k => castTop (ef_rm13 m x1) k⟩
  have kn1 : ∀ t, own_S p e below s₁ (mkF m 1 #[.val (.ref x1), .unset, .unset] [(.ref x1)]) t → Gl t := fun t kt => kn0 t (by
    show own_S p e below s₁ (mkF m 0 #[.val (.ref x1), .unset, .unset] []) _
    refine XS.aloadN X0.here hx rfl (hb hby d_prog_18_method_2_0) rfl rfl ?_
    exact kt)
  have hS2 : s.Since s.vm 0 := (State.WarmedH.refl s).since 0
  have wS : ∀ a ∈ Bundle.stringAtoms, a.before a0 Z = true := fun d hd => hw d ((by decide +kernel : ∀ d ∈ Bundle.stringAtoms, d ∈ tables_1) d hd)
  obtain ⟨a2, T2, h2, kc2, X2, e2, E2, hSn2, hkn2, hZ, hown, st2⟩ := ldcS (s := s) (vm0 := s.vm) X0 hx hZ hown (hw _ (List.mem_of_getElem? (i := 56) rfl)) wS e0 hS2 (Nat.zero_le _) (g := (mkF m 1 #[.val (.ref x1), .unset, .unset] [(.ref x1)])) rfl (hb hby d_prog_18_method_2_1) (n := 20) (by decide) (by decide) (by decide) (by decide)
  have Z3 : n0 ≤ h2.size := Nat.le_trans Z0 E2.1
  have Od4 : Old Z n0 h2 := O0.ext E2
  have K5 : Keep h0 h2 [] := (Keep.refl h0 []).ext E2
  have kn6 : ∀ t, own_S p e below T2 (mkF m 3 #[.val (.ref x1), .unset, .unset] [(.ref a2), (.ref x1)]) t → Gl t := fun t kt => kn1 t (st2 _ kt)
  obtain ⟨_, _, ⟨T7, L7, cc7, ss7⟩, -, X7, ⟨Lc7, hQ7, l7, y7, z7⟩, st7⟩ := Jvm.LawKit.callS X2 hx (y := (⟨"java/util/Objects", "requireNonNull", "(Ljava/lang/Object;Ljava/lang/String;)Ljava/lang/Object;"⟩ : MethodName)) hown (mvT hZ (hw _ (List.mem_of_getElem? (i := 59) rfl))) (mvT hZ (hw _ (List.mem_of_getElem? (i := 60) rfl))) (mvT hZ (hw _ (List.mem_of_getElem? (i := 61) rfl))) (mvT hZ (hw _ (List.mem_of_getElem? (i := 62) rfl))) (by decide) (backOf (W := 0) (rm14 l Z a0 hw [] x1 a2  h2 n0 Z3 ) hZ (hw _ (List.mem_of_getElem? (i := 62) rfl)) (hw _ (List.mem_of_getElem? (i := 61) rfl)) (by decide) (by decide)) (g := (mkF m 3 #[.val (.ref x1), .unset, .unset] [(.ref a2), (.ref x1)])) rfl (by rw [hml]; rfl) (argsL := [(.ref x1), (.ref a2)]) (rest := []) (lenOf pd_5 rfl) rfl (by show 2 * 0 + _ ≤ _; exact Nat.le_of_eq rfl) (hb hby d_prog_18_method_2_3) (fun _ _ => ⟨rfl, e2, (by decide : 2 + 0 ≤ _), (by decide : 24 + 0 ≤ _)⟩)
  dsimp only [Pt.U, Pt.locs, Pt.cells, Pt.slots] at X7 l7 y7 z7 st7 hQ7
  subst l7 y7 z7
  have X7 : Stand p l e _ _ m _ below meth c T7 _ 2 24 := X7
  obtain ⟨rfl, Nq7, eq7⟩ := hQ7
  have Nf7 := Fr.app Nf0 Nq7
  have kn8 : ∀ t, own_S p e below T7 (mkF m 6 #[.val (.ref x1), .unset, .unset] [(.ref x1)]) t → Gl t := fun t kt => kn6 t (st7 _ kt)
  have kn9 : ∀ t, own_S p e below T7 (mkF m 8 #[.val (.ref x1), .unset, .unset] [(.ref x1)]) t → Gl t := fun t kt => kn8 t (by
    show own_S p e below T7 (mkF m 6 #[.val (.ref x1), .unset, .unset] [(.ref x1)]) _
    refine XS.pop X7.here hx rfl (hb hby d_prog_18_method_2_6) rfl rfl ?_
    show own_S p e below T7 (mkF m 7 #[.val (.ref x1), .unset, .unset] []) _
    refine XS.aloadN X7.here hx rfl (hb hby d_prog_18_method_2_7) rfl rfl ?_
    exact kt)
  have hem : ∀ d ∈ StrChars.Road.wordsEmp, d.before a0 Z = true := fun d hd => hw d ((by decide +kernel : ∀ d ∈ StrChars.Road.wordsEmp, d ∈ tables_1) d hd)
  have f11 := (E_x1.ext E2)
  have f12 := (V_x1.ext E2)
  have f13 := (C_x1.ext E2)
  have f14 := (K_x1.ext E2)
  obtain ⟨cq10, kq10, qa10, qb10, qc10⟩ := isOf hZ eq7 f11
  obtain ⟨_, _, ⟨T10, L10, cc10, ss10⟩, -, X10, ⟨Lc10, hQ10, l10, y10, z10⟩, st10⟩ := X7.virtualBack hx (y := (⟨"java/lang/String", "isEmpty", "()Z"⟩ : MethodName)) (z := (⟨"java/lang/String", "isEmpty", "()Z"⟩ : MethodName)) hown (mvT hZ (hw _ (List.mem_of_getElem? (i := 63) rfl))) (mvT hZ (hw _ (List.mem_of_getElem? (i := 64) rfl))) (notFace_of_selects (args := #[]) (mvT hZ (hw _ (List.mem_of_getElem? (i := 66) rfl)))) (mvT hZ (hw _ (List.mem_of_getElem? (i := 66) rfl))) (mvT hZ (hw _ (List.mem_of_getElem? (i := 65) rfl))) (by decide) (StrChars.Road.empW (W := 0) hZ hem (kI := 4) (hw _ (List.mem_of_getElem? (i := 10) rfl)) f11 f12 f13 f14 (StrChars.Road.codOf (cs := cs) (n := cs.length) rfl (fun x hx => (hp_x1 x hx).2)) (own_up _ hp_x1) (Nat.le_trans hl_x1 (by decide)) (by decide) (by decide)) qa10 qc10 (g := (mkF m 8 #[.val (.ref x1), .unset, .unset] [(.ref x1)])) rfl (by rw [hml]; rfl) (Steps.refl _) (argsL := []) (rest := []) (lenOf pd_6 rfl) rfl (by show 2 * 0 + _ ≤ _; exact Nat.le_of_eq rfl) (hb hby d_prog_18_method_2_8) (fun _ _ => ⟨rfl, eq7, (by decide : 2 + 0 ≤ _), (by decide : 24 + 0 ≤ _)⟩)
  dsimp only [Pt.U, Pt.locs, Pt.cells, Pt.slots] at X10 l10 y10 z10 st10 hQ10
  subst l10 y10 z10
  have X10 : Stand p l e _ _ m _ below meth c T10 _ 2 24 := X10
  obtain ⟨rfl, rfl, eq10⟩ := hQ10
  have Nq10 : Fr n0 ([] : List Loc) := Fr.nil n0
  rw [if_neg (show ¬ cs.length = 0 from by omega)] at st10
  have Nf10 := Fr.app Nf7 Nq10
  have kn15 : ∀ t, own_S p e below T10 (mkF m 11 #[.val (.ref x1), .unset, .unset] [(.int (0 : Int32))]) t → Gl t := fun t kt => kn9 t (st10.trans kt)
  have kn16 : ∀ t, own_S p e below T10 (mkF m 26 #[.val (.ref x1), .unset, .unset] [(.int (0 : Int32)), (.ref x1)]) t → Gl t := fun t kt => kn15 t (by
    show own_S p e below T10 (mkF m 11 #[.val (.ref x1), .unset, .unset] [(.int (0 : Int32))]) _
    refine XS.ifYes X10.here hx rfl (pc0 := 11) (pc' := 24) rfl (hb hby d_prog_18_method_2_11) rfl ((if0 _ _).trans (teq (by decide : (0 : Int32) = (0 : Int32))).1) (by decide) (by decide) ?_
    show own_S p e below T10 (mkF m 24 #[.val (.ref x1), .unset, .unset] []) _
    refine XS.aloadN X10.here hx rfl (hb hby d_prog_18_method_2_24) rfl rfl ?_
    show own_S p e below T10 (mkF m 25 #[.val (.ref x1), .unset, .unset] [(.ref x1)]) _
    refine XS.iconst X10.here hx rfl (hb hby d_prog_18_method_2_25) ?_
    exact kt)
  have hch : ∀ d ∈ StrChars.Road.wordsChN, d.before a0 Z = true := fun d hd => hw d ((by decide +kernel : ∀ d ∈ StrChars.Road.wordsChN, d ∈ tables_1) d hd)
  obtain ⟨cq17, kq17, qa17, qb17, qc17⟩ := isOf hZ eq10 f11
  obtain ⟨_, _, ⟨T17, L17, cc17, ss17⟩, -, X17, ⟨Lc17, hQ17, l17, y17, z17⟩, st17⟩ := X10.virtualBack hx (y := (⟨"java/lang/String", "charAt", "(I)C"⟩ : MethodName)) (z := (⟨"java/lang/String", "charAt", "(I)C"⟩ : MethodName)) hown (mvT hZ (hw _ (List.mem_of_getElem? (i := 68) rfl))) (mvT hZ (hw _ (List.mem_of_getElem? (i := 69) rfl))) (notFace_of_selects (args := #[]) (mvT hZ (hw _ (List.mem_of_getElem? (i := 71) rfl)))) (mvT hZ (hw _ (List.mem_of_getElem? (i := 71) rfl))) (mvT hZ (hw _ (List.mem_of_getElem? (i := 70) rfl))) (by decide) (StrChars.Road.chN (W := 0) hZ hch (kI := 4) (hw _ (List.mem_of_getElem? (i := 10) rfl)) f11 f12 f13 f14 (StrChars.Road.codOf (cs := cs) (n := cs.length) rfl (fun x hx => (hp_x1 x hx).2)) (own_up _ hp_x1) (O2.ext Od4.2) P5 (O4.ext Od4.2) rG3 (Nat.le_trans hl_x1 (by decide)) (i := 0) hne (j := (0 : Int32)) rfl (by decide) (by decide)) qa17 qc17 (g := (mkF m 26 #[.val (.ref x1), .unset, .unset] [(.int (0 : Int32)), (.ref x1)])) rfl (by rw [hml]; rfl) (Steps.refl _) (argsL := [(.int (0 : Int32))]) (rest := []) (lenOf pd_4 rfl) rfl (by show 2 * 0 + _ ≤ _; exact Nat.le_of_eq rfl) (hb hby d_prog_18_method_2_26) (fun _ _ => ⟨rfl, eq10, (by decide : 2 + 0 ≤ _), (by decide : 24 + 0 ≤ _)⟩)
  dsimp only [Pt.U, Pt.locs, Pt.cells, Pt.slots] at X17 l17 y17 z17 st17 hQ17
  subst l17 y17 z17
  have X17 : Stand p l e _ _ m _ below meth c T17 _ 2 24 := X17
  obtain ⟨rfl, rfl, eq17⟩ := hQ17
  have Nq17 : Fr n0 ([] : List Loc) := Fr.nil n0
  have Nf17 := Fr.app Nf10 Nq17
  have kn18 : ∀ t, own_S p e below T17 (mkF m 29 #[.val (.ref x1), .unset, .unset] [(.int (cs.getD 0 0))]) t → Gl t := fun t kt => kn16 t (st17.trans kt)
  obtain ⟨_, _, ⟨T19, L19, cc19, ss19⟩, -, X19, ⟨Lc19, hQ19, l19, y19, z19⟩, st19⟩ := Jvm.LawKit.callS X17 hx (y := (⟨"com/example/dual_delivery/dualdelivery/model/ResourceName", "isLetter", "(C)Z"⟩ : MethodName)) hown (mvT hZ (hw _ (List.mem_of_getElem? (i := 89) rfl))) (mvT hZ (hw _ (List.mem_of_getElem? (i := 90) rfl))) (mvT hZ (hw _ (List.mem_of_getElem? (i := 54) rfl))) (mvT hZ (hw _ (List.mem_of_getElem? (i := 91) rfl))) (by decide) (backOf (W := 0) (rm21 l Z a0 hw [] (cs.getD 0 0)  h2 n0 Z3 ) hZ (hw _ (List.mem_of_getElem? (i := 91) rfl)) (hw _ (List.mem_of_getElem? (i := 54) rfl)) (by decide) (by decide)) (g := (mkF m 29 #[.val (.ref x1), .unset, .unset] [(.int (cs.getD 0 0))])) rfl (by rw [hml]; rfl) (argsL := [(.int (cs.getD 0 0))]) (rest := []) (lenOf pd_0 rfl) rfl (by show 2 * 0 + _ ≤ _; exact Nat.le_of_eq rfl) (hb hby d_prog_18_method_2_29) (fun _ _ => ⟨rfl, eq17, (by decide : 2 + 0 ≤ _), (by decide : 24 + 0 ≤ _)⟩)
  dsimp only [Pt.U, Pt.locs, Pt.cells, Pt.slots] at X19 l19 y19 z19 st19 hQ19
  subst l19 y19 z19
  have X19 : Stand p l e _ _ m _ below meth c T19 _ 2 24 := X19
  obtain ⟨rfl, Nq19, eq19, rfl⟩ := hQ19
  have Nf19 := Fr.app Nf17 Nq19
  have kn20 : ∀ t, own_S p e below T19 (mkF m 32 #[.val (.ref x1), .unset, .unset] [(.int (own_isL (cs.getD 0 0)))]) t → Gl t := fun t kt => kn18 t (st19 _ kt)
  have hc32_21 : ¬ ((own_isL (cs.getD 0 0)) = (0 : Int32)) := hL
  have kn22 : ∀ t, own_S p e below T19 (mkF m 47 #[.val (.ref x1), .val (.int (1 : Int32)), .unset] []) t → Gl t := fun t kt => kn20 t (by
    show own_S p e below T19 (mkF m 32 #[.val (.ref x1), .unset, .unset] [(.int (own_isL (cs.getD 0 0)))]) _
    refine XS.ifYes X19.here hx rfl (pc0 := 32) (pc' := 45) rfl (hb hby d_prog_18_method_2_32) rfl ((if0 _ _).trans (feq hc32_21).2) (by decide) (by decide) ?_
    show own_S p e below T19 (mkF m 45 #[.val (.ref x1), .unset, .unset] []) _
    refine XS.iconst X19.here hx rfl (hb hby d_prog_18_method_2_45) ?_
    show own_S p e below T19 (mkF m 46 #[.val (.ref x1), .unset, .unset] [(.int (1 : Int32))]) _
    refine XS.istoreN X19.here hx rfl (hb hby d_prog_18_method_2_46) rfl (l' := #[.val (.ref x1), .val (.int (1 : Int32)), .unset]) rfl ?_
    exact kt)
  rw [(show (1 : Int32) = (Int32.ofNat 1) from rfl)] at kn22
  obtain ⟨T23, q23, X23, e23, st23⟩ := own_loop hx hZ hw hby hml hown (by decide) (by decide) f11 f12 f13 f14 hp_x1 hl_x1 Od4 O2 P5 O4 rG3 Z3 hgd (cs.length - 1) 1 _ _ (Or.inl rfl) (by omega) X19 eq19
  have kn24 : ∀ t, own_S p e below T23 (mkF m 109 #[.val (.ref x1), .val (.int (Int32.ofNat cs.length)), q23] []) t → Gl t := fun t kt => kn22 t (st23 _ kt)
  have kn25 : ∀ t, own_S p e below T23 (mkF m 110 #[.val (.ref x1), .val (.int (Int32.ofNat cs.length)), q23] [(.ref x1)]) t → Gl t := fun t kt => kn24 t (by
    show own_S p e below T23 (mkF m 109 #[.val (.ref x1), .val (.int (Int32.ofNat cs.length)), q23] []) _
    refine XS.aloadN X23.here hx rfl (hb hby d_prog_18_method_2_109) rfl rfl ?_
    exact kt)
  have hln : ∀ d ∈ StrChars.Road.wordsLen, d.before a0 Z = true := fun d hd => hw d ((by decide +kernel : ∀ d ∈ StrChars.Road.wordsLen, d ∈ tables_1) d hd)
  obtain ⟨cq26, kq26, qa26, qb26, qc26⟩ := isOf hZ e23 f11
  obtain ⟨_, _, ⟨T26, L26, cc26, ss26⟩, -, X26, ⟨Lc26, hQ26, l26, y26, z26⟩, st26⟩ := X23.virtualBack hx (y := (⟨"java/lang/String", "length", "()I"⟩ : MethodName)) (z := (⟨"java/lang/String", "length", "()I"⟩ : MethodName)) hown (mvT hZ (hw _ (List.mem_of_getElem? (i := 92) rfl))) (mvT hZ (hw _ (List.mem_of_getElem? (i := 93) rfl))) (notFace_of_selects (args := #[]) (mvT hZ (hw _ (List.mem_of_getElem? (i := 95) rfl)))) (mvT hZ (hw _ (List.mem_of_getElem? (i := 95) rfl))) (mvT hZ (hw _ (List.mem_of_getElem? (i := 94) rfl))) (by decide) (StrChars.Road.lenW (W := 0) hZ hln (kI := 4) (hw _ (List.mem_of_getElem? (i := 10) rfl)) f11 f12 f13 f14 (StrChars.Road.codOf (cs := cs) (n := cs.length) rfl (fun x hx => (hp_x1 x hx).2)) (own_up _ hp_x1) (O2.ext Od4.2) P5 (Nat.le_trans hl_x1 (by decide)) (by decide) (by decide)) qa26 qc26 (g := (mkF m 110 #[.val (.ref x1), .val (.int (Int32.ofNat cs.length)), q23] [(.ref x1)])) rfl (by rw [hml]; rfl) (Steps.refl _) (argsL := []) (rest := []) (lenOf pd_3 rfl) rfl (by show 2 * 0 + _ ≤ _; exact Nat.le_of_eq rfl) (hb hby d_prog_18_method_2_110) (fun _ _ => ⟨rfl, e23, (by decide : 2 + 0 ≤ _), (by decide : 24 + 0 ≤ _)⟩)
  dsimp only [Pt.U, Pt.locs, Pt.cells, Pt.slots] at X26 l26 y26 z26 st26 hQ26
  subst l26 y26 z26
  have X26 : Stand p l e _ _ m _ below meth c T26 _ 2 24 := X26
  obtain ⟨rfl, rfl, eq26⟩ := hQ26
  have Nq26 : Fr n0 ([] : List Loc) := Fr.nil n0
  have Nf26 := Fr.app Nf19 Nq26
  have kn27 : ∀ t, own_S p e below T26 (mkF m 113 #[.val (.ref x1), .val (.int (Int32.ofNat cs.length)), q23] [(.int (Int32.ofNat cs.length))]) t → Gl t := fun t kt => kn25 t (st26.trans kt)
  have kn28 : ∀ t, own_S p e below T26 (mkF m 115 #[.val (.ref x1), .val (.int (Int32.ofNat cs.length)), q23] [(.int (64 : Int32)), (.int (Int32.ofNat cs.length))]) t → Gl t := fun t kt => kn27 t (by
    show own_S p e below T26 (mkF m 113 #[.val (.ref x1), .val (.int (Int32.ofNat cs.length)), q23] [(.int (Int32.ofNat cs.length))]) _
    refine XS.bipush X26.here hx rfl (hb hby d_prog_18_method_2_113) ?_
    exact kt)
  have hc115_29 : ¬ ((64 : Int32) < (Int32.ofNat cs.length)) := own_n64 hl_x1
  have kn30 : ∀ t, own_S p e below T26 (mkF m 135 #[.val (.ref x1), .val (.int (Int32.ofNat cs.length)), q23] []) t → Gl t := fun t kt => kn28 t (by
    show own_S p e below T26 (mkF m 115 #[.val (.ref x1), .val (.int (Int32.ofNat cs.length)), q23] [(.int (64 : Int32)), (.int (Int32.ofNat cs.length))]) _
    refine XS.icmpYes X26.here hx rfl (pc0 := 115) (pc' := 135) rfl (hb hby d_prog_18_method_2_115) rfl (flt hc115_29).2.2.2 (by decide) (by decide) ?_
    exact kt)
  obtain ⟨T31, h31, X31, e31, E31, A31, D31, -, st31⟩ := newO X26 hx hZ hown (hw _ (List.mem_of_getElem? (i := 102) rfl)) (hw _ (List.mem_of_getElem? (i := 103) rfl)) (hw _ (List.mem_of_getElem? (i := 54) rfl)) eq26 (g := (mkF m 135 #[.val (.ref x1), .val (.int (Int32.ofNat cs.length)), q23] [])) rfl (hb hby d_prog_18_method_2_135) (by decide) (by decide)
  obtain ⟨b31, g31⟩ : ∃ z, z = h2.size := ⟨_, rfl⟩
  rw [← g31] at A31 D31 st31
  have sz_b31 : h0.size ≤ b31 := Nat.le_trans K5.1 (Nat.le_of_eq g31.symm)
  have g_b31 : n0 ≤ b31 := Nat.le_trans Z3 (Nat.le_of_eq g31.symm)
  have ne_x1_b31 : x1 ≠ b31 := Nat.ne_of_lt (Nat.lt_of_lt_of_le f11.lt (Nat.le_of_eq g31.symm))
  have ne_t1_b31 : t1 ≠ b31 := Nat.ne_of_lt (Nat.lt_of_lt_of_le f14.lt (Nat.le_of_eq g31.symm))
  have Z32 : n0 ≤ h31.size := Nat.le_trans Z3 E31.1
  have hk33 := Nat.le_trans hkn2 E31.1
  have Od34 : Old Z n0 h31 := Od4.ext E31
  have K35 : Keep h0 h31 [] := K5.ext E31
  have F31_109 : Fld Z h31 b31 "com/example/dual_delivery/dualdelivery/model/ResourceName" "value" "Ljava/lang/String;" .null := D31 (Or.inr (hw _ (List.mem_of_getElem? (i := 109) rfl))) (ty := (.object "java/lang/String")) (by decide)
  have kn36 : ∀ t, own_S p e below T31 (mkF m 138 #[.val (.ref x1), .val (.int (Int32.ofNat cs.length)), q23] [(.ref b31)]) t → Gl t := fun t kt => kn30 t (st31 _ kt)
  have kn37 : ∀ t, own_S p e below T31 (mkF m 140 #[.val (.ref x1), .val (.int (Int32.ofNat cs.length)), q23] [(.ref x1), (.ref b31), (.ref b31)]) t → Gl t := fun t kt => kn36 t (by
    show own_S p e below T31 (mkF m 138 #[.val (.ref x1), .val (.int (Int32.ofNat cs.length)), q23] [(.ref b31)]) _
    refine XS.dup X31.here hx rfl (hb hby d_prog_18_method_2_138) rfl rfl ?_
    show own_S p e below T31 (mkF m 139 #[.val (.ref x1), .val (.int (Int32.ofNat cs.length)), q23] [(.ref b31), (.ref b31)]) _
    refine XS.aloadN X31.here hx rfl (hb hby d_prog_18_method_2_139) rfl rfl ?_
    exact kt)
  obtain ⟨_, _, ⟨T38, L38, cc38, ss38⟩, -, X38, ⟨Lc38, hQ38, l38, y38, z38⟩, st38⟩ := X31.specialBack hx (y := (⟨"com/example/dual_delivery/dualdelivery/model/ResourceName", "<init>", "(Ljava/lang/String;)V"⟩ : MethodName)) rfl hown (mvT hZ (hw _ (List.mem_of_getElem? (i := 104) rfl))) (mvT hZ (hw _ (List.mem_of_getElem? (i := 105) rfl))) (mvT hZ (hw _ (List.mem_of_getElem? (i := 106) rfl))) (by decide) (backOf (W := 1) (rm24 l Z a0 hw [] b31 x1  h31 n0 Z32 A31 F31_109 g_b31) hZ (hw _ (List.mem_of_getElem? (i := 106) rfl)) (hw _ (List.mem_of_getElem? (i := 54) rfl)) (by decide) (by decide)) (g := (mkF m 140 #[.val (.ref x1), .val (.int (Int32.ofNat cs.length)), q23] [(.ref x1), (.ref b31), (.ref b31)])) rfl (by rw [hml]; rfl) (Steps.refl _) (a := b31) (argsL := [(.ref x1)]) (rest := [(.ref b31)]) (lenOf pd_7 rfl) rfl (by show 2 * 0 + _ ≤ _; exact Nat.le_of_eq rfl) (hb hby d_prog_18_method_2_140) (fun _ _ => ⟨rfl, e31, (by decide : 3 + 0 ≤ _), (by decide : 25 + 0 ≤ _)⟩)
  dsimp only [Pt.U, Pt.locs, Pt.cells, Pt.slots] at X38 l38 y38 z38 st38 hQ38
  subst l38 y38 z38
  have X38 : Stand p l e _ _ m _ below meth c T38 _ 3 25 := X38
  obtain ⟨rfl, Nq38, K38, Ex38, Va38⟩ := hQ38
  have Nf38 := Fr.app Nf26 Nq38
  have Z39 : n0 ≤ T38.heap.size := Nat.le_trans Z32 K38.1
  have hk40 := Nat.le_trans hk33 K38.1
  have Od41 : Old Z n0 T38.heap := Od34.keep K38 (allS g_b31 all0)
  have K42 : Keep h0 T38.heap [] := K35.trans K38 (allS (Or.inr sz_b31) all0)
  have kn43 : ∀ t, own_S p e below T38 (mkF m 143 #[.val (.ref x1), .val (.int (Int32.ofNat cs.length)), q23] [(.ref b31)]) t → Gl t := fun t kt => kn37 t (st38.trans kt)
  obtain ⟨fs, hr, hrun, hended, hRW⟩ := X38.leaveW hSn2 hk40 (v := some (.ref b31)) (fun h => by rw [Bd.returns] at h; cases h)
  refine ⟨_, _, hGl _ (kn43 _ (by
      show own_S p e below T38 (mkF m 143 #[.val (.ref x1), .val (.int (Int32.ofNat cs.length)), q23] [(.ref b31)]) _
      jvm_step X38.here [X38.here.top, hx, (hb hby d_prog_18_method_2_143), X38.method', Bd.returns, Value.isRef, FieldType.isReference]
      first | (intro acts; rw [hr _ acts rfl rfl rfl]) | rw [hr _ _ rfl rfl rfl]
      exact Steps.refl _)), hrun, hended, _, _, rfl, ?_, ⟨hRW.1, hRW.2.1, hRW.2.2.1, hRW.2.2.2.mono (by decide) (by decide)⟩⟩
  show Q13 Z x1 t1 k1 cs G1 G3 h0 n0 _ T38.heap _
  exact ⟨b31, rfl, Nf38, g_b31, K42, Ex38, Va38⟩

theorem d_prog_18_method_5_0 : decode prog_18_method_5_code 0 = .ok (.aload_n 1, 1) := by decide +kernel
theorem d_prog_18_method_5_1 : decode prog_18_method_5_code 1 = .ok (.instanceof 8, 3) := by decide +kernel
theorem d_prog_18_method_5_4 : decode prog_18_method_5_code 4 = .ok (.ifCond .eq 26, 3) := by decide +kernel
theorem d_prog_18_method_5_7 : decode prog_18_method_5_code 7 = .ok (.aload_n 1, 1) := by decide +kernel
theorem d_prog_18_method_5_8 : decode prog_18_method_5_code 8 = .ok (.checkcast 8, 3) := by decide +kernel
theorem d_prog_18_method_5_11 : decode prog_18_method_5_code 11 = .ok (.astore_n 2, 1) := by decide +kernel
theorem d_prog_18_method_5_12 : decode prog_18_method_5_code 12 = .ok (.aload_n 0, 1) := by decide +kernel
theorem d_prog_18_method_5_13 : decode prog_18_method_5_code 13 = .ok (.getfield 7, 3) := by decide +kernel
theorem d_prog_18_method_5_16 : decode prog_18_method_5_code 16 = .ok (.aload_n 2, 1) := by decide +kernel
theorem d_prog_18_method_5_17 : decode prog_18_method_5_code 17 = .ok (.getfield 7, 3) := by decide +kernel
theorem d_prog_18_method_5_20 : decode prog_18_method_5_code 20 = .ok (.invokevirtual 56, 3) := by decide +kernel
theorem d_prog_18_method_5_23 : decode prog_18_method_5_code 23 = .ok (.ifCond .eq 7, 3) := by decide +kernel
theorem d_prog_18_method_5_26 : decode prog_18_method_5_code 26 = .ok (.iconst 1, 1) := by decide +kernel
theorem d_prog_18_method_5_27 : decode prog_18_method_5_code 27 = .ok (.goto 4, 3) := by decide +kernel
theorem d_prog_18_method_5_30 : decode prog_18_method_5_code 30 = .ok (.iconst 0, 1) := by decide +kernel
theorem d_prog_18_method_5_31 : decode prog_18_method_5_code 31 = .ok (.ireturn, 1) := by decide +kernel
theorem pd_8 : parseMethodDescriptor "(Ljava/lang/Object;)Z" = some ⟨[(.object "java/lang/Object")], some .boolean⟩ := by decide +kernel
theorem ef_rm27 (m : MethodId) (x0 : Addr) (x1 : Addr) : entryFrame m #[(.ref x0), (.ref x1)] 3 = mkF m 0 #[.val (.ref x0), .val (.ref x1), .unset] [] := by first | (simp [entryFrame, mkF, argsToLocals, Value.category]; done) | rfl
def Q27 (Z : State) (a1 : Addr) (a2 : Addr) (x1 : Addr) (x2 : Addr) (t1 : Addr) (k1 : ClassId) (cs : List Int32) (t2 : Addr) (k2 : ClassId) (ds : List Int32) (G1 : Int32) (h0 : Heap) (n0 : Nat) (v : Option Value) (h : Heap) (L : List Loc) : Prop := v = some (.int (if cs = ds then (1 : Int32) else 0)) ∧ Fr n0 L ∧ h = h0
set_option maxRecDepth 65536 in
set_option maxHeartbeats 40000000 in
theorem rm27 (l : Launch) (Z : State) (a0 : Array Value) (hw : ∀ d ∈ tables_1, d.before a0 Z = true) (ws : List Jvm.Cond) (a1 : Addr) (a2 : Addr) (x1 : Addr) (x2 : Addr) (t1 : Addr) (k1 : ClassId) (cs : List Int32) (t2 : Addr) (k2 : ClassId) (ds : List Int32) (G1 : Int32) (h0 : Heap) (n0 : Nat) (Z0 : n0 ≤ h0.size) (F1 : Fld Z h0 a1 "com/example/dual_delivery/dualdelivery/model/ResourceName" "value" "Ljava/lang/String;" (.ref x1)) (E2 : Exa Z h0 a2 "com/example/dual_delivery/dualdelivery/model/ResourceName") (F2 : Fld Z h0 a2 "com/example/dual_delivery/dualdelivery/model/ResourceName" "value" "Ljava/lang/String;" (.ref x2)) (E_x1 : Exa Z h0 x1 "java/lang/String") (V_x1 : Fld Z h0 x1 "java/lang/String" "value" "[B" (.ref t1)) (C_x1 : Fld Z h0 x1 "java/lang/String" "coder" "B" (.int (0 : Int32))) (K_x1 : Arv Z h0 t1 k1 .byte (Int32.ofNat cs.length) ((cs.map (fun c => c.toInt8.toInt32)).map Value.int) (.int (0 : Int32))) (hp_x1 : ∀ c ∈ cs, ¬ c < 0 ∧ ¬ (255 : Int32) < c) (hl_x1 : cs.length ≤ 64) (E_x2 : Exa Z h0 x2 "java/lang/String") (V_x2 : Fld Z h0 x2 "java/lang/String" "value" "[B" (.ref t2)) (C_x2 : Fld Z h0 x2 "java/lang/String" "coder" "B" (.int (0 : Int32))) (K_x2 : Arv Z h0 t2 k2 .byte (Int32.ofNat ds.length) ((ds.map (fun c => c.toInt8.toInt32)).map Value.int) (.int (0 : Int32))) (hp_x2 : ∀ c ∈ ds, ¬ c < 0 ∧ ¬ (255 : Int32) < c) (hl_x2 : ds.length ≤ 64) (O0 : Old Z n0 h0) (O2 : Sta Z Z.heap "java/lang/String" "COMPACT_STRINGS" "Z" (.int G1)) (P5 : ¬ (G1 = (0 : Int32))) :
    MetFree l (⟨"com/example/dual_delivery/dualdelivery/model/ResourceName", "equals", "(Ljava/lang/Object;)Z"⟩ : MethodName) (head1 (Jvm.Cond.code (⟨"com/example/dual_delivery/dualdelivery/model/ResourceName", "equals", "(Ljava/lang/Object;)Z"⟩ : MethodName) prog_18_method_5_code 3 (some .boolean) :: ws) ({ frames := 2, cells := 0, slots := 0, locals := 28 } : Room)) (fun a U => a = #[(.ref a1), (.ref a2)] ∧ Z.Warmed39 U.vm ∧ U.heap = h0) (fun _ _ _ _ _ => True) (fun _ U o U' => ∃ v L, o = .returned v ∧ Q27 Z a1 a2 x1 x2 t1 k1 cs t2 k2 ds G1 h0 n0 v U'.heap L ∧ FrameEnd U o U' L ({ frames := 2, cells := 0, slots := 0, locals := 28 } : Room).cells ({ frames := 2, cells := 0, slots := 0, locals := 28 } : Room).slots) := by
  refine MetFree.of_bodySF (plainFor_of_name pn_1) hisR ?_
  intro p e s m args below meth c s₁ Bd hml0 hP hK
  obtain ⟨rfl, hZ, hh⟩ := hP
  have hx := Bd.exec
  have hby := Bd.bytes
  have hml : c.maxLocals = 3 := hml0
  have hown : s.vm.findClass "com/example/dual_delivery/dualdelivery/model/ResourceName" = some m.cls := findClass_of_methodNamed Bd.named
  have hnm := (name_of_methodNamed Bd.named Bd.method).1
  have X0 : Stand p l e ({ frames := 2, cells := 0, slots := 0, locals := 28 } : Room) s m #[(.ref a1), (.ref a2)] below meth c s₁ [] 0 0 := Stand.of_body Bd
  have e0 : s₁.heap = h0 := by rw [← hh, Bd.state]; rfl
  have Nf0 := Fr.nil n0
  obtain ⟨Gl, hGl, kn0⟩ : ∃ Gl : State → Prop, (∀ t, Gl t → Steps p.tables e below (s₁.setTop (entryFrame m #[(.ref a1), (.ref a2)] 3)) t) ∧ ∀ t, own_S p e below s₁ (mkF m 0 #[.val (.ref a1), .val (.ref a2), .unset] []) t → Gl t := ⟨fun t => Steps p.tables e below (s₁.setTop (entryFrame m #[(.ref a1), (.ref a2)] 3)) t, fun _ k => k, fun t k => castTop (ef_rm27 m a1 a2) k⟩
  have kn1 : ∀ t, own_S p e below s₁ (mkF m 1 #[.val (.ref a1), .val (.ref a2), .unset] [(.ref a2)]) t → Gl t := fun t kt => kn0 t (by
    show own_S p e below s₁ (mkF m 0 #[.val (.ref a1), .val (.ref a2), .unset] []) _
    refine XS.aloadN X0.here hx rfl (hb hby d_prog_18_method_5_0) rfl rfl ?_
    exact kt)
  obtain ⟨T2, X2, e2, st2⟩ := instY X0 hx hZ hown (hw _ (List.mem_of_getElem? (i := 102) rfl)) e0 (Ins.self E2) (g := (mkF m 1 #[.val (.ref a1), .val (.ref a2), .unset] [(.ref a2)])) rfl rfl (hb hby d_prog_18_method_5_1)
  have kn3 : ∀ t, own_S p e below T2 (mkF m 4 #[.val (.ref a1), .val (.ref a2), .unset] [(.int (1 : Int32))]) t → Gl t := fun t kt => kn1 t (st2 _ kt)
  have kn4 : ∀ t, own_S p e below T2 (mkF m 8 #[.val (.ref a1), .val (.ref a2), .unset] [(.ref a2)]) t → Gl t := fun t kt => kn3 t (by
    show own_S p e below T2 (mkF m 4 #[.val (.ref a1), .val (.ref a2), .unset] [(.int (1 : Int32))]) _
    refine XS.ifNo X2.here hx rfl (hb hby d_prog_18_method_5_4) rfl ((if0 _ _).trans (feq (by decide : ¬ ((1 : Int32) = (0 : Int32)))).1) ?_
    show own_S p e below T2 (mkF m 7 #[.val (.ref a1), .val (.ref a2), .unset] []) _
    refine XS.aloadN X2.here hx rfl (hb hby d_prog_18_method_5_7) rfl rfl ?_
    exact kt)
  obtain ⟨T5, X5, e5, st5⟩ := castY X2 hx hZ hown (hw _ (List.mem_of_getElem? (i := 102) rfl)) e2 (Ins.self E2) (g := (mkF m 8 #[.val (.ref a1), .val (.ref a2), .unset] [(.ref a2)])) rfl rfl (hb hby d_prog_18_method_5_8)
  have kn6 : ∀ t, own_S p e below T5 (mkF m 11 #[.val (.ref a1), .val (.ref a2), .unset] [(.ref a2)]) t → Gl t := fun t kt => kn4 t (st5 _ kt)
  have kn7 : ∀ t, own_S p e below T5 (mkF m 13 #[.val (.ref a1), .val (.ref a2), .val (.ref a2)] [(.ref a1)]) t → Gl t := fun t kt => kn6 t (by
    show own_S p e below T5 (mkF m 11 #[.val (.ref a1), .val (.ref a2), .unset] [(.ref a2)]) _
    refine XS.astoreN X5.here hx rfl (hb hby d_prog_18_method_5_11) rfl rfl (l' := #[.val (.ref a1), .val (.ref a2), .val (.ref a2)]) rfl ?_
    show own_S p e below T5 (mkF m 12 #[.val (.ref a1), .val (.ref a2), .val (.ref a2)] []) _
    refine XS.aloadN X5.here hx rfl (hb hby d_prog_18_method_5_12) rfl rfl ?_
    exact kt)
  obtain ⟨T8, X8, e8, st8⟩ := getF X5 hx hZ hown (host := "") (Or.inl (hw _ (List.mem_of_getElem? (i := 108) rfl))) Via.refl e5 F1 (g := (mkF m 13 #[.val (.ref a1), .val (.ref a2), .val (.ref a2)] [(.ref a1)])) rfl rfl (hb hby d_prog_18_method_5_13)
  have kn9 : ∀ t, own_S p e below T8 (mkF m 16 #[.val (.ref a1), .val (.ref a2), .val (.ref a2)] [(.ref x1)]) t → Gl t := fun t kt => kn7 t (st8 _ kt)
  have kn10 : ∀ t, own_S p e below T8 (mkF m 17 #[.val (.ref a1), .val (.ref a2), .val (.ref a2)] [(.ref a2), (.ref x1)]) t → Gl t := fun t kt => kn9 t (by
    show own_S p e below T8 (mkF m 16 #[.val (.ref a1), .val (.ref a2), .val (.ref a2)] [(.ref x1)]) _
    refine XS.aloadN X8.here hx rfl (hb hby d_prog_18_method_5_16) rfl rfl ?_
    exact kt)
  obtain ⟨T11, X11, e11, st11⟩ := getF X8 hx hZ hown (host := "") (Or.inl (hw _ (List.mem_of_getElem? (i := 108) rfl))) Via.refl e8 F2 (g := (mkF m 17 #[.val (.ref a1), .val (.ref a2), .val (.ref a2)] [(.ref a2), (.ref x1)])) rfl rfl (hb hby d_prog_18_method_5_17)
  have kn12 : ∀ t, own_S p e below T11 (mkF m 20 #[.val (.ref a1), .val (.ref a2), .val (.ref a2)] [(.ref x2), (.ref x1)]) t → Gl t := fun t kt => kn10 t (st11 _ kt)
  have heq : ∀ d ∈ StrChars.Road.wordsEq, d.before a0 Z = true := fun d hd => hw d ((by decide +kernel : ∀ d ∈ StrChars.Road.wordsEq, d ∈ tables_1) d hd)
  obtain ⟨cq13, kq13, qa13, qb13, qc13⟩ := isOf hZ e11 E_x1
  obtain ⟨_, _, ⟨T13, L13, cc13, ss13⟩, -, X13, ⟨Lc13, hQ13, l13, y13, z13⟩, st13⟩ := X11.virtualBack hx (y := (⟨"java/lang/String", "equals", "(Ljava/lang/Object;)Z"⟩ : MethodName)) (z := (⟨"java/lang/String", "equals", "(Ljava/lang/Object;)Z"⟩ : MethodName)) hown (mvT hZ (hw _ (List.mem_of_getElem? (i := 126) rfl))) (mvT hZ (hw _ (List.mem_of_getElem? (i := 116) rfl))) (notFace_of_selects (args := #[]) (mvT hZ (hw _ (List.mem_of_getElem? (i := 118) rfl)))) (mvT hZ (hw _ (List.mem_of_getElem? (i := 118) rfl))) (mvT hZ (hw _ (List.mem_of_getElem? (i := 117) rfl))) (by decide) (StrChars.Road.eqW (W := 0) hZ heq (kI := 4) (hw _ (List.mem_of_getElem? (i := 10) rfl)) E_x1 V_x1 C_x1 K_x1 (StrChars.Road.codOf (cs := cs) (n := cs.length) rfl (fun x hx => (hp_x1 x hx).2)) (own_up _ hp_x1) (Nat.le_trans hl_x1 (by decide)) E_x2 V_x2 C_x2 K_x2 (StrChars.Road.codOf (cs := ds) (n := ds.length) rfl (fun x hx => (hp_x2 x hx).2)) (own_up _ hp_x2) (Nat.le_trans hl_x2 (by decide)) (O2.ext O0.2) P5 (by decide) (by decide)) qa13 qc13 (g := (mkF m 20 #[.val (.ref a1), .val (.ref a2), .val (.ref a2)] [(.ref x2), (.ref x1)])) rfl (by rw [hml]; rfl) (Steps.refl _) (argsL := [(.ref x2)]) (rest := []) (lenOf pd_8 rfl) rfl (by show 2 * 0 + _ ≤ _; exact Nat.le_of_eq rfl) (hb hby d_prog_18_method_5_20) (fun _ _ => ⟨rfl, e11, (by decide : 0 + 0 ≤ _), (by decide : 0 + 0 ≤ _)⟩)
  dsimp only [Pt.U, Pt.locs, Pt.cells, Pt.slots] at X13 l13 y13 z13 st13 hQ13
  subst l13 y13 z13
  have X13 : Stand p l e _ _ m _ below meth c T13 _ 0 0 := X13
  obtain ⟨hd13, rfl, eq13⟩ := hQ13
  have Nf13 := Fr.app Nf0 (Fr.nil n0)
  rcases hd13 with ⟨rfl, hq13⟩ | ⟨rfl, hq13⟩
  · have hqe := hq13
    have kn14 : ∀ t, own_S p e below T13 (mkF m 23 #[.val (.ref a1), .val (.ref a2), .val (.ref a2)] [(.int (1 : Int32))]) t → Gl t := fun t kt => kn12 t (st13.trans kt)
    have kn15 : ∀ t, own_S p e below T13 (mkF m 31 #[.val (.ref a1), .val (.ref a2), .val (.ref a2)] [(.int (1 : Int32))]) t → Gl t := fun t kt => kn14 t (by
      show own_S p e below T13 (mkF m 23 #[.val (.ref a1), .val (.ref a2), .val (.ref a2)] [(.int (1 : Int32))]) _
      refine XS.ifNo X13.here hx rfl (hb hby d_prog_18_method_5_23) rfl ((if0 _ _).trans (feq (by decide : ¬ ((1 : Int32) = (0 : Int32)))).1) ?_
      show own_S p e below T13 (mkF m 26 #[.val (.ref a1), .val (.ref a2), .val (.ref a2)] []) _
      refine XS.iconst X13.here hx rfl (hb hby d_prog_18_method_5_26) ?_
      show own_S p e below T13 (mkF m 27 #[.val (.ref a1), .val (.ref a2), .val (.ref a2)] [(.int (1 : Int32))]) _
      refine XS.goto X13.here hx rfl (pc0 := 27) (pc' := 31) rfl (hb hby d_prog_18_method_5_27) (by decide) (by decide) ?_
      exact kt)
    obtain ⟨fs, hr, hrun, hended, hW, hsame⟩ := X13.leave (v := some (.int (1 : Int32))) (fun h => by rw [Bd.returns] at h; cases h)
    refine ⟨_, _, hGl _ (kn15 _ (retN X13 hx (t := .boolean) Bd.returns (by simp) (hb hby d_prog_18_method_5_31) hr)), hrun, hended, _, _, rfl, ?_, ⟨_, rfl⟩, hW, hsame.mono (by decide) (by decide)⟩
    show Q27 Z a1 a2 x1 x2 t1 k1 cs t2 k2 ds G1 h0 n0 _ T13.heap _
    rw [eq13]
    exact ⟨by rw [if_pos hqe], Nf13, rfl⟩
  · have hqn := hq13
    have kn16 : ∀ t, own_S p e below T13 (mkF m 23 #[.val (.ref a1), .val (.ref a2), .val (.ref a2)] [(.int (0 : Int32))]) t → Gl t := fun t kt => kn12 t (st13.trans kt)
    have kn17 : ∀ t, own_S p e below T13 (mkF m 31 #[.val (.ref a1), .val (.ref a2), .val (.ref a2)] [(.int (0 : Int32))]) t → Gl t := fun t kt => kn16 t (by
      show own_S p e below T13 (mkF m 23 #[.val (.ref a1), .val (.ref a2), .val (.ref a2)] [(.int (0 : Int32))]) _
      refine XS.ifYes X13.here hx rfl (pc0 := 23) (pc' := 30) rfl (hb hby d_prog_18_method_5_23) rfl ((if0 _ _).trans (teq (by decide : (0 : Int32) = (0 : Int32))).1) (by decide) (by decide) ?_
      show own_S p e below T13 (mkF m 30 #[.val (.ref a1), .val (.ref a2), .val (.ref a2)] []) _
      refine XS.iconst X13.here hx rfl (hb hby d_prog_18_method_5_30) ?_
      exact kt)
    obtain ⟨fs, hr, hrun, hended, hW, hsame⟩ := X13.leave (v := some (.int (0 : Int32))) (fun h => by rw [Bd.returns] at h; cases h)
    refine ⟨_, _, hGl _ (kn17 _ (retN X13 hx (t := .boolean) Bd.returns (by simp) (hb hby d_prog_18_method_5_31) hr)), hrun, hended, _, _, rfl, ?_, ⟨_, rfl⟩, hW, hsame.mono (by decide) (by decide)⟩
    show Q27 Z a1 a2 x1 x2 t1 k1 cs t2 k2 ds G1 h0 n0 _ T13.heap _
    rw [eq13]
    exact ⟨by rw [if_neg hqn], Nf13, rfl⟩

def Q0 (Z : State) (p0 : Int32) (p1 : Int32) (p2 : Int32) (p3 : Int32) (p4 : Int32) (p5 : Int32) (G1 : Int32) (G3 : Value) (h0 : Heap) (n0 : Nat) (v : Option Value) (h : Heap) (L : List Loc) : Prop := v = some (.int (1 : Int32)) ∧ Fr n0 L
theorem pd_9 : parseMethodDescriptor "([C)V" = some ⟨[(.array .char)], none⟩ := by decide +kernel
theorem pd_10 : parseMethodDescriptor "(C)Ljava/lang/String;" = some ⟨[.char], some (.object "java/lang/String")⟩ := by decide +kernel
theorem pd_11 : parseMethodDescriptor "(Ljava/lang/String;)Lcom/example/dual_delivery/dualdelivery/model/ResourceName;" = some ⟨[(.object "java/lang/String")], some (.object "com/example/dual_delivery/dualdelivery/model/ResourceName")⟩ := by decide +kernel
theorem pd_12 : parseMethodDescriptor "()Ljava/lang/String;" = some ⟨[], some (.object "java/lang/String")⟩ := by decide +kernel
set_option maxRecDepth 65536 in
set_option maxHeartbeats 40000000 in
theorem tl {p : Program} {l : Launch} {e : Env} {s : State} {m : MethodId} {args : Array Value} {below : List Frame} {meth : Method} {c : Code} {T0 : State} {locs : List Loc} {Z : State} {a0 : Array Value} {h0 : Heap} {n0 : Nat} (p0 : Int32) (p1 : Int32) (p2 : Int32) (p3 : Int32) (p4 : Int32) (p5 : Int32) (G1 : Int32) (G3 : Value) (ch0 : Int32) (ch1 : Int32) (ch2 : Int32) (ch3 : Int32) (ch4 : Int32) (kSh : Int32) (bAr : Addr) (kAr : ClassId) (cs : List Int32)
    (X0 : Stand p l e room_1 s m args below meth c T0 locs 1 64) (hx : p.tables.exec = Jvm.exec) (hZ : Z.Warmed39 s.vm) (hw : ∀ d ∈ tables_1, d.before a0 Z = true) (hby : c.code = code) (hml : c.maxLocals = 23) (hown : s.vm.findClass "com/example/dual_delivery/dualdelivery/model/ResourceNameOfPinLaw" = some m.cls) (hret : meth.sig.returnType = some .boolean) (hlk : meth.locks = false) (e0 : T0.heap = h0) (Nf0 : Fr n0 locs) (Z0 : n0 ≤ h0.size) (AAr : Arv Z h0 bAr kAr .char (Int32.ofNat cs.length) (cs.map Value.int) (.int (0 : Int32))) (hne : 0 < cs.length) (hlc : cs.length ≤ 64) (hgd : ∀ c ∈ cs, own_good c) (hd0 : cs.getD 0 0 = ch0) (gl0 : own_good ch0) (hL0 : ¬ own_isL ch0 = (0 : Int32)) (O0 : Old Z n0 h0) (O2 : Sta Z Z.heap "java/lang/String" "COMPACT_STRINGS" "Z" (.int G1)) (P5 : ¬ (G1 = (0 : Int32))) (O4 : Sta Z Z.heap "jdk/internal/util/Preconditions" "SIOOBE_FORMATTER" "Ljava/util/function/BiFunction;" G3) (rG3 : G3.isRef = true) :
    ∃ s₂ o, Steps p.tables e below (T0.setTop (mkF m 569 #[.val (.int p0), .val (.int p1), .val (.int p2), .val (.int p3), .val (.int p4), .val (.int p5), .val (.int ch0), .val (.int ch1), .val (.int ch2), .val (.int ch3), .val (.int ch4), .val (.int kSh), .val (.ref bAr), .unset, .unset, .unset, .unset, .unset, .unset, .unset, .unset, .unset, .unset] [])) s₂ ∧ s₂.status = .running ∧ Ended s₂ below o ∧ ∃ v L, o = .returned v ∧ Q0 Z p0 p1 p2 p3 p4 p5 G1 G3 h0 n0 v s₂.heap L ∧ ReturnedEndW s o s₂ L 32 1536 := by
  have kn0 : ∀ t, own_S p e below T0 (mkF m 569 #[.val (.int p0), .val (.int p1), .val (.int p2), .val (.int p3), .val (.int p4), .val (.int p5), .val (.int ch0), .val (.int ch1), .val (.int ch2), .val (.int ch3), .val (.int ch4), .val (.int kSh), .val (.ref bAr), .unset, .unset, .unset, .unset, .unset, .unset, .unset, .unset, .unset, .unset] []) t → own_S p e below T0 (mkF m 569 #[.val (.int p0), .val (.int p1), .val (.int p2), .val (.int p3), .val (.int p4), .val (.int p5), .val (.int ch0), .val (.int ch1), .val (.int ch2), .val (.int ch3), .val (.int ch4), .val (.int kSh), .val (.ref bAr), .unset, .unset, .unset, .unset, .unset, .unset, .unset, .unset, .unset, .unset] []) t := fun t k => k
  have hpc : ∀ c ∈ cs, ¬ c < 0 ∧ ¬ (255 : Int32) < c := fun c hc => ⟨(hgd c hc).2.1, (hgd c hc).2.2.1⟩
  have hLc : ¬ own_isL (cs.getD 0 0) = (0 : Int32) := by rw [hd0]; exact hL0
  have hgs : ∀ c ∈ ([ch0] : List Int32), own_good c := own_fa gl0 own_f0
  have hps : ∀ c ∈ ([ch0] : List Int32), ¬ c < 0 ∧ ¬ (255 : Int32) < c := fun c hc => ⟨(hgs c hc).2.1, (hgs c hc).2.2.1⟩
  have hls : ([ch0] : List Int32).length ≤ 64 := Nat.le_of_ble_eq_true rfl
  obtain ⟨T1, h1, X1, e1, E1, A1, D1, -, st1⟩ := newO X0 hx hZ hown (hw _ (List.mem_of_getElem? (i := 9) rfl)) (hw _ (List.mem_of_getElem? (i := 10) rfl)) (hw _ (List.mem_of_getElem? (i := 11) rfl)) e0 (g := (mkF m 569 #[.val (.int p0), .val (.int p1), .val (.int p2), .val (.int p3), .val (.int p4), .val (.int p5), .val (.int ch0), .val (.int ch1), .val (.int ch2), .val (.int ch3), .val (.int ch4), .val (.int kSh), .val (.ref bAr), .unset, .unset, .unset, .unset, .unset, .unset, .unset, .unset, .unset, .unset] [])) rfl (hb hby at_569) (by decide) (by decide)
  obtain ⟨b1, g1⟩ : ∃ z, z = h0.size := ⟨_, rfl⟩
  rw [← g1] at A1 D1 st1
  have g_b1 : n0 ≤ b1 := Nat.le_trans Z0 (Nat.le_of_eq g1.symm)
  have ne_bAr_b1 : bAr ≠ b1 := Nat.ne_of_lt (Nat.lt_of_lt_of_le AAr.lt (Nat.le_of_eq g1.symm))
  have Z2 : n0 ≤ h1.size := Nat.le_trans Z0 E1.1
  have Od3 : Old Z n0 h1 := O0.ext E1
  have F1_35 : Fld Z h1 b1 "java/lang/String" "coder" "B" (.int (0 : Int32)) := D1 (Or.inr (hw _ (List.mem_of_getElem? (i := 35) rfl))) (ty := .byte) (by decide)
  have F1_37 : Fld Z h1 b1 "java/lang/String" "value" "[B" .null := D1 (Or.inr (hw _ (List.mem_of_getElem? (i := 37) rfl))) (ty := (.array .byte)) (by decide)
  have kn4 : ∀ t, own_S p e below T1 (mkF m 572 #[.val (.int p0), .val (.int p1), .val (.int p2), .val (.int p3), .val (.int p4), .val (.int p5), .val (.int ch0), .val (.int ch1), .val (.int ch2), .val (.int ch3), .val (.int ch4), .val (.int kSh), .val (.ref bAr), .unset, .unset, .unset, .unset, .unset, .unset, .unset, .unset, .unset, .unset] [(.ref b1)]) t → own_S p e below T0 (mkF m 569 #[.val (.int p0), .val (.int p1), .val (.int p2), .val (.int p3), .val (.int p4), .val (.int p5), .val (.int ch0), .val (.int ch1), .val (.int ch2), .val (.int ch3), .val (.int ch4), .val (.int kSh), .val (.ref bAr), .unset, .unset, .unset, .unset, .unset, .unset, .unset, .unset, .unset, .unset] []) t := fun t kt => kn0 t (st1 _ kt)
  have kn5 : ∀ t, own_S p e below T1 (mkF m 575 #[.val (.int p0), .val (.int p1), .val (.int p2), .val (.int p3), .val (.int p4), .val (.int p5), .val (.int ch0), .val (.int ch1), .val (.int ch2), .val (.int ch3), .val (.int ch4), .val (.int kSh), .val (.ref bAr), .unset, .unset, .unset, .unset, .unset, .unset, .unset, .unset, .unset, .unset] [(.ref bAr), (.ref b1), (.ref b1)]) t → own_S p e below T0 (mkF m 569 #[.val (.int p0), .val (.int p1), .val (.int p2), .val (.int p3), .val (.int p4), .val (.int p5), .val (.int ch0), .val (.int ch1), .val (.int ch2), .val (.int ch3), .val (.int ch4), .val (.int kSh), .val (.ref bAr), .unset, .unset, .unset, .unset, .unset, .unset, .unset, .unset, .unset, .unset] []) t := fun t kt => kn4 t (by
    show own_S p e below T1 (mkF m 572 #[.val (.int p0), .val (.int p1), .val (.int p2), .val (.int p3), .val (.int p4), .val (.int p5), .val (.int ch0), .val (.int ch1), .val (.int ch2), .val (.int ch3), .val (.int ch4), .val (.int kSh), .val (.ref bAr), .unset, .unset, .unset, .unset, .unset, .unset, .unset, .unset, .unset, .unset] [(.ref b1)]) _
    refine XS.dup X1.here hx rfl (hb hby at_572) rfl rfl ?_
    show own_S p e below T1 (mkF m 573 #[.val (.int p0), .val (.int p1), .val (.int p2), .val (.int p3), .val (.int p4), .val (.int p5), .val (.int ch0), .val (.int ch1), .val (.int ch2), .val (.int ch3), .val (.int ch4), .val (.int kSh), .val (.ref bAr), .unset, .unset, .unset, .unset, .unset, .unset, .unset, .unset, .unset, .unset] [(.ref b1), (.ref b1)]) _
    refine XS.aload X1.here hx rfl (hb hby at_573) rfl rfl ?_
    exact kt)
  have hws : ∀ d ∈ StrChars.Road.words, d.before a0 Z = true := fun d hd => hw d ((by decide +kernel : ∀ d ∈ StrChars.Road.words, d ∈ tables_1) d hd)
  have f7 := (AAr.ext E1)
  obtain ⟨_, _, ⟨T6, L6, cc6, ss6⟩, -, X6, ⟨Lc6, hQ6, l6, y6, z6⟩, st6⟩ := X1.specialBack hx (y := (⟨"java/lang/String", "<init>", "([C)V"⟩ : MethodName)) rfl hown (mvT hZ (hw _ (List.mem_of_getElem? (i := 12) rfl))) (mvT hZ (hw _ (List.mem_of_getElem? (i := 13) rfl))) (mvT hZ (hw _ (List.mem_of_getElem? (i := 14) rfl))) (by decide) (StrChars.Road.backV (W := 1) hZ hws (kI := 4) (hw _ (List.mem_of_getElem? (i := 10) rfl)) (cs := cs) (bs := cs.map (fun c => c.toInt8.toInt32)) (n := cs.length) g_b1 Z2 A1 F1_37 F1_35 f7 (O2.ext Od3.2) P5 rfl rfl hne (Nat.le_trans hlc (by decide)) hpc rfl (by decide) (by decide)) (g := (mkF m 575 #[.val (.int p0), .val (.int p1), .val (.int p2), .val (.int p3), .val (.int p4), .val (.int p5), .val (.int ch0), .val (.int ch1), .val (.int ch2), .val (.int ch3), .val (.int ch4), .val (.int kSh), .val (.ref bAr), .unset, .unset, .unset, .unset, .unset, .unset, .unset, .unset, .unset, .unset] [(.ref bAr), (.ref b1), (.ref b1)])) rfl (by rw [hml]; rfl) (Steps.refl _) (a := b1) (argsL := [(.ref bAr)]) (rest := [(.ref b1)]) (lenOf pd_9 rfl) rfl (by show 2 * 0 + _ ≤ _; exact Nat.le_of_eq rfl) (hb hby at_575) (fun _ _ => ⟨rfl, e1, (by decide : 2 + 1 ≤ _), Nat.le_trans (Nat.add_le_add_left hlc _) (by decide : 68 + 64 ≤ _)⟩)
  dsimp only [Pt.U, Pt.locs, Pt.cells, Pt.slots] at X6 l6 y6 z6 st6 hQ6
  subst l6 y6 z6
  have X6 : Stand p l e _ _ m _ below meth c T6 _ 3 132 := X6.mono (Nat.le_refl _) (Nat.add_le_add_left hlc _)
  obtain ⟨rfl, Nq6, K6, Ex6, Co6, t6, kb6, ga6, sa6, nx6, Va6, Ar6⟩ := hQ6
  have Nf6 := Fr.app Nf0 Nq6
  have Z8 : n0 ≤ T6.heap.size := Nat.le_trans Z2 K6.1
  have Od9 : Old Z n0 T6.heap := Od3.keep K6 (allS g_b1 all0)
  have kn10 : ∀ t, own_S p e below T6 (mkF m 578 #[.val (.int p0), .val (.int p1), .val (.int p2), .val (.int p3), .val (.int p4), .val (.int p5), .val (.int ch0), .val (.int ch1), .val (.int ch2), .val (.int ch3), .val (.int ch4), .val (.int kSh), .val (.ref bAr), .unset, .unset, .unset, .unset, .unset, .unset, .unset, .unset, .unset, .unset] [(.ref b1)]) t → own_S p e below T0 (mkF m 569 #[.val (.int p0), .val (.int p1), .val (.int p2), .val (.int p3), .val (.int p4), .val (.int p5), .val (.int ch0), .val (.int ch1), .val (.int ch2), .val (.int ch3), .val (.int ch4), .val (.int kSh), .val (.ref bAr), .unset, .unset, .unset, .unset, .unset, .unset, .unset, .unset, .unset, .unset] []) t := fun t kt => kn5 t (st6.trans kt)
  have kn11 : ∀ t, own_S p e below T6 (mkF m 580 #[.val (.int p0), .val (.int p1), .val (.int p2), .val (.int p3), .val (.int p4), .val (.int p5), .val (.int ch0), .val (.int ch1), .val (.int ch2), .val (.int ch3), .val (.int ch4), .val (.int kSh), .val (.ref bAr), .val (.ref b1), .unset, .unset, .unset, .unset, .unset, .unset, .unset, .unset, .unset] []) t → own_S p e below T0 (mkF m 569 #[.val (.int p0), .val (.int p1), .val (.int p2), .val (.int p3), .val (.int p4), .val (.int p5), .val (.int ch0), .val (.int ch1), .val (.int ch2), .val (.int ch3), .val (.int ch4), .val (.int kSh), .val (.ref bAr), .unset, .unset, .unset, .unset, .unset, .unset, .unset, .unset, .unset, .unset] []) t := fun t kt => kn10 t (by
    show own_S p e below T6 (mkF m 578 #[.val (.int p0), .val (.int p1), .val (.int p2), .val (.int p3), .val (.int p4), .val (.int p5), .val (.int ch0), .val (.int ch1), .val (.int ch2), .val (.int ch3), .val (.int ch4), .val (.int kSh), .val (.ref bAr), .unset, .unset, .unset, .unset, .unset, .unset, .unset, .unset, .unset, .unset] [(.ref b1)]) _
    refine XS.astore X6.here hx rfl (hb hby at_578) rfl rfl (l' := #[.val (.int p0), .val (.int p1), .val (.int p2), .val (.int p3), .val (.int p4), .val (.int p5), .val (.int ch0), .val (.int ch1), .val (.int ch2), .val (.int ch3), .val (.int ch4), .val (.int kSh), .val (.ref bAr), .val (.ref b1), .unset, .unset, .unset, .unset, .unset, .unset, .unset, .unset, .unset]) rfl ?_
    exact kt)
  obtain ⟨T12, h12, X12, e12, E12, A12, D12, -, st12⟩ := newO X6 hx hZ hown (hw _ (List.mem_of_getElem? (i := 9) rfl)) (hw _ (List.mem_of_getElem? (i := 10) rfl)) (hw _ (List.mem_of_getElem? (i := 11) rfl)) rfl (g := (mkF m 580 #[.val (.int p0), .val (.int p1), .val (.int p2), .val (.int p3), .val (.int p4), .val (.int p5), .val (.int ch0), .val (.int ch1), .val (.int ch2), .val (.int ch3), .val (.int ch4), .val (.int kSh), .val (.ref bAr), .val (.ref b1), .unset, .unset, .unset, .unset, .unset, .unset, .unset, .unset, .unset] [])) rfl (hb hby at_580) (by decide) (by decide)
  obtain ⟨b12, g12⟩ : ∃ z, z = T6.heap.size := ⟨_, rfl⟩
  rw [← g12] at A12 D12 st12
  have g_b12 : n0 ≤ b12 := Nat.le_trans Z8 (Nat.le_of_eq g12.symm)
  have f13 := (f7.keep K6 (ninS ne_bAr_b1 nin0))
  have ne_bAr_b12 : bAr ≠ b12 := Nat.ne_of_lt (Nat.lt_of_lt_of_le f13.lt (Nat.le_of_eq g12.symm))
  have ne_b1_b12 : b1 ≠ b12 := Nat.ne_of_lt (Nat.lt_of_lt_of_le Ex6.lt (Nat.le_of_eq g12.symm))
  have ne_t6_b12 : t6 ≠ b12 := Nat.ne_of_lt (Nat.lt_of_lt_of_le Ar6.lt (Nat.le_of_eq g12.symm))
  have Z14 : n0 ≤ h12.size := Nat.le_trans Z8 E12.1
  have Od15 : Old Z n0 h12 := Od9.ext E12
  have F12_35 : Fld Z h12 b12 "java/lang/String" "coder" "B" (.int (0 : Int32)) := D12 (Or.inr (hw _ (List.mem_of_getElem? (i := 35) rfl))) (ty := .byte) (by decide)
  have F12_37 : Fld Z h12 b12 "java/lang/String" "value" "[B" .null := D12 (Or.inr (hw _ (List.mem_of_getElem? (i := 37) rfl))) (ty := (.array .byte)) (by decide)
  have kn16 : ∀ t, own_S p e below T12 (mkF m 583 #[.val (.int p0), .val (.int p1), .val (.int p2), .val (.int p3), .val (.int p4), .val (.int p5), .val (.int ch0), .val (.int ch1), .val (.int ch2), .val (.int ch3), .val (.int ch4), .val (.int kSh), .val (.ref bAr), .val (.ref b1), .unset, .unset, .unset, .unset, .unset, .unset, .unset, .unset, .unset] [(.ref b12)]) t → own_S p e below T0 (mkF m 569 #[.val (.int p0), .val (.int p1), .val (.int p2), .val (.int p3), .val (.int p4), .val (.int p5), .val (.int ch0), .val (.int ch1), .val (.int ch2), .val (.int ch3), .val (.int ch4), .val (.int kSh), .val (.ref bAr), .unset, .unset, .unset, .unset, .unset, .unset, .unset, .unset, .unset, .unset] []) t := fun t kt => kn11 t (st12 _ kt)
  have kn17 : ∀ t, own_S p e below T12 (mkF m 586 #[.val (.int p0), .val (.int p1), .val (.int p2), .val (.int p3), .val (.int p4), .val (.int p5), .val (.int ch0), .val (.int ch1), .val (.int ch2), .val (.int ch3), .val (.int ch4), .val (.int kSh), .val (.ref bAr), .val (.ref b1), .unset, .unset, .unset, .unset, .unset, .unset, .unset, .unset, .unset] [(.ref bAr), (.ref b12), (.ref b12)]) t → own_S p e below T0 (mkF m 569 #[.val (.int p0), .val (.int p1), .val (.int p2), .val (.int p3), .val (.int p4), .val (.int p5), .val (.int ch0), .val (.int ch1), .val (.int ch2), .val (.int ch3), .val (.int ch4), .val (.int kSh), .val (.ref bAr), .unset, .unset, .unset, .unset, .unset, .unset, .unset, .unset, .unset, .unset] []) t := fun t kt => kn16 t (by
    show own_S p e below T12 (mkF m 583 #[.val (.int p0), .val (.int p1), .val (.int p2), .val (.int p3), .val (.int p4), .val (.int p5), .val (.int ch0), .val (.int ch1), .val (.int ch2), .val (.int ch3), .val (.int ch4), .val (.int kSh), .val (.ref bAr), .val (.ref b1), .unset, .unset, .unset, .unset, .unset, .unset, .unset, .unset, .unset] [(.ref b12)]) _
    refine XS.dup X12.here hx rfl (hb hby at_583) rfl rfl ?_
    show own_S p e below T12 (mkF m 584 #[.val (.int p0), .val (.int p1), .val (.int p2), .val (.int p3), .val (.int p4), .val (.int p5), .val (.int ch0), .val (.int ch1), .val (.int ch2), .val (.int ch3), .val (.int ch4), .val (.int kSh), .val (.ref bAr), .val (.ref b1), .unset, .unset, .unset, .unset, .unset, .unset, .unset, .unset, .unset] [(.ref b12), (.ref b12)]) _
    refine XS.aload X12.here hx rfl (hb hby at_584) rfl rfl ?_
    exact kt)
  have f19 := (f13.ext E12)
  obtain ⟨_, _, ⟨T18, L18, cc18, ss18⟩, -, X18, ⟨Lc18, hQ18, l18, y18, z18⟩, st18⟩ := X12.specialBack hx (y := (⟨"java/lang/String", "<init>", "([C)V"⟩ : MethodName)) rfl hown (mvT hZ (hw _ (List.mem_of_getElem? (i := 12) rfl))) (mvT hZ (hw _ (List.mem_of_getElem? (i := 13) rfl))) (mvT hZ (hw _ (List.mem_of_getElem? (i := 14) rfl))) (by decide) (StrChars.Road.backV (W := 1) hZ hws (kI := 4) (hw _ (List.mem_of_getElem? (i := 10) rfl)) (cs := cs) (bs := cs.map (fun c => c.toInt8.toInt32)) (n := cs.length) g_b12 Z14 A12 F12_37 F12_35 f19 (O2.ext Od15.2) P5 rfl rfl hne (Nat.le_trans hlc (by decide)) hpc rfl (by decide) (by decide)) (g := (mkF m 586 #[.val (.int p0), .val (.int p1), .val (.int p2), .val (.int p3), .val (.int p4), .val (.int p5), .val (.int ch0), .val (.int ch1), .val (.int ch2), .val (.int ch3), .val (.int ch4), .val (.int kSh), .val (.ref bAr), .val (.ref b1), .unset, .unset, .unset, .unset, .unset, .unset, .unset, .unset, .unset] [(.ref bAr), (.ref b12), (.ref b12)])) rfl (by rw [hml]; rfl) (Steps.refl _) (a := b12) (argsL := [(.ref bAr)]) (rest := [(.ref b12)]) (lenOf pd_9 rfl) rfl (by show 2 * 0 + _ ≤ _; exact Nat.le_of_eq rfl) (hb hby at_586) (fun _ _ => ⟨rfl, e12, (by decide : 4 + 1 ≤ _), Nat.le_trans (Nat.add_le_add_left hlc _) (by decide : 136 + 64 ≤ _)⟩)
  dsimp only [Pt.U, Pt.locs, Pt.cells, Pt.slots] at X18 l18 y18 z18 st18 hQ18
  subst l18 y18 z18
  have X18 : Stand p l e _ _ m _ below meth c T18 _ 5 200 := X18.mono (Nat.le_refl _) (Nat.add_le_add_left hlc _)
  obtain ⟨rfl, Nq18, K18, Ex18, Co18, t18, kb18, ga18, sa18, nx18, Va18, Ar18⟩ := hQ18
  have Nf18 := Fr.app Nf6 Nq18
  have Z20 : n0 ≤ T18.heap.size := Nat.le_trans Z14 K18.1
  have Od21 : Old Z n0 T18.heap := Od15.keep K18 (allS g_b12 all0)
  have kn22 : ∀ t, own_S p e below T18 (mkF m 589 #[.val (.int p0), .val (.int p1), .val (.int p2), .val (.int p3), .val (.int p4), .val (.int p5), .val (.int ch0), .val (.int ch1), .val (.int ch2), .val (.int ch3), .val (.int ch4), .val (.int kSh), .val (.ref bAr), .val (.ref b1), .unset, .unset, .unset, .unset, .unset, .unset, .unset, .unset, .unset] [(.ref b12)]) t → own_S p e below T0 (mkF m 569 #[.val (.int p0), .val (.int p1), .val (.int p2), .val (.int p3), .val (.int p4), .val (.int p5), .val (.int ch0), .val (.int ch1), .val (.int ch2), .val (.int ch3), .val (.int ch4), .val (.int kSh), .val (.ref bAr), .unset, .unset, .unset, .unset, .unset, .unset, .unset, .unset, .unset, .unset] []) t := fun t kt => kn17 t (st18.trans kt)
  have kn23 : ∀ t, own_S p e below T18 (mkF m 593 #[.val (.int p0), .val (.int p1), .val (.int p2), .val (.int p3), .val (.int p4), .val (.int p5), .val (.int ch0), .val (.int ch1), .val (.int ch2), .val (.int ch3), .val (.int ch4), .val (.int kSh), .val (.ref bAr), .val (.ref b1), .val (.ref b12), .unset, .unset, .unset, .unset, .unset, .unset, .unset, .unset] [(.int ch0)]) t → own_S p e below T0 (mkF m 569 #[.val (.int p0), .val (.int p1), .val (.int p2), .val (.int p3), .val (.int p4), .val (.int p5), .val (.int ch0), .val (.int ch1), .val (.int ch2), .val (.int ch3), .val (.int ch4), .val (.int kSh), .val (.ref bAr), .unset, .unset, .unset, .unset, .unset, .unset, .unset, .unset, .unset, .unset] []) t := fun t kt => kn22 t (by
    show own_S p e below T18 (mkF m 589 #[.val (.int p0), .val (.int p1), .val (.int p2), .val (.int p3), .val (.int p4), .val (.int p5), .val (.int ch0), .val (.int ch1), .val (.int ch2), .val (.int ch3), .val (.int ch4), .val (.int kSh), .val (.ref bAr), .val (.ref b1), .unset, .unset, .unset, .unset, .unset, .unset, .unset, .unset, .unset] [(.ref b12)]) _
    refine XS.astore X18.here hx rfl (hb hby at_589) rfl rfl (l' := #[.val (.int p0), .val (.int p1), .val (.int p2), .val (.int p3), .val (.int p4), .val (.int p5), .val (.int ch0), .val (.int ch1), .val (.int ch2), .val (.int ch3), .val (.int ch4), .val (.int kSh), .val (.ref bAr), .val (.ref b1), .val (.ref b12), .unset, .unset, .unset, .unset, .unset, .unset, .unset, .unset]) rfl ?_
    show own_S p e below T18 (mkF m 591 #[.val (.int p0), .val (.int p1), .val (.int p2), .val (.int p3), .val (.int p4), .val (.int p5), .val (.int ch0), .val (.int ch1), .val (.int ch2), .val (.int ch3), .val (.int ch4), .val (.int kSh), .val (.ref bAr), .val (.ref b1), .val (.ref b12), .unset, .unset, .unset, .unset, .unset, .unset, .unset, .unset] []) _
    refine XS.iload X18.here hx rfl (hb hby at_591) rfl ?_
    exact kt)
  obtain ⟨_, _, ⟨T24, L24, cc24, ss24⟩, -, X24, ⟨Lc24, hQ24, l24, y24, z24⟩, st24⟩ := Jvm.LawKit.callS X18 hx (y := (⟨"java/lang/String", "valueOf", "(C)Ljava/lang/String;"⟩ : MethodName)) hown (mvT hZ (hw _ (List.mem_of_getElem? (i := 38) rfl))) (mvT hZ (hw _ (List.mem_of_getElem? (i := 39) rfl))) (mvT hZ (hw _ (List.mem_of_getElem? (i := 11) rfl))) (mvT hZ (hw _ (List.mem_of_getElem? (i := 40) rfl))) (by decide) (backOf (W := 0) (rm9 l Z a0 hw [] ch0 G1 T18.heap n0 Z20 gl0.2.2.1 Od21 O2 P5) hZ (hw _ (List.mem_of_getElem? (i := 40) rfl)) (hw _ (List.mem_of_getElem? (i := 11) rfl)) (by decide) (by decide)) (g := (mkF m 593 #[.val (.int p0), .val (.int p1), .val (.int p2), .val (.int p3), .val (.int p4), .val (.int p5), .val (.int ch0), .val (.int ch1), .val (.int ch2), .val (.int ch3), .val (.int ch4), .val (.int kSh), .val (.ref bAr), .val (.ref b1), .val (.ref b12), .unset, .unset, .unset, .unset, .unset, .unset, .unset, .unset] [(.int ch0)])) rfl (by rw [hml]; rfl) (argsL := [(.int ch0)]) (rest := []) (lenOf pd_10 rfl) rfl (by show 2 * 0 + _ ≤ _; exact Nat.le_of_eq rfl) (hb hby at_593) (fun _ _ => ⟨rfl, rfl, (by decide : 5 + 2 ≤ _), (by decide : 200 + 5 ≤ _)⟩)
  dsimp only [Pt.U, Pt.locs, Pt.cells, Pt.slots] at X24 l24 y24 z24 st24 hQ24
  subst l24 y24 z24
  have X24 : Stand p l e _ _ m _ below meth c T24 _ 7 205 := X24
  obtain ⟨b24, t24, kb24, rfl, Nq24, gb24, K24, Ex24, Va24, Co24, Ar24⟩ := hQ24
  have Nf24 := Fr.app Nf18 Nq24
  have Z25 : n0 ≤ T24.heap.size := Nat.le_trans Z20 K24.1
  have Od26 : Old Z n0 T24.heap := Od21.keep K24 all0
  have kn27 : ∀ t, own_S p e below T24 (mkF m 596 #[.val (.int p0), .val (.int p1), .val (.int p2), .val (.int p3), .val (.int p4), .val (.int p5), .val (.int ch0), .val (.int ch1), .val (.int ch2), .val (.int ch3), .val (.int ch4), .val (.int kSh), .val (.ref bAr), .val (.ref b1), .val (.ref b12), .unset, .unset, .unset, .unset, .unset, .unset, .unset, .unset] [(.ref b24)]) t → own_S p e below T0 (mkF m 569 #[.val (.int p0), .val (.int p1), .val (.int p2), .val (.int p3), .val (.int p4), .val (.int p5), .val (.int ch0), .val (.int ch1), .val (.int ch2), .val (.int ch3), .val (.int ch4), .val (.int kSh), .val (.ref bAr), .unset, .unset, .unset, .unset, .unset, .unset, .unset, .unset, .unset, .unset] []) t := fun t kt => kn23 t (st24 _ kt)
  have kn28 : ∀ t, own_S p e below T24 (mkF m 600 #[.val (.int p0), .val (.int p1), .val (.int p2), .val (.int p3), .val (.int p4), .val (.int p5), .val (.int ch0), .val (.int ch1), .val (.int ch2), .val (.int ch3), .val (.int ch4), .val (.int kSh), .val (.ref bAr), .val (.ref b1), .val (.ref b12), .val (.ref b24), .unset, .unset, .unset, .unset, .unset, .unset, .unset] [(.ref b1)]) t → own_S p e below T0 (mkF m 569 #[.val (.int p0), .val (.int p1), .val (.int p2), .val (.int p3), .val (.int p4), .val (.int p5), .val (.int ch0), .val (.int ch1), .val (.int ch2), .val (.int ch3), .val (.int ch4), .val (.int kSh), .val (.ref bAr), .unset, .unset, .unset, .unset, .unset, .unset, .unset, .unset, .unset, .unset] []) t := fun t kt => kn27 t (by
    show own_S p e below T24 (mkF m 596 #[.val (.int p0), .val (.int p1), .val (.int p2), .val (.int p3), .val (.int p4), .val (.int p5), .val (.int ch0), .val (.int ch1), .val (.int ch2), .val (.int ch3), .val (.int ch4), .val (.int kSh), .val (.ref bAr), .val (.ref b1), .val (.ref b12), .unset, .unset, .unset, .unset, .unset, .unset, .unset, .unset] [(.ref b24)]) _
    refine XS.astore X24.here hx rfl (hb hby at_596) rfl rfl (l' := #[.val (.int p0), .val (.int p1), .val (.int p2), .val (.int p3), .val (.int p4), .val (.int p5), .val (.int ch0), .val (.int ch1), .val (.int ch2), .val (.int ch3), .val (.int ch4), .val (.int kSh), .val (.ref bAr), .val (.ref b1), .val (.ref b12), .val (.ref b24), .unset, .unset, .unset, .unset, .unset, .unset, .unset]) rfl ?_
    show own_S p e below T24 (mkF m 598 #[.val (.int p0), .val (.int p1), .val (.int p2), .val (.int p3), .val (.int p4), .val (.int p5), .val (.int ch0), .val (.int ch1), .val (.int ch2), .val (.int ch3), .val (.int ch4), .val (.int kSh), .val (.ref bAr), .val (.ref b1), .val (.ref b12), .val (.ref b24), .unset, .unset, .unset, .unset, .unset, .unset, .unset] []) _
    refine XS.aload X24.here hx rfl (hb hby at_598) rfl rfl ?_
    exact kt)
  have f30 := (((Ex6.ext E12).keep K18).keep K24)
  have f31 := (((Va6.ext E12).keep K18 (ninS ne_b1_b12 nin0)).keep K24 nin0)
  have f32 := (((Co6.ext E12).keep K18 (ninS ne_b1_b12 nin0)).keep K24 nin0)
  have f33 := (((Ar6.ext E12).keep K18 (ninS ne_t6_b12 nin0)).keep K24 nin0)
  obtain ⟨_, _, ⟨T29, L29, cc29, ss29⟩, -, X29, hSn29, hgr29, ⟨Lc29, hQ29, l29, y29, z29⟩, st29⟩ := callSS X24 hx (y := (⟨"com/example/dual_delivery/dualdelivery/model/ResourceName", "of", "(Ljava/lang/String;)Lcom/example/dual_delivery/dualdelivery/model/ResourceName;"⟩ : MethodName)) hown (mvT hZ (hw _ (List.mem_of_getElem? (i := 52) rfl))) (mvT hZ (hw _ (List.mem_of_getElem? (i := 53) rfl))) (mvT hZ (hw _ (List.mem_of_getElem? (i := 54) rfl))) (mvT hZ (hw _ (List.mem_of_getElem? (i := 55) rfl))) (by decide) (backOfS (W := 0) (rm13 l Z a0 hw [] b1 t6 kb6 cs G1 G3 T24.heap n0 Z25 f30 f31 f32 f33 hpc hlc hne hLc hgd Od26 O2 P5 O4 rG3) hZ (hw _ (List.mem_of_getElem? (i := 55) rfl)) (hw _ (List.mem_of_getElem? (i := 54) rfl)) (by decide) (by decide)) (g := (mkF m 600 #[.val (.int p0), .val (.int p1), .val (.int p2), .val (.int p3), .val (.int p4), .val (.int p5), .val (.int ch0), .val (.int ch1), .val (.int ch2), .val (.int ch3), .val (.int ch4), .val (.int kSh), .val (.ref bAr), .val (.ref b1), .val (.ref b12), .val (.ref b24), .unset, .unset, .unset, .unset, .unset, .unset, .unset] [(.ref b1)])) rfl (by rw [hml]; rfl) (argsL := [(.ref b1)]) (rest := []) (lenOf pd_11 rfl) rfl (by show 2 * 0 + _ ≤ _; exact Nat.le_of_eq rfl) (hb hby at_600) (fun _ _ => ⟨rfl, rfl, (by decide : 7 + 3 ≤ _), (by decide : 205 + 25 ≤ _)⟩)
  dsimp only [Pt.U, Pt.locs, Pt.cells, Pt.slots] at X29 l29 y29 z29 st29 hQ29
  subst l29 y29 z29
  have X29 : Stand p l e _ _ m _ below meth c T29 _ 10 230 := X29
  have hZ : Z.Warmed39 (s.setVm T29.vm).vm := State.Warmed39.trans hZ hSn29.1
  have hown : (s.setVm T29.vm).vm.findClass "com/example/dual_delivery/dualdelivery/model/ResourceNameOfPinLaw" = some m.cls := by rw [show (s.setVm T29.vm).vm = T29.vm from rfl, hSn29.1.alike.findClass]; exact hown
  obtain ⟨b29, rfl, Nq29, gb29, K29, Ex29, Va29⟩ := hQ29
  have Nf29 := Fr.app Nf24 Nq29
  have Z34 : n0 ≤ T29.heap.size := Nat.le_trans Z25 K29.1
  have Od35 : Old Z n0 T29.heap := Od26.keep K29 all0
  have kn36 : ∀ t, own_S p e below T29 (mkF m 603 #[.val (.int p0), .val (.int p1), .val (.int p2), .val (.int p3), .val (.int p4), .val (.int p5), .val (.int ch0), .val (.int ch1), .val (.int ch2), .val (.int ch3), .val (.int ch4), .val (.int kSh), .val (.ref bAr), .val (.ref b1), .val (.ref b12), .val (.ref b24), .unset, .unset, .unset, .unset, .unset, .unset, .unset] [(.ref b29)]) t → own_S p e below T0 (mkF m 569 #[.val (.int p0), .val (.int p1), .val (.int p2), .val (.int p3), .val (.int p4), .val (.int p5), .val (.int ch0), .val (.int ch1), .val (.int ch2), .val (.int ch3), .val (.int ch4), .val (.int kSh), .val (.ref bAr), .unset, .unset, .unset, .unset, .unset, .unset, .unset, .unset, .unset, .unset] []) t := fun t kt => kn28 t (st29.trans kt)
  have kn37 : ∀ t, own_S p e below T29 (mkF m 607 #[.val (.int p0), .val (.int p1), .val (.int p2), .val (.int p3), .val (.int p4), .val (.int p5), .val (.int ch0), .val (.int ch1), .val (.int ch2), .val (.int ch3), .val (.int ch4), .val (.int kSh), .val (.ref bAr), .val (.ref b1), .val (.ref b12), .val (.ref b24), .val (.ref b29), .unset, .unset, .unset, .unset, .unset, .unset] [(.ref b12)]) t → own_S p e below T0 (mkF m 569 #[.val (.int p0), .val (.int p1), .val (.int p2), .val (.int p3), .val (.int p4), .val (.int p5), .val (.int ch0), .val (.int ch1), .val (.int ch2), .val (.int ch3), .val (.int ch4), .val (.int kSh), .val (.ref bAr), .unset, .unset, .unset, .unset, .unset, .unset, .unset, .unset, .unset, .unset] []) t := fun t kt => kn36 t (by
    show own_S p e below T29 (mkF m 603 #[.val (.int p0), .val (.int p1), .val (.int p2), .val (.int p3), .val (.int p4), .val (.int p5), .val (.int ch0), .val (.int ch1), .val (.int ch2), .val (.int ch3), .val (.int ch4), .val (.int kSh), .val (.ref bAr), .val (.ref b1), .val (.ref b12), .val (.ref b24), .unset, .unset, .unset, .unset, .unset, .unset, .unset] [(.ref b29)]) _
    refine XS.astore X29.here hx rfl (hb hby at_603) rfl rfl (l' := #[.val (.int p0), .val (.int p1), .val (.int p2), .val (.int p3), .val (.int p4), .val (.int p5), .val (.int ch0), .val (.int ch1), .val (.int ch2), .val (.int ch3), .val (.int ch4), .val (.int kSh), .val (.ref bAr), .val (.ref b1), .val (.ref b12), .val (.ref b24), .val (.ref b29), .unset, .unset, .unset, .unset, .unset, .unset]) rfl ?_
    show own_S p e below T29 (mkF m 605 #[.val (.int p0), .val (.int p1), .val (.int p2), .val (.int p3), .val (.int p4), .val (.int p5), .val (.int ch0), .val (.int ch1), .val (.int ch2), .val (.int ch3), .val (.int ch4), .val (.int kSh), .val (.ref bAr), .val (.ref b1), .val (.ref b12), .val (.ref b24), .val (.ref b29), .unset, .unset, .unset, .unset, .unset, .unset] []) _
    refine XS.aload X29.here hx rfl (hb hby at_605) rfl rfl ?_
    exact kt)
  have f39 := ((Ex18.keep K24).keep K29)
  have f40 := ((Va18.keep K24 nin0).keep K29 nin0)
  have f41 := ((Co18.keep K24 nin0).keep K29 nin0)
  have f42 := ((Ar18.keep K24 nin0).keep K29 nin0)
  obtain ⟨_, _, ⟨T38, L38, cc38, ss38⟩, -, X38, hSn38, hgr38, ⟨Lc38, hQ38, l38, y38, z38⟩, st38⟩ := callSS X29 hx (y := (⟨"com/example/dual_delivery/dualdelivery/model/ResourceName", "of", "(Ljava/lang/String;)Lcom/example/dual_delivery/dualdelivery/model/ResourceName;"⟩ : MethodName)) hown (mvT hZ (hw _ (List.mem_of_getElem? (i := 52) rfl))) (mvT hZ (hw _ (List.mem_of_getElem? (i := 53) rfl))) (mvT hZ (hw _ (List.mem_of_getElem? (i := 54) rfl))) (mvT hZ (hw _ (List.mem_of_getElem? (i := 55) rfl))) (by decide) (backOfS (W := 0) (rm13 l Z a0 hw [] b12 t18 kb18 cs G1 G3 T29.heap n0 Z34 f39 f40 f41 f42 hpc hlc hne hLc hgd Od35 O2 P5 O4 rG3) hZ (hw _ (List.mem_of_getElem? (i := 55) rfl)) (hw _ (List.mem_of_getElem? (i := 54) rfl)) (by decide) (by decide)) (g := (mkF m 607 #[.val (.int p0), .val (.int p1), .val (.int p2), .val (.int p3), .val (.int p4), .val (.int p5), .val (.int ch0), .val (.int ch1), .val (.int ch2), .val (.int ch3), .val (.int ch4), .val (.int kSh), .val (.ref bAr), .val (.ref b1), .val (.ref b12), .val (.ref b24), .val (.ref b29), .unset, .unset, .unset, .unset, .unset, .unset] [(.ref b12)])) rfl (by rw [hml]; rfl) (argsL := [(.ref b12)]) (rest := []) (lenOf pd_11 rfl) rfl (by show 2 * 0 + _ ≤ _; exact Nat.le_of_eq rfl) (hb hby at_607) (fun _ _ => ⟨rfl, rfl, (by decide : 10 + 3 ≤ _), (by decide : 230 + 25 ≤ _)⟩)
  dsimp only [Pt.U, Pt.locs, Pt.cells, Pt.slots] at X38 l38 y38 z38 st38 hQ38
  subst l38 y38 z38
  have X38 : Stand p l e _ (s.setVm T38.vm) m _ below meth c T38 _ 13 255 := X38
  have hZ : Z.Warmed39 (s.setVm T38.vm).vm := State.Warmed39.trans (t := s.setVm T29.vm) hZ hSn38.1
  have hown : (s.setVm T38.vm).vm.findClass "com/example/dual_delivery/dualdelivery/model/ResourceNameOfPinLaw" = some m.cls := by rw [show (s.setVm T38.vm).vm = T38.vm from rfl, hSn38.1.alike.findClass]; exact hown
  have hSn38 : s.Since T38.vm T38.heap.size := foldS hSn29 (Nat.le_refl _) hSn38 hgr38
  obtain ⟨b38, rfl, Nq38, gb38, K38, Ex38, Va38⟩ := hQ38
  have Nf38 := Fr.app Nf29 Nq38
  have Z43 : n0 ≤ T38.heap.size := Nat.le_trans Z34 K38.1
  have hk44 := Nat.le_trans (Nat.le_refl _) K38.1
  have Od45 : Old Z n0 T38.heap := Od35.keep K38 all0
  have kn46 : ∀ t, own_S p e below T38 (mkF m 610 #[.val (.int p0), .val (.int p1), .val (.int p2), .val (.int p3), .val (.int p4), .val (.int p5), .val (.int ch0), .val (.int ch1), .val (.int ch2), .val (.int ch3), .val (.int ch4), .val (.int kSh), .val (.ref bAr), .val (.ref b1), .val (.ref b12), .val (.ref b24), .val (.ref b29), .unset, .unset, .unset, .unset, .unset, .unset] [(.ref b38)]) t → own_S p e below T0 (mkF m 569 #[.val (.int p0), .val (.int p1), .val (.int p2), .val (.int p3), .val (.int p4), .val (.int p5), .val (.int ch0), .val (.int ch1), .val (.int ch2), .val (.int ch3), .val (.int ch4), .val (.int kSh), .val (.ref bAr), .unset, .unset, .unset, .unset, .unset, .unset, .unset, .unset, .unset, .unset] []) t := fun t kt => kn37 t (st38.trans kt)
  have kn47 : ∀ t, own_S p e below T38 (mkF m 614 #[.val (.int p0), .val (.int p1), .val (.int p2), .val (.int p3), .val (.int p4), .val (.int p5), .val (.int ch0), .val (.int ch1), .val (.int ch2), .val (.int ch3), .val (.int ch4), .val (.int kSh), .val (.ref bAr), .val (.ref b1), .val (.ref b12), .val (.ref b24), .val (.ref b29), .val (.ref b38), .unset, .unset, .unset, .unset, .unset] [(.ref b24)]) t → own_S p e below T0 (mkF m 569 #[.val (.int p0), .val (.int p1), .val (.int p2), .val (.int p3), .val (.int p4), .val (.int p5), .val (.int ch0), .val (.int ch1), .val (.int ch2), .val (.int ch3), .val (.int ch4), .val (.int kSh), .val (.ref bAr), .unset, .unset, .unset, .unset, .unset, .unset, .unset, .unset, .unset, .unset] []) t := fun t kt => kn46 t (by
    show own_S p e below T38 (mkF m 610 #[.val (.int p0), .val (.int p1), .val (.int p2), .val (.int p3), .val (.int p4), .val (.int p5), .val (.int ch0), .val (.int ch1), .val (.int ch2), .val (.int ch3), .val (.int ch4), .val (.int kSh), .val (.ref bAr), .val (.ref b1), .val (.ref b12), .val (.ref b24), .val (.ref b29), .unset, .unset, .unset, .unset, .unset, .unset] [(.ref b38)]) _
    refine XS.astore X38.here hx rfl (hb hby at_610) rfl rfl (l' := #[.val (.int p0), .val (.int p1), .val (.int p2), .val (.int p3), .val (.int p4), .val (.int p5), .val (.int ch0), .val (.int ch1), .val (.int ch2), .val (.int ch3), .val (.int ch4), .val (.int kSh), .val (.ref bAr), .val (.ref b1), .val (.ref b12), .val (.ref b24), .val (.ref b29), .val (.ref b38), .unset, .unset, .unset, .unset, .unset]) rfl ?_
    show own_S p e below T38 (mkF m 612 #[.val (.int p0), .val (.int p1), .val (.int p2), .val (.int p3), .val (.int p4), .val (.int p5), .val (.int ch0), .val (.int ch1), .val (.int ch2), .val (.int ch3), .val (.int ch4), .val (.int kSh), .val (.ref bAr), .val (.ref b1), .val (.ref b12), .val (.ref b24), .val (.ref b29), .val (.ref b38), .unset, .unset, .unset, .unset, .unset] []) _
    refine XS.aload X38.here hx rfl (hb hby at_612) rfl rfl ?_
    exact kt)
  have f49 := ((Ex24.keep K29).keep K38)
  have f50 := ((Va24.keep K29 nin0).keep K38 nin0)
  have f51 := ((Co24.keep K29 nin0).keep K38 nin0)
  have f52 := ((Ar24.keep K29 nin0).keep K38 nin0)
  obtain ⟨_, _, ⟨T48, L48, cc48, ss48⟩, -, X48, hSn48, hgr48, ⟨Lc48, hQ48, l48, y48, z48⟩, st48⟩ := callSS X38 hx (y := (⟨"com/example/dual_delivery/dualdelivery/model/ResourceName", "of", "(Ljava/lang/String;)Lcom/example/dual_delivery/dualdelivery/model/ResourceName;"⟩ : MethodName)) hown (mvT hZ (hw _ (List.mem_of_getElem? (i := 52) rfl))) (mvT hZ (hw _ (List.mem_of_getElem? (i := 53) rfl))) (mvT hZ (hw _ (List.mem_of_getElem? (i := 54) rfl))) (mvT hZ (hw _ (List.mem_of_getElem? (i := 55) rfl))) (by decide) (backOfS (W := 0) (rm13 l Z a0 hw [] b24 t24 kb24 ([ch0] : List Int32) G1 G3 T38.heap n0 Z43 f49 f50 f51 f52 hps hls (Nat.le_of_ble_eq_true rfl) hL0 hgs Od45 O2 P5 O4 rG3) hZ (hw _ (List.mem_of_getElem? (i := 55) rfl)) (hw _ (List.mem_of_getElem? (i := 54) rfl)) (by decide) (by decide)) (g := (mkF m 614 #[.val (.int p0), .val (.int p1), .val (.int p2), .val (.int p3), .val (.int p4), .val (.int p5), .val (.int ch0), .val (.int ch1), .val (.int ch2), .val (.int ch3), .val (.int ch4), .val (.int kSh), .val (.ref bAr), .val (.ref b1), .val (.ref b12), .val (.ref b24), .val (.ref b29), .val (.ref b38), .unset, .unset, .unset, .unset, .unset] [(.ref b24)])) rfl (by rw [hml]; rfl) (argsL := [(.ref b24)]) (rest := []) (lenOf pd_11 rfl) rfl (by show 2 * 0 + _ ≤ _; exact Nat.le_of_eq rfl) (hb hby at_614) (fun _ _ => ⟨rfl, rfl, (by decide : 13 + 3 ≤ _), (by decide : 255 + 25 ≤ _)⟩)
  dsimp only [Pt.U, Pt.locs, Pt.cells, Pt.slots] at X48 l48 y48 z48 st48 hQ48
  subst l48 y48 z48
  have X48 : Stand p l e _ (s.setVm T48.vm) m _ below meth c T48 _ 16 280 := X48
  have hZ : Z.Warmed39 (s.setVm T48.vm).vm := State.Warmed39.trans (t := s.setVm T38.vm) hZ hSn48.1
  have hown : (s.setVm T48.vm).vm.findClass "com/example/dual_delivery/dualdelivery/model/ResourceNameOfPinLaw" = some m.cls := by rw [show (s.setVm T48.vm).vm = T48.vm from rfl, hSn48.1.alike.findClass]; exact hown
  have hSn48 : s.Since T48.vm T48.heap.size := foldS hSn38 (Nat.le_refl _) hSn48 hgr48
  obtain ⟨b48, rfl, Nq48, gb48, K48, Ex48, Va48⟩ := hQ48
  have Nf48 := Fr.app Nf38 Nq48
  have Z53 : n0 ≤ T48.heap.size := Nat.le_trans Z43 K48.1
  have hk54 := Nat.le_trans (Nat.le_refl _) K48.1
  have Od55 : Old Z n0 T48.heap := Od45.keep K48 all0
  have kn56 : ∀ t, own_S p e below T48 (mkF m 617 #[.val (.int p0), .val (.int p1), .val (.int p2), .val (.int p3), .val (.int p4), .val (.int p5), .val (.int ch0), .val (.int ch1), .val (.int ch2), .val (.int ch3), .val (.int ch4), .val (.int kSh), .val (.ref bAr), .val (.ref b1), .val (.ref b12), .val (.ref b24), .val (.ref b29), .val (.ref b38), .unset, .unset, .unset, .unset, .unset] [(.ref b48)]) t → own_S p e below T0 (mkF m 569 #[.val (.int p0), .val (.int p1), .val (.int p2), .val (.int p3), .val (.int p4), .val (.int p5), .val (.int ch0), .val (.int ch1), .val (.int ch2), .val (.int ch3), .val (.int ch4), .val (.int kSh), .val (.ref bAr), .unset, .unset, .unset, .unset, .unset, .unset, .unset, .unset, .unset, .unset] []) t := fun t kt => kn47 t (st48.trans kt)
  have kn57 : ∀ t, own_S p e below T48 (mkF m 621 #[.val (.int p0), .val (.int p1), .val (.int p2), .val (.int p3), .val (.int p4), .val (.int p5), .val (.int ch0), .val (.int ch1), .val (.int ch2), .val (.int ch3), .val (.int ch4), .val (.int kSh), .val (.ref bAr), .val (.ref b1), .val (.ref b12), .val (.ref b24), .val (.ref b29), .val (.ref b38), .val (.ref b48), .unset, .unset, .unset, .unset] [(.ref b29)]) t → own_S p e below T0 (mkF m 569 #[.val (.int p0), .val (.int p1), .val (.int p2), .val (.int p3), .val (.int p4), .val (.int p5), .val (.int ch0), .val (.int ch1), .val (.int ch2), .val (.int ch3), .val (.int ch4), .val (.int kSh), .val (.ref bAr), .unset, .unset, .unset, .unset, .unset, .unset, .unset, .unset, .unset, .unset] []) t := fun t kt => kn56 t (by
    show own_S p e below T48 (mkF m 617 #[.val (.int p0), .val (.int p1), .val (.int p2), .val (.int p3), .val (.int p4), .val (.int p5), .val (.int ch0), .val (.int ch1), .val (.int ch2), .val (.int ch3), .val (.int ch4), .val (.int kSh), .val (.ref bAr), .val (.ref b1), .val (.ref b12), .val (.ref b24), .val (.ref b29), .val (.ref b38), .unset, .unset, .unset, .unset, .unset] [(.ref b48)]) _
    refine XS.astore X48.here hx rfl (hb hby at_617) rfl rfl (l' := #[.val (.int p0), .val (.int p1), .val (.int p2), .val (.int p3), .val (.int p4), .val (.int p5), .val (.int ch0), .val (.int ch1), .val (.int ch2), .val (.int ch3), .val (.int ch4), .val (.int kSh), .val (.ref bAr), .val (.ref b1), .val (.ref b12), .val (.ref b24), .val (.ref b29), .val (.ref b38), .val (.ref b48), .unset, .unset, .unset, .unset]) rfl ?_
    show own_S p e below T48 (mkF m 619 #[.val (.int p0), .val (.int p1), .val (.int p2), .val (.int p3), .val (.int p4), .val (.int p5), .val (.int ch0), .val (.int ch1), .val (.int ch2), .val (.int ch3), .val (.int ch4), .val (.int kSh), .val (.ref bAr), .val (.ref b1), .val (.ref b12), .val (.ref b24), .val (.ref b29), .val (.ref b38), .val (.ref b48), .unset, .unset, .unset, .unset] []) _
    refine XS.aload X48.here hx rfl (hb hby at_619) rfl rfl ?_
    exact kt)
  have f59 := ((Va29.keep K38 nin0).keep K48 nin0)
  have f60 := ((Ex29.keep K38).keep K48)
  obtain ⟨cq58, kq58, qa58, qb58, qc58⟩ := isOf hZ rfl f60
  obtain ⟨_, _, ⟨T58, L58, cc58, ss58⟩, -, X58, ⟨Lc58, hQ58, l58, y58, z58⟩, st58⟩ := X48.virtualBack hx (y := (⟨"com/example/dual_delivery/dualdelivery/model/ResourceName", "toString", "()Ljava/lang/String;"⟩ : MethodName)) (z := (⟨"com/example/dual_delivery/dualdelivery/model/ResourceName", "toString", "()Ljava/lang/String;"⟩ : MethodName)) hown (mvT hZ (hw _ (List.mem_of_getElem? (i := 110) rfl))) (mvT hZ (hw _ (List.mem_of_getElem? (i := 111) rfl))) (notFace_of_selects (args := #[]) (mvT hZ (hw _ (List.mem_of_getElem? (i := 113) rfl)))) (mvT hZ (hw _ (List.mem_of_getElem? (i := 113) rfl))) (mvT hZ (hw _ (List.mem_of_getElem? (i := 112) rfl))) (by decide) (backOf (W := 0) (rm25 l Z a0 hw [] b29 b1 T48.heap n0 Z53 f59) hZ (hw _ (List.mem_of_getElem? (i := 114) rfl)) (hw _ (List.mem_of_getElem? (i := 54) rfl)) (by decide) (by decide)) qa58 qc58 (g := (mkF m 621 #[.val (.int p0), .val (.int p1), .val (.int p2), .val (.int p3), .val (.int p4), .val (.int p5), .val (.int ch0), .val (.int ch1), .val (.int ch2), .val (.int ch3), .val (.int ch4), .val (.int kSh), .val (.ref bAr), .val (.ref b1), .val (.ref b12), .val (.ref b24), .val (.ref b29), .val (.ref b38), .val (.ref b48), .unset, .unset, .unset, .unset] [(.ref b29)])) rfl (by rw [hml]; rfl) (Steps.refl _) (argsL := []) (rest := []) (lenOf pd_12 rfl) rfl (by show 2 * 0 + _ ≤ _; exact Nat.le_of_eq rfl) (hb hby at_621) (fun _ _ => ⟨rfl, rfl, (by decide : 16 + 0 ≤ _), (by decide : 280 + 0 ≤ _)⟩)
  dsimp only [Pt.U, Pt.locs, Pt.cells, Pt.slots] at X58 l58 y58 z58 st58 hQ58
  subst l58 y58 z58
  have X58 : Stand p l e _ _ m _ below meth c T58 _ 16 280 := X58
  obtain ⟨rfl, Nq58, eq58⟩ := hQ58
  have Nf58 := Fr.app Nf48 Nq58
  have kn61 : ∀ t, own_S p e below T58 (mkF m 624 #[.val (.int p0), .val (.int p1), .val (.int p2), .val (.int p3), .val (.int p4), .val (.int p5), .val (.int ch0), .val (.int ch1), .val (.int ch2), .val (.int ch3), .val (.int ch4), .val (.int kSh), .val (.ref bAr), .val (.ref b1), .val (.ref b12), .val (.ref b24), .val (.ref b29), .val (.ref b38), .val (.ref b48), .unset, .unset, .unset, .unset] [(.ref b1)]) t → own_S p e below T0 (mkF m 569 #[.val (.int p0), .val (.int p1), .val (.int p2), .val (.int p3), .val (.int p4), .val (.int p5), .val (.int ch0), .val (.int ch1), .val (.int ch2), .val (.int ch3), .val (.int ch4), .val (.int kSh), .val (.ref bAr), .unset, .unset, .unset, .unset, .unset, .unset, .unset, .unset, .unset, .unset] []) t := fun t kt => kn57 t (st58.trans kt)
  have kn62 : ∀ t, own_S p e below T58 (mkF m 630 #[.val (.int p0), .val (.int p1), .val (.int p2), .val (.int p3), .val (.int p4), .val (.int p5), .val (.int ch0), .val (.int ch1), .val (.int ch2), .val (.int ch3), .val (.int ch4), .val (.int kSh), .val (.ref bAr), .val (.ref b1), .val (.ref b12), .val (.ref b24), .val (.ref b29), .val (.ref b38), .val (.ref b48), .val (.ref b1), .unset, .unset, .unset] [(.ref b1), (.ref b1)]) t → own_S p e below T0 (mkF m 569 #[.val (.int p0), .val (.int p1), .val (.int p2), .val (.int p3), .val (.int p4), .val (.int p5), .val (.int ch0), .val (.int ch1), .val (.int ch2), .val (.int ch3), .val (.int ch4), .val (.int kSh), .val (.ref bAr), .unset, .unset, .unset, .unset, .unset, .unset, .unset, .unset, .unset, .unset] []) t := fun t kt => kn61 t (by
    show own_S p e below T58 (mkF m 624 #[.val (.int p0), .val (.int p1), .val (.int p2), .val (.int p3), .val (.int p4), .val (.int p5), .val (.int ch0), .val (.int ch1), .val (.int ch2), .val (.int ch3), .val (.int ch4), .val (.int kSh), .val (.ref bAr), .val (.ref b1), .val (.ref b12), .val (.ref b24), .val (.ref b29), .val (.ref b38), .val (.ref b48), .unset, .unset, .unset, .unset] [(.ref b1)]) _
    refine XS.astore X58.here hx rfl (hb hby at_624) rfl rfl (l' := #[.val (.int p0), .val (.int p1), .val (.int p2), .val (.int p3), .val (.int p4), .val (.int p5), .val (.int ch0), .val (.int ch1), .val (.int ch2), .val (.int ch3), .val (.int ch4), .val (.int kSh), .val (.ref bAr), .val (.ref b1), .val (.ref b12), .val (.ref b24), .val (.ref b29), .val (.ref b38), .val (.ref b48), .val (.ref b1), .unset, .unset, .unset]) rfl ?_
    show own_S p e below T58 (mkF m 626 #[.val (.int p0), .val (.int p1), .val (.int p2), .val (.int p3), .val (.int p4), .val (.int p5), .val (.int ch0), .val (.int ch1), .val (.int ch2), .val (.int ch3), .val (.int ch4), .val (.int kSh), .val (.ref bAr), .val (.ref b1), .val (.ref b12), .val (.ref b24), .val (.ref b29), .val (.ref b38), .val (.ref b48), .val (.ref b1), .unset, .unset, .unset] []) _
    refine XS.aload X58.here hx rfl (hb hby at_626) rfl rfl ?_
    show own_S p e below T58 (mkF m 628 #[.val (.int p0), .val (.int p1), .val (.int p2), .val (.int p3), .val (.int p4), .val (.int p5), .val (.int ch0), .val (.int ch1), .val (.int ch2), .val (.int ch3), .val (.int ch4), .val (.int kSh), .val (.ref bAr), .val (.ref b1), .val (.ref b12), .val (.ref b24), .val (.ref b29), .val (.ref b38), .val (.ref b48), .val (.ref b1), .unset, .unset, .unset] [(.ref b1)]) _
    refine XS.aload X58.here hx rfl (hb hby at_628) rfl rfl ?_
    exact kt)
  have heq : ∀ d ∈ StrChars.Road.wordsEq, d.before a0 Z = true := fun d hd => hw d ((by decide +kernel : ∀ d ∈ StrChars.Road.wordsEq, d ∈ tables_1) d hd)
  have f64 := (((f30.keep K29).keep K38).keep K48)
  have f65 := (((f31.keep K29 nin0).keep K38 nin0).keep K48 nin0)
  have f66 := (((f32.keep K29 nin0).keep K38 nin0).keep K48 nin0)
  have f67 := (((f33.keep K29 nin0).keep K38 nin0).keep K48 nin0)
  obtain ⟨cq63, kq63, qa63, qb63, qc63⟩ := isOf hZ eq58 f64
  obtain ⟨_, _, ⟨T63, L63, cc63, ss63⟩, -, X63, ⟨Lc63, hQ63, l63, y63, z63⟩, st63⟩ := X58.virtualBack hx (y := (⟨"java/lang/String", "equals", "(Ljava/lang/Object;)Z"⟩ : MethodName)) (z := (⟨"java/lang/String", "equals", "(Ljava/lang/Object;)Z"⟩ : MethodName)) hown (mvT hZ (hw _ (List.mem_of_getElem? (i := 115) rfl))) (mvT hZ (hw _ (List.mem_of_getElem? (i := 116) rfl))) (notFace_of_selects (args := #[]) (mvT hZ (hw _ (List.mem_of_getElem? (i := 118) rfl)))) (mvT hZ (hw _ (List.mem_of_getElem? (i := 118) rfl))) (mvT hZ (hw _ (List.mem_of_getElem? (i := 117) rfl))) (by decide) (StrChars.Road.eqW (W := 0) hZ heq (kI := 4) (hw _ (List.mem_of_getElem? (i := 10) rfl)) f64 f65 f66 f67 (StrChars.Road.codOf (cs := cs) (n := cs.length) rfl (fun x hx => (hpc x hx).2)) (own_up _ hpc) (Nat.le_trans hlc (by decide)) f64 f65 f66 f67 (StrChars.Road.codOf (cs := cs) (n := cs.length) rfl (fun x hx => (hpc x hx).2)) (own_up _ hpc) (Nat.le_trans hlc (by decide)) (O2.ext Od55.2) P5 (by decide) (by decide)) qa63 qc63 (g := (mkF m 630 #[.val (.int p0), .val (.int p1), .val (.int p2), .val (.int p3), .val (.int p4), .val (.int p5), .val (.int ch0), .val (.int ch1), .val (.int ch2), .val (.int ch3), .val (.int ch4), .val (.int kSh), .val (.ref bAr), .val (.ref b1), .val (.ref b12), .val (.ref b24), .val (.ref b29), .val (.ref b38), .val (.ref b48), .val (.ref b1), .unset, .unset, .unset] [(.ref b1), (.ref b1)])) rfl (by rw [hml]; rfl) (Steps.refl _) (argsL := [(.ref b1)]) (rest := []) (lenOf pd_8 rfl) rfl (by show 2 * 0 + _ ≤ _; exact Nat.le_of_eq rfl) (hb hby at_630) (fun _ _ => ⟨rfl, eq58, (by decide : 16 + 0 ≤ _), (by decide : 280 + 0 ≤ _)⟩)
  dsimp only [Pt.U, Pt.locs, Pt.cells, Pt.slots] at X63 l63 y63 z63 st63 hQ63
  subst l63 y63 z63
  have X63 : Stand p l e _ _ m _ below meth c T63 _ 16 280 := X63
  obtain ⟨hd63, rfl, eq63⟩ := hQ63
  have Nf63 := Fr.app Nf58 (Fr.nil n0)
  rcases hd63 with ⟨rfl, hq63⟩ | ⟨rfl, hq63⟩
  · have kn68 : ∀ t, own_S p e below T63 (mkF m 633 #[.val (.int p0), .val (.int p1), .val (.int p2), .val (.int p3), .val (.int p4), .val (.int p5), .val (.int ch0), .val (.int ch1), .val (.int ch2), .val (.int ch3), .val (.int ch4), .val (.int kSh), .val (.ref bAr), .val (.ref b1), .val (.ref b12), .val (.ref b24), .val (.ref b29), .val (.ref b38), .val (.ref b48), .val (.ref b1), .unset, .unset, .unset] [(.int (1 : Int32))]) t → own_S p e below T0 (mkF m 569 #[.val (.int p0), .val (.int p1), .val (.int p2), .val (.int p3), .val (.int p4), .val (.int p5), .val (.int ch0), .val (.int ch1), .val (.int ch2), .val (.int ch3), .val (.int ch4), .val (.int kSh), .val (.ref bAr), .unset, .unset, .unset, .unset, .unset, .unset, .unset, .unset, .unset, .unset] []) t := fun t kt => kn62 t (st63.trans kt)
    have kn69 : ∀ t, own_S p e below T63 (mkF m 639 #[.val (.int p0), .val (.int p1), .val (.int p2), .val (.int p3), .val (.int p4), .val (.int p5), .val (.int ch0), .val (.int ch1), .val (.int ch2), .val (.int ch3), .val (.int ch4), .val (.int kSh), .val (.ref bAr), .val (.ref b1), .val (.ref b12), .val (.ref b24), .val (.ref b29), .val (.ref b38), .val (.ref b48), .val (.ref b1), .val (.int (1 : Int32)), .unset, .unset] [(.ref b38), (.ref b29)]) t → own_S p e below T0 (mkF m 569 #[.val (.int p0), .val (.int p1), .val (.int p2), .val (.int p3), .val (.int p4), .val (.int p5), .val (.int ch0), .val (.int ch1), .val (.int ch2), .val (.int ch3), .val (.int ch4), .val (.int kSh), .val (.ref bAr), .unset, .unset, .unset, .unset, .unset, .unset, .unset, .unset, .unset, .unset] []) t := fun t kt => kn68 t (by
      show own_S p e below T63 (mkF m 633 #[.val (.int p0), .val (.int p1), .val (.int p2), .val (.int p3), .val (.int p4), .val (.int p5), .val (.int ch0), .val (.int ch1), .val (.int ch2), .val (.int ch3), .val (.int ch4), .val (.int kSh), .val (.ref bAr), .val (.ref b1), .val (.ref b12), .val (.ref b24), .val (.ref b29), .val (.ref b38), .val (.ref b48), .val (.ref b1), .unset, .unset, .unset] [(.int (1 : Int32))]) _
      refine XS.istore X63.here hx rfl (hb hby at_633) rfl (l' := #[.val (.int p0), .val (.int p1), .val (.int p2), .val (.int p3), .val (.int p4), .val (.int p5), .val (.int ch0), .val (.int ch1), .val (.int ch2), .val (.int ch3), .val (.int ch4), .val (.int kSh), .val (.ref bAr), .val (.ref b1), .val (.ref b12), .val (.ref b24), .val (.ref b29), .val (.ref b38), .val (.ref b48), .val (.ref b1), .val (.int (1 : Int32)), .unset, .unset]) rfl ?_
      show own_S p e below T63 (mkF m 635 #[.val (.int p0), .val (.int p1), .val (.int p2), .val (.int p3), .val (.int p4), .val (.int p5), .val (.int ch0), .val (.int ch1), .val (.int ch2), .val (.int ch3), .val (.int ch4), .val (.int kSh), .val (.ref bAr), .val (.ref b1), .val (.ref b12), .val (.ref b24), .val (.ref b29), .val (.ref b38), .val (.ref b48), .val (.ref b1), .val (.int (1 : Int32)), .unset, .unset] []) _
      refine XS.aload X63.here hx rfl (hb hby at_635) rfl rfl ?_
      show own_S p e below T63 (mkF m 637 #[.val (.int p0), .val (.int p1), .val (.int p2), .val (.int p3), .val (.int p4), .val (.int p5), .val (.int ch0), .val (.int ch1), .val (.int ch2), .val (.int ch3), .val (.int ch4), .val (.int kSh), .val (.ref bAr), .val (.ref b1), .val (.ref b12), .val (.ref b24), .val (.ref b29), .val (.ref b38), .val (.ref b48), .val (.ref b1), .val (.int (1 : Int32)), .unset, .unset] [(.ref b29)]) _
      refine XS.aload X63.here hx rfl (hb hby at_637) rfl rfl ?_
      exact kt)
    have f71 := (Ex38.keep K48)
    have f72 := (Va38.keep K48 nin0)
    have f73 := ((f39.keep K38).keep K48)
    have f74 := ((f40.keep K38 nin0).keep K48 nin0)
    have f75 := ((f41.keep K38 nin0).keep K48 nin0)
    have f76 := ((f42.keep K38 nin0).keep K48 nin0)
    obtain ⟨cq70, kq70, qa70, qb70, qc70⟩ := isOf hZ eq63 f60
    obtain ⟨_, _, ⟨T70, L70, cc70, ss70⟩, -, X70, ⟨Lc70, hQ70, l70, y70, z70⟩, st70⟩ := X63.virtualBack hx (y := (⟨"com/example/dual_delivery/dualdelivery/model/ResourceName", "equals", "(Ljava/lang/Object;)Z"⟩ : MethodName)) (z := (⟨"com/example/dual_delivery/dualdelivery/model/ResourceName", "equals", "(Ljava/lang/Object;)Z"⟩ : MethodName)) hown (mvT hZ (hw _ (List.mem_of_getElem? (i := 120) rfl))) (mvT hZ (hw _ (List.mem_of_getElem? (i := 121) rfl))) (notFace_of_selects (args := #[]) (mvT hZ (hw _ (List.mem_of_getElem? (i := 123) rfl)))) (mvT hZ (hw _ (List.mem_of_getElem? (i := 123) rfl))) (mvT hZ (hw _ (List.mem_of_getElem? (i := 122) rfl))) (by decide) (backOf (W := 0) (rm27 l Z a0 hw [] b29 b38 b1 b12 t6 kb6 cs t18 kb18 cs G1 T48.heap n0 Z53 f59 f71 f72 f64 f65 f66 f67 hpc hlc f73 f74 f75 f76 hpc hlc Od55 O2 P5) hZ (hw _ (List.mem_of_getElem? (i := 124) rfl)) (hw _ (List.mem_of_getElem? (i := 54) rfl)) (by decide) (by decide)) qa70 qc70 (g := (mkF m 639 #[.val (.int p0), .val (.int p1), .val (.int p2), .val (.int p3), .val (.int p4), .val (.int p5), .val (.int ch0), .val (.int ch1), .val (.int ch2), .val (.int ch3), .val (.int ch4), .val (.int kSh), .val (.ref bAr), .val (.ref b1), .val (.ref b12), .val (.ref b24), .val (.ref b29), .val (.ref b38), .val (.ref b48), .val (.ref b1), .val (.int (1 : Int32)), .unset, .unset] [(.ref b38), (.ref b29)])) rfl (by rw [hml]; rfl) (Steps.refl _) (argsL := [(.ref b38)]) (rest := []) (lenOf pd_8 rfl) rfl (by show 2 * 0 + _ ≤ _; exact Nat.le_of_eq rfl) (hb hby at_639) (fun _ _ => ⟨rfl, eq63, (by decide : 16 + 0 ≤ _), (by decide : 280 + 0 ≤ _)⟩)
    dsimp only [Pt.U, Pt.locs, Pt.cells, Pt.slots] at X70 l70 y70 z70 st70 hQ70
    subst l70 y70 z70
    have X70 : Stand p l e _ _ m _ below meth c T70 _ 16 280 := X70
    obtain ⟨rfl, Nq70, eq70⟩ := hQ70
    have Nf70 := Fr.app Nf63 Nq70
    have kn77 : ∀ t, own_S p e below T70 (mkF m 642 #[.val (.int p0), .val (.int p1), .val (.int p2), .val (.int p3), .val (.int p4), .val (.int p5), .val (.int ch0), .val (.int ch1), .val (.int ch2), .val (.int ch3), .val (.int ch4), .val (.int kSh), .val (.ref bAr), .val (.ref b1), .val (.ref b12), .val (.ref b24), .val (.ref b29), .val (.ref b38), .val (.ref b48), .val (.ref b1), .val (.int (1 : Int32)), .unset, .unset] [(.int (if cs = cs then (1 : Int32) else 0))]) t → own_S p e below T0 (mkF m 569 #[.val (.int p0), .val (.int p1), .val (.int p2), .val (.int p3), .val (.int p4), .val (.int p5), .val (.int ch0), .val (.int ch1), .val (.int ch2), .val (.int ch3), .val (.int ch4), .val (.int kSh), .val (.ref bAr), .unset, .unset, .unset, .unset, .unset, .unset, .unset, .unset, .unset, .unset] []) t := fun t kt => kn69 t (st70.trans kt)
    rw [(show (if cs = cs then (1 : Int32) else 0) = (1 : Int32) from if_pos rfl)] at kn77
    have kn78 : ∀ t, own_S p e below T70 (mkF m 648 #[.val (.int p0), .val (.int p1), .val (.int p2), .val (.int p3), .val (.int p4), .val (.int p5), .val (.int ch0), .val (.int ch1), .val (.int ch2), .val (.int ch3), .val (.int ch4), .val (.int kSh), .val (.ref bAr), .val (.ref b1), .val (.ref b12), .val (.ref b24), .val (.ref b29), .val (.ref b38), .val (.ref b48), .val (.ref b1), .val (.int (1 : Int32)), .val (.int (1 : Int32)), .unset] [(.ref b48), (.ref b29)]) t → own_S p e below T0 (mkF m 569 #[.val (.int p0), .val (.int p1), .val (.int p2), .val (.int p3), .val (.int p4), .val (.int p5), .val (.int ch0), .val (.int ch1), .val (.int ch2), .val (.int ch3), .val (.int ch4), .val (.int kSh), .val (.ref bAr), .unset, .unset, .unset, .unset, .unset, .unset, .unset, .unset, .unset, .unset] []) t := fun t kt => kn77 t (by
      show own_S p e below T70 (mkF m 642 #[.val (.int p0), .val (.int p1), .val (.int p2), .val (.int p3), .val (.int p4), .val (.int p5), .val (.int ch0), .val (.int ch1), .val (.int ch2), .val (.int ch3), .val (.int ch4), .val (.int kSh), .val (.ref bAr), .val (.ref b1), .val (.ref b12), .val (.ref b24), .val (.ref b29), .val (.ref b38), .val (.ref b48), .val (.ref b1), .val (.int (1 : Int32)), .unset, .unset] [(.int (1 : Int32))]) _
      refine XS.istore X70.here hx rfl (hb hby at_642) rfl (l' := #[.val (.int p0), .val (.int p1), .val (.int p2), .val (.int p3), .val (.int p4), .val (.int p5), .val (.int ch0), .val (.int ch1), .val (.int ch2), .val (.int ch3), .val (.int ch4), .val (.int kSh), .val (.ref bAr), .val (.ref b1), .val (.ref b12), .val (.ref b24), .val (.ref b29), .val (.ref b38), .val (.ref b48), .val (.ref b1), .val (.int (1 : Int32)), .val (.int (1 : Int32)), .unset]) rfl ?_
      show own_S p e below T70 (mkF m 644 #[.val (.int p0), .val (.int p1), .val (.int p2), .val (.int p3), .val (.int p4), .val (.int p5), .val (.int ch0), .val (.int ch1), .val (.int ch2), .val (.int ch3), .val (.int ch4), .val (.int kSh), .val (.ref bAr), .val (.ref b1), .val (.ref b12), .val (.ref b24), .val (.ref b29), .val (.ref b38), .val (.ref b48), .val (.ref b1), .val (.int (1 : Int32)), .val (.int (1 : Int32)), .unset] []) _
      refine XS.aload X70.here hx rfl (hb hby at_644) rfl rfl ?_
      show own_S p e below T70 (mkF m 646 #[.val (.int p0), .val (.int p1), .val (.int p2), .val (.int p3), .val (.int p4), .val (.int p5), .val (.int ch0), .val (.int ch1), .val (.int ch2), .val (.int ch3), .val (.int ch4), .val (.int kSh), .val (.ref bAr), .val (.ref b1), .val (.ref b12), .val (.ref b24), .val (.ref b29), .val (.ref b38), .val (.ref b48), .val (.ref b1), .val (.int (1 : Int32)), .val (.int (1 : Int32)), .unset] [(.ref b29)]) _
      refine XS.aload X70.here hx rfl (hb hby at_646) rfl rfl ?_
      exact kt)
    have f80 := (f49.keep K48)
    have f81 := (f50.keep K48 nin0)
    have f82 := (f51.keep K48 nin0)
    have f83 := (f52.keep K48 nin0)
    obtain ⟨cq79, kq79, qa79, qb79, qc79⟩ := isOf hZ eq70 f60
    obtain ⟨_, _, ⟨T79, L79, cc79, ss79⟩, -, X79, ⟨Lc79, hQ79, l79, y79, z79⟩, st79⟩ := X70.virtualBack hx (y := (⟨"com/example/dual_delivery/dualdelivery/model/ResourceName", "equals", "(Ljava/lang/Object;)Z"⟩ : MethodName)) (z := (⟨"com/example/dual_delivery/dualdelivery/model/ResourceName", "equals", "(Ljava/lang/Object;)Z"⟩ : MethodName)) hown (mvT hZ (hw _ (List.mem_of_getElem? (i := 120) rfl))) (mvT hZ (hw _ (List.mem_of_getElem? (i := 121) rfl))) (notFace_of_selects (args := #[]) (mvT hZ (hw _ (List.mem_of_getElem? (i := 123) rfl)))) (mvT hZ (hw _ (List.mem_of_getElem? (i := 123) rfl))) (mvT hZ (hw _ (List.mem_of_getElem? (i := 122) rfl))) (by decide) (backOf (W := 0) (rm27 l Z a0 hw [] b29 b48 b1 b24 t6 kb6 cs t24 kb24 ([ch0] : List Int32) G1 T48.heap n0 Z53 f59 Ex48 Va48 f64 f65 f66 f67 hpc hlc f80 f81 f82 f83 hps hls Od55 O2 P5) hZ (hw _ (List.mem_of_getElem? (i := 124) rfl)) (hw _ (List.mem_of_getElem? (i := 54) rfl)) (by decide) (by decide)) qa79 qc79 (g := (mkF m 648 #[.val (.int p0), .val (.int p1), .val (.int p2), .val (.int p3), .val (.int p4), .val (.int p5), .val (.int ch0), .val (.int ch1), .val (.int ch2), .val (.int ch3), .val (.int ch4), .val (.int kSh), .val (.ref bAr), .val (.ref b1), .val (.ref b12), .val (.ref b24), .val (.ref b29), .val (.ref b38), .val (.ref b48), .val (.ref b1), .val (.int (1 : Int32)), .val (.int (1 : Int32)), .unset] [(.ref b48), (.ref b29)])) rfl (by rw [hml]; rfl) (Steps.refl _) (argsL := [(.ref b48)]) (rest := []) (lenOf pd_8 rfl) rfl (by show 2 * 0 + _ ≤ _; exact Nat.le_of_eq rfl) (hb hby at_648) (fun _ _ => ⟨rfl, eq70, (by decide : 16 + 0 ≤ _), (by decide : 280 + 0 ≤ _)⟩)
    dsimp only [Pt.U, Pt.locs, Pt.cells, Pt.slots] at X79 l79 y79 z79 st79 hQ79
    subst l79 y79 z79
    have X79 : Stand p l e _ _ m _ below meth c T79 _ 16 280 := X79
    obtain ⟨rfl, Nq79, eq79⟩ := hQ79
    have Nf79 := Fr.app Nf70 Nq79
    have kn84 : ∀ t, own_S p e below T79 (mkF m 651 #[.val (.int p0), .val (.int p1), .val (.int p2), .val (.int p3), .val (.int p4), .val (.int p5), .val (.int ch0), .val (.int ch1), .val (.int ch2), .val (.int ch3), .val (.int ch4), .val (.int kSh), .val (.ref bAr), .val (.ref b1), .val (.ref b12), .val (.ref b24), .val (.ref b29), .val (.ref b38), .val (.ref b48), .val (.ref b1), .val (.int (1 : Int32)), .val (.int (1 : Int32)), .unset] [(.int (if cs = ([ch0] : List Int32) then (1 : Int32) else 0))]) t → own_S p e below T0 (mkF m 569 #[.val (.int p0), .val (.int p1), .val (.int p2), .val (.int p3), .val (.int p4), .val (.int p5), .val (.int ch0), .val (.int ch1), .val (.int ch2), .val (.int ch3), .val (.int ch4), .val (.int kSh), .val (.ref bAr), .unset, .unset, .unset, .unset, .unset, .unset, .unset, .unset, .unset, .unset] []) t := fun t kt => kn78 t (st79.trans kt)
    have kn85 : ∀ t, own_S p e below T79 (mkF m 653 #[.val (.int p0), .val (.int p1), .val (.int p2), .val (.int p3), .val (.int p4), .val (.int p5), .val (.int ch0), .val (.int ch1), .val (.int ch2), .val (.int ch3), .val (.int ch4), .val (.int kSh), .val (.ref bAr), .val (.ref b1), .val (.ref b12), .val (.ref b24), .val (.ref b29), .val (.ref b38), .val (.ref b48), .val (.ref b1), .val (.int (1 : Int32)), .val (.int (1 : Int32)), .unset] [(.ref bAr), (.int (if cs = ([ch0] : List Int32) then (1 : Int32) else 0))]) t → own_S p e below T0 (mkF m 569 #[.val (.int p0), .val (.int p1), .val (.int p2), .val (.int p3), .val (.int p4), .val (.int p5), .val (.int ch0), .val (.int ch1), .val (.int ch2), .val (.int ch3), .val (.int ch4), .val (.int kSh), .val (.ref bAr), .unset, .unset, .unset, .unset, .unset, .unset, .unset, .unset, .unset, .unset] []) t := fun t kt => kn84 t (by
      show own_S p e below T79 (mkF m 651 #[.val (.int p0), .val (.int p1), .val (.int p2), .val (.int p3), .val (.int p4), .val (.int p5), .val (.int ch0), .val (.int ch1), .val (.int ch2), .val (.int ch3), .val (.int ch4), .val (.int kSh), .val (.ref bAr), .val (.ref b1), .val (.ref b12), .val (.ref b24), .val (.ref b29), .val (.ref b38), .val (.ref b48), .val (.ref b1), .val (.int (1 : Int32)), .val (.int (1 : Int32)), .unset] [(.int (if cs = ([ch0] : List Int32) then (1 : Int32) else 0))]) _
      refine XS.aload X79.here hx rfl (hb hby at_651) rfl rfl ?_
      exact kt)
    have f86 := (((((f19.keep K18 (ninS ne_bAr_b12 nin0)).keep K24 nin0).keep K29 nin0).keep K38 nin0).keep K48 nin0)
    obtain ⟨cl87, Ar87, -, Sz87, Ng87, -, -⟩ := id f86
    have kn88 : ∀ t, own_S p e below T79 (mkF m 655 #[.val (.int p0), .val (.int p1), .val (.int p2), .val (.int p3), .val (.int p4), .val (.int p5), .val (.int ch0), .val (.int ch1), .val (.int ch2), .val (.int ch3), .val (.int ch4), .val (.int kSh), .val (.ref bAr), .val (.ref b1), .val (.ref b12), .val (.ref b24), .val (.ref b29), .val (.ref b38), .val (.ref b48), .val (.ref b1), .val (.int (1 : Int32)), .val (.int (1 : Int32)), .unset] [(.int (1 : Int32)), (.int (Int32.ofNat cs.length)), (.int (if cs = ([ch0] : List Int32) then (1 : Int32) else 0))]) t → own_S p e below T0 (mkF m 569 #[.val (.int p0), .val (.int p1), .val (.int p2), .val (.int p3), .val (.int p4), .val (.int p5), .val (.int ch0), .val (.int ch1), .val (.int ch2), .val (.int ch3), .val (.int ch4), .val (.int kSh), .val (.ref bAr), .unset, .unset, .unset, .unset, .unset, .unset, .unset, .unset, .unset, .unset] []) t := fun t kt => kn85 t (by
      show own_S p e below T79 (mkF m 653 #[.val (.int p0), .val (.int p1), .val (.int p2), .val (.int p3), .val (.int p4), .val (.int p5), .val (.int ch0), .val (.int ch1), .val (.int ch2), .val (.int ch3), .val (.int ch4), .val (.int kSh), .val (.ref bAr), .val (.ref b1), .val (.ref b12), .val (.ref b24), .val (.ref b29), .val (.ref b38), .val (.ref b48), .val (.ref b1), .val (.int (1 : Int32)), .val (.int (1 : Int32)), .unset] [(.ref bAr), (.int (if cs = ([ch0] : List Int32) then (1 : Int32) else 0))]) _
      refine X79.arraylength hx (by rw [eq79]; exact Ar87.1) (State.isArrayOf_alike hZ.alike Ar87.2.1) (g := (mkF m 653 #[.val (.int p0), .val (.int p1), .val (.int p2), .val (.int p3), .val (.int p4), .val (.int p5), .val (.int ch0), .val (.int ch1), .val (.int ch2), .val (.int ch3), .val (.int ch4), .val (.int kSh), .val (.ref bAr), .val (.ref b1), .val (.ref b12), .val (.ref b24), .val (.ref b29), .val (.ref b38), .val (.ref b48), .val (.ref b1), .val (.int (1 : Int32)), .val (.int (1 : Int32)), .unset] [(.ref bAr), (.int (if cs = ([ch0] : List Int32) then (1 : Int32) else 0))])) rfl rfl (hb hby at_653) _ ?_
      rw [len_of Sz87 Ng87]
      show own_S p e below T79 (mkF m 654 #[.val (.int p0), .val (.int p1), .val (.int p2), .val (.int p3), .val (.int p4), .val (.int p5), .val (.int ch0), .val (.int ch1), .val (.int ch2), .val (.int ch3), .val (.int ch4), .val (.int kSh), .val (.ref bAr), .val (.ref b1), .val (.ref b12), .val (.ref b24), .val (.ref b29), .val (.ref b38), .val (.ref b48), .val (.ref b1), .val (.int (1 : Int32)), .val (.int (1 : Int32)), .unset] [(.int (Int32.ofNat cs.length)), (.int (if cs = ([ch0] : List Int32) then (1 : Int32) else 0))]) _
      refine XS.iconst X79.here hx rfl (hb hby at_654) ?_
      exact kt)
    by_cases hc655 : (Int32.ofNat cs.length) = (1 : Int32)
    · have kn89 : ∀ t, own_S p e below T79 (mkF m 658 #[.val (.int p0), .val (.int p1), .val (.int p2), .val (.int p3), .val (.int p4), .val (.int p5), .val (.int ch0), .val (.int ch1), .val (.int ch2), .val (.int ch3), .val (.int ch4), .val (.int kSh), .val (.ref bAr), .val (.ref b1), .val (.ref b12), .val (.ref b24), .val (.ref b29), .val (.ref b38), .val (.ref b48), .val (.ref b1), .val (.int (1 : Int32)), .val (.int (1 : Int32)), .unset] [(.int (if cs = ([ch0] : List Int32) then (1 : Int32) else 0))]) t → own_S p e below T0 (mkF m 569 #[.val (.int p0), .val (.int p1), .val (.int p2), .val (.int p3), .val (.int p4), .val (.int p5), .val (.int ch0), .val (.int ch1), .val (.int ch2), .val (.int ch3), .val (.int ch4), .val (.int kSh), .val (.ref bAr), .unset, .unset, .unset, .unset, .unset, .unset, .unset, .unset, .unset, .unset] []) t := fun t kt => kn88 t (by
        show own_S p e below T79 (mkF m 655 #[.val (.int p0), .val (.int p1), .val (.int p2), .val (.int p3), .val (.int p4), .val (.int p5), .val (.int ch0), .val (.int ch1), .val (.int ch2), .val (.int ch3), .val (.int ch4), .val (.int kSh), .val (.ref bAr), .val (.ref b1), .val (.ref b12), .val (.ref b24), .val (.ref b29), .val (.ref b38), .val (.ref b48), .val (.ref b1), .val (.int (1 : Int32)), .val (.int (1 : Int32)), .unset] [(.int (1 : Int32)), (.int (Int32.ofNat cs.length)), (.int (if cs = ([ch0] : List Int32) then (1 : Int32) else 0))]) _
        refine XS.icmpNo X79.here hx rfl (hb hby at_655) rfl (teq hc655).2 ?_
        exact kt)
      rw [(show (if cs = ([ch0] : List Int32) then (1 : Int32) else 0) = (1 : Int32) from if_pos (own_one (own_one1 hlc hc655) hd0))] at kn89
      have kn90 : ∀ t, own_S p e below T79 (mkF m 693 #[.val (.int p0), .val (.int p1), .val (.int p2), .val (.int p3), .val (.int p4), .val (.int p5), .val (.int ch0), .val (.int ch1), .val (.int ch2), .val (.int ch3), .val (.int ch4), .val (.int kSh), .val (.ref bAr), .val (.ref b1), .val (.ref b12), .val (.ref b24), .val (.ref b29), .val (.ref b38), .val (.ref b48), .val (.ref b1), .val (.int (1 : Int32)), .val (.int (1 : Int32)), .val (.int (1 : Int32))] [(.int (1 : Int32))]) t → own_S p e below T0 (mkF m 569 #[.val (.int p0), .val (.int p1), .val (.int p2), .val (.int p3), .val (.int p4), .val (.int p5), .val (.int ch0), .val (.int ch1), .val (.int ch2), .val (.int ch3), .val (.int ch4), .val (.int kSh), .val (.ref bAr), .unset, .unset, .unset, .unset, .unset, .unset, .unset, .unset, .unset, .unset] []) t := fun t kt => kn89 t (by
        show own_S p e below T79 (mkF m 658 #[.val (.int p0), .val (.int p1), .val (.int p2), .val (.int p3), .val (.int p4), .val (.int p5), .val (.int ch0), .val (.int ch1), .val (.int ch2), .val (.int ch3), .val (.int ch4), .val (.int kSh), .val (.ref bAr), .val (.ref b1), .val (.ref b12), .val (.ref b24), .val (.ref b29), .val (.ref b38), .val (.ref b48), .val (.ref b1), .val (.int (1 : Int32)), .val (.int (1 : Int32)), .unset] [(.int (1 : Int32))]) _
        refine XS.iconst X79.here hx rfl (hb hby at_658) ?_
        show own_S p e below T79 (mkF m 659 #[.val (.int p0), .val (.int p1), .val (.int p2), .val (.int p3), .val (.int p4), .val (.int p5), .val (.int ch0), .val (.int ch1), .val (.int ch2), .val (.int ch3), .val (.int ch4), .val (.int kSh), .val (.ref bAr), .val (.ref b1), .val (.ref b12), .val (.ref b24), .val (.ref b29), .val (.ref b38), .val (.ref b48), .val (.ref b1), .val (.int (1 : Int32)), .val (.int (1 : Int32)), .unset] [(.int (1 : Int32)), (.int (1 : Int32))]) _
        refine XS.goto X79.here hx rfl (pc0 := 659) (pc' := 663) rfl (hb hby at_659) (by decide) (by decide) ?_
        show own_S p e below T79 (mkF m 663 #[.val (.int p0), .val (.int p1), .val (.int p2), .val (.int p3), .val (.int p4), .val (.int p5), .val (.int ch0), .val (.int ch1), .val (.int ch2), .val (.int ch3), .val (.int ch4), .val (.int kSh), .val (.ref bAr), .val (.ref b1), .val (.ref b12), .val (.ref b24), .val (.ref b29), .val (.ref b38), .val (.ref b48), .val (.ref b1), .val (.int (1 : Int32)), .val (.int (1 : Int32)), .unset] [(.int (1 : Int32)), (.int (1 : Int32))]) _
        refine XS.icmpNo X79.here hx rfl (hb hby at_663) rfl (teq (by decide : (1 : Int32) = (1 : Int32))).2 ?_
        show own_S p e below T79 (mkF m 666 #[.val (.int p0), .val (.int p1), .val (.int p2), .val (.int p3), .val (.int p4), .val (.int p5), .val (.int ch0), .val (.int ch1), .val (.int ch2), .val (.int ch3), .val (.int ch4), .val (.int kSh), .val (.ref bAr), .val (.ref b1), .val (.ref b12), .val (.ref b24), .val (.ref b29), .val (.ref b38), .val (.ref b48), .val (.ref b1), .val (.int (1 : Int32)), .val (.int (1 : Int32)), .unset] []) _
        refine XS.iconst X79.here hx rfl (hb hby at_666) ?_
        show own_S p e below T79 (mkF m 667 #[.val (.int p0), .val (.int p1), .val (.int p2), .val (.int p3), .val (.int p4), .val (.int p5), .val (.int ch0), .val (.int ch1), .val (.int ch2), .val (.int ch3), .val (.int ch4), .val (.int kSh), .val (.ref bAr), .val (.ref b1), .val (.ref b12), .val (.ref b24), .val (.ref b29), .val (.ref b38), .val (.ref b48), .val (.ref b1), .val (.int (1 : Int32)), .val (.int (1 : Int32)), .unset] [(.int (1 : Int32))]) _
        refine XS.goto X79.here hx rfl (pc0 := 667) (pc' := 671) rfl (hb hby at_667) (by decide) (by decide) ?_
        show own_S p e below T79 (mkF m 671 #[.val (.int p0), .val (.int p1), .val (.int p2), .val (.int p3), .val (.int p4), .val (.int p5), .val (.int ch0), .val (.int ch1), .val (.int ch2), .val (.int ch3), .val (.int ch4), .val (.int kSh), .val (.ref bAr), .val (.ref b1), .val (.ref b12), .val (.ref b24), .val (.ref b29), .val (.ref b38), .val (.ref b48), .val (.ref b1), .val (.int (1 : Int32)), .val (.int (1 : Int32)), .unset] [(.int (1 : Int32))]) _
        refine XS.istore X79.here hx rfl (hb hby at_671) rfl (l' := #[.val (.int p0), .val (.int p1), .val (.int p2), .val (.int p3), .val (.int p4), .val (.int p5), .val (.int ch0), .val (.int ch1), .val (.int ch2), .val (.int ch3), .val (.int ch4), .val (.int kSh), .val (.ref bAr), .val (.ref b1), .val (.ref b12), .val (.ref b24), .val (.ref b29), .val (.ref b38), .val (.ref b48), .val (.ref b1), .val (.int (1 : Int32)), .val (.int (1 : Int32)), .val (.int (1 : Int32))]) rfl ?_
        show own_S p e below T79 (mkF m 673 #[.val (.int p0), .val (.int p1), .val (.int p2), .val (.int p3), .val (.int p4), .val (.int p5), .val (.int ch0), .val (.int ch1), .val (.int ch2), .val (.int ch3), .val (.int ch4), .val (.int kSh), .val (.ref bAr), .val (.ref b1), .val (.ref b12), .val (.ref b24), .val (.ref b29), .val (.ref b38), .val (.ref b48), .val (.ref b1), .val (.int (1 : Int32)), .val (.int (1 : Int32)), .val (.int (1 : Int32))] []) _
        refine XS.iload X79.here hx rfl (hb hby at_673) rfl ?_
        show own_S p e below T79 (mkF m 675 #[.val (.int p0), .val (.int p1), .val (.int p2), .val (.int p3), .val (.int p4), .val (.int p5), .val (.int ch0), .val (.int ch1), .val (.int ch2), .val (.int ch3), .val (.int ch4), .val (.int kSh), .val (.ref bAr), .val (.ref b1), .val (.ref b12), .val (.ref b24), .val (.ref b29), .val (.ref b38), .val (.ref b48), .val (.ref b1), .val (.int (1 : Int32)), .val (.int (1 : Int32)), .val (.int (1 : Int32))] [(.int (1 : Int32))]) _
        refine XS.ifNo X79.here hx rfl (hb hby at_675) rfl ((if0 _ _).trans (feq (by decide : ¬ ((1 : Int32) = (0 : Int32)))).1) ?_
        show own_S p e below T79 (mkF m 678 #[.val (.int p0), .val (.int p1), .val (.int p2), .val (.int p3), .val (.int p4), .val (.int p5), .val (.int ch0), .val (.int ch1), .val (.int ch2), .val (.int ch3), .val (.int ch4), .val (.int kSh), .val (.ref bAr), .val (.ref b1), .val (.ref b12), .val (.ref b24), .val (.ref b29), .val (.ref b38), .val (.ref b48), .val (.ref b1), .val (.int (1 : Int32)), .val (.int (1 : Int32)), .val (.int (1 : Int32))] []) _
        refine XS.iload X79.here hx rfl (hb hby at_678) rfl ?_
        show own_S p e below T79 (mkF m 680 #[.val (.int p0), .val (.int p1), .val (.int p2), .val (.int p3), .val (.int p4), .val (.int p5), .val (.int ch0), .val (.int ch1), .val (.int ch2), .val (.int ch3), .val (.int ch4), .val (.int kSh), .val (.ref bAr), .val (.ref b1), .val (.ref b12), .val (.ref b24), .val (.ref b29), .val (.ref b38), .val (.ref b48), .val (.ref b1), .val (.int (1 : Int32)), .val (.int (1 : Int32)), .val (.int (1 : Int32))] [(.int (1 : Int32))]) _
        refine XS.ifNo X79.here hx rfl (hb hby at_680) rfl ((if0 _ _).trans (feq (by decide : ¬ ((1 : Int32) = (0 : Int32)))).1) ?_
        show own_S p e below T79 (mkF m 683 #[.val (.int p0), .val (.int p1), .val (.int p2), .val (.int p3), .val (.int p4), .val (.int p5), .val (.int ch0), .val (.int ch1), .val (.int ch2), .val (.int ch3), .val (.int ch4), .val (.int kSh), .val (.ref bAr), .val (.ref b1), .val (.ref b12), .val (.ref b24), .val (.ref b29), .val (.ref b38), .val (.ref b48), .val (.ref b1), .val (.int (1 : Int32)), .val (.int (1 : Int32)), .val (.int (1 : Int32))] []) _
        refine XS.iload X79.here hx rfl (hb hby at_683) rfl ?_
        show own_S p e below T79 (mkF m 685 #[.val (.int p0), .val (.int p1), .val (.int p2), .val (.int p3), .val (.int p4), .val (.int p5), .val (.int ch0), .val (.int ch1), .val (.int ch2), .val (.int ch3), .val (.int ch4), .val (.int kSh), .val (.ref bAr), .val (.ref b1), .val (.ref b12), .val (.ref b24), .val (.ref b29), .val (.ref b38), .val (.ref b48), .val (.ref b1), .val (.int (1 : Int32)), .val (.int (1 : Int32)), .val (.int (1 : Int32))] [(.int (1 : Int32))]) _
        refine XS.ifNo X79.here hx rfl (hb hby at_685) rfl ((if0 _ _).trans (feq (by decide : ¬ ((1 : Int32) = (0 : Int32)))).1) ?_
        show own_S p e below T79 (mkF m 688 #[.val (.int p0), .val (.int p1), .val (.int p2), .val (.int p3), .val (.int p4), .val (.int p5), .val (.int ch0), .val (.int ch1), .val (.int ch2), .val (.int ch3), .val (.int ch4), .val (.int kSh), .val (.ref bAr), .val (.ref b1), .val (.ref b12), .val (.ref b24), .val (.ref b29), .val (.ref b38), .val (.ref b48), .val (.ref b1), .val (.int (1 : Int32)), .val (.int (1 : Int32)), .val (.int (1 : Int32))] []) _
        refine XS.iconst X79.here hx rfl (hb hby at_688) ?_
        show own_S p e below T79 (mkF m 689 #[.val (.int p0), .val (.int p1), .val (.int p2), .val (.int p3), .val (.int p4), .val (.int p5), .val (.int ch0), .val (.int ch1), .val (.int ch2), .val (.int ch3), .val (.int ch4), .val (.int kSh), .val (.ref bAr), .val (.ref b1), .val (.ref b12), .val (.ref b24), .val (.ref b29), .val (.ref b38), .val (.ref b48), .val (.ref b1), .val (.int (1 : Int32)), .val (.int (1 : Int32)), .val (.int (1 : Int32))] [(.int (1 : Int32))]) _
        refine XS.goto X79.here hx rfl (pc0 := 689) (pc' := 693) rfl (hb hby at_689) (by decide) (by decide) ?_
        exact kt)
      obtain ⟨fs, hr, hrun, hended, hRW⟩ := X79.leaveW hSn48 (by rw [eq79]; exact (Nat.le_refl _)) (v := some (.int (1 : Int32))) (fun h => by rw [hret] at h; cases h)
      refine ⟨_, _, id (kn90 _ (retN X79 hx (t := .boolean) hret (by simp) (hb hby at_693) hr)), hrun, hended, _, _, rfl, ?_, ⟨hRW.1, hRW.2.1, hRW.2.2.1, hRW.2.2.2.mono (by decide) (by decide)⟩⟩
      show Q0 Z p0 p1 p2 p3 p4 p5 G1 G3 h0 n0 _ T79.heap _
      rw [eq79]
      exact ⟨rfl, Nf79⟩
    · have kn91 : ∀ t, own_S p e below T79 (mkF m 662 #[.val (.int p0), .val (.int p1), .val (.int p2), .val (.int p3), .val (.int p4), .val (.int p5), .val (.int ch0), .val (.int ch1), .val (.int ch2), .val (.int ch3), .val (.int ch4), .val (.int kSh), .val (.ref bAr), .val (.ref b1), .val (.ref b12), .val (.ref b24), .val (.ref b29), .val (.ref b38), .val (.ref b48), .val (.ref b1), .val (.int (1 : Int32)), .val (.int (1 : Int32)), .unset] [(.int (if cs = ([ch0] : List Int32) then (1 : Int32) else 0))]) t → own_S p e below T0 (mkF m 569 #[.val (.int p0), .val (.int p1), .val (.int p2), .val (.int p3), .val (.int p4), .val (.int p5), .val (.int ch0), .val (.int ch1), .val (.int ch2), .val (.int ch3), .val (.int ch4), .val (.int kSh), .val (.ref bAr), .unset, .unset, .unset, .unset, .unset, .unset, .unset, .unset, .unset, .unset] []) t := fun t kt => kn88 t (by
        show own_S p e below T79 (mkF m 655 #[.val (.int p0), .val (.int p1), .val (.int p2), .val (.int p3), .val (.int p4), .val (.int p5), .val (.int ch0), .val (.int ch1), .val (.int ch2), .val (.int ch3), .val (.int ch4), .val (.int kSh), .val (.ref bAr), .val (.ref b1), .val (.ref b12), .val (.ref b24), .val (.ref b29), .val (.ref b38), .val (.ref b48), .val (.ref b1), .val (.int (1 : Int32)), .val (.int (1 : Int32)), .unset] [(.int (1 : Int32)), (.int (Int32.ofNat cs.length)), (.int (if cs = ([ch0] : List Int32) then (1 : Int32) else 0))]) _
        refine XS.icmpYes X79.here hx rfl (pc0 := 655) (pc' := 662) rfl (hb hby at_655) rfl (feq hc655).2 (by decide) (by decide) ?_
        exact kt)
      rw [(show (if cs = ([ch0] : List Int32) then (1 : Int32) else 0) = (0 : Int32) from if_neg (fun q => hc655 (by rw [q]; rfl)))] at kn91
      have kn92 : ∀ t, own_S p e below T79 (mkF m 693 #[.val (.int p0), .val (.int p1), .val (.int p2), .val (.int p3), .val (.int p4), .val (.int p5), .val (.int ch0), .val (.int ch1), .val (.int ch2), .val (.int ch3), .val (.int ch4), .val (.int kSh), .val (.ref bAr), .val (.ref b1), .val (.ref b12), .val (.ref b24), .val (.ref b29), .val (.ref b38), .val (.ref b48), .val (.ref b1), .val (.int (1 : Int32)), .val (.int (1 : Int32)), .val (.int (1 : Int32))] [(.int (1 : Int32))]) t → own_S p e below T0 (mkF m 569 #[.val (.int p0), .val (.int p1), .val (.int p2), .val (.int p3), .val (.int p4), .val (.int p5), .val (.int ch0), .val (.int ch1), .val (.int ch2), .val (.int ch3), .val (.int ch4), .val (.int kSh), .val (.ref bAr), .unset, .unset, .unset, .unset, .unset, .unset, .unset, .unset, .unset, .unset] []) t := fun t kt => kn91 t (by
        show own_S p e below T79 (mkF m 662 #[.val (.int p0), .val (.int p1), .val (.int p2), .val (.int p3), .val (.int p4), .val (.int p5), .val (.int ch0), .val (.int ch1), .val (.int ch2), .val (.int ch3), .val (.int ch4), .val (.int kSh), .val (.ref bAr), .val (.ref b1), .val (.ref b12), .val (.ref b24), .val (.ref b29), .val (.ref b38), .val (.ref b48), .val (.ref b1), .val (.int (1 : Int32)), .val (.int (1 : Int32)), .unset] [(.int (0 : Int32))]) _
        refine XS.iconst X79.here hx rfl (hb hby at_662) ?_
        show own_S p e below T79 (mkF m 663 #[.val (.int p0), .val (.int p1), .val (.int p2), .val (.int p3), .val (.int p4), .val (.int p5), .val (.int ch0), .val (.int ch1), .val (.int ch2), .val (.int ch3), .val (.int ch4), .val (.int kSh), .val (.ref bAr), .val (.ref b1), .val (.ref b12), .val (.ref b24), .val (.ref b29), .val (.ref b38), .val (.ref b48), .val (.ref b1), .val (.int (1 : Int32)), .val (.int (1 : Int32)), .unset] [(.int (0 : Int32)), (.int (0 : Int32))]) _
        refine XS.icmpNo X79.here hx rfl (hb hby at_663) rfl (teq (by decide : (0 : Int32) = (0 : Int32))).2 ?_
        show own_S p e below T79 (mkF m 666 #[.val (.int p0), .val (.int p1), .val (.int p2), .val (.int p3), .val (.int p4), .val (.int p5), .val (.int ch0), .val (.int ch1), .val (.int ch2), .val (.int ch3), .val (.int ch4), .val (.int kSh), .val (.ref bAr), .val (.ref b1), .val (.ref b12), .val (.ref b24), .val (.ref b29), .val (.ref b38), .val (.ref b48), .val (.ref b1), .val (.int (1 : Int32)), .val (.int (1 : Int32)), .unset] []) _
        refine XS.iconst X79.here hx rfl (hb hby at_666) ?_
        show own_S p e below T79 (mkF m 667 #[.val (.int p0), .val (.int p1), .val (.int p2), .val (.int p3), .val (.int p4), .val (.int p5), .val (.int ch0), .val (.int ch1), .val (.int ch2), .val (.int ch3), .val (.int ch4), .val (.int kSh), .val (.ref bAr), .val (.ref b1), .val (.ref b12), .val (.ref b24), .val (.ref b29), .val (.ref b38), .val (.ref b48), .val (.ref b1), .val (.int (1 : Int32)), .val (.int (1 : Int32)), .unset] [(.int (1 : Int32))]) _
        refine XS.goto X79.here hx rfl (pc0 := 667) (pc' := 671) rfl (hb hby at_667) (by decide) (by decide) ?_
        show own_S p e below T79 (mkF m 671 #[.val (.int p0), .val (.int p1), .val (.int p2), .val (.int p3), .val (.int p4), .val (.int p5), .val (.int ch0), .val (.int ch1), .val (.int ch2), .val (.int ch3), .val (.int ch4), .val (.int kSh), .val (.ref bAr), .val (.ref b1), .val (.ref b12), .val (.ref b24), .val (.ref b29), .val (.ref b38), .val (.ref b48), .val (.ref b1), .val (.int (1 : Int32)), .val (.int (1 : Int32)), .unset] [(.int (1 : Int32))]) _
        refine XS.istore X79.here hx rfl (hb hby at_671) rfl (l' := #[.val (.int p0), .val (.int p1), .val (.int p2), .val (.int p3), .val (.int p4), .val (.int p5), .val (.int ch0), .val (.int ch1), .val (.int ch2), .val (.int ch3), .val (.int ch4), .val (.int kSh), .val (.ref bAr), .val (.ref b1), .val (.ref b12), .val (.ref b24), .val (.ref b29), .val (.ref b38), .val (.ref b48), .val (.ref b1), .val (.int (1 : Int32)), .val (.int (1 : Int32)), .val (.int (1 : Int32))]) rfl ?_
        show own_S p e below T79 (mkF m 673 #[.val (.int p0), .val (.int p1), .val (.int p2), .val (.int p3), .val (.int p4), .val (.int p5), .val (.int ch0), .val (.int ch1), .val (.int ch2), .val (.int ch3), .val (.int ch4), .val (.int kSh), .val (.ref bAr), .val (.ref b1), .val (.ref b12), .val (.ref b24), .val (.ref b29), .val (.ref b38), .val (.ref b48), .val (.ref b1), .val (.int (1 : Int32)), .val (.int (1 : Int32)), .val (.int (1 : Int32))] []) _
        refine XS.iload X79.here hx rfl (hb hby at_673) rfl ?_
        show own_S p e below T79 (mkF m 675 #[.val (.int p0), .val (.int p1), .val (.int p2), .val (.int p3), .val (.int p4), .val (.int p5), .val (.int ch0), .val (.int ch1), .val (.int ch2), .val (.int ch3), .val (.int ch4), .val (.int kSh), .val (.ref bAr), .val (.ref b1), .val (.ref b12), .val (.ref b24), .val (.ref b29), .val (.ref b38), .val (.ref b48), .val (.ref b1), .val (.int (1 : Int32)), .val (.int (1 : Int32)), .val (.int (1 : Int32))] [(.int (1 : Int32))]) _
        refine XS.ifNo X79.here hx rfl (hb hby at_675) rfl ((if0 _ _).trans (feq (by decide : ¬ ((1 : Int32) = (0 : Int32)))).1) ?_
        show own_S p e below T79 (mkF m 678 #[.val (.int p0), .val (.int p1), .val (.int p2), .val (.int p3), .val (.int p4), .val (.int p5), .val (.int ch0), .val (.int ch1), .val (.int ch2), .val (.int ch3), .val (.int ch4), .val (.int kSh), .val (.ref bAr), .val (.ref b1), .val (.ref b12), .val (.ref b24), .val (.ref b29), .val (.ref b38), .val (.ref b48), .val (.ref b1), .val (.int (1 : Int32)), .val (.int (1 : Int32)), .val (.int (1 : Int32))] []) _
        refine XS.iload X79.here hx rfl (hb hby at_678) rfl ?_
        show own_S p e below T79 (mkF m 680 #[.val (.int p0), .val (.int p1), .val (.int p2), .val (.int p3), .val (.int p4), .val (.int p5), .val (.int ch0), .val (.int ch1), .val (.int ch2), .val (.int ch3), .val (.int ch4), .val (.int kSh), .val (.ref bAr), .val (.ref b1), .val (.ref b12), .val (.ref b24), .val (.ref b29), .val (.ref b38), .val (.ref b48), .val (.ref b1), .val (.int (1 : Int32)), .val (.int (1 : Int32)), .val (.int (1 : Int32))] [(.int (1 : Int32))]) _
        refine XS.ifNo X79.here hx rfl (hb hby at_680) rfl ((if0 _ _).trans (feq (by decide : ¬ ((1 : Int32) = (0 : Int32)))).1) ?_
        show own_S p e below T79 (mkF m 683 #[.val (.int p0), .val (.int p1), .val (.int p2), .val (.int p3), .val (.int p4), .val (.int p5), .val (.int ch0), .val (.int ch1), .val (.int ch2), .val (.int ch3), .val (.int ch4), .val (.int kSh), .val (.ref bAr), .val (.ref b1), .val (.ref b12), .val (.ref b24), .val (.ref b29), .val (.ref b38), .val (.ref b48), .val (.ref b1), .val (.int (1 : Int32)), .val (.int (1 : Int32)), .val (.int (1 : Int32))] []) _
        refine XS.iload X79.here hx rfl (hb hby at_683) rfl ?_
        show own_S p e below T79 (mkF m 685 #[.val (.int p0), .val (.int p1), .val (.int p2), .val (.int p3), .val (.int p4), .val (.int p5), .val (.int ch0), .val (.int ch1), .val (.int ch2), .val (.int ch3), .val (.int ch4), .val (.int kSh), .val (.ref bAr), .val (.ref b1), .val (.ref b12), .val (.ref b24), .val (.ref b29), .val (.ref b38), .val (.ref b48), .val (.ref b1), .val (.int (1 : Int32)), .val (.int (1 : Int32)), .val (.int (1 : Int32))] [(.int (1 : Int32))]) _
        refine XS.ifNo X79.here hx rfl (hb hby at_685) rfl ((if0 _ _).trans (feq (by decide : ¬ ((1 : Int32) = (0 : Int32)))).1) ?_
        show own_S p e below T79 (mkF m 688 #[.val (.int p0), .val (.int p1), .val (.int p2), .val (.int p3), .val (.int p4), .val (.int p5), .val (.int ch0), .val (.int ch1), .val (.int ch2), .val (.int ch3), .val (.int ch4), .val (.int kSh), .val (.ref bAr), .val (.ref b1), .val (.ref b12), .val (.ref b24), .val (.ref b29), .val (.ref b38), .val (.ref b48), .val (.ref b1), .val (.int (1 : Int32)), .val (.int (1 : Int32)), .val (.int (1 : Int32))] []) _
        refine XS.iconst X79.here hx rfl (hb hby at_688) ?_
        show own_S p e below T79 (mkF m 689 #[.val (.int p0), .val (.int p1), .val (.int p2), .val (.int p3), .val (.int p4), .val (.int p5), .val (.int ch0), .val (.int ch1), .val (.int ch2), .val (.int ch3), .val (.int ch4), .val (.int kSh), .val (.ref bAr), .val (.ref b1), .val (.ref b12), .val (.ref b24), .val (.ref b29), .val (.ref b38), .val (.ref b48), .val (.ref b1), .val (.int (1 : Int32)), .val (.int (1 : Int32)), .val (.int (1 : Int32))] [(.int (1 : Int32))]) _
        refine XS.goto X79.here hx rfl (pc0 := 689) (pc' := 693) rfl (hb hby at_689) (by decide) (by decide) ?_
        exact kt)
      obtain ⟨fs, hr, hrun, hended, hRW⟩ := X79.leaveW hSn48 (by rw [eq79]; exact (Nat.le_refl _)) (v := some (.int (1 : Int32))) (fun h => by rw [hret] at h; cases h)
      refine ⟨_, _, id (kn92 _ (retN X79 hx (t := .boolean) hret (by simp) (hb hby at_693) hr)), hrun, hended, _, _, rfl, ?_, ⟨hRW.1, hRW.2.1, hRW.2.2.1, hRW.2.2.2.mono (by decide) (by decide)⟩⟩
      show Q0 Z p0 p1 p2 p3 p4 p5 G1 G3 h0 n0 _ T79.heap _
      rw [eq79]
      exact ⟨rfl, Nf79⟩
  · exact absurd rfl hq63

theorem ef_rm0 (m : MethodId) (x0 : Int32) (x1 : Int32) (x2 : Int32) (x3 : Int32) (x4 : Int32) (x5 : Int32) : entryFrame m #[(.int x0), (.int x1), (.int x2), (.int x3), (.int x4), (.int x5)] maxLocals = mkF m 0 #[.val (.int x0), .val (.int x1), .val (.int x2), .val (.int x3), .val (.int x4), .val (.int x5), .unset, .unset, .unset, .unset, .unset, .unset, .unset, .unset, .unset, .unset, .unset, .unset, .unset, .unset, .unset, .unset, .unset] [] := by first | (simp [entryFrame, mkF, argsToLocals, Value.category, maxLocals]; done) | rfl
 
set_option maxRecDepth 65536 in
set_option maxHeartbeats 40000000 in
theorem rm0 (l : Launch) (Z : State) (a0 : Array Value) (hw : ∀ d ∈ tables_1, d.before a0 Z = true) (ws : List Jvm.Cond) (p0 : Int32) (p1 : Int32) (p2 : Int32) (p3 : Int32) (p4 : Int32) (p5 : Int32) (G1 : Int32) (G3 : Value) (h0 : Heap) (n0 : Nat) (Z0 : n0 ≤ h0.size) (O0 : Old Z n0 h0) (O2 : Sta Z Z.heap "java/lang/String" "COMPACT_STRINGS" "Z" (.int G1)) (P5 : ¬ (G1 = (0 : Int32))) (O4 : Sta Z Z.heap "jdk/internal/util/Preconditions" "SIOOBE_FORMATTER" "Ljava/util/function/BiFunction;" G3) (rG3 : G3.isRef = true) :
    MetFree l x (head1 (Jvm.Cond.code x code maxLocals ret :: ws) room_1) (fun a U => a = #[(.int p0), (.int p1), (.int p2), (.int p3), (.int p4), (.int p5)] ∧ Z.Warmed39 U.vm ∧ U.heap = h0) (fun _ _ _ _ _ => True) (fun _ U o U' => ∃ v L, o = .returned v ∧ Q0 Z p0 p1 p2 p3 p4 p5 G1 G3 h0 n0 v U'.heap L ∧ ReturnedEndW U o U' L 32 1536) := by
  refine MetFree.of_bodySF (plainFor_of_name pn_0) hisR ?_
  intro p e s m args below meth c s₁ Bd hml0 hP hK
  obtain ⟨rfl, hZ, hh⟩ := hP
  have hx := Bd.exec
  have hby := Bd.bytes
  have hml : c.maxLocals = 23 := hml0
  have hown : s.vm.findClass "com/example/dual_delivery/dualdelivery/model/ResourceNameOfPinLaw" = some m.cls := findClass_of_methodNamed Bd.named
  have hnm := (name_of_methodNamed Bd.named Bd.method).1
  have X0 : Stand p l e room_1 s m #[(.int p0), (.int p1), (.int p2), (.int p3), (.int p4), (.int p5)] below meth c s₁ [] 0 0 := Stand.of_body Bd
  have e0 : s₁.heap = h0 := by rw [← hh, Bd.state]; rfl
  have Nf0 := Fr.nil n0
  obtain ⟨Gl, hGl, kn0⟩ : ∃ Gl : State → Prop, (∀ t, Gl t → Steps p.tables e below (s₁.setTop (entryFrame m #[(.int p0), (.int p1), (.int p2), (.int p3), (.int p4), (.int p5)] maxLocals)) t) ∧ ∀ t, own_S p e below s₁ (mkF m 0 #[.val (.int p0), .val (.int p1), .val (.int p2), .val (.int p3), .val (.int p4), .val (.int p5), .unset, .unset, .unset, .unset, .unset, .unset, .unset, .unset, .unset, .unset, .unset, .unset, .unset, .unset, .unset, .unset, .unset] []) t → Gl t := ⟨fun t => Steps p.tables e below (s₁.setTop (entryFrame m #[(.int p0), (.int p1), (.int p2), (.int p3), (.int p4), (.int p5)] maxLocals)) t, fun _ k => k, fun t k => castTop (ef_rm0 m p0 p1 p2 p3 p4 p5) k⟩
  have kn1 : ∀ t, own_S p e below s₁ (mkF m 1 #[.val (.int p0), .val (.int p1), .val (.int p2), .val (.int p3), .val (.int p4), .val (.int p5), .unset, .unset, .unset, .unset, .unset, .unset, .unset, .unset, .unset, .unset, .unset, .unset, .unset, .unset, .unset, .unset, .unset] [(.int p0)]) t → Gl t := fun t kt => kn0 t (by
    show own_S p e below s₁ (mkF m 0 #[.val (.int p0), .val (.int p1), .val (.int p2), .val (.int p3), .val (.int p4), .val (.int p5), .unset, .unset, .unset, .unset, .unset, .unset, .unset, .unset, .unset, .unset, .unset, .unset, .unset, .unset, .unset, .unset, .unset] []) _
    refine XS.iloadN X0.here hx rfl (hb hby at_0) rfl ?_
    exact kt)
  obtain ⟨_, _, ⟨T2, L2, cc2, ss2⟩, -, X2, ⟨Lc2, hQ2, l2, y2, z2⟩, st2⟩ := Jvm.LawKit.callS X0 hx (y := (⟨"com/example/dual_delivery/dualdelivery/model/ResourceNameOfPinLaw", "letter", "(I)C"⟩ : MethodName)) hown (mvT hZ (hw _ (List.mem_of_getElem? (i := 0) rfl))) (mvT hZ (hw _ (List.mem_of_getElem? (i := 1) rfl))) (mvT hZ (hw _ (List.mem_of_getElem? (i := 2) rfl))) (mvT hZ (hw _ (List.mem_of_getElem? (i := 3) rfl))) (by decide) (backOf (W := 0) (rm1 l Z a0 hw [] p0  h0 n0 Z0 ) hZ (hw _ (List.mem_of_getElem? (i := 3) rfl)) (hw _ (List.mem_of_getElem? (i := 2) rfl)) (by decide) (by decide)) (g := (mkF m 1 #[.val (.int p0), .val (.int p1), .val (.int p2), .val (.int p3), .val (.int p4), .val (.int p5), .unset, .unset, .unset, .unset, .unset, .unset, .unset, .unset, .unset, .unset, .unset, .unset, .unset, .unset, .unset, .unset, .unset] [(.int p0)])) rfl (by rw [hml]; rfl) (argsL := [(.int p0)]) (rest := []) (lenOf pd_4 rfl) rfl (by show 2 * 0 + _ ≤ _; exact Nat.le_of_eq rfl) (hb hby at_1) (fun _ _ => ⟨rfl, e0, (by decide : 0 + 0 ≤ _), (by decide : 0 + 0 ≤ _)⟩)
  dsimp only [Pt.U, Pt.locs, Pt.cells, Pt.slots] at X2 l2 y2 z2 st2 hQ2
  subst l2 y2 z2
  have X2 : Stand p l e _ _ m _ below meth c T2 _ 0 0 := X2
  obtain ⟨rfl, Nq2, eq2⟩ := hQ2
  have Nf2 := Fr.app Nf0 Nq2
  have kn3 : ∀ t, own_S p e below T2 (mkF m 4 #[.val (.int p0), .val (.int p1), .val (.int p2), .val (.int p3), .val (.int p4), .val (.int p5), .unset, .unset, .unset, .unset, .unset, .unset, .unset, .unset, .unset, .unset, .unset, .unset, .unset, .unset, .unset, .unset, .unset] [(.int (own_letter p0))]) t → Gl t := fun t kt => kn1 t (st2 _ kt)
  obtain ⟨ch0, hch0⟩ : ∃ z : Int32, z = (own_letter p0) := ⟨_, rfl⟩
  rw [← hch0] at kn3
  have gd0 : own_good ch0 := by rw [hch0]; exact (own_gl _).1
  have gL0 : ¬ own_isL ch0 = (0 : Int32) := by rw [hch0]; exact (own_gl _).2
  have kn4 : ∀ t, own_S p e below T2 (mkF m 7 #[.val (.int p0), .val (.int p1), .val (.int p2), .val (.int p3), .val (.int p4), .val (.int p5), .val (.int ch0), .unset, .unset, .unset, .unset, .unset, .unset, .unset, .unset, .unset, .unset, .unset, .unset, .unset, .unset, .unset, .unset] [(.int p1)]) t → Gl t := fun t kt => kn3 t (by
    show own_S p e below T2 (mkF m 4 #[.val (.int p0), .val (.int p1), .val (.int p2), .val (.int p3), .val (.int p4), .val (.int p5), .unset, .unset, .unset, .unset, .unset, .unset, .unset, .unset, .unset, .unset, .unset, .unset, .unset, .unset, .unset, .unset, .unset] [(.int ch0)]) _
    refine XS.istore X2.here hx rfl (hb hby at_4) rfl (l' := #[.val (.int p0), .val (.int p1), .val (.int p2), .val (.int p3), .val (.int p4), .val (.int p5), .val (.int ch0), .unset, .unset, .unset, .unset, .unset, .unset, .unset, .unset, .unset, .unset, .unset, .unset, .unset, .unset, .unset, .unset]) rfl ?_
    show own_S p e below T2 (mkF m 6 #[.val (.int p0), .val (.int p1), .val (.int p2), .val (.int p3), .val (.int p4), .val (.int p5), .val (.int ch0), .unset, .unset, .unset, .unset, .unset, .unset, .unset, .unset, .unset, .unset, .unset, .unset, .unset, .unset, .unset, .unset] []) _
    refine XS.iloadN X2.here hx rfl (hb hby at_6) rfl ?_
    exact kt)
  obtain ⟨_, _, ⟨T5, L5, cc5, ss5⟩, -, X5, ⟨Lc5, hQ5, l5, y5, z5⟩, st5⟩ := Jvm.LawKit.callS X2 hx (y := (⟨"com/example/dual_delivery/dualdelivery/model/ResourceNameOfPinLaw", "other", "(I)C"⟩ : MethodName)) hown (mvT hZ (hw _ (List.mem_of_getElem? (i := 5) rfl))) (mvT hZ (hw _ (List.mem_of_getElem? (i := 6) rfl))) (mvT hZ (hw _ (List.mem_of_getElem? (i := 2) rfl))) (mvT hZ (hw _ (List.mem_of_getElem? (i := 7) rfl))) (by decide) (backOf (W := 0) (rm2 l Z a0 hw [] p1  h0 n0 Z0 ) hZ (hw _ (List.mem_of_getElem? (i := 7) rfl)) (hw _ (List.mem_of_getElem? (i := 2) rfl)) (by decide) (by decide)) (g := (mkF m 7 #[.val (.int p0), .val (.int p1), .val (.int p2), .val (.int p3), .val (.int p4), .val (.int p5), .val (.int ch0), .unset, .unset, .unset, .unset, .unset, .unset, .unset, .unset, .unset, .unset, .unset, .unset, .unset, .unset, .unset, .unset] [(.int p1)])) rfl (by rw [hml]; rfl) (argsL := [(.int p1)]) (rest := []) (lenOf pd_4 rfl) rfl (by show 2 * 0 + _ ≤ _; exact Nat.le_of_eq rfl) (hb hby at_7) (fun _ _ => ⟨rfl, eq2, (by decide : 0 + 0 ≤ _), (by decide : 0 + 0 ≤ _)⟩)
  dsimp only [Pt.U, Pt.locs, Pt.cells, Pt.slots] at X5 l5 y5 z5 st5 hQ5
  subst l5 y5 z5
  have X5 : Stand p l e _ _ m _ below meth c T5 _ 0 0 := X5
  obtain ⟨rfl, Nq5, eq5⟩ := hQ5
  have Nf5 := Fr.app Nf2 Nq5
  have kn6 : ∀ t, own_S p e below T5 (mkF m 10 #[.val (.int p0), .val (.int p1), .val (.int p2), .val (.int p3), .val (.int p4), .val (.int p5), .val (.int ch0), .unset, .unset, .unset, .unset, .unset, .unset, .unset, .unset, .unset, .unset, .unset, .unset, .unset, .unset, .unset, .unset] [(.int (own_other p1))]) t → Gl t := fun t kt => kn4 t (st5 _ kt)
  obtain ⟨ch1, hch1⟩ : ∃ z : Int32, z = (own_other p1) := ⟨_, rfl⟩
  rw [← hch1] at kn6
  have gd1 : own_good ch1 := by rw [hch1]; exact own_go _
  have kn7 : ∀ t, own_S p e below T5 (mkF m 13 #[.val (.int p0), .val (.int p1), .val (.int p2), .val (.int p3), .val (.int p4), .val (.int p5), .val (.int ch0), .val (.int ch1), .unset, .unset, .unset, .unset, .unset, .unset, .unset, .unset, .unset, .unset, .unset, .unset, .unset, .unset, .unset] [(.int p2)]) t → Gl t := fun t kt => kn6 t (by
    show own_S p e below T5 (mkF m 10 #[.val (.int p0), .val (.int p1), .val (.int p2), .val (.int p3), .val (.int p4), .val (.int p5), .val (.int ch0), .unset, .unset, .unset, .unset, .unset, .unset, .unset, .unset, .unset, .unset, .unset, .unset, .unset, .unset, .unset, .unset] [(.int ch1)]) _
    refine XS.istore X5.here hx rfl (hb hby at_10) rfl (l' := #[.val (.int p0), .val (.int p1), .val (.int p2), .val (.int p3), .val (.int p4), .val (.int p5), .val (.int ch0), .val (.int ch1), .unset, .unset, .unset, .unset, .unset, .unset, .unset, .unset, .unset, .unset, .unset, .unset, .unset, .unset, .unset]) rfl ?_
    show own_S p e below T5 (mkF m 12 #[.val (.int p0), .val (.int p1), .val (.int p2), .val (.int p3), .val (.int p4), .val (.int p5), .val (.int ch0), .val (.int ch1), .unset, .unset, .unset, .unset, .unset, .unset, .unset, .unset, .unset, .unset, .unset, .unset, .unset, .unset, .unset] []) _
    refine XS.iloadN X5.here hx rfl (hb hby at_12) rfl ?_
    exact kt)
  obtain ⟨_, _, ⟨T8, L8, cc8, ss8⟩, -, X8, ⟨Lc8, hQ8, l8, y8, z8⟩, st8⟩ := Jvm.LawKit.callS X5 hx (y := (⟨"com/example/dual_delivery/dualdelivery/model/ResourceNameOfPinLaw", "other", "(I)C"⟩ : MethodName)) hown (mvT hZ (hw _ (List.mem_of_getElem? (i := 5) rfl))) (mvT hZ (hw _ (List.mem_of_getElem? (i := 6) rfl))) (mvT hZ (hw _ (List.mem_of_getElem? (i := 2) rfl))) (mvT hZ (hw _ (List.mem_of_getElem? (i := 7) rfl))) (by decide) (backOf (W := 0) (rm2 l Z a0 hw [] p2  h0 n0 Z0 ) hZ (hw _ (List.mem_of_getElem? (i := 7) rfl)) (hw _ (List.mem_of_getElem? (i := 2) rfl)) (by decide) (by decide)) (g := (mkF m 13 #[.val (.int p0), .val (.int p1), .val (.int p2), .val (.int p3), .val (.int p4), .val (.int p5), .val (.int ch0), .val (.int ch1), .unset, .unset, .unset, .unset, .unset, .unset, .unset, .unset, .unset, .unset, .unset, .unset, .unset, .unset, .unset] [(.int p2)])) rfl (by rw [hml]; rfl) (argsL := [(.int p2)]) (rest := []) (lenOf pd_4 rfl) rfl (by show 2 * 0 + _ ≤ _; exact Nat.le_of_eq rfl) (hb hby at_13) (fun _ _ => ⟨rfl, eq5, (by decide : 0 + 0 ≤ _), (by decide : 0 + 0 ≤ _)⟩)
  dsimp only [Pt.U, Pt.locs, Pt.cells, Pt.slots] at X8 l8 y8 z8 st8 hQ8
  subst l8 y8 z8
  have X8 : Stand p l e _ _ m _ below meth c T8 _ 0 0 := X8
  obtain ⟨rfl, Nq8, eq8⟩ := hQ8
  have Nf8 := Fr.app Nf5 Nq8
  have kn9 : ∀ t, own_S p e below T8 (mkF m 16 #[.val (.int p0), .val (.int p1), .val (.int p2), .val (.int p3), .val (.int p4), .val (.int p5), .val (.int ch0), .val (.int ch1), .unset, .unset, .unset, .unset, .unset, .unset, .unset, .unset, .unset, .unset, .unset, .unset, .unset, .unset, .unset] [(.int (own_other p2))]) t → Gl t := fun t kt => kn7 t (st8 _ kt)
  obtain ⟨ch2, hch2⟩ : ∃ z : Int32, z = (own_other p2) := ⟨_, rfl⟩
  rw [← hch2] at kn9
  have gd2 : own_good ch2 := by rw [hch2]; exact own_go _
  have kn10 : ∀ t, own_S p e below T8 (mkF m 19 #[.val (.int p0), .val (.int p1), .val (.int p2), .val (.int p3), .val (.int p4), .val (.int p5), .val (.int ch0), .val (.int ch1), .val (.int ch2), .unset, .unset, .unset, .unset, .unset, .unset, .unset, .unset, .unset, .unset, .unset, .unset, .unset, .unset] [(.int p3)]) t → Gl t := fun t kt => kn9 t (by
    show own_S p e below T8 (mkF m 16 #[.val (.int p0), .val (.int p1), .val (.int p2), .val (.int p3), .val (.int p4), .val (.int p5), .val (.int ch0), .val (.int ch1), .unset, .unset, .unset, .unset, .unset, .unset, .unset, .unset, .unset, .unset, .unset, .unset, .unset, .unset, .unset] [(.int ch2)]) _
    refine XS.istore X8.here hx rfl (hb hby at_16) rfl (l' := #[.val (.int p0), .val (.int p1), .val (.int p2), .val (.int p3), .val (.int p4), .val (.int p5), .val (.int ch0), .val (.int ch1), .val (.int ch2), .unset, .unset, .unset, .unset, .unset, .unset, .unset, .unset, .unset, .unset, .unset, .unset, .unset, .unset]) rfl ?_
    show own_S p e below T8 (mkF m 18 #[.val (.int p0), .val (.int p1), .val (.int p2), .val (.int p3), .val (.int p4), .val (.int p5), .val (.int ch0), .val (.int ch1), .val (.int ch2), .unset, .unset, .unset, .unset, .unset, .unset, .unset, .unset, .unset, .unset, .unset, .unset, .unset, .unset] []) _
    refine XS.iloadN X8.here hx rfl (hb hby at_18) rfl ?_
    exact kt)
  obtain ⟨_, _, ⟨T11, L11, cc11, ss11⟩, -, X11, ⟨Lc11, hQ11, l11, y11, z11⟩, st11⟩ := Jvm.LawKit.callS X8 hx (y := (⟨"com/example/dual_delivery/dualdelivery/model/ResourceNameOfPinLaw", "other", "(I)C"⟩ : MethodName)) hown (mvT hZ (hw _ (List.mem_of_getElem? (i := 5) rfl))) (mvT hZ (hw _ (List.mem_of_getElem? (i := 6) rfl))) (mvT hZ (hw _ (List.mem_of_getElem? (i := 2) rfl))) (mvT hZ (hw _ (List.mem_of_getElem? (i := 7) rfl))) (by decide) (backOf (W := 0) (rm2 l Z a0 hw [] p3  h0 n0 Z0 ) hZ (hw _ (List.mem_of_getElem? (i := 7) rfl)) (hw _ (List.mem_of_getElem? (i := 2) rfl)) (by decide) (by decide)) (g := (mkF m 19 #[.val (.int p0), .val (.int p1), .val (.int p2), .val (.int p3), .val (.int p4), .val (.int p5), .val (.int ch0), .val (.int ch1), .val (.int ch2), .unset, .unset, .unset, .unset, .unset, .unset, .unset, .unset, .unset, .unset, .unset, .unset, .unset, .unset] [(.int p3)])) rfl (by rw [hml]; rfl) (argsL := [(.int p3)]) (rest := []) (lenOf pd_4 rfl) rfl (by show 2 * 0 + _ ≤ _; exact Nat.le_of_eq rfl) (hb hby at_19) (fun _ _ => ⟨rfl, eq8, (by decide : 0 + 0 ≤ _), (by decide : 0 + 0 ≤ _)⟩)
  dsimp only [Pt.U, Pt.locs, Pt.cells, Pt.slots] at X11 l11 y11 z11 st11 hQ11
  subst l11 y11 z11
  have X11 : Stand p l e _ _ m _ below meth c T11 _ 0 0 := X11
  obtain ⟨rfl, Nq11, eq11⟩ := hQ11
  have Nf11 := Fr.app Nf8 Nq11
  have kn12 : ∀ t, own_S p e below T11 (mkF m 22 #[.val (.int p0), .val (.int p1), .val (.int p2), .val (.int p3), .val (.int p4), .val (.int p5), .val (.int ch0), .val (.int ch1), .val (.int ch2), .unset, .unset, .unset, .unset, .unset, .unset, .unset, .unset, .unset, .unset, .unset, .unset, .unset, .unset] [(.int (own_other p3))]) t → Gl t := fun t kt => kn10 t (st11 _ kt)
  obtain ⟨ch3, hch3⟩ : ∃ z : Int32, z = (own_other p3) := ⟨_, rfl⟩
  rw [← hch3] at kn12
  have gd3 : own_good ch3 := by rw [hch3]; exact own_go _
  have kn13 : ∀ t, own_S p e below T11 (mkF m 26 #[.val (.int p0), .val (.int p1), .val (.int p2), .val (.int p3), .val (.int p4), .val (.int p5), .val (.int ch0), .val (.int ch1), .val (.int ch2), .val (.int ch3), .unset, .unset, .unset, .unset, .unset, .unset, .unset, .unset, .unset, .unset, .unset, .unset, .unset] [(.int p4)]) t → Gl t := fun t kt => kn12 t (by
    show own_S p e below T11 (mkF m 22 #[.val (.int p0), .val (.int p1), .val (.int p2), .val (.int p3), .val (.int p4), .val (.int p5), .val (.int ch0), .val (.int ch1), .val (.int ch2), .unset, .unset, .unset, .unset, .unset, .unset, .unset, .unset, .unset, .unset, .unset, .unset, .unset, .unset] [(.int ch3)]) _
    refine XS.istore X11.here hx rfl (hb hby at_22) rfl (l' := #[.val (.int p0), .val (.int p1), .val (.int p2), .val (.int p3), .val (.int p4), .val (.int p5), .val (.int ch0), .val (.int ch1), .val (.int ch2), .val (.int ch3), .unset, .unset, .unset, .unset, .unset, .unset, .unset, .unset, .unset, .unset, .unset, .unset, .unset]) rfl ?_
    show own_S p e below T11 (mkF m 24 #[.val (.int p0), .val (.int p1), .val (.int p2), .val (.int p3), .val (.int p4), .val (.int p5), .val (.int ch0), .val (.int ch1), .val (.int ch2), .val (.int ch3), .unset, .unset, .unset, .unset, .unset, .unset, .unset, .unset, .unset, .unset, .unset, .unset, .unset] []) _
    refine XS.iload X11.here hx rfl (hb hby at_24) rfl ?_
    exact kt)
  obtain ⟨_, _, ⟨T14, L14, cc14, ss14⟩, -, X14, ⟨Lc14, hQ14, l14, y14, z14⟩, st14⟩ := Jvm.LawKit.callS X11 hx (y := (⟨"com/example/dual_delivery/dualdelivery/model/ResourceNameOfPinLaw", "other", "(I)C"⟩ : MethodName)) hown (mvT hZ (hw _ (List.mem_of_getElem? (i := 5) rfl))) (mvT hZ (hw _ (List.mem_of_getElem? (i := 6) rfl))) (mvT hZ (hw _ (List.mem_of_getElem? (i := 2) rfl))) (mvT hZ (hw _ (List.mem_of_getElem? (i := 7) rfl))) (by decide) (backOf (W := 0) (rm2 l Z a0 hw [] p4  h0 n0 Z0 ) hZ (hw _ (List.mem_of_getElem? (i := 7) rfl)) (hw _ (List.mem_of_getElem? (i := 2) rfl)) (by decide) (by decide)) (g := (mkF m 26 #[.val (.int p0), .val (.int p1), .val (.int p2), .val (.int p3), .val (.int p4), .val (.int p5), .val (.int ch0), .val (.int ch1), .val (.int ch2), .val (.int ch3), .unset, .unset, .unset, .unset, .unset, .unset, .unset, .unset, .unset, .unset, .unset, .unset, .unset] [(.int p4)])) rfl (by rw [hml]; rfl) (argsL := [(.int p4)]) (rest := []) (lenOf pd_4 rfl) rfl (by show 2 * 0 + _ ≤ _; exact Nat.le_of_eq rfl) (hb hby at_26) (fun _ _ => ⟨rfl, eq11, (by decide : 0 + 0 ≤ _), (by decide : 0 + 0 ≤ _)⟩)
  dsimp only [Pt.U, Pt.locs, Pt.cells, Pt.slots] at X14 l14 y14 z14 st14 hQ14
  subst l14 y14 z14
  have X14 : Stand p l e _ _ m _ below meth c T14 _ 0 0 := X14
  obtain ⟨rfl, Nq14, eq14⟩ := hQ14
  have Nf14 := Fr.app Nf11 Nq14
  have kn15 : ∀ t, own_S p e below T14 (mkF m 29 #[.val (.int p0), .val (.int p1), .val (.int p2), .val (.int p3), .val (.int p4), .val (.int p5), .val (.int ch0), .val (.int ch1), .val (.int ch2), .val (.int ch3), .unset, .unset, .unset, .unset, .unset, .unset, .unset, .unset, .unset, .unset, .unset, .unset, .unset] [(.int (own_other p4))]) t → Gl t := fun t kt => kn13 t (st14 _ kt)
  obtain ⟨ch4, hch4⟩ : ∃ z : Int32, z = (own_other p4) := ⟨_, rfl⟩
  rw [← hch4] at kn15
  have gd4 : own_good ch4 := by rw [hch4]; exact own_go _
  have kn16 : ∀ t, own_S p e below T14 (mkF m 43 #[.val (.int p0), .val (.int p1), .val (.int p2), .val (.int p3), .val (.int p4), .val (.int p5), .val (.int ch0), .val (.int ch1), .val (.int ch2), .val (.int ch3), .val (.int ch4), .val (.int ((p5 &&& (2147483647 : Int32)) % (6 : Int32))), .unset, .unset, .unset, .unset, .unset, .unset, .unset, .unset, .unset, .unset, .unset] [(.int ((p5 &&& (2147483647 : Int32)) % (6 : Int32)))]) t → Gl t := fun t kt => kn15 t (by
    show own_S p e below T14 (mkF m 29 #[.val (.int p0), .val (.int p1), .val (.int p2), .val (.int p3), .val (.int p4), .val (.int p5), .val (.int ch0), .val (.int ch1), .val (.int ch2), .val (.int ch3), .unset, .unset, .unset, .unset, .unset, .unset, .unset, .unset, .unset, .unset, .unset, .unset, .unset] [(.int ch4)]) _
    refine XS.istore X14.here hx rfl (hb hby at_29) rfl (l' := #[.val (.int p0), .val (.int p1), .val (.int p2), .val (.int p3), .val (.int p4), .val (.int p5), .val (.int ch0), .val (.int ch1), .val (.int ch2), .val (.int ch3), .val (.int ch4), .unset, .unset, .unset, .unset, .unset, .unset, .unset, .unset, .unset, .unset, .unset, .unset]) rfl ?_
    show own_S p e below T14 (mkF m 31 #[.val (.int p0), .val (.int p1), .val (.int p2), .val (.int p3), .val (.int p4), .val (.int p5), .val (.int ch0), .val (.int ch1), .val (.int ch2), .val (.int ch3), .val (.int ch4), .unset, .unset, .unset, .unset, .unset, .unset, .unset, .unset, .unset, .unset, .unset, .unset] []) _
    refine XS.iload X14.here hx rfl (hb hby at_31) rfl ?_
    show own_S p e below T14 (mkF m 33 #[.val (.int p0), .val (.int p1), .val (.int p2), .val (.int p3), .val (.int p4), .val (.int p5), .val (.int ch0), .val (.int ch1), .val (.int ch2), .val (.int ch3), .val (.int ch4), .unset, .unset, .unset, .unset, .unset, .unset, .unset, .unset, .unset, .unset, .unset, .unset] [(.int p5)]) _
    refine X14.ldcInt hx hown (mvT hZ (hw _ (List.mem_of_getElem? (i := 4) rfl))) (g := (mkF m 33 #[.val (.int p0), .val (.int p1), .val (.int p2), .val (.int p3), .val (.int p4), .val (.int p5), .val (.int ch0), .val (.int ch1), .val (.int ch2), .val (.int ch3), .val (.int ch4), .unset, .unset, .unset, .unset, .unset, .unset, .unset, .unset, .unset, .unset, .unset, .unset] [(.int p5)])) rfl (hb hby at_33) _ ?_
    show own_S p e below T14 (mkF m 35 #[.val (.int p0), .val (.int p1), .val (.int p2), .val (.int p3), .val (.int p4), .val (.int p5), .val (.int ch0), .val (.int ch1), .val (.int ch2), .val (.int ch3), .val (.int ch4), .unset, .unset, .unset, .unset, .unset, .unset, .unset, .unset, .unset, .unset, .unset, .unset] [(.int (2147483647 : Int32)), (.int p5)]) _
    refine XS.iand X14.here hx rfl (hb hby at_35) rfl ?_
    show own_S p e below T14 (mkF m 36 #[.val (.int p0), .val (.int p1), .val (.int p2), .val (.int p3), .val (.int p4), .val (.int p5), .val (.int ch0), .val (.int ch1), .val (.int ch2), .val (.int ch3), .val (.int ch4), .unset, .unset, .unset, .unset, .unset, .unset, .unset, .unset, .unset, .unset, .unset, .unset] [(.int (p5 &&& (2147483647 : Int32)))]) _
    refine XS.bipush X14.here hx rfl (hb hby at_36) ?_
    show own_S p e below T14 (mkF m 38 #[.val (.int p0), .val (.int p1), .val (.int p2), .val (.int p3), .val (.int p4), .val (.int p5), .val (.int ch0), .val (.int ch1), .val (.int ch2), .val (.int ch3), .val (.int ch4), .unset, .unset, .unset, .unset, .unset, .unset, .unset, .unset, .unset, .unset, .unset, .unset] [(.int (6 : Int32)), (.int (p5 &&& (2147483647 : Int32)))]) _
    refine iremM X14 hx rfl (hb hby at_38) rfl (by decide) ?_
    show own_S p e below T14 (mkF m 39 #[.val (.int p0), .val (.int p1), .val (.int p2), .val (.int p3), .val (.int p4), .val (.int p5), .val (.int ch0), .val (.int ch1), .val (.int ch2), .val (.int ch3), .val (.int ch4), .unset, .unset, .unset, .unset, .unset, .unset, .unset, .unset, .unset, .unset, .unset, .unset] [(.int ((p5 &&& (2147483647 : Int32)) % (6 : Int32)))]) _
    refine XS.istore X14.here hx rfl (hb hby at_39) rfl (l' := #[.val (.int p0), .val (.int p1), .val (.int p2), .val (.int p3), .val (.int p4), .val (.int p5), .val (.int ch0), .val (.int ch1), .val (.int ch2), .val (.int ch3), .val (.int ch4), .val (.int ((p5 &&& (2147483647 : Int32)) % (6 : Int32))), .unset, .unset, .unset, .unset, .unset, .unset, .unset, .unset, .unset, .unset, .unset]) rfl ?_
    show own_S p e below T14 (mkF m 41 #[.val (.int p0), .val (.int p1), .val (.int p2), .val (.int p3), .val (.int p4), .val (.int p5), .val (.int ch0), .val (.int ch1), .val (.int ch2), .val (.int ch3), .val (.int ch4), .val (.int ((p5 &&& (2147483647 : Int32)) % (6 : Int32))), .unset, .unset, .unset, .unset, .unset, .unset, .unset, .unset, .unset, .unset, .unset] []) _
    refine XS.iload X14.here hx rfl (hb hby at_41) rfl ?_
    exact kt)
  by_cases hc43 : ((p5 &&& (2147483647 : Int32)) % (6 : Int32)) = (0 : Int32)
  · have kn17 : ∀ t, own_S p e below T14 (mkF m 47 #[.val (.int p0), .val (.int p1), .val (.int p2), .val (.int p3), .val (.int p4), .val (.int p5), .val (.int ch0), .val (.int ch1), .val (.int ch2), .val (.int ch3), .val (.int ch4), .val (.int ((p5 &&& (2147483647 : Int32)) % (6 : Int32))), .unset, .unset, .unset, .unset, .unset, .unset, .unset, .unset, .unset, .unset, .unset] [(.int (1 : Int32))]) t → Gl t := fun t kt => kn16 t (by
      show own_S p e below T14 (mkF m 43 #[.val (.int p0), .val (.int p1), .val (.int p2), .val (.int p3), .val (.int p4), .val (.int p5), .val (.int ch0), .val (.int ch1), .val (.int ch2), .val (.int ch3), .val (.int ch4), .val (.int ((p5 &&& (2147483647 : Int32)) % (6 : Int32))), .unset, .unset, .unset, .unset, .unset, .unset, .unset, .unset, .unset, .unset, .unset] [(.int ((p5 &&& (2147483647 : Int32)) % (6 : Int32)))]) _
      refine XS.ifNo X14.here hx rfl (hb hby at_43) rfl ((if0 _ _).trans (teq hc43).2) ?_
      show own_S p e below T14 (mkF m 46 #[.val (.int p0), .val (.int p1), .val (.int p2), .val (.int p3), .val (.int p4), .val (.int p5), .val (.int ch0), .val (.int ch1), .val (.int ch2), .val (.int ch3), .val (.int ch4), .val (.int ((p5 &&& (2147483647 : Int32)) % (6 : Int32))), .unset, .unset, .unset, .unset, .unset, .unset, .unset, .unset, .unset, .unset, .unset] []) _
      refine XS.iconst X14.here hx rfl (hb hby at_46) ?_
      exact kt)
    obtain ⟨T18, h18, kk18, X18, e18, E18, A18, st18⟩ := newP X14 hx hZ (hw _ (List.mem_of_getElem? (i := 8) rfl)) eq14 (g := (mkF m 47 #[.val (.int p0), .val (.int p1), .val (.int p2), .val (.int p3), .val (.int p4), .val (.int p5), .val (.int ch0), .val (.int ch1), .val (.int ch2), .val (.int ch3), .val (.int ch4), .val (.int ((p5 &&& (2147483647 : Int32)) % (6 : Int32))), .unset, .unset, .unset, .unset, .unset, .unset, .unset, .unset, .unset, .unset, .unset] [(.int (1 : Int32))])) rfl (hb hby at_47) rfl (by decide) (cap := 1) (by decide) (by decide) (by decide) (by decide)
    obtain ⟨b18, g18⟩ : ∃ z, z = h0.size := ⟨_, rfl⟩
    rw [← g18] at A18 st18
    have g_b18 : n0 ≤ b18 := Nat.le_trans Z0 (Nat.le_of_eq g18.symm)
    have Z19 : n0 ≤ h18.size := Nat.le_trans Z0 E18.1
    have Od20 : Old Z n0 h18 := O0.ext E18
    have V18 : Arv Z h18 b18 kk18 .char (1 : Int32) [(.int (0 : Int32))] (.int (0 : Int32)) := (Arv.new A18 (by decide)).pad (pad_rep [] (.int (0 : Int32)) 1)
    have kn21 : ∀ t, own_S p e below T18 (mkF m 49 #[.val (.int p0), .val (.int p1), .val (.int p2), .val (.int p3), .val (.int p4), .val (.int p5), .val (.int ch0), .val (.int ch1), .val (.int ch2), .val (.int ch3), .val (.int ch4), .val (.int ((p5 &&& (2147483647 : Int32)) % (6 : Int32))), .unset, .unset, .unset, .unset, .unset, .unset, .unset, .unset, .unset, .unset, .unset] [(.ref b18)]) t → Gl t := fun t kt => kn17 t (st18 _ kt)
    have kn22 : ∀ t, own_S p e below T18 (mkF m 53 #[.val (.int p0), .val (.int p1), .val (.int p2), .val (.int p3), .val (.int p4), .val (.int p5), .val (.int ch0), .val (.int ch1), .val (.int ch2), .val (.int ch3), .val (.int ch4), .val (.int ((p5 &&& (2147483647 : Int32)) % (6 : Int32))), .unset, .unset, .unset, .unset, .unset, .unset, .unset, .unset, .unset, .unset, .unset] [(.int ch0), (.int (0 : Int32)), (.ref b18), (.ref b18)]) t → Gl t := fun t kt => kn21 t (by
      show own_S p e below T18 (mkF m 49 #[.val (.int p0), .val (.int p1), .val (.int p2), .val (.int p3), .val (.int p4), .val (.int p5), .val (.int ch0), .val (.int ch1), .val (.int ch2), .val (.int ch3), .val (.int ch4), .val (.int ((p5 &&& (2147483647 : Int32)) % (6 : Int32))), .unset, .unset, .unset, .unset, .unset, .unset, .unset, .unset, .unset, .unset, .unset] [(.ref b18)]) _
      refine XS.dup X18.here hx rfl (hb hby at_49) rfl rfl ?_
      show own_S p e below T18 (mkF m 50 #[.val (.int p0), .val (.int p1), .val (.int p2), .val (.int p3), .val (.int p4), .val (.int p5), .val (.int ch0), .val (.int ch1), .val (.int ch2), .val (.int ch3), .val (.int ch4), .val (.int ((p5 &&& (2147483647 : Int32)) % (6 : Int32))), .unset, .unset, .unset, .unset, .unset, .unset, .unset, .unset, .unset, .unset, .unset] [(.ref b18), (.ref b18)]) _
      refine XS.iconst X18.here hx rfl (hb hby at_50) ?_
      show own_S p e below T18 (mkF m 51 #[.val (.int p0), .val (.int p1), .val (.int p2), .val (.int p3), .val (.int p4), .val (.int p5), .val (.int ch0), .val (.int ch1), .val (.int ch2), .val (.int ch3), .val (.int ch4), .val (.int ((p5 &&& (2147483647 : Int32)) % (6 : Int32))), .unset, .unset, .unset, .unset, .unset, .unset, .unset, .unset, .unset, .unset, .unset] [(.int (0 : Int32)), (.ref b18), (.ref b18)]) _
      refine XS.iload X18.here hx rfl (hb hby at_51) rfl ?_
      exact kt)
    obtain ⟨cl23, Ar23, q23, Sz23, Ng23, Hs23, Gs23⟩ := id V18
    have hin23 : ¬ ((0 : Int32) < 0 ∨ cl23.slots.size ≤ ((0 : Int32)).toNatClampNeg) := inb_of Sz23 ⟨by decide, by decide⟩
    obtain ⟨T23, h23, X23, e23, W23, st23⟩ := stC X18 hx hZ e18 Ar23 (j := (0 : Int32)) hin23 (g := (mkF m 53 #[.val (.int p0), .val (.int p1), .val (.int p2), .val (.int p3), .val (.int p4), .val (.int p5), .val (.int ch0), .val (.int ch1), .val (.int ch2), .val (.int ch3), .val (.int ch4), .val (.int ((p5 &&& (2147483647 : Int32)) % (6 : Int32))), .unset, .unset, .unset, .unset, .unset, .unset, .unset, .unset, .unset, .unset, .unset] [(.int ch0), (.int (0 : Int32)), (.ref b18), (.ref b18)])) rfl rfl (hb hby at_53)
    have Z24 : n0 ≤ h23.size := Nat.le_trans Z19 (Keep.of_wr W23).1
    have Od25 : Old Z n0 h23 := Od20.wr W23 g_b18
    have V23 : Arv Z h23 b18 kk18 .char (1 : Int32) [(.int (ch0.toUInt32.toUInt16.toUInt32.toInt32))] (.int (0 : Int32)) := Arv.set Ar23 q23 Sz23 Ng23 Hs23 Gs23 (fits_nar_char _) W23 0 rfl (Nat.le_of_ble_eq_true rfl)
    rw [(show (ch0.toUInt32.toUInt16.toUInt32.toInt32) = ch0 from gd0.2.2.2)] at V23
    have Nf26 := Fr.snoc X23 Nf14 g_b18
    have kn27 : ∀ t, own_S p e below T23 (mkF m 54 #[.val (.int p0), .val (.int p1), .val (.int p2), .val (.int p3), .val (.int p4), .val (.int p5), .val (.int ch0), .val (.int ch1), .val (.int ch2), .val (.int ch3), .val (.int ch4), .val (.int ((p5 &&& (2147483647 : Int32)) % (6 : Int32))), .unset, .unset, .unset, .unset, .unset, .unset, .unset, .unset, .unset, .unset, .unset] [(.ref b18)]) t → Gl t := fun t kt => kn22 t (st23 _ kt)
    have kn28 : ∀ t, own_S p e below T23 (mkF m 569 #[.val (.int p0), .val (.int p1), .val (.int p2), .val (.int p3), .val (.int p4), .val (.int p5), .val (.int ch0), .val (.int ch1), .val (.int ch2), .val (.int ch3), .val (.int ch4), .val (.int ((p5 &&& (2147483647 : Int32)) % (6 : Int32))), .val (.ref b18), .unset, .unset, .unset, .unset, .unset, .unset, .unset, .unset, .unset, .unset] []) t → Gl t := fun t kt => kn27 t (by
      show own_S p e below T23 (mkF m 54 #[.val (.int p0), .val (.int p1), .val (.int p2), .val (.int p3), .val (.int p4), .val (.int p5), .val (.int ch0), .val (.int ch1), .val (.int ch2), .val (.int ch3), .val (.int ch4), .val (.int ((p5 &&& (2147483647 : Int32)) % (6 : Int32))), .unset, .unset, .unset, .unset, .unset, .unset, .unset, .unset, .unset, .unset, .unset] [(.ref b18)]) _
      refine XS.astore X23.here hx rfl (hb hby at_54) rfl rfl (l' := #[.val (.int p0), .val (.int p1), .val (.int p2), .val (.int p3), .val (.int p4), .val (.int p5), .val (.int ch0), .val (.int ch1), .val (.int ch2), .val (.int ch3), .val (.int ch4), .val (.int ((p5 &&& (2147483647 : Int32)) % (6 : Int32))), .val (.ref b18), .unset, .unset, .unset, .unset, .unset, .unset, .unset, .unset, .unset, .unset]) rfl ?_
      show own_S p e below T23 (mkF m 56 #[.val (.int p0), .val (.int p1), .val (.int p2), .val (.int p3), .val (.int p4), .val (.int p5), .val (.int ch0), .val (.int ch1), .val (.int ch2), .val (.int ch3), .val (.int ch4), .val (.int ((p5 &&& (2147483647 : Int32)) % (6 : Int32))), .val (.ref b18), .unset, .unset, .unset, .unset, .unset, .unset, .unset, .unset, .unset, .unset] []) _
      refine XS.goto X23.here hx rfl (pc0 := 56) (pc' := 569) rfl (hb hby at_56) (by decide) (by decide) ?_
      exact kt)
    obtain ⟨s2, o2, t1, t2, t3, t4⟩ := tl (n0 := n0) p0 p1 p2 p3 p4 p5 G1 G3 ch0 ch1 ch2 ch3 ch4 _ b18 kk18 [ch0] (X23.mono (by decide) (by decide)) hx hZ hw hby hml hown Bd.returns (BodyLoose.notSynchronized Bd) e23 Nf26 Z24 V23 (Nat.le_of_ble_eq_true rfl) (Nat.le_of_ble_eq_true rfl) (own_fa gd0 own_f0) rfl gd0 gL0 Od25 O2 P5 O4 rG3
    exact ⟨s2, o2, hGl _ (kn28 _ t1), t2, t3, t4⟩
  · have kn29 : ∀ t, own_S p e below T14 (mkF m 62 #[.val (.int p0), .val (.int p1), .val (.int p2), .val (.int p3), .val (.int p4), .val (.int p5), .val (.int ch0), .val (.int ch1), .val (.int ch2), .val (.int ch3), .val (.int ch4), .val (.int ((p5 &&& (2147483647 : Int32)) % (6 : Int32))), .unset, .unset, .unset, .unset, .unset, .unset, .unset, .unset, .unset, .unset, .unset] [(.int (1 : Int32)), (.int ((p5 &&& (2147483647 : Int32)) % (6 : Int32)))]) t → Gl t := fun t kt => kn16 t (by
      show own_S p e below T14 (mkF m 43 #[.val (.int p0), .val (.int p1), .val (.int p2), .val (.int p3), .val (.int p4), .val (.int p5), .val (.int ch0), .val (.int ch1), .val (.int ch2), .val (.int ch3), .val (.int ch4), .val (.int ((p5 &&& (2147483647 : Int32)) % (6 : Int32))), .unset, .unset, .unset, .unset, .unset, .unset, .unset, .unset, .unset, .unset, .unset] [(.int ((p5 &&& (2147483647 : Int32)) % (6 : Int32)))]) _
      refine XS.ifYes X14.here hx rfl (pc0 := 43) (pc' := 59) rfl (hb hby at_43) rfl ((if0 _ _).trans (feq hc43).2) (by decide) (by decide) ?_
      show own_S p e below T14 (mkF m 59 #[.val (.int p0), .val (.int p1), .val (.int p2), .val (.int p3), .val (.int p4), .val (.int p5), .val (.int ch0), .val (.int ch1), .val (.int ch2), .val (.int ch3), .val (.int ch4), .val (.int ((p5 &&& (2147483647 : Int32)) % (6 : Int32))), .unset, .unset, .unset, .unset, .unset, .unset, .unset, .unset, .unset, .unset, .unset] []) _
      refine XS.iload X14.here hx rfl (hb hby at_59) rfl ?_
      show own_S p e below T14 (mkF m 61 #[.val (.int p0), .val (.int p1), .val (.int p2), .val (.int p3), .val (.int p4), .val (.int p5), .val (.int ch0), .val (.int ch1), .val (.int ch2), .val (.int ch3), .val (.int ch4), .val (.int ((p5 &&& (2147483647 : Int32)) % (6 : Int32))), .unset, .unset, .unset, .unset, .unset, .unset, .unset, .unset, .unset, .unset, .unset] [(.int ((p5 &&& (2147483647 : Int32)) % (6 : Int32)))]) _
      refine XS.iconst X14.here hx rfl (hb hby at_61) ?_
      exact kt)
    by_cases hc62 : ((p5 &&& (2147483647 : Int32)) % (6 : Int32)) = (1 : Int32)
    · have kn30 : ∀ t, own_S p e below T14 (mkF m 66 #[.val (.int p0), .val (.int p1), .val (.int p2), .val (.int p3), .val (.int p4), .val (.int p5), .val (.int ch0), .val (.int ch1), .val (.int ch2), .val (.int ch3), .val (.int ch4), .val (.int ((p5 &&& (2147483647 : Int32)) % (6 : Int32))), .unset, .unset, .unset, .unset, .unset, .unset, .unset, .unset, .unset, .unset, .unset] [(.int (2 : Int32))]) t → Gl t := fun t kt => kn29 t (by
        show own_S p e below T14 (mkF m 62 #[.val (.int p0), .val (.int p1), .val (.int p2), .val (.int p3), .val (.int p4), .val (.int p5), .val (.int ch0), .val (.int ch1), .val (.int ch2), .val (.int ch3), .val (.int ch4), .val (.int ((p5 &&& (2147483647 : Int32)) % (6 : Int32))), .unset, .unset, .unset, .unset, .unset, .unset, .unset, .unset, .unset, .unset, .unset] [(.int (1 : Int32)), (.int ((p5 &&& (2147483647 : Int32)) % (6 : Int32)))]) _
        refine XS.icmpNo X14.here hx rfl (hb hby at_62) rfl (teq hc62).2 ?_
        show own_S p e below T14 (mkF m 65 #[.val (.int p0), .val (.int p1), .val (.int p2), .val (.int p3), .val (.int p4), .val (.int p5), .val (.int ch0), .val (.int ch1), .val (.int ch2), .val (.int ch3), .val (.int ch4), .val (.int ((p5 &&& (2147483647 : Int32)) % (6 : Int32))), .unset, .unset, .unset, .unset, .unset, .unset, .unset, .unset, .unset, .unset, .unset] []) _
        refine XS.iconst X14.here hx rfl (hb hby at_65) ?_
        exact kt)
      obtain ⟨T31, h31, kk31, X31, e31, E31, A31, st31⟩ := newP X14 hx hZ (hw _ (List.mem_of_getElem? (i := 8) rfl)) eq14 (g := (mkF m 66 #[.val (.int p0), .val (.int p1), .val (.int p2), .val (.int p3), .val (.int p4), .val (.int p5), .val (.int ch0), .val (.int ch1), .val (.int ch2), .val (.int ch3), .val (.int ch4), .val (.int ((p5 &&& (2147483647 : Int32)) % (6 : Int32))), .unset, .unset, .unset, .unset, .unset, .unset, .unset, .unset, .unset, .unset, .unset] [(.int (2 : Int32))])) rfl (hb hby at_66) rfl (by decide) (cap := 2) (by decide) (by decide) (by decide) (by decide)
      obtain ⟨b31, g31⟩ : ∃ z, z = h0.size := ⟨_, rfl⟩
      rw [← g31] at A31 st31
      have g_b31 : n0 ≤ b31 := Nat.le_trans Z0 (Nat.le_of_eq g31.symm)
      have Z32 : n0 ≤ h31.size := Nat.le_trans Z0 E31.1
      have Od33 : Old Z n0 h31 := O0.ext E31
      have V31 : Arv Z h31 b31 kk31 .char (2 : Int32) [(.int (0 : Int32)), (.int (0 : Int32))] (.int (0 : Int32)) := (Arv.new A31 (by decide)).pad (pad_rep [] (.int (0 : Int32)) 2)
      have kn34 : ∀ t, own_S p e below T31 (mkF m 68 #[.val (.int p0), .val (.int p1), .val (.int p2), .val (.int p3), .val (.int p4), .val (.int p5), .val (.int ch0), .val (.int ch1), .val (.int ch2), .val (.int ch3), .val (.int ch4), .val (.int ((p5 &&& (2147483647 : Int32)) % (6 : Int32))), .unset, .unset, .unset, .unset, .unset, .unset, .unset, .unset, .unset, .unset, .unset] [(.ref b31)]) t → Gl t := fun t kt => kn30 t (st31 _ kt)
      have kn35 : ∀ t, own_S p e below T31 (mkF m 72 #[.val (.int p0), .val (.int p1), .val (.int p2), .val (.int p3), .val (.int p4), .val (.int p5), .val (.int ch0), .val (.int ch1), .val (.int ch2), .val (.int ch3), .val (.int ch4), .val (.int ((p5 &&& (2147483647 : Int32)) % (6 : Int32))), .unset, .unset, .unset, .unset, .unset, .unset, .unset, .unset, .unset, .unset, .unset] [(.int ch0), (.int (0 : Int32)), (.ref b31), (.ref b31)]) t → Gl t := fun t kt => kn34 t (by
        show own_S p e below T31 (mkF m 68 #[.val (.int p0), .val (.int p1), .val (.int p2), .val (.int p3), .val (.int p4), .val (.int p5), .val (.int ch0), .val (.int ch1), .val (.int ch2), .val (.int ch3), .val (.int ch4), .val (.int ((p5 &&& (2147483647 : Int32)) % (6 : Int32))), .unset, .unset, .unset, .unset, .unset, .unset, .unset, .unset, .unset, .unset, .unset] [(.ref b31)]) _
        refine XS.dup X31.here hx rfl (hb hby at_68) rfl rfl ?_
        show own_S p e below T31 (mkF m 69 #[.val (.int p0), .val (.int p1), .val (.int p2), .val (.int p3), .val (.int p4), .val (.int p5), .val (.int ch0), .val (.int ch1), .val (.int ch2), .val (.int ch3), .val (.int ch4), .val (.int ((p5 &&& (2147483647 : Int32)) % (6 : Int32))), .unset, .unset, .unset, .unset, .unset, .unset, .unset, .unset, .unset, .unset, .unset] [(.ref b31), (.ref b31)]) _
        refine XS.iconst X31.here hx rfl (hb hby at_69) ?_
        show own_S p e below T31 (mkF m 70 #[.val (.int p0), .val (.int p1), .val (.int p2), .val (.int p3), .val (.int p4), .val (.int p5), .val (.int ch0), .val (.int ch1), .val (.int ch2), .val (.int ch3), .val (.int ch4), .val (.int ((p5 &&& (2147483647 : Int32)) % (6 : Int32))), .unset, .unset, .unset, .unset, .unset, .unset, .unset, .unset, .unset, .unset, .unset] [(.int (0 : Int32)), (.ref b31), (.ref b31)]) _
        refine XS.iload X31.here hx rfl (hb hby at_70) rfl ?_
        exact kt)
      obtain ⟨cl36, Ar36, q36, Sz36, Ng36, Hs36, Gs36⟩ := id V31
      have hin36 : ¬ ((0 : Int32) < 0 ∨ cl36.slots.size ≤ ((0 : Int32)).toNatClampNeg) := inb_of Sz36 ⟨by decide, by decide⟩
      obtain ⟨T36, h36, X36, e36, W36, st36⟩ := stC X31 hx hZ e31 Ar36 (j := (0 : Int32)) hin36 (g := (mkF m 72 #[.val (.int p0), .val (.int p1), .val (.int p2), .val (.int p3), .val (.int p4), .val (.int p5), .val (.int ch0), .val (.int ch1), .val (.int ch2), .val (.int ch3), .val (.int ch4), .val (.int ((p5 &&& (2147483647 : Int32)) % (6 : Int32))), .unset, .unset, .unset, .unset, .unset, .unset, .unset, .unset, .unset, .unset, .unset] [(.int ch0), (.int (0 : Int32)), (.ref b31), (.ref b31)])) rfl rfl (hb hby at_72)
      have Z37 : n0 ≤ h36.size := Nat.le_trans Z32 (Keep.of_wr W36).1
      have Od38 : Old Z n0 h36 := Od33.wr W36 g_b31
      have V36 : Arv Z h36 b31 kk31 .char (2 : Int32) [(.int (ch0.toUInt32.toUInt16.toUInt32.toInt32)), (.int (0 : Int32))] (.int (0 : Int32)) := Arv.set Ar36 q36 Sz36 Ng36 Hs36 Gs36 (fits_nar_char _) W36 0 rfl (Nat.le_of_ble_eq_true rfl)
      rw [(show (ch0.toUInt32.toUInt16.toUInt32.toInt32) = ch0 from gd0.2.2.2)] at V36
      have Nf39 := Fr.snoc X36 Nf14 g_b31
      have kn40 : ∀ t, own_S p e below T36 (mkF m 73 #[.val (.int p0), .val (.int p1), .val (.int p2), .val (.int p3), .val (.int p4), .val (.int p5), .val (.int ch0), .val (.int ch1), .val (.int ch2), .val (.int ch3), .val (.int ch4), .val (.int ((p5 &&& (2147483647 : Int32)) % (6 : Int32))), .unset, .unset, .unset, .unset, .unset, .unset, .unset, .unset, .unset, .unset, .unset] [(.ref b31)]) t → Gl t := fun t kt => kn35 t (st36 _ kt)
      have kn41 : ∀ t, own_S p e below T36 (mkF m 77 #[.val (.int p0), .val (.int p1), .val (.int p2), .val (.int p3), .val (.int p4), .val (.int p5), .val (.int ch0), .val (.int ch1), .val (.int ch2), .val (.int ch3), .val (.int ch4), .val (.int ((p5 &&& (2147483647 : Int32)) % (6 : Int32))), .unset, .unset, .unset, .unset, .unset, .unset, .unset, .unset, .unset, .unset, .unset] [(.int ch1), (.int (1 : Int32)), (.ref b31), (.ref b31)]) t → Gl t := fun t kt => kn40 t (by
        show own_S p e below T36 (mkF m 73 #[.val (.int p0), .val (.int p1), .val (.int p2), .val (.int p3), .val (.int p4), .val (.int p5), .val (.int ch0), .val (.int ch1), .val (.int ch2), .val (.int ch3), .val (.int ch4), .val (.int ((p5 &&& (2147483647 : Int32)) % (6 : Int32))), .unset, .unset, .unset, .unset, .unset, .unset, .unset, .unset, .unset, .unset, .unset] [(.ref b31)]) _
        refine XS.dup X36.here hx rfl (hb hby at_73) rfl rfl ?_
        show own_S p e below T36 (mkF m 74 #[.val (.int p0), .val (.int p1), .val (.int p2), .val (.int p3), .val (.int p4), .val (.int p5), .val (.int ch0), .val (.int ch1), .val (.int ch2), .val (.int ch3), .val (.int ch4), .val (.int ((p5 &&& (2147483647 : Int32)) % (6 : Int32))), .unset, .unset, .unset, .unset, .unset, .unset, .unset, .unset, .unset, .unset, .unset] [(.ref b31), (.ref b31)]) _
        refine XS.iconst X36.here hx rfl (hb hby at_74) ?_
        show own_S p e below T36 (mkF m 75 #[.val (.int p0), .val (.int p1), .val (.int p2), .val (.int p3), .val (.int p4), .val (.int p5), .val (.int ch0), .val (.int ch1), .val (.int ch2), .val (.int ch3), .val (.int ch4), .val (.int ((p5 &&& (2147483647 : Int32)) % (6 : Int32))), .unset, .unset, .unset, .unset, .unset, .unset, .unset, .unset, .unset, .unset, .unset] [(.int (1 : Int32)), (.ref b31), (.ref b31)]) _
        refine XS.iload X36.here hx rfl (hb hby at_75) rfl ?_
        exact kt)
      obtain ⟨cl42, Ar42, q42, Sz42, Ng42, Hs42, Gs42⟩ := id V36
      have hin42 : ¬ ((1 : Int32) < 0 ∨ cl42.slots.size ≤ ((1 : Int32)).toNatClampNeg) := inb_of Sz42 ⟨by decide, by decide⟩
      obtain ⟨T42, h42, X42, e42, W42, st42⟩ := stC X36 hx hZ e36 Ar42 (j := (1 : Int32)) hin42 (g := (mkF m 77 #[.val (.int p0), .val (.int p1), .val (.int p2), .val (.int p3), .val (.int p4), .val (.int p5), .val (.int ch0), .val (.int ch1), .val (.int ch2), .val (.int ch3), .val (.int ch4), .val (.int ((p5 &&& (2147483647 : Int32)) % (6 : Int32))), .unset, .unset, .unset, .unset, .unset, .unset, .unset, .unset, .unset, .unset, .unset] [(.int ch1), (.int (1 : Int32)), (.ref b31), (.ref b31)])) rfl rfl (hb hby at_77)
      have Z43 : n0 ≤ h42.size := Nat.le_trans Z37 (Keep.of_wr W42).1
      have Od44 : Old Z n0 h42 := Od38.wr W42 g_b31
      have V42 : Arv Z h42 b31 kk31 .char (2 : Int32) [(.int ch0), (.int (ch1.toUInt32.toUInt16.toUInt32.toInt32))] (.int (0 : Int32)) := Arv.set Ar42 q42 Sz42 Ng42 Hs42 Gs42 (fits_nar_char _) W42 1 rfl (Nat.le_of_ble_eq_true rfl)
      rw [(show (ch1.toUInt32.toUInt16.toUInt32.toInt32) = ch1 from gd1.2.2.2)] at V42
      have Nf45 := Fr.snoc X42 Nf39 g_b31
      have kn46 : ∀ t, own_S p e below T42 (mkF m 78 #[.val (.int p0), .val (.int p1), .val (.int p2), .val (.int p3), .val (.int p4), .val (.int p5), .val (.int ch0), .val (.int ch1), .val (.int ch2), .val (.int ch3), .val (.int ch4), .val (.int ((p5 &&& (2147483647 : Int32)) % (6 : Int32))), .unset, .unset, .unset, .unset, .unset, .unset, .unset, .unset, .unset, .unset, .unset] [(.ref b31)]) t → Gl t := fun t kt => kn41 t (st42 _ kt)
      have kn47 : ∀ t, own_S p e below T42 (mkF m 569 #[.val (.int p0), .val (.int p1), .val (.int p2), .val (.int p3), .val (.int p4), .val (.int p5), .val (.int ch0), .val (.int ch1), .val (.int ch2), .val (.int ch3), .val (.int ch4), .val (.int ((p5 &&& (2147483647 : Int32)) % (6 : Int32))), .val (.ref b31), .unset, .unset, .unset, .unset, .unset, .unset, .unset, .unset, .unset, .unset] []) t → Gl t := fun t kt => kn46 t (by
        show own_S p e below T42 (mkF m 78 #[.val (.int p0), .val (.int p1), .val (.int p2), .val (.int p3), .val (.int p4), .val (.int p5), .val (.int ch0), .val (.int ch1), .val (.int ch2), .val (.int ch3), .val (.int ch4), .val (.int ((p5 &&& (2147483647 : Int32)) % (6 : Int32))), .unset, .unset, .unset, .unset, .unset, .unset, .unset, .unset, .unset, .unset, .unset] [(.ref b31)]) _
        refine XS.astore X42.here hx rfl (hb hby at_78) rfl rfl (l' := #[.val (.int p0), .val (.int p1), .val (.int p2), .val (.int p3), .val (.int p4), .val (.int p5), .val (.int ch0), .val (.int ch1), .val (.int ch2), .val (.int ch3), .val (.int ch4), .val (.int ((p5 &&& (2147483647 : Int32)) % (6 : Int32))), .val (.ref b31), .unset, .unset, .unset, .unset, .unset, .unset, .unset, .unset, .unset, .unset]) rfl ?_
        show own_S p e below T42 (mkF m 80 #[.val (.int p0), .val (.int p1), .val (.int p2), .val (.int p3), .val (.int p4), .val (.int p5), .val (.int ch0), .val (.int ch1), .val (.int ch2), .val (.int ch3), .val (.int ch4), .val (.int ((p5 &&& (2147483647 : Int32)) % (6 : Int32))), .val (.ref b31), .unset, .unset, .unset, .unset, .unset, .unset, .unset, .unset, .unset, .unset] []) _
        refine XS.goto X42.here hx rfl (pc0 := 80) (pc' := 569) rfl (hb hby at_80) (by decide) (by decide) ?_
        exact kt)
      obtain ⟨s2, o2, t1, t2, t3, t4⟩ := tl (n0 := n0) p0 p1 p2 p3 p4 p5 G1 G3 ch0 ch1 ch2 ch3 ch4 _ b31 kk31 [ch0, ch1] (X42.mono (by decide) (by decide)) hx hZ hw hby hml hown Bd.returns (BodyLoose.notSynchronized Bd) e42 Nf45 Z43 V42 (Nat.le_of_ble_eq_true rfl) (Nat.le_of_ble_eq_true rfl) (own_fa gd0 (own_fa gd1 own_f0)) rfl gd0 gL0 Od44 O2 P5 O4 rG3
      exact ⟨s2, o2, hGl _ (kn47 _ t1), t2, t3, t4⟩
    · have kn48 : ∀ t, own_S p e below T14 (mkF m 86 #[.val (.int p0), .val (.int p1), .val (.int p2), .val (.int p3), .val (.int p4), .val (.int p5), .val (.int ch0), .val (.int ch1), .val (.int ch2), .val (.int ch3), .val (.int ch4), .val (.int ((p5 &&& (2147483647 : Int32)) % (6 : Int32))), .unset, .unset, .unset, .unset, .unset, .unset, .unset, .unset, .unset, .unset, .unset] [(.int (2 : Int32)), (.int ((p5 &&& (2147483647 : Int32)) % (6 : Int32)))]) t → Gl t := fun t kt => kn29 t (by
        show own_S p e below T14 (mkF m 62 #[.val (.int p0), .val (.int p1), .val (.int p2), .val (.int p3), .val (.int p4), .val (.int p5), .val (.int ch0), .val (.int ch1), .val (.int ch2), .val (.int ch3), .val (.int ch4), .val (.int ((p5 &&& (2147483647 : Int32)) % (6 : Int32))), .unset, .unset, .unset, .unset, .unset, .unset, .unset, .unset, .unset, .unset, .unset] [(.int (1 : Int32)), (.int ((p5 &&& (2147483647 : Int32)) % (6 : Int32)))]) _
        refine XS.icmpYes X14.here hx rfl (pc0 := 62) (pc' := 83) rfl (hb hby at_62) rfl (feq hc62).2 (by decide) (by decide) ?_
        show own_S p e below T14 (mkF m 83 #[.val (.int p0), .val (.int p1), .val (.int p2), .val (.int p3), .val (.int p4), .val (.int p5), .val (.int ch0), .val (.int ch1), .val (.int ch2), .val (.int ch3), .val (.int ch4), .val (.int ((p5 &&& (2147483647 : Int32)) % (6 : Int32))), .unset, .unset, .unset, .unset, .unset, .unset, .unset, .unset, .unset, .unset, .unset] []) _
        refine XS.iload X14.here hx rfl (hb hby at_83) rfl ?_
        show own_S p e below T14 (mkF m 85 #[.val (.int p0), .val (.int p1), .val (.int p2), .val (.int p3), .val (.int p4), .val (.int p5), .val (.int ch0), .val (.int ch1), .val (.int ch2), .val (.int ch3), .val (.int ch4), .val (.int ((p5 &&& (2147483647 : Int32)) % (6 : Int32))), .unset, .unset, .unset, .unset, .unset, .unset, .unset, .unset, .unset, .unset, .unset] [(.int ((p5 &&& (2147483647 : Int32)) % (6 : Int32)))]) _
        refine XS.iconst X14.here hx rfl (hb hby at_85) ?_
        exact kt)
      by_cases hc86 : ((p5 &&& (2147483647 : Int32)) % (6 : Int32)) = (2 : Int32)
      · have kn49 : ∀ t, own_S p e below T14 (mkF m 90 #[.val (.int p0), .val (.int p1), .val (.int p2), .val (.int p3), .val (.int p4), .val (.int p5), .val (.int ch0), .val (.int ch1), .val (.int ch2), .val (.int ch3), .val (.int ch4), .val (.int ((p5 &&& (2147483647 : Int32)) % (6 : Int32))), .unset, .unset, .unset, .unset, .unset, .unset, .unset, .unset, .unset, .unset, .unset] [(.int (3 : Int32))]) t → Gl t := fun t kt => kn48 t (by
          show own_S p e below T14 (mkF m 86 #[.val (.int p0), .val (.int p1), .val (.int p2), .val (.int p3), .val (.int p4), .val (.int p5), .val (.int ch0), .val (.int ch1), .val (.int ch2), .val (.int ch3), .val (.int ch4), .val (.int ((p5 &&& (2147483647 : Int32)) % (6 : Int32))), .unset, .unset, .unset, .unset, .unset, .unset, .unset, .unset, .unset, .unset, .unset] [(.int (2 : Int32)), (.int ((p5 &&& (2147483647 : Int32)) % (6 : Int32)))]) _
          refine XS.icmpNo X14.here hx rfl (hb hby at_86) rfl (teq hc86).2 ?_
          show own_S p e below T14 (mkF m 89 #[.val (.int p0), .val (.int p1), .val (.int p2), .val (.int p3), .val (.int p4), .val (.int p5), .val (.int ch0), .val (.int ch1), .val (.int ch2), .val (.int ch3), .val (.int ch4), .val (.int ((p5 &&& (2147483647 : Int32)) % (6 : Int32))), .unset, .unset, .unset, .unset, .unset, .unset, .unset, .unset, .unset, .unset, .unset] []) _
          refine XS.iconst X14.here hx rfl (hb hby at_89) ?_
          exact kt)
        obtain ⟨T50, h50, kk50, X50, e50, E50, A50, st50⟩ := newP X14 hx hZ (hw _ (List.mem_of_getElem? (i := 8) rfl)) eq14 (g := (mkF m 90 #[.val (.int p0), .val (.int p1), .val (.int p2), .val (.int p3), .val (.int p4), .val (.int p5), .val (.int ch0), .val (.int ch1), .val (.int ch2), .val (.int ch3), .val (.int ch4), .val (.int ((p5 &&& (2147483647 : Int32)) % (6 : Int32))), .unset, .unset, .unset, .unset, .unset, .unset, .unset, .unset, .unset, .unset, .unset] [(.int (3 : Int32))])) rfl (hb hby at_90) rfl (by decide) (cap := 3) (by decide) (by decide) (by decide) (by decide)
        obtain ⟨b50, g50⟩ : ∃ z, z = h0.size := ⟨_, rfl⟩
        rw [← g50] at A50 st50
        have g_b50 : n0 ≤ b50 := Nat.le_trans Z0 (Nat.le_of_eq g50.symm)
        have Z51 : n0 ≤ h50.size := Nat.le_trans Z0 E50.1
        have Od52 : Old Z n0 h50 := O0.ext E50
        have V50 : Arv Z h50 b50 kk50 .char (3 : Int32) [(.int (0 : Int32)), (.int (0 : Int32)), (.int (0 : Int32))] (.int (0 : Int32)) := (Arv.new A50 (by decide)).pad (pad_rep [] (.int (0 : Int32)) 3)
        have kn53 : ∀ t, own_S p e below T50 (mkF m 92 #[.val (.int p0), .val (.int p1), .val (.int p2), .val (.int p3), .val (.int p4), .val (.int p5), .val (.int ch0), .val (.int ch1), .val (.int ch2), .val (.int ch3), .val (.int ch4), .val (.int ((p5 &&& (2147483647 : Int32)) % (6 : Int32))), .unset, .unset, .unset, .unset, .unset, .unset, .unset, .unset, .unset, .unset, .unset] [(.ref b50)]) t → Gl t := fun t kt => kn49 t (st50 _ kt)
        have kn54 : ∀ t, own_S p e below T50 (mkF m 96 #[.val (.int p0), .val (.int p1), .val (.int p2), .val (.int p3), .val (.int p4), .val (.int p5), .val (.int ch0), .val (.int ch1), .val (.int ch2), .val (.int ch3), .val (.int ch4), .val (.int ((p5 &&& (2147483647 : Int32)) % (6 : Int32))), .unset, .unset, .unset, .unset, .unset, .unset, .unset, .unset, .unset, .unset, .unset] [(.int ch0), (.int (0 : Int32)), (.ref b50), (.ref b50)]) t → Gl t := fun t kt => kn53 t (by
          show own_S p e below T50 (mkF m 92 #[.val (.int p0), .val (.int p1), .val (.int p2), .val (.int p3), .val (.int p4), .val (.int p5), .val (.int ch0), .val (.int ch1), .val (.int ch2), .val (.int ch3), .val (.int ch4), .val (.int ((p5 &&& (2147483647 : Int32)) % (6 : Int32))), .unset, .unset, .unset, .unset, .unset, .unset, .unset, .unset, .unset, .unset, .unset] [(.ref b50)]) _
          refine XS.dup X50.here hx rfl (hb hby at_92) rfl rfl ?_
          show own_S p e below T50 (mkF m 93 #[.val (.int p0), .val (.int p1), .val (.int p2), .val (.int p3), .val (.int p4), .val (.int p5), .val (.int ch0), .val (.int ch1), .val (.int ch2), .val (.int ch3), .val (.int ch4), .val (.int ((p5 &&& (2147483647 : Int32)) % (6 : Int32))), .unset, .unset, .unset, .unset, .unset, .unset, .unset, .unset, .unset, .unset, .unset] [(.ref b50), (.ref b50)]) _
          refine XS.iconst X50.here hx rfl (hb hby at_93) ?_
          show own_S p e below T50 (mkF m 94 #[.val (.int p0), .val (.int p1), .val (.int p2), .val (.int p3), .val (.int p4), .val (.int p5), .val (.int ch0), .val (.int ch1), .val (.int ch2), .val (.int ch3), .val (.int ch4), .val (.int ((p5 &&& (2147483647 : Int32)) % (6 : Int32))), .unset, .unset, .unset, .unset, .unset, .unset, .unset, .unset, .unset, .unset, .unset] [(.int (0 : Int32)), (.ref b50), (.ref b50)]) _
          refine XS.iload X50.here hx rfl (hb hby at_94) rfl ?_
          exact kt)
        obtain ⟨cl55, Ar55, q55, Sz55, Ng55, Hs55, Gs55⟩ := id V50
        have hin55 : ¬ ((0 : Int32) < 0 ∨ cl55.slots.size ≤ ((0 : Int32)).toNatClampNeg) := inb_of Sz55 ⟨by decide, by decide⟩
        obtain ⟨T55, h55, X55, e55, W55, st55⟩ := stC X50 hx hZ e50 Ar55 (j := (0 : Int32)) hin55 (g := (mkF m 96 #[.val (.int p0), .val (.int p1), .val (.int p2), .val (.int p3), .val (.int p4), .val (.int p5), .val (.int ch0), .val (.int ch1), .val (.int ch2), .val (.int ch3), .val (.int ch4), .val (.int ((p5 &&& (2147483647 : Int32)) % (6 : Int32))), .unset, .unset, .unset, .unset, .unset, .unset, .unset, .unset, .unset, .unset, .unset] [(.int ch0), (.int (0 : Int32)), (.ref b50), (.ref b50)])) rfl rfl (hb hby at_96)
        have Z56 : n0 ≤ h55.size := Nat.le_trans Z51 (Keep.of_wr W55).1
        have Od57 : Old Z n0 h55 := Od52.wr W55 g_b50
        have V55 : Arv Z h55 b50 kk50 .char (3 : Int32) [(.int (ch0.toUInt32.toUInt16.toUInt32.toInt32)), (.int (0 : Int32)), (.int (0 : Int32))] (.int (0 : Int32)) := Arv.set Ar55 q55 Sz55 Ng55 Hs55 Gs55 (fits_nar_char _) W55 0 rfl (Nat.le_of_ble_eq_true rfl)
        rw [(show (ch0.toUInt32.toUInt16.toUInt32.toInt32) = ch0 from gd0.2.2.2)] at V55
        have Nf58 := Fr.snoc X55 Nf14 g_b50
        have kn59 : ∀ t, own_S p e below T55 (mkF m 97 #[.val (.int p0), .val (.int p1), .val (.int p2), .val (.int p3), .val (.int p4), .val (.int p5), .val (.int ch0), .val (.int ch1), .val (.int ch2), .val (.int ch3), .val (.int ch4), .val (.int ((p5 &&& (2147483647 : Int32)) % (6 : Int32))), .unset, .unset, .unset, .unset, .unset, .unset, .unset, .unset, .unset, .unset, .unset] [(.ref b50)]) t → Gl t := fun t kt => kn54 t (st55 _ kt)
        have kn60 : ∀ t, own_S p e below T55 (mkF m 101 #[.val (.int p0), .val (.int p1), .val (.int p2), .val (.int p3), .val (.int p4), .val (.int p5), .val (.int ch0), .val (.int ch1), .val (.int ch2), .val (.int ch3), .val (.int ch4), .val (.int ((p5 &&& (2147483647 : Int32)) % (6 : Int32))), .unset, .unset, .unset, .unset, .unset, .unset, .unset, .unset, .unset, .unset, .unset] [(.int ch1), (.int (1 : Int32)), (.ref b50), (.ref b50)]) t → Gl t := fun t kt => kn59 t (by
          show own_S p e below T55 (mkF m 97 #[.val (.int p0), .val (.int p1), .val (.int p2), .val (.int p3), .val (.int p4), .val (.int p5), .val (.int ch0), .val (.int ch1), .val (.int ch2), .val (.int ch3), .val (.int ch4), .val (.int ((p5 &&& (2147483647 : Int32)) % (6 : Int32))), .unset, .unset, .unset, .unset, .unset, .unset, .unset, .unset, .unset, .unset, .unset] [(.ref b50)]) _
          refine XS.dup X55.here hx rfl (hb hby at_97) rfl rfl ?_
          show own_S p e below T55 (mkF m 98 #[.val (.int p0), .val (.int p1), .val (.int p2), .val (.int p3), .val (.int p4), .val (.int p5), .val (.int ch0), .val (.int ch1), .val (.int ch2), .val (.int ch3), .val (.int ch4), .val (.int ((p5 &&& (2147483647 : Int32)) % (6 : Int32))), .unset, .unset, .unset, .unset, .unset, .unset, .unset, .unset, .unset, .unset, .unset] [(.ref b50), (.ref b50)]) _
          refine XS.iconst X55.here hx rfl (hb hby at_98) ?_
          show own_S p e below T55 (mkF m 99 #[.val (.int p0), .val (.int p1), .val (.int p2), .val (.int p3), .val (.int p4), .val (.int p5), .val (.int ch0), .val (.int ch1), .val (.int ch2), .val (.int ch3), .val (.int ch4), .val (.int ((p5 &&& (2147483647 : Int32)) % (6 : Int32))), .unset, .unset, .unset, .unset, .unset, .unset, .unset, .unset, .unset, .unset, .unset] [(.int (1 : Int32)), (.ref b50), (.ref b50)]) _
          refine XS.iload X55.here hx rfl (hb hby at_99) rfl ?_
          exact kt)
        obtain ⟨cl61, Ar61, q61, Sz61, Ng61, Hs61, Gs61⟩ := id V55
        have hin61 : ¬ ((1 : Int32) < 0 ∨ cl61.slots.size ≤ ((1 : Int32)).toNatClampNeg) := inb_of Sz61 ⟨by decide, by decide⟩
        obtain ⟨T61, h61, X61, e61, W61, st61⟩ := stC X55 hx hZ e55 Ar61 (j := (1 : Int32)) hin61 (g := (mkF m 101 #[.val (.int p0), .val (.int p1), .val (.int p2), .val (.int p3), .val (.int p4), .val (.int p5), .val (.int ch0), .val (.int ch1), .val (.int ch2), .val (.int ch3), .val (.int ch4), .val (.int ((p5 &&& (2147483647 : Int32)) % (6 : Int32))), .unset, .unset, .unset, .unset, .unset, .unset, .unset, .unset, .unset, .unset, .unset] [(.int ch1), (.int (1 : Int32)), (.ref b50), (.ref b50)])) rfl rfl (hb hby at_101)
        have Z62 : n0 ≤ h61.size := Nat.le_trans Z56 (Keep.of_wr W61).1
        have Od63 : Old Z n0 h61 := Od57.wr W61 g_b50
        have V61 : Arv Z h61 b50 kk50 .char (3 : Int32) [(.int ch0), (.int (ch1.toUInt32.toUInt16.toUInt32.toInt32)), (.int (0 : Int32))] (.int (0 : Int32)) := Arv.set Ar61 q61 Sz61 Ng61 Hs61 Gs61 (fits_nar_char _) W61 1 rfl (Nat.le_of_ble_eq_true rfl)
        rw [(show (ch1.toUInt32.toUInt16.toUInt32.toInt32) = ch1 from gd1.2.2.2)] at V61
        have Nf64 := Fr.snoc X61 Nf58 g_b50
        have kn65 : ∀ t, own_S p e below T61 (mkF m 102 #[.val (.int p0), .val (.int p1), .val (.int p2), .val (.int p3), .val (.int p4), .val (.int p5), .val (.int ch0), .val (.int ch1), .val (.int ch2), .val (.int ch3), .val (.int ch4), .val (.int ((p5 &&& (2147483647 : Int32)) % (6 : Int32))), .unset, .unset, .unset, .unset, .unset, .unset, .unset, .unset, .unset, .unset, .unset] [(.ref b50)]) t → Gl t := fun t kt => kn60 t (st61 _ kt)
        have kn66 : ∀ t, own_S p e below T61 (mkF m 106 #[.val (.int p0), .val (.int p1), .val (.int p2), .val (.int p3), .val (.int p4), .val (.int p5), .val (.int ch0), .val (.int ch1), .val (.int ch2), .val (.int ch3), .val (.int ch4), .val (.int ((p5 &&& (2147483647 : Int32)) % (6 : Int32))), .unset, .unset, .unset, .unset, .unset, .unset, .unset, .unset, .unset, .unset, .unset] [(.int ch2), (.int (2 : Int32)), (.ref b50), (.ref b50)]) t → Gl t := fun t kt => kn65 t (by
          show own_S p e below T61 (mkF m 102 #[.val (.int p0), .val (.int p1), .val (.int p2), .val (.int p3), .val (.int p4), .val (.int p5), .val (.int ch0), .val (.int ch1), .val (.int ch2), .val (.int ch3), .val (.int ch4), .val (.int ((p5 &&& (2147483647 : Int32)) % (6 : Int32))), .unset, .unset, .unset, .unset, .unset, .unset, .unset, .unset, .unset, .unset, .unset] [(.ref b50)]) _
          refine XS.dup X61.here hx rfl (hb hby at_102) rfl rfl ?_
          show own_S p e below T61 (mkF m 103 #[.val (.int p0), .val (.int p1), .val (.int p2), .val (.int p3), .val (.int p4), .val (.int p5), .val (.int ch0), .val (.int ch1), .val (.int ch2), .val (.int ch3), .val (.int ch4), .val (.int ((p5 &&& (2147483647 : Int32)) % (6 : Int32))), .unset, .unset, .unset, .unset, .unset, .unset, .unset, .unset, .unset, .unset, .unset] [(.ref b50), (.ref b50)]) _
          refine XS.iconst X61.here hx rfl (hb hby at_103) ?_
          show own_S p e below T61 (mkF m 104 #[.val (.int p0), .val (.int p1), .val (.int p2), .val (.int p3), .val (.int p4), .val (.int p5), .val (.int ch0), .val (.int ch1), .val (.int ch2), .val (.int ch3), .val (.int ch4), .val (.int ((p5 &&& (2147483647 : Int32)) % (6 : Int32))), .unset, .unset, .unset, .unset, .unset, .unset, .unset, .unset, .unset, .unset, .unset] [(.int (2 : Int32)), (.ref b50), (.ref b50)]) _
          refine XS.iload X61.here hx rfl (hb hby at_104) rfl ?_
          exact kt)
        obtain ⟨cl67, Ar67, q67, Sz67, Ng67, Hs67, Gs67⟩ := id V61
        have hin67 : ¬ ((2 : Int32) < 0 ∨ cl67.slots.size ≤ ((2 : Int32)).toNatClampNeg) := inb_of Sz67 ⟨by decide, by decide⟩
        obtain ⟨T67, h67, X67, e67, W67, st67⟩ := stC X61 hx hZ e61 Ar67 (j := (2 : Int32)) hin67 (g := (mkF m 106 #[.val (.int p0), .val (.int p1), .val (.int p2), .val (.int p3), .val (.int p4), .val (.int p5), .val (.int ch0), .val (.int ch1), .val (.int ch2), .val (.int ch3), .val (.int ch4), .val (.int ((p5 &&& (2147483647 : Int32)) % (6 : Int32))), .unset, .unset, .unset, .unset, .unset, .unset, .unset, .unset, .unset, .unset, .unset] [(.int ch2), (.int (2 : Int32)), (.ref b50), (.ref b50)])) rfl rfl (hb hby at_106)
        have Z68 : n0 ≤ h67.size := Nat.le_trans Z62 (Keep.of_wr W67).1
        have Od69 : Old Z n0 h67 := Od63.wr W67 g_b50
        have V67 : Arv Z h67 b50 kk50 .char (3 : Int32) [(.int ch0), (.int ch1), (.int (ch2.toUInt32.toUInt16.toUInt32.toInt32))] (.int (0 : Int32)) := Arv.set Ar67 q67 Sz67 Ng67 Hs67 Gs67 (fits_nar_char _) W67 2 rfl (Nat.le_of_ble_eq_true rfl)
        rw [(show (ch2.toUInt32.toUInt16.toUInt32.toInt32) = ch2 from gd2.2.2.2)] at V67
        have Nf70 := Fr.snoc X67 Nf64 g_b50
        have kn71 : ∀ t, own_S p e below T67 (mkF m 107 #[.val (.int p0), .val (.int p1), .val (.int p2), .val (.int p3), .val (.int p4), .val (.int p5), .val (.int ch0), .val (.int ch1), .val (.int ch2), .val (.int ch3), .val (.int ch4), .val (.int ((p5 &&& (2147483647 : Int32)) % (6 : Int32))), .unset, .unset, .unset, .unset, .unset, .unset, .unset, .unset, .unset, .unset, .unset] [(.ref b50)]) t → Gl t := fun t kt => kn66 t (st67 _ kt)
        have kn72 : ∀ t, own_S p e below T67 (mkF m 569 #[.val (.int p0), .val (.int p1), .val (.int p2), .val (.int p3), .val (.int p4), .val (.int p5), .val (.int ch0), .val (.int ch1), .val (.int ch2), .val (.int ch3), .val (.int ch4), .val (.int ((p5 &&& (2147483647 : Int32)) % (6 : Int32))), .val (.ref b50), .unset, .unset, .unset, .unset, .unset, .unset, .unset, .unset, .unset, .unset] []) t → Gl t := fun t kt => kn71 t (by
          show own_S p e below T67 (mkF m 107 #[.val (.int p0), .val (.int p1), .val (.int p2), .val (.int p3), .val (.int p4), .val (.int p5), .val (.int ch0), .val (.int ch1), .val (.int ch2), .val (.int ch3), .val (.int ch4), .val (.int ((p5 &&& (2147483647 : Int32)) % (6 : Int32))), .unset, .unset, .unset, .unset, .unset, .unset, .unset, .unset, .unset, .unset, .unset] [(.ref b50)]) _
          refine XS.astore X67.here hx rfl (hb hby at_107) rfl rfl (l' := #[.val (.int p0), .val (.int p1), .val (.int p2), .val (.int p3), .val (.int p4), .val (.int p5), .val (.int ch0), .val (.int ch1), .val (.int ch2), .val (.int ch3), .val (.int ch4), .val (.int ((p5 &&& (2147483647 : Int32)) % (6 : Int32))), .val (.ref b50), .unset, .unset, .unset, .unset, .unset, .unset, .unset, .unset, .unset, .unset]) rfl ?_
          show own_S p e below T67 (mkF m 109 #[.val (.int p0), .val (.int p1), .val (.int p2), .val (.int p3), .val (.int p4), .val (.int p5), .val (.int ch0), .val (.int ch1), .val (.int ch2), .val (.int ch3), .val (.int ch4), .val (.int ((p5 &&& (2147483647 : Int32)) % (6 : Int32))), .val (.ref b50), .unset, .unset, .unset, .unset, .unset, .unset, .unset, .unset, .unset, .unset] []) _
          refine XS.goto X67.here hx rfl (pc0 := 109) (pc' := 569) rfl (hb hby at_109) (by decide) (by decide) ?_
          exact kt)
        obtain ⟨s2, o2, t1, t2, t3, t4⟩ := tl (n0 := n0) p0 p1 p2 p3 p4 p5 G1 G3 ch0 ch1 ch2 ch3 ch4 _ b50 kk50 [ch0, ch1, ch2] (X67.mono (by decide) (by decide)) hx hZ hw hby hml hown Bd.returns (BodyLoose.notSynchronized Bd) e67 Nf70 Z68 V67 (Nat.le_of_ble_eq_true rfl) (Nat.le_of_ble_eq_true rfl) (own_fa gd0 (own_fa gd1 (own_fa gd2 own_f0))) rfl gd0 gL0 Od69 O2 P5 O4 rG3
        exact ⟨s2, o2, hGl _ (kn72 _ t1), t2, t3, t4⟩
      · have kn73 : ∀ t, own_S p e below T14 (mkF m 115 #[.val (.int p0), .val (.int p1), .val (.int p2), .val (.int p3), .val (.int p4), .val (.int p5), .val (.int ch0), .val (.int ch1), .val (.int ch2), .val (.int ch3), .val (.int ch4), .val (.int ((p5 &&& (2147483647 : Int32)) % (6 : Int32))), .unset, .unset, .unset, .unset, .unset, .unset, .unset, .unset, .unset, .unset, .unset] [(.int (3 : Int32)), (.int ((p5 &&& (2147483647 : Int32)) % (6 : Int32)))]) t → Gl t := fun t kt => kn48 t (by
          show own_S p e below T14 (mkF m 86 #[.val (.int p0), .val (.int p1), .val (.int p2), .val (.int p3), .val (.int p4), .val (.int p5), .val (.int ch0), .val (.int ch1), .val (.int ch2), .val (.int ch3), .val (.int ch4), .val (.int ((p5 &&& (2147483647 : Int32)) % (6 : Int32))), .unset, .unset, .unset, .unset, .unset, .unset, .unset, .unset, .unset, .unset, .unset] [(.int (2 : Int32)), (.int ((p5 &&& (2147483647 : Int32)) % (6 : Int32)))]) _
          refine XS.icmpYes X14.here hx rfl (pc0 := 86) (pc' := 112) rfl (hb hby at_86) rfl (feq hc86).2 (by decide) (by decide) ?_
          show own_S p e below T14 (mkF m 112 #[.val (.int p0), .val (.int p1), .val (.int p2), .val (.int p3), .val (.int p4), .val (.int p5), .val (.int ch0), .val (.int ch1), .val (.int ch2), .val (.int ch3), .val (.int ch4), .val (.int ((p5 &&& (2147483647 : Int32)) % (6 : Int32))), .unset, .unset, .unset, .unset, .unset, .unset, .unset, .unset, .unset, .unset, .unset] []) _
          refine XS.iload X14.here hx rfl (hb hby at_112) rfl ?_
          show own_S p e below T14 (mkF m 114 #[.val (.int p0), .val (.int p1), .val (.int p2), .val (.int p3), .val (.int p4), .val (.int p5), .val (.int ch0), .val (.int ch1), .val (.int ch2), .val (.int ch3), .val (.int ch4), .val (.int ((p5 &&& (2147483647 : Int32)) % (6 : Int32))), .unset, .unset, .unset, .unset, .unset, .unset, .unset, .unset, .unset, .unset, .unset] [(.int ((p5 &&& (2147483647 : Int32)) % (6 : Int32)))]) _
          refine XS.iconst X14.here hx rfl (hb hby at_114) ?_
          exact kt)
        by_cases hc115 : ((p5 &&& (2147483647 : Int32)) % (6 : Int32)) = (3 : Int32)
        · have kn74 : ∀ t, own_S p e below T14 (mkF m 119 #[.val (.int p0), .val (.int p1), .val (.int p2), .val (.int p3), .val (.int p4), .val (.int p5), .val (.int ch0), .val (.int ch1), .val (.int ch2), .val (.int ch3), .val (.int ch4), .val (.int ((p5 &&& (2147483647 : Int32)) % (6 : Int32))), .unset, .unset, .unset, .unset, .unset, .unset, .unset, .unset, .unset, .unset, .unset] [(.int (4 : Int32))]) t → Gl t := fun t kt => kn73 t (by
            show own_S p e below T14 (mkF m 115 #[.val (.int p0), .val (.int p1), .val (.int p2), .val (.int p3), .val (.int p4), .val (.int p5), .val (.int ch0), .val (.int ch1), .val (.int ch2), .val (.int ch3), .val (.int ch4), .val (.int ((p5 &&& (2147483647 : Int32)) % (6 : Int32))), .unset, .unset, .unset, .unset, .unset, .unset, .unset, .unset, .unset, .unset, .unset] [(.int (3 : Int32)), (.int ((p5 &&& (2147483647 : Int32)) % (6 : Int32)))]) _
            refine XS.icmpNo X14.here hx rfl (hb hby at_115) rfl (teq hc115).2 ?_
            show own_S p e below T14 (mkF m 118 #[.val (.int p0), .val (.int p1), .val (.int p2), .val (.int p3), .val (.int p4), .val (.int p5), .val (.int ch0), .val (.int ch1), .val (.int ch2), .val (.int ch3), .val (.int ch4), .val (.int ((p5 &&& (2147483647 : Int32)) % (6 : Int32))), .unset, .unset, .unset, .unset, .unset, .unset, .unset, .unset, .unset, .unset, .unset] []) _
            refine XS.iconst X14.here hx rfl (hb hby at_118) ?_
            exact kt)
          obtain ⟨T75, h75, kk75, X75, e75, E75, A75, st75⟩ := newP X14 hx hZ (hw _ (List.mem_of_getElem? (i := 8) rfl)) eq14 (g := (mkF m 119 #[.val (.int p0), .val (.int p1), .val (.int p2), .val (.int p3), .val (.int p4), .val (.int p5), .val (.int ch0), .val (.int ch1), .val (.int ch2), .val (.int ch3), .val (.int ch4), .val (.int ((p5 &&& (2147483647 : Int32)) % (6 : Int32))), .unset, .unset, .unset, .unset, .unset, .unset, .unset, .unset, .unset, .unset, .unset] [(.int (4 : Int32))])) rfl (hb hby at_119) rfl (by decide) (cap := 4) (by decide) (by decide) (by decide) (by decide)
          obtain ⟨b75, g75⟩ : ∃ z, z = h0.size := ⟨_, rfl⟩
          rw [← g75] at A75 st75
          have g_b75 : n0 ≤ b75 := Nat.le_trans Z0 (Nat.le_of_eq g75.symm)
          have Z76 : n0 ≤ h75.size := Nat.le_trans Z0 E75.1
          have Od77 : Old Z n0 h75 := O0.ext E75
          have V75 : Arv Z h75 b75 kk75 .char (4 : Int32) [(.int (0 : Int32)), (.int (0 : Int32)), (.int (0 : Int32)), (.int (0 : Int32))] (.int (0 : Int32)) := (Arv.new A75 (by decide)).pad (pad_rep [] (.int (0 : Int32)) 4)
          have kn78 : ∀ t, own_S p e below T75 (mkF m 121 #[.val (.int p0), .val (.int p1), .val (.int p2), .val (.int p3), .val (.int p4), .val (.int p5), .val (.int ch0), .val (.int ch1), .val (.int ch2), .val (.int ch3), .val (.int ch4), .val (.int ((p5 &&& (2147483647 : Int32)) % (6 : Int32))), .unset, .unset, .unset, .unset, .unset, .unset, .unset, .unset, .unset, .unset, .unset] [(.ref b75)]) t → Gl t := fun t kt => kn74 t (st75 _ kt)
          have kn79 : ∀ t, own_S p e below T75 (mkF m 125 #[.val (.int p0), .val (.int p1), .val (.int p2), .val (.int p3), .val (.int p4), .val (.int p5), .val (.int ch0), .val (.int ch1), .val (.int ch2), .val (.int ch3), .val (.int ch4), .val (.int ((p5 &&& (2147483647 : Int32)) % (6 : Int32))), .unset, .unset, .unset, .unset, .unset, .unset, .unset, .unset, .unset, .unset, .unset] [(.int ch0), (.int (0 : Int32)), (.ref b75), (.ref b75)]) t → Gl t := fun t kt => kn78 t (by
            show own_S p e below T75 (mkF m 121 #[.val (.int p0), .val (.int p1), .val (.int p2), .val (.int p3), .val (.int p4), .val (.int p5), .val (.int ch0), .val (.int ch1), .val (.int ch2), .val (.int ch3), .val (.int ch4), .val (.int ((p5 &&& (2147483647 : Int32)) % (6 : Int32))), .unset, .unset, .unset, .unset, .unset, .unset, .unset, .unset, .unset, .unset, .unset] [(.ref b75)]) _
            refine XS.dup X75.here hx rfl (hb hby at_121) rfl rfl ?_
            show own_S p e below T75 (mkF m 122 #[.val (.int p0), .val (.int p1), .val (.int p2), .val (.int p3), .val (.int p4), .val (.int p5), .val (.int ch0), .val (.int ch1), .val (.int ch2), .val (.int ch3), .val (.int ch4), .val (.int ((p5 &&& (2147483647 : Int32)) % (6 : Int32))), .unset, .unset, .unset, .unset, .unset, .unset, .unset, .unset, .unset, .unset, .unset] [(.ref b75), (.ref b75)]) _
            refine XS.iconst X75.here hx rfl (hb hby at_122) ?_
            show own_S p e below T75 (mkF m 123 #[.val (.int p0), .val (.int p1), .val (.int p2), .val (.int p3), .val (.int p4), .val (.int p5), .val (.int ch0), .val (.int ch1), .val (.int ch2), .val (.int ch3), .val (.int ch4), .val (.int ((p5 &&& (2147483647 : Int32)) % (6 : Int32))), .unset, .unset, .unset, .unset, .unset, .unset, .unset, .unset, .unset, .unset, .unset] [(.int (0 : Int32)), (.ref b75), (.ref b75)]) _
            refine XS.iload X75.here hx rfl (hb hby at_123) rfl ?_
            exact kt)
          obtain ⟨cl80, Ar80, q80, Sz80, Ng80, Hs80, Gs80⟩ := id V75
          have hin80 : ¬ ((0 : Int32) < 0 ∨ cl80.slots.size ≤ ((0 : Int32)).toNatClampNeg) := inb_of Sz80 ⟨by decide, by decide⟩
          obtain ⟨T80, h80, X80, e80, W80, st80⟩ := stC X75 hx hZ e75 Ar80 (j := (0 : Int32)) hin80 (g := (mkF m 125 #[.val (.int p0), .val (.int p1), .val (.int p2), .val (.int p3), .val (.int p4), .val (.int p5), .val (.int ch0), .val (.int ch1), .val (.int ch2), .val (.int ch3), .val (.int ch4), .val (.int ((p5 &&& (2147483647 : Int32)) % (6 : Int32))), .unset, .unset, .unset, .unset, .unset, .unset, .unset, .unset, .unset, .unset, .unset] [(.int ch0), (.int (0 : Int32)), (.ref b75), (.ref b75)])) rfl rfl (hb hby at_125)
          have Z81 : n0 ≤ h80.size := Nat.le_trans Z76 (Keep.of_wr W80).1
          have Od82 : Old Z n0 h80 := Od77.wr W80 g_b75
          have V80 : Arv Z h80 b75 kk75 .char (4 : Int32) [(.int (ch0.toUInt32.toUInt16.toUInt32.toInt32)), (.int (0 : Int32)), (.int (0 : Int32)), (.int (0 : Int32))] (.int (0 : Int32)) := Arv.set Ar80 q80 Sz80 Ng80 Hs80 Gs80 (fits_nar_char _) W80 0 rfl (Nat.le_of_ble_eq_true rfl)
          rw [(show (ch0.toUInt32.toUInt16.toUInt32.toInt32) = ch0 from gd0.2.2.2)] at V80
          have Nf83 := Fr.snoc X80 Nf14 g_b75
          have kn84 : ∀ t, own_S p e below T80 (mkF m 126 #[.val (.int p0), .val (.int p1), .val (.int p2), .val (.int p3), .val (.int p4), .val (.int p5), .val (.int ch0), .val (.int ch1), .val (.int ch2), .val (.int ch3), .val (.int ch4), .val (.int ((p5 &&& (2147483647 : Int32)) % (6 : Int32))), .unset, .unset, .unset, .unset, .unset, .unset, .unset, .unset, .unset, .unset, .unset] [(.ref b75)]) t → Gl t := fun t kt => kn79 t (st80 _ kt)
          have kn85 : ∀ t, own_S p e below T80 (mkF m 130 #[.val (.int p0), .val (.int p1), .val (.int p2), .val (.int p3), .val (.int p4), .val (.int p5), .val (.int ch0), .val (.int ch1), .val (.int ch2), .val (.int ch3), .val (.int ch4), .val (.int ((p5 &&& (2147483647 : Int32)) % (6 : Int32))), .unset, .unset, .unset, .unset, .unset, .unset, .unset, .unset, .unset, .unset, .unset] [(.int ch1), (.int (1 : Int32)), (.ref b75), (.ref b75)]) t → Gl t := fun t kt => kn84 t (by
            show own_S p e below T80 (mkF m 126 #[.val (.int p0), .val (.int p1), .val (.int p2), .val (.int p3), .val (.int p4), .val (.int p5), .val (.int ch0), .val (.int ch1), .val (.int ch2), .val (.int ch3), .val (.int ch4), .val (.int ((p5 &&& (2147483647 : Int32)) % (6 : Int32))), .unset, .unset, .unset, .unset, .unset, .unset, .unset, .unset, .unset, .unset, .unset] [(.ref b75)]) _
            refine XS.dup X80.here hx rfl (hb hby at_126) rfl rfl ?_
            show own_S p e below T80 (mkF m 127 #[.val (.int p0), .val (.int p1), .val (.int p2), .val (.int p3), .val (.int p4), .val (.int p5), .val (.int ch0), .val (.int ch1), .val (.int ch2), .val (.int ch3), .val (.int ch4), .val (.int ((p5 &&& (2147483647 : Int32)) % (6 : Int32))), .unset, .unset, .unset, .unset, .unset, .unset, .unset, .unset, .unset, .unset, .unset] [(.ref b75), (.ref b75)]) _
            refine XS.iconst X80.here hx rfl (hb hby at_127) ?_
            show own_S p e below T80 (mkF m 128 #[.val (.int p0), .val (.int p1), .val (.int p2), .val (.int p3), .val (.int p4), .val (.int p5), .val (.int ch0), .val (.int ch1), .val (.int ch2), .val (.int ch3), .val (.int ch4), .val (.int ((p5 &&& (2147483647 : Int32)) % (6 : Int32))), .unset, .unset, .unset, .unset, .unset, .unset, .unset, .unset, .unset, .unset, .unset] [(.int (1 : Int32)), (.ref b75), (.ref b75)]) _
            refine XS.iload X80.here hx rfl (hb hby at_128) rfl ?_
            exact kt)
          obtain ⟨cl86, Ar86, q86, Sz86, Ng86, Hs86, Gs86⟩ := id V80
          have hin86 : ¬ ((1 : Int32) < 0 ∨ cl86.slots.size ≤ ((1 : Int32)).toNatClampNeg) := inb_of Sz86 ⟨by decide, by decide⟩
          obtain ⟨T86, h86, X86, e86, W86, st86⟩ := stC X80 hx hZ e80 Ar86 (j := (1 : Int32)) hin86 (g := (mkF m 130 #[.val (.int p0), .val (.int p1), .val (.int p2), .val (.int p3), .val (.int p4), .val (.int p5), .val (.int ch0), .val (.int ch1), .val (.int ch2), .val (.int ch3), .val (.int ch4), .val (.int ((p5 &&& (2147483647 : Int32)) % (6 : Int32))), .unset, .unset, .unset, .unset, .unset, .unset, .unset, .unset, .unset, .unset, .unset] [(.int ch1), (.int (1 : Int32)), (.ref b75), (.ref b75)])) rfl rfl (hb hby at_130)
          have Z87 : n0 ≤ h86.size := Nat.le_trans Z81 (Keep.of_wr W86).1
          have Od88 : Old Z n0 h86 := Od82.wr W86 g_b75
          have V86 : Arv Z h86 b75 kk75 .char (4 : Int32) [(.int ch0), (.int (ch1.toUInt32.toUInt16.toUInt32.toInt32)), (.int (0 : Int32)), (.int (0 : Int32))] (.int (0 : Int32)) := Arv.set Ar86 q86 Sz86 Ng86 Hs86 Gs86 (fits_nar_char _) W86 1 rfl (Nat.le_of_ble_eq_true rfl)
          rw [(show (ch1.toUInt32.toUInt16.toUInt32.toInt32) = ch1 from gd1.2.2.2)] at V86
          have Nf89 := Fr.snoc X86 Nf83 g_b75
          have kn90 : ∀ t, own_S p e below T86 (mkF m 131 #[.val (.int p0), .val (.int p1), .val (.int p2), .val (.int p3), .val (.int p4), .val (.int p5), .val (.int ch0), .val (.int ch1), .val (.int ch2), .val (.int ch3), .val (.int ch4), .val (.int ((p5 &&& (2147483647 : Int32)) % (6 : Int32))), .unset, .unset, .unset, .unset, .unset, .unset, .unset, .unset, .unset, .unset, .unset] [(.ref b75)]) t → Gl t := fun t kt => kn85 t (st86 _ kt)
          have kn91 : ∀ t, own_S p e below T86 (mkF m 135 #[.val (.int p0), .val (.int p1), .val (.int p2), .val (.int p3), .val (.int p4), .val (.int p5), .val (.int ch0), .val (.int ch1), .val (.int ch2), .val (.int ch3), .val (.int ch4), .val (.int ((p5 &&& (2147483647 : Int32)) % (6 : Int32))), .unset, .unset, .unset, .unset, .unset, .unset, .unset, .unset, .unset, .unset, .unset] [(.int ch2), (.int (2 : Int32)), (.ref b75), (.ref b75)]) t → Gl t := fun t kt => kn90 t (by
            show own_S p e below T86 (mkF m 131 #[.val (.int p0), .val (.int p1), .val (.int p2), .val (.int p3), .val (.int p4), .val (.int p5), .val (.int ch0), .val (.int ch1), .val (.int ch2), .val (.int ch3), .val (.int ch4), .val (.int ((p5 &&& (2147483647 : Int32)) % (6 : Int32))), .unset, .unset, .unset, .unset, .unset, .unset, .unset, .unset, .unset, .unset, .unset] [(.ref b75)]) _
            refine XS.dup X86.here hx rfl (hb hby at_131) rfl rfl ?_
            show own_S p e below T86 (mkF m 132 #[.val (.int p0), .val (.int p1), .val (.int p2), .val (.int p3), .val (.int p4), .val (.int p5), .val (.int ch0), .val (.int ch1), .val (.int ch2), .val (.int ch3), .val (.int ch4), .val (.int ((p5 &&& (2147483647 : Int32)) % (6 : Int32))), .unset, .unset, .unset, .unset, .unset, .unset, .unset, .unset, .unset, .unset, .unset] [(.ref b75), (.ref b75)]) _
            refine XS.iconst X86.here hx rfl (hb hby at_132) ?_
            show own_S p e below T86 (mkF m 133 #[.val (.int p0), .val (.int p1), .val (.int p2), .val (.int p3), .val (.int p4), .val (.int p5), .val (.int ch0), .val (.int ch1), .val (.int ch2), .val (.int ch3), .val (.int ch4), .val (.int ((p5 &&& (2147483647 : Int32)) % (6 : Int32))), .unset, .unset, .unset, .unset, .unset, .unset, .unset, .unset, .unset, .unset, .unset] [(.int (2 : Int32)), (.ref b75), (.ref b75)]) _
            refine XS.iload X86.here hx rfl (hb hby at_133) rfl ?_
            exact kt)
          obtain ⟨cl92, Ar92, q92, Sz92, Ng92, Hs92, Gs92⟩ := id V86
          have hin92 : ¬ ((2 : Int32) < 0 ∨ cl92.slots.size ≤ ((2 : Int32)).toNatClampNeg) := inb_of Sz92 ⟨by decide, by decide⟩
          obtain ⟨T92, h92, X92, e92, W92, st92⟩ := stC X86 hx hZ e86 Ar92 (j := (2 : Int32)) hin92 (g := (mkF m 135 #[.val (.int p0), .val (.int p1), .val (.int p2), .val (.int p3), .val (.int p4), .val (.int p5), .val (.int ch0), .val (.int ch1), .val (.int ch2), .val (.int ch3), .val (.int ch4), .val (.int ((p5 &&& (2147483647 : Int32)) % (6 : Int32))), .unset, .unset, .unset, .unset, .unset, .unset, .unset, .unset, .unset, .unset, .unset] [(.int ch2), (.int (2 : Int32)), (.ref b75), (.ref b75)])) rfl rfl (hb hby at_135)
          have Z93 : n0 ≤ h92.size := Nat.le_trans Z87 (Keep.of_wr W92).1
          have Od94 : Old Z n0 h92 := Od88.wr W92 g_b75
          have V92 : Arv Z h92 b75 kk75 .char (4 : Int32) [(.int ch0), (.int ch1), (.int (ch2.toUInt32.toUInt16.toUInt32.toInt32)), (.int (0 : Int32))] (.int (0 : Int32)) := Arv.set Ar92 q92 Sz92 Ng92 Hs92 Gs92 (fits_nar_char _) W92 2 rfl (Nat.le_of_ble_eq_true rfl)
          rw [(show (ch2.toUInt32.toUInt16.toUInt32.toInt32) = ch2 from gd2.2.2.2)] at V92
          have Nf95 := Fr.snoc X92 Nf89 g_b75
          have kn96 : ∀ t, own_S p e below T92 (mkF m 136 #[.val (.int p0), .val (.int p1), .val (.int p2), .val (.int p3), .val (.int p4), .val (.int p5), .val (.int ch0), .val (.int ch1), .val (.int ch2), .val (.int ch3), .val (.int ch4), .val (.int ((p5 &&& (2147483647 : Int32)) % (6 : Int32))), .unset, .unset, .unset, .unset, .unset, .unset, .unset, .unset, .unset, .unset, .unset] [(.ref b75)]) t → Gl t := fun t kt => kn91 t (st92 _ kt)
          have kn97 : ∀ t, own_S p e below T92 (mkF m 140 #[.val (.int p0), .val (.int p1), .val (.int p2), .val (.int p3), .val (.int p4), .val (.int p5), .val (.int ch0), .val (.int ch1), .val (.int ch2), .val (.int ch3), .val (.int ch4), .val (.int ((p5 &&& (2147483647 : Int32)) % (6 : Int32))), .unset, .unset, .unset, .unset, .unset, .unset, .unset, .unset, .unset, .unset, .unset] [(.int ch3), (.int (3 : Int32)), (.ref b75), (.ref b75)]) t → Gl t := fun t kt => kn96 t (by
            show own_S p e below T92 (mkF m 136 #[.val (.int p0), .val (.int p1), .val (.int p2), .val (.int p3), .val (.int p4), .val (.int p5), .val (.int ch0), .val (.int ch1), .val (.int ch2), .val (.int ch3), .val (.int ch4), .val (.int ((p5 &&& (2147483647 : Int32)) % (6 : Int32))), .unset, .unset, .unset, .unset, .unset, .unset, .unset, .unset, .unset, .unset, .unset] [(.ref b75)]) _
            refine XS.dup X92.here hx rfl (hb hby at_136) rfl rfl ?_
            show own_S p e below T92 (mkF m 137 #[.val (.int p0), .val (.int p1), .val (.int p2), .val (.int p3), .val (.int p4), .val (.int p5), .val (.int ch0), .val (.int ch1), .val (.int ch2), .val (.int ch3), .val (.int ch4), .val (.int ((p5 &&& (2147483647 : Int32)) % (6 : Int32))), .unset, .unset, .unset, .unset, .unset, .unset, .unset, .unset, .unset, .unset, .unset] [(.ref b75), (.ref b75)]) _
            refine XS.iconst X92.here hx rfl (hb hby at_137) ?_
            show own_S p e below T92 (mkF m 138 #[.val (.int p0), .val (.int p1), .val (.int p2), .val (.int p3), .val (.int p4), .val (.int p5), .val (.int ch0), .val (.int ch1), .val (.int ch2), .val (.int ch3), .val (.int ch4), .val (.int ((p5 &&& (2147483647 : Int32)) % (6 : Int32))), .unset, .unset, .unset, .unset, .unset, .unset, .unset, .unset, .unset, .unset, .unset] [(.int (3 : Int32)), (.ref b75), (.ref b75)]) _
            refine XS.iload X92.here hx rfl (hb hby at_138) rfl ?_
            exact kt)
          obtain ⟨cl98, Ar98, q98, Sz98, Ng98, Hs98, Gs98⟩ := id V92
          have hin98 : ¬ ((3 : Int32) < 0 ∨ cl98.slots.size ≤ ((3 : Int32)).toNatClampNeg) := inb_of Sz98 ⟨by decide, by decide⟩
          obtain ⟨T98, h98, X98, e98, W98, st98⟩ := stC X92 hx hZ e92 Ar98 (j := (3 : Int32)) hin98 (g := (mkF m 140 #[.val (.int p0), .val (.int p1), .val (.int p2), .val (.int p3), .val (.int p4), .val (.int p5), .val (.int ch0), .val (.int ch1), .val (.int ch2), .val (.int ch3), .val (.int ch4), .val (.int ((p5 &&& (2147483647 : Int32)) % (6 : Int32))), .unset, .unset, .unset, .unset, .unset, .unset, .unset, .unset, .unset, .unset, .unset] [(.int ch3), (.int (3 : Int32)), (.ref b75), (.ref b75)])) rfl rfl (hb hby at_140)
          have Z99 : n0 ≤ h98.size := Nat.le_trans Z93 (Keep.of_wr W98).1
          have Od100 : Old Z n0 h98 := Od94.wr W98 g_b75
          have V98 : Arv Z h98 b75 kk75 .char (4 : Int32) [(.int ch0), (.int ch1), (.int ch2), (.int (ch3.toUInt32.toUInt16.toUInt32.toInt32))] (.int (0 : Int32)) := Arv.set Ar98 q98 Sz98 Ng98 Hs98 Gs98 (fits_nar_char _) W98 3 rfl (Nat.le_of_ble_eq_true rfl)
          rw [(show (ch3.toUInt32.toUInt16.toUInt32.toInt32) = ch3 from gd3.2.2.2)] at V98
          have Nf101 := Fr.snoc X98 Nf95 g_b75
          have kn102 : ∀ t, own_S p e below T98 (mkF m 141 #[.val (.int p0), .val (.int p1), .val (.int p2), .val (.int p3), .val (.int p4), .val (.int p5), .val (.int ch0), .val (.int ch1), .val (.int ch2), .val (.int ch3), .val (.int ch4), .val (.int ((p5 &&& (2147483647 : Int32)) % (6 : Int32))), .unset, .unset, .unset, .unset, .unset, .unset, .unset, .unset, .unset, .unset, .unset] [(.ref b75)]) t → Gl t := fun t kt => kn97 t (st98 _ kt)
          have kn103 : ∀ t, own_S p e below T98 (mkF m 569 #[.val (.int p0), .val (.int p1), .val (.int p2), .val (.int p3), .val (.int p4), .val (.int p5), .val (.int ch0), .val (.int ch1), .val (.int ch2), .val (.int ch3), .val (.int ch4), .val (.int ((p5 &&& (2147483647 : Int32)) % (6 : Int32))), .val (.ref b75), .unset, .unset, .unset, .unset, .unset, .unset, .unset, .unset, .unset, .unset] []) t → Gl t := fun t kt => kn102 t (by
            show own_S p e below T98 (mkF m 141 #[.val (.int p0), .val (.int p1), .val (.int p2), .val (.int p3), .val (.int p4), .val (.int p5), .val (.int ch0), .val (.int ch1), .val (.int ch2), .val (.int ch3), .val (.int ch4), .val (.int ((p5 &&& (2147483647 : Int32)) % (6 : Int32))), .unset, .unset, .unset, .unset, .unset, .unset, .unset, .unset, .unset, .unset, .unset] [(.ref b75)]) _
            refine XS.astore X98.here hx rfl (hb hby at_141) rfl rfl (l' := #[.val (.int p0), .val (.int p1), .val (.int p2), .val (.int p3), .val (.int p4), .val (.int p5), .val (.int ch0), .val (.int ch1), .val (.int ch2), .val (.int ch3), .val (.int ch4), .val (.int ((p5 &&& (2147483647 : Int32)) % (6 : Int32))), .val (.ref b75), .unset, .unset, .unset, .unset, .unset, .unset, .unset, .unset, .unset, .unset]) rfl ?_
            show own_S p e below T98 (mkF m 143 #[.val (.int p0), .val (.int p1), .val (.int p2), .val (.int p3), .val (.int p4), .val (.int p5), .val (.int ch0), .val (.int ch1), .val (.int ch2), .val (.int ch3), .val (.int ch4), .val (.int ((p5 &&& (2147483647 : Int32)) % (6 : Int32))), .val (.ref b75), .unset, .unset, .unset, .unset, .unset, .unset, .unset, .unset, .unset, .unset] []) _
            refine XS.goto X98.here hx rfl (pc0 := 143) (pc' := 569) rfl (hb hby at_143) (by decide) (by decide) ?_
            exact kt)
          obtain ⟨s2, o2, t1, t2, t3, t4⟩ := tl (n0 := n0) p0 p1 p2 p3 p4 p5 G1 G3 ch0 ch1 ch2 ch3 ch4 _ b75 kk75 [ch0, ch1, ch2, ch3] (X98.mono (by decide) (by decide)) hx hZ hw hby hml hown Bd.returns (BodyLoose.notSynchronized Bd) e98 Nf101 Z99 V98 (Nat.le_of_ble_eq_true rfl) (Nat.le_of_ble_eq_true rfl) (own_fa gd0 (own_fa gd1 (own_fa gd2 (own_fa gd3 own_f0)))) rfl gd0 gL0 Od100 O2 P5 O4 rG3
          exact ⟨s2, o2, hGl _ (kn103 _ t1), t2, t3, t4⟩
        · have kn104 : ∀ t, own_S p e below T14 (mkF m 149 #[.val (.int p0), .val (.int p1), .val (.int p2), .val (.int p3), .val (.int p4), .val (.int p5), .val (.int ch0), .val (.int ch1), .val (.int ch2), .val (.int ch3), .val (.int ch4), .val (.int ((p5 &&& (2147483647 : Int32)) % (6 : Int32))), .unset, .unset, .unset, .unset, .unset, .unset, .unset, .unset, .unset, .unset, .unset] [(.int (4 : Int32)), (.int ((p5 &&& (2147483647 : Int32)) % (6 : Int32)))]) t → Gl t := fun t kt => kn73 t (by
            show own_S p e below T14 (mkF m 115 #[.val (.int p0), .val (.int p1), .val (.int p2), .val (.int p3), .val (.int p4), .val (.int p5), .val (.int ch0), .val (.int ch1), .val (.int ch2), .val (.int ch3), .val (.int ch4), .val (.int ((p5 &&& (2147483647 : Int32)) % (6 : Int32))), .unset, .unset, .unset, .unset, .unset, .unset, .unset, .unset, .unset, .unset, .unset] [(.int (3 : Int32)), (.int ((p5 &&& (2147483647 : Int32)) % (6 : Int32)))]) _
            refine XS.icmpYes X14.here hx rfl (pc0 := 115) (pc' := 146) rfl (hb hby at_115) rfl (feq hc115).2 (by decide) (by decide) ?_
            show own_S p e below T14 (mkF m 146 #[.val (.int p0), .val (.int p1), .val (.int p2), .val (.int p3), .val (.int p4), .val (.int p5), .val (.int ch0), .val (.int ch1), .val (.int ch2), .val (.int ch3), .val (.int ch4), .val (.int ((p5 &&& (2147483647 : Int32)) % (6 : Int32))), .unset, .unset, .unset, .unset, .unset, .unset, .unset, .unset, .unset, .unset, .unset] []) _
            refine XS.iload X14.here hx rfl (hb hby at_146) rfl ?_
            show own_S p e below T14 (mkF m 148 #[.val (.int p0), .val (.int p1), .val (.int p2), .val (.int p3), .val (.int p4), .val (.int p5), .val (.int ch0), .val (.int ch1), .val (.int ch2), .val (.int ch3), .val (.int ch4), .val (.int ((p5 &&& (2147483647 : Int32)) % (6 : Int32))), .unset, .unset, .unset, .unset, .unset, .unset, .unset, .unset, .unset, .unset, .unset] [(.int ((p5 &&& (2147483647 : Int32)) % (6 : Int32)))]) _
            refine XS.iconst X14.here hx rfl (hb hby at_148) ?_
            exact kt)
          by_cases hc149 : ((p5 &&& (2147483647 : Int32)) % (6 : Int32)) = (4 : Int32)
          · have kn105 : ∀ t, own_S p e below T14 (mkF m 153 #[.val (.int p0), .val (.int p1), .val (.int p2), .val (.int p3), .val (.int p4), .val (.int p5), .val (.int ch0), .val (.int ch1), .val (.int ch2), .val (.int ch3), .val (.int ch4), .val (.int ((p5 &&& (2147483647 : Int32)) % (6 : Int32))), .unset, .unset, .unset, .unset, .unset, .unset, .unset, .unset, .unset, .unset, .unset] [(.int (5 : Int32))]) t → Gl t := fun t kt => kn104 t (by
              show own_S p e below T14 (mkF m 149 #[.val (.int p0), .val (.int p1), .val (.int p2), .val (.int p3), .val (.int p4), .val (.int p5), .val (.int ch0), .val (.int ch1), .val (.int ch2), .val (.int ch3), .val (.int ch4), .val (.int ((p5 &&& (2147483647 : Int32)) % (6 : Int32))), .unset, .unset, .unset, .unset, .unset, .unset, .unset, .unset, .unset, .unset, .unset] [(.int (4 : Int32)), (.int ((p5 &&& (2147483647 : Int32)) % (6 : Int32)))]) _
              refine XS.icmpNo X14.here hx rfl (hb hby at_149) rfl (teq hc149).2 ?_
              show own_S p e below T14 (mkF m 152 #[.val (.int p0), .val (.int p1), .val (.int p2), .val (.int p3), .val (.int p4), .val (.int p5), .val (.int ch0), .val (.int ch1), .val (.int ch2), .val (.int ch3), .val (.int ch4), .val (.int ((p5 &&& (2147483647 : Int32)) % (6 : Int32))), .unset, .unset, .unset, .unset, .unset, .unset, .unset, .unset, .unset, .unset, .unset] []) _
              refine XS.iconst X14.here hx rfl (hb hby at_152) ?_
              exact kt)
            obtain ⟨T106, h106, kk106, X106, e106, E106, A106, st106⟩ := newP X14 hx hZ (hw _ (List.mem_of_getElem? (i := 8) rfl)) eq14 (g := (mkF m 153 #[.val (.int p0), .val (.int p1), .val (.int p2), .val (.int p3), .val (.int p4), .val (.int p5), .val (.int ch0), .val (.int ch1), .val (.int ch2), .val (.int ch3), .val (.int ch4), .val (.int ((p5 &&& (2147483647 : Int32)) % (6 : Int32))), .unset, .unset, .unset, .unset, .unset, .unset, .unset, .unset, .unset, .unset, .unset] [(.int (5 : Int32))])) rfl (hb hby at_153) rfl (by decide) (cap := 5) (by decide) (by decide) (by decide) (by decide)
            obtain ⟨b106, g106⟩ : ∃ z, z = h0.size := ⟨_, rfl⟩
            rw [← g106] at A106 st106
            have g_b106 : n0 ≤ b106 := Nat.le_trans Z0 (Nat.le_of_eq g106.symm)
            have Z107 : n0 ≤ h106.size := Nat.le_trans Z0 E106.1
            have Od108 : Old Z n0 h106 := O0.ext E106
            have V106 : Arv Z h106 b106 kk106 .char (5 : Int32) [(.int (0 : Int32)), (.int (0 : Int32)), (.int (0 : Int32)), (.int (0 : Int32)), (.int (0 : Int32))] (.int (0 : Int32)) := (Arv.new A106 (by decide)).pad (pad_rep [] (.int (0 : Int32)) 5)
            have kn109 : ∀ t, own_S p e below T106 (mkF m 155 #[.val (.int p0), .val (.int p1), .val (.int p2), .val (.int p3), .val (.int p4), .val (.int p5), .val (.int ch0), .val (.int ch1), .val (.int ch2), .val (.int ch3), .val (.int ch4), .val (.int ((p5 &&& (2147483647 : Int32)) % (6 : Int32))), .unset, .unset, .unset, .unset, .unset, .unset, .unset, .unset, .unset, .unset, .unset] [(.ref b106)]) t → Gl t := fun t kt => kn105 t (st106 _ kt)
            have kn110 : ∀ t, own_S p e below T106 (mkF m 159 #[.val (.int p0), .val (.int p1), .val (.int p2), .val (.int p3), .val (.int p4), .val (.int p5), .val (.int ch0), .val (.int ch1), .val (.int ch2), .val (.int ch3), .val (.int ch4), .val (.int ((p5 &&& (2147483647 : Int32)) % (6 : Int32))), .unset, .unset, .unset, .unset, .unset, .unset, .unset, .unset, .unset, .unset, .unset] [(.int ch0), (.int (0 : Int32)), (.ref b106), (.ref b106)]) t → Gl t := fun t kt => kn109 t (by
              show own_S p e below T106 (mkF m 155 #[.val (.int p0), .val (.int p1), .val (.int p2), .val (.int p3), .val (.int p4), .val (.int p5), .val (.int ch0), .val (.int ch1), .val (.int ch2), .val (.int ch3), .val (.int ch4), .val (.int ((p5 &&& (2147483647 : Int32)) % (6 : Int32))), .unset, .unset, .unset, .unset, .unset, .unset, .unset, .unset, .unset, .unset, .unset] [(.ref b106)]) _
              refine XS.dup X106.here hx rfl (hb hby at_155) rfl rfl ?_
              show own_S p e below T106 (mkF m 156 #[.val (.int p0), .val (.int p1), .val (.int p2), .val (.int p3), .val (.int p4), .val (.int p5), .val (.int ch0), .val (.int ch1), .val (.int ch2), .val (.int ch3), .val (.int ch4), .val (.int ((p5 &&& (2147483647 : Int32)) % (6 : Int32))), .unset, .unset, .unset, .unset, .unset, .unset, .unset, .unset, .unset, .unset, .unset] [(.ref b106), (.ref b106)]) _
              refine XS.iconst X106.here hx rfl (hb hby at_156) ?_
              show own_S p e below T106 (mkF m 157 #[.val (.int p0), .val (.int p1), .val (.int p2), .val (.int p3), .val (.int p4), .val (.int p5), .val (.int ch0), .val (.int ch1), .val (.int ch2), .val (.int ch3), .val (.int ch4), .val (.int ((p5 &&& (2147483647 : Int32)) % (6 : Int32))), .unset, .unset, .unset, .unset, .unset, .unset, .unset, .unset, .unset, .unset, .unset] [(.int (0 : Int32)), (.ref b106), (.ref b106)]) _
              refine XS.iload X106.here hx rfl (hb hby at_157) rfl ?_
              exact kt)
            obtain ⟨cl111, Ar111, q111, Sz111, Ng111, Hs111, Gs111⟩ := id V106
            have hin111 : ¬ ((0 : Int32) < 0 ∨ cl111.slots.size ≤ ((0 : Int32)).toNatClampNeg) := inb_of Sz111 ⟨by decide, by decide⟩
            obtain ⟨T111, h111, X111, e111, W111, st111⟩ := stC X106 hx hZ e106 Ar111 (j := (0 : Int32)) hin111 (g := (mkF m 159 #[.val (.int p0), .val (.int p1), .val (.int p2), .val (.int p3), .val (.int p4), .val (.int p5), .val (.int ch0), .val (.int ch1), .val (.int ch2), .val (.int ch3), .val (.int ch4), .val (.int ((p5 &&& (2147483647 : Int32)) % (6 : Int32))), .unset, .unset, .unset, .unset, .unset, .unset, .unset, .unset, .unset, .unset, .unset] [(.int ch0), (.int (0 : Int32)), (.ref b106), (.ref b106)])) rfl rfl (hb hby at_159)
            have Z112 : n0 ≤ h111.size := Nat.le_trans Z107 (Keep.of_wr W111).1
            have Od113 : Old Z n0 h111 := Od108.wr W111 g_b106
            have V111 : Arv Z h111 b106 kk106 .char (5 : Int32) [(.int (ch0.toUInt32.toUInt16.toUInt32.toInt32)), (.int (0 : Int32)), (.int (0 : Int32)), (.int (0 : Int32)), (.int (0 : Int32))] (.int (0 : Int32)) := Arv.set Ar111 q111 Sz111 Ng111 Hs111 Gs111 (fits_nar_char _) W111 0 rfl (Nat.le_of_ble_eq_true rfl)
            rw [(show (ch0.toUInt32.toUInt16.toUInt32.toInt32) = ch0 from gd0.2.2.2)] at V111
            have Nf114 := Fr.snoc X111 Nf14 g_b106
            have kn115 : ∀ t, own_S p e below T111 (mkF m 160 #[.val (.int p0), .val (.int p1), .val (.int p2), .val (.int p3), .val (.int p4), .val (.int p5), .val (.int ch0), .val (.int ch1), .val (.int ch2), .val (.int ch3), .val (.int ch4), .val (.int ((p5 &&& (2147483647 : Int32)) % (6 : Int32))), .unset, .unset, .unset, .unset, .unset, .unset, .unset, .unset, .unset, .unset, .unset] [(.ref b106)]) t → Gl t := fun t kt => kn110 t (st111 _ kt)
            have kn116 : ∀ t, own_S p e below T111 (mkF m 164 #[.val (.int p0), .val (.int p1), .val (.int p2), .val (.int p3), .val (.int p4), .val (.int p5), .val (.int ch0), .val (.int ch1), .val (.int ch2), .val (.int ch3), .val (.int ch4), .val (.int ((p5 &&& (2147483647 : Int32)) % (6 : Int32))), .unset, .unset, .unset, .unset, .unset, .unset, .unset, .unset, .unset, .unset, .unset] [(.int ch1), (.int (1 : Int32)), (.ref b106), (.ref b106)]) t → Gl t := fun t kt => kn115 t (by
              show own_S p e below T111 (mkF m 160 #[.val (.int p0), .val (.int p1), .val (.int p2), .val (.int p3), .val (.int p4), .val (.int p5), .val (.int ch0), .val (.int ch1), .val (.int ch2), .val (.int ch3), .val (.int ch4), .val (.int ((p5 &&& (2147483647 : Int32)) % (6 : Int32))), .unset, .unset, .unset, .unset, .unset, .unset, .unset, .unset, .unset, .unset, .unset] [(.ref b106)]) _
              refine XS.dup X111.here hx rfl (hb hby at_160) rfl rfl ?_
              show own_S p e below T111 (mkF m 161 #[.val (.int p0), .val (.int p1), .val (.int p2), .val (.int p3), .val (.int p4), .val (.int p5), .val (.int ch0), .val (.int ch1), .val (.int ch2), .val (.int ch3), .val (.int ch4), .val (.int ((p5 &&& (2147483647 : Int32)) % (6 : Int32))), .unset, .unset, .unset, .unset, .unset, .unset, .unset, .unset, .unset, .unset, .unset] [(.ref b106), (.ref b106)]) _
              refine XS.iconst X111.here hx rfl (hb hby at_161) ?_
              show own_S p e below T111 (mkF m 162 #[.val (.int p0), .val (.int p1), .val (.int p2), .val (.int p3), .val (.int p4), .val (.int p5), .val (.int ch0), .val (.int ch1), .val (.int ch2), .val (.int ch3), .val (.int ch4), .val (.int ((p5 &&& (2147483647 : Int32)) % (6 : Int32))), .unset, .unset, .unset, .unset, .unset, .unset, .unset, .unset, .unset, .unset, .unset] [(.int (1 : Int32)), (.ref b106), (.ref b106)]) _
              refine XS.iload X111.here hx rfl (hb hby at_162) rfl ?_
              exact kt)
            obtain ⟨cl117, Ar117, q117, Sz117, Ng117, Hs117, Gs117⟩ := id V111
            have hin117 : ¬ ((1 : Int32) < 0 ∨ cl117.slots.size ≤ ((1 : Int32)).toNatClampNeg) := inb_of Sz117 ⟨by decide, by decide⟩
            obtain ⟨T117, h117, X117, e117, W117, st117⟩ := stC X111 hx hZ e111 Ar117 (j := (1 : Int32)) hin117 (g := (mkF m 164 #[.val (.int p0), .val (.int p1), .val (.int p2), .val (.int p3), .val (.int p4), .val (.int p5), .val (.int ch0), .val (.int ch1), .val (.int ch2), .val (.int ch3), .val (.int ch4), .val (.int ((p5 &&& (2147483647 : Int32)) % (6 : Int32))), .unset, .unset, .unset, .unset, .unset, .unset, .unset, .unset, .unset, .unset, .unset] [(.int ch1), (.int (1 : Int32)), (.ref b106), (.ref b106)])) rfl rfl (hb hby at_164)
            have Z118 : n0 ≤ h117.size := Nat.le_trans Z112 (Keep.of_wr W117).1
            have Od119 : Old Z n0 h117 := Od113.wr W117 g_b106
            have V117 : Arv Z h117 b106 kk106 .char (5 : Int32) [(.int ch0), (.int (ch1.toUInt32.toUInt16.toUInt32.toInt32)), (.int (0 : Int32)), (.int (0 : Int32)), (.int (0 : Int32))] (.int (0 : Int32)) := Arv.set Ar117 q117 Sz117 Ng117 Hs117 Gs117 (fits_nar_char _) W117 1 rfl (Nat.le_of_ble_eq_true rfl)
            rw [(show (ch1.toUInt32.toUInt16.toUInt32.toInt32) = ch1 from gd1.2.2.2)] at V117
            have Nf120 := Fr.snoc X117 Nf114 g_b106
            have kn121 : ∀ t, own_S p e below T117 (mkF m 165 #[.val (.int p0), .val (.int p1), .val (.int p2), .val (.int p3), .val (.int p4), .val (.int p5), .val (.int ch0), .val (.int ch1), .val (.int ch2), .val (.int ch3), .val (.int ch4), .val (.int ((p5 &&& (2147483647 : Int32)) % (6 : Int32))), .unset, .unset, .unset, .unset, .unset, .unset, .unset, .unset, .unset, .unset, .unset] [(.ref b106)]) t → Gl t := fun t kt => kn116 t (st117 _ kt)
            have kn122 : ∀ t, own_S p e below T117 (mkF m 169 #[.val (.int p0), .val (.int p1), .val (.int p2), .val (.int p3), .val (.int p4), .val (.int p5), .val (.int ch0), .val (.int ch1), .val (.int ch2), .val (.int ch3), .val (.int ch4), .val (.int ((p5 &&& (2147483647 : Int32)) % (6 : Int32))), .unset, .unset, .unset, .unset, .unset, .unset, .unset, .unset, .unset, .unset, .unset] [(.int ch2), (.int (2 : Int32)), (.ref b106), (.ref b106)]) t → Gl t := fun t kt => kn121 t (by
              show own_S p e below T117 (mkF m 165 #[.val (.int p0), .val (.int p1), .val (.int p2), .val (.int p3), .val (.int p4), .val (.int p5), .val (.int ch0), .val (.int ch1), .val (.int ch2), .val (.int ch3), .val (.int ch4), .val (.int ((p5 &&& (2147483647 : Int32)) % (6 : Int32))), .unset, .unset, .unset, .unset, .unset, .unset, .unset, .unset, .unset, .unset, .unset] [(.ref b106)]) _
              refine XS.dup X117.here hx rfl (hb hby at_165) rfl rfl ?_
              show own_S p e below T117 (mkF m 166 #[.val (.int p0), .val (.int p1), .val (.int p2), .val (.int p3), .val (.int p4), .val (.int p5), .val (.int ch0), .val (.int ch1), .val (.int ch2), .val (.int ch3), .val (.int ch4), .val (.int ((p5 &&& (2147483647 : Int32)) % (6 : Int32))), .unset, .unset, .unset, .unset, .unset, .unset, .unset, .unset, .unset, .unset, .unset] [(.ref b106), (.ref b106)]) _
              refine XS.iconst X117.here hx rfl (hb hby at_166) ?_
              show own_S p e below T117 (mkF m 167 #[.val (.int p0), .val (.int p1), .val (.int p2), .val (.int p3), .val (.int p4), .val (.int p5), .val (.int ch0), .val (.int ch1), .val (.int ch2), .val (.int ch3), .val (.int ch4), .val (.int ((p5 &&& (2147483647 : Int32)) % (6 : Int32))), .unset, .unset, .unset, .unset, .unset, .unset, .unset, .unset, .unset, .unset, .unset] [(.int (2 : Int32)), (.ref b106), (.ref b106)]) _
              refine XS.iload X117.here hx rfl (hb hby at_167) rfl ?_
              exact kt)
            obtain ⟨cl123, Ar123, q123, Sz123, Ng123, Hs123, Gs123⟩ := id V117
            have hin123 : ¬ ((2 : Int32) < 0 ∨ cl123.slots.size ≤ ((2 : Int32)).toNatClampNeg) := inb_of Sz123 ⟨by decide, by decide⟩
            obtain ⟨T123, h123, X123, e123, W123, st123⟩ := stC X117 hx hZ e117 Ar123 (j := (2 : Int32)) hin123 (g := (mkF m 169 #[.val (.int p0), .val (.int p1), .val (.int p2), .val (.int p3), .val (.int p4), .val (.int p5), .val (.int ch0), .val (.int ch1), .val (.int ch2), .val (.int ch3), .val (.int ch4), .val (.int ((p5 &&& (2147483647 : Int32)) % (6 : Int32))), .unset, .unset, .unset, .unset, .unset, .unset, .unset, .unset, .unset, .unset, .unset] [(.int ch2), (.int (2 : Int32)), (.ref b106), (.ref b106)])) rfl rfl (hb hby at_169)
            have Z124 : n0 ≤ h123.size := Nat.le_trans Z118 (Keep.of_wr W123).1
            have Od125 : Old Z n0 h123 := Od119.wr W123 g_b106
            have V123 : Arv Z h123 b106 kk106 .char (5 : Int32) [(.int ch0), (.int ch1), (.int (ch2.toUInt32.toUInt16.toUInt32.toInt32)), (.int (0 : Int32)), (.int (0 : Int32))] (.int (0 : Int32)) := Arv.set Ar123 q123 Sz123 Ng123 Hs123 Gs123 (fits_nar_char _) W123 2 rfl (Nat.le_of_ble_eq_true rfl)
            rw [(show (ch2.toUInt32.toUInt16.toUInt32.toInt32) = ch2 from gd2.2.2.2)] at V123
            have Nf126 := Fr.snoc X123 Nf120 g_b106
            have kn127 : ∀ t, own_S p e below T123 (mkF m 170 #[.val (.int p0), .val (.int p1), .val (.int p2), .val (.int p3), .val (.int p4), .val (.int p5), .val (.int ch0), .val (.int ch1), .val (.int ch2), .val (.int ch3), .val (.int ch4), .val (.int ((p5 &&& (2147483647 : Int32)) % (6 : Int32))), .unset, .unset, .unset, .unset, .unset, .unset, .unset, .unset, .unset, .unset, .unset] [(.ref b106)]) t → Gl t := fun t kt => kn122 t (st123 _ kt)
            have kn128 : ∀ t, own_S p e below T123 (mkF m 174 #[.val (.int p0), .val (.int p1), .val (.int p2), .val (.int p3), .val (.int p4), .val (.int p5), .val (.int ch0), .val (.int ch1), .val (.int ch2), .val (.int ch3), .val (.int ch4), .val (.int ((p5 &&& (2147483647 : Int32)) % (6 : Int32))), .unset, .unset, .unset, .unset, .unset, .unset, .unset, .unset, .unset, .unset, .unset] [(.int ch3), (.int (3 : Int32)), (.ref b106), (.ref b106)]) t → Gl t := fun t kt => kn127 t (by
              show own_S p e below T123 (mkF m 170 #[.val (.int p0), .val (.int p1), .val (.int p2), .val (.int p3), .val (.int p4), .val (.int p5), .val (.int ch0), .val (.int ch1), .val (.int ch2), .val (.int ch3), .val (.int ch4), .val (.int ((p5 &&& (2147483647 : Int32)) % (6 : Int32))), .unset, .unset, .unset, .unset, .unset, .unset, .unset, .unset, .unset, .unset, .unset] [(.ref b106)]) _
              refine XS.dup X123.here hx rfl (hb hby at_170) rfl rfl ?_
              show own_S p e below T123 (mkF m 171 #[.val (.int p0), .val (.int p1), .val (.int p2), .val (.int p3), .val (.int p4), .val (.int p5), .val (.int ch0), .val (.int ch1), .val (.int ch2), .val (.int ch3), .val (.int ch4), .val (.int ((p5 &&& (2147483647 : Int32)) % (6 : Int32))), .unset, .unset, .unset, .unset, .unset, .unset, .unset, .unset, .unset, .unset, .unset] [(.ref b106), (.ref b106)]) _
              refine XS.iconst X123.here hx rfl (hb hby at_171) ?_
              show own_S p e below T123 (mkF m 172 #[.val (.int p0), .val (.int p1), .val (.int p2), .val (.int p3), .val (.int p4), .val (.int p5), .val (.int ch0), .val (.int ch1), .val (.int ch2), .val (.int ch3), .val (.int ch4), .val (.int ((p5 &&& (2147483647 : Int32)) % (6 : Int32))), .unset, .unset, .unset, .unset, .unset, .unset, .unset, .unset, .unset, .unset, .unset] [(.int (3 : Int32)), (.ref b106), (.ref b106)]) _
              refine XS.iload X123.here hx rfl (hb hby at_172) rfl ?_
              exact kt)
            obtain ⟨cl129, Ar129, q129, Sz129, Ng129, Hs129, Gs129⟩ := id V123
            have hin129 : ¬ ((3 : Int32) < 0 ∨ cl129.slots.size ≤ ((3 : Int32)).toNatClampNeg) := inb_of Sz129 ⟨by decide, by decide⟩
            obtain ⟨T129, h129, X129, e129, W129, st129⟩ := stC X123 hx hZ e123 Ar129 (j := (3 : Int32)) hin129 (g := (mkF m 174 #[.val (.int p0), .val (.int p1), .val (.int p2), .val (.int p3), .val (.int p4), .val (.int p5), .val (.int ch0), .val (.int ch1), .val (.int ch2), .val (.int ch3), .val (.int ch4), .val (.int ((p5 &&& (2147483647 : Int32)) % (6 : Int32))), .unset, .unset, .unset, .unset, .unset, .unset, .unset, .unset, .unset, .unset, .unset] [(.int ch3), (.int (3 : Int32)), (.ref b106), (.ref b106)])) rfl rfl (hb hby at_174)
            have Z130 : n0 ≤ h129.size := Nat.le_trans Z124 (Keep.of_wr W129).1
            have Od131 : Old Z n0 h129 := Od125.wr W129 g_b106
            have V129 : Arv Z h129 b106 kk106 .char (5 : Int32) [(.int ch0), (.int ch1), (.int ch2), (.int (ch3.toUInt32.toUInt16.toUInt32.toInt32)), (.int (0 : Int32))] (.int (0 : Int32)) := Arv.set Ar129 q129 Sz129 Ng129 Hs129 Gs129 (fits_nar_char _) W129 3 rfl (Nat.le_of_ble_eq_true rfl)
            rw [(show (ch3.toUInt32.toUInt16.toUInt32.toInt32) = ch3 from gd3.2.2.2)] at V129
            have Nf132 := Fr.snoc X129 Nf126 g_b106
            have kn133 : ∀ t, own_S p e below T129 (mkF m 175 #[.val (.int p0), .val (.int p1), .val (.int p2), .val (.int p3), .val (.int p4), .val (.int p5), .val (.int ch0), .val (.int ch1), .val (.int ch2), .val (.int ch3), .val (.int ch4), .val (.int ((p5 &&& (2147483647 : Int32)) % (6 : Int32))), .unset, .unset, .unset, .unset, .unset, .unset, .unset, .unset, .unset, .unset, .unset] [(.ref b106)]) t → Gl t := fun t kt => kn128 t (st129 _ kt)
            have kn134 : ∀ t, own_S p e below T129 (mkF m 179 #[.val (.int p0), .val (.int p1), .val (.int p2), .val (.int p3), .val (.int p4), .val (.int p5), .val (.int ch0), .val (.int ch1), .val (.int ch2), .val (.int ch3), .val (.int ch4), .val (.int ((p5 &&& (2147483647 : Int32)) % (6 : Int32))), .unset, .unset, .unset, .unset, .unset, .unset, .unset, .unset, .unset, .unset, .unset] [(.int ch4), (.int (4 : Int32)), (.ref b106), (.ref b106)]) t → Gl t := fun t kt => kn133 t (by
              show own_S p e below T129 (mkF m 175 #[.val (.int p0), .val (.int p1), .val (.int p2), .val (.int p3), .val (.int p4), .val (.int p5), .val (.int ch0), .val (.int ch1), .val (.int ch2), .val (.int ch3), .val (.int ch4), .val (.int ((p5 &&& (2147483647 : Int32)) % (6 : Int32))), .unset, .unset, .unset, .unset, .unset, .unset, .unset, .unset, .unset, .unset, .unset] [(.ref b106)]) _
              refine XS.dup X129.here hx rfl (hb hby at_175) rfl rfl ?_
              show own_S p e below T129 (mkF m 176 #[.val (.int p0), .val (.int p1), .val (.int p2), .val (.int p3), .val (.int p4), .val (.int p5), .val (.int ch0), .val (.int ch1), .val (.int ch2), .val (.int ch3), .val (.int ch4), .val (.int ((p5 &&& (2147483647 : Int32)) % (6 : Int32))), .unset, .unset, .unset, .unset, .unset, .unset, .unset, .unset, .unset, .unset, .unset] [(.ref b106), (.ref b106)]) _
              refine XS.iconst X129.here hx rfl (hb hby at_176) ?_
              show own_S p e below T129 (mkF m 177 #[.val (.int p0), .val (.int p1), .val (.int p2), .val (.int p3), .val (.int p4), .val (.int p5), .val (.int ch0), .val (.int ch1), .val (.int ch2), .val (.int ch3), .val (.int ch4), .val (.int ((p5 &&& (2147483647 : Int32)) % (6 : Int32))), .unset, .unset, .unset, .unset, .unset, .unset, .unset, .unset, .unset, .unset, .unset] [(.int (4 : Int32)), (.ref b106), (.ref b106)]) _
              refine XS.iload X129.here hx rfl (hb hby at_177) rfl ?_
              exact kt)
            obtain ⟨cl135, Ar135, q135, Sz135, Ng135, Hs135, Gs135⟩ := id V129
            have hin135 : ¬ ((4 : Int32) < 0 ∨ cl135.slots.size ≤ ((4 : Int32)).toNatClampNeg) := inb_of Sz135 ⟨by decide, by decide⟩
            obtain ⟨T135, h135, X135, e135, W135, st135⟩ := stC X129 hx hZ e129 Ar135 (j := (4 : Int32)) hin135 (g := (mkF m 179 #[.val (.int p0), .val (.int p1), .val (.int p2), .val (.int p3), .val (.int p4), .val (.int p5), .val (.int ch0), .val (.int ch1), .val (.int ch2), .val (.int ch3), .val (.int ch4), .val (.int ((p5 &&& (2147483647 : Int32)) % (6 : Int32))), .unset, .unset, .unset, .unset, .unset, .unset, .unset, .unset, .unset, .unset, .unset] [(.int ch4), (.int (4 : Int32)), (.ref b106), (.ref b106)])) rfl rfl (hb hby at_179)
            have Z136 : n0 ≤ h135.size := Nat.le_trans Z130 (Keep.of_wr W135).1
            have Od137 : Old Z n0 h135 := Od131.wr W135 g_b106
            have V135 : Arv Z h135 b106 kk106 .char (5 : Int32) [(.int ch0), (.int ch1), (.int ch2), (.int ch3), (.int (ch4.toUInt32.toUInt16.toUInt32.toInt32))] (.int (0 : Int32)) := Arv.set Ar135 q135 Sz135 Ng135 Hs135 Gs135 (fits_nar_char _) W135 4 rfl (Nat.le_of_ble_eq_true rfl)
            rw [(show (ch4.toUInt32.toUInt16.toUInt32.toInt32) = ch4 from gd4.2.2.2)] at V135
            have Nf138 := Fr.snoc X135 Nf132 g_b106
            have kn139 : ∀ t, own_S p e below T135 (mkF m 180 #[.val (.int p0), .val (.int p1), .val (.int p2), .val (.int p3), .val (.int p4), .val (.int p5), .val (.int ch0), .val (.int ch1), .val (.int ch2), .val (.int ch3), .val (.int ch4), .val (.int ((p5 &&& (2147483647 : Int32)) % (6 : Int32))), .unset, .unset, .unset, .unset, .unset, .unset, .unset, .unset, .unset, .unset, .unset] [(.ref b106)]) t → Gl t := fun t kt => kn134 t (st135 _ kt)
            have kn140 : ∀ t, own_S p e below T135 (mkF m 569 #[.val (.int p0), .val (.int p1), .val (.int p2), .val (.int p3), .val (.int p4), .val (.int p5), .val (.int ch0), .val (.int ch1), .val (.int ch2), .val (.int ch3), .val (.int ch4), .val (.int ((p5 &&& (2147483647 : Int32)) % (6 : Int32))), .val (.ref b106), .unset, .unset, .unset, .unset, .unset, .unset, .unset, .unset, .unset, .unset] []) t → Gl t := fun t kt => kn139 t (by
              show own_S p e below T135 (mkF m 180 #[.val (.int p0), .val (.int p1), .val (.int p2), .val (.int p3), .val (.int p4), .val (.int p5), .val (.int ch0), .val (.int ch1), .val (.int ch2), .val (.int ch3), .val (.int ch4), .val (.int ((p5 &&& (2147483647 : Int32)) % (6 : Int32))), .unset, .unset, .unset, .unset, .unset, .unset, .unset, .unset, .unset, .unset, .unset] [(.ref b106)]) _
              refine XS.astore X135.here hx rfl (hb hby at_180) rfl rfl (l' := #[.val (.int p0), .val (.int p1), .val (.int p2), .val (.int p3), .val (.int p4), .val (.int p5), .val (.int ch0), .val (.int ch1), .val (.int ch2), .val (.int ch3), .val (.int ch4), .val (.int ((p5 &&& (2147483647 : Int32)) % (6 : Int32))), .val (.ref b106), .unset, .unset, .unset, .unset, .unset, .unset, .unset, .unset, .unset, .unset]) rfl ?_
              show own_S p e below T135 (mkF m 182 #[.val (.int p0), .val (.int p1), .val (.int p2), .val (.int p3), .val (.int p4), .val (.int p5), .val (.int ch0), .val (.int ch1), .val (.int ch2), .val (.int ch3), .val (.int ch4), .val (.int ((p5 &&& (2147483647 : Int32)) % (6 : Int32))), .val (.ref b106), .unset, .unset, .unset, .unset, .unset, .unset, .unset, .unset, .unset, .unset] []) _
              refine XS.goto X135.here hx rfl (pc0 := 182) (pc' := 569) rfl (hb hby at_182) (by decide) (by decide) ?_
              exact kt)
            obtain ⟨s2, o2, t1, t2, t3, t4⟩ := tl (n0 := n0) p0 p1 p2 p3 p4 p5 G1 G3 ch0 ch1 ch2 ch3 ch4 _ b106 kk106 [ch0, ch1, ch2, ch3, ch4] (X135.mono (by decide) (by decide)) hx hZ hw hby hml hown Bd.returns (BodyLoose.notSynchronized Bd) e135 Nf138 Z136 V135 (Nat.le_of_ble_eq_true rfl) (Nat.le_of_ble_eq_true rfl) (own_fa gd0 (own_fa gd1 (own_fa gd2 (own_fa gd3 (own_fa gd4 own_f0))))) rfl gd0 gL0 Od137 O2 P5 O4 rG3
            exact ⟨s2, o2, hGl _ (kn140 _ t1), t2, t3, t4⟩
          · have kn141 : ∀ t, own_S p e below T14 (mkF m 187 #[.val (.int p0), .val (.int p1), .val (.int p2), .val (.int p3), .val (.int p4), .val (.int p5), .val (.int ch0), .val (.int ch1), .val (.int ch2), .val (.int ch3), .val (.int ch4), .val (.int ((p5 &&& (2147483647 : Int32)) % (6 : Int32))), .unset, .unset, .unset, .unset, .unset, .unset, .unset, .unset, .unset, .unset, .unset] [(.int (64 : Int32))]) t → Gl t := fun t kt => kn104 t (by
              show own_S p e below T14 (mkF m 149 #[.val (.int p0), .val (.int p1), .val (.int p2), .val (.int p3), .val (.int p4), .val (.int p5), .val (.int ch0), .val (.int ch1), .val (.int ch2), .val (.int ch3), .val (.int ch4), .val (.int ((p5 &&& (2147483647 : Int32)) % (6 : Int32))), .unset, .unset, .unset, .unset, .unset, .unset, .unset, .unset, .unset, .unset, .unset] [(.int (4 : Int32)), (.int ((p5 &&& (2147483647 : Int32)) % (6 : Int32)))]) _
              refine XS.icmpYes X14.here hx rfl (pc0 := 149) (pc' := 185) rfl (hb hby at_149) rfl (feq hc149).2 (by decide) (by decide) ?_
              show own_S p e below T14 (mkF m 185 #[.val (.int p0), .val (.int p1), .val (.int p2), .val (.int p3), .val (.int p4), .val (.int p5), .val (.int ch0), .val (.int ch1), .val (.int ch2), .val (.int ch3), .val (.int ch4), .val (.int ((p5 &&& (2147483647 : Int32)) % (6 : Int32))), .unset, .unset, .unset, .unset, .unset, .unset, .unset, .unset, .unset, .unset, .unset] []) _
              refine XS.bipush X14.here hx rfl (hb hby at_185) ?_
              exact kt)
            obtain ⟨T142, h142, kk142, X142, e142, E142, A142, st142⟩ := newP X14 hx hZ (hw _ (List.mem_of_getElem? (i := 8) rfl)) eq14 (g := (mkF m 187 #[.val (.int p0), .val (.int p1), .val (.int p2), .val (.int p3), .val (.int p4), .val (.int p5), .val (.int ch0), .val (.int ch1), .val (.int ch2), .val (.int ch3), .val (.int ch4), .val (.int ((p5 &&& (2147483647 : Int32)) % (6 : Int32))), .unset, .unset, .unset, .unset, .unset, .unset, .unset, .unset, .unset, .unset, .unset] [(.int (64 : Int32))])) rfl (hb hby at_187) rfl (by decide) (cap := 64) (by decide) (by decide) (by decide) (by decide)
            obtain ⟨b142, g142⟩ : ∃ z, z = h0.size := ⟨_, rfl⟩
            rw [← g142] at A142 st142
            have g_b142 : n0 ≤ b142 := Nat.le_trans Z0 (Nat.le_of_eq g142.symm)
            have Z143 : n0 ≤ h142.size := Nat.le_trans Z0 E142.1
            have Od144 : Old Z n0 h142 := O0.ext E142
            have V142 : Arv Z h142 b142 kk142 .char (64 : Int32) ((.int (0 : Int32)) :: (.int (0 : Int32)) :: (.int (0 : Int32)) :: (.int (0 : Int32)) :: (.int (0 : Int32)) :: (.int (0 : Int32)) :: (.int (0 : Int32)) :: (.int (0 : Int32)) :: (.int (0 : Int32)) :: (.int (0 : Int32)) :: (.int (0 : Int32)) :: (.int (0 : Int32)) :: (.int (0 : Int32)) :: (.int (0 : Int32)) :: (.int (0 : Int32)) :: (.int (0 : Int32)) :: (.int (0 : Int32)) :: (.int (0 : Int32)) :: (.int (0 : Int32)) :: (.int (0 : Int32)) :: (.int (0 : Int32)) :: (.int (0 : Int32)) :: (.int (0 : Int32)) :: (.int (0 : Int32)) :: (.int (0 : Int32)) :: (.int (0 : Int32)) :: (.int (0 : Int32)) :: (.int (0 : Int32)) :: (.int (0 : Int32)) :: (.int (0 : Int32)) :: (.int (0 : Int32)) :: (.int (0 : Int32)) :: (.int (0 : Int32)) :: (.int (0 : Int32)) :: (.int (0 : Int32)) :: (.int (0 : Int32)) :: (.int (0 : Int32)) :: (.int (0 : Int32)) :: (.int (0 : Int32)) :: (.int (0 : Int32)) :: (.int (0 : Int32)) :: (.int (0 : Int32)) :: (.int (0 : Int32)) :: (.int (0 : Int32)) :: (.int (0 : Int32)) :: (.int (0 : Int32)) :: (.int (0 : Int32)) :: (.int (0 : Int32)) :: (.int (0 : Int32)) :: (.int (0 : Int32)) :: (.int (0 : Int32)) :: (.int (0 : Int32)) :: (.int (0 : Int32)) :: (.int (0 : Int32)) :: (.int (0 : Int32)) :: (.int (0 : Int32)) :: (.int (0 : Int32)) :: (.int (0 : Int32)) :: (.int (0 : Int32)) :: (.int (0 : Int32)) :: (.int (0 : Int32)) :: (.int (0 : Int32)) :: (.int (0 : Int32)) :: (.int (0 : Int32)) :: []) (.int (0 : Int32)) := (Arv.new A142 (by decide)).pad (pad_rep [] (.int (0 : Int32)) 64)
            have kn145 : ∀ t, own_S p e below T142 (mkF m 189 #[.val (.int p0), .val (.int p1), .val (.int p2), .val (.int p3), .val (.int p4), .val (.int p5), .val (.int ch0), .val (.int ch1), .val (.int ch2), .val (.int ch3), .val (.int ch4), .val (.int ((p5 &&& (2147483647 : Int32)) % (6 : Int32))), .unset, .unset, .unset, .unset, .unset, .unset, .unset, .unset, .unset, .unset, .unset] [(.ref b142)]) t → Gl t := fun t kt => kn141 t (st142 _ kt)
            have kn146 : ∀ t, own_S p e below T142 (mkF m 193 #[.val (.int p0), .val (.int p1), .val (.int p2), .val (.int p3), .val (.int p4), .val (.int p5), .val (.int ch0), .val (.int ch1), .val (.int ch2), .val (.int ch3), .val (.int ch4), .val (.int ((p5 &&& (2147483647 : Int32)) % (6 : Int32))), .unset, .unset, .unset, .unset, .unset, .unset, .unset, .unset, .unset, .unset, .unset] [(.int ch0), (.int (0 : Int32)), (.ref b142), (.ref b142)]) t → Gl t := fun t kt => kn145 t (by
              show own_S p e below T142 (mkF m 189 #[.val (.int p0), .val (.int p1), .val (.int p2), .val (.int p3), .val (.int p4), .val (.int p5), .val (.int ch0), .val (.int ch1), .val (.int ch2), .val (.int ch3), .val (.int ch4), .val (.int ((p5 &&& (2147483647 : Int32)) % (6 : Int32))), .unset, .unset, .unset, .unset, .unset, .unset, .unset, .unset, .unset, .unset, .unset] [(.ref b142)]) _
              refine XS.dup X142.here hx rfl (hb hby at_189) rfl rfl ?_
              show own_S p e below T142 (mkF m 190 #[.val (.int p0), .val (.int p1), .val (.int p2), .val (.int p3), .val (.int p4), .val (.int p5), .val (.int ch0), .val (.int ch1), .val (.int ch2), .val (.int ch3), .val (.int ch4), .val (.int ((p5 &&& (2147483647 : Int32)) % (6 : Int32))), .unset, .unset, .unset, .unset, .unset, .unset, .unset, .unset, .unset, .unset, .unset] [(.ref b142), (.ref b142)]) _
              refine XS.iconst X142.here hx rfl (hb hby at_190) ?_
              show own_S p e below T142 (mkF m 191 #[.val (.int p0), .val (.int p1), .val (.int p2), .val (.int p3), .val (.int p4), .val (.int p5), .val (.int ch0), .val (.int ch1), .val (.int ch2), .val (.int ch3), .val (.int ch4), .val (.int ((p5 &&& (2147483647 : Int32)) % (6 : Int32))), .unset, .unset, .unset, .unset, .unset, .unset, .unset, .unset, .unset, .unset, .unset] [(.int (0 : Int32)), (.ref b142), (.ref b142)]) _
              refine XS.iload X142.here hx rfl (hb hby at_191) rfl ?_
              exact kt)
            obtain ⟨cl147, Ar147, q147, Sz147, Ng147, Hs147, Gs147⟩ := id V142
            have hin147 : ¬ ((0 : Int32) < 0 ∨ cl147.slots.size ≤ ((0 : Int32)).toNatClampNeg) := inb_of Sz147 ⟨by decide, by decide⟩
            obtain ⟨T147, h147, X147, e147, W147, st147⟩ := stC X142 hx hZ e142 Ar147 (j := (0 : Int32)) hin147 (g := (mkF m 193 #[.val (.int p0), .val (.int p1), .val (.int p2), .val (.int p3), .val (.int p4), .val (.int p5), .val (.int ch0), .val (.int ch1), .val (.int ch2), .val (.int ch3), .val (.int ch4), .val (.int ((p5 &&& (2147483647 : Int32)) % (6 : Int32))), .unset, .unset, .unset, .unset, .unset, .unset, .unset, .unset, .unset, .unset, .unset] [(.int ch0), (.int (0 : Int32)), (.ref b142), (.ref b142)])) rfl rfl (hb hby at_193)
            have Z148 : n0 ≤ h147.size := Nat.le_trans Z143 (Keep.of_wr W147).1
            have Od149 : Old Z n0 h147 := Od144.wr W147 g_b142
            have V147 : Arv Z h147 b142 kk142 .char (64 : Int32) ((.int (ch0.toUInt32.toUInt16.toUInt32.toInt32)) :: (.int (0 : Int32)) :: (.int (0 : Int32)) :: (.int (0 : Int32)) :: (.int (0 : Int32)) :: (.int (0 : Int32)) :: (.int (0 : Int32)) :: (.int (0 : Int32)) :: (.int (0 : Int32)) :: (.int (0 : Int32)) :: (.int (0 : Int32)) :: (.int (0 : Int32)) :: (.int (0 : Int32)) :: (.int (0 : Int32)) :: (.int (0 : Int32)) :: (.int (0 : Int32)) :: (.int (0 : Int32)) :: (.int (0 : Int32)) :: (.int (0 : Int32)) :: (.int (0 : Int32)) :: (.int (0 : Int32)) :: (.int (0 : Int32)) :: (.int (0 : Int32)) :: (.int (0 : Int32)) :: (.int (0 : Int32)) :: (.int (0 : Int32)) :: (.int (0 : Int32)) :: (.int (0 : Int32)) :: (.int (0 : Int32)) :: (.int (0 : Int32)) :: (.int (0 : Int32)) :: (.int (0 : Int32)) :: (.int (0 : Int32)) :: (.int (0 : Int32)) :: (.int (0 : Int32)) :: (.int (0 : Int32)) :: (.int (0 : Int32)) :: (.int (0 : Int32)) :: (.int (0 : Int32)) :: (.int (0 : Int32)) :: (.int (0 : Int32)) :: (.int (0 : Int32)) :: (.int (0 : Int32)) :: (.int (0 : Int32)) :: (.int (0 : Int32)) :: (.int (0 : Int32)) :: (.int (0 : Int32)) :: (.int (0 : Int32)) :: (.int (0 : Int32)) :: (.int (0 : Int32)) :: (.int (0 : Int32)) :: (.int (0 : Int32)) :: (.int (0 : Int32)) :: (.int (0 : Int32)) :: (.int (0 : Int32)) :: (.int (0 : Int32)) :: (.int (0 : Int32)) :: (.int (0 : Int32)) :: (.int (0 : Int32)) :: (.int (0 : Int32)) :: (.int (0 : Int32)) :: (.int (0 : Int32)) :: (.int (0 : Int32)) :: (.int (0 : Int32)) :: []) (.int (0 : Int32)) := Arv.set Ar147 q147 Sz147 Ng147 Hs147 Gs147 (fits_nar_char _) W147 0 rfl (Nat.le_of_ble_eq_true rfl)
            rw [(show (ch0.toUInt32.toUInt16.toUInt32.toInt32) = ch0 from gd0.2.2.2)] at V147
            have Nf150 := Fr.snoc X147 Nf14 g_b142
            have kn151 : ∀ t, own_S p e below T147 (mkF m 194 #[.val (.int p0), .val (.int p1), .val (.int p2), .val (.int p3), .val (.int p4), .val (.int p5), .val (.int ch0), .val (.int ch1), .val (.int ch2), .val (.int ch3), .val (.int ch4), .val (.int ((p5 &&& (2147483647 : Int32)) % (6 : Int32))), .unset, .unset, .unset, .unset, .unset, .unset, .unset, .unset, .unset, .unset, .unset] [(.ref b142)]) t → Gl t := fun t kt => kn146 t (st147 _ kt)
            have kn152 : ∀ t, own_S p e below T147 (mkF m 198 #[.val (.int p0), .val (.int p1), .val (.int p2), .val (.int p3), .val (.int p4), .val (.int p5), .val (.int ch0), .val (.int ch1), .val (.int ch2), .val (.int ch3), .val (.int ch4), .val (.int ((p5 &&& (2147483647 : Int32)) % (6 : Int32))), .unset, .unset, .unset, .unset, .unset, .unset, .unset, .unset, .unset, .unset, .unset] [(.int ch1), (.int (1 : Int32)), (.ref b142), (.ref b142)]) t → Gl t := fun t kt => kn151 t (by
              show own_S p e below T147 (mkF m 194 #[.val (.int p0), .val (.int p1), .val (.int p2), .val (.int p3), .val (.int p4), .val (.int p5), .val (.int ch0), .val (.int ch1), .val (.int ch2), .val (.int ch3), .val (.int ch4), .val (.int ((p5 &&& (2147483647 : Int32)) % (6 : Int32))), .unset, .unset, .unset, .unset, .unset, .unset, .unset, .unset, .unset, .unset, .unset] [(.ref b142)]) _
              refine XS.dup X147.here hx rfl (hb hby at_194) rfl rfl ?_
              show own_S p e below T147 (mkF m 195 #[.val (.int p0), .val (.int p1), .val (.int p2), .val (.int p3), .val (.int p4), .val (.int p5), .val (.int ch0), .val (.int ch1), .val (.int ch2), .val (.int ch3), .val (.int ch4), .val (.int ((p5 &&& (2147483647 : Int32)) % (6 : Int32))), .unset, .unset, .unset, .unset, .unset, .unset, .unset, .unset, .unset, .unset, .unset] [(.ref b142), (.ref b142)]) _
              refine XS.iconst X147.here hx rfl (hb hby at_195) ?_
              show own_S p e below T147 (mkF m 196 #[.val (.int p0), .val (.int p1), .val (.int p2), .val (.int p3), .val (.int p4), .val (.int p5), .val (.int ch0), .val (.int ch1), .val (.int ch2), .val (.int ch3), .val (.int ch4), .val (.int ((p5 &&& (2147483647 : Int32)) % (6 : Int32))), .unset, .unset, .unset, .unset, .unset, .unset, .unset, .unset, .unset, .unset, .unset] [(.int (1 : Int32)), (.ref b142), (.ref b142)]) _
              refine XS.iload X147.here hx rfl (hb hby at_196) rfl ?_
              exact kt)
            obtain ⟨cl153, Ar153, q153, Sz153, Ng153, Hs153, Gs153⟩ := id V147
            have hin153 : ¬ ((1 : Int32) < 0 ∨ cl153.slots.size ≤ ((1 : Int32)).toNatClampNeg) := inb_of Sz153 ⟨by decide, by decide⟩
            obtain ⟨T153, h153, X153, e153, W153, st153⟩ := stC X147 hx hZ e147 Ar153 (j := (1 : Int32)) hin153 (g := (mkF m 198 #[.val (.int p0), .val (.int p1), .val (.int p2), .val (.int p3), .val (.int p4), .val (.int p5), .val (.int ch0), .val (.int ch1), .val (.int ch2), .val (.int ch3), .val (.int ch4), .val (.int ((p5 &&& (2147483647 : Int32)) % (6 : Int32))), .unset, .unset, .unset, .unset, .unset, .unset, .unset, .unset, .unset, .unset, .unset] [(.int ch1), (.int (1 : Int32)), (.ref b142), (.ref b142)])) rfl rfl (hb hby at_198)
            have Z154 : n0 ≤ h153.size := Nat.le_trans Z148 (Keep.of_wr W153).1
            have Od155 : Old Z n0 h153 := Od149.wr W153 g_b142
            have V153 : Arv Z h153 b142 kk142 .char (64 : Int32) ((.int ch0) :: (.int (ch1.toUInt32.toUInt16.toUInt32.toInt32)) :: (.int (0 : Int32)) :: (.int (0 : Int32)) :: (.int (0 : Int32)) :: (.int (0 : Int32)) :: (.int (0 : Int32)) :: (.int (0 : Int32)) :: (.int (0 : Int32)) :: (.int (0 : Int32)) :: (.int (0 : Int32)) :: (.int (0 : Int32)) :: (.int (0 : Int32)) :: (.int (0 : Int32)) :: (.int (0 : Int32)) :: (.int (0 : Int32)) :: (.int (0 : Int32)) :: (.int (0 : Int32)) :: (.int (0 : Int32)) :: (.int (0 : Int32)) :: (.int (0 : Int32)) :: (.int (0 : Int32)) :: (.int (0 : Int32)) :: (.int (0 : Int32)) :: (.int (0 : Int32)) :: (.int (0 : Int32)) :: (.int (0 : Int32)) :: (.int (0 : Int32)) :: (.int (0 : Int32)) :: (.int (0 : Int32)) :: (.int (0 : Int32)) :: (.int (0 : Int32)) :: (.int (0 : Int32)) :: (.int (0 : Int32)) :: (.int (0 : Int32)) :: (.int (0 : Int32)) :: (.int (0 : Int32)) :: (.int (0 : Int32)) :: (.int (0 : Int32)) :: (.int (0 : Int32)) :: (.int (0 : Int32)) :: (.int (0 : Int32)) :: (.int (0 : Int32)) :: (.int (0 : Int32)) :: (.int (0 : Int32)) :: (.int (0 : Int32)) :: (.int (0 : Int32)) :: (.int (0 : Int32)) :: (.int (0 : Int32)) :: (.int (0 : Int32)) :: (.int (0 : Int32)) :: (.int (0 : Int32)) :: (.int (0 : Int32)) :: (.int (0 : Int32)) :: (.int (0 : Int32)) :: (.int (0 : Int32)) :: (.int (0 : Int32)) :: (.int (0 : Int32)) :: (.int (0 : Int32)) :: (.int (0 : Int32)) :: (.int (0 : Int32)) :: (.int (0 : Int32)) :: (.int (0 : Int32)) :: (.int (0 : Int32)) :: []) (.int (0 : Int32)) := Arv.set Ar153 q153 Sz153 Ng153 Hs153 Gs153 (fits_nar_char _) W153 1 rfl (Nat.le_of_ble_eq_true rfl)
            rw [(show (ch1.toUInt32.toUInt16.toUInt32.toInt32) = ch1 from gd1.2.2.2)] at V153
            have Nf156 := Fr.snoc X153 Nf150 g_b142
            have kn157 : ∀ t, own_S p e below T153 (mkF m 199 #[.val (.int p0), .val (.int p1), .val (.int p2), .val (.int p3), .val (.int p4), .val (.int p5), .val (.int ch0), .val (.int ch1), .val (.int ch2), .val (.int ch3), .val (.int ch4), .val (.int ((p5 &&& (2147483647 : Int32)) % (6 : Int32))), .unset, .unset, .unset, .unset, .unset, .unset, .unset, .unset, .unset, .unset, .unset] [(.ref b142)]) t → Gl t := fun t kt => kn152 t (st153 _ kt)
            have kn158 : ∀ t, own_S p e below T153 (mkF m 203 #[.val (.int p0), .val (.int p1), .val (.int p2), .val (.int p3), .val (.int p4), .val (.int p5), .val (.int ch0), .val (.int ch1), .val (.int ch2), .val (.int ch3), .val (.int ch4), .val (.int ((p5 &&& (2147483647 : Int32)) % (6 : Int32))), .unset, .unset, .unset, .unset, .unset, .unset, .unset, .unset, .unset, .unset, .unset] [(.int ch2), (.int (2 : Int32)), (.ref b142), (.ref b142)]) t → Gl t := fun t kt => kn157 t (by
              show own_S p e below T153 (mkF m 199 #[.val (.int p0), .val (.int p1), .val (.int p2), .val (.int p3), .val (.int p4), .val (.int p5), .val (.int ch0), .val (.int ch1), .val (.int ch2), .val (.int ch3), .val (.int ch4), .val (.int ((p5 &&& (2147483647 : Int32)) % (6 : Int32))), .unset, .unset, .unset, .unset, .unset, .unset, .unset, .unset, .unset, .unset, .unset] [(.ref b142)]) _
              refine XS.dup X153.here hx rfl (hb hby at_199) rfl rfl ?_
              show own_S p e below T153 (mkF m 200 #[.val (.int p0), .val (.int p1), .val (.int p2), .val (.int p3), .val (.int p4), .val (.int p5), .val (.int ch0), .val (.int ch1), .val (.int ch2), .val (.int ch3), .val (.int ch4), .val (.int ((p5 &&& (2147483647 : Int32)) % (6 : Int32))), .unset, .unset, .unset, .unset, .unset, .unset, .unset, .unset, .unset, .unset, .unset] [(.ref b142), (.ref b142)]) _
              refine XS.iconst X153.here hx rfl (hb hby at_200) ?_
              show own_S p e below T153 (mkF m 201 #[.val (.int p0), .val (.int p1), .val (.int p2), .val (.int p3), .val (.int p4), .val (.int p5), .val (.int ch0), .val (.int ch1), .val (.int ch2), .val (.int ch3), .val (.int ch4), .val (.int ((p5 &&& (2147483647 : Int32)) % (6 : Int32))), .unset, .unset, .unset, .unset, .unset, .unset, .unset, .unset, .unset, .unset, .unset] [(.int (2 : Int32)), (.ref b142), (.ref b142)]) _
              refine XS.iload X153.here hx rfl (hb hby at_201) rfl ?_
              exact kt)
            obtain ⟨cl159, Ar159, q159, Sz159, Ng159, Hs159, Gs159⟩ := id V153
            have hin159 : ¬ ((2 : Int32) < 0 ∨ cl159.slots.size ≤ ((2 : Int32)).toNatClampNeg) := inb_of Sz159 ⟨by decide, by decide⟩
            obtain ⟨T159, h159, X159, e159, W159, st159⟩ := stC X153 hx hZ e153 Ar159 (j := (2 : Int32)) hin159 (g := (mkF m 203 #[.val (.int p0), .val (.int p1), .val (.int p2), .val (.int p3), .val (.int p4), .val (.int p5), .val (.int ch0), .val (.int ch1), .val (.int ch2), .val (.int ch3), .val (.int ch4), .val (.int ((p5 &&& (2147483647 : Int32)) % (6 : Int32))), .unset, .unset, .unset, .unset, .unset, .unset, .unset, .unset, .unset, .unset, .unset] [(.int ch2), (.int (2 : Int32)), (.ref b142), (.ref b142)])) rfl rfl (hb hby at_203)
            have Z160 : n0 ≤ h159.size := Nat.le_trans Z154 (Keep.of_wr W159).1
            have Od161 : Old Z n0 h159 := Od155.wr W159 g_b142
            have V159 : Arv Z h159 b142 kk142 .char (64 : Int32) ((.int ch0) :: (.int ch1) :: (.int (ch2.toUInt32.toUInt16.toUInt32.toInt32)) :: (.int (0 : Int32)) :: (.int (0 : Int32)) :: (.int (0 : Int32)) :: (.int (0 : Int32)) :: (.int (0 : Int32)) :: (.int (0 : Int32)) :: (.int (0 : Int32)) :: (.int (0 : Int32)) :: (.int (0 : Int32)) :: (.int (0 : Int32)) :: (.int (0 : Int32)) :: (.int (0 : Int32)) :: (.int (0 : Int32)) :: (.int (0 : Int32)) :: (.int (0 : Int32)) :: (.int (0 : Int32)) :: (.int (0 : Int32)) :: (.int (0 : Int32)) :: (.int (0 : Int32)) :: (.int (0 : Int32)) :: (.int (0 : Int32)) :: (.int (0 : Int32)) :: (.int (0 : Int32)) :: (.int (0 : Int32)) :: (.int (0 : Int32)) :: (.int (0 : Int32)) :: (.int (0 : Int32)) :: (.int (0 : Int32)) :: (.int (0 : Int32)) :: (.int (0 : Int32)) :: (.int (0 : Int32)) :: (.int (0 : Int32)) :: (.int (0 : Int32)) :: (.int (0 : Int32)) :: (.int (0 : Int32)) :: (.int (0 : Int32)) :: (.int (0 : Int32)) :: (.int (0 : Int32)) :: (.int (0 : Int32)) :: (.int (0 : Int32)) :: (.int (0 : Int32)) :: (.int (0 : Int32)) :: (.int (0 : Int32)) :: (.int (0 : Int32)) :: (.int (0 : Int32)) :: (.int (0 : Int32)) :: (.int (0 : Int32)) :: (.int (0 : Int32)) :: (.int (0 : Int32)) :: (.int (0 : Int32)) :: (.int (0 : Int32)) :: (.int (0 : Int32)) :: (.int (0 : Int32)) :: (.int (0 : Int32)) :: (.int (0 : Int32)) :: (.int (0 : Int32)) :: (.int (0 : Int32)) :: (.int (0 : Int32)) :: (.int (0 : Int32)) :: (.int (0 : Int32)) :: (.int (0 : Int32)) :: []) (.int (0 : Int32)) := Arv.set Ar159 q159 Sz159 Ng159 Hs159 Gs159 (fits_nar_char _) W159 2 rfl (Nat.le_of_ble_eq_true rfl)
            rw [(show (ch2.toUInt32.toUInt16.toUInt32.toInt32) = ch2 from gd2.2.2.2)] at V159
            have Nf162 := Fr.snoc X159 Nf156 g_b142
            have kn163 : ∀ t, own_S p e below T159 (mkF m 204 #[.val (.int p0), .val (.int p1), .val (.int p2), .val (.int p3), .val (.int p4), .val (.int p5), .val (.int ch0), .val (.int ch1), .val (.int ch2), .val (.int ch3), .val (.int ch4), .val (.int ((p5 &&& (2147483647 : Int32)) % (6 : Int32))), .unset, .unset, .unset, .unset, .unset, .unset, .unset, .unset, .unset, .unset, .unset] [(.ref b142)]) t → Gl t := fun t kt => kn158 t (st159 _ kt)
            have kn164 : ∀ t, own_S p e below T159 (mkF m 208 #[.val (.int p0), .val (.int p1), .val (.int p2), .val (.int p3), .val (.int p4), .val (.int p5), .val (.int ch0), .val (.int ch1), .val (.int ch2), .val (.int ch3), .val (.int ch4), .val (.int ((p5 &&& (2147483647 : Int32)) % (6 : Int32))), .unset, .unset, .unset, .unset, .unset, .unset, .unset, .unset, .unset, .unset, .unset] [(.int ch3), (.int (3 : Int32)), (.ref b142), (.ref b142)]) t → Gl t := fun t kt => kn163 t (by
              show own_S p e below T159 (mkF m 204 #[.val (.int p0), .val (.int p1), .val (.int p2), .val (.int p3), .val (.int p4), .val (.int p5), .val (.int ch0), .val (.int ch1), .val (.int ch2), .val (.int ch3), .val (.int ch4), .val (.int ((p5 &&& (2147483647 : Int32)) % (6 : Int32))), .unset, .unset, .unset, .unset, .unset, .unset, .unset, .unset, .unset, .unset, .unset] [(.ref b142)]) _
              refine XS.dup X159.here hx rfl (hb hby at_204) rfl rfl ?_
              show own_S p e below T159 (mkF m 205 #[.val (.int p0), .val (.int p1), .val (.int p2), .val (.int p3), .val (.int p4), .val (.int p5), .val (.int ch0), .val (.int ch1), .val (.int ch2), .val (.int ch3), .val (.int ch4), .val (.int ((p5 &&& (2147483647 : Int32)) % (6 : Int32))), .unset, .unset, .unset, .unset, .unset, .unset, .unset, .unset, .unset, .unset, .unset] [(.ref b142), (.ref b142)]) _
              refine XS.iconst X159.here hx rfl (hb hby at_205) ?_
              show own_S p e below T159 (mkF m 206 #[.val (.int p0), .val (.int p1), .val (.int p2), .val (.int p3), .val (.int p4), .val (.int p5), .val (.int ch0), .val (.int ch1), .val (.int ch2), .val (.int ch3), .val (.int ch4), .val (.int ((p5 &&& (2147483647 : Int32)) % (6 : Int32))), .unset, .unset, .unset, .unset, .unset, .unset, .unset, .unset, .unset, .unset, .unset] [(.int (3 : Int32)), (.ref b142), (.ref b142)]) _
              refine XS.iload X159.here hx rfl (hb hby at_206) rfl ?_
              exact kt)
            obtain ⟨cl165, Ar165, q165, Sz165, Ng165, Hs165, Gs165⟩ := id V159
            have hin165 : ¬ ((3 : Int32) < 0 ∨ cl165.slots.size ≤ ((3 : Int32)).toNatClampNeg) := inb_of Sz165 ⟨by decide, by decide⟩
            obtain ⟨T165, h165, X165, e165, W165, st165⟩ := stC X159 hx hZ e159 Ar165 (j := (3 : Int32)) hin165 (g := (mkF m 208 #[.val (.int p0), .val (.int p1), .val (.int p2), .val (.int p3), .val (.int p4), .val (.int p5), .val (.int ch0), .val (.int ch1), .val (.int ch2), .val (.int ch3), .val (.int ch4), .val (.int ((p5 &&& (2147483647 : Int32)) % (6 : Int32))), .unset, .unset, .unset, .unset, .unset, .unset, .unset, .unset, .unset, .unset, .unset] [(.int ch3), (.int (3 : Int32)), (.ref b142), (.ref b142)])) rfl rfl (hb hby at_208)
            have Z166 : n0 ≤ h165.size := Nat.le_trans Z160 (Keep.of_wr W165).1
            have Od167 : Old Z n0 h165 := Od161.wr W165 g_b142
            have V165 : Arv Z h165 b142 kk142 .char (64 : Int32) ((.int ch0) :: (.int ch1) :: (.int ch2) :: (.int (ch3.toUInt32.toUInt16.toUInt32.toInt32)) :: (.int (0 : Int32)) :: (.int (0 : Int32)) :: (.int (0 : Int32)) :: (.int (0 : Int32)) :: (.int (0 : Int32)) :: (.int (0 : Int32)) :: (.int (0 : Int32)) :: (.int (0 : Int32)) :: (.int (0 : Int32)) :: (.int (0 : Int32)) :: (.int (0 : Int32)) :: (.int (0 : Int32)) :: (.int (0 : Int32)) :: (.int (0 : Int32)) :: (.int (0 : Int32)) :: (.int (0 : Int32)) :: (.int (0 : Int32)) :: (.int (0 : Int32)) :: (.int (0 : Int32)) :: (.int (0 : Int32)) :: (.int (0 : Int32)) :: (.int (0 : Int32)) :: (.int (0 : Int32)) :: (.int (0 : Int32)) :: (.int (0 : Int32)) :: (.int (0 : Int32)) :: (.int (0 : Int32)) :: (.int (0 : Int32)) :: (.int (0 : Int32)) :: (.int (0 : Int32)) :: (.int (0 : Int32)) :: (.int (0 : Int32)) :: (.int (0 : Int32)) :: (.int (0 : Int32)) :: (.int (0 : Int32)) :: (.int (0 : Int32)) :: (.int (0 : Int32)) :: (.int (0 : Int32)) :: (.int (0 : Int32)) :: (.int (0 : Int32)) :: (.int (0 : Int32)) :: (.int (0 : Int32)) :: (.int (0 : Int32)) :: (.int (0 : Int32)) :: (.int (0 : Int32)) :: (.int (0 : Int32)) :: (.int (0 : Int32)) :: (.int (0 : Int32)) :: (.int (0 : Int32)) :: (.int (0 : Int32)) :: (.int (0 : Int32)) :: (.int (0 : Int32)) :: (.int (0 : Int32)) :: (.int (0 : Int32)) :: (.int (0 : Int32)) :: (.int (0 : Int32)) :: (.int (0 : Int32)) :: (.int (0 : Int32)) :: (.int (0 : Int32)) :: (.int (0 : Int32)) :: []) (.int (0 : Int32)) := Arv.set Ar165 q165 Sz165 Ng165 Hs165 Gs165 (fits_nar_char _) W165 3 rfl (Nat.le_of_ble_eq_true rfl)
            rw [(show (ch3.toUInt32.toUInt16.toUInt32.toInt32) = ch3 from gd3.2.2.2)] at V165
            have Nf168 := Fr.snoc X165 Nf162 g_b142
            have kn169 : ∀ t, own_S p e below T165 (mkF m 209 #[.val (.int p0), .val (.int p1), .val (.int p2), .val (.int p3), .val (.int p4), .val (.int p5), .val (.int ch0), .val (.int ch1), .val (.int ch2), .val (.int ch3), .val (.int ch4), .val (.int ((p5 &&& (2147483647 : Int32)) % (6 : Int32))), .unset, .unset, .unset, .unset, .unset, .unset, .unset, .unset, .unset, .unset, .unset] [(.ref b142)]) t → Gl t := fun t kt => kn164 t (st165 _ kt)
            have kn170 : ∀ t, own_S p e below T165 (mkF m 213 #[.val (.int p0), .val (.int p1), .val (.int p2), .val (.int p3), .val (.int p4), .val (.int p5), .val (.int ch0), .val (.int ch1), .val (.int ch2), .val (.int ch3), .val (.int ch4), .val (.int ((p5 &&& (2147483647 : Int32)) % (6 : Int32))), .unset, .unset, .unset, .unset, .unset, .unset, .unset, .unset, .unset, .unset, .unset] [(.int ch4), (.int (4 : Int32)), (.ref b142), (.ref b142)]) t → Gl t := fun t kt => kn169 t (by
              show own_S p e below T165 (mkF m 209 #[.val (.int p0), .val (.int p1), .val (.int p2), .val (.int p3), .val (.int p4), .val (.int p5), .val (.int ch0), .val (.int ch1), .val (.int ch2), .val (.int ch3), .val (.int ch4), .val (.int ((p5 &&& (2147483647 : Int32)) % (6 : Int32))), .unset, .unset, .unset, .unset, .unset, .unset, .unset, .unset, .unset, .unset, .unset] [(.ref b142)]) _
              refine XS.dup X165.here hx rfl (hb hby at_209) rfl rfl ?_
              show own_S p e below T165 (mkF m 210 #[.val (.int p0), .val (.int p1), .val (.int p2), .val (.int p3), .val (.int p4), .val (.int p5), .val (.int ch0), .val (.int ch1), .val (.int ch2), .val (.int ch3), .val (.int ch4), .val (.int ((p5 &&& (2147483647 : Int32)) % (6 : Int32))), .unset, .unset, .unset, .unset, .unset, .unset, .unset, .unset, .unset, .unset, .unset] [(.ref b142), (.ref b142)]) _
              refine XS.iconst X165.here hx rfl (hb hby at_210) ?_
              show own_S p e below T165 (mkF m 211 #[.val (.int p0), .val (.int p1), .val (.int p2), .val (.int p3), .val (.int p4), .val (.int p5), .val (.int ch0), .val (.int ch1), .val (.int ch2), .val (.int ch3), .val (.int ch4), .val (.int ((p5 &&& (2147483647 : Int32)) % (6 : Int32))), .unset, .unset, .unset, .unset, .unset, .unset, .unset, .unset, .unset, .unset, .unset] [(.int (4 : Int32)), (.ref b142), (.ref b142)]) _
              refine XS.iload X165.here hx rfl (hb hby at_211) rfl ?_
              exact kt)
            obtain ⟨cl171, Ar171, q171, Sz171, Ng171, Hs171, Gs171⟩ := id V165
            have hin171 : ¬ ((4 : Int32) < 0 ∨ cl171.slots.size ≤ ((4 : Int32)).toNatClampNeg) := inb_of Sz171 ⟨by decide, by decide⟩
            obtain ⟨T171, h171, X171, e171, W171, st171⟩ := stC X165 hx hZ e165 Ar171 (j := (4 : Int32)) hin171 (g := (mkF m 213 #[.val (.int p0), .val (.int p1), .val (.int p2), .val (.int p3), .val (.int p4), .val (.int p5), .val (.int ch0), .val (.int ch1), .val (.int ch2), .val (.int ch3), .val (.int ch4), .val (.int ((p5 &&& (2147483647 : Int32)) % (6 : Int32))), .unset, .unset, .unset, .unset, .unset, .unset, .unset, .unset, .unset, .unset, .unset] [(.int ch4), (.int (4 : Int32)), (.ref b142), (.ref b142)])) rfl rfl (hb hby at_213)
            have Z172 : n0 ≤ h171.size := Nat.le_trans Z166 (Keep.of_wr W171).1
            have Od173 : Old Z n0 h171 := Od167.wr W171 g_b142
            have V171 : Arv Z h171 b142 kk142 .char (64 : Int32) ((.int ch0) :: (.int ch1) :: (.int ch2) :: (.int ch3) :: (.int (ch4.toUInt32.toUInt16.toUInt32.toInt32)) :: (.int (0 : Int32)) :: (.int (0 : Int32)) :: (.int (0 : Int32)) :: (.int (0 : Int32)) :: (.int (0 : Int32)) :: (.int (0 : Int32)) :: (.int (0 : Int32)) :: (.int (0 : Int32)) :: (.int (0 : Int32)) :: (.int (0 : Int32)) :: (.int (0 : Int32)) :: (.int (0 : Int32)) :: (.int (0 : Int32)) :: (.int (0 : Int32)) :: (.int (0 : Int32)) :: (.int (0 : Int32)) :: (.int (0 : Int32)) :: (.int (0 : Int32)) :: (.int (0 : Int32)) :: (.int (0 : Int32)) :: (.int (0 : Int32)) :: (.int (0 : Int32)) :: (.int (0 : Int32)) :: (.int (0 : Int32)) :: (.int (0 : Int32)) :: (.int (0 : Int32)) :: (.int (0 : Int32)) :: (.int (0 : Int32)) :: (.int (0 : Int32)) :: (.int (0 : Int32)) :: (.int (0 : Int32)) :: (.int (0 : Int32)) :: (.int (0 : Int32)) :: (.int (0 : Int32)) :: (.int (0 : Int32)) :: (.int (0 : Int32)) :: (.int (0 : Int32)) :: (.int (0 : Int32)) :: (.int (0 : Int32)) :: (.int (0 : Int32)) :: (.int (0 : Int32)) :: (.int (0 : Int32)) :: (.int (0 : Int32)) :: (.int (0 : Int32)) :: (.int (0 : Int32)) :: (.int (0 : Int32)) :: (.int (0 : Int32)) :: (.int (0 : Int32)) :: (.int (0 : Int32)) :: (.int (0 : Int32)) :: (.int (0 : Int32)) :: (.int (0 : Int32)) :: (.int (0 : Int32)) :: (.int (0 : Int32)) :: (.int (0 : Int32)) :: (.int (0 : Int32)) :: (.int (0 : Int32)) :: (.int (0 : Int32)) :: (.int (0 : Int32)) :: []) (.int (0 : Int32)) := Arv.set Ar171 q171 Sz171 Ng171 Hs171 Gs171 (fits_nar_char _) W171 4 rfl (Nat.le_of_ble_eq_true rfl)
            rw [(show (ch4.toUInt32.toUInt16.toUInt32.toInt32) = ch4 from gd4.2.2.2)] at V171
            have Nf174 := Fr.snoc X171 Nf168 g_b142
            have kn175 : ∀ t, own_S p e below T171 (mkF m 214 #[.val (.int p0), .val (.int p1), .val (.int p2), .val (.int p3), .val (.int p4), .val (.int p5), .val (.int ch0), .val (.int ch1), .val (.int ch2), .val (.int ch3), .val (.int ch4), .val (.int ((p5 &&& (2147483647 : Int32)) % (6 : Int32))), .unset, .unset, .unset, .unset, .unset, .unset, .unset, .unset, .unset, .unset, .unset] [(.ref b142)]) t → Gl t := fun t kt => kn170 t (st171 _ kt)
            have kn176 : ∀ t, own_S p e below T171 (mkF m 218 #[.val (.int p0), .val (.int p1), .val (.int p2), .val (.int p3), .val (.int p4), .val (.int p5), .val (.int ch0), .val (.int ch1), .val (.int ch2), .val (.int ch3), .val (.int ch4), .val (.int ((p5 &&& (2147483647 : Int32)) % (6 : Int32))), .unset, .unset, .unset, .unset, .unset, .unset, .unset, .unset, .unset, .unset, .unset] [(.int ch1), (.int (5 : Int32)), (.ref b142), (.ref b142)]) t → Gl t := fun t kt => kn175 t (by
              show own_S p e below T171 (mkF m 214 #[.val (.int p0), .val (.int p1), .val (.int p2), .val (.int p3), .val (.int p4), .val (.int p5), .val (.int ch0), .val (.int ch1), .val (.int ch2), .val (.int ch3), .val (.int ch4), .val (.int ((p5 &&& (2147483647 : Int32)) % (6 : Int32))), .unset, .unset, .unset, .unset, .unset, .unset, .unset, .unset, .unset, .unset, .unset] [(.ref b142)]) _
              refine XS.dup X171.here hx rfl (hb hby at_214) rfl rfl ?_
              show own_S p e below T171 (mkF m 215 #[.val (.int p0), .val (.int p1), .val (.int p2), .val (.int p3), .val (.int p4), .val (.int p5), .val (.int ch0), .val (.int ch1), .val (.int ch2), .val (.int ch3), .val (.int ch4), .val (.int ((p5 &&& (2147483647 : Int32)) % (6 : Int32))), .unset, .unset, .unset, .unset, .unset, .unset, .unset, .unset, .unset, .unset, .unset] [(.ref b142), (.ref b142)]) _
              refine XS.iconst X171.here hx rfl (hb hby at_215) ?_
              show own_S p e below T171 (mkF m 216 #[.val (.int p0), .val (.int p1), .val (.int p2), .val (.int p3), .val (.int p4), .val (.int p5), .val (.int ch0), .val (.int ch1), .val (.int ch2), .val (.int ch3), .val (.int ch4), .val (.int ((p5 &&& (2147483647 : Int32)) % (6 : Int32))), .unset, .unset, .unset, .unset, .unset, .unset, .unset, .unset, .unset, .unset, .unset] [(.int (5 : Int32)), (.ref b142), (.ref b142)]) _
              refine XS.iload X171.here hx rfl (hb hby at_216) rfl ?_
              exact kt)
            obtain ⟨cl177, Ar177, q177, Sz177, Ng177, Hs177, Gs177⟩ := id V171
            have hin177 : ¬ ((5 : Int32) < 0 ∨ cl177.slots.size ≤ ((5 : Int32)).toNatClampNeg) := inb_of Sz177 ⟨by decide, by decide⟩
            obtain ⟨T177, h177, X177, e177, W177, st177⟩ := stC X171 hx hZ e171 Ar177 (j := (5 : Int32)) hin177 (g := (mkF m 218 #[.val (.int p0), .val (.int p1), .val (.int p2), .val (.int p3), .val (.int p4), .val (.int p5), .val (.int ch0), .val (.int ch1), .val (.int ch2), .val (.int ch3), .val (.int ch4), .val (.int ((p5 &&& (2147483647 : Int32)) % (6 : Int32))), .unset, .unset, .unset, .unset, .unset, .unset, .unset, .unset, .unset, .unset, .unset] [(.int ch1), (.int (5 : Int32)), (.ref b142), (.ref b142)])) rfl rfl (hb hby at_218)
            have Z178 : n0 ≤ h177.size := Nat.le_trans Z172 (Keep.of_wr W177).1
            have Od179 : Old Z n0 h177 := Od173.wr W177 g_b142
            have V177 : Arv Z h177 b142 kk142 .char (64 : Int32) ((.int ch0) :: (.int ch1) :: (.int ch2) :: (.int ch3) :: (.int ch4) :: (.int (ch1.toUInt32.toUInt16.toUInt32.toInt32)) :: (.int (0 : Int32)) :: (.int (0 : Int32)) :: (.int (0 : Int32)) :: (.int (0 : Int32)) :: (.int (0 : Int32)) :: (.int (0 : Int32)) :: (.int (0 : Int32)) :: (.int (0 : Int32)) :: (.int (0 : Int32)) :: (.int (0 : Int32)) :: (.int (0 : Int32)) :: (.int (0 : Int32)) :: (.int (0 : Int32)) :: (.int (0 : Int32)) :: (.int (0 : Int32)) :: (.int (0 : Int32)) :: (.int (0 : Int32)) :: (.int (0 : Int32)) :: (.int (0 : Int32)) :: (.int (0 : Int32)) :: (.int (0 : Int32)) :: (.int (0 : Int32)) :: (.int (0 : Int32)) :: (.int (0 : Int32)) :: (.int (0 : Int32)) :: (.int (0 : Int32)) :: (.int (0 : Int32)) :: (.int (0 : Int32)) :: (.int (0 : Int32)) :: (.int (0 : Int32)) :: (.int (0 : Int32)) :: (.int (0 : Int32)) :: (.int (0 : Int32)) :: (.int (0 : Int32)) :: (.int (0 : Int32)) :: (.int (0 : Int32)) :: (.int (0 : Int32)) :: (.int (0 : Int32)) :: (.int (0 : Int32)) :: (.int (0 : Int32)) :: (.int (0 : Int32)) :: (.int (0 : Int32)) :: (.int (0 : Int32)) :: (.int (0 : Int32)) :: (.int (0 : Int32)) :: (.int (0 : Int32)) :: (.int (0 : Int32)) :: (.int (0 : Int32)) :: (.int (0 : Int32)) :: (.int (0 : Int32)) :: (.int (0 : Int32)) :: (.int (0 : Int32)) :: (.int (0 : Int32)) :: (.int (0 : Int32)) :: (.int (0 : Int32)) :: (.int (0 : Int32)) :: (.int (0 : Int32)) :: (.int (0 : Int32)) :: []) (.int (0 : Int32)) := Arv.set Ar177 q177 Sz177 Ng177 Hs177 Gs177 (fits_nar_char _) W177 5 rfl (Nat.le_of_ble_eq_true rfl)
            rw [(show (ch1.toUInt32.toUInt16.toUInt32.toInt32) = ch1 from gd1.2.2.2)] at V177
            have Nf180 := Fr.snoc X177 Nf174 g_b142
            have kn181 : ∀ t, own_S p e below T177 (mkF m 219 #[.val (.int p0), .val (.int p1), .val (.int p2), .val (.int p3), .val (.int p4), .val (.int p5), .val (.int ch0), .val (.int ch1), .val (.int ch2), .val (.int ch3), .val (.int ch4), .val (.int ((p5 &&& (2147483647 : Int32)) % (6 : Int32))), .unset, .unset, .unset, .unset, .unset, .unset, .unset, .unset, .unset, .unset, .unset] [(.ref b142)]) t → Gl t := fun t kt => kn176 t (st177 _ kt)
            have kn182 : ∀ t, own_S p e below T177 (mkF m 224 #[.val (.int p0), .val (.int p1), .val (.int p2), .val (.int p3), .val (.int p4), .val (.int p5), .val (.int ch0), .val (.int ch1), .val (.int ch2), .val (.int ch3), .val (.int ch4), .val (.int ((p5 &&& (2147483647 : Int32)) % (6 : Int32))), .unset, .unset, .unset, .unset, .unset, .unset, .unset, .unset, .unset, .unset, .unset] [(.int ch2), (.int (6 : Int32)), (.ref b142), (.ref b142)]) t → Gl t := fun t kt => kn181 t (by
              show own_S p e below T177 (mkF m 219 #[.val (.int p0), .val (.int p1), .val (.int p2), .val (.int p3), .val (.int p4), .val (.int p5), .val (.int ch0), .val (.int ch1), .val (.int ch2), .val (.int ch3), .val (.int ch4), .val (.int ((p5 &&& (2147483647 : Int32)) % (6 : Int32))), .unset, .unset, .unset, .unset, .unset, .unset, .unset, .unset, .unset, .unset, .unset] [(.ref b142)]) _
              refine XS.dup X177.here hx rfl (hb hby at_219) rfl rfl ?_
              show own_S p e below T177 (mkF m 220 #[.val (.int p0), .val (.int p1), .val (.int p2), .val (.int p3), .val (.int p4), .val (.int p5), .val (.int ch0), .val (.int ch1), .val (.int ch2), .val (.int ch3), .val (.int ch4), .val (.int ((p5 &&& (2147483647 : Int32)) % (6 : Int32))), .unset, .unset, .unset, .unset, .unset, .unset, .unset, .unset, .unset, .unset, .unset] [(.ref b142), (.ref b142)]) _
              refine XS.bipush X177.here hx rfl (hb hby at_220) ?_
              show own_S p e below T177 (mkF m 222 #[.val (.int p0), .val (.int p1), .val (.int p2), .val (.int p3), .val (.int p4), .val (.int p5), .val (.int ch0), .val (.int ch1), .val (.int ch2), .val (.int ch3), .val (.int ch4), .val (.int ((p5 &&& (2147483647 : Int32)) % (6 : Int32))), .unset, .unset, .unset, .unset, .unset, .unset, .unset, .unset, .unset, .unset, .unset] [(.int (6 : Int32)), (.ref b142), (.ref b142)]) _
              refine XS.iload X177.here hx rfl (hb hby at_222) rfl ?_
              exact kt)
            obtain ⟨cl183, Ar183, q183, Sz183, Ng183, Hs183, Gs183⟩ := id V177
            have hin183 : ¬ ((6 : Int32) < 0 ∨ cl183.slots.size ≤ ((6 : Int32)).toNatClampNeg) := inb_of Sz183 ⟨by decide, by decide⟩
            obtain ⟨T183, h183, X183, e183, W183, st183⟩ := stC X177 hx hZ e177 Ar183 (j := (6 : Int32)) hin183 (g := (mkF m 224 #[.val (.int p0), .val (.int p1), .val (.int p2), .val (.int p3), .val (.int p4), .val (.int p5), .val (.int ch0), .val (.int ch1), .val (.int ch2), .val (.int ch3), .val (.int ch4), .val (.int ((p5 &&& (2147483647 : Int32)) % (6 : Int32))), .unset, .unset, .unset, .unset, .unset, .unset, .unset, .unset, .unset, .unset, .unset] [(.int ch2), (.int (6 : Int32)), (.ref b142), (.ref b142)])) rfl rfl (hb hby at_224)
            have Z184 : n0 ≤ h183.size := Nat.le_trans Z178 (Keep.of_wr W183).1
            have Od185 : Old Z n0 h183 := Od179.wr W183 g_b142
            have V183 : Arv Z h183 b142 kk142 .char (64 : Int32) ((.int ch0) :: (.int ch1) :: (.int ch2) :: (.int ch3) :: (.int ch4) :: (.int ch1) :: (.int (ch2.toUInt32.toUInt16.toUInt32.toInt32)) :: (.int (0 : Int32)) :: (.int (0 : Int32)) :: (.int (0 : Int32)) :: (.int (0 : Int32)) :: (.int (0 : Int32)) :: (.int (0 : Int32)) :: (.int (0 : Int32)) :: (.int (0 : Int32)) :: (.int (0 : Int32)) :: (.int (0 : Int32)) :: (.int (0 : Int32)) :: (.int (0 : Int32)) :: (.int (0 : Int32)) :: (.int (0 : Int32)) :: (.int (0 : Int32)) :: (.int (0 : Int32)) :: (.int (0 : Int32)) :: (.int (0 : Int32)) :: (.int (0 : Int32)) :: (.int (0 : Int32)) :: (.int (0 : Int32)) :: (.int (0 : Int32)) :: (.int (0 : Int32)) :: (.int (0 : Int32)) :: (.int (0 : Int32)) :: (.int (0 : Int32)) :: (.int (0 : Int32)) :: (.int (0 : Int32)) :: (.int (0 : Int32)) :: (.int (0 : Int32)) :: (.int (0 : Int32)) :: (.int (0 : Int32)) :: (.int (0 : Int32)) :: (.int (0 : Int32)) :: (.int (0 : Int32)) :: (.int (0 : Int32)) :: (.int (0 : Int32)) :: (.int (0 : Int32)) :: (.int (0 : Int32)) :: (.int (0 : Int32)) :: (.int (0 : Int32)) :: (.int (0 : Int32)) :: (.int (0 : Int32)) :: (.int (0 : Int32)) :: (.int (0 : Int32)) :: (.int (0 : Int32)) :: (.int (0 : Int32)) :: (.int (0 : Int32)) :: (.int (0 : Int32)) :: (.int (0 : Int32)) :: (.int (0 : Int32)) :: (.int (0 : Int32)) :: (.int (0 : Int32)) :: (.int (0 : Int32)) :: (.int (0 : Int32)) :: (.int (0 : Int32)) :: (.int (0 : Int32)) :: []) (.int (0 : Int32)) := Arv.set Ar183 q183 Sz183 Ng183 Hs183 Gs183 (fits_nar_char _) W183 6 rfl (Nat.le_of_ble_eq_true rfl)
            rw [(show (ch2.toUInt32.toUInt16.toUInt32.toInt32) = ch2 from gd2.2.2.2)] at V183
            have Nf186 := Fr.snoc X183 Nf180 g_b142
            have kn187 : ∀ t, own_S p e below T183 (mkF m 225 #[.val (.int p0), .val (.int p1), .val (.int p2), .val (.int p3), .val (.int p4), .val (.int p5), .val (.int ch0), .val (.int ch1), .val (.int ch2), .val (.int ch3), .val (.int ch4), .val (.int ((p5 &&& (2147483647 : Int32)) % (6 : Int32))), .unset, .unset, .unset, .unset, .unset, .unset, .unset, .unset, .unset, .unset, .unset] [(.ref b142)]) t → Gl t := fun t kt => kn182 t (st183 _ kt)
            have kn188 : ∀ t, own_S p e below T183 (mkF m 230 #[.val (.int p0), .val (.int p1), .val (.int p2), .val (.int p3), .val (.int p4), .val (.int p5), .val (.int ch0), .val (.int ch1), .val (.int ch2), .val (.int ch3), .val (.int ch4), .val (.int ((p5 &&& (2147483647 : Int32)) % (6 : Int32))), .unset, .unset, .unset, .unset, .unset, .unset, .unset, .unset, .unset, .unset, .unset] [(.int ch3), (.int (7 : Int32)), (.ref b142), (.ref b142)]) t → Gl t := fun t kt => kn187 t (by
              show own_S p e below T183 (mkF m 225 #[.val (.int p0), .val (.int p1), .val (.int p2), .val (.int p3), .val (.int p4), .val (.int p5), .val (.int ch0), .val (.int ch1), .val (.int ch2), .val (.int ch3), .val (.int ch4), .val (.int ((p5 &&& (2147483647 : Int32)) % (6 : Int32))), .unset, .unset, .unset, .unset, .unset, .unset, .unset, .unset, .unset, .unset, .unset] [(.ref b142)]) _
              refine XS.dup X183.here hx rfl (hb hby at_225) rfl rfl ?_
              show own_S p e below T183 (mkF m 226 #[.val (.int p0), .val (.int p1), .val (.int p2), .val (.int p3), .val (.int p4), .val (.int p5), .val (.int ch0), .val (.int ch1), .val (.int ch2), .val (.int ch3), .val (.int ch4), .val (.int ((p5 &&& (2147483647 : Int32)) % (6 : Int32))), .unset, .unset, .unset, .unset, .unset, .unset, .unset, .unset, .unset, .unset, .unset] [(.ref b142), (.ref b142)]) _
              refine XS.bipush X183.here hx rfl (hb hby at_226) ?_
              show own_S p e below T183 (mkF m 228 #[.val (.int p0), .val (.int p1), .val (.int p2), .val (.int p3), .val (.int p4), .val (.int p5), .val (.int ch0), .val (.int ch1), .val (.int ch2), .val (.int ch3), .val (.int ch4), .val (.int ((p5 &&& (2147483647 : Int32)) % (6 : Int32))), .unset, .unset, .unset, .unset, .unset, .unset, .unset, .unset, .unset, .unset, .unset] [(.int (7 : Int32)), (.ref b142), (.ref b142)]) _
              refine XS.iload X183.here hx rfl (hb hby at_228) rfl ?_
              exact kt)
            obtain ⟨cl189, Ar189, q189, Sz189, Ng189, Hs189, Gs189⟩ := id V183
            have hin189 : ¬ ((7 : Int32) < 0 ∨ cl189.slots.size ≤ ((7 : Int32)).toNatClampNeg) := inb_of Sz189 ⟨by decide, by decide⟩
            obtain ⟨T189, h189, X189, e189, W189, st189⟩ := stC X183 hx hZ e183 Ar189 (j := (7 : Int32)) hin189 (g := (mkF m 230 #[.val (.int p0), .val (.int p1), .val (.int p2), .val (.int p3), .val (.int p4), .val (.int p5), .val (.int ch0), .val (.int ch1), .val (.int ch2), .val (.int ch3), .val (.int ch4), .val (.int ((p5 &&& (2147483647 : Int32)) % (6 : Int32))), .unset, .unset, .unset, .unset, .unset, .unset, .unset, .unset, .unset, .unset, .unset] [(.int ch3), (.int (7 : Int32)), (.ref b142), (.ref b142)])) rfl rfl (hb hby at_230)
            have Z190 : n0 ≤ h189.size := Nat.le_trans Z184 (Keep.of_wr W189).1
            have Od191 : Old Z n0 h189 := Od185.wr W189 g_b142
            have V189 : Arv Z h189 b142 kk142 .char (64 : Int32) ((.int ch0) :: (.int ch1) :: (.int ch2) :: (.int ch3) :: (.int ch4) :: (.int ch1) :: (.int ch2) :: (.int (ch3.toUInt32.toUInt16.toUInt32.toInt32)) :: (.int (0 : Int32)) :: (.int (0 : Int32)) :: (.int (0 : Int32)) :: (.int (0 : Int32)) :: (.int (0 : Int32)) :: (.int (0 : Int32)) :: (.int (0 : Int32)) :: (.int (0 : Int32)) :: (.int (0 : Int32)) :: (.int (0 : Int32)) :: (.int (0 : Int32)) :: (.int (0 : Int32)) :: (.int (0 : Int32)) :: (.int (0 : Int32)) :: (.int (0 : Int32)) :: (.int (0 : Int32)) :: (.int (0 : Int32)) :: (.int (0 : Int32)) :: (.int (0 : Int32)) :: (.int (0 : Int32)) :: (.int (0 : Int32)) :: (.int (0 : Int32)) :: (.int (0 : Int32)) :: (.int (0 : Int32)) :: (.int (0 : Int32)) :: (.int (0 : Int32)) :: (.int (0 : Int32)) :: (.int (0 : Int32)) :: (.int (0 : Int32)) :: (.int (0 : Int32)) :: (.int (0 : Int32)) :: (.int (0 : Int32)) :: (.int (0 : Int32)) :: (.int (0 : Int32)) :: (.int (0 : Int32)) :: (.int (0 : Int32)) :: (.int (0 : Int32)) :: (.int (0 : Int32)) :: (.int (0 : Int32)) :: (.int (0 : Int32)) :: (.int (0 : Int32)) :: (.int (0 : Int32)) :: (.int (0 : Int32)) :: (.int (0 : Int32)) :: (.int (0 : Int32)) :: (.int (0 : Int32)) :: (.int (0 : Int32)) :: (.int (0 : Int32)) :: (.int (0 : Int32)) :: (.int (0 : Int32)) :: (.int (0 : Int32)) :: (.int (0 : Int32)) :: (.int (0 : Int32)) :: (.int (0 : Int32)) :: (.int (0 : Int32)) :: (.int (0 : Int32)) :: []) (.int (0 : Int32)) := Arv.set Ar189 q189 Sz189 Ng189 Hs189 Gs189 (fits_nar_char _) W189 7 rfl (Nat.le_of_ble_eq_true rfl)
            rw [(show (ch3.toUInt32.toUInt16.toUInt32.toInt32) = ch3 from gd3.2.2.2)] at V189
            have Nf192 := Fr.snoc X189 Nf186 g_b142
            have kn193 : ∀ t, own_S p e below T189 (mkF m 231 #[.val (.int p0), .val (.int p1), .val (.int p2), .val (.int p3), .val (.int p4), .val (.int p5), .val (.int ch0), .val (.int ch1), .val (.int ch2), .val (.int ch3), .val (.int ch4), .val (.int ((p5 &&& (2147483647 : Int32)) % (6 : Int32))), .unset, .unset, .unset, .unset, .unset, .unset, .unset, .unset, .unset, .unset, .unset] [(.ref b142)]) t → Gl t := fun t kt => kn188 t (st189 _ kt)
            have kn194 : ∀ t, own_S p e below T189 (mkF m 236 #[.val (.int p0), .val (.int p1), .val (.int p2), .val (.int p3), .val (.int p4), .val (.int p5), .val (.int ch0), .val (.int ch1), .val (.int ch2), .val (.int ch3), .val (.int ch4), .val (.int ((p5 &&& (2147483647 : Int32)) % (6 : Int32))), .unset, .unset, .unset, .unset, .unset, .unset, .unset, .unset, .unset, .unset, .unset] [(.int ch4), (.int (8 : Int32)), (.ref b142), (.ref b142)]) t → Gl t := fun t kt => kn193 t (by
              show own_S p e below T189 (mkF m 231 #[.val (.int p0), .val (.int p1), .val (.int p2), .val (.int p3), .val (.int p4), .val (.int p5), .val (.int ch0), .val (.int ch1), .val (.int ch2), .val (.int ch3), .val (.int ch4), .val (.int ((p5 &&& (2147483647 : Int32)) % (6 : Int32))), .unset, .unset, .unset, .unset, .unset, .unset, .unset, .unset, .unset, .unset, .unset] [(.ref b142)]) _
              refine XS.dup X189.here hx rfl (hb hby at_231) rfl rfl ?_
              show own_S p e below T189 (mkF m 232 #[.val (.int p0), .val (.int p1), .val (.int p2), .val (.int p3), .val (.int p4), .val (.int p5), .val (.int ch0), .val (.int ch1), .val (.int ch2), .val (.int ch3), .val (.int ch4), .val (.int ((p5 &&& (2147483647 : Int32)) % (6 : Int32))), .unset, .unset, .unset, .unset, .unset, .unset, .unset, .unset, .unset, .unset, .unset] [(.ref b142), (.ref b142)]) _
              refine XS.bipush X189.here hx rfl (hb hby at_232) ?_
              show own_S p e below T189 (mkF m 234 #[.val (.int p0), .val (.int p1), .val (.int p2), .val (.int p3), .val (.int p4), .val (.int p5), .val (.int ch0), .val (.int ch1), .val (.int ch2), .val (.int ch3), .val (.int ch4), .val (.int ((p5 &&& (2147483647 : Int32)) % (6 : Int32))), .unset, .unset, .unset, .unset, .unset, .unset, .unset, .unset, .unset, .unset, .unset] [(.int (8 : Int32)), (.ref b142), (.ref b142)]) _
              refine XS.iload X189.here hx rfl (hb hby at_234) rfl ?_
              exact kt)
            obtain ⟨cl195, Ar195, q195, Sz195, Ng195, Hs195, Gs195⟩ := id V189
            have hin195 : ¬ ((8 : Int32) < 0 ∨ cl195.slots.size ≤ ((8 : Int32)).toNatClampNeg) := inb_of Sz195 ⟨by decide, by decide⟩
            obtain ⟨T195, h195, X195, e195, W195, st195⟩ := stC X189 hx hZ e189 Ar195 (j := (8 : Int32)) hin195 (g := (mkF m 236 #[.val (.int p0), .val (.int p1), .val (.int p2), .val (.int p3), .val (.int p4), .val (.int p5), .val (.int ch0), .val (.int ch1), .val (.int ch2), .val (.int ch3), .val (.int ch4), .val (.int ((p5 &&& (2147483647 : Int32)) % (6 : Int32))), .unset, .unset, .unset, .unset, .unset, .unset, .unset, .unset, .unset, .unset, .unset] [(.int ch4), (.int (8 : Int32)), (.ref b142), (.ref b142)])) rfl rfl (hb hby at_236)
            have Z196 : n0 ≤ h195.size := Nat.le_trans Z190 (Keep.of_wr W195).1
            have Od197 : Old Z n0 h195 := Od191.wr W195 g_b142
            have V195 : Arv Z h195 b142 kk142 .char (64 : Int32) ((.int ch0) :: (.int ch1) :: (.int ch2) :: (.int ch3) :: (.int ch4) :: (.int ch1) :: (.int ch2) :: (.int ch3) :: (.int (ch4.toUInt32.toUInt16.toUInt32.toInt32)) :: (.int (0 : Int32)) :: (.int (0 : Int32)) :: (.int (0 : Int32)) :: (.int (0 : Int32)) :: (.int (0 : Int32)) :: (.int (0 : Int32)) :: (.int (0 : Int32)) :: (.int (0 : Int32)) :: (.int (0 : Int32)) :: (.int (0 : Int32)) :: (.int (0 : Int32)) :: (.int (0 : Int32)) :: (.int (0 : Int32)) :: (.int (0 : Int32)) :: (.int (0 : Int32)) :: (.int (0 : Int32)) :: (.int (0 : Int32)) :: (.int (0 : Int32)) :: (.int (0 : Int32)) :: (.int (0 : Int32)) :: (.int (0 : Int32)) :: (.int (0 : Int32)) :: (.int (0 : Int32)) :: (.int (0 : Int32)) :: (.int (0 : Int32)) :: (.int (0 : Int32)) :: (.int (0 : Int32)) :: (.int (0 : Int32)) :: (.int (0 : Int32)) :: (.int (0 : Int32)) :: (.int (0 : Int32)) :: (.int (0 : Int32)) :: (.int (0 : Int32)) :: (.int (0 : Int32)) :: (.int (0 : Int32)) :: (.int (0 : Int32)) :: (.int (0 : Int32)) :: (.int (0 : Int32)) :: (.int (0 : Int32)) :: (.int (0 : Int32)) :: (.int (0 : Int32)) :: (.int (0 : Int32)) :: (.int (0 : Int32)) :: (.int (0 : Int32)) :: (.int (0 : Int32)) :: (.int (0 : Int32)) :: (.int (0 : Int32)) :: (.int (0 : Int32)) :: (.int (0 : Int32)) :: (.int (0 : Int32)) :: (.int (0 : Int32)) :: (.int (0 : Int32)) :: (.int (0 : Int32)) :: (.int (0 : Int32)) :: (.int (0 : Int32)) :: []) (.int (0 : Int32)) := Arv.set Ar195 q195 Sz195 Ng195 Hs195 Gs195 (fits_nar_char _) W195 8 rfl (Nat.le_of_ble_eq_true rfl)
            rw [(show (ch4.toUInt32.toUInt16.toUInt32.toInt32) = ch4 from gd4.2.2.2)] at V195
            have Nf198 := Fr.snoc X195 Nf192 g_b142
            have kn199 : ∀ t, own_S p e below T195 (mkF m 237 #[.val (.int p0), .val (.int p1), .val (.int p2), .val (.int p3), .val (.int p4), .val (.int p5), .val (.int ch0), .val (.int ch1), .val (.int ch2), .val (.int ch3), .val (.int ch4), .val (.int ((p5 &&& (2147483647 : Int32)) % (6 : Int32))), .unset, .unset, .unset, .unset, .unset, .unset, .unset, .unset, .unset, .unset, .unset] [(.ref b142)]) t → Gl t := fun t kt => kn194 t (st195 _ kt)
            have kn200 : ∀ t, own_S p e below T195 (mkF m 242 #[.val (.int p0), .val (.int p1), .val (.int p2), .val (.int p3), .val (.int p4), .val (.int p5), .val (.int ch0), .val (.int ch1), .val (.int ch2), .val (.int ch3), .val (.int ch4), .val (.int ((p5 &&& (2147483647 : Int32)) % (6 : Int32))), .unset, .unset, .unset, .unset, .unset, .unset, .unset, .unset, .unset, .unset, .unset] [(.int ch1), (.int (9 : Int32)), (.ref b142), (.ref b142)]) t → Gl t := fun t kt => kn199 t (by
              show own_S p e below T195 (mkF m 237 #[.val (.int p0), .val (.int p1), .val (.int p2), .val (.int p3), .val (.int p4), .val (.int p5), .val (.int ch0), .val (.int ch1), .val (.int ch2), .val (.int ch3), .val (.int ch4), .val (.int ((p5 &&& (2147483647 : Int32)) % (6 : Int32))), .unset, .unset, .unset, .unset, .unset, .unset, .unset, .unset, .unset, .unset, .unset] [(.ref b142)]) _
              refine XS.dup X195.here hx rfl (hb hby at_237) rfl rfl ?_
              show own_S p e below T195 (mkF m 238 #[.val (.int p0), .val (.int p1), .val (.int p2), .val (.int p3), .val (.int p4), .val (.int p5), .val (.int ch0), .val (.int ch1), .val (.int ch2), .val (.int ch3), .val (.int ch4), .val (.int ((p5 &&& (2147483647 : Int32)) % (6 : Int32))), .unset, .unset, .unset, .unset, .unset, .unset, .unset, .unset, .unset, .unset, .unset] [(.ref b142), (.ref b142)]) _
              refine XS.bipush X195.here hx rfl (hb hby at_238) ?_
              show own_S p e below T195 (mkF m 240 #[.val (.int p0), .val (.int p1), .val (.int p2), .val (.int p3), .val (.int p4), .val (.int p5), .val (.int ch0), .val (.int ch1), .val (.int ch2), .val (.int ch3), .val (.int ch4), .val (.int ((p5 &&& (2147483647 : Int32)) % (6 : Int32))), .unset, .unset, .unset, .unset, .unset, .unset, .unset, .unset, .unset, .unset, .unset] [(.int (9 : Int32)), (.ref b142), (.ref b142)]) _
              refine XS.iload X195.here hx rfl (hb hby at_240) rfl ?_
              exact kt)
            obtain ⟨cl201, Ar201, q201, Sz201, Ng201, Hs201, Gs201⟩ := id V195
            have hin201 : ¬ ((9 : Int32) < 0 ∨ cl201.slots.size ≤ ((9 : Int32)).toNatClampNeg) := inb_of Sz201 ⟨by decide, by decide⟩
            obtain ⟨T201, h201, X201, e201, W201, st201⟩ := stC X195 hx hZ e195 Ar201 (j := (9 : Int32)) hin201 (g := (mkF m 242 #[.val (.int p0), .val (.int p1), .val (.int p2), .val (.int p3), .val (.int p4), .val (.int p5), .val (.int ch0), .val (.int ch1), .val (.int ch2), .val (.int ch3), .val (.int ch4), .val (.int ((p5 &&& (2147483647 : Int32)) % (6 : Int32))), .unset, .unset, .unset, .unset, .unset, .unset, .unset, .unset, .unset, .unset, .unset] [(.int ch1), (.int (9 : Int32)), (.ref b142), (.ref b142)])) rfl rfl (hb hby at_242)
            have Z202 : n0 ≤ h201.size := Nat.le_trans Z196 (Keep.of_wr W201).1
            have Od203 : Old Z n0 h201 := Od197.wr W201 g_b142
            have V201 : Arv Z h201 b142 kk142 .char (64 : Int32) ((.int ch0) :: (.int ch1) :: (.int ch2) :: (.int ch3) :: (.int ch4) :: (.int ch1) :: (.int ch2) :: (.int ch3) :: (.int ch4) :: (.int (ch1.toUInt32.toUInt16.toUInt32.toInt32)) :: (.int (0 : Int32)) :: (.int (0 : Int32)) :: (.int (0 : Int32)) :: (.int (0 : Int32)) :: (.int (0 : Int32)) :: (.int (0 : Int32)) :: (.int (0 : Int32)) :: (.int (0 : Int32)) :: (.int (0 : Int32)) :: (.int (0 : Int32)) :: (.int (0 : Int32)) :: (.int (0 : Int32)) :: (.int (0 : Int32)) :: (.int (0 : Int32)) :: (.int (0 : Int32)) :: (.int (0 : Int32)) :: (.int (0 : Int32)) :: (.int (0 : Int32)) :: (.int (0 : Int32)) :: (.int (0 : Int32)) :: (.int (0 : Int32)) :: (.int (0 : Int32)) :: (.int (0 : Int32)) :: (.int (0 : Int32)) :: (.int (0 : Int32)) :: (.int (0 : Int32)) :: (.int (0 : Int32)) :: (.int (0 : Int32)) :: (.int (0 : Int32)) :: (.int (0 : Int32)) :: (.int (0 : Int32)) :: (.int (0 : Int32)) :: (.int (0 : Int32)) :: (.int (0 : Int32)) :: (.int (0 : Int32)) :: (.int (0 : Int32)) :: (.int (0 : Int32)) :: (.int (0 : Int32)) :: (.int (0 : Int32)) :: (.int (0 : Int32)) :: (.int (0 : Int32)) :: (.int (0 : Int32)) :: (.int (0 : Int32)) :: (.int (0 : Int32)) :: (.int (0 : Int32)) :: (.int (0 : Int32)) :: (.int (0 : Int32)) :: (.int (0 : Int32)) :: (.int (0 : Int32)) :: (.int (0 : Int32)) :: (.int (0 : Int32)) :: (.int (0 : Int32)) :: (.int (0 : Int32)) :: (.int (0 : Int32)) :: []) (.int (0 : Int32)) := Arv.set Ar201 q201 Sz201 Ng201 Hs201 Gs201 (fits_nar_char _) W201 9 rfl (Nat.le_of_ble_eq_true rfl)
            rw [(show (ch1.toUInt32.toUInt16.toUInt32.toInt32) = ch1 from gd1.2.2.2)] at V201
            have Nf204 := Fr.snoc X201 Nf198 g_b142
            have kn205 : ∀ t, own_S p e below T201 (mkF m 243 #[.val (.int p0), .val (.int p1), .val (.int p2), .val (.int p3), .val (.int p4), .val (.int p5), .val (.int ch0), .val (.int ch1), .val (.int ch2), .val (.int ch3), .val (.int ch4), .val (.int ((p5 &&& (2147483647 : Int32)) % (6 : Int32))), .unset, .unset, .unset, .unset, .unset, .unset, .unset, .unset, .unset, .unset, .unset] [(.ref b142)]) t → Gl t := fun t kt => kn200 t (st201 _ kt)
            have kn206 : ∀ t, own_S p e below T201 (mkF m 248 #[.val (.int p0), .val (.int p1), .val (.int p2), .val (.int p3), .val (.int p4), .val (.int p5), .val (.int ch0), .val (.int ch1), .val (.int ch2), .val (.int ch3), .val (.int ch4), .val (.int ((p5 &&& (2147483647 : Int32)) % (6 : Int32))), .unset, .unset, .unset, .unset, .unset, .unset, .unset, .unset, .unset, .unset, .unset] [(.int ch2), (.int (10 : Int32)), (.ref b142), (.ref b142)]) t → Gl t := fun t kt => kn205 t (by
              show own_S p e below T201 (mkF m 243 #[.val (.int p0), .val (.int p1), .val (.int p2), .val (.int p3), .val (.int p4), .val (.int p5), .val (.int ch0), .val (.int ch1), .val (.int ch2), .val (.int ch3), .val (.int ch4), .val (.int ((p5 &&& (2147483647 : Int32)) % (6 : Int32))), .unset, .unset, .unset, .unset, .unset, .unset, .unset, .unset, .unset, .unset, .unset] [(.ref b142)]) _
              refine XS.dup X201.here hx rfl (hb hby at_243) rfl rfl ?_
              show own_S p e below T201 (mkF m 244 #[.val (.int p0), .val (.int p1), .val (.int p2), .val (.int p3), .val (.int p4), .val (.int p5), .val (.int ch0), .val (.int ch1), .val (.int ch2), .val (.int ch3), .val (.int ch4), .val (.int ((p5 &&& (2147483647 : Int32)) % (6 : Int32))), .unset, .unset, .unset, .unset, .unset, .unset, .unset, .unset, .unset, .unset, .unset] [(.ref b142), (.ref b142)]) _
              refine XS.bipush X201.here hx rfl (hb hby at_244) ?_
              show own_S p e below T201 (mkF m 246 #[.val (.int p0), .val (.int p1), .val (.int p2), .val (.int p3), .val (.int p4), .val (.int p5), .val (.int ch0), .val (.int ch1), .val (.int ch2), .val (.int ch3), .val (.int ch4), .val (.int ((p5 &&& (2147483647 : Int32)) % (6 : Int32))), .unset, .unset, .unset, .unset, .unset, .unset, .unset, .unset, .unset, .unset, .unset] [(.int (10 : Int32)), (.ref b142), (.ref b142)]) _
              refine XS.iload X201.here hx rfl (hb hby at_246) rfl ?_
              exact kt)
            obtain ⟨cl207, Ar207, q207, Sz207, Ng207, Hs207, Gs207⟩ := id V201
            have hin207 : ¬ ((10 : Int32) < 0 ∨ cl207.slots.size ≤ ((10 : Int32)).toNatClampNeg) := inb_of Sz207 ⟨by decide, by decide⟩
            obtain ⟨T207, h207, X207, e207, W207, st207⟩ := stC X201 hx hZ e201 Ar207 (j := (10 : Int32)) hin207 (g := (mkF m 248 #[.val (.int p0), .val (.int p1), .val (.int p2), .val (.int p3), .val (.int p4), .val (.int p5), .val (.int ch0), .val (.int ch1), .val (.int ch2), .val (.int ch3), .val (.int ch4), .val (.int ((p5 &&& (2147483647 : Int32)) % (6 : Int32))), .unset, .unset, .unset, .unset, .unset, .unset, .unset, .unset, .unset, .unset, .unset] [(.int ch2), (.int (10 : Int32)), (.ref b142), (.ref b142)])) rfl rfl (hb hby at_248)
            have Z208 : n0 ≤ h207.size := Nat.le_trans Z202 (Keep.of_wr W207).1
            have Od209 : Old Z n0 h207 := Od203.wr W207 g_b142
            have V207 : Arv Z h207 b142 kk142 .char (64 : Int32) ((.int ch0) :: (.int ch1) :: (.int ch2) :: (.int ch3) :: (.int ch4) :: (.int ch1) :: (.int ch2) :: (.int ch3) :: (.int ch4) :: (.int ch1) :: (.int (ch2.toUInt32.toUInt16.toUInt32.toInt32)) :: (.int (0 : Int32)) :: (.int (0 : Int32)) :: (.int (0 : Int32)) :: (.int (0 : Int32)) :: (.int (0 : Int32)) :: (.int (0 : Int32)) :: (.int (0 : Int32)) :: (.int (0 : Int32)) :: (.int (0 : Int32)) :: (.int (0 : Int32)) :: (.int (0 : Int32)) :: (.int (0 : Int32)) :: (.int (0 : Int32)) :: (.int (0 : Int32)) :: (.int (0 : Int32)) :: (.int (0 : Int32)) :: (.int (0 : Int32)) :: (.int (0 : Int32)) :: (.int (0 : Int32)) :: (.int (0 : Int32)) :: (.int (0 : Int32)) :: (.int (0 : Int32)) :: (.int (0 : Int32)) :: (.int (0 : Int32)) :: (.int (0 : Int32)) :: (.int (0 : Int32)) :: (.int (0 : Int32)) :: (.int (0 : Int32)) :: (.int (0 : Int32)) :: (.int (0 : Int32)) :: (.int (0 : Int32)) :: (.int (0 : Int32)) :: (.int (0 : Int32)) :: (.int (0 : Int32)) :: (.int (0 : Int32)) :: (.int (0 : Int32)) :: (.int (0 : Int32)) :: (.int (0 : Int32)) :: (.int (0 : Int32)) :: (.int (0 : Int32)) :: (.int (0 : Int32)) :: (.int (0 : Int32)) :: (.int (0 : Int32)) :: (.int (0 : Int32)) :: (.int (0 : Int32)) :: (.int (0 : Int32)) :: (.int (0 : Int32)) :: (.int (0 : Int32)) :: (.int (0 : Int32)) :: (.int (0 : Int32)) :: (.int (0 : Int32)) :: (.int (0 : Int32)) :: (.int (0 : Int32)) :: []) (.int (0 : Int32)) := Arv.set Ar207 q207 Sz207 Ng207 Hs207 Gs207 (fits_nar_char _) W207 10 rfl (Nat.le_of_ble_eq_true rfl)
            rw [(show (ch2.toUInt32.toUInt16.toUInt32.toInt32) = ch2 from gd2.2.2.2)] at V207
            have Nf210 := Fr.snoc X207 Nf204 g_b142
            have kn211 : ∀ t, own_S p e below T207 (mkF m 249 #[.val (.int p0), .val (.int p1), .val (.int p2), .val (.int p3), .val (.int p4), .val (.int p5), .val (.int ch0), .val (.int ch1), .val (.int ch2), .val (.int ch3), .val (.int ch4), .val (.int ((p5 &&& (2147483647 : Int32)) % (6 : Int32))), .unset, .unset, .unset, .unset, .unset, .unset, .unset, .unset, .unset, .unset, .unset] [(.ref b142)]) t → Gl t := fun t kt => kn206 t (st207 _ kt)
            have kn212 : ∀ t, own_S p e below T207 (mkF m 254 #[.val (.int p0), .val (.int p1), .val (.int p2), .val (.int p3), .val (.int p4), .val (.int p5), .val (.int ch0), .val (.int ch1), .val (.int ch2), .val (.int ch3), .val (.int ch4), .val (.int ((p5 &&& (2147483647 : Int32)) % (6 : Int32))), .unset, .unset, .unset, .unset, .unset, .unset, .unset, .unset, .unset, .unset, .unset] [(.int ch3), (.int (11 : Int32)), (.ref b142), (.ref b142)]) t → Gl t := fun t kt => kn211 t (by
              show own_S p e below T207 (mkF m 249 #[.val (.int p0), .val (.int p1), .val (.int p2), .val (.int p3), .val (.int p4), .val (.int p5), .val (.int ch0), .val (.int ch1), .val (.int ch2), .val (.int ch3), .val (.int ch4), .val (.int ((p5 &&& (2147483647 : Int32)) % (6 : Int32))), .unset, .unset, .unset, .unset, .unset, .unset, .unset, .unset, .unset, .unset, .unset] [(.ref b142)]) _
              refine XS.dup X207.here hx rfl (hb hby at_249) rfl rfl ?_
              show own_S p e below T207 (mkF m 250 #[.val (.int p0), .val (.int p1), .val (.int p2), .val (.int p3), .val (.int p4), .val (.int p5), .val (.int ch0), .val (.int ch1), .val (.int ch2), .val (.int ch3), .val (.int ch4), .val (.int ((p5 &&& (2147483647 : Int32)) % (6 : Int32))), .unset, .unset, .unset, .unset, .unset, .unset, .unset, .unset, .unset, .unset, .unset] [(.ref b142), (.ref b142)]) _
              refine XS.bipush X207.here hx rfl (hb hby at_250) ?_
              show own_S p e below T207 (mkF m 252 #[.val (.int p0), .val (.int p1), .val (.int p2), .val (.int p3), .val (.int p4), .val (.int p5), .val (.int ch0), .val (.int ch1), .val (.int ch2), .val (.int ch3), .val (.int ch4), .val (.int ((p5 &&& (2147483647 : Int32)) % (6 : Int32))), .unset, .unset, .unset, .unset, .unset, .unset, .unset, .unset, .unset, .unset, .unset] [(.int (11 : Int32)), (.ref b142), (.ref b142)]) _
              refine XS.iload X207.here hx rfl (hb hby at_252) rfl ?_
              exact kt)
            obtain ⟨cl213, Ar213, q213, Sz213, Ng213, Hs213, Gs213⟩ := id V207
            have hin213 : ¬ ((11 : Int32) < 0 ∨ cl213.slots.size ≤ ((11 : Int32)).toNatClampNeg) := inb_of Sz213 ⟨by decide, by decide⟩
            obtain ⟨T213, h213, X213, e213, W213, st213⟩ := stC X207 hx hZ e207 Ar213 (j := (11 : Int32)) hin213 (g := (mkF m 254 #[.val (.int p0), .val (.int p1), .val (.int p2), .val (.int p3), .val (.int p4), .val (.int p5), .val (.int ch0), .val (.int ch1), .val (.int ch2), .val (.int ch3), .val (.int ch4), .val (.int ((p5 &&& (2147483647 : Int32)) % (6 : Int32))), .unset, .unset, .unset, .unset, .unset, .unset, .unset, .unset, .unset, .unset, .unset] [(.int ch3), (.int (11 : Int32)), (.ref b142), (.ref b142)])) rfl rfl (hb hby at_254)
            have Z214 : n0 ≤ h213.size := Nat.le_trans Z208 (Keep.of_wr W213).1
            have Od215 : Old Z n0 h213 := Od209.wr W213 g_b142
            have V213 : Arv Z h213 b142 kk142 .char (64 : Int32) ((.int ch0) :: (.int ch1) :: (.int ch2) :: (.int ch3) :: (.int ch4) :: (.int ch1) :: (.int ch2) :: (.int ch3) :: (.int ch4) :: (.int ch1) :: (.int ch2) :: (.int (ch3.toUInt32.toUInt16.toUInt32.toInt32)) :: (.int (0 : Int32)) :: (.int (0 : Int32)) :: (.int (0 : Int32)) :: (.int (0 : Int32)) :: (.int (0 : Int32)) :: (.int (0 : Int32)) :: (.int (0 : Int32)) :: (.int (0 : Int32)) :: (.int (0 : Int32)) :: (.int (0 : Int32)) :: (.int (0 : Int32)) :: (.int (0 : Int32)) :: (.int (0 : Int32)) :: (.int (0 : Int32)) :: (.int (0 : Int32)) :: (.int (0 : Int32)) :: (.int (0 : Int32)) :: (.int (0 : Int32)) :: (.int (0 : Int32)) :: (.int (0 : Int32)) :: (.int (0 : Int32)) :: (.int (0 : Int32)) :: (.int (0 : Int32)) :: (.int (0 : Int32)) :: (.int (0 : Int32)) :: (.int (0 : Int32)) :: (.int (0 : Int32)) :: (.int (0 : Int32)) :: (.int (0 : Int32)) :: (.int (0 : Int32)) :: (.int (0 : Int32)) :: (.int (0 : Int32)) :: (.int (0 : Int32)) :: (.int (0 : Int32)) :: (.int (0 : Int32)) :: (.int (0 : Int32)) :: (.int (0 : Int32)) :: (.int (0 : Int32)) :: (.int (0 : Int32)) :: (.int (0 : Int32)) :: (.int (0 : Int32)) :: (.int (0 : Int32)) :: (.int (0 : Int32)) :: (.int (0 : Int32)) :: (.int (0 : Int32)) :: (.int (0 : Int32)) :: (.int (0 : Int32)) :: (.int (0 : Int32)) :: (.int (0 : Int32)) :: (.int (0 : Int32)) :: (.int (0 : Int32)) :: (.int (0 : Int32)) :: []) (.int (0 : Int32)) := Arv.set Ar213 q213 Sz213 Ng213 Hs213 Gs213 (fits_nar_char _) W213 11 rfl (Nat.le_of_ble_eq_true rfl)
            rw [(show (ch3.toUInt32.toUInt16.toUInt32.toInt32) = ch3 from gd3.2.2.2)] at V213
            have Nf216 := Fr.snoc X213 Nf210 g_b142
            have kn217 : ∀ t, own_S p e below T213 (mkF m 255 #[.val (.int p0), .val (.int p1), .val (.int p2), .val (.int p3), .val (.int p4), .val (.int p5), .val (.int ch0), .val (.int ch1), .val (.int ch2), .val (.int ch3), .val (.int ch4), .val (.int ((p5 &&& (2147483647 : Int32)) % (6 : Int32))), .unset, .unset, .unset, .unset, .unset, .unset, .unset, .unset, .unset, .unset, .unset] [(.ref b142)]) t → Gl t := fun t kt => kn212 t (st213 _ kt)
            have kn218 : ∀ t, own_S p e below T213 (mkF m 260 #[.val (.int p0), .val (.int p1), .val (.int p2), .val (.int p3), .val (.int p4), .val (.int p5), .val (.int ch0), .val (.int ch1), .val (.int ch2), .val (.int ch3), .val (.int ch4), .val (.int ((p5 &&& (2147483647 : Int32)) % (6 : Int32))), .unset, .unset, .unset, .unset, .unset, .unset, .unset, .unset, .unset, .unset, .unset] [(.int ch4), (.int (12 : Int32)), (.ref b142), (.ref b142)]) t → Gl t := fun t kt => kn217 t (by
              show own_S p e below T213 (mkF m 255 #[.val (.int p0), .val (.int p1), .val (.int p2), .val (.int p3), .val (.int p4), .val (.int p5), .val (.int ch0), .val (.int ch1), .val (.int ch2), .val (.int ch3), .val (.int ch4), .val (.int ((p5 &&& (2147483647 : Int32)) % (6 : Int32))), .unset, .unset, .unset, .unset, .unset, .unset, .unset, .unset, .unset, .unset, .unset] [(.ref b142)]) _
              refine XS.dup X213.here hx rfl (hb hby at_255) rfl rfl ?_
              show own_S p e below T213 (mkF m 256 #[.val (.int p0), .val (.int p1), .val (.int p2), .val (.int p3), .val (.int p4), .val (.int p5), .val (.int ch0), .val (.int ch1), .val (.int ch2), .val (.int ch3), .val (.int ch4), .val (.int ((p5 &&& (2147483647 : Int32)) % (6 : Int32))), .unset, .unset, .unset, .unset, .unset, .unset, .unset, .unset, .unset, .unset, .unset] [(.ref b142), (.ref b142)]) _
              refine XS.bipush X213.here hx rfl (hb hby at_256) ?_
              show own_S p e below T213 (mkF m 258 #[.val (.int p0), .val (.int p1), .val (.int p2), .val (.int p3), .val (.int p4), .val (.int p5), .val (.int ch0), .val (.int ch1), .val (.int ch2), .val (.int ch3), .val (.int ch4), .val (.int ((p5 &&& (2147483647 : Int32)) % (6 : Int32))), .unset, .unset, .unset, .unset, .unset, .unset, .unset, .unset, .unset, .unset, .unset] [(.int (12 : Int32)), (.ref b142), (.ref b142)]) _
              refine XS.iload X213.here hx rfl (hb hby at_258) rfl ?_
              exact kt)
            obtain ⟨cl219, Ar219, q219, Sz219, Ng219, Hs219, Gs219⟩ := id V213
            have hin219 : ¬ ((12 : Int32) < 0 ∨ cl219.slots.size ≤ ((12 : Int32)).toNatClampNeg) := inb_of Sz219 ⟨by decide, by decide⟩
            obtain ⟨T219, h219, X219, e219, W219, st219⟩ := stC X213 hx hZ e213 Ar219 (j := (12 : Int32)) hin219 (g := (mkF m 260 #[.val (.int p0), .val (.int p1), .val (.int p2), .val (.int p3), .val (.int p4), .val (.int p5), .val (.int ch0), .val (.int ch1), .val (.int ch2), .val (.int ch3), .val (.int ch4), .val (.int ((p5 &&& (2147483647 : Int32)) % (6 : Int32))), .unset, .unset, .unset, .unset, .unset, .unset, .unset, .unset, .unset, .unset, .unset] [(.int ch4), (.int (12 : Int32)), (.ref b142), (.ref b142)])) rfl rfl (hb hby at_260)
            have Z220 : n0 ≤ h219.size := Nat.le_trans Z214 (Keep.of_wr W219).1
            have Od221 : Old Z n0 h219 := Od215.wr W219 g_b142
            have V219 : Arv Z h219 b142 kk142 .char (64 : Int32) ((.int ch0) :: (.int ch1) :: (.int ch2) :: (.int ch3) :: (.int ch4) :: (.int ch1) :: (.int ch2) :: (.int ch3) :: (.int ch4) :: (.int ch1) :: (.int ch2) :: (.int ch3) :: (.int (ch4.toUInt32.toUInt16.toUInt32.toInt32)) :: (.int (0 : Int32)) :: (.int (0 : Int32)) :: (.int (0 : Int32)) :: (.int (0 : Int32)) :: (.int (0 : Int32)) :: (.int (0 : Int32)) :: (.int (0 : Int32)) :: (.int (0 : Int32)) :: (.int (0 : Int32)) :: (.int (0 : Int32)) :: (.int (0 : Int32)) :: (.int (0 : Int32)) :: (.int (0 : Int32)) :: (.int (0 : Int32)) :: (.int (0 : Int32)) :: (.int (0 : Int32)) :: (.int (0 : Int32)) :: (.int (0 : Int32)) :: (.int (0 : Int32)) :: (.int (0 : Int32)) :: (.int (0 : Int32)) :: (.int (0 : Int32)) :: (.int (0 : Int32)) :: (.int (0 : Int32)) :: (.int (0 : Int32)) :: (.int (0 : Int32)) :: (.int (0 : Int32)) :: (.int (0 : Int32)) :: (.int (0 : Int32)) :: (.int (0 : Int32)) :: (.int (0 : Int32)) :: (.int (0 : Int32)) :: (.int (0 : Int32)) :: (.int (0 : Int32)) :: (.int (0 : Int32)) :: (.int (0 : Int32)) :: (.int (0 : Int32)) :: (.int (0 : Int32)) :: (.int (0 : Int32)) :: (.int (0 : Int32)) :: (.int (0 : Int32)) :: (.int (0 : Int32)) :: (.int (0 : Int32)) :: (.int (0 : Int32)) :: (.int (0 : Int32)) :: (.int (0 : Int32)) :: (.int (0 : Int32)) :: (.int (0 : Int32)) :: (.int (0 : Int32)) :: (.int (0 : Int32)) :: (.int (0 : Int32)) :: []) (.int (0 : Int32)) := Arv.set Ar219 q219 Sz219 Ng219 Hs219 Gs219 (fits_nar_char _) W219 12 rfl (Nat.le_of_ble_eq_true rfl)
            rw [(show (ch4.toUInt32.toUInt16.toUInt32.toInt32) = ch4 from gd4.2.2.2)] at V219
            have Nf222 := Fr.snoc X219 Nf216 g_b142
            have kn223 : ∀ t, own_S p e below T219 (mkF m 261 #[.val (.int p0), .val (.int p1), .val (.int p2), .val (.int p3), .val (.int p4), .val (.int p5), .val (.int ch0), .val (.int ch1), .val (.int ch2), .val (.int ch3), .val (.int ch4), .val (.int ((p5 &&& (2147483647 : Int32)) % (6 : Int32))), .unset, .unset, .unset, .unset, .unset, .unset, .unset, .unset, .unset, .unset, .unset] [(.ref b142)]) t → Gl t := fun t kt => kn218 t (st219 _ kt)
            have kn224 : ∀ t, own_S p e below T219 (mkF m 266 #[.val (.int p0), .val (.int p1), .val (.int p2), .val (.int p3), .val (.int p4), .val (.int p5), .val (.int ch0), .val (.int ch1), .val (.int ch2), .val (.int ch3), .val (.int ch4), .val (.int ((p5 &&& (2147483647 : Int32)) % (6 : Int32))), .unset, .unset, .unset, .unset, .unset, .unset, .unset, .unset, .unset, .unset, .unset] [(.int ch1), (.int (13 : Int32)), (.ref b142), (.ref b142)]) t → Gl t := fun t kt => kn223 t (by
              show own_S p e below T219 (mkF m 261 #[.val (.int p0), .val (.int p1), .val (.int p2), .val (.int p3), .val (.int p4), .val (.int p5), .val (.int ch0), .val (.int ch1), .val (.int ch2), .val (.int ch3), .val (.int ch4), .val (.int ((p5 &&& (2147483647 : Int32)) % (6 : Int32))), .unset, .unset, .unset, .unset, .unset, .unset, .unset, .unset, .unset, .unset, .unset] [(.ref b142)]) _
              refine XS.dup X219.here hx rfl (hb hby at_261) rfl rfl ?_
              show own_S p e below T219 (mkF m 262 #[.val (.int p0), .val (.int p1), .val (.int p2), .val (.int p3), .val (.int p4), .val (.int p5), .val (.int ch0), .val (.int ch1), .val (.int ch2), .val (.int ch3), .val (.int ch4), .val (.int ((p5 &&& (2147483647 : Int32)) % (6 : Int32))), .unset, .unset, .unset, .unset, .unset, .unset, .unset, .unset, .unset, .unset, .unset] [(.ref b142), (.ref b142)]) _
              refine XS.bipush X219.here hx rfl (hb hby at_262) ?_
              show own_S p e below T219 (mkF m 264 #[.val (.int p0), .val (.int p1), .val (.int p2), .val (.int p3), .val (.int p4), .val (.int p5), .val (.int ch0), .val (.int ch1), .val (.int ch2), .val (.int ch3), .val (.int ch4), .val (.int ((p5 &&& (2147483647 : Int32)) % (6 : Int32))), .unset, .unset, .unset, .unset, .unset, .unset, .unset, .unset, .unset, .unset, .unset] [(.int (13 : Int32)), (.ref b142), (.ref b142)]) _
              refine XS.iload X219.here hx rfl (hb hby at_264) rfl ?_
              exact kt)
            obtain ⟨cl225, Ar225, q225, Sz225, Ng225, Hs225, Gs225⟩ := id V219
            have hin225 : ¬ ((13 : Int32) < 0 ∨ cl225.slots.size ≤ ((13 : Int32)).toNatClampNeg) := inb_of Sz225 ⟨by decide, by decide⟩
            obtain ⟨T225, h225, X225, e225, W225, st225⟩ := stC X219 hx hZ e219 Ar225 (j := (13 : Int32)) hin225 (g := (mkF m 266 #[.val (.int p0), .val (.int p1), .val (.int p2), .val (.int p3), .val (.int p4), .val (.int p5), .val (.int ch0), .val (.int ch1), .val (.int ch2), .val (.int ch3), .val (.int ch4), .val (.int ((p5 &&& (2147483647 : Int32)) % (6 : Int32))), .unset, .unset, .unset, .unset, .unset, .unset, .unset, .unset, .unset, .unset, .unset] [(.int ch1), (.int (13 : Int32)), (.ref b142), (.ref b142)])) rfl rfl (hb hby at_266)
            have Z226 : n0 ≤ h225.size := Nat.le_trans Z220 (Keep.of_wr W225).1
            have Od227 : Old Z n0 h225 := Od221.wr W225 g_b142
            have V225 : Arv Z h225 b142 kk142 .char (64 : Int32) ((.int ch0) :: (.int ch1) :: (.int ch2) :: (.int ch3) :: (.int ch4) :: (.int ch1) :: (.int ch2) :: (.int ch3) :: (.int ch4) :: (.int ch1) :: (.int ch2) :: (.int ch3) :: (.int ch4) :: (.int (ch1.toUInt32.toUInt16.toUInt32.toInt32)) :: (.int (0 : Int32)) :: (.int (0 : Int32)) :: (.int (0 : Int32)) :: (.int (0 : Int32)) :: (.int (0 : Int32)) :: (.int (0 : Int32)) :: (.int (0 : Int32)) :: (.int (0 : Int32)) :: (.int (0 : Int32)) :: (.int (0 : Int32)) :: (.int (0 : Int32)) :: (.int (0 : Int32)) :: (.int (0 : Int32)) :: (.int (0 : Int32)) :: (.int (0 : Int32)) :: (.int (0 : Int32)) :: (.int (0 : Int32)) :: (.int (0 : Int32)) :: (.int (0 : Int32)) :: (.int (0 : Int32)) :: (.int (0 : Int32)) :: (.int (0 : Int32)) :: (.int (0 : Int32)) :: (.int (0 : Int32)) :: (.int (0 : Int32)) :: (.int (0 : Int32)) :: (.int (0 : Int32)) :: (.int (0 : Int32)) :: (.int (0 : Int32)) :: (.int (0 : Int32)) :: (.int (0 : Int32)) :: (.int (0 : Int32)) :: (.int (0 : Int32)) :: (.int (0 : Int32)) :: (.int (0 : Int32)) :: (.int (0 : Int32)) :: (.int (0 : Int32)) :: (.int (0 : Int32)) :: (.int (0 : Int32)) :: (.int (0 : Int32)) :: (.int (0 : Int32)) :: (.int (0 : Int32)) :: (.int (0 : Int32)) :: (.int (0 : Int32)) :: (.int (0 : Int32)) :: (.int (0 : Int32)) :: (.int (0 : Int32)) :: (.int (0 : Int32)) :: (.int (0 : Int32)) :: (.int (0 : Int32)) :: []) (.int (0 : Int32)) := Arv.set Ar225 q225 Sz225 Ng225 Hs225 Gs225 (fits_nar_char _) W225 13 rfl (Nat.le_of_ble_eq_true rfl)
            rw [(show (ch1.toUInt32.toUInt16.toUInt32.toInt32) = ch1 from gd1.2.2.2)] at V225
            have Nf228 := Fr.snoc X225 Nf222 g_b142
            have kn229 : ∀ t, own_S p e below T225 (mkF m 267 #[.val (.int p0), .val (.int p1), .val (.int p2), .val (.int p3), .val (.int p4), .val (.int p5), .val (.int ch0), .val (.int ch1), .val (.int ch2), .val (.int ch3), .val (.int ch4), .val (.int ((p5 &&& (2147483647 : Int32)) % (6 : Int32))), .unset, .unset, .unset, .unset, .unset, .unset, .unset, .unset, .unset, .unset, .unset] [(.ref b142)]) t → Gl t := fun t kt => kn224 t (st225 _ kt)
            have kn230 : ∀ t, own_S p e below T225 (mkF m 272 #[.val (.int p0), .val (.int p1), .val (.int p2), .val (.int p3), .val (.int p4), .val (.int p5), .val (.int ch0), .val (.int ch1), .val (.int ch2), .val (.int ch3), .val (.int ch4), .val (.int ((p5 &&& (2147483647 : Int32)) % (6 : Int32))), .unset, .unset, .unset, .unset, .unset, .unset, .unset, .unset, .unset, .unset, .unset] [(.int ch2), (.int (14 : Int32)), (.ref b142), (.ref b142)]) t → Gl t := fun t kt => kn229 t (by
              show own_S p e below T225 (mkF m 267 #[.val (.int p0), .val (.int p1), .val (.int p2), .val (.int p3), .val (.int p4), .val (.int p5), .val (.int ch0), .val (.int ch1), .val (.int ch2), .val (.int ch3), .val (.int ch4), .val (.int ((p5 &&& (2147483647 : Int32)) % (6 : Int32))), .unset, .unset, .unset, .unset, .unset, .unset, .unset, .unset, .unset, .unset, .unset] [(.ref b142)]) _
              refine XS.dup X225.here hx rfl (hb hby at_267) rfl rfl ?_
              show own_S p e below T225 (mkF m 268 #[.val (.int p0), .val (.int p1), .val (.int p2), .val (.int p3), .val (.int p4), .val (.int p5), .val (.int ch0), .val (.int ch1), .val (.int ch2), .val (.int ch3), .val (.int ch4), .val (.int ((p5 &&& (2147483647 : Int32)) % (6 : Int32))), .unset, .unset, .unset, .unset, .unset, .unset, .unset, .unset, .unset, .unset, .unset] [(.ref b142), (.ref b142)]) _
              refine XS.bipush X225.here hx rfl (hb hby at_268) ?_
              show own_S p e below T225 (mkF m 270 #[.val (.int p0), .val (.int p1), .val (.int p2), .val (.int p3), .val (.int p4), .val (.int p5), .val (.int ch0), .val (.int ch1), .val (.int ch2), .val (.int ch3), .val (.int ch4), .val (.int ((p5 &&& (2147483647 : Int32)) % (6 : Int32))), .unset, .unset, .unset, .unset, .unset, .unset, .unset, .unset, .unset, .unset, .unset] [(.int (14 : Int32)), (.ref b142), (.ref b142)]) _
              refine XS.iload X225.here hx rfl (hb hby at_270) rfl ?_
              exact kt)
            obtain ⟨cl231, Ar231, q231, Sz231, Ng231, Hs231, Gs231⟩ := id V225
            have hin231 : ¬ ((14 : Int32) < 0 ∨ cl231.slots.size ≤ ((14 : Int32)).toNatClampNeg) := inb_of Sz231 ⟨by decide, by decide⟩
            obtain ⟨T231, h231, X231, e231, W231, st231⟩ := stC X225 hx hZ e225 Ar231 (j := (14 : Int32)) hin231 (g := (mkF m 272 #[.val (.int p0), .val (.int p1), .val (.int p2), .val (.int p3), .val (.int p4), .val (.int p5), .val (.int ch0), .val (.int ch1), .val (.int ch2), .val (.int ch3), .val (.int ch4), .val (.int ((p5 &&& (2147483647 : Int32)) % (6 : Int32))), .unset, .unset, .unset, .unset, .unset, .unset, .unset, .unset, .unset, .unset, .unset] [(.int ch2), (.int (14 : Int32)), (.ref b142), (.ref b142)])) rfl rfl (hb hby at_272)
            have Z232 : n0 ≤ h231.size := Nat.le_trans Z226 (Keep.of_wr W231).1
            have Od233 : Old Z n0 h231 := Od227.wr W231 g_b142
            have V231 : Arv Z h231 b142 kk142 .char (64 : Int32) ((.int ch0) :: (.int ch1) :: (.int ch2) :: (.int ch3) :: (.int ch4) :: (.int ch1) :: (.int ch2) :: (.int ch3) :: (.int ch4) :: (.int ch1) :: (.int ch2) :: (.int ch3) :: (.int ch4) :: (.int ch1) :: (.int (ch2.toUInt32.toUInt16.toUInt32.toInt32)) :: (.int (0 : Int32)) :: (.int (0 : Int32)) :: (.int (0 : Int32)) :: (.int (0 : Int32)) :: (.int (0 : Int32)) :: (.int (0 : Int32)) :: (.int (0 : Int32)) :: (.int (0 : Int32)) :: (.int (0 : Int32)) :: (.int (0 : Int32)) :: (.int (0 : Int32)) :: (.int (0 : Int32)) :: (.int (0 : Int32)) :: (.int (0 : Int32)) :: (.int (0 : Int32)) :: (.int (0 : Int32)) :: (.int (0 : Int32)) :: (.int (0 : Int32)) :: (.int (0 : Int32)) :: (.int (0 : Int32)) :: (.int (0 : Int32)) :: (.int (0 : Int32)) :: (.int (0 : Int32)) :: (.int (0 : Int32)) :: (.int (0 : Int32)) :: (.int (0 : Int32)) :: (.int (0 : Int32)) :: (.int (0 : Int32)) :: (.int (0 : Int32)) :: (.int (0 : Int32)) :: (.int (0 : Int32)) :: (.int (0 : Int32)) :: (.int (0 : Int32)) :: (.int (0 : Int32)) :: (.int (0 : Int32)) :: (.int (0 : Int32)) :: (.int (0 : Int32)) :: (.int (0 : Int32)) :: (.int (0 : Int32)) :: (.int (0 : Int32)) :: (.int (0 : Int32)) :: (.int (0 : Int32)) :: (.int (0 : Int32)) :: (.int (0 : Int32)) :: (.int (0 : Int32)) :: (.int (0 : Int32)) :: (.int (0 : Int32)) :: (.int (0 : Int32)) :: (.int (0 : Int32)) :: []) (.int (0 : Int32)) := Arv.set Ar231 q231 Sz231 Ng231 Hs231 Gs231 (fits_nar_char _) W231 14 rfl (Nat.le_of_ble_eq_true rfl)
            rw [(show (ch2.toUInt32.toUInt16.toUInt32.toInt32) = ch2 from gd2.2.2.2)] at V231
            have Nf234 := Fr.snoc X231 Nf228 g_b142
            have kn235 : ∀ t, own_S p e below T231 (mkF m 273 #[.val (.int p0), .val (.int p1), .val (.int p2), .val (.int p3), .val (.int p4), .val (.int p5), .val (.int ch0), .val (.int ch1), .val (.int ch2), .val (.int ch3), .val (.int ch4), .val (.int ((p5 &&& (2147483647 : Int32)) % (6 : Int32))), .unset, .unset, .unset, .unset, .unset, .unset, .unset, .unset, .unset, .unset, .unset] [(.ref b142)]) t → Gl t := fun t kt => kn230 t (st231 _ kt)
            have kn236 : ∀ t, own_S p e below T231 (mkF m 278 #[.val (.int p0), .val (.int p1), .val (.int p2), .val (.int p3), .val (.int p4), .val (.int p5), .val (.int ch0), .val (.int ch1), .val (.int ch2), .val (.int ch3), .val (.int ch4), .val (.int ((p5 &&& (2147483647 : Int32)) % (6 : Int32))), .unset, .unset, .unset, .unset, .unset, .unset, .unset, .unset, .unset, .unset, .unset] [(.int ch3), (.int (15 : Int32)), (.ref b142), (.ref b142)]) t → Gl t := fun t kt => kn235 t (by
              show own_S p e below T231 (mkF m 273 #[.val (.int p0), .val (.int p1), .val (.int p2), .val (.int p3), .val (.int p4), .val (.int p5), .val (.int ch0), .val (.int ch1), .val (.int ch2), .val (.int ch3), .val (.int ch4), .val (.int ((p5 &&& (2147483647 : Int32)) % (6 : Int32))), .unset, .unset, .unset, .unset, .unset, .unset, .unset, .unset, .unset, .unset, .unset] [(.ref b142)]) _
              refine XS.dup X231.here hx rfl (hb hby at_273) rfl rfl ?_
              show own_S p e below T231 (mkF m 274 #[.val (.int p0), .val (.int p1), .val (.int p2), .val (.int p3), .val (.int p4), .val (.int p5), .val (.int ch0), .val (.int ch1), .val (.int ch2), .val (.int ch3), .val (.int ch4), .val (.int ((p5 &&& (2147483647 : Int32)) % (6 : Int32))), .unset, .unset, .unset, .unset, .unset, .unset, .unset, .unset, .unset, .unset, .unset] [(.ref b142), (.ref b142)]) _
              refine XS.bipush X231.here hx rfl (hb hby at_274) ?_
              show own_S p e below T231 (mkF m 276 #[.val (.int p0), .val (.int p1), .val (.int p2), .val (.int p3), .val (.int p4), .val (.int p5), .val (.int ch0), .val (.int ch1), .val (.int ch2), .val (.int ch3), .val (.int ch4), .val (.int ((p5 &&& (2147483647 : Int32)) % (6 : Int32))), .unset, .unset, .unset, .unset, .unset, .unset, .unset, .unset, .unset, .unset, .unset] [(.int (15 : Int32)), (.ref b142), (.ref b142)]) _
              refine XS.iload X231.here hx rfl (hb hby at_276) rfl ?_
              exact kt)
            obtain ⟨cl237, Ar237, q237, Sz237, Ng237, Hs237, Gs237⟩ := id V231
            have hin237 : ¬ ((15 : Int32) < 0 ∨ cl237.slots.size ≤ ((15 : Int32)).toNatClampNeg) := inb_of Sz237 ⟨by decide, by decide⟩
            obtain ⟨T237, h237, X237, e237, W237, st237⟩ := stC X231 hx hZ e231 Ar237 (j := (15 : Int32)) hin237 (g := (mkF m 278 #[.val (.int p0), .val (.int p1), .val (.int p2), .val (.int p3), .val (.int p4), .val (.int p5), .val (.int ch0), .val (.int ch1), .val (.int ch2), .val (.int ch3), .val (.int ch4), .val (.int ((p5 &&& (2147483647 : Int32)) % (6 : Int32))), .unset, .unset, .unset, .unset, .unset, .unset, .unset, .unset, .unset, .unset, .unset] [(.int ch3), (.int (15 : Int32)), (.ref b142), (.ref b142)])) rfl rfl (hb hby at_278)
            have Z238 : n0 ≤ h237.size := Nat.le_trans Z232 (Keep.of_wr W237).1
            have Od239 : Old Z n0 h237 := Od233.wr W237 g_b142
            have V237 : Arv Z h237 b142 kk142 .char (64 : Int32) ((.int ch0) :: (.int ch1) :: (.int ch2) :: (.int ch3) :: (.int ch4) :: (.int ch1) :: (.int ch2) :: (.int ch3) :: (.int ch4) :: (.int ch1) :: (.int ch2) :: (.int ch3) :: (.int ch4) :: (.int ch1) :: (.int ch2) :: (.int (ch3.toUInt32.toUInt16.toUInt32.toInt32)) :: (.int (0 : Int32)) :: (.int (0 : Int32)) :: (.int (0 : Int32)) :: (.int (0 : Int32)) :: (.int (0 : Int32)) :: (.int (0 : Int32)) :: (.int (0 : Int32)) :: (.int (0 : Int32)) :: (.int (0 : Int32)) :: (.int (0 : Int32)) :: (.int (0 : Int32)) :: (.int (0 : Int32)) :: (.int (0 : Int32)) :: (.int (0 : Int32)) :: (.int (0 : Int32)) :: (.int (0 : Int32)) :: (.int (0 : Int32)) :: (.int (0 : Int32)) :: (.int (0 : Int32)) :: (.int (0 : Int32)) :: (.int (0 : Int32)) :: (.int (0 : Int32)) :: (.int (0 : Int32)) :: (.int (0 : Int32)) :: (.int (0 : Int32)) :: (.int (0 : Int32)) :: (.int (0 : Int32)) :: (.int (0 : Int32)) :: (.int (0 : Int32)) :: (.int (0 : Int32)) :: (.int (0 : Int32)) :: (.int (0 : Int32)) :: (.int (0 : Int32)) :: (.int (0 : Int32)) :: (.int (0 : Int32)) :: (.int (0 : Int32)) :: (.int (0 : Int32)) :: (.int (0 : Int32)) :: (.int (0 : Int32)) :: (.int (0 : Int32)) :: (.int (0 : Int32)) :: (.int (0 : Int32)) :: (.int (0 : Int32)) :: (.int (0 : Int32)) :: (.int (0 : Int32)) :: (.int (0 : Int32)) :: (.int (0 : Int32)) :: (.int (0 : Int32)) :: []) (.int (0 : Int32)) := Arv.set Ar237 q237 Sz237 Ng237 Hs237 Gs237 (fits_nar_char _) W237 15 rfl (Nat.le_of_ble_eq_true rfl)
            rw [(show (ch3.toUInt32.toUInt16.toUInt32.toInt32) = ch3 from gd3.2.2.2)] at V237
            have Nf240 := Fr.snoc X237 Nf234 g_b142
            have kn241 : ∀ t, own_S p e below T237 (mkF m 279 #[.val (.int p0), .val (.int p1), .val (.int p2), .val (.int p3), .val (.int p4), .val (.int p5), .val (.int ch0), .val (.int ch1), .val (.int ch2), .val (.int ch3), .val (.int ch4), .val (.int ((p5 &&& (2147483647 : Int32)) % (6 : Int32))), .unset, .unset, .unset, .unset, .unset, .unset, .unset, .unset, .unset, .unset, .unset] [(.ref b142)]) t → Gl t := fun t kt => kn236 t (st237 _ kt)
            have kn242 : ∀ t, own_S p e below T237 (mkF m 284 #[.val (.int p0), .val (.int p1), .val (.int p2), .val (.int p3), .val (.int p4), .val (.int p5), .val (.int ch0), .val (.int ch1), .val (.int ch2), .val (.int ch3), .val (.int ch4), .val (.int ((p5 &&& (2147483647 : Int32)) % (6 : Int32))), .unset, .unset, .unset, .unset, .unset, .unset, .unset, .unset, .unset, .unset, .unset] [(.int ch4), (.int (16 : Int32)), (.ref b142), (.ref b142)]) t → Gl t := fun t kt => kn241 t (by
              show own_S p e below T237 (mkF m 279 #[.val (.int p0), .val (.int p1), .val (.int p2), .val (.int p3), .val (.int p4), .val (.int p5), .val (.int ch0), .val (.int ch1), .val (.int ch2), .val (.int ch3), .val (.int ch4), .val (.int ((p5 &&& (2147483647 : Int32)) % (6 : Int32))), .unset, .unset, .unset, .unset, .unset, .unset, .unset, .unset, .unset, .unset, .unset] [(.ref b142)]) _
              refine XS.dup X237.here hx rfl (hb hby at_279) rfl rfl ?_
              show own_S p e below T237 (mkF m 280 #[.val (.int p0), .val (.int p1), .val (.int p2), .val (.int p3), .val (.int p4), .val (.int p5), .val (.int ch0), .val (.int ch1), .val (.int ch2), .val (.int ch3), .val (.int ch4), .val (.int ((p5 &&& (2147483647 : Int32)) % (6 : Int32))), .unset, .unset, .unset, .unset, .unset, .unset, .unset, .unset, .unset, .unset, .unset] [(.ref b142), (.ref b142)]) _
              refine XS.bipush X237.here hx rfl (hb hby at_280) ?_
              show own_S p e below T237 (mkF m 282 #[.val (.int p0), .val (.int p1), .val (.int p2), .val (.int p3), .val (.int p4), .val (.int p5), .val (.int ch0), .val (.int ch1), .val (.int ch2), .val (.int ch3), .val (.int ch4), .val (.int ((p5 &&& (2147483647 : Int32)) % (6 : Int32))), .unset, .unset, .unset, .unset, .unset, .unset, .unset, .unset, .unset, .unset, .unset] [(.int (16 : Int32)), (.ref b142), (.ref b142)]) _
              refine XS.iload X237.here hx rfl (hb hby at_282) rfl ?_
              exact kt)
            obtain ⟨cl243, Ar243, q243, Sz243, Ng243, Hs243, Gs243⟩ := id V237
            have hin243 : ¬ ((16 : Int32) < 0 ∨ cl243.slots.size ≤ ((16 : Int32)).toNatClampNeg) := inb_of Sz243 ⟨by decide, by decide⟩
            obtain ⟨T243, h243, X243, e243, W243, st243⟩ := stC X237 hx hZ e237 Ar243 (j := (16 : Int32)) hin243 (g := (mkF m 284 #[.val (.int p0), .val (.int p1), .val (.int p2), .val (.int p3), .val (.int p4), .val (.int p5), .val (.int ch0), .val (.int ch1), .val (.int ch2), .val (.int ch3), .val (.int ch4), .val (.int ((p5 &&& (2147483647 : Int32)) % (6 : Int32))), .unset, .unset, .unset, .unset, .unset, .unset, .unset, .unset, .unset, .unset, .unset] [(.int ch4), (.int (16 : Int32)), (.ref b142), (.ref b142)])) rfl rfl (hb hby at_284)
            have Z244 : n0 ≤ h243.size := Nat.le_trans Z238 (Keep.of_wr W243).1
            have Od245 : Old Z n0 h243 := Od239.wr W243 g_b142
            have V243 : Arv Z h243 b142 kk142 .char (64 : Int32) ((.int ch0) :: (.int ch1) :: (.int ch2) :: (.int ch3) :: (.int ch4) :: (.int ch1) :: (.int ch2) :: (.int ch3) :: (.int ch4) :: (.int ch1) :: (.int ch2) :: (.int ch3) :: (.int ch4) :: (.int ch1) :: (.int ch2) :: (.int ch3) :: (.int (ch4.toUInt32.toUInt16.toUInt32.toInt32)) :: (.int (0 : Int32)) :: (.int (0 : Int32)) :: (.int (0 : Int32)) :: (.int (0 : Int32)) :: (.int (0 : Int32)) :: (.int (0 : Int32)) :: (.int (0 : Int32)) :: (.int (0 : Int32)) :: (.int (0 : Int32)) :: (.int (0 : Int32)) :: (.int (0 : Int32)) :: (.int (0 : Int32)) :: (.int (0 : Int32)) :: (.int (0 : Int32)) :: (.int (0 : Int32)) :: (.int (0 : Int32)) :: (.int (0 : Int32)) :: (.int (0 : Int32)) :: (.int (0 : Int32)) :: (.int (0 : Int32)) :: (.int (0 : Int32)) :: (.int (0 : Int32)) :: (.int (0 : Int32)) :: (.int (0 : Int32)) :: (.int (0 : Int32)) :: (.int (0 : Int32)) :: (.int (0 : Int32)) :: (.int (0 : Int32)) :: (.int (0 : Int32)) :: (.int (0 : Int32)) :: (.int (0 : Int32)) :: (.int (0 : Int32)) :: (.int (0 : Int32)) :: (.int (0 : Int32)) :: (.int (0 : Int32)) :: (.int (0 : Int32)) :: (.int (0 : Int32)) :: (.int (0 : Int32)) :: (.int (0 : Int32)) :: (.int (0 : Int32)) :: (.int (0 : Int32)) :: (.int (0 : Int32)) :: (.int (0 : Int32)) :: (.int (0 : Int32)) :: (.int (0 : Int32)) :: (.int (0 : Int32)) :: (.int (0 : Int32)) :: []) (.int (0 : Int32)) := Arv.set Ar243 q243 Sz243 Ng243 Hs243 Gs243 (fits_nar_char _) W243 16 rfl (Nat.le_of_ble_eq_true rfl)
            rw [(show (ch4.toUInt32.toUInt16.toUInt32.toInt32) = ch4 from gd4.2.2.2)] at V243
            have Nf246 := Fr.snoc X243 Nf240 g_b142
            have kn247 : ∀ t, own_S p e below T243 (mkF m 285 #[.val (.int p0), .val (.int p1), .val (.int p2), .val (.int p3), .val (.int p4), .val (.int p5), .val (.int ch0), .val (.int ch1), .val (.int ch2), .val (.int ch3), .val (.int ch4), .val (.int ((p5 &&& (2147483647 : Int32)) % (6 : Int32))), .unset, .unset, .unset, .unset, .unset, .unset, .unset, .unset, .unset, .unset, .unset] [(.ref b142)]) t → Gl t := fun t kt => kn242 t (st243 _ kt)
            have kn248 : ∀ t, own_S p e below T243 (mkF m 290 #[.val (.int p0), .val (.int p1), .val (.int p2), .val (.int p3), .val (.int p4), .val (.int p5), .val (.int ch0), .val (.int ch1), .val (.int ch2), .val (.int ch3), .val (.int ch4), .val (.int ((p5 &&& (2147483647 : Int32)) % (6 : Int32))), .unset, .unset, .unset, .unset, .unset, .unset, .unset, .unset, .unset, .unset, .unset] [(.int ch1), (.int (17 : Int32)), (.ref b142), (.ref b142)]) t → Gl t := fun t kt => kn247 t (by
              show own_S p e below T243 (mkF m 285 #[.val (.int p0), .val (.int p1), .val (.int p2), .val (.int p3), .val (.int p4), .val (.int p5), .val (.int ch0), .val (.int ch1), .val (.int ch2), .val (.int ch3), .val (.int ch4), .val (.int ((p5 &&& (2147483647 : Int32)) % (6 : Int32))), .unset, .unset, .unset, .unset, .unset, .unset, .unset, .unset, .unset, .unset, .unset] [(.ref b142)]) _
              refine XS.dup X243.here hx rfl (hb hby at_285) rfl rfl ?_
              show own_S p e below T243 (mkF m 286 #[.val (.int p0), .val (.int p1), .val (.int p2), .val (.int p3), .val (.int p4), .val (.int p5), .val (.int ch0), .val (.int ch1), .val (.int ch2), .val (.int ch3), .val (.int ch4), .val (.int ((p5 &&& (2147483647 : Int32)) % (6 : Int32))), .unset, .unset, .unset, .unset, .unset, .unset, .unset, .unset, .unset, .unset, .unset] [(.ref b142), (.ref b142)]) _
              refine XS.bipush X243.here hx rfl (hb hby at_286) ?_
              show own_S p e below T243 (mkF m 288 #[.val (.int p0), .val (.int p1), .val (.int p2), .val (.int p3), .val (.int p4), .val (.int p5), .val (.int ch0), .val (.int ch1), .val (.int ch2), .val (.int ch3), .val (.int ch4), .val (.int ((p5 &&& (2147483647 : Int32)) % (6 : Int32))), .unset, .unset, .unset, .unset, .unset, .unset, .unset, .unset, .unset, .unset, .unset] [(.int (17 : Int32)), (.ref b142), (.ref b142)]) _
              refine XS.iload X243.here hx rfl (hb hby at_288) rfl ?_
              exact kt)
            obtain ⟨cl249, Ar249, q249, Sz249, Ng249, Hs249, Gs249⟩ := id V243
            have hin249 : ¬ ((17 : Int32) < 0 ∨ cl249.slots.size ≤ ((17 : Int32)).toNatClampNeg) := inb_of Sz249 ⟨by decide, by decide⟩
            obtain ⟨T249, h249, X249, e249, W249, st249⟩ := stC X243 hx hZ e243 Ar249 (j := (17 : Int32)) hin249 (g := (mkF m 290 #[.val (.int p0), .val (.int p1), .val (.int p2), .val (.int p3), .val (.int p4), .val (.int p5), .val (.int ch0), .val (.int ch1), .val (.int ch2), .val (.int ch3), .val (.int ch4), .val (.int ((p5 &&& (2147483647 : Int32)) % (6 : Int32))), .unset, .unset, .unset, .unset, .unset, .unset, .unset, .unset, .unset, .unset, .unset] [(.int ch1), (.int (17 : Int32)), (.ref b142), (.ref b142)])) rfl rfl (hb hby at_290)
            have Z250 : n0 ≤ h249.size := Nat.le_trans Z244 (Keep.of_wr W249).1
            have Od251 : Old Z n0 h249 := Od245.wr W249 g_b142
            have V249 : Arv Z h249 b142 kk142 .char (64 : Int32) ((.int ch0) :: (.int ch1) :: (.int ch2) :: (.int ch3) :: (.int ch4) :: (.int ch1) :: (.int ch2) :: (.int ch3) :: (.int ch4) :: (.int ch1) :: (.int ch2) :: (.int ch3) :: (.int ch4) :: (.int ch1) :: (.int ch2) :: (.int ch3) :: (.int ch4) :: (.int (ch1.toUInt32.toUInt16.toUInt32.toInt32)) :: (.int (0 : Int32)) :: (.int (0 : Int32)) :: (.int (0 : Int32)) :: (.int (0 : Int32)) :: (.int (0 : Int32)) :: (.int (0 : Int32)) :: (.int (0 : Int32)) :: (.int (0 : Int32)) :: (.int (0 : Int32)) :: (.int (0 : Int32)) :: (.int (0 : Int32)) :: (.int (0 : Int32)) :: (.int (0 : Int32)) :: (.int (0 : Int32)) :: (.int (0 : Int32)) :: (.int (0 : Int32)) :: (.int (0 : Int32)) :: (.int (0 : Int32)) :: (.int (0 : Int32)) :: (.int (0 : Int32)) :: (.int (0 : Int32)) :: (.int (0 : Int32)) :: (.int (0 : Int32)) :: (.int (0 : Int32)) :: (.int (0 : Int32)) :: (.int (0 : Int32)) :: (.int (0 : Int32)) :: (.int (0 : Int32)) :: (.int (0 : Int32)) :: (.int (0 : Int32)) :: (.int (0 : Int32)) :: (.int (0 : Int32)) :: (.int (0 : Int32)) :: (.int (0 : Int32)) :: (.int (0 : Int32)) :: (.int (0 : Int32)) :: (.int (0 : Int32)) :: (.int (0 : Int32)) :: (.int (0 : Int32)) :: (.int (0 : Int32)) :: (.int (0 : Int32)) :: (.int (0 : Int32)) :: (.int (0 : Int32)) :: (.int (0 : Int32)) :: (.int (0 : Int32)) :: (.int (0 : Int32)) :: []) (.int (0 : Int32)) := Arv.set Ar249 q249 Sz249 Ng249 Hs249 Gs249 (fits_nar_char _) W249 17 rfl (Nat.le_of_ble_eq_true rfl)
            rw [(show (ch1.toUInt32.toUInt16.toUInt32.toInt32) = ch1 from gd1.2.2.2)] at V249
            have Nf252 := Fr.snoc X249 Nf246 g_b142
            have kn253 : ∀ t, own_S p e below T249 (mkF m 291 #[.val (.int p0), .val (.int p1), .val (.int p2), .val (.int p3), .val (.int p4), .val (.int p5), .val (.int ch0), .val (.int ch1), .val (.int ch2), .val (.int ch3), .val (.int ch4), .val (.int ((p5 &&& (2147483647 : Int32)) % (6 : Int32))), .unset, .unset, .unset, .unset, .unset, .unset, .unset, .unset, .unset, .unset, .unset] [(.ref b142)]) t → Gl t := fun t kt => kn248 t (st249 _ kt)
            have kn254 : ∀ t, own_S p e below T249 (mkF m 296 #[.val (.int p0), .val (.int p1), .val (.int p2), .val (.int p3), .val (.int p4), .val (.int p5), .val (.int ch0), .val (.int ch1), .val (.int ch2), .val (.int ch3), .val (.int ch4), .val (.int ((p5 &&& (2147483647 : Int32)) % (6 : Int32))), .unset, .unset, .unset, .unset, .unset, .unset, .unset, .unset, .unset, .unset, .unset] [(.int ch2), (.int (18 : Int32)), (.ref b142), (.ref b142)]) t → Gl t := fun t kt => kn253 t (by
              show own_S p e below T249 (mkF m 291 #[.val (.int p0), .val (.int p1), .val (.int p2), .val (.int p3), .val (.int p4), .val (.int p5), .val (.int ch0), .val (.int ch1), .val (.int ch2), .val (.int ch3), .val (.int ch4), .val (.int ((p5 &&& (2147483647 : Int32)) % (6 : Int32))), .unset, .unset, .unset, .unset, .unset, .unset, .unset, .unset, .unset, .unset, .unset] [(.ref b142)]) _
              refine XS.dup X249.here hx rfl (hb hby at_291) rfl rfl ?_
              show own_S p e below T249 (mkF m 292 #[.val (.int p0), .val (.int p1), .val (.int p2), .val (.int p3), .val (.int p4), .val (.int p5), .val (.int ch0), .val (.int ch1), .val (.int ch2), .val (.int ch3), .val (.int ch4), .val (.int ((p5 &&& (2147483647 : Int32)) % (6 : Int32))), .unset, .unset, .unset, .unset, .unset, .unset, .unset, .unset, .unset, .unset, .unset] [(.ref b142), (.ref b142)]) _
              refine XS.bipush X249.here hx rfl (hb hby at_292) ?_
              show own_S p e below T249 (mkF m 294 #[.val (.int p0), .val (.int p1), .val (.int p2), .val (.int p3), .val (.int p4), .val (.int p5), .val (.int ch0), .val (.int ch1), .val (.int ch2), .val (.int ch3), .val (.int ch4), .val (.int ((p5 &&& (2147483647 : Int32)) % (6 : Int32))), .unset, .unset, .unset, .unset, .unset, .unset, .unset, .unset, .unset, .unset, .unset] [(.int (18 : Int32)), (.ref b142), (.ref b142)]) _
              refine XS.iload X249.here hx rfl (hb hby at_294) rfl ?_
              exact kt)
            obtain ⟨cl255, Ar255, q255, Sz255, Ng255, Hs255, Gs255⟩ := id V249
            have hin255 : ¬ ((18 : Int32) < 0 ∨ cl255.slots.size ≤ ((18 : Int32)).toNatClampNeg) := inb_of Sz255 ⟨by decide, by decide⟩
            obtain ⟨T255, h255, X255, e255, W255, st255⟩ := stC X249 hx hZ e249 Ar255 (j := (18 : Int32)) hin255 (g := (mkF m 296 #[.val (.int p0), .val (.int p1), .val (.int p2), .val (.int p3), .val (.int p4), .val (.int p5), .val (.int ch0), .val (.int ch1), .val (.int ch2), .val (.int ch3), .val (.int ch4), .val (.int ((p5 &&& (2147483647 : Int32)) % (6 : Int32))), .unset, .unset, .unset, .unset, .unset, .unset, .unset, .unset, .unset, .unset, .unset] [(.int ch2), (.int (18 : Int32)), (.ref b142), (.ref b142)])) rfl rfl (hb hby at_296)
            have Z256 : n0 ≤ h255.size := Nat.le_trans Z250 (Keep.of_wr W255).1
            have Od257 : Old Z n0 h255 := Od251.wr W255 g_b142
            have V255 : Arv Z h255 b142 kk142 .char (64 : Int32) ((.int ch0) :: (.int ch1) :: (.int ch2) :: (.int ch3) :: (.int ch4) :: (.int ch1) :: (.int ch2) :: (.int ch3) :: (.int ch4) :: (.int ch1) :: (.int ch2) :: (.int ch3) :: (.int ch4) :: (.int ch1) :: (.int ch2) :: (.int ch3) :: (.int ch4) :: (.int ch1) :: (.int (ch2.toUInt32.toUInt16.toUInt32.toInt32)) :: (.int (0 : Int32)) :: (.int (0 : Int32)) :: (.int (0 : Int32)) :: (.int (0 : Int32)) :: (.int (0 : Int32)) :: (.int (0 : Int32)) :: (.int (0 : Int32)) :: (.int (0 : Int32)) :: (.int (0 : Int32)) :: (.int (0 : Int32)) :: (.int (0 : Int32)) :: (.int (0 : Int32)) :: (.int (0 : Int32)) :: (.int (0 : Int32)) :: (.int (0 : Int32)) :: (.int (0 : Int32)) :: (.int (0 : Int32)) :: (.int (0 : Int32)) :: (.int (0 : Int32)) :: (.int (0 : Int32)) :: (.int (0 : Int32)) :: (.int (0 : Int32)) :: (.int (0 : Int32)) :: (.int (0 : Int32)) :: (.int (0 : Int32)) :: (.int (0 : Int32)) :: (.int (0 : Int32)) :: (.int (0 : Int32)) :: (.int (0 : Int32)) :: (.int (0 : Int32)) :: (.int (0 : Int32)) :: (.int (0 : Int32)) :: (.int (0 : Int32)) :: (.int (0 : Int32)) :: (.int (0 : Int32)) :: (.int (0 : Int32)) :: (.int (0 : Int32)) :: (.int (0 : Int32)) :: (.int (0 : Int32)) :: (.int (0 : Int32)) :: (.int (0 : Int32)) :: (.int (0 : Int32)) :: (.int (0 : Int32)) :: (.int (0 : Int32)) :: (.int (0 : Int32)) :: []) (.int (0 : Int32)) := Arv.set Ar255 q255 Sz255 Ng255 Hs255 Gs255 (fits_nar_char _) W255 18 rfl (Nat.le_of_ble_eq_true rfl)
            rw [(show (ch2.toUInt32.toUInt16.toUInt32.toInt32) = ch2 from gd2.2.2.2)] at V255
            have Nf258 := Fr.snoc X255 Nf252 g_b142
            have kn259 : ∀ t, own_S p e below T255 (mkF m 297 #[.val (.int p0), .val (.int p1), .val (.int p2), .val (.int p3), .val (.int p4), .val (.int p5), .val (.int ch0), .val (.int ch1), .val (.int ch2), .val (.int ch3), .val (.int ch4), .val (.int ((p5 &&& (2147483647 : Int32)) % (6 : Int32))), .unset, .unset, .unset, .unset, .unset, .unset, .unset, .unset, .unset, .unset, .unset] [(.ref b142)]) t → Gl t := fun t kt => kn254 t (st255 _ kt)
            have kn260 : ∀ t, own_S p e below T255 (mkF m 302 #[.val (.int p0), .val (.int p1), .val (.int p2), .val (.int p3), .val (.int p4), .val (.int p5), .val (.int ch0), .val (.int ch1), .val (.int ch2), .val (.int ch3), .val (.int ch4), .val (.int ((p5 &&& (2147483647 : Int32)) % (6 : Int32))), .unset, .unset, .unset, .unset, .unset, .unset, .unset, .unset, .unset, .unset, .unset] [(.int ch3), (.int (19 : Int32)), (.ref b142), (.ref b142)]) t → Gl t := fun t kt => kn259 t (by
              show own_S p e below T255 (mkF m 297 #[.val (.int p0), .val (.int p1), .val (.int p2), .val (.int p3), .val (.int p4), .val (.int p5), .val (.int ch0), .val (.int ch1), .val (.int ch2), .val (.int ch3), .val (.int ch4), .val (.int ((p5 &&& (2147483647 : Int32)) % (6 : Int32))), .unset, .unset, .unset, .unset, .unset, .unset, .unset, .unset, .unset, .unset, .unset] [(.ref b142)]) _
              refine XS.dup X255.here hx rfl (hb hby at_297) rfl rfl ?_
              show own_S p e below T255 (mkF m 298 #[.val (.int p0), .val (.int p1), .val (.int p2), .val (.int p3), .val (.int p4), .val (.int p5), .val (.int ch0), .val (.int ch1), .val (.int ch2), .val (.int ch3), .val (.int ch4), .val (.int ((p5 &&& (2147483647 : Int32)) % (6 : Int32))), .unset, .unset, .unset, .unset, .unset, .unset, .unset, .unset, .unset, .unset, .unset] [(.ref b142), (.ref b142)]) _
              refine XS.bipush X255.here hx rfl (hb hby at_298) ?_
              show own_S p e below T255 (mkF m 300 #[.val (.int p0), .val (.int p1), .val (.int p2), .val (.int p3), .val (.int p4), .val (.int p5), .val (.int ch0), .val (.int ch1), .val (.int ch2), .val (.int ch3), .val (.int ch4), .val (.int ((p5 &&& (2147483647 : Int32)) % (6 : Int32))), .unset, .unset, .unset, .unset, .unset, .unset, .unset, .unset, .unset, .unset, .unset] [(.int (19 : Int32)), (.ref b142), (.ref b142)]) _
              refine XS.iload X255.here hx rfl (hb hby at_300) rfl ?_
              exact kt)
            obtain ⟨cl261, Ar261, q261, Sz261, Ng261, Hs261, Gs261⟩ := id V255
            have hin261 : ¬ ((19 : Int32) < 0 ∨ cl261.slots.size ≤ ((19 : Int32)).toNatClampNeg) := inb_of Sz261 ⟨by decide, by decide⟩
            obtain ⟨T261, h261, X261, e261, W261, st261⟩ := stC X255 hx hZ e255 Ar261 (j := (19 : Int32)) hin261 (g := (mkF m 302 #[.val (.int p0), .val (.int p1), .val (.int p2), .val (.int p3), .val (.int p4), .val (.int p5), .val (.int ch0), .val (.int ch1), .val (.int ch2), .val (.int ch3), .val (.int ch4), .val (.int ((p5 &&& (2147483647 : Int32)) % (6 : Int32))), .unset, .unset, .unset, .unset, .unset, .unset, .unset, .unset, .unset, .unset, .unset] [(.int ch3), (.int (19 : Int32)), (.ref b142), (.ref b142)])) rfl rfl (hb hby at_302)
            have Z262 : n0 ≤ h261.size := Nat.le_trans Z256 (Keep.of_wr W261).1
            have Od263 : Old Z n0 h261 := Od257.wr W261 g_b142
            have V261 : Arv Z h261 b142 kk142 .char (64 : Int32) ((.int ch0) :: (.int ch1) :: (.int ch2) :: (.int ch3) :: (.int ch4) :: (.int ch1) :: (.int ch2) :: (.int ch3) :: (.int ch4) :: (.int ch1) :: (.int ch2) :: (.int ch3) :: (.int ch4) :: (.int ch1) :: (.int ch2) :: (.int ch3) :: (.int ch4) :: (.int ch1) :: (.int ch2) :: (.int (ch3.toUInt32.toUInt16.toUInt32.toInt32)) :: (.int (0 : Int32)) :: (.int (0 : Int32)) :: (.int (0 : Int32)) :: (.int (0 : Int32)) :: (.int (0 : Int32)) :: (.int (0 : Int32)) :: (.int (0 : Int32)) :: (.int (0 : Int32)) :: (.int (0 : Int32)) :: (.int (0 : Int32)) :: (.int (0 : Int32)) :: (.int (0 : Int32)) :: (.int (0 : Int32)) :: (.int (0 : Int32)) :: (.int (0 : Int32)) :: (.int (0 : Int32)) :: (.int (0 : Int32)) :: (.int (0 : Int32)) :: (.int (0 : Int32)) :: (.int (0 : Int32)) :: (.int (0 : Int32)) :: (.int (0 : Int32)) :: (.int (0 : Int32)) :: (.int (0 : Int32)) :: (.int (0 : Int32)) :: (.int (0 : Int32)) :: (.int (0 : Int32)) :: (.int (0 : Int32)) :: (.int (0 : Int32)) :: (.int (0 : Int32)) :: (.int (0 : Int32)) :: (.int (0 : Int32)) :: (.int (0 : Int32)) :: (.int (0 : Int32)) :: (.int (0 : Int32)) :: (.int (0 : Int32)) :: (.int (0 : Int32)) :: (.int (0 : Int32)) :: (.int (0 : Int32)) :: (.int (0 : Int32)) :: (.int (0 : Int32)) :: (.int (0 : Int32)) :: (.int (0 : Int32)) :: (.int (0 : Int32)) :: []) (.int (0 : Int32)) := Arv.set Ar261 q261 Sz261 Ng261 Hs261 Gs261 (fits_nar_char _) W261 19 rfl (Nat.le_of_ble_eq_true rfl)
            rw [(show (ch3.toUInt32.toUInt16.toUInt32.toInt32) = ch3 from gd3.2.2.2)] at V261
            have Nf264 := Fr.snoc X261 Nf258 g_b142
            have kn265 : ∀ t, own_S p e below T261 (mkF m 303 #[.val (.int p0), .val (.int p1), .val (.int p2), .val (.int p3), .val (.int p4), .val (.int p5), .val (.int ch0), .val (.int ch1), .val (.int ch2), .val (.int ch3), .val (.int ch4), .val (.int ((p5 &&& (2147483647 : Int32)) % (6 : Int32))), .unset, .unset, .unset, .unset, .unset, .unset, .unset, .unset, .unset, .unset, .unset] [(.ref b142)]) t → Gl t := fun t kt => kn260 t (st261 _ kt)
            have kn266 : ∀ t, own_S p e below T261 (mkF m 308 #[.val (.int p0), .val (.int p1), .val (.int p2), .val (.int p3), .val (.int p4), .val (.int p5), .val (.int ch0), .val (.int ch1), .val (.int ch2), .val (.int ch3), .val (.int ch4), .val (.int ((p5 &&& (2147483647 : Int32)) % (6 : Int32))), .unset, .unset, .unset, .unset, .unset, .unset, .unset, .unset, .unset, .unset, .unset] [(.int ch4), (.int (20 : Int32)), (.ref b142), (.ref b142)]) t → Gl t := fun t kt => kn265 t (by
              show own_S p e below T261 (mkF m 303 #[.val (.int p0), .val (.int p1), .val (.int p2), .val (.int p3), .val (.int p4), .val (.int p5), .val (.int ch0), .val (.int ch1), .val (.int ch2), .val (.int ch3), .val (.int ch4), .val (.int ((p5 &&& (2147483647 : Int32)) % (6 : Int32))), .unset, .unset, .unset, .unset, .unset, .unset, .unset, .unset, .unset, .unset, .unset] [(.ref b142)]) _
              refine XS.dup X261.here hx rfl (hb hby at_303) rfl rfl ?_
              show own_S p e below T261 (mkF m 304 #[.val (.int p0), .val (.int p1), .val (.int p2), .val (.int p3), .val (.int p4), .val (.int p5), .val (.int ch0), .val (.int ch1), .val (.int ch2), .val (.int ch3), .val (.int ch4), .val (.int ((p5 &&& (2147483647 : Int32)) % (6 : Int32))), .unset, .unset, .unset, .unset, .unset, .unset, .unset, .unset, .unset, .unset, .unset] [(.ref b142), (.ref b142)]) _
              refine XS.bipush X261.here hx rfl (hb hby at_304) ?_
              show own_S p e below T261 (mkF m 306 #[.val (.int p0), .val (.int p1), .val (.int p2), .val (.int p3), .val (.int p4), .val (.int p5), .val (.int ch0), .val (.int ch1), .val (.int ch2), .val (.int ch3), .val (.int ch4), .val (.int ((p5 &&& (2147483647 : Int32)) % (6 : Int32))), .unset, .unset, .unset, .unset, .unset, .unset, .unset, .unset, .unset, .unset, .unset] [(.int (20 : Int32)), (.ref b142), (.ref b142)]) _
              refine XS.iload X261.here hx rfl (hb hby at_306) rfl ?_
              exact kt)
            obtain ⟨cl267, Ar267, q267, Sz267, Ng267, Hs267, Gs267⟩ := id V261
            have hin267 : ¬ ((20 : Int32) < 0 ∨ cl267.slots.size ≤ ((20 : Int32)).toNatClampNeg) := inb_of Sz267 ⟨by decide, by decide⟩
            obtain ⟨T267, h267, X267, e267, W267, st267⟩ := stC X261 hx hZ e261 Ar267 (j := (20 : Int32)) hin267 (g := (mkF m 308 #[.val (.int p0), .val (.int p1), .val (.int p2), .val (.int p3), .val (.int p4), .val (.int p5), .val (.int ch0), .val (.int ch1), .val (.int ch2), .val (.int ch3), .val (.int ch4), .val (.int ((p5 &&& (2147483647 : Int32)) % (6 : Int32))), .unset, .unset, .unset, .unset, .unset, .unset, .unset, .unset, .unset, .unset, .unset] [(.int ch4), (.int (20 : Int32)), (.ref b142), (.ref b142)])) rfl rfl (hb hby at_308)
            have Z268 : n0 ≤ h267.size := Nat.le_trans Z262 (Keep.of_wr W267).1
            have Od269 : Old Z n0 h267 := Od263.wr W267 g_b142
            have V267 : Arv Z h267 b142 kk142 .char (64 : Int32) ((.int ch0) :: (.int ch1) :: (.int ch2) :: (.int ch3) :: (.int ch4) :: (.int ch1) :: (.int ch2) :: (.int ch3) :: (.int ch4) :: (.int ch1) :: (.int ch2) :: (.int ch3) :: (.int ch4) :: (.int ch1) :: (.int ch2) :: (.int ch3) :: (.int ch4) :: (.int ch1) :: (.int ch2) :: (.int ch3) :: (.int (ch4.toUInt32.toUInt16.toUInt32.toInt32)) :: (.int (0 : Int32)) :: (.int (0 : Int32)) :: (.int (0 : Int32)) :: (.int (0 : Int32)) :: (.int (0 : Int32)) :: (.int (0 : Int32)) :: (.int (0 : Int32)) :: (.int (0 : Int32)) :: (.int (0 : Int32)) :: (.int (0 : Int32)) :: (.int (0 : Int32)) :: (.int (0 : Int32)) :: (.int (0 : Int32)) :: (.int (0 : Int32)) :: (.int (0 : Int32)) :: (.int (0 : Int32)) :: (.int (0 : Int32)) :: (.int (0 : Int32)) :: (.int (0 : Int32)) :: (.int (0 : Int32)) :: (.int (0 : Int32)) :: (.int (0 : Int32)) :: (.int (0 : Int32)) :: (.int (0 : Int32)) :: (.int (0 : Int32)) :: (.int (0 : Int32)) :: (.int (0 : Int32)) :: (.int (0 : Int32)) :: (.int (0 : Int32)) :: (.int (0 : Int32)) :: (.int (0 : Int32)) :: (.int (0 : Int32)) :: (.int (0 : Int32)) :: (.int (0 : Int32)) :: (.int (0 : Int32)) :: (.int (0 : Int32)) :: (.int (0 : Int32)) :: (.int (0 : Int32)) :: (.int (0 : Int32)) :: (.int (0 : Int32)) :: (.int (0 : Int32)) :: (.int (0 : Int32)) :: (.int (0 : Int32)) :: []) (.int (0 : Int32)) := Arv.set Ar267 q267 Sz267 Ng267 Hs267 Gs267 (fits_nar_char _) W267 20 rfl (Nat.le_of_ble_eq_true rfl)
            rw [(show (ch4.toUInt32.toUInt16.toUInt32.toInt32) = ch4 from gd4.2.2.2)] at V267
            have Nf270 := Fr.snoc X267 Nf264 g_b142
            have kn271 : ∀ t, own_S p e below T267 (mkF m 309 #[.val (.int p0), .val (.int p1), .val (.int p2), .val (.int p3), .val (.int p4), .val (.int p5), .val (.int ch0), .val (.int ch1), .val (.int ch2), .val (.int ch3), .val (.int ch4), .val (.int ((p5 &&& (2147483647 : Int32)) % (6 : Int32))), .unset, .unset, .unset, .unset, .unset, .unset, .unset, .unset, .unset, .unset, .unset] [(.ref b142)]) t → Gl t := fun t kt => kn266 t (st267 _ kt)
            have kn272 : ∀ t, own_S p e below T267 (mkF m 314 #[.val (.int p0), .val (.int p1), .val (.int p2), .val (.int p3), .val (.int p4), .val (.int p5), .val (.int ch0), .val (.int ch1), .val (.int ch2), .val (.int ch3), .val (.int ch4), .val (.int ((p5 &&& (2147483647 : Int32)) % (6 : Int32))), .unset, .unset, .unset, .unset, .unset, .unset, .unset, .unset, .unset, .unset, .unset] [(.int ch1), (.int (21 : Int32)), (.ref b142), (.ref b142)]) t → Gl t := fun t kt => kn271 t (by
              show own_S p e below T267 (mkF m 309 #[.val (.int p0), .val (.int p1), .val (.int p2), .val (.int p3), .val (.int p4), .val (.int p5), .val (.int ch0), .val (.int ch1), .val (.int ch2), .val (.int ch3), .val (.int ch4), .val (.int ((p5 &&& (2147483647 : Int32)) % (6 : Int32))), .unset, .unset, .unset, .unset, .unset, .unset, .unset, .unset, .unset, .unset, .unset] [(.ref b142)]) _
              refine XS.dup X267.here hx rfl (hb hby at_309) rfl rfl ?_
              show own_S p e below T267 (mkF m 310 #[.val (.int p0), .val (.int p1), .val (.int p2), .val (.int p3), .val (.int p4), .val (.int p5), .val (.int ch0), .val (.int ch1), .val (.int ch2), .val (.int ch3), .val (.int ch4), .val (.int ((p5 &&& (2147483647 : Int32)) % (6 : Int32))), .unset, .unset, .unset, .unset, .unset, .unset, .unset, .unset, .unset, .unset, .unset] [(.ref b142), (.ref b142)]) _
              refine XS.bipush X267.here hx rfl (hb hby at_310) ?_
              show own_S p e below T267 (mkF m 312 #[.val (.int p0), .val (.int p1), .val (.int p2), .val (.int p3), .val (.int p4), .val (.int p5), .val (.int ch0), .val (.int ch1), .val (.int ch2), .val (.int ch3), .val (.int ch4), .val (.int ((p5 &&& (2147483647 : Int32)) % (6 : Int32))), .unset, .unset, .unset, .unset, .unset, .unset, .unset, .unset, .unset, .unset, .unset] [(.int (21 : Int32)), (.ref b142), (.ref b142)]) _
              refine XS.iload X267.here hx rfl (hb hby at_312) rfl ?_
              exact kt)
            obtain ⟨cl273, Ar273, q273, Sz273, Ng273, Hs273, Gs273⟩ := id V267
            have hin273 : ¬ ((21 : Int32) < 0 ∨ cl273.slots.size ≤ ((21 : Int32)).toNatClampNeg) := inb_of Sz273 ⟨by decide, by decide⟩
            obtain ⟨T273, h273, X273, e273, W273, st273⟩ := stC X267 hx hZ e267 Ar273 (j := (21 : Int32)) hin273 (g := (mkF m 314 #[.val (.int p0), .val (.int p1), .val (.int p2), .val (.int p3), .val (.int p4), .val (.int p5), .val (.int ch0), .val (.int ch1), .val (.int ch2), .val (.int ch3), .val (.int ch4), .val (.int ((p5 &&& (2147483647 : Int32)) % (6 : Int32))), .unset, .unset, .unset, .unset, .unset, .unset, .unset, .unset, .unset, .unset, .unset] [(.int ch1), (.int (21 : Int32)), (.ref b142), (.ref b142)])) rfl rfl (hb hby at_314)
            have Z274 : n0 ≤ h273.size := Nat.le_trans Z268 (Keep.of_wr W273).1
            have Od275 : Old Z n0 h273 := Od269.wr W273 g_b142
            have V273 : Arv Z h273 b142 kk142 .char (64 : Int32) ((.int ch0) :: (.int ch1) :: (.int ch2) :: (.int ch3) :: (.int ch4) :: (.int ch1) :: (.int ch2) :: (.int ch3) :: (.int ch4) :: (.int ch1) :: (.int ch2) :: (.int ch3) :: (.int ch4) :: (.int ch1) :: (.int ch2) :: (.int ch3) :: (.int ch4) :: (.int ch1) :: (.int ch2) :: (.int ch3) :: (.int ch4) :: (.int (ch1.toUInt32.toUInt16.toUInt32.toInt32)) :: (.int (0 : Int32)) :: (.int (0 : Int32)) :: (.int (0 : Int32)) :: (.int (0 : Int32)) :: (.int (0 : Int32)) :: (.int (0 : Int32)) :: (.int (0 : Int32)) :: (.int (0 : Int32)) :: (.int (0 : Int32)) :: (.int (0 : Int32)) :: (.int (0 : Int32)) :: (.int (0 : Int32)) :: (.int (0 : Int32)) :: (.int (0 : Int32)) :: (.int (0 : Int32)) :: (.int (0 : Int32)) :: (.int (0 : Int32)) :: (.int (0 : Int32)) :: (.int (0 : Int32)) :: (.int (0 : Int32)) :: (.int (0 : Int32)) :: (.int (0 : Int32)) :: (.int (0 : Int32)) :: (.int (0 : Int32)) :: (.int (0 : Int32)) :: (.int (0 : Int32)) :: (.int (0 : Int32)) :: (.int (0 : Int32)) :: (.int (0 : Int32)) :: (.int (0 : Int32)) :: (.int (0 : Int32)) :: (.int (0 : Int32)) :: (.int (0 : Int32)) :: (.int (0 : Int32)) :: (.int (0 : Int32)) :: (.int (0 : Int32)) :: (.int (0 : Int32)) :: (.int (0 : Int32)) :: (.int (0 : Int32)) :: (.int (0 : Int32)) :: (.int (0 : Int32)) :: (.int (0 : Int32)) :: []) (.int (0 : Int32)) := Arv.set Ar273 q273 Sz273 Ng273 Hs273 Gs273 (fits_nar_char _) W273 21 rfl (Nat.le_of_ble_eq_true rfl)
            rw [(show (ch1.toUInt32.toUInt16.toUInt32.toInt32) = ch1 from gd1.2.2.2)] at V273
            have Nf276 := Fr.snoc X273 Nf270 g_b142
            have kn277 : ∀ t, own_S p e below T273 (mkF m 315 #[.val (.int p0), .val (.int p1), .val (.int p2), .val (.int p3), .val (.int p4), .val (.int p5), .val (.int ch0), .val (.int ch1), .val (.int ch2), .val (.int ch3), .val (.int ch4), .val (.int ((p5 &&& (2147483647 : Int32)) % (6 : Int32))), .unset, .unset, .unset, .unset, .unset, .unset, .unset, .unset, .unset, .unset, .unset] [(.ref b142)]) t → Gl t := fun t kt => kn272 t (st273 _ kt)
            have kn278 : ∀ t, own_S p e below T273 (mkF m 320 #[.val (.int p0), .val (.int p1), .val (.int p2), .val (.int p3), .val (.int p4), .val (.int p5), .val (.int ch0), .val (.int ch1), .val (.int ch2), .val (.int ch3), .val (.int ch4), .val (.int ((p5 &&& (2147483647 : Int32)) % (6 : Int32))), .unset, .unset, .unset, .unset, .unset, .unset, .unset, .unset, .unset, .unset, .unset] [(.int ch2), (.int (22 : Int32)), (.ref b142), (.ref b142)]) t → Gl t := fun t kt => kn277 t (by
              show own_S p e below T273 (mkF m 315 #[.val (.int p0), .val (.int p1), .val (.int p2), .val (.int p3), .val (.int p4), .val (.int p5), .val (.int ch0), .val (.int ch1), .val (.int ch2), .val (.int ch3), .val (.int ch4), .val (.int ((p5 &&& (2147483647 : Int32)) % (6 : Int32))), .unset, .unset, .unset, .unset, .unset, .unset, .unset, .unset, .unset, .unset, .unset] [(.ref b142)]) _
              refine XS.dup X273.here hx rfl (hb hby at_315) rfl rfl ?_
              show own_S p e below T273 (mkF m 316 #[.val (.int p0), .val (.int p1), .val (.int p2), .val (.int p3), .val (.int p4), .val (.int p5), .val (.int ch0), .val (.int ch1), .val (.int ch2), .val (.int ch3), .val (.int ch4), .val (.int ((p5 &&& (2147483647 : Int32)) % (6 : Int32))), .unset, .unset, .unset, .unset, .unset, .unset, .unset, .unset, .unset, .unset, .unset] [(.ref b142), (.ref b142)]) _
              refine XS.bipush X273.here hx rfl (hb hby at_316) ?_
              show own_S p e below T273 (mkF m 318 #[.val (.int p0), .val (.int p1), .val (.int p2), .val (.int p3), .val (.int p4), .val (.int p5), .val (.int ch0), .val (.int ch1), .val (.int ch2), .val (.int ch3), .val (.int ch4), .val (.int ((p5 &&& (2147483647 : Int32)) % (6 : Int32))), .unset, .unset, .unset, .unset, .unset, .unset, .unset, .unset, .unset, .unset, .unset] [(.int (22 : Int32)), (.ref b142), (.ref b142)]) _
              refine XS.iload X273.here hx rfl (hb hby at_318) rfl ?_
              exact kt)
            obtain ⟨cl279, Ar279, q279, Sz279, Ng279, Hs279, Gs279⟩ := id V273
            have hin279 : ¬ ((22 : Int32) < 0 ∨ cl279.slots.size ≤ ((22 : Int32)).toNatClampNeg) := inb_of Sz279 ⟨by decide, by decide⟩
            obtain ⟨T279, h279, X279, e279, W279, st279⟩ := stC X273 hx hZ e273 Ar279 (j := (22 : Int32)) hin279 (g := (mkF m 320 #[.val (.int p0), .val (.int p1), .val (.int p2), .val (.int p3), .val (.int p4), .val (.int p5), .val (.int ch0), .val (.int ch1), .val (.int ch2), .val (.int ch3), .val (.int ch4), .val (.int ((p5 &&& (2147483647 : Int32)) % (6 : Int32))), .unset, .unset, .unset, .unset, .unset, .unset, .unset, .unset, .unset, .unset, .unset] [(.int ch2), (.int (22 : Int32)), (.ref b142), (.ref b142)])) rfl rfl (hb hby at_320)
            have Z280 : n0 ≤ h279.size := Nat.le_trans Z274 (Keep.of_wr W279).1
            have Od281 : Old Z n0 h279 := Od275.wr W279 g_b142
            have V279 : Arv Z h279 b142 kk142 .char (64 : Int32) ((.int ch0) :: (.int ch1) :: (.int ch2) :: (.int ch3) :: (.int ch4) :: (.int ch1) :: (.int ch2) :: (.int ch3) :: (.int ch4) :: (.int ch1) :: (.int ch2) :: (.int ch3) :: (.int ch4) :: (.int ch1) :: (.int ch2) :: (.int ch3) :: (.int ch4) :: (.int ch1) :: (.int ch2) :: (.int ch3) :: (.int ch4) :: (.int ch1) :: (.int (ch2.toUInt32.toUInt16.toUInt32.toInt32)) :: (.int (0 : Int32)) :: (.int (0 : Int32)) :: (.int (0 : Int32)) :: (.int (0 : Int32)) :: (.int (0 : Int32)) :: (.int (0 : Int32)) :: (.int (0 : Int32)) :: (.int (0 : Int32)) :: (.int (0 : Int32)) :: (.int (0 : Int32)) :: (.int (0 : Int32)) :: (.int (0 : Int32)) :: (.int (0 : Int32)) :: (.int (0 : Int32)) :: (.int (0 : Int32)) :: (.int (0 : Int32)) :: (.int (0 : Int32)) :: (.int (0 : Int32)) :: (.int (0 : Int32)) :: (.int (0 : Int32)) :: (.int (0 : Int32)) :: (.int (0 : Int32)) :: (.int (0 : Int32)) :: (.int (0 : Int32)) :: (.int (0 : Int32)) :: (.int (0 : Int32)) :: (.int (0 : Int32)) :: (.int (0 : Int32)) :: (.int (0 : Int32)) :: (.int (0 : Int32)) :: (.int (0 : Int32)) :: (.int (0 : Int32)) :: (.int (0 : Int32)) :: (.int (0 : Int32)) :: (.int (0 : Int32)) :: (.int (0 : Int32)) :: (.int (0 : Int32)) :: (.int (0 : Int32)) :: (.int (0 : Int32)) :: (.int (0 : Int32)) :: (.int (0 : Int32)) :: []) (.int (0 : Int32)) := Arv.set Ar279 q279 Sz279 Ng279 Hs279 Gs279 (fits_nar_char _) W279 22 rfl (Nat.le_of_ble_eq_true rfl)
            rw [(show (ch2.toUInt32.toUInt16.toUInt32.toInt32) = ch2 from gd2.2.2.2)] at V279
            have Nf282 := Fr.snoc X279 Nf276 g_b142
            have kn283 : ∀ t, own_S p e below T279 (mkF m 321 #[.val (.int p0), .val (.int p1), .val (.int p2), .val (.int p3), .val (.int p4), .val (.int p5), .val (.int ch0), .val (.int ch1), .val (.int ch2), .val (.int ch3), .val (.int ch4), .val (.int ((p5 &&& (2147483647 : Int32)) % (6 : Int32))), .unset, .unset, .unset, .unset, .unset, .unset, .unset, .unset, .unset, .unset, .unset] [(.ref b142)]) t → Gl t := fun t kt => kn278 t (st279 _ kt)
            have kn284 : ∀ t, own_S p e below T279 (mkF m 326 #[.val (.int p0), .val (.int p1), .val (.int p2), .val (.int p3), .val (.int p4), .val (.int p5), .val (.int ch0), .val (.int ch1), .val (.int ch2), .val (.int ch3), .val (.int ch4), .val (.int ((p5 &&& (2147483647 : Int32)) % (6 : Int32))), .unset, .unset, .unset, .unset, .unset, .unset, .unset, .unset, .unset, .unset, .unset] [(.int ch3), (.int (23 : Int32)), (.ref b142), (.ref b142)]) t → Gl t := fun t kt => kn283 t (by
              show own_S p e below T279 (mkF m 321 #[.val (.int p0), .val (.int p1), .val (.int p2), .val (.int p3), .val (.int p4), .val (.int p5), .val (.int ch0), .val (.int ch1), .val (.int ch2), .val (.int ch3), .val (.int ch4), .val (.int ((p5 &&& (2147483647 : Int32)) % (6 : Int32))), .unset, .unset, .unset, .unset, .unset, .unset, .unset, .unset, .unset, .unset, .unset] [(.ref b142)]) _
              refine XS.dup X279.here hx rfl (hb hby at_321) rfl rfl ?_
              show own_S p e below T279 (mkF m 322 #[.val (.int p0), .val (.int p1), .val (.int p2), .val (.int p3), .val (.int p4), .val (.int p5), .val (.int ch0), .val (.int ch1), .val (.int ch2), .val (.int ch3), .val (.int ch4), .val (.int ((p5 &&& (2147483647 : Int32)) % (6 : Int32))), .unset, .unset, .unset, .unset, .unset, .unset, .unset, .unset, .unset, .unset, .unset] [(.ref b142), (.ref b142)]) _
              refine XS.bipush X279.here hx rfl (hb hby at_322) ?_
              show own_S p e below T279 (mkF m 324 #[.val (.int p0), .val (.int p1), .val (.int p2), .val (.int p3), .val (.int p4), .val (.int p5), .val (.int ch0), .val (.int ch1), .val (.int ch2), .val (.int ch3), .val (.int ch4), .val (.int ((p5 &&& (2147483647 : Int32)) % (6 : Int32))), .unset, .unset, .unset, .unset, .unset, .unset, .unset, .unset, .unset, .unset, .unset] [(.int (23 : Int32)), (.ref b142), (.ref b142)]) _
              refine XS.iload X279.here hx rfl (hb hby at_324) rfl ?_
              exact kt)
            obtain ⟨cl285, Ar285, q285, Sz285, Ng285, Hs285, Gs285⟩ := id V279
            have hin285 : ¬ ((23 : Int32) < 0 ∨ cl285.slots.size ≤ ((23 : Int32)).toNatClampNeg) := inb_of Sz285 ⟨by decide, by decide⟩
            obtain ⟨T285, h285, X285, e285, W285, st285⟩ := stC X279 hx hZ e279 Ar285 (j := (23 : Int32)) hin285 (g := (mkF m 326 #[.val (.int p0), .val (.int p1), .val (.int p2), .val (.int p3), .val (.int p4), .val (.int p5), .val (.int ch0), .val (.int ch1), .val (.int ch2), .val (.int ch3), .val (.int ch4), .val (.int ((p5 &&& (2147483647 : Int32)) % (6 : Int32))), .unset, .unset, .unset, .unset, .unset, .unset, .unset, .unset, .unset, .unset, .unset] [(.int ch3), (.int (23 : Int32)), (.ref b142), (.ref b142)])) rfl rfl (hb hby at_326)
            have Z286 : n0 ≤ h285.size := Nat.le_trans Z280 (Keep.of_wr W285).1
            have Od287 : Old Z n0 h285 := Od281.wr W285 g_b142
            have V285 : Arv Z h285 b142 kk142 .char (64 : Int32) ((.int ch0) :: (.int ch1) :: (.int ch2) :: (.int ch3) :: (.int ch4) :: (.int ch1) :: (.int ch2) :: (.int ch3) :: (.int ch4) :: (.int ch1) :: (.int ch2) :: (.int ch3) :: (.int ch4) :: (.int ch1) :: (.int ch2) :: (.int ch3) :: (.int ch4) :: (.int ch1) :: (.int ch2) :: (.int ch3) :: (.int ch4) :: (.int ch1) :: (.int ch2) :: (.int (ch3.toUInt32.toUInt16.toUInt32.toInt32)) :: (.int (0 : Int32)) :: (.int (0 : Int32)) :: (.int (0 : Int32)) :: (.int (0 : Int32)) :: (.int (0 : Int32)) :: (.int (0 : Int32)) :: (.int (0 : Int32)) :: (.int (0 : Int32)) :: (.int (0 : Int32)) :: (.int (0 : Int32)) :: (.int (0 : Int32)) :: (.int (0 : Int32)) :: (.int (0 : Int32)) :: (.int (0 : Int32)) :: (.int (0 : Int32)) :: (.int (0 : Int32)) :: (.int (0 : Int32)) :: (.int (0 : Int32)) :: (.int (0 : Int32)) :: (.int (0 : Int32)) :: (.int (0 : Int32)) :: (.int (0 : Int32)) :: (.int (0 : Int32)) :: (.int (0 : Int32)) :: (.int (0 : Int32)) :: (.int (0 : Int32)) :: (.int (0 : Int32)) :: (.int (0 : Int32)) :: (.int (0 : Int32)) :: (.int (0 : Int32)) :: (.int (0 : Int32)) :: (.int (0 : Int32)) :: (.int (0 : Int32)) :: (.int (0 : Int32)) :: (.int (0 : Int32)) :: (.int (0 : Int32)) :: (.int (0 : Int32)) :: (.int (0 : Int32)) :: (.int (0 : Int32)) :: (.int (0 : Int32)) :: []) (.int (0 : Int32)) := Arv.set Ar285 q285 Sz285 Ng285 Hs285 Gs285 (fits_nar_char _) W285 23 rfl (Nat.le_of_ble_eq_true rfl)
            rw [(show (ch3.toUInt32.toUInt16.toUInt32.toInt32) = ch3 from gd3.2.2.2)] at V285
            have Nf288 := Fr.snoc X285 Nf282 g_b142
            have kn289 : ∀ t, own_S p e below T285 (mkF m 327 #[.val (.int p0), .val (.int p1), .val (.int p2), .val (.int p3), .val (.int p4), .val (.int p5), .val (.int ch0), .val (.int ch1), .val (.int ch2), .val (.int ch3), .val (.int ch4), .val (.int ((p5 &&& (2147483647 : Int32)) % (6 : Int32))), .unset, .unset, .unset, .unset, .unset, .unset, .unset, .unset, .unset, .unset, .unset] [(.ref b142)]) t → Gl t := fun t kt => kn284 t (st285 _ kt)
            have kn290 : ∀ t, own_S p e below T285 (mkF m 332 #[.val (.int p0), .val (.int p1), .val (.int p2), .val (.int p3), .val (.int p4), .val (.int p5), .val (.int ch0), .val (.int ch1), .val (.int ch2), .val (.int ch3), .val (.int ch4), .val (.int ((p5 &&& (2147483647 : Int32)) % (6 : Int32))), .unset, .unset, .unset, .unset, .unset, .unset, .unset, .unset, .unset, .unset, .unset] [(.int ch4), (.int (24 : Int32)), (.ref b142), (.ref b142)]) t → Gl t := fun t kt => kn289 t (by
              show own_S p e below T285 (mkF m 327 #[.val (.int p0), .val (.int p1), .val (.int p2), .val (.int p3), .val (.int p4), .val (.int p5), .val (.int ch0), .val (.int ch1), .val (.int ch2), .val (.int ch3), .val (.int ch4), .val (.int ((p5 &&& (2147483647 : Int32)) % (6 : Int32))), .unset, .unset, .unset, .unset, .unset, .unset, .unset, .unset, .unset, .unset, .unset] [(.ref b142)]) _
              refine XS.dup X285.here hx rfl (hb hby at_327) rfl rfl ?_
              show own_S p e below T285 (mkF m 328 #[.val (.int p0), .val (.int p1), .val (.int p2), .val (.int p3), .val (.int p4), .val (.int p5), .val (.int ch0), .val (.int ch1), .val (.int ch2), .val (.int ch3), .val (.int ch4), .val (.int ((p5 &&& (2147483647 : Int32)) % (6 : Int32))), .unset, .unset, .unset, .unset, .unset, .unset, .unset, .unset, .unset, .unset, .unset] [(.ref b142), (.ref b142)]) _
              refine XS.bipush X285.here hx rfl (hb hby at_328) ?_
              show own_S p e below T285 (mkF m 330 #[.val (.int p0), .val (.int p1), .val (.int p2), .val (.int p3), .val (.int p4), .val (.int p5), .val (.int ch0), .val (.int ch1), .val (.int ch2), .val (.int ch3), .val (.int ch4), .val (.int ((p5 &&& (2147483647 : Int32)) % (6 : Int32))), .unset, .unset, .unset, .unset, .unset, .unset, .unset, .unset, .unset, .unset, .unset] [(.int (24 : Int32)), (.ref b142), (.ref b142)]) _
              refine XS.iload X285.here hx rfl (hb hby at_330) rfl ?_
              exact kt)
            obtain ⟨cl291, Ar291, q291, Sz291, Ng291, Hs291, Gs291⟩ := id V285
            have hin291 : ¬ ((24 : Int32) < 0 ∨ cl291.slots.size ≤ ((24 : Int32)).toNatClampNeg) := inb_of Sz291 ⟨by decide, by decide⟩
            obtain ⟨T291, h291, X291, e291, W291, st291⟩ := stC X285 hx hZ e285 Ar291 (j := (24 : Int32)) hin291 (g := (mkF m 332 #[.val (.int p0), .val (.int p1), .val (.int p2), .val (.int p3), .val (.int p4), .val (.int p5), .val (.int ch0), .val (.int ch1), .val (.int ch2), .val (.int ch3), .val (.int ch4), .val (.int ((p5 &&& (2147483647 : Int32)) % (6 : Int32))), .unset, .unset, .unset, .unset, .unset, .unset, .unset, .unset, .unset, .unset, .unset] [(.int ch4), (.int (24 : Int32)), (.ref b142), (.ref b142)])) rfl rfl (hb hby at_332)
            have Z292 : n0 ≤ h291.size := Nat.le_trans Z286 (Keep.of_wr W291).1
            have Od293 : Old Z n0 h291 := Od287.wr W291 g_b142
            have V291 : Arv Z h291 b142 kk142 .char (64 : Int32) ((.int ch0) :: (.int ch1) :: (.int ch2) :: (.int ch3) :: (.int ch4) :: (.int ch1) :: (.int ch2) :: (.int ch3) :: (.int ch4) :: (.int ch1) :: (.int ch2) :: (.int ch3) :: (.int ch4) :: (.int ch1) :: (.int ch2) :: (.int ch3) :: (.int ch4) :: (.int ch1) :: (.int ch2) :: (.int ch3) :: (.int ch4) :: (.int ch1) :: (.int ch2) :: (.int ch3) :: (.int (ch4.toUInt32.toUInt16.toUInt32.toInt32)) :: (.int (0 : Int32)) :: (.int (0 : Int32)) :: (.int (0 : Int32)) :: (.int (0 : Int32)) :: (.int (0 : Int32)) :: (.int (0 : Int32)) :: (.int (0 : Int32)) :: (.int (0 : Int32)) :: (.int (0 : Int32)) :: (.int (0 : Int32)) :: (.int (0 : Int32)) :: (.int (0 : Int32)) :: (.int (0 : Int32)) :: (.int (0 : Int32)) :: (.int (0 : Int32)) :: (.int (0 : Int32)) :: (.int (0 : Int32)) :: (.int (0 : Int32)) :: (.int (0 : Int32)) :: (.int (0 : Int32)) :: (.int (0 : Int32)) :: (.int (0 : Int32)) :: (.int (0 : Int32)) :: (.int (0 : Int32)) :: (.int (0 : Int32)) :: (.int (0 : Int32)) :: (.int (0 : Int32)) :: (.int (0 : Int32)) :: (.int (0 : Int32)) :: (.int (0 : Int32)) :: (.int (0 : Int32)) :: (.int (0 : Int32)) :: (.int (0 : Int32)) :: (.int (0 : Int32)) :: (.int (0 : Int32)) :: (.int (0 : Int32)) :: (.int (0 : Int32)) :: (.int (0 : Int32)) :: (.int (0 : Int32)) :: []) (.int (0 : Int32)) := Arv.set Ar291 q291 Sz291 Ng291 Hs291 Gs291 (fits_nar_char _) W291 24 rfl (Nat.le_of_ble_eq_true rfl)
            rw [(show (ch4.toUInt32.toUInt16.toUInt32.toInt32) = ch4 from gd4.2.2.2)] at V291
            have Nf294 := Fr.snoc X291 Nf288 g_b142
            have kn295 : ∀ t, own_S p e below T291 (mkF m 333 #[.val (.int p0), .val (.int p1), .val (.int p2), .val (.int p3), .val (.int p4), .val (.int p5), .val (.int ch0), .val (.int ch1), .val (.int ch2), .val (.int ch3), .val (.int ch4), .val (.int ((p5 &&& (2147483647 : Int32)) % (6 : Int32))), .unset, .unset, .unset, .unset, .unset, .unset, .unset, .unset, .unset, .unset, .unset] [(.ref b142)]) t → Gl t := fun t kt => kn290 t (st291 _ kt)
            have kn296 : ∀ t, own_S p e below T291 (mkF m 338 #[.val (.int p0), .val (.int p1), .val (.int p2), .val (.int p3), .val (.int p4), .val (.int p5), .val (.int ch0), .val (.int ch1), .val (.int ch2), .val (.int ch3), .val (.int ch4), .val (.int ((p5 &&& (2147483647 : Int32)) % (6 : Int32))), .unset, .unset, .unset, .unset, .unset, .unset, .unset, .unset, .unset, .unset, .unset] [(.int ch1), (.int (25 : Int32)), (.ref b142), (.ref b142)]) t → Gl t := fun t kt => kn295 t (by
              show own_S p e below T291 (mkF m 333 #[.val (.int p0), .val (.int p1), .val (.int p2), .val (.int p3), .val (.int p4), .val (.int p5), .val (.int ch0), .val (.int ch1), .val (.int ch2), .val (.int ch3), .val (.int ch4), .val (.int ((p5 &&& (2147483647 : Int32)) % (6 : Int32))), .unset, .unset, .unset, .unset, .unset, .unset, .unset, .unset, .unset, .unset, .unset] [(.ref b142)]) _
              refine XS.dup X291.here hx rfl (hb hby at_333) rfl rfl ?_
              show own_S p e below T291 (mkF m 334 #[.val (.int p0), .val (.int p1), .val (.int p2), .val (.int p3), .val (.int p4), .val (.int p5), .val (.int ch0), .val (.int ch1), .val (.int ch2), .val (.int ch3), .val (.int ch4), .val (.int ((p5 &&& (2147483647 : Int32)) % (6 : Int32))), .unset, .unset, .unset, .unset, .unset, .unset, .unset, .unset, .unset, .unset, .unset] [(.ref b142), (.ref b142)]) _
              refine XS.bipush X291.here hx rfl (hb hby at_334) ?_
              show own_S p e below T291 (mkF m 336 #[.val (.int p0), .val (.int p1), .val (.int p2), .val (.int p3), .val (.int p4), .val (.int p5), .val (.int ch0), .val (.int ch1), .val (.int ch2), .val (.int ch3), .val (.int ch4), .val (.int ((p5 &&& (2147483647 : Int32)) % (6 : Int32))), .unset, .unset, .unset, .unset, .unset, .unset, .unset, .unset, .unset, .unset, .unset] [(.int (25 : Int32)), (.ref b142), (.ref b142)]) _
              refine XS.iload X291.here hx rfl (hb hby at_336) rfl ?_
              exact kt)
            obtain ⟨cl297, Ar297, q297, Sz297, Ng297, Hs297, Gs297⟩ := id V291
            have hin297 : ¬ ((25 : Int32) < 0 ∨ cl297.slots.size ≤ ((25 : Int32)).toNatClampNeg) := inb_of Sz297 ⟨by decide, by decide⟩
            obtain ⟨T297, h297, X297, e297, W297, st297⟩ := stC X291 hx hZ e291 Ar297 (j := (25 : Int32)) hin297 (g := (mkF m 338 #[.val (.int p0), .val (.int p1), .val (.int p2), .val (.int p3), .val (.int p4), .val (.int p5), .val (.int ch0), .val (.int ch1), .val (.int ch2), .val (.int ch3), .val (.int ch4), .val (.int ((p5 &&& (2147483647 : Int32)) % (6 : Int32))), .unset, .unset, .unset, .unset, .unset, .unset, .unset, .unset, .unset, .unset, .unset] [(.int ch1), (.int (25 : Int32)), (.ref b142), (.ref b142)])) rfl rfl (hb hby at_338)
            have Z298 : n0 ≤ h297.size := Nat.le_trans Z292 (Keep.of_wr W297).1
            have Od299 : Old Z n0 h297 := Od293.wr W297 g_b142
            have V297 : Arv Z h297 b142 kk142 .char (64 : Int32) ((.int ch0) :: (.int ch1) :: (.int ch2) :: (.int ch3) :: (.int ch4) :: (.int ch1) :: (.int ch2) :: (.int ch3) :: (.int ch4) :: (.int ch1) :: (.int ch2) :: (.int ch3) :: (.int ch4) :: (.int ch1) :: (.int ch2) :: (.int ch3) :: (.int ch4) :: (.int ch1) :: (.int ch2) :: (.int ch3) :: (.int ch4) :: (.int ch1) :: (.int ch2) :: (.int ch3) :: (.int ch4) :: (.int (ch1.toUInt32.toUInt16.toUInt32.toInt32)) :: (.int (0 : Int32)) :: (.int (0 : Int32)) :: (.int (0 : Int32)) :: (.int (0 : Int32)) :: (.int (0 : Int32)) :: (.int (0 : Int32)) :: (.int (0 : Int32)) :: (.int (0 : Int32)) :: (.int (0 : Int32)) :: (.int (0 : Int32)) :: (.int (0 : Int32)) :: (.int (0 : Int32)) :: (.int (0 : Int32)) :: (.int (0 : Int32)) :: (.int (0 : Int32)) :: (.int (0 : Int32)) :: (.int (0 : Int32)) :: (.int (0 : Int32)) :: (.int (0 : Int32)) :: (.int (0 : Int32)) :: (.int (0 : Int32)) :: (.int (0 : Int32)) :: (.int (0 : Int32)) :: (.int (0 : Int32)) :: (.int (0 : Int32)) :: (.int (0 : Int32)) :: (.int (0 : Int32)) :: (.int (0 : Int32)) :: (.int (0 : Int32)) :: (.int (0 : Int32)) :: (.int (0 : Int32)) :: (.int (0 : Int32)) :: (.int (0 : Int32)) :: (.int (0 : Int32)) :: (.int (0 : Int32)) :: (.int (0 : Int32)) :: (.int (0 : Int32)) :: (.int (0 : Int32)) :: []) (.int (0 : Int32)) := Arv.set Ar297 q297 Sz297 Ng297 Hs297 Gs297 (fits_nar_char _) W297 25 rfl (Nat.le_of_ble_eq_true rfl)
            rw [(show (ch1.toUInt32.toUInt16.toUInt32.toInt32) = ch1 from gd1.2.2.2)] at V297
            have Nf300 := Fr.snoc X297 Nf294 g_b142
            have kn301 : ∀ t, own_S p e below T297 (mkF m 339 #[.val (.int p0), .val (.int p1), .val (.int p2), .val (.int p3), .val (.int p4), .val (.int p5), .val (.int ch0), .val (.int ch1), .val (.int ch2), .val (.int ch3), .val (.int ch4), .val (.int ((p5 &&& (2147483647 : Int32)) % (6 : Int32))), .unset, .unset, .unset, .unset, .unset, .unset, .unset, .unset, .unset, .unset, .unset] [(.ref b142)]) t → Gl t := fun t kt => kn296 t (st297 _ kt)
            have kn302 : ∀ t, own_S p e below T297 (mkF m 344 #[.val (.int p0), .val (.int p1), .val (.int p2), .val (.int p3), .val (.int p4), .val (.int p5), .val (.int ch0), .val (.int ch1), .val (.int ch2), .val (.int ch3), .val (.int ch4), .val (.int ((p5 &&& (2147483647 : Int32)) % (6 : Int32))), .unset, .unset, .unset, .unset, .unset, .unset, .unset, .unset, .unset, .unset, .unset] [(.int ch2), (.int (26 : Int32)), (.ref b142), (.ref b142)]) t → Gl t := fun t kt => kn301 t (by
              show own_S p e below T297 (mkF m 339 #[.val (.int p0), .val (.int p1), .val (.int p2), .val (.int p3), .val (.int p4), .val (.int p5), .val (.int ch0), .val (.int ch1), .val (.int ch2), .val (.int ch3), .val (.int ch4), .val (.int ((p5 &&& (2147483647 : Int32)) % (6 : Int32))), .unset, .unset, .unset, .unset, .unset, .unset, .unset, .unset, .unset, .unset, .unset] [(.ref b142)]) _
              refine XS.dup X297.here hx rfl (hb hby at_339) rfl rfl ?_
              show own_S p e below T297 (mkF m 340 #[.val (.int p0), .val (.int p1), .val (.int p2), .val (.int p3), .val (.int p4), .val (.int p5), .val (.int ch0), .val (.int ch1), .val (.int ch2), .val (.int ch3), .val (.int ch4), .val (.int ((p5 &&& (2147483647 : Int32)) % (6 : Int32))), .unset, .unset, .unset, .unset, .unset, .unset, .unset, .unset, .unset, .unset, .unset] [(.ref b142), (.ref b142)]) _
              refine XS.bipush X297.here hx rfl (hb hby at_340) ?_
              show own_S p e below T297 (mkF m 342 #[.val (.int p0), .val (.int p1), .val (.int p2), .val (.int p3), .val (.int p4), .val (.int p5), .val (.int ch0), .val (.int ch1), .val (.int ch2), .val (.int ch3), .val (.int ch4), .val (.int ((p5 &&& (2147483647 : Int32)) % (6 : Int32))), .unset, .unset, .unset, .unset, .unset, .unset, .unset, .unset, .unset, .unset, .unset] [(.int (26 : Int32)), (.ref b142), (.ref b142)]) _
              refine XS.iload X297.here hx rfl (hb hby at_342) rfl ?_
              exact kt)
            obtain ⟨cl303, Ar303, q303, Sz303, Ng303, Hs303, Gs303⟩ := id V297
            have hin303 : ¬ ((26 : Int32) < 0 ∨ cl303.slots.size ≤ ((26 : Int32)).toNatClampNeg) := inb_of Sz303 ⟨by decide, by decide⟩
            obtain ⟨T303, h303, X303, e303, W303, st303⟩ := stC X297 hx hZ e297 Ar303 (j := (26 : Int32)) hin303 (g := (mkF m 344 #[.val (.int p0), .val (.int p1), .val (.int p2), .val (.int p3), .val (.int p4), .val (.int p5), .val (.int ch0), .val (.int ch1), .val (.int ch2), .val (.int ch3), .val (.int ch4), .val (.int ((p5 &&& (2147483647 : Int32)) % (6 : Int32))), .unset, .unset, .unset, .unset, .unset, .unset, .unset, .unset, .unset, .unset, .unset] [(.int ch2), (.int (26 : Int32)), (.ref b142), (.ref b142)])) rfl rfl (hb hby at_344)
            have Z304 : n0 ≤ h303.size := Nat.le_trans Z298 (Keep.of_wr W303).1
            have Od305 : Old Z n0 h303 := Od299.wr W303 g_b142
            have V303 : Arv Z h303 b142 kk142 .char (64 : Int32) ((.int ch0) :: (.int ch1) :: (.int ch2) :: (.int ch3) :: (.int ch4) :: (.int ch1) :: (.int ch2) :: (.int ch3) :: (.int ch4) :: (.int ch1) :: (.int ch2) :: (.int ch3) :: (.int ch4) :: (.int ch1) :: (.int ch2) :: (.int ch3) :: (.int ch4) :: (.int ch1) :: (.int ch2) :: (.int ch3) :: (.int ch4) :: (.int ch1) :: (.int ch2) :: (.int ch3) :: (.int ch4) :: (.int ch1) :: (.int (ch2.toUInt32.toUInt16.toUInt32.toInt32)) :: (.int (0 : Int32)) :: (.int (0 : Int32)) :: (.int (0 : Int32)) :: (.int (0 : Int32)) :: (.int (0 : Int32)) :: (.int (0 : Int32)) :: (.int (0 : Int32)) :: (.int (0 : Int32)) :: (.int (0 : Int32)) :: (.int (0 : Int32)) :: (.int (0 : Int32)) :: (.int (0 : Int32)) :: (.int (0 : Int32)) :: (.int (0 : Int32)) :: (.int (0 : Int32)) :: (.int (0 : Int32)) :: (.int (0 : Int32)) :: (.int (0 : Int32)) :: (.int (0 : Int32)) :: (.int (0 : Int32)) :: (.int (0 : Int32)) :: (.int (0 : Int32)) :: (.int (0 : Int32)) :: (.int (0 : Int32)) :: (.int (0 : Int32)) :: (.int (0 : Int32)) :: (.int (0 : Int32)) :: (.int (0 : Int32)) :: (.int (0 : Int32)) :: (.int (0 : Int32)) :: (.int (0 : Int32)) :: (.int (0 : Int32)) :: (.int (0 : Int32)) :: (.int (0 : Int32)) :: (.int (0 : Int32)) :: (.int (0 : Int32)) :: (.int (0 : Int32)) :: []) (.int (0 : Int32)) := Arv.set Ar303 q303 Sz303 Ng303 Hs303 Gs303 (fits_nar_char _) W303 26 rfl (Nat.le_of_ble_eq_true rfl)
            rw [(show (ch2.toUInt32.toUInt16.toUInt32.toInt32) = ch2 from gd2.2.2.2)] at V303
            have Nf306 := Fr.snoc X303 Nf300 g_b142
            have kn307 : ∀ t, own_S p e below T303 (mkF m 345 #[.val (.int p0), .val (.int p1), .val (.int p2), .val (.int p3), .val (.int p4), .val (.int p5), .val (.int ch0), .val (.int ch1), .val (.int ch2), .val (.int ch3), .val (.int ch4), .val (.int ((p5 &&& (2147483647 : Int32)) % (6 : Int32))), .unset, .unset, .unset, .unset, .unset, .unset, .unset, .unset, .unset, .unset, .unset] [(.ref b142)]) t → Gl t := fun t kt => kn302 t (st303 _ kt)
            have kn308 : ∀ t, own_S p e below T303 (mkF m 350 #[.val (.int p0), .val (.int p1), .val (.int p2), .val (.int p3), .val (.int p4), .val (.int p5), .val (.int ch0), .val (.int ch1), .val (.int ch2), .val (.int ch3), .val (.int ch4), .val (.int ((p5 &&& (2147483647 : Int32)) % (6 : Int32))), .unset, .unset, .unset, .unset, .unset, .unset, .unset, .unset, .unset, .unset, .unset] [(.int ch3), (.int (27 : Int32)), (.ref b142), (.ref b142)]) t → Gl t := fun t kt => kn307 t (by
              show own_S p e below T303 (mkF m 345 #[.val (.int p0), .val (.int p1), .val (.int p2), .val (.int p3), .val (.int p4), .val (.int p5), .val (.int ch0), .val (.int ch1), .val (.int ch2), .val (.int ch3), .val (.int ch4), .val (.int ((p5 &&& (2147483647 : Int32)) % (6 : Int32))), .unset, .unset, .unset, .unset, .unset, .unset, .unset, .unset, .unset, .unset, .unset] [(.ref b142)]) _
              refine XS.dup X303.here hx rfl (hb hby at_345) rfl rfl ?_
              show own_S p e below T303 (mkF m 346 #[.val (.int p0), .val (.int p1), .val (.int p2), .val (.int p3), .val (.int p4), .val (.int p5), .val (.int ch0), .val (.int ch1), .val (.int ch2), .val (.int ch3), .val (.int ch4), .val (.int ((p5 &&& (2147483647 : Int32)) % (6 : Int32))), .unset, .unset, .unset, .unset, .unset, .unset, .unset, .unset, .unset, .unset, .unset] [(.ref b142), (.ref b142)]) _
              refine XS.bipush X303.here hx rfl (hb hby at_346) ?_
              show own_S p e below T303 (mkF m 348 #[.val (.int p0), .val (.int p1), .val (.int p2), .val (.int p3), .val (.int p4), .val (.int p5), .val (.int ch0), .val (.int ch1), .val (.int ch2), .val (.int ch3), .val (.int ch4), .val (.int ((p5 &&& (2147483647 : Int32)) % (6 : Int32))), .unset, .unset, .unset, .unset, .unset, .unset, .unset, .unset, .unset, .unset, .unset] [(.int (27 : Int32)), (.ref b142), (.ref b142)]) _
              refine XS.iload X303.here hx rfl (hb hby at_348) rfl ?_
              exact kt)
            obtain ⟨cl309, Ar309, q309, Sz309, Ng309, Hs309, Gs309⟩ := id V303
            have hin309 : ¬ ((27 : Int32) < 0 ∨ cl309.slots.size ≤ ((27 : Int32)).toNatClampNeg) := inb_of Sz309 ⟨by decide, by decide⟩
            obtain ⟨T309, h309, X309, e309, W309, st309⟩ := stC X303 hx hZ e303 Ar309 (j := (27 : Int32)) hin309 (g := (mkF m 350 #[.val (.int p0), .val (.int p1), .val (.int p2), .val (.int p3), .val (.int p4), .val (.int p5), .val (.int ch0), .val (.int ch1), .val (.int ch2), .val (.int ch3), .val (.int ch4), .val (.int ((p5 &&& (2147483647 : Int32)) % (6 : Int32))), .unset, .unset, .unset, .unset, .unset, .unset, .unset, .unset, .unset, .unset, .unset] [(.int ch3), (.int (27 : Int32)), (.ref b142), (.ref b142)])) rfl rfl (hb hby at_350)
            have Z310 : n0 ≤ h309.size := Nat.le_trans Z304 (Keep.of_wr W309).1
            have Od311 : Old Z n0 h309 := Od305.wr W309 g_b142
            have V309 : Arv Z h309 b142 kk142 .char (64 : Int32) ((.int ch0) :: (.int ch1) :: (.int ch2) :: (.int ch3) :: (.int ch4) :: (.int ch1) :: (.int ch2) :: (.int ch3) :: (.int ch4) :: (.int ch1) :: (.int ch2) :: (.int ch3) :: (.int ch4) :: (.int ch1) :: (.int ch2) :: (.int ch3) :: (.int ch4) :: (.int ch1) :: (.int ch2) :: (.int ch3) :: (.int ch4) :: (.int ch1) :: (.int ch2) :: (.int ch3) :: (.int ch4) :: (.int ch1) :: (.int ch2) :: (.int (ch3.toUInt32.toUInt16.toUInt32.toInt32)) :: (.int (0 : Int32)) :: (.int (0 : Int32)) :: (.int (0 : Int32)) :: (.int (0 : Int32)) :: (.int (0 : Int32)) :: (.int (0 : Int32)) :: (.int (0 : Int32)) :: (.int (0 : Int32)) :: (.int (0 : Int32)) :: (.int (0 : Int32)) :: (.int (0 : Int32)) :: (.int (0 : Int32)) :: (.int (0 : Int32)) :: (.int (0 : Int32)) :: (.int (0 : Int32)) :: (.int (0 : Int32)) :: (.int (0 : Int32)) :: (.int (0 : Int32)) :: (.int (0 : Int32)) :: (.int (0 : Int32)) :: (.int (0 : Int32)) :: (.int (0 : Int32)) :: (.int (0 : Int32)) :: (.int (0 : Int32)) :: (.int (0 : Int32)) :: (.int (0 : Int32)) :: (.int (0 : Int32)) :: (.int (0 : Int32)) :: (.int (0 : Int32)) :: (.int (0 : Int32)) :: (.int (0 : Int32)) :: (.int (0 : Int32)) :: (.int (0 : Int32)) :: (.int (0 : Int32)) :: (.int (0 : Int32)) :: (.int (0 : Int32)) :: []) (.int (0 : Int32)) := Arv.set Ar309 q309 Sz309 Ng309 Hs309 Gs309 (fits_nar_char _) W309 27 rfl (Nat.le_of_ble_eq_true rfl)
            rw [(show (ch3.toUInt32.toUInt16.toUInt32.toInt32) = ch3 from gd3.2.2.2)] at V309
            have Nf312 := Fr.snoc X309 Nf306 g_b142
            have kn313 : ∀ t, own_S p e below T309 (mkF m 351 #[.val (.int p0), .val (.int p1), .val (.int p2), .val (.int p3), .val (.int p4), .val (.int p5), .val (.int ch0), .val (.int ch1), .val (.int ch2), .val (.int ch3), .val (.int ch4), .val (.int ((p5 &&& (2147483647 : Int32)) % (6 : Int32))), .unset, .unset, .unset, .unset, .unset, .unset, .unset, .unset, .unset, .unset, .unset] [(.ref b142)]) t → Gl t := fun t kt => kn308 t (st309 _ kt)
            have kn314 : ∀ t, own_S p e below T309 (mkF m 356 #[.val (.int p0), .val (.int p1), .val (.int p2), .val (.int p3), .val (.int p4), .val (.int p5), .val (.int ch0), .val (.int ch1), .val (.int ch2), .val (.int ch3), .val (.int ch4), .val (.int ((p5 &&& (2147483647 : Int32)) % (6 : Int32))), .unset, .unset, .unset, .unset, .unset, .unset, .unset, .unset, .unset, .unset, .unset] [(.int ch4), (.int (28 : Int32)), (.ref b142), (.ref b142)]) t → Gl t := fun t kt => kn313 t (by
              show own_S p e below T309 (mkF m 351 #[.val (.int p0), .val (.int p1), .val (.int p2), .val (.int p3), .val (.int p4), .val (.int p5), .val (.int ch0), .val (.int ch1), .val (.int ch2), .val (.int ch3), .val (.int ch4), .val (.int ((p5 &&& (2147483647 : Int32)) % (6 : Int32))), .unset, .unset, .unset, .unset, .unset, .unset, .unset, .unset, .unset, .unset, .unset] [(.ref b142)]) _
              refine XS.dup X309.here hx rfl (hb hby at_351) rfl rfl ?_
              show own_S p e below T309 (mkF m 352 #[.val (.int p0), .val (.int p1), .val (.int p2), .val (.int p3), .val (.int p4), .val (.int p5), .val (.int ch0), .val (.int ch1), .val (.int ch2), .val (.int ch3), .val (.int ch4), .val (.int ((p5 &&& (2147483647 : Int32)) % (6 : Int32))), .unset, .unset, .unset, .unset, .unset, .unset, .unset, .unset, .unset, .unset, .unset] [(.ref b142), (.ref b142)]) _
              refine XS.bipush X309.here hx rfl (hb hby at_352) ?_
              show own_S p e below T309 (mkF m 354 #[.val (.int p0), .val (.int p1), .val (.int p2), .val (.int p3), .val (.int p4), .val (.int p5), .val (.int ch0), .val (.int ch1), .val (.int ch2), .val (.int ch3), .val (.int ch4), .val (.int ((p5 &&& (2147483647 : Int32)) % (6 : Int32))), .unset, .unset, .unset, .unset, .unset, .unset, .unset, .unset, .unset, .unset, .unset] [(.int (28 : Int32)), (.ref b142), (.ref b142)]) _
              refine XS.iload X309.here hx rfl (hb hby at_354) rfl ?_
              exact kt)
            obtain ⟨cl315, Ar315, q315, Sz315, Ng315, Hs315, Gs315⟩ := id V309
            have hin315 : ¬ ((28 : Int32) < 0 ∨ cl315.slots.size ≤ ((28 : Int32)).toNatClampNeg) := inb_of Sz315 ⟨by decide, by decide⟩
            obtain ⟨T315, h315, X315, e315, W315, st315⟩ := stC X309 hx hZ e309 Ar315 (j := (28 : Int32)) hin315 (g := (mkF m 356 #[.val (.int p0), .val (.int p1), .val (.int p2), .val (.int p3), .val (.int p4), .val (.int p5), .val (.int ch0), .val (.int ch1), .val (.int ch2), .val (.int ch3), .val (.int ch4), .val (.int ((p5 &&& (2147483647 : Int32)) % (6 : Int32))), .unset, .unset, .unset, .unset, .unset, .unset, .unset, .unset, .unset, .unset, .unset] [(.int ch4), (.int (28 : Int32)), (.ref b142), (.ref b142)])) rfl rfl (hb hby at_356)
            have Z316 : n0 ≤ h315.size := Nat.le_trans Z310 (Keep.of_wr W315).1
            have Od317 : Old Z n0 h315 := Od311.wr W315 g_b142
            have V315 : Arv Z h315 b142 kk142 .char (64 : Int32) ((.int ch0) :: (.int ch1) :: (.int ch2) :: (.int ch3) :: (.int ch4) :: (.int ch1) :: (.int ch2) :: (.int ch3) :: (.int ch4) :: (.int ch1) :: (.int ch2) :: (.int ch3) :: (.int ch4) :: (.int ch1) :: (.int ch2) :: (.int ch3) :: (.int ch4) :: (.int ch1) :: (.int ch2) :: (.int ch3) :: (.int ch4) :: (.int ch1) :: (.int ch2) :: (.int ch3) :: (.int ch4) :: (.int ch1) :: (.int ch2) :: (.int ch3) :: (.int (ch4.toUInt32.toUInt16.toUInt32.toInt32)) :: (.int (0 : Int32)) :: (.int (0 : Int32)) :: (.int (0 : Int32)) :: (.int (0 : Int32)) :: (.int (0 : Int32)) :: (.int (0 : Int32)) :: (.int (0 : Int32)) :: (.int (0 : Int32)) :: (.int (0 : Int32)) :: (.int (0 : Int32)) :: (.int (0 : Int32)) :: (.int (0 : Int32)) :: (.int (0 : Int32)) :: (.int (0 : Int32)) :: (.int (0 : Int32)) :: (.int (0 : Int32)) :: (.int (0 : Int32)) :: (.int (0 : Int32)) :: (.int (0 : Int32)) :: (.int (0 : Int32)) :: (.int (0 : Int32)) :: (.int (0 : Int32)) :: (.int (0 : Int32)) :: (.int (0 : Int32)) :: (.int (0 : Int32)) :: (.int (0 : Int32)) :: (.int (0 : Int32)) :: (.int (0 : Int32)) :: (.int (0 : Int32)) :: (.int (0 : Int32)) :: (.int (0 : Int32)) :: (.int (0 : Int32)) :: (.int (0 : Int32)) :: (.int (0 : Int32)) :: (.int (0 : Int32)) :: []) (.int (0 : Int32)) := Arv.set Ar315 q315 Sz315 Ng315 Hs315 Gs315 (fits_nar_char _) W315 28 rfl (Nat.le_of_ble_eq_true rfl)
            rw [(show (ch4.toUInt32.toUInt16.toUInt32.toInt32) = ch4 from gd4.2.2.2)] at V315
            have Nf318 := Fr.snoc X315 Nf312 g_b142
            have kn319 : ∀ t, own_S p e below T315 (mkF m 357 #[.val (.int p0), .val (.int p1), .val (.int p2), .val (.int p3), .val (.int p4), .val (.int p5), .val (.int ch0), .val (.int ch1), .val (.int ch2), .val (.int ch3), .val (.int ch4), .val (.int ((p5 &&& (2147483647 : Int32)) % (6 : Int32))), .unset, .unset, .unset, .unset, .unset, .unset, .unset, .unset, .unset, .unset, .unset] [(.ref b142)]) t → Gl t := fun t kt => kn314 t (st315 _ kt)
            have kn320 : ∀ t, own_S p e below T315 (mkF m 362 #[.val (.int p0), .val (.int p1), .val (.int p2), .val (.int p3), .val (.int p4), .val (.int p5), .val (.int ch0), .val (.int ch1), .val (.int ch2), .val (.int ch3), .val (.int ch4), .val (.int ((p5 &&& (2147483647 : Int32)) % (6 : Int32))), .unset, .unset, .unset, .unset, .unset, .unset, .unset, .unset, .unset, .unset, .unset] [(.int ch1), (.int (29 : Int32)), (.ref b142), (.ref b142)]) t → Gl t := fun t kt => kn319 t (by
              show own_S p e below T315 (mkF m 357 #[.val (.int p0), .val (.int p1), .val (.int p2), .val (.int p3), .val (.int p4), .val (.int p5), .val (.int ch0), .val (.int ch1), .val (.int ch2), .val (.int ch3), .val (.int ch4), .val (.int ((p5 &&& (2147483647 : Int32)) % (6 : Int32))), .unset, .unset, .unset, .unset, .unset, .unset, .unset, .unset, .unset, .unset, .unset] [(.ref b142)]) _
              refine XS.dup X315.here hx rfl (hb hby at_357) rfl rfl ?_
              show own_S p e below T315 (mkF m 358 #[.val (.int p0), .val (.int p1), .val (.int p2), .val (.int p3), .val (.int p4), .val (.int p5), .val (.int ch0), .val (.int ch1), .val (.int ch2), .val (.int ch3), .val (.int ch4), .val (.int ((p5 &&& (2147483647 : Int32)) % (6 : Int32))), .unset, .unset, .unset, .unset, .unset, .unset, .unset, .unset, .unset, .unset, .unset] [(.ref b142), (.ref b142)]) _
              refine XS.bipush X315.here hx rfl (hb hby at_358) ?_
              show own_S p e below T315 (mkF m 360 #[.val (.int p0), .val (.int p1), .val (.int p2), .val (.int p3), .val (.int p4), .val (.int p5), .val (.int ch0), .val (.int ch1), .val (.int ch2), .val (.int ch3), .val (.int ch4), .val (.int ((p5 &&& (2147483647 : Int32)) % (6 : Int32))), .unset, .unset, .unset, .unset, .unset, .unset, .unset, .unset, .unset, .unset, .unset] [(.int (29 : Int32)), (.ref b142), (.ref b142)]) _
              refine XS.iload X315.here hx rfl (hb hby at_360) rfl ?_
              exact kt)
            obtain ⟨cl321, Ar321, q321, Sz321, Ng321, Hs321, Gs321⟩ := id V315
            have hin321 : ¬ ((29 : Int32) < 0 ∨ cl321.slots.size ≤ ((29 : Int32)).toNatClampNeg) := inb_of Sz321 ⟨by decide, by decide⟩
            obtain ⟨T321, h321, X321, e321, W321, st321⟩ := stC X315 hx hZ e315 Ar321 (j := (29 : Int32)) hin321 (g := (mkF m 362 #[.val (.int p0), .val (.int p1), .val (.int p2), .val (.int p3), .val (.int p4), .val (.int p5), .val (.int ch0), .val (.int ch1), .val (.int ch2), .val (.int ch3), .val (.int ch4), .val (.int ((p5 &&& (2147483647 : Int32)) % (6 : Int32))), .unset, .unset, .unset, .unset, .unset, .unset, .unset, .unset, .unset, .unset, .unset] [(.int ch1), (.int (29 : Int32)), (.ref b142), (.ref b142)])) rfl rfl (hb hby at_362)
            have Z322 : n0 ≤ h321.size := Nat.le_trans Z316 (Keep.of_wr W321).1
            have Od323 : Old Z n0 h321 := Od317.wr W321 g_b142
            have V321 : Arv Z h321 b142 kk142 .char (64 : Int32) ((.int ch0) :: (.int ch1) :: (.int ch2) :: (.int ch3) :: (.int ch4) :: (.int ch1) :: (.int ch2) :: (.int ch3) :: (.int ch4) :: (.int ch1) :: (.int ch2) :: (.int ch3) :: (.int ch4) :: (.int ch1) :: (.int ch2) :: (.int ch3) :: (.int ch4) :: (.int ch1) :: (.int ch2) :: (.int ch3) :: (.int ch4) :: (.int ch1) :: (.int ch2) :: (.int ch3) :: (.int ch4) :: (.int ch1) :: (.int ch2) :: (.int ch3) :: (.int ch4) :: (.int (ch1.toUInt32.toUInt16.toUInt32.toInt32)) :: (.int (0 : Int32)) :: (.int (0 : Int32)) :: (.int (0 : Int32)) :: (.int (0 : Int32)) :: (.int (0 : Int32)) :: (.int (0 : Int32)) :: (.int (0 : Int32)) :: (.int (0 : Int32)) :: (.int (0 : Int32)) :: (.int (0 : Int32)) :: (.int (0 : Int32)) :: (.int (0 : Int32)) :: (.int (0 : Int32)) :: (.int (0 : Int32)) :: (.int (0 : Int32)) :: (.int (0 : Int32)) :: (.int (0 : Int32)) :: (.int (0 : Int32)) :: (.int (0 : Int32)) :: (.int (0 : Int32)) :: (.int (0 : Int32)) :: (.int (0 : Int32)) :: (.int (0 : Int32)) :: (.int (0 : Int32)) :: (.int (0 : Int32)) :: (.int (0 : Int32)) :: (.int (0 : Int32)) :: (.int (0 : Int32)) :: (.int (0 : Int32)) :: (.int (0 : Int32)) :: (.int (0 : Int32)) :: (.int (0 : Int32)) :: (.int (0 : Int32)) :: (.int (0 : Int32)) :: []) (.int (0 : Int32)) := Arv.set Ar321 q321 Sz321 Ng321 Hs321 Gs321 (fits_nar_char _) W321 29 rfl (Nat.le_of_ble_eq_true rfl)
            rw [(show (ch1.toUInt32.toUInt16.toUInt32.toInt32) = ch1 from gd1.2.2.2)] at V321
            have Nf324 := Fr.snoc X321 Nf318 g_b142
            have kn325 : ∀ t, own_S p e below T321 (mkF m 363 #[.val (.int p0), .val (.int p1), .val (.int p2), .val (.int p3), .val (.int p4), .val (.int p5), .val (.int ch0), .val (.int ch1), .val (.int ch2), .val (.int ch3), .val (.int ch4), .val (.int ((p5 &&& (2147483647 : Int32)) % (6 : Int32))), .unset, .unset, .unset, .unset, .unset, .unset, .unset, .unset, .unset, .unset, .unset] [(.ref b142)]) t → Gl t := fun t kt => kn320 t (st321 _ kt)
            have kn326 : ∀ t, own_S p e below T321 (mkF m 368 #[.val (.int p0), .val (.int p1), .val (.int p2), .val (.int p3), .val (.int p4), .val (.int p5), .val (.int ch0), .val (.int ch1), .val (.int ch2), .val (.int ch3), .val (.int ch4), .val (.int ((p5 &&& (2147483647 : Int32)) % (6 : Int32))), .unset, .unset, .unset, .unset, .unset, .unset, .unset, .unset, .unset, .unset, .unset] [(.int ch2), (.int (30 : Int32)), (.ref b142), (.ref b142)]) t → Gl t := fun t kt => kn325 t (by
              show own_S p e below T321 (mkF m 363 #[.val (.int p0), .val (.int p1), .val (.int p2), .val (.int p3), .val (.int p4), .val (.int p5), .val (.int ch0), .val (.int ch1), .val (.int ch2), .val (.int ch3), .val (.int ch4), .val (.int ((p5 &&& (2147483647 : Int32)) % (6 : Int32))), .unset, .unset, .unset, .unset, .unset, .unset, .unset, .unset, .unset, .unset, .unset] [(.ref b142)]) _
              refine XS.dup X321.here hx rfl (hb hby at_363) rfl rfl ?_
              show own_S p e below T321 (mkF m 364 #[.val (.int p0), .val (.int p1), .val (.int p2), .val (.int p3), .val (.int p4), .val (.int p5), .val (.int ch0), .val (.int ch1), .val (.int ch2), .val (.int ch3), .val (.int ch4), .val (.int ((p5 &&& (2147483647 : Int32)) % (6 : Int32))), .unset, .unset, .unset, .unset, .unset, .unset, .unset, .unset, .unset, .unset, .unset] [(.ref b142), (.ref b142)]) _
              refine XS.bipush X321.here hx rfl (hb hby at_364) ?_
              show own_S p e below T321 (mkF m 366 #[.val (.int p0), .val (.int p1), .val (.int p2), .val (.int p3), .val (.int p4), .val (.int p5), .val (.int ch0), .val (.int ch1), .val (.int ch2), .val (.int ch3), .val (.int ch4), .val (.int ((p5 &&& (2147483647 : Int32)) % (6 : Int32))), .unset, .unset, .unset, .unset, .unset, .unset, .unset, .unset, .unset, .unset, .unset] [(.int (30 : Int32)), (.ref b142), (.ref b142)]) _
              refine XS.iload X321.here hx rfl (hb hby at_366) rfl ?_
              exact kt)
            obtain ⟨cl327, Ar327, q327, Sz327, Ng327, Hs327, Gs327⟩ := id V321
            have hin327 : ¬ ((30 : Int32) < 0 ∨ cl327.slots.size ≤ ((30 : Int32)).toNatClampNeg) := inb_of Sz327 ⟨by decide, by decide⟩
            obtain ⟨T327, h327, X327, e327, W327, st327⟩ := stC X321 hx hZ e321 Ar327 (j := (30 : Int32)) hin327 (g := (mkF m 368 #[.val (.int p0), .val (.int p1), .val (.int p2), .val (.int p3), .val (.int p4), .val (.int p5), .val (.int ch0), .val (.int ch1), .val (.int ch2), .val (.int ch3), .val (.int ch4), .val (.int ((p5 &&& (2147483647 : Int32)) % (6 : Int32))), .unset, .unset, .unset, .unset, .unset, .unset, .unset, .unset, .unset, .unset, .unset] [(.int ch2), (.int (30 : Int32)), (.ref b142), (.ref b142)])) rfl rfl (hb hby at_368)
            have Z328 : n0 ≤ h327.size := Nat.le_trans Z322 (Keep.of_wr W327).1
            have Od329 : Old Z n0 h327 := Od323.wr W327 g_b142
            have V327 : Arv Z h327 b142 kk142 .char (64 : Int32) ((.int ch0) :: (.int ch1) :: (.int ch2) :: (.int ch3) :: (.int ch4) :: (.int ch1) :: (.int ch2) :: (.int ch3) :: (.int ch4) :: (.int ch1) :: (.int ch2) :: (.int ch3) :: (.int ch4) :: (.int ch1) :: (.int ch2) :: (.int ch3) :: (.int ch4) :: (.int ch1) :: (.int ch2) :: (.int ch3) :: (.int ch4) :: (.int ch1) :: (.int ch2) :: (.int ch3) :: (.int ch4) :: (.int ch1) :: (.int ch2) :: (.int ch3) :: (.int ch4) :: (.int ch1) :: (.int (ch2.toUInt32.toUInt16.toUInt32.toInt32)) :: (.int (0 : Int32)) :: (.int (0 : Int32)) :: (.int (0 : Int32)) :: (.int (0 : Int32)) :: (.int (0 : Int32)) :: (.int (0 : Int32)) :: (.int (0 : Int32)) :: (.int (0 : Int32)) :: (.int (0 : Int32)) :: (.int (0 : Int32)) :: (.int (0 : Int32)) :: (.int (0 : Int32)) :: (.int (0 : Int32)) :: (.int (0 : Int32)) :: (.int (0 : Int32)) :: (.int (0 : Int32)) :: (.int (0 : Int32)) :: (.int (0 : Int32)) :: (.int (0 : Int32)) :: (.int (0 : Int32)) :: (.int (0 : Int32)) :: (.int (0 : Int32)) :: (.int (0 : Int32)) :: (.int (0 : Int32)) :: (.int (0 : Int32)) :: (.int (0 : Int32)) :: (.int (0 : Int32)) :: (.int (0 : Int32)) :: (.int (0 : Int32)) :: (.int (0 : Int32)) :: (.int (0 : Int32)) :: (.int (0 : Int32)) :: (.int (0 : Int32)) :: []) (.int (0 : Int32)) := Arv.set Ar327 q327 Sz327 Ng327 Hs327 Gs327 (fits_nar_char _) W327 30 rfl (Nat.le_of_ble_eq_true rfl)
            rw [(show (ch2.toUInt32.toUInt16.toUInt32.toInt32) = ch2 from gd2.2.2.2)] at V327
            have Nf330 := Fr.snoc X327 Nf324 g_b142
            have kn331 : ∀ t, own_S p e below T327 (mkF m 369 #[.val (.int p0), .val (.int p1), .val (.int p2), .val (.int p3), .val (.int p4), .val (.int p5), .val (.int ch0), .val (.int ch1), .val (.int ch2), .val (.int ch3), .val (.int ch4), .val (.int ((p5 &&& (2147483647 : Int32)) % (6 : Int32))), .unset, .unset, .unset, .unset, .unset, .unset, .unset, .unset, .unset, .unset, .unset] [(.ref b142)]) t → Gl t := fun t kt => kn326 t (st327 _ kt)
            have kn332 : ∀ t, own_S p e below T327 (mkF m 374 #[.val (.int p0), .val (.int p1), .val (.int p2), .val (.int p3), .val (.int p4), .val (.int p5), .val (.int ch0), .val (.int ch1), .val (.int ch2), .val (.int ch3), .val (.int ch4), .val (.int ((p5 &&& (2147483647 : Int32)) % (6 : Int32))), .unset, .unset, .unset, .unset, .unset, .unset, .unset, .unset, .unset, .unset, .unset] [(.int ch3), (.int (31 : Int32)), (.ref b142), (.ref b142)]) t → Gl t := fun t kt => kn331 t (by
              show own_S p e below T327 (mkF m 369 #[.val (.int p0), .val (.int p1), .val (.int p2), .val (.int p3), .val (.int p4), .val (.int p5), .val (.int ch0), .val (.int ch1), .val (.int ch2), .val (.int ch3), .val (.int ch4), .val (.int ((p5 &&& (2147483647 : Int32)) % (6 : Int32))), .unset, .unset, .unset, .unset, .unset, .unset, .unset, .unset, .unset, .unset, .unset] [(.ref b142)]) _
              refine XS.dup X327.here hx rfl (hb hby at_369) rfl rfl ?_
              show own_S p e below T327 (mkF m 370 #[.val (.int p0), .val (.int p1), .val (.int p2), .val (.int p3), .val (.int p4), .val (.int p5), .val (.int ch0), .val (.int ch1), .val (.int ch2), .val (.int ch3), .val (.int ch4), .val (.int ((p5 &&& (2147483647 : Int32)) % (6 : Int32))), .unset, .unset, .unset, .unset, .unset, .unset, .unset, .unset, .unset, .unset, .unset] [(.ref b142), (.ref b142)]) _
              refine XS.bipush X327.here hx rfl (hb hby at_370) ?_
              show own_S p e below T327 (mkF m 372 #[.val (.int p0), .val (.int p1), .val (.int p2), .val (.int p3), .val (.int p4), .val (.int p5), .val (.int ch0), .val (.int ch1), .val (.int ch2), .val (.int ch3), .val (.int ch4), .val (.int ((p5 &&& (2147483647 : Int32)) % (6 : Int32))), .unset, .unset, .unset, .unset, .unset, .unset, .unset, .unset, .unset, .unset, .unset] [(.int (31 : Int32)), (.ref b142), (.ref b142)]) _
              refine XS.iload X327.here hx rfl (hb hby at_372) rfl ?_
              exact kt)
            obtain ⟨cl333, Ar333, q333, Sz333, Ng333, Hs333, Gs333⟩ := id V327
            have hin333 : ¬ ((31 : Int32) < 0 ∨ cl333.slots.size ≤ ((31 : Int32)).toNatClampNeg) := inb_of Sz333 ⟨by decide, by decide⟩
            obtain ⟨T333, h333, X333, e333, W333, st333⟩ := stC X327 hx hZ e327 Ar333 (j := (31 : Int32)) hin333 (g := (mkF m 374 #[.val (.int p0), .val (.int p1), .val (.int p2), .val (.int p3), .val (.int p4), .val (.int p5), .val (.int ch0), .val (.int ch1), .val (.int ch2), .val (.int ch3), .val (.int ch4), .val (.int ((p5 &&& (2147483647 : Int32)) % (6 : Int32))), .unset, .unset, .unset, .unset, .unset, .unset, .unset, .unset, .unset, .unset, .unset] [(.int ch3), (.int (31 : Int32)), (.ref b142), (.ref b142)])) rfl rfl (hb hby at_374)
            have Z334 : n0 ≤ h333.size := Nat.le_trans Z328 (Keep.of_wr W333).1
            have Od335 : Old Z n0 h333 := Od329.wr W333 g_b142
            have V333 : Arv Z h333 b142 kk142 .char (64 : Int32) ((.int ch0) :: (.int ch1) :: (.int ch2) :: (.int ch3) :: (.int ch4) :: (.int ch1) :: (.int ch2) :: (.int ch3) :: (.int ch4) :: (.int ch1) :: (.int ch2) :: (.int ch3) :: (.int ch4) :: (.int ch1) :: (.int ch2) :: (.int ch3) :: (.int ch4) :: (.int ch1) :: (.int ch2) :: (.int ch3) :: (.int ch4) :: (.int ch1) :: (.int ch2) :: (.int ch3) :: (.int ch4) :: (.int ch1) :: (.int ch2) :: (.int ch3) :: (.int ch4) :: (.int ch1) :: (.int ch2) :: (.int (ch3.toUInt32.toUInt16.toUInt32.toInt32)) :: (.int (0 : Int32)) :: (.int (0 : Int32)) :: (.int (0 : Int32)) :: (.int (0 : Int32)) :: (.int (0 : Int32)) :: (.int (0 : Int32)) :: (.int (0 : Int32)) :: (.int (0 : Int32)) :: (.int (0 : Int32)) :: (.int (0 : Int32)) :: (.int (0 : Int32)) :: (.int (0 : Int32)) :: (.int (0 : Int32)) :: (.int (0 : Int32)) :: (.int (0 : Int32)) :: (.int (0 : Int32)) :: (.int (0 : Int32)) :: (.int (0 : Int32)) :: (.int (0 : Int32)) :: (.int (0 : Int32)) :: (.int (0 : Int32)) :: (.int (0 : Int32)) :: (.int (0 : Int32)) :: (.int (0 : Int32)) :: (.int (0 : Int32)) :: (.int (0 : Int32)) :: (.int (0 : Int32)) :: (.int (0 : Int32)) :: (.int (0 : Int32)) :: (.int (0 : Int32)) :: (.int (0 : Int32)) :: (.int (0 : Int32)) :: []) (.int (0 : Int32)) := Arv.set Ar333 q333 Sz333 Ng333 Hs333 Gs333 (fits_nar_char _) W333 31 rfl (Nat.le_of_ble_eq_true rfl)
            rw [(show (ch3.toUInt32.toUInt16.toUInt32.toInt32) = ch3 from gd3.2.2.2)] at V333
            have Nf336 := Fr.snoc X333 Nf330 g_b142
            have kn337 : ∀ t, own_S p e below T333 (mkF m 375 #[.val (.int p0), .val (.int p1), .val (.int p2), .val (.int p3), .val (.int p4), .val (.int p5), .val (.int ch0), .val (.int ch1), .val (.int ch2), .val (.int ch3), .val (.int ch4), .val (.int ((p5 &&& (2147483647 : Int32)) % (6 : Int32))), .unset, .unset, .unset, .unset, .unset, .unset, .unset, .unset, .unset, .unset, .unset] [(.ref b142)]) t → Gl t := fun t kt => kn332 t (st333 _ kt)
            have kn338 : ∀ t, own_S p e below T333 (mkF m 380 #[.val (.int p0), .val (.int p1), .val (.int p2), .val (.int p3), .val (.int p4), .val (.int p5), .val (.int ch0), .val (.int ch1), .val (.int ch2), .val (.int ch3), .val (.int ch4), .val (.int ((p5 &&& (2147483647 : Int32)) % (6 : Int32))), .unset, .unset, .unset, .unset, .unset, .unset, .unset, .unset, .unset, .unset, .unset] [(.int ch4), (.int (32 : Int32)), (.ref b142), (.ref b142)]) t → Gl t := fun t kt => kn337 t (by
              show own_S p e below T333 (mkF m 375 #[.val (.int p0), .val (.int p1), .val (.int p2), .val (.int p3), .val (.int p4), .val (.int p5), .val (.int ch0), .val (.int ch1), .val (.int ch2), .val (.int ch3), .val (.int ch4), .val (.int ((p5 &&& (2147483647 : Int32)) % (6 : Int32))), .unset, .unset, .unset, .unset, .unset, .unset, .unset, .unset, .unset, .unset, .unset] [(.ref b142)]) _
              refine XS.dup X333.here hx rfl (hb hby at_375) rfl rfl ?_
              show own_S p e below T333 (mkF m 376 #[.val (.int p0), .val (.int p1), .val (.int p2), .val (.int p3), .val (.int p4), .val (.int p5), .val (.int ch0), .val (.int ch1), .val (.int ch2), .val (.int ch3), .val (.int ch4), .val (.int ((p5 &&& (2147483647 : Int32)) % (6 : Int32))), .unset, .unset, .unset, .unset, .unset, .unset, .unset, .unset, .unset, .unset, .unset] [(.ref b142), (.ref b142)]) _
              refine XS.bipush X333.here hx rfl (hb hby at_376) ?_
              show own_S p e below T333 (mkF m 378 #[.val (.int p0), .val (.int p1), .val (.int p2), .val (.int p3), .val (.int p4), .val (.int p5), .val (.int ch0), .val (.int ch1), .val (.int ch2), .val (.int ch3), .val (.int ch4), .val (.int ((p5 &&& (2147483647 : Int32)) % (6 : Int32))), .unset, .unset, .unset, .unset, .unset, .unset, .unset, .unset, .unset, .unset, .unset] [(.int (32 : Int32)), (.ref b142), (.ref b142)]) _
              refine XS.iload X333.here hx rfl (hb hby at_378) rfl ?_
              exact kt)
            obtain ⟨cl339, Ar339, q339, Sz339, Ng339, Hs339, Gs339⟩ := id V333
            have hin339 : ¬ ((32 : Int32) < 0 ∨ cl339.slots.size ≤ ((32 : Int32)).toNatClampNeg) := inb_of Sz339 ⟨by decide, by decide⟩
            obtain ⟨T339, h339, X339, e339, W339, st339⟩ := stC X333 hx hZ e333 Ar339 (j := (32 : Int32)) hin339 (g := (mkF m 380 #[.val (.int p0), .val (.int p1), .val (.int p2), .val (.int p3), .val (.int p4), .val (.int p5), .val (.int ch0), .val (.int ch1), .val (.int ch2), .val (.int ch3), .val (.int ch4), .val (.int ((p5 &&& (2147483647 : Int32)) % (6 : Int32))), .unset, .unset, .unset, .unset, .unset, .unset, .unset, .unset, .unset, .unset, .unset] [(.int ch4), (.int (32 : Int32)), (.ref b142), (.ref b142)])) rfl rfl (hb hby at_380)
            have Z340 : n0 ≤ h339.size := Nat.le_trans Z334 (Keep.of_wr W339).1
            have Od341 : Old Z n0 h339 := Od335.wr W339 g_b142
            have V339 : Arv Z h339 b142 kk142 .char (64 : Int32) ((.int ch0) :: (.int ch1) :: (.int ch2) :: (.int ch3) :: (.int ch4) :: (.int ch1) :: (.int ch2) :: (.int ch3) :: (.int ch4) :: (.int ch1) :: (.int ch2) :: (.int ch3) :: (.int ch4) :: (.int ch1) :: (.int ch2) :: (.int ch3) :: (.int ch4) :: (.int ch1) :: (.int ch2) :: (.int ch3) :: (.int ch4) :: (.int ch1) :: (.int ch2) :: (.int ch3) :: (.int ch4) :: (.int ch1) :: (.int ch2) :: (.int ch3) :: (.int ch4) :: (.int ch1) :: (.int ch2) :: (.int ch3) :: (.int (ch4.toUInt32.toUInt16.toUInt32.toInt32)) :: (.int (0 : Int32)) :: (.int (0 : Int32)) :: (.int (0 : Int32)) :: (.int (0 : Int32)) :: (.int (0 : Int32)) :: (.int (0 : Int32)) :: (.int (0 : Int32)) :: (.int (0 : Int32)) :: (.int (0 : Int32)) :: (.int (0 : Int32)) :: (.int (0 : Int32)) :: (.int (0 : Int32)) :: (.int (0 : Int32)) :: (.int (0 : Int32)) :: (.int (0 : Int32)) :: (.int (0 : Int32)) :: (.int (0 : Int32)) :: (.int (0 : Int32)) :: (.int (0 : Int32)) :: (.int (0 : Int32)) :: (.int (0 : Int32)) :: (.int (0 : Int32)) :: (.int (0 : Int32)) :: (.int (0 : Int32)) :: (.int (0 : Int32)) :: (.int (0 : Int32)) :: (.int (0 : Int32)) :: (.int (0 : Int32)) :: (.int (0 : Int32)) :: (.int (0 : Int32)) :: (.int (0 : Int32)) :: []) (.int (0 : Int32)) := Arv.set Ar339 q339 Sz339 Ng339 Hs339 Gs339 (fits_nar_char _) W339 32 rfl (Nat.le_of_ble_eq_true rfl)
            rw [(show (ch4.toUInt32.toUInt16.toUInt32.toInt32) = ch4 from gd4.2.2.2)] at V339
            have Nf342 := Fr.snoc X339 Nf336 g_b142
            have kn343 : ∀ t, own_S p e below T339 (mkF m 381 #[.val (.int p0), .val (.int p1), .val (.int p2), .val (.int p3), .val (.int p4), .val (.int p5), .val (.int ch0), .val (.int ch1), .val (.int ch2), .val (.int ch3), .val (.int ch4), .val (.int ((p5 &&& (2147483647 : Int32)) % (6 : Int32))), .unset, .unset, .unset, .unset, .unset, .unset, .unset, .unset, .unset, .unset, .unset] [(.ref b142)]) t → Gl t := fun t kt => kn338 t (st339 _ kt)
            have kn344 : ∀ t, own_S p e below T339 (mkF m 386 #[.val (.int p0), .val (.int p1), .val (.int p2), .val (.int p3), .val (.int p4), .val (.int p5), .val (.int ch0), .val (.int ch1), .val (.int ch2), .val (.int ch3), .val (.int ch4), .val (.int ((p5 &&& (2147483647 : Int32)) % (6 : Int32))), .unset, .unset, .unset, .unset, .unset, .unset, .unset, .unset, .unset, .unset, .unset] [(.int ch1), (.int (33 : Int32)), (.ref b142), (.ref b142)]) t → Gl t := fun t kt => kn343 t (by
              show own_S p e below T339 (mkF m 381 #[.val (.int p0), .val (.int p1), .val (.int p2), .val (.int p3), .val (.int p4), .val (.int p5), .val (.int ch0), .val (.int ch1), .val (.int ch2), .val (.int ch3), .val (.int ch4), .val (.int ((p5 &&& (2147483647 : Int32)) % (6 : Int32))), .unset, .unset, .unset, .unset, .unset, .unset, .unset, .unset, .unset, .unset, .unset] [(.ref b142)]) _
              refine XS.dup X339.here hx rfl (hb hby at_381) rfl rfl ?_
              show own_S p e below T339 (mkF m 382 #[.val (.int p0), .val (.int p1), .val (.int p2), .val (.int p3), .val (.int p4), .val (.int p5), .val (.int ch0), .val (.int ch1), .val (.int ch2), .val (.int ch3), .val (.int ch4), .val (.int ((p5 &&& (2147483647 : Int32)) % (6 : Int32))), .unset, .unset, .unset, .unset, .unset, .unset, .unset, .unset, .unset, .unset, .unset] [(.ref b142), (.ref b142)]) _
              refine XS.bipush X339.here hx rfl (hb hby at_382) ?_
              show own_S p e below T339 (mkF m 384 #[.val (.int p0), .val (.int p1), .val (.int p2), .val (.int p3), .val (.int p4), .val (.int p5), .val (.int ch0), .val (.int ch1), .val (.int ch2), .val (.int ch3), .val (.int ch4), .val (.int ((p5 &&& (2147483647 : Int32)) % (6 : Int32))), .unset, .unset, .unset, .unset, .unset, .unset, .unset, .unset, .unset, .unset, .unset] [(.int (33 : Int32)), (.ref b142), (.ref b142)]) _
              refine XS.iload X339.here hx rfl (hb hby at_384) rfl ?_
              exact kt)
            obtain ⟨cl345, Ar345, q345, Sz345, Ng345, Hs345, Gs345⟩ := id V339
            have hin345 : ¬ ((33 : Int32) < 0 ∨ cl345.slots.size ≤ ((33 : Int32)).toNatClampNeg) := inb_of Sz345 ⟨by decide, by decide⟩
            obtain ⟨T345, h345, X345, e345, W345, st345⟩ := stC X339 hx hZ e339 Ar345 (j := (33 : Int32)) hin345 (g := (mkF m 386 #[.val (.int p0), .val (.int p1), .val (.int p2), .val (.int p3), .val (.int p4), .val (.int p5), .val (.int ch0), .val (.int ch1), .val (.int ch2), .val (.int ch3), .val (.int ch4), .val (.int ((p5 &&& (2147483647 : Int32)) % (6 : Int32))), .unset, .unset, .unset, .unset, .unset, .unset, .unset, .unset, .unset, .unset, .unset] [(.int ch1), (.int (33 : Int32)), (.ref b142), (.ref b142)])) rfl rfl (hb hby at_386)
            have Z346 : n0 ≤ h345.size := Nat.le_trans Z340 (Keep.of_wr W345).1
            have Od347 : Old Z n0 h345 := Od341.wr W345 g_b142
            have V345 : Arv Z h345 b142 kk142 .char (64 : Int32) ((.int ch0) :: (.int ch1) :: (.int ch2) :: (.int ch3) :: (.int ch4) :: (.int ch1) :: (.int ch2) :: (.int ch3) :: (.int ch4) :: (.int ch1) :: (.int ch2) :: (.int ch3) :: (.int ch4) :: (.int ch1) :: (.int ch2) :: (.int ch3) :: (.int ch4) :: (.int ch1) :: (.int ch2) :: (.int ch3) :: (.int ch4) :: (.int ch1) :: (.int ch2) :: (.int ch3) :: (.int ch4) :: (.int ch1) :: (.int ch2) :: (.int ch3) :: (.int ch4) :: (.int ch1) :: (.int ch2) :: (.int ch3) :: (.int ch4) :: (.int (ch1.toUInt32.toUInt16.toUInt32.toInt32)) :: (.int (0 : Int32)) :: (.int (0 : Int32)) :: (.int (0 : Int32)) :: (.int (0 : Int32)) :: (.int (0 : Int32)) :: (.int (0 : Int32)) :: (.int (0 : Int32)) :: (.int (0 : Int32)) :: (.int (0 : Int32)) :: (.int (0 : Int32)) :: (.int (0 : Int32)) :: (.int (0 : Int32)) :: (.int (0 : Int32)) :: (.int (0 : Int32)) :: (.int (0 : Int32)) :: (.int (0 : Int32)) :: (.int (0 : Int32)) :: (.int (0 : Int32)) :: (.int (0 : Int32)) :: (.int (0 : Int32)) :: (.int (0 : Int32)) :: (.int (0 : Int32)) :: (.int (0 : Int32)) :: (.int (0 : Int32)) :: (.int (0 : Int32)) :: (.int (0 : Int32)) :: (.int (0 : Int32)) :: (.int (0 : Int32)) :: (.int (0 : Int32)) :: (.int (0 : Int32)) :: []) (.int (0 : Int32)) := Arv.set Ar345 q345 Sz345 Ng345 Hs345 Gs345 (fits_nar_char _) W345 33 rfl (Nat.le_of_ble_eq_true rfl)
            rw [(show (ch1.toUInt32.toUInt16.toUInt32.toInt32) = ch1 from gd1.2.2.2)] at V345
            have Nf348 := Fr.snoc X345 Nf342 g_b142
            have kn349 : ∀ t, own_S p e below T345 (mkF m 387 #[.val (.int p0), .val (.int p1), .val (.int p2), .val (.int p3), .val (.int p4), .val (.int p5), .val (.int ch0), .val (.int ch1), .val (.int ch2), .val (.int ch3), .val (.int ch4), .val (.int ((p5 &&& (2147483647 : Int32)) % (6 : Int32))), .unset, .unset, .unset, .unset, .unset, .unset, .unset, .unset, .unset, .unset, .unset] [(.ref b142)]) t → Gl t := fun t kt => kn344 t (st345 _ kt)
            have kn350 : ∀ t, own_S p e below T345 (mkF m 392 #[.val (.int p0), .val (.int p1), .val (.int p2), .val (.int p3), .val (.int p4), .val (.int p5), .val (.int ch0), .val (.int ch1), .val (.int ch2), .val (.int ch3), .val (.int ch4), .val (.int ((p5 &&& (2147483647 : Int32)) % (6 : Int32))), .unset, .unset, .unset, .unset, .unset, .unset, .unset, .unset, .unset, .unset, .unset] [(.int ch2), (.int (34 : Int32)), (.ref b142), (.ref b142)]) t → Gl t := fun t kt => kn349 t (by
              show own_S p e below T345 (mkF m 387 #[.val (.int p0), .val (.int p1), .val (.int p2), .val (.int p3), .val (.int p4), .val (.int p5), .val (.int ch0), .val (.int ch1), .val (.int ch2), .val (.int ch3), .val (.int ch4), .val (.int ((p5 &&& (2147483647 : Int32)) % (6 : Int32))), .unset, .unset, .unset, .unset, .unset, .unset, .unset, .unset, .unset, .unset, .unset] [(.ref b142)]) _
              refine XS.dup X345.here hx rfl (hb hby at_387) rfl rfl ?_
              show own_S p e below T345 (mkF m 388 #[.val (.int p0), .val (.int p1), .val (.int p2), .val (.int p3), .val (.int p4), .val (.int p5), .val (.int ch0), .val (.int ch1), .val (.int ch2), .val (.int ch3), .val (.int ch4), .val (.int ((p5 &&& (2147483647 : Int32)) % (6 : Int32))), .unset, .unset, .unset, .unset, .unset, .unset, .unset, .unset, .unset, .unset, .unset] [(.ref b142), (.ref b142)]) _
              refine XS.bipush X345.here hx rfl (hb hby at_388) ?_
              show own_S p e below T345 (mkF m 390 #[.val (.int p0), .val (.int p1), .val (.int p2), .val (.int p3), .val (.int p4), .val (.int p5), .val (.int ch0), .val (.int ch1), .val (.int ch2), .val (.int ch3), .val (.int ch4), .val (.int ((p5 &&& (2147483647 : Int32)) % (6 : Int32))), .unset, .unset, .unset, .unset, .unset, .unset, .unset, .unset, .unset, .unset, .unset] [(.int (34 : Int32)), (.ref b142), (.ref b142)]) _
              refine XS.iload X345.here hx rfl (hb hby at_390) rfl ?_
              exact kt)
            obtain ⟨cl351, Ar351, q351, Sz351, Ng351, Hs351, Gs351⟩ := id V345
            have hin351 : ¬ ((34 : Int32) < 0 ∨ cl351.slots.size ≤ ((34 : Int32)).toNatClampNeg) := inb_of Sz351 ⟨by decide, by decide⟩
            obtain ⟨T351, h351, X351, e351, W351, st351⟩ := stC X345 hx hZ e345 Ar351 (j := (34 : Int32)) hin351 (g := (mkF m 392 #[.val (.int p0), .val (.int p1), .val (.int p2), .val (.int p3), .val (.int p4), .val (.int p5), .val (.int ch0), .val (.int ch1), .val (.int ch2), .val (.int ch3), .val (.int ch4), .val (.int ((p5 &&& (2147483647 : Int32)) % (6 : Int32))), .unset, .unset, .unset, .unset, .unset, .unset, .unset, .unset, .unset, .unset, .unset] [(.int ch2), (.int (34 : Int32)), (.ref b142), (.ref b142)])) rfl rfl (hb hby at_392)
            have Z352 : n0 ≤ h351.size := Nat.le_trans Z346 (Keep.of_wr W351).1
            have Od353 : Old Z n0 h351 := Od347.wr W351 g_b142
            have V351 : Arv Z h351 b142 kk142 .char (64 : Int32) ((.int ch0) :: (.int ch1) :: (.int ch2) :: (.int ch3) :: (.int ch4) :: (.int ch1) :: (.int ch2) :: (.int ch3) :: (.int ch4) :: (.int ch1) :: (.int ch2) :: (.int ch3) :: (.int ch4) :: (.int ch1) :: (.int ch2) :: (.int ch3) :: (.int ch4) :: (.int ch1) :: (.int ch2) :: (.int ch3) :: (.int ch4) :: (.int ch1) :: (.int ch2) :: (.int ch3) :: (.int ch4) :: (.int ch1) :: (.int ch2) :: (.int ch3) :: (.int ch4) :: (.int ch1) :: (.int ch2) :: (.int ch3) :: (.int ch4) :: (.int ch1) :: (.int (ch2.toUInt32.toUInt16.toUInt32.toInt32)) :: (.int (0 : Int32)) :: (.int (0 : Int32)) :: (.int (0 : Int32)) :: (.int (0 : Int32)) :: (.int (0 : Int32)) :: (.int (0 : Int32)) :: (.int (0 : Int32)) :: (.int (0 : Int32)) :: (.int (0 : Int32)) :: (.int (0 : Int32)) :: (.int (0 : Int32)) :: (.int (0 : Int32)) :: (.int (0 : Int32)) :: (.int (0 : Int32)) :: (.int (0 : Int32)) :: (.int (0 : Int32)) :: (.int (0 : Int32)) :: (.int (0 : Int32)) :: (.int (0 : Int32)) :: (.int (0 : Int32)) :: (.int (0 : Int32)) :: (.int (0 : Int32)) :: (.int (0 : Int32)) :: (.int (0 : Int32)) :: (.int (0 : Int32)) :: (.int (0 : Int32)) :: (.int (0 : Int32)) :: (.int (0 : Int32)) :: (.int (0 : Int32)) :: []) (.int (0 : Int32)) := Arv.set Ar351 q351 Sz351 Ng351 Hs351 Gs351 (fits_nar_char _) W351 34 rfl (Nat.le_of_ble_eq_true rfl)
            rw [(show (ch2.toUInt32.toUInt16.toUInt32.toInt32) = ch2 from gd2.2.2.2)] at V351
            have Nf354 := Fr.snoc X351 Nf348 g_b142
            have kn355 : ∀ t, own_S p e below T351 (mkF m 393 #[.val (.int p0), .val (.int p1), .val (.int p2), .val (.int p3), .val (.int p4), .val (.int p5), .val (.int ch0), .val (.int ch1), .val (.int ch2), .val (.int ch3), .val (.int ch4), .val (.int ((p5 &&& (2147483647 : Int32)) % (6 : Int32))), .unset, .unset, .unset, .unset, .unset, .unset, .unset, .unset, .unset, .unset, .unset] [(.ref b142)]) t → Gl t := fun t kt => kn350 t (st351 _ kt)
            have kn356 : ∀ t, own_S p e below T351 (mkF m 398 #[.val (.int p0), .val (.int p1), .val (.int p2), .val (.int p3), .val (.int p4), .val (.int p5), .val (.int ch0), .val (.int ch1), .val (.int ch2), .val (.int ch3), .val (.int ch4), .val (.int ((p5 &&& (2147483647 : Int32)) % (6 : Int32))), .unset, .unset, .unset, .unset, .unset, .unset, .unset, .unset, .unset, .unset, .unset] [(.int ch3), (.int (35 : Int32)), (.ref b142), (.ref b142)]) t → Gl t := fun t kt => kn355 t (by
              show own_S p e below T351 (mkF m 393 #[.val (.int p0), .val (.int p1), .val (.int p2), .val (.int p3), .val (.int p4), .val (.int p5), .val (.int ch0), .val (.int ch1), .val (.int ch2), .val (.int ch3), .val (.int ch4), .val (.int ((p5 &&& (2147483647 : Int32)) % (6 : Int32))), .unset, .unset, .unset, .unset, .unset, .unset, .unset, .unset, .unset, .unset, .unset] [(.ref b142)]) _
              refine XS.dup X351.here hx rfl (hb hby at_393) rfl rfl ?_
              show own_S p e below T351 (mkF m 394 #[.val (.int p0), .val (.int p1), .val (.int p2), .val (.int p3), .val (.int p4), .val (.int p5), .val (.int ch0), .val (.int ch1), .val (.int ch2), .val (.int ch3), .val (.int ch4), .val (.int ((p5 &&& (2147483647 : Int32)) % (6 : Int32))), .unset, .unset, .unset, .unset, .unset, .unset, .unset, .unset, .unset, .unset, .unset] [(.ref b142), (.ref b142)]) _
              refine XS.bipush X351.here hx rfl (hb hby at_394) ?_
              show own_S p e below T351 (mkF m 396 #[.val (.int p0), .val (.int p1), .val (.int p2), .val (.int p3), .val (.int p4), .val (.int p5), .val (.int ch0), .val (.int ch1), .val (.int ch2), .val (.int ch3), .val (.int ch4), .val (.int ((p5 &&& (2147483647 : Int32)) % (6 : Int32))), .unset, .unset, .unset, .unset, .unset, .unset, .unset, .unset, .unset, .unset, .unset] [(.int (35 : Int32)), (.ref b142), (.ref b142)]) _
              refine XS.iload X351.here hx rfl (hb hby at_396) rfl ?_
              exact kt)
            obtain ⟨cl357, Ar357, q357, Sz357, Ng357, Hs357, Gs357⟩ := id V351
            have hin357 : ¬ ((35 : Int32) < 0 ∨ cl357.slots.size ≤ ((35 : Int32)).toNatClampNeg) := inb_of Sz357 ⟨by decide, by decide⟩
            obtain ⟨T357, h357, X357, e357, W357, st357⟩ := stC X351 hx hZ e351 Ar357 (j := (35 : Int32)) hin357 (g := (mkF m 398 #[.val (.int p0), .val (.int p1), .val (.int p2), .val (.int p3), .val (.int p4), .val (.int p5), .val (.int ch0), .val (.int ch1), .val (.int ch2), .val (.int ch3), .val (.int ch4), .val (.int ((p5 &&& (2147483647 : Int32)) % (6 : Int32))), .unset, .unset, .unset, .unset, .unset, .unset, .unset, .unset, .unset, .unset, .unset] [(.int ch3), (.int (35 : Int32)), (.ref b142), (.ref b142)])) rfl rfl (hb hby at_398)
            have Z358 : n0 ≤ h357.size := Nat.le_trans Z352 (Keep.of_wr W357).1
            have Od359 : Old Z n0 h357 := Od353.wr W357 g_b142
            have V357 : Arv Z h357 b142 kk142 .char (64 : Int32) ((.int ch0) :: (.int ch1) :: (.int ch2) :: (.int ch3) :: (.int ch4) :: (.int ch1) :: (.int ch2) :: (.int ch3) :: (.int ch4) :: (.int ch1) :: (.int ch2) :: (.int ch3) :: (.int ch4) :: (.int ch1) :: (.int ch2) :: (.int ch3) :: (.int ch4) :: (.int ch1) :: (.int ch2) :: (.int ch3) :: (.int ch4) :: (.int ch1) :: (.int ch2) :: (.int ch3) :: (.int ch4) :: (.int ch1) :: (.int ch2) :: (.int ch3) :: (.int ch4) :: (.int ch1) :: (.int ch2) :: (.int ch3) :: (.int ch4) :: (.int ch1) :: (.int ch2) :: (.int (ch3.toUInt32.toUInt16.toUInt32.toInt32)) :: (.int (0 : Int32)) :: (.int (0 : Int32)) :: (.int (0 : Int32)) :: (.int (0 : Int32)) :: (.int (0 : Int32)) :: (.int (0 : Int32)) :: (.int (0 : Int32)) :: (.int (0 : Int32)) :: (.int (0 : Int32)) :: (.int (0 : Int32)) :: (.int (0 : Int32)) :: (.int (0 : Int32)) :: (.int (0 : Int32)) :: (.int (0 : Int32)) :: (.int (0 : Int32)) :: (.int (0 : Int32)) :: (.int (0 : Int32)) :: (.int (0 : Int32)) :: (.int (0 : Int32)) :: (.int (0 : Int32)) :: (.int (0 : Int32)) :: (.int (0 : Int32)) :: (.int (0 : Int32)) :: (.int (0 : Int32)) :: (.int (0 : Int32)) :: (.int (0 : Int32)) :: (.int (0 : Int32)) :: (.int (0 : Int32)) :: []) (.int (0 : Int32)) := Arv.set Ar357 q357 Sz357 Ng357 Hs357 Gs357 (fits_nar_char _) W357 35 rfl (Nat.le_of_ble_eq_true rfl)
            rw [(show (ch3.toUInt32.toUInt16.toUInt32.toInt32) = ch3 from gd3.2.2.2)] at V357
            have Nf360 := Fr.snoc X357 Nf354 g_b142
            have kn361 : ∀ t, own_S p e below T357 (mkF m 399 #[.val (.int p0), .val (.int p1), .val (.int p2), .val (.int p3), .val (.int p4), .val (.int p5), .val (.int ch0), .val (.int ch1), .val (.int ch2), .val (.int ch3), .val (.int ch4), .val (.int ((p5 &&& (2147483647 : Int32)) % (6 : Int32))), .unset, .unset, .unset, .unset, .unset, .unset, .unset, .unset, .unset, .unset, .unset] [(.ref b142)]) t → Gl t := fun t kt => kn356 t (st357 _ kt)
            have kn362 : ∀ t, own_S p e below T357 (mkF m 404 #[.val (.int p0), .val (.int p1), .val (.int p2), .val (.int p3), .val (.int p4), .val (.int p5), .val (.int ch0), .val (.int ch1), .val (.int ch2), .val (.int ch3), .val (.int ch4), .val (.int ((p5 &&& (2147483647 : Int32)) % (6 : Int32))), .unset, .unset, .unset, .unset, .unset, .unset, .unset, .unset, .unset, .unset, .unset] [(.int ch4), (.int (36 : Int32)), (.ref b142), (.ref b142)]) t → Gl t := fun t kt => kn361 t (by
              show own_S p e below T357 (mkF m 399 #[.val (.int p0), .val (.int p1), .val (.int p2), .val (.int p3), .val (.int p4), .val (.int p5), .val (.int ch0), .val (.int ch1), .val (.int ch2), .val (.int ch3), .val (.int ch4), .val (.int ((p5 &&& (2147483647 : Int32)) % (6 : Int32))), .unset, .unset, .unset, .unset, .unset, .unset, .unset, .unset, .unset, .unset, .unset] [(.ref b142)]) _
              refine XS.dup X357.here hx rfl (hb hby at_399) rfl rfl ?_
              show own_S p e below T357 (mkF m 400 #[.val (.int p0), .val (.int p1), .val (.int p2), .val (.int p3), .val (.int p4), .val (.int p5), .val (.int ch0), .val (.int ch1), .val (.int ch2), .val (.int ch3), .val (.int ch4), .val (.int ((p5 &&& (2147483647 : Int32)) % (6 : Int32))), .unset, .unset, .unset, .unset, .unset, .unset, .unset, .unset, .unset, .unset, .unset] [(.ref b142), (.ref b142)]) _
              refine XS.bipush X357.here hx rfl (hb hby at_400) ?_
              show own_S p e below T357 (mkF m 402 #[.val (.int p0), .val (.int p1), .val (.int p2), .val (.int p3), .val (.int p4), .val (.int p5), .val (.int ch0), .val (.int ch1), .val (.int ch2), .val (.int ch3), .val (.int ch4), .val (.int ((p5 &&& (2147483647 : Int32)) % (6 : Int32))), .unset, .unset, .unset, .unset, .unset, .unset, .unset, .unset, .unset, .unset, .unset] [(.int (36 : Int32)), (.ref b142), (.ref b142)]) _
              refine XS.iload X357.here hx rfl (hb hby at_402) rfl ?_
              exact kt)
            obtain ⟨cl363, Ar363, q363, Sz363, Ng363, Hs363, Gs363⟩ := id V357
            have hin363 : ¬ ((36 : Int32) < 0 ∨ cl363.slots.size ≤ ((36 : Int32)).toNatClampNeg) := inb_of Sz363 ⟨by decide, by decide⟩
            obtain ⟨T363, h363, X363, e363, W363, st363⟩ := stC X357 hx hZ e357 Ar363 (j := (36 : Int32)) hin363 (g := (mkF m 404 #[.val (.int p0), .val (.int p1), .val (.int p2), .val (.int p3), .val (.int p4), .val (.int p5), .val (.int ch0), .val (.int ch1), .val (.int ch2), .val (.int ch3), .val (.int ch4), .val (.int ((p5 &&& (2147483647 : Int32)) % (6 : Int32))), .unset, .unset, .unset, .unset, .unset, .unset, .unset, .unset, .unset, .unset, .unset] [(.int ch4), (.int (36 : Int32)), (.ref b142), (.ref b142)])) rfl rfl (hb hby at_404)
            have Z364 : n0 ≤ h363.size := Nat.le_trans Z358 (Keep.of_wr W363).1
            have Od365 : Old Z n0 h363 := Od359.wr W363 g_b142
            have V363 : Arv Z h363 b142 kk142 .char (64 : Int32) ((.int ch0) :: (.int ch1) :: (.int ch2) :: (.int ch3) :: (.int ch4) :: (.int ch1) :: (.int ch2) :: (.int ch3) :: (.int ch4) :: (.int ch1) :: (.int ch2) :: (.int ch3) :: (.int ch4) :: (.int ch1) :: (.int ch2) :: (.int ch3) :: (.int ch4) :: (.int ch1) :: (.int ch2) :: (.int ch3) :: (.int ch4) :: (.int ch1) :: (.int ch2) :: (.int ch3) :: (.int ch4) :: (.int ch1) :: (.int ch2) :: (.int ch3) :: (.int ch4) :: (.int ch1) :: (.int ch2) :: (.int ch3) :: (.int ch4) :: (.int ch1) :: (.int ch2) :: (.int ch3) :: (.int (ch4.toUInt32.toUInt16.toUInt32.toInt32)) :: (.int (0 : Int32)) :: (.int (0 : Int32)) :: (.int (0 : Int32)) :: (.int (0 : Int32)) :: (.int (0 : Int32)) :: (.int (0 : Int32)) :: (.int (0 : Int32)) :: (.int (0 : Int32)) :: (.int (0 : Int32)) :: (.int (0 : Int32)) :: (.int (0 : Int32)) :: (.int (0 : Int32)) :: (.int (0 : Int32)) :: (.int (0 : Int32)) :: (.int (0 : Int32)) :: (.int (0 : Int32)) :: (.int (0 : Int32)) :: (.int (0 : Int32)) :: (.int (0 : Int32)) :: (.int (0 : Int32)) :: (.int (0 : Int32)) :: (.int (0 : Int32)) :: (.int (0 : Int32)) :: (.int (0 : Int32)) :: (.int (0 : Int32)) :: (.int (0 : Int32)) :: (.int (0 : Int32)) :: []) (.int (0 : Int32)) := Arv.set Ar363 q363 Sz363 Ng363 Hs363 Gs363 (fits_nar_char _) W363 36 rfl (Nat.le_of_ble_eq_true rfl)
            rw [(show (ch4.toUInt32.toUInt16.toUInt32.toInt32) = ch4 from gd4.2.2.2)] at V363
            have Nf366 := Fr.snoc X363 Nf360 g_b142
            have kn367 : ∀ t, own_S p e below T363 (mkF m 405 #[.val (.int p0), .val (.int p1), .val (.int p2), .val (.int p3), .val (.int p4), .val (.int p5), .val (.int ch0), .val (.int ch1), .val (.int ch2), .val (.int ch3), .val (.int ch4), .val (.int ((p5 &&& (2147483647 : Int32)) % (6 : Int32))), .unset, .unset, .unset, .unset, .unset, .unset, .unset, .unset, .unset, .unset, .unset] [(.ref b142)]) t → Gl t := fun t kt => kn362 t (st363 _ kt)
            have kn368 : ∀ t, own_S p e below T363 (mkF m 410 #[.val (.int p0), .val (.int p1), .val (.int p2), .val (.int p3), .val (.int p4), .val (.int p5), .val (.int ch0), .val (.int ch1), .val (.int ch2), .val (.int ch3), .val (.int ch4), .val (.int ((p5 &&& (2147483647 : Int32)) % (6 : Int32))), .unset, .unset, .unset, .unset, .unset, .unset, .unset, .unset, .unset, .unset, .unset] [(.int ch1), (.int (37 : Int32)), (.ref b142), (.ref b142)]) t → Gl t := fun t kt => kn367 t (by
              show own_S p e below T363 (mkF m 405 #[.val (.int p0), .val (.int p1), .val (.int p2), .val (.int p3), .val (.int p4), .val (.int p5), .val (.int ch0), .val (.int ch1), .val (.int ch2), .val (.int ch3), .val (.int ch4), .val (.int ((p5 &&& (2147483647 : Int32)) % (6 : Int32))), .unset, .unset, .unset, .unset, .unset, .unset, .unset, .unset, .unset, .unset, .unset] [(.ref b142)]) _
              refine XS.dup X363.here hx rfl (hb hby at_405) rfl rfl ?_
              show own_S p e below T363 (mkF m 406 #[.val (.int p0), .val (.int p1), .val (.int p2), .val (.int p3), .val (.int p4), .val (.int p5), .val (.int ch0), .val (.int ch1), .val (.int ch2), .val (.int ch3), .val (.int ch4), .val (.int ((p5 &&& (2147483647 : Int32)) % (6 : Int32))), .unset, .unset, .unset, .unset, .unset, .unset, .unset, .unset, .unset, .unset, .unset] [(.ref b142), (.ref b142)]) _
              refine XS.bipush X363.here hx rfl (hb hby at_406) ?_
              show own_S p e below T363 (mkF m 408 #[.val (.int p0), .val (.int p1), .val (.int p2), .val (.int p3), .val (.int p4), .val (.int p5), .val (.int ch0), .val (.int ch1), .val (.int ch2), .val (.int ch3), .val (.int ch4), .val (.int ((p5 &&& (2147483647 : Int32)) % (6 : Int32))), .unset, .unset, .unset, .unset, .unset, .unset, .unset, .unset, .unset, .unset, .unset] [(.int (37 : Int32)), (.ref b142), (.ref b142)]) _
              refine XS.iload X363.here hx rfl (hb hby at_408) rfl ?_
              exact kt)
            obtain ⟨cl369, Ar369, q369, Sz369, Ng369, Hs369, Gs369⟩ := id V363
            have hin369 : ¬ ((37 : Int32) < 0 ∨ cl369.slots.size ≤ ((37 : Int32)).toNatClampNeg) := inb_of Sz369 ⟨by decide, by decide⟩
            obtain ⟨T369, h369, X369, e369, W369, st369⟩ := stC X363 hx hZ e363 Ar369 (j := (37 : Int32)) hin369 (g := (mkF m 410 #[.val (.int p0), .val (.int p1), .val (.int p2), .val (.int p3), .val (.int p4), .val (.int p5), .val (.int ch0), .val (.int ch1), .val (.int ch2), .val (.int ch3), .val (.int ch4), .val (.int ((p5 &&& (2147483647 : Int32)) % (6 : Int32))), .unset, .unset, .unset, .unset, .unset, .unset, .unset, .unset, .unset, .unset, .unset] [(.int ch1), (.int (37 : Int32)), (.ref b142), (.ref b142)])) rfl rfl (hb hby at_410)
            have Z370 : n0 ≤ h369.size := Nat.le_trans Z364 (Keep.of_wr W369).1
            have Od371 : Old Z n0 h369 := Od365.wr W369 g_b142
            have V369 : Arv Z h369 b142 kk142 .char (64 : Int32) ((.int ch0) :: (.int ch1) :: (.int ch2) :: (.int ch3) :: (.int ch4) :: (.int ch1) :: (.int ch2) :: (.int ch3) :: (.int ch4) :: (.int ch1) :: (.int ch2) :: (.int ch3) :: (.int ch4) :: (.int ch1) :: (.int ch2) :: (.int ch3) :: (.int ch4) :: (.int ch1) :: (.int ch2) :: (.int ch3) :: (.int ch4) :: (.int ch1) :: (.int ch2) :: (.int ch3) :: (.int ch4) :: (.int ch1) :: (.int ch2) :: (.int ch3) :: (.int ch4) :: (.int ch1) :: (.int ch2) :: (.int ch3) :: (.int ch4) :: (.int ch1) :: (.int ch2) :: (.int ch3) :: (.int ch4) :: (.int (ch1.toUInt32.toUInt16.toUInt32.toInt32)) :: (.int (0 : Int32)) :: (.int (0 : Int32)) :: (.int (0 : Int32)) :: (.int (0 : Int32)) :: (.int (0 : Int32)) :: (.int (0 : Int32)) :: (.int (0 : Int32)) :: (.int (0 : Int32)) :: (.int (0 : Int32)) :: (.int (0 : Int32)) :: (.int (0 : Int32)) :: (.int (0 : Int32)) :: (.int (0 : Int32)) :: (.int (0 : Int32)) :: (.int (0 : Int32)) :: (.int (0 : Int32)) :: (.int (0 : Int32)) :: (.int (0 : Int32)) :: (.int (0 : Int32)) :: (.int (0 : Int32)) :: (.int (0 : Int32)) :: (.int (0 : Int32)) :: (.int (0 : Int32)) :: (.int (0 : Int32)) :: (.int (0 : Int32)) :: (.int (0 : Int32)) :: []) (.int (0 : Int32)) := Arv.set Ar369 q369 Sz369 Ng369 Hs369 Gs369 (fits_nar_char _) W369 37 rfl (Nat.le_of_ble_eq_true rfl)
            rw [(show (ch1.toUInt32.toUInt16.toUInt32.toInt32) = ch1 from gd1.2.2.2)] at V369
            have Nf372 := Fr.snoc X369 Nf366 g_b142
            have kn373 : ∀ t, own_S p e below T369 (mkF m 411 #[.val (.int p0), .val (.int p1), .val (.int p2), .val (.int p3), .val (.int p4), .val (.int p5), .val (.int ch0), .val (.int ch1), .val (.int ch2), .val (.int ch3), .val (.int ch4), .val (.int ((p5 &&& (2147483647 : Int32)) % (6 : Int32))), .unset, .unset, .unset, .unset, .unset, .unset, .unset, .unset, .unset, .unset, .unset] [(.ref b142)]) t → Gl t := fun t kt => kn368 t (st369 _ kt)
            have kn374 : ∀ t, own_S p e below T369 (mkF m 416 #[.val (.int p0), .val (.int p1), .val (.int p2), .val (.int p3), .val (.int p4), .val (.int p5), .val (.int ch0), .val (.int ch1), .val (.int ch2), .val (.int ch3), .val (.int ch4), .val (.int ((p5 &&& (2147483647 : Int32)) % (6 : Int32))), .unset, .unset, .unset, .unset, .unset, .unset, .unset, .unset, .unset, .unset, .unset] [(.int ch2), (.int (38 : Int32)), (.ref b142), (.ref b142)]) t → Gl t := fun t kt => kn373 t (by
              show own_S p e below T369 (mkF m 411 #[.val (.int p0), .val (.int p1), .val (.int p2), .val (.int p3), .val (.int p4), .val (.int p5), .val (.int ch0), .val (.int ch1), .val (.int ch2), .val (.int ch3), .val (.int ch4), .val (.int ((p5 &&& (2147483647 : Int32)) % (6 : Int32))), .unset, .unset, .unset, .unset, .unset, .unset, .unset, .unset, .unset, .unset, .unset] [(.ref b142)]) _
              refine XS.dup X369.here hx rfl (hb hby at_411) rfl rfl ?_
              show own_S p e below T369 (mkF m 412 #[.val (.int p0), .val (.int p1), .val (.int p2), .val (.int p3), .val (.int p4), .val (.int p5), .val (.int ch0), .val (.int ch1), .val (.int ch2), .val (.int ch3), .val (.int ch4), .val (.int ((p5 &&& (2147483647 : Int32)) % (6 : Int32))), .unset, .unset, .unset, .unset, .unset, .unset, .unset, .unset, .unset, .unset, .unset] [(.ref b142), (.ref b142)]) _
              refine XS.bipush X369.here hx rfl (hb hby at_412) ?_
              show own_S p e below T369 (mkF m 414 #[.val (.int p0), .val (.int p1), .val (.int p2), .val (.int p3), .val (.int p4), .val (.int p5), .val (.int ch0), .val (.int ch1), .val (.int ch2), .val (.int ch3), .val (.int ch4), .val (.int ((p5 &&& (2147483647 : Int32)) % (6 : Int32))), .unset, .unset, .unset, .unset, .unset, .unset, .unset, .unset, .unset, .unset, .unset] [(.int (38 : Int32)), (.ref b142), (.ref b142)]) _
              refine XS.iload X369.here hx rfl (hb hby at_414) rfl ?_
              exact kt)
            obtain ⟨cl375, Ar375, q375, Sz375, Ng375, Hs375, Gs375⟩ := id V369
            have hin375 : ¬ ((38 : Int32) < 0 ∨ cl375.slots.size ≤ ((38 : Int32)).toNatClampNeg) := inb_of Sz375 ⟨by decide, by decide⟩
            obtain ⟨T375, h375, X375, e375, W375, st375⟩ := stC X369 hx hZ e369 Ar375 (j := (38 : Int32)) hin375 (g := (mkF m 416 #[.val (.int p0), .val (.int p1), .val (.int p2), .val (.int p3), .val (.int p4), .val (.int p5), .val (.int ch0), .val (.int ch1), .val (.int ch2), .val (.int ch3), .val (.int ch4), .val (.int ((p5 &&& (2147483647 : Int32)) % (6 : Int32))), .unset, .unset, .unset, .unset, .unset, .unset, .unset, .unset, .unset, .unset, .unset] [(.int ch2), (.int (38 : Int32)), (.ref b142), (.ref b142)])) rfl rfl (hb hby at_416)
            have Z376 : n0 ≤ h375.size := Nat.le_trans Z370 (Keep.of_wr W375).1
            have Od377 : Old Z n0 h375 := Od371.wr W375 g_b142
            have V375 : Arv Z h375 b142 kk142 .char (64 : Int32) ((.int ch0) :: (.int ch1) :: (.int ch2) :: (.int ch3) :: (.int ch4) :: (.int ch1) :: (.int ch2) :: (.int ch3) :: (.int ch4) :: (.int ch1) :: (.int ch2) :: (.int ch3) :: (.int ch4) :: (.int ch1) :: (.int ch2) :: (.int ch3) :: (.int ch4) :: (.int ch1) :: (.int ch2) :: (.int ch3) :: (.int ch4) :: (.int ch1) :: (.int ch2) :: (.int ch3) :: (.int ch4) :: (.int ch1) :: (.int ch2) :: (.int ch3) :: (.int ch4) :: (.int ch1) :: (.int ch2) :: (.int ch3) :: (.int ch4) :: (.int ch1) :: (.int ch2) :: (.int ch3) :: (.int ch4) :: (.int ch1) :: (.int (ch2.toUInt32.toUInt16.toUInt32.toInt32)) :: (.int (0 : Int32)) :: (.int (0 : Int32)) :: (.int (0 : Int32)) :: (.int (0 : Int32)) :: (.int (0 : Int32)) :: (.int (0 : Int32)) :: (.int (0 : Int32)) :: (.int (0 : Int32)) :: (.int (0 : Int32)) :: (.int (0 : Int32)) :: (.int (0 : Int32)) :: (.int (0 : Int32)) :: (.int (0 : Int32)) :: (.int (0 : Int32)) :: (.int (0 : Int32)) :: (.int (0 : Int32)) :: (.int (0 : Int32)) :: (.int (0 : Int32)) :: (.int (0 : Int32)) :: (.int (0 : Int32)) :: (.int (0 : Int32)) :: (.int (0 : Int32)) :: (.int (0 : Int32)) :: (.int (0 : Int32)) :: (.int (0 : Int32)) :: []) (.int (0 : Int32)) := Arv.set Ar375 q375 Sz375 Ng375 Hs375 Gs375 (fits_nar_char _) W375 38 rfl (Nat.le_of_ble_eq_true rfl)
            rw [(show (ch2.toUInt32.toUInt16.toUInt32.toInt32) = ch2 from gd2.2.2.2)] at V375
            have Nf378 := Fr.snoc X375 Nf372 g_b142
            have kn379 : ∀ t, own_S p e below T375 (mkF m 417 #[.val (.int p0), .val (.int p1), .val (.int p2), .val (.int p3), .val (.int p4), .val (.int p5), .val (.int ch0), .val (.int ch1), .val (.int ch2), .val (.int ch3), .val (.int ch4), .val (.int ((p5 &&& (2147483647 : Int32)) % (6 : Int32))), .unset, .unset, .unset, .unset, .unset, .unset, .unset, .unset, .unset, .unset, .unset] [(.ref b142)]) t → Gl t := fun t kt => kn374 t (st375 _ kt)
            have kn380 : ∀ t, own_S p e below T375 (mkF m 422 #[.val (.int p0), .val (.int p1), .val (.int p2), .val (.int p3), .val (.int p4), .val (.int p5), .val (.int ch0), .val (.int ch1), .val (.int ch2), .val (.int ch3), .val (.int ch4), .val (.int ((p5 &&& (2147483647 : Int32)) % (6 : Int32))), .unset, .unset, .unset, .unset, .unset, .unset, .unset, .unset, .unset, .unset, .unset] [(.int ch3), (.int (39 : Int32)), (.ref b142), (.ref b142)]) t → Gl t := fun t kt => kn379 t (by
              show own_S p e below T375 (mkF m 417 #[.val (.int p0), .val (.int p1), .val (.int p2), .val (.int p3), .val (.int p4), .val (.int p5), .val (.int ch0), .val (.int ch1), .val (.int ch2), .val (.int ch3), .val (.int ch4), .val (.int ((p5 &&& (2147483647 : Int32)) % (6 : Int32))), .unset, .unset, .unset, .unset, .unset, .unset, .unset, .unset, .unset, .unset, .unset] [(.ref b142)]) _
              refine XS.dup X375.here hx rfl (hb hby at_417) rfl rfl ?_
              show own_S p e below T375 (mkF m 418 #[.val (.int p0), .val (.int p1), .val (.int p2), .val (.int p3), .val (.int p4), .val (.int p5), .val (.int ch0), .val (.int ch1), .val (.int ch2), .val (.int ch3), .val (.int ch4), .val (.int ((p5 &&& (2147483647 : Int32)) % (6 : Int32))), .unset, .unset, .unset, .unset, .unset, .unset, .unset, .unset, .unset, .unset, .unset] [(.ref b142), (.ref b142)]) _
              refine XS.bipush X375.here hx rfl (hb hby at_418) ?_
              show own_S p e below T375 (mkF m 420 #[.val (.int p0), .val (.int p1), .val (.int p2), .val (.int p3), .val (.int p4), .val (.int p5), .val (.int ch0), .val (.int ch1), .val (.int ch2), .val (.int ch3), .val (.int ch4), .val (.int ((p5 &&& (2147483647 : Int32)) % (6 : Int32))), .unset, .unset, .unset, .unset, .unset, .unset, .unset, .unset, .unset, .unset, .unset] [(.int (39 : Int32)), (.ref b142), (.ref b142)]) _
              refine XS.iload X375.here hx rfl (hb hby at_420) rfl ?_
              exact kt)
            obtain ⟨cl381, Ar381, q381, Sz381, Ng381, Hs381, Gs381⟩ := id V375
            have hin381 : ¬ ((39 : Int32) < 0 ∨ cl381.slots.size ≤ ((39 : Int32)).toNatClampNeg) := inb_of Sz381 ⟨by decide, by decide⟩
            obtain ⟨T381, h381, X381, e381, W381, st381⟩ := stC X375 hx hZ e375 Ar381 (j := (39 : Int32)) hin381 (g := (mkF m 422 #[.val (.int p0), .val (.int p1), .val (.int p2), .val (.int p3), .val (.int p4), .val (.int p5), .val (.int ch0), .val (.int ch1), .val (.int ch2), .val (.int ch3), .val (.int ch4), .val (.int ((p5 &&& (2147483647 : Int32)) % (6 : Int32))), .unset, .unset, .unset, .unset, .unset, .unset, .unset, .unset, .unset, .unset, .unset] [(.int ch3), (.int (39 : Int32)), (.ref b142), (.ref b142)])) rfl rfl (hb hby at_422)
            have Z382 : n0 ≤ h381.size := Nat.le_trans Z376 (Keep.of_wr W381).1
            have Od383 : Old Z n0 h381 := Od377.wr W381 g_b142
            have V381 : Arv Z h381 b142 kk142 .char (64 : Int32) ((.int ch0) :: (.int ch1) :: (.int ch2) :: (.int ch3) :: (.int ch4) :: (.int ch1) :: (.int ch2) :: (.int ch3) :: (.int ch4) :: (.int ch1) :: (.int ch2) :: (.int ch3) :: (.int ch4) :: (.int ch1) :: (.int ch2) :: (.int ch3) :: (.int ch4) :: (.int ch1) :: (.int ch2) :: (.int ch3) :: (.int ch4) :: (.int ch1) :: (.int ch2) :: (.int ch3) :: (.int ch4) :: (.int ch1) :: (.int ch2) :: (.int ch3) :: (.int ch4) :: (.int ch1) :: (.int ch2) :: (.int ch3) :: (.int ch4) :: (.int ch1) :: (.int ch2) :: (.int ch3) :: (.int ch4) :: (.int ch1) :: (.int ch2) :: (.int (ch3.toUInt32.toUInt16.toUInt32.toInt32)) :: (.int (0 : Int32)) :: (.int (0 : Int32)) :: (.int (0 : Int32)) :: (.int (0 : Int32)) :: (.int (0 : Int32)) :: (.int (0 : Int32)) :: (.int (0 : Int32)) :: (.int (0 : Int32)) :: (.int (0 : Int32)) :: (.int (0 : Int32)) :: (.int (0 : Int32)) :: (.int (0 : Int32)) :: (.int (0 : Int32)) :: (.int (0 : Int32)) :: (.int (0 : Int32)) :: (.int (0 : Int32)) :: (.int (0 : Int32)) :: (.int (0 : Int32)) :: (.int (0 : Int32)) :: (.int (0 : Int32)) :: (.int (0 : Int32)) :: (.int (0 : Int32)) :: (.int (0 : Int32)) :: (.int (0 : Int32)) :: []) (.int (0 : Int32)) := Arv.set Ar381 q381 Sz381 Ng381 Hs381 Gs381 (fits_nar_char _) W381 39 rfl (Nat.le_of_ble_eq_true rfl)
            rw [(show (ch3.toUInt32.toUInt16.toUInt32.toInt32) = ch3 from gd3.2.2.2)] at V381
            have Nf384 := Fr.snoc X381 Nf378 g_b142
            have kn385 : ∀ t, own_S p e below T381 (mkF m 423 #[.val (.int p0), .val (.int p1), .val (.int p2), .val (.int p3), .val (.int p4), .val (.int p5), .val (.int ch0), .val (.int ch1), .val (.int ch2), .val (.int ch3), .val (.int ch4), .val (.int ((p5 &&& (2147483647 : Int32)) % (6 : Int32))), .unset, .unset, .unset, .unset, .unset, .unset, .unset, .unset, .unset, .unset, .unset] [(.ref b142)]) t → Gl t := fun t kt => kn380 t (st381 _ kt)
            have kn386 : ∀ t, own_S p e below T381 (mkF m 428 #[.val (.int p0), .val (.int p1), .val (.int p2), .val (.int p3), .val (.int p4), .val (.int p5), .val (.int ch0), .val (.int ch1), .val (.int ch2), .val (.int ch3), .val (.int ch4), .val (.int ((p5 &&& (2147483647 : Int32)) % (6 : Int32))), .unset, .unset, .unset, .unset, .unset, .unset, .unset, .unset, .unset, .unset, .unset] [(.int ch4), (.int (40 : Int32)), (.ref b142), (.ref b142)]) t → Gl t := fun t kt => kn385 t (by
              show own_S p e below T381 (mkF m 423 #[.val (.int p0), .val (.int p1), .val (.int p2), .val (.int p3), .val (.int p4), .val (.int p5), .val (.int ch0), .val (.int ch1), .val (.int ch2), .val (.int ch3), .val (.int ch4), .val (.int ((p5 &&& (2147483647 : Int32)) % (6 : Int32))), .unset, .unset, .unset, .unset, .unset, .unset, .unset, .unset, .unset, .unset, .unset] [(.ref b142)]) _
              refine XS.dup X381.here hx rfl (hb hby at_423) rfl rfl ?_
              show own_S p e below T381 (mkF m 424 #[.val (.int p0), .val (.int p1), .val (.int p2), .val (.int p3), .val (.int p4), .val (.int p5), .val (.int ch0), .val (.int ch1), .val (.int ch2), .val (.int ch3), .val (.int ch4), .val (.int ((p5 &&& (2147483647 : Int32)) % (6 : Int32))), .unset, .unset, .unset, .unset, .unset, .unset, .unset, .unset, .unset, .unset, .unset] [(.ref b142), (.ref b142)]) _
              refine XS.bipush X381.here hx rfl (hb hby at_424) ?_
              show own_S p e below T381 (mkF m 426 #[.val (.int p0), .val (.int p1), .val (.int p2), .val (.int p3), .val (.int p4), .val (.int p5), .val (.int ch0), .val (.int ch1), .val (.int ch2), .val (.int ch3), .val (.int ch4), .val (.int ((p5 &&& (2147483647 : Int32)) % (6 : Int32))), .unset, .unset, .unset, .unset, .unset, .unset, .unset, .unset, .unset, .unset, .unset] [(.int (40 : Int32)), (.ref b142), (.ref b142)]) _
              refine XS.iload X381.here hx rfl (hb hby at_426) rfl ?_
              exact kt)
            obtain ⟨cl387, Ar387, q387, Sz387, Ng387, Hs387, Gs387⟩ := id V381
            have hin387 : ¬ ((40 : Int32) < 0 ∨ cl387.slots.size ≤ ((40 : Int32)).toNatClampNeg) := inb_of Sz387 ⟨by decide, by decide⟩
            obtain ⟨T387, h387, X387, e387, W387, st387⟩ := stC X381 hx hZ e381 Ar387 (j := (40 : Int32)) hin387 (g := (mkF m 428 #[.val (.int p0), .val (.int p1), .val (.int p2), .val (.int p3), .val (.int p4), .val (.int p5), .val (.int ch0), .val (.int ch1), .val (.int ch2), .val (.int ch3), .val (.int ch4), .val (.int ((p5 &&& (2147483647 : Int32)) % (6 : Int32))), .unset, .unset, .unset, .unset, .unset, .unset, .unset, .unset, .unset, .unset, .unset] [(.int ch4), (.int (40 : Int32)), (.ref b142), (.ref b142)])) rfl rfl (hb hby at_428)
            have Z388 : n0 ≤ h387.size := Nat.le_trans Z382 (Keep.of_wr W387).1
            have Od389 : Old Z n0 h387 := Od383.wr W387 g_b142
            have V387 : Arv Z h387 b142 kk142 .char (64 : Int32) ((.int ch0) :: (.int ch1) :: (.int ch2) :: (.int ch3) :: (.int ch4) :: (.int ch1) :: (.int ch2) :: (.int ch3) :: (.int ch4) :: (.int ch1) :: (.int ch2) :: (.int ch3) :: (.int ch4) :: (.int ch1) :: (.int ch2) :: (.int ch3) :: (.int ch4) :: (.int ch1) :: (.int ch2) :: (.int ch3) :: (.int ch4) :: (.int ch1) :: (.int ch2) :: (.int ch3) :: (.int ch4) :: (.int ch1) :: (.int ch2) :: (.int ch3) :: (.int ch4) :: (.int ch1) :: (.int ch2) :: (.int ch3) :: (.int ch4) :: (.int ch1) :: (.int ch2) :: (.int ch3) :: (.int ch4) :: (.int ch1) :: (.int ch2) :: (.int ch3) :: (.int (ch4.toUInt32.toUInt16.toUInt32.toInt32)) :: (.int (0 : Int32)) :: (.int (0 : Int32)) :: (.int (0 : Int32)) :: (.int (0 : Int32)) :: (.int (0 : Int32)) :: (.int (0 : Int32)) :: (.int (0 : Int32)) :: (.int (0 : Int32)) :: (.int (0 : Int32)) :: (.int (0 : Int32)) :: (.int (0 : Int32)) :: (.int (0 : Int32)) :: (.int (0 : Int32)) :: (.int (0 : Int32)) :: (.int (0 : Int32)) :: (.int (0 : Int32)) :: (.int (0 : Int32)) :: (.int (0 : Int32)) :: (.int (0 : Int32)) :: (.int (0 : Int32)) :: (.int (0 : Int32)) :: (.int (0 : Int32)) :: (.int (0 : Int32)) :: []) (.int (0 : Int32)) := Arv.set Ar387 q387 Sz387 Ng387 Hs387 Gs387 (fits_nar_char _) W387 40 rfl (Nat.le_of_ble_eq_true rfl)
            rw [(show (ch4.toUInt32.toUInt16.toUInt32.toInt32) = ch4 from gd4.2.2.2)] at V387
            have Nf390 := Fr.snoc X387 Nf384 g_b142
            have kn391 : ∀ t, own_S p e below T387 (mkF m 429 #[.val (.int p0), .val (.int p1), .val (.int p2), .val (.int p3), .val (.int p4), .val (.int p5), .val (.int ch0), .val (.int ch1), .val (.int ch2), .val (.int ch3), .val (.int ch4), .val (.int ((p5 &&& (2147483647 : Int32)) % (6 : Int32))), .unset, .unset, .unset, .unset, .unset, .unset, .unset, .unset, .unset, .unset, .unset] [(.ref b142)]) t → Gl t := fun t kt => kn386 t (st387 _ kt)
            have kn392 : ∀ t, own_S p e below T387 (mkF m 434 #[.val (.int p0), .val (.int p1), .val (.int p2), .val (.int p3), .val (.int p4), .val (.int p5), .val (.int ch0), .val (.int ch1), .val (.int ch2), .val (.int ch3), .val (.int ch4), .val (.int ((p5 &&& (2147483647 : Int32)) % (6 : Int32))), .unset, .unset, .unset, .unset, .unset, .unset, .unset, .unset, .unset, .unset, .unset] [(.int ch1), (.int (41 : Int32)), (.ref b142), (.ref b142)]) t → Gl t := fun t kt => kn391 t (by
              show own_S p e below T387 (mkF m 429 #[.val (.int p0), .val (.int p1), .val (.int p2), .val (.int p3), .val (.int p4), .val (.int p5), .val (.int ch0), .val (.int ch1), .val (.int ch2), .val (.int ch3), .val (.int ch4), .val (.int ((p5 &&& (2147483647 : Int32)) % (6 : Int32))), .unset, .unset, .unset, .unset, .unset, .unset, .unset, .unset, .unset, .unset, .unset] [(.ref b142)]) _
              refine XS.dup X387.here hx rfl (hb hby at_429) rfl rfl ?_
              show own_S p e below T387 (mkF m 430 #[.val (.int p0), .val (.int p1), .val (.int p2), .val (.int p3), .val (.int p4), .val (.int p5), .val (.int ch0), .val (.int ch1), .val (.int ch2), .val (.int ch3), .val (.int ch4), .val (.int ((p5 &&& (2147483647 : Int32)) % (6 : Int32))), .unset, .unset, .unset, .unset, .unset, .unset, .unset, .unset, .unset, .unset, .unset] [(.ref b142), (.ref b142)]) _
              refine XS.bipush X387.here hx rfl (hb hby at_430) ?_
              show own_S p e below T387 (mkF m 432 #[.val (.int p0), .val (.int p1), .val (.int p2), .val (.int p3), .val (.int p4), .val (.int p5), .val (.int ch0), .val (.int ch1), .val (.int ch2), .val (.int ch3), .val (.int ch4), .val (.int ((p5 &&& (2147483647 : Int32)) % (6 : Int32))), .unset, .unset, .unset, .unset, .unset, .unset, .unset, .unset, .unset, .unset, .unset] [(.int (41 : Int32)), (.ref b142), (.ref b142)]) _
              refine XS.iload X387.here hx rfl (hb hby at_432) rfl ?_
              exact kt)
            obtain ⟨cl393, Ar393, q393, Sz393, Ng393, Hs393, Gs393⟩ := id V387
            have hin393 : ¬ ((41 : Int32) < 0 ∨ cl393.slots.size ≤ ((41 : Int32)).toNatClampNeg) := inb_of Sz393 ⟨by decide, by decide⟩
            obtain ⟨T393, h393, X393, e393, W393, st393⟩ := stC X387 hx hZ e387 Ar393 (j := (41 : Int32)) hin393 (g := (mkF m 434 #[.val (.int p0), .val (.int p1), .val (.int p2), .val (.int p3), .val (.int p4), .val (.int p5), .val (.int ch0), .val (.int ch1), .val (.int ch2), .val (.int ch3), .val (.int ch4), .val (.int ((p5 &&& (2147483647 : Int32)) % (6 : Int32))), .unset, .unset, .unset, .unset, .unset, .unset, .unset, .unset, .unset, .unset, .unset] [(.int ch1), (.int (41 : Int32)), (.ref b142), (.ref b142)])) rfl rfl (hb hby at_434)
            have Z394 : n0 ≤ h393.size := Nat.le_trans Z388 (Keep.of_wr W393).1
            have Od395 : Old Z n0 h393 := Od389.wr W393 g_b142
            have V393 : Arv Z h393 b142 kk142 .char (64 : Int32) ((.int ch0) :: (.int ch1) :: (.int ch2) :: (.int ch3) :: (.int ch4) :: (.int ch1) :: (.int ch2) :: (.int ch3) :: (.int ch4) :: (.int ch1) :: (.int ch2) :: (.int ch3) :: (.int ch4) :: (.int ch1) :: (.int ch2) :: (.int ch3) :: (.int ch4) :: (.int ch1) :: (.int ch2) :: (.int ch3) :: (.int ch4) :: (.int ch1) :: (.int ch2) :: (.int ch3) :: (.int ch4) :: (.int ch1) :: (.int ch2) :: (.int ch3) :: (.int ch4) :: (.int ch1) :: (.int ch2) :: (.int ch3) :: (.int ch4) :: (.int ch1) :: (.int ch2) :: (.int ch3) :: (.int ch4) :: (.int ch1) :: (.int ch2) :: (.int ch3) :: (.int ch4) :: (.int (ch1.toUInt32.toUInt16.toUInt32.toInt32)) :: (.int (0 : Int32)) :: (.int (0 : Int32)) :: (.int (0 : Int32)) :: (.int (0 : Int32)) :: (.int (0 : Int32)) :: (.int (0 : Int32)) :: (.int (0 : Int32)) :: (.int (0 : Int32)) :: (.int (0 : Int32)) :: (.int (0 : Int32)) :: (.int (0 : Int32)) :: (.int (0 : Int32)) :: (.int (0 : Int32)) :: (.int (0 : Int32)) :: (.int (0 : Int32)) :: (.int (0 : Int32)) :: (.int (0 : Int32)) :: (.int (0 : Int32)) :: (.int (0 : Int32)) :: (.int (0 : Int32)) :: (.int (0 : Int32)) :: (.int (0 : Int32)) :: []) (.int (0 : Int32)) := Arv.set Ar393 q393 Sz393 Ng393 Hs393 Gs393 (fits_nar_char _) W393 41 rfl (Nat.le_of_ble_eq_true rfl)
            rw [(show (ch1.toUInt32.toUInt16.toUInt32.toInt32) = ch1 from gd1.2.2.2)] at V393
            have Nf396 := Fr.snoc X393 Nf390 g_b142
            have kn397 : ∀ t, own_S p e below T393 (mkF m 435 #[.val (.int p0), .val (.int p1), .val (.int p2), .val (.int p3), .val (.int p4), .val (.int p5), .val (.int ch0), .val (.int ch1), .val (.int ch2), .val (.int ch3), .val (.int ch4), .val (.int ((p5 &&& (2147483647 : Int32)) % (6 : Int32))), .unset, .unset, .unset, .unset, .unset, .unset, .unset, .unset, .unset, .unset, .unset] [(.ref b142)]) t → Gl t := fun t kt => kn392 t (st393 _ kt)
            have kn398 : ∀ t, own_S p e below T393 (mkF m 440 #[.val (.int p0), .val (.int p1), .val (.int p2), .val (.int p3), .val (.int p4), .val (.int p5), .val (.int ch0), .val (.int ch1), .val (.int ch2), .val (.int ch3), .val (.int ch4), .val (.int ((p5 &&& (2147483647 : Int32)) % (6 : Int32))), .unset, .unset, .unset, .unset, .unset, .unset, .unset, .unset, .unset, .unset, .unset] [(.int ch2), (.int (42 : Int32)), (.ref b142), (.ref b142)]) t → Gl t := fun t kt => kn397 t (by
              show own_S p e below T393 (mkF m 435 #[.val (.int p0), .val (.int p1), .val (.int p2), .val (.int p3), .val (.int p4), .val (.int p5), .val (.int ch0), .val (.int ch1), .val (.int ch2), .val (.int ch3), .val (.int ch4), .val (.int ((p5 &&& (2147483647 : Int32)) % (6 : Int32))), .unset, .unset, .unset, .unset, .unset, .unset, .unset, .unset, .unset, .unset, .unset] [(.ref b142)]) _
              refine XS.dup X393.here hx rfl (hb hby at_435) rfl rfl ?_
              show own_S p e below T393 (mkF m 436 #[.val (.int p0), .val (.int p1), .val (.int p2), .val (.int p3), .val (.int p4), .val (.int p5), .val (.int ch0), .val (.int ch1), .val (.int ch2), .val (.int ch3), .val (.int ch4), .val (.int ((p5 &&& (2147483647 : Int32)) % (6 : Int32))), .unset, .unset, .unset, .unset, .unset, .unset, .unset, .unset, .unset, .unset, .unset] [(.ref b142), (.ref b142)]) _
              refine XS.bipush X393.here hx rfl (hb hby at_436) ?_
              show own_S p e below T393 (mkF m 438 #[.val (.int p0), .val (.int p1), .val (.int p2), .val (.int p3), .val (.int p4), .val (.int p5), .val (.int ch0), .val (.int ch1), .val (.int ch2), .val (.int ch3), .val (.int ch4), .val (.int ((p5 &&& (2147483647 : Int32)) % (6 : Int32))), .unset, .unset, .unset, .unset, .unset, .unset, .unset, .unset, .unset, .unset, .unset] [(.int (42 : Int32)), (.ref b142), (.ref b142)]) _
              refine XS.iload X393.here hx rfl (hb hby at_438) rfl ?_
              exact kt)
            obtain ⟨cl399, Ar399, q399, Sz399, Ng399, Hs399, Gs399⟩ := id V393
            have hin399 : ¬ ((42 : Int32) < 0 ∨ cl399.slots.size ≤ ((42 : Int32)).toNatClampNeg) := inb_of Sz399 ⟨by decide, by decide⟩
            obtain ⟨T399, h399, X399, e399, W399, st399⟩ := stC X393 hx hZ e393 Ar399 (j := (42 : Int32)) hin399 (g := (mkF m 440 #[.val (.int p0), .val (.int p1), .val (.int p2), .val (.int p3), .val (.int p4), .val (.int p5), .val (.int ch0), .val (.int ch1), .val (.int ch2), .val (.int ch3), .val (.int ch4), .val (.int ((p5 &&& (2147483647 : Int32)) % (6 : Int32))), .unset, .unset, .unset, .unset, .unset, .unset, .unset, .unset, .unset, .unset, .unset] [(.int ch2), (.int (42 : Int32)), (.ref b142), (.ref b142)])) rfl rfl (hb hby at_440)
            have Z400 : n0 ≤ h399.size := Nat.le_trans Z394 (Keep.of_wr W399).1
            have Od401 : Old Z n0 h399 := Od395.wr W399 g_b142
            have V399 : Arv Z h399 b142 kk142 .char (64 : Int32) ((.int ch0) :: (.int ch1) :: (.int ch2) :: (.int ch3) :: (.int ch4) :: (.int ch1) :: (.int ch2) :: (.int ch3) :: (.int ch4) :: (.int ch1) :: (.int ch2) :: (.int ch3) :: (.int ch4) :: (.int ch1) :: (.int ch2) :: (.int ch3) :: (.int ch4) :: (.int ch1) :: (.int ch2) :: (.int ch3) :: (.int ch4) :: (.int ch1) :: (.int ch2) :: (.int ch3) :: (.int ch4) :: (.int ch1) :: (.int ch2) :: (.int ch3) :: (.int ch4) :: (.int ch1) :: (.int ch2) :: (.int ch3) :: (.int ch4) :: (.int ch1) :: (.int ch2) :: (.int ch3) :: (.int ch4) :: (.int ch1) :: (.int ch2) :: (.int ch3) :: (.int ch4) :: (.int ch1) :: (.int (ch2.toUInt32.toUInt16.toUInt32.toInt32)) :: (.int (0 : Int32)) :: (.int (0 : Int32)) :: (.int (0 : Int32)) :: (.int (0 : Int32)) :: (.int (0 : Int32)) :: (.int (0 : Int32)) :: (.int (0 : Int32)) :: (.int (0 : Int32)) :: (.int (0 : Int32)) :: (.int (0 : Int32)) :: (.int (0 : Int32)) :: (.int (0 : Int32)) :: (.int (0 : Int32)) :: (.int (0 : Int32)) :: (.int (0 : Int32)) :: (.int (0 : Int32)) :: (.int (0 : Int32)) :: (.int (0 : Int32)) :: (.int (0 : Int32)) :: (.int (0 : Int32)) :: (.int (0 : Int32)) :: []) (.int (0 : Int32)) := Arv.set Ar399 q399 Sz399 Ng399 Hs399 Gs399 (fits_nar_char _) W399 42 rfl (Nat.le_of_ble_eq_true rfl)
            rw [(show (ch2.toUInt32.toUInt16.toUInt32.toInt32) = ch2 from gd2.2.2.2)] at V399
            have Nf402 := Fr.snoc X399 Nf396 g_b142
            have kn403 : ∀ t, own_S p e below T399 (mkF m 441 #[.val (.int p0), .val (.int p1), .val (.int p2), .val (.int p3), .val (.int p4), .val (.int p5), .val (.int ch0), .val (.int ch1), .val (.int ch2), .val (.int ch3), .val (.int ch4), .val (.int ((p5 &&& (2147483647 : Int32)) % (6 : Int32))), .unset, .unset, .unset, .unset, .unset, .unset, .unset, .unset, .unset, .unset, .unset] [(.ref b142)]) t → Gl t := fun t kt => kn398 t (st399 _ kt)
            have kn404 : ∀ t, own_S p e below T399 (mkF m 446 #[.val (.int p0), .val (.int p1), .val (.int p2), .val (.int p3), .val (.int p4), .val (.int p5), .val (.int ch0), .val (.int ch1), .val (.int ch2), .val (.int ch3), .val (.int ch4), .val (.int ((p5 &&& (2147483647 : Int32)) % (6 : Int32))), .unset, .unset, .unset, .unset, .unset, .unset, .unset, .unset, .unset, .unset, .unset] [(.int ch3), (.int (43 : Int32)), (.ref b142), (.ref b142)]) t → Gl t := fun t kt => kn403 t (by
              show own_S p e below T399 (mkF m 441 #[.val (.int p0), .val (.int p1), .val (.int p2), .val (.int p3), .val (.int p4), .val (.int p5), .val (.int ch0), .val (.int ch1), .val (.int ch2), .val (.int ch3), .val (.int ch4), .val (.int ((p5 &&& (2147483647 : Int32)) % (6 : Int32))), .unset, .unset, .unset, .unset, .unset, .unset, .unset, .unset, .unset, .unset, .unset] [(.ref b142)]) _
              refine XS.dup X399.here hx rfl (hb hby at_441) rfl rfl ?_
              show own_S p e below T399 (mkF m 442 #[.val (.int p0), .val (.int p1), .val (.int p2), .val (.int p3), .val (.int p4), .val (.int p5), .val (.int ch0), .val (.int ch1), .val (.int ch2), .val (.int ch3), .val (.int ch4), .val (.int ((p5 &&& (2147483647 : Int32)) % (6 : Int32))), .unset, .unset, .unset, .unset, .unset, .unset, .unset, .unset, .unset, .unset, .unset] [(.ref b142), (.ref b142)]) _
              refine XS.bipush X399.here hx rfl (hb hby at_442) ?_
              show own_S p e below T399 (mkF m 444 #[.val (.int p0), .val (.int p1), .val (.int p2), .val (.int p3), .val (.int p4), .val (.int p5), .val (.int ch0), .val (.int ch1), .val (.int ch2), .val (.int ch3), .val (.int ch4), .val (.int ((p5 &&& (2147483647 : Int32)) % (6 : Int32))), .unset, .unset, .unset, .unset, .unset, .unset, .unset, .unset, .unset, .unset, .unset] [(.int (43 : Int32)), (.ref b142), (.ref b142)]) _
              refine XS.iload X399.here hx rfl (hb hby at_444) rfl ?_
              exact kt)
            obtain ⟨cl405, Ar405, q405, Sz405, Ng405, Hs405, Gs405⟩ := id V399
            have hin405 : ¬ ((43 : Int32) < 0 ∨ cl405.slots.size ≤ ((43 : Int32)).toNatClampNeg) := inb_of Sz405 ⟨by decide, by decide⟩
            obtain ⟨T405, h405, X405, e405, W405, st405⟩ := stC X399 hx hZ e399 Ar405 (j := (43 : Int32)) hin405 (g := (mkF m 446 #[.val (.int p0), .val (.int p1), .val (.int p2), .val (.int p3), .val (.int p4), .val (.int p5), .val (.int ch0), .val (.int ch1), .val (.int ch2), .val (.int ch3), .val (.int ch4), .val (.int ((p5 &&& (2147483647 : Int32)) % (6 : Int32))), .unset, .unset, .unset, .unset, .unset, .unset, .unset, .unset, .unset, .unset, .unset] [(.int ch3), (.int (43 : Int32)), (.ref b142), (.ref b142)])) rfl rfl (hb hby at_446)
            have Z406 : n0 ≤ h405.size := Nat.le_trans Z400 (Keep.of_wr W405).1
            have Od407 : Old Z n0 h405 := Od401.wr W405 g_b142
            have V405 : Arv Z h405 b142 kk142 .char (64 : Int32) ((.int ch0) :: (.int ch1) :: (.int ch2) :: (.int ch3) :: (.int ch4) :: (.int ch1) :: (.int ch2) :: (.int ch3) :: (.int ch4) :: (.int ch1) :: (.int ch2) :: (.int ch3) :: (.int ch4) :: (.int ch1) :: (.int ch2) :: (.int ch3) :: (.int ch4) :: (.int ch1) :: (.int ch2) :: (.int ch3) :: (.int ch4) :: (.int ch1) :: (.int ch2) :: (.int ch3) :: (.int ch4) :: (.int ch1) :: (.int ch2) :: (.int ch3) :: (.int ch4) :: (.int ch1) :: (.int ch2) :: (.int ch3) :: (.int ch4) :: (.int ch1) :: (.int ch2) :: (.int ch3) :: (.int ch4) :: (.int ch1) :: (.int ch2) :: (.int ch3) :: (.int ch4) :: (.int ch1) :: (.int ch2) :: (.int (ch3.toUInt32.toUInt16.toUInt32.toInt32)) :: (.int (0 : Int32)) :: (.int (0 : Int32)) :: (.int (0 : Int32)) :: (.int (0 : Int32)) :: (.int (0 : Int32)) :: (.int (0 : Int32)) :: (.int (0 : Int32)) :: (.int (0 : Int32)) :: (.int (0 : Int32)) :: (.int (0 : Int32)) :: (.int (0 : Int32)) :: (.int (0 : Int32)) :: (.int (0 : Int32)) :: (.int (0 : Int32)) :: (.int (0 : Int32)) :: (.int (0 : Int32)) :: (.int (0 : Int32)) :: (.int (0 : Int32)) :: (.int (0 : Int32)) :: (.int (0 : Int32)) :: []) (.int (0 : Int32)) := Arv.set Ar405 q405 Sz405 Ng405 Hs405 Gs405 (fits_nar_char _) W405 43 rfl (Nat.le_of_ble_eq_true rfl)
            rw [(show (ch3.toUInt32.toUInt16.toUInt32.toInt32) = ch3 from gd3.2.2.2)] at V405
            have Nf408 := Fr.snoc X405 Nf402 g_b142
            have kn409 : ∀ t, own_S p e below T405 (mkF m 447 #[.val (.int p0), .val (.int p1), .val (.int p2), .val (.int p3), .val (.int p4), .val (.int p5), .val (.int ch0), .val (.int ch1), .val (.int ch2), .val (.int ch3), .val (.int ch4), .val (.int ((p5 &&& (2147483647 : Int32)) % (6 : Int32))), .unset, .unset, .unset, .unset, .unset, .unset, .unset, .unset, .unset, .unset, .unset] [(.ref b142)]) t → Gl t := fun t kt => kn404 t (st405 _ kt)
            have kn410 : ∀ t, own_S p e below T405 (mkF m 452 #[.val (.int p0), .val (.int p1), .val (.int p2), .val (.int p3), .val (.int p4), .val (.int p5), .val (.int ch0), .val (.int ch1), .val (.int ch2), .val (.int ch3), .val (.int ch4), .val (.int ((p5 &&& (2147483647 : Int32)) % (6 : Int32))), .unset, .unset, .unset, .unset, .unset, .unset, .unset, .unset, .unset, .unset, .unset] [(.int ch4), (.int (44 : Int32)), (.ref b142), (.ref b142)]) t → Gl t := fun t kt => kn409 t (by
              show own_S p e below T405 (mkF m 447 #[.val (.int p0), .val (.int p1), .val (.int p2), .val (.int p3), .val (.int p4), .val (.int p5), .val (.int ch0), .val (.int ch1), .val (.int ch2), .val (.int ch3), .val (.int ch4), .val (.int ((p5 &&& (2147483647 : Int32)) % (6 : Int32))), .unset, .unset, .unset, .unset, .unset, .unset, .unset, .unset, .unset, .unset, .unset] [(.ref b142)]) _
              refine XS.dup X405.here hx rfl (hb hby at_447) rfl rfl ?_
              show own_S p e below T405 (mkF m 448 #[.val (.int p0), .val (.int p1), .val (.int p2), .val (.int p3), .val (.int p4), .val (.int p5), .val (.int ch0), .val (.int ch1), .val (.int ch2), .val (.int ch3), .val (.int ch4), .val (.int ((p5 &&& (2147483647 : Int32)) % (6 : Int32))), .unset, .unset, .unset, .unset, .unset, .unset, .unset, .unset, .unset, .unset, .unset] [(.ref b142), (.ref b142)]) _
              refine XS.bipush X405.here hx rfl (hb hby at_448) ?_
              show own_S p e below T405 (mkF m 450 #[.val (.int p0), .val (.int p1), .val (.int p2), .val (.int p3), .val (.int p4), .val (.int p5), .val (.int ch0), .val (.int ch1), .val (.int ch2), .val (.int ch3), .val (.int ch4), .val (.int ((p5 &&& (2147483647 : Int32)) % (6 : Int32))), .unset, .unset, .unset, .unset, .unset, .unset, .unset, .unset, .unset, .unset, .unset] [(.int (44 : Int32)), (.ref b142), (.ref b142)]) _
              refine XS.iload X405.here hx rfl (hb hby at_450) rfl ?_
              exact kt)
            obtain ⟨cl411, Ar411, q411, Sz411, Ng411, Hs411, Gs411⟩ := id V405
            have hin411 : ¬ ((44 : Int32) < 0 ∨ cl411.slots.size ≤ ((44 : Int32)).toNatClampNeg) := inb_of Sz411 ⟨by decide, by decide⟩
            obtain ⟨T411, h411, X411, e411, W411, st411⟩ := stC X405 hx hZ e405 Ar411 (j := (44 : Int32)) hin411 (g := (mkF m 452 #[.val (.int p0), .val (.int p1), .val (.int p2), .val (.int p3), .val (.int p4), .val (.int p5), .val (.int ch0), .val (.int ch1), .val (.int ch2), .val (.int ch3), .val (.int ch4), .val (.int ((p5 &&& (2147483647 : Int32)) % (6 : Int32))), .unset, .unset, .unset, .unset, .unset, .unset, .unset, .unset, .unset, .unset, .unset] [(.int ch4), (.int (44 : Int32)), (.ref b142), (.ref b142)])) rfl rfl (hb hby at_452)
            have Z412 : n0 ≤ h411.size := Nat.le_trans Z406 (Keep.of_wr W411).1
            have Od413 : Old Z n0 h411 := Od407.wr W411 g_b142
            have V411 : Arv Z h411 b142 kk142 .char (64 : Int32) ((.int ch0) :: (.int ch1) :: (.int ch2) :: (.int ch3) :: (.int ch4) :: (.int ch1) :: (.int ch2) :: (.int ch3) :: (.int ch4) :: (.int ch1) :: (.int ch2) :: (.int ch3) :: (.int ch4) :: (.int ch1) :: (.int ch2) :: (.int ch3) :: (.int ch4) :: (.int ch1) :: (.int ch2) :: (.int ch3) :: (.int ch4) :: (.int ch1) :: (.int ch2) :: (.int ch3) :: (.int ch4) :: (.int ch1) :: (.int ch2) :: (.int ch3) :: (.int ch4) :: (.int ch1) :: (.int ch2) :: (.int ch3) :: (.int ch4) :: (.int ch1) :: (.int ch2) :: (.int ch3) :: (.int ch4) :: (.int ch1) :: (.int ch2) :: (.int ch3) :: (.int ch4) :: (.int ch1) :: (.int ch2) :: (.int ch3) :: (.int (ch4.toUInt32.toUInt16.toUInt32.toInt32)) :: (.int (0 : Int32)) :: (.int (0 : Int32)) :: (.int (0 : Int32)) :: (.int (0 : Int32)) :: (.int (0 : Int32)) :: (.int (0 : Int32)) :: (.int (0 : Int32)) :: (.int (0 : Int32)) :: (.int (0 : Int32)) :: (.int (0 : Int32)) :: (.int (0 : Int32)) :: (.int (0 : Int32)) :: (.int (0 : Int32)) :: (.int (0 : Int32)) :: (.int (0 : Int32)) :: (.int (0 : Int32)) :: (.int (0 : Int32)) :: (.int (0 : Int32)) :: (.int (0 : Int32)) :: []) (.int (0 : Int32)) := Arv.set Ar411 q411 Sz411 Ng411 Hs411 Gs411 (fits_nar_char _) W411 44 rfl (Nat.le_of_ble_eq_true rfl)
            rw [(show (ch4.toUInt32.toUInt16.toUInt32.toInt32) = ch4 from gd4.2.2.2)] at V411
            have Nf414 := Fr.snoc X411 Nf408 g_b142
            have kn415 : ∀ t, own_S p e below T411 (mkF m 453 #[.val (.int p0), .val (.int p1), .val (.int p2), .val (.int p3), .val (.int p4), .val (.int p5), .val (.int ch0), .val (.int ch1), .val (.int ch2), .val (.int ch3), .val (.int ch4), .val (.int ((p5 &&& (2147483647 : Int32)) % (6 : Int32))), .unset, .unset, .unset, .unset, .unset, .unset, .unset, .unset, .unset, .unset, .unset] [(.ref b142)]) t → Gl t := fun t kt => kn410 t (st411 _ kt)
            have kn416 : ∀ t, own_S p e below T411 (mkF m 458 #[.val (.int p0), .val (.int p1), .val (.int p2), .val (.int p3), .val (.int p4), .val (.int p5), .val (.int ch0), .val (.int ch1), .val (.int ch2), .val (.int ch3), .val (.int ch4), .val (.int ((p5 &&& (2147483647 : Int32)) % (6 : Int32))), .unset, .unset, .unset, .unset, .unset, .unset, .unset, .unset, .unset, .unset, .unset] [(.int ch1), (.int (45 : Int32)), (.ref b142), (.ref b142)]) t → Gl t := fun t kt => kn415 t (by
              show own_S p e below T411 (mkF m 453 #[.val (.int p0), .val (.int p1), .val (.int p2), .val (.int p3), .val (.int p4), .val (.int p5), .val (.int ch0), .val (.int ch1), .val (.int ch2), .val (.int ch3), .val (.int ch4), .val (.int ((p5 &&& (2147483647 : Int32)) % (6 : Int32))), .unset, .unset, .unset, .unset, .unset, .unset, .unset, .unset, .unset, .unset, .unset] [(.ref b142)]) _
              refine XS.dup X411.here hx rfl (hb hby at_453) rfl rfl ?_
              show own_S p e below T411 (mkF m 454 #[.val (.int p0), .val (.int p1), .val (.int p2), .val (.int p3), .val (.int p4), .val (.int p5), .val (.int ch0), .val (.int ch1), .val (.int ch2), .val (.int ch3), .val (.int ch4), .val (.int ((p5 &&& (2147483647 : Int32)) % (6 : Int32))), .unset, .unset, .unset, .unset, .unset, .unset, .unset, .unset, .unset, .unset, .unset] [(.ref b142), (.ref b142)]) _
              refine XS.bipush X411.here hx rfl (hb hby at_454) ?_
              show own_S p e below T411 (mkF m 456 #[.val (.int p0), .val (.int p1), .val (.int p2), .val (.int p3), .val (.int p4), .val (.int p5), .val (.int ch0), .val (.int ch1), .val (.int ch2), .val (.int ch3), .val (.int ch4), .val (.int ((p5 &&& (2147483647 : Int32)) % (6 : Int32))), .unset, .unset, .unset, .unset, .unset, .unset, .unset, .unset, .unset, .unset, .unset] [(.int (45 : Int32)), (.ref b142), (.ref b142)]) _
              refine XS.iload X411.here hx rfl (hb hby at_456) rfl ?_
              exact kt)
            obtain ⟨cl417, Ar417, q417, Sz417, Ng417, Hs417, Gs417⟩ := id V411
            have hin417 : ¬ ((45 : Int32) < 0 ∨ cl417.slots.size ≤ ((45 : Int32)).toNatClampNeg) := inb_of Sz417 ⟨by decide, by decide⟩
            obtain ⟨T417, h417, X417, e417, W417, st417⟩ := stC X411 hx hZ e411 Ar417 (j := (45 : Int32)) hin417 (g := (mkF m 458 #[.val (.int p0), .val (.int p1), .val (.int p2), .val (.int p3), .val (.int p4), .val (.int p5), .val (.int ch0), .val (.int ch1), .val (.int ch2), .val (.int ch3), .val (.int ch4), .val (.int ((p5 &&& (2147483647 : Int32)) % (6 : Int32))), .unset, .unset, .unset, .unset, .unset, .unset, .unset, .unset, .unset, .unset, .unset] [(.int ch1), (.int (45 : Int32)), (.ref b142), (.ref b142)])) rfl rfl (hb hby at_458)
            have Z418 : n0 ≤ h417.size := Nat.le_trans Z412 (Keep.of_wr W417).1
            have Od419 : Old Z n0 h417 := Od413.wr W417 g_b142
            have V417 : Arv Z h417 b142 kk142 .char (64 : Int32) ((.int ch0) :: (.int ch1) :: (.int ch2) :: (.int ch3) :: (.int ch4) :: (.int ch1) :: (.int ch2) :: (.int ch3) :: (.int ch4) :: (.int ch1) :: (.int ch2) :: (.int ch3) :: (.int ch4) :: (.int ch1) :: (.int ch2) :: (.int ch3) :: (.int ch4) :: (.int ch1) :: (.int ch2) :: (.int ch3) :: (.int ch4) :: (.int ch1) :: (.int ch2) :: (.int ch3) :: (.int ch4) :: (.int ch1) :: (.int ch2) :: (.int ch3) :: (.int ch4) :: (.int ch1) :: (.int ch2) :: (.int ch3) :: (.int ch4) :: (.int ch1) :: (.int ch2) :: (.int ch3) :: (.int ch4) :: (.int ch1) :: (.int ch2) :: (.int ch3) :: (.int ch4) :: (.int ch1) :: (.int ch2) :: (.int ch3) :: (.int ch4) :: (.int (ch1.toUInt32.toUInt16.toUInt32.toInt32)) :: (.int (0 : Int32)) :: (.int (0 : Int32)) :: (.int (0 : Int32)) :: (.int (0 : Int32)) :: (.int (0 : Int32)) :: (.int (0 : Int32)) :: (.int (0 : Int32)) :: (.int (0 : Int32)) :: (.int (0 : Int32)) :: (.int (0 : Int32)) :: (.int (0 : Int32)) :: (.int (0 : Int32)) :: (.int (0 : Int32)) :: (.int (0 : Int32)) :: (.int (0 : Int32)) :: (.int (0 : Int32)) :: (.int (0 : Int32)) :: (.int (0 : Int32)) :: []) (.int (0 : Int32)) := Arv.set Ar417 q417 Sz417 Ng417 Hs417 Gs417 (fits_nar_char _) W417 45 rfl (Nat.le_of_ble_eq_true rfl)
            rw [(show (ch1.toUInt32.toUInt16.toUInt32.toInt32) = ch1 from gd1.2.2.2)] at V417
            have Nf420 := Fr.snoc X417 Nf414 g_b142
            have kn421 : ∀ t, own_S p e below T417 (mkF m 459 #[.val (.int p0), .val (.int p1), .val (.int p2), .val (.int p3), .val (.int p4), .val (.int p5), .val (.int ch0), .val (.int ch1), .val (.int ch2), .val (.int ch3), .val (.int ch4), .val (.int ((p5 &&& (2147483647 : Int32)) % (6 : Int32))), .unset, .unset, .unset, .unset, .unset, .unset, .unset, .unset, .unset, .unset, .unset] [(.ref b142)]) t → Gl t := fun t kt => kn416 t (st417 _ kt)
            have kn422 : ∀ t, own_S p e below T417 (mkF m 464 #[.val (.int p0), .val (.int p1), .val (.int p2), .val (.int p3), .val (.int p4), .val (.int p5), .val (.int ch0), .val (.int ch1), .val (.int ch2), .val (.int ch3), .val (.int ch4), .val (.int ((p5 &&& (2147483647 : Int32)) % (6 : Int32))), .unset, .unset, .unset, .unset, .unset, .unset, .unset, .unset, .unset, .unset, .unset] [(.int ch2), (.int (46 : Int32)), (.ref b142), (.ref b142)]) t → Gl t := fun t kt => kn421 t (by
              show own_S p e below T417 (mkF m 459 #[.val (.int p0), .val (.int p1), .val (.int p2), .val (.int p3), .val (.int p4), .val (.int p5), .val (.int ch0), .val (.int ch1), .val (.int ch2), .val (.int ch3), .val (.int ch4), .val (.int ((p5 &&& (2147483647 : Int32)) % (6 : Int32))), .unset, .unset, .unset, .unset, .unset, .unset, .unset, .unset, .unset, .unset, .unset] [(.ref b142)]) _
              refine XS.dup X417.here hx rfl (hb hby at_459) rfl rfl ?_
              show own_S p e below T417 (mkF m 460 #[.val (.int p0), .val (.int p1), .val (.int p2), .val (.int p3), .val (.int p4), .val (.int p5), .val (.int ch0), .val (.int ch1), .val (.int ch2), .val (.int ch3), .val (.int ch4), .val (.int ((p5 &&& (2147483647 : Int32)) % (6 : Int32))), .unset, .unset, .unset, .unset, .unset, .unset, .unset, .unset, .unset, .unset, .unset] [(.ref b142), (.ref b142)]) _
              refine XS.bipush X417.here hx rfl (hb hby at_460) ?_
              show own_S p e below T417 (mkF m 462 #[.val (.int p0), .val (.int p1), .val (.int p2), .val (.int p3), .val (.int p4), .val (.int p5), .val (.int ch0), .val (.int ch1), .val (.int ch2), .val (.int ch3), .val (.int ch4), .val (.int ((p5 &&& (2147483647 : Int32)) % (6 : Int32))), .unset, .unset, .unset, .unset, .unset, .unset, .unset, .unset, .unset, .unset, .unset] [(.int (46 : Int32)), (.ref b142), (.ref b142)]) _
              refine XS.iload X417.here hx rfl (hb hby at_462) rfl ?_
              exact kt)
            obtain ⟨cl423, Ar423, q423, Sz423, Ng423, Hs423, Gs423⟩ := id V417
            have hin423 : ¬ ((46 : Int32) < 0 ∨ cl423.slots.size ≤ ((46 : Int32)).toNatClampNeg) := inb_of Sz423 ⟨by decide, by decide⟩
            obtain ⟨T423, h423, X423, e423, W423, st423⟩ := stC X417 hx hZ e417 Ar423 (j := (46 : Int32)) hin423 (g := (mkF m 464 #[.val (.int p0), .val (.int p1), .val (.int p2), .val (.int p3), .val (.int p4), .val (.int p5), .val (.int ch0), .val (.int ch1), .val (.int ch2), .val (.int ch3), .val (.int ch4), .val (.int ((p5 &&& (2147483647 : Int32)) % (6 : Int32))), .unset, .unset, .unset, .unset, .unset, .unset, .unset, .unset, .unset, .unset, .unset] [(.int ch2), (.int (46 : Int32)), (.ref b142), (.ref b142)])) rfl rfl (hb hby at_464)
            have Z424 : n0 ≤ h423.size := Nat.le_trans Z418 (Keep.of_wr W423).1
            have Od425 : Old Z n0 h423 := Od419.wr W423 g_b142
            have V423 : Arv Z h423 b142 kk142 .char (64 : Int32) ((.int ch0) :: (.int ch1) :: (.int ch2) :: (.int ch3) :: (.int ch4) :: (.int ch1) :: (.int ch2) :: (.int ch3) :: (.int ch4) :: (.int ch1) :: (.int ch2) :: (.int ch3) :: (.int ch4) :: (.int ch1) :: (.int ch2) :: (.int ch3) :: (.int ch4) :: (.int ch1) :: (.int ch2) :: (.int ch3) :: (.int ch4) :: (.int ch1) :: (.int ch2) :: (.int ch3) :: (.int ch4) :: (.int ch1) :: (.int ch2) :: (.int ch3) :: (.int ch4) :: (.int ch1) :: (.int ch2) :: (.int ch3) :: (.int ch4) :: (.int ch1) :: (.int ch2) :: (.int ch3) :: (.int ch4) :: (.int ch1) :: (.int ch2) :: (.int ch3) :: (.int ch4) :: (.int ch1) :: (.int ch2) :: (.int ch3) :: (.int ch4) :: (.int ch1) :: (.int (ch2.toUInt32.toUInt16.toUInt32.toInt32)) :: (.int (0 : Int32)) :: (.int (0 : Int32)) :: (.int (0 : Int32)) :: (.int (0 : Int32)) :: (.int (0 : Int32)) :: (.int (0 : Int32)) :: (.int (0 : Int32)) :: (.int (0 : Int32)) :: (.int (0 : Int32)) :: (.int (0 : Int32)) :: (.int (0 : Int32)) :: (.int (0 : Int32)) :: (.int (0 : Int32)) :: (.int (0 : Int32)) :: (.int (0 : Int32)) :: (.int (0 : Int32)) :: (.int (0 : Int32)) :: []) (.int (0 : Int32)) := Arv.set Ar423 q423 Sz423 Ng423 Hs423 Gs423 (fits_nar_char _) W423 46 rfl (Nat.le_of_ble_eq_true rfl)
            rw [(show (ch2.toUInt32.toUInt16.toUInt32.toInt32) = ch2 from gd2.2.2.2)] at V423
            have Nf426 := Fr.snoc X423 Nf420 g_b142
            have kn427 : ∀ t, own_S p e below T423 (mkF m 465 #[.val (.int p0), .val (.int p1), .val (.int p2), .val (.int p3), .val (.int p4), .val (.int p5), .val (.int ch0), .val (.int ch1), .val (.int ch2), .val (.int ch3), .val (.int ch4), .val (.int ((p5 &&& (2147483647 : Int32)) % (6 : Int32))), .unset, .unset, .unset, .unset, .unset, .unset, .unset, .unset, .unset, .unset, .unset] [(.ref b142)]) t → Gl t := fun t kt => kn422 t (st423 _ kt)
            have kn428 : ∀ t, own_S p e below T423 (mkF m 470 #[.val (.int p0), .val (.int p1), .val (.int p2), .val (.int p3), .val (.int p4), .val (.int p5), .val (.int ch0), .val (.int ch1), .val (.int ch2), .val (.int ch3), .val (.int ch4), .val (.int ((p5 &&& (2147483647 : Int32)) % (6 : Int32))), .unset, .unset, .unset, .unset, .unset, .unset, .unset, .unset, .unset, .unset, .unset] [(.int ch3), (.int (47 : Int32)), (.ref b142), (.ref b142)]) t → Gl t := fun t kt => kn427 t (by
              show own_S p e below T423 (mkF m 465 #[.val (.int p0), .val (.int p1), .val (.int p2), .val (.int p3), .val (.int p4), .val (.int p5), .val (.int ch0), .val (.int ch1), .val (.int ch2), .val (.int ch3), .val (.int ch4), .val (.int ((p5 &&& (2147483647 : Int32)) % (6 : Int32))), .unset, .unset, .unset, .unset, .unset, .unset, .unset, .unset, .unset, .unset, .unset] [(.ref b142)]) _
              refine XS.dup X423.here hx rfl (hb hby at_465) rfl rfl ?_
              show own_S p e below T423 (mkF m 466 #[.val (.int p0), .val (.int p1), .val (.int p2), .val (.int p3), .val (.int p4), .val (.int p5), .val (.int ch0), .val (.int ch1), .val (.int ch2), .val (.int ch3), .val (.int ch4), .val (.int ((p5 &&& (2147483647 : Int32)) % (6 : Int32))), .unset, .unset, .unset, .unset, .unset, .unset, .unset, .unset, .unset, .unset, .unset] [(.ref b142), (.ref b142)]) _
              refine XS.bipush X423.here hx rfl (hb hby at_466) ?_
              show own_S p e below T423 (mkF m 468 #[.val (.int p0), .val (.int p1), .val (.int p2), .val (.int p3), .val (.int p4), .val (.int p5), .val (.int ch0), .val (.int ch1), .val (.int ch2), .val (.int ch3), .val (.int ch4), .val (.int ((p5 &&& (2147483647 : Int32)) % (6 : Int32))), .unset, .unset, .unset, .unset, .unset, .unset, .unset, .unset, .unset, .unset, .unset] [(.int (47 : Int32)), (.ref b142), (.ref b142)]) _
              refine XS.iload X423.here hx rfl (hb hby at_468) rfl ?_
              exact kt)
            obtain ⟨cl429, Ar429, q429, Sz429, Ng429, Hs429, Gs429⟩ := id V423
            have hin429 : ¬ ((47 : Int32) < 0 ∨ cl429.slots.size ≤ ((47 : Int32)).toNatClampNeg) := inb_of Sz429 ⟨by decide, by decide⟩
            obtain ⟨T429, h429, X429, e429, W429, st429⟩ := stC X423 hx hZ e423 Ar429 (j := (47 : Int32)) hin429 (g := (mkF m 470 #[.val (.int p0), .val (.int p1), .val (.int p2), .val (.int p3), .val (.int p4), .val (.int p5), .val (.int ch0), .val (.int ch1), .val (.int ch2), .val (.int ch3), .val (.int ch4), .val (.int ((p5 &&& (2147483647 : Int32)) % (6 : Int32))), .unset, .unset, .unset, .unset, .unset, .unset, .unset, .unset, .unset, .unset, .unset] [(.int ch3), (.int (47 : Int32)), (.ref b142), (.ref b142)])) rfl rfl (hb hby at_470)
            have Z430 : n0 ≤ h429.size := Nat.le_trans Z424 (Keep.of_wr W429).1
            have Od431 : Old Z n0 h429 := Od425.wr W429 g_b142
            have V429 : Arv Z h429 b142 kk142 .char (64 : Int32) ((.int ch0) :: (.int ch1) :: (.int ch2) :: (.int ch3) :: (.int ch4) :: (.int ch1) :: (.int ch2) :: (.int ch3) :: (.int ch4) :: (.int ch1) :: (.int ch2) :: (.int ch3) :: (.int ch4) :: (.int ch1) :: (.int ch2) :: (.int ch3) :: (.int ch4) :: (.int ch1) :: (.int ch2) :: (.int ch3) :: (.int ch4) :: (.int ch1) :: (.int ch2) :: (.int ch3) :: (.int ch4) :: (.int ch1) :: (.int ch2) :: (.int ch3) :: (.int ch4) :: (.int ch1) :: (.int ch2) :: (.int ch3) :: (.int ch4) :: (.int ch1) :: (.int ch2) :: (.int ch3) :: (.int ch4) :: (.int ch1) :: (.int ch2) :: (.int ch3) :: (.int ch4) :: (.int ch1) :: (.int ch2) :: (.int ch3) :: (.int ch4) :: (.int ch1) :: (.int ch2) :: (.int (ch3.toUInt32.toUInt16.toUInt32.toInt32)) :: (.int (0 : Int32)) :: (.int (0 : Int32)) :: (.int (0 : Int32)) :: (.int (0 : Int32)) :: (.int (0 : Int32)) :: (.int (0 : Int32)) :: (.int (0 : Int32)) :: (.int (0 : Int32)) :: (.int (0 : Int32)) :: (.int (0 : Int32)) :: (.int (0 : Int32)) :: (.int (0 : Int32)) :: (.int (0 : Int32)) :: (.int (0 : Int32)) :: (.int (0 : Int32)) :: (.int (0 : Int32)) :: []) (.int (0 : Int32)) := Arv.set Ar429 q429 Sz429 Ng429 Hs429 Gs429 (fits_nar_char _) W429 47 rfl (Nat.le_of_ble_eq_true rfl)
            rw [(show (ch3.toUInt32.toUInt16.toUInt32.toInt32) = ch3 from gd3.2.2.2)] at V429
            have Nf432 := Fr.snoc X429 Nf426 g_b142
            have kn433 : ∀ t, own_S p e below T429 (mkF m 471 #[.val (.int p0), .val (.int p1), .val (.int p2), .val (.int p3), .val (.int p4), .val (.int p5), .val (.int ch0), .val (.int ch1), .val (.int ch2), .val (.int ch3), .val (.int ch4), .val (.int ((p5 &&& (2147483647 : Int32)) % (6 : Int32))), .unset, .unset, .unset, .unset, .unset, .unset, .unset, .unset, .unset, .unset, .unset] [(.ref b142)]) t → Gl t := fun t kt => kn428 t (st429 _ kt)
            have kn434 : ∀ t, own_S p e below T429 (mkF m 476 #[.val (.int p0), .val (.int p1), .val (.int p2), .val (.int p3), .val (.int p4), .val (.int p5), .val (.int ch0), .val (.int ch1), .val (.int ch2), .val (.int ch3), .val (.int ch4), .val (.int ((p5 &&& (2147483647 : Int32)) % (6 : Int32))), .unset, .unset, .unset, .unset, .unset, .unset, .unset, .unset, .unset, .unset, .unset] [(.int ch4), (.int (48 : Int32)), (.ref b142), (.ref b142)]) t → Gl t := fun t kt => kn433 t (by
              show own_S p e below T429 (mkF m 471 #[.val (.int p0), .val (.int p1), .val (.int p2), .val (.int p3), .val (.int p4), .val (.int p5), .val (.int ch0), .val (.int ch1), .val (.int ch2), .val (.int ch3), .val (.int ch4), .val (.int ((p5 &&& (2147483647 : Int32)) % (6 : Int32))), .unset, .unset, .unset, .unset, .unset, .unset, .unset, .unset, .unset, .unset, .unset] [(.ref b142)]) _
              refine XS.dup X429.here hx rfl (hb hby at_471) rfl rfl ?_
              show own_S p e below T429 (mkF m 472 #[.val (.int p0), .val (.int p1), .val (.int p2), .val (.int p3), .val (.int p4), .val (.int p5), .val (.int ch0), .val (.int ch1), .val (.int ch2), .val (.int ch3), .val (.int ch4), .val (.int ((p5 &&& (2147483647 : Int32)) % (6 : Int32))), .unset, .unset, .unset, .unset, .unset, .unset, .unset, .unset, .unset, .unset, .unset] [(.ref b142), (.ref b142)]) _
              refine XS.bipush X429.here hx rfl (hb hby at_472) ?_
              show own_S p e below T429 (mkF m 474 #[.val (.int p0), .val (.int p1), .val (.int p2), .val (.int p3), .val (.int p4), .val (.int p5), .val (.int ch0), .val (.int ch1), .val (.int ch2), .val (.int ch3), .val (.int ch4), .val (.int ((p5 &&& (2147483647 : Int32)) % (6 : Int32))), .unset, .unset, .unset, .unset, .unset, .unset, .unset, .unset, .unset, .unset, .unset] [(.int (48 : Int32)), (.ref b142), (.ref b142)]) _
              refine XS.iload X429.here hx rfl (hb hby at_474) rfl ?_
              exact kt)
            obtain ⟨cl435, Ar435, q435, Sz435, Ng435, Hs435, Gs435⟩ := id V429
            have hin435 : ¬ ((48 : Int32) < 0 ∨ cl435.slots.size ≤ ((48 : Int32)).toNatClampNeg) := inb_of Sz435 ⟨by decide, by decide⟩
            obtain ⟨T435, h435, X435, e435, W435, st435⟩ := stC X429 hx hZ e429 Ar435 (j := (48 : Int32)) hin435 (g := (mkF m 476 #[.val (.int p0), .val (.int p1), .val (.int p2), .val (.int p3), .val (.int p4), .val (.int p5), .val (.int ch0), .val (.int ch1), .val (.int ch2), .val (.int ch3), .val (.int ch4), .val (.int ((p5 &&& (2147483647 : Int32)) % (6 : Int32))), .unset, .unset, .unset, .unset, .unset, .unset, .unset, .unset, .unset, .unset, .unset] [(.int ch4), (.int (48 : Int32)), (.ref b142), (.ref b142)])) rfl rfl (hb hby at_476)
            have Z436 : n0 ≤ h435.size := Nat.le_trans Z430 (Keep.of_wr W435).1
            have Od437 : Old Z n0 h435 := Od431.wr W435 g_b142
            have V435 : Arv Z h435 b142 kk142 .char (64 : Int32) ((.int ch0) :: (.int ch1) :: (.int ch2) :: (.int ch3) :: (.int ch4) :: (.int ch1) :: (.int ch2) :: (.int ch3) :: (.int ch4) :: (.int ch1) :: (.int ch2) :: (.int ch3) :: (.int ch4) :: (.int ch1) :: (.int ch2) :: (.int ch3) :: (.int ch4) :: (.int ch1) :: (.int ch2) :: (.int ch3) :: (.int ch4) :: (.int ch1) :: (.int ch2) :: (.int ch3) :: (.int ch4) :: (.int ch1) :: (.int ch2) :: (.int ch3) :: (.int ch4) :: (.int ch1) :: (.int ch2) :: (.int ch3) :: (.int ch4) :: (.int ch1) :: (.int ch2) :: (.int ch3) :: (.int ch4) :: (.int ch1) :: (.int ch2) :: (.int ch3) :: (.int ch4) :: (.int ch1) :: (.int ch2) :: (.int ch3) :: (.int ch4) :: (.int ch1) :: (.int ch2) :: (.int ch3) :: (.int (ch4.toUInt32.toUInt16.toUInt32.toInt32)) :: (.int (0 : Int32)) :: (.int (0 : Int32)) :: (.int (0 : Int32)) :: (.int (0 : Int32)) :: (.int (0 : Int32)) :: (.int (0 : Int32)) :: (.int (0 : Int32)) :: (.int (0 : Int32)) :: (.int (0 : Int32)) :: (.int (0 : Int32)) :: (.int (0 : Int32)) :: (.int (0 : Int32)) :: (.int (0 : Int32)) :: (.int (0 : Int32)) :: (.int (0 : Int32)) :: []) (.int (0 : Int32)) := Arv.set Ar435 q435 Sz435 Ng435 Hs435 Gs435 (fits_nar_char _) W435 48 rfl (Nat.le_of_ble_eq_true rfl)
            rw [(show (ch4.toUInt32.toUInt16.toUInt32.toInt32) = ch4 from gd4.2.2.2)] at V435
            have Nf438 := Fr.snoc X435 Nf432 g_b142
            have kn439 : ∀ t, own_S p e below T435 (mkF m 477 #[.val (.int p0), .val (.int p1), .val (.int p2), .val (.int p3), .val (.int p4), .val (.int p5), .val (.int ch0), .val (.int ch1), .val (.int ch2), .val (.int ch3), .val (.int ch4), .val (.int ((p5 &&& (2147483647 : Int32)) % (6 : Int32))), .unset, .unset, .unset, .unset, .unset, .unset, .unset, .unset, .unset, .unset, .unset] [(.ref b142)]) t → Gl t := fun t kt => kn434 t (st435 _ kt)
            have kn440 : ∀ t, own_S p e below T435 (mkF m 482 #[.val (.int p0), .val (.int p1), .val (.int p2), .val (.int p3), .val (.int p4), .val (.int p5), .val (.int ch0), .val (.int ch1), .val (.int ch2), .val (.int ch3), .val (.int ch4), .val (.int ((p5 &&& (2147483647 : Int32)) % (6 : Int32))), .unset, .unset, .unset, .unset, .unset, .unset, .unset, .unset, .unset, .unset, .unset] [(.int ch1), (.int (49 : Int32)), (.ref b142), (.ref b142)]) t → Gl t := fun t kt => kn439 t (by
              show own_S p e below T435 (mkF m 477 #[.val (.int p0), .val (.int p1), .val (.int p2), .val (.int p3), .val (.int p4), .val (.int p5), .val (.int ch0), .val (.int ch1), .val (.int ch2), .val (.int ch3), .val (.int ch4), .val (.int ((p5 &&& (2147483647 : Int32)) % (6 : Int32))), .unset, .unset, .unset, .unset, .unset, .unset, .unset, .unset, .unset, .unset, .unset] [(.ref b142)]) _
              refine XS.dup X435.here hx rfl (hb hby at_477) rfl rfl ?_
              show own_S p e below T435 (mkF m 478 #[.val (.int p0), .val (.int p1), .val (.int p2), .val (.int p3), .val (.int p4), .val (.int p5), .val (.int ch0), .val (.int ch1), .val (.int ch2), .val (.int ch3), .val (.int ch4), .val (.int ((p5 &&& (2147483647 : Int32)) % (6 : Int32))), .unset, .unset, .unset, .unset, .unset, .unset, .unset, .unset, .unset, .unset, .unset] [(.ref b142), (.ref b142)]) _
              refine XS.bipush X435.here hx rfl (hb hby at_478) ?_
              show own_S p e below T435 (mkF m 480 #[.val (.int p0), .val (.int p1), .val (.int p2), .val (.int p3), .val (.int p4), .val (.int p5), .val (.int ch0), .val (.int ch1), .val (.int ch2), .val (.int ch3), .val (.int ch4), .val (.int ((p5 &&& (2147483647 : Int32)) % (6 : Int32))), .unset, .unset, .unset, .unset, .unset, .unset, .unset, .unset, .unset, .unset, .unset] [(.int (49 : Int32)), (.ref b142), (.ref b142)]) _
              refine XS.iload X435.here hx rfl (hb hby at_480) rfl ?_
              exact kt)
            obtain ⟨cl441, Ar441, q441, Sz441, Ng441, Hs441, Gs441⟩ := id V435
            have hin441 : ¬ ((49 : Int32) < 0 ∨ cl441.slots.size ≤ ((49 : Int32)).toNatClampNeg) := inb_of Sz441 ⟨by decide, by decide⟩
            obtain ⟨T441, h441, X441, e441, W441, st441⟩ := stC X435 hx hZ e435 Ar441 (j := (49 : Int32)) hin441 (g := (mkF m 482 #[.val (.int p0), .val (.int p1), .val (.int p2), .val (.int p3), .val (.int p4), .val (.int p5), .val (.int ch0), .val (.int ch1), .val (.int ch2), .val (.int ch3), .val (.int ch4), .val (.int ((p5 &&& (2147483647 : Int32)) % (6 : Int32))), .unset, .unset, .unset, .unset, .unset, .unset, .unset, .unset, .unset, .unset, .unset] [(.int ch1), (.int (49 : Int32)), (.ref b142), (.ref b142)])) rfl rfl (hb hby at_482)
            have Z442 : n0 ≤ h441.size := Nat.le_trans Z436 (Keep.of_wr W441).1
            have Od443 : Old Z n0 h441 := Od437.wr W441 g_b142
            have V441 : Arv Z h441 b142 kk142 .char (64 : Int32) ((.int ch0) :: (.int ch1) :: (.int ch2) :: (.int ch3) :: (.int ch4) :: (.int ch1) :: (.int ch2) :: (.int ch3) :: (.int ch4) :: (.int ch1) :: (.int ch2) :: (.int ch3) :: (.int ch4) :: (.int ch1) :: (.int ch2) :: (.int ch3) :: (.int ch4) :: (.int ch1) :: (.int ch2) :: (.int ch3) :: (.int ch4) :: (.int ch1) :: (.int ch2) :: (.int ch3) :: (.int ch4) :: (.int ch1) :: (.int ch2) :: (.int ch3) :: (.int ch4) :: (.int ch1) :: (.int ch2) :: (.int ch3) :: (.int ch4) :: (.int ch1) :: (.int ch2) :: (.int ch3) :: (.int ch4) :: (.int ch1) :: (.int ch2) :: (.int ch3) :: (.int ch4) :: (.int ch1) :: (.int ch2) :: (.int ch3) :: (.int ch4) :: (.int ch1) :: (.int ch2) :: (.int ch3) :: (.int ch4) :: (.int (ch1.toUInt32.toUInt16.toUInt32.toInt32)) :: (.int (0 : Int32)) :: (.int (0 : Int32)) :: (.int (0 : Int32)) :: (.int (0 : Int32)) :: (.int (0 : Int32)) :: (.int (0 : Int32)) :: (.int (0 : Int32)) :: (.int (0 : Int32)) :: (.int (0 : Int32)) :: (.int (0 : Int32)) :: (.int (0 : Int32)) :: (.int (0 : Int32)) :: (.int (0 : Int32)) :: (.int (0 : Int32)) :: []) (.int (0 : Int32)) := Arv.set Ar441 q441 Sz441 Ng441 Hs441 Gs441 (fits_nar_char _) W441 49 rfl (Nat.le_of_ble_eq_true rfl)
            rw [(show (ch1.toUInt32.toUInt16.toUInt32.toInt32) = ch1 from gd1.2.2.2)] at V441
            have Nf444 := Fr.snoc X441 Nf438 g_b142
            have kn445 : ∀ t, own_S p e below T441 (mkF m 483 #[.val (.int p0), .val (.int p1), .val (.int p2), .val (.int p3), .val (.int p4), .val (.int p5), .val (.int ch0), .val (.int ch1), .val (.int ch2), .val (.int ch3), .val (.int ch4), .val (.int ((p5 &&& (2147483647 : Int32)) % (6 : Int32))), .unset, .unset, .unset, .unset, .unset, .unset, .unset, .unset, .unset, .unset, .unset] [(.ref b142)]) t → Gl t := fun t kt => kn440 t (st441 _ kt)
            have kn446 : ∀ t, own_S p e below T441 (mkF m 488 #[.val (.int p0), .val (.int p1), .val (.int p2), .val (.int p3), .val (.int p4), .val (.int p5), .val (.int ch0), .val (.int ch1), .val (.int ch2), .val (.int ch3), .val (.int ch4), .val (.int ((p5 &&& (2147483647 : Int32)) % (6 : Int32))), .unset, .unset, .unset, .unset, .unset, .unset, .unset, .unset, .unset, .unset, .unset] [(.int ch2), (.int (50 : Int32)), (.ref b142), (.ref b142)]) t → Gl t := fun t kt => kn445 t (by
              show own_S p e below T441 (mkF m 483 #[.val (.int p0), .val (.int p1), .val (.int p2), .val (.int p3), .val (.int p4), .val (.int p5), .val (.int ch0), .val (.int ch1), .val (.int ch2), .val (.int ch3), .val (.int ch4), .val (.int ((p5 &&& (2147483647 : Int32)) % (6 : Int32))), .unset, .unset, .unset, .unset, .unset, .unset, .unset, .unset, .unset, .unset, .unset] [(.ref b142)]) _
              refine XS.dup X441.here hx rfl (hb hby at_483) rfl rfl ?_
              show own_S p e below T441 (mkF m 484 #[.val (.int p0), .val (.int p1), .val (.int p2), .val (.int p3), .val (.int p4), .val (.int p5), .val (.int ch0), .val (.int ch1), .val (.int ch2), .val (.int ch3), .val (.int ch4), .val (.int ((p5 &&& (2147483647 : Int32)) % (6 : Int32))), .unset, .unset, .unset, .unset, .unset, .unset, .unset, .unset, .unset, .unset, .unset] [(.ref b142), (.ref b142)]) _
              refine XS.bipush X441.here hx rfl (hb hby at_484) ?_
              show own_S p e below T441 (mkF m 486 #[.val (.int p0), .val (.int p1), .val (.int p2), .val (.int p3), .val (.int p4), .val (.int p5), .val (.int ch0), .val (.int ch1), .val (.int ch2), .val (.int ch3), .val (.int ch4), .val (.int ((p5 &&& (2147483647 : Int32)) % (6 : Int32))), .unset, .unset, .unset, .unset, .unset, .unset, .unset, .unset, .unset, .unset, .unset] [(.int (50 : Int32)), (.ref b142), (.ref b142)]) _
              refine XS.iload X441.here hx rfl (hb hby at_486) rfl ?_
              exact kt)
            obtain ⟨cl447, Ar447, q447, Sz447, Ng447, Hs447, Gs447⟩ := id V441
            have hin447 : ¬ ((50 : Int32) < 0 ∨ cl447.slots.size ≤ ((50 : Int32)).toNatClampNeg) := inb_of Sz447 ⟨by decide, by decide⟩
            obtain ⟨T447, h447, X447, e447, W447, st447⟩ := stC X441 hx hZ e441 Ar447 (j := (50 : Int32)) hin447 (g := (mkF m 488 #[.val (.int p0), .val (.int p1), .val (.int p2), .val (.int p3), .val (.int p4), .val (.int p5), .val (.int ch0), .val (.int ch1), .val (.int ch2), .val (.int ch3), .val (.int ch4), .val (.int ((p5 &&& (2147483647 : Int32)) % (6 : Int32))), .unset, .unset, .unset, .unset, .unset, .unset, .unset, .unset, .unset, .unset, .unset] [(.int ch2), (.int (50 : Int32)), (.ref b142), (.ref b142)])) rfl rfl (hb hby at_488)
            have Z448 : n0 ≤ h447.size := Nat.le_trans Z442 (Keep.of_wr W447).1
            have Od449 : Old Z n0 h447 := Od443.wr W447 g_b142
            have V447 : Arv Z h447 b142 kk142 .char (64 : Int32) ((.int ch0) :: (.int ch1) :: (.int ch2) :: (.int ch3) :: (.int ch4) :: (.int ch1) :: (.int ch2) :: (.int ch3) :: (.int ch4) :: (.int ch1) :: (.int ch2) :: (.int ch3) :: (.int ch4) :: (.int ch1) :: (.int ch2) :: (.int ch3) :: (.int ch4) :: (.int ch1) :: (.int ch2) :: (.int ch3) :: (.int ch4) :: (.int ch1) :: (.int ch2) :: (.int ch3) :: (.int ch4) :: (.int ch1) :: (.int ch2) :: (.int ch3) :: (.int ch4) :: (.int ch1) :: (.int ch2) :: (.int ch3) :: (.int ch4) :: (.int ch1) :: (.int ch2) :: (.int ch3) :: (.int ch4) :: (.int ch1) :: (.int ch2) :: (.int ch3) :: (.int ch4) :: (.int ch1) :: (.int ch2) :: (.int ch3) :: (.int ch4) :: (.int ch1) :: (.int ch2) :: (.int ch3) :: (.int ch4) :: (.int ch1) :: (.int (ch2.toUInt32.toUInt16.toUInt32.toInt32)) :: (.int (0 : Int32)) :: (.int (0 : Int32)) :: (.int (0 : Int32)) :: (.int (0 : Int32)) :: (.int (0 : Int32)) :: (.int (0 : Int32)) :: (.int (0 : Int32)) :: (.int (0 : Int32)) :: (.int (0 : Int32)) :: (.int (0 : Int32)) :: (.int (0 : Int32)) :: (.int (0 : Int32)) :: (.int (0 : Int32)) :: []) (.int (0 : Int32)) := Arv.set Ar447 q447 Sz447 Ng447 Hs447 Gs447 (fits_nar_char _) W447 50 rfl (Nat.le_of_ble_eq_true rfl)
            rw [(show (ch2.toUInt32.toUInt16.toUInt32.toInt32) = ch2 from gd2.2.2.2)] at V447
            have Nf450 := Fr.snoc X447 Nf444 g_b142
            have kn451 : ∀ t, own_S p e below T447 (mkF m 489 #[.val (.int p0), .val (.int p1), .val (.int p2), .val (.int p3), .val (.int p4), .val (.int p5), .val (.int ch0), .val (.int ch1), .val (.int ch2), .val (.int ch3), .val (.int ch4), .val (.int ((p5 &&& (2147483647 : Int32)) % (6 : Int32))), .unset, .unset, .unset, .unset, .unset, .unset, .unset, .unset, .unset, .unset, .unset] [(.ref b142)]) t → Gl t := fun t kt => kn446 t (st447 _ kt)
            have kn452 : ∀ t, own_S p e below T447 (mkF m 494 #[.val (.int p0), .val (.int p1), .val (.int p2), .val (.int p3), .val (.int p4), .val (.int p5), .val (.int ch0), .val (.int ch1), .val (.int ch2), .val (.int ch3), .val (.int ch4), .val (.int ((p5 &&& (2147483647 : Int32)) % (6 : Int32))), .unset, .unset, .unset, .unset, .unset, .unset, .unset, .unset, .unset, .unset, .unset] [(.int ch3), (.int (51 : Int32)), (.ref b142), (.ref b142)]) t → Gl t := fun t kt => kn451 t (by
              show own_S p e below T447 (mkF m 489 #[.val (.int p0), .val (.int p1), .val (.int p2), .val (.int p3), .val (.int p4), .val (.int p5), .val (.int ch0), .val (.int ch1), .val (.int ch2), .val (.int ch3), .val (.int ch4), .val (.int ((p5 &&& (2147483647 : Int32)) % (6 : Int32))), .unset, .unset, .unset, .unset, .unset, .unset, .unset, .unset, .unset, .unset, .unset] [(.ref b142)]) _
              refine XS.dup X447.here hx rfl (hb hby at_489) rfl rfl ?_
              show own_S p e below T447 (mkF m 490 #[.val (.int p0), .val (.int p1), .val (.int p2), .val (.int p3), .val (.int p4), .val (.int p5), .val (.int ch0), .val (.int ch1), .val (.int ch2), .val (.int ch3), .val (.int ch4), .val (.int ((p5 &&& (2147483647 : Int32)) % (6 : Int32))), .unset, .unset, .unset, .unset, .unset, .unset, .unset, .unset, .unset, .unset, .unset] [(.ref b142), (.ref b142)]) _
              refine XS.bipush X447.here hx rfl (hb hby at_490) ?_
              show own_S p e below T447 (mkF m 492 #[.val (.int p0), .val (.int p1), .val (.int p2), .val (.int p3), .val (.int p4), .val (.int p5), .val (.int ch0), .val (.int ch1), .val (.int ch2), .val (.int ch3), .val (.int ch4), .val (.int ((p5 &&& (2147483647 : Int32)) % (6 : Int32))), .unset, .unset, .unset, .unset, .unset, .unset, .unset, .unset, .unset, .unset, .unset] [(.int (51 : Int32)), (.ref b142), (.ref b142)]) _
              refine XS.iload X447.here hx rfl (hb hby at_492) rfl ?_
              exact kt)
            obtain ⟨cl453, Ar453, q453, Sz453, Ng453, Hs453, Gs453⟩ := id V447
            have hin453 : ¬ ((51 : Int32) < 0 ∨ cl453.slots.size ≤ ((51 : Int32)).toNatClampNeg) := inb_of Sz453 ⟨by decide, by decide⟩
            obtain ⟨T453, h453, X453, e453, W453, st453⟩ := stC X447 hx hZ e447 Ar453 (j := (51 : Int32)) hin453 (g := (mkF m 494 #[.val (.int p0), .val (.int p1), .val (.int p2), .val (.int p3), .val (.int p4), .val (.int p5), .val (.int ch0), .val (.int ch1), .val (.int ch2), .val (.int ch3), .val (.int ch4), .val (.int ((p5 &&& (2147483647 : Int32)) % (6 : Int32))), .unset, .unset, .unset, .unset, .unset, .unset, .unset, .unset, .unset, .unset, .unset] [(.int ch3), (.int (51 : Int32)), (.ref b142), (.ref b142)])) rfl rfl (hb hby at_494)
            have Z454 : n0 ≤ h453.size := Nat.le_trans Z448 (Keep.of_wr W453).1
            have Od455 : Old Z n0 h453 := Od449.wr W453 g_b142
            have V453 : Arv Z h453 b142 kk142 .char (64 : Int32) ((.int ch0) :: (.int ch1) :: (.int ch2) :: (.int ch3) :: (.int ch4) :: (.int ch1) :: (.int ch2) :: (.int ch3) :: (.int ch4) :: (.int ch1) :: (.int ch2) :: (.int ch3) :: (.int ch4) :: (.int ch1) :: (.int ch2) :: (.int ch3) :: (.int ch4) :: (.int ch1) :: (.int ch2) :: (.int ch3) :: (.int ch4) :: (.int ch1) :: (.int ch2) :: (.int ch3) :: (.int ch4) :: (.int ch1) :: (.int ch2) :: (.int ch3) :: (.int ch4) :: (.int ch1) :: (.int ch2) :: (.int ch3) :: (.int ch4) :: (.int ch1) :: (.int ch2) :: (.int ch3) :: (.int ch4) :: (.int ch1) :: (.int ch2) :: (.int ch3) :: (.int ch4) :: (.int ch1) :: (.int ch2) :: (.int ch3) :: (.int ch4) :: (.int ch1) :: (.int ch2) :: (.int ch3) :: (.int ch4) :: (.int ch1) :: (.int ch2) :: (.int (ch3.toUInt32.toUInt16.toUInt32.toInt32)) :: (.int (0 : Int32)) :: (.int (0 : Int32)) :: (.int (0 : Int32)) :: (.int (0 : Int32)) :: (.int (0 : Int32)) :: (.int (0 : Int32)) :: (.int (0 : Int32)) :: (.int (0 : Int32)) :: (.int (0 : Int32)) :: (.int (0 : Int32)) :: (.int (0 : Int32)) :: (.int (0 : Int32)) :: []) (.int (0 : Int32)) := Arv.set Ar453 q453 Sz453 Ng453 Hs453 Gs453 (fits_nar_char _) W453 51 rfl (Nat.le_of_ble_eq_true rfl)
            rw [(show (ch3.toUInt32.toUInt16.toUInt32.toInt32) = ch3 from gd3.2.2.2)] at V453
            have Nf456 := Fr.snoc X453 Nf450 g_b142
            have kn457 : ∀ t, own_S p e below T453 (mkF m 495 #[.val (.int p0), .val (.int p1), .val (.int p2), .val (.int p3), .val (.int p4), .val (.int p5), .val (.int ch0), .val (.int ch1), .val (.int ch2), .val (.int ch3), .val (.int ch4), .val (.int ((p5 &&& (2147483647 : Int32)) % (6 : Int32))), .unset, .unset, .unset, .unset, .unset, .unset, .unset, .unset, .unset, .unset, .unset] [(.ref b142)]) t → Gl t := fun t kt => kn452 t (st453 _ kt)
            have kn458 : ∀ t, own_S p e below T453 (mkF m 500 #[.val (.int p0), .val (.int p1), .val (.int p2), .val (.int p3), .val (.int p4), .val (.int p5), .val (.int ch0), .val (.int ch1), .val (.int ch2), .val (.int ch3), .val (.int ch4), .val (.int ((p5 &&& (2147483647 : Int32)) % (6 : Int32))), .unset, .unset, .unset, .unset, .unset, .unset, .unset, .unset, .unset, .unset, .unset] [(.int ch4), (.int (52 : Int32)), (.ref b142), (.ref b142)]) t → Gl t := fun t kt => kn457 t (by
              show own_S p e below T453 (mkF m 495 #[.val (.int p0), .val (.int p1), .val (.int p2), .val (.int p3), .val (.int p4), .val (.int p5), .val (.int ch0), .val (.int ch1), .val (.int ch2), .val (.int ch3), .val (.int ch4), .val (.int ((p5 &&& (2147483647 : Int32)) % (6 : Int32))), .unset, .unset, .unset, .unset, .unset, .unset, .unset, .unset, .unset, .unset, .unset] [(.ref b142)]) _
              refine XS.dup X453.here hx rfl (hb hby at_495) rfl rfl ?_
              show own_S p e below T453 (mkF m 496 #[.val (.int p0), .val (.int p1), .val (.int p2), .val (.int p3), .val (.int p4), .val (.int p5), .val (.int ch0), .val (.int ch1), .val (.int ch2), .val (.int ch3), .val (.int ch4), .val (.int ((p5 &&& (2147483647 : Int32)) % (6 : Int32))), .unset, .unset, .unset, .unset, .unset, .unset, .unset, .unset, .unset, .unset, .unset] [(.ref b142), (.ref b142)]) _
              refine XS.bipush X453.here hx rfl (hb hby at_496) ?_
              show own_S p e below T453 (mkF m 498 #[.val (.int p0), .val (.int p1), .val (.int p2), .val (.int p3), .val (.int p4), .val (.int p5), .val (.int ch0), .val (.int ch1), .val (.int ch2), .val (.int ch3), .val (.int ch4), .val (.int ((p5 &&& (2147483647 : Int32)) % (6 : Int32))), .unset, .unset, .unset, .unset, .unset, .unset, .unset, .unset, .unset, .unset, .unset] [(.int (52 : Int32)), (.ref b142), (.ref b142)]) _
              refine XS.iload X453.here hx rfl (hb hby at_498) rfl ?_
              exact kt)
            obtain ⟨cl459, Ar459, q459, Sz459, Ng459, Hs459, Gs459⟩ := id V453
            have hin459 : ¬ ((52 : Int32) < 0 ∨ cl459.slots.size ≤ ((52 : Int32)).toNatClampNeg) := inb_of Sz459 ⟨by decide, by decide⟩
            obtain ⟨T459, h459, X459, e459, W459, st459⟩ := stC X453 hx hZ e453 Ar459 (j := (52 : Int32)) hin459 (g := (mkF m 500 #[.val (.int p0), .val (.int p1), .val (.int p2), .val (.int p3), .val (.int p4), .val (.int p5), .val (.int ch0), .val (.int ch1), .val (.int ch2), .val (.int ch3), .val (.int ch4), .val (.int ((p5 &&& (2147483647 : Int32)) % (6 : Int32))), .unset, .unset, .unset, .unset, .unset, .unset, .unset, .unset, .unset, .unset, .unset] [(.int ch4), (.int (52 : Int32)), (.ref b142), (.ref b142)])) rfl rfl (hb hby at_500)
            have Z460 : n0 ≤ h459.size := Nat.le_trans Z454 (Keep.of_wr W459).1
            have Od461 : Old Z n0 h459 := Od455.wr W459 g_b142
            have V459 : Arv Z h459 b142 kk142 .char (64 : Int32) ((.int ch0) :: (.int ch1) :: (.int ch2) :: (.int ch3) :: (.int ch4) :: (.int ch1) :: (.int ch2) :: (.int ch3) :: (.int ch4) :: (.int ch1) :: (.int ch2) :: (.int ch3) :: (.int ch4) :: (.int ch1) :: (.int ch2) :: (.int ch3) :: (.int ch4) :: (.int ch1) :: (.int ch2) :: (.int ch3) :: (.int ch4) :: (.int ch1) :: (.int ch2) :: (.int ch3) :: (.int ch4) :: (.int ch1) :: (.int ch2) :: (.int ch3) :: (.int ch4) :: (.int ch1) :: (.int ch2) :: (.int ch3) :: (.int ch4) :: (.int ch1) :: (.int ch2) :: (.int ch3) :: (.int ch4) :: (.int ch1) :: (.int ch2) :: (.int ch3) :: (.int ch4) :: (.int ch1) :: (.int ch2) :: (.int ch3) :: (.int ch4) :: (.int ch1) :: (.int ch2) :: (.int ch3) :: (.int ch4) :: (.int ch1) :: (.int ch2) :: (.int ch3) :: (.int (ch4.toUInt32.toUInt16.toUInt32.toInt32)) :: (.int (0 : Int32)) :: (.int (0 : Int32)) :: (.int (0 : Int32)) :: (.int (0 : Int32)) :: (.int (0 : Int32)) :: (.int (0 : Int32)) :: (.int (0 : Int32)) :: (.int (0 : Int32)) :: (.int (0 : Int32)) :: (.int (0 : Int32)) :: (.int (0 : Int32)) :: []) (.int (0 : Int32)) := Arv.set Ar459 q459 Sz459 Ng459 Hs459 Gs459 (fits_nar_char _) W459 52 rfl (Nat.le_of_ble_eq_true rfl)
            rw [(show (ch4.toUInt32.toUInt16.toUInt32.toInt32) = ch4 from gd4.2.2.2)] at V459
            have Nf462 := Fr.snoc X459 Nf456 g_b142
            have kn463 : ∀ t, own_S p e below T459 (mkF m 501 #[.val (.int p0), .val (.int p1), .val (.int p2), .val (.int p3), .val (.int p4), .val (.int p5), .val (.int ch0), .val (.int ch1), .val (.int ch2), .val (.int ch3), .val (.int ch4), .val (.int ((p5 &&& (2147483647 : Int32)) % (6 : Int32))), .unset, .unset, .unset, .unset, .unset, .unset, .unset, .unset, .unset, .unset, .unset] [(.ref b142)]) t → Gl t := fun t kt => kn458 t (st459 _ kt)
            have kn464 : ∀ t, own_S p e below T459 (mkF m 506 #[.val (.int p0), .val (.int p1), .val (.int p2), .val (.int p3), .val (.int p4), .val (.int p5), .val (.int ch0), .val (.int ch1), .val (.int ch2), .val (.int ch3), .val (.int ch4), .val (.int ((p5 &&& (2147483647 : Int32)) % (6 : Int32))), .unset, .unset, .unset, .unset, .unset, .unset, .unset, .unset, .unset, .unset, .unset] [(.int ch1), (.int (53 : Int32)), (.ref b142), (.ref b142)]) t → Gl t := fun t kt => kn463 t (by
              show own_S p e below T459 (mkF m 501 #[.val (.int p0), .val (.int p1), .val (.int p2), .val (.int p3), .val (.int p4), .val (.int p5), .val (.int ch0), .val (.int ch1), .val (.int ch2), .val (.int ch3), .val (.int ch4), .val (.int ((p5 &&& (2147483647 : Int32)) % (6 : Int32))), .unset, .unset, .unset, .unset, .unset, .unset, .unset, .unset, .unset, .unset, .unset] [(.ref b142)]) _
              refine XS.dup X459.here hx rfl (hb hby at_501) rfl rfl ?_
              show own_S p e below T459 (mkF m 502 #[.val (.int p0), .val (.int p1), .val (.int p2), .val (.int p3), .val (.int p4), .val (.int p5), .val (.int ch0), .val (.int ch1), .val (.int ch2), .val (.int ch3), .val (.int ch4), .val (.int ((p5 &&& (2147483647 : Int32)) % (6 : Int32))), .unset, .unset, .unset, .unset, .unset, .unset, .unset, .unset, .unset, .unset, .unset] [(.ref b142), (.ref b142)]) _
              refine XS.bipush X459.here hx rfl (hb hby at_502) ?_
              show own_S p e below T459 (mkF m 504 #[.val (.int p0), .val (.int p1), .val (.int p2), .val (.int p3), .val (.int p4), .val (.int p5), .val (.int ch0), .val (.int ch1), .val (.int ch2), .val (.int ch3), .val (.int ch4), .val (.int ((p5 &&& (2147483647 : Int32)) % (6 : Int32))), .unset, .unset, .unset, .unset, .unset, .unset, .unset, .unset, .unset, .unset, .unset] [(.int (53 : Int32)), (.ref b142), (.ref b142)]) _
              refine XS.iload X459.here hx rfl (hb hby at_504) rfl ?_
              exact kt)
            obtain ⟨cl465, Ar465, q465, Sz465, Ng465, Hs465, Gs465⟩ := id V459
            have hin465 : ¬ ((53 : Int32) < 0 ∨ cl465.slots.size ≤ ((53 : Int32)).toNatClampNeg) := inb_of Sz465 ⟨by decide, by decide⟩
            obtain ⟨T465, h465, X465, e465, W465, st465⟩ := stC X459 hx hZ e459 Ar465 (j := (53 : Int32)) hin465 (g := (mkF m 506 #[.val (.int p0), .val (.int p1), .val (.int p2), .val (.int p3), .val (.int p4), .val (.int p5), .val (.int ch0), .val (.int ch1), .val (.int ch2), .val (.int ch3), .val (.int ch4), .val (.int ((p5 &&& (2147483647 : Int32)) % (6 : Int32))), .unset, .unset, .unset, .unset, .unset, .unset, .unset, .unset, .unset, .unset, .unset] [(.int ch1), (.int (53 : Int32)), (.ref b142), (.ref b142)])) rfl rfl (hb hby at_506)
            have Z466 : n0 ≤ h465.size := Nat.le_trans Z460 (Keep.of_wr W465).1
            have Od467 : Old Z n0 h465 := Od461.wr W465 g_b142
            have V465 : Arv Z h465 b142 kk142 .char (64 : Int32) ((.int ch0) :: (.int ch1) :: (.int ch2) :: (.int ch3) :: (.int ch4) :: (.int ch1) :: (.int ch2) :: (.int ch3) :: (.int ch4) :: (.int ch1) :: (.int ch2) :: (.int ch3) :: (.int ch4) :: (.int ch1) :: (.int ch2) :: (.int ch3) :: (.int ch4) :: (.int ch1) :: (.int ch2) :: (.int ch3) :: (.int ch4) :: (.int ch1) :: (.int ch2) :: (.int ch3) :: (.int ch4) :: (.int ch1) :: (.int ch2) :: (.int ch3) :: (.int ch4) :: (.int ch1) :: (.int ch2) :: (.int ch3) :: (.int ch4) :: (.int ch1) :: (.int ch2) :: (.int ch3) :: (.int ch4) :: (.int ch1) :: (.int ch2) :: (.int ch3) :: (.int ch4) :: (.int ch1) :: (.int ch2) :: (.int ch3) :: (.int ch4) :: (.int ch1) :: (.int ch2) :: (.int ch3) :: (.int ch4) :: (.int ch1) :: (.int ch2) :: (.int ch3) :: (.int ch4) :: (.int (ch1.toUInt32.toUInt16.toUInt32.toInt32)) :: (.int (0 : Int32)) :: (.int (0 : Int32)) :: (.int (0 : Int32)) :: (.int (0 : Int32)) :: (.int (0 : Int32)) :: (.int (0 : Int32)) :: (.int (0 : Int32)) :: (.int (0 : Int32)) :: (.int (0 : Int32)) :: (.int (0 : Int32)) :: []) (.int (0 : Int32)) := Arv.set Ar465 q465 Sz465 Ng465 Hs465 Gs465 (fits_nar_char _) W465 53 rfl (Nat.le_of_ble_eq_true rfl)
            rw [(show (ch1.toUInt32.toUInt16.toUInt32.toInt32) = ch1 from gd1.2.2.2)] at V465
            have Nf468 := Fr.snoc X465 Nf462 g_b142
            have kn469 : ∀ t, own_S p e below T465 (mkF m 507 #[.val (.int p0), .val (.int p1), .val (.int p2), .val (.int p3), .val (.int p4), .val (.int p5), .val (.int ch0), .val (.int ch1), .val (.int ch2), .val (.int ch3), .val (.int ch4), .val (.int ((p5 &&& (2147483647 : Int32)) % (6 : Int32))), .unset, .unset, .unset, .unset, .unset, .unset, .unset, .unset, .unset, .unset, .unset] [(.ref b142)]) t → Gl t := fun t kt => kn464 t (st465 _ kt)
            have kn470 : ∀ t, own_S p e below T465 (mkF m 512 #[.val (.int p0), .val (.int p1), .val (.int p2), .val (.int p3), .val (.int p4), .val (.int p5), .val (.int ch0), .val (.int ch1), .val (.int ch2), .val (.int ch3), .val (.int ch4), .val (.int ((p5 &&& (2147483647 : Int32)) % (6 : Int32))), .unset, .unset, .unset, .unset, .unset, .unset, .unset, .unset, .unset, .unset, .unset] [(.int ch2), (.int (54 : Int32)), (.ref b142), (.ref b142)]) t → Gl t := fun t kt => kn469 t (by
              show own_S p e below T465 (mkF m 507 #[.val (.int p0), .val (.int p1), .val (.int p2), .val (.int p3), .val (.int p4), .val (.int p5), .val (.int ch0), .val (.int ch1), .val (.int ch2), .val (.int ch3), .val (.int ch4), .val (.int ((p5 &&& (2147483647 : Int32)) % (6 : Int32))), .unset, .unset, .unset, .unset, .unset, .unset, .unset, .unset, .unset, .unset, .unset] [(.ref b142)]) _
              refine XS.dup X465.here hx rfl (hb hby at_507) rfl rfl ?_
              show own_S p e below T465 (mkF m 508 #[.val (.int p0), .val (.int p1), .val (.int p2), .val (.int p3), .val (.int p4), .val (.int p5), .val (.int ch0), .val (.int ch1), .val (.int ch2), .val (.int ch3), .val (.int ch4), .val (.int ((p5 &&& (2147483647 : Int32)) % (6 : Int32))), .unset, .unset, .unset, .unset, .unset, .unset, .unset, .unset, .unset, .unset, .unset] [(.ref b142), (.ref b142)]) _
              refine XS.bipush X465.here hx rfl (hb hby at_508) ?_
              show own_S p e below T465 (mkF m 510 #[.val (.int p0), .val (.int p1), .val (.int p2), .val (.int p3), .val (.int p4), .val (.int p5), .val (.int ch0), .val (.int ch1), .val (.int ch2), .val (.int ch3), .val (.int ch4), .val (.int ((p5 &&& (2147483647 : Int32)) % (6 : Int32))), .unset, .unset, .unset, .unset, .unset, .unset, .unset, .unset, .unset, .unset, .unset] [(.int (54 : Int32)), (.ref b142), (.ref b142)]) _
              refine XS.iload X465.here hx rfl (hb hby at_510) rfl ?_
              exact kt)
            obtain ⟨cl471, Ar471, q471, Sz471, Ng471, Hs471, Gs471⟩ := id V465
            have hin471 : ¬ ((54 : Int32) < 0 ∨ cl471.slots.size ≤ ((54 : Int32)).toNatClampNeg) := inb_of Sz471 ⟨by decide, by decide⟩
            obtain ⟨T471, h471, X471, e471, W471, st471⟩ := stC X465 hx hZ e465 Ar471 (j := (54 : Int32)) hin471 (g := (mkF m 512 #[.val (.int p0), .val (.int p1), .val (.int p2), .val (.int p3), .val (.int p4), .val (.int p5), .val (.int ch0), .val (.int ch1), .val (.int ch2), .val (.int ch3), .val (.int ch4), .val (.int ((p5 &&& (2147483647 : Int32)) % (6 : Int32))), .unset, .unset, .unset, .unset, .unset, .unset, .unset, .unset, .unset, .unset, .unset] [(.int ch2), (.int (54 : Int32)), (.ref b142), (.ref b142)])) rfl rfl (hb hby at_512)
            have Z472 : n0 ≤ h471.size := Nat.le_trans Z466 (Keep.of_wr W471).1
            have Od473 : Old Z n0 h471 := Od467.wr W471 g_b142
            have V471 : Arv Z h471 b142 kk142 .char (64 : Int32) ((.int ch0) :: (.int ch1) :: (.int ch2) :: (.int ch3) :: (.int ch4) :: (.int ch1) :: (.int ch2) :: (.int ch3) :: (.int ch4) :: (.int ch1) :: (.int ch2) :: (.int ch3) :: (.int ch4) :: (.int ch1) :: (.int ch2) :: (.int ch3) :: (.int ch4) :: (.int ch1) :: (.int ch2) :: (.int ch3) :: (.int ch4) :: (.int ch1) :: (.int ch2) :: (.int ch3) :: (.int ch4) :: (.int ch1) :: (.int ch2) :: (.int ch3) :: (.int ch4) :: (.int ch1) :: (.int ch2) :: (.int ch3) :: (.int ch4) :: (.int ch1) :: (.int ch2) :: (.int ch3) :: (.int ch4) :: (.int ch1) :: (.int ch2) :: (.int ch3) :: (.int ch4) :: (.int ch1) :: (.int ch2) :: (.int ch3) :: (.int ch4) :: (.int ch1) :: (.int ch2) :: (.int ch3) :: (.int ch4) :: (.int ch1) :: (.int ch2) :: (.int ch3) :: (.int ch4) :: (.int ch1) :: (.int (ch2.toUInt32.toUInt16.toUInt32.toInt32)) :: (.int (0 : Int32)) :: (.int (0 : Int32)) :: (.int (0 : Int32)) :: (.int (0 : Int32)) :: (.int (0 : Int32)) :: (.int (0 : Int32)) :: (.int (0 : Int32)) :: (.int (0 : Int32)) :: (.int (0 : Int32)) :: []) (.int (0 : Int32)) := Arv.set Ar471 q471 Sz471 Ng471 Hs471 Gs471 (fits_nar_char _) W471 54 rfl (Nat.le_of_ble_eq_true rfl)
            rw [(show (ch2.toUInt32.toUInt16.toUInt32.toInt32) = ch2 from gd2.2.2.2)] at V471
            have Nf474 := Fr.snoc X471 Nf468 g_b142
            have kn475 : ∀ t, own_S p e below T471 (mkF m 513 #[.val (.int p0), .val (.int p1), .val (.int p2), .val (.int p3), .val (.int p4), .val (.int p5), .val (.int ch0), .val (.int ch1), .val (.int ch2), .val (.int ch3), .val (.int ch4), .val (.int ((p5 &&& (2147483647 : Int32)) % (6 : Int32))), .unset, .unset, .unset, .unset, .unset, .unset, .unset, .unset, .unset, .unset, .unset] [(.ref b142)]) t → Gl t := fun t kt => kn470 t (st471 _ kt)
            have kn476 : ∀ t, own_S p e below T471 (mkF m 518 #[.val (.int p0), .val (.int p1), .val (.int p2), .val (.int p3), .val (.int p4), .val (.int p5), .val (.int ch0), .val (.int ch1), .val (.int ch2), .val (.int ch3), .val (.int ch4), .val (.int ((p5 &&& (2147483647 : Int32)) % (6 : Int32))), .unset, .unset, .unset, .unset, .unset, .unset, .unset, .unset, .unset, .unset, .unset] [(.int ch3), (.int (55 : Int32)), (.ref b142), (.ref b142)]) t → Gl t := fun t kt => kn475 t (by
              show own_S p e below T471 (mkF m 513 #[.val (.int p0), .val (.int p1), .val (.int p2), .val (.int p3), .val (.int p4), .val (.int p5), .val (.int ch0), .val (.int ch1), .val (.int ch2), .val (.int ch3), .val (.int ch4), .val (.int ((p5 &&& (2147483647 : Int32)) % (6 : Int32))), .unset, .unset, .unset, .unset, .unset, .unset, .unset, .unset, .unset, .unset, .unset] [(.ref b142)]) _
              refine XS.dup X471.here hx rfl (hb hby at_513) rfl rfl ?_
              show own_S p e below T471 (mkF m 514 #[.val (.int p0), .val (.int p1), .val (.int p2), .val (.int p3), .val (.int p4), .val (.int p5), .val (.int ch0), .val (.int ch1), .val (.int ch2), .val (.int ch3), .val (.int ch4), .val (.int ((p5 &&& (2147483647 : Int32)) % (6 : Int32))), .unset, .unset, .unset, .unset, .unset, .unset, .unset, .unset, .unset, .unset, .unset] [(.ref b142), (.ref b142)]) _
              refine XS.bipush X471.here hx rfl (hb hby at_514) ?_
              show own_S p e below T471 (mkF m 516 #[.val (.int p0), .val (.int p1), .val (.int p2), .val (.int p3), .val (.int p4), .val (.int p5), .val (.int ch0), .val (.int ch1), .val (.int ch2), .val (.int ch3), .val (.int ch4), .val (.int ((p5 &&& (2147483647 : Int32)) % (6 : Int32))), .unset, .unset, .unset, .unset, .unset, .unset, .unset, .unset, .unset, .unset, .unset] [(.int (55 : Int32)), (.ref b142), (.ref b142)]) _
              refine XS.iload X471.here hx rfl (hb hby at_516) rfl ?_
              exact kt)
            obtain ⟨cl477, Ar477, q477, Sz477, Ng477, Hs477, Gs477⟩ := id V471
            have hin477 : ¬ ((55 : Int32) < 0 ∨ cl477.slots.size ≤ ((55 : Int32)).toNatClampNeg) := inb_of Sz477 ⟨by decide, by decide⟩
            obtain ⟨T477, h477, X477, e477, W477, st477⟩ := stC X471 hx hZ e471 Ar477 (j := (55 : Int32)) hin477 (g := (mkF m 518 #[.val (.int p0), .val (.int p1), .val (.int p2), .val (.int p3), .val (.int p4), .val (.int p5), .val (.int ch0), .val (.int ch1), .val (.int ch2), .val (.int ch3), .val (.int ch4), .val (.int ((p5 &&& (2147483647 : Int32)) % (6 : Int32))), .unset, .unset, .unset, .unset, .unset, .unset, .unset, .unset, .unset, .unset, .unset] [(.int ch3), (.int (55 : Int32)), (.ref b142), (.ref b142)])) rfl rfl (hb hby at_518)
            have Z478 : n0 ≤ h477.size := Nat.le_trans Z472 (Keep.of_wr W477).1
            have Od479 : Old Z n0 h477 := Od473.wr W477 g_b142
            have V477 : Arv Z h477 b142 kk142 .char (64 : Int32) ((.int ch0) :: (.int ch1) :: (.int ch2) :: (.int ch3) :: (.int ch4) :: (.int ch1) :: (.int ch2) :: (.int ch3) :: (.int ch4) :: (.int ch1) :: (.int ch2) :: (.int ch3) :: (.int ch4) :: (.int ch1) :: (.int ch2) :: (.int ch3) :: (.int ch4) :: (.int ch1) :: (.int ch2) :: (.int ch3) :: (.int ch4) :: (.int ch1) :: (.int ch2) :: (.int ch3) :: (.int ch4) :: (.int ch1) :: (.int ch2) :: (.int ch3) :: (.int ch4) :: (.int ch1) :: (.int ch2) :: (.int ch3) :: (.int ch4) :: (.int ch1) :: (.int ch2) :: (.int ch3) :: (.int ch4) :: (.int ch1) :: (.int ch2) :: (.int ch3) :: (.int ch4) :: (.int ch1) :: (.int ch2) :: (.int ch3) :: (.int ch4) :: (.int ch1) :: (.int ch2) :: (.int ch3) :: (.int ch4) :: (.int ch1) :: (.int ch2) :: (.int ch3) :: (.int ch4) :: (.int ch1) :: (.int ch2) :: (.int (ch3.toUInt32.toUInt16.toUInt32.toInt32)) :: (.int (0 : Int32)) :: (.int (0 : Int32)) :: (.int (0 : Int32)) :: (.int (0 : Int32)) :: (.int (0 : Int32)) :: (.int (0 : Int32)) :: (.int (0 : Int32)) :: (.int (0 : Int32)) :: []) (.int (0 : Int32)) := Arv.set Ar477 q477 Sz477 Ng477 Hs477 Gs477 (fits_nar_char _) W477 55 rfl (Nat.le_of_ble_eq_true rfl)
            rw [(show (ch3.toUInt32.toUInt16.toUInt32.toInt32) = ch3 from gd3.2.2.2)] at V477
            have Nf480 := Fr.snoc X477 Nf474 g_b142
            have kn481 : ∀ t, own_S p e below T477 (mkF m 519 #[.val (.int p0), .val (.int p1), .val (.int p2), .val (.int p3), .val (.int p4), .val (.int p5), .val (.int ch0), .val (.int ch1), .val (.int ch2), .val (.int ch3), .val (.int ch4), .val (.int ((p5 &&& (2147483647 : Int32)) % (6 : Int32))), .unset, .unset, .unset, .unset, .unset, .unset, .unset, .unset, .unset, .unset, .unset] [(.ref b142)]) t → Gl t := fun t kt => kn476 t (st477 _ kt)
            have kn482 : ∀ t, own_S p e below T477 (mkF m 524 #[.val (.int p0), .val (.int p1), .val (.int p2), .val (.int p3), .val (.int p4), .val (.int p5), .val (.int ch0), .val (.int ch1), .val (.int ch2), .val (.int ch3), .val (.int ch4), .val (.int ((p5 &&& (2147483647 : Int32)) % (6 : Int32))), .unset, .unset, .unset, .unset, .unset, .unset, .unset, .unset, .unset, .unset, .unset] [(.int ch4), (.int (56 : Int32)), (.ref b142), (.ref b142)]) t → Gl t := fun t kt => kn481 t (by
              show own_S p e below T477 (mkF m 519 #[.val (.int p0), .val (.int p1), .val (.int p2), .val (.int p3), .val (.int p4), .val (.int p5), .val (.int ch0), .val (.int ch1), .val (.int ch2), .val (.int ch3), .val (.int ch4), .val (.int ((p5 &&& (2147483647 : Int32)) % (6 : Int32))), .unset, .unset, .unset, .unset, .unset, .unset, .unset, .unset, .unset, .unset, .unset] [(.ref b142)]) _
              refine XS.dup X477.here hx rfl (hb hby at_519) rfl rfl ?_
              show own_S p e below T477 (mkF m 520 #[.val (.int p0), .val (.int p1), .val (.int p2), .val (.int p3), .val (.int p4), .val (.int p5), .val (.int ch0), .val (.int ch1), .val (.int ch2), .val (.int ch3), .val (.int ch4), .val (.int ((p5 &&& (2147483647 : Int32)) % (6 : Int32))), .unset, .unset, .unset, .unset, .unset, .unset, .unset, .unset, .unset, .unset, .unset] [(.ref b142), (.ref b142)]) _
              refine XS.bipush X477.here hx rfl (hb hby at_520) ?_
              show own_S p e below T477 (mkF m 522 #[.val (.int p0), .val (.int p1), .val (.int p2), .val (.int p3), .val (.int p4), .val (.int p5), .val (.int ch0), .val (.int ch1), .val (.int ch2), .val (.int ch3), .val (.int ch4), .val (.int ((p5 &&& (2147483647 : Int32)) % (6 : Int32))), .unset, .unset, .unset, .unset, .unset, .unset, .unset, .unset, .unset, .unset, .unset] [(.int (56 : Int32)), (.ref b142), (.ref b142)]) _
              refine XS.iload X477.here hx rfl (hb hby at_522) rfl ?_
              exact kt)
            obtain ⟨cl483, Ar483, q483, Sz483, Ng483, Hs483, Gs483⟩ := id V477
            have hin483 : ¬ ((56 : Int32) < 0 ∨ cl483.slots.size ≤ ((56 : Int32)).toNatClampNeg) := inb_of Sz483 ⟨by decide, by decide⟩
            obtain ⟨T483, h483, X483, e483, W483, st483⟩ := stC X477 hx hZ e477 Ar483 (j := (56 : Int32)) hin483 (g := (mkF m 524 #[.val (.int p0), .val (.int p1), .val (.int p2), .val (.int p3), .val (.int p4), .val (.int p5), .val (.int ch0), .val (.int ch1), .val (.int ch2), .val (.int ch3), .val (.int ch4), .val (.int ((p5 &&& (2147483647 : Int32)) % (6 : Int32))), .unset, .unset, .unset, .unset, .unset, .unset, .unset, .unset, .unset, .unset, .unset] [(.int ch4), (.int (56 : Int32)), (.ref b142), (.ref b142)])) rfl rfl (hb hby at_524)
            have Z484 : n0 ≤ h483.size := Nat.le_trans Z478 (Keep.of_wr W483).1
            have Od485 : Old Z n0 h483 := Od479.wr W483 g_b142
            have V483 : Arv Z h483 b142 kk142 .char (64 : Int32) ((.int ch0) :: (.int ch1) :: (.int ch2) :: (.int ch3) :: (.int ch4) :: (.int ch1) :: (.int ch2) :: (.int ch3) :: (.int ch4) :: (.int ch1) :: (.int ch2) :: (.int ch3) :: (.int ch4) :: (.int ch1) :: (.int ch2) :: (.int ch3) :: (.int ch4) :: (.int ch1) :: (.int ch2) :: (.int ch3) :: (.int ch4) :: (.int ch1) :: (.int ch2) :: (.int ch3) :: (.int ch4) :: (.int ch1) :: (.int ch2) :: (.int ch3) :: (.int ch4) :: (.int ch1) :: (.int ch2) :: (.int ch3) :: (.int ch4) :: (.int ch1) :: (.int ch2) :: (.int ch3) :: (.int ch4) :: (.int ch1) :: (.int ch2) :: (.int ch3) :: (.int ch4) :: (.int ch1) :: (.int ch2) :: (.int ch3) :: (.int ch4) :: (.int ch1) :: (.int ch2) :: (.int ch3) :: (.int ch4) :: (.int ch1) :: (.int ch2) :: (.int ch3) :: (.int ch4) :: (.int ch1) :: (.int ch2) :: (.int ch3) :: (.int (ch4.toUInt32.toUInt16.toUInt32.toInt32)) :: (.int (0 : Int32)) :: (.int (0 : Int32)) :: (.int (0 : Int32)) :: (.int (0 : Int32)) :: (.int (0 : Int32)) :: (.int (0 : Int32)) :: (.int (0 : Int32)) :: []) (.int (0 : Int32)) := Arv.set Ar483 q483 Sz483 Ng483 Hs483 Gs483 (fits_nar_char _) W483 56 rfl (Nat.le_of_ble_eq_true rfl)
            rw [(show (ch4.toUInt32.toUInt16.toUInt32.toInt32) = ch4 from gd4.2.2.2)] at V483
            have Nf486 := Fr.snoc X483 Nf480 g_b142
            have kn487 : ∀ t, own_S p e below T483 (mkF m 525 #[.val (.int p0), .val (.int p1), .val (.int p2), .val (.int p3), .val (.int p4), .val (.int p5), .val (.int ch0), .val (.int ch1), .val (.int ch2), .val (.int ch3), .val (.int ch4), .val (.int ((p5 &&& (2147483647 : Int32)) % (6 : Int32))), .unset, .unset, .unset, .unset, .unset, .unset, .unset, .unset, .unset, .unset, .unset] [(.ref b142)]) t → Gl t := fun t kt => kn482 t (st483 _ kt)
            have kn488 : ∀ t, own_S p e below T483 (mkF m 530 #[.val (.int p0), .val (.int p1), .val (.int p2), .val (.int p3), .val (.int p4), .val (.int p5), .val (.int ch0), .val (.int ch1), .val (.int ch2), .val (.int ch3), .val (.int ch4), .val (.int ((p5 &&& (2147483647 : Int32)) % (6 : Int32))), .unset, .unset, .unset, .unset, .unset, .unset, .unset, .unset, .unset, .unset, .unset] [(.int ch1), (.int (57 : Int32)), (.ref b142), (.ref b142)]) t → Gl t := fun t kt => kn487 t (by
              show own_S p e below T483 (mkF m 525 #[.val (.int p0), .val (.int p1), .val (.int p2), .val (.int p3), .val (.int p4), .val (.int p5), .val (.int ch0), .val (.int ch1), .val (.int ch2), .val (.int ch3), .val (.int ch4), .val (.int ((p5 &&& (2147483647 : Int32)) % (6 : Int32))), .unset, .unset, .unset, .unset, .unset, .unset, .unset, .unset, .unset, .unset, .unset] [(.ref b142)]) _
              refine XS.dup X483.here hx rfl (hb hby at_525) rfl rfl ?_
              show own_S p e below T483 (mkF m 526 #[.val (.int p0), .val (.int p1), .val (.int p2), .val (.int p3), .val (.int p4), .val (.int p5), .val (.int ch0), .val (.int ch1), .val (.int ch2), .val (.int ch3), .val (.int ch4), .val (.int ((p5 &&& (2147483647 : Int32)) % (6 : Int32))), .unset, .unset, .unset, .unset, .unset, .unset, .unset, .unset, .unset, .unset, .unset] [(.ref b142), (.ref b142)]) _
              refine XS.bipush X483.here hx rfl (hb hby at_526) ?_
              show own_S p e below T483 (mkF m 528 #[.val (.int p0), .val (.int p1), .val (.int p2), .val (.int p3), .val (.int p4), .val (.int p5), .val (.int ch0), .val (.int ch1), .val (.int ch2), .val (.int ch3), .val (.int ch4), .val (.int ((p5 &&& (2147483647 : Int32)) % (6 : Int32))), .unset, .unset, .unset, .unset, .unset, .unset, .unset, .unset, .unset, .unset, .unset] [(.int (57 : Int32)), (.ref b142), (.ref b142)]) _
              refine XS.iload X483.here hx rfl (hb hby at_528) rfl ?_
              exact kt)
            obtain ⟨cl489, Ar489, q489, Sz489, Ng489, Hs489, Gs489⟩ := id V483
            have hin489 : ¬ ((57 : Int32) < 0 ∨ cl489.slots.size ≤ ((57 : Int32)).toNatClampNeg) := inb_of Sz489 ⟨by decide, by decide⟩
            obtain ⟨T489, h489, X489, e489, W489, st489⟩ := stC X483 hx hZ e483 Ar489 (j := (57 : Int32)) hin489 (g := (mkF m 530 #[.val (.int p0), .val (.int p1), .val (.int p2), .val (.int p3), .val (.int p4), .val (.int p5), .val (.int ch0), .val (.int ch1), .val (.int ch2), .val (.int ch3), .val (.int ch4), .val (.int ((p5 &&& (2147483647 : Int32)) % (6 : Int32))), .unset, .unset, .unset, .unset, .unset, .unset, .unset, .unset, .unset, .unset, .unset] [(.int ch1), (.int (57 : Int32)), (.ref b142), (.ref b142)])) rfl rfl (hb hby at_530)
            have Z490 : n0 ≤ h489.size := Nat.le_trans Z484 (Keep.of_wr W489).1
            have Od491 : Old Z n0 h489 := Od485.wr W489 g_b142
            have V489 : Arv Z h489 b142 kk142 .char (64 : Int32) ((.int ch0) :: (.int ch1) :: (.int ch2) :: (.int ch3) :: (.int ch4) :: (.int ch1) :: (.int ch2) :: (.int ch3) :: (.int ch4) :: (.int ch1) :: (.int ch2) :: (.int ch3) :: (.int ch4) :: (.int ch1) :: (.int ch2) :: (.int ch3) :: (.int ch4) :: (.int ch1) :: (.int ch2) :: (.int ch3) :: (.int ch4) :: (.int ch1) :: (.int ch2) :: (.int ch3) :: (.int ch4) :: (.int ch1) :: (.int ch2) :: (.int ch3) :: (.int ch4) :: (.int ch1) :: (.int ch2) :: (.int ch3) :: (.int ch4) :: (.int ch1) :: (.int ch2) :: (.int ch3) :: (.int ch4) :: (.int ch1) :: (.int ch2) :: (.int ch3) :: (.int ch4) :: (.int ch1) :: (.int ch2) :: (.int ch3) :: (.int ch4) :: (.int ch1) :: (.int ch2) :: (.int ch3) :: (.int ch4) :: (.int ch1) :: (.int ch2) :: (.int ch3) :: (.int ch4) :: (.int ch1) :: (.int ch2) :: (.int ch3) :: (.int ch4) :: (.int (ch1.toUInt32.toUInt16.toUInt32.toInt32)) :: (.int (0 : Int32)) :: (.int (0 : Int32)) :: (.int (0 : Int32)) :: (.int (0 : Int32)) :: (.int (0 : Int32)) :: (.int (0 : Int32)) :: []) (.int (0 : Int32)) := Arv.set Ar489 q489 Sz489 Ng489 Hs489 Gs489 (fits_nar_char _) W489 57 rfl (Nat.le_of_ble_eq_true rfl)
            rw [(show (ch1.toUInt32.toUInt16.toUInt32.toInt32) = ch1 from gd1.2.2.2)] at V489
            have Nf492 := Fr.snoc X489 Nf486 g_b142
            have kn493 : ∀ t, own_S p e below T489 (mkF m 531 #[.val (.int p0), .val (.int p1), .val (.int p2), .val (.int p3), .val (.int p4), .val (.int p5), .val (.int ch0), .val (.int ch1), .val (.int ch2), .val (.int ch3), .val (.int ch4), .val (.int ((p5 &&& (2147483647 : Int32)) % (6 : Int32))), .unset, .unset, .unset, .unset, .unset, .unset, .unset, .unset, .unset, .unset, .unset] [(.ref b142)]) t → Gl t := fun t kt => kn488 t (st489 _ kt)
            have kn494 : ∀ t, own_S p e below T489 (mkF m 536 #[.val (.int p0), .val (.int p1), .val (.int p2), .val (.int p3), .val (.int p4), .val (.int p5), .val (.int ch0), .val (.int ch1), .val (.int ch2), .val (.int ch3), .val (.int ch4), .val (.int ((p5 &&& (2147483647 : Int32)) % (6 : Int32))), .unset, .unset, .unset, .unset, .unset, .unset, .unset, .unset, .unset, .unset, .unset] [(.int ch2), (.int (58 : Int32)), (.ref b142), (.ref b142)]) t → Gl t := fun t kt => kn493 t (by
              show own_S p e below T489 (mkF m 531 #[.val (.int p0), .val (.int p1), .val (.int p2), .val (.int p3), .val (.int p4), .val (.int p5), .val (.int ch0), .val (.int ch1), .val (.int ch2), .val (.int ch3), .val (.int ch4), .val (.int ((p5 &&& (2147483647 : Int32)) % (6 : Int32))), .unset, .unset, .unset, .unset, .unset, .unset, .unset, .unset, .unset, .unset, .unset] [(.ref b142)]) _
              refine XS.dup X489.here hx rfl (hb hby at_531) rfl rfl ?_
              show own_S p e below T489 (mkF m 532 #[.val (.int p0), .val (.int p1), .val (.int p2), .val (.int p3), .val (.int p4), .val (.int p5), .val (.int ch0), .val (.int ch1), .val (.int ch2), .val (.int ch3), .val (.int ch4), .val (.int ((p5 &&& (2147483647 : Int32)) % (6 : Int32))), .unset, .unset, .unset, .unset, .unset, .unset, .unset, .unset, .unset, .unset, .unset] [(.ref b142), (.ref b142)]) _
              refine XS.bipush X489.here hx rfl (hb hby at_532) ?_
              show own_S p e below T489 (mkF m 534 #[.val (.int p0), .val (.int p1), .val (.int p2), .val (.int p3), .val (.int p4), .val (.int p5), .val (.int ch0), .val (.int ch1), .val (.int ch2), .val (.int ch3), .val (.int ch4), .val (.int ((p5 &&& (2147483647 : Int32)) % (6 : Int32))), .unset, .unset, .unset, .unset, .unset, .unset, .unset, .unset, .unset, .unset, .unset] [(.int (58 : Int32)), (.ref b142), (.ref b142)]) _
              refine XS.iload X489.here hx rfl (hb hby at_534) rfl ?_
              exact kt)
            obtain ⟨cl495, Ar495, q495, Sz495, Ng495, Hs495, Gs495⟩ := id V489
            have hin495 : ¬ ((58 : Int32) < 0 ∨ cl495.slots.size ≤ ((58 : Int32)).toNatClampNeg) := inb_of Sz495 ⟨by decide, by decide⟩
            obtain ⟨T495, h495, X495, e495, W495, st495⟩ := stC X489 hx hZ e489 Ar495 (j := (58 : Int32)) hin495 (g := (mkF m 536 #[.val (.int p0), .val (.int p1), .val (.int p2), .val (.int p3), .val (.int p4), .val (.int p5), .val (.int ch0), .val (.int ch1), .val (.int ch2), .val (.int ch3), .val (.int ch4), .val (.int ((p5 &&& (2147483647 : Int32)) % (6 : Int32))), .unset, .unset, .unset, .unset, .unset, .unset, .unset, .unset, .unset, .unset, .unset] [(.int ch2), (.int (58 : Int32)), (.ref b142), (.ref b142)])) rfl rfl (hb hby at_536)
            have Z496 : n0 ≤ h495.size := Nat.le_trans Z490 (Keep.of_wr W495).1
            have Od497 : Old Z n0 h495 := Od491.wr W495 g_b142
            have V495 : Arv Z h495 b142 kk142 .char (64 : Int32) ((.int ch0) :: (.int ch1) :: (.int ch2) :: (.int ch3) :: (.int ch4) :: (.int ch1) :: (.int ch2) :: (.int ch3) :: (.int ch4) :: (.int ch1) :: (.int ch2) :: (.int ch3) :: (.int ch4) :: (.int ch1) :: (.int ch2) :: (.int ch3) :: (.int ch4) :: (.int ch1) :: (.int ch2) :: (.int ch3) :: (.int ch4) :: (.int ch1) :: (.int ch2) :: (.int ch3) :: (.int ch4) :: (.int ch1) :: (.int ch2) :: (.int ch3) :: (.int ch4) :: (.int ch1) :: (.int ch2) :: (.int ch3) :: (.int ch4) :: (.int ch1) :: (.int ch2) :: (.int ch3) :: (.int ch4) :: (.int ch1) :: (.int ch2) :: (.int ch3) :: (.int ch4) :: (.int ch1) :: (.int ch2) :: (.int ch3) :: (.int ch4) :: (.int ch1) :: (.int ch2) :: (.int ch3) :: (.int ch4) :: (.int ch1) :: (.int ch2) :: (.int ch3) :: (.int ch4) :: (.int ch1) :: (.int ch2) :: (.int ch3) :: (.int ch4) :: (.int ch1) :: (.int (ch2.toUInt32.toUInt16.toUInt32.toInt32)) :: (.int (0 : Int32)) :: (.int (0 : Int32)) :: (.int (0 : Int32)) :: (.int (0 : Int32)) :: (.int (0 : Int32)) :: []) (.int (0 : Int32)) := Arv.set Ar495 q495 Sz495 Ng495 Hs495 Gs495 (fits_nar_char _) W495 58 rfl (Nat.le_of_ble_eq_true rfl)
            rw [(show (ch2.toUInt32.toUInt16.toUInt32.toInt32) = ch2 from gd2.2.2.2)] at V495
            have Nf498 := Fr.snoc X495 Nf492 g_b142
            have kn499 : ∀ t, own_S p e below T495 (mkF m 537 #[.val (.int p0), .val (.int p1), .val (.int p2), .val (.int p3), .val (.int p4), .val (.int p5), .val (.int ch0), .val (.int ch1), .val (.int ch2), .val (.int ch3), .val (.int ch4), .val (.int ((p5 &&& (2147483647 : Int32)) % (6 : Int32))), .unset, .unset, .unset, .unset, .unset, .unset, .unset, .unset, .unset, .unset, .unset] [(.ref b142)]) t → Gl t := fun t kt => kn494 t (st495 _ kt)
            have kn500 : ∀ t, own_S p e below T495 (mkF m 542 #[.val (.int p0), .val (.int p1), .val (.int p2), .val (.int p3), .val (.int p4), .val (.int p5), .val (.int ch0), .val (.int ch1), .val (.int ch2), .val (.int ch3), .val (.int ch4), .val (.int ((p5 &&& (2147483647 : Int32)) % (6 : Int32))), .unset, .unset, .unset, .unset, .unset, .unset, .unset, .unset, .unset, .unset, .unset] [(.int ch3), (.int (59 : Int32)), (.ref b142), (.ref b142)]) t → Gl t := fun t kt => kn499 t (by
              show own_S p e below T495 (mkF m 537 #[.val (.int p0), .val (.int p1), .val (.int p2), .val (.int p3), .val (.int p4), .val (.int p5), .val (.int ch0), .val (.int ch1), .val (.int ch2), .val (.int ch3), .val (.int ch4), .val (.int ((p5 &&& (2147483647 : Int32)) % (6 : Int32))), .unset, .unset, .unset, .unset, .unset, .unset, .unset, .unset, .unset, .unset, .unset] [(.ref b142)]) _
              refine XS.dup X495.here hx rfl (hb hby at_537) rfl rfl ?_
              show own_S p e below T495 (mkF m 538 #[.val (.int p0), .val (.int p1), .val (.int p2), .val (.int p3), .val (.int p4), .val (.int p5), .val (.int ch0), .val (.int ch1), .val (.int ch2), .val (.int ch3), .val (.int ch4), .val (.int ((p5 &&& (2147483647 : Int32)) % (6 : Int32))), .unset, .unset, .unset, .unset, .unset, .unset, .unset, .unset, .unset, .unset, .unset] [(.ref b142), (.ref b142)]) _
              refine XS.bipush X495.here hx rfl (hb hby at_538) ?_
              show own_S p e below T495 (mkF m 540 #[.val (.int p0), .val (.int p1), .val (.int p2), .val (.int p3), .val (.int p4), .val (.int p5), .val (.int ch0), .val (.int ch1), .val (.int ch2), .val (.int ch3), .val (.int ch4), .val (.int ((p5 &&& (2147483647 : Int32)) % (6 : Int32))), .unset, .unset, .unset, .unset, .unset, .unset, .unset, .unset, .unset, .unset, .unset] [(.int (59 : Int32)), (.ref b142), (.ref b142)]) _
              refine XS.iload X495.here hx rfl (hb hby at_540) rfl ?_
              exact kt)
            obtain ⟨cl501, Ar501, q501, Sz501, Ng501, Hs501, Gs501⟩ := id V495
            have hin501 : ¬ ((59 : Int32) < 0 ∨ cl501.slots.size ≤ ((59 : Int32)).toNatClampNeg) := inb_of Sz501 ⟨by decide, by decide⟩
            obtain ⟨T501, h501, X501, e501, W501, st501⟩ := stC X495 hx hZ e495 Ar501 (j := (59 : Int32)) hin501 (g := (mkF m 542 #[.val (.int p0), .val (.int p1), .val (.int p2), .val (.int p3), .val (.int p4), .val (.int p5), .val (.int ch0), .val (.int ch1), .val (.int ch2), .val (.int ch3), .val (.int ch4), .val (.int ((p5 &&& (2147483647 : Int32)) % (6 : Int32))), .unset, .unset, .unset, .unset, .unset, .unset, .unset, .unset, .unset, .unset, .unset] [(.int ch3), (.int (59 : Int32)), (.ref b142), (.ref b142)])) rfl rfl (hb hby at_542)
            have Z502 : n0 ≤ h501.size := Nat.le_trans Z496 (Keep.of_wr W501).1
            have Od503 : Old Z n0 h501 := Od497.wr W501 g_b142
            have V501 : Arv Z h501 b142 kk142 .char (64 : Int32) ((.int ch0) :: (.int ch1) :: (.int ch2) :: (.int ch3) :: (.int ch4) :: (.int ch1) :: (.int ch2) :: (.int ch3) :: (.int ch4) :: (.int ch1) :: (.int ch2) :: (.int ch3) :: (.int ch4) :: (.int ch1) :: (.int ch2) :: (.int ch3) :: (.int ch4) :: (.int ch1) :: (.int ch2) :: (.int ch3) :: (.int ch4) :: (.int ch1) :: (.int ch2) :: (.int ch3) :: (.int ch4) :: (.int ch1) :: (.int ch2) :: (.int ch3) :: (.int ch4) :: (.int ch1) :: (.int ch2) :: (.int ch3) :: (.int ch4) :: (.int ch1) :: (.int ch2) :: (.int ch3) :: (.int ch4) :: (.int ch1) :: (.int ch2) :: (.int ch3) :: (.int ch4) :: (.int ch1) :: (.int ch2) :: (.int ch3) :: (.int ch4) :: (.int ch1) :: (.int ch2) :: (.int ch3) :: (.int ch4) :: (.int ch1) :: (.int ch2) :: (.int ch3) :: (.int ch4) :: (.int ch1) :: (.int ch2) :: (.int ch3) :: (.int ch4) :: (.int ch1) :: (.int ch2) :: (.int (ch3.toUInt32.toUInt16.toUInt32.toInt32)) :: (.int (0 : Int32)) :: (.int (0 : Int32)) :: (.int (0 : Int32)) :: (.int (0 : Int32)) :: []) (.int (0 : Int32)) := Arv.set Ar501 q501 Sz501 Ng501 Hs501 Gs501 (fits_nar_char _) W501 59 rfl (Nat.le_of_ble_eq_true rfl)
            rw [(show (ch3.toUInt32.toUInt16.toUInt32.toInt32) = ch3 from gd3.2.2.2)] at V501
            have Nf504 := Fr.snoc X501 Nf498 g_b142
            have kn505 : ∀ t, own_S p e below T501 (mkF m 543 #[.val (.int p0), .val (.int p1), .val (.int p2), .val (.int p3), .val (.int p4), .val (.int p5), .val (.int ch0), .val (.int ch1), .val (.int ch2), .val (.int ch3), .val (.int ch4), .val (.int ((p5 &&& (2147483647 : Int32)) % (6 : Int32))), .unset, .unset, .unset, .unset, .unset, .unset, .unset, .unset, .unset, .unset, .unset] [(.ref b142)]) t → Gl t := fun t kt => kn500 t (st501 _ kt)
            have kn506 : ∀ t, own_S p e below T501 (mkF m 548 #[.val (.int p0), .val (.int p1), .val (.int p2), .val (.int p3), .val (.int p4), .val (.int p5), .val (.int ch0), .val (.int ch1), .val (.int ch2), .val (.int ch3), .val (.int ch4), .val (.int ((p5 &&& (2147483647 : Int32)) % (6 : Int32))), .unset, .unset, .unset, .unset, .unset, .unset, .unset, .unset, .unset, .unset, .unset] [(.int ch4), (.int (60 : Int32)), (.ref b142), (.ref b142)]) t → Gl t := fun t kt => kn505 t (by
              show own_S p e below T501 (mkF m 543 #[.val (.int p0), .val (.int p1), .val (.int p2), .val (.int p3), .val (.int p4), .val (.int p5), .val (.int ch0), .val (.int ch1), .val (.int ch2), .val (.int ch3), .val (.int ch4), .val (.int ((p5 &&& (2147483647 : Int32)) % (6 : Int32))), .unset, .unset, .unset, .unset, .unset, .unset, .unset, .unset, .unset, .unset, .unset] [(.ref b142)]) _
              refine XS.dup X501.here hx rfl (hb hby at_543) rfl rfl ?_
              show own_S p e below T501 (mkF m 544 #[.val (.int p0), .val (.int p1), .val (.int p2), .val (.int p3), .val (.int p4), .val (.int p5), .val (.int ch0), .val (.int ch1), .val (.int ch2), .val (.int ch3), .val (.int ch4), .val (.int ((p5 &&& (2147483647 : Int32)) % (6 : Int32))), .unset, .unset, .unset, .unset, .unset, .unset, .unset, .unset, .unset, .unset, .unset] [(.ref b142), (.ref b142)]) _
              refine XS.bipush X501.here hx rfl (hb hby at_544) ?_
              show own_S p e below T501 (mkF m 546 #[.val (.int p0), .val (.int p1), .val (.int p2), .val (.int p3), .val (.int p4), .val (.int p5), .val (.int ch0), .val (.int ch1), .val (.int ch2), .val (.int ch3), .val (.int ch4), .val (.int ((p5 &&& (2147483647 : Int32)) % (6 : Int32))), .unset, .unset, .unset, .unset, .unset, .unset, .unset, .unset, .unset, .unset, .unset] [(.int (60 : Int32)), (.ref b142), (.ref b142)]) _
              refine XS.iload X501.here hx rfl (hb hby at_546) rfl ?_
              exact kt)
            obtain ⟨cl507, Ar507, q507, Sz507, Ng507, Hs507, Gs507⟩ := id V501
            have hin507 : ¬ ((60 : Int32) < 0 ∨ cl507.slots.size ≤ ((60 : Int32)).toNatClampNeg) := inb_of Sz507 ⟨by decide, by decide⟩
            obtain ⟨T507, h507, X507, e507, W507, st507⟩ := stC X501 hx hZ e501 Ar507 (j := (60 : Int32)) hin507 (g := (mkF m 548 #[.val (.int p0), .val (.int p1), .val (.int p2), .val (.int p3), .val (.int p4), .val (.int p5), .val (.int ch0), .val (.int ch1), .val (.int ch2), .val (.int ch3), .val (.int ch4), .val (.int ((p5 &&& (2147483647 : Int32)) % (6 : Int32))), .unset, .unset, .unset, .unset, .unset, .unset, .unset, .unset, .unset, .unset, .unset] [(.int ch4), (.int (60 : Int32)), (.ref b142), (.ref b142)])) rfl rfl (hb hby at_548)
            have Z508 : n0 ≤ h507.size := Nat.le_trans Z502 (Keep.of_wr W507).1
            have Od509 : Old Z n0 h507 := Od503.wr W507 g_b142
            have V507 : Arv Z h507 b142 kk142 .char (64 : Int32) ((.int ch0) :: (.int ch1) :: (.int ch2) :: (.int ch3) :: (.int ch4) :: (.int ch1) :: (.int ch2) :: (.int ch3) :: (.int ch4) :: (.int ch1) :: (.int ch2) :: (.int ch3) :: (.int ch4) :: (.int ch1) :: (.int ch2) :: (.int ch3) :: (.int ch4) :: (.int ch1) :: (.int ch2) :: (.int ch3) :: (.int ch4) :: (.int ch1) :: (.int ch2) :: (.int ch3) :: (.int ch4) :: (.int ch1) :: (.int ch2) :: (.int ch3) :: (.int ch4) :: (.int ch1) :: (.int ch2) :: (.int ch3) :: (.int ch4) :: (.int ch1) :: (.int ch2) :: (.int ch3) :: (.int ch4) :: (.int ch1) :: (.int ch2) :: (.int ch3) :: (.int ch4) :: (.int ch1) :: (.int ch2) :: (.int ch3) :: (.int ch4) :: (.int ch1) :: (.int ch2) :: (.int ch3) :: (.int ch4) :: (.int ch1) :: (.int ch2) :: (.int ch3) :: (.int ch4) :: (.int ch1) :: (.int ch2) :: (.int ch3) :: (.int ch4) :: (.int ch1) :: (.int ch2) :: (.int ch3) :: (.int (ch4.toUInt32.toUInt16.toUInt32.toInt32)) :: (.int (0 : Int32)) :: (.int (0 : Int32)) :: (.int (0 : Int32)) :: []) (.int (0 : Int32)) := Arv.set Ar507 q507 Sz507 Ng507 Hs507 Gs507 (fits_nar_char _) W507 60 rfl (Nat.le_of_ble_eq_true rfl)
            rw [(show (ch4.toUInt32.toUInt16.toUInt32.toInt32) = ch4 from gd4.2.2.2)] at V507
            have Nf510 := Fr.snoc X507 Nf504 g_b142
            have kn511 : ∀ t, own_S p e below T507 (mkF m 549 #[.val (.int p0), .val (.int p1), .val (.int p2), .val (.int p3), .val (.int p4), .val (.int p5), .val (.int ch0), .val (.int ch1), .val (.int ch2), .val (.int ch3), .val (.int ch4), .val (.int ((p5 &&& (2147483647 : Int32)) % (6 : Int32))), .unset, .unset, .unset, .unset, .unset, .unset, .unset, .unset, .unset, .unset, .unset] [(.ref b142)]) t → Gl t := fun t kt => kn506 t (st507 _ kt)
            have kn512 : ∀ t, own_S p e below T507 (mkF m 554 #[.val (.int p0), .val (.int p1), .val (.int p2), .val (.int p3), .val (.int p4), .val (.int p5), .val (.int ch0), .val (.int ch1), .val (.int ch2), .val (.int ch3), .val (.int ch4), .val (.int ((p5 &&& (2147483647 : Int32)) % (6 : Int32))), .unset, .unset, .unset, .unset, .unset, .unset, .unset, .unset, .unset, .unset, .unset] [(.int ch1), (.int (61 : Int32)), (.ref b142), (.ref b142)]) t → Gl t := fun t kt => kn511 t (by
              show own_S p e below T507 (mkF m 549 #[.val (.int p0), .val (.int p1), .val (.int p2), .val (.int p3), .val (.int p4), .val (.int p5), .val (.int ch0), .val (.int ch1), .val (.int ch2), .val (.int ch3), .val (.int ch4), .val (.int ((p5 &&& (2147483647 : Int32)) % (6 : Int32))), .unset, .unset, .unset, .unset, .unset, .unset, .unset, .unset, .unset, .unset, .unset] [(.ref b142)]) _
              refine XS.dup X507.here hx rfl (hb hby at_549) rfl rfl ?_
              show own_S p e below T507 (mkF m 550 #[.val (.int p0), .val (.int p1), .val (.int p2), .val (.int p3), .val (.int p4), .val (.int p5), .val (.int ch0), .val (.int ch1), .val (.int ch2), .val (.int ch3), .val (.int ch4), .val (.int ((p5 &&& (2147483647 : Int32)) % (6 : Int32))), .unset, .unset, .unset, .unset, .unset, .unset, .unset, .unset, .unset, .unset, .unset] [(.ref b142), (.ref b142)]) _
              refine XS.bipush X507.here hx rfl (hb hby at_550) ?_
              show own_S p e below T507 (mkF m 552 #[.val (.int p0), .val (.int p1), .val (.int p2), .val (.int p3), .val (.int p4), .val (.int p5), .val (.int ch0), .val (.int ch1), .val (.int ch2), .val (.int ch3), .val (.int ch4), .val (.int ((p5 &&& (2147483647 : Int32)) % (6 : Int32))), .unset, .unset, .unset, .unset, .unset, .unset, .unset, .unset, .unset, .unset, .unset] [(.int (61 : Int32)), (.ref b142), (.ref b142)]) _
              refine XS.iload X507.here hx rfl (hb hby at_552) rfl ?_
              exact kt)
            obtain ⟨cl513, Ar513, q513, Sz513, Ng513, Hs513, Gs513⟩ := id V507
            have hin513 : ¬ ((61 : Int32) < 0 ∨ cl513.slots.size ≤ ((61 : Int32)).toNatClampNeg) := inb_of Sz513 ⟨by decide, by decide⟩
            obtain ⟨T513, h513, X513, e513, W513, st513⟩ := stC X507 hx hZ e507 Ar513 (j := (61 : Int32)) hin513 (g := (mkF m 554 #[.val (.int p0), .val (.int p1), .val (.int p2), .val (.int p3), .val (.int p4), .val (.int p5), .val (.int ch0), .val (.int ch1), .val (.int ch2), .val (.int ch3), .val (.int ch4), .val (.int ((p5 &&& (2147483647 : Int32)) % (6 : Int32))), .unset, .unset, .unset, .unset, .unset, .unset, .unset, .unset, .unset, .unset, .unset] [(.int ch1), (.int (61 : Int32)), (.ref b142), (.ref b142)])) rfl rfl (hb hby at_554)
            have Z514 : n0 ≤ h513.size := Nat.le_trans Z508 (Keep.of_wr W513).1
            have Od515 : Old Z n0 h513 := Od509.wr W513 g_b142
            have V513 : Arv Z h513 b142 kk142 .char (64 : Int32) ((.int ch0) :: (.int ch1) :: (.int ch2) :: (.int ch3) :: (.int ch4) :: (.int ch1) :: (.int ch2) :: (.int ch3) :: (.int ch4) :: (.int ch1) :: (.int ch2) :: (.int ch3) :: (.int ch4) :: (.int ch1) :: (.int ch2) :: (.int ch3) :: (.int ch4) :: (.int ch1) :: (.int ch2) :: (.int ch3) :: (.int ch4) :: (.int ch1) :: (.int ch2) :: (.int ch3) :: (.int ch4) :: (.int ch1) :: (.int ch2) :: (.int ch3) :: (.int ch4) :: (.int ch1) :: (.int ch2) :: (.int ch3) :: (.int ch4) :: (.int ch1) :: (.int ch2) :: (.int ch3) :: (.int ch4) :: (.int ch1) :: (.int ch2) :: (.int ch3) :: (.int ch4) :: (.int ch1) :: (.int ch2) :: (.int ch3) :: (.int ch4) :: (.int ch1) :: (.int ch2) :: (.int ch3) :: (.int ch4) :: (.int ch1) :: (.int ch2) :: (.int ch3) :: (.int ch4) :: (.int ch1) :: (.int ch2) :: (.int ch3) :: (.int ch4) :: (.int ch1) :: (.int ch2) :: (.int ch3) :: (.int ch4) :: (.int (ch1.toUInt32.toUInt16.toUInt32.toInt32)) :: (.int (0 : Int32)) :: (.int (0 : Int32)) :: []) (.int (0 : Int32)) := Arv.set Ar513 q513 Sz513 Ng513 Hs513 Gs513 (fits_nar_char _) W513 61 rfl (Nat.le_of_ble_eq_true rfl)
            rw [(show (ch1.toUInt32.toUInt16.toUInt32.toInt32) = ch1 from gd1.2.2.2)] at V513
            have Nf516 := Fr.snoc X513 Nf510 g_b142
            have kn517 : ∀ t, own_S p e below T513 (mkF m 555 #[.val (.int p0), .val (.int p1), .val (.int p2), .val (.int p3), .val (.int p4), .val (.int p5), .val (.int ch0), .val (.int ch1), .val (.int ch2), .val (.int ch3), .val (.int ch4), .val (.int ((p5 &&& (2147483647 : Int32)) % (6 : Int32))), .unset, .unset, .unset, .unset, .unset, .unset, .unset, .unset, .unset, .unset, .unset] [(.ref b142)]) t → Gl t := fun t kt => kn512 t (st513 _ kt)
            have kn518 : ∀ t, own_S p e below T513 (mkF m 560 #[.val (.int p0), .val (.int p1), .val (.int p2), .val (.int p3), .val (.int p4), .val (.int p5), .val (.int ch0), .val (.int ch1), .val (.int ch2), .val (.int ch3), .val (.int ch4), .val (.int ((p5 &&& (2147483647 : Int32)) % (6 : Int32))), .unset, .unset, .unset, .unset, .unset, .unset, .unset, .unset, .unset, .unset, .unset] [(.int ch2), (.int (62 : Int32)), (.ref b142), (.ref b142)]) t → Gl t := fun t kt => kn517 t (by
              show own_S p e below T513 (mkF m 555 #[.val (.int p0), .val (.int p1), .val (.int p2), .val (.int p3), .val (.int p4), .val (.int p5), .val (.int ch0), .val (.int ch1), .val (.int ch2), .val (.int ch3), .val (.int ch4), .val (.int ((p5 &&& (2147483647 : Int32)) % (6 : Int32))), .unset, .unset, .unset, .unset, .unset, .unset, .unset, .unset, .unset, .unset, .unset] [(.ref b142)]) _
              refine XS.dup X513.here hx rfl (hb hby at_555) rfl rfl ?_
              show own_S p e below T513 (mkF m 556 #[.val (.int p0), .val (.int p1), .val (.int p2), .val (.int p3), .val (.int p4), .val (.int p5), .val (.int ch0), .val (.int ch1), .val (.int ch2), .val (.int ch3), .val (.int ch4), .val (.int ((p5 &&& (2147483647 : Int32)) % (6 : Int32))), .unset, .unset, .unset, .unset, .unset, .unset, .unset, .unset, .unset, .unset, .unset] [(.ref b142), (.ref b142)]) _
              refine XS.bipush X513.here hx rfl (hb hby at_556) ?_
              show own_S p e below T513 (mkF m 558 #[.val (.int p0), .val (.int p1), .val (.int p2), .val (.int p3), .val (.int p4), .val (.int p5), .val (.int ch0), .val (.int ch1), .val (.int ch2), .val (.int ch3), .val (.int ch4), .val (.int ((p5 &&& (2147483647 : Int32)) % (6 : Int32))), .unset, .unset, .unset, .unset, .unset, .unset, .unset, .unset, .unset, .unset, .unset] [(.int (62 : Int32)), (.ref b142), (.ref b142)]) _
              refine XS.iload X513.here hx rfl (hb hby at_558) rfl ?_
              exact kt)
            obtain ⟨cl519, Ar519, q519, Sz519, Ng519, Hs519, Gs519⟩ := id V513
            have hin519 : ¬ ((62 : Int32) < 0 ∨ cl519.slots.size ≤ ((62 : Int32)).toNatClampNeg) := inb_of Sz519 ⟨by decide, by decide⟩
            obtain ⟨T519, h519, X519, e519, W519, st519⟩ := stC X513 hx hZ e513 Ar519 (j := (62 : Int32)) hin519 (g := (mkF m 560 #[.val (.int p0), .val (.int p1), .val (.int p2), .val (.int p3), .val (.int p4), .val (.int p5), .val (.int ch0), .val (.int ch1), .val (.int ch2), .val (.int ch3), .val (.int ch4), .val (.int ((p5 &&& (2147483647 : Int32)) % (6 : Int32))), .unset, .unset, .unset, .unset, .unset, .unset, .unset, .unset, .unset, .unset, .unset] [(.int ch2), (.int (62 : Int32)), (.ref b142), (.ref b142)])) rfl rfl (hb hby at_560)
            have Z520 : n0 ≤ h519.size := Nat.le_trans Z514 (Keep.of_wr W519).1
            have Od521 : Old Z n0 h519 := Od515.wr W519 g_b142
            have V519 : Arv Z h519 b142 kk142 .char (64 : Int32) ((.int ch0) :: (.int ch1) :: (.int ch2) :: (.int ch3) :: (.int ch4) :: (.int ch1) :: (.int ch2) :: (.int ch3) :: (.int ch4) :: (.int ch1) :: (.int ch2) :: (.int ch3) :: (.int ch4) :: (.int ch1) :: (.int ch2) :: (.int ch3) :: (.int ch4) :: (.int ch1) :: (.int ch2) :: (.int ch3) :: (.int ch4) :: (.int ch1) :: (.int ch2) :: (.int ch3) :: (.int ch4) :: (.int ch1) :: (.int ch2) :: (.int ch3) :: (.int ch4) :: (.int ch1) :: (.int ch2) :: (.int ch3) :: (.int ch4) :: (.int ch1) :: (.int ch2) :: (.int ch3) :: (.int ch4) :: (.int ch1) :: (.int ch2) :: (.int ch3) :: (.int ch4) :: (.int ch1) :: (.int ch2) :: (.int ch3) :: (.int ch4) :: (.int ch1) :: (.int ch2) :: (.int ch3) :: (.int ch4) :: (.int ch1) :: (.int ch2) :: (.int ch3) :: (.int ch4) :: (.int ch1) :: (.int ch2) :: (.int ch3) :: (.int ch4) :: (.int ch1) :: (.int ch2) :: (.int ch3) :: (.int ch4) :: (.int ch1) :: (.int (ch2.toUInt32.toUInt16.toUInt32.toInt32)) :: (.int (0 : Int32)) :: []) (.int (0 : Int32)) := Arv.set Ar519 q519 Sz519 Ng519 Hs519 Gs519 (fits_nar_char _) W519 62 rfl (Nat.le_of_ble_eq_true rfl)
            rw [(show (ch2.toUInt32.toUInt16.toUInt32.toInt32) = ch2 from gd2.2.2.2)] at V519
            have Nf522 := Fr.snoc X519 Nf516 g_b142
            have kn523 : ∀ t, own_S p e below T519 (mkF m 561 #[.val (.int p0), .val (.int p1), .val (.int p2), .val (.int p3), .val (.int p4), .val (.int p5), .val (.int ch0), .val (.int ch1), .val (.int ch2), .val (.int ch3), .val (.int ch4), .val (.int ((p5 &&& (2147483647 : Int32)) % (6 : Int32))), .unset, .unset, .unset, .unset, .unset, .unset, .unset, .unset, .unset, .unset, .unset] [(.ref b142)]) t → Gl t := fun t kt => kn518 t (st519 _ kt)
            have kn524 : ∀ t, own_S p e below T519 (mkF m 566 #[.val (.int p0), .val (.int p1), .val (.int p2), .val (.int p3), .val (.int p4), .val (.int p5), .val (.int ch0), .val (.int ch1), .val (.int ch2), .val (.int ch3), .val (.int ch4), .val (.int ((p5 &&& (2147483647 : Int32)) % (6 : Int32))), .unset, .unset, .unset, .unset, .unset, .unset, .unset, .unset, .unset, .unset, .unset] [(.int ch3), (.int (63 : Int32)), (.ref b142), (.ref b142)]) t → Gl t := fun t kt => kn523 t (by
              show own_S p e below T519 (mkF m 561 #[.val (.int p0), .val (.int p1), .val (.int p2), .val (.int p3), .val (.int p4), .val (.int p5), .val (.int ch0), .val (.int ch1), .val (.int ch2), .val (.int ch3), .val (.int ch4), .val (.int ((p5 &&& (2147483647 : Int32)) % (6 : Int32))), .unset, .unset, .unset, .unset, .unset, .unset, .unset, .unset, .unset, .unset, .unset] [(.ref b142)]) _
              refine XS.dup X519.here hx rfl (hb hby at_561) rfl rfl ?_
              show own_S p e below T519 (mkF m 562 #[.val (.int p0), .val (.int p1), .val (.int p2), .val (.int p3), .val (.int p4), .val (.int p5), .val (.int ch0), .val (.int ch1), .val (.int ch2), .val (.int ch3), .val (.int ch4), .val (.int ((p5 &&& (2147483647 : Int32)) % (6 : Int32))), .unset, .unset, .unset, .unset, .unset, .unset, .unset, .unset, .unset, .unset, .unset] [(.ref b142), (.ref b142)]) _
              refine XS.bipush X519.here hx rfl (hb hby at_562) ?_
              show own_S p e below T519 (mkF m 564 #[.val (.int p0), .val (.int p1), .val (.int p2), .val (.int p3), .val (.int p4), .val (.int p5), .val (.int ch0), .val (.int ch1), .val (.int ch2), .val (.int ch3), .val (.int ch4), .val (.int ((p5 &&& (2147483647 : Int32)) % (6 : Int32))), .unset, .unset, .unset, .unset, .unset, .unset, .unset, .unset, .unset, .unset, .unset] [(.int (63 : Int32)), (.ref b142), (.ref b142)]) _
              refine XS.iload X519.here hx rfl (hb hby at_564) rfl ?_
              exact kt)
            obtain ⟨cl525, Ar525, q525, Sz525, Ng525, Hs525, Gs525⟩ := id V519
            have hin525 : ¬ ((63 : Int32) < 0 ∨ cl525.slots.size ≤ ((63 : Int32)).toNatClampNeg) := inb_of Sz525 ⟨by decide, by decide⟩
            obtain ⟨T525, h525, X525, e525, W525, st525⟩ := stC X519 hx hZ e519 Ar525 (j := (63 : Int32)) hin525 (g := (mkF m 566 #[.val (.int p0), .val (.int p1), .val (.int p2), .val (.int p3), .val (.int p4), .val (.int p5), .val (.int ch0), .val (.int ch1), .val (.int ch2), .val (.int ch3), .val (.int ch4), .val (.int ((p5 &&& (2147483647 : Int32)) % (6 : Int32))), .unset, .unset, .unset, .unset, .unset, .unset, .unset, .unset, .unset, .unset, .unset] [(.int ch3), (.int (63 : Int32)), (.ref b142), (.ref b142)])) rfl rfl (hb hby at_566)
            have Z526 : n0 ≤ h525.size := Nat.le_trans Z520 (Keep.of_wr W525).1
            have Od527 : Old Z n0 h525 := Od521.wr W525 g_b142
            have V525 : Arv Z h525 b142 kk142 .char (64 : Int32) ((.int ch0) :: (.int ch1) :: (.int ch2) :: (.int ch3) :: (.int ch4) :: (.int ch1) :: (.int ch2) :: (.int ch3) :: (.int ch4) :: (.int ch1) :: (.int ch2) :: (.int ch3) :: (.int ch4) :: (.int ch1) :: (.int ch2) :: (.int ch3) :: (.int ch4) :: (.int ch1) :: (.int ch2) :: (.int ch3) :: (.int ch4) :: (.int ch1) :: (.int ch2) :: (.int ch3) :: (.int ch4) :: (.int ch1) :: (.int ch2) :: (.int ch3) :: (.int ch4) :: (.int ch1) :: (.int ch2) :: (.int ch3) :: (.int ch4) :: (.int ch1) :: (.int ch2) :: (.int ch3) :: (.int ch4) :: (.int ch1) :: (.int ch2) :: (.int ch3) :: (.int ch4) :: (.int ch1) :: (.int ch2) :: (.int ch3) :: (.int ch4) :: (.int ch1) :: (.int ch2) :: (.int ch3) :: (.int ch4) :: (.int ch1) :: (.int ch2) :: (.int ch3) :: (.int ch4) :: (.int ch1) :: (.int ch2) :: (.int ch3) :: (.int ch4) :: (.int ch1) :: (.int ch2) :: (.int ch3) :: (.int ch4) :: (.int ch1) :: (.int ch2) :: (.int (ch3.toUInt32.toUInt16.toUInt32.toInt32)) :: []) (.int (0 : Int32)) := Arv.set Ar525 q525 Sz525 Ng525 Hs525 Gs525 (fits_nar_char _) W525 63 rfl (Nat.le_of_ble_eq_true rfl)
            rw [(show (ch3.toUInt32.toUInt16.toUInt32.toInt32) = ch3 from gd3.2.2.2)] at V525
            have Nf528 := Fr.snoc X525 Nf522 g_b142
            have kn529 : ∀ t, own_S p e below T525 (mkF m 567 #[.val (.int p0), .val (.int p1), .val (.int p2), .val (.int p3), .val (.int p4), .val (.int p5), .val (.int ch0), .val (.int ch1), .val (.int ch2), .val (.int ch3), .val (.int ch4), .val (.int ((p5 &&& (2147483647 : Int32)) % (6 : Int32))), .unset, .unset, .unset, .unset, .unset, .unset, .unset, .unset, .unset, .unset, .unset] [(.ref b142)]) t → Gl t := fun t kt => kn524 t (st525 _ kt)
            have kn530 : ∀ t, own_S p e below T525 (mkF m 569 #[.val (.int p0), .val (.int p1), .val (.int p2), .val (.int p3), .val (.int p4), .val (.int p5), .val (.int ch0), .val (.int ch1), .val (.int ch2), .val (.int ch3), .val (.int ch4), .val (.int ((p5 &&& (2147483647 : Int32)) % (6 : Int32))), .val (.ref b142), .unset, .unset, .unset, .unset, .unset, .unset, .unset, .unset, .unset, .unset] []) t → Gl t := fun t kt => kn529 t (by
              show own_S p e below T525 (mkF m 567 #[.val (.int p0), .val (.int p1), .val (.int p2), .val (.int p3), .val (.int p4), .val (.int p5), .val (.int ch0), .val (.int ch1), .val (.int ch2), .val (.int ch3), .val (.int ch4), .val (.int ((p5 &&& (2147483647 : Int32)) % (6 : Int32))), .unset, .unset, .unset, .unset, .unset, .unset, .unset, .unset, .unset, .unset, .unset] [(.ref b142)]) _
              refine XS.astore X525.here hx rfl (hb hby at_567) rfl rfl (l' := #[.val (.int p0), .val (.int p1), .val (.int p2), .val (.int p3), .val (.int p4), .val (.int p5), .val (.int ch0), .val (.int ch1), .val (.int ch2), .val (.int ch3), .val (.int ch4), .val (.int ((p5 &&& (2147483647 : Int32)) % (6 : Int32))), .val (.ref b142), .unset, .unset, .unset, .unset, .unset, .unset, .unset, .unset, .unset, .unset]) rfl ?_
              exact kt)
            obtain ⟨s2, o2, t1, t2, t3, t4⟩ := tl (n0 := n0) p0 p1 p2 p3 p4 p5 G1 G3 ch0 ch1 ch2 ch3 ch4 _ b142 kk142 (ch0 :: ch1 :: ch2 :: ch3 :: ch4 :: ch1 :: ch2 :: ch3 :: ch4 :: ch1 :: ch2 :: ch3 :: ch4 :: ch1 :: ch2 :: ch3 :: ch4 :: ch1 :: ch2 :: ch3 :: ch4 :: ch1 :: ch2 :: ch3 :: ch4 :: ch1 :: ch2 :: ch3 :: ch4 :: ch1 :: ch2 :: ch3 :: ch4 :: ch1 :: ch2 :: ch3 :: ch4 :: ch1 :: ch2 :: ch3 :: ch4 :: ch1 :: ch2 :: ch3 :: ch4 :: ch1 :: ch2 :: ch3 :: ch4 :: ch1 :: ch2 :: ch3 :: ch4 :: ch1 :: ch2 :: ch3 :: ch4 :: ch1 :: ch2 :: ch3 :: ch4 :: ch1 :: ch2 :: ch3 :: []) (X525.mono (by decide) (by decide)) hx hZ hw hby hml hown Bd.returns (BodyLoose.notSynchronized Bd) e525 Nf528 Z526 V525 (Nat.le_of_ble_eq_true rfl) (Nat.le_of_ble_eq_true rfl) (own_fa gd0 (own_fa gd1 (own_fa gd2 (own_fa gd3 (own_fa gd4 (own_fa gd1 (own_fa gd2 (own_fa gd3 (own_fa gd4 (own_fa gd1 (own_fa gd2 (own_fa gd3 (own_fa gd4 (own_fa gd1 (own_fa gd2 (own_fa gd3 (own_fa gd4 (own_fa gd1 (own_fa gd2 (own_fa gd3 (own_fa gd4 (own_fa gd1 (own_fa gd2 (own_fa gd3 (own_fa gd4 (own_fa gd1 (own_fa gd2 (own_fa gd3 (own_fa gd4 (own_fa gd1 (own_fa gd2 (own_fa gd3 (own_fa gd4 (own_fa gd1 (own_fa gd2 (own_fa gd3 (own_fa gd4 (own_fa gd1 (own_fa gd2 (own_fa gd3 (own_fa gd4 (own_fa gd1 (own_fa gd2 (own_fa gd3 (own_fa gd4 (own_fa gd1 (own_fa gd2 (own_fa gd3 (own_fa gd4 (own_fa gd1 (own_fa gd2 (own_fa gd3 (own_fa gd4 (own_fa gd1 (own_fa gd2 (own_fa gd3 (own_fa gd4 (own_fa gd1 (own_fa gd2 (own_fa gd3 (own_fa gd4 (own_fa gd1 (own_fa gd2 (own_fa gd3 own_f0)))))))))))))))))))))))))))))))))))))))))))))))))))))))))))))))) rfl gd0 gL0 Od527 O2 P5 O4 rG3
            exact ⟨s2, o2, hGl _ (kn530 _ t1), t2, t3, t4⟩

set_option maxRecDepth 65536 in
set_option maxHeartbeats 40000000 in
theorem comes_1 {Post : Tables → Env → Array Value → State → Outcome → State → Prop} (hpost : ∀ tb e args s v u, (limb_1_1.after args s (.returned v) u = true ∧ limb_1_2.after args s (.returned v) u = true ∧ True) → ReturnedEndW s (.returned v) u (Jvm.fieldLocs frame_1_writes args s ++ Jvm.arrayLocs frame_1_arrays args s ++ Jvm.staticLocs frame_1_statics s) 32 1536 → Post tb e args s (.returned v) u) :
    ArmFor flags0 classFile x code maxLocals ret World_1 tables_1 room_1 Calls_1 rest_1 Pre_1 Post := by
  intro l hfl _ _ p e ha hc hk s m args below hf hA hF happ hP
  obtain ⟨hcalls, hrest, hpre⟩ := hP
  obtain ⟨-, -, -, hnamed, -, -, -, hat⟩ := (Spec.applies_iff hf).mp happ
  obtain ⟨hg, hn⟩ := and_e (Cond.before_iff.mp (show (Jvm.Cond.and given_1 narrow_1).before args s = true from hpre))
  obtain ⟨gc, gr0⟩ := and_e hg
  obtain ⟨ga0, gr1⟩ := and_e gr0
  obtain ⟨ga1, gr2⟩ := and_e gr1
  obtain ⟨ga2, gr3⟩ := and_e gr2
  obtain ⟨ga3, gr4⟩ := and_e gr3
  obtain ⟨ga4, gr5⟩ := and_e gr4
  obtain ⟨w0, w1, w2, w3, w4, w5, rfl⟩ : ∃ w0 w1 w2 w3 w4 w5 : Value, args = #[w0, w1, w2, w3, w4, w5] := by
    have hs : args.size = 6 := by simpa [Cond.value, given_1] using gc
    obtain ⟨L⟩ := args
    match L, hs with
    | [w0, w1, w2, w3, w4, w5], _ => exact ⟨w0, w1, w2, w3, w4, w5, rfl⟩
  have hw := fun d (hd : d ∈ tables_1) => atoms_spec (ws := Jvm.Cond.code x code maxLocals ret :: tables_1) hat d (List.mem_cons_of_mem _ hd)
  have hfit : Fit s := fun {y c} hc i hi => by
    obtain ⟨ha, rfl⟩ := Array.getElem?_eq_some_iff.mp hc
    have q := List.all_eq_true.mp ((Array.all_eq_true_iff_forall_mem.mp hF) _ (Array.getElem_mem ha)) i (List.mem_range.mpr hi)
    simpa [Array.getElem?_eq_getElem hi] using q
  obtain ⟨hsets, hown0⟩ := atoms_of _ (rest_1_c_eq ▸ (show rest_1_c.before _ s = true from hrest))
  have hr0 := Cond.before_iff.mp hown0
  obtain ⟨i0, ei0⟩ := is_v ga0
  obtain rfl : w0 = (.int i0) := Option.some.inj ei0
  obtain ⟨i1, ei1⟩ := is_v ga1
  obtain rfl : w1 = (.int i1) := Option.some.inj ei1
  obtain ⟨i2, ei2⟩ := is_v ga2
  obtain rfl : w2 = (.int i2) := Option.some.inj ei2
  obtain ⟨i3, ei3⟩ := is_v ga3
  obtain rfl : w3 = (.int i3) := Option.some.inj ei3
  obtain ⟨i4, ei4⟩ := is_v ga4
  obtain rfl : w4 = (.int i4) := Option.some.inj ei4
  obtain ⟨i5, ei5⟩ := is_v gr5
  obtain rfl : w5 = (.int i5) := Option.some.inj ei5
  have n5 := not_v (Cond.before_iff.mp (hsets _ (List.mem_of_getElem? (i := 2) rfl)))
  obtain ⟨G1, e10⟩ := is_v (Cond.before_iff.mp (hsets _ (List.mem_of_getElem? (i := 1) rfl)))
  have S12 : Sta s s.heap "java/lang/String" "COMPACT_STRINGS" "Z" (.int G1) := Sta.start e10 (Or.inl (hsets _ (List.mem_of_getElem? (i := 0) rfl)))
  have c17 : ¬ (G1 = (0 : Int32)) := gotF (Cond.eq_ints e10 (Term.int_eval (0))) n5
  obtain ⟨G3, e14, r15⟩ := isR_v (Cond.before_iff.mp (hsets _ (List.mem_of_getElem? (i := 8) rfl)))
  have S16 : Sta s s.heap "jdk/internal/util/Preconditions" "SIOOBE_FORMATTER" "Ljava/util/function/BiFunction;" G3 := Sta.start e14 (Or.inl (hsets _ (List.mem_of_getElem? (i := 7) rfl)))
  obtain ⟨n, o, h1, h2, h3, _, L, rfl, ⟨rfl, N⟩, hq⟩ := rm0 l s _ hw tables_1 i0 i1 i2 i3 i4 i5 G1 G3 s.heap s.heap.size (Nat.le_refl _) (Old.start s) S12 c17 S16 r15 p e ha hc hk s m _ below hf ((Spec.applies_iff_loose hf).mp happ).1 ⟨rfl, State.Warmed39.refl s, rfl⟩ trivial
  refine ⟨n, _, h1, h2, h3, hpost _ _ _ _ _ _ ⟨Cond.after_iff.mpr rfl, Cond.after_iff.mpr (eq_i res_at (Term.int_eval (1)) rfl), trivial⟩ ⟨hq.1, hq.2.1, hq.2.2.1, (hq.2.2.2.sift fun y hy => Or.inr (N y hy)).mono (by decide) (by decide)⟩⟩
theorem main_1_1 : Claimed_1_1 := comes_1 fun _ _ _ _ _ _ h hF => ⟨h.1, hF⟩
theorem main_1_2 : Claimed_1_2 := comes_1 fun _ _ _ _ _ _ h hF => ⟨h.2.1, hF⟩

end Jvm.Pilot.@@N@@
namespace Jvm.Pilot.@@N@@
open Jvm Jvm.ClassFile Sem Op Lib Jvm.Free Jvm.Stand Jvm.Pilot.@@N@@.Jvm.D
/-! MADE BY PROGRAM (witnessworld.py) out of the Statement's table words and the real class files: 21 classes; the members and pool entries that the words name. The judged class is class 1, her method 3. -/
namespace start1
open Jvm.ClassFile
def u (s : String) : CpInfo := .utf8 (stringToUtf16 s)
/-- a pool by its gaps: so many unusable entries, then the entry; so many at the end -/
def gap : Nat → List CpInfo → List CpInfo
  | 0, r => r
  | n + 1, r => .unusable :: gap n r
def poolList (es : List (Nat × CpInfo)) (last : Nat) : List CpInfo := es.foldr (fun e r => gap e.1 (e.2 :: r)) (gap last [])
def pool (es : List (Nat × CpInfo)) (last : Nat) : Array CpInfo := ⟨poolList es last⟩
def fileOf (pool : Array CpInfo) (this : Nat) (attrs : Array Attribute := #[]) (ms : Array MethodInfo := #[]) (fl : Nat := 33) (sup : Nat := 0) (ifs : Array Nat := #[]) (fds : Array FieldInfo := #[]) : ClassFile where
  minorVersion := 0
  majorVersion := 65
  constantPool := pool
  accessFlags := fl
  thisClass := this
  superClass := sup
  interfaces := ifs
  fields := fds
  methods := ms
  attributes := attrs
def plain (name : String) (sup : Option ClassId) : Class where
  name := name
  kind := .ordinary
  loader := none
  accessFlags := 33
  super := sup
  interfaces := #[]
  cf := none
  fields := #[]
  methods := #[]
  instanceTypes := #[]
  staticTypes := #[]
  resolved := #[]
  callSites := []
  init := .initialized
  statics := none
  mirror := none

def pool0 : Array CpInfo := pool [(5, u "<init>"), (0, u "()V"), (1, .class_ 10), (1, u "java/lang/Object")] 113

def k0c0 : Code := { maxStack := 0, maxLocals := 1, code := object_method_1_code, exceptionTable := #[], attributes := #[] }
def k0m0 : Method := { name := "<init>", desc := "()V", sig := { parameters := [], returnType := none }, accessFlags := 1, code := some k0c0 }
/-- java/lang/Object -/
def k0 : Class := { plain "java/lang/Object" none with
  accessFlags := 33
  interfaces := #[]
  cf := some (fileOf pool0 8 #[] #[{ accessFlags := 1, nameIndex := 5, descriptorIndex := 6, attributes := #[] }] 33 0 #[] #[])
  fields := #[]
  methods := #[k0m0]
  instanceTypes := #[]
  staticTypes := #[]
  resolved := Array.replicate 124 none
  statics := none }

def pool1 : Array CpInfo := pool [(2, .class_ 4), (1, u "java/lang/Object"), (0, u "<init>"), (0, u "()V"), (0, .integer 2147483647), (0, .methodref 9 10), (0, .class_ 11), (0, .nameAndType 12 13), (0, u "com/example/dual_delivery/dualdelivery/model/ResourceNameOfPinLaw"), (0, u "letter"), (0, u "(I)C"), (0, .methodref 9 15), (0, .nameAndType 16 13), (0, u "other"), (0, .class_ 18), (0, u "java/lang/String"), (0, .methodref 17 20), (0, .nameAndType 5 21), (0, u "([C)V"), (0, .methodref 17 23), (0, .nameAndType 24 25), (0, u "valueOf"), (0, u "(C)Ljava/lang/String;"), (0, .methodref 27 28), (0, .class_ 29), (0, .nameAndType 30 31), (0, u "com/example/dual_delivery/dualdelivery/model/ResourceName"), (0, u "of"), (0, u "(Ljava/lang/String;)Lcom/example/dual_delivery/dualdelivery/model/ResourceName;"), (0, .methodref 27 33), (0, .nameAndType 34 35), (0, u "toString"), (0, u "()Ljava/lang/String;"), (0, .methodref 17 37), (0, .nameAndType 38 39), (0, u "equals"), (0, u "(Ljava/lang/Object;)Z"), (0, .methodref 27 37), (3, u "law"), (0, u "(IIIIII)Z")] 4

def k1m0 : Method := { name := "<init>", desc := "()V", sig := { parameters := [], returnType := none }, accessFlags := 1, code := none }
def k1c1 : Code := { maxStack := 3, maxLocals := 2, code := method_2_code, exceptionTable := #[], attributes := #[] }
def k1m1 : Method := { name := "letter", desc := "(I)C", sig := { parameters := [.int], returnType := some .char }, accessFlags := 10, code := some k1c1 }
def k1c2 : Code := { maxStack := 3, maxLocals := 2, code := method_3_code, exceptionTable := #[], attributes := #[] }
def k1m2 : Method := { name := "other", desc := "(I)C", sig := { parameters := [.int], returnType := some .char }, accessFlags := 10, code := some k1c2 }
def k1c3 : Code := { maxStack := 4, maxLocals := 23, code := code, exceptionTable := #[], attributes := #[] }
def k1m3 : Method := { name := "law", desc := "(IIIIII)Z", sig := { parameters := [.int, .int, .int, .int, .int, .int], returnType := some .boolean }, accessFlags := 9, code := some k1c3 }
/-- com/example/dual_delivery/dualdelivery/model/ResourceNameOfPinLaw -/
def k1 : Class := { plain "com/example/dual_delivery/dualdelivery/model/ResourceNameOfPinLaw" (some 0) with
  accessFlags := 49
  interfaces := #[]
  cf := some (fileOf pool1 9 #[] #[{ accessFlags := 1, nameIndex := 5, descriptorIndex := 6, attributes := #[] }, { accessFlags := 10, nameIndex := 12, descriptorIndex := 13, attributes := #[] }, { accessFlags := 10, nameIndex := 16, descriptorIndex := 13, attributes := #[] }, { accessFlags := 9, nameIndex := 44, descriptorIndex := 45, attributes := #[] }] 49 2 #[] #[])
  fields := #[]
  methods := #[k1m0, k1m1, k1m2, k1m3]
  instanceTypes := #[]
  staticTypes := #[]
  resolved := Array.replicate 50 none
  statics := none }

def pool2 : Array CpInfo := pool [(1, .class_ 2), (0, u "java/io/Serializable"), (0, .class_ 4), (0, u "java/lang/Object")] 2

/-- java/io/Serializable -/
def k2 : Class := { plain "java/io/Serializable" (some 0) with
  accessFlags := 1537
  interfaces := #[]
  cf := some (fileOf pool2 1 #[] #[] 1537 3 #[] #[])
  fields := #[]
  methods := #[]
  instanceTypes := #[]
  staticTypes := #[]
  resolved := Array.replicate 7 none
  statics := none }

def pool3 : Array CpInfo := pool [(1, .class_ 2), (0, u "java/lang/Comparable"), (0, .class_ 4), (0, u "java/lang/Object")] 7

/-- java/lang/Comparable -/
def k3 : Class := { plain "java/lang/Comparable" (some 0) with
  accessFlags := 1537
  interfaces := #[]
  cf := some (fileOf pool3 1 #[] #[] 1537 3 #[] #[])
  fields := #[]
  methods := #[]
  instanceTypes := #[]
  staticTypes := #[]
  resolved := Array.replicate 12 none
  statics := none }

def pool4 : Array CpInfo := pool [(2, .class_ 4), (1, u "java/lang/CharSequence"), (42, .class_ 48), (0, u "java/lang/CharSequence$1CodePointIterator"), (10, .class_ 60), (0, u "java/lang/CharSequence$1CharIterator"), (5, .class_ 67), (0, u "java/lang/Object")] 63

/-- java/lang/CharSequence -/
def k4 : Class := { plain "java/lang/CharSequence" (some 0) with
  accessFlags := 1537
  interfaces := #[]
  cf := some (fileOf pool4 2 #[.nestMembers #[47, 59]] #[] 1537 66 #[] #[])
  fields := #[]
  methods := #[]
  instanceTypes := #[]
  staticTypes := #[]
  resolved := Array.replicate 131 none
  statics := none }

def pool5 : Array CpInfo := pool [(1, .class_ 2), (0, u "java/lang/constant/Constable"), (0, .class_ 4), (0, u "java/lang/Object")] 6

/-- java/lang/constant/Constable -/
def k5 : Class := { plain "java/lang/constant/Constable" (some 0) with
  accessFlags := 1537
  interfaces := #[]
  cf := some (fileOf pool5 1 #[] #[] 1537 3 #[] #[])
  fields := #[]
  methods := #[]
  instanceTypes := #[]
  staticTypes := #[]
  resolved := Array.replicate 11 none
  statics := none }

def pool6 : Array CpInfo := pool [(1, .class_ 2), (0, u "java/lang/constant/ConstantDesc"), (0, .class_ 4), (0, u "java/lang/Object")] 32

/-- java/lang/constant/ConstantDesc -/
def k6 : Class := { plain "java/lang/constant/ConstantDesc" (some 0) with
  accessFlags := 1537
  interfaces := #[]
  cf := some (fileOf pool6 1 #[] #[] 1537 3 #[] #[])
  fields := #[]
  methods := #[]
  instanceTypes := #[]
  staticTypes := #[]
  resolved := Array.replicate 37 none
  statics := none }

def pool7 : Array CpInfo := pool [(1, .methodref 2 3), (0, .class_ 4), (0, .nameAndType 5 6), (0, u "java/lang/Object"), (0, u "<init>"), (0, u "()V"), (2, .fieldref 10 11), (0, .class_ 12), (0, .nameAndType 13 14), (0, u "java/lang/String"), (0, u "value"), (0, u "[B"), (0, .fieldref 10 16), (0, .nameAndType 17 18), (0, u "coder"), (0, u "B"), (2, u "hash"), (0, u "I"), (2, u "hashIsZero"), (0, u "Z"), (0, .methodref 10 28), (0, .nameAndType 5 29), (0, u "([CIILjava/lang/Void;)V"), (8, .fieldref 10 39), (0, .nameAndType 40 26), (0, u "COMPACT_STRINGS"), (1, .class_ 44), (1, u "java/lang/StringUTF16"), (0, u "compress"), (1, .methodref 42 48), (0, .nameAndType 49 50), (0, u "coderFromArrayLen"), (0, u "([BI)B"), (2, u "toBytes"), (53, .class_ 109), (1, u "java/lang/StringLatin1"), (32, u "()Z"), (34, .methodref 42 178), (0, .nameAndType 45 179), (0, u "([CII)[B"), (29, .methodref 10 210), (0, .nameAndType 5 211), (0, u "([BB)V"), (122, u "()I"), (0, .methodref 10 336), (0, .nameAndType 17 337), (0, u "()B"), (25, u "([BI)C"), (5, u "(C)Z"), (21, u "(II)V"), (35, u "(I)C"), (64, .methodref 10 493), (0, .nameAndType 494 142), (0, u "isLatin1"), (0, .methodref 107 496), (0, .nameAndType 497 363), (0, u "charAt"), (3, u "checkIndex"), (5, u "length"), (33, .methodref 107 542), (0, .nameAndType 543 544), (0, u "equals"), (0, u "([B[B)Z"), (28, u "(Ljava/lang/Object;)Z"), (1, .class_ 576), (0, u "java/lang/CharSequence"), (22, u "CASE_INSENSITIVE_ORDER"), (0, u "Ljava/util/Comparator;"), (91, u "isEmpty"), (89, u "valueOf"), (0, u "(C)Ljava/lang/String;"), (226, u "([C)V"), (4, .methodref 107 1016), (0, .nameAndType 1017 369), (0, u "canEncode"), (0, .methodref 107 1019), (0, .nameAndType 53 1020), (0, u "(C)[B"), (32, .fieldref 1054 1055), (0, .class_ 1056), (0, .nameAndType 1057 1058), (0, u "jdk/internal/util/Preconditions"), (0, u "SIOOBE_FORMATTER"), (0, u "Ljava/util/function/BiFunction;"), (0, .methodref 1054 1060), (0, .nameAndType 501 1061), (0, u "(IILjava/util/function/BiFunction;)I"), (39, u "serialPersistentFields"), (0, u "[Ljava/io/ObjectStreamField;"), (0, .class_ 1104), (0, u "java/lang/String$CaseInsensitiveComparator"), (1, .class_ 1107), (0, u "java/io/Serializable"), (0, .class_ 1109), (0, u "java/lang/Comparable"), (0, .class_ 1111), (0, u "java/lang/constant/Constable"), (0, .class_ 1113), (0, u "java/lang/constant/ConstantDesc"), (2, u "serialVersionUID"), (0, u "J"), (3, u "REPL"), (0, u "C"), (2, u "LATIN1"), (1, u "UTF16")] 323

def k7m0 : Method := { name := "<init>", desc := "()V", sig := { parameters := [], returnType := none }, accessFlags := 1, code := none }
def k7c1 : Code := { maxStack := 5, maxLocals := 2, code := jdk_42_method_3_code, exceptionTable := #[], attributes := #[] }
def k7m1 : Method := { name := "<init>", desc := "([C)V", sig := { parameters := [(.array .char)], returnType := none }, accessFlags := 1, code := some k7c1 }
def k7c2 : Code := { maxStack := 2, maxLocals := 1, code := jdk_42_method_54_code, exceptionTable := #[], attributes := #[] }
def k7m2 : Method := { name := "length", desc := "()I", sig := { parameters := [], returnType := some .int }, accessFlags := 1, code := some k7c2 }
def k7c3 : Code := { maxStack := 1, maxLocals := 1, code := jdk_42_method_55_code, exceptionTable := #[], attributes := #[] }
def k7m3 : Method := { name := "isEmpty", desc := "()Z", sig := { parameters := [], returnType := some .boolean }, accessFlags := 1, code := some k7c3 }
def k7c4 : Code := { maxStack := 2, maxLocals := 2, code := jdk_42_method_56_code, exceptionTable := #[], attributes := #[] }
def k7m4 : Method := { name := "charAt", desc := "(I)C", sig := { parameters := [.int], returnType := some .char }, accessFlags := 1, code := some k7c4 }
def k7c5 : Code := { maxStack := 2, maxLocals := 3, code := jdk_42_method_66_code, exceptionTable := #[], attributes := #[] }
def k7m5 : Method := { name := "equals", desc := "(Ljava/lang/Object;)Z", sig := { parameters := [(.object "java/lang/Object")], returnType := some .boolean }, accessFlags := 1, code := some k7c5 }
def k7c6 : Code := { maxStack := 4, maxLocals := 1, code := jdk_42_method_139_code, exceptionTable := #[], attributes := #[] }
def k7m6 : Method := { name := "valueOf", desc := "(C)Ljava/lang/String;", sig := { parameters := [.char], returnType := some (.object "java/lang/String") }, accessFlags := 9, code := some k7c6 }
def k7c7 : Code := { maxStack := 4, maxLocals := 6, code := jdk_42_method_149_code, exceptionTable := #[], attributes := #[] }
def k7m7 : Method := { name := "<init>", desc := "([CIILjava/lang/Void;)V", sig := { parameters := [(.array .char), .int, .int, (.object "java/lang/Void")], returnType := none }, accessFlags := 2, code := some k7c7 }
def k7c8 : Code := { maxStack := 2, maxLocals := 3, code := jdk_42_method_151_code, exceptionTable := #[], attributes := #[] }
def k7m8 : Method := { name := "<init>", desc := "([BB)V", sig := { parameters := [(.array .byte), .byte], returnType := none }, accessFlags := 0, code := some k7c8 }
def k7c9 : Code := { maxStack := 1, maxLocals := 1, code := jdk_42_method_152_code, exceptionTable := #[], attributes := #[] }
def k7m9 : Method := { name := "coder", desc := "()B", sig := { parameters := [], returnType := some .byte }, accessFlags := 0, code := some k7c9 }
def k7c10 : Code := { maxStack := 1, maxLocals := 1, code := jdk_42_method_154_code, exceptionTable := #[], attributes := #[] }
def k7m10 : Method := { name := "isLatin1", desc := "()Z", sig := { parameters := [], returnType := some .boolean }, accessFlags := 0, code := some k7c10 }
def k7c11 : Code := { maxStack := 3, maxLocals := 2, code := jdk_42_method_155_code, exceptionTable := #[], attributes := #[] }
def k7m11 : Method := { name := "checkIndex", desc := "(II)V", sig := { parameters := [.int, .int], returnType := none }, accessFlags := 8, code := some k7c11 }
/-- java/lang/String -/
def k7 : Class := { plain "java/lang/String" (some 0) with
  accessFlags := 49
  interfaces := #[2, 3, 4, 5, 6]
  cf := some (fileOf pool7 10 #[.nestMembers #[1103]] #[{ accessFlags := 1, nameIndex := 5, descriptorIndex := 6, attributes := #[] }, { accessFlags := 1, nameIndex := 5, descriptorIndex := 1010, attributes := #[] }, { accessFlags := 1, nameIndex := 507, descriptorIndex := 334, attributes := #[] }, { accessFlags := 1, nameIndex := 692, descriptorIndex := 142, attributes := #[] }, { accessFlags := 1, nameIndex := 497, descriptorIndex := 427, attributes := #[] }, { accessFlags := 1, nameIndex := 543, descriptorIndex := 573, attributes := #[] }, { accessFlags := 9, nameIndex := 782, descriptorIndex := 783, attributes := #[] }, { accessFlags := 2, nameIndex := 5, descriptorIndex := 29, attributes := #[] }, { accessFlags := 0, nameIndex := 5, descriptorIndex := 211, attributes := #[] }, { accessFlags := 0, nameIndex := 17, descriptorIndex := 337, attributes := #[] }, { accessFlags := 0, nameIndex := 494, descriptorIndex := 142, attributes := #[] }, { accessFlags := 8, nameIndex := 501, descriptorIndex := 391, attributes := #[] }] 49 2 #[1106, 1108, 575, 1110, 1112] #[{ accessFlags := 18, nameIndex := 13, descriptorIndex := 14, attributes := #[] }, { accessFlags := 18, nameIndex := 17, descriptorIndex := 18, attributes := #[] }, { accessFlags := 2, nameIndex := 21, descriptorIndex := 22, attributes := #[] }, { accessFlags := 2, nameIndex := 25, descriptorIndex := 26, attributes := #[] }, { accessFlags := 26, nameIndex := 1116, descriptorIndex := 1117, attributes := #[] }, { accessFlags := 24, nameIndex := 40, descriptorIndex := 26, attributes := #[] }, { accessFlags := 26, nameIndex := 1101, descriptorIndex := 1102, attributes := #[] }, { accessFlags := 26, nameIndex := 1121, descriptorIndex := 1122, attributes := #[] }, { accessFlags := 25, nameIndex := 599, descriptorIndex := 600, attributes := #[] }, { accessFlags := 24, nameIndex := 1125, descriptorIndex := 18, attributes := #[] }, { accessFlags := 24, nameIndex := 1127, descriptorIndex := 18, attributes := #[] }])
  fields := #[{ name := "value", type := (.array .byte), accessFlags := 18, slot := 0, constantValue := 0 }, { name := "coder", type := .byte, accessFlags := 18, slot := 1, constantValue := 0 }, { name := "hash", type := .int, accessFlags := 2, slot := 2, constantValue := 0 }, { name := "hashIsZero", type := .boolean, accessFlags := 2, slot := 3, constantValue := 0 }, { name := "serialVersionUID", type := .long, accessFlags := 26, slot := 0, constantValue := 0 }, { name := "COMPACT_STRINGS", type := .boolean, accessFlags := 24, slot := 1, constantValue := 0 }, { name := "serialPersistentFields", type := (.array (.object "java/io/ObjectStreamField")), accessFlags := 26, slot := 2, constantValue := 0 }, { name := "REPL", type := .char, accessFlags := 26, slot := 3, constantValue := 0 }, { name := "CASE_INSENSITIVE_ORDER", type := (.object "java/util/Comparator"), accessFlags := 25, slot := 4, constantValue := 0 }, { name := "LATIN1", type := .byte, accessFlags := 24, slot := 5, constantValue := 0 }, { name := "UTF16", type := .byte, accessFlags := 24, slot := 6, constantValue := 0 }]
  methods := #[k7m0, k7m1, k7m2, k7m3, k7m4, k7m5, k7m6, k7m7, k7m8, k7m9, k7m10, k7m11]
  instanceTypes := #[(.array .byte), .byte, .int, .boolean]
  staticTypes := #[.long, .boolean, (.array (.object "java/io/ObjectStreamField")), .char, (.object "java/util/Comparator"), .byte, .byte]
  resolved := Array.replicate 1451 none
  statics := some 0 }

def pool8 : Array CpInfo := pool [(6, .class_ 8), (1, u "java/lang/Object"), (0, u "<init>"), (0, u "()V"), (1, .class_ 14), (1, u "java/lang/StringUTF16"), (31, u "$assertionsDisabled"), (0, u "Z"), (13, u "HI_BYTE_SHIFT"), (0, u "I"), (2, u "LO_BYTE_SHIFT"), (49, .methodref 12 116), (0, .nameAndType 117 118), (0, u "compress"), (0, u "([CI[BII)I"), (3, u "([CII)[B"), (138, u "coderFromArrayLen"), (0, u "([BI)B"), (106, .class_ 371), (1, u "java/lang/StringUTF16$LinesSpliterator"), (58, u "MAX_LENGTH"), (196, .class_ 628), (0, u "java/lang/StringUTF16$CodePointsSpliterator"), (0, .class_ 630), (0, u "java/lang/StringUTF16$CharsSpliterator")] 4

def k8m0 : Method := { name := "<init>", desc := "()V", sig := { parameters := [], returnType := none }, accessFlags := 0, code := none }
def k8c1 : Code := { maxStack := 2, maxLocals := 2, code := jdk_52_method_15_code, exceptionTable := #[], attributes := #[] }
def k8m1 : Method := { name := "coderFromArrayLen", desc := "([BI)B", sig := { parameters := [(.array .byte), .int], returnType := some .byte }, accessFlags := 8, code := some k8c1 }
def k8c2 : Code := { maxStack := 5, maxLocals := 6, code := jdk_52_method_16_code, exceptionTable := #[], attributes := #[] }
def k8m2 : Method := { name := "compress", desc := "([CII)[B", sig := { parameters := [(.array .char), .int, .int], returnType := some (.array .byte) }, accessFlags := 9, code := some k8c2 }
def k8c3 : Code := { maxStack := 3, maxLocals := 7, code := jdk_52_method_21_code, exceptionTable := #[], attributes := #[] }
def k8m3 : Method := { name := "compress", desc := "([CI[BII)I", sig := { parameters := [(.array .char), .int, (.array .byte), .int, .int], returnType := some .int }, accessFlags := 9, code := some k8c3 }
/-- java/lang/StringUTF16 -/
def k8 : Class := { plain "java/lang/StringUTF16" (some 0) with
  accessFlags := 48
  interfaces := #[]
  cf := some (fileOf pool8 12 #[.nestMembers #[627, 629, 369]] #[{ accessFlags := 0, nameIndex := 9, descriptorIndex := 10, attributes := #[] }, { accessFlags := 8, nameIndex := 261, descriptorIndex := 262, attributes := #[] }, { accessFlags := 9, nameIndex := 117, descriptorIndex := 122, attributes := #[] }, { accessFlags := 9, nameIndex := 117, descriptorIndex := 118, attributes := #[] }] 48 6 #[] #[{ accessFlags := 26, nameIndex := 61, descriptorIndex := 62, attributes := #[] }, { accessFlags := 26, nameIndex := 65, descriptorIndex := 62, attributes := #[] }, { accessFlags := 24, nameIndex := 430, descriptorIndex := 62, attributes := #[] }, { accessFlags := 4120, nameIndex := 46, descriptorIndex := 47, attributes := #[] }])
  fields := #[{ name := "HI_BYTE_SHIFT", type := .int, accessFlags := 26, slot := 0, constantValue := 0 }, { name := "LO_BYTE_SHIFT", type := .int, accessFlags := 26, slot := 1, constantValue := 0 }, { name := "MAX_LENGTH", type := .int, accessFlags := 24, slot := 2, constantValue := 0 }, { name := "$assertionsDisabled", type := .boolean, accessFlags := 4120, slot := 3, constantValue := 0 }]
  methods := #[k8m0, k8m1, k8m2, k8m3]
  instanceTypes := #[]
  staticTypes := #[.int, .int, .int, .boolean]
  resolved := Array.replicate 635 none
  statics := none }

def pool9 : Array CpInfo := pool [(1, .class_ 2), (0, u "java/lang/String"), (1, .class_ 6), (1, u "java/lang/Object"), (0, u "<init>"), (0, u "()V"), (0, .methodref 1 10), (0, .nameAndType 11 12), (0, u "checkIndex"), (0, u "(II)V"), (1, .class_ 16), (1, u "java/lang/StringLatin1"), (36, u "([BI)C"), (36, u "canEncode"), (14, u "(C)Z"), (15, u "$assertionsDisabled"), (0, u "Z"), (98, .class_ 223), (1, u "java/lang/StringLatin1$LinesSpliterator"), (28, u "charAt"), (28, u "equals"), (0, u "([B[B)Z"), (97, u "toBytes"), (1, u "(C)[B"), (7, .class_ 391), (0, u "java/lang/StringLatin1$CharsSpliterator")] 3

def k9m0 : Method := { name := "<init>", desc := "()V", sig := { parameters := [], returnType := none }, accessFlags := 0, code := none }
def k9c1 : Code := { maxStack := 2, maxLocals := 2, code := jdk_43_method_2_code, exceptionTable := #[], attributes := #[] }
def k9m1 : Method := { name := "charAt", desc := "([BI)C", sig := { parameters := [(.array .byte), .int], returnType := some .char }, accessFlags := 9, code := some k9c1 }
def k9c2 : Code := { maxStack := 2, maxLocals := 1, code := jdk_43_method_3_code, exceptionTable := #[], attributes := #[] }
def k9m2 : Method := { name := "canEncode", desc := "(C)Z", sig := { parameters := [.char], returnType := some .boolean }, accessFlags := 9, code := some k9c2 }
def k9c3 : Code := { maxStack := 3, maxLocals := 3, code := jdk_43_method_13_code, exceptionTable := #[], attributes := #[] }
def k9m3 : Method := { name := "equals", desc := "([B[B)Z", sig := { parameters := [(.array .byte), (.array .byte)], returnType := some .boolean }, accessFlags := 9, code := some k9c3 }
def k9c4 : Code := { maxStack := 4, maxLocals := 1, code := jdk_43_method_46_code, exceptionTable := #[], attributes := #[] }
def k9m4 : Method := { name := "toBytes", desc := "(C)[B", sig := { parameters := [.char], returnType := some (.array .byte) }, accessFlags := 9, code := some k9c4 }
/-- java/lang/StringLatin1 -/
def k9 : Class := { plain "java/lang/StringLatin1" (some 0) with
  accessFlags := 48
  interfaces := #[]
  cf := some (fileOf pool9 14 #[.nestMembers #[390, 221]] #[{ accessFlags := 0, nameIndex := 7, descriptorIndex := 8, attributes := #[] }, { accessFlags := 9, nameIndex := 252, descriptorIndex := 53, attributes := #[] }, { accessFlags := 9, nameIndex := 90, descriptorIndex := 105, attributes := #[] }, { accessFlags := 9, nameIndex := 281, descriptorIndex := 282, attributes := #[] }, { accessFlags := 9, nameIndex := 380, descriptorIndex := 382, attributes := #[] }] 48 4 #[] #[{ accessFlags := 4120, nameIndex := 121, descriptorIndex := 122, attributes := #[] }])
  fields := #[{ name := "$assertionsDisabled", type := .boolean, accessFlags := 4120, slot := 0, constantValue := 0 }]
  methods := #[k9m0, k9m1, k9m2, k9m3, k9m4]
  instanceTypes := #[]
  staticTypes := #[.boolean]
  resolved := Array.replicate 395 none
  statics := none }

def pool10 : Array CpInfo := pool [(1, .methodref 2 3), (0, .class_ 4), (0, .nameAndType 5 6), (0, u "java/lang/Object"), (0, u "<init>"), (0, u "()V"), (0, .fieldref 8 9), (0, .class_ 10), (0, .nameAndType 11 12), (0, u "com/example/dual_delivery/dualdelivery/model/ResourceName"), (0, u "value"), (0, u "Ljava/lang/String;"), (0, .string 11), (0, .methodref 15 16), (0, .class_ 17), (0, .nameAndType 18 19), (0, u "java/util/Objects"), (0, u "requireNonNull"), (0, u "(Ljava/lang/Object;Ljava/lang/String;)Ljava/lang/Object;"), (0, .methodref 21 22), (0, .class_ 23), (0, .nameAndType 24 25), (0, u "java/lang/String"), (0, u "isEmpty"), (0, u "()Z"), (5, .nameAndType 5 32), (0, u "(Ljava/lang/String;)V"), (0, .methodref 21 34), (0, .nameAndType 35 36), (0, u "charAt"), (0, u "(I)C"), (0, .methodref 8 38), (0, .nameAndType 39 40), (0, u "isLetter"), (0, u "(C)Z"), (2, .methodref 21 44), (0, .nameAndType 45 46), (0, u "length"), (0, u "()I"), (0, .methodref 8 48), (0, .nameAndType 49 40), (0, u "isDigit"), (5, .methodref 8 31), (0, .methodref 21 57), (0, .nameAndType 58 59), (0, u "equals"), (0, u "(Ljava/lang/Object;)Z"), (3, u "MAX_LENGTH"), (0, u "I"), (4, u "of"), (0, u "(Ljava/lang/String;)Lcom/example/dual_delivery/dualdelivery/model/ResourceName;"), (1, u "toString"), (0, u "()Ljava/lang/String;")] 19

def k10c0 : Code := { maxStack := 2, maxLocals := 2, code := prog_18_method_1_code, exceptionTable := #[], attributes := #[] }
def k10m0 : Method := { name := "<init>", desc := "(Ljava/lang/String;)V", sig := { parameters := [(.object "java/lang/String")], returnType := none }, accessFlags := 2, code := some k10c0 }
def k10c1 : Code := { maxStack := 4, maxLocals := 3, code := prog_18_method_2_code, exceptionTable := #[], attributes := #[] }
def k10m1 : Method := { name := "of", desc := "(Ljava/lang/String;)Lcom/example/dual_delivery/dualdelivery/model/ResourceName;", sig := { parameters := [(.object "java/lang/String")], returnType := some (.object "com/example/dual_delivery/dualdelivery/model/ResourceName") }, accessFlags := 9, code := some k10c1 }
def k10c2 : Code := { maxStack := 2, maxLocals := 1, code := prog_18_method_3_code, exceptionTable := #[], attributes := #[] }
def k10m2 : Method := { name := "isLetter", desc := "(C)Z", sig := { parameters := [.char], returnType := some .boolean }, accessFlags := 10, code := some k10c2 }
def k10c3 : Code := { maxStack := 2, maxLocals := 1, code := prog_18_method_4_code, exceptionTable := #[], attributes := #[] }
def k10m3 : Method := { name := "isDigit", desc := "(C)Z", sig := { parameters := [.char], returnType := some .boolean }, accessFlags := 10, code := some k10c3 }
def k10c4 : Code := { maxStack := 2, maxLocals := 3, code := prog_18_method_5_code, exceptionTable := #[], attributes := #[] }
def k10m4 : Method := { name := "equals", desc := "(Ljava/lang/Object;)Z", sig := { parameters := [(.object "java/lang/Object")], returnType := some .boolean }, accessFlags := 1, code := some k10c4 }
def k10c5 : Code := { maxStack := 1, maxLocals := 1, code := prog_18_method_7_code, exceptionTable := #[], attributes := #[] }
def k10m5 : Method := { name := "toString", desc := "()Ljava/lang/String;", sig := { parameters := [], returnType := some (.object "java/lang/String") }, accessFlags := 1, code := some k10c5 }
/-- com/example/dual_delivery/dualdelivery/model/ResourceName -/
def k10 : Class := { plain "com/example/dual_delivery/dualdelivery/model/ResourceName" (some 0) with
  accessFlags := 49
  interfaces := #[]
  cf := some (fileOf pool10 8 #[] #[{ accessFlags := 2, nameIndex := 5, descriptorIndex := 32, attributes := #[] }, { accessFlags := 9, nameIndex := 69, descriptorIndex := 70, attributes := #[] }, { accessFlags := 10, nameIndex := 39, descriptorIndex := 40, attributes := #[] }, { accessFlags := 10, nameIndex := 49, descriptorIndex := 40, attributes := #[] }, { accessFlags := 1, nameIndex := 58, descriptorIndex := 59, attributes := #[] }, { accessFlags := 1, nameIndex := 72, descriptorIndex := 73, attributes := #[] }] 49 2 #[] #[{ accessFlags := 25, nameIndex := 63, descriptorIndex := 64, attributes := #[] }, { accessFlags := 18, nameIndex := 11, descriptorIndex := 12, attributes := #[] }])
  fields := #[{ name := "MAX_LENGTH", type := .int, accessFlags := 25, slot := 0, constantValue := 0 }, { name := "value", type := (.object "java/lang/String"), accessFlags := 18, slot := 0, constantValue := 0 }]
  methods := #[k10m0, k10m1, k10m2, k10m3, k10m4, k10m5]
  instanceTypes := #[(.object "java/lang/String")]
  staticTypes := #[.int]
  resolved := Array.replicate 93 none
  statics := none }

def pool11 : Array CpInfo := pool [(2, .class_ 4), (1, u "java/lang/Object"), (0, u "<init>"), (0, u "()V"), (35, .class_ 44), (1, u "java/util/Objects"), (0, u "requireNonNull"), (48, u "(Ljava/lang/Object;Ljava/lang/String;)Ljava/lang/Object;")] 89

def k11m0 : Method := { name := "<init>", desc := "()V", sig := { parameters := [], returnType := none }, accessFlags := 2, code := none }
def k11c1 : Code := { maxStack := 3, maxLocals := 2, code := jdk_31_method_11_code, exceptionTable := #[], attributes := #[] }
def k11m1 : Method := { name := "requireNonNull", desc := "(Ljava/lang/Object;Ljava/lang/String;)Ljava/lang/Object;", sig := { parameters := [(.object "java/lang/Object"), (.object "java/lang/String")], returnType := some (.object "java/lang/Object") }, accessFlags := 9, code := some k11c1 }
/-- java/util/Objects -/
def k11 : Class := { plain "java/util/Objects" (some 0) with
  accessFlags := 49
  interfaces := #[]
  cf := some (fileOf pool11 42 #[] #[{ accessFlags := 2, nameIndex := 5, descriptorIndex := 6, attributes := #[] }, { accessFlags := 9, nameIndex := 45, descriptorIndex := 94, attributes := #[] }] 49 2 #[] #[])
  fields := #[]
  methods := #[k11m0, k11m1]
  instanceTypes := #[]
  staticTypes := #[]
  resolved := Array.replicate 184 none
  statics := none }

def pool12 : Array CpInfo := pool [(2, .class_ 4), (1, u "java/lang/Object"), (0, u "<init>"), (0, u "()V"), (17, .class_ 26), (1, u "jdk/internal/util/Preconditions"), (6, u "checkIndex"), (21, .class_ 56), (0, u "jdk/internal/util/Preconditions$4"), (57, .class_ 115), (0, u "jdk/internal/util/Preconditions$1"), (7, u "SIOOBE_FORMATTER"), (0, u "Ljava/util/function/BiFunction;"), (0, .class_ 126), (0, u "jdk/internal/util/Preconditions$2"), (3, u "AIOOBE_FORMATTER"), (0, .class_ 132), (0, u "jdk/internal/util/Preconditions$3"), (3, u "IOOBE_FORMATTER"), (41, u "(IILjava/util/function/BiFunction;)I")] 15

def k12m0 : Method := { name := "<init>", desc := "()V", sig := { parameters := [], returnType := none }, accessFlags := 1, code := none }
def k12c1 : Code := { maxStack := 3, maxLocals := 3, code := jdk_41_method_11_code, exceptionTable := #[], attributes := #[] }
def k12m1 : Method := { name := "checkIndex", desc := "(IILjava/util/function/BiFunction;)I", sig := { parameters := [.int, .int, (.object "java/util/function/BiFunction")], returnType := some .int }, accessFlags := 9, code := some k12c1 }
/-- jdk/internal/util/Preconditions -/
def k12 : Class := { plain "jdk/internal/util/Preconditions" (some 0) with
  accessFlags := 33
  interfaces := #[]
  cf := some (fileOf pool12 24 #[.nestMembers #[55, 131, 125, 114]] #[{ accessFlags := 1, nameIndex := 5, descriptorIndex := 6, attributes := #[] }, { accessFlags := 9, nameIndex := 33, descriptorIndex := 178, attributes := #[] }] 33 2 #[] #[{ accessFlags := 25, nameIndex := 123, descriptorIndex := 124, attributes := #[] }, { accessFlags := 25, nameIndex := 130, descriptorIndex := 124, attributes := #[] }, { accessFlags := 25, nameIndex := 136, descriptorIndex := 124, attributes := #[] }])
  fields := #[{ name := "SIOOBE_FORMATTER", type := (.object "java/util/function/BiFunction"), accessFlags := 25, slot := 0, constantValue := 0 }, { name := "AIOOBE_FORMATTER", type := (.object "java/util/function/BiFunction"), accessFlags := 25, slot := 1, constantValue := 0 }, { name := "IOOBE_FORMATTER", type := (.object "java/util/function/BiFunction"), accessFlags := 25, slot := 2, constantValue := 0 }]
  methods := #[k12m0, k12m1]
  instanceTypes := #[]
  staticTypes := #[(.object "java/util/function/BiFunction"), (.object "java/util/function/BiFunction"), (.object "java/util/function/BiFunction")]
  resolved := Array.replicate 194 none
  statics := some 1 }

def pool13 : Array CpInfo := pool [(9, u "<init>"), (6, .class_ 18), (1, u "java/lang/Object"), (0, u "()V"), (1, .class_ 23), (1, u "jdk/internal/util/ArraysSupport"), (0, u "LOG2_ARRAY_LONG_INDEX_SCALE"), (0, u "I"), (2, u "U"), (0, u "Ljdk/internal/misc/Unsafe;"), (8, u "BIG_ENDIAN"), (0, u "Z"), (8, u "LOG2_BYTE_BIT_SIZE"), (4, u "LOG2_ARRAY_INT_INDEX_SCALE"), (54, u "JLA"), (0, u "Ljdk/internal/access/JavaLangAccess;"), (11, u "LOG2_ARRAY_BOOLEAN_INDEX_SCALE"), (9, u "LOG2_ARRAY_BYTE_INDEX_SCALE"), (5, u "LOG2_ARRAY_CHAR_INDEX_SCALE"), (5, u "LOG2_ARRAY_SHORT_INDEX_SCALE"), (18, u "LOG2_ARRAY_FLOAT_INDEX_SCALE"), (24, u "LOG2_ARRAY_DOUBLE_INDEX_SCALE"), (89, u "T_BOOLEAN"), (2, u "T_CHAR"), (1, u "T_FLOAT"), (1, u "T_DOUBLE"), (1, u "T_BYTE"), (1, u "T_SHORT"), (1, u "T_INT"), (1, u "T_LONG"), (1, u "SOFT_MAX_ARRAY_LENGTH")] 83

def k13m0 : Method := { name := "<init>", desc := "()V", sig := { parameters := [], returnType := none }, accessFlags := 2, code := none }
/-- jdk/internal/util/ArraysSupport -/
def k13 : Class := { plain "jdk/internal/util/ArraysSupport" (some 0) with
  accessFlags := 33
  interfaces := #[]
  cf := some (fileOf pool13 21 #[] #[{ accessFlags := 2, nameIndex := 9, descriptorIndex := 19, attributes := #[] }] 33 16 #[] #[{ accessFlags := 24, nameIndex := 28, descriptorIndex := 29, attributes := #[] }, { accessFlags := 26, nameIndex := 38, descriptorIndex := 39, attributes := #[] }, { accessFlags := 25, nameIndex := 121, descriptorIndex := 25, attributes := #[] }, { accessFlags := 25, nameIndex := 131, descriptorIndex := 25, attributes := #[] }, { accessFlags := 25, nameIndex := 137, descriptorIndex := 25, attributes := #[] }, { accessFlags := 25, nameIndex := 143, descriptorIndex := 25, attributes := #[] }, { accessFlags := 25, nameIndex := 53, descriptorIndex := 25, attributes := #[] }, { accessFlags := 25, nameIndex := 24, descriptorIndex := 25, attributes := #[] }, { accessFlags := 25, nameIndex := 162, descriptorIndex := 25, attributes := #[] }, { accessFlags := 25, nameIndex := 187, descriptorIndex := 25, attributes := #[] }, { accessFlags := 26, nameIndex := 48, descriptorIndex := 25, attributes := #[] }, { accessFlags := 25, nameIndex := 277, descriptorIndex := 25, attributes := #[] }, { accessFlags := 25, nameIndex := 280, descriptorIndex := 25, attributes := #[] }, { accessFlags := 25, nameIndex := 282, descriptorIndex := 25, attributes := #[] }, { accessFlags := 25, nameIndex := 284, descriptorIndex := 25, attributes := #[] }, { accessFlags := 25, nameIndex := 286, descriptorIndex := 25, attributes := #[] }, { accessFlags := 25, nameIndex := 288, descriptorIndex := 25, attributes := #[] }, { accessFlags := 25, nameIndex := 290, descriptorIndex := 25, attributes := #[] }, { accessFlags := 25, nameIndex := 292, descriptorIndex := 25, attributes := #[] }, { accessFlags := 26, nameIndex := 108, descriptorIndex := 109, attributes := #[] }, { accessFlags := 25, nameIndex := 294, descriptorIndex := 25, attributes := #[] }])
  fields := #[{ name := "U", type := (.object "jdk/internal/misc/Unsafe"), accessFlags := 24, slot := 0, constantValue := 0 }, { name := "BIG_ENDIAN", type := .boolean, accessFlags := 26, slot := 1, constantValue := 0 }, { name := "LOG2_ARRAY_BOOLEAN_INDEX_SCALE", type := .int, accessFlags := 25, slot := 2, constantValue := 0 }, { name := "LOG2_ARRAY_BYTE_INDEX_SCALE", type := .int, accessFlags := 25, slot := 3, constantValue := 0 }, { name := "LOG2_ARRAY_CHAR_INDEX_SCALE", type := .int, accessFlags := 25, slot := 4, constantValue := 0 }, { name := "LOG2_ARRAY_SHORT_INDEX_SCALE", type := .int, accessFlags := 25, slot := 5, constantValue := 0 }, { name := "LOG2_ARRAY_INT_INDEX_SCALE", type := .int, accessFlags := 25, slot := 6, constantValue := 0 }, { name := "LOG2_ARRAY_LONG_INDEX_SCALE", type := .int, accessFlags := 25, slot := 7, constantValue := 0 }, { name := "LOG2_ARRAY_FLOAT_INDEX_SCALE", type := .int, accessFlags := 25, slot := 8, constantValue := 0 }, { name := "LOG2_ARRAY_DOUBLE_INDEX_SCALE", type := .int, accessFlags := 25, slot := 9, constantValue := 0 }, { name := "LOG2_BYTE_BIT_SIZE", type := .int, accessFlags := 26, slot := 10, constantValue := 0 }, { name := "T_BOOLEAN", type := .int, accessFlags := 25, slot := 11, constantValue := 0 }, { name := "T_CHAR", type := .int, accessFlags := 25, slot := 12, constantValue := 0 }, { name := "T_FLOAT", type := .int, accessFlags := 25, slot := 13, constantValue := 0 }, { name := "T_DOUBLE", type := .int, accessFlags := 25, slot := 14, constantValue := 0 }, { name := "T_BYTE", type := .int, accessFlags := 25, slot := 15, constantValue := 0 }, { name := "T_SHORT", type := .int, accessFlags := 25, slot := 16, constantValue := 0 }, { name := "T_INT", type := .int, accessFlags := 25, slot := 17, constantValue := 0 }, { name := "T_LONG", type := .int, accessFlags := 25, slot := 18, constantValue := 0 }, { name := "JLA", type := (.object "jdk/internal/access/JavaLangAccess"), accessFlags := 26, slot := 19, constantValue := 0 }, { name := "SOFT_MAX_ARRAY_LENGTH", type := .int, accessFlags := 25, slot := 20, constantValue := 0 }]
  methods := #[k13m0]
  instanceTypes := #[]
  staticTypes := #[(.object "jdk/internal/misc/Unsafe"), .boolean, .int, .int, .int, .int, .int, .int, .int, .int, .int, .int, .int, .int, .int, .int, .int, .int, .int, (.object "jdk/internal/access/JavaLangAccess"), .int]
  resolved := Array.replicate 378 none
  statics := none }

def pool14 : Array CpInfo := pool [(1, u "java/lang/Cloneable"), (0, .class_ 1), (0, u "java/lang/Object"), (0, .class_ 3)] 3

/-- java/lang/Cloneable -/
def k14 : Class := { plain "java/lang/Cloneable" (some 0) with
  accessFlags := 1537
  interfaces := #[]
  cf := some (fileOf pool14 2 #[] #[] 1537 4 #[] #[])
  fields := #[]
  methods := #[]
  instanceTypes := #[]
  staticTypes := #[]
  resolved := Array.replicate 8 none
  statics := none }

/-- the primitive byte -/
def k15 : Class := { plain "byte" none with kind := .primitive 'B', accessFlags := 0x411 }
/-- [B -/
def k16 : Class := { plain "[B" (some 0) with kind := .array 15 .byte, interfaces := #[14, 2], accessFlags := 1041 }

/-- the primitive char -/
def k17 : Class := { plain "char" none with kind := .primitive 'C', accessFlags := 0x411 }
/-- [C -/
def k18 : Class := { plain "[C" (some 0) with kind := .array 17 .char, interfaces := #[14, 2], accessFlags := 1041 }

/-- the primitive int -/
def k19 : Class := { plain "int" none with kind := .primitive 'I', accessFlags := 0x411 }
/-- [I -/
def k20 : Class := { plain "[I" (some 0) with kind := .array 19 .int, interfaces := #[14, 2], accessFlags := 1041 }

def heap : Heap := #[{ cls := 7, slots := #[.long 0, .int 1, .null, .int 0, .null, .int 0, .int 0], vm := .statics 7 },
  { cls := 12, slots := #[.null, .null, .null], vm := .statics 12 }]
def classes : Array Class := #[k0, k1, k2, k3, k4, k5, k6, k7, k8, k9, k10, k11, k12, k13, k14, k15, k16, k17, k18, k19, k20]
def interned : List (Array UInt16 × Addr) := []
def slotsUsed : Nat := 10
def theMethod : MethodId := ⟨1, 3⟩
def args0 : Array Value := #[.int 1, .int 2, .int 3, .int 4, .int 5, .int 6]
def aboutOver (below : List Frame) : State where
  vm := { classes := classes, interned := interned.toArray }
  heap := heap
  slotsUsed := slotsUsed
  threads := #[{ frames := .invoking theMethod args0 :: below }]
def below0 : List Frame := [.native { method := ⟨0, 0⟩, args := #[] }]
def about1 : State := aboutOver below0
def p0 : Program := .bare "" "" ""
def e0 : Env := launch0.env 0 0 0
theorem w_frames : about1.frames = Frame.invoking theMethod args0 :: below0 := rfl
set_option maxRecDepth 65536 in
theorem w_args : argsFit about1.vm theMethod args0 = true := by decide +kernel
set_option maxRecDepth 65536 in
theorem w_heap : heapFits about1 = true := by decide +kernel
set_option maxRecDepth 65536 in
theorem w_runnable : about1.curStatus? = some .runnable := by decide +kernel
set_option maxRecDepth 65536 in
theorem w_alone : about1.alone = true := by decide +kernel
set_option maxRecDepth 65536 in
theorem w_named : about1.methodNamed? x = some theMethod := by decide +kernel
set_option maxRecDepth 65536 in
theorem w_hears : about1.hears theMethod below0 = true := by decide +kernel
set_option maxRecDepth 65536 in
theorem w_ripe : about1.ripe theMethod args0 below0 = true := by decide +kernel
theorem w_running : about1.status = .running := rfl
set_option maxRecDepth 65536 in
theorem w_room : about1.hasRoom e0.platform room_1 = true :=
  launch0.hasRoom_least _ room_1 (by decide +kernel) (by decide +kernel) (by decide +kernel) (by decide +kernel) (by decide +kernel) (by decide +kernel)
theorem allAtoms_all (ts : List Jvm.Cond) (a : Array Jvm.Value) (st : Jvm.State) : (allAtoms ts).before a st = ts.all (fun c => c.before a st) := by
  induction ts with
  | nil => rfl
  | cons c t ih =>
    show (Jvm.Cond.and c (allAtoms t)).before a st = _
    rw [Jvm.Cond.before_and, ih, List.all_cons]
def words1 : List Jvm.Cond := Jvm.Cond.code x code maxLocals ret :: tables_1
/-- a 'code' word, met by the world's own term for the bytes: nothing is compared byte by byte -/
theorem code_word {y : MethodName} {bytes : ByteArray} {mx : Nat} {rt : Option FieldType} {a : Array Value} {s : State} {m : MethodId} {meth : Method} {c : Code} (h1 : s.methodNamed? y = some m) (h2 : s.vm.method? m = some meth) (h3 : meth.code = some c) (h4 : c.code = bytes)
    (h5 : (c.maxLocals == mx && c.exceptionTable.isEmpty && decide (c.maxStack ≤ mostOperands) && decide (meth.sig.returnType = rt) && !meth.locks && decide (parseMethodDescriptor y.desc = some meth.sig)) = true) : (Jvm.Cond.code y bytes mx rt).before a s = true := by
  simp only [Bool.and_eq_true, beq_iff_eq, Bool.not_eq_true', decide_eq_true_eq] at h5
  obtain ⟨⟨⟨⟨⟨g1, g2⟩, g3⟩, g4⟩, g5⟩, g6⟩ := h5
  simp [Cond.before, Cond.holds, Cond.value, h1, h2, h3, h4, g1, g2, g3, g4, g5, g6]
def isCode : Jvm.Cond → Bool
  | .code _ _ _ _ => true
  | _ => false
theorem all_split {L : List Jvm.Cond} {P : Jvm.Cond → Bool} (h1 : L.all (fun c => isCode c || P c) = true) (h2 : ∀ c ∈ L.filter isCode, P c = true) : L.all P = true := by
  refine List.all_eq_true.mpr fun c hc => ?_
  have h := List.all_eq_true.mp h1 c hc
  rcases Bool.eq_false_or_eq_true (isCode c) with hi | hi
  · exact h2 c (List.mem_filter.mpr ⟨hc, hi⟩)
  · simpa [hi] using h
set_option maxRecDepth 65536 in
theorem w_c0 : (Jvm.Cond.code x code maxLocals ret).before args0 about1 = true := code_word (m := ⟨1, 3⟩) (meth := k1m3) (c := k1c3) (by decide +kernel) rfl rfl rfl (by decide +kernel)
set_option maxRecDepth 65536 in
theorem w_c1 : (Jvm.Cond.code ({ cls := "com/example/dual_delivery/dualdelivery/model/ResourceNameOfPinLaw", name := "letter", desc := "(I)C" } : Jvm.MethodName) method_2_code (2 : Nat) (Option.some Jvm.ClassFile.FieldType.char)).before args0 about1 = true := code_word (m := ⟨1, 1⟩) (meth := k1m1) (c := k1c1) (by decide +kernel) rfl rfl rfl (by decide +kernel)
set_option maxRecDepth 65536 in
theorem w_c2 : (Jvm.Cond.code ({ cls := "com/example/dual_delivery/dualdelivery/model/ResourceNameOfPinLaw", name := "other", desc := "(I)C" } : Jvm.MethodName) method_3_code (2 : Nat) (Option.some Jvm.ClassFile.FieldType.char)).before args0 about1 = true := code_word (m := ⟨1, 2⟩) (meth := k1m2) (c := k1c2) (by decide +kernel) rfl rfl rfl (by decide +kernel)
set_option maxRecDepth 65536 in
theorem w_c3 : (Jvm.Cond.code ({ cls := "java/lang/String", name := "<init>", desc := "([C)V" } : Jvm.MethodName) jdk_42_method_3_code (2 : Nat) (Option.none : Option Jvm.ClassFile.FieldType)).before args0 about1 = true := code_word (m := ⟨7, 1⟩) (meth := k7m1) (c := k7c1) (by decide +kernel) rfl rfl rfl (by decide +kernel)
set_option maxRecDepth 65536 in
theorem w_c4 : (Jvm.Cond.code ({ cls := "java/lang/String", name := "<init>", desc := "([CIILjava/lang/Void;)V" } : Jvm.MethodName) jdk_42_method_149_code (6 : Nat) (Option.none : Option Jvm.ClassFile.FieldType)).before args0 about1 = true := code_word (m := ⟨7, 7⟩) (meth := k7m7) (c := k7c7) (by decide +kernel) rfl rfl rfl (by decide +kernel)
set_option maxRecDepth 65536 in
theorem w_c5 : (Jvm.Cond.code ({ cls := "java/lang/Object", name := "<init>", desc := "()V" } : Jvm.MethodName) object_method_1_code (1 : Nat) (Option.none : Option Jvm.ClassFile.FieldType)).before args0 about1 = true := code_word (m := ⟨0, 0⟩) (meth := k0m0) (c := k0c0) (by decide +kernel) rfl rfl rfl (by decide +kernel)
set_option maxRecDepth 65536 in
theorem w_c6 : (Jvm.Cond.code ({ cls := "java/lang/StringUTF16", name := "compress", desc := "([CII)[B" } : Jvm.MethodName) jdk_52_method_16_code (6 : Nat) (Option.some (Jvm.ClassFile.FieldType.array Jvm.ClassFile.FieldType.byte))).before args0 about1 = true := code_word (m := ⟨8, 2⟩) (meth := k8m2) (c := k8c2) (by decide +kernel) rfl rfl rfl (by decide +kernel)
set_option maxRecDepth 65536 in
theorem w_c7 : (Jvm.Cond.code ({ cls := "java/lang/StringUTF16", name := "compress", desc := "([CI[BII)I" } : Jvm.MethodName) jdk_52_method_21_code (7 : Nat) (Option.some Jvm.ClassFile.FieldType.int)).before args0 about1 = true := code_word (m := ⟨8, 3⟩) (meth := k8m3) (c := k8c3) (by decide +kernel) rfl rfl rfl (by decide +kernel)
set_option maxRecDepth 65536 in
theorem w_c8 : (Jvm.Cond.code ({ cls := "java/lang/StringUTF16", name := "coderFromArrayLen", desc := "([BI)B" } : Jvm.MethodName) jdk_52_method_15_code (2 : Nat) (Option.some Jvm.ClassFile.FieldType.byte)).before args0 about1 = true := code_word (m := ⟨8, 1⟩) (meth := k8m1) (c := k8c1) (by decide +kernel) rfl rfl rfl (by decide +kernel)
set_option maxRecDepth 65536 in
theorem w_c9 : (Jvm.Cond.code ({ cls := "java/lang/String", name := "valueOf", desc := "(C)Ljava/lang/String;" } : Jvm.MethodName) jdk_42_method_139_code (1 : Nat) (Option.some (Jvm.ClassFile.FieldType.object "java/lang/String"))).before args0 about1 = true := code_word (m := ⟨7, 6⟩) (meth := k7m6) (c := k7c6) (by decide +kernel) rfl rfl rfl (by decide +kernel)
set_option maxRecDepth 65536 in
theorem w_c10 : (Jvm.Cond.code ({ cls := "java/lang/StringLatin1", name := "canEncode", desc := "(C)Z" } : Jvm.MethodName) jdk_43_method_3_code (1 : Nat) (Option.some Jvm.ClassFile.FieldType.boolean)).before args0 about1 = true := code_word (m := ⟨9, 2⟩) (meth := k9m2) (c := k9c2) (by decide +kernel) rfl rfl rfl (by decide +kernel)
set_option maxRecDepth 65536 in
theorem w_c11 : (Jvm.Cond.code ({ cls := "java/lang/StringLatin1", name := "toBytes", desc := "(C)[B" } : Jvm.MethodName) jdk_43_method_46_code (1 : Nat) (Option.some (Jvm.ClassFile.FieldType.array Jvm.ClassFile.FieldType.byte))).before args0 about1 = true := code_word (m := ⟨9, 4⟩) (meth := k9m4) (c := k9c4) (by decide +kernel) rfl rfl rfl (by decide +kernel)
set_option maxRecDepth 65536 in
theorem w_c12 : (Jvm.Cond.code ({ cls := "java/lang/String", name := "<init>", desc := "([BB)V" } : Jvm.MethodName) jdk_42_method_151_code (3 : Nat) (Option.none : Option Jvm.ClassFile.FieldType)).before args0 about1 = true := code_word (m := ⟨7, 8⟩) (meth := k7m8) (c := k7c8) (by decide +kernel) rfl rfl rfl (by decide +kernel)
set_option maxRecDepth 65536 in
theorem w_c13 : (Jvm.Cond.code ({ cls := "com/example/dual_delivery/dualdelivery/model/ResourceName", name := "of", desc := "(Ljava/lang/String;)Lcom/example/dual_delivery/dualdelivery/model/ResourceName;" } : Jvm.MethodName) prog_18_method_2_code (3 : Nat) (Option.some (Jvm.ClassFile.FieldType.object "com/example/dual_delivery/dualdelivery/model/ResourceName"))).before args0 about1 = true := code_word (m := ⟨10, 1⟩) (meth := k10m1) (c := k10c1) (by decide +kernel) rfl rfl rfl (by decide +kernel)
set_option maxRecDepth 65536 in
theorem w_c14 : (Jvm.Cond.code ({ cls := "java/util/Objects", name := "requireNonNull", desc := "(Ljava/lang/Object;Ljava/lang/String;)Ljava/lang/Object;" } : Jvm.MethodName) jdk_31_method_11_code (2 : Nat) (Option.some (Jvm.ClassFile.FieldType.object "java/lang/Object"))).before args0 about1 = true := code_word (m := ⟨11, 1⟩) (meth := k11m1) (c := k11c1) (by decide +kernel) rfl rfl rfl (by decide +kernel)
set_option maxRecDepth 65536 in
theorem w_c15 : (Jvm.Cond.code ({ cls := "java/lang/String", name := "isEmpty", desc := "()Z" } : Jvm.MethodName) jdk_42_method_55_code (1 : Nat) (Option.some Jvm.ClassFile.FieldType.boolean)).before args0 about1 = true := code_word (m := ⟨7, 3⟩) (meth := k7m3) (c := k7c3) (by decide +kernel) rfl rfl rfl (by decide +kernel)
set_option maxRecDepth 65536 in
theorem w_c16 : (Jvm.Cond.code ({ cls := "java/lang/String", name := "charAt", desc := "(I)C" } : Jvm.MethodName) jdk_42_method_56_code (2 : Nat) (Option.some Jvm.ClassFile.FieldType.char)).before args0 about1 = true := code_word (m := ⟨7, 4⟩) (meth := k7m4) (c := k7c4) (by decide +kernel) rfl rfl rfl (by decide +kernel)
set_option maxRecDepth 65536 in
theorem w_c17 : (Jvm.Cond.code ({ cls := "java/lang/String", name := "isLatin1", desc := "()Z" } : Jvm.MethodName) jdk_42_method_154_code (1 : Nat) (Option.some Jvm.ClassFile.FieldType.boolean)).before args0 about1 = true := code_word (m := ⟨7, 10⟩) (meth := k7m10) (c := k7c10) (by decide +kernel) rfl rfl rfl (by decide +kernel)
set_option maxRecDepth 65536 in
theorem w_c18 : (Jvm.Cond.code ({ cls := "java/lang/StringLatin1", name := "charAt", desc := "([BI)C" } : Jvm.MethodName) jdk_43_method_2_code (2 : Nat) (Option.some Jvm.ClassFile.FieldType.char)).before args0 about1 = true := code_word (m := ⟨9, 1⟩) (meth := k9m1) (c := k9c1) (by decide +kernel) rfl rfl rfl (by decide +kernel)
set_option maxRecDepth 65536 in
theorem w_c19 : (Jvm.Cond.code ({ cls := "java/lang/String", name := "checkIndex", desc := "(II)V" } : Jvm.MethodName) jdk_42_method_155_code (2 : Nat) (Option.none : Option Jvm.ClassFile.FieldType)).before args0 about1 = true := code_word (m := ⟨7, 11⟩) (meth := k7m11) (c := k7c11) (by decide +kernel) rfl rfl rfl (by decide +kernel)
set_option maxRecDepth 65536 in
theorem w_c20 : (Jvm.Cond.code ({ cls := "jdk/internal/util/Preconditions", name := "checkIndex", desc := "(IILjava/util/function/BiFunction;)I" } : Jvm.MethodName) jdk_41_method_11_code (3 : Nat) (Option.some Jvm.ClassFile.FieldType.int)).before args0 about1 = true := code_word (m := ⟨12, 1⟩) (meth := k12m1) (c := k12c1) (by decide +kernel) rfl rfl rfl (by decide +kernel)
set_option maxRecDepth 65536 in
theorem w_c21 : (Jvm.Cond.code ({ cls := "com/example/dual_delivery/dualdelivery/model/ResourceName", name := "isLetter", desc := "(C)Z" } : Jvm.MethodName) prog_18_method_3_code (1 : Nat) (Option.some Jvm.ClassFile.FieldType.boolean)).before args0 about1 = true := code_word (m := ⟨10, 2⟩) (meth := k10m2) (c := k10c2) (by decide +kernel) rfl rfl rfl (by decide +kernel)
set_option maxRecDepth 65536 in
theorem w_c22 : (Jvm.Cond.code ({ cls := "java/lang/String", name := "length", desc := "()I" } : Jvm.MethodName) jdk_42_method_54_code (1 : Nat) (Option.some Jvm.ClassFile.FieldType.int)).before args0 about1 = true := code_word (m := ⟨7, 2⟩) (meth := k7m2) (c := k7c2) (by decide +kernel) rfl rfl rfl (by decide +kernel)
set_option maxRecDepth 65536 in
theorem w_c23 : (Jvm.Cond.code ({ cls := "java/lang/String", name := "coder", desc := "()B" } : Jvm.MethodName) jdk_42_method_152_code (1 : Nat) (Option.some Jvm.ClassFile.FieldType.byte)).before args0 about1 = true := code_word (m := ⟨7, 9⟩) (meth := k7m9) (c := k7c9) (by decide +kernel) rfl rfl rfl (by decide +kernel)
set_option maxRecDepth 65536 in
theorem w_c24 : (Jvm.Cond.code ({ cls := "com/example/dual_delivery/dualdelivery/model/ResourceName", name := "<init>", desc := "(Ljava/lang/String;)V" } : Jvm.MethodName) prog_18_method_1_code (2 : Nat) (Option.none : Option Jvm.ClassFile.FieldType)).before args0 about1 = true := code_word (m := ⟨10, 0⟩) (meth := k10m0) (c := k10c0) (by decide +kernel) rfl rfl rfl (by decide +kernel)
set_option maxRecDepth 65536 in
theorem w_c25 : (Jvm.Cond.code ({ cls := "com/example/dual_delivery/dualdelivery/model/ResourceName", name := "toString", desc := "()Ljava/lang/String;" } : Jvm.MethodName) prog_18_method_7_code (1 : Nat) (Option.some (Jvm.ClassFile.FieldType.object "java/lang/String"))).before args0 about1 = true := code_word (m := ⟨10, 5⟩) (meth := k10m5) (c := k10c5) (by decide +kernel) rfl rfl rfl (by decide +kernel)
set_option maxRecDepth 65536 in
theorem w_c26 : (Jvm.Cond.code ({ cls := "java/lang/String", name := "equals", desc := "(Ljava/lang/Object;)Z" } : Jvm.MethodName) jdk_42_method_66_code (3 : Nat) (Option.some Jvm.ClassFile.FieldType.boolean)).before args0 about1 = true := code_word (m := ⟨7, 5⟩) (meth := k7m5) (c := k7c5) (by decide +kernel) rfl rfl rfl (by decide +kernel)
set_option maxRecDepth 65536 in
theorem w_c27 : (Jvm.Cond.code ({ cls := "com/example/dual_delivery/dualdelivery/model/ResourceName", name := "equals", desc := "(Ljava/lang/Object;)Z" } : Jvm.MethodName) prog_18_method_5_code (3 : Nat) (Option.some Jvm.ClassFile.FieldType.boolean)).before args0 about1 = true := code_word (m := ⟨10, 4⟩) (meth := k10m4) (c := k10c4) (by decide +kernel) rfl rfl rfl (by decide +kernel)
set_option maxRecDepth 65536 in
theorem w_c28 : (Jvm.Cond.code ({ cls := "java/lang/StringLatin1", name := "equals", desc := "([B[B)Z" } : Jvm.MethodName) jdk_43_method_13_code (3 : Nat) (Option.some Jvm.ClassFile.FieldType.boolean)).before args0 about1 = true := code_word (m := ⟨9, 3⟩) (meth := k9m3) (c := k9c3) (by decide +kernel) rfl rfl rfl (by decide +kernel)
set_option maxRecDepth 65536 in
theorem w_c29 : (Jvm.Cond.code ({ cls := "com/example/dual_delivery/dualdelivery/model/ResourceName", name := "isDigit", desc := "(C)Z" } : Jvm.MethodName) prog_18_method_4_code (1 : Nat) (Option.some Jvm.ClassFile.FieldType.boolean)).before args0 about1 = true := code_word (m := ⟨10, 3⟩) (meth := k10m3) (c := k10c3) (by decide +kernel) rfl rfl rfl (by decide +kernel)
def codes1 : List Jvm.Cond := [Jvm.Cond.code x code maxLocals ret, Jvm.Cond.code ({ cls := "com/example/dual_delivery/dualdelivery/model/ResourceNameOfPinLaw", name := "letter", desc := "(I)C" } : Jvm.MethodName) method_2_code (2 : Nat) (Option.some Jvm.ClassFile.FieldType.char), Jvm.Cond.code ({ cls := "com/example/dual_delivery/dualdelivery/model/ResourceNameOfPinLaw", name := "other", desc := "(I)C" } : Jvm.MethodName) method_3_code (2 : Nat) (Option.some Jvm.ClassFile.FieldType.char), Jvm.Cond.code ({ cls := "java/lang/String", name := "<init>", desc := "([C)V" } : Jvm.MethodName) jdk_42_method_3_code (2 : Nat) (Option.none : Option Jvm.ClassFile.FieldType), Jvm.Cond.code ({ cls := "java/lang/String", name := "<init>", desc := "([CIILjava/lang/Void;)V" } : Jvm.MethodName) jdk_42_method_149_code (6 : Nat) (Option.none : Option Jvm.ClassFile.FieldType), Jvm.Cond.code ({ cls := "java/lang/Object", name := "<init>", desc := "()V" } : Jvm.MethodName) object_method_1_code (1 : Nat) (Option.none : Option Jvm.ClassFile.FieldType), Jvm.Cond.code ({ cls := "java/lang/StringUTF16", name := "compress", desc := "([CII)[B" } : Jvm.MethodName) jdk_52_method_16_code (6 : Nat) (Option.some (Jvm.ClassFile.FieldType.array Jvm.ClassFile.FieldType.byte)), Jvm.Cond.code ({ cls := "java/lang/StringUTF16", name := "compress", desc := "([CI[BII)I" } : Jvm.MethodName) jdk_52_method_21_code (7 : Nat) (Option.some Jvm.ClassFile.FieldType.int), Jvm.Cond.code ({ cls := "java/lang/StringUTF16", name := "coderFromArrayLen", desc := "([BI)B" } : Jvm.MethodName) jdk_52_method_15_code (2 : Nat) (Option.some Jvm.ClassFile.FieldType.byte), Jvm.Cond.code ({ cls := "java/lang/String", name := "valueOf", desc := "(C)Ljava/lang/String;" } : Jvm.MethodName) jdk_42_method_139_code (1 : Nat) (Option.some (Jvm.ClassFile.FieldType.object "java/lang/String")), Jvm.Cond.code ({ cls := "java/lang/StringLatin1", name := "canEncode", desc := "(C)Z" } : Jvm.MethodName) jdk_43_method_3_code (1 : Nat) (Option.some Jvm.ClassFile.FieldType.boolean), Jvm.Cond.code ({ cls := "java/lang/StringLatin1", name := "toBytes", desc := "(C)[B" } : Jvm.MethodName) jdk_43_method_46_code (1 : Nat) (Option.some (Jvm.ClassFile.FieldType.array Jvm.ClassFile.FieldType.byte)), Jvm.Cond.code ({ cls := "java/lang/String", name := "<init>", desc := "([BB)V" } : Jvm.MethodName) jdk_42_method_151_code (3 : Nat) (Option.none : Option Jvm.ClassFile.FieldType), Jvm.Cond.code ({ cls := "com/example/dual_delivery/dualdelivery/model/ResourceName", name := "of", desc := "(Ljava/lang/String;)Lcom/example/dual_delivery/dualdelivery/model/ResourceName;" } : Jvm.MethodName) prog_18_method_2_code (3 : Nat) (Option.some (Jvm.ClassFile.FieldType.object "com/example/dual_delivery/dualdelivery/model/ResourceName")), Jvm.Cond.code ({ cls := "java/util/Objects", name := "requireNonNull", desc := "(Ljava/lang/Object;Ljava/lang/String;)Ljava/lang/Object;" } : Jvm.MethodName) jdk_31_method_11_code (2 : Nat) (Option.some (Jvm.ClassFile.FieldType.object "java/lang/Object")), Jvm.Cond.code ({ cls := "java/lang/String", name := "isEmpty", desc := "()Z" } : Jvm.MethodName) jdk_42_method_55_code (1 : Nat) (Option.some Jvm.ClassFile.FieldType.boolean), Jvm.Cond.code ({ cls := "java/lang/String", name := "charAt", desc := "(I)C" } : Jvm.MethodName) jdk_42_method_56_code (2 : Nat) (Option.some Jvm.ClassFile.FieldType.char), Jvm.Cond.code ({ cls := "java/lang/String", name := "isLatin1", desc := "()Z" } : Jvm.MethodName) jdk_42_method_154_code (1 : Nat) (Option.some Jvm.ClassFile.FieldType.boolean), Jvm.Cond.code ({ cls := "java/lang/StringLatin1", name := "charAt", desc := "([BI)C" } : Jvm.MethodName) jdk_43_method_2_code (2 : Nat) (Option.some Jvm.ClassFile.FieldType.char), Jvm.Cond.code ({ cls := "java/lang/String", name := "checkIndex", desc := "(II)V" } : Jvm.MethodName) jdk_42_method_155_code (2 : Nat) (Option.none : Option Jvm.ClassFile.FieldType), Jvm.Cond.code ({ cls := "jdk/internal/util/Preconditions", name := "checkIndex", desc := "(IILjava/util/function/BiFunction;)I" } : Jvm.MethodName) jdk_41_method_11_code (3 : Nat) (Option.some Jvm.ClassFile.FieldType.int), Jvm.Cond.code ({ cls := "com/example/dual_delivery/dualdelivery/model/ResourceName", name := "isLetter", desc := "(C)Z" } : Jvm.MethodName) prog_18_method_3_code (1 : Nat) (Option.some Jvm.ClassFile.FieldType.boolean), Jvm.Cond.code ({ cls := "java/lang/String", name := "length", desc := "()I" } : Jvm.MethodName) jdk_42_method_54_code (1 : Nat) (Option.some Jvm.ClassFile.FieldType.int), Jvm.Cond.code ({ cls := "java/lang/String", name := "coder", desc := "()B" } : Jvm.MethodName) jdk_42_method_152_code (1 : Nat) (Option.some Jvm.ClassFile.FieldType.byte), Jvm.Cond.code ({ cls := "com/example/dual_delivery/dualdelivery/model/ResourceName", name := "<init>", desc := "(Ljava/lang/String;)V" } : Jvm.MethodName) prog_18_method_1_code (2 : Nat) (Option.none : Option Jvm.ClassFile.FieldType), Jvm.Cond.code ({ cls := "com/example/dual_delivery/dualdelivery/model/ResourceName", name := "toString", desc := "()Ljava/lang/String;" } : Jvm.MethodName) prog_18_method_7_code (1 : Nat) (Option.some (Jvm.ClassFile.FieldType.object "java/lang/String")), Jvm.Cond.code ({ cls := "java/lang/String", name := "equals", desc := "(Ljava/lang/Object;)Z" } : Jvm.MethodName) jdk_42_method_66_code (3 : Nat) (Option.some Jvm.ClassFile.FieldType.boolean), Jvm.Cond.code ({ cls := "com/example/dual_delivery/dualdelivery/model/ResourceName", name := "equals", desc := "(Ljava/lang/Object;)Z" } : Jvm.MethodName) prog_18_method_5_code (3 : Nat) (Option.some Jvm.ClassFile.FieldType.boolean), Jvm.Cond.code ({ cls := "java/lang/StringLatin1", name := "equals", desc := "([B[B)Z" } : Jvm.MethodName) jdk_43_method_13_code (3 : Nat) (Option.some Jvm.ClassFile.FieldType.boolean), Jvm.Cond.code ({ cls := "com/example/dual_delivery/dualdelivery/model/ResourceName", name := "isDigit", desc := "(C)Z" } : Jvm.MethodName) prog_18_method_4_code (1 : Nat) (Option.some Jvm.ClassFile.FieldType.boolean)]
set_option maxRecDepth 65536 in
theorem codes_eq : words1.filter isCode = codes1 := rfl
theorem w_codes : ∀ c ∈ words1.filter isCode, c.before args0 about1 = true := by
  rw [codes_eq]
  intro c hc
  simp only [codes1, List.mem_cons, List.not_mem_nil, or_false] at hc
  rcases hc with rfl | rfl | rfl | rfl | rfl | rfl | rfl | rfl | rfl | rfl | rfl | rfl | rfl | rfl | rfl | rfl | rfl | rfl | rfl | rfl | rfl | rfl | rfl | rfl | rfl | rfl | rfl | rfl | rfl | rfl
  · exact w_c0
  · exact w_c1
  · exact w_c2
  · exact w_c3
  · exact w_c4
  · exact w_c5
  · exact w_c6
  · exact w_c7
  · exact w_c8
  · exact w_c9
  · exact w_c10
  · exact w_c11
  · exact w_c12
  · exact w_c13
  · exact w_c14
  · exact w_c15
  · exact w_c16
  · exact w_c17
  · exact w_c18
  · exact w_c19
  · exact w_c20
  · exact w_c21
  · exact w_c22
  · exact w_c23
  · exact w_c24
  · exact w_c25
  · exact w_c26
  · exact w_c27
  · exact w_c28
  · exact w_c29
set_option maxRecDepth 65536 in
theorem w_t1 : (words1.take 24).all (fun c => isCode c || c.before args0 about1) = true := by decide +kernel
set_option maxRecDepth 65536 in
theorem w_t2 : ((words1.drop 24).take 24).all (fun c => isCode c || c.before args0 about1) = true := by decide +kernel
set_option maxRecDepth 65536 in
theorem w_t3 : (((words1.drop 24).drop 24).take 24).all (fun c => isCode c || c.before args0 about1) = true := by decide +kernel
set_option maxRecDepth 65536 in
theorem w_t4 : ((((words1.drop 24).drop 24).drop 24).take 24).all (fun c => isCode c || c.before args0 about1) = true := by decide +kernel
set_option maxRecDepth 65536 in
theorem w_t5 : (((((words1.drop 24).drop 24).drop 24).drop 24).take 24).all (fun c => isCode c || c.before args0 about1) = true := by decide +kernel
set_option maxRecDepth 65536 in
theorem w_t6 : (((((words1.drop 24).drop 24).drop 24).drop 24).drop 24).all (fun c => isCode c || c.before args0 about1) = true := by decide +kernel
theorem w_tables : (allAtoms (Jvm.Cond.code x code maxLocals ret :: tables_1)).before args0 about1 = true := by
  rw [allAtoms_all]
  show words1.all (fun c => c.before args0 about1) = true
  refine all_split ?_ w_codes
  rw [← List.take_append_drop 24 words1, List.all_append, w_t1, ← List.take_append_drop 24 (words1.drop 24), List.all_append, w_t2, ← List.take_append_drop 24 ((words1.drop 24).drop 24), List.all_append, w_t3, ← List.take_append_drop 24 (((words1.drop 24).drop 24).drop 24), List.all_append, w_t4, ← List.take_append_drop 24 ((((words1.drop 24).drop 24).drop 24).drop 24), List.all_append, w_t5, w_t6]
  rfl
set_option maxRecDepth 65536 in
theorem w_rest : rest_1_c.before args0 about1 = true := by decide +kernel
set_option maxRecDepth 65536 in
theorem w_case : (Jvm.Cond.and given_1 narrow_1).before args0 about1 = true := by decide +kernel
theorem w_applies : (headSpec (Jvm.Cond.code x code maxLocals ret :: tables_1) room_1).applies x e0.platform about1 = true :=
  (Spec.applies_iff w_frames).mpr ⟨w_running, w_runnable, w_alone, w_named, w_hears, w_ripe, w_room, w_tables⟩
theorem atStart : AtStart classFile x code maxLocals ret World_1 tables_1 room_1 Calls_1 rest_1 Pre_1 launch0 p0 e0 about1 theMethod args0 below0 :=
  ⟨lists_1, trivial, launch0.admits_env _ _ _, launch0.least_env, fairChoices_fair.cas, fairChoices_fair.clock, w_frames, w_args, w_heap, w_applies, trivial, w_rest, w_case⟩
end start1
theorem witness_1 : WitnessClaimed_1 := ⟨start1.p0, start1.e0, start1.about1, start1.theMethod, start1.args0, start1.below0, start1.atStart⟩
end Jvm.Pilot.@@N@@
