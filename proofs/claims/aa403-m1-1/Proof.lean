import JvmDerived
import JvmDerived.Pilot.@@N@@Statement
import JvmDerived.Pilot.@@N@@Code
set_option linter.unusedVariables false
set_option linter.unusedSimpArgs false

namespace Jvm.RoadKit
open Sem ClassFile Op Lib Jvm.Stand Jvm.Free Jvm.LawKit
section New
variable {p : Program} {l : Launch} {e : Env} {R : Room} {s : State} {m : MethodId} {args : Array Value} {below : List Frame} {meth : Method} {c : Code} {T : State} {locs : List Loc} {cells slots : Nat}
theorem retI (X : Stand p l e R s m args below meth c T locs cells slots) (hx : p.tables.exec = Jvm.exec) {pc : Nat} {Ls : Array Slot} {z : Int32} {rest : List Value} (hret : meth.sig.returnType = some .int) (hd : decode c.code pc = .ok (.ireturn, 1)) {fs : List Frame}
    (hl : ∀ (f : JFrame) (acts : List Action), f.method = m → f.locked = none → f.entered = [] → (doReturn e (T.setTop f) acts (some (.int z))).1 = T.setFrames fs) : Steps p.tables e below (T.setTop (mkF m pc Ls (.int z :: rest))) (T.setFrames fs) := by
  have hm' : T.vm.method? m = some meth := X.method'
  have hn : narrow .int (.int z) = .int z := rfl
  show Steps p.tables e below (T.setTop { method := m, pc := pc, locals := Ls, stack := _ :: rest, locked := none }) _
  jvm_step X.here [X.here.top, hx, hd, hm', hret, hn]
  first | (intro acts; rw [hl _ acts rfl rfl rfl]) | rw [hl _ _ rfl rfl rfl]
  exact Steps.refl _
end New
end Jvm.RoadKit

namespace Jvm.Pilot.@@N@@
open Jvm Jvm.ClassFile Sem Op Lib Jvm.Free Jvm.Stand Jvm.LawKit Jvm.RoadKit Bundle Jvm.Pilot.@@N@@.Jvm.D
abbrev own_S (p : Program) (e : Env) (below : List Frame) (T : State) (f : JFrame) (t : State) : Prop := Steps p.tables e below (T.setTop f) t

theorem own_eqi {args : Array Value} {first s : State} {o : Option Outcome} {idx : List Nat} {t : Term} {k : Int32} (h : (Jvm.Cond.eq t (Term.int k)).value args first o s idx = some true) : t.eval args first o idx s = some (.int k) := by
  simp only [Jvm.Cond.value, Term.eval] at h
  cases ht : t.eval args first o idx s with
  | none => simp [ht] at h
  | some x => cases x <;> simp [ht] at h; rw [h]
theorem own_eql {args : Array Value} {first s : State} {o : Option Outcome} {idx : List Nat} {t : Term} {k : Int64} (h : (Jvm.Cond.eq t (Term.long k)).value args first o s idx = some true) : t.eval args first o idx s = some (.long k) := by
  simp only [Jvm.Cond.value, Term.eval] at h
  cases ht : t.eval args first o idx s with
  | none => simp [ht] at h
  | some x => cases x <;> simp [ht] at h; rw [h]

theorem own_bit (x : Int32) : (x &&& (1 : Int32)) = (0 : Int32) ∨ (x &&& (1 : Int32)) = (1 : Int32) := by
  have h := c_and x (1 : Int32) (by decide)
  have h2 : (x &&& (1 : Int32)).toInt ≤ 1 := h.2
  rcases (by omega : (x &&& (1 : Int32)).toInt = 0 ∨ (x &&& (1 : Int32)).toInt = 1) with e | e
  · exact Or.inl (Int32.toInt_inj.mp e)
  · exact Or.inr (Int32.toInt_inj.mp e)
def own_fits (t p : Int64) : Int32 := if (t + p) < t then 0 else 1
def own_room (u2 u4 p : Int64) : Int32 := if ((9223372036854775807 : Int64) - p) < u2 then 0 else if ((9223372036854775807 : Int64) - p) < u4 then 0 else 1
theorem own_over (t p : Int64) (hp : 0 ≤ p.toInt) : ((9223372036854775807 : Int64) - p) < t ↔ (t + p) < t := by
  rw [Int64.lt_iff_toInt_lt, Int64.lt_iff_toInt_lt]
  have h1 := c_lsub (9223372036854775807 : Int64) p
  have h2 := c_ladd t p
  have r1 := rng64 t
  have r2 := rng64 p
  have r3 := rng64 ((9223372036854775807 : Int64) - p)
  have r4 := rng64 (t + p)
  have e : (9223372036854775807 : Int64).toInt = 9223372036854775807 := by decide
  rw [e] at h1
  omega
theorem own_pos (p : Int64) : 0 ≤ (p &&& (9223372036854775807 : Int64)).toInt := (c_andSL p (9223372036854775807 : Int64)).2.2 (by decide)
theorem own_law (a b p : Int64) (hp : 0 ≤ p.toInt) : own_room a b p = if own_fits a p = 0 then 0 else if own_fits b p = 0 then 0 else 1 := by
  unfold own_room own_fits
  by_cases h1 : ((9223372036854775807 : Int64) - p) < a
  · rw [if_pos h1, if_pos ((own_over a p hp).mp h1)]; rfl
  · rw [if_neg h1, if_neg (fun q => h1 ((own_over a p hp).mpr q))]
    by_cases h2 : ((9223372036854775807 : Int64) - p) < b
    · rw [if_pos h2, if_pos ((own_over b p hp).mp h2)]; rfl
    · rw [if_neg h2, if_neg (fun q => h2 ((own_over b p hp).mpr q))]; rfl

theorem d_prog_25_method_1_0 : decode prog_25_method_1_code 0 = .ok (.aload_n 0, 1) := by decide +kernel
theorem d_prog_25_method_1_1 : decode prog_25_method_1_code 1 = .ok (.invokespecial 1, 3) := by decide +kernel
theorem d_prog_25_method_1_4 : decode prog_25_method_1_code 4 = .ok (.aload_n 0, 1) := by decide +kernel
theorem d_prog_25_method_1_5 : decode prog_25_method_1_code 5 = .ok (.iload_n 1, 1) := by decide +kernel
theorem d_prog_25_method_1_6 : decode prog_25_method_1_code 6 = .ok (.bipush 8, 2) := by decide +kernel
theorem d_prog_25_method_1_8 : decode prog_25_method_1_code 8 = .ok (.imul, 1) := by decide +kernel
theorem d_prog_25_method_1_9 : decode prog_25_method_1_code 9 = .ok (.newarray .long, 2) := by decide +kernel
theorem d_prog_25_method_1_11 : decode prog_25_method_1_code 11 = .ok (.putfield 9, 3) := by decide +kernel
theorem d_prog_25_method_1_14 : decode prog_25_method_1_code 14 = .ok (.return_, 1) := by decide +kernel
theorem pn_0 : plainName "com/example/pricecollar/pricecollar/engine/ReferencePrices" = true := by first | (simp [plainName, overriddenIn]; done) | decide +kernel
theorem ef_rm1 (m : MethodId) (x0 : Addr) : entryFrame m #[(.ref x0), (.int (2 : Int32))] 2 = mkF m 0 #[.val (.ref x0), .val (.int (2 : Int32))] [] := by first | (simp [entryFrame, mkF, argsToLocals, Value.category]; done) | rfl
def Q1 (Z : State) (a1 : Addr) (h0 : Heap) (n0 : Nat) (v : Option Value) (h : Heap) (L : List Loc) : Prop := v = none ∧ Fr n0 L ∧ ∃ (b : Addr) (kk : ClassId), n0 ≤ b ∧ a1 ≠ b ∧ Keep h0 h [a1] ∧ Exa Z h a1 "com/example/pricecollar/pricecollar/engine/ReferencePrices" ∧ Fld Z h a1 "com/example/pricecollar/pricecollar/engine/ReferencePrices" "numbers" "[J" (.ref b) ∧ Arv Z h b kk .long (16 : Int32) [(.long (0 : Int64)), (.long (0 : Int64)), (.long (0 : Int64)), (.long (0 : Int64)), (.long (0 : Int64)), (.long (0 : Int64)), (.long (0 : Int64)), (.long (0 : Int64)), (.long (0 : Int64)), (.long (0 : Int64)), (.long (0 : Int64)), (.long (0 : Int64)), (.long (0 : Int64)), (.long (0 : Int64)), (.long (0 : Int64)), (.long (0 : Int64))] (.long (0 : Int64))
set_option maxRecDepth 65536 in
set_option maxHeartbeats 40000000 in
theorem rm1 (l : Launch) (Z : State) (a0 : Array Value) (hw : ∀ d ∈ tables_1, d.before a0 Z = true) (ws : List Jvm.Cond) (a1 : Addr) (h0 : Heap) (n0 : Nat) (Z0 : n0 ≤ h0.size) (F1 : Fld Z h0 a1 "com/example/pricecollar/pricecollar/engine/ReferencePrices" "numbers" "[J" .null) (E1 : Exa Z h0 a1 "com/example/pricecollar/pricecollar/engine/ReferencePrices") (g_a1 : n0 ≤ a1) :
    MetFree l (⟨"com/example/pricecollar/pricecollar/engine/ReferencePrices", "<init>", "(I)V"⟩ : MethodName) (head1 (Jvm.Cond.code (⟨"com/example/pricecollar/pricecollar/engine/ReferencePrices", "<init>", "(I)V"⟩ : MethodName) prog_25_method_1_code 2 none :: ws) ({ frames := 1, cells := 1, slots := 16, locals := 12 } : Room)) (fun a U => a = #[(.ref a1), (.int (2 : Int32))] ∧ Z.Warmed39 U.vm ∧ U.heap = h0) (fun _ _ _ _ _ => True) (fun _ U o U' => ∃ v L, o = .returned v ∧ Q1 Z a1 h0 n0 v U'.heap L ∧ FrameEnd U o U' L ({ frames := 1, cells := 1, slots := 16, locals := 12 } : Room).cells ({ frames := 1, cells := 1, slots := 16, locals := 12 } : Room).slots) := by
  refine MetFree.of_bodySF (plainFor_of_name pn_0) hisR ?_
  intro p e s m args below meth c s₁ Bd hml0 hP hK
  obtain ⟨rfl, hZ, hh⟩ := hP
  have hx := Bd.exec
  have hby := Bd.bytes
  have hml : c.maxLocals = 2 := hml0
  have hown : s.vm.findClass "com/example/pricecollar/pricecollar/engine/ReferencePrices" = some m.cls := findClass_of_methodNamed Bd.named
  have hnm := (name_of_methodNamed Bd.named Bd.method).1
  have X0 : Stand p l e ({ frames := 1, cells := 1, slots := 16, locals := 12 } : Room) s m #[(.ref a1), (.int (2 : Int32))] below meth c s₁ [] 0 0 := Stand.of_body Bd
  have e0 : s₁.heap = h0 := by rw [← hh, Bd.state]; rfl
  have N0 := Fr.nil n0
  obtain ⟨Gl, hGl, k0⟩ : ∃ Gl : State → Prop, (∀ t, Gl t → Steps p.tables e below (s₁.setTop (entryFrame m #[(.ref a1), (.int (2 : Int32))] 2)) t) ∧ ∀ t, own_S p e below s₁ (mkF m 0 #[.val (.ref a1), .val (.int (2 : Int32))] []) t → Gl t := ⟨fun t => Steps p.tables e below (s₁.setTop (entryFrame m #[(.ref a1), (.int (2 : Int32))] 2)) t, fun _ k => k, fun t k => castTop (ef_rm1 m a1) k⟩
  have k1 : ∀ t, own_S p e below s₁ (mkF m 1 #[.val (.ref a1), .val (.int (2 : Int32))] [(.ref a1)]) t → Gl t := fun t kt => k0 t (by
    show own_S p e below s₁ (mkF m 0 #[.val (.ref a1), .val (.int (2 : Int32))] []) _
    refine XS.aloadN X0.here hx rfl (hb hby d_prog_25_method_1_0) rfl rfl ?_
    exact kt)
  obtain ⟨T2, X2, e2, st2⟩ := initO X0 hx hZ hown (hw _ (List.mem_of_getElem? (i := 7) rfl)) (hw _ (List.mem_of_getElem? (i := 8) rfl)) (hw _ (List.mem_of_getElem? (i := 9) rfl)) e0 (g := (mkF m 1 #[.val (.ref a1), .val (.int (2 : Int32))] [(.ref a1)])) rfl (by rw [hml]; rfl) rfl (hb hby d_prog_25_method_1_1) (by decide) (W := 0) (by show 2 * 0 + _ ≤ _; exact Nat.le_of_eq rfl) (by decide)
  have k3 : ∀ t, own_S p e below T2 (mkF m 4 #[.val (.ref a1), .val (.int (2 : Int32))] []) t → Gl t := fun t kt => k1 t (st2 _ kt)
  have k4 : ∀ t, own_S p e below T2 (mkF m 9 #[.val (.ref a1), .val (.int (2 : Int32))] [(.int (16 : Int32)), (.ref a1)]) t → Gl t := fun t kt => k3 t (by
    show own_S p e below T2 (mkF m 4 #[.val (.ref a1), .val (.int (2 : Int32))] []) _
    refine XS.aloadN X2.here hx rfl (hb hby d_prog_25_method_1_4) rfl rfl ?_
    show own_S p e below T2 (mkF m 5 #[.val (.ref a1), .val (.int (2 : Int32))] [(.ref a1)]) _
    refine XS.iloadN X2.here hx rfl (hb hby d_prog_25_method_1_5) rfl ?_
    show own_S p e below T2 (mkF m 6 #[.val (.ref a1), .val (.int (2 : Int32))] [(.int (2 : Int32)), (.ref a1)]) _
    refine XS.bipush X2.here hx rfl (hb hby d_prog_25_method_1_6) ?_
    show own_S p e below T2 (mkF m 8 #[.val (.ref a1), .val (.int (2 : Int32))] [(.int (8 : Int32)), (.int (2 : Int32)), (.ref a1)]) _
    refine XS.imul X2.here hx rfl (hb hby d_prog_25_method_1_8) rfl ?_
    rw [(by decide : ((2 : Int32) * (8 : Int32)) = (16 : Int32))]
    exact kt)
  obtain ⟨T5, h5, kk5, X5, e5, E5, A5, st5⟩ := newP X2 hx hZ (hw _ (List.mem_of_getElem? (i := 10) rfl)) e2 (g := (mkF m 9 #[.val (.ref a1), .val (.int (2 : Int32))] [(.int (16 : Int32)), (.ref a1)])) rfl (hb hby d_prog_25_method_1_9) rfl (by decide) (cap := 16) (by decide) (by decide) (by decide) (by decide)
  obtain ⟨b5, g5⟩ : ∃ z, z = h0.size := ⟨_, rfl⟩
  rw [← g5] at A5 st5
  have sz_b5 : h0.size ≤ b5 := Nat.le_trans (Keep.refl h0 [a1]).1 (Nat.le_of_eq g5.symm)
  have g_b5 : n0 ≤ b5 := Nat.le_trans Z0 (Nat.le_of_eq g5.symm)
  have ne_a1_b5 : a1 ≠ b5 := Nat.ne_of_lt (Nat.lt_of_lt_of_le F1.lt (Nat.le_of_eq g5.symm))
  have Z6 : n0 ≤ h5.size := Nat.le_trans Z0 E5.1
  have K7 : Keep h0 h5 [a1] := (Keep.refl h0 [a1]).ext E5
  have V5 : Arv Z h5 b5 kk5 .long (16 : Int32) [(.long (0 : Int64)), (.long (0 : Int64)), (.long (0 : Int64)), (.long (0 : Int64)), (.long (0 : Int64)), (.long (0 : Int64)), (.long (0 : Int64)), (.long (0 : Int64)), (.long (0 : Int64)), (.long (0 : Int64)), (.long (0 : Int64)), (.long (0 : Int64)), (.long (0 : Int64)), (.long (0 : Int64)), (.long (0 : Int64)), (.long (0 : Int64))] (.long (0 : Int64)) := (Arv.new A5 (by decide)).pad (pad_rep [] (.long (0 : Int64)) 16)
  have k8 : ∀ t, own_S p e below T5 (mkF m 11 #[.val (.ref a1), .val (.int (2 : Int32))] [(.ref b5), (.ref a1)]) t → Gl t := fun t kt => k4 t (st5 _ kt)
  have f9 := (F1.ext E5)
  have f10 := (E1.ext E5)
  obtain ⟨T11, h11, X11, e11, W11, st11⟩ := putF X5 hx hZ hown (host := "") (Or.inl (hw _ (List.mem_of_getElem? (i := 11) rfl))) Via.refl e5 f9 f10 (Or.inr ⟨(hw _ (List.mem_of_getElem? (i := 12) rfl)), rfl, hnm⟩) (hw _ (List.mem_of_getElem? (i := 2) rfl)) (ty := (.array .long)) (by decide) rfl rfl (g := (mkF m 11 #[.val (.ref a1), .val (.int (2 : Int32))] [(.ref b5), (.ref a1)])) rfl rfl (hb hby d_prog_25_method_1_11)
  have Z12 : n0 ≤ h11.size := Nat.le_trans Z6 (Keep.of_wr W11).1
  have K13 : Keep h0 h11 [a1] := K7.wr W11 (Or.inl (List.mem_of_getElem? (i := 0) rfl))
  have Fw11 := f9.same W11
  have N14 := Fr.snoc X11 N0 g_a1
  have k15 : ∀ t, own_S p e below T11 (mkF m 14 #[.val (.ref a1), .val (.int (2 : Int32))] []) t → Gl t := fun t kt => k8 t (st11 _ kt)
  obtain ⟨fs, hr, hrun, hended, hW, hsame⟩ := X11.leave (v := none) (fun _ => rfl)
  refine ⟨_, _, hGl _ (k15 _ (X11.returnOut hx Bd.returns (hb hby d_prog_25_method_1_14) hr)), hrun, hended, _, _, rfl, ?_, ⟨_, rfl⟩, hW, hsame.mono (by decide) (by decide)⟩
  show Q1 Z a1 h0 n0 _ T11.heap _
  rw [e11]
  have f16 := (f10.wr W11)
  have f17 := (V5.other W11 (Ne.symm ne_a1_b5))
  exact ⟨rfl, N14, b5, _, g_b5, ne_a1_b5, K13, f16, Fw11, f17⟩

theorem d_prog_25_method_7_0 : decode prog_25_method_7_code 0 = .ok (.iload_n 1, 1) := by decide +kernel
theorem d_prog_25_method_7_1 : decode prog_25_method_7_code 1 = .ok (.bipush 8, 2) := by decide +kernel
theorem d_prog_25_method_7_3 : decode prog_25_method_7_code 3 = .ok (.imul, 1) := by decide +kernel
theorem d_prog_25_method_7_4 : decode prog_25_method_7_code 4 = .ok (.istore 6, 2) := by decide +kernel
theorem d_prog_25_method_7_6 : decode prog_25_method_7_code 6 = .ok (.aload_n 0, 1) := by decide +kernel
theorem d_prog_25_method_7_7 : decode prog_25_method_7_code 7 = .ok (.getfield 9, 3) := by decide +kernel
theorem d_prog_25_method_7_10 : decode prog_25_method_7_code 10 = .ok (.iload 6, 2) := by decide +kernel
theorem d_prog_25_method_7_12 : decode prog_25_method_7_code 12 = .ok (.iconst 0, 1) := by decide +kernel
theorem d_prog_25_method_7_13 : decode prog_25_method_7_code 13 = .ok (.iadd, 1) := by decide +kernel
theorem d_prog_25_method_7_14 : decode prog_25_method_7_code 14 = .ok (.lload_n 2, 1) := by decide +kernel
theorem d_prog_25_method_7_15 : decode prog_25_method_7_code 15 = .ok (.lastore, 1) := by decide +kernel
theorem d_prog_25_method_7_16 : decode prog_25_method_7_code 16 = .ok (.aload_n 0, 1) := by decide +kernel
theorem d_prog_25_method_7_17 : decode prog_25_method_7_code 17 = .ok (.getfield 9, 3) := by decide +kernel
theorem d_prog_25_method_7_20 : decode prog_25_method_7_code 20 = .ok (.iload 6, 2) := by decide +kernel
theorem d_prog_25_method_7_22 : decode prog_25_method_7_code 22 = .ok (.iconst 1, 1) := by decide +kernel
theorem d_prog_25_method_7_23 : decode prog_25_method_7_code 23 = .ok (.iadd, 1) := by decide +kernel
theorem d_prog_25_method_7_24 : decode prog_25_method_7_code 24 = .ok (.lconst 1, 1) := by decide +kernel
theorem d_prog_25_method_7_25 : decode prog_25_method_7_code 25 = .ok (.lastore, 1) := by decide +kernel
theorem d_prog_25_method_7_26 : decode prog_25_method_7_code 26 = .ok (.aload_n 0, 1) := by decide +kernel
theorem d_prog_25_method_7_27 : decode prog_25_method_7_code 27 = .ok (.getfield 9, 3) := by decide +kernel
theorem d_prog_25_method_7_30 : decode prog_25_method_7_code 30 = .ok (.iload 6, 2) := by decide +kernel
theorem d_prog_25_method_7_32 : decode prog_25_method_7_code 32 = .ok (.iconst 4, 1) := by decide +kernel
theorem d_prog_25_method_7_33 : decode prog_25_method_7_code 33 = .ok (.iadd, 1) := by decide +kernel
theorem d_prog_25_method_7_34 : decode prog_25_method_7_code 34 = .ok (.lload_n 2, 1) := by decide +kernel
theorem d_prog_25_method_7_35 : decode prog_25_method_7_code 35 = .ok (.lastore, 1) := by decide +kernel
theorem d_prog_25_method_7_36 : decode prog_25_method_7_code 36 = .ok (.aload_n 0, 1) := by decide +kernel
theorem d_prog_25_method_7_37 : decode prog_25_method_7_code 37 = .ok (.getfield 9, 3) := by decide +kernel
theorem d_prog_25_method_7_40 : decode prog_25_method_7_code 40 = .ok (.iload 6, 2) := by decide +kernel
theorem d_prog_25_method_7_42 : decode prog_25_method_7_code 42 = .ok (.iconst 5, 1) := by decide +kernel
theorem d_prog_25_method_7_43 : decode prog_25_method_7_code 43 = .ok (.iadd, 1) := by decide +kernel
theorem d_prog_25_method_7_44 : decode prog_25_method_7_code 44 = .ok (.lconst 1, 1) := by decide +kernel
theorem d_prog_25_method_7_45 : decode prog_25_method_7_code 45 = .ok (.lastore, 1) := by decide +kernel
theorem d_prog_25_method_7_46 : decode prog_25_method_7_code 46 = .ok (.aload_n 0, 1) := by decide +kernel
theorem d_prog_25_method_7_47 : decode prog_25_method_7_code 47 = .ok (.getfield 9, 3) := by decide +kernel
theorem d_prog_25_method_7_50 : decode prog_25_method_7_code 50 = .ok (.iload 6, 2) := by decide +kernel
theorem d_prog_25_method_7_52 : decode prog_25_method_7_code 52 = .ok (.bipush 6, 2) := by decide +kernel
theorem d_prog_25_method_7_54 : decode prog_25_method_7_code 54 = .ok (.iadd, 1) := by decide +kernel
theorem d_prog_25_method_7_55 : decode prog_25_method_7_code 55 = .ok (.lload 4, 2) := by decide +kernel
theorem d_prog_25_method_7_57 : decode prog_25_method_7_code 57 = .ok (.getstatic 22, 3) := by decide +kernel
theorem d_prog_25_method_7_60 : decode prog_25_method_7_code 60 = .ok (.ladd, 1) := by decide +kernel
theorem d_prog_25_method_7_61 : decode prog_25_method_7_code 61 = .ok (.lastore, 1) := by decide +kernel
theorem d_prog_25_method_7_62 : decode prog_25_method_7_code 62 = .ok (.aload_n 0, 1) := by decide +kernel
theorem d_prog_25_method_7_63 : decode prog_25_method_7_code 63 = .ok (.getfield 9, 3) := by decide +kernel
theorem d_prog_25_method_7_66 : decode prog_25_method_7_code 66 = .ok (.iload 6, 2) := by decide +kernel
theorem d_prog_25_method_7_68 : decode prog_25_method_7_code 68 = .ok (.bipush 7, 2) := by decide +kernel
theorem d_prog_25_method_7_70 : decode prog_25_method_7_code 70 = .ok (.iadd, 1) := by decide +kernel
theorem d_prog_25_method_7_71 : decode prog_25_method_7_code 71 = .ok (.lload 4, 2) := by decide +kernel
theorem d_prog_25_method_7_73 : decode prog_25_method_7_code 73 = .ok (.getstatic 28, 3) := by decide +kernel
theorem d_prog_25_method_7_76 : decode prog_25_method_7_code 76 = .ok (.ladd, 1) := by decide +kernel
theorem d_prog_25_method_7_77 : decode prog_25_method_7_code 77 = .ok (.lastore, 1) := by decide +kernel
theorem d_prog_25_method_7_78 : decode prog_25_method_7_code 78 = .ok (.return_, 1) := by decide +kernel
theorem ef_rm3_0 (m : MethodId) (x0 : Addr) (x2 : Int64) (x3 : Int64) : entryFrame m #[(.ref x0), (.int (0 : Int32)), (.long x2), (.long x3)] 7 = mkF m 0 #[.val (.ref x0), .val (.int (0 : Int32)), .val (.long x2), .second, .val (.long x3), .second, .unset] [] := by first | (simp [entryFrame, mkF, argsToLocals, Value.category]; done) | rfl
def Q3_0 (Z : State) (a1 : Addr) (q3 : Int64) (q4 : Int64) (b1 : Addr) (kk1 : ClassId) (u0 : Int64) (u1 : Int64) (u2 : Int64) (u3 : Int64) (u4 : Int64) (u5 : Int64) (u6 : Int64) (u7 : Int64) (u8 : Int64) (u9 : Int64) (u10 : Int64) (u11 : Int64) (u12 : Int64) (u13 : Int64) (u14 : Int64) (u15 : Int64) (h0 : Heap) (n0 : Nat) (v : Option Value) (h : Heap) (L : List Loc) : Prop := v = none ∧ Fr n0 L ∧ Keep h0 h [b1] ∧ Arv Z h b1 kk1 .long (16 : Int32) [(.long q3), (.long (1 : Int64)), (.long u2), (.long u3), (.long q3), (.long (1 : Int64)), (.long (q4 + (30000000 : Int64))), (.long (q4 + (300000000 : Int64))), (.long u8), (.long u9), (.long u10), (.long u11), (.long u12), (.long u13), (.long u14), (.long u15)] (.long (0 : Int64))
set_option maxRecDepth 65536 in
set_option maxHeartbeats 40000000 in
theorem rm3_0 (l : Launch) (Z : State) (a0 : Array Value) (hw : ∀ d ∈ tables_1, d.before a0 Z = true) (ws : List Jvm.Cond) (a1 : Addr) (q3 : Int64) (q4 : Int64) (b1 : Addr) (kk1 : ClassId) (u0 : Int64) (u1 : Int64) (u2 : Int64) (u3 : Int64) (u4 : Int64) (u5 : Int64) (u6 : Int64) (u7 : Int64) (u8 : Int64) (u9 : Int64) (u10 : Int64) (u11 : Int64) (u12 : Int64) (u13 : Int64) (u14 : Int64) (u15 : Int64) (h0 : Heap) (n0 : Nat) (Z0 : n0 ≤ h0.size) (F1 : Fld Z h0 a1 "com/example/pricecollar/pricecollar/engine/ReferencePrices" "numbers" "[J" (.ref b1)) (V1 : Arv Z h0 b1 kk1 .long (16 : Int32) [(.long u0), (.long u1), (.long u2), (.long u3), (.long u4), (.long u5), (.long u6), (.long u7), (.long u8), (.long u9), (.long u10), (.long u11), (.long u12), (.long u13), (.long u14), (.long u15)] (.long (0 : Int64))) (g_b1 : n0 ≤ b1) (ne1 : a1 ≠ b1) (O0 : Old Z n0 h0) (S1 : Sta Z Z.heap "com/example/pricecollar/pricecollar/engine/BandRules" "HOLD_LENGTH" "J" (.long (30000000 : Int64))) (S2 : Sta Z Z.heap "com/example/pricecollar/pricecollar/engine/BandRules" "OPENING_PERIOD_LENGTH" "J" (.long (300000000 : Int64))) :
    MetFree l (⟨"com/example/pricecollar/pricecollar/engine/ReferencePrices", "open", "(IJJ)V"⟩ : MethodName) (head1 (Jvm.Cond.code (⟨"com/example/pricecollar/pricecollar/engine/ReferencePrices", "open", "(IJJ)V"⟩ : MethodName) prog_25_method_7_code 7 none :: ws) ({ frames := 0, cells := 0, slots := 0, locals := 0 } : Room)) (fun a U => a = #[(.ref a1), (.int (0 : Int32)), (.long q3), (.long q4)] ∧ Z.Warmed39 U.vm ∧ U.heap = h0) (fun _ _ _ _ _ => True) (fun _ U o U' => ∃ v L, o = .returned v ∧ Q3_0 Z a1 q3 q4 b1 kk1 u0 u1 u2 u3 u4 u5 u6 u7 u8 u9 u10 u11 u12 u13 u14 u15 h0 n0 v U'.heap L ∧ FrameEnd U o U' L ({ frames := 0, cells := 0, slots := 0, locals := 0 } : Room).cells ({ frames := 0, cells := 0, slots := 0, locals := 0 } : Room).slots) := by
  refine MetFree.of_bodySF (plainFor_of_name pn_0) hisR ?_
  intro p e s m args below meth c s₁ Bd hml0 hP hK
  obtain ⟨rfl, hZ, hh⟩ := hP
  have hx := Bd.exec
  have hby := Bd.bytes
  have hml : c.maxLocals = 7 := hml0
  have hown : s.vm.findClass "com/example/pricecollar/pricecollar/engine/ReferencePrices" = some m.cls := findClass_of_methodNamed Bd.named
  have hnm := (name_of_methodNamed Bd.named Bd.method).1
  have X0 : Stand p l e ({ frames := 0, cells := 0, slots := 0, locals := 0 } : Room) s m #[(.ref a1), (.int (0 : Int32)), (.long q3), (.long q4)] below meth c s₁ [] 0 0 := Stand.of_body Bd
  have e0 : s₁.heap = h0 := by rw [← hh, Bd.state]; rfl
  have N0 := Fr.nil n0
  obtain ⟨Gl, hGl, k0⟩ : ∃ Gl : State → Prop, (∀ t, Gl t → Steps p.tables e below (s₁.setTop (entryFrame m #[(.ref a1), (.int (0 : Int32)), (.long q3), (.long q4)] 7)) t) ∧ ∀ t, own_S p e below s₁ (mkF m 0 #[.val (.ref a1), .val (.int (0 : Int32)), .val (.long q3), .second, .val (.long q4), .second, .unset] []) t → Gl t := ⟨fun t => Steps p.tables e below (s₁.setTop (entryFrame m #[(.ref a1), (.int (0 : Int32)), (.long q3), (.long q4)] 7)) t, fun _ k => k, fun t k => castTop (ef_rm3_0 m a1 q3 q4) k⟩
  have k1 : ∀ t, own_S p e below s₁ (mkF m 7 #[.val (.ref a1), .val (.int (0 : Int32)), .val (.long q3), .second, .val (.long q4), .second, .val (.int (0 : Int32))] [(.ref a1)]) t → Gl t := fun t kt => k0 t (by
    show own_S p e below s₁ (mkF m 0 #[.val (.ref a1), .val (.int (0 : Int32)), .val (.long q3), .second, .val (.long q4), .second, .unset] []) _
    refine XS.iloadN X0.here hx rfl (hb hby d_prog_25_method_7_0) rfl ?_
    show own_S p e below s₁ (mkF m 1 #[.val (.ref a1), .val (.int (0 : Int32)), .val (.long q3), .second, .val (.long q4), .second, .unset] [(.int (0 : Int32))]) _
    refine XS.bipush X0.here hx rfl (hb hby d_prog_25_method_7_1) ?_
    show own_S p e below s₁ (mkF m 3 #[.val (.ref a1), .val (.int (0 : Int32)), .val (.long q3), .second, .val (.long q4), .second, .unset] [(.int (8 : Int32)), (.int (0 : Int32))]) _
    refine XS.imul X0.here hx rfl (hb hby d_prog_25_method_7_3) rfl ?_
    rw [(by decide : ((0 : Int32) * (8 : Int32)) = (0 : Int32))]
    show own_S p e below s₁ (mkF m 4 #[.val (.ref a1), .val (.int (0 : Int32)), .val (.long q3), .second, .val (.long q4), .second, .unset] [(.int (0 : Int32))]) _
    refine XS.istore X0.here hx rfl (hb hby d_prog_25_method_7_4) rfl (l' := #[.val (.ref a1), .val (.int (0 : Int32)), .val (.long q3), .second, .val (.long q4), .second, .val (.int (0 : Int32))]) rfl ?_
    show own_S p e below s₁ (mkF m 6 #[.val (.ref a1), .val (.int (0 : Int32)), .val (.long q3), .second, .val (.long q4), .second, .val (.int (0 : Int32))] []) _
    refine XS.aloadN X0.here hx rfl (hb hby d_prog_25_method_7_6) rfl rfl ?_
    exact kt)
  obtain ⟨T2, X2, e2, st2⟩ := getF X0 hx hZ hown (host := "") (Or.inl (hw _ (List.mem_of_getElem? (i := 11) rfl))) Via.refl e0 F1 (g := (mkF m 7 #[.val (.ref a1), .val (.int (0 : Int32)), .val (.long q3), .second, .val (.long q4), .second, .val (.int (0 : Int32))] [(.ref a1)])) rfl rfl (hb hby d_prog_25_method_7_7)
  have k3 : ∀ t, own_S p e below T2 (mkF m 10 #[.val (.ref a1), .val (.int (0 : Int32)), .val (.long q3), .second, .val (.long q4), .second, .val (.int (0 : Int32))] [(.ref b1)]) t → Gl t := fun t kt => k1 t (st2 _ kt)
  have k4 : ∀ t, own_S p e below T2 (mkF m 15 #[.val (.ref a1), .val (.int (0 : Int32)), .val (.long q3), .second, .val (.long q4), .second, .val (.int (0 : Int32))] [(.long q3), (.int (0 : Int32)), (.ref b1)]) t → Gl t := fun t kt => k3 t (by
    show own_S p e below T2 (mkF m 10 #[.val (.ref a1), .val (.int (0 : Int32)), .val (.long q3), .second, .val (.long q4), .second, .val (.int (0 : Int32))] [(.ref b1)]) _
    refine XS.iload X2.here hx rfl (hb hby d_prog_25_method_7_10) rfl ?_
    show own_S p e below T2 (mkF m 12 #[.val (.ref a1), .val (.int (0 : Int32)), .val (.long q3), .second, .val (.long q4), .second, .val (.int (0 : Int32))] [(.int (0 : Int32)), (.ref b1)]) _
    refine XS.iconst X2.here hx rfl (hb hby d_prog_25_method_7_12) ?_
    show own_S p e below T2 (mkF m 13 #[.val (.ref a1), .val (.int (0 : Int32)), .val (.long q3), .second, .val (.long q4), .second, .val (.int (0 : Int32))] [(.int (0 : Int32)), (.int (0 : Int32)), (.ref b1)]) _
    refine XS.iadd X2.here hx rfl (hb hby d_prog_25_method_7_13) rfl ?_
    rw [(by decide : ((0 : Int32) + (0 : Int32)) = (0 : Int32))]
    show own_S p e below T2 (mkF m 14 #[.val (.ref a1), .val (.int (0 : Int32)), .val (.long q3), .second, .val (.long q4), .second, .val (.int (0 : Int32))] [(.int (0 : Int32)), (.ref b1)]) _
    refine XS.lloadN X2.here hx rfl (hb hby d_prog_25_method_7_14) rfl ?_
    exact kt)
  obtain ⟨cl5, Ar5, q5, Sz5, Ng5, Hs5, Gs5⟩ := id V1
  have hin5 : ¬ ((0 : Int32) < 0 ∨ cl5.slots.size ≤ ((0 : Int32)).toNatClampNeg) := inb_of Sz5 ⟨by decide, by decide⟩
  obtain ⟨T5, h5, X5, e5, W5, st5⟩ := stJ X2 hx hZ e2 Ar5 (j := (0 : Int32)) hin5 (g := (mkF m 15 #[.val (.ref a1), .val (.int (0 : Int32)), .val (.long q3), .second, .val (.long q4), .second, .val (.int (0 : Int32))] [(.long q3), (.int (0 : Int32)), (.ref b1)])) rfl rfl (hb hby d_prog_25_method_7_15)
  have Z6 : n0 ≤ h5.size := Nat.le_trans Z0 (Keep.of_wr W5).1
  have O7 : Old Z n0 h5 := O0.wr W5 g_b1
  have K8 : Keep h0 h5 [b1] := (Keep.refl h0 [b1]).wr W5 (Or.inl (List.mem_of_getElem? (i := 0) rfl))
  have V5 : Arv Z h5 b1 kk1 .long (16 : Int32) [(.long q3), (.long u1), (.long u2), (.long u3), (.long u4), (.long u5), (.long u6), (.long u7), (.long u8), (.long u9), (.long u10), (.long u11), (.long u12), (.long u13), (.long u14), (.long u15)] (.long (0 : Int64)) := Arv.set Ar5 q5 Sz5 Ng5 Hs5 Gs5 rfl W5 0 rfl (Nat.le_of_ble_eq_true rfl)
  have N9 := Fr.snoc X5 N0 g_b1
  have k10 : ∀ t, own_S p e below T5 (mkF m 16 #[.val (.ref a1), .val (.int (0 : Int32)), .val (.long q3), .second, .val (.long q4), .second, .val (.int (0 : Int32))] []) t → Gl t := fun t kt => k4 t (st5 _ kt)
  have k11 : ∀ t, own_S p e below T5 (mkF m 17 #[.val (.ref a1), .val (.int (0 : Int32)), .val (.long q3), .second, .val (.long q4), .second, .val (.int (0 : Int32))] [(.ref a1)]) t → Gl t := fun t kt => k10 t (by
    show own_S p e below T5 (mkF m 16 #[.val (.ref a1), .val (.int (0 : Int32)), .val (.long q3), .second, .val (.long q4), .second, .val (.int (0 : Int32))] []) _
    refine XS.aloadN X5.here hx rfl (hb hby d_prog_25_method_7_16) rfl rfl ?_
    exact kt)
  have f12 := (F1.other W5 (Or.inl ne1))
  obtain ⟨T13, X13, e13, st13⟩ := getF X5 hx hZ hown (host := "") (Or.inl (hw _ (List.mem_of_getElem? (i := 11) rfl))) Via.refl e5 f12 (g := (mkF m 17 #[.val (.ref a1), .val (.int (0 : Int32)), .val (.long q3), .second, .val (.long q4), .second, .val (.int (0 : Int32))] [(.ref a1)])) rfl rfl (hb hby d_prog_25_method_7_17)
  have k14 : ∀ t, own_S p e below T13 (mkF m 20 #[.val (.ref a1), .val (.int (0 : Int32)), .val (.long q3), .second, .val (.long q4), .second, .val (.int (0 : Int32))] [(.ref b1)]) t → Gl t := fun t kt => k11 t (st13 _ kt)
  have k15 : ∀ t, own_S p e below T13 (mkF m 25 #[.val (.ref a1), .val (.int (0 : Int32)), .val (.long q3), .second, .val (.long q4), .second, .val (.int (0 : Int32))] [(.long (1 : Int64)), (.int (1 : Int32)), (.ref b1)]) t → Gl t := fun t kt => k14 t (by
    show own_S p e below T13 (mkF m 20 #[.val (.ref a1), .val (.int (0 : Int32)), .val (.long q3), .second, .val (.long q4), .second, .val (.int (0 : Int32))] [(.ref b1)]) _
    refine XS.iload X13.here hx rfl (hb hby d_prog_25_method_7_20) rfl ?_
    show own_S p e below T13 (mkF m 22 #[.val (.ref a1), .val (.int (0 : Int32)), .val (.long q3), .second, .val (.long q4), .second, .val (.int (0 : Int32))] [(.int (0 : Int32)), (.ref b1)]) _
    refine XS.iconst X13.here hx rfl (hb hby d_prog_25_method_7_22) ?_
    show own_S p e below T13 (mkF m 23 #[.val (.ref a1), .val (.int (0 : Int32)), .val (.long q3), .second, .val (.long q4), .second, .val (.int (0 : Int32))] [(.int (1 : Int32)), (.int (0 : Int32)), (.ref b1)]) _
    refine XS.iadd X13.here hx rfl (hb hby d_prog_25_method_7_23) rfl ?_
    rw [(by decide : ((0 : Int32) + (1 : Int32)) = (1 : Int32))]
    show own_S p e below T13 (mkF m 24 #[.val (.ref a1), .val (.int (0 : Int32)), .val (.long q3), .second, .val (.long q4), .second, .val (.int (0 : Int32))] [(.int (1 : Int32)), (.ref b1)]) _
    refine XS.lconst X13.here hx rfl (hb hby d_prog_25_method_7_24) ?_
    exact kt)
  obtain ⟨cl16, Ar16, q16, Sz16, Ng16, Hs16, Gs16⟩ := id V5
  have hin16 : ¬ ((1 : Int32) < 0 ∨ cl16.slots.size ≤ ((1 : Int32)).toNatClampNeg) := inb_of Sz16 ⟨by decide, by decide⟩
  obtain ⟨T16, h16, X16, e16, W16, st16⟩ := stJ X13 hx hZ e13 Ar16 (j := (1 : Int32)) hin16 (g := (mkF m 25 #[.val (.ref a1), .val (.int (0 : Int32)), .val (.long q3), .second, .val (.long q4), .second, .val (.int (0 : Int32))] [(.long (1 : Int64)), (.int (1 : Int32)), (.ref b1)])) rfl rfl (hb hby d_prog_25_method_7_25)
  have Z17 : n0 ≤ h16.size := Nat.le_trans Z6 (Keep.of_wr W16).1
  have O18 : Old Z n0 h16 := O7.wr W16 g_b1
  have K19 : Keep h0 h16 [b1] := K8.wr W16 (Or.inl (List.mem_of_getElem? (i := 0) rfl))
  have V16 : Arv Z h16 b1 kk1 .long (16 : Int32) [(.long q3), (.long (1 : Int64)), (.long u2), (.long u3), (.long u4), (.long u5), (.long u6), (.long u7), (.long u8), (.long u9), (.long u10), (.long u11), (.long u12), (.long u13), (.long u14), (.long u15)] (.long (0 : Int64)) := Arv.set Ar16 q16 Sz16 Ng16 Hs16 Gs16 rfl W16 1 rfl (Nat.le_of_ble_eq_true rfl)
  have N20 := Fr.snoc X16 N9 g_b1
  have k21 : ∀ t, own_S p e below T16 (mkF m 26 #[.val (.ref a1), .val (.int (0 : Int32)), .val (.long q3), .second, .val (.long q4), .second, .val (.int (0 : Int32))] []) t → Gl t := fun t kt => k15 t (st16 _ kt)
  have k22 : ∀ t, own_S p e below T16 (mkF m 27 #[.val (.ref a1), .val (.int (0 : Int32)), .val (.long q3), .second, .val (.long q4), .second, .val (.int (0 : Int32))] [(.ref a1)]) t → Gl t := fun t kt => k21 t (by
    show own_S p e below T16 (mkF m 26 #[.val (.ref a1), .val (.int (0 : Int32)), .val (.long q3), .second, .val (.long q4), .second, .val (.int (0 : Int32))] []) _
    refine XS.aloadN X16.here hx rfl (hb hby d_prog_25_method_7_26) rfl rfl ?_
    exact kt)
  have f23 := (f12.other W16 (Or.inl ne1))
  obtain ⟨T24, X24, e24, st24⟩ := getF X16 hx hZ hown (host := "") (Or.inl (hw _ (List.mem_of_getElem? (i := 11) rfl))) Via.refl e16 f23 (g := (mkF m 27 #[.val (.ref a1), .val (.int (0 : Int32)), .val (.long q3), .second, .val (.long q4), .second, .val (.int (0 : Int32))] [(.ref a1)])) rfl rfl (hb hby d_prog_25_method_7_27)
  have k25 : ∀ t, own_S p e below T24 (mkF m 30 #[.val (.ref a1), .val (.int (0 : Int32)), .val (.long q3), .second, .val (.long q4), .second, .val (.int (0 : Int32))] [(.ref b1)]) t → Gl t := fun t kt => k22 t (st24 _ kt)
  have k26 : ∀ t, own_S p e below T24 (mkF m 35 #[.val (.ref a1), .val (.int (0 : Int32)), .val (.long q3), .second, .val (.long q4), .second, .val (.int (0 : Int32))] [(.long q3), (.int (4 : Int32)), (.ref b1)]) t → Gl t := fun t kt => k25 t (by
    show own_S p e below T24 (mkF m 30 #[.val (.ref a1), .val (.int (0 : Int32)), .val (.long q3), .second, .val (.long q4), .second, .val (.int (0 : Int32))] [(.ref b1)]) _
    refine XS.iload X24.here hx rfl (hb hby d_prog_25_method_7_30) rfl ?_
    show own_S p e below T24 (mkF m 32 #[.val (.ref a1), .val (.int (0 : Int32)), .val (.long q3), .second, .val (.long q4), .second, .val (.int (0 : Int32))] [(.int (0 : Int32)), (.ref b1)]) _
    refine XS.iconst X24.here hx rfl (hb hby d_prog_25_method_7_32) ?_
    show own_S p e below T24 (mkF m 33 #[.val (.ref a1), .val (.int (0 : Int32)), .val (.long q3), .second, .val (.long q4), .second, .val (.int (0 : Int32))] [(.int (4 : Int32)), (.int (0 : Int32)), (.ref b1)]) _
    refine XS.iadd X24.here hx rfl (hb hby d_prog_25_method_7_33) rfl ?_
    rw [(by decide : ((0 : Int32) + (4 : Int32)) = (4 : Int32))]
    show own_S p e below T24 (mkF m 34 #[.val (.ref a1), .val (.int (0 : Int32)), .val (.long q3), .second, .val (.long q4), .second, .val (.int (0 : Int32))] [(.int (4 : Int32)), (.ref b1)]) _
    refine XS.lloadN X24.here hx rfl (hb hby d_prog_25_method_7_34) rfl ?_
    exact kt)
  obtain ⟨cl27, Ar27, q27, Sz27, Ng27, Hs27, Gs27⟩ := id V16
  have hin27 : ¬ ((4 : Int32) < 0 ∨ cl27.slots.size ≤ ((4 : Int32)).toNatClampNeg) := inb_of Sz27 ⟨by decide, by decide⟩
  obtain ⟨T27, h27, X27, e27, W27, st27⟩ := stJ X24 hx hZ e24 Ar27 (j := (4 : Int32)) hin27 (g := (mkF m 35 #[.val (.ref a1), .val (.int (0 : Int32)), .val (.long q3), .second, .val (.long q4), .second, .val (.int (0 : Int32))] [(.long q3), (.int (4 : Int32)), (.ref b1)])) rfl rfl (hb hby d_prog_25_method_7_35)
  have Z28 : n0 ≤ h27.size := Nat.le_trans Z17 (Keep.of_wr W27).1
  have O29 : Old Z n0 h27 := O18.wr W27 g_b1
  have K30 : Keep h0 h27 [b1] := K19.wr W27 (Or.inl (List.mem_of_getElem? (i := 0) rfl))
  have V27 : Arv Z h27 b1 kk1 .long (16 : Int32) [(.long q3), (.long (1 : Int64)), (.long u2), (.long u3), (.long q3), (.long u5), (.long u6), (.long u7), (.long u8), (.long u9), (.long u10), (.long u11), (.long u12), (.long u13), (.long u14), (.long u15)] (.long (0 : Int64)) := Arv.set Ar27 q27 Sz27 Ng27 Hs27 Gs27 rfl W27 4 rfl (Nat.le_of_ble_eq_true rfl)
  have N31 := Fr.snoc X27 N20 g_b1
  have k32 : ∀ t, own_S p e below T27 (mkF m 36 #[.val (.ref a1), .val (.int (0 : Int32)), .val (.long q3), .second, .val (.long q4), .second, .val (.int (0 : Int32))] []) t → Gl t := fun t kt => k26 t (st27 _ kt)
  have k33 : ∀ t, own_S p e below T27 (mkF m 37 #[.val (.ref a1), .val (.int (0 : Int32)), .val (.long q3), .second, .val (.long q4), .second, .val (.int (0 : Int32))] [(.ref a1)]) t → Gl t := fun t kt => k32 t (by
    show own_S p e below T27 (mkF m 36 #[.val (.ref a1), .val (.int (0 : Int32)), .val (.long q3), .second, .val (.long q4), .second, .val (.int (0 : Int32))] []) _
    refine XS.aloadN X27.here hx rfl (hb hby d_prog_25_method_7_36) rfl rfl ?_
    exact kt)
  have f34 := (f23.other W27 (Or.inl ne1))
  obtain ⟨T35, X35, e35, st35⟩ := getF X27 hx hZ hown (host := "") (Or.inl (hw _ (List.mem_of_getElem? (i := 11) rfl))) Via.refl e27 f34 (g := (mkF m 37 #[.val (.ref a1), .val (.int (0 : Int32)), .val (.long q3), .second, .val (.long q4), .second, .val (.int (0 : Int32))] [(.ref a1)])) rfl rfl (hb hby d_prog_25_method_7_37)
  have k36 : ∀ t, own_S p e below T35 (mkF m 40 #[.val (.ref a1), .val (.int (0 : Int32)), .val (.long q3), .second, .val (.long q4), .second, .val (.int (0 : Int32))] [(.ref b1)]) t → Gl t := fun t kt => k33 t (st35 _ kt)
  have k37 : ∀ t, own_S p e below T35 (mkF m 45 #[.val (.ref a1), .val (.int (0 : Int32)), .val (.long q3), .second, .val (.long q4), .second, .val (.int (0 : Int32))] [(.long (1 : Int64)), (.int (5 : Int32)), (.ref b1)]) t → Gl t := fun t kt => k36 t (by
    show own_S p e below T35 (mkF m 40 #[.val (.ref a1), .val (.int (0 : Int32)), .val (.long q3), .second, .val (.long q4), .second, .val (.int (0 : Int32))] [(.ref b1)]) _
    refine XS.iload X35.here hx rfl (hb hby d_prog_25_method_7_40) rfl ?_
    show own_S p e below T35 (mkF m 42 #[.val (.ref a1), .val (.int (0 : Int32)), .val (.long q3), .second, .val (.long q4), .second, .val (.int (0 : Int32))] [(.int (0 : Int32)), (.ref b1)]) _
    refine XS.iconst X35.here hx rfl (hb hby d_prog_25_method_7_42) ?_
    show own_S p e below T35 (mkF m 43 #[.val (.ref a1), .val (.int (0 : Int32)), .val (.long q3), .second, .val (.long q4), .second, .val (.int (0 : Int32))] [(.int (5 : Int32)), (.int (0 : Int32)), (.ref b1)]) _
    refine XS.iadd X35.here hx rfl (hb hby d_prog_25_method_7_43) rfl ?_
    rw [(by decide : ((0 : Int32) + (5 : Int32)) = (5 : Int32))]
    show own_S p e below T35 (mkF m 44 #[.val (.ref a1), .val (.int (0 : Int32)), .val (.long q3), .second, .val (.long q4), .second, .val (.int (0 : Int32))] [(.int (5 : Int32)), (.ref b1)]) _
    refine XS.lconst X35.here hx rfl (hb hby d_prog_25_method_7_44) ?_
    exact kt)
  obtain ⟨cl38, Ar38, q38, Sz38, Ng38, Hs38, Gs38⟩ := id V27
  have hin38 : ¬ ((5 : Int32) < 0 ∨ cl38.slots.size ≤ ((5 : Int32)).toNatClampNeg) := inb_of Sz38 ⟨by decide, by decide⟩
  obtain ⟨T38, h38, X38, e38, W38, st38⟩ := stJ X35 hx hZ e35 Ar38 (j := (5 : Int32)) hin38 (g := (mkF m 45 #[.val (.ref a1), .val (.int (0 : Int32)), .val (.long q3), .second, .val (.long q4), .second, .val (.int (0 : Int32))] [(.long (1 : Int64)), (.int (5 : Int32)), (.ref b1)])) rfl rfl (hb hby d_prog_25_method_7_45)
  have Z39 : n0 ≤ h38.size := Nat.le_trans Z28 (Keep.of_wr W38).1
  have O40 : Old Z n0 h38 := O29.wr W38 g_b1
  have K41 : Keep h0 h38 [b1] := K30.wr W38 (Or.inl (List.mem_of_getElem? (i := 0) rfl))
  have V38 : Arv Z h38 b1 kk1 .long (16 : Int32) [(.long q3), (.long (1 : Int64)), (.long u2), (.long u3), (.long q3), (.long (1 : Int64)), (.long u6), (.long u7), (.long u8), (.long u9), (.long u10), (.long u11), (.long u12), (.long u13), (.long u14), (.long u15)] (.long (0 : Int64)) := Arv.set Ar38 q38 Sz38 Ng38 Hs38 Gs38 rfl W38 5 rfl (Nat.le_of_ble_eq_true rfl)
  have N42 := Fr.snoc X38 N31 g_b1
  have k43 : ∀ t, own_S p e below T38 (mkF m 46 #[.val (.ref a1), .val (.int (0 : Int32)), .val (.long q3), .second, .val (.long q4), .second, .val (.int (0 : Int32))] []) t → Gl t := fun t kt => k37 t (st38 _ kt)
  have k44 : ∀ t, own_S p e below T38 (mkF m 47 #[.val (.ref a1), .val (.int (0 : Int32)), .val (.long q3), .second, .val (.long q4), .second, .val (.int (0 : Int32))] [(.ref a1)]) t → Gl t := fun t kt => k43 t (by
    show own_S p e below T38 (mkF m 46 #[.val (.ref a1), .val (.int (0 : Int32)), .val (.long q3), .second, .val (.long q4), .second, .val (.int (0 : Int32))] []) _
    refine XS.aloadN X38.here hx rfl (hb hby d_prog_25_method_7_46) rfl rfl ?_
    exact kt)
  have f45 := (f34.other W38 (Or.inl ne1))
  obtain ⟨T46, X46, e46, st46⟩ := getF X38 hx hZ hown (host := "") (Or.inl (hw _ (List.mem_of_getElem? (i := 11) rfl))) Via.refl e38 f45 (g := (mkF m 47 #[.val (.ref a1), .val (.int (0 : Int32)), .val (.long q3), .second, .val (.long q4), .second, .val (.int (0 : Int32))] [(.ref a1)])) rfl rfl (hb hby d_prog_25_method_7_47)
  have k47 : ∀ t, own_S p e below T46 (mkF m 50 #[.val (.ref a1), .val (.int (0 : Int32)), .val (.long q3), .second, .val (.long q4), .second, .val (.int (0 : Int32))] [(.ref b1)]) t → Gl t := fun t kt => k44 t (st46 _ kt)
  have k48 : ∀ t, own_S p e below T46 (mkF m 57 #[.val (.ref a1), .val (.int (0 : Int32)), .val (.long q3), .second, .val (.long q4), .second, .val (.int (0 : Int32))] [(.long q4), (.int (6 : Int32)), (.ref b1)]) t → Gl t := fun t kt => k47 t (by
    show own_S p e below T46 (mkF m 50 #[.val (.ref a1), .val (.int (0 : Int32)), .val (.long q3), .second, .val (.long q4), .second, .val (.int (0 : Int32))] [(.ref b1)]) _
    refine XS.iload X46.here hx rfl (hb hby d_prog_25_method_7_50) rfl ?_
    show own_S p e below T46 (mkF m 52 #[.val (.ref a1), .val (.int (0 : Int32)), .val (.long q3), .second, .val (.long q4), .second, .val (.int (0 : Int32))] [(.int (0 : Int32)), (.ref b1)]) _
    refine XS.bipush X46.here hx rfl (hb hby d_prog_25_method_7_52) ?_
    show own_S p e below T46 (mkF m 54 #[.val (.ref a1), .val (.int (0 : Int32)), .val (.long q3), .second, .val (.long q4), .second, .val (.int (0 : Int32))] [(.int (6 : Int32)), (.int (0 : Int32)), (.ref b1)]) _
    refine XS.iadd X46.here hx rfl (hb hby d_prog_25_method_7_54) rfl ?_
    rw [(by decide : ((0 : Int32) + (6 : Int32)) = (6 : Int32))]
    show own_S p e below T46 (mkF m 55 #[.val (.ref a1), .val (.int (0 : Int32)), .val (.long q3), .second, .val (.long q4), .second, .val (.int (0 : Int32))] [(.int (6 : Int32)), (.ref b1)]) _
    refine XS.lload X46.here hx rfl (hb hby d_prog_25_method_7_55) rfl ?_
    exact kt)
  obtain ⟨T49, X49, e49, st49⟩ := getS2 X46 hx hZ hown (host := "") (Or.inl (hw _ (List.mem_of_getElem? (i := 18) rfl))) Via.refl e46 (S1.ext O40.2) (g := (mkF m 57 #[.val (.ref a1), .val (.int (0 : Int32)), .val (.long q3), .second, .val (.long q4), .second, .val (.int (0 : Int32))] [(.long q4), (.int (6 : Int32)), (.ref b1)])) rfl (hb hby d_prog_25_method_7_57)
  have k50 : ∀ t, own_S p e below T49 (mkF m 60 #[.val (.ref a1), .val (.int (0 : Int32)), .val (.long q3), .second, .val (.long q4), .second, .val (.int (0 : Int32))] [(.long (30000000 : Int64)), (.long q4), (.int (6 : Int32)), (.ref b1)]) t → Gl t := fun t kt => k48 t (st49 _ kt)
  have k51 : ∀ t, own_S p e below T49 (mkF m 61 #[.val (.ref a1), .val (.int (0 : Int32)), .val (.long q3), .second, .val (.long q4), .second, .val (.int (0 : Int32))] [(.long (q4 + (30000000 : Int64))), (.int (6 : Int32)), (.ref b1)]) t → Gl t := fun t kt => k50 t (by
    show own_S p e below T49 (mkF m 60 #[.val (.ref a1), .val (.int (0 : Int32)), .val (.long q3), .second, .val (.long q4), .second, .val (.int (0 : Int32))] [(.long (30000000 : Int64)), (.long q4), (.int (6 : Int32)), (.ref b1)]) _
    refine XS.ladd X49.here hx rfl (hb hby d_prog_25_method_7_60) rfl ?_
    exact kt)
  obtain ⟨cl52, Ar52, q52, Sz52, Ng52, Hs52, Gs52⟩ := id V38
  have hin52 : ¬ ((6 : Int32) < 0 ∨ cl52.slots.size ≤ ((6 : Int32)).toNatClampNeg) := inb_of Sz52 ⟨by decide, by decide⟩
  obtain ⟨T52, h52, X52, e52, W52, st52⟩ := stJ X49 hx hZ e49 Ar52 (j := (6 : Int32)) hin52 (g := (mkF m 61 #[.val (.ref a1), .val (.int (0 : Int32)), .val (.long q3), .second, .val (.long q4), .second, .val (.int (0 : Int32))] [(.long (q4 + (30000000 : Int64))), (.int (6 : Int32)), (.ref b1)])) rfl rfl (hb hby d_prog_25_method_7_61)
  have Z53 : n0 ≤ h52.size := Nat.le_trans Z39 (Keep.of_wr W52).1
  have O54 : Old Z n0 h52 := O40.wr W52 g_b1
  have K55 : Keep h0 h52 [b1] := K41.wr W52 (Or.inl (List.mem_of_getElem? (i := 0) rfl))
  have V52 : Arv Z h52 b1 kk1 .long (16 : Int32) [(.long q3), (.long (1 : Int64)), (.long u2), (.long u3), (.long q3), (.long (1 : Int64)), (.long (q4 + (30000000 : Int64))), (.long u7), (.long u8), (.long u9), (.long u10), (.long u11), (.long u12), (.long u13), (.long u14), (.long u15)] (.long (0 : Int64)) := Arv.set Ar52 q52 Sz52 Ng52 Hs52 Gs52 rfl W52 6 rfl (Nat.le_of_ble_eq_true rfl)
  have N56 := Fr.snoc X52 N42 g_b1
  have k57 : ∀ t, own_S p e below T52 (mkF m 62 #[.val (.ref a1), .val (.int (0 : Int32)), .val (.long q3), .second, .val (.long q4), .second, .val (.int (0 : Int32))] []) t → Gl t := fun t kt => k51 t (st52 _ kt)
  have k58 : ∀ t, own_S p e below T52 (mkF m 63 #[.val (.ref a1), .val (.int (0 : Int32)), .val (.long q3), .second, .val (.long q4), .second, .val (.int (0 : Int32))] [(.ref a1)]) t → Gl t := fun t kt => k57 t (by
    show own_S p e below T52 (mkF m 62 #[.val (.ref a1), .val (.int (0 : Int32)), .val (.long q3), .second, .val (.long q4), .second, .val (.int (0 : Int32))] []) _
    refine XS.aloadN X52.here hx rfl (hb hby d_prog_25_method_7_62) rfl rfl ?_
    exact kt)
  have f59 := (f45.other W52 (Or.inl ne1))
  obtain ⟨T60, X60, e60, st60⟩ := getF X52 hx hZ hown (host := "") (Or.inl (hw _ (List.mem_of_getElem? (i := 11) rfl))) Via.refl e52 f59 (g := (mkF m 63 #[.val (.ref a1), .val (.int (0 : Int32)), .val (.long q3), .second, .val (.long q4), .second, .val (.int (0 : Int32))] [(.ref a1)])) rfl rfl (hb hby d_prog_25_method_7_63)
  have k61 : ∀ t, own_S p e below T60 (mkF m 66 #[.val (.ref a1), .val (.int (0 : Int32)), .val (.long q3), .second, .val (.long q4), .second, .val (.int (0 : Int32))] [(.ref b1)]) t → Gl t := fun t kt => k58 t (st60 _ kt)
  have k62 : ∀ t, own_S p e below T60 (mkF m 73 #[.val (.ref a1), .val (.int (0 : Int32)), .val (.long q3), .second, .val (.long q4), .second, .val (.int (0 : Int32))] [(.long q4), (.int (7 : Int32)), (.ref b1)]) t → Gl t := fun t kt => k61 t (by
    show own_S p e below T60 (mkF m 66 #[.val (.ref a1), .val (.int (0 : Int32)), .val (.long q3), .second, .val (.long q4), .second, .val (.int (0 : Int32))] [(.ref b1)]) _
    refine XS.iload X60.here hx rfl (hb hby d_prog_25_method_7_66) rfl ?_
    show own_S p e below T60 (mkF m 68 #[.val (.ref a1), .val (.int (0 : Int32)), .val (.long q3), .second, .val (.long q4), .second, .val (.int (0 : Int32))] [(.int (0 : Int32)), (.ref b1)]) _
    refine XS.bipush X60.here hx rfl (hb hby d_prog_25_method_7_68) ?_
    show own_S p e below T60 (mkF m 70 #[.val (.ref a1), .val (.int (0 : Int32)), .val (.long q3), .second, .val (.long q4), .second, .val (.int (0 : Int32))] [(.int (7 : Int32)), (.int (0 : Int32)), (.ref b1)]) _
    refine XS.iadd X60.here hx rfl (hb hby d_prog_25_method_7_70) rfl ?_
    rw [(by decide : ((0 : Int32) + (7 : Int32)) = (7 : Int32))]
    show own_S p e below T60 (mkF m 71 #[.val (.ref a1), .val (.int (0 : Int32)), .val (.long q3), .second, .val (.long q4), .second, .val (.int (0 : Int32))] [(.int (7 : Int32)), (.ref b1)]) _
    refine XS.lload X60.here hx rfl (hb hby d_prog_25_method_7_71) rfl ?_
    exact kt)
  obtain ⟨T63, X63, e63, st63⟩ := getS2 X60 hx hZ hown (host := "") (Or.inl (hw _ (List.mem_of_getElem? (i := 21) rfl))) Via.refl e60 (S2.ext O54.2) (g := (mkF m 73 #[.val (.ref a1), .val (.int (0 : Int32)), .val (.long q3), .second, .val (.long q4), .second, .val (.int (0 : Int32))] [(.long q4), (.int (7 : Int32)), (.ref b1)])) rfl (hb hby d_prog_25_method_7_73)
  have k64 : ∀ t, own_S p e below T63 (mkF m 76 #[.val (.ref a1), .val (.int (0 : Int32)), .val (.long q3), .second, .val (.long q4), .second, .val (.int (0 : Int32))] [(.long (300000000 : Int64)), (.long q4), (.int (7 : Int32)), (.ref b1)]) t → Gl t := fun t kt => k62 t (st63 _ kt)
  have k65 : ∀ t, own_S p e below T63 (mkF m 77 #[.val (.ref a1), .val (.int (0 : Int32)), .val (.long q3), .second, .val (.long q4), .second, .val (.int (0 : Int32))] [(.long (q4 + (300000000 : Int64))), (.int (7 : Int32)), (.ref b1)]) t → Gl t := fun t kt => k64 t (by
    show own_S p e below T63 (mkF m 76 #[.val (.ref a1), .val (.int (0 : Int32)), .val (.long q3), .second, .val (.long q4), .second, .val (.int (0 : Int32))] [(.long (300000000 : Int64)), (.long q4), (.int (7 : Int32)), (.ref b1)]) _
    refine XS.ladd X63.here hx rfl (hb hby d_prog_25_method_7_76) rfl ?_
    exact kt)
  obtain ⟨cl66, Ar66, q66, Sz66, Ng66, Hs66, Gs66⟩ := id V52
  have hin66 : ¬ ((7 : Int32) < 0 ∨ cl66.slots.size ≤ ((7 : Int32)).toNatClampNeg) := inb_of Sz66 ⟨by decide, by decide⟩
  obtain ⟨T66, h66, X66, e66, W66, st66⟩ := stJ X63 hx hZ e63 Ar66 (j := (7 : Int32)) hin66 (g := (mkF m 77 #[.val (.ref a1), .val (.int (0 : Int32)), .val (.long q3), .second, .val (.long q4), .second, .val (.int (0 : Int32))] [(.long (q4 + (300000000 : Int64))), (.int (7 : Int32)), (.ref b1)])) rfl rfl (hb hby d_prog_25_method_7_77)
  have Z67 : n0 ≤ h66.size := Nat.le_trans Z53 (Keep.of_wr W66).1
  have O68 : Old Z n0 h66 := O54.wr W66 g_b1
  have K69 : Keep h0 h66 [b1] := K55.wr W66 (Or.inl (List.mem_of_getElem? (i := 0) rfl))
  have V66 : Arv Z h66 b1 kk1 .long (16 : Int32) [(.long q3), (.long (1 : Int64)), (.long u2), (.long u3), (.long q3), (.long (1 : Int64)), (.long (q4 + (30000000 : Int64))), (.long (q4 + (300000000 : Int64))), (.long u8), (.long u9), (.long u10), (.long u11), (.long u12), (.long u13), (.long u14), (.long u15)] (.long (0 : Int64)) := Arv.set Ar66 q66 Sz66 Ng66 Hs66 Gs66 rfl W66 7 rfl (Nat.le_of_ble_eq_true rfl)
  have N70 := Fr.snoc X66 N56 g_b1
  have k71 : ∀ t, own_S p e below T66 (mkF m 78 #[.val (.ref a1), .val (.int (0 : Int32)), .val (.long q3), .second, .val (.long q4), .second, .val (.int (0 : Int32))] []) t → Gl t := fun t kt => k65 t (st66 _ kt)
  obtain ⟨fs, hr, hrun, hended, hW, hsame⟩ := X66.leave (v := none) (fun _ => rfl)
  refine ⟨_, _, hGl _ (k71 _ (X66.returnOut hx Bd.returns (hb hby d_prog_25_method_7_78) hr)), hrun, hended, _, _, rfl, ?_, ⟨_, rfl⟩, hW, hsame.mono (by decide) (by decide)⟩
  show Q3_0 Z a1 q3 q4 b1 kk1 u0 u1 u2 u3 u4 u5 u6 u7 u8 u9 u10 u11 u12 u13 u14 u15 h0 n0 _ T66.heap _
  rw [e66]
  exact ⟨rfl, N70, K69, V66⟩

theorem ef_rm3_1 (m : MethodId) (x0 : Addr) (x2 : Int64) (x3 : Int64) : entryFrame m #[(.ref x0), (.int (1 : Int32)), (.long x2), (.long x3)] 7 = mkF m 0 #[.val (.ref x0), .val (.int (1 : Int32)), .val (.long x2), .second, .val (.long x3), .second, .unset] [] := by first | (simp [entryFrame, mkF, argsToLocals, Value.category]; done) | rfl
def Q3_1 (Z : State) (a1 : Addr) (q3 : Int64) (q4 : Int64) (b1 : Addr) (kk1 : ClassId) (u0 : Int64) (u1 : Int64) (u2 : Int64) (u3 : Int64) (u4 : Int64) (u5 : Int64) (u6 : Int64) (u7 : Int64) (u8 : Int64) (u9 : Int64) (u10 : Int64) (u11 : Int64) (u12 : Int64) (u13 : Int64) (u14 : Int64) (u15 : Int64) (h0 : Heap) (n0 : Nat) (v : Option Value) (h : Heap) (L : List Loc) : Prop := v = none ∧ Fr n0 L ∧ Keep h0 h [b1] ∧ Arv Z h b1 kk1 .long (16 : Int32) [(.long u0), (.long u1), (.long u2), (.long u3), (.long u4), (.long u5), (.long u6), (.long u7), (.long q3), (.long (1 : Int64)), (.long u10), (.long u11), (.long q3), (.long (1 : Int64)), (.long (q4 + (30000000 : Int64))), (.long (q4 + (300000000 : Int64)))] (.long (0 : Int64))
set_option maxRecDepth 65536 in
set_option maxHeartbeats 40000000 in
theorem rm3_1 (l : Launch) (Z : State) (a0 : Array Value) (hw : ∀ d ∈ tables_1, d.before a0 Z = true) (ws : List Jvm.Cond) (a1 : Addr) (q3 : Int64) (q4 : Int64) (b1 : Addr) (kk1 : ClassId) (u0 : Int64) (u1 : Int64) (u2 : Int64) (u3 : Int64) (u4 : Int64) (u5 : Int64) (u6 : Int64) (u7 : Int64) (u8 : Int64) (u9 : Int64) (u10 : Int64) (u11 : Int64) (u12 : Int64) (u13 : Int64) (u14 : Int64) (u15 : Int64) (h0 : Heap) (n0 : Nat) (Z0 : n0 ≤ h0.size) (F1 : Fld Z h0 a1 "com/example/pricecollar/pricecollar/engine/ReferencePrices" "numbers" "[J" (.ref b1)) (V1 : Arv Z h0 b1 kk1 .long (16 : Int32) [(.long u0), (.long u1), (.long u2), (.long u3), (.long u4), (.long u5), (.long u6), (.long u7), (.long u8), (.long u9), (.long u10), (.long u11), (.long u12), (.long u13), (.long u14), (.long u15)] (.long (0 : Int64))) (g_b1 : n0 ≤ b1) (ne1 : a1 ≠ b1) (O0 : Old Z n0 h0) (S1 : Sta Z Z.heap "com/example/pricecollar/pricecollar/engine/BandRules" "HOLD_LENGTH" "J" (.long (30000000 : Int64))) (S2 : Sta Z Z.heap "com/example/pricecollar/pricecollar/engine/BandRules" "OPENING_PERIOD_LENGTH" "J" (.long (300000000 : Int64))) :
    MetFree l (⟨"com/example/pricecollar/pricecollar/engine/ReferencePrices", "open", "(IJJ)V"⟩ : MethodName) (head1 (Jvm.Cond.code (⟨"com/example/pricecollar/pricecollar/engine/ReferencePrices", "open", "(IJJ)V"⟩ : MethodName) prog_25_method_7_code 7 none :: ws) ({ frames := 0, cells := 0, slots := 0, locals := 0 } : Room)) (fun a U => a = #[(.ref a1), (.int (1 : Int32)), (.long q3), (.long q4)] ∧ Z.Warmed39 U.vm ∧ U.heap = h0) (fun _ _ _ _ _ => True) (fun _ U o U' => ∃ v L, o = .returned v ∧ Q3_1 Z a1 q3 q4 b1 kk1 u0 u1 u2 u3 u4 u5 u6 u7 u8 u9 u10 u11 u12 u13 u14 u15 h0 n0 v U'.heap L ∧ FrameEnd U o U' L ({ frames := 0, cells := 0, slots := 0, locals := 0 } : Room).cells ({ frames := 0, cells := 0, slots := 0, locals := 0 } : Room).slots) := by
  refine MetFree.of_bodySF (plainFor_of_name pn_0) hisR ?_
  intro p e s m args below meth c s₁ Bd hml0 hP hK
  obtain ⟨rfl, hZ, hh⟩ := hP
  have hx := Bd.exec
  have hby := Bd.bytes
  have hml : c.maxLocals = 7 := hml0
  have hown : s.vm.findClass "com/example/pricecollar/pricecollar/engine/ReferencePrices" = some m.cls := findClass_of_methodNamed Bd.named
  have hnm := (name_of_methodNamed Bd.named Bd.method).1
  have X0 : Stand p l e ({ frames := 0, cells := 0, slots := 0, locals := 0 } : Room) s m #[(.ref a1), (.int (1 : Int32)), (.long q3), (.long q4)] below meth c s₁ [] 0 0 := Stand.of_body Bd
  have e0 : s₁.heap = h0 := by rw [← hh, Bd.state]; rfl
  have N0 := Fr.nil n0
  obtain ⟨Gl, hGl, k0⟩ : ∃ Gl : State → Prop, (∀ t, Gl t → Steps p.tables e below (s₁.setTop (entryFrame m #[(.ref a1), (.int (1 : Int32)), (.long q3), (.long q4)] 7)) t) ∧ ∀ t, own_S p e below s₁ (mkF m 0 #[.val (.ref a1), .val (.int (1 : Int32)), .val (.long q3), .second, .val (.long q4), .second, .unset] []) t → Gl t := ⟨fun t => Steps p.tables e below (s₁.setTop (entryFrame m #[(.ref a1), (.int (1 : Int32)), (.long q3), (.long q4)] 7)) t, fun _ k => k, fun t k => castTop (ef_rm3_1 m a1 q3 q4) k⟩
  have k1 : ∀ t, own_S p e below s₁ (mkF m 7 #[.val (.ref a1), .val (.int (1 : Int32)), .val (.long q3), .second, .val (.long q4), .second, .val (.int (8 : Int32))] [(.ref a1)]) t → Gl t := fun t kt => k0 t (by
    show own_S p e below s₁ (mkF m 0 #[.val (.ref a1), .val (.int (1 : Int32)), .val (.long q3), .second, .val (.long q4), .second, .unset] []) _
    refine XS.iloadN X0.here hx rfl (hb hby d_prog_25_method_7_0) rfl ?_
    show own_S p e below s₁ (mkF m 1 #[.val (.ref a1), .val (.int (1 : Int32)), .val (.long q3), .second, .val (.long q4), .second, .unset] [(.int (1 : Int32))]) _
    refine XS.bipush X0.here hx rfl (hb hby d_prog_25_method_7_1) ?_
    show own_S p e below s₁ (mkF m 3 #[.val (.ref a1), .val (.int (1 : Int32)), .val (.long q3), .second, .val (.long q4), .second, .unset] [(.int (8 : Int32)), (.int (1 : Int32))]) _
    refine XS.imul X0.here hx rfl (hb hby d_prog_25_method_7_3) rfl ?_
    rw [(by decide : ((1 : Int32) * (8 : Int32)) = (8 : Int32))]
    show own_S p e below s₁ (mkF m 4 #[.val (.ref a1), .val (.int (1 : Int32)), .val (.long q3), .second, .val (.long q4), .second, .unset] [(.int (8 : Int32))]) _
    refine XS.istore X0.here hx rfl (hb hby d_prog_25_method_7_4) rfl (l' := #[.val (.ref a1), .val (.int (1 : Int32)), .val (.long q3), .second, .val (.long q4), .second, .val (.int (8 : Int32))]) rfl ?_
    show own_S p e below s₁ (mkF m 6 #[.val (.ref a1), .val (.int (1 : Int32)), .val (.long q3), .second, .val (.long q4), .second, .val (.int (8 : Int32))] []) _
    refine XS.aloadN X0.here hx rfl (hb hby d_prog_25_method_7_6) rfl rfl ?_
    exact kt)
  obtain ⟨T2, X2, e2, st2⟩ := getF X0 hx hZ hown (host := "") (Or.inl (hw _ (List.mem_of_getElem? (i := 11) rfl))) Via.refl e0 F1 (g := (mkF m 7 #[.val (.ref a1), .val (.int (1 : Int32)), .val (.long q3), .second, .val (.long q4), .second, .val (.int (8 : Int32))] [(.ref a1)])) rfl rfl (hb hby d_prog_25_method_7_7)
  have k3 : ∀ t, own_S p e below T2 (mkF m 10 #[.val (.ref a1), .val (.int (1 : Int32)), .val (.long q3), .second, .val (.long q4), .second, .val (.int (8 : Int32))] [(.ref b1)]) t → Gl t := fun t kt => k1 t (st2 _ kt)
  have k4 : ∀ t, own_S p e below T2 (mkF m 15 #[.val (.ref a1), .val (.int (1 : Int32)), .val (.long q3), .second, .val (.long q4), .second, .val (.int (8 : Int32))] [(.long q3), (.int (8 : Int32)), (.ref b1)]) t → Gl t := fun t kt => k3 t (by
    show own_S p e below T2 (mkF m 10 #[.val (.ref a1), .val (.int (1 : Int32)), .val (.long q3), .second, .val (.long q4), .second, .val (.int (8 : Int32))] [(.ref b1)]) _
    refine XS.iload X2.here hx rfl (hb hby d_prog_25_method_7_10) rfl ?_
    show own_S p e below T2 (mkF m 12 #[.val (.ref a1), .val (.int (1 : Int32)), .val (.long q3), .second, .val (.long q4), .second, .val (.int (8 : Int32))] [(.int (8 : Int32)), (.ref b1)]) _
    refine XS.iconst X2.here hx rfl (hb hby d_prog_25_method_7_12) ?_
    show own_S p e below T2 (mkF m 13 #[.val (.ref a1), .val (.int (1 : Int32)), .val (.long q3), .second, .val (.long q4), .second, .val (.int (8 : Int32))] [(.int (0 : Int32)), (.int (8 : Int32)), (.ref b1)]) _
    refine XS.iadd X2.here hx rfl (hb hby d_prog_25_method_7_13) rfl ?_
    rw [(by decide : ((8 : Int32) + (0 : Int32)) = (8 : Int32))]
    show own_S p e below T2 (mkF m 14 #[.val (.ref a1), .val (.int (1 : Int32)), .val (.long q3), .second, .val (.long q4), .second, .val (.int (8 : Int32))] [(.int (8 : Int32)), (.ref b1)]) _
    refine XS.lloadN X2.here hx rfl (hb hby d_prog_25_method_7_14) rfl ?_
    exact kt)
  obtain ⟨cl5, Ar5, q5, Sz5, Ng5, Hs5, Gs5⟩ := id V1
  have hin5 : ¬ ((8 : Int32) < 0 ∨ cl5.slots.size ≤ ((8 : Int32)).toNatClampNeg) := inb_of Sz5 ⟨by decide, by decide⟩
  obtain ⟨T5, h5, X5, e5, W5, st5⟩ := stJ X2 hx hZ e2 Ar5 (j := (8 : Int32)) hin5 (g := (mkF m 15 #[.val (.ref a1), .val (.int (1 : Int32)), .val (.long q3), .second, .val (.long q4), .second, .val (.int (8 : Int32))] [(.long q3), (.int (8 : Int32)), (.ref b1)])) rfl rfl (hb hby d_prog_25_method_7_15)
  have Z6 : n0 ≤ h5.size := Nat.le_trans Z0 (Keep.of_wr W5).1
  have O7 : Old Z n0 h5 := O0.wr W5 g_b1
  have K8 : Keep h0 h5 [b1] := (Keep.refl h0 [b1]).wr W5 (Or.inl (List.mem_of_getElem? (i := 0) rfl))
  have V5 : Arv Z h5 b1 kk1 .long (16 : Int32) [(.long u0), (.long u1), (.long u2), (.long u3), (.long u4), (.long u5), (.long u6), (.long u7), (.long q3), (.long u9), (.long u10), (.long u11), (.long u12), (.long u13), (.long u14), (.long u15)] (.long (0 : Int64)) := Arv.set Ar5 q5 Sz5 Ng5 Hs5 Gs5 rfl W5 8 rfl (Nat.le_of_ble_eq_true rfl)
  have N9 := Fr.snoc X5 N0 g_b1
  have k10 : ∀ t, own_S p e below T5 (mkF m 16 #[.val (.ref a1), .val (.int (1 : Int32)), .val (.long q3), .second, .val (.long q4), .second, .val (.int (8 : Int32))] []) t → Gl t := fun t kt => k4 t (st5 _ kt)
  have k11 : ∀ t, own_S p e below T5 (mkF m 17 #[.val (.ref a1), .val (.int (1 : Int32)), .val (.long q3), .second, .val (.long q4), .second, .val (.int (8 : Int32))] [(.ref a1)]) t → Gl t := fun t kt => k10 t (by
    show own_S p e below T5 (mkF m 16 #[.val (.ref a1), .val (.int (1 : Int32)), .val (.long q3), .second, .val (.long q4), .second, .val (.int (8 : Int32))] []) _
    refine XS.aloadN X5.here hx rfl (hb hby d_prog_25_method_7_16) rfl rfl ?_
    exact kt)
  have f12 := (F1.other W5 (Or.inl ne1))
  obtain ⟨T13, X13, e13, st13⟩ := getF X5 hx hZ hown (host := "") (Or.inl (hw _ (List.mem_of_getElem? (i := 11) rfl))) Via.refl e5 f12 (g := (mkF m 17 #[.val (.ref a1), .val (.int (1 : Int32)), .val (.long q3), .second, .val (.long q4), .second, .val (.int (8 : Int32))] [(.ref a1)])) rfl rfl (hb hby d_prog_25_method_7_17)
  have k14 : ∀ t, own_S p e below T13 (mkF m 20 #[.val (.ref a1), .val (.int (1 : Int32)), .val (.long q3), .second, .val (.long q4), .second, .val (.int (8 : Int32))] [(.ref b1)]) t → Gl t := fun t kt => k11 t (st13 _ kt)
  have k15 : ∀ t, own_S p e below T13 (mkF m 25 #[.val (.ref a1), .val (.int (1 : Int32)), .val (.long q3), .second, .val (.long q4), .second, .val (.int (8 : Int32))] [(.long (1 : Int64)), (.int (9 : Int32)), (.ref b1)]) t → Gl t := fun t kt => k14 t (by
    show own_S p e below T13 (mkF m 20 #[.val (.ref a1), .val (.int (1 : Int32)), .val (.long q3), .second, .val (.long q4), .second, .val (.int (8 : Int32))] [(.ref b1)]) _
    refine XS.iload X13.here hx rfl (hb hby d_prog_25_method_7_20) rfl ?_
    show own_S p e below T13 (mkF m 22 #[.val (.ref a1), .val (.int (1 : Int32)), .val (.long q3), .second, .val (.long q4), .second, .val (.int (8 : Int32))] [(.int (8 : Int32)), (.ref b1)]) _
    refine XS.iconst X13.here hx rfl (hb hby d_prog_25_method_7_22) ?_
    show own_S p e below T13 (mkF m 23 #[.val (.ref a1), .val (.int (1 : Int32)), .val (.long q3), .second, .val (.long q4), .second, .val (.int (8 : Int32))] [(.int (1 : Int32)), (.int (8 : Int32)), (.ref b1)]) _
    refine XS.iadd X13.here hx rfl (hb hby d_prog_25_method_7_23) rfl ?_
    rw [(by decide : ((8 : Int32) + (1 : Int32)) = (9 : Int32))]
    show own_S p e below T13 (mkF m 24 #[.val (.ref a1), .val (.int (1 : Int32)), .val (.long q3), .second, .val (.long q4), .second, .val (.int (8 : Int32))] [(.int (9 : Int32)), (.ref b1)]) _
    refine XS.lconst X13.here hx rfl (hb hby d_prog_25_method_7_24) ?_
    exact kt)
  obtain ⟨cl16, Ar16, q16, Sz16, Ng16, Hs16, Gs16⟩ := id V5
  have hin16 : ¬ ((9 : Int32) < 0 ∨ cl16.slots.size ≤ ((9 : Int32)).toNatClampNeg) := inb_of Sz16 ⟨by decide, by decide⟩
  obtain ⟨T16, h16, X16, e16, W16, st16⟩ := stJ X13 hx hZ e13 Ar16 (j := (9 : Int32)) hin16 (g := (mkF m 25 #[.val (.ref a1), .val (.int (1 : Int32)), .val (.long q3), .second, .val (.long q4), .second, .val (.int (8 : Int32))] [(.long (1 : Int64)), (.int (9 : Int32)), (.ref b1)])) rfl rfl (hb hby d_prog_25_method_7_25)
  have Z17 : n0 ≤ h16.size := Nat.le_trans Z6 (Keep.of_wr W16).1
  have O18 : Old Z n0 h16 := O7.wr W16 g_b1
  have K19 : Keep h0 h16 [b1] := K8.wr W16 (Or.inl (List.mem_of_getElem? (i := 0) rfl))
  have V16 : Arv Z h16 b1 kk1 .long (16 : Int32) [(.long u0), (.long u1), (.long u2), (.long u3), (.long u4), (.long u5), (.long u6), (.long u7), (.long q3), (.long (1 : Int64)), (.long u10), (.long u11), (.long u12), (.long u13), (.long u14), (.long u15)] (.long (0 : Int64)) := Arv.set Ar16 q16 Sz16 Ng16 Hs16 Gs16 rfl W16 9 rfl (Nat.le_of_ble_eq_true rfl)
  have N20 := Fr.snoc X16 N9 g_b1
  have k21 : ∀ t, own_S p e below T16 (mkF m 26 #[.val (.ref a1), .val (.int (1 : Int32)), .val (.long q3), .second, .val (.long q4), .second, .val (.int (8 : Int32))] []) t → Gl t := fun t kt => k15 t (st16 _ kt)
  have k22 : ∀ t, own_S p e below T16 (mkF m 27 #[.val (.ref a1), .val (.int (1 : Int32)), .val (.long q3), .second, .val (.long q4), .second, .val (.int (8 : Int32))] [(.ref a1)]) t → Gl t := fun t kt => k21 t (by
    show own_S p e below T16 (mkF m 26 #[.val (.ref a1), .val (.int (1 : Int32)), .val (.long q3), .second, .val (.long q4), .second, .val (.int (8 : Int32))] []) _
    refine XS.aloadN X16.here hx rfl (hb hby d_prog_25_method_7_26) rfl rfl ?_
    exact kt)
  have f23 := (f12.other W16 (Or.inl ne1))
  obtain ⟨T24, X24, e24, st24⟩ := getF X16 hx hZ hown (host := "") (Or.inl (hw _ (List.mem_of_getElem? (i := 11) rfl))) Via.refl e16 f23 (g := (mkF m 27 #[.val (.ref a1), .val (.int (1 : Int32)), .val (.long q3), .second, .val (.long q4), .second, .val (.int (8 : Int32))] [(.ref a1)])) rfl rfl (hb hby d_prog_25_method_7_27)
  have k25 : ∀ t, own_S p e below T24 (mkF m 30 #[.val (.ref a1), .val (.int (1 : Int32)), .val (.long q3), .second, .val (.long q4), .second, .val (.int (8 : Int32))] [(.ref b1)]) t → Gl t := fun t kt => k22 t (st24 _ kt)
  have k26 : ∀ t, own_S p e below T24 (mkF m 35 #[.val (.ref a1), .val (.int (1 : Int32)), .val (.long q3), .second, .val (.long q4), .second, .val (.int (8 : Int32))] [(.long q3), (.int (12 : Int32)), (.ref b1)]) t → Gl t := fun t kt => k25 t (by
    show own_S p e below T24 (mkF m 30 #[.val (.ref a1), .val (.int (1 : Int32)), .val (.long q3), .second, .val (.long q4), .second, .val (.int (8 : Int32))] [(.ref b1)]) _
    refine XS.iload X24.here hx rfl (hb hby d_prog_25_method_7_30) rfl ?_
    show own_S p e below T24 (mkF m 32 #[.val (.ref a1), .val (.int (1 : Int32)), .val (.long q3), .second, .val (.long q4), .second, .val (.int (8 : Int32))] [(.int (8 : Int32)), (.ref b1)]) _
    refine XS.iconst X24.here hx rfl (hb hby d_prog_25_method_7_32) ?_
    show own_S p e below T24 (mkF m 33 #[.val (.ref a1), .val (.int (1 : Int32)), .val (.long q3), .second, .val (.long q4), .second, .val (.int (8 : Int32))] [(.int (4 : Int32)), (.int (8 : Int32)), (.ref b1)]) _
    refine XS.iadd X24.here hx rfl (hb hby d_prog_25_method_7_33) rfl ?_
    rw [(by decide : ((8 : Int32) + (4 : Int32)) = (12 : Int32))]
    show own_S p e below T24 (mkF m 34 #[.val (.ref a1), .val (.int (1 : Int32)), .val (.long q3), .second, .val (.long q4), .second, .val (.int (8 : Int32))] [(.int (12 : Int32)), (.ref b1)]) _
    refine XS.lloadN X24.here hx rfl (hb hby d_prog_25_method_7_34) rfl ?_
    exact kt)
  obtain ⟨cl27, Ar27, q27, Sz27, Ng27, Hs27, Gs27⟩ := id V16
  have hin27 : ¬ ((12 : Int32) < 0 ∨ cl27.slots.size ≤ ((12 : Int32)).toNatClampNeg) := inb_of Sz27 ⟨by decide, by decide⟩
  obtain ⟨T27, h27, X27, e27, W27, st27⟩ := stJ X24 hx hZ e24 Ar27 (j := (12 : Int32)) hin27 (g := (mkF m 35 #[.val (.ref a1), .val (.int (1 : Int32)), .val (.long q3), .second, .val (.long q4), .second, .val (.int (8 : Int32))] [(.long q3), (.int (12 : Int32)), (.ref b1)])) rfl rfl (hb hby d_prog_25_method_7_35)
  have Z28 : n0 ≤ h27.size := Nat.le_trans Z17 (Keep.of_wr W27).1
  have O29 : Old Z n0 h27 := O18.wr W27 g_b1
  have K30 : Keep h0 h27 [b1] := K19.wr W27 (Or.inl (List.mem_of_getElem? (i := 0) rfl))
  have V27 : Arv Z h27 b1 kk1 .long (16 : Int32) [(.long u0), (.long u1), (.long u2), (.long u3), (.long u4), (.long u5), (.long u6), (.long u7), (.long q3), (.long (1 : Int64)), (.long u10), (.long u11), (.long q3), (.long u13), (.long u14), (.long u15)] (.long (0 : Int64)) := Arv.set Ar27 q27 Sz27 Ng27 Hs27 Gs27 rfl W27 12 rfl (Nat.le_of_ble_eq_true rfl)
  have N31 := Fr.snoc X27 N20 g_b1
  have k32 : ∀ t, own_S p e below T27 (mkF m 36 #[.val (.ref a1), .val (.int (1 : Int32)), .val (.long q3), .second, .val (.long q4), .second, .val (.int (8 : Int32))] []) t → Gl t := fun t kt => k26 t (st27 _ kt)
  have k33 : ∀ t, own_S p e below T27 (mkF m 37 #[.val (.ref a1), .val (.int (1 : Int32)), .val (.long q3), .second, .val (.long q4), .second, .val (.int (8 : Int32))] [(.ref a1)]) t → Gl t := fun t kt => k32 t (by
    show own_S p e below T27 (mkF m 36 #[.val (.ref a1), .val (.int (1 : Int32)), .val (.long q3), .second, .val (.long q4), .second, .val (.int (8 : Int32))] []) _
    refine XS.aloadN X27.here hx rfl (hb hby d_prog_25_method_7_36) rfl rfl ?_
    exact kt)
  have f34 := (f23.other W27 (Or.inl ne1))
  obtain ⟨T35, X35, e35, st35⟩ := getF X27 hx hZ hown (host := "") (Or.inl (hw _ (List.mem_of_getElem? (i := 11) rfl))) Via.refl e27 f34 (g := (mkF m 37 #[.val (.ref a1), .val (.int (1 : Int32)), .val (.long q3), .second, .val (.long q4), .second, .val (.int (8 : Int32))] [(.ref a1)])) rfl rfl (hb hby d_prog_25_method_7_37)
  have k36 : ∀ t, own_S p e below T35 (mkF m 40 #[.val (.ref a1), .val (.int (1 : Int32)), .val (.long q3), .second, .val (.long q4), .second, .val (.int (8 : Int32))] [(.ref b1)]) t → Gl t := fun t kt => k33 t (st35 _ kt)
  have k37 : ∀ t, own_S p e below T35 (mkF m 45 #[.val (.ref a1), .val (.int (1 : Int32)), .val (.long q3), .second, .val (.long q4), .second, .val (.int (8 : Int32))] [(.long (1 : Int64)), (.int (13 : Int32)), (.ref b1)]) t → Gl t := fun t kt => k36 t (by
    show own_S p e below T35 (mkF m 40 #[.val (.ref a1), .val (.int (1 : Int32)), .val (.long q3), .second, .val (.long q4), .second, .val (.int (8 : Int32))] [(.ref b1)]) _
    refine XS.iload X35.here hx rfl (hb hby d_prog_25_method_7_40) rfl ?_
    show own_S p e below T35 (mkF m 42 #[.val (.ref a1), .val (.int (1 : Int32)), .val (.long q3), .second, .val (.long q4), .second, .val (.int (8 : Int32))] [(.int (8 : Int32)), (.ref b1)]) _
    refine XS.iconst X35.here hx rfl (hb hby d_prog_25_method_7_42) ?_
    show own_S p e below T35 (mkF m 43 #[.val (.ref a1), .val (.int (1 : Int32)), .val (.long q3), .second, .val (.long q4), .second, .val (.int (8 : Int32))] [(.int (5 : Int32)), (.int (8 : Int32)), (.ref b1)]) _
    refine XS.iadd X35.here hx rfl (hb hby d_prog_25_method_7_43) rfl ?_
    rw [(by decide : ((8 : Int32) + (5 : Int32)) = (13 : Int32))]
    show own_S p e below T35 (mkF m 44 #[.val (.ref a1), .val (.int (1 : Int32)), .val (.long q3), .second, .val (.long q4), .second, .val (.int (8 : Int32))] [(.int (13 : Int32)), (.ref b1)]) _
    refine XS.lconst X35.here hx rfl (hb hby d_prog_25_method_7_44) ?_
    exact kt)
  obtain ⟨cl38, Ar38, q38, Sz38, Ng38, Hs38, Gs38⟩ := id V27
  have hin38 : ¬ ((13 : Int32) < 0 ∨ cl38.slots.size ≤ ((13 : Int32)).toNatClampNeg) := inb_of Sz38 ⟨by decide, by decide⟩
  obtain ⟨T38, h38, X38, e38, W38, st38⟩ := stJ X35 hx hZ e35 Ar38 (j := (13 : Int32)) hin38 (g := (mkF m 45 #[.val (.ref a1), .val (.int (1 : Int32)), .val (.long q3), .second, .val (.long q4), .second, .val (.int (8 : Int32))] [(.long (1 : Int64)), (.int (13 : Int32)), (.ref b1)])) rfl rfl (hb hby d_prog_25_method_7_45)
  have Z39 : n0 ≤ h38.size := Nat.le_trans Z28 (Keep.of_wr W38).1
  have O40 : Old Z n0 h38 := O29.wr W38 g_b1
  have K41 : Keep h0 h38 [b1] := K30.wr W38 (Or.inl (List.mem_of_getElem? (i := 0) rfl))
  have V38 : Arv Z h38 b1 kk1 .long (16 : Int32) [(.long u0), (.long u1), (.long u2), (.long u3), (.long u4), (.long u5), (.long u6), (.long u7), (.long q3), (.long (1 : Int64)), (.long u10), (.long u11), (.long q3), (.long (1 : Int64)), (.long u14), (.long u15)] (.long (0 : Int64)) := Arv.set Ar38 q38 Sz38 Ng38 Hs38 Gs38 rfl W38 13 rfl (Nat.le_of_ble_eq_true rfl)
  have N42 := Fr.snoc X38 N31 g_b1
  have k43 : ∀ t, own_S p e below T38 (mkF m 46 #[.val (.ref a1), .val (.int (1 : Int32)), .val (.long q3), .second, .val (.long q4), .second, .val (.int (8 : Int32))] []) t → Gl t := fun t kt => k37 t (st38 _ kt)
  have k44 : ∀ t, own_S p e below T38 (mkF m 47 #[.val (.ref a1), .val (.int (1 : Int32)), .val (.long q3), .second, .val (.long q4), .second, .val (.int (8 : Int32))] [(.ref a1)]) t → Gl t := fun t kt => k43 t (by
    show own_S p e below T38 (mkF m 46 #[.val (.ref a1), .val (.int (1 : Int32)), .val (.long q3), .second, .val (.long q4), .second, .val (.int (8 : Int32))] []) _
    refine XS.aloadN X38.here hx rfl (hb hby d_prog_25_method_7_46) rfl rfl ?_
    exact kt)
  have f45 := (f34.other W38 (Or.inl ne1))
  obtain ⟨T46, X46, e46, st46⟩ := getF X38 hx hZ hown (host := "") (Or.inl (hw _ (List.mem_of_getElem? (i := 11) rfl))) Via.refl e38 f45 (g := (mkF m 47 #[.val (.ref a1), .val (.int (1 : Int32)), .val (.long q3), .second, .val (.long q4), .second, .val (.int (8 : Int32))] [(.ref a1)])) rfl rfl (hb hby d_prog_25_method_7_47)
  have k47 : ∀ t, own_S p e below T46 (mkF m 50 #[.val (.ref a1), .val (.int (1 : Int32)), .val (.long q3), .second, .val (.long q4), .second, .val (.int (8 : Int32))] [(.ref b1)]) t → Gl t := fun t kt => k44 t (st46 _ kt)
  have k48 : ∀ t, own_S p e below T46 (mkF m 57 #[.val (.ref a1), .val (.int (1 : Int32)), .val (.long q3), .second, .val (.long q4), .second, .val (.int (8 : Int32))] [(.long q4), (.int (14 : Int32)), (.ref b1)]) t → Gl t := fun t kt => k47 t (by
    show own_S p e below T46 (mkF m 50 #[.val (.ref a1), .val (.int (1 : Int32)), .val (.long q3), .second, .val (.long q4), .second, .val (.int (8 : Int32))] [(.ref b1)]) _
    refine XS.iload X46.here hx rfl (hb hby d_prog_25_method_7_50) rfl ?_
    show own_S p e below T46 (mkF m 52 #[.val (.ref a1), .val (.int (1 : Int32)), .val (.long q3), .second, .val (.long q4), .second, .val (.int (8 : Int32))] [(.int (8 : Int32)), (.ref b1)]) _
    refine XS.bipush X46.here hx rfl (hb hby d_prog_25_method_7_52) ?_
    show own_S p e below T46 (mkF m 54 #[.val (.ref a1), .val (.int (1 : Int32)), .val (.long q3), .second, .val (.long q4), .second, .val (.int (8 : Int32))] [(.int (6 : Int32)), (.int (8 : Int32)), (.ref b1)]) _
    refine XS.iadd X46.here hx rfl (hb hby d_prog_25_method_7_54) rfl ?_
    rw [(by decide : ((8 : Int32) + (6 : Int32)) = (14 : Int32))]
    show own_S p e below T46 (mkF m 55 #[.val (.ref a1), .val (.int (1 : Int32)), .val (.long q3), .second, .val (.long q4), .second, .val (.int (8 : Int32))] [(.int (14 : Int32)), (.ref b1)]) _
    refine XS.lload X46.here hx rfl (hb hby d_prog_25_method_7_55) rfl ?_
    exact kt)
  obtain ⟨T49, X49, e49, st49⟩ := getS2 X46 hx hZ hown (host := "") (Or.inl (hw _ (List.mem_of_getElem? (i := 18) rfl))) Via.refl e46 (S1.ext O40.2) (g := (mkF m 57 #[.val (.ref a1), .val (.int (1 : Int32)), .val (.long q3), .second, .val (.long q4), .second, .val (.int (8 : Int32))] [(.long q4), (.int (14 : Int32)), (.ref b1)])) rfl (hb hby d_prog_25_method_7_57)
  have k50 : ∀ t, own_S p e below T49 (mkF m 60 #[.val (.ref a1), .val (.int (1 : Int32)), .val (.long q3), .second, .val (.long q4), .second, .val (.int (8 : Int32))] [(.long (30000000 : Int64)), (.long q4), (.int (14 : Int32)), (.ref b1)]) t → Gl t := fun t kt => k48 t (st49 _ kt)
  have k51 : ∀ t, own_S p e below T49 (mkF m 61 #[.val (.ref a1), .val (.int (1 : Int32)), .val (.long q3), .second, .val (.long q4), .second, .val (.int (8 : Int32))] [(.long (q4 + (30000000 : Int64))), (.int (14 : Int32)), (.ref b1)]) t → Gl t := fun t kt => k50 t (by
    show own_S p e below T49 (mkF m 60 #[.val (.ref a1), .val (.int (1 : Int32)), .val (.long q3), .second, .val (.long q4), .second, .val (.int (8 : Int32))] [(.long (30000000 : Int64)), (.long q4), (.int (14 : Int32)), (.ref b1)]) _
    refine XS.ladd X49.here hx rfl (hb hby d_prog_25_method_7_60) rfl ?_
    exact kt)
  obtain ⟨cl52, Ar52, q52, Sz52, Ng52, Hs52, Gs52⟩ := id V38
  have hin52 : ¬ ((14 : Int32) < 0 ∨ cl52.slots.size ≤ ((14 : Int32)).toNatClampNeg) := inb_of Sz52 ⟨by decide, by decide⟩
  obtain ⟨T52, h52, X52, e52, W52, st52⟩ := stJ X49 hx hZ e49 Ar52 (j := (14 : Int32)) hin52 (g := (mkF m 61 #[.val (.ref a1), .val (.int (1 : Int32)), .val (.long q3), .second, .val (.long q4), .second, .val (.int (8 : Int32))] [(.long (q4 + (30000000 : Int64))), (.int (14 : Int32)), (.ref b1)])) rfl rfl (hb hby d_prog_25_method_7_61)
  have Z53 : n0 ≤ h52.size := Nat.le_trans Z39 (Keep.of_wr W52).1
  have O54 : Old Z n0 h52 := O40.wr W52 g_b1
  have K55 : Keep h0 h52 [b1] := K41.wr W52 (Or.inl (List.mem_of_getElem? (i := 0) rfl))
  have V52 : Arv Z h52 b1 kk1 .long (16 : Int32) [(.long u0), (.long u1), (.long u2), (.long u3), (.long u4), (.long u5), (.long u6), (.long u7), (.long q3), (.long (1 : Int64)), (.long u10), (.long u11), (.long q3), (.long (1 : Int64)), (.long (q4 + (30000000 : Int64))), (.long u15)] (.long (0 : Int64)) := Arv.set Ar52 q52 Sz52 Ng52 Hs52 Gs52 rfl W52 14 rfl (Nat.le_of_ble_eq_true rfl)
  have N56 := Fr.snoc X52 N42 g_b1
  have k57 : ∀ t, own_S p e below T52 (mkF m 62 #[.val (.ref a1), .val (.int (1 : Int32)), .val (.long q3), .second, .val (.long q4), .second, .val (.int (8 : Int32))] []) t → Gl t := fun t kt => k51 t (st52 _ kt)
  have k58 : ∀ t, own_S p e below T52 (mkF m 63 #[.val (.ref a1), .val (.int (1 : Int32)), .val (.long q3), .second, .val (.long q4), .second, .val (.int (8 : Int32))] [(.ref a1)]) t → Gl t := fun t kt => k57 t (by
    show own_S p e below T52 (mkF m 62 #[.val (.ref a1), .val (.int (1 : Int32)), .val (.long q3), .second, .val (.long q4), .second, .val (.int (8 : Int32))] []) _
    refine XS.aloadN X52.here hx rfl (hb hby d_prog_25_method_7_62) rfl rfl ?_
    exact kt)
  have f59 := (f45.other W52 (Or.inl ne1))
  obtain ⟨T60, X60, e60, st60⟩ := getF X52 hx hZ hown (host := "") (Or.inl (hw _ (List.mem_of_getElem? (i := 11) rfl))) Via.refl e52 f59 (g := (mkF m 63 #[.val (.ref a1), .val (.int (1 : Int32)), .val (.long q3), .second, .val (.long q4), .second, .val (.int (8 : Int32))] [(.ref a1)])) rfl rfl (hb hby d_prog_25_method_7_63)
  have k61 : ∀ t, own_S p e below T60 (mkF m 66 #[.val (.ref a1), .val (.int (1 : Int32)), .val (.long q3), .second, .val (.long q4), .second, .val (.int (8 : Int32))] [(.ref b1)]) t → Gl t := fun t kt => k58 t (st60 _ kt)
  have k62 : ∀ t, own_S p e below T60 (mkF m 73 #[.val (.ref a1), .val (.int (1 : Int32)), .val (.long q3), .second, .val (.long q4), .second, .val (.int (8 : Int32))] [(.long q4), (.int (15 : Int32)), (.ref b1)]) t → Gl t := fun t kt => k61 t (by
    show own_S p e below T60 (mkF m 66 #[.val (.ref a1), .val (.int (1 : Int32)), .val (.long q3), .second, .val (.long q4), .second, .val (.int (8 : Int32))] [(.ref b1)]) _
    refine XS.iload X60.here hx rfl (hb hby d_prog_25_method_7_66) rfl ?_
    show own_S p e below T60 (mkF m 68 #[.val (.ref a1), .val (.int (1 : Int32)), .val (.long q3), .second, .val (.long q4), .second, .val (.int (8 : Int32))] [(.int (8 : Int32)), (.ref b1)]) _
    refine XS.bipush X60.here hx rfl (hb hby d_prog_25_method_7_68) ?_
    show own_S p e below T60 (mkF m 70 #[.val (.ref a1), .val (.int (1 : Int32)), .val (.long q3), .second, .val (.long q4), .second, .val (.int (8 : Int32))] [(.int (7 : Int32)), (.int (8 : Int32)), (.ref b1)]) _
    refine XS.iadd X60.here hx rfl (hb hby d_prog_25_method_7_70) rfl ?_
    rw [(by decide : ((8 : Int32) + (7 : Int32)) = (15 : Int32))]
    show own_S p e below T60 (mkF m 71 #[.val (.ref a1), .val (.int (1 : Int32)), .val (.long q3), .second, .val (.long q4), .second, .val (.int (8 : Int32))] [(.int (15 : Int32)), (.ref b1)]) _
    refine XS.lload X60.here hx rfl (hb hby d_prog_25_method_7_71) rfl ?_
    exact kt)
  obtain ⟨T63, X63, e63, st63⟩ := getS2 X60 hx hZ hown (host := "") (Or.inl (hw _ (List.mem_of_getElem? (i := 21) rfl))) Via.refl e60 (S2.ext O54.2) (g := (mkF m 73 #[.val (.ref a1), .val (.int (1 : Int32)), .val (.long q3), .second, .val (.long q4), .second, .val (.int (8 : Int32))] [(.long q4), (.int (15 : Int32)), (.ref b1)])) rfl (hb hby d_prog_25_method_7_73)
  have k64 : ∀ t, own_S p e below T63 (mkF m 76 #[.val (.ref a1), .val (.int (1 : Int32)), .val (.long q3), .second, .val (.long q4), .second, .val (.int (8 : Int32))] [(.long (300000000 : Int64)), (.long q4), (.int (15 : Int32)), (.ref b1)]) t → Gl t := fun t kt => k62 t (st63 _ kt)
  have k65 : ∀ t, own_S p e below T63 (mkF m 77 #[.val (.ref a1), .val (.int (1 : Int32)), .val (.long q3), .second, .val (.long q4), .second, .val (.int (8 : Int32))] [(.long (q4 + (300000000 : Int64))), (.int (15 : Int32)), (.ref b1)]) t → Gl t := fun t kt => k64 t (by
    show own_S p e below T63 (mkF m 76 #[.val (.ref a1), .val (.int (1 : Int32)), .val (.long q3), .second, .val (.long q4), .second, .val (.int (8 : Int32))] [(.long (300000000 : Int64)), (.long q4), (.int (15 : Int32)), (.ref b1)]) _
    refine XS.ladd X63.here hx rfl (hb hby d_prog_25_method_7_76) rfl ?_
    exact kt)
  obtain ⟨cl66, Ar66, q66, Sz66, Ng66, Hs66, Gs66⟩ := id V52
  have hin66 : ¬ ((15 : Int32) < 0 ∨ cl66.slots.size ≤ ((15 : Int32)).toNatClampNeg) := inb_of Sz66 ⟨by decide, by decide⟩
  obtain ⟨T66, h66, X66, e66, W66, st66⟩ := stJ X63 hx hZ e63 Ar66 (j := (15 : Int32)) hin66 (g := (mkF m 77 #[.val (.ref a1), .val (.int (1 : Int32)), .val (.long q3), .second, .val (.long q4), .second, .val (.int (8 : Int32))] [(.long (q4 + (300000000 : Int64))), (.int (15 : Int32)), (.ref b1)])) rfl rfl (hb hby d_prog_25_method_7_77)
  have Z67 : n0 ≤ h66.size := Nat.le_trans Z53 (Keep.of_wr W66).1
  have O68 : Old Z n0 h66 := O54.wr W66 g_b1
  have K69 : Keep h0 h66 [b1] := K55.wr W66 (Or.inl (List.mem_of_getElem? (i := 0) rfl))
  have V66 : Arv Z h66 b1 kk1 .long (16 : Int32) [(.long u0), (.long u1), (.long u2), (.long u3), (.long u4), (.long u5), (.long u6), (.long u7), (.long q3), (.long (1 : Int64)), (.long u10), (.long u11), (.long q3), (.long (1 : Int64)), (.long (q4 + (30000000 : Int64))), (.long (q4 + (300000000 : Int64)))] (.long (0 : Int64)) := Arv.set Ar66 q66 Sz66 Ng66 Hs66 Gs66 rfl W66 15 rfl (Nat.le_of_ble_eq_true rfl)
  have N70 := Fr.snoc X66 N56 g_b1
  have k71 : ∀ t, own_S p e below T66 (mkF m 78 #[.val (.ref a1), .val (.int (1 : Int32)), .val (.long q3), .second, .val (.long q4), .second, .val (.int (8 : Int32))] []) t → Gl t := fun t kt => k65 t (st66 _ kt)
  obtain ⟨fs, hr, hrun, hended, hW, hsame⟩ := X66.leave (v := none) (fun _ => rfl)
  refine ⟨_, _, hGl _ (k71 _ (X66.returnOut hx Bd.returns (hb hby d_prog_25_method_7_78) hr)), hrun, hended, _, _, rfl, ?_, ⟨_, rfl⟩, hW, hsame.mono (by decide) (by decide)⟩
  show Q3_1 Z a1 q3 q4 b1 kk1 u0 u1 u2 u3 u4 u5 u6 u7 u8 u9 u10 u11 u12 u13 u14 u15 h0 n0 _ T66.heap _
  rw [e66]
  exact ⟨rfl, N70, K69, V66⟩

theorem d_jdk_29_method_25_0 : decode jdk_29_method_25_code 0 = .ok (.lload_n 0, 1) := by decide +kernel
theorem d_jdk_29_method_25_1 : decode jdk_29_method_25_code 1 = .ok (.lload_n 2, 1) := by decide +kernel
theorem d_jdk_29_method_25_2 : decode jdk_29_method_25_code 2 = .ok (.ladd, 1) := by decide +kernel
theorem d_jdk_29_method_25_3 : decode jdk_29_method_25_code 3 = .ok (.lstore 4, 2) := by decide +kernel
theorem d_jdk_29_method_25_5 : decode jdk_29_method_25_code 5 = .ok (.lload_n 0, 1) := by decide +kernel
theorem d_jdk_29_method_25_6 : decode jdk_29_method_25_code 6 = .ok (.lload 4, 2) := by decide +kernel
theorem d_jdk_29_method_25_8 : decode jdk_29_method_25_code 8 = .ok (.lxor, 1) := by decide +kernel
theorem d_jdk_29_method_25_9 : decode jdk_29_method_25_code 9 = .ok (.lload_n 2, 1) := by decide +kernel
theorem d_jdk_29_method_25_10 : decode jdk_29_method_25_code 10 = .ok (.lload 4, 2) := by decide +kernel
theorem d_jdk_29_method_25_12 : decode jdk_29_method_25_code 12 = .ok (.lxor, 1) := by decide +kernel
theorem d_jdk_29_method_25_13 : decode jdk_29_method_25_code 13 = .ok (.land, 1) := by decide +kernel
theorem d_jdk_29_method_25_14 : decode jdk_29_method_25_code 14 = .ok (.lconst 0, 1) := by decide +kernel
theorem d_jdk_29_method_25_15 : decode jdk_29_method_25_code 15 = .ok (.lcmp, 1) := by decide +kernel
theorem d_jdk_29_method_25_16 : decode jdk_29_method_25_code 16 = .ok (.ifCond .ge 13, 3) := by decide +kernel
theorem d_jdk_29_method_25_29 : decode jdk_29_method_25_code 29 = .ok (.lload 4, 2) := by decide +kernel
theorem d_jdk_29_method_25_31 : decode jdk_29_method_25_code 31 = .ok (.lreturn, 1) := by decide +kernel
theorem ef_rm5 (m : MethodId) (x1 : Int64) : entryFrame m #[(.long (0 : Int64)), (.long x1)] 6 = mkF m 0 #[.val (.long (0 : Int64)), .second, .val (.long x1), .second, .unset, .unset] [] := by first | (simp [entryFrame, mkF, argsToLocals, Value.category]; done) | rfl
def Q5 (Z : State) (q2 : Int64) (h0 : Heap) (n0 : Nat) (v : Option Value) (h : Heap) (L : List Loc) : Prop := v = some (.long q2) ∧ Fr n0 L ∧ h = h0
set_option maxRecDepth 65536 in
set_option maxHeartbeats 40000000 in
theorem rm5 (l : Launch) (Z : State) (a0 : Array Value) (hw : ∀ d ∈ tables_1, d.before a0 Z = true) (ws : List Jvm.Cond) (q2 : Int64) (h0 : Heap) (n0 : Nat) (Z0 : n0 ≤ h0.size) :
    MetFree l (⟨"java/lang/Math", "addExact", "(JJ)J"⟩ : MethodName) (head1 (Jvm.Cond.code (⟨"java/lang/Math", "addExact", "(JJ)J"⟩ : MethodName) jdk_29_method_25_code 6 (some .long) :: ws) ({ frames := 0, cells := 0, slots := 0, locals := 0 } : Room)) (fun a U => a = #[(.long (0 : Int64)), (.long q2)] ∧ Z.Warmed39 U.vm ∧ U.heap = h0) (fun _ _ _ _ _ => True) (fun _ U o U' => ∃ v L, o = .returned v ∧ Q5 Z q2 h0 n0 v U'.heap L ∧ FrameEnd U o U' L ({ frames := 0, cells := 0, slots := 0, locals := 0 } : Room).cells ({ frames := 0, cells := 0, slots := 0, locals := 0 } : Room).slots) := by
  refine MetFree.of_bodySF (Jvm.Free.JP.mathPlain rfl (by decide +kernel)) hisR ?_
  intro p e s m args below meth c s₁ Bd hml0 hP hK
  obtain ⟨rfl, hZ, hh⟩ := hP
  have hx := Bd.exec
  have hby := Bd.bytes
  have hml : c.maxLocals = 6 := hml0
  have hown : s.vm.findClass "java/lang/Math" = some m.cls := findClass_of_methodNamed Bd.named
  have hnm := (name_of_methodNamed Bd.named Bd.method).1
  have X0 : Stand p l e ({ frames := 0, cells := 0, slots := 0, locals := 0 } : Room) s m #[(.long (0 : Int64)), (.long q2)] below meth c s₁ [] 0 0 := Stand.of_body Bd
  have e0 : s₁.heap = h0 := by rw [← hh, Bd.state]; rfl
  have N0 := Fr.nil n0
  obtain ⟨Gl, hGl, k0⟩ : ∃ Gl : State → Prop, (∀ t, Gl t → Steps p.tables e below (s₁.setTop (entryFrame m #[(.long (0 : Int64)), (.long q2)] 6)) t) ∧ ∀ t, own_S p e below s₁ (mkF m 0 #[.val (.long (0 : Int64)), .second, .val (.long q2), .second, .unset, .unset] []) t → Gl t := ⟨fun t => Steps p.tables e below (s₁.setTop (entryFrame m #[(.long (0 : Int64)), (.long q2)] 6)) t, fun _ k => k, fun t k => castTop (ef_rm5 m q2) k⟩
  have k1 : ∀ t, own_S p e below s₁ (mkF m 3 #[.val (.long (0 : Int64)), .second, .val (.long q2), .second, .unset, .unset] [(.long ((0 : Int64) + q2))]) t → Gl t := fun t kt => k0 t (by
    show own_S p e below s₁ (mkF m 0 #[.val (.long (0 : Int64)), .second, .val (.long q2), .second, .unset, .unset] []) _
    refine XS.lloadN X0.here hx rfl (hb hby d_jdk_29_method_25_0) rfl ?_
    show own_S p e below s₁ (mkF m 1 #[.val (.long (0 : Int64)), .second, .val (.long q2), .second, .unset, .unset] [(.long (0 : Int64))]) _
    refine XS.lloadN X0.here hx rfl (hb hby d_jdk_29_method_25_1) rfl ?_
    show own_S p e below s₁ (mkF m 2 #[.val (.long (0 : Int64)), .second, .val (.long q2), .second, .unset, .unset] [(.long q2), (.long (0 : Int64))]) _
    refine XS.ladd X0.here hx rfl (hb hby d_jdk_29_method_25_2) rfl ?_
    exact kt)
  rw [(Int64.zero_add q2 : ((0 : Int64) + q2) = q2)] at k1
  have k2 : ∀ t, own_S p e below s₁ (mkF m 16 #[.val (.long (0 : Int64)), .second, .val (.long q2), .second, .val (.long q2), .second] [(.int (lcmpW (((0 : Int64) ^^^ q2) &&& (q2 ^^^ q2)) (0 : Int64)))]) t → Gl t := fun t kt => k1 t (by
    show own_S p e below s₁ (mkF m 3 #[.val (.long (0 : Int64)), .second, .val (.long q2), .second, .unset, .unset] [(.long q2)]) _
    refine XS.lstore X0.here hx rfl (hb hby d_jdk_29_method_25_3) rfl (l' := #[.val (.long (0 : Int64)), .second, .val (.long q2), .second, .val (.long q2), .second]) rfl ?_
    show own_S p e below s₁ (mkF m 5 #[.val (.long (0 : Int64)), .second, .val (.long q2), .second, .val (.long q2), .second] []) _
    refine XS.lloadN X0.here hx rfl (hb hby d_jdk_29_method_25_5) rfl ?_
    show own_S p e below s₁ (mkF m 6 #[.val (.long (0 : Int64)), .second, .val (.long q2), .second, .val (.long q2), .second] [(.long (0 : Int64))]) _
    refine XS.lload X0.here hx rfl (hb hby d_jdk_29_method_25_6) rfl ?_
    show own_S p e below s₁ (mkF m 8 #[.val (.long (0 : Int64)), .second, .val (.long q2), .second, .val (.long q2), .second] [(.long q2), (.long (0 : Int64))]) _
    refine XS.lxor X0.here hx rfl (hb hby d_jdk_29_method_25_8) rfl ?_
    show own_S p e below s₁ (mkF m 9 #[.val (.long (0 : Int64)), .second, .val (.long q2), .second, .val (.long q2), .second] [(.long ((0 : Int64) ^^^ q2))]) _
    refine XS.lloadN X0.here hx rfl (hb hby d_jdk_29_method_25_9) rfl ?_
    show own_S p e below s₁ (mkF m 10 #[.val (.long (0 : Int64)), .second, .val (.long q2), .second, .val (.long q2), .second] [(.long q2), (.long ((0 : Int64) ^^^ q2))]) _
    refine XS.lload X0.here hx rfl (hb hby d_jdk_29_method_25_10) rfl ?_
    show own_S p e below s₁ (mkF m 12 #[.val (.long (0 : Int64)), .second, .val (.long q2), .second, .val (.long q2), .second] [(.long q2), (.long q2), (.long ((0 : Int64) ^^^ q2))]) _
    refine XS.lxor X0.here hx rfl (hb hby d_jdk_29_method_25_12) rfl ?_
    show own_S p e below s₁ (mkF m 13 #[.val (.long (0 : Int64)), .second, .val (.long q2), .second, .val (.long q2), .second] [(.long (q2 ^^^ q2)), (.long ((0 : Int64) ^^^ q2))]) _
    refine XS.land X0.here hx rfl (hb hby d_jdk_29_method_25_13) rfl ?_
    show own_S p e below s₁ (mkF m 14 #[.val (.long (0 : Int64)), .second, .val (.long q2), .second, .val (.long q2), .second] [(.long (((0 : Int64) ^^^ q2) &&& (q2 ^^^ q2)))]) _
    refine XS.lconst X0.here hx rfl (hb hby d_jdk_29_method_25_14) ?_
    show own_S p e below s₁ (mkF m 15 #[.val (.long (0 : Int64)), .second, .val (.long q2), .second, .val (.long q2), .second] [(.long (0 : Int64)), (.long (((0 : Int64) ^^^ q2) &&& (q2 ^^^ q2)))]) _
    refine XS.lcmp X0.here hx rfl (hb hby d_jdk_29_method_25_15) rfl ?_
    exact kt)
  have hc16_3 : ¬ ((((0 : Int64) ^^^ q2) &&& (q2 ^^^ q2)) < (0 : Int64)) := by rw [Int64.xor_self, Int64.and_zero]; decide
  have k4 : ∀ t, own_S p e below s₁ (mkF m 31 #[.val (.long (0 : Int64)), .second, .val (.long q2), .second, .val (.long q2), .second] [(.long q2)]) t → Gl t := fun t kt => k2 t (by
    show own_S p e below s₁ (mkF m 16 #[.val (.long (0 : Int64)), .second, .val (.long q2), .second, .val (.long q2), .second] [(.int (lcmpW (((0 : Int64) ^^^ q2) &&& (q2 ^^^ q2)) (0 : Int64)))]) _
    refine XS.ifYes X0.here hx rfl (pc0 := 16) (pc' := 29) rfl (hb hby d_jdk_29_method_25_16) rfl ((if0 _ _).trans (flt (fun q => hc16_3 ((lw_lt (((0 : Int64) ^^^ q2) &&& (q2 ^^^ q2)) (0 : Int64)).mp q))).2.1) (by decide) (by decide) ?_
    show own_S p e below s₁ (mkF m 29 #[.val (.long (0 : Int64)), .second, .val (.long q2), .second, .val (.long q2), .second] []) _
    refine XS.lload X0.here hx rfl (hb hby d_jdk_29_method_25_29) rfl ?_
    exact kt)
  obtain ⟨fs, hr, hrun, hended, hW, hsame⟩ := X0.leave (v := some (.long q2)) (fun h => by rw [Bd.returns] at h; cases h)
  refine ⟨_, _, hGl _ (k4 _ (X0.lreturnOut hx Bd.returns (hb hby d_jdk_29_method_25_31) hr)), hrun, hended, _, _, rfl, ?_, ⟨_, rfl⟩, hW, hsame.mono (by decide) (by decide)⟩
  show Q5 Z q2 h0 n0 _ s₁.heap _
  rw [e0]
  exact ⟨rfl, N0, rfl⟩

theorem d_prog_25_method_10_0 : decode prog_25_method_10_code 0 = .ok (.iload_n 1, 1) := by decide +kernel
theorem d_prog_25_method_10_1 : decode prog_25_method_10_code 1 = .ok (.bipush 8, 2) := by decide +kernel
theorem d_prog_25_method_10_3 : decode prog_25_method_10_code 3 = .ok (.imul, 1) := by decide +kernel
theorem d_prog_25_method_10_4 : decode prog_25_method_10_code 4 = .ok (.istore 4, 2) := by decide +kernel
theorem d_prog_25_method_10_6 : decode prog_25_method_10_code 6 = .ok (.aload_n 0, 1) := by decide +kernel
theorem d_prog_25_method_10_7 : decode prog_25_method_10_code 7 = .ok (.getfield 9, 3) := by decide +kernel
theorem d_prog_25_method_10_10 : decode prog_25_method_10_code 10 = .ok (.iload 4, 2) := by decide +kernel
theorem d_prog_25_method_10_12 : decode prog_25_method_10_code 12 = .ok (.iconst 2, 1) := by decide +kernel
theorem d_prog_25_method_10_13 : decode prog_25_method_10_code 13 = .ok (.iadd, 1) := by decide +kernel
theorem d_prog_25_method_10_14 : decode prog_25_method_10_code 14 = .ok (.aload_n 0, 1) := by decide +kernel
theorem d_prog_25_method_10_15 : decode prog_25_method_10_code 15 = .ok (.getfield 9, 3) := by decide +kernel
theorem d_prog_25_method_10_18 : decode prog_25_method_10_code 18 = .ok (.iload 4, 2) := by decide +kernel
theorem d_prog_25_method_10_20 : decode prog_25_method_10_code 20 = .ok (.iconst 2, 1) := by decide +kernel
theorem d_prog_25_method_10_21 : decode prog_25_method_10_code 21 = .ok (.iadd, 1) := by decide +kernel
theorem d_prog_25_method_10_22 : decode prog_25_method_10_code 22 = .ok (.laload, 1) := by decide +kernel
theorem d_prog_25_method_10_23 : decode prog_25_method_10_code 23 = .ok (.lload_n 2, 1) := by decide +kernel
theorem d_prog_25_method_10_24 : decode prog_25_method_10_code 24 = .ok (.invokestatic 43, 3) := by decide +kernel
theorem d_prog_25_method_10_27 : decode prog_25_method_10_code 27 = .ok (.lastore, 1) := by decide +kernel
theorem d_prog_25_method_10_28 : decode prog_25_method_10_code 28 = .ok (.aload_n 0, 1) := by decide +kernel
theorem d_prog_25_method_10_29 : decode prog_25_method_10_code 29 = .ok (.getfield 9, 3) := by decide +kernel
theorem d_prog_25_method_10_32 : decode prog_25_method_10_code 32 = .ok (.iload 4, 2) := by decide +kernel
theorem d_prog_25_method_10_34 : decode prog_25_method_10_code 34 = .ok (.iconst 3, 1) := by decide +kernel
theorem d_prog_25_method_10_35 : decode prog_25_method_10_code 35 = .ok (.iadd, 1) := by decide +kernel
theorem d_prog_25_method_10_36 : decode prog_25_method_10_code 36 = .ok (.dup2, 1) := by decide +kernel
theorem d_prog_25_method_10_37 : decode prog_25_method_10_code 37 = .ok (.laload, 1) := by decide +kernel
theorem d_prog_25_method_10_38 : decode prog_25_method_10_code 38 = .ok (.lconst 1, 1) := by decide +kernel
theorem d_prog_25_method_10_39 : decode prog_25_method_10_code 39 = .ok (.ladd, 1) := by decide +kernel
theorem d_prog_25_method_10_40 : decode prog_25_method_10_code 40 = .ok (.lastore, 1) := by decide +kernel
theorem d_prog_25_method_10_41 : decode prog_25_method_10_code 41 = .ok (.return_, 1) := by decide +kernel
theorem pd_0 : parseMethodDescriptor "(JJ)J" = some ⟨[.long, .long], some .long⟩ := by decide +kernel
theorem ef_rm4_0 (m : MethodId) (x0 : Addr) (x2 : Int64) : entryFrame m #[(.ref x0), (.int (0 : Int32)), (.long x2)] 5 = mkF m 0 #[.val (.ref x0), .val (.int (0 : Int32)), .val (.long x2), .second, .unset] [] := by first | (simp [entryFrame, mkF, argsToLocals, Value.category]; done) | rfl
def Q4_0 (Z : State) (a1 : Addr) (q3 : Int64) (b1 : Addr) (kk1 : ClassId) (u0 : Int64) (u1 : Int64) (u3 : Int64) (u4 : Int64) (u5 : Int64) (u6 : Int64) (u7 : Int64) (u8 : Int64) (u9 : Int64) (u10 : Int64) (u11 : Int64) (u12 : Int64) (u13 : Int64) (u14 : Int64) (u15 : Int64) (h0 : Heap) (n0 : Nat) (v : Option Value) (h : Heap) (L : List Loc) : Prop := v = none ∧ Fr n0 L ∧ Keep h0 h [b1] ∧ Arv Z h b1 kk1 .long (16 : Int32) [(.long u0), (.long u1), (.long q3), (.long (u3 + (1 : Int64))), (.long u4), (.long u5), (.long u6), (.long u7), (.long u8), (.long u9), (.long u10), (.long u11), (.long u12), (.long u13), (.long u14), (.long u15)] (.long (0 : Int64))
set_option maxRecDepth 65536 in
set_option maxHeartbeats 40000000 in
theorem rm4_0 (l : Launch) (Z : State) (a0 : Array Value) (hw : ∀ d ∈ tables_1, d.before a0 Z = true) (ws : List Jvm.Cond) (a1 : Addr) (q3 : Int64) (b1 : Addr) (kk1 : ClassId) (u0 : Int64) (u1 : Int64) (u3 : Int64) (u4 : Int64) (u5 : Int64) (u6 : Int64) (u7 : Int64) (u8 : Int64) (u9 : Int64) (u10 : Int64) (u11 : Int64) (u12 : Int64) (u13 : Int64) (u14 : Int64) (u15 : Int64) (h0 : Heap) (n0 : Nat) (Z0 : n0 ≤ h0.size) (F1 : Fld Z h0 a1 "com/example/pricecollar/pricecollar/engine/ReferencePrices" "numbers" "[J" (.ref b1)) (V1 : Arv Z h0 b1 kk1 .long (16 : Int32) [(.long u0), (.long u1), (.long (0 : Int64)), (.long u3), (.long u4), (.long u5), (.long u6), (.long u7), (.long u8), (.long u9), (.long u10), (.long u11), (.long u12), (.long u13), (.long u14), (.long u15)] (.long (0 : Int64))) (g_b1 : n0 ≤ b1) (ne1 : a1 ≠ b1) :
    MetFree l (⟨"com/example/pricecollar/pricecollar/engine/ReferencePrices", "enterReopeningPrint", "(IJ)V"⟩ : MethodName) (head1 (Jvm.Cond.code (⟨"com/example/pricecollar/pricecollar/engine/ReferencePrices", "enterReopeningPrint", "(IJ)V"⟩ : MethodName) prog_25_method_10_code 5 none :: ws) ({ frames := 1, cells := 0, slots := 0, locals := 19 } : Room)) (fun a U => a = #[(.ref a1), (.int (0 : Int32)), (.long q3)] ∧ Z.Warmed39 U.vm ∧ U.heap = h0) (fun _ _ _ _ _ => True) (fun _ U o U' => ∃ v L, o = .returned v ∧ Q4_0 Z a1 q3 b1 kk1 u0 u1 u3 u4 u5 u6 u7 u8 u9 u10 u11 u12 u13 u14 u15 h0 n0 v U'.heap L ∧ FrameEnd U o U' L ({ frames := 1, cells := 0, slots := 0, locals := 19 } : Room).cells ({ frames := 1, cells := 0, slots := 0, locals := 19 } : Room).slots) := by
  refine MetFree.of_bodySF (plainFor_of_name pn_0) hisR ?_
  intro p e s m args below meth c s₁ Bd hml0 hP hK
  obtain ⟨rfl, hZ, hh⟩ := hP
  have hx := Bd.exec
  have hby := Bd.bytes
  have hml : c.maxLocals = 5 := hml0
  have hown : s.vm.findClass "com/example/pricecollar/pricecollar/engine/ReferencePrices" = some m.cls := findClass_of_methodNamed Bd.named
  have hnm := (name_of_methodNamed Bd.named Bd.method).1
  have X0 : Stand p l e ({ frames := 1, cells := 0, slots := 0, locals := 19 } : Room) s m #[(.ref a1), (.int (0 : Int32)), (.long q3)] below meth c s₁ [] 0 0 := Stand.of_body Bd
  have e0 : s₁.heap = h0 := by rw [← hh, Bd.state]; rfl
  have N0 := Fr.nil n0
  obtain ⟨Gl, hGl, k0⟩ : ∃ Gl : State → Prop, (∀ t, Gl t → Steps p.tables e below (s₁.setTop (entryFrame m #[(.ref a1), (.int (0 : Int32)), (.long q3)] 5)) t) ∧ ∀ t, own_S p e below s₁ (mkF m 0 #[.val (.ref a1), .val (.int (0 : Int32)), .val (.long q3), .second, .unset] []) t → Gl t := ⟨fun t => Steps p.tables e below (s₁.setTop (entryFrame m #[(.ref a1), (.int (0 : Int32)), (.long q3)] 5)) t, fun _ k => k, fun t k => castTop (ef_rm4_0 m a1 q3) k⟩
  have k1 : ∀ t, own_S p e below s₁ (mkF m 7 #[.val (.ref a1), .val (.int (0 : Int32)), .val (.long q3), .second, .val (.int (0 : Int32))] [(.ref a1)]) t → Gl t := fun t kt => k0 t (by
    show own_S p e below s₁ (mkF m 0 #[.val (.ref a1), .val (.int (0 : Int32)), .val (.long q3), .second, .unset] []) _
    refine XS.iloadN X0.here hx rfl (hb hby d_prog_25_method_10_0) rfl ?_
    show own_S p e below s₁ (mkF m 1 #[.val (.ref a1), .val (.int (0 : Int32)), .val (.long q3), .second, .unset] [(.int (0 : Int32))]) _
    refine XS.bipush X0.here hx rfl (hb hby d_prog_25_method_10_1) ?_
    show own_S p e below s₁ (mkF m 3 #[.val (.ref a1), .val (.int (0 : Int32)), .val (.long q3), .second, .unset] [(.int (8 : Int32)), (.int (0 : Int32))]) _
    refine XS.imul X0.here hx rfl (hb hby d_prog_25_method_10_3) rfl ?_
    rw [(by decide : ((0 : Int32) * (8 : Int32)) = (0 : Int32))]
    show own_S p e below s₁ (mkF m 4 #[.val (.ref a1), .val (.int (0 : Int32)), .val (.long q3), .second, .unset] [(.int (0 : Int32))]) _
    refine XS.istore X0.here hx rfl (hb hby d_prog_25_method_10_4) rfl (l' := #[.val (.ref a1), .val (.int (0 : Int32)), .val (.long q3), .second, .val (.int (0 : Int32))]) rfl ?_
    show own_S p e below s₁ (mkF m 6 #[.val (.ref a1), .val (.int (0 : Int32)), .val (.long q3), .second, .val (.int (0 : Int32))] []) _
    refine XS.aloadN X0.here hx rfl (hb hby d_prog_25_method_10_6) rfl rfl ?_
    exact kt)
  obtain ⟨T2, X2, e2, st2⟩ := getF X0 hx hZ hown (host := "") (Or.inl (hw _ (List.mem_of_getElem? (i := 11) rfl))) Via.refl e0 F1 (g := (mkF m 7 #[.val (.ref a1), .val (.int (0 : Int32)), .val (.long q3), .second, .val (.int (0 : Int32))] [(.ref a1)])) rfl rfl (hb hby d_prog_25_method_10_7)
  have k3 : ∀ t, own_S p e below T2 (mkF m 10 #[.val (.ref a1), .val (.int (0 : Int32)), .val (.long q3), .second, .val (.int (0 : Int32))] [(.ref b1)]) t → Gl t := fun t kt => k1 t (st2 _ kt)
  have k4 : ∀ t, own_S p e below T2 (mkF m 15 #[.val (.ref a1), .val (.int (0 : Int32)), .val (.long q3), .second, .val (.int (0 : Int32))] [(.ref a1), (.int (2 : Int32)), (.ref b1)]) t → Gl t := fun t kt => k3 t (by
    show own_S p e below T2 (mkF m 10 #[.val (.ref a1), .val (.int (0 : Int32)), .val (.long q3), .second, .val (.int (0 : Int32))] [(.ref b1)]) _
    refine XS.iload X2.here hx rfl (hb hby d_prog_25_method_10_10) rfl ?_
    show own_S p e below T2 (mkF m 12 #[.val (.ref a1), .val (.int (0 : Int32)), .val (.long q3), .second, .val (.int (0 : Int32))] [(.int (0 : Int32)), (.ref b1)]) _
    refine XS.iconst X2.here hx rfl (hb hby d_prog_25_method_10_12) ?_
    show own_S p e below T2 (mkF m 13 #[.val (.ref a1), .val (.int (0 : Int32)), .val (.long q3), .second, .val (.int (0 : Int32))] [(.int (2 : Int32)), (.int (0 : Int32)), (.ref b1)]) _
    refine XS.iadd X2.here hx rfl (hb hby d_prog_25_method_10_13) rfl ?_
    rw [(by decide : ((0 : Int32) + (2 : Int32)) = (2 : Int32))]
    show own_S p e below T2 (mkF m 14 #[.val (.ref a1), .val (.int (0 : Int32)), .val (.long q3), .second, .val (.int (0 : Int32))] [(.int (2 : Int32)), (.ref b1)]) _
    refine XS.aloadN X2.here hx rfl (hb hby d_prog_25_method_10_14) rfl rfl ?_
    exact kt)
  obtain ⟨T5, X5, e5, st5⟩ := getF X2 hx hZ hown (host := "") (Or.inl (hw _ (List.mem_of_getElem? (i := 11) rfl))) Via.refl e2 F1 (g := (mkF m 15 #[.val (.ref a1), .val (.int (0 : Int32)), .val (.long q3), .second, .val (.int (0 : Int32))] [(.ref a1), (.int (2 : Int32)), (.ref b1)])) rfl rfl (hb hby d_prog_25_method_10_15)
  have k6 : ∀ t, own_S p e below T5 (mkF m 18 #[.val (.ref a1), .val (.int (0 : Int32)), .val (.long q3), .second, .val (.int (0 : Int32))] [(.ref b1), (.int (2 : Int32)), (.ref b1)]) t → Gl t := fun t kt => k4 t (st5 _ kt)
  have k7 : ∀ t, own_S p e below T5 (mkF m 22 #[.val (.ref a1), .val (.int (0 : Int32)), .val (.long q3), .second, .val (.int (0 : Int32))] [(.int (2 : Int32)), (.ref b1), (.int (2 : Int32)), (.ref b1)]) t → Gl t := fun t kt => k6 t (by
    show own_S p e below T5 (mkF m 18 #[.val (.ref a1), .val (.int (0 : Int32)), .val (.long q3), .second, .val (.int (0 : Int32))] [(.ref b1), (.int (2 : Int32)), (.ref b1)]) _
    refine XS.iload X5.here hx rfl (hb hby d_prog_25_method_10_18) rfl ?_
    show own_S p e below T5 (mkF m 20 #[.val (.ref a1), .val (.int (0 : Int32)), .val (.long q3), .second, .val (.int (0 : Int32))] [(.int (0 : Int32)), (.ref b1), (.int (2 : Int32)), (.ref b1)]) _
    refine XS.iconst X5.here hx rfl (hb hby d_prog_25_method_10_20) ?_
    show own_S p e below T5 (mkF m 21 #[.val (.ref a1), .val (.int (0 : Int32)), .val (.long q3), .second, .val (.int (0 : Int32))] [(.int (2 : Int32)), (.int (0 : Int32)), (.ref b1), (.int (2 : Int32)), (.ref b1)]) _
    refine XS.iadd X5.here hx rfl (hb hby d_prog_25_method_10_21) rfl ?_
    rw [(by decide : ((0 : Int32) + (2 : Int32)) = (2 : Int32))]
    exact kt)
  obtain ⟨cl8, Ar8, q8, Sz8, Ng8, Hs8, Gs8⟩ := id V1
  have hin8 : ¬ ((2 : Int32) < 0 ∨ cl8.slots.size ≤ ((2 : Int32)).toNatClampNeg) := inb_of Sz8 ⟨by decide, by decide⟩
  have hat8 : cl8.slots[((2 : Int32)).toNatClampNeg]? = some (.long (0 : Int64)) := Hs8.at hin8 rfl
  have k9 : ∀ t, own_S p e below T5 (mkF m 24 #[.val (.ref a1), .val (.int (0 : Int32)), .val (.long q3), .second, .val (.int (0 : Int32))] [(.long q3), (.long (0 : Int64)), (.int (2 : Int32)), (.ref b1)]) t → Gl t := fun t kt => k7 t (by
    show own_S p e below T5 (mkF m 22 #[.val (.ref a1), .val (.int (0 : Int32)), .val (.long q3), .second, .val (.int (0 : Int32))] [(.int (2 : Int32)), (.ref b1), (.int (2 : Int32)), (.ref b1)]) _
    refine X5.laload hx (j := (2 : Int32)) (v := (.long (0 : Int64))) (by rw [e5]; exact Ar8.1) (State.isArrayOf_alike hZ.alike Ar8.2.1) Ar8.2.2 hin8 hat8 (g := (mkF m 22 #[.val (.ref a1), .val (.int (0 : Int32)), .val (.long q3), .second, .val (.int (0 : Int32))] [(.int (2 : Int32)), (.ref b1), (.int (2 : Int32)), (.ref b1)])) rfl rfl (hb hby d_prog_25_method_10_22) _ ?_
    show own_S p e below T5 (mkF m 23 #[.val (.ref a1), .val (.int (0 : Int32)), .val (.long q3), .second, .val (.int (0 : Int32))] [(.long (0 : Int64)), (.int (2 : Int32)), (.ref b1)]) _
    refine XS.lloadN X5.here hx rfl (hb hby d_prog_25_method_10_23) rfl ?_
    exact kt)
  obtain ⟨_, _, ⟨T10, L10, cc10, ss10⟩, -, X10, ⟨Lc10, hQ10, l10, y10, z10⟩, st10⟩ := Jvm.LawKit.callS X5 hx (y := (⟨"java/lang/Math", "addExact", "(JJ)J"⟩ : MethodName)) hown (mvT hZ (hw _ (List.mem_of_getElem? (i := 28) rfl))) (mvT hZ (hw _ (List.mem_of_getElem? (i := 29) rfl))) (mvT hZ (hw _ (List.mem_of_getElem? (i := 30) rfl))) (mvT hZ (hw _ (List.mem_of_getElem? (i := 31) rfl))) (by decide) (backOf (W := 2) (rm5 l Z a0 hw [] q3  h0 n0 Z0 ) hZ (hw _ (List.mem_of_getElem? (i := 31) rfl)) (hw _ (List.mem_of_getElem? (i := 30) rfl)) (by decide) (by decide)) (g := (mkF m 24 #[.val (.ref a1), .val (.int (0 : Int32)), .val (.long q3), .second, .val (.int (0 : Int32))] [(.long q3), (.long (0 : Int64)), (.int (2 : Int32)), (.ref b1)])) rfl (by rw [hml]; rfl) (argsL := [(.long (0 : Int64)), (.long q3)]) (rest := [(.int (2 : Int32)), (.ref b1)]) (lenOf pd_0 rfl) rfl (by show 2 * 0 + _ ≤ _; exact Nat.le_of_eq rfl) (hb hby d_prog_25_method_10_24) (fun _ _ => ⟨rfl, e5, (by decide : 0 + 0 ≤ _), (by decide : 0 + 0 ≤ _)⟩)
  dsimp only [Pt.U, Pt.locs, Pt.cells, Pt.slots] at X10 l10 y10 z10 st10 hQ10
  subst l10 y10 z10
  obtain ⟨rfl, Nq10, eq10⟩ := hQ10
  have N10 := Fr.app N0 Nq10
  have k11 : ∀ t, own_S p e below T10 (mkF m 27 #[.val (.ref a1), .val (.int (0 : Int32)), .val (.long q3), .second, .val (.int (0 : Int32))] [(.long q3), (.int (2 : Int32)), (.ref b1)]) t → Gl t := fun t kt => k9 t (st10 _ kt)
  obtain ⟨cl12, Ar12, q12, Sz12, Ng12, Hs12, Gs12⟩ := id V1
  have hin12 : ¬ ((2 : Int32) < 0 ∨ cl12.slots.size ≤ ((2 : Int32)).toNatClampNeg) := inb_of Sz12 ⟨by decide, by decide⟩
  obtain ⟨T12, h12, X12, e12, W12, st12⟩ := stJ X10 hx hZ eq10 Ar12 (j := (2 : Int32)) hin12 (g := (mkF m 27 #[.val (.ref a1), .val (.int (0 : Int32)), .val (.long q3), .second, .val (.int (0 : Int32))] [(.long q3), (.int (2 : Int32)), (.ref b1)])) rfl rfl (hb hby d_prog_25_method_10_27)
  have Z13 : n0 ≤ h12.size := Nat.le_trans Z0 (Keep.of_wr W12).1
  have K14 : Keep h0 h12 [b1] := (Keep.refl h0 [b1]).wr W12 (Or.inl (List.mem_of_getElem? (i := 0) rfl))
  have V12 : Arv Z h12 b1 kk1 .long (16 : Int32) [(.long u0), (.long u1), (.long q3), (.long u3), (.long u4), (.long u5), (.long u6), (.long u7), (.long u8), (.long u9), (.long u10), (.long u11), (.long u12), (.long u13), (.long u14), (.long u15)] (.long (0 : Int64)) := Arv.set Ar12 q12 Sz12 Ng12 Hs12 Gs12 rfl W12 2 rfl (Nat.le_of_ble_eq_true rfl)
  have N15 := Fr.snoc X12 N10 g_b1
  have k16 : ∀ t, own_S p e below T12 (mkF m 28 #[.val (.ref a1), .val (.int (0 : Int32)), .val (.long q3), .second, .val (.int (0 : Int32))] []) t → Gl t := fun t kt => k11 t (st12 _ kt)
  have k17 : ∀ t, own_S p e below T12 (mkF m 29 #[.val (.ref a1), .val (.int (0 : Int32)), .val (.long q3), .second, .val (.int (0 : Int32))] [(.ref a1)]) t → Gl t := fun t kt => k16 t (by
    show own_S p e below T12 (mkF m 28 #[.val (.ref a1), .val (.int (0 : Int32)), .val (.long q3), .second, .val (.int (0 : Int32))] []) _
    refine XS.aloadN X12.here hx rfl (hb hby d_prog_25_method_10_28) rfl rfl ?_
    exact kt)
  have f18 := (F1.other W12 (Or.inl ne1))
  obtain ⟨T19, X19, e19, st19⟩ := getF X12 hx hZ hown (host := "") (Or.inl (hw _ (List.mem_of_getElem? (i := 11) rfl))) Via.refl e12 f18 (g := (mkF m 29 #[.val (.ref a1), .val (.int (0 : Int32)), .val (.long q3), .second, .val (.int (0 : Int32))] [(.ref a1)])) rfl rfl (hb hby d_prog_25_method_10_29)
  have k20 : ∀ t, own_S p e below T19 (mkF m 32 #[.val (.ref a1), .val (.int (0 : Int32)), .val (.long q3), .second, .val (.int (0 : Int32))] [(.ref b1)]) t → Gl t := fun t kt => k17 t (st19 _ kt)
  have k21 : ∀ t, own_S p e below T19 (mkF m 37 #[.val (.ref a1), .val (.int (0 : Int32)), .val (.long q3), .second, .val (.int (0 : Int32))] [(.int (3 : Int32)), (.ref b1), (.int (3 : Int32)), (.ref b1)]) t → Gl t := fun t kt => k20 t (by
    show own_S p e below T19 (mkF m 32 #[.val (.ref a1), .val (.int (0 : Int32)), .val (.long q3), .second, .val (.int (0 : Int32))] [(.ref b1)]) _
    refine XS.iload X19.here hx rfl (hb hby d_prog_25_method_10_32) rfl ?_
    show own_S p e below T19 (mkF m 34 #[.val (.ref a1), .val (.int (0 : Int32)), .val (.long q3), .second, .val (.int (0 : Int32))] [(.int (0 : Int32)), (.ref b1)]) _
    refine XS.iconst X19.here hx rfl (hb hby d_prog_25_method_10_34) ?_
    show own_S p e below T19 (mkF m 35 #[.val (.ref a1), .val (.int (0 : Int32)), .val (.long q3), .second, .val (.int (0 : Int32))] [(.int (3 : Int32)), (.int (0 : Int32)), (.ref b1)]) _
    refine XS.iadd X19.here hx rfl (hb hby d_prog_25_method_10_35) rfl ?_
    rw [(by decide : ((0 : Int32) + (3 : Int32)) = (3 : Int32))]
    show own_S p e below T19 (mkF m 36 #[.val (.ref a1), .val (.int (0 : Int32)), .val (.long q3), .second, .val (.int (0 : Int32))] [(.int (3 : Int32)), (.ref b1)]) _
    refine XT.dup2 X19.here hx rfl (hb hby d_prog_25_method_10_36) rfl rfl rfl ?_
    exact kt)
  obtain ⟨cl22, Ar22, q22, Sz22, Ng22, Hs22, Gs22⟩ := id V12
  have hin22 : ¬ ((3 : Int32) < 0 ∨ cl22.slots.size ≤ ((3 : Int32)).toNatClampNeg) := inb_of Sz22 ⟨by decide, by decide⟩
  have hat22 : cl22.slots[((3 : Int32)).toNatClampNeg]? = some (.long u3) := Hs22.at hin22 rfl
  have k23 : ∀ t, own_S p e below T19 (mkF m 40 #[.val (.ref a1), .val (.int (0 : Int32)), .val (.long q3), .second, .val (.int (0 : Int32))] [(.long (u3 + (1 : Int64))), (.int (3 : Int32)), (.ref b1)]) t → Gl t := fun t kt => k21 t (by
    show own_S p e below T19 (mkF m 37 #[.val (.ref a1), .val (.int (0 : Int32)), .val (.long q3), .second, .val (.int (0 : Int32))] [(.int (3 : Int32)), (.ref b1), (.int (3 : Int32)), (.ref b1)]) _
    refine X19.laload hx (j := (3 : Int32)) (v := (.long u3)) (by rw [e19]; exact Ar22.1) (State.isArrayOf_alike hZ.alike Ar22.2.1) Ar22.2.2 hin22 hat22 (g := (mkF m 37 #[.val (.ref a1), .val (.int (0 : Int32)), .val (.long q3), .second, .val (.int (0 : Int32))] [(.int (3 : Int32)), (.ref b1), (.int (3 : Int32)), (.ref b1)])) rfl rfl (hb hby d_prog_25_method_10_37) _ ?_
    show own_S p e below T19 (mkF m 38 #[.val (.ref a1), .val (.int (0 : Int32)), .val (.long q3), .second, .val (.int (0 : Int32))] [(.long u3), (.int (3 : Int32)), (.ref b1)]) _
    refine XS.lconst X19.here hx rfl (hb hby d_prog_25_method_10_38) ?_
    show own_S p e below T19 (mkF m 39 #[.val (.ref a1), .val (.int (0 : Int32)), .val (.long q3), .second, .val (.int (0 : Int32))] [(.long (1 : Int64)), (.long u3), (.int (3 : Int32)), (.ref b1)]) _
    refine XS.ladd X19.here hx rfl (hb hby d_prog_25_method_10_39) rfl ?_
    exact kt)
  obtain ⟨cl24, Ar24, q24, Sz24, Ng24, Hs24, Gs24⟩ := id V12
  have hin24 : ¬ ((3 : Int32) < 0 ∨ cl24.slots.size ≤ ((3 : Int32)).toNatClampNeg) := inb_of Sz24 ⟨by decide, by decide⟩
  obtain ⟨T24, h24, X24, e24, W24, st24⟩ := stJ X19 hx hZ e19 Ar24 (j := (3 : Int32)) hin24 (g := (mkF m 40 #[.val (.ref a1), .val (.int (0 : Int32)), .val (.long q3), .second, .val (.int (0 : Int32))] [(.long (u3 + (1 : Int64))), (.int (3 : Int32)), (.ref b1)])) rfl rfl (hb hby d_prog_25_method_10_40)
  have Z25 : n0 ≤ h24.size := Nat.le_trans Z13 (Keep.of_wr W24).1
  have K26 : Keep h0 h24 [b1] := K14.wr W24 (Or.inl (List.mem_of_getElem? (i := 0) rfl))
  have V24 : Arv Z h24 b1 kk1 .long (16 : Int32) [(.long u0), (.long u1), (.long q3), (.long (u3 + (1 : Int64))), (.long u4), (.long u5), (.long u6), (.long u7), (.long u8), (.long u9), (.long u10), (.long u11), (.long u12), (.long u13), (.long u14), (.long u15)] (.long (0 : Int64)) := Arv.set Ar24 q24 Sz24 Ng24 Hs24 Gs24 rfl W24 3 rfl (Nat.le_of_ble_eq_true rfl)
  have N27 := Fr.snoc X24 N15 g_b1
  have k28 : ∀ t, own_S p e below T24 (mkF m 41 #[.val (.ref a1), .val (.int (0 : Int32)), .val (.long q3), .second, .val (.int (0 : Int32))] []) t → Gl t := fun t kt => k23 t (st24 _ kt)
  obtain ⟨fs, hr, hrun, hended, hW, hsame⟩ := X24.leave (v := none) (fun _ => rfl)
  refine ⟨_, _, hGl _ (k28 _ (X24.returnOut hx Bd.returns (hb hby d_prog_25_method_10_41) hr)), hrun, hended, _, _, rfl, ?_, ⟨_, rfl⟩, hW, hsame.mono (by decide) (by decide)⟩
  show Q4_0 Z a1 q3 b1 kk1 u0 u1 u3 u4 u5 u6 u7 u8 u9 u10 u11 u12 u13 u14 u15 h0 n0 _ T24.heap _
  rw [e24]
  exact ⟨rfl, N27, K26, V24⟩

theorem ef_rm4_1 (m : MethodId) (x0 : Addr) (x2 : Int64) : entryFrame m #[(.ref x0), (.int (1 : Int32)), (.long x2)] 5 = mkF m 0 #[.val (.ref x0), .val (.int (1 : Int32)), .val (.long x2), .second, .unset] [] := by first | (simp [entryFrame, mkF, argsToLocals, Value.category]; done) | rfl
def Q4_1 (Z : State) (a1 : Addr) (q3 : Int64) (b1 : Addr) (kk1 : ClassId) (u0 : Int64) (u1 : Int64) (u2 : Int64) (u3 : Int64) (u4 : Int64) (u5 : Int64) (u6 : Int64) (u7 : Int64) (u8 : Int64) (u9 : Int64) (u11 : Int64) (u12 : Int64) (u13 : Int64) (u14 : Int64) (u15 : Int64) (h0 : Heap) (n0 : Nat) (v : Option Value) (h : Heap) (L : List Loc) : Prop := v = none ∧ Fr n0 L ∧ Keep h0 h [b1] ∧ Arv Z h b1 kk1 .long (16 : Int32) [(.long u0), (.long u1), (.long u2), (.long u3), (.long u4), (.long u5), (.long u6), (.long u7), (.long u8), (.long u9), (.long q3), (.long (u11 + (1 : Int64))), (.long u12), (.long u13), (.long u14), (.long u15)] (.long (0 : Int64))
set_option maxRecDepth 65536 in
set_option maxHeartbeats 40000000 in
theorem rm4_1 (l : Launch) (Z : State) (a0 : Array Value) (hw : ∀ d ∈ tables_1, d.before a0 Z = true) (ws : List Jvm.Cond) (a1 : Addr) (q3 : Int64) (b1 : Addr) (kk1 : ClassId) (u0 : Int64) (u1 : Int64) (u2 : Int64) (u3 : Int64) (u4 : Int64) (u5 : Int64) (u6 : Int64) (u7 : Int64) (u8 : Int64) (u9 : Int64) (u11 : Int64) (u12 : Int64) (u13 : Int64) (u14 : Int64) (u15 : Int64) (h0 : Heap) (n0 : Nat) (Z0 : n0 ≤ h0.size) (F1 : Fld Z h0 a1 "com/example/pricecollar/pricecollar/engine/ReferencePrices" "numbers" "[J" (.ref b1)) (V1 : Arv Z h0 b1 kk1 .long (16 : Int32) [(.long u0), (.long u1), (.long u2), (.long u3), (.long u4), (.long u5), (.long u6), (.long u7), (.long u8), (.long u9), (.long (0 : Int64)), (.long u11), (.long u12), (.long u13), (.long u14), (.long u15)] (.long (0 : Int64))) (g_b1 : n0 ≤ b1) (ne1 : a1 ≠ b1) :
    MetFree l (⟨"com/example/pricecollar/pricecollar/engine/ReferencePrices", "enterReopeningPrint", "(IJ)V"⟩ : MethodName) (head1 (Jvm.Cond.code (⟨"com/example/pricecollar/pricecollar/engine/ReferencePrices", "enterReopeningPrint", "(IJ)V"⟩ : MethodName) prog_25_method_10_code 5 none :: ws) ({ frames := 1, cells := 0, slots := 0, locals := 19 } : Room)) (fun a U => a = #[(.ref a1), (.int (1 : Int32)), (.long q3)] ∧ Z.Warmed39 U.vm ∧ U.heap = h0) (fun _ _ _ _ _ => True) (fun _ U o U' => ∃ v L, o = .returned v ∧ Q4_1 Z a1 q3 b1 kk1 u0 u1 u2 u3 u4 u5 u6 u7 u8 u9 u11 u12 u13 u14 u15 h0 n0 v U'.heap L ∧ FrameEnd U o U' L ({ frames := 1, cells := 0, slots := 0, locals := 19 } : Room).cells ({ frames := 1, cells := 0, slots := 0, locals := 19 } : Room).slots) := by
  refine MetFree.of_bodySF (plainFor_of_name pn_0) hisR ?_
  intro p e s m args below meth c s₁ Bd hml0 hP hK
  obtain ⟨rfl, hZ, hh⟩ := hP
  have hx := Bd.exec
  have hby := Bd.bytes
  have hml : c.maxLocals = 5 := hml0
  have hown : s.vm.findClass "com/example/pricecollar/pricecollar/engine/ReferencePrices" = some m.cls := findClass_of_methodNamed Bd.named
  have hnm := (name_of_methodNamed Bd.named Bd.method).1
  have X0 : Stand p l e ({ frames := 1, cells := 0, slots := 0, locals := 19 } : Room) s m #[(.ref a1), (.int (1 : Int32)), (.long q3)] below meth c s₁ [] 0 0 := Stand.of_body Bd
  have e0 : s₁.heap = h0 := by rw [← hh, Bd.state]; rfl
  have N0 := Fr.nil n0
  obtain ⟨Gl, hGl, k0⟩ : ∃ Gl : State → Prop, (∀ t, Gl t → Steps p.tables e below (s₁.setTop (entryFrame m #[(.ref a1), (.int (1 : Int32)), (.long q3)] 5)) t) ∧ ∀ t, own_S p e below s₁ (mkF m 0 #[.val (.ref a1), .val (.int (1 : Int32)), .val (.long q3), .second, .unset] []) t → Gl t := ⟨fun t => Steps p.tables e below (s₁.setTop (entryFrame m #[(.ref a1), (.int (1 : Int32)), (.long q3)] 5)) t, fun _ k => k, fun t k => castTop (ef_rm4_1 m a1 q3) k⟩
  have k1 : ∀ t, own_S p e below s₁ (mkF m 7 #[.val (.ref a1), .val (.int (1 : Int32)), .val (.long q3), .second, .val (.int (8 : Int32))] [(.ref a1)]) t → Gl t := fun t kt => k0 t (by
    show own_S p e below s₁ (mkF m 0 #[.val (.ref a1), .val (.int (1 : Int32)), .val (.long q3), .second, .unset] []) _
    refine XS.iloadN X0.here hx rfl (hb hby d_prog_25_method_10_0) rfl ?_
    show own_S p e below s₁ (mkF m 1 #[.val (.ref a1), .val (.int (1 : Int32)), .val (.long q3), .second, .unset] [(.int (1 : Int32))]) _
    refine XS.bipush X0.here hx rfl (hb hby d_prog_25_method_10_1) ?_
    show own_S p e below s₁ (mkF m 3 #[.val (.ref a1), .val (.int (1 : Int32)), .val (.long q3), .second, .unset] [(.int (8 : Int32)), (.int (1 : Int32))]) _
    refine XS.imul X0.here hx rfl (hb hby d_prog_25_method_10_3) rfl ?_
    rw [(by decide : ((1 : Int32) * (8 : Int32)) = (8 : Int32))]
    show own_S p e below s₁ (mkF m 4 #[.val (.ref a1), .val (.int (1 : Int32)), .val (.long q3), .second, .unset] [(.int (8 : Int32))]) _
    refine XS.istore X0.here hx rfl (hb hby d_prog_25_method_10_4) rfl (l' := #[.val (.ref a1), .val (.int (1 : Int32)), .val (.long q3), .second, .val (.int (8 : Int32))]) rfl ?_
    show own_S p e below s₁ (mkF m 6 #[.val (.ref a1), .val (.int (1 : Int32)), .val (.long q3), .second, .val (.int (8 : Int32))] []) _
    refine XS.aloadN X0.here hx rfl (hb hby d_prog_25_method_10_6) rfl rfl ?_
    exact kt)
  obtain ⟨T2, X2, e2, st2⟩ := getF X0 hx hZ hown (host := "") (Or.inl (hw _ (List.mem_of_getElem? (i := 11) rfl))) Via.refl e0 F1 (g := (mkF m 7 #[.val (.ref a1), .val (.int (1 : Int32)), .val (.long q3), .second, .val (.int (8 : Int32))] [(.ref a1)])) rfl rfl (hb hby d_prog_25_method_10_7)
  have k3 : ∀ t, own_S p e below T2 (mkF m 10 #[.val (.ref a1), .val (.int (1 : Int32)), .val (.long q3), .second, .val (.int (8 : Int32))] [(.ref b1)]) t → Gl t := fun t kt => k1 t (st2 _ kt)
  have k4 : ∀ t, own_S p e below T2 (mkF m 15 #[.val (.ref a1), .val (.int (1 : Int32)), .val (.long q3), .second, .val (.int (8 : Int32))] [(.ref a1), (.int (10 : Int32)), (.ref b1)]) t → Gl t := fun t kt => k3 t (by
    show own_S p e below T2 (mkF m 10 #[.val (.ref a1), .val (.int (1 : Int32)), .val (.long q3), .second, .val (.int (8 : Int32))] [(.ref b1)]) _
    refine XS.iload X2.here hx rfl (hb hby d_prog_25_method_10_10) rfl ?_
    show own_S p e below T2 (mkF m 12 #[.val (.ref a1), .val (.int (1 : Int32)), .val (.long q3), .second, .val (.int (8 : Int32))] [(.int (8 : Int32)), (.ref b1)]) _
    refine XS.iconst X2.here hx rfl (hb hby d_prog_25_method_10_12) ?_
    show own_S p e below T2 (mkF m 13 #[.val (.ref a1), .val (.int (1 : Int32)), .val (.long q3), .second, .val (.int (8 : Int32))] [(.int (2 : Int32)), (.int (8 : Int32)), (.ref b1)]) _
    refine XS.iadd X2.here hx rfl (hb hby d_prog_25_method_10_13) rfl ?_
    rw [(by decide : ((8 : Int32) + (2 : Int32)) = (10 : Int32))]
    show own_S p e below T2 (mkF m 14 #[.val (.ref a1), .val (.int (1 : Int32)), .val (.long q3), .second, .val (.int (8 : Int32))] [(.int (10 : Int32)), (.ref b1)]) _
    refine XS.aloadN X2.here hx rfl (hb hby d_prog_25_method_10_14) rfl rfl ?_
    exact kt)
  obtain ⟨T5, X5, e5, st5⟩ := getF X2 hx hZ hown (host := "") (Or.inl (hw _ (List.mem_of_getElem? (i := 11) rfl))) Via.refl e2 F1 (g := (mkF m 15 #[.val (.ref a1), .val (.int (1 : Int32)), .val (.long q3), .second, .val (.int (8 : Int32))] [(.ref a1), (.int (10 : Int32)), (.ref b1)])) rfl rfl (hb hby d_prog_25_method_10_15)
  have k6 : ∀ t, own_S p e below T5 (mkF m 18 #[.val (.ref a1), .val (.int (1 : Int32)), .val (.long q3), .second, .val (.int (8 : Int32))] [(.ref b1), (.int (10 : Int32)), (.ref b1)]) t → Gl t := fun t kt => k4 t (st5 _ kt)
  have k7 : ∀ t, own_S p e below T5 (mkF m 22 #[.val (.ref a1), .val (.int (1 : Int32)), .val (.long q3), .second, .val (.int (8 : Int32))] [(.int (10 : Int32)), (.ref b1), (.int (10 : Int32)), (.ref b1)]) t → Gl t := fun t kt => k6 t (by
    show own_S p e below T5 (mkF m 18 #[.val (.ref a1), .val (.int (1 : Int32)), .val (.long q3), .second, .val (.int (8 : Int32))] [(.ref b1), (.int (10 : Int32)), (.ref b1)]) _
    refine XS.iload X5.here hx rfl (hb hby d_prog_25_method_10_18) rfl ?_
    show own_S p e below T5 (mkF m 20 #[.val (.ref a1), .val (.int (1 : Int32)), .val (.long q3), .second, .val (.int (8 : Int32))] [(.int (8 : Int32)), (.ref b1), (.int (10 : Int32)), (.ref b1)]) _
    refine XS.iconst X5.here hx rfl (hb hby d_prog_25_method_10_20) ?_
    show own_S p e below T5 (mkF m 21 #[.val (.ref a1), .val (.int (1 : Int32)), .val (.long q3), .second, .val (.int (8 : Int32))] [(.int (2 : Int32)), (.int (8 : Int32)), (.ref b1), (.int (10 : Int32)), (.ref b1)]) _
    refine XS.iadd X5.here hx rfl (hb hby d_prog_25_method_10_21) rfl ?_
    rw [(by decide : ((8 : Int32) + (2 : Int32)) = (10 : Int32))]
    exact kt)
  obtain ⟨cl8, Ar8, q8, Sz8, Ng8, Hs8, Gs8⟩ := id V1
  have hin8 : ¬ ((10 : Int32) < 0 ∨ cl8.slots.size ≤ ((10 : Int32)).toNatClampNeg) := inb_of Sz8 ⟨by decide, by decide⟩
  have hat8 : cl8.slots[((10 : Int32)).toNatClampNeg]? = some (.long (0 : Int64)) := Hs8.at hin8 rfl
  have k9 : ∀ t, own_S p e below T5 (mkF m 24 #[.val (.ref a1), .val (.int (1 : Int32)), .val (.long q3), .second, .val (.int (8 : Int32))] [(.long q3), (.long (0 : Int64)), (.int (10 : Int32)), (.ref b1)]) t → Gl t := fun t kt => k7 t (by
    show own_S p e below T5 (mkF m 22 #[.val (.ref a1), .val (.int (1 : Int32)), .val (.long q3), .second, .val (.int (8 : Int32))] [(.int (10 : Int32)), (.ref b1), (.int (10 : Int32)), (.ref b1)]) _
    refine X5.laload hx (j := (10 : Int32)) (v := (.long (0 : Int64))) (by rw [e5]; exact Ar8.1) (State.isArrayOf_alike hZ.alike Ar8.2.1) Ar8.2.2 hin8 hat8 (g := (mkF m 22 #[.val (.ref a1), .val (.int (1 : Int32)), .val (.long q3), .second, .val (.int (8 : Int32))] [(.int (10 : Int32)), (.ref b1), (.int (10 : Int32)), (.ref b1)])) rfl rfl (hb hby d_prog_25_method_10_22) _ ?_
    show own_S p e below T5 (mkF m 23 #[.val (.ref a1), .val (.int (1 : Int32)), .val (.long q3), .second, .val (.int (8 : Int32))] [(.long (0 : Int64)), (.int (10 : Int32)), (.ref b1)]) _
    refine XS.lloadN X5.here hx rfl (hb hby d_prog_25_method_10_23) rfl ?_
    exact kt)
  obtain ⟨_, _, ⟨T10, L10, cc10, ss10⟩, -, X10, ⟨Lc10, hQ10, l10, y10, z10⟩, st10⟩ := Jvm.LawKit.callS X5 hx (y := (⟨"java/lang/Math", "addExact", "(JJ)J"⟩ : MethodName)) hown (mvT hZ (hw _ (List.mem_of_getElem? (i := 28) rfl))) (mvT hZ (hw _ (List.mem_of_getElem? (i := 29) rfl))) (mvT hZ (hw _ (List.mem_of_getElem? (i := 30) rfl))) (mvT hZ (hw _ (List.mem_of_getElem? (i := 31) rfl))) (by decide) (backOf (W := 2) (rm5 l Z a0 hw [] q3  h0 n0 Z0 ) hZ (hw _ (List.mem_of_getElem? (i := 31) rfl)) (hw _ (List.mem_of_getElem? (i := 30) rfl)) (by decide) (by decide)) (g := (mkF m 24 #[.val (.ref a1), .val (.int (1 : Int32)), .val (.long q3), .second, .val (.int (8 : Int32))] [(.long q3), (.long (0 : Int64)), (.int (10 : Int32)), (.ref b1)])) rfl (by rw [hml]; rfl) (argsL := [(.long (0 : Int64)), (.long q3)]) (rest := [(.int (10 : Int32)), (.ref b1)]) (lenOf pd_0 rfl) rfl (by show 2 * 0 + _ ≤ _; exact Nat.le_of_eq rfl) (hb hby d_prog_25_method_10_24) (fun _ _ => ⟨rfl, e5, (by decide : 0 + 0 ≤ _), (by decide : 0 + 0 ≤ _)⟩)
  dsimp only [Pt.U, Pt.locs, Pt.cells, Pt.slots] at X10 l10 y10 z10 st10 hQ10
  subst l10 y10 z10
  obtain ⟨rfl, Nq10, eq10⟩ := hQ10
  have N10 := Fr.app N0 Nq10
  have k11 : ∀ t, own_S p e below T10 (mkF m 27 #[.val (.ref a1), .val (.int (1 : Int32)), .val (.long q3), .second, .val (.int (8 : Int32))] [(.long q3), (.int (10 : Int32)), (.ref b1)]) t → Gl t := fun t kt => k9 t (st10 _ kt)
  obtain ⟨cl12, Ar12, q12, Sz12, Ng12, Hs12, Gs12⟩ := id V1
  have hin12 : ¬ ((10 : Int32) < 0 ∨ cl12.slots.size ≤ ((10 : Int32)).toNatClampNeg) := inb_of Sz12 ⟨by decide, by decide⟩
  obtain ⟨T12, h12, X12, e12, W12, st12⟩ := stJ X10 hx hZ eq10 Ar12 (j := (10 : Int32)) hin12 (g := (mkF m 27 #[.val (.ref a1), .val (.int (1 : Int32)), .val (.long q3), .second, .val (.int (8 : Int32))] [(.long q3), (.int (10 : Int32)), (.ref b1)])) rfl rfl (hb hby d_prog_25_method_10_27)
  have Z13 : n0 ≤ h12.size := Nat.le_trans Z0 (Keep.of_wr W12).1
  have K14 : Keep h0 h12 [b1] := (Keep.refl h0 [b1]).wr W12 (Or.inl (List.mem_of_getElem? (i := 0) rfl))
  have V12 : Arv Z h12 b1 kk1 .long (16 : Int32) [(.long u0), (.long u1), (.long u2), (.long u3), (.long u4), (.long u5), (.long u6), (.long u7), (.long u8), (.long u9), (.long q3), (.long u11), (.long u12), (.long u13), (.long u14), (.long u15)] (.long (0 : Int64)) := Arv.set Ar12 q12 Sz12 Ng12 Hs12 Gs12 rfl W12 10 rfl (Nat.le_of_ble_eq_true rfl)
  have N15 := Fr.snoc X12 N10 g_b1
  have k16 : ∀ t, own_S p e below T12 (mkF m 28 #[.val (.ref a1), .val (.int (1 : Int32)), .val (.long q3), .second, .val (.int (8 : Int32))] []) t → Gl t := fun t kt => k11 t (st12 _ kt)
  have k17 : ∀ t, own_S p e below T12 (mkF m 29 #[.val (.ref a1), .val (.int (1 : Int32)), .val (.long q3), .second, .val (.int (8 : Int32))] [(.ref a1)]) t → Gl t := fun t kt => k16 t (by
    show own_S p e below T12 (mkF m 28 #[.val (.ref a1), .val (.int (1 : Int32)), .val (.long q3), .second, .val (.int (8 : Int32))] []) _
    refine XS.aloadN X12.here hx rfl (hb hby d_prog_25_method_10_28) rfl rfl ?_
    exact kt)
  have f18 := (F1.other W12 (Or.inl ne1))
  obtain ⟨T19, X19, e19, st19⟩ := getF X12 hx hZ hown (host := "") (Or.inl (hw _ (List.mem_of_getElem? (i := 11) rfl))) Via.refl e12 f18 (g := (mkF m 29 #[.val (.ref a1), .val (.int (1 : Int32)), .val (.long q3), .second, .val (.int (8 : Int32))] [(.ref a1)])) rfl rfl (hb hby d_prog_25_method_10_29)
  have k20 : ∀ t, own_S p e below T19 (mkF m 32 #[.val (.ref a1), .val (.int (1 : Int32)), .val (.long q3), .second, .val (.int (8 : Int32))] [(.ref b1)]) t → Gl t := fun t kt => k17 t (st19 _ kt)
  have k21 : ∀ t, own_S p e below T19 (mkF m 37 #[.val (.ref a1), .val (.int (1 : Int32)), .val (.long q3), .second, .val (.int (8 : Int32))] [(.int (11 : Int32)), (.ref b1), (.int (11 : Int32)), (.ref b1)]) t → Gl t := fun t kt => k20 t (by
    show own_S p e below T19 (mkF m 32 #[.val (.ref a1), .val (.int (1 : Int32)), .val (.long q3), .second, .val (.int (8 : Int32))] [(.ref b1)]) _
    refine XS.iload X19.here hx rfl (hb hby d_prog_25_method_10_32) rfl ?_
    show own_S p e below T19 (mkF m 34 #[.val (.ref a1), .val (.int (1 : Int32)), .val (.long q3), .second, .val (.int (8 : Int32))] [(.int (8 : Int32)), (.ref b1)]) _
    refine XS.iconst X19.here hx rfl (hb hby d_prog_25_method_10_34) ?_
    show own_S p e below T19 (mkF m 35 #[.val (.ref a1), .val (.int (1 : Int32)), .val (.long q3), .second, .val (.int (8 : Int32))] [(.int (3 : Int32)), (.int (8 : Int32)), (.ref b1)]) _
    refine XS.iadd X19.here hx rfl (hb hby d_prog_25_method_10_35) rfl ?_
    rw [(by decide : ((8 : Int32) + (3 : Int32)) = (11 : Int32))]
    show own_S p e below T19 (mkF m 36 #[.val (.ref a1), .val (.int (1 : Int32)), .val (.long q3), .second, .val (.int (8 : Int32))] [(.int (11 : Int32)), (.ref b1)]) _
    refine XT.dup2 X19.here hx rfl (hb hby d_prog_25_method_10_36) rfl rfl rfl ?_
    exact kt)
  obtain ⟨cl22, Ar22, q22, Sz22, Ng22, Hs22, Gs22⟩ := id V12
  have hin22 : ¬ ((11 : Int32) < 0 ∨ cl22.slots.size ≤ ((11 : Int32)).toNatClampNeg) := inb_of Sz22 ⟨by decide, by decide⟩
  have hat22 : cl22.slots[((11 : Int32)).toNatClampNeg]? = some (.long u11) := Hs22.at hin22 rfl
  have k23 : ∀ t, own_S p e below T19 (mkF m 40 #[.val (.ref a1), .val (.int (1 : Int32)), .val (.long q3), .second, .val (.int (8 : Int32))] [(.long (u11 + (1 : Int64))), (.int (11 : Int32)), (.ref b1)]) t → Gl t := fun t kt => k21 t (by
    show own_S p e below T19 (mkF m 37 #[.val (.ref a1), .val (.int (1 : Int32)), .val (.long q3), .second, .val (.int (8 : Int32))] [(.int (11 : Int32)), (.ref b1), (.int (11 : Int32)), (.ref b1)]) _
    refine X19.laload hx (j := (11 : Int32)) (v := (.long u11)) (by rw [e19]; exact Ar22.1) (State.isArrayOf_alike hZ.alike Ar22.2.1) Ar22.2.2 hin22 hat22 (g := (mkF m 37 #[.val (.ref a1), .val (.int (1 : Int32)), .val (.long q3), .second, .val (.int (8 : Int32))] [(.int (11 : Int32)), (.ref b1), (.int (11 : Int32)), (.ref b1)])) rfl rfl (hb hby d_prog_25_method_10_37) _ ?_
    show own_S p e below T19 (mkF m 38 #[.val (.ref a1), .val (.int (1 : Int32)), .val (.long q3), .second, .val (.int (8 : Int32))] [(.long u11), (.int (11 : Int32)), (.ref b1)]) _
    refine XS.lconst X19.here hx rfl (hb hby d_prog_25_method_10_38) ?_
    show own_S p e below T19 (mkF m 39 #[.val (.ref a1), .val (.int (1 : Int32)), .val (.long q3), .second, .val (.int (8 : Int32))] [(.long (1 : Int64)), (.long u11), (.int (11 : Int32)), (.ref b1)]) _
    refine XS.ladd X19.here hx rfl (hb hby d_prog_25_method_10_39) rfl ?_
    exact kt)
  obtain ⟨cl24, Ar24, q24, Sz24, Ng24, Hs24, Gs24⟩ := id V12
  have hin24 : ¬ ((11 : Int32) < 0 ∨ cl24.slots.size ≤ ((11 : Int32)).toNatClampNeg) := inb_of Sz24 ⟨by decide, by decide⟩
  obtain ⟨T24, h24, X24, e24, W24, st24⟩ := stJ X19 hx hZ e19 Ar24 (j := (11 : Int32)) hin24 (g := (mkF m 40 #[.val (.ref a1), .val (.int (1 : Int32)), .val (.long q3), .second, .val (.int (8 : Int32))] [(.long (u11 + (1 : Int64))), (.int (11 : Int32)), (.ref b1)])) rfl rfl (hb hby d_prog_25_method_10_40)
  have Z25 : n0 ≤ h24.size := Nat.le_trans Z13 (Keep.of_wr W24).1
  have K26 : Keep h0 h24 [b1] := K14.wr W24 (Or.inl (List.mem_of_getElem? (i := 0) rfl))
  have V24 : Arv Z h24 b1 kk1 .long (16 : Int32) [(.long u0), (.long u1), (.long u2), (.long u3), (.long u4), (.long u5), (.long u6), (.long u7), (.long u8), (.long u9), (.long q3), (.long (u11 + (1 : Int64))), (.long u12), (.long u13), (.long u14), (.long u15)] (.long (0 : Int64)) := Arv.set Ar24 q24 Sz24 Ng24 Hs24 Gs24 rfl W24 11 rfl (Nat.le_of_ble_eq_true rfl)
  have N27 := Fr.snoc X24 N15 g_b1
  have k28 : ∀ t, own_S p e below T24 (mkF m 41 #[.val (.ref a1), .val (.int (1 : Int32)), .val (.long q3), .second, .val (.int (8 : Int32))] []) t → Gl t := fun t kt => k23 t (st24 _ kt)
  obtain ⟨fs, hr, hrun, hended, hW, hsame⟩ := X24.leave (v := none) (fun _ => rfl)
  refine ⟨_, _, hGl _ (k28 _ (X24.returnOut hx Bd.returns (hb hby d_prog_25_method_10_41) hr)), hrun, hended, _, _, rfl, ?_, ⟨_, rfl⟩, hW, hsame.mono (by decide) (by decide)⟩
  show Q4_1 Z a1 q3 b1 kk1 u0 u1 u2 u3 u4 u5 u6 u7 u8 u9 u11 u12 u13 u14 u15 h0 n0 _ T24.heap _
  rw [e24]
  exact ⟨rfl, N27, K26, V24⟩

theorem d_method_3_0 : decode method_3_code 0 = .ok (.lload_n 0, 1) := by decide +kernel
theorem d_method_3_1 : decode method_3_code 1 = .ok (.lload_n 2, 1) := by decide +kernel
theorem d_method_3_2 : decode method_3_code 2 = .ok (.ladd, 1) := by decide +kernel
theorem d_method_3_3 : decode method_3_code 3 = .ok (.lload_n 0, 1) := by decide +kernel
theorem d_method_3_4 : decode method_3_code 4 = .ok (.lcmp, 1) := by decide +kernel
theorem d_method_3_5 : decode method_3_code 5 = .ok (.ifCond .lt 7, 3) := by decide +kernel
theorem d_method_3_8 : decode method_3_code 8 = .ok (.iconst 1, 1) := by decide +kernel
theorem d_method_3_9 : decode method_3_code 9 = .ok (.goto 4, 3) := by decide +kernel
theorem d_method_3_12 : decode method_3_code 12 = .ok (.iconst 0, 1) := by decide +kernel
theorem d_method_3_13 : decode method_3_code 13 = .ok (.ireturn, 1) := by decide +kernel
theorem pn_1 : plainName "com/example/pricecollar/pricecollar/engine/ReferencePricesHasRoomForPinLaw" = true := by first | (simp [plainName, overriddenIn]; done) | decide +kernel
theorem ef_rm6 (m : MethodId) (x0 : Int64) (x1 : Int64) : entryFrame m #[(.long x0), (.long x1)] 4 = mkF m 0 #[.val (.long x0), .second, .val (.long x1), .second] [] := by first | (simp [entryFrame, mkF, argsToLocals, Value.category]; done) | rfl
def Q6 (Z : State) (q1 : Int64) (q2 : Int64) (h0 : Heap) (n0 : Nat) (v : Option Value) (h : Heap) (L : List Loc) : Prop := v = some (.int (own_fits q1 q2)) ∧ Fr n0 L ∧ h = h0
set_option maxRecDepth 65536 in
set_option maxHeartbeats 40000000 in
theorem rm6 (l : Launch) (Z : State) (a0 : Array Value) (hw : ∀ d ∈ tables_1, d.before a0 Z = true) (ws : List Jvm.Cond) (q1 : Int64) (q2 : Int64) (h0 : Heap) (n0 : Nat) (Z0 : n0 ≤ h0.size) :
    MetFree l (⟨"com/example/pricecollar/pricecollar/engine/ReferencePricesHasRoomForPinLaw", "fits", "(JJ)Z"⟩ : MethodName) (head1 (Jvm.Cond.code (⟨"com/example/pricecollar/pricecollar/engine/ReferencePricesHasRoomForPinLaw", "fits", "(JJ)Z"⟩ : MethodName) method_3_code 4 (some .boolean) :: ws) ({ frames := 0, cells := 0, slots := 0, locals := 0 } : Room)) (fun a U => a = #[(.long q1), (.long q2)] ∧ Z.Warmed39 U.vm ∧ U.heap = h0) (fun _ _ _ _ _ => True) (fun _ U o U' => ∃ v L, o = .returned v ∧ Q6 Z q1 q2 h0 n0 v U'.heap L ∧ FrameEnd U o U' L ({ frames := 0, cells := 0, slots := 0, locals := 0 } : Room).cells ({ frames := 0, cells := 0, slots := 0, locals := 0 } : Room).slots) := by
  refine MetFree.of_bodySF (plainFor_of_name pn_1) hisR ?_
  intro p e s m args below meth c s₁ Bd hml0 hP hK
  obtain ⟨rfl, hZ, hh⟩ := hP
  have hx := Bd.exec
  have hby := Bd.bytes
  have hml : c.maxLocals = 4 := hml0
  have hown : s.vm.findClass "com/example/pricecollar/pricecollar/engine/ReferencePricesHasRoomForPinLaw" = some m.cls := findClass_of_methodNamed Bd.named
  have hnm := (name_of_methodNamed Bd.named Bd.method).1
  have X0 : Stand p l e ({ frames := 0, cells := 0, slots := 0, locals := 0 } : Room) s m #[(.long q1), (.long q2)] below meth c s₁ [] 0 0 := Stand.of_body Bd
  have e0 : s₁.heap = h0 := by rw [← hh, Bd.state]; rfl
  have N0 := Fr.nil n0
  obtain ⟨Gl, hGl, k0⟩ : ∃ Gl : State → Prop, (∀ t, Gl t → Steps p.tables e below (s₁.setTop (entryFrame m #[(.long q1), (.long q2)] 4)) t) ∧ ∀ t, own_S p e below s₁ (mkF m 0 #[.val (.long q1), .second, .val (.long q2), .second] []) t → Gl t := ⟨fun t => Steps p.tables e below (s₁.setTop (entryFrame m #[(.long q1), (.long q2)] 4)) t, fun _ k => k, fun t k => castTop (ef_rm6 m q1 q2) k⟩
  have k1 : ∀ t, own_S p e below s₁ (mkF m 5 #[.val (.long q1), .second, .val (.long q2), .second] [(.int (lcmpW (q1 + q2) q1))]) t → Gl t := fun t kt => k0 t (by
    show own_S p e below s₁ (mkF m 0 #[.val (.long q1), .second, .val (.long q2), .second] []) _
    refine XS.lloadN X0.here hx rfl (hb hby d_method_3_0) rfl ?_
    show own_S p e below s₁ (mkF m 1 #[.val (.long q1), .second, .val (.long q2), .second] [(.long q1)]) _
    refine XS.lloadN X0.here hx rfl (hb hby d_method_3_1) rfl ?_
    show own_S p e below s₁ (mkF m 2 #[.val (.long q1), .second, .val (.long q2), .second] [(.long q2), (.long q1)]) _
    refine XS.ladd X0.here hx rfl (hb hby d_method_3_2) rfl ?_
    show own_S p e below s₁ (mkF m 3 #[.val (.long q1), .second, .val (.long q2), .second] [(.long (q1 + q2))]) _
    refine XS.lloadN X0.here hx rfl (hb hby d_method_3_3) rfl ?_
    show own_S p e below s₁ (mkF m 4 #[.val (.long q1), .second, .val (.long q2), .second] [(.long q1), (.long (q1 + q2))]) _
    refine XS.lcmp X0.here hx rfl (hb hby d_method_3_4) rfl ?_
    exact kt)
  by_cases hc5 : (q1 + q2) < q1
  · have k2 : ∀ t, own_S p e below s₁ (mkF m 13 #[.val (.long q1), .second, .val (.long q2), .second] [(.int (0 : Int32))]) t → Gl t := fun t kt => k1 t (by
      show own_S p e below s₁ (mkF m 5 #[.val (.long q1), .second, .val (.long q2), .second] [(.int (lcmpW (q1 + q2) q1))]) _
      refine XS.ifYes X0.here hx rfl (pc0 := 5) (pc' := 12) rfl (hb hby d_method_3_5) rfl ((if0 _ _).trans (tlt ((lw_lt (q1 + q2) q1).mpr hc5)).1) (by decide) (by decide) ?_
      show own_S p e below s₁ (mkF m 12 #[.val (.long q1), .second, .val (.long q2), .second] []) _
      refine XS.iconst X0.here hx rfl (hb hby d_method_3_12) ?_
      exact kt)
    obtain ⟨fs, hr, hrun, hended, hW, hsame⟩ := X0.leave (v := some (.int (0 : Int32))) (fun h => by rw [Bd.returns] at h; cases h)
    refine ⟨_, _, hGl _ (k2 _ (retN X0 hx (t := .boolean) Bd.returns (by simp) (hb hby d_method_3_13) hr)), hrun, hended, _, _, rfl, ?_, ⟨_, rfl⟩, hW, hsame.mono (by decide) (by decide)⟩
    show Q6 Z q1 q2 h0 n0 _ s₁.heap _
    rw [e0]
    exact ⟨by simp [own_fits, hc5], N0, rfl⟩
  · have k3 : ∀ t, own_S p e below s₁ (mkF m 13 #[.val (.long q1), .second, .val (.long q2), .second] [(.int (1 : Int32))]) t → Gl t := fun t kt => k1 t (by
      show own_S p e below s₁ (mkF m 5 #[.val (.long q1), .second, .val (.long q2), .second] [(.int (lcmpW (q1 + q2) q1))]) _
      refine XS.ifNo X0.here hx rfl (hb hby d_method_3_5) rfl ((if0 _ _).trans (flt (fun q => hc5 ((lw_lt (q1 + q2) q1).mp q))).1) ?_
      show own_S p e below s₁ (mkF m 8 #[.val (.long q1), .second, .val (.long q2), .second] []) _
      refine XS.iconst X0.here hx rfl (hb hby d_method_3_8) ?_
      show own_S p e below s₁ (mkF m 9 #[.val (.long q1), .second, .val (.long q2), .second] [(.int (1 : Int32))]) _
      refine XS.goto X0.here hx rfl (pc0 := 9) (pc' := 13) rfl (hb hby d_method_3_9) (by decide) (by decide) ?_
      exact kt)
    obtain ⟨fs, hr, hrun, hended, hW, hsame⟩ := X0.leave (v := some (.int (1 : Int32))) (fun h => by rw [Bd.returns] at h; cases h)
    refine ⟨_, _, hGl _ (k3 _ (retN X0 hx (t := .boolean) Bd.returns (by simp) (hb hby d_method_3_13) hr)), hrun, hended, _, _, rfl, ?_, ⟨_, rfl⟩, hW, hsame.mono (by decide) (by decide)⟩
    show Q6 Z q1 q2 h0 n0 _ s₁.heap _
    rw [e0]
    exact ⟨by simp [own_fits, hc5], N0, rfl⟩

theorem d_prog_25_method_6_0 : decode prog_25_method_6_code 0 = .ok (.iload_n 1, 1) := by decide +kernel
theorem d_prog_25_method_6_1 : decode prog_25_method_6_code 1 = .ok (.bipush 8, 2) := by decide +kernel
theorem d_prog_25_method_6_3 : decode prog_25_method_6_code 3 = .ok (.imul, 1) := by decide +kernel
theorem d_prog_25_method_6_4 : decode prog_25_method_6_code 4 = .ok (.istore 4, 2) := by decide +kernel
theorem d_prog_25_method_6_6 : decode prog_25_method_6_code 6 = .ok (.ldc2_w 20, 3) := by decide +kernel
theorem d_prog_25_method_6_9 : decode prog_25_method_6_code 9 = .ok (.lload_n 2, 1) := by decide +kernel
theorem d_prog_25_method_6_10 : decode prog_25_method_6_code 10 = .ok (.lsub, 1) := by decide +kernel
theorem d_prog_25_method_6_11 : decode prog_25_method_6_code 11 = .ok (.lstore 5, 2) := by decide +kernel
theorem d_prog_25_method_6_13 : decode prog_25_method_6_code 13 = .ok (.aload_n 0, 1) := by decide +kernel
theorem d_prog_25_method_6_14 : decode prog_25_method_6_code 14 = .ok (.getfield 9, 3) := by decide +kernel
theorem d_prog_25_method_6_17 : decode prog_25_method_6_code 17 = .ok (.iload 4, 2) := by decide +kernel
theorem d_prog_25_method_6_19 : decode prog_25_method_6_code 19 = .ok (.iconst 2, 1) := by decide +kernel
theorem d_prog_25_method_6_20 : decode prog_25_method_6_code 20 = .ok (.iadd, 1) := by decide +kernel
theorem d_prog_25_method_6_21 : decode prog_25_method_6_code 21 = .ok (.laload, 1) := by decide +kernel
theorem d_prog_25_method_6_22 : decode prog_25_method_6_code 22 = .ok (.lload 5, 2) := by decide +kernel
theorem d_prog_25_method_6_24 : decode prog_25_method_6_code 24 = .ok (.lcmp, 1) := by decide +kernel
theorem d_prog_25_method_6_25 : decode prog_25_method_6_code 25 = .ok (.ifCond .gt 22, 3) := by decide +kernel
theorem d_prog_25_method_6_28 : decode prog_25_method_6_code 28 = .ok (.aload_n 0, 1) := by decide +kernel
theorem d_prog_25_method_6_29 : decode prog_25_method_6_code 29 = .ok (.getfield 9, 3) := by decide +kernel
theorem d_prog_25_method_6_32 : decode prog_25_method_6_code 32 = .ok (.iload 4, 2) := by decide +kernel
theorem d_prog_25_method_6_34 : decode prog_25_method_6_code 34 = .ok (.iconst 4, 1) := by decide +kernel
theorem d_prog_25_method_6_35 : decode prog_25_method_6_code 35 = .ok (.iadd, 1) := by decide +kernel
theorem d_prog_25_method_6_36 : decode prog_25_method_6_code 36 = .ok (.laload, 1) := by decide +kernel
theorem d_prog_25_method_6_37 : decode prog_25_method_6_code 37 = .ok (.lload 5, 2) := by decide +kernel
theorem d_prog_25_method_6_39 : decode prog_25_method_6_code 39 = .ok (.lcmp, 1) := by decide +kernel
theorem d_prog_25_method_6_40 : decode prog_25_method_6_code 40 = .ok (.ifCond .gt 7, 3) := by decide +kernel
theorem d_prog_25_method_6_43 : decode prog_25_method_6_code 43 = .ok (.iconst 1, 1) := by decide +kernel
theorem d_prog_25_method_6_44 : decode prog_25_method_6_code 44 = .ok (.goto 4, 3) := by decide +kernel
theorem d_prog_25_method_6_47 : decode prog_25_method_6_code 47 = .ok (.iconst 0, 1) := by decide +kernel
theorem d_prog_25_method_6_48 : decode prog_25_method_6_code 48 = .ok (.ireturn, 1) := by decide +kernel
theorem ef_rm7_0 (m : MethodId) (x0 : Addr) (x2 : Int64) : entryFrame m #[(.ref x0), (.int (0 : Int32)), (.long x2)] 7 = mkF m 0 #[.val (.ref x0), .val (.int (0 : Int32)), .val (.long x2), .second, .unset, .unset, .unset] [] := by first | (simp [entryFrame, mkF, argsToLocals, Value.category]; done) | rfl
def Q7_0 (Z : State) (a1 : Addr) (q3 : Int64) (b1 : Addr) (kk1 : ClassId) (u0 : Int64) (u1 : Int64) (u2 : Int64) (u3 : Int64) (u4 : Int64) (u5 : Int64) (u6 : Int64) (u7 : Int64) (u8 : Int64) (u9 : Int64) (u10 : Int64) (u11 : Int64) (u12 : Int64) (u13 : Int64) (u14 : Int64) (u15 : Int64) (h0 : Heap) (n0 : Nat) (v : Option Value) (h : Heap) (L : List Loc) : Prop := v = some (.int (own_room u2 u4 q3)) ∧ Fr n0 L ∧ h = h0
set_option maxRecDepth 65536 in
set_option maxHeartbeats 40000000 in
theorem rm7_0 (l : Launch) (Z : State) (a0 : Array Value) (hw : ∀ d ∈ tables_1, d.before a0 Z = true) (ws : List Jvm.Cond) (a1 : Addr) (q3 : Int64) (b1 : Addr) (kk1 : ClassId) (u0 : Int64) (u1 : Int64) (u2 : Int64) (u3 : Int64) (u4 : Int64) (u5 : Int64) (u6 : Int64) (u7 : Int64) (u8 : Int64) (u9 : Int64) (u10 : Int64) (u11 : Int64) (u12 : Int64) (u13 : Int64) (u14 : Int64) (u15 : Int64) (h0 : Heap) (n0 : Nat) (Z0 : n0 ≤ h0.size) (F1 : Fld Z h0 a1 "com/example/pricecollar/pricecollar/engine/ReferencePrices" "numbers" "[J" (.ref b1)) (V1 : Arv Z h0 b1 kk1 .long (16 : Int32) [(.long u0), (.long u1), (.long u2), (.long u3), (.long u4), (.long u5), (.long u6), (.long u7), (.long u8), (.long u9), (.long u10), (.long u11), (.long u12), (.long u13), (.long u14), (.long u15)] (.long (0 : Int64))) :
    MetFree l (⟨"com/example/pricecollar/pricecollar/engine/ReferencePrices", "hasRoomFor", "(IJ)Z"⟩ : MethodName) (head1 (Jvm.Cond.code (⟨"com/example/pricecollar/pricecollar/engine/ReferencePrices", "hasRoomFor", "(IJ)Z"⟩ : MethodName) prog_25_method_6_code 7 (some .boolean) :: ws) ({ frames := 0, cells := 0, slots := 0, locals := 0 } : Room)) (fun a U => a = #[(.ref a1), (.int (0 : Int32)), (.long q3)] ∧ Z.Warmed39 U.vm ∧ U.heap = h0) (fun _ _ _ _ _ => True) (fun _ U o U' => ∃ v L, o = .returned v ∧ Q7_0 Z a1 q3 b1 kk1 u0 u1 u2 u3 u4 u5 u6 u7 u8 u9 u10 u11 u12 u13 u14 u15 h0 n0 v U'.heap L ∧ FrameEnd U o U' L ({ frames := 0, cells := 0, slots := 0, locals := 0 } : Room).cells ({ frames := 0, cells := 0, slots := 0, locals := 0 } : Room).slots) := by
  refine MetFree.of_bodySF (plainFor_of_name pn_0) hisR ?_
  intro p e s m args below meth c s₁ Bd hml0 hP hK
  obtain ⟨rfl, hZ, hh⟩ := hP
  have hx := Bd.exec
  have hby := Bd.bytes
  have hml : c.maxLocals = 7 := hml0
  have hown : s.vm.findClass "com/example/pricecollar/pricecollar/engine/ReferencePrices" = some m.cls := findClass_of_methodNamed Bd.named
  have hnm := (name_of_methodNamed Bd.named Bd.method).1
  have X0 : Stand p l e ({ frames := 0, cells := 0, slots := 0, locals := 0 } : Room) s m #[(.ref a1), (.int (0 : Int32)), (.long q3)] below meth c s₁ [] 0 0 := Stand.of_body Bd
  have e0 : s₁.heap = h0 := by rw [← hh, Bd.state]; rfl
  have N0 := Fr.nil n0
  obtain ⟨Gl, hGl, k0⟩ : ∃ Gl : State → Prop, (∀ t, Gl t → Steps p.tables e below (s₁.setTop (entryFrame m #[(.ref a1), (.int (0 : Int32)), (.long q3)] 7)) t) ∧ ∀ t, own_S p e below s₁ (mkF m 0 #[.val (.ref a1), .val (.int (0 : Int32)), .val (.long q3), .second, .unset, .unset, .unset] []) t → Gl t := ⟨fun t => Steps p.tables e below (s₁.setTop (entryFrame m #[(.ref a1), (.int (0 : Int32)), (.long q3)] 7)) t, fun _ k => k, fun t k => castTop (ef_rm7_0 m a1 q3) k⟩
  have k1 : ∀ t, own_S p e below s₁ (mkF m 14 #[.val (.ref a1), .val (.int (0 : Int32)), .val (.long q3), .second, .val (.int (0 : Int32)), .val (.long ((9223372036854775807 : Int64) - q3)), .second] [(.ref a1)]) t → Gl t := fun t kt => k0 t (by
    show own_S p e below s₁ (mkF m 0 #[.val (.ref a1), .val (.int (0 : Int32)), .val (.long q3), .second, .unset, .unset, .unset] []) _
    refine XS.iloadN X0.here hx rfl (hb hby d_prog_25_method_6_0) rfl ?_
    show own_S p e below s₁ (mkF m 1 #[.val (.ref a1), .val (.int (0 : Int32)), .val (.long q3), .second, .unset, .unset, .unset] [(.int (0 : Int32))]) _
    refine XS.bipush X0.here hx rfl (hb hby d_prog_25_method_6_1) ?_
    show own_S p e below s₁ (mkF m 3 #[.val (.ref a1), .val (.int (0 : Int32)), .val (.long q3), .second, .unset, .unset, .unset] [(.int (8 : Int32)), (.int (0 : Int32))]) _
    refine XS.imul X0.here hx rfl (hb hby d_prog_25_method_6_3) rfl ?_
    rw [(by decide : ((0 : Int32) * (8 : Int32)) = (0 : Int32))]
    show own_S p e below s₁ (mkF m 4 #[.val (.ref a1), .val (.int (0 : Int32)), .val (.long q3), .second, .unset, .unset, .unset] [(.int (0 : Int32))]) _
    refine XS.istore X0.here hx rfl (hb hby d_prog_25_method_6_4) rfl (l' := #[.val (.ref a1), .val (.int (0 : Int32)), .val (.long q3), .second, .val (.int (0 : Int32)), .unset, .unset]) rfl ?_
    show own_S p e below s₁ (mkF m 6 #[.val (.ref a1), .val (.int (0 : Int32)), .val (.long q3), .second, .val (.int (0 : Int32)), .unset, .unset] []) _
    refine X0.ldc2Long hx hown (mvT hZ (hw _ (List.mem_of_getElem? (i := 42) rfl))) (g := (mkF m 6 #[.val (.ref a1), .val (.int (0 : Int32)), .val (.long q3), .second, .val (.int (0 : Int32)), .unset, .unset] [])) rfl (hb hby d_prog_25_method_6_6) _ ?_
    show own_S p e below s₁ (mkF m 9 #[.val (.ref a1), .val (.int (0 : Int32)), .val (.long q3), .second, .val (.int (0 : Int32)), .unset, .unset] [(.long (9223372036854775807 : Int64))]) _
    refine XS.lloadN X0.here hx rfl (hb hby d_prog_25_method_6_9) rfl ?_
    show own_S p e below s₁ (mkF m 10 #[.val (.ref a1), .val (.int (0 : Int32)), .val (.long q3), .second, .val (.int (0 : Int32)), .unset, .unset] [(.long q3), (.long (9223372036854775807 : Int64))]) _
    refine XS.lsub X0.here hx rfl (hb hby d_prog_25_method_6_10) rfl ?_
    show own_S p e below s₁ (mkF m 11 #[.val (.ref a1), .val (.int (0 : Int32)), .val (.long q3), .second, .val (.int (0 : Int32)), .unset, .unset] [(.long ((9223372036854775807 : Int64) - q3))]) _
    refine XS.lstore X0.here hx rfl (hb hby d_prog_25_method_6_11) rfl (l' := #[.val (.ref a1), .val (.int (0 : Int32)), .val (.long q3), .second, .val (.int (0 : Int32)), .val (.long ((9223372036854775807 : Int64) - q3)), .second]) rfl ?_
    show own_S p e below s₁ (mkF m 13 #[.val (.ref a1), .val (.int (0 : Int32)), .val (.long q3), .second, .val (.int (0 : Int32)), .val (.long ((9223372036854775807 : Int64) - q3)), .second] []) _
    refine XS.aloadN X0.here hx rfl (hb hby d_prog_25_method_6_13) rfl rfl ?_
    exact kt)
  obtain ⟨T2, X2, e2, st2⟩ := getF X0 hx hZ hown (host := "") (Or.inl (hw _ (List.mem_of_getElem? (i := 11) rfl))) Via.refl e0 F1 (g := (mkF m 14 #[.val (.ref a1), .val (.int (0 : Int32)), .val (.long q3), .second, .val (.int (0 : Int32)), .val (.long ((9223372036854775807 : Int64) - q3)), .second] [(.ref a1)])) rfl rfl (hb hby d_prog_25_method_6_14)
  have k3 : ∀ t, own_S p e below T2 (mkF m 17 #[.val (.ref a1), .val (.int (0 : Int32)), .val (.long q3), .second, .val (.int (0 : Int32)), .val (.long ((9223372036854775807 : Int64) - q3)), .second] [(.ref b1)]) t → Gl t := fun t kt => k1 t (st2 _ kt)
  have k4 : ∀ t, own_S p e below T2 (mkF m 21 #[.val (.ref a1), .val (.int (0 : Int32)), .val (.long q3), .second, .val (.int (0 : Int32)), .val (.long ((9223372036854775807 : Int64) - q3)), .second] [(.int (2 : Int32)), (.ref b1)]) t → Gl t := fun t kt => k3 t (by
    show own_S p e below T2 (mkF m 17 #[.val (.ref a1), .val (.int (0 : Int32)), .val (.long q3), .second, .val (.int (0 : Int32)), .val (.long ((9223372036854775807 : Int64) - q3)), .second] [(.ref b1)]) _
    refine XS.iload X2.here hx rfl (hb hby d_prog_25_method_6_17) rfl ?_
    show own_S p e below T2 (mkF m 19 #[.val (.ref a1), .val (.int (0 : Int32)), .val (.long q3), .second, .val (.int (0 : Int32)), .val (.long ((9223372036854775807 : Int64) - q3)), .second] [(.int (0 : Int32)), (.ref b1)]) _
    refine XS.iconst X2.here hx rfl (hb hby d_prog_25_method_6_19) ?_
    show own_S p e below T2 (mkF m 20 #[.val (.ref a1), .val (.int (0 : Int32)), .val (.long q3), .second, .val (.int (0 : Int32)), .val (.long ((9223372036854775807 : Int64) - q3)), .second] [(.int (2 : Int32)), (.int (0 : Int32)), (.ref b1)]) _
    refine XS.iadd X2.here hx rfl (hb hby d_prog_25_method_6_20) rfl ?_
    rw [(by decide : ((0 : Int32) + (2 : Int32)) = (2 : Int32))]
    exact kt)
  obtain ⟨cl5, Ar5, q5, Sz5, Ng5, Hs5, Gs5⟩ := id V1
  have hin5 : ¬ ((2 : Int32) < 0 ∨ cl5.slots.size ≤ ((2 : Int32)).toNatClampNeg) := inb_of Sz5 ⟨by decide, by decide⟩
  have hat5 : cl5.slots[((2 : Int32)).toNatClampNeg]? = some (.long u2) := Hs5.at hin5 rfl
  have k6 : ∀ t, own_S p e below T2 (mkF m 25 #[.val (.ref a1), .val (.int (0 : Int32)), .val (.long q3), .second, .val (.int (0 : Int32)), .val (.long ((9223372036854775807 : Int64) - q3)), .second] [(.int (lcmpW u2 ((9223372036854775807 : Int64) - q3)))]) t → Gl t := fun t kt => k4 t (by
    show own_S p e below T2 (mkF m 21 #[.val (.ref a1), .val (.int (0 : Int32)), .val (.long q3), .second, .val (.int (0 : Int32)), .val (.long ((9223372036854775807 : Int64) - q3)), .second] [(.int (2 : Int32)), (.ref b1)]) _
    refine X2.laload hx (j := (2 : Int32)) (v := (.long u2)) (by rw [e2]; exact Ar5.1) (State.isArrayOf_alike hZ.alike Ar5.2.1) Ar5.2.2 hin5 hat5 (g := (mkF m 21 #[.val (.ref a1), .val (.int (0 : Int32)), .val (.long q3), .second, .val (.int (0 : Int32)), .val (.long ((9223372036854775807 : Int64) - q3)), .second] [(.int (2 : Int32)), (.ref b1)])) rfl rfl (hb hby d_prog_25_method_6_21) _ ?_
    show own_S p e below T2 (mkF m 22 #[.val (.ref a1), .val (.int (0 : Int32)), .val (.long q3), .second, .val (.int (0 : Int32)), .val (.long ((9223372036854775807 : Int64) - q3)), .second] [(.long u2)]) _
    refine XS.lload X2.here hx rfl (hb hby d_prog_25_method_6_22) rfl ?_
    show own_S p e below T2 (mkF m 24 #[.val (.ref a1), .val (.int (0 : Int32)), .val (.long q3), .second, .val (.int (0 : Int32)), .val (.long ((9223372036854775807 : Int64) - q3)), .second] [(.long ((9223372036854775807 : Int64) - q3)), (.long u2)]) _
    refine XS.lcmp X2.here hx rfl (hb hby d_prog_25_method_6_24) rfl ?_
    exact kt)
  by_cases hc25 : ((9223372036854775807 : Int64) - q3) < u2
  · have k7 : ∀ t, own_S p e below T2 (mkF m 48 #[.val (.ref a1), .val (.int (0 : Int32)), .val (.long q3), .second, .val (.int (0 : Int32)), .val (.long ((9223372036854775807 : Int64) - q3)), .second] [(.int (0 : Int32))]) t → Gl t := fun t kt => k6 t (by
      show own_S p e below T2 (mkF m 25 #[.val (.ref a1), .val (.int (0 : Int32)), .val (.long q3), .second, .val (.int (0 : Int32)), .val (.long ((9223372036854775807 : Int64) - q3)), .second] [(.int (lcmpW u2 ((9223372036854775807 : Int64) - q3)))]) _
      refine XS.ifYes X2.here hx rfl (pc0 := 25) (pc' := 47) rfl (hb hby d_prog_25_method_6_25) rfl ((if0 _ _).trans (tlt ((lw_gt u2 ((9223372036854775807 : Int64) - q3)).mpr hc25)).2.2.1) (by decide) (by decide) ?_
      show own_S p e below T2 (mkF m 47 #[.val (.ref a1), .val (.int (0 : Int32)), .val (.long q3), .second, .val (.int (0 : Int32)), .val (.long ((9223372036854775807 : Int64) - q3)), .second] []) _
      refine XS.iconst X2.here hx rfl (hb hby d_prog_25_method_6_47) ?_
      exact kt)
    obtain ⟨fs, hr, hrun, hended, hW, hsame⟩ := X2.leave (v := some (.int (0 : Int32))) (fun h => by rw [Bd.returns] at h; cases h)
    refine ⟨_, _, hGl _ (k7 _ (retN X2 hx (t := .boolean) Bd.returns (by simp) (hb hby d_prog_25_method_6_48) hr)), hrun, hended, _, _, rfl, ?_, ⟨_, rfl⟩, hW, hsame.mono (by decide) (by decide)⟩
    show Q7_0 Z a1 q3 b1 kk1 u0 u1 u2 u3 u4 u5 u6 u7 u8 u9 u10 u11 u12 u13 u14 u15 h0 n0 _ T2.heap _
    rw [e2]
    exact ⟨by simp [own_room, hc25], N0, rfl⟩
  · have k8 : ∀ t, own_S p e below T2 (mkF m 29 #[.val (.ref a1), .val (.int (0 : Int32)), .val (.long q3), .second, .val (.int (0 : Int32)), .val (.long ((9223372036854775807 : Int64) - q3)), .second] [(.ref a1)]) t → Gl t := fun t kt => k6 t (by
      show own_S p e below T2 (mkF m 25 #[.val (.ref a1), .val (.int (0 : Int32)), .val (.long q3), .second, .val (.int (0 : Int32)), .val (.long ((9223372036854775807 : Int64) - q3)), .second] [(.int (lcmpW u2 ((9223372036854775807 : Int64) - q3)))]) _
      refine XS.ifNo X2.here hx rfl (hb hby d_prog_25_method_6_25) rfl ((if0 _ _).trans (flt (fun q => hc25 ((lw_gt u2 ((9223372036854775807 : Int64) - q3)).mp q))).2.2.1) ?_
      show own_S p e below T2 (mkF m 28 #[.val (.ref a1), .val (.int (0 : Int32)), .val (.long q3), .second, .val (.int (0 : Int32)), .val (.long ((9223372036854775807 : Int64) - q3)), .second] []) _
      refine XS.aloadN X2.here hx rfl (hb hby d_prog_25_method_6_28) rfl rfl ?_
      exact kt)
    obtain ⟨T9, X9, e9, st9⟩ := getF X2 hx hZ hown (host := "") (Or.inl (hw _ (List.mem_of_getElem? (i := 11) rfl))) Via.refl e2 F1 (g := (mkF m 29 #[.val (.ref a1), .val (.int (0 : Int32)), .val (.long q3), .second, .val (.int (0 : Int32)), .val (.long ((9223372036854775807 : Int64) - q3)), .second] [(.ref a1)])) rfl rfl (hb hby d_prog_25_method_6_29)
    have k10 : ∀ t, own_S p e below T9 (mkF m 32 #[.val (.ref a1), .val (.int (0 : Int32)), .val (.long q3), .second, .val (.int (0 : Int32)), .val (.long ((9223372036854775807 : Int64) - q3)), .second] [(.ref b1)]) t → Gl t := fun t kt => k8 t (st9 _ kt)
    have k11 : ∀ t, own_S p e below T9 (mkF m 36 #[.val (.ref a1), .val (.int (0 : Int32)), .val (.long q3), .second, .val (.int (0 : Int32)), .val (.long ((9223372036854775807 : Int64) - q3)), .second] [(.int (4 : Int32)), (.ref b1)]) t → Gl t := fun t kt => k10 t (by
      show own_S p e below T9 (mkF m 32 #[.val (.ref a1), .val (.int (0 : Int32)), .val (.long q3), .second, .val (.int (0 : Int32)), .val (.long ((9223372036854775807 : Int64) - q3)), .second] [(.ref b1)]) _
      refine XS.iload X9.here hx rfl (hb hby d_prog_25_method_6_32) rfl ?_
      show own_S p e below T9 (mkF m 34 #[.val (.ref a1), .val (.int (0 : Int32)), .val (.long q3), .second, .val (.int (0 : Int32)), .val (.long ((9223372036854775807 : Int64) - q3)), .second] [(.int (0 : Int32)), (.ref b1)]) _
      refine XS.iconst X9.here hx rfl (hb hby d_prog_25_method_6_34) ?_
      show own_S p e below T9 (mkF m 35 #[.val (.ref a1), .val (.int (0 : Int32)), .val (.long q3), .second, .val (.int (0 : Int32)), .val (.long ((9223372036854775807 : Int64) - q3)), .second] [(.int (4 : Int32)), (.int (0 : Int32)), (.ref b1)]) _
      refine XS.iadd X9.here hx rfl (hb hby d_prog_25_method_6_35) rfl ?_
      rw [(by decide : ((0 : Int32) + (4 : Int32)) = (4 : Int32))]
      exact kt)
    obtain ⟨cl12, Ar12, q12, Sz12, Ng12, Hs12, Gs12⟩ := id V1
    have hin12 : ¬ ((4 : Int32) < 0 ∨ cl12.slots.size ≤ ((4 : Int32)).toNatClampNeg) := inb_of Sz12 ⟨by decide, by decide⟩
    have hat12 : cl12.slots[((4 : Int32)).toNatClampNeg]? = some (.long u4) := Hs12.at hin12 rfl
    have k13 : ∀ t, own_S p e below T9 (mkF m 40 #[.val (.ref a1), .val (.int (0 : Int32)), .val (.long q3), .second, .val (.int (0 : Int32)), .val (.long ((9223372036854775807 : Int64) - q3)), .second] [(.int (lcmpW u4 ((9223372036854775807 : Int64) - q3)))]) t → Gl t := fun t kt => k11 t (by
      show own_S p e below T9 (mkF m 36 #[.val (.ref a1), .val (.int (0 : Int32)), .val (.long q3), .second, .val (.int (0 : Int32)), .val (.long ((9223372036854775807 : Int64) - q3)), .second] [(.int (4 : Int32)), (.ref b1)]) _
      refine X9.laload hx (j := (4 : Int32)) (v := (.long u4)) (by rw [e9]; exact Ar12.1) (State.isArrayOf_alike hZ.alike Ar12.2.1) Ar12.2.2 hin12 hat12 (g := (mkF m 36 #[.val (.ref a1), .val (.int (0 : Int32)), .val (.long q3), .second, .val (.int (0 : Int32)), .val (.long ((9223372036854775807 : Int64) - q3)), .second] [(.int (4 : Int32)), (.ref b1)])) rfl rfl (hb hby d_prog_25_method_6_36) _ ?_
      show own_S p e below T9 (mkF m 37 #[.val (.ref a1), .val (.int (0 : Int32)), .val (.long q3), .second, .val (.int (0 : Int32)), .val (.long ((9223372036854775807 : Int64) - q3)), .second] [(.long u4)]) _
      refine XS.lload X9.here hx rfl (hb hby d_prog_25_method_6_37) rfl ?_
      show own_S p e below T9 (mkF m 39 #[.val (.ref a1), .val (.int (0 : Int32)), .val (.long q3), .second, .val (.int (0 : Int32)), .val (.long ((9223372036854775807 : Int64) - q3)), .second] [(.long ((9223372036854775807 : Int64) - q3)), (.long u4)]) _
      refine XS.lcmp X9.here hx rfl (hb hby d_prog_25_method_6_39) rfl ?_
      exact kt)
    by_cases hc40 : ((9223372036854775807 : Int64) - q3) < u4
    · have k14 : ∀ t, own_S p e below T9 (mkF m 48 #[.val (.ref a1), .val (.int (0 : Int32)), .val (.long q3), .second, .val (.int (0 : Int32)), .val (.long ((9223372036854775807 : Int64) - q3)), .second] [(.int (0 : Int32))]) t → Gl t := fun t kt => k13 t (by
        show own_S p e below T9 (mkF m 40 #[.val (.ref a1), .val (.int (0 : Int32)), .val (.long q3), .second, .val (.int (0 : Int32)), .val (.long ((9223372036854775807 : Int64) - q3)), .second] [(.int (lcmpW u4 ((9223372036854775807 : Int64) - q3)))]) _
        refine XS.ifYes X9.here hx rfl (pc0 := 40) (pc' := 47) rfl (hb hby d_prog_25_method_6_40) rfl ((if0 _ _).trans (tlt ((lw_gt u4 ((9223372036854775807 : Int64) - q3)).mpr hc40)).2.2.1) (by decide) (by decide) ?_
        show own_S p e below T9 (mkF m 47 #[.val (.ref a1), .val (.int (0 : Int32)), .val (.long q3), .second, .val (.int (0 : Int32)), .val (.long ((9223372036854775807 : Int64) - q3)), .second] []) _
        refine XS.iconst X9.here hx rfl (hb hby d_prog_25_method_6_47) ?_
        exact kt)
      obtain ⟨fs, hr, hrun, hended, hW, hsame⟩ := X9.leave (v := some (.int (0 : Int32))) (fun h => by rw [Bd.returns] at h; cases h)
      refine ⟨_, _, hGl _ (k14 _ (retN X9 hx (t := .boolean) Bd.returns (by simp) (hb hby d_prog_25_method_6_48) hr)), hrun, hended, _, _, rfl, ?_, ⟨_, rfl⟩, hW, hsame.mono (by decide) (by decide)⟩
      show Q7_0 Z a1 q3 b1 kk1 u0 u1 u2 u3 u4 u5 u6 u7 u8 u9 u10 u11 u12 u13 u14 u15 h0 n0 _ T9.heap _
      rw [e9]
      exact ⟨by simp [own_room, hc25, hc40], N0, rfl⟩
    · have k15 : ∀ t, own_S p e below T9 (mkF m 48 #[.val (.ref a1), .val (.int (0 : Int32)), .val (.long q3), .second, .val (.int (0 : Int32)), .val (.long ((9223372036854775807 : Int64) - q3)), .second] [(.int (1 : Int32))]) t → Gl t := fun t kt => k13 t (by
        show own_S p e below T9 (mkF m 40 #[.val (.ref a1), .val (.int (0 : Int32)), .val (.long q3), .second, .val (.int (0 : Int32)), .val (.long ((9223372036854775807 : Int64) - q3)), .second] [(.int (lcmpW u4 ((9223372036854775807 : Int64) - q3)))]) _
        refine XS.ifNo X9.here hx rfl (hb hby d_prog_25_method_6_40) rfl ((if0 _ _).trans (flt (fun q => hc40 ((lw_gt u4 ((9223372036854775807 : Int64) - q3)).mp q))).2.2.1) ?_
        show own_S p e below T9 (mkF m 43 #[.val (.ref a1), .val (.int (0 : Int32)), .val (.long q3), .second, .val (.int (0 : Int32)), .val (.long ((9223372036854775807 : Int64) - q3)), .second] []) _
        refine XS.iconst X9.here hx rfl (hb hby d_prog_25_method_6_43) ?_
        show own_S p e below T9 (mkF m 44 #[.val (.ref a1), .val (.int (0 : Int32)), .val (.long q3), .second, .val (.int (0 : Int32)), .val (.long ((9223372036854775807 : Int64) - q3)), .second] [(.int (1 : Int32))]) _
        refine XS.goto X9.here hx rfl (pc0 := 44) (pc' := 48) rfl (hb hby d_prog_25_method_6_44) (by decide) (by decide) ?_
        exact kt)
      obtain ⟨fs, hr, hrun, hended, hW, hsame⟩ := X9.leave (v := some (.int (1 : Int32))) (fun h => by rw [Bd.returns] at h; cases h)
      refine ⟨_, _, hGl _ (k15 _ (retN X9 hx (t := .boolean) Bd.returns (by simp) (hb hby d_prog_25_method_6_48) hr)), hrun, hended, _, _, rfl, ?_, ⟨_, rfl⟩, hW, hsame.mono (by decide) (by decide)⟩
      show Q7_0 Z a1 q3 b1 kk1 u0 u1 u2 u3 u4 u5 u6 u7 u8 u9 u10 u11 u12 u13 u14 u15 h0 n0 _ T9.heap _
      rw [e9]
      exact ⟨by simp [own_room, hc25, hc40], N0, rfl⟩

theorem ef_rm7_1 (m : MethodId) (x0 : Addr) (x2 : Int64) : entryFrame m #[(.ref x0), (.int (1 : Int32)), (.long x2)] 7 = mkF m 0 #[.val (.ref x0), .val (.int (1 : Int32)), .val (.long x2), .second, .unset, .unset, .unset] [] := by first | (simp [entryFrame, mkF, argsToLocals, Value.category]; done) | rfl
def Q7_1 (Z : State) (a1 : Addr) (q3 : Int64) (b1 : Addr) (kk1 : ClassId) (u0 : Int64) (u1 : Int64) (u2 : Int64) (u3 : Int64) (u4 : Int64) (u5 : Int64) (u6 : Int64) (u7 : Int64) (u8 : Int64) (u9 : Int64) (u10 : Int64) (u11 : Int64) (u12 : Int64) (u13 : Int64) (u14 : Int64) (u15 : Int64) (h0 : Heap) (n0 : Nat) (v : Option Value) (h : Heap) (L : List Loc) : Prop := v = some (.int (own_room u10 u12 q3)) ∧ Fr n0 L ∧ h = h0
set_option maxRecDepth 65536 in
set_option maxHeartbeats 40000000 in
theorem rm7_1 (l : Launch) (Z : State) (a0 : Array Value) (hw : ∀ d ∈ tables_1, d.before a0 Z = true) (ws : List Jvm.Cond) (a1 : Addr) (q3 : Int64) (b1 : Addr) (kk1 : ClassId) (u0 : Int64) (u1 : Int64) (u2 : Int64) (u3 : Int64) (u4 : Int64) (u5 : Int64) (u6 : Int64) (u7 : Int64) (u8 : Int64) (u9 : Int64) (u10 : Int64) (u11 : Int64) (u12 : Int64) (u13 : Int64) (u14 : Int64) (u15 : Int64) (h0 : Heap) (n0 : Nat) (Z0 : n0 ≤ h0.size) (F1 : Fld Z h0 a1 "com/example/pricecollar/pricecollar/engine/ReferencePrices" "numbers" "[J" (.ref b1)) (V1 : Arv Z h0 b1 kk1 .long (16 : Int32) [(.long u0), (.long u1), (.long u2), (.long u3), (.long u4), (.long u5), (.long u6), (.long u7), (.long u8), (.long u9), (.long u10), (.long u11), (.long u12), (.long u13), (.long u14), (.long u15)] (.long (0 : Int64))) :
    MetFree l (⟨"com/example/pricecollar/pricecollar/engine/ReferencePrices", "hasRoomFor", "(IJ)Z"⟩ : MethodName) (head1 (Jvm.Cond.code (⟨"com/example/pricecollar/pricecollar/engine/ReferencePrices", "hasRoomFor", "(IJ)Z"⟩ : MethodName) prog_25_method_6_code 7 (some .boolean) :: ws) ({ frames := 0, cells := 0, slots := 0, locals := 0 } : Room)) (fun a U => a = #[(.ref a1), (.int (1 : Int32)), (.long q3)] ∧ Z.Warmed39 U.vm ∧ U.heap = h0) (fun _ _ _ _ _ => True) (fun _ U o U' => ∃ v L, o = .returned v ∧ Q7_1 Z a1 q3 b1 kk1 u0 u1 u2 u3 u4 u5 u6 u7 u8 u9 u10 u11 u12 u13 u14 u15 h0 n0 v U'.heap L ∧ FrameEnd U o U' L ({ frames := 0, cells := 0, slots := 0, locals := 0 } : Room).cells ({ frames := 0, cells := 0, slots := 0, locals := 0 } : Room).slots) := by
  refine MetFree.of_bodySF (plainFor_of_name pn_0) hisR ?_
  intro p e s m args below meth c s₁ Bd hml0 hP hK
  obtain ⟨rfl, hZ, hh⟩ := hP
  have hx := Bd.exec
  have hby := Bd.bytes
  have hml : c.maxLocals = 7 := hml0
  have hown : s.vm.findClass "com/example/pricecollar/pricecollar/engine/ReferencePrices" = some m.cls := findClass_of_methodNamed Bd.named
  have hnm := (name_of_methodNamed Bd.named Bd.method).1
  have X0 : Stand p l e ({ frames := 0, cells := 0, slots := 0, locals := 0 } : Room) s m #[(.ref a1), (.int (1 : Int32)), (.long q3)] below meth c s₁ [] 0 0 := Stand.of_body Bd
  have e0 : s₁.heap = h0 := by rw [← hh, Bd.state]; rfl
  have N0 := Fr.nil n0
  obtain ⟨Gl, hGl, k0⟩ : ∃ Gl : State → Prop, (∀ t, Gl t → Steps p.tables e below (s₁.setTop (entryFrame m #[(.ref a1), (.int (1 : Int32)), (.long q3)] 7)) t) ∧ ∀ t, own_S p e below s₁ (mkF m 0 #[.val (.ref a1), .val (.int (1 : Int32)), .val (.long q3), .second, .unset, .unset, .unset] []) t → Gl t := ⟨fun t => Steps p.tables e below (s₁.setTop (entryFrame m #[(.ref a1), (.int (1 : Int32)), (.long q3)] 7)) t, fun _ k => k, fun t k => castTop (ef_rm7_1 m a1 q3) k⟩
  have k1 : ∀ t, own_S p e below s₁ (mkF m 14 #[.val (.ref a1), .val (.int (1 : Int32)), .val (.long q3), .second, .val (.int (8 : Int32)), .val (.long ((9223372036854775807 : Int64) - q3)), .second] [(.ref a1)]) t → Gl t := fun t kt => k0 t (by
    show own_S p e below s₁ (mkF m 0 #[.val (.ref a1), .val (.int (1 : Int32)), .val (.long q3), .second, .unset, .unset, .unset] []) _
    refine XS.iloadN X0.here hx rfl (hb hby d_prog_25_method_6_0) rfl ?_
    show own_S p e below s₁ (mkF m 1 #[.val (.ref a1), .val (.int (1 : Int32)), .val (.long q3), .second, .unset, .unset, .unset] [(.int (1 : Int32))]) _
    refine XS.bipush X0.here hx rfl (hb hby d_prog_25_method_6_1) ?_
    show own_S p e below s₁ (mkF m 3 #[.val (.ref a1), .val (.int (1 : Int32)), .val (.long q3), .second, .unset, .unset, .unset] [(.int (8 : Int32)), (.int (1 : Int32))]) _
    refine XS.imul X0.here hx rfl (hb hby d_prog_25_method_6_3) rfl ?_
    rw [(by decide : ((1 : Int32) * (8 : Int32)) = (8 : Int32))]
    show own_S p e below s₁ (mkF m 4 #[.val (.ref a1), .val (.int (1 : Int32)), .val (.long q3), .second, .unset, .unset, .unset] [(.int (8 : Int32))]) _
    refine XS.istore X0.here hx rfl (hb hby d_prog_25_method_6_4) rfl (l' := #[.val (.ref a1), .val (.int (1 : Int32)), .val (.long q3), .second, .val (.int (8 : Int32)), .unset, .unset]) rfl ?_
    show own_S p e below s₁ (mkF m 6 #[.val (.ref a1), .val (.int (1 : Int32)), .val (.long q3), .second, .val (.int (8 : Int32)), .unset, .unset] []) _
    refine X0.ldc2Long hx hown (mvT hZ (hw _ (List.mem_of_getElem? (i := 42) rfl))) (g := (mkF m 6 #[.val (.ref a1), .val (.int (1 : Int32)), .val (.long q3), .second, .val (.int (8 : Int32)), .unset, .unset] [])) rfl (hb hby d_prog_25_method_6_6) _ ?_
    show own_S p e below s₁ (mkF m 9 #[.val (.ref a1), .val (.int (1 : Int32)), .val (.long q3), .second, .val (.int (8 : Int32)), .unset, .unset] [(.long (9223372036854775807 : Int64))]) _
    refine XS.lloadN X0.here hx rfl (hb hby d_prog_25_method_6_9) rfl ?_
    show own_S p e below s₁ (mkF m 10 #[.val (.ref a1), .val (.int (1 : Int32)), .val (.long q3), .second, .val (.int (8 : Int32)), .unset, .unset] [(.long q3), (.long (9223372036854775807 : Int64))]) _
    refine XS.lsub X0.here hx rfl (hb hby d_prog_25_method_6_10) rfl ?_
    show own_S p e below s₁ (mkF m 11 #[.val (.ref a1), .val (.int (1 : Int32)), .val (.long q3), .second, .val (.int (8 : Int32)), .unset, .unset] [(.long ((9223372036854775807 : Int64) - q3))]) _
    refine XS.lstore X0.here hx rfl (hb hby d_prog_25_method_6_11) rfl (l' := #[.val (.ref a1), .val (.int (1 : Int32)), .val (.long q3), .second, .val (.int (8 : Int32)), .val (.long ((9223372036854775807 : Int64) - q3)), .second]) rfl ?_
    show own_S p e below s₁ (mkF m 13 #[.val (.ref a1), .val (.int (1 : Int32)), .val (.long q3), .second, .val (.int (8 : Int32)), .val (.long ((9223372036854775807 : Int64) - q3)), .second] []) _
    refine XS.aloadN X0.here hx rfl (hb hby d_prog_25_method_6_13) rfl rfl ?_
    exact kt)
  obtain ⟨T2, X2, e2, st2⟩ := getF X0 hx hZ hown (host := "") (Or.inl (hw _ (List.mem_of_getElem? (i := 11) rfl))) Via.refl e0 F1 (g := (mkF m 14 #[.val (.ref a1), .val (.int (1 : Int32)), .val (.long q3), .second, .val (.int (8 : Int32)), .val (.long ((9223372036854775807 : Int64) - q3)), .second] [(.ref a1)])) rfl rfl (hb hby d_prog_25_method_6_14)
  have k3 : ∀ t, own_S p e below T2 (mkF m 17 #[.val (.ref a1), .val (.int (1 : Int32)), .val (.long q3), .second, .val (.int (8 : Int32)), .val (.long ((9223372036854775807 : Int64) - q3)), .second] [(.ref b1)]) t → Gl t := fun t kt => k1 t (st2 _ kt)
  have k4 : ∀ t, own_S p e below T2 (mkF m 21 #[.val (.ref a1), .val (.int (1 : Int32)), .val (.long q3), .second, .val (.int (8 : Int32)), .val (.long ((9223372036854775807 : Int64) - q3)), .second] [(.int (10 : Int32)), (.ref b1)]) t → Gl t := fun t kt => k3 t (by
    show own_S p e below T2 (mkF m 17 #[.val (.ref a1), .val (.int (1 : Int32)), .val (.long q3), .second, .val (.int (8 : Int32)), .val (.long ((9223372036854775807 : Int64) - q3)), .second] [(.ref b1)]) _
    refine XS.iload X2.here hx rfl (hb hby d_prog_25_method_6_17) rfl ?_
    show own_S p e below T2 (mkF m 19 #[.val (.ref a1), .val (.int (1 : Int32)), .val (.long q3), .second, .val (.int (8 : Int32)), .val (.long ((9223372036854775807 : Int64) - q3)), .second] [(.int (8 : Int32)), (.ref b1)]) _
    refine XS.iconst X2.here hx rfl (hb hby d_prog_25_method_6_19) ?_
    show own_S p e below T2 (mkF m 20 #[.val (.ref a1), .val (.int (1 : Int32)), .val (.long q3), .second, .val (.int (8 : Int32)), .val (.long ((9223372036854775807 : Int64) - q3)), .second] [(.int (2 : Int32)), (.int (8 : Int32)), (.ref b1)]) _
    refine XS.iadd X2.here hx rfl (hb hby d_prog_25_method_6_20) rfl ?_
    rw [(by decide : ((8 : Int32) + (2 : Int32)) = (10 : Int32))]
    exact kt)
  obtain ⟨cl5, Ar5, q5, Sz5, Ng5, Hs5, Gs5⟩ := id V1
  have hin5 : ¬ ((10 : Int32) < 0 ∨ cl5.slots.size ≤ ((10 : Int32)).toNatClampNeg) := inb_of Sz5 ⟨by decide, by decide⟩
  have hat5 : cl5.slots[((10 : Int32)).toNatClampNeg]? = some (.long u10) := Hs5.at hin5 rfl
  have k6 : ∀ t, own_S p e below T2 (mkF m 25 #[.val (.ref a1), .val (.int (1 : Int32)), .val (.long q3), .second, .val (.int (8 : Int32)), .val (.long ((9223372036854775807 : Int64) - q3)), .second] [(.int (lcmpW u10 ((9223372036854775807 : Int64) - q3)))]) t → Gl t := fun t kt => k4 t (by
    show own_S p e below T2 (mkF m 21 #[.val (.ref a1), .val (.int (1 : Int32)), .val (.long q3), .second, .val (.int (8 : Int32)), .val (.long ((9223372036854775807 : Int64) - q3)), .second] [(.int (10 : Int32)), (.ref b1)]) _
    refine X2.laload hx (j := (10 : Int32)) (v := (.long u10)) (by rw [e2]; exact Ar5.1) (State.isArrayOf_alike hZ.alike Ar5.2.1) Ar5.2.2 hin5 hat5 (g := (mkF m 21 #[.val (.ref a1), .val (.int (1 : Int32)), .val (.long q3), .second, .val (.int (8 : Int32)), .val (.long ((9223372036854775807 : Int64) - q3)), .second] [(.int (10 : Int32)), (.ref b1)])) rfl rfl (hb hby d_prog_25_method_6_21) _ ?_
    show own_S p e below T2 (mkF m 22 #[.val (.ref a1), .val (.int (1 : Int32)), .val (.long q3), .second, .val (.int (8 : Int32)), .val (.long ((9223372036854775807 : Int64) - q3)), .second] [(.long u10)]) _
    refine XS.lload X2.here hx rfl (hb hby d_prog_25_method_6_22) rfl ?_
    show own_S p e below T2 (mkF m 24 #[.val (.ref a1), .val (.int (1 : Int32)), .val (.long q3), .second, .val (.int (8 : Int32)), .val (.long ((9223372036854775807 : Int64) - q3)), .second] [(.long ((9223372036854775807 : Int64) - q3)), (.long u10)]) _
    refine XS.lcmp X2.here hx rfl (hb hby d_prog_25_method_6_24) rfl ?_
    exact kt)
  by_cases hc25 : ((9223372036854775807 : Int64) - q3) < u10
  · have k7 : ∀ t, own_S p e below T2 (mkF m 48 #[.val (.ref a1), .val (.int (1 : Int32)), .val (.long q3), .second, .val (.int (8 : Int32)), .val (.long ((9223372036854775807 : Int64) - q3)), .second] [(.int (0 : Int32))]) t → Gl t := fun t kt => k6 t (by
      show own_S p e below T2 (mkF m 25 #[.val (.ref a1), .val (.int (1 : Int32)), .val (.long q3), .second, .val (.int (8 : Int32)), .val (.long ((9223372036854775807 : Int64) - q3)), .second] [(.int (lcmpW u10 ((9223372036854775807 : Int64) - q3)))]) _
      refine XS.ifYes X2.here hx rfl (pc0 := 25) (pc' := 47) rfl (hb hby d_prog_25_method_6_25) rfl ((if0 _ _).trans (tlt ((lw_gt u10 ((9223372036854775807 : Int64) - q3)).mpr hc25)).2.2.1) (by decide) (by decide) ?_
      show own_S p e below T2 (mkF m 47 #[.val (.ref a1), .val (.int (1 : Int32)), .val (.long q3), .second, .val (.int (8 : Int32)), .val (.long ((9223372036854775807 : Int64) - q3)), .second] []) _
      refine XS.iconst X2.here hx rfl (hb hby d_prog_25_method_6_47) ?_
      exact kt)
    obtain ⟨fs, hr, hrun, hended, hW, hsame⟩ := X2.leave (v := some (.int (0 : Int32))) (fun h => by rw [Bd.returns] at h; cases h)
    refine ⟨_, _, hGl _ (k7 _ (retN X2 hx (t := .boolean) Bd.returns (by simp) (hb hby d_prog_25_method_6_48) hr)), hrun, hended, _, _, rfl, ?_, ⟨_, rfl⟩, hW, hsame.mono (by decide) (by decide)⟩
    show Q7_1 Z a1 q3 b1 kk1 u0 u1 u2 u3 u4 u5 u6 u7 u8 u9 u10 u11 u12 u13 u14 u15 h0 n0 _ T2.heap _
    rw [e2]
    exact ⟨by simp [own_room, hc25], N0, rfl⟩
  · have k8 : ∀ t, own_S p e below T2 (mkF m 29 #[.val (.ref a1), .val (.int (1 : Int32)), .val (.long q3), .second, .val (.int (8 : Int32)), .val (.long ((9223372036854775807 : Int64) - q3)), .second] [(.ref a1)]) t → Gl t := fun t kt => k6 t (by
      show own_S p e below T2 (mkF m 25 #[.val (.ref a1), .val (.int (1 : Int32)), .val (.long q3), .second, .val (.int (8 : Int32)), .val (.long ((9223372036854775807 : Int64) - q3)), .second] [(.int (lcmpW u10 ((9223372036854775807 : Int64) - q3)))]) _
      refine XS.ifNo X2.here hx rfl (hb hby d_prog_25_method_6_25) rfl ((if0 _ _).trans (flt (fun q => hc25 ((lw_gt u10 ((9223372036854775807 : Int64) - q3)).mp q))).2.2.1) ?_
      show own_S p e below T2 (mkF m 28 #[.val (.ref a1), .val (.int (1 : Int32)), .val (.long q3), .second, .val (.int (8 : Int32)), .val (.long ((9223372036854775807 : Int64) - q3)), .second] []) _
      refine XS.aloadN X2.here hx rfl (hb hby d_prog_25_method_6_28) rfl rfl ?_
      exact kt)
    obtain ⟨T9, X9, e9, st9⟩ := getF X2 hx hZ hown (host := "") (Or.inl (hw _ (List.mem_of_getElem? (i := 11) rfl))) Via.refl e2 F1 (g := (mkF m 29 #[.val (.ref a1), .val (.int (1 : Int32)), .val (.long q3), .second, .val (.int (8 : Int32)), .val (.long ((9223372036854775807 : Int64) - q3)), .second] [(.ref a1)])) rfl rfl (hb hby d_prog_25_method_6_29)
    have k10 : ∀ t, own_S p e below T9 (mkF m 32 #[.val (.ref a1), .val (.int (1 : Int32)), .val (.long q3), .second, .val (.int (8 : Int32)), .val (.long ((9223372036854775807 : Int64) - q3)), .second] [(.ref b1)]) t → Gl t := fun t kt => k8 t (st9 _ kt)
    have k11 : ∀ t, own_S p e below T9 (mkF m 36 #[.val (.ref a1), .val (.int (1 : Int32)), .val (.long q3), .second, .val (.int (8 : Int32)), .val (.long ((9223372036854775807 : Int64) - q3)), .second] [(.int (12 : Int32)), (.ref b1)]) t → Gl t := fun t kt => k10 t (by
      show own_S p e below T9 (mkF m 32 #[.val (.ref a1), .val (.int (1 : Int32)), .val (.long q3), .second, .val (.int (8 : Int32)), .val (.long ((9223372036854775807 : Int64) - q3)), .second] [(.ref b1)]) _
      refine XS.iload X9.here hx rfl (hb hby d_prog_25_method_6_32) rfl ?_
      show own_S p e below T9 (mkF m 34 #[.val (.ref a1), .val (.int (1 : Int32)), .val (.long q3), .second, .val (.int (8 : Int32)), .val (.long ((9223372036854775807 : Int64) - q3)), .second] [(.int (8 : Int32)), (.ref b1)]) _
      refine XS.iconst X9.here hx rfl (hb hby d_prog_25_method_6_34) ?_
      show own_S p e below T9 (mkF m 35 #[.val (.ref a1), .val (.int (1 : Int32)), .val (.long q3), .second, .val (.int (8 : Int32)), .val (.long ((9223372036854775807 : Int64) - q3)), .second] [(.int (4 : Int32)), (.int (8 : Int32)), (.ref b1)]) _
      refine XS.iadd X9.here hx rfl (hb hby d_prog_25_method_6_35) rfl ?_
      rw [(by decide : ((8 : Int32) + (4 : Int32)) = (12 : Int32))]
      exact kt)
    obtain ⟨cl12, Ar12, q12, Sz12, Ng12, Hs12, Gs12⟩ := id V1
    have hin12 : ¬ ((12 : Int32) < 0 ∨ cl12.slots.size ≤ ((12 : Int32)).toNatClampNeg) := inb_of Sz12 ⟨by decide, by decide⟩
    have hat12 : cl12.slots[((12 : Int32)).toNatClampNeg]? = some (.long u12) := Hs12.at hin12 rfl
    have k13 : ∀ t, own_S p e below T9 (mkF m 40 #[.val (.ref a1), .val (.int (1 : Int32)), .val (.long q3), .second, .val (.int (8 : Int32)), .val (.long ((9223372036854775807 : Int64) - q3)), .second] [(.int (lcmpW u12 ((9223372036854775807 : Int64) - q3)))]) t → Gl t := fun t kt => k11 t (by
      show own_S p e below T9 (mkF m 36 #[.val (.ref a1), .val (.int (1 : Int32)), .val (.long q3), .second, .val (.int (8 : Int32)), .val (.long ((9223372036854775807 : Int64) - q3)), .second] [(.int (12 : Int32)), (.ref b1)]) _
      refine X9.laload hx (j := (12 : Int32)) (v := (.long u12)) (by rw [e9]; exact Ar12.1) (State.isArrayOf_alike hZ.alike Ar12.2.1) Ar12.2.2 hin12 hat12 (g := (mkF m 36 #[.val (.ref a1), .val (.int (1 : Int32)), .val (.long q3), .second, .val (.int (8 : Int32)), .val (.long ((9223372036854775807 : Int64) - q3)), .second] [(.int (12 : Int32)), (.ref b1)])) rfl rfl (hb hby d_prog_25_method_6_36) _ ?_
      show own_S p e below T9 (mkF m 37 #[.val (.ref a1), .val (.int (1 : Int32)), .val (.long q3), .second, .val (.int (8 : Int32)), .val (.long ((9223372036854775807 : Int64) - q3)), .second] [(.long u12)]) _
      refine XS.lload X9.here hx rfl (hb hby d_prog_25_method_6_37) rfl ?_
      show own_S p e below T9 (mkF m 39 #[.val (.ref a1), .val (.int (1 : Int32)), .val (.long q3), .second, .val (.int (8 : Int32)), .val (.long ((9223372036854775807 : Int64) - q3)), .second] [(.long ((9223372036854775807 : Int64) - q3)), (.long u12)]) _
      refine XS.lcmp X9.here hx rfl (hb hby d_prog_25_method_6_39) rfl ?_
      exact kt)
    by_cases hc40 : ((9223372036854775807 : Int64) - q3) < u12
    · have k14 : ∀ t, own_S p e below T9 (mkF m 48 #[.val (.ref a1), .val (.int (1 : Int32)), .val (.long q3), .second, .val (.int (8 : Int32)), .val (.long ((9223372036854775807 : Int64) - q3)), .second] [(.int (0 : Int32))]) t → Gl t := fun t kt => k13 t (by
        show own_S p e below T9 (mkF m 40 #[.val (.ref a1), .val (.int (1 : Int32)), .val (.long q3), .second, .val (.int (8 : Int32)), .val (.long ((9223372036854775807 : Int64) - q3)), .second] [(.int (lcmpW u12 ((9223372036854775807 : Int64) - q3)))]) _
        refine XS.ifYes X9.here hx rfl (pc0 := 40) (pc' := 47) rfl (hb hby d_prog_25_method_6_40) rfl ((if0 _ _).trans (tlt ((lw_gt u12 ((9223372036854775807 : Int64) - q3)).mpr hc40)).2.2.1) (by decide) (by decide) ?_
        show own_S p e below T9 (mkF m 47 #[.val (.ref a1), .val (.int (1 : Int32)), .val (.long q3), .second, .val (.int (8 : Int32)), .val (.long ((9223372036854775807 : Int64) - q3)), .second] []) _
        refine XS.iconst X9.here hx rfl (hb hby d_prog_25_method_6_47) ?_
        exact kt)
      obtain ⟨fs, hr, hrun, hended, hW, hsame⟩ := X9.leave (v := some (.int (0 : Int32))) (fun h => by rw [Bd.returns] at h; cases h)
      refine ⟨_, _, hGl _ (k14 _ (retN X9 hx (t := .boolean) Bd.returns (by simp) (hb hby d_prog_25_method_6_48) hr)), hrun, hended, _, _, rfl, ?_, ⟨_, rfl⟩, hW, hsame.mono (by decide) (by decide)⟩
      show Q7_1 Z a1 q3 b1 kk1 u0 u1 u2 u3 u4 u5 u6 u7 u8 u9 u10 u11 u12 u13 u14 u15 h0 n0 _ T9.heap _
      rw [e9]
      exact ⟨by simp [own_room, hc25, hc40], N0, rfl⟩
    · have k15 : ∀ t, own_S p e below T9 (mkF m 48 #[.val (.ref a1), .val (.int (1 : Int32)), .val (.long q3), .second, .val (.int (8 : Int32)), .val (.long ((9223372036854775807 : Int64) - q3)), .second] [(.int (1 : Int32))]) t → Gl t := fun t kt => k13 t (by
        show own_S p e below T9 (mkF m 40 #[.val (.ref a1), .val (.int (1 : Int32)), .val (.long q3), .second, .val (.int (8 : Int32)), .val (.long ((9223372036854775807 : Int64) - q3)), .second] [(.int (lcmpW u12 ((9223372036854775807 : Int64) - q3)))]) _
        refine XS.ifNo X9.here hx rfl (hb hby d_prog_25_method_6_40) rfl ((if0 _ _).trans (flt (fun q => hc40 ((lw_gt u12 ((9223372036854775807 : Int64) - q3)).mp q))).2.2.1) ?_
        show own_S p e below T9 (mkF m 43 #[.val (.ref a1), .val (.int (1 : Int32)), .val (.long q3), .second, .val (.int (8 : Int32)), .val (.long ((9223372036854775807 : Int64) - q3)), .second] []) _
        refine XS.iconst X9.here hx rfl (hb hby d_prog_25_method_6_43) ?_
        show own_S p e below T9 (mkF m 44 #[.val (.ref a1), .val (.int (1 : Int32)), .val (.long q3), .second, .val (.int (8 : Int32)), .val (.long ((9223372036854775807 : Int64) - q3)), .second] [(.int (1 : Int32))]) _
        refine XS.goto X9.here hx rfl (pc0 := 44) (pc' := 48) rfl (hb hby d_prog_25_method_6_44) (by decide) (by decide) ?_
        exact kt)
      obtain ⟨fs, hr, hrun, hended, hW, hsame⟩ := X9.leave (v := some (.int (1 : Int32))) (fun h => by rw [Bd.returns] at h; cases h)
      refine ⟨_, _, hGl _ (k15 _ (retN X9 hx (t := .boolean) Bd.returns (by simp) (hb hby d_prog_25_method_6_48) hr)), hrun, hended, _, _, rfl, ?_, ⟨_, rfl⟩, hW, hsame.mono (by decide) (by decide)⟩
      show Q7_1 Z a1 q3 b1 kk1 u0 u1 u2 u3 u4 u5 u6 u7 u8 u9 u10 u11 u12 u13 u14 u15 h0 n0 _ T9.heap _
      rw [e9]
      exact ⟨by simp [own_room, hc25, hc40], N0, rfl⟩

theorem pd_1 : parseMethodDescriptor "(I)V" = some ⟨[.int], none⟩ := by decide +kernel
theorem pd_2 : parseMethodDescriptor "(IJJ)V" = some ⟨[.int, .long, .long], none⟩ := by decide +kernel
theorem pd_3 : parseMethodDescriptor "(IJ)V" = some ⟨[.int, .long], none⟩ := by decide +kernel
theorem pd_4 : parseMethodDescriptor "(JJ)Z" = some ⟨[.long, .long], some .boolean⟩ := by decide +kernel
theorem pd_5 : parseMethodDescriptor "(IJ)Z" = some ⟨[.int, .long], some .boolean⟩ := by decide +kernel
theorem ef_rm0 (m : MethodId) (x0 : Int32) (x1 : Int64) (x2 : Int64) (x3 : Int64) (x4 : Int64) : entryFrame m #[(.int x0), (.long x1), (.long x2), (.long x3), (.long x4)] maxLocals = mkF m 0 #[.val (.int x0), .val (.long x1), .second, .val (.long x2), .second, .val (.long x3), .second, .val (.long x4), .second, .unset, .unset, .unset, .unset, .unset, .unset] [] := by first | (simp [entryFrame, mkF, argsToLocals, Value.category, maxLocals]; done) | rfl
def Q0 (Z : State) (p1 : Int32) (q2 : Int64) (q3 : Int64) (q4 : Int64) (q5 : Int64) (h0 : Heap) (n0 : Nat) (v : Option Value) (h : Heap) (L : List Loc) : Prop := v = some (.int (1 : Int32)) ∧ Fr n0 L
set_option maxRecDepth 65536 in
set_option maxHeartbeats 40000000 in
theorem rm0 (l : Launch) (Z : State) (a0 : Array Value) (hw : ∀ d ∈ tables_1, d.before a0 Z = true) (ws : List Jvm.Cond) (p1 : Int32) (q2 : Int64) (q3 : Int64) (q4 : Int64) (q5 : Int64) (h0 : Heap) (n0 : Nat) (Z0 : n0 ≤ h0.size) (O0 : Old Z n0 h0) (S1 : Sta Z Z.heap "com/example/pricecollar/pricecollar/engine/BandRules" "HOLD_LENGTH" "J" (.long (30000000 : Int64))) (S2 : Sta Z Z.heap "com/example/pricecollar/pricecollar/engine/BandRules" "OPENING_PERIOD_LENGTH" "J" (.long (300000000 : Int64))) :
    MetFree l x (head1 (Jvm.Cond.code x code maxLocals ret :: ws) room_1) (fun a U => a = #[(.int p1), (.long q2), (.long q3), (.long q4), (.long q5)] ∧ Z.Warmed39 U.vm ∧ U.heap = h0) (fun _ _ _ _ _ => True) (fun _ U o U' => ∃ v L, o = .returned v ∧ Q0 Z p1 q2 q3 q4 q5 h0 n0 v U'.heap L ∧ FrameEnd U o U' L 16 128) := by
  refine MetFree.of_bodySF (plainFor_of_name pn_1) hisR ?_
  intro p e s m args below meth c s₁ Bd hml0 hP hK
  obtain ⟨rfl, hZ, hh⟩ := hP
  have hx := Bd.exec
  have hby := Bd.bytes
  have hml : c.maxLocals = 15 := hml0
  have hown : s.vm.findClass "com/example/pricecollar/pricecollar/engine/ReferencePricesHasRoomForPinLaw" = some m.cls := findClass_of_methodNamed Bd.named
  have hnm := (name_of_methodNamed Bd.named Bd.method).1
  have X0 : Stand p l e room_1 s m #[(.int p1), (.long q2), (.long q3), (.long q4), (.long q5)] below meth c s₁ [] 0 0 := Stand.of_body Bd
  have e0 : s₁.heap = h0 := by rw [← hh, Bd.state]; rfl
  have N0 := Fr.nil n0
  obtain ⟨Gl, hGl, k0⟩ : ∃ Gl : State → Prop, (∀ t, Gl t → Steps p.tables e below (s₁.setTop (entryFrame m #[(.int p1), (.long q2), (.long q3), (.long q4), (.long q5)] maxLocals)) t) ∧ ∀ t, own_S p e below s₁ (mkF m 0 #[.val (.int p1), .val (.long q2), .second, .val (.long q3), .second, .val (.long q4), .second, .val (.long q5), .second, .unset, .unset, .unset, .unset, .unset, .unset] []) t → Gl t := ⟨fun t => Steps p.tables e below (s₁.setTop (entryFrame m #[(.int p1), (.long q2), (.long q3), (.long q4), (.long q5)] maxLocals)) t, fun _ k => k, fun t k => castTop (ef_rm0 m p1 q2 q3 q4 q5) k⟩
  have k1 : ∀ t, own_S p e below s₁ (mkF m 3 #[.val (.int p1), .val (.long q2), .second, .val (.long q3), .second, .val (.long q4), .second, .val (.long q5), .second, .unset, .unset, .unset, .unset, .unset, .unset] [(.int (p1 &&& (1 : Int32)))]) t → Gl t := fun t kt => k0 t (by
    show own_S p e below s₁ (mkF m 0 #[.val (.int p1), .val (.long q2), .second, .val (.long q3), .second, .val (.long q4), .second, .val (.long q5), .second, .unset, .unset, .unset, .unset, .unset, .unset] []) _
    refine XS.iloadN X0.here hx rfl (hb hby at_0) rfl ?_
    show own_S p e below s₁ (mkF m 1 #[.val (.int p1), .val (.long q2), .second, .val (.long q3), .second, .val (.long q4), .second, .val (.long q5), .second, .unset, .unset, .unset, .unset, .unset, .unset] [(.int p1)]) _
    refine XS.iconst X0.here hx rfl (hb hby at_1) ?_
    show own_S p e below s₁ (mkF m 2 #[.val (.int p1), .val (.long q2), .second, .val (.long q3), .second, .val (.long q4), .second, .val (.long q5), .second, .unset, .unset, .unset, .unset, .unset, .unset] [(.int (1 : Int32)), (.int p1)]) _
    refine XS.iand X0.here hx rfl (hb hby at_2) rfl ?_
    exact kt)
  rcases own_bit p1 with hk | hk
  · rw [(hk : (p1 &&& (1 : Int32)) = (0 : Int32))] at k1
    have k2 : ∀ t, own_S p e below s₁ (mkF m 18 #[.val (.int p1), .val (.long q2), .second, .val (.long q3), .second, .val (.long q4), .second, .val (.long q5), .second, .val (.int (0 : Int32)), .val (.int (1 : Int32)), .val (.long (q2 &&& (9223372036854775807 : Int64))), .second, .unset, .unset] []) t → Gl t := fun t kt => k1 t (by
      show own_S p e below s₁ (mkF m 3 #[.val (.int p1), .val (.long q2), .second, .val (.long q3), .second, .val (.long q4), .second, .val (.long q5), .second, .unset, .unset, .unset, .unset, .unset, .unset] [(.int (0 : Int32))]) _
      refine XS.istore X0.here hx rfl (hb hby at_3) rfl (l' := #[.val (.int p1), .val (.long q2), .second, .val (.long q3), .second, .val (.long q4), .second, .val (.long q5), .second, .val (.int (0 : Int32)), .unset, .unset, .unset, .unset, .unset]) rfl ?_
      show own_S p e below s₁ (mkF m 5 #[.val (.int p1), .val (.long q2), .second, .val (.long q3), .second, .val (.long q4), .second, .val (.long q5), .second, .val (.int (0 : Int32)), .unset, .unset, .unset, .unset, .unset] []) _
      refine XS.iconst X0.here hx rfl (hb hby at_5) ?_
      show own_S p e below s₁ (mkF m 6 #[.val (.int p1), .val (.long q2), .second, .val (.long q3), .second, .val (.long q4), .second, .val (.long q5), .second, .val (.int (0 : Int32)), .unset, .unset, .unset, .unset, .unset] [(.int (1 : Int32))]) _
      refine XS.iload X0.here hx rfl (hb hby at_6) rfl ?_
      show own_S p e below s₁ (mkF m 8 #[.val (.int p1), .val (.long q2), .second, .val (.long q3), .second, .val (.long q4), .second, .val (.long q5), .second, .val (.int (0 : Int32)), .unset, .unset, .unset, .unset, .unset] [(.int (0 : Int32)), (.int (1 : Int32))]) _
      refine XS.isub X0.here hx rfl (hb hby at_8) rfl ?_
      rw [(by decide : ((1 : Int32) - (0 : Int32)) = (1 : Int32))]
      show own_S p e below s₁ (mkF m 9 #[.val (.int p1), .val (.long q2), .second, .val (.long q3), .second, .val (.long q4), .second, .val (.long q5), .second, .val (.int (0 : Int32)), .unset, .unset, .unset, .unset, .unset] [(.int (1 : Int32))]) _
      refine XS.istore X0.here hx rfl (hb hby at_9) rfl (l' := #[.val (.int p1), .val (.long q2), .second, .val (.long q3), .second, .val (.long q4), .second, .val (.long q5), .second, .val (.int (0 : Int32)), .val (.int (1 : Int32)), .unset, .unset, .unset, .unset]) rfl ?_
      show own_S p e below s₁ (mkF m 11 #[.val (.int p1), .val (.long q2), .second, .val (.long q3), .second, .val (.long q4), .second, .val (.long q5), .second, .val (.int (0 : Int32)), .val (.int (1 : Int32)), .unset, .unset, .unset, .unset] []) _
      refine XS.lloadN X0.here hx rfl (hb hby at_11) rfl ?_
      show own_S p e below s₁ (mkF m 12 #[.val (.int p1), .val (.long q2), .second, .val (.long q3), .second, .val (.long q4), .second, .val (.long q5), .second, .val (.int (0 : Int32)), .val (.int (1 : Int32)), .unset, .unset, .unset, .unset] [(.long q2)]) _
      refine X0.ldc2Long hx hown (mvT hZ (hw _ (List.mem_of_getElem? (i := 0) rfl))) (g := (mkF m 12 #[.val (.int p1), .val (.long q2), .second, .val (.long q3), .second, .val (.long q4), .second, .val (.long q5), .second, .val (.int (0 : Int32)), .val (.int (1 : Int32)), .unset, .unset, .unset, .unset] [(.long q2)])) rfl (hb hby at_12) _ ?_
      show own_S p e below s₁ (mkF m 15 #[.val (.int p1), .val (.long q2), .second, .val (.long q3), .second, .val (.long q4), .second, .val (.long q5), .second, .val (.int (0 : Int32)), .val (.int (1 : Int32)), .unset, .unset, .unset, .unset] [(.long (9223372036854775807 : Int64)), (.long q2)]) _
      refine XS.land X0.here hx rfl (hb hby at_15) rfl ?_
      show own_S p e below s₁ (mkF m 16 #[.val (.int p1), .val (.long q2), .second, .val (.long q3), .second, .val (.long q4), .second, .val (.long q5), .second, .val (.int (0 : Int32)), .val (.int (1 : Int32)), .unset, .unset, .unset, .unset] [(.long (q2 &&& (9223372036854775807 : Int64)))]) _
      refine XS.lstore X0.here hx rfl (hb hby at_16) rfl (l' := #[.val (.int p1), .val (.long q2), .second, .val (.long q3), .second, .val (.long q4), .second, .val (.long q5), .second, .val (.int (0 : Int32)), .val (.int (1 : Int32)), .val (.long (q2 &&& (9223372036854775807 : Int64))), .second, .unset, .unset]) rfl ?_
      exact kt)
    obtain ⟨T3, h3, X3, e3, E3, A3, D3, -, st3⟩ := newO X0 hx hZ hown (hw _ (List.mem_of_getElem? (i := 1) rfl)) (hw _ (List.mem_of_getElem? (i := 2) rfl)) (hw _ (List.mem_of_getElem? (i := 3) rfl)) e0 (g := (mkF m 18 #[.val (.int p1), .val (.long q2), .second, .val (.long q3), .second, .val (.long q4), .second, .val (.long q5), .second, .val (.int (0 : Int32)), .val (.int (1 : Int32)), .val (.long (q2 &&& (9223372036854775807 : Int64))), .second, .unset, .unset] [])) rfl (hb hby at_18) (by decide) (by decide)
    obtain ⟨b3, g3⟩ : ∃ z, z = h0.size := ⟨_, rfl⟩
    rw [← g3] at A3 D3 st3
    have g_b3 : n0 ≤ b3 := Nat.le_trans Z0 (Nat.le_of_eq g3.symm)
    have Z4 : n0 ≤ h3.size := Nat.le_trans Z0 E3.1
    have O5 : Old Z n0 h3 := O0.ext E3
    have F3_12 : Fld Z h3 b3 "com/example/pricecollar/pricecollar/engine/ReferencePrices" "numbers" "[J" .null := D3 (Or.inr (hw _ (List.mem_of_getElem? (i := 12) rfl))) (ty := (.array .long)) (by decide)
    have k6 : ∀ t, own_S p e below T3 (mkF m 21 #[.val (.int p1), .val (.long q2), .second, .val (.long q3), .second, .val (.long q4), .second, .val (.long q5), .second, .val (.int (0 : Int32)), .val (.int (1 : Int32)), .val (.long (q2 &&& (9223372036854775807 : Int64))), .second, .unset, .unset] [(.ref b3)]) t → Gl t := fun t kt => k2 t (st3 _ kt)
    have k7 : ∀ t, own_S p e below T3 (mkF m 23 #[.val (.int p1), .val (.long q2), .second, .val (.long q3), .second, .val (.long q4), .second, .val (.long q5), .second, .val (.int (0 : Int32)), .val (.int (1 : Int32)), .val (.long (q2 &&& (9223372036854775807 : Int64))), .second, .unset, .unset] [(.int (2 : Int32)), (.ref b3), (.ref b3)]) t → Gl t := fun t kt => k6 t (by
      show own_S p e below T3 (mkF m 21 #[.val (.int p1), .val (.long q2), .second, .val (.long q3), .second, .val (.long q4), .second, .val (.long q5), .second, .val (.int (0 : Int32)), .val (.int (1 : Int32)), .val (.long (q2 &&& (9223372036854775807 : Int64))), .second, .unset, .unset] [(.ref b3)]) _
      refine XS.dup X3.here hx rfl (hb hby at_21) rfl rfl ?_
      show own_S p e below T3 (mkF m 22 #[.val (.int p1), .val (.long q2), .second, .val (.long q3), .second, .val (.long q4), .second, .val (.long q5), .second, .val (.int (0 : Int32)), .val (.int (1 : Int32)), .val (.long (q2 &&& (9223372036854775807 : Int64))), .second, .unset, .unset] [(.ref b3), (.ref b3)]) _
      refine XS.iconst X3.here hx rfl (hb hby at_22) ?_
      exact kt)
    obtain ⟨_, _, ⟨T8, L8, cc8, ss8⟩, -, X8, ⟨Lc8, hQ8, l8, y8, z8⟩, st8⟩ := X3.specialBack hx (y := (⟨"com/example/pricecollar/pricecollar/engine/ReferencePrices", "<init>", "(I)V"⟩ : MethodName)) rfl hown (mvT hZ (hw _ (List.mem_of_getElem? (i := 4) rfl))) (mvT hZ (hw _ (List.mem_of_getElem? (i := 5) rfl))) (mvT hZ (hw _ (List.mem_of_getElem? (i := 6) rfl))) (by decide) (backOf (W := 1) (rm1 l Z a0 hw [] b3  h3 n0 Z4 F3_12 A3 g_b3) hZ (hw _ (List.mem_of_getElem? (i := 6) rfl)) (hw _ (List.mem_of_getElem? (i := 3) rfl)) (by decide) (by decide)) (g := (mkF m 23 #[.val (.int p1), .val (.long q2), .second, .val (.long q3), .second, .val (.long q4), .second, .val (.long q5), .second, .val (.int (0 : Int32)), .val (.int (1 : Int32)), .val (.long (q2 &&& (9223372036854775807 : Int64))), .second, .unset, .unset] [(.int (2 : Int32)), (.ref b3), (.ref b3)])) rfl (by rw [hml]; rfl) (Steps.refl _) (a := b3) (argsL := [(.int (2 : Int32))]) (rest := [(.ref b3)]) (lenOf pd_1 rfl) rfl (by show 2 * 0 + _ ≤ _; exact Nat.le_of_eq rfl) (hb hby at_23) (fun _ _ => ⟨rfl, e3, (by decide : 1 + 1 ≤ _), (by decide : 1 + 16 ≤ _)⟩)
    dsimp only [Pt.U, Pt.locs, Pt.cells, Pt.slots] at X8 l8 y8 z8 st8 hQ8
    subst l8 y8 z8
    obtain ⟨rfl, Nq8, b8, kk8, g_b8, ne8, K8, Ex8, Fl8, V8⟩ := hQ8
    have N8 := Fr.app N0 Nq8
    have Z9 : n0 ≤ T8.heap.size := Nat.le_trans Z4 K8.1
    have O10 : Old Z n0 T8.heap := O5.keep K8 (allS g_b3 all0)
    have k11 : ∀ t, own_S p e below T8 (mkF m 26 #[.val (.int p1), .val (.long q2), .second, .val (.long q3), .second, .val (.long q4), .second, .val (.long q5), .second, .val (.int (0 : Int32)), .val (.int (1 : Int32)), .val (.long (q2 &&& (9223372036854775807 : Int64))), .second, .unset, .unset] [(.ref b3)]) t → Gl t := fun t kt => k7 t (st8.trans kt)
    have k12 : ∀ t, own_S p e below T8 (mkF m 35 #[.val (.int p1), .val (.long q2), .second, .val (.long q3), .second, .val (.long q4), .second, .val (.long q5), .second, .val (.int (0 : Int32)), .val (.int (1 : Int32)), .val (.long (q2 &&& (9223372036854775807 : Int64))), .second, .val (.ref b3), .unset] [(.long (0 : Int64)), (.long q4), (.int (0 : Int32)), (.ref b3)]) t → Gl t := fun t kt => k11 t (by
      show own_S p e below T8 (mkF m 26 #[.val (.int p1), .val (.long q2), .second, .val (.long q3), .second, .val (.long q4), .second, .val (.long q5), .second, .val (.int (0 : Int32)), .val (.int (1 : Int32)), .val (.long (q2 &&& (9223372036854775807 : Int64))), .second, .unset, .unset] [(.ref b3)]) _
      refine XS.astore X8.here hx rfl (hb hby at_26) rfl rfl (l' := #[.val (.int p1), .val (.long q2), .second, .val (.long q3), .second, .val (.long q4), .second, .val (.long q5), .second, .val (.int (0 : Int32)), .val (.int (1 : Int32)), .val (.long (q2 &&& (9223372036854775807 : Int64))), .second, .val (.ref b3), .unset]) rfl ?_
      show own_S p e below T8 (mkF m 28 #[.val (.int p1), .val (.long q2), .second, .val (.long q3), .second, .val (.long q4), .second, .val (.long q5), .second, .val (.int (0 : Int32)), .val (.int (1 : Int32)), .val (.long (q2 &&& (9223372036854775807 : Int64))), .second, .val (.ref b3), .unset] []) _
      refine XS.aload X8.here hx rfl (hb hby at_28) rfl rfl ?_
      show own_S p e below T8 (mkF m 30 #[.val (.int p1), .val (.long q2), .second, .val (.long q3), .second, .val (.long q4), .second, .val (.long q5), .second, .val (.int (0 : Int32)), .val (.int (1 : Int32)), .val (.long (q2 &&& (9223372036854775807 : Int64))), .second, .val (.ref b3), .unset] [(.ref b3)]) _
      refine XS.iload X8.here hx rfl (hb hby at_30) rfl ?_
      show own_S p e below T8 (mkF m 32 #[.val (.int p1), .val (.long q2), .second, .val (.long q3), .second, .val (.long q4), .second, .val (.long q5), .second, .val (.int (0 : Int32)), .val (.int (1 : Int32)), .val (.long (q2 &&& (9223372036854775807 : Int64))), .second, .val (.ref b3), .unset] [(.int (0 : Int32)), (.ref b3)]) _
      refine XS.lload X8.here hx rfl (hb hby at_32) rfl ?_
      show own_S p e below T8 (mkF m 34 #[.val (.int p1), .val (.long q2), .second, .val (.long q3), .second, .val (.long q4), .second, .val (.long q5), .second, .val (.int (0 : Int32)), .val (.int (1 : Int32)), .val (.long (q2 &&& (9223372036854775807 : Int64))), .second, .val (.ref b3), .unset] [(.long q4), (.int (0 : Int32)), (.ref b3)]) _
      refine XS.lconst X8.here hx rfl (hb hby at_34) ?_
      exact kt)
    obtain ⟨cq13, kq13, qa13, qb13, qc13⟩ := isOf hZ rfl Ex8
    obtain ⟨_, _, ⟨T13, L13, cc13, ss13⟩, -, X13, ⟨Lc13, hQ13, l13, y13, z13⟩, st13⟩ := X8.virtualBack hx (y := (⟨"com/example/pricecollar/pricecollar/engine/ReferencePrices", "open", "(IJJ)V"⟩ : MethodName)) (z := (⟨"com/example/pricecollar/pricecollar/engine/ReferencePrices", "open", "(IJJ)V"⟩ : MethodName)) hown (mvT hZ (hw _ (List.mem_of_getElem? (i := 13) rfl))) (mvT hZ (hw _ (List.mem_of_getElem? (i := 14) rfl))) (notFace_of_selects (args := #[]) (mvT hZ (hw _ (List.mem_of_getElem? (i := 16) rfl)))) (mvT hZ (hw _ (List.mem_of_getElem? (i := 16) rfl))) (mvT hZ (hw _ (List.mem_of_getElem? (i := 15) rfl))) (by decide) (backOf (W := 0) (rm3_0 l Z a0 hw [] b3 q4 (0 : Int64) b8 kk8 (0 : Int64) (0 : Int64) (0 : Int64) (0 : Int64) (0 : Int64) (0 : Int64) (0 : Int64) (0 : Int64) (0 : Int64) (0 : Int64) (0 : Int64) (0 : Int64) (0 : Int64) (0 : Int64) (0 : Int64) (0 : Int64) T8.heap n0 Z9 Fl8 V8 g_b8 ne8 O10 S1 S2) hZ (hw _ (List.mem_of_getElem? (i := 17) rfl)) (hw _ (List.mem_of_getElem? (i := 3) rfl)) (by decide) (by decide)) qa13 qc13 (g := (mkF m 35 #[.val (.int p1), .val (.long q2), .second, .val (.long q3), .second, .val (.long q4), .second, .val (.long q5), .second, .val (.int (0 : Int32)), .val (.int (1 : Int32)), .val (.long (q2 &&& (9223372036854775807 : Int64))), .second, .val (.ref b3), .unset] [(.long (0 : Int64)), (.long q4), (.int (0 : Int32)), (.ref b3)])) rfl (by rw [hml]; rfl) (Steps.refl _) (argsL := [(.int (0 : Int32)), (.long q4), (.long (0 : Int64))]) (rest := []) (lenOf pd_2 rfl) rfl (by show 2 * 0 + _ ≤ _; exact Nat.le_of_eq rfl) (hb hby at_35) (fun _ _ => ⟨rfl, rfl, (by decide : 2 + 0 ≤ _), (by decide : 17 + 0 ≤ _)⟩)
    dsimp only [Pt.U, Pt.locs, Pt.cells, Pt.slots] at X13 l13 y13 z13 st13 hQ13
    subst l13 y13 z13
    obtain ⟨rfl, Nq13, K13, V13⟩ := hQ13
    have N13 := Fr.app N8 Nq13
    have Z14 : n0 ≤ T13.heap.size := Nat.le_trans Z9 K13.1
    have O15 : Old Z n0 T13.heap := O10.keep K13 (allS g_b8 all0)
    have k16 : ∀ t, own_S p e below T13 (mkF m 38 #[.val (.int p1), .val (.long q2), .second, .val (.long q3), .second, .val (.long q4), .second, .val (.long q5), .second, .val (.int (0 : Int32)), .val (.int (1 : Int32)), .val (.long (q2 &&& (9223372036854775807 : Int64))), .second, .val (.ref b3), .unset] []) t → Gl t := fun t kt => k12 t (st13.trans kt)
    have k17 : ∀ t, own_S p e below T13 (mkF m 43 #[.val (.int p1), .val (.long q2), .second, .val (.long q3), .second, .val (.long q4), .second, .val (.long q5), .second, .val (.int (0 : Int32)), .val (.int (1 : Int32)), .val (.long (q2 &&& (9223372036854775807 : Int64))), .second, .val (.ref b3), .unset] [(.long q3), (.int (0 : Int32)), (.ref b3)]) t → Gl t := fun t kt => k16 t (by
      show own_S p e below T13 (mkF m 38 #[.val (.int p1), .val (.long q2), .second, .val (.long q3), .second, .val (.long q4), .second, .val (.long q5), .second, .val (.int (0 : Int32)), .val (.int (1 : Int32)), .val (.long (q2 &&& (9223372036854775807 : Int64))), .second, .val (.ref b3), .unset] []) _
      refine XS.aload X13.here hx rfl (hb hby at_38) rfl rfl ?_
      show own_S p e below T13 (mkF m 40 #[.val (.int p1), .val (.long q2), .second, .val (.long q3), .second, .val (.long q4), .second, .val (.long q5), .second, .val (.int (0 : Int32)), .val (.int (1 : Int32)), .val (.long (q2 &&& (9223372036854775807 : Int64))), .second, .val (.ref b3), .unset] [(.ref b3)]) _
      refine XS.iload X13.here hx rfl (hb hby at_40) rfl ?_
      show own_S p e below T13 (mkF m 42 #[.val (.int p1), .val (.long q2), .second, .val (.long q3), .second, .val (.long q4), .second, .val (.long q5), .second, .val (.int (0 : Int32)), .val (.int (1 : Int32)), .val (.long (q2 &&& (9223372036854775807 : Int64))), .second, .val (.ref b3), .unset] [(.int (0 : Int32)), (.ref b3)]) _
      refine XS.lloadN X13.here hx rfl (hb hby at_42) rfl ?_
      exact kt)
    have f19 := (Fl8.keep K13 (ninS ne8 nin0))
    have f20 := (Ex8.keep K13)
    obtain ⟨cq18, kq18, qa18, qb18, qc18⟩ := isOf hZ rfl f20
    obtain ⟨_, _, ⟨T18, L18, cc18, ss18⟩, -, X18, ⟨Lc18, hQ18, l18, y18, z18⟩, st18⟩ := X13.virtualBack hx (y := (⟨"com/example/pricecollar/pricecollar/engine/ReferencePrices", "enterReopeningPrint", "(IJ)V"⟩ : MethodName)) (z := (⟨"com/example/pricecollar/pricecollar/engine/ReferencePrices", "enterReopeningPrint", "(IJ)V"⟩ : MethodName)) hown (mvT hZ (hw _ (List.mem_of_getElem? (i := 23) rfl))) (mvT hZ (hw _ (List.mem_of_getElem? (i := 24) rfl))) (notFace_of_selects (args := #[]) (mvT hZ (hw _ (List.mem_of_getElem? (i := 26) rfl)))) (mvT hZ (hw _ (List.mem_of_getElem? (i := 26) rfl))) (mvT hZ (hw _ (List.mem_of_getElem? (i := 25) rfl))) (by decide) (backOf (W := 0) (rm4_0 l Z a0 hw [] b3 q3 b8 kk8 q4 (1 : Int64) (0 : Int64) q4 (1 : Int64) ((0 : Int64) + (30000000 : Int64)) ((0 : Int64) + (300000000 : Int64)) (0 : Int64) (0 : Int64) (0 : Int64) (0 : Int64) (0 : Int64) (0 : Int64) (0 : Int64) (0 : Int64) T13.heap n0 Z14 f19 V13 g_b8 ne8) hZ (hw _ (List.mem_of_getElem? (i := 27) rfl)) (hw _ (List.mem_of_getElem? (i := 3) rfl)) (by decide) (by decide)) qa18 qc18 (g := (mkF m 43 #[.val (.int p1), .val (.long q2), .second, .val (.long q3), .second, .val (.long q4), .second, .val (.long q5), .second, .val (.int (0 : Int32)), .val (.int (1 : Int32)), .val (.long (q2 &&& (9223372036854775807 : Int64))), .second, .val (.ref b3), .unset] [(.long q3), (.int (0 : Int32)), (.ref b3)])) rfl (by rw [hml]; rfl) (Steps.refl _) (argsL := [(.int (0 : Int32)), (.long q3)]) (rest := []) (lenOf pd_3 rfl) rfl (by show 2 * 0 + _ ≤ _; exact Nat.le_of_eq rfl) (hb hby at_43) (fun _ _ => ⟨rfl, rfl, (by decide : 2 + 0 ≤ _), (by decide : 17 + 0 ≤ _)⟩)
    dsimp only [Pt.U, Pt.locs, Pt.cells, Pt.slots] at X18 l18 y18 z18 st18 hQ18
    subst l18 y18 z18
    obtain ⟨rfl, Nq18, K18, V18⟩ := hQ18
    have N18 := Fr.app N13 Nq18
    have Z21 : n0 ≤ T18.heap.size := Nat.le_trans Z14 K18.1
    have O22 : Old Z n0 T18.heap := O15.keep K18 (allS g_b8 all0)
    have k23 : ∀ t, own_S p e below T18 (mkF m 46 #[.val (.int p1), .val (.long q2), .second, .val (.long q3), .second, .val (.long q4), .second, .val (.long q5), .second, .val (.int (0 : Int32)), .val (.int (1 : Int32)), .val (.long (q2 &&& (9223372036854775807 : Int64))), .second, .val (.ref b3), .unset] []) t → Gl t := fun t kt => k17 t (st18.trans kt)
    have k24 : ∀ t, own_S p e below T18 (mkF m 53 #[.val (.int p1), .val (.long q2), .second, .val (.long q3), .second, .val (.long q4), .second, .val (.long q5), .second, .val (.int (0 : Int32)), .val (.int (1 : Int32)), .val (.long (q2 &&& (9223372036854775807 : Int64))), .second, .val (.ref b3), .unset] [(.long (0 : Int64)), (.long q5), (.int (1 : Int32)), (.ref b3)]) t → Gl t := fun t kt => k23 t (by
      show own_S p e below T18 (mkF m 46 #[.val (.int p1), .val (.long q2), .second, .val (.long q3), .second, .val (.long q4), .second, .val (.long q5), .second, .val (.int (0 : Int32)), .val (.int (1 : Int32)), .val (.long (q2 &&& (9223372036854775807 : Int64))), .second, .val (.ref b3), .unset] []) _
      refine XS.aload X18.here hx rfl (hb hby at_46) rfl rfl ?_
      show own_S p e below T18 (mkF m 48 #[.val (.int p1), .val (.long q2), .second, .val (.long q3), .second, .val (.long q4), .second, .val (.long q5), .second, .val (.int (0 : Int32)), .val (.int (1 : Int32)), .val (.long (q2 &&& (9223372036854775807 : Int64))), .second, .val (.ref b3), .unset] [(.ref b3)]) _
      refine XS.iload X18.here hx rfl (hb hby at_48) rfl ?_
      show own_S p e below T18 (mkF m 50 #[.val (.int p1), .val (.long q2), .second, .val (.long q3), .second, .val (.long q4), .second, .val (.long q5), .second, .val (.int (0 : Int32)), .val (.int (1 : Int32)), .val (.long (q2 &&& (9223372036854775807 : Int64))), .second, .val (.ref b3), .unset] [(.int (1 : Int32)), (.ref b3)]) _
      refine XS.lload X18.here hx rfl (hb hby at_50) rfl ?_
      show own_S p e below T18 (mkF m 52 #[.val (.int p1), .val (.long q2), .second, .val (.long q3), .second, .val (.long q4), .second, .val (.long q5), .second, .val (.int (0 : Int32)), .val (.int (1 : Int32)), .val (.long (q2 &&& (9223372036854775807 : Int64))), .second, .val (.ref b3), .unset] [(.long q5), (.int (1 : Int32)), (.ref b3)]) _
      refine XS.lconst X18.here hx rfl (hb hby at_52) ?_
      exact kt)
    have f26 := (f19.keep K18 (ninS ne8 nin0))
    have f27 := (f20.keep K18)
    obtain ⟨cq25, kq25, qa25, qb25, qc25⟩ := isOf hZ rfl f27
    obtain ⟨_, _, ⟨T25, L25, cc25, ss25⟩, -, X25, ⟨Lc25, hQ25, l25, y25, z25⟩, st25⟩ := X18.virtualBack hx (y := (⟨"com/example/pricecollar/pricecollar/engine/ReferencePrices", "open", "(IJJ)V"⟩ : MethodName)) (z := (⟨"com/example/pricecollar/pricecollar/engine/ReferencePrices", "open", "(IJJ)V"⟩ : MethodName)) hown (mvT hZ (hw _ (List.mem_of_getElem? (i := 13) rfl))) (mvT hZ (hw _ (List.mem_of_getElem? (i := 14) rfl))) (notFace_of_selects (args := #[]) (mvT hZ (hw _ (List.mem_of_getElem? (i := 16) rfl)))) (mvT hZ (hw _ (List.mem_of_getElem? (i := 16) rfl))) (mvT hZ (hw _ (List.mem_of_getElem? (i := 15) rfl))) (by decide) (backOf (W := 0) (rm3_1 l Z a0 hw [] b3 q5 (0 : Int64) b8 kk8 q4 (1 : Int64) q3 ((0 : Int64) + (1 : Int64)) q4 (1 : Int64) ((0 : Int64) + (30000000 : Int64)) ((0 : Int64) + (300000000 : Int64)) (0 : Int64) (0 : Int64) (0 : Int64) (0 : Int64) (0 : Int64) (0 : Int64) (0 : Int64) (0 : Int64) T18.heap n0 Z21 f26 V18 g_b8 ne8 O22 S1 S2) hZ (hw _ (List.mem_of_getElem? (i := 17) rfl)) (hw _ (List.mem_of_getElem? (i := 3) rfl)) (by decide) (by decide)) qa25 qc25 (g := (mkF m 53 #[.val (.int p1), .val (.long q2), .second, .val (.long q3), .second, .val (.long q4), .second, .val (.long q5), .second, .val (.int (0 : Int32)), .val (.int (1 : Int32)), .val (.long (q2 &&& (9223372036854775807 : Int64))), .second, .val (.ref b3), .unset] [(.long (0 : Int64)), (.long q5), (.int (1 : Int32)), (.ref b3)])) rfl (by rw [hml]; rfl) (Steps.refl _) (argsL := [(.int (1 : Int32)), (.long q5), (.long (0 : Int64))]) (rest := []) (lenOf pd_2 rfl) rfl (by show 2 * 0 + _ ≤ _; exact Nat.le_of_eq rfl) (hb hby at_53) (fun _ _ => ⟨rfl, rfl, (by decide : 2 + 0 ≤ _), (by decide : 17 + 0 ≤ _)⟩)
    dsimp only [Pt.U, Pt.locs, Pt.cells, Pt.slots] at X25 l25 y25 z25 st25 hQ25
    subst l25 y25 z25
    obtain ⟨rfl, Nq25, K25, V25⟩ := hQ25
    have N25 := Fr.app N18 Nq25
    have Z28 : n0 ≤ T25.heap.size := Nat.le_trans Z21 K25.1
    have O29 : Old Z n0 T25.heap := O22.keep K25 (allS g_b8 all0)
    have k30 : ∀ t, own_S p e below T25 (mkF m 56 #[.val (.int p1), .val (.long q2), .second, .val (.long q3), .second, .val (.long q4), .second, .val (.long q5), .second, .val (.int (0 : Int32)), .val (.int (1 : Int32)), .val (.long (q2 &&& (9223372036854775807 : Int64))), .second, .val (.ref b3), .unset] []) t → Gl t := fun t kt => k24 t (st25.trans kt)
    have k31 : ∀ t, own_S p e below T25 (mkF m 66 #[.val (.int p1), .val (.long q2), .second, .val (.long q3), .second, .val (.long q4), .second, .val (.long q5), .second, .val (.int (0 : Int32)), .val (.int (1 : Int32)), .val (.long (q2 &&& (9223372036854775807 : Int64))), .second, .val (.ref b3), .unset] [(.long (q5 ^^^ (-1 : Int64))), (.int (1 : Int32)), (.ref b3)]) t → Gl t := fun t kt => k30 t (by
      show own_S p e below T25 (mkF m 56 #[.val (.int p1), .val (.long q2), .second, .val (.long q3), .second, .val (.long q4), .second, .val (.long q5), .second, .val (.int (0 : Int32)), .val (.int (1 : Int32)), .val (.long (q2 &&& (9223372036854775807 : Int64))), .second, .val (.ref b3), .unset] []) _
      refine XS.aload X25.here hx rfl (hb hby at_56) rfl rfl ?_
      show own_S p e below T25 (mkF m 58 #[.val (.int p1), .val (.long q2), .second, .val (.long q3), .second, .val (.long q4), .second, .val (.long q5), .second, .val (.int (0 : Int32)), .val (.int (1 : Int32)), .val (.long (q2 &&& (9223372036854775807 : Int64))), .second, .val (.ref b3), .unset] [(.ref b3)]) _
      refine XS.iload X25.here hx rfl (hb hby at_58) rfl ?_
      show own_S p e below T25 (mkF m 60 #[.val (.int p1), .val (.long q2), .second, .val (.long q3), .second, .val (.long q4), .second, .val (.long q5), .second, .val (.int (0 : Int32)), .val (.int (1 : Int32)), .val (.long (q2 &&& (9223372036854775807 : Int64))), .second, .val (.ref b3), .unset] [(.int (1 : Int32)), (.ref b3)]) _
      refine XS.lload X25.here hx rfl (hb hby at_60) rfl ?_
      show own_S p e below T25 (mkF m 62 #[.val (.int p1), .val (.long q2), .second, .val (.long q3), .second, .val (.long q4), .second, .val (.long q5), .second, .val (.int (0 : Int32)), .val (.int (1 : Int32)), .val (.long (q2 &&& (9223372036854775807 : Int64))), .second, .val (.ref b3), .unset] [(.long q5), (.int (1 : Int32)), (.ref b3)]) _
      refine X25.ldc2Long hx hown (mvT hZ (hw _ (List.mem_of_getElem? (i := 32) rfl))) (g := (mkF m 62 #[.val (.int p1), .val (.long q2), .second, .val (.long q3), .second, .val (.long q4), .second, .val (.long q5), .second, .val (.int (0 : Int32)), .val (.int (1 : Int32)), .val (.long (q2 &&& (9223372036854775807 : Int64))), .second, .val (.ref b3), .unset] [(.long q5), (.int (1 : Int32)), (.ref b3)])) rfl (hb hby at_62) _ ?_
      show own_S p e below T25 (mkF m 65 #[.val (.int p1), .val (.long q2), .second, .val (.long q3), .second, .val (.long q4), .second, .val (.long q5), .second, .val (.int (0 : Int32)), .val (.int (1 : Int32)), .val (.long (q2 &&& (9223372036854775807 : Int64))), .second, .val (.ref b3), .unset] [(.long (-1 : Int64)), (.long q5), (.int (1 : Int32)), (.ref b3)]) _
      refine XS.lxor X25.here hx rfl (hb hby at_65) rfl ?_
      exact kt)
    have f33 := (f26.keep K25 (ninS ne8 nin0))
    have f34 := (f27.keep K25)
    obtain ⟨cq32, kq32, qa32, qb32, qc32⟩ := isOf hZ rfl f34
    obtain ⟨_, _, ⟨T32, L32, cc32, ss32⟩, -, X32, ⟨Lc32, hQ32, l32, y32, z32⟩, st32⟩ := X25.virtualBack hx (y := (⟨"com/example/pricecollar/pricecollar/engine/ReferencePrices", "enterReopeningPrint", "(IJ)V"⟩ : MethodName)) (z := (⟨"com/example/pricecollar/pricecollar/engine/ReferencePrices", "enterReopeningPrint", "(IJ)V"⟩ : MethodName)) hown (mvT hZ (hw _ (List.mem_of_getElem? (i := 23) rfl))) (mvT hZ (hw _ (List.mem_of_getElem? (i := 24) rfl))) (notFace_of_selects (args := #[]) (mvT hZ (hw _ (List.mem_of_getElem? (i := 26) rfl)))) (mvT hZ (hw _ (List.mem_of_getElem? (i := 26) rfl))) (mvT hZ (hw _ (List.mem_of_getElem? (i := 25) rfl))) (by decide) (backOf (W := 0) (rm4_1 l Z a0 hw [] b3 (q5 ^^^ (-1 : Int64)) b8 kk8 q4 (1 : Int64) q3 ((0 : Int64) + (1 : Int64)) q4 (1 : Int64) ((0 : Int64) + (30000000 : Int64)) ((0 : Int64) + (300000000 : Int64)) q5 (1 : Int64) (0 : Int64) q5 (1 : Int64) ((0 : Int64) + (30000000 : Int64)) ((0 : Int64) + (300000000 : Int64)) T25.heap n0 Z28 f33 V25 g_b8 ne8) hZ (hw _ (List.mem_of_getElem? (i := 27) rfl)) (hw _ (List.mem_of_getElem? (i := 3) rfl)) (by decide) (by decide)) qa32 qc32 (g := (mkF m 66 #[.val (.int p1), .val (.long q2), .second, .val (.long q3), .second, .val (.long q4), .second, .val (.long q5), .second, .val (.int (0 : Int32)), .val (.int (1 : Int32)), .val (.long (q2 &&& (9223372036854775807 : Int64))), .second, .val (.ref b3), .unset] [(.long (q5 ^^^ (-1 : Int64))), (.int (1 : Int32)), (.ref b3)])) rfl (by rw [hml]; rfl) (Steps.refl _) (argsL := [(.int (1 : Int32)), (.long (q5 ^^^ (-1 : Int64)))]) (rest := []) (lenOf pd_3 rfl) rfl (by show 2 * 0 + _ ≤ _; exact Nat.le_of_eq rfl) (hb hby at_66) (fun _ _ => ⟨rfl, rfl, (by decide : 2 + 0 ≤ _), (by decide : 17 + 0 ≤ _)⟩)
    dsimp only [Pt.U, Pt.locs, Pt.cells, Pt.slots] at X32 l32 y32 z32 st32 hQ32
    subst l32 y32 z32
    obtain ⟨rfl, Nq32, K32, V32⟩ := hQ32
    have N32 := Fr.app N25 Nq32
    have Z35 : n0 ≤ T32.heap.size := Nat.le_trans Z28 K32.1
    have O36 : Old Z n0 T32.heap := O29.keep K32 (allS g_b8 all0)
    have k37 : ∀ t, own_S p e below T32 (mkF m 69 #[.val (.int p1), .val (.long q2), .second, .val (.long q3), .second, .val (.long q4), .second, .val (.long q5), .second, .val (.int (0 : Int32)), .val (.int (1 : Int32)), .val (.long (q2 &&& (9223372036854775807 : Int64))), .second, .val (.ref b3), .unset] []) t → Gl t := fun t kt => k31 t (st32.trans kt)
    have k38 : ∀ t, own_S p e below T32 (mkF m 72 #[.val (.int p1), .val (.long q2), .second, .val (.long q3), .second, .val (.long q4), .second, .val (.long q5), .second, .val (.int (0 : Int32)), .val (.int (1 : Int32)), .val (.long (q2 &&& (9223372036854775807 : Int64))), .second, .val (.ref b3), .unset] [(.long (q2 &&& (9223372036854775807 : Int64))), (.long q3)]) t → Gl t := fun t kt => k37 t (by
      show own_S p e below T32 (mkF m 69 #[.val (.int p1), .val (.long q2), .second, .val (.long q3), .second, .val (.long q4), .second, .val (.long q5), .second, .val (.int (0 : Int32)), .val (.int (1 : Int32)), .val (.long (q2 &&& (9223372036854775807 : Int64))), .second, .val (.ref b3), .unset] []) _
      refine XS.lloadN X32.here hx rfl (hb hby at_69) rfl ?_
      show own_S p e below T32 (mkF m 70 #[.val (.int p1), .val (.long q2), .second, .val (.long q3), .second, .val (.long q4), .second, .val (.long q5), .second, .val (.int (0 : Int32)), .val (.int (1 : Int32)), .val (.long (q2 &&& (9223372036854775807 : Int64))), .second, .val (.ref b3), .unset] [(.long q3)]) _
      refine XS.lload X32.here hx rfl (hb hby at_70) rfl ?_
      exact kt)
    obtain ⟨_, _, ⟨T39, L39, cc39, ss39⟩, -, X39, ⟨Lc39, hQ39, l39, y39, z39⟩, st39⟩ := Jvm.LawKit.callS X32 hx (y := (⟨"com/example/pricecollar/pricecollar/engine/ReferencePricesHasRoomForPinLaw", "fits", "(JJ)Z"⟩ : MethodName)) hown (mvT hZ (hw _ (List.mem_of_getElem? (i := 33) rfl))) (mvT hZ (hw _ (List.mem_of_getElem? (i := 34) rfl))) (mvT hZ (hw _ (List.mem_of_getElem? (i := 35) rfl))) (mvT hZ (hw _ (List.mem_of_getElem? (i := 36) rfl))) (by decide) (backOf (W := 0) (rm6 l Z a0 hw [] q3 (q2 &&& (9223372036854775807 : Int64))  T32.heap n0 Z35 ) hZ (hw _ (List.mem_of_getElem? (i := 36) rfl)) (hw _ (List.mem_of_getElem? (i := 35) rfl)) (by decide) (by decide)) (g := (mkF m 72 #[.val (.int p1), .val (.long q2), .second, .val (.long q3), .second, .val (.long q4), .second, .val (.long q5), .second, .val (.int (0 : Int32)), .val (.int (1 : Int32)), .val (.long (q2 &&& (9223372036854775807 : Int64))), .second, .val (.ref b3), .unset] [(.long (q2 &&& (9223372036854775807 : Int64))), (.long q3)])) rfl (by rw [hml]; rfl) (argsL := [(.long q3), (.long (q2 &&& (9223372036854775807 : Int64)))]) (rest := []) (lenOf pd_4 rfl) rfl (by show 2 * 0 + _ ≤ _; exact Nat.le_of_eq rfl) (hb hby at_72) (fun _ _ => ⟨rfl, rfl, (by decide : 2 + 0 ≤ _), (by decide : 17 + 0 ≤ _)⟩)
    dsimp only [Pt.U, Pt.locs, Pt.cells, Pt.slots] at X39 l39 y39 z39 st39 hQ39
    subst l39 y39 z39
    obtain ⟨rfl, Nq39, eq39⟩ := hQ39
    have N39 := Fr.app N32 Nq39
    have k40 : ∀ t, own_S p e below T39 (mkF m 75 #[.val (.int p1), .val (.long q2), .second, .val (.long q3), .second, .val (.long q4), .second, .val (.long q5), .second, .val (.int (0 : Int32)), .val (.int (1 : Int32)), .val (.long (q2 &&& (9223372036854775807 : Int64))), .second, .val (.ref b3), .unset] [(.int (own_fits q3 (q2 &&& (9223372036854775807 : Int64))))]) t → Gl t := fun t kt => k38 t (st39 _ kt)
    by_cases hc75 : (own_fits q3 (q2 &&& (9223372036854775807 : Int64))) = (0 : Int32)
    · have k41 : ∀ t, own_S p e below T39 (mkF m 101 #[.val (.int p1), .val (.long q2), .second, .val (.long q3), .second, .val (.long q4), .second, .val (.long q5), .second, .val (.int (0 : Int32)), .val (.int (1 : Int32)), .val (.long (q2 &&& (9223372036854775807 : Int64))), .second, .val (.ref b3), .val (.int (0 : Int32))] [(.long (q2 &&& (9223372036854775807 : Int64))), (.int (0 : Int32)), (.ref b3)]) t → Gl t := fun t kt => k40 t (by
        show own_S p e below T39 (mkF m 75 #[.val (.int p1), .val (.long q2), .second, .val (.long q3), .second, .val (.long q4), .second, .val (.long q5), .second, .val (.int (0 : Int32)), .val (.int (1 : Int32)), .val (.long (q2 &&& (9223372036854775807 : Int64))), .second, .val (.ref b3), .unset] [(.int (own_fits q3 (q2 &&& (9223372036854775807 : Int64))))]) _
        refine XS.ifYes X39.here hx rfl (pc0 := 75) (pc' := 92) rfl (hb hby at_75) rfl ((if0 _ _).trans (teq hc75).1) (by decide) (by decide) ?_
        show own_S p e below T39 (mkF m 92 #[.val (.int p1), .val (.long q2), .second, .val (.long q3), .second, .val (.long q4), .second, .val (.long q5), .second, .val (.int (0 : Int32)), .val (.int (1 : Int32)), .val (.long (q2 &&& (9223372036854775807 : Int64))), .second, .val (.ref b3), .unset] []) _
        refine XS.iconst X39.here hx rfl (hb hby at_92) ?_
        show own_S p e below T39 (mkF m 93 #[.val (.int p1), .val (.long q2), .second, .val (.long q3), .second, .val (.long q4), .second, .val (.long q5), .second, .val (.int (0 : Int32)), .val (.int (1 : Int32)), .val (.long (q2 &&& (9223372036854775807 : Int64))), .second, .val (.ref b3), .unset] [(.int (0 : Int32))]) _
        refine XS.istore X39.here hx rfl (hb hby at_93) rfl (l' := #[.val (.int p1), .val (.long q2), .second, .val (.long q3), .second, .val (.long q4), .second, .val (.long q5), .second, .val (.int (0 : Int32)), .val (.int (1 : Int32)), .val (.long (q2 &&& (9223372036854775807 : Int64))), .second, .val (.ref b3), .val (.int (0 : Int32))]) rfl ?_
        show own_S p e below T39 (mkF m 95 #[.val (.int p1), .val (.long q2), .second, .val (.long q3), .second, .val (.long q4), .second, .val (.long q5), .second, .val (.int (0 : Int32)), .val (.int (1 : Int32)), .val (.long (q2 &&& (9223372036854775807 : Int64))), .second, .val (.ref b3), .val (.int (0 : Int32))] []) _
        refine XS.aload X39.here hx rfl (hb hby at_95) rfl rfl ?_
        show own_S p e below T39 (mkF m 97 #[.val (.int p1), .val (.long q2), .second, .val (.long q3), .second, .val (.long q4), .second, .val (.long q5), .second, .val (.int (0 : Int32)), .val (.int (1 : Int32)), .val (.long (q2 &&& (9223372036854775807 : Int64))), .second, .val (.ref b3), .val (.int (0 : Int32))] [(.ref b3)]) _
        refine XS.iload X39.here hx rfl (hb hby at_97) rfl ?_
        show own_S p e below T39 (mkF m 99 #[.val (.int p1), .val (.long q2), .second, .val (.long q3), .second, .val (.long q4), .second, .val (.long q5), .second, .val (.int (0 : Int32)), .val (.int (1 : Int32)), .val (.long (q2 &&& (9223372036854775807 : Int64))), .second, .val (.ref b3), .val (.int (0 : Int32))] [(.int (0 : Int32)), (.ref b3)]) _
        refine XS.lload X39.here hx rfl (hb hby at_99) rfl ?_
        exact kt)
      have f43 := (f33.keep K32 (ninS ne8 nin0))
      have f44 := (f34.keep K32)
      obtain ⟨cq42, kq42, qa42, qb42, qc42⟩ := isOf hZ eq39 f44
      obtain ⟨_, _, ⟨T42, L42, cc42, ss42⟩, -, X42, ⟨Lc42, hQ42, l42, y42, z42⟩, st42⟩ := X39.virtualBack hx (y := (⟨"com/example/pricecollar/pricecollar/engine/ReferencePrices", "hasRoomFor", "(IJ)Z"⟩ : MethodName)) (z := (⟨"com/example/pricecollar/pricecollar/engine/ReferencePrices", "hasRoomFor", "(IJ)Z"⟩ : MethodName)) hown (mvT hZ (hw _ (List.mem_of_getElem? (i := 37) rfl))) (mvT hZ (hw _ (List.mem_of_getElem? (i := 38) rfl))) (notFace_of_selects (args := #[]) (mvT hZ (hw _ (List.mem_of_getElem? (i := 40) rfl)))) (mvT hZ (hw _ (List.mem_of_getElem? (i := 40) rfl))) (mvT hZ (hw _ (List.mem_of_getElem? (i := 39) rfl))) (by decide) (backOf (W := 0) (rm7_0 l Z a0 hw [] b3 (q2 &&& (9223372036854775807 : Int64)) b8 kk8 q4 (1 : Int64) q3 ((0 : Int64) + (1 : Int64)) q4 (1 : Int64) ((0 : Int64) + (30000000 : Int64)) ((0 : Int64) + (300000000 : Int64)) q5 (1 : Int64) (q5 ^^^ (-1 : Int64)) ((0 : Int64) + (1 : Int64)) q5 (1 : Int64) ((0 : Int64) + (30000000 : Int64)) ((0 : Int64) + (300000000 : Int64)) T32.heap n0 Z35 f43 V32) hZ (hw _ (List.mem_of_getElem? (i := 41) rfl)) (hw _ (List.mem_of_getElem? (i := 3) rfl)) (by decide) (by decide)) qa42 qc42 (g := (mkF m 101 #[.val (.int p1), .val (.long q2), .second, .val (.long q3), .second, .val (.long q4), .second, .val (.long q5), .second, .val (.int (0 : Int32)), .val (.int (1 : Int32)), .val (.long (q2 &&& (9223372036854775807 : Int64))), .second, .val (.ref b3), .val (.int (0 : Int32))] [(.long (q2 &&& (9223372036854775807 : Int64))), (.int (0 : Int32)), (.ref b3)])) rfl (by rw [hml]; rfl) (Steps.refl _) (argsL := [(.int (0 : Int32)), (.long (q2 &&& (9223372036854775807 : Int64)))]) (rest := []) (lenOf pd_5 rfl) rfl (by show 2 * 0 + _ ≤ _; exact Nat.le_of_eq rfl) (hb hby at_101) (fun _ _ => ⟨rfl, eq39, (by decide : 2 + 0 ≤ _), (by decide : 17 + 0 ≤ _)⟩)
      dsimp only [Pt.U, Pt.locs, Pt.cells, Pt.slots] at X42 l42 y42 z42 st42 hQ42
      subst l42 y42 z42
      obtain ⟨rfl, Nq42, eq42⟩ := hQ42
      have N42 := Fr.app N39 Nq42
      have k45 : ∀ t, own_S p e below T42 (mkF m 104 #[.val (.int p1), .val (.long q2), .second, .val (.long q3), .second, .val (.long q4), .second, .val (.long q5), .second, .val (.int (0 : Int32)), .val (.int (1 : Int32)), .val (.long (q2 &&& (9223372036854775807 : Int64))), .second, .val (.ref b3), .val (.int (0 : Int32))] [(.int (own_room q3 q4 (q2 &&& (9223372036854775807 : Int64))))]) t → Gl t := fun t kt => k41 t (st42.trans kt)
      have k46 : ∀ t, own_S p e below T42 (mkF m 106 #[.val (.int p1), .val (.long q2), .second, .val (.long q3), .second, .val (.long q4), .second, .val (.long q5), .second, .val (.int (0 : Int32)), .val (.int (1 : Int32)), .val (.long (q2 &&& (9223372036854775807 : Int64))), .second, .val (.ref b3), .val (.int (0 : Int32))] [(.int (0 : Int32)), (.int (own_room q3 q4 (q2 &&& (9223372036854775807 : Int64))))]) t → Gl t := fun t kt => k45 t (by
        show own_S p e below T42 (mkF m 104 #[.val (.int p1), .val (.long q2), .second, .val (.long q3), .second, .val (.long q4), .second, .val (.long q5), .second, .val (.int (0 : Int32)), .val (.int (1 : Int32)), .val (.long (q2 &&& (9223372036854775807 : Int64))), .second, .val (.ref b3), .val (.int (0 : Int32))] [(.int (own_room q3 q4 (q2 &&& (9223372036854775807 : Int64))))]) _
        refine XS.iload X42.here hx rfl (hb hby at_104) rfl ?_
        exact kt)
      have hc106_47 : (own_room q3 q4 (q2 &&& (9223372036854775807 : Int64))) = (0 : Int32) := by rw [own_law _ _ _ (own_pos q2), if_pos hc75]
      have k48 : ∀ t, own_S p e below T42 (mkF m 114 #[.val (.int p1), .val (.long q2), .second, .val (.long q3), .second, .val (.long q4), .second, .val (.long q5), .second, .val (.int (0 : Int32)), .val (.int (1 : Int32)), .val (.long (q2 &&& (9223372036854775807 : Int64))), .second, .val (.ref b3), .val (.int (0 : Int32))] [(.int (1 : Int32))]) t → Gl t := fun t kt => k46 t (by
        show own_S p e below T42 (mkF m 106 #[.val (.int p1), .val (.long q2), .second, .val (.long q3), .second, .val (.long q4), .second, .val (.long q5), .second, .val (.int (0 : Int32)), .val (.int (1 : Int32)), .val (.long (q2 &&& (9223372036854775807 : Int64))), .second, .val (.ref b3), .val (.int (0 : Int32))] [(.int (0 : Int32)), (.int (own_room q3 q4 (q2 &&& (9223372036854775807 : Int64))))]) _
        refine XS.icmpNo X42.here hx rfl (hb hby at_106) rfl (teq hc106_47).2 ?_
        show own_S p e below T42 (mkF m 109 #[.val (.int p1), .val (.long q2), .second, .val (.long q3), .second, .val (.long q4), .second, .val (.long q5), .second, .val (.int (0 : Int32)), .val (.int (1 : Int32)), .val (.long (q2 &&& (9223372036854775807 : Int64))), .second, .val (.ref b3), .val (.int (0 : Int32))] []) _
        refine XS.iconst X42.here hx rfl (hb hby at_109) ?_
        show own_S p e below T42 (mkF m 110 #[.val (.int p1), .val (.long q2), .second, .val (.long q3), .second, .val (.long q4), .second, .val (.long q5), .second, .val (.int (0 : Int32)), .val (.int (1 : Int32)), .val (.long (q2 &&& (9223372036854775807 : Int64))), .second, .val (.ref b3), .val (.int (0 : Int32))] [(.int (1 : Int32))]) _
        refine XS.goto X42.here hx rfl (pc0 := 110) (pc' := 114) rfl (hb hby at_110) (by decide) (by decide) ?_
        exact kt)
      obtain ⟨fs, hr, hrun, hended, hW, hsame⟩ := X42.leave (v := some (.int (1 : Int32))) (fun h => by rw [Bd.returns] at h; cases h)
      refine ⟨_, _, hGl _ (k48 _ (retN X42 hx (t := .boolean) Bd.returns (by simp) (hb hby at_114) hr)), hrun, hended, _, _, rfl, ?_, ⟨_, rfl⟩, hW, hsame.mono (by decide) (by decide)⟩
      show Q0 Z p1 q2 q3 q4 q5 h0 n0 _ T42.heap _
      rw [eq42]
      exact ⟨rfl, N42⟩
    · have k49 : ∀ t, own_S p e below T39 (mkF m 82 #[.val (.int p1), .val (.long q2), .second, .val (.long q3), .second, .val (.long q4), .second, .val (.long q5), .second, .val (.int (0 : Int32)), .val (.int (1 : Int32)), .val (.long (q2 &&& (9223372036854775807 : Int64))), .second, .val (.ref b3), .unset] [(.long (q2 &&& (9223372036854775807 : Int64))), (.long q4)]) t → Gl t := fun t kt => k40 t (by
        show own_S p e below T39 (mkF m 75 #[.val (.int p1), .val (.long q2), .second, .val (.long q3), .second, .val (.long q4), .second, .val (.long q5), .second, .val (.int (0 : Int32)), .val (.int (1 : Int32)), .val (.long (q2 &&& (9223372036854775807 : Int64))), .second, .val (.ref b3), .unset] [(.int (own_fits q3 (q2 &&& (9223372036854775807 : Int64))))]) _
        refine XS.ifNo X39.here hx rfl (hb hby at_75) rfl ((if0 _ _).trans (feq hc75).1) ?_
        show own_S p e below T39 (mkF m 78 #[.val (.int p1), .val (.long q2), .second, .val (.long q3), .second, .val (.long q4), .second, .val (.long q5), .second, .val (.int (0 : Int32)), .val (.int (1 : Int32)), .val (.long (q2 &&& (9223372036854775807 : Int64))), .second, .val (.ref b3), .unset] []) _
        refine XS.lload X39.here hx rfl (hb hby at_78) rfl ?_
        show own_S p e below T39 (mkF m 80 #[.val (.int p1), .val (.long q2), .second, .val (.long q3), .second, .val (.long q4), .second, .val (.long q5), .second, .val (.int (0 : Int32)), .val (.int (1 : Int32)), .val (.long (q2 &&& (9223372036854775807 : Int64))), .second, .val (.ref b3), .unset] [(.long q4)]) _
        refine XS.lload X39.here hx rfl (hb hby at_80) rfl ?_
        exact kt)
      obtain ⟨_, _, ⟨T50, L50, cc50, ss50⟩, -, X50, ⟨Lc50, hQ50, l50, y50, z50⟩, st50⟩ := Jvm.LawKit.callS X39 hx (y := (⟨"com/example/pricecollar/pricecollar/engine/ReferencePricesHasRoomForPinLaw", "fits", "(JJ)Z"⟩ : MethodName)) hown (mvT hZ (hw _ (List.mem_of_getElem? (i := 33) rfl))) (mvT hZ (hw _ (List.mem_of_getElem? (i := 34) rfl))) (mvT hZ (hw _ (List.mem_of_getElem? (i := 35) rfl))) (mvT hZ (hw _ (List.mem_of_getElem? (i := 36) rfl))) (by decide) (backOf (W := 0) (rm6 l Z a0 hw [] q4 (q2 &&& (9223372036854775807 : Int64))  T32.heap n0 Z35 ) hZ (hw _ (List.mem_of_getElem? (i := 36) rfl)) (hw _ (List.mem_of_getElem? (i := 35) rfl)) (by decide) (by decide)) (g := (mkF m 82 #[.val (.int p1), .val (.long q2), .second, .val (.long q3), .second, .val (.long q4), .second, .val (.long q5), .second, .val (.int (0 : Int32)), .val (.int (1 : Int32)), .val (.long (q2 &&& (9223372036854775807 : Int64))), .second, .val (.ref b3), .unset] [(.long (q2 &&& (9223372036854775807 : Int64))), (.long q4)])) rfl (by rw [hml]; rfl) (argsL := [(.long q4), (.long (q2 &&& (9223372036854775807 : Int64)))]) (rest := []) (lenOf pd_4 rfl) rfl (by show 2 * 0 + _ ≤ _; exact Nat.le_of_eq rfl) (hb hby at_82) (fun _ _ => ⟨rfl, eq39, (by decide : 2 + 0 ≤ _), (by decide : 17 + 0 ≤ _)⟩)
      dsimp only [Pt.U, Pt.locs, Pt.cells, Pt.slots] at X50 l50 y50 z50 st50 hQ50
      subst l50 y50 z50
      obtain ⟨rfl, Nq50, eq50⟩ := hQ50
      have N50 := Fr.app N39 Nq50
      have k51 : ∀ t, own_S p e below T50 (mkF m 85 #[.val (.int p1), .val (.long q2), .second, .val (.long q3), .second, .val (.long q4), .second, .val (.long q5), .second, .val (.int (0 : Int32)), .val (.int (1 : Int32)), .val (.long (q2 &&& (9223372036854775807 : Int64))), .second, .val (.ref b3), .unset] [(.int (own_fits q4 (q2 &&& (9223372036854775807 : Int64))))]) t → Gl t := fun t kt => k49 t (st50 _ kt)
      by_cases hc85 : (own_fits q4 (q2 &&& (9223372036854775807 : Int64))) = (0 : Int32)
      · have k52 : ∀ t, own_S p e below T50 (mkF m 101 #[.val (.int p1), .val (.long q2), .second, .val (.long q3), .second, .val (.long q4), .second, .val (.long q5), .second, .val (.int (0 : Int32)), .val (.int (1 : Int32)), .val (.long (q2 &&& (9223372036854775807 : Int64))), .second, .val (.ref b3), .val (.int (0 : Int32))] [(.long (q2 &&& (9223372036854775807 : Int64))), (.int (0 : Int32)), (.ref b3)]) t → Gl t := fun t kt => k51 t (by
          show own_S p e below T50 (mkF m 85 #[.val (.int p1), .val (.long q2), .second, .val (.long q3), .second, .val (.long q4), .second, .val (.long q5), .second, .val (.int (0 : Int32)), .val (.int (1 : Int32)), .val (.long (q2 &&& (9223372036854775807 : Int64))), .second, .val (.ref b3), .unset] [(.int (own_fits q4 (q2 &&& (9223372036854775807 : Int64))))]) _
          refine XS.ifYes X50.here hx rfl (pc0 := 85) (pc' := 92) rfl (hb hby at_85) rfl ((if0 _ _).trans (teq hc85).1) (by decide) (by decide) ?_
          show own_S p e below T50 (mkF m 92 #[.val (.int p1), .val (.long q2), .second, .val (.long q3), .second, .val (.long q4), .second, .val (.long q5), .second, .val (.int (0 : Int32)), .val (.int (1 : Int32)), .val (.long (q2 &&& (9223372036854775807 : Int64))), .second, .val (.ref b3), .unset] []) _
          refine XS.iconst X50.here hx rfl (hb hby at_92) ?_
          show own_S p e below T50 (mkF m 93 #[.val (.int p1), .val (.long q2), .second, .val (.long q3), .second, .val (.long q4), .second, .val (.long q5), .second, .val (.int (0 : Int32)), .val (.int (1 : Int32)), .val (.long (q2 &&& (9223372036854775807 : Int64))), .second, .val (.ref b3), .unset] [(.int (0 : Int32))]) _
          refine XS.istore X50.here hx rfl (hb hby at_93) rfl (l' := #[.val (.int p1), .val (.long q2), .second, .val (.long q3), .second, .val (.long q4), .second, .val (.long q5), .second, .val (.int (0 : Int32)), .val (.int (1 : Int32)), .val (.long (q2 &&& (9223372036854775807 : Int64))), .second, .val (.ref b3), .val (.int (0 : Int32))]) rfl ?_
          show own_S p e below T50 (mkF m 95 #[.val (.int p1), .val (.long q2), .second, .val (.long q3), .second, .val (.long q4), .second, .val (.long q5), .second, .val (.int (0 : Int32)), .val (.int (1 : Int32)), .val (.long (q2 &&& (9223372036854775807 : Int64))), .second, .val (.ref b3), .val (.int (0 : Int32))] []) _
          refine XS.aload X50.here hx rfl (hb hby at_95) rfl rfl ?_
          show own_S p e below T50 (mkF m 97 #[.val (.int p1), .val (.long q2), .second, .val (.long q3), .second, .val (.long q4), .second, .val (.long q5), .second, .val (.int (0 : Int32)), .val (.int (1 : Int32)), .val (.long (q2 &&& (9223372036854775807 : Int64))), .second, .val (.ref b3), .val (.int (0 : Int32))] [(.ref b3)]) _
          refine XS.iload X50.here hx rfl (hb hby at_97) rfl ?_
          show own_S p e below T50 (mkF m 99 #[.val (.int p1), .val (.long q2), .second, .val (.long q3), .second, .val (.long q4), .second, .val (.long q5), .second, .val (.int (0 : Int32)), .val (.int (1 : Int32)), .val (.long (q2 &&& (9223372036854775807 : Int64))), .second, .val (.ref b3), .val (.int (0 : Int32))] [(.int (0 : Int32)), (.ref b3)]) _
          refine XS.lload X50.here hx rfl (hb hby at_99) rfl ?_
          exact kt)
        have f54 := (f33.keep K32 (ninS ne8 nin0))
        have f55 := (f34.keep K32)
        obtain ⟨cq53, kq53, qa53, qb53, qc53⟩ := isOf hZ eq50 f55
        obtain ⟨_, _, ⟨T53, L53, cc53, ss53⟩, -, X53, ⟨Lc53, hQ53, l53, y53, z53⟩, st53⟩ := X50.virtualBack hx (y := (⟨"com/example/pricecollar/pricecollar/engine/ReferencePrices", "hasRoomFor", "(IJ)Z"⟩ : MethodName)) (z := (⟨"com/example/pricecollar/pricecollar/engine/ReferencePrices", "hasRoomFor", "(IJ)Z"⟩ : MethodName)) hown (mvT hZ (hw _ (List.mem_of_getElem? (i := 37) rfl))) (mvT hZ (hw _ (List.mem_of_getElem? (i := 38) rfl))) (notFace_of_selects (args := #[]) (mvT hZ (hw _ (List.mem_of_getElem? (i := 40) rfl)))) (mvT hZ (hw _ (List.mem_of_getElem? (i := 40) rfl))) (mvT hZ (hw _ (List.mem_of_getElem? (i := 39) rfl))) (by decide) (backOf (W := 0) (rm7_0 l Z a0 hw [] b3 (q2 &&& (9223372036854775807 : Int64)) b8 kk8 q4 (1 : Int64) q3 ((0 : Int64) + (1 : Int64)) q4 (1 : Int64) ((0 : Int64) + (30000000 : Int64)) ((0 : Int64) + (300000000 : Int64)) q5 (1 : Int64) (q5 ^^^ (-1 : Int64)) ((0 : Int64) + (1 : Int64)) q5 (1 : Int64) ((0 : Int64) + (30000000 : Int64)) ((0 : Int64) + (300000000 : Int64)) T32.heap n0 Z35 f54 V32) hZ (hw _ (List.mem_of_getElem? (i := 41) rfl)) (hw _ (List.mem_of_getElem? (i := 3) rfl)) (by decide) (by decide)) qa53 qc53 (g := (mkF m 101 #[.val (.int p1), .val (.long q2), .second, .val (.long q3), .second, .val (.long q4), .second, .val (.long q5), .second, .val (.int (0 : Int32)), .val (.int (1 : Int32)), .val (.long (q2 &&& (9223372036854775807 : Int64))), .second, .val (.ref b3), .val (.int (0 : Int32))] [(.long (q2 &&& (9223372036854775807 : Int64))), (.int (0 : Int32)), (.ref b3)])) rfl (by rw [hml]; rfl) (Steps.refl _) (argsL := [(.int (0 : Int32)), (.long (q2 &&& (9223372036854775807 : Int64)))]) (rest := []) (lenOf pd_5 rfl) rfl (by show 2 * 0 + _ ≤ _; exact Nat.le_of_eq rfl) (hb hby at_101) (fun _ _ => ⟨rfl, eq50, (by decide : 2 + 0 ≤ _), (by decide : 17 + 0 ≤ _)⟩)
        dsimp only [Pt.U, Pt.locs, Pt.cells, Pt.slots] at X53 l53 y53 z53 st53 hQ53
        subst l53 y53 z53
        obtain ⟨rfl, Nq53, eq53⟩ := hQ53
        have N53 := Fr.app N50 Nq53
        have k56 : ∀ t, own_S p e below T53 (mkF m 104 #[.val (.int p1), .val (.long q2), .second, .val (.long q3), .second, .val (.long q4), .second, .val (.long q5), .second, .val (.int (0 : Int32)), .val (.int (1 : Int32)), .val (.long (q2 &&& (9223372036854775807 : Int64))), .second, .val (.ref b3), .val (.int (0 : Int32))] [(.int (own_room q3 q4 (q2 &&& (9223372036854775807 : Int64))))]) t → Gl t := fun t kt => k52 t (st53.trans kt)
        have k57 : ∀ t, own_S p e below T53 (mkF m 106 #[.val (.int p1), .val (.long q2), .second, .val (.long q3), .second, .val (.long q4), .second, .val (.long q5), .second, .val (.int (0 : Int32)), .val (.int (1 : Int32)), .val (.long (q2 &&& (9223372036854775807 : Int64))), .second, .val (.ref b3), .val (.int (0 : Int32))] [(.int (0 : Int32)), (.int (own_room q3 q4 (q2 &&& (9223372036854775807 : Int64))))]) t → Gl t := fun t kt => k56 t (by
          show own_S p e below T53 (mkF m 104 #[.val (.int p1), .val (.long q2), .second, .val (.long q3), .second, .val (.long q4), .second, .val (.long q5), .second, .val (.int (0 : Int32)), .val (.int (1 : Int32)), .val (.long (q2 &&& (9223372036854775807 : Int64))), .second, .val (.ref b3), .val (.int (0 : Int32))] [(.int (own_room q3 q4 (q2 &&& (9223372036854775807 : Int64))))]) _
          refine XS.iload X53.here hx rfl (hb hby at_104) rfl ?_
          exact kt)
        have hc106_58 : (own_room q3 q4 (q2 &&& (9223372036854775807 : Int64))) = (0 : Int32) := by rw [own_law _ _ _ (own_pos q2), if_neg hc75, if_pos hc85]
        have k59 : ∀ t, own_S p e below T53 (mkF m 114 #[.val (.int p1), .val (.long q2), .second, .val (.long q3), .second, .val (.long q4), .second, .val (.long q5), .second, .val (.int (0 : Int32)), .val (.int (1 : Int32)), .val (.long (q2 &&& (9223372036854775807 : Int64))), .second, .val (.ref b3), .val (.int (0 : Int32))] [(.int (1 : Int32))]) t → Gl t := fun t kt => k57 t (by
          show own_S p e below T53 (mkF m 106 #[.val (.int p1), .val (.long q2), .second, .val (.long q3), .second, .val (.long q4), .second, .val (.long q5), .second, .val (.int (0 : Int32)), .val (.int (1 : Int32)), .val (.long (q2 &&& (9223372036854775807 : Int64))), .second, .val (.ref b3), .val (.int (0 : Int32))] [(.int (0 : Int32)), (.int (own_room q3 q4 (q2 &&& (9223372036854775807 : Int64))))]) _
          refine XS.icmpNo X53.here hx rfl (hb hby at_106) rfl (teq hc106_58).2 ?_
          show own_S p e below T53 (mkF m 109 #[.val (.int p1), .val (.long q2), .second, .val (.long q3), .second, .val (.long q4), .second, .val (.long q5), .second, .val (.int (0 : Int32)), .val (.int (1 : Int32)), .val (.long (q2 &&& (9223372036854775807 : Int64))), .second, .val (.ref b3), .val (.int (0 : Int32))] []) _
          refine XS.iconst X53.here hx rfl (hb hby at_109) ?_
          show own_S p e below T53 (mkF m 110 #[.val (.int p1), .val (.long q2), .second, .val (.long q3), .second, .val (.long q4), .second, .val (.long q5), .second, .val (.int (0 : Int32)), .val (.int (1 : Int32)), .val (.long (q2 &&& (9223372036854775807 : Int64))), .second, .val (.ref b3), .val (.int (0 : Int32))] [(.int (1 : Int32))]) _
          refine XS.goto X53.here hx rfl (pc0 := 110) (pc' := 114) rfl (hb hby at_110) (by decide) (by decide) ?_
          exact kt)
        obtain ⟨fs, hr, hrun, hended, hW, hsame⟩ := X53.leave (v := some (.int (1 : Int32))) (fun h => by rw [Bd.returns] at h; cases h)
        refine ⟨_, _, hGl _ (k59 _ (retN X53 hx (t := .boolean) Bd.returns (by simp) (hb hby at_114) hr)), hrun, hended, _, _, rfl, ?_, ⟨_, rfl⟩, hW, hsame.mono (by decide) (by decide)⟩
        show Q0 Z p1 q2 q3 q4 q5 h0 n0 _ T53.heap _
        rw [eq53]
        exact ⟨rfl, N53⟩
      · have k60 : ∀ t, own_S p e below T50 (mkF m 101 #[.val (.int p1), .val (.long q2), .second, .val (.long q3), .second, .val (.long q4), .second, .val (.long q5), .second, .val (.int (0 : Int32)), .val (.int (1 : Int32)), .val (.long (q2 &&& (9223372036854775807 : Int64))), .second, .val (.ref b3), .val (.int (1 : Int32))] [(.long (q2 &&& (9223372036854775807 : Int64))), (.int (0 : Int32)), (.ref b3)]) t → Gl t := fun t kt => k51 t (by
          show own_S p e below T50 (mkF m 85 #[.val (.int p1), .val (.long q2), .second, .val (.long q3), .second, .val (.long q4), .second, .val (.long q5), .second, .val (.int (0 : Int32)), .val (.int (1 : Int32)), .val (.long (q2 &&& (9223372036854775807 : Int64))), .second, .val (.ref b3), .unset] [(.int (own_fits q4 (q2 &&& (9223372036854775807 : Int64))))]) _
          refine XS.ifNo X50.here hx rfl (hb hby at_85) rfl ((if0 _ _).trans (feq hc85).1) ?_
          show own_S p e below T50 (mkF m 88 #[.val (.int p1), .val (.long q2), .second, .val (.long q3), .second, .val (.long q4), .second, .val (.long q5), .second, .val (.int (0 : Int32)), .val (.int (1 : Int32)), .val (.long (q2 &&& (9223372036854775807 : Int64))), .second, .val (.ref b3), .unset] []) _
          refine XS.iconst X50.here hx rfl (hb hby at_88) ?_
          show own_S p e below T50 (mkF m 89 #[.val (.int p1), .val (.long q2), .second, .val (.long q3), .second, .val (.long q4), .second, .val (.long q5), .second, .val (.int (0 : Int32)), .val (.int (1 : Int32)), .val (.long (q2 &&& (9223372036854775807 : Int64))), .second, .val (.ref b3), .unset] [(.int (1 : Int32))]) _
          refine XS.goto X50.here hx rfl (pc0 := 89) (pc' := 93) rfl (hb hby at_89) (by decide) (by decide) ?_
          show own_S p e below T50 (mkF m 93 #[.val (.int p1), .val (.long q2), .second, .val (.long q3), .second, .val (.long q4), .second, .val (.long q5), .second, .val (.int (0 : Int32)), .val (.int (1 : Int32)), .val (.long (q2 &&& (9223372036854775807 : Int64))), .second, .val (.ref b3), .unset] [(.int (1 : Int32))]) _
          refine XS.istore X50.here hx rfl (hb hby at_93) rfl (l' := #[.val (.int p1), .val (.long q2), .second, .val (.long q3), .second, .val (.long q4), .second, .val (.long q5), .second, .val (.int (0 : Int32)), .val (.int (1 : Int32)), .val (.long (q2 &&& (9223372036854775807 : Int64))), .second, .val (.ref b3), .val (.int (1 : Int32))]) rfl ?_
          show own_S p e below T50 (mkF m 95 #[.val (.int p1), .val (.long q2), .second, .val (.long q3), .second, .val (.long q4), .second, .val (.long q5), .second, .val (.int (0 : Int32)), .val (.int (1 : Int32)), .val (.long (q2 &&& (9223372036854775807 : Int64))), .second, .val (.ref b3), .val (.int (1 : Int32))] []) _
          refine XS.aload X50.here hx rfl (hb hby at_95) rfl rfl ?_
          show own_S p e below T50 (mkF m 97 #[.val (.int p1), .val (.long q2), .second, .val (.long q3), .second, .val (.long q4), .second, .val (.long q5), .second, .val (.int (0 : Int32)), .val (.int (1 : Int32)), .val (.long (q2 &&& (9223372036854775807 : Int64))), .second, .val (.ref b3), .val (.int (1 : Int32))] [(.ref b3)]) _
          refine XS.iload X50.here hx rfl (hb hby at_97) rfl ?_
          show own_S p e below T50 (mkF m 99 #[.val (.int p1), .val (.long q2), .second, .val (.long q3), .second, .val (.long q4), .second, .val (.long q5), .second, .val (.int (0 : Int32)), .val (.int (1 : Int32)), .val (.long (q2 &&& (9223372036854775807 : Int64))), .second, .val (.ref b3), .val (.int (1 : Int32))] [(.int (0 : Int32)), (.ref b3)]) _
          refine XS.lload X50.here hx rfl (hb hby at_99) rfl ?_
          exact kt)
        have f62 := (f33.keep K32 (ninS ne8 nin0))
        have f63 := (f34.keep K32)
        obtain ⟨cq61, kq61, qa61, qb61, qc61⟩ := isOf hZ eq50 f63
        obtain ⟨_, _, ⟨T61, L61, cc61, ss61⟩, -, X61, ⟨Lc61, hQ61, l61, y61, z61⟩, st61⟩ := X50.virtualBack hx (y := (⟨"com/example/pricecollar/pricecollar/engine/ReferencePrices", "hasRoomFor", "(IJ)Z"⟩ : MethodName)) (z := (⟨"com/example/pricecollar/pricecollar/engine/ReferencePrices", "hasRoomFor", "(IJ)Z"⟩ : MethodName)) hown (mvT hZ (hw _ (List.mem_of_getElem? (i := 37) rfl))) (mvT hZ (hw _ (List.mem_of_getElem? (i := 38) rfl))) (notFace_of_selects (args := #[]) (mvT hZ (hw _ (List.mem_of_getElem? (i := 40) rfl)))) (mvT hZ (hw _ (List.mem_of_getElem? (i := 40) rfl))) (mvT hZ (hw _ (List.mem_of_getElem? (i := 39) rfl))) (by decide) (backOf (W := 0) (rm7_0 l Z a0 hw [] b3 (q2 &&& (9223372036854775807 : Int64)) b8 kk8 q4 (1 : Int64) q3 ((0 : Int64) + (1 : Int64)) q4 (1 : Int64) ((0 : Int64) + (30000000 : Int64)) ((0 : Int64) + (300000000 : Int64)) q5 (1 : Int64) (q5 ^^^ (-1 : Int64)) ((0 : Int64) + (1 : Int64)) q5 (1 : Int64) ((0 : Int64) + (30000000 : Int64)) ((0 : Int64) + (300000000 : Int64)) T32.heap n0 Z35 f62 V32) hZ (hw _ (List.mem_of_getElem? (i := 41) rfl)) (hw _ (List.mem_of_getElem? (i := 3) rfl)) (by decide) (by decide)) qa61 qc61 (g := (mkF m 101 #[.val (.int p1), .val (.long q2), .second, .val (.long q3), .second, .val (.long q4), .second, .val (.long q5), .second, .val (.int (0 : Int32)), .val (.int (1 : Int32)), .val (.long (q2 &&& (9223372036854775807 : Int64))), .second, .val (.ref b3), .val (.int (1 : Int32))] [(.long (q2 &&& (9223372036854775807 : Int64))), (.int (0 : Int32)), (.ref b3)])) rfl (by rw [hml]; rfl) (Steps.refl _) (argsL := [(.int (0 : Int32)), (.long (q2 &&& (9223372036854775807 : Int64)))]) (rest := []) (lenOf pd_5 rfl) rfl (by show 2 * 0 + _ ≤ _; exact Nat.le_of_eq rfl) (hb hby at_101) (fun _ _ => ⟨rfl, eq50, (by decide : 2 + 0 ≤ _), (by decide : 17 + 0 ≤ _)⟩)
        dsimp only [Pt.U, Pt.locs, Pt.cells, Pt.slots] at X61 l61 y61 z61 st61 hQ61
        subst l61 y61 z61
        obtain ⟨rfl, Nq61, eq61⟩ := hQ61
        have N61 := Fr.app N50 Nq61
        have k64 : ∀ t, own_S p e below T61 (mkF m 104 #[.val (.int p1), .val (.long q2), .second, .val (.long q3), .second, .val (.long q4), .second, .val (.long q5), .second, .val (.int (0 : Int32)), .val (.int (1 : Int32)), .val (.long (q2 &&& (9223372036854775807 : Int64))), .second, .val (.ref b3), .val (.int (1 : Int32))] [(.int (own_room q3 q4 (q2 &&& (9223372036854775807 : Int64))))]) t → Gl t := fun t kt => k60 t (st61.trans kt)
        have k65 : ∀ t, own_S p e below T61 (mkF m 106 #[.val (.int p1), .val (.long q2), .second, .val (.long q3), .second, .val (.long q4), .second, .val (.long q5), .second, .val (.int (0 : Int32)), .val (.int (1 : Int32)), .val (.long (q2 &&& (9223372036854775807 : Int64))), .second, .val (.ref b3), .val (.int (1 : Int32))] [(.int (1 : Int32)), (.int (own_room q3 q4 (q2 &&& (9223372036854775807 : Int64))))]) t → Gl t := fun t kt => k64 t (by
          show own_S p e below T61 (mkF m 104 #[.val (.int p1), .val (.long q2), .second, .val (.long q3), .second, .val (.long q4), .second, .val (.long q5), .second, .val (.int (0 : Int32)), .val (.int (1 : Int32)), .val (.long (q2 &&& (9223372036854775807 : Int64))), .second, .val (.ref b3), .val (.int (1 : Int32))] [(.int (own_room q3 q4 (q2 &&& (9223372036854775807 : Int64))))]) _
          refine XS.iload X61.here hx rfl (hb hby at_104) rfl ?_
          exact kt)
        have hc106_66 : (own_room q3 q4 (q2 &&& (9223372036854775807 : Int64))) = (1 : Int32) := by rw [own_law _ _ _ (own_pos q2), if_neg hc75, if_neg hc85]
        have k67 : ∀ t, own_S p e below T61 (mkF m 114 #[.val (.int p1), .val (.long q2), .second, .val (.long q3), .second, .val (.long q4), .second, .val (.long q5), .second, .val (.int (0 : Int32)), .val (.int (1 : Int32)), .val (.long (q2 &&& (9223372036854775807 : Int64))), .second, .val (.ref b3), .val (.int (1 : Int32))] [(.int (1 : Int32))]) t → Gl t := fun t kt => k65 t (by
          show own_S p e below T61 (mkF m 106 #[.val (.int p1), .val (.long q2), .second, .val (.long q3), .second, .val (.long q4), .second, .val (.long q5), .second, .val (.int (0 : Int32)), .val (.int (1 : Int32)), .val (.long (q2 &&& (9223372036854775807 : Int64))), .second, .val (.ref b3), .val (.int (1 : Int32))] [(.int (1 : Int32)), (.int (own_room q3 q4 (q2 &&& (9223372036854775807 : Int64))))]) _
          refine XS.icmpNo X61.here hx rfl (hb hby at_106) rfl (teq hc106_66).2 ?_
          show own_S p e below T61 (mkF m 109 #[.val (.int p1), .val (.long q2), .second, .val (.long q3), .second, .val (.long q4), .second, .val (.long q5), .second, .val (.int (0 : Int32)), .val (.int (1 : Int32)), .val (.long (q2 &&& (9223372036854775807 : Int64))), .second, .val (.ref b3), .val (.int (1 : Int32))] []) _
          refine XS.iconst X61.here hx rfl (hb hby at_109) ?_
          show own_S p e below T61 (mkF m 110 #[.val (.int p1), .val (.long q2), .second, .val (.long q3), .second, .val (.long q4), .second, .val (.long q5), .second, .val (.int (0 : Int32)), .val (.int (1 : Int32)), .val (.long (q2 &&& (9223372036854775807 : Int64))), .second, .val (.ref b3), .val (.int (1 : Int32))] [(.int (1 : Int32))]) _
          refine XS.goto X61.here hx rfl (pc0 := 110) (pc' := 114) rfl (hb hby at_110) (by decide) (by decide) ?_
          exact kt)
        obtain ⟨fs, hr, hrun, hended, hW, hsame⟩ := X61.leave (v := some (.int (1 : Int32))) (fun h => by rw [Bd.returns] at h; cases h)
        refine ⟨_, _, hGl _ (k67 _ (retN X61 hx (t := .boolean) Bd.returns (by simp) (hb hby at_114) hr)), hrun, hended, _, _, rfl, ?_, ⟨_, rfl⟩, hW, hsame.mono (by decide) (by decide)⟩
        show Q0 Z p1 q2 q3 q4 q5 h0 n0 _ T61.heap _
        rw [eq61]
        exact ⟨rfl, N61⟩
  · rw [(hk : (p1 &&& (1 : Int32)) = (1 : Int32))] at k1
    have k68 : ∀ t, own_S p e below s₁ (mkF m 18 #[.val (.int p1), .val (.long q2), .second, .val (.long q3), .second, .val (.long q4), .second, .val (.long q5), .second, .val (.int (1 : Int32)), .val (.int (0 : Int32)), .val (.long (q2 &&& (9223372036854775807 : Int64))), .second, .unset, .unset] []) t → Gl t := fun t kt => k1 t (by
      show own_S p e below s₁ (mkF m 3 #[.val (.int p1), .val (.long q2), .second, .val (.long q3), .second, .val (.long q4), .second, .val (.long q5), .second, .unset, .unset, .unset, .unset, .unset, .unset] [(.int (1 : Int32))]) _
      refine XS.istore X0.here hx rfl (hb hby at_3) rfl (l' := #[.val (.int p1), .val (.long q2), .second, .val (.long q3), .second, .val (.long q4), .second, .val (.long q5), .second, .val (.int (1 : Int32)), .unset, .unset, .unset, .unset, .unset]) rfl ?_
      show own_S p e below s₁ (mkF m 5 #[.val (.int p1), .val (.long q2), .second, .val (.long q3), .second, .val (.long q4), .second, .val (.long q5), .second, .val (.int (1 : Int32)), .unset, .unset, .unset, .unset, .unset] []) _
      refine XS.iconst X0.here hx rfl (hb hby at_5) ?_
      show own_S p e below s₁ (mkF m 6 #[.val (.int p1), .val (.long q2), .second, .val (.long q3), .second, .val (.long q4), .second, .val (.long q5), .second, .val (.int (1 : Int32)), .unset, .unset, .unset, .unset, .unset] [(.int (1 : Int32))]) _
      refine XS.iload X0.here hx rfl (hb hby at_6) rfl ?_
      show own_S p e below s₁ (mkF m 8 #[.val (.int p1), .val (.long q2), .second, .val (.long q3), .second, .val (.long q4), .second, .val (.long q5), .second, .val (.int (1 : Int32)), .unset, .unset, .unset, .unset, .unset] [(.int (1 : Int32)), (.int (1 : Int32))]) _
      refine XS.isub X0.here hx rfl (hb hby at_8) rfl ?_
      rw [(by decide : ((1 : Int32) - (1 : Int32)) = (0 : Int32))]
      show own_S p e below s₁ (mkF m 9 #[.val (.int p1), .val (.long q2), .second, .val (.long q3), .second, .val (.long q4), .second, .val (.long q5), .second, .val (.int (1 : Int32)), .unset, .unset, .unset, .unset, .unset] [(.int (0 : Int32))]) _
      refine XS.istore X0.here hx rfl (hb hby at_9) rfl (l' := #[.val (.int p1), .val (.long q2), .second, .val (.long q3), .second, .val (.long q4), .second, .val (.long q5), .second, .val (.int (1 : Int32)), .val (.int (0 : Int32)), .unset, .unset, .unset, .unset]) rfl ?_
      show own_S p e below s₁ (mkF m 11 #[.val (.int p1), .val (.long q2), .second, .val (.long q3), .second, .val (.long q4), .second, .val (.long q5), .second, .val (.int (1 : Int32)), .val (.int (0 : Int32)), .unset, .unset, .unset, .unset] []) _
      refine XS.lloadN X0.here hx rfl (hb hby at_11) rfl ?_
      show own_S p e below s₁ (mkF m 12 #[.val (.int p1), .val (.long q2), .second, .val (.long q3), .second, .val (.long q4), .second, .val (.long q5), .second, .val (.int (1 : Int32)), .val (.int (0 : Int32)), .unset, .unset, .unset, .unset] [(.long q2)]) _
      refine X0.ldc2Long hx hown (mvT hZ (hw _ (List.mem_of_getElem? (i := 0) rfl))) (g := (mkF m 12 #[.val (.int p1), .val (.long q2), .second, .val (.long q3), .second, .val (.long q4), .second, .val (.long q5), .second, .val (.int (1 : Int32)), .val (.int (0 : Int32)), .unset, .unset, .unset, .unset] [(.long q2)])) rfl (hb hby at_12) _ ?_
      show own_S p e below s₁ (mkF m 15 #[.val (.int p1), .val (.long q2), .second, .val (.long q3), .second, .val (.long q4), .second, .val (.long q5), .second, .val (.int (1 : Int32)), .val (.int (0 : Int32)), .unset, .unset, .unset, .unset] [(.long (9223372036854775807 : Int64)), (.long q2)]) _
      refine XS.land X0.here hx rfl (hb hby at_15) rfl ?_
      show own_S p e below s₁ (mkF m 16 #[.val (.int p1), .val (.long q2), .second, .val (.long q3), .second, .val (.long q4), .second, .val (.long q5), .second, .val (.int (1 : Int32)), .val (.int (0 : Int32)), .unset, .unset, .unset, .unset] [(.long (q2 &&& (9223372036854775807 : Int64)))]) _
      refine XS.lstore X0.here hx rfl (hb hby at_16) rfl (l' := #[.val (.int p1), .val (.long q2), .second, .val (.long q3), .second, .val (.long q4), .second, .val (.long q5), .second, .val (.int (1 : Int32)), .val (.int (0 : Int32)), .val (.long (q2 &&& (9223372036854775807 : Int64))), .second, .unset, .unset]) rfl ?_
      exact kt)
    obtain ⟨T69, h69, X69, e69, E69, A69, D69, -, st69⟩ := newO X0 hx hZ hown (hw _ (List.mem_of_getElem? (i := 1) rfl)) (hw _ (List.mem_of_getElem? (i := 2) rfl)) (hw _ (List.mem_of_getElem? (i := 3) rfl)) e0 (g := (mkF m 18 #[.val (.int p1), .val (.long q2), .second, .val (.long q3), .second, .val (.long q4), .second, .val (.long q5), .second, .val (.int (1 : Int32)), .val (.int (0 : Int32)), .val (.long (q2 &&& (9223372036854775807 : Int64))), .second, .unset, .unset] [])) rfl (hb hby at_18) (by decide) (by decide)
    obtain ⟨b69, g69⟩ : ∃ z, z = h0.size := ⟨_, rfl⟩
    rw [← g69] at A69 D69 st69
    have g_b69 : n0 ≤ b69 := Nat.le_trans Z0 (Nat.le_of_eq g69.symm)
    have Z70 : n0 ≤ h69.size := Nat.le_trans Z0 E69.1
    have O71 : Old Z n0 h69 := O0.ext E69
    have F69_12 : Fld Z h69 b69 "com/example/pricecollar/pricecollar/engine/ReferencePrices" "numbers" "[J" .null := D69 (Or.inr (hw _ (List.mem_of_getElem? (i := 12) rfl))) (ty := (.array .long)) (by decide)
    have k72 : ∀ t, own_S p e below T69 (mkF m 21 #[.val (.int p1), .val (.long q2), .second, .val (.long q3), .second, .val (.long q4), .second, .val (.long q5), .second, .val (.int (1 : Int32)), .val (.int (0 : Int32)), .val (.long (q2 &&& (9223372036854775807 : Int64))), .second, .unset, .unset] [(.ref b69)]) t → Gl t := fun t kt => k68 t (st69 _ kt)
    have k73 : ∀ t, own_S p e below T69 (mkF m 23 #[.val (.int p1), .val (.long q2), .second, .val (.long q3), .second, .val (.long q4), .second, .val (.long q5), .second, .val (.int (1 : Int32)), .val (.int (0 : Int32)), .val (.long (q2 &&& (9223372036854775807 : Int64))), .second, .unset, .unset] [(.int (2 : Int32)), (.ref b69), (.ref b69)]) t → Gl t := fun t kt => k72 t (by
      show own_S p e below T69 (mkF m 21 #[.val (.int p1), .val (.long q2), .second, .val (.long q3), .second, .val (.long q4), .second, .val (.long q5), .second, .val (.int (1 : Int32)), .val (.int (0 : Int32)), .val (.long (q2 &&& (9223372036854775807 : Int64))), .second, .unset, .unset] [(.ref b69)]) _
      refine XS.dup X69.here hx rfl (hb hby at_21) rfl rfl ?_
      show own_S p e below T69 (mkF m 22 #[.val (.int p1), .val (.long q2), .second, .val (.long q3), .second, .val (.long q4), .second, .val (.long q5), .second, .val (.int (1 : Int32)), .val (.int (0 : Int32)), .val (.long (q2 &&& (9223372036854775807 : Int64))), .second, .unset, .unset] [(.ref b69), (.ref b69)]) _
      refine XS.iconst X69.here hx rfl (hb hby at_22) ?_
      exact kt)
    obtain ⟨_, _, ⟨T74, L74, cc74, ss74⟩, -, X74, ⟨Lc74, hQ74, l74, y74, z74⟩, st74⟩ := X69.specialBack hx (y := (⟨"com/example/pricecollar/pricecollar/engine/ReferencePrices", "<init>", "(I)V"⟩ : MethodName)) rfl hown (mvT hZ (hw _ (List.mem_of_getElem? (i := 4) rfl))) (mvT hZ (hw _ (List.mem_of_getElem? (i := 5) rfl))) (mvT hZ (hw _ (List.mem_of_getElem? (i := 6) rfl))) (by decide) (backOf (W := 1) (rm1 l Z a0 hw [] b69  h69 n0 Z70 F69_12 A69 g_b69) hZ (hw _ (List.mem_of_getElem? (i := 6) rfl)) (hw _ (List.mem_of_getElem? (i := 3) rfl)) (by decide) (by decide)) (g := (mkF m 23 #[.val (.int p1), .val (.long q2), .second, .val (.long q3), .second, .val (.long q4), .second, .val (.long q5), .second, .val (.int (1 : Int32)), .val (.int (0 : Int32)), .val (.long (q2 &&& (9223372036854775807 : Int64))), .second, .unset, .unset] [(.int (2 : Int32)), (.ref b69), (.ref b69)])) rfl (by rw [hml]; rfl) (Steps.refl _) (a := b69) (argsL := [(.int (2 : Int32))]) (rest := [(.ref b69)]) (lenOf pd_1 rfl) rfl (by show 2 * 0 + _ ≤ _; exact Nat.le_of_eq rfl) (hb hby at_23) (fun _ _ => ⟨rfl, e69, (by decide : 1 + 1 ≤ _), (by decide : 1 + 16 ≤ _)⟩)
    dsimp only [Pt.U, Pt.locs, Pt.cells, Pt.slots] at X74 l74 y74 z74 st74 hQ74
    subst l74 y74 z74
    obtain ⟨rfl, Nq74, b74, kk74, g_b74, ne74, K74, Ex74, Fl74, V74⟩ := hQ74
    have N74 := Fr.app N0 Nq74
    have Z75 : n0 ≤ T74.heap.size := Nat.le_trans Z70 K74.1
    have O76 : Old Z n0 T74.heap := O71.keep K74 (allS g_b69 all0)
    have k77 : ∀ t, own_S p e below T74 (mkF m 26 #[.val (.int p1), .val (.long q2), .second, .val (.long q3), .second, .val (.long q4), .second, .val (.long q5), .second, .val (.int (1 : Int32)), .val (.int (0 : Int32)), .val (.long (q2 &&& (9223372036854775807 : Int64))), .second, .unset, .unset] [(.ref b69)]) t → Gl t := fun t kt => k73 t (st74.trans kt)
    have k78 : ∀ t, own_S p e below T74 (mkF m 35 #[.val (.int p1), .val (.long q2), .second, .val (.long q3), .second, .val (.long q4), .second, .val (.long q5), .second, .val (.int (1 : Int32)), .val (.int (0 : Int32)), .val (.long (q2 &&& (9223372036854775807 : Int64))), .second, .val (.ref b69), .unset] [(.long (0 : Int64)), (.long q4), (.int (1 : Int32)), (.ref b69)]) t → Gl t := fun t kt => k77 t (by
      show own_S p e below T74 (mkF m 26 #[.val (.int p1), .val (.long q2), .second, .val (.long q3), .second, .val (.long q4), .second, .val (.long q5), .second, .val (.int (1 : Int32)), .val (.int (0 : Int32)), .val (.long (q2 &&& (9223372036854775807 : Int64))), .second, .unset, .unset] [(.ref b69)]) _
      refine XS.astore X74.here hx rfl (hb hby at_26) rfl rfl (l' := #[.val (.int p1), .val (.long q2), .second, .val (.long q3), .second, .val (.long q4), .second, .val (.long q5), .second, .val (.int (1 : Int32)), .val (.int (0 : Int32)), .val (.long (q2 &&& (9223372036854775807 : Int64))), .second, .val (.ref b69), .unset]) rfl ?_
      show own_S p e below T74 (mkF m 28 #[.val (.int p1), .val (.long q2), .second, .val (.long q3), .second, .val (.long q4), .second, .val (.long q5), .second, .val (.int (1 : Int32)), .val (.int (0 : Int32)), .val (.long (q2 &&& (9223372036854775807 : Int64))), .second, .val (.ref b69), .unset] []) _
      refine XS.aload X74.here hx rfl (hb hby at_28) rfl rfl ?_
      show own_S p e below T74 (mkF m 30 #[.val (.int p1), .val (.long q2), .second, .val (.long q3), .second, .val (.long q4), .second, .val (.long q5), .second, .val (.int (1 : Int32)), .val (.int (0 : Int32)), .val (.long (q2 &&& (9223372036854775807 : Int64))), .second, .val (.ref b69), .unset] [(.ref b69)]) _
      refine XS.iload X74.here hx rfl (hb hby at_30) rfl ?_
      show own_S p e below T74 (mkF m 32 #[.val (.int p1), .val (.long q2), .second, .val (.long q3), .second, .val (.long q4), .second, .val (.long q5), .second, .val (.int (1 : Int32)), .val (.int (0 : Int32)), .val (.long (q2 &&& (9223372036854775807 : Int64))), .second, .val (.ref b69), .unset] [(.int (1 : Int32)), (.ref b69)]) _
      refine XS.lload X74.here hx rfl (hb hby at_32) rfl ?_
      show own_S p e below T74 (mkF m 34 #[.val (.int p1), .val (.long q2), .second, .val (.long q3), .second, .val (.long q4), .second, .val (.long q5), .second, .val (.int (1 : Int32)), .val (.int (0 : Int32)), .val (.long (q2 &&& (9223372036854775807 : Int64))), .second, .val (.ref b69), .unset] [(.long q4), (.int (1 : Int32)), (.ref b69)]) _
      refine XS.lconst X74.here hx rfl (hb hby at_34) ?_
      exact kt)
    obtain ⟨cq79, kq79, qa79, qb79, qc79⟩ := isOf hZ rfl Ex74
    obtain ⟨_, _, ⟨T79, L79, cc79, ss79⟩, -, X79, ⟨Lc79, hQ79, l79, y79, z79⟩, st79⟩ := X74.virtualBack hx (y := (⟨"com/example/pricecollar/pricecollar/engine/ReferencePrices", "open", "(IJJ)V"⟩ : MethodName)) (z := (⟨"com/example/pricecollar/pricecollar/engine/ReferencePrices", "open", "(IJJ)V"⟩ : MethodName)) hown (mvT hZ (hw _ (List.mem_of_getElem? (i := 13) rfl))) (mvT hZ (hw _ (List.mem_of_getElem? (i := 14) rfl))) (notFace_of_selects (args := #[]) (mvT hZ (hw _ (List.mem_of_getElem? (i := 16) rfl)))) (mvT hZ (hw _ (List.mem_of_getElem? (i := 16) rfl))) (mvT hZ (hw _ (List.mem_of_getElem? (i := 15) rfl))) (by decide) (backOf (W := 0) (rm3_1 l Z a0 hw [] b69 q4 (0 : Int64) b74 kk74 (0 : Int64) (0 : Int64) (0 : Int64) (0 : Int64) (0 : Int64) (0 : Int64) (0 : Int64) (0 : Int64) (0 : Int64) (0 : Int64) (0 : Int64) (0 : Int64) (0 : Int64) (0 : Int64) (0 : Int64) (0 : Int64) T74.heap n0 Z75 Fl74 V74 g_b74 ne74 O76 S1 S2) hZ (hw _ (List.mem_of_getElem? (i := 17) rfl)) (hw _ (List.mem_of_getElem? (i := 3) rfl)) (by decide) (by decide)) qa79 qc79 (g := (mkF m 35 #[.val (.int p1), .val (.long q2), .second, .val (.long q3), .second, .val (.long q4), .second, .val (.long q5), .second, .val (.int (1 : Int32)), .val (.int (0 : Int32)), .val (.long (q2 &&& (9223372036854775807 : Int64))), .second, .val (.ref b69), .unset] [(.long (0 : Int64)), (.long q4), (.int (1 : Int32)), (.ref b69)])) rfl (by rw [hml]; rfl) (Steps.refl _) (argsL := [(.int (1 : Int32)), (.long q4), (.long (0 : Int64))]) (rest := []) (lenOf pd_2 rfl) rfl (by show 2 * 0 + _ ≤ _; exact Nat.le_of_eq rfl) (hb hby at_35) (fun _ _ => ⟨rfl, rfl, (by decide : 2 + 0 ≤ _), (by decide : 17 + 0 ≤ _)⟩)
    dsimp only [Pt.U, Pt.locs, Pt.cells, Pt.slots] at X79 l79 y79 z79 st79 hQ79
    subst l79 y79 z79
    obtain ⟨rfl, Nq79, K79, V79⟩ := hQ79
    have N79 := Fr.app N74 Nq79
    have Z80 : n0 ≤ T79.heap.size := Nat.le_trans Z75 K79.1
    have O81 : Old Z n0 T79.heap := O76.keep K79 (allS g_b74 all0)
    have k82 : ∀ t, own_S p e below T79 (mkF m 38 #[.val (.int p1), .val (.long q2), .second, .val (.long q3), .second, .val (.long q4), .second, .val (.long q5), .second, .val (.int (1 : Int32)), .val (.int (0 : Int32)), .val (.long (q2 &&& (9223372036854775807 : Int64))), .second, .val (.ref b69), .unset] []) t → Gl t := fun t kt => k78 t (st79.trans kt)
    have k83 : ∀ t, own_S p e below T79 (mkF m 43 #[.val (.int p1), .val (.long q2), .second, .val (.long q3), .second, .val (.long q4), .second, .val (.long q5), .second, .val (.int (1 : Int32)), .val (.int (0 : Int32)), .val (.long (q2 &&& (9223372036854775807 : Int64))), .second, .val (.ref b69), .unset] [(.long q3), (.int (1 : Int32)), (.ref b69)]) t → Gl t := fun t kt => k82 t (by
      show own_S p e below T79 (mkF m 38 #[.val (.int p1), .val (.long q2), .second, .val (.long q3), .second, .val (.long q4), .second, .val (.long q5), .second, .val (.int (1 : Int32)), .val (.int (0 : Int32)), .val (.long (q2 &&& (9223372036854775807 : Int64))), .second, .val (.ref b69), .unset] []) _
      refine XS.aload X79.here hx rfl (hb hby at_38) rfl rfl ?_
      show own_S p e below T79 (mkF m 40 #[.val (.int p1), .val (.long q2), .second, .val (.long q3), .second, .val (.long q4), .second, .val (.long q5), .second, .val (.int (1 : Int32)), .val (.int (0 : Int32)), .val (.long (q2 &&& (9223372036854775807 : Int64))), .second, .val (.ref b69), .unset] [(.ref b69)]) _
      refine XS.iload X79.here hx rfl (hb hby at_40) rfl ?_
      show own_S p e below T79 (mkF m 42 #[.val (.int p1), .val (.long q2), .second, .val (.long q3), .second, .val (.long q4), .second, .val (.long q5), .second, .val (.int (1 : Int32)), .val (.int (0 : Int32)), .val (.long (q2 &&& (9223372036854775807 : Int64))), .second, .val (.ref b69), .unset] [(.int (1 : Int32)), (.ref b69)]) _
      refine XS.lloadN X79.here hx rfl (hb hby at_42) rfl ?_
      exact kt)
    have f85 := (Fl74.keep K79 (ninS ne74 nin0))
    have f86 := (Ex74.keep K79)
    obtain ⟨cq84, kq84, qa84, qb84, qc84⟩ := isOf hZ rfl f86
    obtain ⟨_, _, ⟨T84, L84, cc84, ss84⟩, -, X84, ⟨Lc84, hQ84, l84, y84, z84⟩, st84⟩ := X79.virtualBack hx (y := (⟨"com/example/pricecollar/pricecollar/engine/ReferencePrices", "enterReopeningPrint", "(IJ)V"⟩ : MethodName)) (z := (⟨"com/example/pricecollar/pricecollar/engine/ReferencePrices", "enterReopeningPrint", "(IJ)V"⟩ : MethodName)) hown (mvT hZ (hw _ (List.mem_of_getElem? (i := 23) rfl))) (mvT hZ (hw _ (List.mem_of_getElem? (i := 24) rfl))) (notFace_of_selects (args := #[]) (mvT hZ (hw _ (List.mem_of_getElem? (i := 26) rfl)))) (mvT hZ (hw _ (List.mem_of_getElem? (i := 26) rfl))) (mvT hZ (hw _ (List.mem_of_getElem? (i := 25) rfl))) (by decide) (backOf (W := 0) (rm4_1 l Z a0 hw [] b69 q3 b74 kk74 (0 : Int64) (0 : Int64) (0 : Int64) (0 : Int64) (0 : Int64) (0 : Int64) (0 : Int64) (0 : Int64) q4 (1 : Int64) (0 : Int64) q4 (1 : Int64) ((0 : Int64) + (30000000 : Int64)) ((0 : Int64) + (300000000 : Int64)) T79.heap n0 Z80 f85 V79 g_b74 ne74) hZ (hw _ (List.mem_of_getElem? (i := 27) rfl)) (hw _ (List.mem_of_getElem? (i := 3) rfl)) (by decide) (by decide)) qa84 qc84 (g := (mkF m 43 #[.val (.int p1), .val (.long q2), .second, .val (.long q3), .second, .val (.long q4), .second, .val (.long q5), .second, .val (.int (1 : Int32)), .val (.int (0 : Int32)), .val (.long (q2 &&& (9223372036854775807 : Int64))), .second, .val (.ref b69), .unset] [(.long q3), (.int (1 : Int32)), (.ref b69)])) rfl (by rw [hml]; rfl) (Steps.refl _) (argsL := [(.int (1 : Int32)), (.long q3)]) (rest := []) (lenOf pd_3 rfl) rfl (by show 2 * 0 + _ ≤ _; exact Nat.le_of_eq rfl) (hb hby at_43) (fun _ _ => ⟨rfl, rfl, (by decide : 2 + 0 ≤ _), (by decide : 17 + 0 ≤ _)⟩)
    dsimp only [Pt.U, Pt.locs, Pt.cells, Pt.slots] at X84 l84 y84 z84 st84 hQ84
    subst l84 y84 z84
    obtain ⟨rfl, Nq84, K84, V84⟩ := hQ84
    have N84 := Fr.app N79 Nq84
    have Z87 : n0 ≤ T84.heap.size := Nat.le_trans Z80 K84.1
    have O88 : Old Z n0 T84.heap := O81.keep K84 (allS g_b74 all0)
    have k89 : ∀ t, own_S p e below T84 (mkF m 46 #[.val (.int p1), .val (.long q2), .second, .val (.long q3), .second, .val (.long q4), .second, .val (.long q5), .second, .val (.int (1 : Int32)), .val (.int (0 : Int32)), .val (.long (q2 &&& (9223372036854775807 : Int64))), .second, .val (.ref b69), .unset] []) t → Gl t := fun t kt => k83 t (st84.trans kt)
    have k90 : ∀ t, own_S p e below T84 (mkF m 53 #[.val (.int p1), .val (.long q2), .second, .val (.long q3), .second, .val (.long q4), .second, .val (.long q5), .second, .val (.int (1 : Int32)), .val (.int (0 : Int32)), .val (.long (q2 &&& (9223372036854775807 : Int64))), .second, .val (.ref b69), .unset] [(.long (0 : Int64)), (.long q5), (.int (0 : Int32)), (.ref b69)]) t → Gl t := fun t kt => k89 t (by
      show own_S p e below T84 (mkF m 46 #[.val (.int p1), .val (.long q2), .second, .val (.long q3), .second, .val (.long q4), .second, .val (.long q5), .second, .val (.int (1 : Int32)), .val (.int (0 : Int32)), .val (.long (q2 &&& (9223372036854775807 : Int64))), .second, .val (.ref b69), .unset] []) _
      refine XS.aload X84.here hx rfl (hb hby at_46) rfl rfl ?_
      show own_S p e below T84 (mkF m 48 #[.val (.int p1), .val (.long q2), .second, .val (.long q3), .second, .val (.long q4), .second, .val (.long q5), .second, .val (.int (1 : Int32)), .val (.int (0 : Int32)), .val (.long (q2 &&& (9223372036854775807 : Int64))), .second, .val (.ref b69), .unset] [(.ref b69)]) _
      refine XS.iload X84.here hx rfl (hb hby at_48) rfl ?_
      show own_S p e below T84 (mkF m 50 #[.val (.int p1), .val (.long q2), .second, .val (.long q3), .second, .val (.long q4), .second, .val (.long q5), .second, .val (.int (1 : Int32)), .val (.int (0 : Int32)), .val (.long (q2 &&& (9223372036854775807 : Int64))), .second, .val (.ref b69), .unset] [(.int (0 : Int32)), (.ref b69)]) _
      refine XS.lload X84.here hx rfl (hb hby at_50) rfl ?_
      show own_S p e below T84 (mkF m 52 #[.val (.int p1), .val (.long q2), .second, .val (.long q3), .second, .val (.long q4), .second, .val (.long q5), .second, .val (.int (1 : Int32)), .val (.int (0 : Int32)), .val (.long (q2 &&& (9223372036854775807 : Int64))), .second, .val (.ref b69), .unset] [(.long q5), (.int (0 : Int32)), (.ref b69)]) _
      refine XS.lconst X84.here hx rfl (hb hby at_52) ?_
      exact kt)
    have f92 := (f85.keep K84 (ninS ne74 nin0))
    have f93 := (f86.keep K84)
    obtain ⟨cq91, kq91, qa91, qb91, qc91⟩ := isOf hZ rfl f93
    obtain ⟨_, _, ⟨T91, L91, cc91, ss91⟩, -, X91, ⟨Lc91, hQ91, l91, y91, z91⟩, st91⟩ := X84.virtualBack hx (y := (⟨"com/example/pricecollar/pricecollar/engine/ReferencePrices", "open", "(IJJ)V"⟩ : MethodName)) (z := (⟨"com/example/pricecollar/pricecollar/engine/ReferencePrices", "open", "(IJJ)V"⟩ : MethodName)) hown (mvT hZ (hw _ (List.mem_of_getElem? (i := 13) rfl))) (mvT hZ (hw _ (List.mem_of_getElem? (i := 14) rfl))) (notFace_of_selects (args := #[]) (mvT hZ (hw _ (List.mem_of_getElem? (i := 16) rfl)))) (mvT hZ (hw _ (List.mem_of_getElem? (i := 16) rfl))) (mvT hZ (hw _ (List.mem_of_getElem? (i := 15) rfl))) (by decide) (backOf (W := 0) (rm3_0 l Z a0 hw [] b69 q5 (0 : Int64) b74 kk74 (0 : Int64) (0 : Int64) (0 : Int64) (0 : Int64) (0 : Int64) (0 : Int64) (0 : Int64) (0 : Int64) q4 (1 : Int64) q3 ((0 : Int64) + (1 : Int64)) q4 (1 : Int64) ((0 : Int64) + (30000000 : Int64)) ((0 : Int64) + (300000000 : Int64)) T84.heap n0 Z87 f92 V84 g_b74 ne74 O88 S1 S2) hZ (hw _ (List.mem_of_getElem? (i := 17) rfl)) (hw _ (List.mem_of_getElem? (i := 3) rfl)) (by decide) (by decide)) qa91 qc91 (g := (mkF m 53 #[.val (.int p1), .val (.long q2), .second, .val (.long q3), .second, .val (.long q4), .second, .val (.long q5), .second, .val (.int (1 : Int32)), .val (.int (0 : Int32)), .val (.long (q2 &&& (9223372036854775807 : Int64))), .second, .val (.ref b69), .unset] [(.long (0 : Int64)), (.long q5), (.int (0 : Int32)), (.ref b69)])) rfl (by rw [hml]; rfl) (Steps.refl _) (argsL := [(.int (0 : Int32)), (.long q5), (.long (0 : Int64))]) (rest := []) (lenOf pd_2 rfl) rfl (by show 2 * 0 + _ ≤ _; exact Nat.le_of_eq rfl) (hb hby at_53) (fun _ _ => ⟨rfl, rfl, (by decide : 2 + 0 ≤ _), (by decide : 17 + 0 ≤ _)⟩)
    dsimp only [Pt.U, Pt.locs, Pt.cells, Pt.slots] at X91 l91 y91 z91 st91 hQ91
    subst l91 y91 z91
    obtain ⟨rfl, Nq91, K91, V91⟩ := hQ91
    have N91 := Fr.app N84 Nq91
    have Z94 : n0 ≤ T91.heap.size := Nat.le_trans Z87 K91.1
    have O95 : Old Z n0 T91.heap := O88.keep K91 (allS g_b74 all0)
    have k96 : ∀ t, own_S p e below T91 (mkF m 56 #[.val (.int p1), .val (.long q2), .second, .val (.long q3), .second, .val (.long q4), .second, .val (.long q5), .second, .val (.int (1 : Int32)), .val (.int (0 : Int32)), .val (.long (q2 &&& (9223372036854775807 : Int64))), .second, .val (.ref b69), .unset] []) t → Gl t := fun t kt => k90 t (st91.trans kt)
    have k97 : ∀ t, own_S p e below T91 (mkF m 66 #[.val (.int p1), .val (.long q2), .second, .val (.long q3), .second, .val (.long q4), .second, .val (.long q5), .second, .val (.int (1 : Int32)), .val (.int (0 : Int32)), .val (.long (q2 &&& (9223372036854775807 : Int64))), .second, .val (.ref b69), .unset] [(.long (q5 ^^^ (-1 : Int64))), (.int (0 : Int32)), (.ref b69)]) t → Gl t := fun t kt => k96 t (by
      show own_S p e below T91 (mkF m 56 #[.val (.int p1), .val (.long q2), .second, .val (.long q3), .second, .val (.long q4), .second, .val (.long q5), .second, .val (.int (1 : Int32)), .val (.int (0 : Int32)), .val (.long (q2 &&& (9223372036854775807 : Int64))), .second, .val (.ref b69), .unset] []) _
      refine XS.aload X91.here hx rfl (hb hby at_56) rfl rfl ?_
      show own_S p e below T91 (mkF m 58 #[.val (.int p1), .val (.long q2), .second, .val (.long q3), .second, .val (.long q4), .second, .val (.long q5), .second, .val (.int (1 : Int32)), .val (.int (0 : Int32)), .val (.long (q2 &&& (9223372036854775807 : Int64))), .second, .val (.ref b69), .unset] [(.ref b69)]) _
      refine XS.iload X91.here hx rfl (hb hby at_58) rfl ?_
      show own_S p e below T91 (mkF m 60 #[.val (.int p1), .val (.long q2), .second, .val (.long q3), .second, .val (.long q4), .second, .val (.long q5), .second, .val (.int (1 : Int32)), .val (.int (0 : Int32)), .val (.long (q2 &&& (9223372036854775807 : Int64))), .second, .val (.ref b69), .unset] [(.int (0 : Int32)), (.ref b69)]) _
      refine XS.lload X91.here hx rfl (hb hby at_60) rfl ?_
      show own_S p e below T91 (mkF m 62 #[.val (.int p1), .val (.long q2), .second, .val (.long q3), .second, .val (.long q4), .second, .val (.long q5), .second, .val (.int (1 : Int32)), .val (.int (0 : Int32)), .val (.long (q2 &&& (9223372036854775807 : Int64))), .second, .val (.ref b69), .unset] [(.long q5), (.int (0 : Int32)), (.ref b69)]) _
      refine X91.ldc2Long hx hown (mvT hZ (hw _ (List.mem_of_getElem? (i := 32) rfl))) (g := (mkF m 62 #[.val (.int p1), .val (.long q2), .second, .val (.long q3), .second, .val (.long q4), .second, .val (.long q5), .second, .val (.int (1 : Int32)), .val (.int (0 : Int32)), .val (.long (q2 &&& (9223372036854775807 : Int64))), .second, .val (.ref b69), .unset] [(.long q5), (.int (0 : Int32)), (.ref b69)])) rfl (hb hby at_62) _ ?_
      show own_S p e below T91 (mkF m 65 #[.val (.int p1), .val (.long q2), .second, .val (.long q3), .second, .val (.long q4), .second, .val (.long q5), .second, .val (.int (1 : Int32)), .val (.int (0 : Int32)), .val (.long (q2 &&& (9223372036854775807 : Int64))), .second, .val (.ref b69), .unset] [(.long (-1 : Int64)), (.long q5), (.int (0 : Int32)), (.ref b69)]) _
      refine XS.lxor X91.here hx rfl (hb hby at_65) rfl ?_
      exact kt)
    have f99 := (f92.keep K91 (ninS ne74 nin0))
    have f100 := (f93.keep K91)
    obtain ⟨cq98, kq98, qa98, qb98, qc98⟩ := isOf hZ rfl f100
    obtain ⟨_, _, ⟨T98, L98, cc98, ss98⟩, -, X98, ⟨Lc98, hQ98, l98, y98, z98⟩, st98⟩ := X91.virtualBack hx (y := (⟨"com/example/pricecollar/pricecollar/engine/ReferencePrices", "enterReopeningPrint", "(IJ)V"⟩ : MethodName)) (z := (⟨"com/example/pricecollar/pricecollar/engine/ReferencePrices", "enterReopeningPrint", "(IJ)V"⟩ : MethodName)) hown (mvT hZ (hw _ (List.mem_of_getElem? (i := 23) rfl))) (mvT hZ (hw _ (List.mem_of_getElem? (i := 24) rfl))) (notFace_of_selects (args := #[]) (mvT hZ (hw _ (List.mem_of_getElem? (i := 26) rfl)))) (mvT hZ (hw _ (List.mem_of_getElem? (i := 26) rfl))) (mvT hZ (hw _ (List.mem_of_getElem? (i := 25) rfl))) (by decide) (backOf (W := 0) (rm4_0 l Z a0 hw [] b69 (q5 ^^^ (-1 : Int64)) b74 kk74 q5 (1 : Int64) (0 : Int64) q5 (1 : Int64) ((0 : Int64) + (30000000 : Int64)) ((0 : Int64) + (300000000 : Int64)) q4 (1 : Int64) q3 ((0 : Int64) + (1 : Int64)) q4 (1 : Int64) ((0 : Int64) + (30000000 : Int64)) ((0 : Int64) + (300000000 : Int64)) T91.heap n0 Z94 f99 V91 g_b74 ne74) hZ (hw _ (List.mem_of_getElem? (i := 27) rfl)) (hw _ (List.mem_of_getElem? (i := 3) rfl)) (by decide) (by decide)) qa98 qc98 (g := (mkF m 66 #[.val (.int p1), .val (.long q2), .second, .val (.long q3), .second, .val (.long q4), .second, .val (.long q5), .second, .val (.int (1 : Int32)), .val (.int (0 : Int32)), .val (.long (q2 &&& (9223372036854775807 : Int64))), .second, .val (.ref b69), .unset] [(.long (q5 ^^^ (-1 : Int64))), (.int (0 : Int32)), (.ref b69)])) rfl (by rw [hml]; rfl) (Steps.refl _) (argsL := [(.int (0 : Int32)), (.long (q5 ^^^ (-1 : Int64)))]) (rest := []) (lenOf pd_3 rfl) rfl (by show 2 * 0 + _ ≤ _; exact Nat.le_of_eq rfl) (hb hby at_66) (fun _ _ => ⟨rfl, rfl, (by decide : 2 + 0 ≤ _), (by decide : 17 + 0 ≤ _)⟩)
    dsimp only [Pt.U, Pt.locs, Pt.cells, Pt.slots] at X98 l98 y98 z98 st98 hQ98
    subst l98 y98 z98
    obtain ⟨rfl, Nq98, K98, V98⟩ := hQ98
    have N98 := Fr.app N91 Nq98
    have Z101 : n0 ≤ T98.heap.size := Nat.le_trans Z94 K98.1
    have O102 : Old Z n0 T98.heap := O95.keep K98 (allS g_b74 all0)
    have k103 : ∀ t, own_S p e below T98 (mkF m 69 #[.val (.int p1), .val (.long q2), .second, .val (.long q3), .second, .val (.long q4), .second, .val (.long q5), .second, .val (.int (1 : Int32)), .val (.int (0 : Int32)), .val (.long (q2 &&& (9223372036854775807 : Int64))), .second, .val (.ref b69), .unset] []) t → Gl t := fun t kt => k97 t (st98.trans kt)
    have k104 : ∀ t, own_S p e below T98 (mkF m 72 #[.val (.int p1), .val (.long q2), .second, .val (.long q3), .second, .val (.long q4), .second, .val (.long q5), .second, .val (.int (1 : Int32)), .val (.int (0 : Int32)), .val (.long (q2 &&& (9223372036854775807 : Int64))), .second, .val (.ref b69), .unset] [(.long (q2 &&& (9223372036854775807 : Int64))), (.long q3)]) t → Gl t := fun t kt => k103 t (by
      show own_S p e below T98 (mkF m 69 #[.val (.int p1), .val (.long q2), .second, .val (.long q3), .second, .val (.long q4), .second, .val (.long q5), .second, .val (.int (1 : Int32)), .val (.int (0 : Int32)), .val (.long (q2 &&& (9223372036854775807 : Int64))), .second, .val (.ref b69), .unset] []) _
      refine XS.lloadN X98.here hx rfl (hb hby at_69) rfl ?_
      show own_S p e below T98 (mkF m 70 #[.val (.int p1), .val (.long q2), .second, .val (.long q3), .second, .val (.long q4), .second, .val (.long q5), .second, .val (.int (1 : Int32)), .val (.int (0 : Int32)), .val (.long (q2 &&& (9223372036854775807 : Int64))), .second, .val (.ref b69), .unset] [(.long q3)]) _
      refine XS.lload X98.here hx rfl (hb hby at_70) rfl ?_
      exact kt)
    obtain ⟨_, _, ⟨T105, L105, cc105, ss105⟩, -, X105, ⟨Lc105, hQ105, l105, y105, z105⟩, st105⟩ := Jvm.LawKit.callS X98 hx (y := (⟨"com/example/pricecollar/pricecollar/engine/ReferencePricesHasRoomForPinLaw", "fits", "(JJ)Z"⟩ : MethodName)) hown (mvT hZ (hw _ (List.mem_of_getElem? (i := 33) rfl))) (mvT hZ (hw _ (List.mem_of_getElem? (i := 34) rfl))) (mvT hZ (hw _ (List.mem_of_getElem? (i := 35) rfl))) (mvT hZ (hw _ (List.mem_of_getElem? (i := 36) rfl))) (by decide) (backOf (W := 0) (rm6 l Z a0 hw [] q3 (q2 &&& (9223372036854775807 : Int64))  T98.heap n0 Z101 ) hZ (hw _ (List.mem_of_getElem? (i := 36) rfl)) (hw _ (List.mem_of_getElem? (i := 35) rfl)) (by decide) (by decide)) (g := (mkF m 72 #[.val (.int p1), .val (.long q2), .second, .val (.long q3), .second, .val (.long q4), .second, .val (.long q5), .second, .val (.int (1 : Int32)), .val (.int (0 : Int32)), .val (.long (q2 &&& (9223372036854775807 : Int64))), .second, .val (.ref b69), .unset] [(.long (q2 &&& (9223372036854775807 : Int64))), (.long q3)])) rfl (by rw [hml]; rfl) (argsL := [(.long q3), (.long (q2 &&& (9223372036854775807 : Int64)))]) (rest := []) (lenOf pd_4 rfl) rfl (by show 2 * 0 + _ ≤ _; exact Nat.le_of_eq rfl) (hb hby at_72) (fun _ _ => ⟨rfl, rfl, (by decide : 2 + 0 ≤ _), (by decide : 17 + 0 ≤ _)⟩)
    dsimp only [Pt.U, Pt.locs, Pt.cells, Pt.slots] at X105 l105 y105 z105 st105 hQ105
    subst l105 y105 z105
    obtain ⟨rfl, Nq105, eq105⟩ := hQ105
    have N105 := Fr.app N98 Nq105
    have k106 : ∀ t, own_S p e below T105 (mkF m 75 #[.val (.int p1), .val (.long q2), .second, .val (.long q3), .second, .val (.long q4), .second, .val (.long q5), .second, .val (.int (1 : Int32)), .val (.int (0 : Int32)), .val (.long (q2 &&& (9223372036854775807 : Int64))), .second, .val (.ref b69), .unset] [(.int (own_fits q3 (q2 &&& (9223372036854775807 : Int64))))]) t → Gl t := fun t kt => k104 t (st105 _ kt)
    by_cases hc75 : (own_fits q3 (q2 &&& (9223372036854775807 : Int64))) = (0 : Int32)
    · have k107 : ∀ t, own_S p e below T105 (mkF m 101 #[.val (.int p1), .val (.long q2), .second, .val (.long q3), .second, .val (.long q4), .second, .val (.long q5), .second, .val (.int (1 : Int32)), .val (.int (0 : Int32)), .val (.long (q2 &&& (9223372036854775807 : Int64))), .second, .val (.ref b69), .val (.int (0 : Int32))] [(.long (q2 &&& (9223372036854775807 : Int64))), (.int (1 : Int32)), (.ref b69)]) t → Gl t := fun t kt => k106 t (by
        show own_S p e below T105 (mkF m 75 #[.val (.int p1), .val (.long q2), .second, .val (.long q3), .second, .val (.long q4), .second, .val (.long q5), .second, .val (.int (1 : Int32)), .val (.int (0 : Int32)), .val (.long (q2 &&& (9223372036854775807 : Int64))), .second, .val (.ref b69), .unset] [(.int (own_fits q3 (q2 &&& (9223372036854775807 : Int64))))]) _
        refine XS.ifYes X105.here hx rfl (pc0 := 75) (pc' := 92) rfl (hb hby at_75) rfl ((if0 _ _).trans (teq hc75).1) (by decide) (by decide) ?_
        show own_S p e below T105 (mkF m 92 #[.val (.int p1), .val (.long q2), .second, .val (.long q3), .second, .val (.long q4), .second, .val (.long q5), .second, .val (.int (1 : Int32)), .val (.int (0 : Int32)), .val (.long (q2 &&& (9223372036854775807 : Int64))), .second, .val (.ref b69), .unset] []) _
        refine XS.iconst X105.here hx rfl (hb hby at_92) ?_
        show own_S p e below T105 (mkF m 93 #[.val (.int p1), .val (.long q2), .second, .val (.long q3), .second, .val (.long q4), .second, .val (.long q5), .second, .val (.int (1 : Int32)), .val (.int (0 : Int32)), .val (.long (q2 &&& (9223372036854775807 : Int64))), .second, .val (.ref b69), .unset] [(.int (0 : Int32))]) _
        refine XS.istore X105.here hx rfl (hb hby at_93) rfl (l' := #[.val (.int p1), .val (.long q2), .second, .val (.long q3), .second, .val (.long q4), .second, .val (.long q5), .second, .val (.int (1 : Int32)), .val (.int (0 : Int32)), .val (.long (q2 &&& (9223372036854775807 : Int64))), .second, .val (.ref b69), .val (.int (0 : Int32))]) rfl ?_
        show own_S p e below T105 (mkF m 95 #[.val (.int p1), .val (.long q2), .second, .val (.long q3), .second, .val (.long q4), .second, .val (.long q5), .second, .val (.int (1 : Int32)), .val (.int (0 : Int32)), .val (.long (q2 &&& (9223372036854775807 : Int64))), .second, .val (.ref b69), .val (.int (0 : Int32))] []) _
        refine XS.aload X105.here hx rfl (hb hby at_95) rfl rfl ?_
        show own_S p e below T105 (mkF m 97 #[.val (.int p1), .val (.long q2), .second, .val (.long q3), .second, .val (.long q4), .second, .val (.long q5), .second, .val (.int (1 : Int32)), .val (.int (0 : Int32)), .val (.long (q2 &&& (9223372036854775807 : Int64))), .second, .val (.ref b69), .val (.int (0 : Int32))] [(.ref b69)]) _
        refine XS.iload X105.here hx rfl (hb hby at_97) rfl ?_
        show own_S p e below T105 (mkF m 99 #[.val (.int p1), .val (.long q2), .second, .val (.long q3), .second, .val (.long q4), .second, .val (.long q5), .second, .val (.int (1 : Int32)), .val (.int (0 : Int32)), .val (.long (q2 &&& (9223372036854775807 : Int64))), .second, .val (.ref b69), .val (.int (0 : Int32))] [(.int (1 : Int32)), (.ref b69)]) _
        refine XS.lload X105.here hx rfl (hb hby at_99) rfl ?_
        exact kt)
      have f109 := (f99.keep K98 (ninS ne74 nin0))
      have f110 := (f100.keep K98)
      obtain ⟨cq108, kq108, qa108, qb108, qc108⟩ := isOf hZ eq105 f110
      obtain ⟨_, _, ⟨T108, L108, cc108, ss108⟩, -, X108, ⟨Lc108, hQ108, l108, y108, z108⟩, st108⟩ := X105.virtualBack hx (y := (⟨"com/example/pricecollar/pricecollar/engine/ReferencePrices", "hasRoomFor", "(IJ)Z"⟩ : MethodName)) (z := (⟨"com/example/pricecollar/pricecollar/engine/ReferencePrices", "hasRoomFor", "(IJ)Z"⟩ : MethodName)) hown (mvT hZ (hw _ (List.mem_of_getElem? (i := 37) rfl))) (mvT hZ (hw _ (List.mem_of_getElem? (i := 38) rfl))) (notFace_of_selects (args := #[]) (mvT hZ (hw _ (List.mem_of_getElem? (i := 40) rfl)))) (mvT hZ (hw _ (List.mem_of_getElem? (i := 40) rfl))) (mvT hZ (hw _ (List.mem_of_getElem? (i := 39) rfl))) (by decide) (backOf (W := 0) (rm7_1 l Z a0 hw [] b69 (q2 &&& (9223372036854775807 : Int64)) b74 kk74 q5 (1 : Int64) (q5 ^^^ (-1 : Int64)) ((0 : Int64) + (1 : Int64)) q5 (1 : Int64) ((0 : Int64) + (30000000 : Int64)) ((0 : Int64) + (300000000 : Int64)) q4 (1 : Int64) q3 ((0 : Int64) + (1 : Int64)) q4 (1 : Int64) ((0 : Int64) + (30000000 : Int64)) ((0 : Int64) + (300000000 : Int64)) T98.heap n0 Z101 f109 V98) hZ (hw _ (List.mem_of_getElem? (i := 41) rfl)) (hw _ (List.mem_of_getElem? (i := 3) rfl)) (by decide) (by decide)) qa108 qc108 (g := (mkF m 101 #[.val (.int p1), .val (.long q2), .second, .val (.long q3), .second, .val (.long q4), .second, .val (.long q5), .second, .val (.int (1 : Int32)), .val (.int (0 : Int32)), .val (.long (q2 &&& (9223372036854775807 : Int64))), .second, .val (.ref b69), .val (.int (0 : Int32))] [(.long (q2 &&& (9223372036854775807 : Int64))), (.int (1 : Int32)), (.ref b69)])) rfl (by rw [hml]; rfl) (Steps.refl _) (argsL := [(.int (1 : Int32)), (.long (q2 &&& (9223372036854775807 : Int64)))]) (rest := []) (lenOf pd_5 rfl) rfl (by show 2 * 0 + _ ≤ _; exact Nat.le_of_eq rfl) (hb hby at_101) (fun _ _ => ⟨rfl, eq105, (by decide : 2 + 0 ≤ _), (by decide : 17 + 0 ≤ _)⟩)
      dsimp only [Pt.U, Pt.locs, Pt.cells, Pt.slots] at X108 l108 y108 z108 st108 hQ108
      subst l108 y108 z108
      obtain ⟨rfl, Nq108, eq108⟩ := hQ108
      have N108 := Fr.app N105 Nq108
      have k111 : ∀ t, own_S p e below T108 (mkF m 104 #[.val (.int p1), .val (.long q2), .second, .val (.long q3), .second, .val (.long q4), .second, .val (.long q5), .second, .val (.int (1 : Int32)), .val (.int (0 : Int32)), .val (.long (q2 &&& (9223372036854775807 : Int64))), .second, .val (.ref b69), .val (.int (0 : Int32))] [(.int (own_room q3 q4 (q2 &&& (9223372036854775807 : Int64))))]) t → Gl t := fun t kt => k107 t (st108.trans kt)
      have k112 : ∀ t, own_S p e below T108 (mkF m 106 #[.val (.int p1), .val (.long q2), .second, .val (.long q3), .second, .val (.long q4), .second, .val (.long q5), .second, .val (.int (1 : Int32)), .val (.int (0 : Int32)), .val (.long (q2 &&& (9223372036854775807 : Int64))), .second, .val (.ref b69), .val (.int (0 : Int32))] [(.int (0 : Int32)), (.int (own_room q3 q4 (q2 &&& (9223372036854775807 : Int64))))]) t → Gl t := fun t kt => k111 t (by
        show own_S p e below T108 (mkF m 104 #[.val (.int p1), .val (.long q2), .second, .val (.long q3), .second, .val (.long q4), .second, .val (.long q5), .second, .val (.int (1 : Int32)), .val (.int (0 : Int32)), .val (.long (q2 &&& (9223372036854775807 : Int64))), .second, .val (.ref b69), .val (.int (0 : Int32))] [(.int (own_room q3 q4 (q2 &&& (9223372036854775807 : Int64))))]) _
        refine XS.iload X108.here hx rfl (hb hby at_104) rfl ?_
        exact kt)
      have hc106_113 : (own_room q3 q4 (q2 &&& (9223372036854775807 : Int64))) = (0 : Int32) := by rw [own_law _ _ _ (own_pos q2), if_pos hc75]
      have k114 : ∀ t, own_S p e below T108 (mkF m 114 #[.val (.int p1), .val (.long q2), .second, .val (.long q3), .second, .val (.long q4), .second, .val (.long q5), .second, .val (.int (1 : Int32)), .val (.int (0 : Int32)), .val (.long (q2 &&& (9223372036854775807 : Int64))), .second, .val (.ref b69), .val (.int (0 : Int32))] [(.int (1 : Int32))]) t → Gl t := fun t kt => k112 t (by
        show own_S p e below T108 (mkF m 106 #[.val (.int p1), .val (.long q2), .second, .val (.long q3), .second, .val (.long q4), .second, .val (.long q5), .second, .val (.int (1 : Int32)), .val (.int (0 : Int32)), .val (.long (q2 &&& (9223372036854775807 : Int64))), .second, .val (.ref b69), .val (.int (0 : Int32))] [(.int (0 : Int32)), (.int (own_room q3 q4 (q2 &&& (9223372036854775807 : Int64))))]) _
        refine XS.icmpNo X108.here hx rfl (hb hby at_106) rfl (teq hc106_113).2 ?_
        show own_S p e below T108 (mkF m 109 #[.val (.int p1), .val (.long q2), .second, .val (.long q3), .second, .val (.long q4), .second, .val (.long q5), .second, .val (.int (1 : Int32)), .val (.int (0 : Int32)), .val (.long (q2 &&& (9223372036854775807 : Int64))), .second, .val (.ref b69), .val (.int (0 : Int32))] []) _
        refine XS.iconst X108.here hx rfl (hb hby at_109) ?_
        show own_S p e below T108 (mkF m 110 #[.val (.int p1), .val (.long q2), .second, .val (.long q3), .second, .val (.long q4), .second, .val (.long q5), .second, .val (.int (1 : Int32)), .val (.int (0 : Int32)), .val (.long (q2 &&& (9223372036854775807 : Int64))), .second, .val (.ref b69), .val (.int (0 : Int32))] [(.int (1 : Int32))]) _
        refine XS.goto X108.here hx rfl (pc0 := 110) (pc' := 114) rfl (hb hby at_110) (by decide) (by decide) ?_
        exact kt)
      obtain ⟨fs, hr, hrun, hended, hW, hsame⟩ := X108.leave (v := some (.int (1 : Int32))) (fun h => by rw [Bd.returns] at h; cases h)
      refine ⟨_, _, hGl _ (k114 _ (retN X108 hx (t := .boolean) Bd.returns (by simp) (hb hby at_114) hr)), hrun, hended, _, _, rfl, ?_, ⟨_, rfl⟩, hW, hsame.mono (by decide) (by decide)⟩
      show Q0 Z p1 q2 q3 q4 q5 h0 n0 _ T108.heap _
      rw [eq108]
      exact ⟨rfl, N108⟩
    · have k115 : ∀ t, own_S p e below T105 (mkF m 82 #[.val (.int p1), .val (.long q2), .second, .val (.long q3), .second, .val (.long q4), .second, .val (.long q5), .second, .val (.int (1 : Int32)), .val (.int (0 : Int32)), .val (.long (q2 &&& (9223372036854775807 : Int64))), .second, .val (.ref b69), .unset] [(.long (q2 &&& (9223372036854775807 : Int64))), (.long q4)]) t → Gl t := fun t kt => k106 t (by
        show own_S p e below T105 (mkF m 75 #[.val (.int p1), .val (.long q2), .second, .val (.long q3), .second, .val (.long q4), .second, .val (.long q5), .second, .val (.int (1 : Int32)), .val (.int (0 : Int32)), .val (.long (q2 &&& (9223372036854775807 : Int64))), .second, .val (.ref b69), .unset] [(.int (own_fits q3 (q2 &&& (9223372036854775807 : Int64))))]) _
        refine XS.ifNo X105.here hx rfl (hb hby at_75) rfl ((if0 _ _).trans (feq hc75).1) ?_
        show own_S p e below T105 (mkF m 78 #[.val (.int p1), .val (.long q2), .second, .val (.long q3), .second, .val (.long q4), .second, .val (.long q5), .second, .val (.int (1 : Int32)), .val (.int (0 : Int32)), .val (.long (q2 &&& (9223372036854775807 : Int64))), .second, .val (.ref b69), .unset] []) _
        refine XS.lload X105.here hx rfl (hb hby at_78) rfl ?_
        show own_S p e below T105 (mkF m 80 #[.val (.int p1), .val (.long q2), .second, .val (.long q3), .second, .val (.long q4), .second, .val (.long q5), .second, .val (.int (1 : Int32)), .val (.int (0 : Int32)), .val (.long (q2 &&& (9223372036854775807 : Int64))), .second, .val (.ref b69), .unset] [(.long q4)]) _
        refine XS.lload X105.here hx rfl (hb hby at_80) rfl ?_
        exact kt)
      obtain ⟨_, _, ⟨T116, L116, cc116, ss116⟩, -, X116, ⟨Lc116, hQ116, l116, y116, z116⟩, st116⟩ := Jvm.LawKit.callS X105 hx (y := (⟨"com/example/pricecollar/pricecollar/engine/ReferencePricesHasRoomForPinLaw", "fits", "(JJ)Z"⟩ : MethodName)) hown (mvT hZ (hw _ (List.mem_of_getElem? (i := 33) rfl))) (mvT hZ (hw _ (List.mem_of_getElem? (i := 34) rfl))) (mvT hZ (hw _ (List.mem_of_getElem? (i := 35) rfl))) (mvT hZ (hw _ (List.mem_of_getElem? (i := 36) rfl))) (by decide) (backOf (W := 0) (rm6 l Z a0 hw [] q4 (q2 &&& (9223372036854775807 : Int64))  T98.heap n0 Z101 ) hZ (hw _ (List.mem_of_getElem? (i := 36) rfl)) (hw _ (List.mem_of_getElem? (i := 35) rfl)) (by decide) (by decide)) (g := (mkF m 82 #[.val (.int p1), .val (.long q2), .second, .val (.long q3), .second, .val (.long q4), .second, .val (.long q5), .second, .val (.int (1 : Int32)), .val (.int (0 : Int32)), .val (.long (q2 &&& (9223372036854775807 : Int64))), .second, .val (.ref b69), .unset] [(.long (q2 &&& (9223372036854775807 : Int64))), (.long q4)])) rfl (by rw [hml]; rfl) (argsL := [(.long q4), (.long (q2 &&& (9223372036854775807 : Int64)))]) (rest := []) (lenOf pd_4 rfl) rfl (by show 2 * 0 + _ ≤ _; exact Nat.le_of_eq rfl) (hb hby at_82) (fun _ _ => ⟨rfl, eq105, (by decide : 2 + 0 ≤ _), (by decide : 17 + 0 ≤ _)⟩)
      dsimp only [Pt.U, Pt.locs, Pt.cells, Pt.slots] at X116 l116 y116 z116 st116 hQ116
      subst l116 y116 z116
      obtain ⟨rfl, Nq116, eq116⟩ := hQ116
      have N116 := Fr.app N105 Nq116
      have k117 : ∀ t, own_S p e below T116 (mkF m 85 #[.val (.int p1), .val (.long q2), .second, .val (.long q3), .second, .val (.long q4), .second, .val (.long q5), .second, .val (.int (1 : Int32)), .val (.int (0 : Int32)), .val (.long (q2 &&& (9223372036854775807 : Int64))), .second, .val (.ref b69), .unset] [(.int (own_fits q4 (q2 &&& (9223372036854775807 : Int64))))]) t → Gl t := fun t kt => k115 t (st116 _ kt)
      by_cases hc85 : (own_fits q4 (q2 &&& (9223372036854775807 : Int64))) = (0 : Int32)
      · have k118 : ∀ t, own_S p e below T116 (mkF m 101 #[.val (.int p1), .val (.long q2), .second, .val (.long q3), .second, .val (.long q4), .second, .val (.long q5), .second, .val (.int (1 : Int32)), .val (.int (0 : Int32)), .val (.long (q2 &&& (9223372036854775807 : Int64))), .second, .val (.ref b69), .val (.int (0 : Int32))] [(.long (q2 &&& (9223372036854775807 : Int64))), (.int (1 : Int32)), (.ref b69)]) t → Gl t := fun t kt => k117 t (by
          show own_S p e below T116 (mkF m 85 #[.val (.int p1), .val (.long q2), .second, .val (.long q3), .second, .val (.long q4), .second, .val (.long q5), .second, .val (.int (1 : Int32)), .val (.int (0 : Int32)), .val (.long (q2 &&& (9223372036854775807 : Int64))), .second, .val (.ref b69), .unset] [(.int (own_fits q4 (q2 &&& (9223372036854775807 : Int64))))]) _
          refine XS.ifYes X116.here hx rfl (pc0 := 85) (pc' := 92) rfl (hb hby at_85) rfl ((if0 _ _).trans (teq hc85).1) (by decide) (by decide) ?_
          show own_S p e below T116 (mkF m 92 #[.val (.int p1), .val (.long q2), .second, .val (.long q3), .second, .val (.long q4), .second, .val (.long q5), .second, .val (.int (1 : Int32)), .val (.int (0 : Int32)), .val (.long (q2 &&& (9223372036854775807 : Int64))), .second, .val (.ref b69), .unset] []) _
          refine XS.iconst X116.here hx rfl (hb hby at_92) ?_
          show own_S p e below T116 (mkF m 93 #[.val (.int p1), .val (.long q2), .second, .val (.long q3), .second, .val (.long q4), .second, .val (.long q5), .second, .val (.int (1 : Int32)), .val (.int (0 : Int32)), .val (.long (q2 &&& (9223372036854775807 : Int64))), .second, .val (.ref b69), .unset] [(.int (0 : Int32))]) _
          refine XS.istore X116.here hx rfl (hb hby at_93) rfl (l' := #[.val (.int p1), .val (.long q2), .second, .val (.long q3), .second, .val (.long q4), .second, .val (.long q5), .second, .val (.int (1 : Int32)), .val (.int (0 : Int32)), .val (.long (q2 &&& (9223372036854775807 : Int64))), .second, .val (.ref b69), .val (.int (0 : Int32))]) rfl ?_
          show own_S p e below T116 (mkF m 95 #[.val (.int p1), .val (.long q2), .second, .val (.long q3), .second, .val (.long q4), .second, .val (.long q5), .second, .val (.int (1 : Int32)), .val (.int (0 : Int32)), .val (.long (q2 &&& (9223372036854775807 : Int64))), .second, .val (.ref b69), .val (.int (0 : Int32))] []) _
          refine XS.aload X116.here hx rfl (hb hby at_95) rfl rfl ?_
          show own_S p e below T116 (mkF m 97 #[.val (.int p1), .val (.long q2), .second, .val (.long q3), .second, .val (.long q4), .second, .val (.long q5), .second, .val (.int (1 : Int32)), .val (.int (0 : Int32)), .val (.long (q2 &&& (9223372036854775807 : Int64))), .second, .val (.ref b69), .val (.int (0 : Int32))] [(.ref b69)]) _
          refine XS.iload X116.here hx rfl (hb hby at_97) rfl ?_
          show own_S p e below T116 (mkF m 99 #[.val (.int p1), .val (.long q2), .second, .val (.long q3), .second, .val (.long q4), .second, .val (.long q5), .second, .val (.int (1 : Int32)), .val (.int (0 : Int32)), .val (.long (q2 &&& (9223372036854775807 : Int64))), .second, .val (.ref b69), .val (.int (0 : Int32))] [(.int (1 : Int32)), (.ref b69)]) _
          refine XS.lload X116.here hx rfl (hb hby at_99) rfl ?_
          exact kt)
        have f120 := (f99.keep K98 (ninS ne74 nin0))
        have f121 := (f100.keep K98)
        obtain ⟨cq119, kq119, qa119, qb119, qc119⟩ := isOf hZ eq116 f121
        obtain ⟨_, _, ⟨T119, L119, cc119, ss119⟩, -, X119, ⟨Lc119, hQ119, l119, y119, z119⟩, st119⟩ := X116.virtualBack hx (y := (⟨"com/example/pricecollar/pricecollar/engine/ReferencePrices", "hasRoomFor", "(IJ)Z"⟩ : MethodName)) (z := (⟨"com/example/pricecollar/pricecollar/engine/ReferencePrices", "hasRoomFor", "(IJ)Z"⟩ : MethodName)) hown (mvT hZ (hw _ (List.mem_of_getElem? (i := 37) rfl))) (mvT hZ (hw _ (List.mem_of_getElem? (i := 38) rfl))) (notFace_of_selects (args := #[]) (mvT hZ (hw _ (List.mem_of_getElem? (i := 40) rfl)))) (mvT hZ (hw _ (List.mem_of_getElem? (i := 40) rfl))) (mvT hZ (hw _ (List.mem_of_getElem? (i := 39) rfl))) (by decide) (backOf (W := 0) (rm7_1 l Z a0 hw [] b69 (q2 &&& (9223372036854775807 : Int64)) b74 kk74 q5 (1 : Int64) (q5 ^^^ (-1 : Int64)) ((0 : Int64) + (1 : Int64)) q5 (1 : Int64) ((0 : Int64) + (30000000 : Int64)) ((0 : Int64) + (300000000 : Int64)) q4 (1 : Int64) q3 ((0 : Int64) + (1 : Int64)) q4 (1 : Int64) ((0 : Int64) + (30000000 : Int64)) ((0 : Int64) + (300000000 : Int64)) T98.heap n0 Z101 f120 V98) hZ (hw _ (List.mem_of_getElem? (i := 41) rfl)) (hw _ (List.mem_of_getElem? (i := 3) rfl)) (by decide) (by decide)) qa119 qc119 (g := (mkF m 101 #[.val (.int p1), .val (.long q2), .second, .val (.long q3), .second, .val (.long q4), .second, .val (.long q5), .second, .val (.int (1 : Int32)), .val (.int (0 : Int32)), .val (.long (q2 &&& (9223372036854775807 : Int64))), .second, .val (.ref b69), .val (.int (0 : Int32))] [(.long (q2 &&& (9223372036854775807 : Int64))), (.int (1 : Int32)), (.ref b69)])) rfl (by rw [hml]; rfl) (Steps.refl _) (argsL := [(.int (1 : Int32)), (.long (q2 &&& (9223372036854775807 : Int64)))]) (rest := []) (lenOf pd_5 rfl) rfl (by show 2 * 0 + _ ≤ _; exact Nat.le_of_eq rfl) (hb hby at_101) (fun _ _ => ⟨rfl, eq116, (by decide : 2 + 0 ≤ _), (by decide : 17 + 0 ≤ _)⟩)
        dsimp only [Pt.U, Pt.locs, Pt.cells, Pt.slots] at X119 l119 y119 z119 st119 hQ119
        subst l119 y119 z119
        obtain ⟨rfl, Nq119, eq119⟩ := hQ119
        have N119 := Fr.app N116 Nq119
        have k122 : ∀ t, own_S p e below T119 (mkF m 104 #[.val (.int p1), .val (.long q2), .second, .val (.long q3), .second, .val (.long q4), .second, .val (.long q5), .second, .val (.int (1 : Int32)), .val (.int (0 : Int32)), .val (.long (q2 &&& (9223372036854775807 : Int64))), .second, .val (.ref b69), .val (.int (0 : Int32))] [(.int (own_room q3 q4 (q2 &&& (9223372036854775807 : Int64))))]) t → Gl t := fun t kt => k118 t (st119.trans kt)
        have k123 : ∀ t, own_S p e below T119 (mkF m 106 #[.val (.int p1), .val (.long q2), .second, .val (.long q3), .second, .val (.long q4), .second, .val (.long q5), .second, .val (.int (1 : Int32)), .val (.int (0 : Int32)), .val (.long (q2 &&& (9223372036854775807 : Int64))), .second, .val (.ref b69), .val (.int (0 : Int32))] [(.int (0 : Int32)), (.int (own_room q3 q4 (q2 &&& (9223372036854775807 : Int64))))]) t → Gl t := fun t kt => k122 t (by
          show own_S p e below T119 (mkF m 104 #[.val (.int p1), .val (.long q2), .second, .val (.long q3), .second, .val (.long q4), .second, .val (.long q5), .second, .val (.int (1 : Int32)), .val (.int (0 : Int32)), .val (.long (q2 &&& (9223372036854775807 : Int64))), .second, .val (.ref b69), .val (.int (0 : Int32))] [(.int (own_room q3 q4 (q2 &&& (9223372036854775807 : Int64))))]) _
          refine XS.iload X119.here hx rfl (hb hby at_104) rfl ?_
          exact kt)
        have hc106_124 : (own_room q3 q4 (q2 &&& (9223372036854775807 : Int64))) = (0 : Int32) := by rw [own_law _ _ _ (own_pos q2), if_neg hc75, if_pos hc85]
        have k125 : ∀ t, own_S p e below T119 (mkF m 114 #[.val (.int p1), .val (.long q2), .second, .val (.long q3), .second, .val (.long q4), .second, .val (.long q5), .second, .val (.int (1 : Int32)), .val (.int (0 : Int32)), .val (.long (q2 &&& (9223372036854775807 : Int64))), .second, .val (.ref b69), .val (.int (0 : Int32))] [(.int (1 : Int32))]) t → Gl t := fun t kt => k123 t (by
          show own_S p e below T119 (mkF m 106 #[.val (.int p1), .val (.long q2), .second, .val (.long q3), .second, .val (.long q4), .second, .val (.long q5), .second, .val (.int (1 : Int32)), .val (.int (0 : Int32)), .val (.long (q2 &&& (9223372036854775807 : Int64))), .second, .val (.ref b69), .val (.int (0 : Int32))] [(.int (0 : Int32)), (.int (own_room q3 q4 (q2 &&& (9223372036854775807 : Int64))))]) _
          refine XS.icmpNo X119.here hx rfl (hb hby at_106) rfl (teq hc106_124).2 ?_
          show own_S p e below T119 (mkF m 109 #[.val (.int p1), .val (.long q2), .second, .val (.long q3), .second, .val (.long q4), .second, .val (.long q5), .second, .val (.int (1 : Int32)), .val (.int (0 : Int32)), .val (.long (q2 &&& (9223372036854775807 : Int64))), .second, .val (.ref b69), .val (.int (0 : Int32))] []) _
          refine XS.iconst X119.here hx rfl (hb hby at_109) ?_
          show own_S p e below T119 (mkF m 110 #[.val (.int p1), .val (.long q2), .second, .val (.long q3), .second, .val (.long q4), .second, .val (.long q5), .second, .val (.int (1 : Int32)), .val (.int (0 : Int32)), .val (.long (q2 &&& (9223372036854775807 : Int64))), .second, .val (.ref b69), .val (.int (0 : Int32))] [(.int (1 : Int32))]) _
          refine XS.goto X119.here hx rfl (pc0 := 110) (pc' := 114) rfl (hb hby at_110) (by decide) (by decide) ?_
          exact kt)
        obtain ⟨fs, hr, hrun, hended, hW, hsame⟩ := X119.leave (v := some (.int (1 : Int32))) (fun h => by rw [Bd.returns] at h; cases h)
        refine ⟨_, _, hGl _ (k125 _ (retN X119 hx (t := .boolean) Bd.returns (by simp) (hb hby at_114) hr)), hrun, hended, _, _, rfl, ?_, ⟨_, rfl⟩, hW, hsame.mono (by decide) (by decide)⟩
        show Q0 Z p1 q2 q3 q4 q5 h0 n0 _ T119.heap _
        rw [eq119]
        exact ⟨rfl, N119⟩
      · have k126 : ∀ t, own_S p e below T116 (mkF m 101 #[.val (.int p1), .val (.long q2), .second, .val (.long q3), .second, .val (.long q4), .second, .val (.long q5), .second, .val (.int (1 : Int32)), .val (.int (0 : Int32)), .val (.long (q2 &&& (9223372036854775807 : Int64))), .second, .val (.ref b69), .val (.int (1 : Int32))] [(.long (q2 &&& (9223372036854775807 : Int64))), (.int (1 : Int32)), (.ref b69)]) t → Gl t := fun t kt => k117 t (by
          show own_S p e below T116 (mkF m 85 #[.val (.int p1), .val (.long q2), .second, .val (.long q3), .second, .val (.long q4), .second, .val (.long q5), .second, .val (.int (1 : Int32)), .val (.int (0 : Int32)), .val (.long (q2 &&& (9223372036854775807 : Int64))), .second, .val (.ref b69), .unset] [(.int (own_fits q4 (q2 &&& (9223372036854775807 : Int64))))]) _
          refine XS.ifNo X116.here hx rfl (hb hby at_85) rfl ((if0 _ _).trans (feq hc85).1) ?_
          show own_S p e below T116 (mkF m 88 #[.val (.int p1), .val (.long q2), .second, .val (.long q3), .second, .val (.long q4), .second, .val (.long q5), .second, .val (.int (1 : Int32)), .val (.int (0 : Int32)), .val (.long (q2 &&& (9223372036854775807 : Int64))), .second, .val (.ref b69), .unset] []) _
          refine XS.iconst X116.here hx rfl (hb hby at_88) ?_
          show own_S p e below T116 (mkF m 89 #[.val (.int p1), .val (.long q2), .second, .val (.long q3), .second, .val (.long q4), .second, .val (.long q5), .second, .val (.int (1 : Int32)), .val (.int (0 : Int32)), .val (.long (q2 &&& (9223372036854775807 : Int64))), .second, .val (.ref b69), .unset] [(.int (1 : Int32))]) _
          refine XS.goto X116.here hx rfl (pc0 := 89) (pc' := 93) rfl (hb hby at_89) (by decide) (by decide) ?_
          show own_S p e below T116 (mkF m 93 #[.val (.int p1), .val (.long q2), .second, .val (.long q3), .second, .val (.long q4), .second, .val (.long q5), .second, .val (.int (1 : Int32)), .val (.int (0 : Int32)), .val (.long (q2 &&& (9223372036854775807 : Int64))), .second, .val (.ref b69), .unset] [(.int (1 : Int32))]) _
          refine XS.istore X116.here hx rfl (hb hby at_93) rfl (l' := #[.val (.int p1), .val (.long q2), .second, .val (.long q3), .second, .val (.long q4), .second, .val (.long q5), .second, .val (.int (1 : Int32)), .val (.int (0 : Int32)), .val (.long (q2 &&& (9223372036854775807 : Int64))), .second, .val (.ref b69), .val (.int (1 : Int32))]) rfl ?_
          show own_S p e below T116 (mkF m 95 #[.val (.int p1), .val (.long q2), .second, .val (.long q3), .second, .val (.long q4), .second, .val (.long q5), .second, .val (.int (1 : Int32)), .val (.int (0 : Int32)), .val (.long (q2 &&& (9223372036854775807 : Int64))), .second, .val (.ref b69), .val (.int (1 : Int32))] []) _
          refine XS.aload X116.here hx rfl (hb hby at_95) rfl rfl ?_
          show own_S p e below T116 (mkF m 97 #[.val (.int p1), .val (.long q2), .second, .val (.long q3), .second, .val (.long q4), .second, .val (.long q5), .second, .val (.int (1 : Int32)), .val (.int (0 : Int32)), .val (.long (q2 &&& (9223372036854775807 : Int64))), .second, .val (.ref b69), .val (.int (1 : Int32))] [(.ref b69)]) _
          refine XS.iload X116.here hx rfl (hb hby at_97) rfl ?_
          show own_S p e below T116 (mkF m 99 #[.val (.int p1), .val (.long q2), .second, .val (.long q3), .second, .val (.long q4), .second, .val (.long q5), .second, .val (.int (1 : Int32)), .val (.int (0 : Int32)), .val (.long (q2 &&& (9223372036854775807 : Int64))), .second, .val (.ref b69), .val (.int (1 : Int32))] [(.int (1 : Int32)), (.ref b69)]) _
          refine XS.lload X116.here hx rfl (hb hby at_99) rfl ?_
          exact kt)
        have f128 := (f99.keep K98 (ninS ne74 nin0))
        have f129 := (f100.keep K98)
        obtain ⟨cq127, kq127, qa127, qb127, qc127⟩ := isOf hZ eq116 f129
        obtain ⟨_, _, ⟨T127, L127, cc127, ss127⟩, -, X127, ⟨Lc127, hQ127, l127, y127, z127⟩, st127⟩ := X116.virtualBack hx (y := (⟨"com/example/pricecollar/pricecollar/engine/ReferencePrices", "hasRoomFor", "(IJ)Z"⟩ : MethodName)) (z := (⟨"com/example/pricecollar/pricecollar/engine/ReferencePrices", "hasRoomFor", "(IJ)Z"⟩ : MethodName)) hown (mvT hZ (hw _ (List.mem_of_getElem? (i := 37) rfl))) (mvT hZ (hw _ (List.mem_of_getElem? (i := 38) rfl))) (notFace_of_selects (args := #[]) (mvT hZ (hw _ (List.mem_of_getElem? (i := 40) rfl)))) (mvT hZ (hw _ (List.mem_of_getElem? (i := 40) rfl))) (mvT hZ (hw _ (List.mem_of_getElem? (i := 39) rfl))) (by decide) (backOf (W := 0) (rm7_1 l Z a0 hw [] b69 (q2 &&& (9223372036854775807 : Int64)) b74 kk74 q5 (1 : Int64) (q5 ^^^ (-1 : Int64)) ((0 : Int64) + (1 : Int64)) q5 (1 : Int64) ((0 : Int64) + (30000000 : Int64)) ((0 : Int64) + (300000000 : Int64)) q4 (1 : Int64) q3 ((0 : Int64) + (1 : Int64)) q4 (1 : Int64) ((0 : Int64) + (30000000 : Int64)) ((0 : Int64) + (300000000 : Int64)) T98.heap n0 Z101 f128 V98) hZ (hw _ (List.mem_of_getElem? (i := 41) rfl)) (hw _ (List.mem_of_getElem? (i := 3) rfl)) (by decide) (by decide)) qa127 qc127 (g := (mkF m 101 #[.val (.int p1), .val (.long q2), .second, .val (.long q3), .second, .val (.long q4), .second, .val (.long q5), .second, .val (.int (1 : Int32)), .val (.int (0 : Int32)), .val (.long (q2 &&& (9223372036854775807 : Int64))), .second, .val (.ref b69), .val (.int (1 : Int32))] [(.long (q2 &&& (9223372036854775807 : Int64))), (.int (1 : Int32)), (.ref b69)])) rfl (by rw [hml]; rfl) (Steps.refl _) (argsL := [(.int (1 : Int32)), (.long (q2 &&& (9223372036854775807 : Int64)))]) (rest := []) (lenOf pd_5 rfl) rfl (by show 2 * 0 + _ ≤ _; exact Nat.le_of_eq rfl) (hb hby at_101) (fun _ _ => ⟨rfl, eq116, (by decide : 2 + 0 ≤ _), (by decide : 17 + 0 ≤ _)⟩)
        dsimp only [Pt.U, Pt.locs, Pt.cells, Pt.slots] at X127 l127 y127 z127 st127 hQ127
        subst l127 y127 z127
        obtain ⟨rfl, Nq127, eq127⟩ := hQ127
        have N127 := Fr.app N116 Nq127
        have k130 : ∀ t, own_S p e below T127 (mkF m 104 #[.val (.int p1), .val (.long q2), .second, .val (.long q3), .second, .val (.long q4), .second, .val (.long q5), .second, .val (.int (1 : Int32)), .val (.int (0 : Int32)), .val (.long (q2 &&& (9223372036854775807 : Int64))), .second, .val (.ref b69), .val (.int (1 : Int32))] [(.int (own_room q3 q4 (q2 &&& (9223372036854775807 : Int64))))]) t → Gl t := fun t kt => k126 t (st127.trans kt)
        have k131 : ∀ t, own_S p e below T127 (mkF m 106 #[.val (.int p1), .val (.long q2), .second, .val (.long q3), .second, .val (.long q4), .second, .val (.long q5), .second, .val (.int (1 : Int32)), .val (.int (0 : Int32)), .val (.long (q2 &&& (9223372036854775807 : Int64))), .second, .val (.ref b69), .val (.int (1 : Int32))] [(.int (1 : Int32)), (.int (own_room q3 q4 (q2 &&& (9223372036854775807 : Int64))))]) t → Gl t := fun t kt => k130 t (by
          show own_S p e below T127 (mkF m 104 #[.val (.int p1), .val (.long q2), .second, .val (.long q3), .second, .val (.long q4), .second, .val (.long q5), .second, .val (.int (1 : Int32)), .val (.int (0 : Int32)), .val (.long (q2 &&& (9223372036854775807 : Int64))), .second, .val (.ref b69), .val (.int (1 : Int32))] [(.int (own_room q3 q4 (q2 &&& (9223372036854775807 : Int64))))]) _
          refine XS.iload X127.here hx rfl (hb hby at_104) rfl ?_
          exact kt)
        have hc106_132 : (own_room q3 q4 (q2 &&& (9223372036854775807 : Int64))) = (1 : Int32) := by rw [own_law _ _ _ (own_pos q2), if_neg hc75, if_neg hc85]
        have k133 : ∀ t, own_S p e below T127 (mkF m 114 #[.val (.int p1), .val (.long q2), .second, .val (.long q3), .second, .val (.long q4), .second, .val (.long q5), .second, .val (.int (1 : Int32)), .val (.int (0 : Int32)), .val (.long (q2 &&& (9223372036854775807 : Int64))), .second, .val (.ref b69), .val (.int (1 : Int32))] [(.int (1 : Int32))]) t → Gl t := fun t kt => k131 t (by
          show own_S p e below T127 (mkF m 106 #[.val (.int p1), .val (.long q2), .second, .val (.long q3), .second, .val (.long q4), .second, .val (.long q5), .second, .val (.int (1 : Int32)), .val (.int (0 : Int32)), .val (.long (q2 &&& (9223372036854775807 : Int64))), .second, .val (.ref b69), .val (.int (1 : Int32))] [(.int (1 : Int32)), (.int (own_room q3 q4 (q2 &&& (9223372036854775807 : Int64))))]) _
          refine XS.icmpNo X127.here hx rfl (hb hby at_106) rfl (teq hc106_132).2 ?_
          show own_S p e below T127 (mkF m 109 #[.val (.int p1), .val (.long q2), .second, .val (.long q3), .second, .val (.long q4), .second, .val (.long q5), .second, .val (.int (1 : Int32)), .val (.int (0 : Int32)), .val (.long (q2 &&& (9223372036854775807 : Int64))), .second, .val (.ref b69), .val (.int (1 : Int32))] []) _
          refine XS.iconst X127.here hx rfl (hb hby at_109) ?_
          show own_S p e below T127 (mkF m 110 #[.val (.int p1), .val (.long q2), .second, .val (.long q3), .second, .val (.long q4), .second, .val (.long q5), .second, .val (.int (1 : Int32)), .val (.int (0 : Int32)), .val (.long (q2 &&& (9223372036854775807 : Int64))), .second, .val (.ref b69), .val (.int (1 : Int32))] [(.int (1 : Int32))]) _
          refine XS.goto X127.here hx rfl (pc0 := 110) (pc' := 114) rfl (hb hby at_110) (by decide) (by decide) ?_
          exact kt)
        obtain ⟨fs, hr, hrun, hended, hW, hsame⟩ := X127.leave (v := some (.int (1 : Int32))) (fun h => by rw [Bd.returns] at h; cases h)
        refine ⟨_, _, hGl _ (k133 _ (retN X127 hx (t := .boolean) Bd.returns (by simp) (hb hby at_114) hr)), hrun, hended, _, _, rfl, ?_, ⟨_, rfl⟩, hW, hsame.mono (by decide) (by decide)⟩
        show Q0 Z p1 q2 q3 q4 q5 h0 n0 _ T127.heap _
        rw [eq127]
        exact ⟨rfl, N127⟩

set_option maxRecDepth 65536 in
set_option maxHeartbeats 40000000 in
theorem comes_1 {Post : Tables → Env → Array Value → State → Outcome → State → Prop} (hpost : ∀ tb e args s v u, (limb_1_1.after args s (.returned v) u = true ∧ limb_1_2.after args s (.returned v) u = true ∧ True) → FrameEnd s (.returned v) u (Jvm.fieldLocs frame_1_writes args s ++ Jvm.arrayLocs frame_1_arrays args s ++ Jvm.staticLocs frame_1_statics s) 16 128 → Post tb e args s (.returned v) u) :
    ArmFor flags0 classFile x code maxLocals ret World_1 tables_1 room_1 Calls_1 rest_1 Pre_1 Post := by
  intro l hfl _ _ p e ha hc hk s m args below hf hA hF happ hP
  obtain ⟨hcalls, hrest, hpre⟩ := hP
  obtain ⟨-, -, -, hnamed, -, -, -, hat⟩ := (Spec.applies_iff hf).mp happ
  obtain ⟨hg, hn⟩ := and_e (Cond.before_iff.mp (show (Jvm.Cond.and given_1 narrow_1).before args s = true from hpre))
  obtain ⟨gc, gr0⟩ := and_e hg
  obtain ⟨ga0, gr1⟩ := and_e gr0
  obtain ⟨ga1, gr2⟩ := and_e gr1
  obtain ⟨ga2, gr3⟩ := and_e gr2
  obtain ⟨ga3, gr4⟩ := and_e gr3
  obtain ⟨w0, w1, w2, w3, w4, rfl⟩ : ∃ w0 w1 w2 w3 w4 : Value, args = #[w0, w1, w2, w3, w4] := by
    have hs : args.size = 5 := by simpa [Cond.value, given_1] using gc
    obtain ⟨L⟩ := args
    match L, hs with
    | [w0, w1, w2, w3, w4], _ => exact ⟨w0, w1, w2, w3, w4, rfl⟩
  have hw := fun d (hd : d ∈ tables_1) => atoms_spec (ws := Jvm.Cond.code x code maxLocals ret :: tables_1) hat d (List.mem_cons_of_mem _ hd)
  have hfit : Fit s := fun {y c} hc i hi => by
    obtain ⟨ha, rfl⟩ := Array.getElem?_eq_some_iff.mp hc
    have q := List.all_eq_true.mp ((Array.all_eq_true_iff_forall_mem.mp hF) _ (Array.getElem_mem ha)) i (List.mem_range.mpr hi)
    simpa [Array.getElem?_eq_getElem hi] using q
  obtain ⟨i0, ei0⟩ := is_v ga0
  obtain rfl : w0 = (.int i0) := Option.some.inj ei0
  obtain ⟨i1, ei1⟩ := isL_v ga1
  obtain rfl : w1 = (.long i1) := Option.some.inj ei1
  obtain ⟨i2, ei2⟩ := isL_v ga2
  obtain rfl : w2 = (.long i2) := Option.some.inj ei2
  obtain ⟨i3, ei3⟩ := isL_v ga3
  obtain rfl : w3 = (.long i3) := Option.some.inj ei3
  obtain ⟨i4, ei4⟩ := isL_v gr4
  obtain rfl : w4 = (.long i4) := Option.some.inj ei4
  obtain ⟨m1, m2⟩ := and_e hn
  obtain ⟨n, o, h1, h2, h3, _, L, rfl, ⟨rfl, N⟩, hq⟩ := rm0 l s _ hw tables_1 i0 i1 i2 i3 i4  s.heap s.heap.size (Nat.le_refl _) (Old.start s) (Sta.start (own_eql m1) (Or.inr ⟨(hw _ (List.mem_of_getElem? (i := 19) rfl)), (hw _ (List.mem_of_getElem? (i := 20) rfl))⟩)) (Sta.start (own_eql m2) (Or.inr ⟨(hw _ (List.mem_of_getElem? (i := 19) rfl)), (hw _ (List.mem_of_getElem? (i := 22) rfl))⟩)) p e ha hc hk s m _ below hf ((Spec.applies_iff_loose hf).mp happ).1 ⟨rfl, State.Warmed39.refl s, rfl⟩ trivial
  refine ⟨n, _, h1, h2, h3, hpost _ _ _ _ _ _ ⟨Cond.after_iff.mpr rfl, Cond.after_iff.mpr (eq_i res_at (Term.int_eval (1)) rfl), trivial⟩ ⟨hq.1, hq.2.1, (hq.2.2.sift fun y hy => Or.inr (N y hy)).mono (by decide) (by decide)⟩⟩
theorem main_1_1 : Claimed_1_1 := comes_1 fun _ _ _ _ _ _ h hF => ⟨h.1, hF⟩
theorem main_1_2 : Claimed_1_2 := comes_1 fun _ _ _ _ _ _ h hF => ⟨h.2.1, hF⟩

end Jvm.Pilot.@@N@@
namespace Jvm.Pilot.@@N@@
open Jvm Jvm.ClassFile Sem Op Lib Jvm.Free Jvm.Stand Jvm.Pilot.@@N@@.Jvm.D
/-! MADE BY PROGRAM (witnessworld.py) out of the Statement's table words and the real class files: 13 classes; the members and pool entries that the words name. The judged class is class 1, her method 1. -/
namespace start1
open Jvm.ClassFile
def u (s : String) : CpInfo := .utf8 (stringToUtf16 s)
/-- a pool by its gaps: so many unusable entries, then the entry; so many at the end -/
def gap : Nat → List CpInfo → List CpInfo
  | 0, r => r
  | n + 1, r => .unusable :: gap n r
def poolList (es : List (Nat × CpInfo)) (last : Nat) : List CpInfo := es.foldr (fun e r => gap e.1 (e.2 :: r)) (gap last [])
def pool (es : List (Nat × CpInfo)) (last : Nat) : Array CpInfo := ⟨poolList es last⟩
def fileOf (pool : Array CpInfo) (this : Nat) (attrs : Array Attribute := #[]) (ms : Array MethodInfo := #[]) (fl : Nat := 33) (sup : Nat := 0) (ifs : Array Nat := #[]) (fds : Array FieldInfo := #[]) : ClassFile where
  minorVersion := 0
  majorVersion := 65
  constantPool := pool
  accessFlags := fl
  thisClass := this
  superClass := sup
  interfaces := ifs
  fields := fds
  methods := ms
  attributes := attrs
def plain (name : String) (sup : Option ClassId) : Class where
  name := name
  kind := .ordinary
  loader := none
  accessFlags := 33
  super := sup
  interfaces := #[]
  cf := none
  fields := #[]
  methods := #[]
  instanceTypes := #[]
  staticTypes := #[]
  resolved := #[]
  callSites := []
  init := .initialized
  statics := none
  mirror := none

def pool0 : Array CpInfo := pool [(5, u "<init>"), (0, u "()V"), (1, .class_ 10), (1, u "java/lang/Object")] 113

def k0c0 : Code := { maxStack := 0, maxLocals := 1, code := object_method_1_code, exceptionTable := #[], attributes := #[] }
def k0m0 : Method := { name := "<init>", desc := "()V", sig := { parameters := [], returnType := none }, accessFlags := 1, code := some k0c0 }
/-- java/lang/Object -/
def k0 : Class := { plain "java/lang/Object" none with
  accessFlags := 33
  interfaces := #[]
  cf := some (fileOf pool0 8 #[] #[{ accessFlags := 1, nameIndex := 5, descriptorIndex := 6, attributes := #[] }] 33 0 #[] #[])
  fields := #[]
  methods := #[k0m0]
  instanceTypes := #[]
  staticTypes := #[]
  resolved := Array.replicate 124 none
  statics := none }

def pool1 : Array CpInfo := pool [(2, .class_ 4), (1, u "java/lang/Object"), (0, u "<init>"), (0, u "()V"), (2, .long 9223372036854775807), (1, .class_ 12), (0, u "com/example/pricecollar/pricecollar/engine/ReferencePrices"), (0, .methodref 11 14), (0, .nameAndType 5 15), (0, u "(I)V"), (0, .methodref 11 17), (0, .nameAndType 18 19), (0, u "open"), (0, u "(IJJ)V"), (0, .methodref 11 21), (0, .nameAndType 22 23), (0, u "enterReopeningPrint"), (0, u "(IJ)V"), (0, .long 18446744073709551615), (1, .methodref 27 28), (0, .class_ 29), (0, .nameAndType 30 31), (0, u "com/example/pricecollar/pricecollar/engine/ReferencePricesHasRoomForPinLaw"), (0, u "fits"), (0, u "(JJ)Z"), (0, .methodref 11 33), (0, .nameAndType 34 35), (0, u "hasRoomFor"), (0, u "(IJ)Z"), (2, u "law"), (0, u "(IJJJJ)Z")] 3

def k1m0 : Method := { name := "<init>", desc := "()V", sig := { parameters := [], returnType := none }, accessFlags := 2, code := none }
def k1c1 : Code := { maxStack := 6, maxLocals := 15, code := code, exceptionTable := #[], attributes := #[] }
def k1m1 : Method := { name := "law", desc := "(IJJJJ)Z", sig := { parameters := [.int, .long, .long, .long, .long], returnType := some .boolean }, accessFlags := 9, code := some k1c1 }
def k1c2 : Code := { maxStack := 4, maxLocals := 4, code := method_3_code, exceptionTable := #[], attributes := #[] }
def k1m2 : Method := { name := "fits", desc := "(JJ)Z", sig := { parameters := [.long, .long], returnType := some .boolean }, accessFlags := 10, code := some k1c2 }
/-- com/example/pricecollar/pricecollar/engine/ReferencePricesHasRoomForPinLaw -/
def k1 : Class := { plain "com/example/pricecollar/pricecollar/engine/ReferencePricesHasRoomForPinLaw" (some 0) with
  accessFlags := 49
  interfaces := #[]
  cf := some (fileOf pool1 27 #[] #[{ accessFlags := 2, nameIndex := 5, descriptorIndex := 6, attributes := #[] }, { accessFlags := 9, nameIndex := 38, descriptorIndex := 39, attributes := #[] }, { accessFlags := 10, nameIndex := 30, descriptorIndex := 31, attributes := #[] }] 49 2 #[] #[])
  fields := #[]
  methods := #[k1m0, k1m1, k1m2]
  instanceTypes := #[]
  staticTypes := #[]
  resolved := Array.replicate 43 none
  statics := none }

def pool2 : Array CpInfo := pool [(1, .methodref 2 3), (0, .class_ 4), (0, .nameAndType 5 6), (0, u "java/lang/Object"), (0, u "<init>"), (0, u "()V"), (0, .class_ 8), (0, u "com/example/pricecollar/pricecollar/engine/ReferencePrices"), (0, .fieldref 7 10), (0, .nameAndType 11 12), (0, u "numbers"), (0, u "[J"), (7, .long 9223372036854775807), (1, .fieldref 23 24), (0, .class_ 25), (0, .nameAndType 26 27), (0, u "com/example/pricecollar/pricecollar/engine/BandRules"), (0, u "HOLD_LENGTH"), (0, u "J"), (0, .fieldref 23 29), (0, .nameAndType 30 27), (0, u "OPENING_PERIOD_LENGTH"), (3, u "(I)V"), (6, u "enterReopeningPrint"), (0, u "(IJ)V"), (0, .methodref 44 45), (0, .class_ 46), (0, .nameAndType 47 48), (0, u "java/lang/Math"), (0, u "addExact"), (0, u "(JJ)J"), (22, u "IN_FORCE_TOTAL"), (0, u "I"), (2, u "IN_FORCE_COUNT"), (1, u "WINDOW_TOTAL"), (1, u "WINDOW_COUNT"), (1, u "OPENING_TOTAL"), (1, u "OPENING_COUNT"), (1, u "HOLD_END"), (1, u "OPENING_END"), (1, u "ROW"), (9, u "hasRoomFor"), (0, u "(IJ)Z"), (0, u "open"), (0, u "(IJJ)V")] 9

def k2c0 : Code := { maxStack := 3, maxLocals := 2, code := prog_25_method_1_code, exceptionTable := #[], attributes := #[] }
def k2m0 : Method := { name := "<init>", desc := "(I)V", sig := { parameters := [.int], returnType := none }, accessFlags := 0, code := some k2c0 }
def k2c1 : Code := { maxStack := 4, maxLocals := 7, code := prog_25_method_6_code, exceptionTable := #[], attributes := #[] }
def k2m1 : Method := { name := "hasRoomFor", desc := "(IJ)Z", sig := { parameters := [.int, .long], returnType := some .boolean }, accessFlags := 0, code := some k2c1 }
def k2c2 : Code := { maxStack := 6, maxLocals := 7, code := prog_25_method_7_code, exceptionTable := #[], attributes := #[] }
def k2m2 : Method := { name := "open", desc := "(IJJ)V", sig := { parameters := [.int, .long, .long], returnType := none }, accessFlags := 0, code := some k2c2 }
def k2c3 : Code := { maxStack := 6, maxLocals := 5, code := prog_25_method_10_code, exceptionTable := #[], attributes := #[] }
def k2m3 : Method := { name := "enterReopeningPrint", desc := "(IJ)V", sig := { parameters := [.int, .long], returnType := none }, accessFlags := 0, code := some k2c3 }
/-- com/example/pricecollar/pricecollar/engine/ReferencePrices -/
def k2 : Class := { plain "com/example/pricecollar/pricecollar/engine/ReferencePrices" (some 0) with
  accessFlags := 48
  interfaces := #[]
  cf := some (fileOf pool2 7 #[] #[{ accessFlags := 0, nameIndex := 5, descriptorIndex := 34, attributes := #[] }, { accessFlags := 0, nameIndex := 99, descriptorIndex := 100, attributes := #[] }, { accessFlags := 0, nameIndex := 101, descriptorIndex := 102, attributes := #[] }, { accessFlags := 0, nameIndex := 41, descriptorIndex := 42, attributes := #[] }] 48 2 #[] #[{ accessFlags := 26, nameIndex := 71, descriptorIndex := 72, attributes := #[] }, { accessFlags := 26, nameIndex := 75, descriptorIndex := 72, attributes := #[] }, { accessFlags := 26, nameIndex := 77, descriptorIndex := 72, attributes := #[] }, { accessFlags := 26, nameIndex := 79, descriptorIndex := 72, attributes := #[] }, { accessFlags := 26, nameIndex := 81, descriptorIndex := 72, attributes := #[] }, { accessFlags := 26, nameIndex := 83, descriptorIndex := 72, attributes := #[] }, { accessFlags := 26, nameIndex := 85, descriptorIndex := 72, attributes := #[] }, { accessFlags := 26, nameIndex := 87, descriptorIndex := 72, attributes := #[] }, { accessFlags := 26, nameIndex := 89, descriptorIndex := 72, attributes := #[] }, { accessFlags := 18, nameIndex := 11, descriptorIndex := 12, attributes := #[] }])
  fields := #[{ name := "IN_FORCE_TOTAL", type := .int, accessFlags := 26, slot := 0, constantValue := 0 }, { name := "IN_FORCE_COUNT", type := .int, accessFlags := 26, slot := 1, constantValue := 0 }, { name := "WINDOW_TOTAL", type := .int, accessFlags := 26, slot := 2, constantValue := 0 }, { name := "WINDOW_COUNT", type := .int, accessFlags := 26, slot := 3, constantValue := 0 }, { name := "OPENING_TOTAL", type := .int, accessFlags := 26, slot := 4, constantValue := 0 }, { name := "OPENING_COUNT", type := .int, accessFlags := 26, slot := 5, constantValue := 0 }, { name := "HOLD_END", type := .int, accessFlags := 26, slot := 6, constantValue := 0 }, { name := "OPENING_END", type := .int, accessFlags := 26, slot := 7, constantValue := 0 }, { name := "ROW", type := .int, accessFlags := 26, slot := 8, constantValue := 0 }, { name := "numbers", type := (.array .long), accessFlags := 18, slot := 0, constantValue := 0 }]
  methods := #[k2m0, k2m1, k2m2, k2m3]
  instanceTypes := #[(.array .long)]
  staticTypes := #[.int, .int, .int, .int, .int, .int, .int, .int, .int]
  resolved := Array.replicate 112 none
  statics := none }

def pool3 : Array CpInfo := pool [(2, .class_ 4), (1, u "java/lang/Object"), (0, u "<init>"), (0, u "()V"), (7, .class_ 16), (1, u "com/example/pricecollar/pricecollar/engine/BandRules"), (0, u "OPEN"), (0, u "J"), (2, u "OPENING_PRICE_DEADLINE"), (9, u "OPENING_CONDITIONS"), (0, u "Lcom/example/pricecollar/pricecollar/engine/ConditionCodes;"), (4, u "INELIGIBLE_CONDITIONS"), (2, u "WINDOW_LENGTH"), (2, u "OPENING_PERIOD_LENGTH"), (2, u "HOLD_LENGTH"), (2, u "LIMIT_STATE_LENGTH"), (2, u "FAILED_REOPENING_DELAY"), (2, u "WIDENED_LENGTH"), (2, u "RESUMPTION_LENGTH"), (2, u "NO_REOPENING_BEFORE_CLOSE"), (2, u "LATEST_PAUSE_END_AFTER_CLOSE"), (4, u "CLOSING_CONDITIONS"), (2, u "OPENING_DOUBLING_END"), (2, u "CLOSING_DOUBLING_LENGTH"), (2, u "CLOSE"), (5, u "Ljava/math/BigDecimal;"), (2, u "CENT_ROUNDING_FROM"), (8, u "CENT_ROUNDING_FROM_MICROS"), (5, u "HIGH_CLASS_ABOVE"), (4, u "MIDDLE_CLASS_FROM"), (0, u "MOVE_PERCENT"), (3, u "WIDENING"), (0, u "I"), (1, u "DOUBLING"), (1, u "CENT_SCALE"), (0, u "SUB_CENT_SCALE"), (7, .class_ 127), (0, u "com/example/pricecollar/pricecollar/engine/BandRules$PriceClass")] 2

def k3m0 : Method := { name := "<init>", desc := "()V", sig := { parameters := [], returnType := none }, accessFlags := 2, code := none }
/-- com/example/pricecollar/pricecollar/engine/BandRules -/
def k3 : Class := { plain "com/example/pricecollar/pricecollar/engine/BandRules" (some 0) with
  accessFlags := 48
  interfaces := #[]
  cf := some (fileOf pool3 14 #[.nestMembers #[126]] #[{ accessFlags := 2, nameIndex := 5, descriptorIndex := 6, attributes := #[] }] 48 2 #[] #[{ accessFlags := 24, nameIndex := 17, descriptorIndex := 18, attributes := #[] }, { accessFlags := 24, nameIndex := 21, descriptorIndex := 18, attributes := #[] }, { accessFlags := 24, nameIndex := 31, descriptorIndex := 32, attributes := #[] }, { accessFlags := 24, nameIndex := 37, descriptorIndex := 32, attributes := #[] }, { accessFlags := 24, nameIndex := 40, descriptorIndex := 18, attributes := #[] }, { accessFlags := 24, nameIndex := 43, descriptorIndex := 18, attributes := #[] }, { accessFlags := 24, nameIndex := 108, descriptorIndex := 18, attributes := #[] }, { accessFlags := 24, nameIndex := 46, descriptorIndex := 18, attributes := #[] }, { accessFlags := 24, nameIndex := 49, descriptorIndex := 18, attributes := #[] }, { accessFlags := 24, nameIndex := 52, descriptorIndex := 18, attributes := #[] }, { accessFlags := 24, nameIndex := 55, descriptorIndex := 18, attributes := #[] }, { accessFlags := 24, nameIndex := 112, descriptorIndex := 113, attributes := #[] }, { accessFlags := 24, nameIndex := 58, descriptorIndex := 18, attributes := #[] }, { accessFlags := 24, nameIndex := 61, descriptorIndex := 18, attributes := #[] }, { accessFlags := 24, nameIndex := 64, descriptorIndex := 18, attributes := #[] }, { accessFlags := 24, nameIndex := 69, descriptorIndex := 32, attributes := #[] }, { accessFlags := 24, nameIndex := 72, descriptorIndex := 18, attributes := #[] }, { accessFlags := 24, nameIndex := 75, descriptorIndex := 18, attributes := #[] }, { accessFlags := 24, nameIndex := 78, descriptorIndex := 18, attributes := #[] }, { accessFlags := 24, nameIndex := 115, descriptorIndex := 113, attributes := #[] }, { accessFlags := 24, nameIndex := 87, descriptorIndex := 84, attributes := #[] }, { accessFlags := 24, nameIndex := 96, descriptorIndex := 18, attributes := #[] }, { accessFlags := 24, nameIndex := 117, descriptorIndex := 113, attributes := #[] }, { accessFlags := 24, nameIndex := 118, descriptorIndex := 113, attributes := #[] }, { accessFlags := 26, nameIndex := 102, descriptorIndex := 18, attributes := #[] }, { accessFlags := 26, nameIndex := 107, descriptorIndex := 18, attributes := #[] }])
  fields := #[{ name := "OPEN", type := .long, accessFlags := 24, slot := 0, constantValue := 0 }, { name := "OPENING_PRICE_DEADLINE", type := .long, accessFlags := 24, slot := 1, constantValue := 0 }, { name := "OPENING_CONDITIONS", type := (.object "com/example/pricecollar/pricecollar/engine/ConditionCodes"), accessFlags := 24, slot := 2, constantValue := 0 }, { name := "INELIGIBLE_CONDITIONS", type := (.object "com/example/pricecollar/pricecollar/engine/ConditionCodes"), accessFlags := 24, slot := 3, constantValue := 0 }, { name := "WINDOW_LENGTH", type := .long, accessFlags := 24, slot := 4, constantValue := 0 }, { name := "OPENING_PERIOD_LENGTH", type := .long, accessFlags := 24, slot := 5, constantValue := 0 }, { name := "MOVE_PERCENT", type := .long, accessFlags := 24, slot := 6, constantValue := 0 }, { name := "HOLD_LENGTH", type := .long, accessFlags := 24, slot := 7, constantValue := 0 }, { name := "LIMIT_STATE_LENGTH", type := .long, accessFlags := 24, slot := 8, constantValue := 0 }, { name := "FAILED_REOPENING_DELAY", type := .long, accessFlags := 24, slot := 9, constantValue := 0 }, { name := "WIDENED_LENGTH", type := .long, accessFlags := 24, slot := 10, constantValue := 0 }, { name := "WIDENING", type := .int, accessFlags := 24, slot := 11, constantValue := 0 }, { name := "RESUMPTION_LENGTH", type := .long, accessFlags := 24, slot := 12, constantValue := 0 }, { name := "NO_REOPENING_BEFORE_CLOSE", type := .long, accessFlags := 24, slot := 13, constantValue := 0 }, { name := "LATEST_PAUSE_END_AFTER_CLOSE", type := .long, accessFlags := 24, slot := 14, constantValue := 0 }, { name := "CLOSING_CONDITIONS", type := (.object "com/example/pricecollar/pricecollar/engine/ConditionCodes"), accessFlags := 24, slot := 15, constantValue := 0 }, { name := "OPENING_DOUBLING_END", type := .long, accessFlags := 24, slot := 16, constantValue := 0 }, { name := "CLOSING_DOUBLING_LENGTH", type := .long, accessFlags := 24, slot := 17, constantValue := 0 }, { name := "CLOSE", type := .long, accessFlags := 24, slot := 18, constantValue := 0 }, { name := "DOUBLING", type := .int, accessFlags := 24, slot := 19, constantValue := 0 }, { name := "CENT_ROUNDING_FROM", type := (.object "java/math/BigDecimal"), accessFlags := 24, slot := 20, constantValue := 0 }, { name := "CENT_ROUNDING_FROM_MICROS", type := .long, accessFlags := 24, slot := 21, constantValue := 0 }, { name := "CENT_SCALE", type := .int, accessFlags := 24, slot := 22, constantValue := 0 }, { name := "SUB_CENT_SCALE", type := .int, accessFlags := 24, slot := 23, constantValue := 0 }, { name := "HIGH_CLASS_ABOVE", type := .long, accessFlags := 26, slot := 24, constantValue := 0 }, { name := "MIDDLE_CLASS_FROM", type := .long, accessFlags := 26, slot := 25, constantValue := 0 }]
  methods := #[k3m0]
  instanceTypes := #[]
  staticTypes := #[.long, .long, (.object "com/example/pricecollar/pricecollar/engine/ConditionCodes"), (.object "com/example/pricecollar/pricecollar/engine/ConditionCodes"), .long, .long, .long, .long, .long, .long, .long, .int, .long, .long, .long, (.object "com/example/pricecollar/pricecollar/engine/ConditionCodes"), .long, .long, .long, .int, (.object "java/math/BigDecimal"), .long, .int, .int, .long, .long]
  resolved := Array.replicate 130 none
  statics := some 0 }

def pool4 : Array CpInfo := pool [(1, .class_ 2), (0, u "java/lang/Math"), (1, .class_ 6), (1, u "java/lang/Object"), (0, u "<init>"), (0, u "()V"), (89, .class_ 100), (1, u "java/lang/Math$RandomNumberGeneratorHolder"), (20, u "(JJ)J"), (50, u "negativeZeroFloatBits"), (0, u "J"), (2, u "negativeZeroDoubleBits"), (68, u "$assertionsDisabled"), (0, u "Z"), (91, u "twoToTheDoubleScaleDown"), (0, u "D"), (4, u "twoToTheDoubleScaleUp"), (9, u "E"), (3, u "PI"), (2, u "TAU"), (2, u "DEGREES_TO_RADIANS"), (0, u "RADIANS_TO_DEGREES"), (27, u "addExact")] 66

def k4m0 : Method := { name := "<init>", desc := "()V", sig := { parameters := [], returnType := none }, accessFlags := 2, code := none }
def k4c1 : Code := { maxStack := 6, maxLocals := 6, code := jdk_29_method_25_code, exceptionTable := #[], attributes := #[] }
def k4m1 : Method := { name := "addExact", desc := "(JJ)J", sig := { parameters := [.long, .long], returnType := some .long }, accessFlags := 9, code := some k4c1 }
/-- java/lang/Math -/
def k4 : Class := { plain "java/lang/Math" (some 0) with
  accessFlags := 49
  interfaces := #[]
  cf := some (fileOf pool4 1 #[.nestMembers #[98]] #[{ accessFlags := 2, nameIndex := 7, descriptorIndex := 8, attributes := #[] }, { accessFlags := 9, nameIndex := 393, descriptorIndex := 121, attributes := #[] }] 49 4 #[] #[{ accessFlags := 25, nameIndex := 354, descriptorIndex := 339, attributes := #[] }, { accessFlags := 25, nameIndex := 358, descriptorIndex := 339, attributes := #[] }, { accessFlags := 25, nameIndex := 361, descriptorIndex := 339, attributes := #[] }, { accessFlags := 26, nameIndex := 364, descriptorIndex := 339, attributes := #[] }, { accessFlags := 26, nameIndex := 365, descriptorIndex := 339, attributes := #[] }, { accessFlags := 26, nameIndex := 172, descriptorIndex := 173, attributes := #[] }, { accessFlags := 26, nameIndex := 176, descriptorIndex := 173, attributes := #[] }, { accessFlags := 8, nameIndex := 344, descriptorIndex := 339, attributes := #[] }, { accessFlags := 8, nameIndex := 338, descriptorIndex := 339, attributes := #[] }, { accessFlags := 4120, nameIndex := 245, descriptorIndex := 246, attributes := #[] }])
  fields := #[{ name := "E", type := .double, accessFlags := 25, slot := 0, constantValue := 0 }, { name := "PI", type := .double, accessFlags := 25, slot := 1, constantValue := 0 }, { name := "TAU", type := .double, accessFlags := 25, slot := 2, constantValue := 0 }, { name := "DEGREES_TO_RADIANS", type := .double, accessFlags := 26, slot := 3, constantValue := 0 }, { name := "RADIANS_TO_DEGREES", type := .double, accessFlags := 26, slot := 4, constantValue := 0 }, { name := "negativeZeroFloatBits", type := .long, accessFlags := 26, slot := 5, constantValue := 0 }, { name := "negativeZeroDoubleBits", type := .long, accessFlags := 26, slot := 6, constantValue := 0 }, { name := "twoToTheDoubleScaleUp", type := .double, accessFlags := 8, slot := 7, constantValue := 0 }, { name := "twoToTheDoubleScaleDown", type := .double, accessFlags := 8, slot := 8, constantValue := 0 }, { name := "$assertionsDisabled", type := .boolean, accessFlags := 4120, slot := 9, constantValue := 0 }]
  methods := #[k4m0, k4m1]
  instanceTypes := #[]
  staticTypes := #[.double, .double, .double, .double, .double, .long, .long, .double, .double, .boolean]
  resolved := Array.replicate 460 none
  statics := none }

def pool5 : Array CpInfo := pool [(1, u "java/lang/Cloneable"), (0, .class_ 1), (0, u "java/lang/Object"), (0, .class_ 3)] 3

/-- java/lang/Cloneable -/
def k5 : Class := { plain "java/lang/Cloneable" (some 0) with
  accessFlags := 1537
  interfaces := #[]
  cf := some (fileOf pool5 2 #[] #[] 1537 4 #[] #[])
  fields := #[]
  methods := #[]
  instanceTypes := #[]
  staticTypes := #[]
  resolved := Array.replicate 8 none
  statics := none }

def pool6 : Array CpInfo := pool [(1, u "java/io/Serializable"), (0, .class_ 1), (0, u "java/lang/Object"), (0, .class_ 3)] 3

/-- java/io/Serializable -/
def k6 : Class := { plain "java/io/Serializable" (some 0) with
  accessFlags := 1537
  interfaces := #[]
  cf := some (fileOf pool6 2 #[] #[] 1537 4 #[] #[])
  fields := #[]
  methods := #[]
  instanceTypes := #[]
  staticTypes := #[]
  resolved := Array.replicate 8 none
  statics := none }

/-- the primitive byte -/
def k7 : Class := { plain "byte" none with kind := .primitive 'B', accessFlags := 0x411 }
/-- [B -/
def k8 : Class := { plain "[B" (some 0) with kind := .array 7 .byte, interfaces := #[5, 6], accessFlags := 1041 }

/-- the primitive int -/
def k9 : Class := { plain "int" none with kind := .primitive 'I', accessFlags := 0x411 }
/-- [I -/
def k10 : Class := { plain "[I" (some 0) with kind := .array 9 .int, interfaces := #[5, 6], accessFlags := 1041 }

/-- the primitive long -/
def k11 : Class := { plain "long" none with kind := .primitive 'J', accessFlags := 0x411 }
/-- [J -/
def k12 : Class := { plain "[J" (some 0) with kind := .array 11 .long, interfaces := #[5, 6], accessFlags := 1041 }

def heap : Heap := #[{ cls := 3, slots := #[.long 0, .long 0, .null, .null, .long 0, .long 300000000, .long 0, .long 30000000, .long 0, .long 0, .long 0, .int 0, .long 0, .long 0, .long 0, .null, .long 0, .long 0, .long 0, .int 0, .null, .long 0, .int 0, .int 0, .long 0, .long 0], vm := .statics 3 }]
def classes : Array Class := #[k0, k1, k2, k3, k4, k5, k6, k7, k8, k9, k10, k11, k12]
def interned : List (Array UInt16 × Addr) := []
def slotsUsed : Nat := 26
def theMethod : MethodId := ⟨1, 1⟩
def args0 : Array Value := #[.int 5, .long 1, .long 2, .long 3, .long 4]
def aboutOver (below : List Frame) : State where
  vm := { classes := classes, interned := interned.toArray }
  heap := heap
  slotsUsed := slotsUsed
  threads := #[{ frames := .invoking theMethod args0 :: below }]
def below0 : List Frame := [.native { method := ⟨0, 0⟩, args := #[] }]
def about1 : State := aboutOver below0
def p0 : Program := .bare "" "" ""
def e0 : Env := launch0.env 0 0 0
theorem w_frames : about1.frames = Frame.invoking theMethod args0 :: below0 := rfl
set_option maxRecDepth 65536 in
theorem w_args : argsFit about1.vm theMethod args0 = true := by decide +kernel
set_option maxRecDepth 65536 in
theorem w_heap : heapFits about1 = true := by decide +kernel
set_option maxRecDepth 65536 in
theorem w_runnable : about1.curStatus? = some .runnable := by decide +kernel
set_option maxRecDepth 65536 in
theorem w_alone : about1.alone = true := by decide +kernel
set_option maxRecDepth 65536 in
theorem w_named : about1.methodNamed? x = some theMethod := by decide +kernel
set_option maxRecDepth 65536 in
theorem w_hears : about1.hears theMethod below0 = true := by decide +kernel
set_option maxRecDepth 65536 in
theorem w_ripe : about1.ripe theMethod args0 below0 = true := by decide +kernel
theorem w_running : about1.status = .running := rfl
set_option maxRecDepth 65536 in
theorem w_room : about1.hasRoom e0.platform room_1 = true :=
  launch0.hasRoom_least _ room_1 (by decide +kernel) (by decide +kernel) (by decide +kernel) (by decide +kernel) (by decide +kernel) (by decide +kernel)
theorem allAtoms_all (ts : List Jvm.Cond) (a : Array Jvm.Value) (st : Jvm.State) : (allAtoms ts).before a st = ts.all (fun c => c.before a st) := by
  induction ts with
  | nil => rfl
  | cons c t ih =>
    show (Jvm.Cond.and c (allAtoms t)).before a st = _
    rw [Jvm.Cond.before_and, ih, List.all_cons]
def words1 : List Jvm.Cond := Jvm.Cond.code x code maxLocals ret :: tables_1
/-- a 'code' word, met by the world's own term for the bytes: nothing is compared byte by byte -/
theorem code_word {y : MethodName} {bytes : ByteArray} {mx : Nat} {rt : Option FieldType} {a : Array Value} {s : State} {m : MethodId} {meth : Method} {c : Code} (h1 : s.methodNamed? y = some m) (h2 : s.vm.method? m = some meth) (h3 : meth.code = some c) (h4 : c.code = bytes)
    (h5 : (c.maxLocals == mx && c.exceptionTable.isEmpty && decide (c.maxStack ≤ mostOperands) && decide (meth.sig.returnType = rt) && !meth.locks && decide (parseMethodDescriptor y.desc = some meth.sig)) = true) : (Jvm.Cond.code y bytes mx rt).before a s = true := by
  simp only [Bool.and_eq_true, beq_iff_eq, Bool.not_eq_true', decide_eq_true_eq] at h5
  obtain ⟨⟨⟨⟨⟨g1, g2⟩, g3⟩, g4⟩, g5⟩, g6⟩ := h5
  simp [Cond.before, Cond.holds, Cond.value, h1, h2, h3, h4, g1, g2, g3, g4, g5, g6]
def isCode : Jvm.Cond → Bool
  | .code _ _ _ _ => true
  | _ => false
theorem all_split {L : List Jvm.Cond} {P : Jvm.Cond → Bool} (h1 : L.all (fun c => isCode c || P c) = true) (h2 : ∀ c ∈ L.filter isCode, P c = true) : L.all P = true := by
  refine List.all_eq_true.mpr fun c hc => ?_
  have h := List.all_eq_true.mp h1 c hc
  rcases Bool.eq_false_or_eq_true (isCode c) with hi | hi
  · exact h2 c (List.mem_filter.mpr ⟨hc, hi⟩)
  · simpa [hi] using h
set_option maxRecDepth 65536 in
theorem w_c0 : (Jvm.Cond.code x code maxLocals ret).before args0 about1 = true := code_word (m := ⟨1, 1⟩) (meth := k1m1) (c := k1c1) (by decide +kernel) rfl rfl rfl (by decide +kernel)
set_option maxRecDepth 65536 in
theorem w_c1 : (Jvm.Cond.code ({ cls := "com/example/pricecollar/pricecollar/engine/ReferencePrices", name := "<init>", desc := "(I)V" } : Jvm.MethodName) prog_25_method_1_code (2 : Nat) (Option.none : Option Jvm.ClassFile.FieldType)).before args0 about1 = true := code_word (m := ⟨2, 0⟩) (meth := k2m0) (c := k2c0) (by decide +kernel) rfl rfl rfl (by decide +kernel)
set_option maxRecDepth 65536 in
theorem w_c2 : (Jvm.Cond.code ({ cls := "java/lang/Object", name := "<init>", desc := "()V" } : Jvm.MethodName) object_method_1_code (1 : Nat) (Option.none : Option Jvm.ClassFile.FieldType)).before args0 about1 = true := code_word (m := ⟨0, 0⟩) (meth := k0m0) (c := k0c0) (by decide +kernel) rfl rfl rfl (by decide +kernel)
set_option maxRecDepth 65536 in
theorem w_c3 : (Jvm.Cond.code ({ cls := "com/example/pricecollar/pricecollar/engine/ReferencePrices", name := "open", desc := "(IJJ)V" } : Jvm.MethodName) prog_25_method_7_code (7 : Nat) (Option.none : Option Jvm.ClassFile.FieldType)).before args0 about1 = true := code_word (m := ⟨2, 2⟩) (meth := k2m2) (c := k2c2) (by decide +kernel) rfl rfl rfl (by decide +kernel)
set_option maxRecDepth 65536 in
theorem w_c4 : (Jvm.Cond.code ({ cls := "com/example/pricecollar/pricecollar/engine/ReferencePrices", name := "enterReopeningPrint", desc := "(IJ)V" } : Jvm.MethodName) prog_25_method_10_code (5 : Nat) (Option.none : Option Jvm.ClassFile.FieldType)).before args0 about1 = true := code_word (m := ⟨2, 3⟩) (meth := k2m3) (c := k2c3) (by decide +kernel) rfl rfl rfl (by decide +kernel)
set_option maxRecDepth 65536 in
theorem w_c5 : (Jvm.Cond.code ({ cls := "java/lang/Math", name := "addExact", desc := "(JJ)J" } : Jvm.MethodName) jdk_29_method_25_code (6 : Nat) (Option.some Jvm.ClassFile.FieldType.long)).before args0 about1 = true := code_word (m := ⟨4, 1⟩) (meth := k4m1) (c := k4c1) (by decide +kernel) rfl rfl rfl (by decide +kernel)
set_option maxRecDepth 65536 in
theorem w_c6 : (Jvm.Cond.code ({ cls := "com/example/pricecollar/pricecollar/engine/ReferencePricesHasRoomForPinLaw", name := "fits", desc := "(JJ)Z" } : Jvm.MethodName) method_3_code (4 : Nat) (Option.some Jvm.ClassFile.FieldType.boolean)).before args0 about1 = true := code_word (m := ⟨1, 2⟩) (meth := k1m2) (c := k1c2) (by decide +kernel) rfl rfl rfl (by decide +kernel)
set_option maxRecDepth 65536 in
theorem w_c7 : (Jvm.Cond.code ({ cls := "com/example/pricecollar/pricecollar/engine/ReferencePrices", name := "hasRoomFor", desc := "(IJ)Z" } : Jvm.MethodName) prog_25_method_6_code (7 : Nat) (Option.some Jvm.ClassFile.FieldType.boolean)).before args0 about1 = true := code_word (m := ⟨2, 1⟩) (meth := k2m1) (c := k2c1) (by decide +kernel) rfl rfl rfl (by decide +kernel)
def codes1 : List Jvm.Cond := [Jvm.Cond.code x code maxLocals ret, Jvm.Cond.code ({ cls := "com/example/pricecollar/pricecollar/engine/ReferencePrices", name := "<init>", desc := "(I)V" } : Jvm.MethodName) prog_25_method_1_code (2 : Nat) (Option.none : Option Jvm.ClassFile.FieldType), Jvm.Cond.code ({ cls := "java/lang/Object", name := "<init>", desc := "()V" } : Jvm.MethodName) object_method_1_code (1 : Nat) (Option.none : Option Jvm.ClassFile.FieldType), Jvm.Cond.code ({ cls := "com/example/pricecollar/pricecollar/engine/ReferencePrices", name := "open", desc := "(IJJ)V" } : Jvm.MethodName) prog_25_method_7_code (7 : Nat) (Option.none : Option Jvm.ClassFile.FieldType), Jvm.Cond.code ({ cls := "com/example/pricecollar/pricecollar/engine/ReferencePrices", name := "enterReopeningPrint", desc := "(IJ)V" } : Jvm.MethodName) prog_25_method_10_code (5 : Nat) (Option.none : Option Jvm.ClassFile.FieldType), Jvm.Cond.code ({ cls := "java/lang/Math", name := "addExact", desc := "(JJ)J" } : Jvm.MethodName) jdk_29_method_25_code (6 : Nat) (Option.some Jvm.ClassFile.FieldType.long), Jvm.Cond.code ({ cls := "com/example/pricecollar/pricecollar/engine/ReferencePricesHasRoomForPinLaw", name := "fits", desc := "(JJ)Z" } : Jvm.MethodName) method_3_code (4 : Nat) (Option.some Jvm.ClassFile.FieldType.boolean), Jvm.Cond.code ({ cls := "com/example/pricecollar/pricecollar/engine/ReferencePrices", name := "hasRoomFor", desc := "(IJ)Z" } : Jvm.MethodName) prog_25_method_6_code (7 : Nat) (Option.some Jvm.ClassFile.FieldType.boolean)]
set_option maxRecDepth 65536 in
theorem codes_eq : words1.filter isCode = codes1 := rfl
theorem w_codes : ∀ c ∈ words1.filter isCode, c.before args0 about1 = true := by
  rw [codes_eq]
  intro c hc
  simp only [codes1, List.mem_cons, List.not_mem_nil, or_false] at hc
  rcases hc with rfl | rfl | rfl | rfl | rfl | rfl | rfl | rfl
  · exact w_c0
  · exact w_c1
  · exact w_c2
  · exact w_c3
  · exact w_c4
  · exact w_c5
  · exact w_c6
  · exact w_c7
set_option maxRecDepth 65536 in
theorem w_t1 : (words1.take 24).all (fun c => isCode c || c.before args0 about1) = true := by decide +kernel
set_option maxRecDepth 65536 in
theorem w_t2 : (words1.drop 24).all (fun c => isCode c || c.before args0 about1) = true := by decide +kernel
theorem w_tables : (allAtoms (Jvm.Cond.code x code maxLocals ret :: tables_1)).before args0 about1 = true := by
  rw [allAtoms_all]
  show words1.all (fun c => c.before args0 about1) = true
  refine all_split ?_ w_codes
  rw [← List.take_append_drop 24 words1, List.all_append, w_t1, w_t2]
  rfl
set_option maxRecDepth 65536 in
theorem w_case : (Jvm.Cond.and given_1 narrow_1).before args0 about1 = true := by decide +kernel
theorem w_applies : (headSpec (Jvm.Cond.code x code maxLocals ret :: tables_1) room_1).applies x e0.platform about1 = true :=
  (Spec.applies_iff w_frames).mpr ⟨w_running, w_runnable, w_alone, w_named, w_hears, w_ripe, w_room, w_tables⟩
theorem atStart : AtStart classFile x code maxLocals ret World_1 tables_1 room_1 Calls_1 rest_1 Pre_1 launch0 p0 e0 about1 theMethod args0 below0 :=
  ⟨lists_1, trivial, launch0.admits_env _ _ _, launch0.least_env, fairChoices_fair.cas, fairChoices_fair.clock, w_frames, w_args, w_heap, w_applies, trivial, trivial, w_case⟩
end start1
theorem witness_1 : WitnessClaimed_1 := ⟨start1.p0, start1.e0, start1.about1, start1.theMethod, start1.args0, start1.below0, start1.atStart⟩
end Jvm.Pilot.@@N@@
