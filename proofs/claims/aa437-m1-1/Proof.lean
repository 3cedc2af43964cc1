import JvmDerived
import JvmDerived.Pilot.@@N@@Statement
import JvmDerived.Pilot.@@N@@Code
set_option linter.unusedVariables false
set_option linter.unusedSimpArgs false

namespace Jvm.RoadKit
open Sem ClassFile Op Lib Jvm.Stand Jvm.Free Jvm.LawKit
section New
variable {p : Program} {l : Launch} {e : Env} {R : Room} {s : State} {m : MethodId} {args : Array Value} {below : List Frame} {meth : Method} {c : Code} {T : State} {locs : List Loc} {cells slots : Nat}
theorem retI (X : Stand p l e R s m args below meth c T locs cells slots) (hx : p.tables.exec = Jvm.exec) {pc : Nat} {Ls : Array Slot} {z : Int32} {rest : List Value} (hret : meth.sig.returnType = some .int) (hd : decode c.code pc = .ok (.ireturn, 1)) {fs : List Frame}
    (hl : ∀ (f : JFrame) (acts : List Action), f.method = m → f.locked = none → f.entered = [] → (doReturn e (T.setTop f) acts (some (.int z))).1 = T.setFrames fs) : Steps p.tables e below (T.setTop (mkF m pc Ls (.int z :: rest))) (T.setFrames fs) := by
  have hm' : T.vm.method? m = some meth := X.method'
  have hn : narrow .int (.int z) = .int z := rfl
  show Steps p.tables e below (T.setTop { method := m, pc := pc, locals := Ls, stack := _ :: rest, locked := none }) _
  jvm_step X.here [X.here.top, hx, hd, hm', hret, hn]
  first | (intro acts; rw [hl _ acts rfl rfl rfl]) | rw [hl _ _ rfl rfl rfl]
  exact Steps.refl _
end New
end Jvm.RoadKit

namespace Jvm.Pilot.@@N@@
open Jvm Jvm.ClassFile Sem Op Lib Jvm.Free Jvm.Stand Jvm.LawKit Jvm.RoadKit Bundle Jvm.Pilot.@@N@@.Jvm.D
abbrev own_S (p : Program) (e : Env) (below : List Frame) (T : State) (f : JFrame) (t : State) : Prop := Steps p.tables e below (T.setTop f) t

def own_ws (p : Int32) : Int32 := if p = 32 then 1 else if p = 9 then 1 else if p = 13 then 1 else if p = 10 then 1 else 0
abbrev own_c (p : Int32) : Int32 := (p.toUInt32.toUInt16.toUInt32.toInt32)
def own_mnh (p : Int32) : Int32 := if p < 32 then 1 else if p < 127 then 0 else if 159 < p then (if p = 8232 then 1 else if p < 65534 then 0 else 1) else 1
def own_holds (p : Int32) : Int32 := if p < 32 then (if own_ws (own_c p) = 0 then 0 else 1) else if p = 65534 then 0 else if p = 65535 then 0 else 1
def own_oar (p : Int32) : Int32 := if p < 32 then (if own_ws (own_c p) = 0 then 1 else 0) else if p < 127 then 0 else if 159 < p then 0 else if p = 133 then 0 else 1
def own_el (p : Int32) : Int32 := if p = 133 then 1 else if p = 8232 then 1 else 0
theorem own_fin {c : Int32} {N : Nat} (h0 : 0 ≤ c.toInt) (h : c.toInt < N) : ∃ n : Fin N, c = Int32.ofInt (n.1 : Int) :=
  ⟨⟨c.toInt.toNat, by omega⟩, by rw [Int.toNat_of_nonneg h0, Int32.ofInt_toInt]⟩
def own_all (c : Int32) : Prop := own_holds c = 0 ∨ ¬ own_oar c = 0 ∨ ¬ own_el c = 0 ∨ c = 9 ∨ c = 10 ∨ c = 13
instance (c : Int32) : Decidable (own_all c) := by unfold own_all; infer_instance
theorem own_small : ∀ n : Fin 160, own_mnh (Int32.ofInt (n.1 : Int)) = if own_all (Int32.ofInt (n.1 : Int)) then 1 else 0 := by decide +kernel
theorem own_law {c : Int32} (h0 : 0 ≤ c.toInt) (h1 : c.toInt < 65536) : own_mnh c = if own_all c then 1 else 0 := by
  by_cases h : c.toInt < (160 : Nat)
  · obtain ⟨n, rfl⟩ := own_fin h0 h
    exact own_small n
  · have ne : ∀ k : Int32, k.toInt < 160 → ¬ c = k := fun k hk e => by subst e; omega
    have e1 : ¬ c < (32 : Int32) := by rw [Int32.lt_iff_toInt_lt]; simp; omega
    have e2 : ¬ c < (127 : Int32) := by rw [Int32.lt_iff_toInt_lt]; simp; omega
    have e3 : (159 : Int32) < c := by rw [Int32.lt_iff_toInt_lt]; simp; omega
    have n9 := ne 9 (by decide)
    have n10 := ne 10 (by decide)
    have n13 := ne 13 (by decide)
    have n133 := ne 133 (by decide)
    by_cases q1 : c = 8232
    · subst q1; decide
    · by_cases q2 : c < (65534 : Int32)
      · have m1 : ¬ c = 65534 := fun e => by subst e; exact absurd q2 (by decide)
        have m2 : ¬ c = 65535 := fun e => by subst e; exact absurd q2 (by decide)
        simp [own_mnh, own_all, own_holds, own_oar, own_el, e1, e2, e3, n9, n10, n13, n133, q1, q2, m1, m2]
      · have m : c = 65534 ∨ c = 65535 := by
          rw [Int32.lt_iff_toInt_lt] at q2
          have q3 : ¬ c.toInt < 65534 := q2
          rcases (by omega : c.toInt = 65534 ∨ c.toInt = 65535) with e | e
          · exact Or.inl (Int32.toInt_inj.mp e)
          · exact Or.inr (Int32.toInt_inj.mp e)
        rcases m with rfl | rfl <;> decide
theorem own_selP {s : State} {args : Array Value} {y z : MethodName} (hc : z.cls = y.cls) (w : (Jvm.Cond.selects z.cls z z).before args s = true) (hpriv : s.PrivateAt y) (hinst : (Jvm.Cond.instanceMethod y).before args s = true) (hy : y.cls ≠ "java/lang/invoke/MethodHandle" ∧ y.cls ≠ "java/lang/invoke/VarHandle") : (Jvm.Cond.selects y.cls y y).before args s = true := by
  obtain ⟨c2, r2, m2, -, -, q3, -, kP, hkP, hkPi⟩ := Jvm.Cond.selects_spec w
  exact Stand.selects_self_of_private (by rw [← hc]; exact findClass_of_methodNamed q3) hkP hkPi hpriv hinst hy

theorem own_eqi {args : Array Value} {first s : State} {o : Option Outcome} {idx : List Nat} {t : Term} {k : Int32} (h : (Jvm.Cond.eq t (Term.int k)).value args first o s idx = some true) : t.eval args first o idx s = some (.int k) := by
  simp only [Jvm.Cond.value, Term.eval] at h
  cases ht : t.eval args first o idx s with
  | none => simp [ht] at h
  | some x => cases x <;> simp [ht] at h; rw [h]
theorem own_eql {args : Array Value} {first s : State} {o : Option Outcome} {idx : List Nat} {t : Term} {k : Int64} (h : (Jvm.Cond.eq t (Term.long k)).value args first o s idx = some true) : t.eval args first o idx s = some (.long k) := by
  simp only [Jvm.Cond.value, Term.eval] at h
  cases ht : t.eval args first o idx s with
  | none => simp [ht] at h
  | some x => cases x <;> simp [ht] at h; rw [h]

theorem d_prog_105_method_2_0 : decode prog_105_method_2_code 0 = .ok (.iload_n 0, 1) := by decide +kernel
theorem d_prog_105_method_2_1 : decode prog_105_method_2_code 1 = .ok (.bipush 32, 2) := by decide +kernel
theorem d_prog_105_method_2_3 : decode prog_105_method_2_code 3 = .ok (.if_icmp .eq 21, 3) := by decide +kernel
theorem d_prog_105_method_2_6 : decode prog_105_method_2_code 6 = .ok (.iload_n 0, 1) := by decide +kernel
theorem d_prog_105_method_2_7 : decode prog_105_method_2_code 7 = .ok (.bipush 9, 2) := by decide +kernel
theorem d_prog_105_method_2_9 : decode prog_105_method_2_code 9 = .ok (.if_icmp .eq 15, 3) := by decide +kernel
theorem d_prog_105_method_2_12 : decode prog_105_method_2_code 12 = .ok (.iload_n 0, 1) := by decide +kernel
theorem d_prog_105_method_2_13 : decode prog_105_method_2_code 13 = .ok (.bipush 13, 2) := by decide +kernel
theorem d_prog_105_method_2_15 : decode prog_105_method_2_code 15 = .ok (.if_icmp .eq 9, 3) := by decide +kernel
theorem d_prog_105_method_2_18 : decode prog_105_method_2_code 18 = .ok (.iload_n 0, 1) := by decide +kernel
theorem d_prog_105_method_2_19 : decode prog_105_method_2_code 19 = .ok (.bipush 10, 2) := by decide +kernel
theorem d_prog_105_method_2_21 : decode prog_105_method_2_code 21 = .ok (.if_icmp .ne 7, 3) := by decide +kernel
theorem d_prog_105_method_2_24 : decode prog_105_method_2_code 24 = .ok (.iconst 1, 1) := by decide +kernel
theorem d_prog_105_method_2_25 : decode prog_105_method_2_code 25 = .ok (.goto 4, 3) := by decide +kernel
theorem d_prog_105_method_2_28 : decode prog_105_method_2_code 28 = .ok (.iconst 0, 1) := by decide +kernel
theorem d_prog_105_method_2_29 : decode prog_105_method_2_code 29 = .ok (.ireturn, 1) := by decide +kernel
theorem pn_0 : plainName "com/example/rowan/rowan/xpath/XmlCharacters" = true := by first | (simp [plainName, overriddenIn]; done) | decide +kernel
theorem ef_rm2 (m : MethodId) (x0 : Int32) : entryFrame m #[(.int x0)] 1 = mkF m 0 #[.val (.int x0)] [] := by first | (simp [entryFrame, mkF, argsToLocals, Value.category]; done) | rfl
def Q2 (Z : State) (p1 : Int32) (h0 : Heap) (n0 : Nat) (v : Option Value) (h : Heap) (L : List Loc) : Prop := v = some (.int (own_ws p1)) ∧ Fr n0 L ∧ h = h0
set_option maxRecDepth 65536 in
set_option maxHeartbeats 40000000 in
theorem rm2 (l : Launch) (Z : State) (a0 : Array Value) (hw : ∀ d ∈ tables_1, d.before a0 Z = true) (ws : List Jvm.Cond) (p1 : Int32) (h0 : Heap) (n0 : Nat) (Z0 : n0 ≤ h0.size) :
    MetFree l (⟨"com/example/rowan/rowan/xpath/XmlCharacters", "isWhitespace", "(C)Z"⟩ : MethodName) (head1 (Jvm.Cond.code (⟨"com/example/rowan/rowan/xpath/XmlCharacters", "isWhitespace", "(C)Z"⟩ : MethodName) prog_105_method_2_code 1 (some .boolean) :: ws) ({ frames := 0, cells := 0, slots := 0, locals := 0 } : Room)) (fun a U => a = #[(.int p1)] ∧ Z.Warmed39 U.vm ∧ U.heap = h0) (fun _ _ _ _ _ => True) (fun _ U o U' => ∃ v L, o = .returned v ∧ Q2 Z p1 h0 n0 v U'.heap L ∧ FrameEnd U o U' L ({ frames := 0, cells := 0, slots := 0, locals := 0 } : Room).cells ({ frames := 0, cells := 0, slots := 0, locals := 0 } : Room).slots) := by
  refine MetFree.of_bodySF (plainFor_of_name pn_0) hisR ?_
  intro p e s m args below meth c s₁ Bd hml0 hP hK
  obtain ⟨rfl, hZ, hh⟩ := hP
  have hx := Bd.exec
  have hby := Bd.bytes
  have hml : c.maxLocals = 1 := hml0
  have hown : s.vm.findClass "com/example/rowan/rowan/xpath/XmlCharacters" = some m.cls := findClass_of_methodNamed Bd.named
  have hnm := (name_of_methodNamed Bd.named Bd.method).1
  have X0 : Stand p l e ({ frames := 0, cells := 0, slots := 0, locals := 0 } : Room) s m #[(.int p1)] below meth c s₁ [] 0 0 := Stand.of_body Bd
  have e0 : s₁.heap = h0 := by rw [← hh, Bd.state]; rfl
  have N0 := Fr.nil n0
  obtain ⟨Gl, hGl, k0⟩ : ∃ Gl : State → Prop, (∀ t, Gl t → Steps p.tables e below (s₁.setTop (entryFrame m #[(.int p1)] 1)) t) ∧ ∀ t, own_S p e below s₁ (mkF m 0 #[.val (.int p1)] []) t → Gl t := ⟨fun t => Steps p.tables e below (s₁.setTop (entryFrame m #[(.int p1)] 1)) t, fun _ k => k, fun t k => castTop (ef_rm2 m p1) k⟩
  have k1 : ∀ t, own_S p e below s₁ (mkF m 3 #[.val (.int p1)] [(.int (32 : Int32)), (.int p1)]) t → Gl t := fun t kt => k0 t (by
    show own_S p e below s₁ (mkF m 0 #[.val (.int p1)] []) _
    refine XS.iloadN X0.here hx rfl (hb hby d_prog_105_method_2_0) rfl ?_
    show own_S p e below s₁ (mkF m 1 #[.val (.int p1)] [(.int p1)]) _
    refine XS.bipush X0.here hx rfl (hb hby d_prog_105_method_2_1) ?_
    exact kt)
  by_cases hc3 : p1 = (32 : Int32)
  · have k2 : ∀ t, own_S p e below s₁ (mkF m 29 #[.val (.int p1)] [(.int (1 : Int32))]) t → Gl t := fun t kt => k1 t (by
      show own_S p e below s₁ (mkF m 3 #[.val (.int p1)] [(.int (32 : Int32)), (.int p1)]) _
      refine XS.icmpYes X0.here hx rfl (pc0 := 3) (pc' := 24) rfl (hb hby d_prog_105_method_2_3) rfl (teq hc3).1 (by decide) (by decide) ?_
      show own_S p e below s₁ (mkF m 24 #[.val (.int p1)] []) _
      refine XS.iconst X0.here hx rfl (hb hby d_prog_105_method_2_24) ?_
      show own_S p e below s₁ (mkF m 25 #[.val (.int p1)] [(.int (1 : Int32))]) _
      refine XS.goto X0.here hx rfl (pc0 := 25) (pc' := 29) rfl (hb hby d_prog_105_method_2_25) (by decide) (by decide) ?_
      exact kt)
    obtain ⟨fs, hr, hrun, hended, hW, hsame⟩ := X0.leave (v := some (.int (1 : Int32))) (fun h => by rw [Bd.returns] at h; cases h)
    refine ⟨_, _, hGl _ (k2 _ (retN X0 hx (t := .boolean) Bd.returns (by simp) (hb hby d_prog_105_method_2_29) hr)), hrun, hended, _, _, rfl, ?_, ⟨_, rfl⟩, hW, hsame.mono (by decide) (by decide)⟩
    show Q2 Z p1 h0 n0 _ s₁.heap _
    rw [e0]
    exact ⟨by simp [own_ws, hc3], N0, rfl⟩
  · have k3 : ∀ t, own_S p e below s₁ (mkF m 9 #[.val (.int p1)] [(.int (9 : Int32)), (.int p1)]) t → Gl t := fun t kt => k1 t (by
      show own_S p e below s₁ (mkF m 3 #[.val (.int p1)] [(.int (32 : Int32)), (.int p1)]) _
      refine XS.icmpNo X0.here hx rfl (hb hby d_prog_105_method_2_3) rfl (feq hc3).1 ?_
      show own_S p e below s₁ (mkF m 6 #[.val (.int p1)] []) _
      refine XS.iloadN X0.here hx rfl (hb hby d_prog_105_method_2_6) rfl ?_
      show own_S p e below s₁ (mkF m 7 #[.val (.int p1)] [(.int p1)]) _
      refine XS.bipush X0.here hx rfl (hb hby d_prog_105_method_2_7) ?_
      exact kt)
    by_cases hc9 : p1 = (9 : Int32)
    · have k4 : ∀ t, own_S p e below s₁ (mkF m 29 #[.val (.int p1)] [(.int (1 : Int32))]) t → Gl t := fun t kt => k3 t (by
        show own_S p e below s₁ (mkF m 9 #[.val (.int p1)] [(.int (9 : Int32)), (.int p1)]) _
        refine XS.icmpYes X0.here hx rfl (pc0 := 9) (pc' := 24) rfl (hb hby d_prog_105_method_2_9) rfl (teq hc9).1 (by decide) (by decide) ?_
        show own_S p e below s₁ (mkF m 24 #[.val (.int p1)] []) _
        refine XS.iconst X0.here hx rfl (hb hby d_prog_105_method_2_24) ?_
        show own_S p e below s₁ (mkF m 25 #[.val (.int p1)] [(.int (1 : Int32))]) _
        refine XS.goto X0.here hx rfl (pc0 := 25) (pc' := 29) rfl (hb hby d_prog_105_method_2_25) (by decide) (by decide) ?_
        exact kt)
      obtain ⟨fs, hr, hrun, hended, hW, hsame⟩ := X0.leave (v := some (.int (1 : Int32))) (fun h => by rw [Bd.returns] at h; cases h)
      refine ⟨_, _, hGl _ (k4 _ (retN X0 hx (t := .boolean) Bd.returns (by simp) (hb hby d_prog_105_method_2_29) hr)), hrun, hended, _, _, rfl, ?_, ⟨_, rfl⟩, hW, hsame.mono (by decide) (by decide)⟩
      show Q2 Z p1 h0 n0 _ s₁.heap _
      rw [e0]
      exact ⟨by simp [own_ws, hc3, hc9], N0, rfl⟩
    · have k5 : ∀ t, own_S p e below s₁ (mkF m 15 #[.val (.int p1)] [(.int (13 : Int32)), (.int p1)]) t → Gl t := fun t kt => k3 t (by
        show own_S p e below s₁ (mkF m 9 #[.val (.int p1)] [(.int (9 : Int32)), (.int p1)]) _
        refine XS.icmpNo X0.here hx rfl (hb hby d_prog_105_method_2_9) rfl (feq hc9).1 ?_
        show own_S p e below s₁ (mkF m 12 #[.val (.int p1)] []) _
        refine XS.iloadN X0.here hx rfl (hb hby d_prog_105_method_2_12) rfl ?_
        show own_S p e below s₁ (mkF m 13 #[.val (.int p1)] [(.int p1)]) _
        refine XS.bipush X0.here hx rfl (hb hby d_prog_105_method_2_13) ?_
        exact kt)
      by_cases hc15 : p1 = (13 : Int32)
      · have k6 : ∀ t, own_S p e below s₁ (mkF m 29 #[.val (.int p1)] [(.int (1 : Int32))]) t → Gl t := fun t kt => k5 t (by
          show own_S p e below s₁ (mkF m 15 #[.val (.int p1)] [(.int (13 : Int32)), (.int p1)]) _
          refine XS.icmpYes X0.here hx rfl (pc0 := 15) (pc' := 24) rfl (hb hby d_prog_105_method_2_15) rfl (teq hc15).1 (by decide) (by decide) ?_
          show own_S p e below s₁ (mkF m 24 #[.val (.int p1)] []) _
          refine XS.iconst X0.here hx rfl (hb hby d_prog_105_method_2_24) ?_
          show own_S p e below s₁ (mkF m 25 #[.val (.int p1)] [(.int (1 : Int32))]) _
          refine XS.goto X0.here hx rfl (pc0 := 25) (pc' := 29) rfl (hb hby d_prog_105_method_2_25) (by decide) (by decide) ?_
          exact kt)
        obtain ⟨fs, hr, hrun, hended, hW, hsame⟩ := X0.leave (v := some (.int (1 : Int32))) (fun h => by rw [Bd.returns] at h; cases h)
        refine ⟨_, _, hGl _ (k6 _ (retN X0 hx (t := .boolean) Bd.returns (by simp) (hb hby d_prog_105_method_2_29) hr)), hrun, hended, _, _, rfl, ?_, ⟨_, rfl⟩, hW, hsame.mono (by decide) (by decide)⟩
        show Q2 Z p1 h0 n0 _ s₁.heap _
        rw [e0]
        exact ⟨by simp [own_ws, hc3, hc9, hc15], N0, rfl⟩
      · have k7 : ∀ t, own_S p e below s₁ (mkF m 21 #[.val (.int p1)] [(.int (10 : Int32)), (.int p1)]) t → Gl t := fun t kt => k5 t (by
          show own_S p e below s₁ (mkF m 15 #[.val (.int p1)] [(.int (13 : Int32)), (.int p1)]) _
          refine XS.icmpNo X0.here hx rfl (hb hby d_prog_105_method_2_15) rfl (feq hc15).1 ?_
          show own_S p e below s₁ (mkF m 18 #[.val (.int p1)] []) _
          refine XS.iloadN X0.here hx rfl (hb hby d_prog_105_method_2_18) rfl ?_
          show own_S p e below s₁ (mkF m 19 #[.val (.int p1)] [(.int p1)]) _
          refine XS.bipush X0.here hx rfl (hb hby d_prog_105_method_2_19) ?_
          exact kt)
        by_cases hc21 : p1 = (10 : Int32)
        · have k8 : ∀ t, own_S p e below s₁ (mkF m 29 #[.val (.int p1)] [(.int (1 : Int32))]) t → Gl t := fun t kt => k7 t (by
            show own_S p e below s₁ (mkF m 21 #[.val (.int p1)] [(.int (10 : Int32)), (.int p1)]) _
            refine XS.icmpNo X0.here hx rfl (hb hby d_prog_105_method_2_21) rfl (teq hc21).2 ?_
            show own_S p e below s₁ (mkF m 24 #[.val (.int p1)] []) _
            refine XS.iconst X0.here hx rfl (hb hby d_prog_105_method_2_24) ?_
            show own_S p e below s₁ (mkF m 25 #[.val (.int p1)] [(.int (1 : Int32))]) _
            refine XS.goto X0.here hx rfl (pc0 := 25) (pc' := 29) rfl (hb hby d_prog_105_method_2_25) (by decide) (by decide) ?_
            exact kt)
          obtain ⟨fs, hr, hrun, hended, hW, hsame⟩ := X0.leave (v := some (.int (1 : Int32))) (fun h => by rw [Bd.returns] at h; cases h)
          refine ⟨_, _, hGl _ (k8 _ (retN X0 hx (t := .boolean) Bd.returns (by simp) (hb hby d_prog_105_method_2_29) hr)), hrun, hended, _, _, rfl, ?_, ⟨_, rfl⟩, hW, hsame.mono (by decide) (by decide)⟩
          show Q2 Z p1 h0 n0 _ s₁.heap _
          rw [e0]
          exact ⟨by simp [own_ws, hc3, hc9, hc15, hc21], N0, rfl⟩
        · have k9 : ∀ t, own_S p e below s₁ (mkF m 29 #[.val (.int p1)] [(.int (0 : Int32))]) t → Gl t := fun t kt => k7 t (by
            show own_S p e below s₁ (mkF m 21 #[.val (.int p1)] [(.int (10 : Int32)), (.int p1)]) _
            refine XS.icmpYes X0.here hx rfl (pc0 := 21) (pc' := 28) rfl (hb hby d_prog_105_method_2_21) rfl (feq hc21).2 (by decide) (by decide) ?_
            show own_S p e below s₁ (mkF m 28 #[.val (.int p1)] []) _
            refine XS.iconst X0.here hx rfl (hb hby d_prog_105_method_2_28) ?_
            exact kt)
          obtain ⟨fs, hr, hrun, hended, hW, hsame⟩ := X0.leave (v := some (.int (0 : Int32))) (fun h => by rw [Bd.returns] at h; cases h)
          refine ⟨_, _, hGl _ (k9 _ (retN X0 hx (t := .boolean) Bd.returns (by simp) (hb hby d_prog_105_method_2_29) hr)), hrun, hended, _, _, rfl, ?_, ⟨_, rfl⟩, hW, hsame.mono (by decide) (by decide)⟩
          show Q2 Z p1 h0 n0 _ s₁.heap _
          rw [e0]
          exact ⟨by simp [own_ws, hc3, hc9, hc15, hc21], N0, rfl⟩

theorem d_prog_133_method_5_0 : decode prog_133_method_5_code 0 = .ok (.iload_n 0, 1) := by decide +kernel
theorem d_prog_133_method_5_1 : decode prog_133_method_5_code 1 = .ok (.bipush 32, 2) := by decide +kernel
theorem d_prog_133_method_5_3 : decode prog_133_method_5_code 3 = .ok (.if_icmp .lt 29, 3) := by decide +kernel
theorem d_prog_133_method_5_6 : decode prog_133_method_5_code 6 = .ok (.iload_n 0, 1) := by decide +kernel
theorem d_prog_133_method_5_7 : decode prog_133_method_5_code 7 = .ok (.bipush 127, 2) := by decide +kernel
theorem d_prog_133_method_5_9 : decode prog_133_method_5_code 9 = .ok (.if_icmp .lt 27, 3) := by decide +kernel
theorem d_prog_133_method_5_12 : decode prog_133_method_5_code 12 = .ok (.iload_n 0, 1) := by decide +kernel
theorem d_prog_133_method_5_13 : decode prog_133_method_5_code 13 = .ok (.sipush 159, 3) := by decide +kernel
theorem d_prog_133_method_5_16 : decode prog_133_method_5_code 16 = .ok (.if_icmp .le 16, 3) := by decide +kernel
theorem d_prog_133_method_5_19 : decode prog_133_method_5_code 19 = .ok (.iload_n 0, 1) := by decide +kernel
theorem d_prog_133_method_5_20 : decode prog_133_method_5_code 20 = .ok (.sipush 8232, 3) := by decide +kernel
theorem d_prog_133_method_5_23 : decode prog_133_method_5_code 23 = .ok (.if_icmp .eq 9, 3) := by decide +kernel
theorem d_prog_133_method_5_26 : decode prog_133_method_5_code 26 = .ok (.iload_n 0, 1) := by decide +kernel
theorem d_prog_133_method_5_27 : decode prog_133_method_5_code 27 = .ok (.ldc 68, 2) := by decide +kernel
theorem d_prog_133_method_5_29 : decode prog_133_method_5_code 29 = .ok (.if_icmp .lt 7, 3) := by decide +kernel
theorem d_prog_133_method_5_32 : decode prog_133_method_5_code 32 = .ok (.iconst 1, 1) := by decide +kernel
theorem d_prog_133_method_5_33 : decode prog_133_method_5_code 33 = .ok (.goto 4, 3) := by decide +kernel
theorem d_prog_133_method_5_36 : decode prog_133_method_5_code 36 = .ok (.iconst 0, 1) := by decide +kernel
theorem d_prog_133_method_5_37 : decode prog_133_method_5_code 37 = .ok (.ireturn, 1) := by decide +kernel
theorem pn_1 : plainName "com/example/rowan/rowan/xslt/EncodedWriter$Repertoire" = true := by first | (simp [plainName, overriddenIn]; done) | decide +kernel
theorem ef_rm3 (m : MethodId) (x0 : Int32) : entryFrame m #[(.int x0)] 1 = mkF m 0 #[.val (.int x0)] [] := by first | (simp [entryFrame, mkF, argsToLocals, Value.category]; done) | rfl
def Q3 (Z : State) (p1 : Int32) (h0 : Heap) (n0 : Nat) (v : Option Value) (h : Heap) (L : List Loc) : Prop := v = some (.int (own_mnh p1)) ∧ Fr n0 L ∧ h = h0
set_option maxRecDepth 65536 in
set_option maxHeartbeats 40000000 in
theorem rm3 (l : Launch) (Z : State) (a0 : Array Value) (hw : ∀ d ∈ tables_1, d.before a0 Z = true) (ws : List Jvm.Cond) (p1 : Int32) (h0 : Heap) (n0 : Nat) (Z0 : n0 ≤ h0.size) :
    MetFree l (⟨"com/example/rowan/rowan/xslt/EncodedWriter$Repertoire", "mayNotHold", "(C)Z"⟩ : MethodName) (head1 (Jvm.Cond.code (⟨"com/example/rowan/rowan/xslt/EncodedWriter$Repertoire", "mayNotHold", "(C)Z"⟩ : MethodName) prog_133_method_5_code 1 (some .boolean) :: ws) ({ frames := 0, cells := 0, slots := 0, locals := 0 } : Room)) (fun a U => a = #[(.int p1)] ∧ Z.Warmed39 U.vm ∧ U.heap = h0) (fun _ _ _ _ _ => True) (fun _ U o U' => ∃ v L, o = .returned v ∧ Q3 Z p1 h0 n0 v U'.heap L ∧ FrameEnd U o U' L ({ frames := 0, cells := 0, slots := 0, locals := 0 } : Room).cells ({ frames := 0, cells := 0, slots := 0, locals := 0 } : Room).slots) := by
  refine MetFree.of_bodySF (plainFor_of_name pn_1) hisR ?_
  intro p e s m args below meth c s₁ Bd hml0 hP hK
  obtain ⟨rfl, hZ, hh⟩ := hP
  have hx := Bd.exec
  have hby := Bd.bytes
  have hml : c.maxLocals = 1 := hml0
  have hown : s.vm.findClass "com/example/rowan/rowan/xslt/EncodedWriter$Repertoire" = some m.cls := findClass_of_methodNamed Bd.named
  have hnm := (name_of_methodNamed Bd.named Bd.method).1
  have X0 : Stand p l e ({ frames := 0, cells := 0, slots := 0, locals := 0 } : Room) s m #[(.int p1)] below meth c s₁ [] 0 0 := Stand.of_body Bd
  have e0 : s₁.heap = h0 := by rw [← hh, Bd.state]; rfl
  have N0 := Fr.nil n0
  obtain ⟨Gl, hGl, k0⟩ : ∃ Gl : State → Prop, (∀ t, Gl t → Steps p.tables e below (s₁.setTop (entryFrame m #[(.int p1)] 1)) t) ∧ ∀ t, own_S p e below s₁ (mkF m 0 #[.val (.int p1)] []) t → Gl t := ⟨fun t => Steps p.tables e below (s₁.setTop (entryFrame m #[(.int p1)] 1)) t, fun _ k => k, fun t k => castTop (ef_rm3 m p1) k⟩
  have k1 : ∀ t, own_S p e below s₁ (mkF m 3 #[.val (.int p1)] [(.int (32 : Int32)), (.int p1)]) t → Gl t := fun t kt => k0 t (by
    show own_S p e below s₁ (mkF m 0 #[.val (.int p1)] []) _
    refine XS.iloadN X0.here hx rfl (hb hby d_prog_133_method_5_0) rfl ?_
    show own_S p e below s₁ (mkF m 1 #[.val (.int p1)] [(.int p1)]) _
    refine XS.bipush X0.here hx rfl (hb hby d_prog_133_method_5_1) ?_
    exact kt)
  by_cases hc3 : p1 < (32 : Int32)
  · have k2 : ∀ t, own_S p e below s₁ (mkF m 37 #[.val (.int p1)] [(.int (1 : Int32))]) t → Gl t := fun t kt => k1 t (by
      show own_S p e below s₁ (mkF m 3 #[.val (.int p1)] [(.int (32 : Int32)), (.int p1)]) _
      refine XS.icmpYes X0.here hx rfl (pc0 := 3) (pc' := 32) rfl (hb hby d_prog_133_method_5_3) rfl (tlt hc3).1 (by decide) (by decide) ?_
      show own_S p e below s₁ (mkF m 32 #[.val (.int p1)] []) _
      refine XS.iconst X0.here hx rfl (hb hby d_prog_133_method_5_32) ?_
      show own_S p e below s₁ (mkF m 33 #[.val (.int p1)] [(.int (1 : Int32))]) _
      refine XS.goto X0.here hx rfl (pc0 := 33) (pc' := 37) rfl (hb hby d_prog_133_method_5_33) (by decide) (by decide) ?_
      exact kt)
    obtain ⟨fs, hr, hrun, hended, hW, hsame⟩ := X0.leave (v := some (.int (1 : Int32))) (fun h => by rw [Bd.returns] at h; cases h)
    refine ⟨_, _, hGl _ (k2 _ (retN X0 hx (t := .boolean) Bd.returns (by simp) (hb hby d_prog_133_method_5_37) hr)), hrun, hended, _, _, rfl, ?_, ⟨_, rfl⟩, hW, hsame.mono (by decide) (by decide)⟩
    show Q3 Z p1 h0 n0 _ s₁.heap _
    rw [e0]
    exact ⟨by simp [own_mnh, hc3], N0, rfl⟩
  · have k3 : ∀ t, own_S p e below s₁ (mkF m 9 #[.val (.int p1)] [(.int (127 : Int32)), (.int p1)]) t → Gl t := fun t kt => k1 t (by
      show own_S p e below s₁ (mkF m 3 #[.val (.int p1)] [(.int (32 : Int32)), (.int p1)]) _
      refine XS.icmpNo X0.here hx rfl (hb hby d_prog_133_method_5_3) rfl (flt hc3).1 ?_
      show own_S p e below s₁ (mkF m 6 #[.val (.int p1)] []) _
      refine XS.iloadN X0.here hx rfl (hb hby d_prog_133_method_5_6) rfl ?_
      show own_S p e below s₁ (mkF m 7 #[.val (.int p1)] [(.int p1)]) _
      refine XS.bipush X0.here hx rfl (hb hby d_prog_133_method_5_7) ?_
      exact kt)
    by_cases hc9 : p1 < (127 : Int32)
    · have k4 : ∀ t, own_S p e below s₁ (mkF m 37 #[.val (.int p1)] [(.int (0 : Int32))]) t → Gl t := fun t kt => k3 t (by
        show own_S p e below s₁ (mkF m 9 #[.val (.int p1)] [(.int (127 : Int32)), (.int p1)]) _
        refine XS.icmpYes X0.here hx rfl (pc0 := 9) (pc' := 36) rfl (hb hby d_prog_133_method_5_9) rfl (tlt hc9).1 (by decide) (by decide) ?_
        show own_S p e below s₁ (mkF m 36 #[.val (.int p1)] []) _
        refine XS.iconst X0.here hx rfl (hb hby d_prog_133_method_5_36) ?_
        exact kt)
      obtain ⟨fs, hr, hrun, hended, hW, hsame⟩ := X0.leave (v := some (.int (0 : Int32))) (fun h => by rw [Bd.returns] at h; cases h)
      refine ⟨_, _, hGl _ (k4 _ (retN X0 hx (t := .boolean) Bd.returns (by simp) (hb hby d_prog_133_method_5_37) hr)), hrun, hended, _, _, rfl, ?_, ⟨_, rfl⟩, hW, hsame.mono (by decide) (by decide)⟩
      show Q3 Z p1 h0 n0 _ s₁.heap _
      rw [e0]
      exact ⟨by simp [own_mnh, hc3, hc9], N0, rfl⟩
    · have k5 : ∀ t, own_S p e below s₁ (mkF m 16 #[.val (.int p1)] [(.int (159 : Int32)), (.int p1)]) t → Gl t := fun t kt => k3 t (by
        show own_S p e below s₁ (mkF m 9 #[.val (.int p1)] [(.int (127 : Int32)), (.int p1)]) _
        refine XS.icmpNo X0.here hx rfl (hb hby d_prog_133_method_5_9) rfl (flt hc9).1 ?_
        show own_S p e below s₁ (mkF m 12 #[.val (.int p1)] []) _
        refine XS.iloadN X0.here hx rfl (hb hby d_prog_133_method_5_12) rfl ?_
        show own_S p e below s₁ (mkF m 13 #[.val (.int p1)] [(.int p1)]) _
        refine XS.sipush X0.here hx rfl (hb hby d_prog_133_method_5_13) ?_
        exact kt)
      by_cases hc16 : (159 : Int32) < p1
      · have k6 : ∀ t, own_S p e below s₁ (mkF m 23 #[.val (.int p1)] [(.int (8232 : Int32)), (.int p1)]) t → Gl t := fun t kt => k5 t (by
          show own_S p e below s₁ (mkF m 16 #[.val (.int p1)] [(.int (159 : Int32)), (.int p1)]) _
          refine XS.icmpNo X0.here hx rfl (hb hby d_prog_133_method_5_16) rfl (tlt hc16).2.2.2 ?_
          show own_S p e below s₁ (mkF m 19 #[.val (.int p1)] []) _
          refine XS.iloadN X0.here hx rfl (hb hby d_prog_133_method_5_19) rfl ?_
          show own_S p e below s₁ (mkF m 20 #[.val (.int p1)] [(.int p1)]) _
          refine XS.sipush X0.here hx rfl (hb hby d_prog_133_method_5_20) ?_
          exact kt)
        by_cases hc23 : p1 = (8232 : Int32)
        · have k7 : ∀ t, own_S p e below s₁ (mkF m 37 #[.val (.int p1)] [(.int (1 : Int32))]) t → Gl t := fun t kt => k6 t (by
            show own_S p e below s₁ (mkF m 23 #[.val (.int p1)] [(.int (8232 : Int32)), (.int p1)]) _
            refine XS.icmpYes X0.here hx rfl (pc0 := 23) (pc' := 32) rfl (hb hby d_prog_133_method_5_23) rfl (teq hc23).1 (by decide) (by decide) ?_
            show own_S p e below s₁ (mkF m 32 #[.val (.int p1)] []) _
            refine XS.iconst X0.here hx rfl (hb hby d_prog_133_method_5_32) ?_
            show own_S p e below s₁ (mkF m 33 #[.val (.int p1)] [(.int (1 : Int32))]) _
            refine XS.goto X0.here hx rfl (pc0 := 33) (pc' := 37) rfl (hb hby d_prog_133_method_5_33) (by decide) (by decide) ?_
            exact kt)
          obtain ⟨fs, hr, hrun, hended, hW, hsame⟩ := X0.leave (v := some (.int (1 : Int32))) (fun h => by rw [Bd.returns] at h; cases h)
          refine ⟨_, _, hGl _ (k7 _ (retN X0 hx (t := .boolean) Bd.returns (by simp) (hb hby d_prog_133_method_5_37) hr)), hrun, hended, _, _, rfl, ?_, ⟨_, rfl⟩, hW, hsame.mono (by decide) (by decide)⟩
          show Q3 Z p1 h0 n0 _ s₁.heap _
          rw [e0]
          exact ⟨by simp [own_mnh, hc3, hc9, hc16, hc23], N0, rfl⟩
        · have k8 : ∀ t, own_S p e below s₁ (mkF m 29 #[.val (.int p1)] [(.int (65534 : Int32)), (.int p1)]) t → Gl t := fun t kt => k6 t (by
            show own_S p e below s₁ (mkF m 23 #[.val (.int p1)] [(.int (8232 : Int32)), (.int p1)]) _
            refine XS.icmpNo X0.here hx rfl (hb hby d_prog_133_method_5_23) rfl (feq hc23).1 ?_
            show own_S p e below s₁ (mkF m 26 #[.val (.int p1)] []) _
            refine XS.iloadN X0.here hx rfl (hb hby d_prog_133_method_5_26) rfl ?_
            show own_S p e below s₁ (mkF m 27 #[.val (.int p1)] [(.int p1)]) _
            refine X0.ldcInt hx hown (mvT hZ (hw _ (List.mem_of_getElem? (i := 19) rfl))) (g := (mkF m 27 #[.val (.int p1)] [(.int p1)])) rfl (hb hby d_prog_133_method_5_27) _ ?_
            exact kt)
          by_cases hc29 : p1 < (65534 : Int32)
          · have k9 : ∀ t, own_S p e below s₁ (mkF m 37 #[.val (.int p1)] [(.int (0 : Int32))]) t → Gl t := fun t kt => k8 t (by
              show own_S p e below s₁ (mkF m 29 #[.val (.int p1)] [(.int (65534 : Int32)), (.int p1)]) _
              refine XS.icmpYes X0.here hx rfl (pc0 := 29) (pc' := 36) rfl (hb hby d_prog_133_method_5_29) rfl (tlt hc29).1 (by decide) (by decide) ?_
              show own_S p e below s₁ (mkF m 36 #[.val (.int p1)] []) _
              refine XS.iconst X0.here hx rfl (hb hby d_prog_133_method_5_36) ?_
              exact kt)
            obtain ⟨fs, hr, hrun, hended, hW, hsame⟩ := X0.leave (v := some (.int (0 : Int32))) (fun h => by rw [Bd.returns] at h; cases h)
            refine ⟨_, _, hGl _ (k9 _ (retN X0 hx (t := .boolean) Bd.returns (by simp) (hb hby d_prog_133_method_5_37) hr)), hrun, hended, _, _, rfl, ?_, ⟨_, rfl⟩, hW, hsame.mono (by decide) (by decide)⟩
            show Q3 Z p1 h0 n0 _ s₁.heap _
            rw [e0]
            exact ⟨by simp [own_mnh, hc3, hc9, hc16, hc23, hc29], N0, rfl⟩
          · have k10 : ∀ t, own_S p e below s₁ (mkF m 37 #[.val (.int p1)] [(.int (1 : Int32))]) t → Gl t := fun t kt => k8 t (by
              show own_S p e below s₁ (mkF m 29 #[.val (.int p1)] [(.int (65534 : Int32)), (.int p1)]) _
              refine XS.icmpNo X0.here hx rfl (hb hby d_prog_133_method_5_29) rfl (flt hc29).1 ?_
              show own_S p e below s₁ (mkF m 32 #[.val (.int p1)] []) _
              refine XS.iconst X0.here hx rfl (hb hby d_prog_133_method_5_32) ?_
              show own_S p e below s₁ (mkF m 33 #[.val (.int p1)] [(.int (1 : Int32))]) _
              refine XS.goto X0.here hx rfl (pc0 := 33) (pc' := 37) rfl (hb hby d_prog_133_method_5_33) (by decide) (by decide) ?_
              exact kt)
            obtain ⟨fs, hr, hrun, hended, hW, hsame⟩ := X0.leave (v := some (.int (1 : Int32))) (fun h => by rw [Bd.returns] at h; cases h)
            refine ⟨_, _, hGl _ (k10 _ (retN X0 hx (t := .boolean) Bd.returns (by simp) (hb hby d_prog_133_method_5_37) hr)), hrun, hended, _, _, rfl, ?_, ⟨_, rfl⟩, hW, hsame.mono (by decide) (by decide)⟩
            show Q3 Z p1 h0 n0 _ s₁.heap _
            rw [e0]
            exact ⟨by simp [own_mnh, hc3, hc9, hc16, hc23, hc29], N0, rfl⟩
      · have k11 : ∀ t, own_S p e below s₁ (mkF m 37 #[.val (.int p1)] [(.int (1 : Int32))]) t → Gl t := fun t kt => k5 t (by
          show own_S p e below s₁ (mkF m 16 #[.val (.int p1)] [(.int (159 : Int32)), (.int p1)]) _
          refine XS.icmpYes X0.here hx rfl (pc0 := 16) (pc' := 32) rfl (hb hby d_prog_133_method_5_16) rfl (flt hc16).2.2.2 (by decide) (by decide) ?_
          show own_S p e below s₁ (mkF m 32 #[.val (.int p1)] []) _
          refine XS.iconst X0.here hx rfl (hb hby d_prog_133_method_5_32) ?_
          show own_S p e below s₁ (mkF m 33 #[.val (.int p1)] [(.int (1 : Int32))]) _
          refine XS.goto X0.here hx rfl (pc0 := 33) (pc' := 37) rfl (hb hby d_prog_133_method_5_33) (by decide) (by decide) ?_
          exact kt)
        obtain ⟨fs, hr, hrun, hended, hW, hsame⟩ := X0.leave (v := some (.int (1 : Int32))) (fun h => by rw [Bd.returns] at h; cases h)
        refine ⟨_, _, hGl _ (k11 _ (retN X0 hx (t := .boolean) Bd.returns (by simp) (hb hby d_prog_133_method_5_37) hr)), hrun, hended, _, _, rfl, ?_, ⟨_, rfl⟩, hW, hsame.mono (by decide) (by decide)⟩
        show Q3 Z p1 h0 n0 _ s₁.heap _
        rw [e0]
        exact ⟨by simp [own_mnh, hc3, hc9, hc16], N0, rfl⟩

theorem d_prog_133_method_6_0 : decode prog_133_method_6_code 0 = .ok (.aload_n 0, 1) := by decide +kernel
theorem d_prog_133_method_6_1 : decode prog_133_method_6_code 1 = .ok (.getstatic 5, 3) := by decide +kernel
theorem d_prog_133_method_6_4 : decode prog_133_method_6_code 4 = .ok (.if_acmp .ne 8, 3) := by decide +kernel
theorem d_prog_133_method_6_12 : decode prog_133_method_6_code 12 = .ok (.iload_n 1, 1) := by decide +kernel
theorem d_prog_133_method_6_13 : decode prog_133_method_6_code 13 = .ok (.bipush 32, 2) := by decide +kernel
theorem d_prog_133_method_6_15 : decode prog_133_method_6_code 15 = .ok (.if_icmp .ge 31, 3) := by decide +kernel
theorem d_prog_133_method_6_18 : decode prog_133_method_6_code 18 = .ok (.iload_n 1, 1) := by decide +kernel
theorem d_prog_133_method_6_19 : decode prog_133_method_6_code 19 = .ok (.i2c, 1) := by decide +kernel
theorem d_prog_133_method_6_20 : decode prog_133_method_6_code 20 = .ok (.invokestatic 69, 3) := by decide +kernel
theorem d_prog_133_method_6_23 : decode prog_133_method_6_code 23 = .ok (.ifCond .ne 14, 3) := by decide +kernel
theorem d_prog_133_method_6_26 : decode prog_133_method_6_code 26 = .ok (.aload_n 0, 1) := by decide +kernel
theorem d_prog_133_method_6_27 : decode prog_133_method_6_code 27 = .ok (.getstatic 12, 3) := by decide +kernel
theorem d_prog_133_method_6_30 : decode prog_133_method_6_code 30 = .ok (.if_acmp .ne 11, 3) := by decide +kernel
theorem d_prog_133_method_6_37 : decode prog_133_method_6_code 37 = .ok (.iconst 1, 1) := by decide +kernel
theorem d_prog_133_method_6_38 : decode prog_133_method_6_code 38 = .ok (.goto 4, 3) := by decide +kernel
theorem d_prog_133_method_6_41 : decode prog_133_method_6_code 41 = .ok (.iconst 0, 1) := by decide +kernel
theorem d_prog_133_method_6_42 : decode prog_133_method_6_code 42 = .ok (.istore_n 2, 1) := by decide +kernel
theorem d_prog_133_method_6_43 : decode prog_133_method_6_code 43 = .ok (.goto 21, 3) := by decide +kernel
theorem d_prog_133_method_6_46 : decode prog_133_method_6_code 46 = .ok (.iload_n 1, 1) := by decide +kernel
theorem d_prog_133_method_6_47 : decode prog_133_method_6_code 47 = .ok (.ldc 68, 2) := by decide +kernel
theorem d_prog_133_method_6_49 : decode prog_133_method_6_code 49 = .ok (.if_icmp .eq 13, 3) := by decide +kernel
theorem d_prog_133_method_6_52 : decode prog_133_method_6_code 52 = .ok (.iload_n 1, 1) := by decide +kernel
theorem d_prog_133_method_6_53 : decode prog_133_method_6_code 53 = .ok (.ldc 75, 2) := by decide +kernel
theorem d_prog_133_method_6_55 : decode prog_133_method_6_code 55 = .ok (.if_icmp .eq 7, 3) := by decide +kernel
theorem d_prog_133_method_6_58 : decode prog_133_method_6_code 58 = .ok (.iconst 1, 1) := by decide +kernel
theorem d_prog_133_method_6_59 : decode prog_133_method_6_code 59 = .ok (.goto 4, 3) := by decide +kernel
theorem d_prog_133_method_6_62 : decode prog_133_method_6_code 62 = .ok (.iconst 0, 1) := by decide +kernel
theorem d_prog_133_method_6_63 : decode prog_133_method_6_code 63 = .ok (.istore_n 2, 1) := by decide +kernel
theorem d_prog_133_method_6_64 : decode prog_133_method_6_code 64 = .ok (.iload_n 2, 1) := by decide +kernel
theorem d_prog_133_method_6_65 : decode prog_133_method_6_code 65 = .ok (.ireturn, 1) := by decide +kernel
theorem pd_0 : parseMethodDescriptor "(C)Z" = some ⟨[.char], some .boolean⟩ := by decide +kernel
theorem ef_rm1 (m : MethodId) (x0 : Addr) (x1 : Int32) : entryFrame m #[(.ref x0), (.int x1)] 3 = mkF m 0 #[.val (.ref x0), .val (.int x1), .unset] [] := by first | (simp [entryFrame, mkF, argsToLocals, Value.category]; done) | rfl
def Q1 (Z : State) (w10 : Addr) (p1 : Int32) (wAny : Addr) (w11 : Addr) (h0 : Heap) (n0 : Nat) (v : Option Value) (h : Heap) (L : List Loc) : Prop := v = some (.int (own_holds p1)) ∧ Fr n0 L ∧ h = h0
set_option maxRecDepth 65536 in
set_option maxHeartbeats 40000000 in
theorem rm1 (l : Launch) (Z : State) (a0 : Array Value) (hw : ∀ d ∈ tables_1, d.before a0 Z = true) (ws : List Jvm.Cond) (w10 : Addr) (p1 : Int32) (wAny : Addr) (w11 : Addr) (h0 : Heap) (n0 : Nat) (Z0 : n0 ≤ h0.size) (S_wAny : Sta Z h0 "com/example/rowan/rowan/xslt/EncodedWriter$Repertoire" "ANY" "Lcom/example/rowan/rowan/xslt/EncodedWriter$Repertoire;" (.ref wAny)) (S_w11 : Sta Z h0 "com/example/rowan/rowan/xslt/EncodedWriter$Repertoire" "XML_1_1" "Lcom/example/rowan/rowan/xslt/EncodedWriter$Repertoire;" (.ref w11)) (n1 : w10 ≠ wAny) (n2 : w10 ≠ w11) :
    MetFree l (⟨"com/example/rowan/rowan/xslt/EncodedWriter$Repertoire", "holds", "(I)Z"⟩ : MethodName) (head1 (Jvm.Cond.code (⟨"com/example/rowan/rowan/xslt/EncodedWriter$Repertoire", "holds", "(I)Z"⟩ : MethodName) prog_133_method_6_code 3 (some .boolean) :: ws) ({ frames := 1, cells := 0, slots := 0, locals := 12 } : Room)) (fun a U => a = #[(.ref w10), (.int p1)] ∧ Z.Warmed39 U.vm ∧ U.heap = h0) (fun _ _ _ _ _ => True) (fun _ U o U' => ∃ v L, o = .returned v ∧ Q1 Z w10 p1 wAny w11 h0 n0 v U'.heap L ∧ FrameEnd U o U' L ({ frames := 1, cells := 0, slots := 0, locals := 12 } : Room).cells ({ frames := 1, cells := 0, slots := 0, locals := 12 } : Room).slots) := by
  refine MetFree.of_bodySF (plainFor_of_name pn_1) hisR ?_
  intro p e s m args below meth c s₁ Bd hml0 hP hK
  obtain ⟨rfl, hZ, hh⟩ := hP
  have hx := Bd.exec
  have hby := Bd.bytes
  have hml : c.maxLocals = 3 := hml0
  have hown : s.vm.findClass "com/example/rowan/rowan/xslt/EncodedWriter$Repertoire" = some m.cls := findClass_of_methodNamed Bd.named
  have hnm := (name_of_methodNamed Bd.named Bd.method).1
  have X0 : Stand p l e ({ frames := 1, cells := 0, slots := 0, locals := 12 } : Room) s m #[(.ref w10), (.int p1)] below meth c s₁ [] 0 0 := Stand.of_body Bd
  have e0 : s₁.heap = h0 := by rw [← hh, Bd.state]; rfl
  have N0 := Fr.nil n0
  obtain ⟨Gl, hGl, k0⟩ : ∃ Gl : State → Prop, (∀ t, Gl t → Steps p.tables e below (s₁.setTop (entryFrame m #[(.ref w10), (.int p1)] 3)) t) ∧ ∀ t, own_S p e below s₁ (mkF m 0 #[.val (.ref w10), .val (.int p1), .unset] []) t → Gl t := ⟨fun t => Steps p.tables e below (s₁.setTop (entryFrame m #[(.ref w10), (.int p1)] 3)) t, fun _ k => k, fun t k => castTop (ef_rm1 m w10 p1) k⟩
  have k1 : ∀ t, own_S p e below s₁ (mkF m 1 #[.val (.ref w10), .val (.int p1), .unset] [(.ref w10)]) t → Gl t := fun t kt => k0 t (by
    show own_S p e below s₁ (mkF m 0 #[.val (.ref w10), .val (.int p1), .unset] []) _
    refine XS.aloadN X0.here hx rfl (hb hby d_prog_133_method_6_0) rfl rfl ?_
    exact kt)
  obtain ⟨T2, X2, e2, st2⟩ := getS2 X0 hx hZ hown (host := "") (Or.inl (hw _ (List.mem_of_getElem? (i := 8) rfl))) Via.refl e0 S_wAny (g := (mkF m 1 #[.val (.ref w10), .val (.int p1), .unset] [(.ref w10)])) rfl (hb hby d_prog_133_method_6_1)
  have k3 : ∀ t, own_S p e below T2 (mkF m 4 #[.val (.ref w10), .val (.int p1), .unset] [(.ref wAny), (.ref w10)]) t → Gl t := fun t kt => k1 t (st2 _ kt)
  have k4 : ∀ t, own_S p e below T2 (mkF m 15 #[.val (.ref w10), .val (.int p1), .unset] [(.int (32 : Int32)), (.int p1)]) t → Gl t := fun t kt => k3 t (by
    show own_S p e below T2 (mkF m 4 #[.val (.ref w10), .val (.int p1), .unset] [(.ref wAny), (.ref w10)]) _
    refine Jvm.RoadKit.acmp (g := (mkF m 4 #[.val (.ref w10), .val (.int p1), .unset] [(.ref wAny), (.ref w10)])) X2 hx rfl rfl rfl (pc0 := 4) (pc' := 12) (same := false) rfl (hb hby d_prog_133_method_6_4) rfl (decide_eq_false fun q => n1 (Value.ref.inj q)) (by decide) (by decide) ?_
    show own_S p e below T2 (mkF m 12 #[.val (.ref w10), .val (.int p1), .unset] []) _
    refine XS.iloadN X2.here hx rfl (hb hby d_prog_133_method_6_12) rfl ?_
    show own_S p e below T2 (mkF m 13 #[.val (.ref w10), .val (.int p1), .unset] [(.int p1)]) _
    refine XS.bipush X2.here hx rfl (hb hby d_prog_133_method_6_13) ?_
    exact kt)
  by_cases hc15 : p1 < (32 : Int32)
  · have k5 : ∀ t, own_S p e below T2 (mkF m 20 #[.val (.ref w10), .val (.int p1), .unset] [(.int (p1.toUInt32.toUInt16.toUInt32.toInt32))]) t → Gl t := fun t kt => k4 t (by
      show own_S p e below T2 (mkF m 15 #[.val (.ref w10), .val (.int p1), .unset] [(.int (32 : Int32)), (.int p1)]) _
      refine XS.icmpNo X2.here hx rfl (hb hby d_prog_133_method_6_15) rfl (tlt hc15).2.1 ?_
      show own_S p e below T2 (mkF m 18 #[.val (.ref w10), .val (.int p1), .unset] []) _
      refine XS.iloadN X2.here hx rfl (hb hby d_prog_133_method_6_18) rfl ?_
      show own_S p e below T2 (mkF m 19 #[.val (.ref w10), .val (.int p1), .unset] [(.int p1)]) _
      refine XS.i2c X2.here hx rfl (hb hby d_prog_133_method_6_19) rfl ?_
      exact kt)
    obtain ⟨_, _, ⟨T6, L6, cc6, ss6⟩, -, X6, ⟨Lc6, hQ6, l6, y6, z6⟩, st6⟩ := Jvm.LawKit.callS X2 hx (y := (⟨"com/example/rowan/rowan/xpath/XmlCharacters", "isWhitespace", "(C)Z"⟩ : MethodName)) hown (mvT hZ (hw _ (List.mem_of_getElem? (i := 10) rfl))) (mvT hZ (hw _ (List.mem_of_getElem? (i := 11) rfl))) (mvT hZ (hw _ (List.mem_of_getElem? (i := 12) rfl))) (mvT hZ (hw _ (List.mem_of_getElem? (i := 13) rfl))) (by decide) (backOf (W := 0) (rm2 l Z a0 hw [] (p1.toUInt32.toUInt16.toUInt32.toInt32)  h0 n0 Z0 ) hZ (hw _ (List.mem_of_getElem? (i := 13) rfl)) (hw _ (List.mem_of_getElem? (i := 12) rfl)) (by decide) (by decide)) (g := (mkF m 20 #[.val (.ref w10), .val (.int p1), .unset] [(.int (p1.toUInt32.toUInt16.toUInt32.toInt32))])) rfl (by rw [hml]; rfl) (argsL := [(.int (p1.toUInt32.toUInt16.toUInt32.toInt32))]) (rest := []) (lenOf pd_0 rfl) rfl (by show 2 * 0 + _ ≤ _; exact Nat.le_of_eq rfl) (hb hby d_prog_133_method_6_20) (fun _ _ => ⟨rfl, e2, (by decide : 0 + 0 ≤ _), (by decide : 0 + 0 ≤ _)⟩)
    dsimp only [Pt.U, Pt.locs, Pt.cells, Pt.slots] at X6 l6 y6 z6 st6 hQ6
    subst l6 y6 z6
    obtain ⟨rfl, Nq6, eq6⟩ := hQ6
    have N6 := Fr.app N0 Nq6
    have k7 : ∀ t, own_S p e below T6 (mkF m 23 #[.val (.ref w10), .val (.int p1), .unset] [(.int (own_ws (p1.toUInt32.toUInt16.toUInt32.toInt32)))]) t → Gl t := fun t kt => k5 t (st6 _ kt)
    by_cases hc23 : (own_ws (p1.toUInt32.toUInt16.toUInt32.toInt32)) = (0 : Int32)
    · have k8 : ∀ t, own_S p e below T6 (mkF m 27 #[.val (.ref w10), .val (.int p1), .unset] [(.ref w10)]) t → Gl t := fun t kt => k7 t (by
        show own_S p e below T6 (mkF m 23 #[.val (.ref w10), .val (.int p1), .unset] [(.int (own_ws (p1.toUInt32.toUInt16.toUInt32.toInt32)))]) _
        refine XS.ifNo X6.here hx rfl (hb hby d_prog_133_method_6_23) rfl ((if0 _ _).trans (teq hc23).2) ?_
        show own_S p e below T6 (mkF m 26 #[.val (.ref w10), .val (.int p1), .unset] []) _
        refine XS.aloadN X6.here hx rfl (hb hby d_prog_133_method_6_26) rfl rfl ?_
        exact kt)
      obtain ⟨T9, X9, e9, st9⟩ := getS2 X6 hx hZ hown (host := "") (Or.inl (hw _ (List.mem_of_getElem? (i := 14) rfl))) Via.refl eq6 S_w11 (g := (mkF m 27 #[.val (.ref w10), .val (.int p1), .unset] [(.ref w10)])) rfl (hb hby d_prog_133_method_6_27)
      have k10 : ∀ t, own_S p e below T9 (mkF m 30 #[.val (.ref w10), .val (.int p1), .unset] [(.ref w11), (.ref w10)]) t → Gl t := fun t kt => k8 t (st9 _ kt)
      have k11 : ∀ t, own_S p e below T9 (mkF m 65 #[.val (.ref w10), .val (.int p1), .val (.int (0 : Int32))] [(.int (0 : Int32))]) t → Gl t := fun t kt => k10 t (by
        show own_S p e below T9 (mkF m 30 #[.val (.ref w10), .val (.int p1), .unset] [(.ref w11), (.ref w10)]) _
        refine Jvm.RoadKit.acmp (g := (mkF m 30 #[.val (.ref w10), .val (.int p1), .unset] [(.ref w11), (.ref w10)])) X9 hx rfl rfl rfl (pc0 := 30) (pc' := 41) (same := false) rfl (hb hby d_prog_133_method_6_30) rfl (decide_eq_false fun q => n2 (Value.ref.inj q)) (by decide) (by decide) ?_
        show own_S p e below T9 (mkF m 41 #[.val (.ref w10), .val (.int p1), .unset] []) _
        refine XS.iconst X9.here hx rfl (hb hby d_prog_133_method_6_41) ?_
        show own_S p e below T9 (mkF m 42 #[.val (.ref w10), .val (.int p1), .unset] [(.int (0 : Int32))]) _
        refine XS.istoreN X9.here hx rfl (hb hby d_prog_133_method_6_42) rfl (l' := #[.val (.ref w10), .val (.int p1), .val (.int (0 : Int32))]) rfl ?_
        show own_S p e below T9 (mkF m 43 #[.val (.ref w10), .val (.int p1), .val (.int (0 : Int32))] []) _
        refine XS.goto X9.here hx rfl (pc0 := 43) (pc' := 64) rfl (hb hby d_prog_133_method_6_43) (by decide) (by decide) ?_
        show own_S p e below T9 (mkF m 64 #[.val (.ref w10), .val (.int p1), .val (.int (0 : Int32))] []) _
        refine XS.iloadN X9.here hx rfl (hb hby d_prog_133_method_6_64) rfl ?_
        exact kt)
      obtain ⟨fs, hr, hrun, hended, hW, hsame⟩ := X9.leave (v := some (.int (0 : Int32))) (fun h => by rw [Bd.returns] at h; cases h)
      refine ⟨_, _, hGl _ (k11 _ (retN X9 hx (t := .boolean) Bd.returns (by simp) (hb hby d_prog_133_method_6_65) hr)), hrun, hended, _, _, rfl, ?_, ⟨_, rfl⟩, hW, hsame.mono (by decide) (by decide)⟩
      show Q1 Z w10 p1 wAny w11 h0 n0 _ T9.heap _
      rw [e9]
      exact ⟨by simp [own_holds, hc15, hc23], N6, rfl⟩
    · have k12 : ∀ t, own_S p e below T6 (mkF m 65 #[.val (.ref w10), .val (.int p1), .val (.int (1 : Int32))] [(.int (1 : Int32))]) t → Gl t := fun t kt => k7 t (by
        show own_S p e below T6 (mkF m 23 #[.val (.ref w10), .val (.int p1), .unset] [(.int (own_ws (p1.toUInt32.toUInt16.toUInt32.toInt32)))]) _
        refine XS.ifYes X6.here hx rfl (pc0 := 23) (pc' := 37) rfl (hb hby d_prog_133_method_6_23) rfl ((if0 _ _).trans (feq hc23).2) (by decide) (by decide) ?_
        show own_S p e below T6 (mkF m 37 #[.val (.ref w10), .val (.int p1), .unset] []) _
        refine XS.iconst X6.here hx rfl (hb hby d_prog_133_method_6_37) ?_
        show own_S p e below T6 (mkF m 38 #[.val (.ref w10), .val (.int p1), .unset] [(.int (1 : Int32))]) _
        refine XS.goto X6.here hx rfl (pc0 := 38) (pc' := 42) rfl (hb hby d_prog_133_method_6_38) (by decide) (by decide) ?_
        show own_S p e below T6 (mkF m 42 #[.val (.ref w10), .val (.int p1), .unset] [(.int (1 : Int32))]) _
        refine XS.istoreN X6.here hx rfl (hb hby d_prog_133_method_6_42) rfl (l' := #[.val (.ref w10), .val (.int p1), .val (.int (1 : Int32))]) rfl ?_
        show own_S p e below T6 (mkF m 43 #[.val (.ref w10), .val (.int p1), .val (.int (1 : Int32))] []) _
        refine XS.goto X6.here hx rfl (pc0 := 43) (pc' := 64) rfl (hb hby d_prog_133_method_6_43) (by decide) (by decide) ?_
        show own_S p e below T6 (mkF m 64 #[.val (.ref w10), .val (.int p1), .val (.int (1 : Int32))] []) _
        refine XS.iloadN X6.here hx rfl (hb hby d_prog_133_method_6_64) rfl ?_
        exact kt)
      obtain ⟨fs, hr, hrun, hended, hW, hsame⟩ := X6.leave (v := some (.int (1 : Int32))) (fun h => by rw [Bd.returns] at h; cases h)
      refine ⟨_, _, hGl _ (k12 _ (retN X6 hx (t := .boolean) Bd.returns (by simp) (hb hby d_prog_133_method_6_65) hr)), hrun, hended, _, _, rfl, ?_, ⟨_, rfl⟩, hW, hsame.mono (by decide) (by decide)⟩
      show Q1 Z w10 p1 wAny w11 h0 n0 _ T6.heap _
      rw [eq6]
      exact ⟨by simp [own_holds, hc15, hc23], N6, rfl⟩
  · have k13 : ∀ t, own_S p e below T2 (mkF m 49 #[.val (.ref w10), .val (.int p1), .unset] [(.int (65534 : Int32)), (.int p1)]) t → Gl t := fun t kt => k4 t (by
      show own_S p e below T2 (mkF m 15 #[.val (.ref w10), .val (.int p1), .unset] [(.int (32 : Int32)), (.int p1)]) _
      refine XS.icmpYes X2.here hx rfl (pc0 := 15) (pc' := 46) rfl (hb hby d_prog_133_method_6_15) rfl (flt hc15).2.1 (by decide) (by decide) ?_
      show own_S p e below T2 (mkF m 46 #[.val (.ref w10), .val (.int p1), .unset] []) _
      refine XS.iloadN X2.here hx rfl (hb hby d_prog_133_method_6_46) rfl ?_
      show own_S p e below T2 (mkF m 47 #[.val (.ref w10), .val (.int p1), .unset] [(.int p1)]) _
      refine X2.ldcInt hx hown (mvT hZ (hw _ (List.mem_of_getElem? (i := 19) rfl))) (g := (mkF m 47 #[.val (.ref w10), .val (.int p1), .unset] [(.int p1)])) rfl (hb hby d_prog_133_method_6_47) _ ?_
      exact kt)
    by_cases hc49 : p1 = (65534 : Int32)
    · have k14 : ∀ t, own_S p e below T2 (mkF m 65 #[.val (.ref w10), .val (.int p1), .val (.int (0 : Int32))] [(.int (0 : Int32))]) t → Gl t := fun t kt => k13 t (by
        show own_S p e below T2 (mkF m 49 #[.val (.ref w10), .val (.int p1), .unset] [(.int (65534 : Int32)), (.int p1)]) _
        refine XS.icmpYes X2.here hx rfl (pc0 := 49) (pc' := 62) rfl (hb hby d_prog_133_method_6_49) rfl (teq hc49).1 (by decide) (by decide) ?_
        show own_S p e below T2 (mkF m 62 #[.val (.ref w10), .val (.int p1), .unset] []) _
        refine XS.iconst X2.here hx rfl (hb hby d_prog_133_method_6_62) ?_
        show own_S p e below T2 (mkF m 63 #[.val (.ref w10), .val (.int p1), .unset] [(.int (0 : Int32))]) _
        refine XS.istoreN X2.here hx rfl (hb hby d_prog_133_method_6_63) rfl (l' := #[.val (.ref w10), .val (.int p1), .val (.int (0 : Int32))]) rfl ?_
        show own_S p e below T2 (mkF m 64 #[.val (.ref w10), .val (.int p1), .val (.int (0 : Int32))] []) _
        refine XS.iloadN X2.here hx rfl (hb hby d_prog_133_method_6_64) rfl ?_
        exact kt)
      obtain ⟨fs, hr, hrun, hended, hW, hsame⟩ := X2.leave (v := some (.int (0 : Int32))) (fun h => by rw [Bd.returns] at h; cases h)
      refine ⟨_, _, hGl _ (k14 _ (retN X2 hx (t := .boolean) Bd.returns (by simp) (hb hby d_prog_133_method_6_65) hr)), hrun, hended, _, _, rfl, ?_, ⟨_, rfl⟩, hW, hsame.mono (by decide) (by decide)⟩
      show Q1 Z w10 p1 wAny w11 h0 n0 _ T2.heap _
      rw [e2]
      exact ⟨by simp [own_holds, hc15, hc49], N0, rfl⟩
    · have k15 : ∀ t, own_S p e below T2 (mkF m 55 #[.val (.ref w10), .val (.int p1), .unset] [(.int (65535 : Int32)), (.int p1)]) t → Gl t := fun t kt => k13 t (by
        show own_S p e below T2 (mkF m 49 #[.val (.ref w10), .val (.int p1), .unset] [(.int (65534 : Int32)), (.int p1)]) _
        refine XS.icmpNo X2.here hx rfl (hb hby d_prog_133_method_6_49) rfl (feq hc49).1 ?_
        show own_S p e below T2 (mkF m 52 #[.val (.ref w10), .val (.int p1), .unset] []) _
        refine XS.iloadN X2.here hx rfl (hb hby d_prog_133_method_6_52) rfl ?_
        show own_S p e below T2 (mkF m 53 #[.val (.ref w10), .val (.int p1), .unset] [(.int p1)]) _
        refine X2.ldcInt hx hown (mvT hZ (hw _ (List.mem_of_getElem? (i := 20) rfl))) (g := (mkF m 53 #[.val (.ref w10), .val (.int p1), .unset] [(.int p1)])) rfl (hb hby d_prog_133_method_6_53) _ ?_
        exact kt)
      by_cases hc55 : p1 = (65535 : Int32)
      · have k16 : ∀ t, own_S p e below T2 (mkF m 65 #[.val (.ref w10), .val (.int p1), .val (.int (0 : Int32))] [(.int (0 : Int32))]) t → Gl t := fun t kt => k15 t (by
          show own_S p e below T2 (mkF m 55 #[.val (.ref w10), .val (.int p1), .unset] [(.int (65535 : Int32)), (.int p1)]) _
          refine XS.icmpYes X2.here hx rfl (pc0 := 55) (pc' := 62) rfl (hb hby d_prog_133_method_6_55) rfl (teq hc55).1 (by decide) (by decide) ?_
          show own_S p e below T2 (mkF m 62 #[.val (.ref w10), .val (.int p1), .unset] []) _
          refine XS.iconst X2.here hx rfl (hb hby d_prog_133_method_6_62) ?_
          show own_S p e below T2 (mkF m 63 #[.val (.ref w10), .val (.int p1), .unset] [(.int (0 : Int32))]) _
          refine XS.istoreN X2.here hx rfl (hb hby d_prog_133_method_6_63) rfl (l' := #[.val (.ref w10), .val (.int p1), .val (.int (0 : Int32))]) rfl ?_
          show own_S p e below T2 (mkF m 64 #[.val (.ref w10), .val (.int p1), .val (.int (0 : Int32))] []) _
          refine XS.iloadN X2.here hx rfl (hb hby d_prog_133_method_6_64) rfl ?_
          exact kt)
        obtain ⟨fs, hr, hrun, hended, hW, hsame⟩ := X2.leave (v := some (.int (0 : Int32))) (fun h => by rw [Bd.returns] at h; cases h)
        refine ⟨_, _, hGl _ (k16 _ (retN X2 hx (t := .boolean) Bd.returns (by simp) (hb hby d_prog_133_method_6_65) hr)), hrun, hended, _, _, rfl, ?_, ⟨_, rfl⟩, hW, hsame.mono (by decide) (by decide)⟩
        show Q1 Z w10 p1 wAny w11 h0 n0 _ T2.heap _
        rw [e2]
        exact ⟨by simp [own_holds, hc15, hc49, hc55], N0, rfl⟩
      · have k17 : ∀ t, own_S p e below T2 (mkF m 65 #[.val (.ref w10), .val (.int p1), .val (.int (1 : Int32))] [(.int (1 : Int32))]) t → Gl t := fun t kt => k15 t (by
          show own_S p e below T2 (mkF m 55 #[.val (.ref w10), .val (.int p1), .unset] [(.int (65535 : Int32)), (.int p1)]) _
          refine XS.icmpNo X2.here hx rfl (hb hby d_prog_133_method_6_55) rfl (feq hc55).1 ?_
          show own_S p e below T2 (mkF m 58 #[.val (.ref w10), .val (.int p1), .unset] []) _
          refine XS.iconst X2.here hx rfl (hb hby d_prog_133_method_6_58) ?_
          show own_S p e below T2 (mkF m 59 #[.val (.ref w10), .val (.int p1), .unset] [(.int (1 : Int32))]) _
          refine XS.goto X2.here hx rfl (pc0 := 59) (pc' := 63) rfl (hb hby d_prog_133_method_6_59) (by decide) (by decide) ?_
          show own_S p e below T2 (mkF m 63 #[.val (.ref w10), .val (.int p1), .unset] [(.int (1 : Int32))]) _
          refine XS.istoreN X2.here hx rfl (hb hby d_prog_133_method_6_63) rfl (l' := #[.val (.ref w10), .val (.int p1), .val (.int (1 : Int32))]) rfl ?_
          show own_S p e below T2 (mkF m 64 #[.val (.ref w10), .val (.int p1), .val (.int (1 : Int32))] []) _
          refine XS.iloadN X2.here hx rfl (hb hby d_prog_133_method_6_64) rfl ?_
          exact kt)
        obtain ⟨fs, hr, hrun, hended, hW, hsame⟩ := X2.leave (v := some (.int (1 : Int32))) (fun h => by rw [Bd.returns] at h; cases h)
        refine ⟨_, _, hGl _ (k17 _ (retN X2 hx (t := .boolean) Bd.returns (by simp) (hb hby d_prog_133_method_6_65) hr)), hrun, hended, _, _, rfl, ?_, ⟨_, rfl⟩, hW, hsame.mono (by decide) (by decide)⟩
        show Q1 Z w10 p1 wAny w11 h0 n0 _ T2.heap _
        rw [e2]
        exact ⟨by simp [own_holds, hc15, hc49, hc55], N0, rfl⟩

theorem d_prog_133_method_9_0 : decode prog_133_method_9_code 0 = .ok (.aload_n 0, 1) := by decide +kernel
theorem d_prog_133_method_9_1 : decode prog_133_method_9_code 1 = .ok (.getstatic 12, 3) := by decide +kernel
theorem d_prog_133_method_9_4 : decode prog_133_method_9_code 4 = .ok (.if_acmp .eq 10, 3) := by decide +kernel
theorem d_prog_133_method_9_14 : decode prog_133_method_9_code 14 = .ok (.iconst 1, 1) := by decide +kernel
theorem d_prog_133_method_9_15 : decode prog_133_method_9_code 15 = .ok (.goto 4, 3) := by decide +kernel
theorem d_prog_133_method_9_19 : decode prog_133_method_9_code 19 = .ok (.ireturn, 1) := by decide +kernel
theorem ef_rm5 (m : MethodId) (x0 : Addr) : entryFrame m #[(.ref x0)] 1 = mkF m 0 #[.val (.ref x0)] [] := by first | (simp [entryFrame, mkF, argsToLocals, Value.category]; done) | rfl
def Q5 (Z : State) (w11 : Addr) (h0 : Heap) (n0 : Nat) (v : Option Value) (h : Heap) (L : List Loc) : Prop := v = some (.int (1 : Int32)) ∧ Fr n0 L ∧ h = h0
set_option maxRecDepth 65536 in
set_option maxHeartbeats 40000000 in
theorem rm5 (l : Launch) (Z : State) (a0 : Array Value) (hw : ∀ d ∈ tables_1, d.before a0 Z = true) (ws : List Jvm.Cond) (w11 : Addr) (h0 : Heap) (n0 : Nat) (Z0 : n0 ≤ h0.size) (S_w11 : Sta Z h0 "com/example/rowan/rowan/xslt/EncodedWriter$Repertoire" "XML_1_1" "Lcom/example/rowan/rowan/xslt/EncodedWriter$Repertoire;" (.ref w11)) :
    MetFree l (⟨"com/example/rowan/rowan/xslt/EncodedWriter$Repertoire", "readByXml11", "()Z"⟩ : MethodName) (head1 (Jvm.Cond.code (⟨"com/example/rowan/rowan/xslt/EncodedWriter$Repertoire", "readByXml11", "()Z"⟩ : MethodName) prog_133_method_9_code 1 (some .boolean) :: ws) ({ frames := 0, cells := 0, slots := 0, locals := 0 } : Room)) (fun a U => a = #[(.ref w11)] ∧ Z.Warmed39 U.vm ∧ U.heap = h0) (fun _ _ _ _ _ => True) (fun _ U o U' => ∃ v L, o = .returned v ∧ Q5 Z w11 h0 n0 v U'.heap L ∧ FrameEnd U o U' L ({ frames := 0, cells := 0, slots := 0, locals := 0 } : Room).cells ({ frames := 0, cells := 0, slots := 0, locals := 0 } : Room).slots) := by
  refine MetFree.of_bodySF (plainFor_of_name pn_1) hisR ?_
  intro p e s m args below meth c s₁ Bd hml0 hP hK
  obtain ⟨rfl, hZ, hh⟩ := hP
  have hx := Bd.exec
  have hby := Bd.bytes
  have hml : c.maxLocals = 1 := hml0
  have hown : s.vm.findClass "com/example/rowan/rowan/xslt/EncodedWriter$Repertoire" = some m.cls := findClass_of_methodNamed Bd.named
  have hnm := (name_of_methodNamed Bd.named Bd.method).1
  have X0 : Stand p l e ({ frames := 0, cells := 0, slots := 0, locals := 0 } : Room) s m #[(.ref w11)] below meth c s₁ [] 0 0 := Stand.of_body Bd
  have e0 : s₁.heap = h0 := by rw [← hh, Bd.state]; rfl
  have N0 := Fr.nil n0
  obtain ⟨Gl, hGl, k0⟩ : ∃ Gl : State → Prop, (∀ t, Gl t → Steps p.tables e below (s₁.setTop (entryFrame m #[(.ref w11)] 1)) t) ∧ ∀ t, own_S p e below s₁ (mkF m 0 #[.val (.ref w11)] []) t → Gl t := ⟨fun t => Steps p.tables e below (s₁.setTop (entryFrame m #[(.ref w11)] 1)) t, fun _ k => k, fun t k => castTop (ef_rm5 m w11) k⟩
  have k1 : ∀ t, own_S p e below s₁ (mkF m 1 #[.val (.ref w11)] [(.ref w11)]) t → Gl t := fun t kt => k0 t (by
    show own_S p e below s₁ (mkF m 0 #[.val (.ref w11)] []) _
    refine XS.aloadN X0.here hx rfl (hb hby d_prog_133_method_9_0) rfl rfl ?_
    exact kt)
  obtain ⟨T2, X2, e2, st2⟩ := getS2 X0 hx hZ hown (host := "") (Or.inl (hw _ (List.mem_of_getElem? (i := 14) rfl))) Via.refl e0 S_w11 (g := (mkF m 1 #[.val (.ref w11)] [(.ref w11)])) rfl (hb hby d_prog_133_method_9_1)
  have k3 : ∀ t, own_S p e below T2 (mkF m 4 #[.val (.ref w11)] [(.ref w11), (.ref w11)]) t → Gl t := fun t kt => k1 t (st2 _ kt)
  have k4 : ∀ t, own_S p e below T2 (mkF m 19 #[.val (.ref w11)] [(.int (1 : Int32))]) t → Gl t := fun t kt => k3 t (by
    show own_S p e below T2 (mkF m 4 #[.val (.ref w11)] [(.ref w11), (.ref w11)]) _
    refine Jvm.RoadKit.acmp (g := (mkF m 4 #[.val (.ref w11)] [(.ref w11), (.ref w11)])) X2 hx rfl rfl rfl (pc0 := 4) (pc' := 14) (same := true) rfl (hb hby d_prog_133_method_9_4) rfl (decide_eq_true rfl) (by decide) (by decide) ?_
    show own_S p e below T2 (mkF m 14 #[.val (.ref w11)] []) _
    refine XS.iconst X2.here hx rfl (hb hby d_prog_133_method_9_14) ?_
    show own_S p e below T2 (mkF m 15 #[.val (.ref w11)] [(.int (1 : Int32))]) _
    refine XS.goto X2.here hx rfl (pc0 := 15) (pc' := 19) rfl (hb hby d_prog_133_method_9_15) (by decide) (by decide) ?_
    exact kt)
  obtain ⟨fs, hr, hrun, hended, hW, hsame⟩ := X2.leave (v := some (.int (1 : Int32))) (fun h => by rw [Bd.returns] at h; cases h)
  refine ⟨_, _, hGl _ (k4 _ (retN X2 hx (t := .boolean) Bd.returns (by simp) (hb hby d_prog_133_method_9_19) hr)), hrun, hended, _, _, rfl, ?_, ⟨_, rfl⟩, hW, hsame.mono (by decide) (by decide)⟩
  show Q5 Z w11 h0 n0 _ T2.heap _
  rw [e2]
  exact ⟨rfl, N0, rfl⟩

theorem d_prog_133_method_7_0 : decode prog_133_method_7_code 0 = .ok (.aload_n 0, 1) := by decide +kernel
theorem d_prog_133_method_7_1 : decode prog_133_method_7_code 1 = .ok (.invokevirtual 76, 3) := by decide +kernel
theorem d_prog_133_method_7_4 : decode prog_133_method_7_code 4 = .ok (.ifCond .eq 44, 3) := by decide +kernel
theorem d_prog_133_method_7_7 : decode prog_133_method_7_code 7 = .ok (.iload_n 1, 1) := by decide +kernel
theorem d_prog_133_method_7_8 : decode prog_133_method_7_code 8 = .ok (.bipush 32, 2) := by decide +kernel
theorem d_prog_133_method_7_10 : decode prog_133_method_7_code 10 = .ok (.if_icmp .ge 14, 3) := by decide +kernel
theorem d_prog_133_method_7_13 : decode prog_133_method_7_code 13 = .ok (.iload_n 1, 1) := by decide +kernel
theorem d_prog_133_method_7_14 : decode prog_133_method_7_code 14 = .ok (.i2c, 1) := by decide +kernel
theorem d_prog_133_method_7_15 : decode prog_133_method_7_code 15 = .ok (.invokestatic 69, 3) := by decide +kernel
theorem d_prog_133_method_7_18 : decode prog_133_method_7_code 18 = .ok (.ifCond .ne 30, 3) := by decide +kernel
theorem d_prog_133_method_7_21 : decode prog_133_method_7_code 21 = .ok (.goto 23, 3) := by decide +kernel
theorem d_prog_133_method_7_24 : decode prog_133_method_7_code 24 = .ok (.iload_n 1, 1) := by decide +kernel
theorem d_prog_133_method_7_25 : decode prog_133_method_7_code 25 = .ok (.bipush 127, 2) := by decide +kernel
theorem d_prog_133_method_7_27 : decode prog_133_method_7_code 27 = .ok (.if_icmp .lt 21, 3) := by decide +kernel
theorem d_prog_133_method_7_30 : decode prog_133_method_7_code 30 = .ok (.iload_n 1, 1) := by decide +kernel
theorem d_prog_133_method_7_31 : decode prog_133_method_7_code 31 = .ok (.sipush 159, 3) := by decide +kernel
theorem d_prog_133_method_7_34 : decode prog_133_method_7_code 34 = .ok (.if_icmp .gt 14, 3) := by decide +kernel
theorem d_prog_133_method_7_37 : decode prog_133_method_7_code 37 = .ok (.iload_n 1, 1) := by decide +kernel
theorem d_prog_133_method_7_38 : decode prog_133_method_7_code 38 = .ok (.sipush 133, 3) := by decide +kernel
theorem d_prog_133_method_7_41 : decode prog_133_method_7_code 41 = .ok (.if_icmp .eq 7, 3) := by decide +kernel
theorem d_prog_133_method_7_44 : decode prog_133_method_7_code 44 = .ok (.iconst 1, 1) := by decide +kernel
theorem d_prog_133_method_7_45 : decode prog_133_method_7_code 45 = .ok (.goto 4, 3) := by decide +kernel
theorem d_prog_133_method_7_48 : decode prog_133_method_7_code 48 = .ok (.iconst 0, 1) := by decide +kernel
theorem d_prog_133_method_7_49 : decode prog_133_method_7_code 49 = .ok (.ireturn, 1) := by decide +kernel
theorem pd_1 : parseMethodDescriptor "()Z" = some ⟨[], some .boolean⟩ := by decide +kernel
theorem ef_rm4 (m : MethodId) (x0 : Addr) (x1 : Int32) : entryFrame m #[(.ref x0), (.int x1)] 2 = mkF m 0 #[.val (.ref x0), .val (.int x1)] [] := by first | (simp [entryFrame, mkF, argsToLocals, Value.category]; done) | rfl
def Q4 (Z : State) (w11 : Addr) (p1 : Int32) (h0 : Heap) (n0 : Nat) (v : Option Value) (h : Heap) (L : List Loc) : Prop := v = some (.int (own_oar p1)) ∧ Fr n0 L ∧ h = h0
set_option maxRecDepth 65536 in
set_option maxHeartbeats 40000000 in
theorem rm4 (l : Launch) (Z : State) (a0 : Array Value) (hw : ∀ d ∈ tables_1, d.before a0 Z = true) (ws : List Jvm.Cond) (w11 : Addr) (p1 : Int32) (h0 : Heap) (n0 : Nat) (Z0 : n0 ≤ h0.size) (S_w11 : Sta Z h0 "com/example/rowan/rowan/xslt/EncodedWriter$Repertoire" "XML_1_1" "Lcom/example/rowan/rowan/xslt/EncodedWriter$Repertoire;" (.ref w11)) (E_w11 : Exa Z h0 w11 "com/example/rowan/rowan/xslt/EncodedWriter$Repertoire") :
    MetFree l (⟨"com/example/rowan/rowan/xslt/EncodedWriter$Repertoire", "onlyAsReference", "(I)Z"⟩ : MethodName) (head1 (Jvm.Cond.code (⟨"com/example/rowan/rowan/xslt/EncodedWriter$Repertoire", "onlyAsReference", "(I)Z"⟩ : MethodName) prog_133_method_7_code 2 (some .boolean) :: ws) ({ frames := 1, cells := 0, slots := 0, locals := 12 } : Room)) (fun a U => a = #[(.ref w11), (.int p1)] ∧ Z.Warmed39 U.vm ∧ U.heap = h0) (fun _ _ _ _ _ => True) (fun _ U o U' => ∃ v L, o = .returned v ∧ Q4 Z w11 p1 h0 n0 v U'.heap L ∧ FrameEnd U o U' L ({ frames := 1, cells := 0, slots := 0, locals := 12 } : Room).cells ({ frames := 1, cells := 0, slots := 0, locals := 12 } : Room).slots) := by
  refine MetFree.of_bodySF (plainFor_of_name pn_1) hisR ?_
  intro p e s m args below meth c s₁ Bd hml0 hP hK
  obtain ⟨rfl, hZ, hh⟩ := hP
  have hx := Bd.exec
  have hby := Bd.bytes
  have hml : c.maxLocals = 2 := hml0
  have hown : s.vm.findClass "com/example/rowan/rowan/xslt/EncodedWriter$Repertoire" = some m.cls := findClass_of_methodNamed Bd.named
  have hnm := (name_of_methodNamed Bd.named Bd.method).1
  have X0 : Stand p l e ({ frames := 1, cells := 0, slots := 0, locals := 12 } : Room) s m #[(.ref w11), (.int p1)] below meth c s₁ [] 0 0 := Stand.of_body Bd
  have e0 : s₁.heap = h0 := by rw [← hh, Bd.state]; rfl
  have N0 := Fr.nil n0
  obtain ⟨Gl, hGl, k0⟩ : ∃ Gl : State → Prop, (∀ t, Gl t → Steps p.tables e below (s₁.setTop (entryFrame m #[(.ref w11), (.int p1)] 2)) t) ∧ ∀ t, own_S p e below s₁ (mkF m 0 #[.val (.ref w11), .val (.int p1)] []) t → Gl t := ⟨fun t => Steps p.tables e below (s₁.setTop (entryFrame m #[(.ref w11), (.int p1)] 2)) t, fun _ k => k, fun t k => castTop (ef_rm4 m w11 p1) k⟩
  have k1 : ∀ t, own_S p e below s₁ (mkF m 1 #[.val (.ref w11), .val (.int p1)] [(.ref w11)]) t → Gl t := fun t kt => k0 t (by
    show own_S p e below s₁ (mkF m 0 #[.val (.ref w11), .val (.int p1)] []) _
    refine XS.aloadN X0.here hx rfl (hb hby d_prog_133_method_7_0) rfl rfl ?_
    exact kt)
  obtain ⟨cq2, qa2, qb2⟩ := E_w11.cell
  obtain ⟨_, _, ⟨T2, L2, cc2, ss2⟩, -, X2, ⟨Lc2, hQ2, l2, y2, z2⟩, st2⟩ := X0.privateBack hx (y := (⟨"com/example/rowan/rowan/xslt/EncodedWriter$Repertoire", "readByXml11", "()Z"⟩ : MethodName)) hown (mvT hZ (hw _ (List.mem_of_getElem? (i := 27) rfl))) (mvT hZ (hw _ (List.mem_of_getElem? (i := 28) rfl))) (own_selP (z := (⟨"com/example/rowan/rowan/xslt/EncodedWriter$Repertoire", "holds", "(I)Z"⟩ : MethodName)) rfl (mvT hZ (hw _ (List.mem_of_getElem? (i := 6) rfl))) (Cond.privateMethod_at (mvP hZ (hw _ (List.mem_of_getElem? (i := 29) rfl)) (args := #[]))) (mvT hZ (hw _ (List.mem_of_getElem? (i := 28) rfl))) (by decide)) (Cond.privateMethod_at (mvP hZ (hw _ (List.mem_of_getElem? (i := 29) rfl)) (args := #[]))) (mvT hZ (hw _ (List.mem_of_getElem? (i := 30) rfl))) (by decide) (backOf (W := 0) (rm5 l Z a0 hw [] w11  h0 n0 Z0 S_w11) hZ (hw _ (List.mem_of_getElem? (i := 30) rfl)) (hw _ (List.mem_of_getElem? (i := 1) rfl)) (by decide) (by decide)) (g := (mkF m 1 #[.val (.ref w11), .val (.int p1)] [(.ref w11)])) rfl (by rw [hml]; rfl) (Steps.refl _) (a := w11) (by rw [e0]; exact qa2) qb2 (argsL := []) (rest := []) (lenOf pd_1 rfl) rfl (by show 2 * 0 + _ ≤ _; exact Nat.le_of_eq rfl) (hb hby d_prog_133_method_7_1) (fun _ _ => ⟨rfl, e0, (by decide : 0 + 0 ≤ _), (by decide : 0 + 0 ≤ _)⟩)
  dsimp only [Pt.U, Pt.locs, Pt.cells, Pt.slots] at X2 l2 y2 z2 st2 hQ2
  subst l2 y2 z2
  obtain ⟨rfl, Nq2, eq2⟩ := hQ2
  have N2 := Fr.app N0 Nq2
  have k3 : ∀ t, own_S p e below T2 (mkF m 4 #[.val (.ref w11), .val (.int p1)] [(.int (1 : Int32))]) t → Gl t := fun t kt => k1 t (st2.trans kt)
  have k4 : ∀ t, own_S p e below T2 (mkF m 10 #[.val (.ref w11), .val (.int p1)] [(.int (32 : Int32)), (.int p1)]) t → Gl t := fun t kt => k3 t (by
    show own_S p e below T2 (mkF m 4 #[.val (.ref w11), .val (.int p1)] [(.int (1 : Int32))]) _
    refine XS.ifNo X2.here hx rfl (hb hby d_prog_133_method_7_4) rfl ((if0 _ _).trans (feq (by decide : ¬ ((1 : Int32) = (0 : Int32)))).1) ?_
    show own_S p e below T2 (mkF m 7 #[.val (.ref w11), .val (.int p1)] []) _
    refine XS.iloadN X2.here hx rfl (hb hby d_prog_133_method_7_7) rfl ?_
    show own_S p e below T2 (mkF m 8 #[.val (.ref w11), .val (.int p1)] [(.int p1)]) _
    refine XS.bipush X2.here hx rfl (hb hby d_prog_133_method_7_8) ?_
    exact kt)
  by_cases hc10 : p1 < (32 : Int32)
  · have k5 : ∀ t, own_S p e below T2 (mkF m 15 #[.val (.ref w11), .val (.int p1)] [(.int (p1.toUInt32.toUInt16.toUInt32.toInt32))]) t → Gl t := fun t kt => k4 t (by
      show own_S p e below T2 (mkF m 10 #[.val (.ref w11), .val (.int p1)] [(.int (32 : Int32)), (.int p1)]) _
      refine XS.icmpNo X2.here hx rfl (hb hby d_prog_133_method_7_10) rfl (tlt hc10).2.1 ?_
      show own_S p e below T2 (mkF m 13 #[.val (.ref w11), .val (.int p1)] []) _
      refine XS.iloadN X2.here hx rfl (hb hby d_prog_133_method_7_13) rfl ?_
      show own_S p e below T2 (mkF m 14 #[.val (.ref w11), .val (.int p1)] [(.int p1)]) _
      refine XS.i2c X2.here hx rfl (hb hby d_prog_133_method_7_14) rfl ?_
      exact kt)
    obtain ⟨_, _, ⟨T6, L6, cc6, ss6⟩, -, X6, ⟨Lc6, hQ6, l6, y6, z6⟩, st6⟩ := Jvm.LawKit.callS X2 hx (y := (⟨"com/example/rowan/rowan/xpath/XmlCharacters", "isWhitespace", "(C)Z"⟩ : MethodName)) hown (mvT hZ (hw _ (List.mem_of_getElem? (i := 10) rfl))) (mvT hZ (hw _ (List.mem_of_getElem? (i := 11) rfl))) (mvT hZ (hw _ (List.mem_of_getElem? (i := 12) rfl))) (mvT hZ (hw _ (List.mem_of_getElem? (i := 13) rfl))) (by decide) (backOf (W := 0) (rm2 l Z a0 hw [] (p1.toUInt32.toUInt16.toUInt32.toInt32)  h0 n0 Z0 ) hZ (hw _ (List.mem_of_getElem? (i := 13) rfl)) (hw _ (List.mem_of_getElem? (i := 12) rfl)) (by decide) (by decide)) (g := (mkF m 15 #[.val (.ref w11), .val (.int p1)] [(.int (p1.toUInt32.toUInt16.toUInt32.toInt32))])) rfl (by rw [hml]; rfl) (argsL := [(.int (p1.toUInt32.toUInt16.toUInt32.toInt32))]) (rest := []) (lenOf pd_0 rfl) rfl (by show 2 * 0 + _ ≤ _; exact Nat.le_of_eq rfl) (hb hby d_prog_133_method_7_15) (fun _ _ => ⟨rfl, eq2, (by decide : 0 + 0 ≤ _), (by decide : 0 + 0 ≤ _)⟩)
    dsimp only [Pt.U, Pt.locs, Pt.cells, Pt.slots] at X6 l6 y6 z6 st6 hQ6
    subst l6 y6 z6
    obtain ⟨rfl, Nq6, eq6⟩ := hQ6
    have N6 := Fr.app N2 Nq6
    have k7 : ∀ t, own_S p e below T6 (mkF m 18 #[.val (.ref w11), .val (.int p1)] [(.int (own_ws (p1.toUInt32.toUInt16.toUInt32.toInt32)))]) t → Gl t := fun t kt => k5 t (st6 _ kt)
    by_cases hc18 : (own_ws (p1.toUInt32.toUInt16.toUInt32.toInt32)) = (0 : Int32)
    · have k8 : ∀ t, own_S p e below T6 (mkF m 49 #[.val (.ref w11), .val (.int p1)] [(.int (1 : Int32))]) t → Gl t := fun t kt => k7 t (by
        show own_S p e below T6 (mkF m 18 #[.val (.ref w11), .val (.int p1)] [(.int (own_ws (p1.toUInt32.toUInt16.toUInt32.toInt32)))]) _
        refine XS.ifNo X6.here hx rfl (hb hby d_prog_133_method_7_18) rfl ((if0 _ _).trans (teq hc18).2) ?_
        show own_S p e below T6 (mkF m 21 #[.val (.ref w11), .val (.int p1)] []) _
        refine XS.goto X6.here hx rfl (pc0 := 21) (pc' := 44) rfl (hb hby d_prog_133_method_7_21) (by decide) (by decide) ?_
        show own_S p e below T6 (mkF m 44 #[.val (.ref w11), .val (.int p1)] []) _
        refine XS.iconst X6.here hx rfl (hb hby d_prog_133_method_7_44) ?_
        show own_S p e below T6 (mkF m 45 #[.val (.ref w11), .val (.int p1)] [(.int (1 : Int32))]) _
        refine XS.goto X6.here hx rfl (pc0 := 45) (pc' := 49) rfl (hb hby d_prog_133_method_7_45) (by decide) (by decide) ?_
        exact kt)
      obtain ⟨fs, hr, hrun, hended, hW, hsame⟩ := X6.leave (v := some (.int (1 : Int32))) (fun h => by rw [Bd.returns] at h; cases h)
      refine ⟨_, _, hGl _ (k8 _ (retN X6 hx (t := .boolean) Bd.returns (by simp) (hb hby d_prog_133_method_7_49) hr)), hrun, hended, _, _, rfl, ?_, ⟨_, rfl⟩, hW, hsame.mono (by decide) (by decide)⟩
      show Q4 Z w11 p1 h0 n0 _ T6.heap _
      rw [eq6]
      exact ⟨by simp [own_oar, hc10, hc18], N6, rfl⟩
    · have k9 : ∀ t, own_S p e below T6 (mkF m 49 #[.val (.ref w11), .val (.int p1)] [(.int (0 : Int32))]) t → Gl t := fun t kt => k7 t (by
        show own_S p e below T6 (mkF m 18 #[.val (.ref w11), .val (.int p1)] [(.int (own_ws (p1.toUInt32.toUInt16.toUInt32.toInt32)))]) _
        refine XS.ifYes X6.here hx rfl (pc0 := 18) (pc' := 48) rfl (hb hby d_prog_133_method_7_18) rfl ((if0 _ _).trans (feq hc18).2) (by decide) (by decide) ?_
        show own_S p e below T6 (mkF m 48 #[.val (.ref w11), .val (.int p1)] []) _
        refine XS.iconst X6.here hx rfl (hb hby d_prog_133_method_7_48) ?_
        exact kt)
      obtain ⟨fs, hr, hrun, hended, hW, hsame⟩ := X6.leave (v := some (.int (0 : Int32))) (fun h => by rw [Bd.returns] at h; cases h)
      refine ⟨_, _, hGl _ (k9 _ (retN X6 hx (t := .boolean) Bd.returns (by simp) (hb hby d_prog_133_method_7_49) hr)), hrun, hended, _, _, rfl, ?_, ⟨_, rfl⟩, hW, hsame.mono (by decide) (by decide)⟩
      show Q4 Z w11 p1 h0 n0 _ T6.heap _
      rw [eq6]
      exact ⟨by simp [own_oar, hc10, hc18], N6, rfl⟩
  · have k10 : ∀ t, own_S p e below T2 (mkF m 27 #[.val (.ref w11), .val (.int p1)] [(.int (127 : Int32)), (.int p1)]) t → Gl t := fun t kt => k4 t (by
      show own_S p e below T2 (mkF m 10 #[.val (.ref w11), .val (.int p1)] [(.int (32 : Int32)), (.int p1)]) _
      refine XS.icmpYes X2.here hx rfl (pc0 := 10) (pc' := 24) rfl (hb hby d_prog_133_method_7_10) rfl (flt hc10).2.1 (by decide) (by decide) ?_
      show own_S p e below T2 (mkF m 24 #[.val (.ref w11), .val (.int p1)] []) _
      refine XS.iloadN X2.here hx rfl (hb hby d_prog_133_method_7_24) rfl ?_
      show own_S p e below T2 (mkF m 25 #[.val (.ref w11), .val (.int p1)] [(.int p1)]) _
      refine XS.bipush X2.here hx rfl (hb hby d_prog_133_method_7_25) ?_
      exact kt)
    by_cases hc27 : p1 < (127 : Int32)
    · have k11 : ∀ t, own_S p e below T2 (mkF m 49 #[.val (.ref w11), .val (.int p1)] [(.int (0 : Int32))]) t → Gl t := fun t kt => k10 t (by
        show own_S p e below T2 (mkF m 27 #[.val (.ref w11), .val (.int p1)] [(.int (127 : Int32)), (.int p1)]) _
        refine XS.icmpYes X2.here hx rfl (pc0 := 27) (pc' := 48) rfl (hb hby d_prog_133_method_7_27) rfl (tlt hc27).1 (by decide) (by decide) ?_
        show own_S p e below T2 (mkF m 48 #[.val (.ref w11), .val (.int p1)] []) _
        refine XS.iconst X2.here hx rfl (hb hby d_prog_133_method_7_48) ?_
        exact kt)
      obtain ⟨fs, hr, hrun, hended, hW, hsame⟩ := X2.leave (v := some (.int (0 : Int32))) (fun h => by rw [Bd.returns] at h; cases h)
      refine ⟨_, _, hGl _ (k11 _ (retN X2 hx (t := .boolean) Bd.returns (by simp) (hb hby d_prog_133_method_7_49) hr)), hrun, hended, _, _, rfl, ?_, ⟨_, rfl⟩, hW, hsame.mono (by decide) (by decide)⟩
      show Q4 Z w11 p1 h0 n0 _ T2.heap _
      rw [eq2]
      exact ⟨by simp [own_oar, hc10, hc27], N2, rfl⟩
    · have k12 : ∀ t, own_S p e below T2 (mkF m 34 #[.val (.ref w11), .val (.int p1)] [(.int (159 : Int32)), (.int p1)]) t → Gl t := fun t kt => k10 t (by
        show own_S p e below T2 (mkF m 27 #[.val (.ref w11), .val (.int p1)] [(.int (127 : Int32)), (.int p1)]) _
        refine XS.icmpNo X2.here hx rfl (hb hby d_prog_133_method_7_27) rfl (flt hc27).1 ?_
        show own_S p e below T2 (mkF m 30 #[.val (.ref w11), .val (.int p1)] []) _
        refine XS.iloadN X2.here hx rfl (hb hby d_prog_133_method_7_30) rfl ?_
        show own_S p e below T2 (mkF m 31 #[.val (.ref w11), .val (.int p1)] [(.int p1)]) _
        refine XS.sipush X2.here hx rfl (hb hby d_prog_133_method_7_31) ?_
        exact kt)
      by_cases hc34 : (159 : Int32) < p1
      · have k13 : ∀ t, own_S p e below T2 (mkF m 49 #[.val (.ref w11), .val (.int p1)] [(.int (0 : Int32))]) t → Gl t := fun t kt => k12 t (by
          show own_S p e below T2 (mkF m 34 #[.val (.ref w11), .val (.int p1)] [(.int (159 : Int32)), (.int p1)]) _
          refine XS.icmpYes X2.here hx rfl (pc0 := 34) (pc' := 48) rfl (hb hby d_prog_133_method_7_34) rfl (tlt hc34).2.2.1 (by decide) (by decide) ?_
          show own_S p e below T2 (mkF m 48 #[.val (.ref w11), .val (.int p1)] []) _
          refine XS.iconst X2.here hx rfl (hb hby d_prog_133_method_7_48) ?_
          exact kt)
        obtain ⟨fs, hr, hrun, hended, hW, hsame⟩ := X2.leave (v := some (.int (0 : Int32))) (fun h => by rw [Bd.returns] at h; cases h)
        refine ⟨_, _, hGl _ (k13 _ (retN X2 hx (t := .boolean) Bd.returns (by simp) (hb hby d_prog_133_method_7_49) hr)), hrun, hended, _, _, rfl, ?_, ⟨_, rfl⟩, hW, hsame.mono (by decide) (by decide)⟩
        show Q4 Z w11 p1 h0 n0 _ T2.heap _
        rw [eq2]
        exact ⟨by simp [own_oar, hc10, hc27, hc34], N2, rfl⟩
      · have k14 : ∀ t, own_S p e below T2 (mkF m 41 #[.val (.ref w11), .val (.int p1)] [(.int (133 : Int32)), (.int p1)]) t → Gl t := fun t kt => k12 t (by
          show own_S p e below T2 (mkF m 34 #[.val (.ref w11), .val (.int p1)] [(.int (159 : Int32)), (.int p1)]) _
          refine XS.icmpNo X2.here hx rfl (hb hby d_prog_133_method_7_34) rfl (flt hc34).2.2.1 ?_
          show own_S p e below T2 (mkF m 37 #[.val (.ref w11), .val (.int p1)] []) _
          refine XS.iloadN X2.here hx rfl (hb hby d_prog_133_method_7_37) rfl ?_
          show own_S p e below T2 (mkF m 38 #[.val (.ref w11), .val (.int p1)] [(.int p1)]) _
          refine XS.sipush X2.here hx rfl (hb hby d_prog_133_method_7_38) ?_
          exact kt)
        by_cases hc41 : p1 = (133 : Int32)
        · have k15 : ∀ t, own_S p e below T2 (mkF m 49 #[.val (.ref w11), .val (.int p1)] [(.int (0 : Int32))]) t → Gl t := fun t kt => k14 t (by
            show own_S p e below T2 (mkF m 41 #[.val (.ref w11), .val (.int p1)] [(.int (133 : Int32)), (.int p1)]) _
            refine XS.icmpYes X2.here hx rfl (pc0 := 41) (pc' := 48) rfl (hb hby d_prog_133_method_7_41) rfl (teq hc41).1 (by decide) (by decide) ?_
            show own_S p e below T2 (mkF m 48 #[.val (.ref w11), .val (.int p1)] []) _
            refine XS.iconst X2.here hx rfl (hb hby d_prog_133_method_7_48) ?_
            exact kt)
          obtain ⟨fs, hr, hrun, hended, hW, hsame⟩ := X2.leave (v := some (.int (0 : Int32))) (fun h => by rw [Bd.returns] at h; cases h)
          refine ⟨_, _, hGl _ (k15 _ (retN X2 hx (t := .boolean) Bd.returns (by simp) (hb hby d_prog_133_method_7_49) hr)), hrun, hended, _, _, rfl, ?_, ⟨_, rfl⟩, hW, hsame.mono (by decide) (by decide)⟩
          show Q4 Z w11 p1 h0 n0 _ T2.heap _
          rw [eq2]
          exact ⟨by simp [own_oar, hc10, hc27, hc34, hc41], N2, rfl⟩
        · have k16 : ∀ t, own_S p e below T2 (mkF m 49 #[.val (.ref w11), .val (.int p1)] [(.int (1 : Int32))]) t → Gl t := fun t kt => k14 t (by
            show own_S p e below T2 (mkF m 41 #[.val (.ref w11), .val (.int p1)] [(.int (133 : Int32)), (.int p1)]) _
            refine XS.icmpNo X2.here hx rfl (hb hby d_prog_133_method_7_41) rfl (feq hc41).1 ?_
            show own_S p e below T2 (mkF m 44 #[.val (.ref w11), .val (.int p1)] []) _
            refine XS.iconst X2.here hx rfl (hb hby d_prog_133_method_7_44) ?_
            show own_S p e below T2 (mkF m 45 #[.val (.ref w11), .val (.int p1)] [(.int (1 : Int32))]) _
            refine XS.goto X2.here hx rfl (pc0 := 45) (pc' := 49) rfl (hb hby d_prog_133_method_7_45) (by decide) (by decide) ?_
            exact kt)
          obtain ⟨fs, hr, hrun, hended, hW, hsame⟩ := X2.leave (v := some (.int (1 : Int32))) (fun h => by rw [Bd.returns] at h; cases h)
          refine ⟨_, _, hGl _ (k16 _ (retN X2 hx (t := .boolean) Bd.returns (by simp) (hb hby d_prog_133_method_7_49) hr)), hrun, hended, _, _, rfl, ?_, ⟨_, rfl⟩, hW, hsame.mono (by decide) (by decide)⟩
          show Q4 Z w11 p1 h0 n0 _ T2.heap _
          rw [eq2]
          exact ⟨by simp [own_oar, hc10, hc27, hc34, hc41], N2, rfl⟩

theorem d_prog_133_method_8_0 : decode prog_133_method_8_code 0 = .ok (.aload_n 0, 1) := by decide +kernel
theorem d_prog_133_method_8_1 : decode prog_133_method_8_code 1 = .ok (.invokevirtual 76, 3) := by decide +kernel
theorem d_prog_133_method_8_4 : decode prog_133_method_8_code 4 = .ok (.ifCond .eq 21, 3) := by decide +kernel
theorem d_prog_133_method_8_7 : decode prog_133_method_8_code 7 = .ok (.iload_n 1, 1) := by decide +kernel
theorem d_prog_133_method_8_8 : decode prog_133_method_8_code 8 = .ok (.sipush 133, 3) := by decide +kernel
theorem d_prog_133_method_8_11 : decode prog_133_method_8_code 11 = .ok (.if_icmp .eq 10, 3) := by decide +kernel
theorem d_prog_133_method_8_14 : decode prog_133_method_8_code 14 = .ok (.iload_n 1, 1) := by decide +kernel
theorem d_prog_133_method_8_15 : decode prog_133_method_8_code 15 = .ok (.sipush 8232, 3) := by decide +kernel
theorem d_prog_133_method_8_18 : decode prog_133_method_8_code 18 = .ok (.if_icmp .ne 7, 3) := by decide +kernel
theorem d_prog_133_method_8_21 : decode prog_133_method_8_code 21 = .ok (.iconst 1, 1) := by decide +kernel
theorem d_prog_133_method_8_22 : decode prog_133_method_8_code 22 = .ok (.goto 4, 3) := by decide +kernel
theorem d_prog_133_method_8_25 : decode prog_133_method_8_code 25 = .ok (.iconst 0, 1) := by decide +kernel
theorem d_prog_133_method_8_26 : decode prog_133_method_8_code 26 = .ok (.ireturn, 1) := by decide +kernel
theorem ef_rm6 (m : MethodId) (x0 : Addr) (x1 : Int32) : entryFrame m #[(.ref x0), (.int x1)] 2 = mkF m 0 #[.val (.ref x0), .val (.int x1)] [] := by first | (simp [entryFrame, mkF, argsToLocals, Value.category]; done) | rfl
def Q6 (Z : State) (w11 : Addr) (p1 : Int32) (h0 : Heap) (n0 : Nat) (v : Option Value) (h : Heap) (L : List Loc) : Prop := v = some (.int (own_el p1)) ∧ Fr n0 L ∧ h = h0
set_option maxRecDepth 65536 in
set_option maxHeartbeats 40000000 in
theorem rm6 (l : Launch) (Z : State) (a0 : Array Value) (hw : ∀ d ∈ tables_1, d.before a0 Z = true) (ws : List Jvm.Cond) (w11 : Addr) (p1 : Int32) (h0 : Heap) (n0 : Nat) (Z0 : n0 ≤ h0.size) (S_w11 : Sta Z h0 "com/example/rowan/rowan/xslt/EncodedWriter$Repertoire" "XML_1_1" "Lcom/example/rowan/rowan/xslt/EncodedWriter$Repertoire;" (.ref w11)) (E_w11 : Exa Z h0 w11 "com/example/rowan/rowan/xslt/EncodedWriter$Repertoire") :
    MetFree l (⟨"com/example/rowan/rowan/xslt/EncodedWriter$Repertoire", "endsLine", "(I)Z"⟩ : MethodName) (head1 (Jvm.Cond.code (⟨"com/example/rowan/rowan/xslt/EncodedWriter$Repertoire", "endsLine", "(I)Z"⟩ : MethodName) prog_133_method_8_code 2 (some .boolean) :: ws) ({ frames := 1, cells := 0, slots := 0, locals := 12 } : Room)) (fun a U => a = #[(.ref w11), (.int p1)] ∧ Z.Warmed39 U.vm ∧ U.heap = h0) (fun _ _ _ _ _ => True) (fun _ U o U' => ∃ v L, o = .returned v ∧ Q6 Z w11 p1 h0 n0 v U'.heap L ∧ FrameEnd U o U' L ({ frames := 1, cells := 0, slots := 0, locals := 12 } : Room).cells ({ frames := 1, cells := 0, slots := 0, locals := 12 } : Room).slots) := by
  refine MetFree.of_bodySF (plainFor_of_name pn_1) hisR ?_
  intro p e s m args below meth c s₁ Bd hml0 hP hK
  obtain ⟨rfl, hZ, hh⟩ := hP
  have hx := Bd.exec
  have hby := Bd.bytes
  have hml : c.maxLocals = 2 := hml0
  have hown : s.vm.findClass "com/example/rowan/rowan/xslt/EncodedWriter$Repertoire" = some m.cls := findClass_of_methodNamed Bd.named
  have hnm := (name_of_methodNamed Bd.named Bd.method).1
  have X0 : Stand p l e ({ frames := 1, cells := 0, slots := 0, locals := 12 } : Room) s m #[(.ref w11), (.int p1)] below meth c s₁ [] 0 0 := Stand.of_body Bd
  have e0 : s₁.heap = h0 := by rw [← hh, Bd.state]; rfl
  have N0 := Fr.nil n0
  obtain ⟨Gl, hGl, k0⟩ : ∃ Gl : State → Prop, (∀ t, Gl t → Steps p.tables e below (s₁.setTop (entryFrame m #[(.ref w11), (.int p1)] 2)) t) ∧ ∀ t, own_S p e below s₁ (mkF m 0 #[.val (.ref w11), .val (.int p1)] []) t → Gl t := ⟨fun t => Steps p.tables e below (s₁.setTop (entryFrame m #[(.ref w11), (.int p1)] 2)) t, fun _ k => k, fun t k => castTop (ef_rm6 m w11 p1) k⟩
  have k1 : ∀ t, own_S p e below s₁ (mkF m 1 #[.val (.ref w11), .val (.int p1)] [(.ref w11)]) t → Gl t := fun t kt => k0 t (by
    show own_S p e below s₁ (mkF m 0 #[.val (.ref w11), .val (.int p1)] []) _
    refine XS.aloadN X0.here hx rfl (hb hby d_prog_133_method_8_0) rfl rfl ?_
    exact kt)
  obtain ⟨cq2, qa2, qb2⟩ := E_w11.cell
  obtain ⟨_, _, ⟨T2, L2, cc2, ss2⟩, -, X2, ⟨Lc2, hQ2, l2, y2, z2⟩, st2⟩ := X0.privateBack hx (y := (⟨"com/example/rowan/rowan/xslt/EncodedWriter$Repertoire", "readByXml11", "()Z"⟩ : MethodName)) hown (mvT hZ (hw _ (List.mem_of_getElem? (i := 27) rfl))) (mvT hZ (hw _ (List.mem_of_getElem? (i := 28) rfl))) (own_selP (z := (⟨"com/example/rowan/rowan/xslt/EncodedWriter$Repertoire", "holds", "(I)Z"⟩ : MethodName)) rfl (mvT hZ (hw _ (List.mem_of_getElem? (i := 6) rfl))) (Cond.privateMethod_at (mvP hZ (hw _ (List.mem_of_getElem? (i := 29) rfl)) (args := #[]))) (mvT hZ (hw _ (List.mem_of_getElem? (i := 28) rfl))) (by decide)) (Cond.privateMethod_at (mvP hZ (hw _ (List.mem_of_getElem? (i := 29) rfl)) (args := #[]))) (mvT hZ (hw _ (List.mem_of_getElem? (i := 30) rfl))) (by decide) (backOf (W := 0) (rm5 l Z a0 hw [] w11  h0 n0 Z0 S_w11) hZ (hw _ (List.mem_of_getElem? (i := 30) rfl)) (hw _ (List.mem_of_getElem? (i := 1) rfl)) (by decide) (by decide)) (g := (mkF m 1 #[.val (.ref w11), .val (.int p1)] [(.ref w11)])) rfl (by rw [hml]; rfl) (Steps.refl _) (a := w11) (by rw [e0]; exact qa2) qb2 (argsL := []) (rest := []) (lenOf pd_1 rfl) rfl (by show 2 * 0 + _ ≤ _; exact Nat.le_of_eq rfl) (hb hby d_prog_133_method_8_1) (fun _ _ => ⟨rfl, e0, (by decide : 0 + 0 ≤ _), (by decide : 0 + 0 ≤ _)⟩)
  dsimp only [Pt.U, Pt.locs, Pt.cells, Pt.slots] at X2 l2 y2 z2 st2 hQ2
  subst l2 y2 z2
  obtain ⟨rfl, Nq2, eq2⟩ := hQ2
  have N2 := Fr.app N0 Nq2
  have k3 : ∀ t, own_S p e below T2 (mkF m 4 #[.val (.ref w11), .val (.int p1)] [(.int (1 : Int32))]) t → Gl t := fun t kt => k1 t (st2.trans kt)
  have k4 : ∀ t, own_S p e below T2 (mkF m 11 #[.val (.ref w11), .val (.int p1)] [(.int (133 : Int32)), (.int p1)]) t → Gl t := fun t kt => k3 t (by
    show own_S p e below T2 (mkF m 4 #[.val (.ref w11), .val (.int p1)] [(.int (1 : Int32))]) _
    refine XS.ifNo X2.here hx rfl (hb hby d_prog_133_method_8_4) rfl ((if0 _ _).trans (feq (by decide : ¬ ((1 : Int32) = (0 : Int32)))).1) ?_
    show own_S p e below T2 (mkF m 7 #[.val (.ref w11), .val (.int p1)] []) _
    refine XS.iloadN X2.here hx rfl (hb hby d_prog_133_method_8_7) rfl ?_
    show own_S p e below T2 (mkF m 8 #[.val (.ref w11), .val (.int p1)] [(.int p1)]) _
    refine XS.sipush X2.here hx rfl (hb hby d_prog_133_method_8_8) ?_
    exact kt)
  by_cases hc11 : p1 = (133 : Int32)
  · have k5 : ∀ t, own_S p e below T2 (mkF m 26 #[.val (.ref w11), .val (.int p1)] [(.int (1 : Int32))]) t → Gl t := fun t kt => k4 t (by
      show own_S p e below T2 (mkF m 11 #[.val (.ref w11), .val (.int p1)] [(.int (133 : Int32)), (.int p1)]) _
      refine XS.icmpYes X2.here hx rfl (pc0 := 11) (pc' := 21) rfl (hb hby d_prog_133_method_8_11) rfl (teq hc11).1 (by decide) (by decide) ?_
      show own_S p e below T2 (mkF m 21 #[.val (.ref w11), .val (.int p1)] []) _
      refine XS.iconst X2.here hx rfl (hb hby d_prog_133_method_8_21) ?_
      show own_S p e below T2 (mkF m 22 #[.val (.ref w11), .val (.int p1)] [(.int (1 : Int32))]) _
      refine XS.goto X2.here hx rfl (pc0 := 22) (pc' := 26) rfl (hb hby d_prog_133_method_8_22) (by decide) (by decide) ?_
      exact kt)
    obtain ⟨fs, hr, hrun, hended, hW, hsame⟩ := X2.leave (v := some (.int (1 : Int32))) (fun h => by rw [Bd.returns] at h; cases h)
    refine ⟨_, _, hGl _ (k5 _ (retN X2 hx (t := .boolean) Bd.returns (by simp) (hb hby d_prog_133_method_8_26) hr)), hrun, hended, _, _, rfl, ?_, ⟨_, rfl⟩, hW, hsame.mono (by decide) (by decide)⟩
    show Q6 Z w11 p1 h0 n0 _ T2.heap _
    rw [eq2]
    exact ⟨by simp [own_el, hc11], N2, rfl⟩
  · have k6 : ∀ t, own_S p e below T2 (mkF m 18 #[.val (.ref w11), .val (.int p1)] [(.int (8232 : Int32)), (.int p1)]) t → Gl t := fun t kt => k4 t (by
      show own_S p e below T2 (mkF m 11 #[.val (.ref w11), .val (.int p1)] [(.int (133 : Int32)), (.int p1)]) _
      refine XS.icmpNo X2.here hx rfl (hb hby d_prog_133_method_8_11) rfl (feq hc11).1 ?_
      show own_S p e below T2 (mkF m 14 #[.val (.ref w11), .val (.int p1)] []) _
      refine XS.iloadN X2.here hx rfl (hb hby d_prog_133_method_8_14) rfl ?_
      show own_S p e below T2 (mkF m 15 #[.val (.ref w11), .val (.int p1)] [(.int p1)]) _
      refine XS.sipush X2.here hx rfl (hb hby d_prog_133_method_8_15) ?_
      exact kt)
    by_cases hc18 : p1 = (8232 : Int32)
    · have k7 : ∀ t, own_S p e below T2 (mkF m 26 #[.val (.ref w11), .val (.int p1)] [(.int (1 : Int32))]) t → Gl t := fun t kt => k6 t (by
        show own_S p e below T2 (mkF m 18 #[.val (.ref w11), .val (.int p1)] [(.int (8232 : Int32)), (.int p1)]) _
        refine XS.icmpNo X2.here hx rfl (hb hby d_prog_133_method_8_18) rfl (teq hc18).2 ?_
        show own_S p e below T2 (mkF m 21 #[.val (.ref w11), .val (.int p1)] []) _
        refine XS.iconst X2.here hx rfl (hb hby d_prog_133_method_8_21) ?_
        show own_S p e below T2 (mkF m 22 #[.val (.ref w11), .val (.int p1)] [(.int (1 : Int32))]) _
        refine XS.goto X2.here hx rfl (pc0 := 22) (pc' := 26) rfl (hb hby d_prog_133_method_8_22) (by decide) (by decide) ?_
        exact kt)
      obtain ⟨fs, hr, hrun, hended, hW, hsame⟩ := X2.leave (v := some (.int (1 : Int32))) (fun h => by rw [Bd.returns] at h; cases h)
      refine ⟨_, _, hGl _ (k7 _ (retN X2 hx (t := .boolean) Bd.returns (by simp) (hb hby d_prog_133_method_8_26) hr)), hrun, hended, _, _, rfl, ?_, ⟨_, rfl⟩, hW, hsame.mono (by decide) (by decide)⟩
      show Q6 Z w11 p1 h0 n0 _ T2.heap _
      rw [eq2]
      exact ⟨by simp [own_el, hc11, hc18], N2, rfl⟩
    · have k8 : ∀ t, own_S p e below T2 (mkF m 26 #[.val (.ref w11), .val (.int p1)] [(.int (0 : Int32))]) t → Gl t := fun t kt => k6 t (by
        show own_S p e below T2 (mkF m 18 #[.val (.ref w11), .val (.int p1)] [(.int (8232 : Int32)), (.int p1)]) _
        refine XS.icmpYes X2.here hx rfl (pc0 := 18) (pc' := 25) rfl (hb hby d_prog_133_method_8_18) rfl (feq hc18).2 (by decide) (by decide) ?_
        show own_S p e below T2 (mkF m 25 #[.val (.ref w11), .val (.int p1)] []) _
        refine XS.iconst X2.here hx rfl (hb hby d_prog_133_method_8_25) ?_
        exact kt)
      obtain ⟨fs, hr, hrun, hended, hW, hsame⟩ := X2.leave (v := some (.int (0 : Int32))) (fun h => by rw [Bd.returns] at h; cases h)
      refine ⟨_, _, hGl _ (k8 _ (retN X2 hx (t := .boolean) Bd.returns (by simp) (hb hby d_prog_133_method_8_26) hr)), hrun, hended, _, _, rfl, ?_, ⟨_, rfl⟩, hW, hsame.mono (by decide) (by decide)⟩
      show Q6 Z w11 p1 h0 n0 _ T2.heap _
      rw [eq2]
      exact ⟨by simp [own_el, hc11, hc18], N2, rfl⟩

theorem pn_2 : plainName "com/example/rowan/rowan/xslt/RepertoireMayNotHoldPinLaw" = true := by first | (simp [plainName, overriddenIn]; done) | decide +kernel
theorem pd_2 : parseMethodDescriptor "(I)Z" = some ⟨[.int], some .boolean⟩ := by decide +kernel
theorem ef_rm0 (m : MethodId) (x0 : Int32) : entryFrame m #[(.int x0)] maxLocals = mkF m 0 #[.val (.int x0), .unset, .unset, .unset, .unset] [] := by first | (simp [entryFrame, mkF, argsToLocals, Value.category, maxLocals]; done) | rfl
def Q0 (Z : State) (p1 : Int32) (w10 : Addr) (wAny : Addr) (w11 : Addr) (h0 : Heap) (n0 : Nat) (v : Option Value) (h : Heap) (L : List Loc) : Prop := v = some (.int (1 : Int32)) ∧ Fr n0 L
set_option maxRecDepth 65536 in
set_option maxHeartbeats 40000000 in
theorem rm0 (l : Launch) (Z : State) (a0 : Array Value) (hw : ∀ d ∈ tables_1, d.before a0 Z = true) (ws : List Jvm.Cond) (p1 : Int32) (w10 : Addr) (wAny : Addr) (w11 : Addr) (h0 : Heap) (n0 : Nat) (Z0 : n0 ≤ h0.size) (S_w10 : Sta Z h0 "com/example/rowan/rowan/xslt/EncodedWriter$Repertoire" "XML_1_0" "Lcom/example/rowan/rowan/xslt/EncodedWriter$Repertoire;" (.ref w10)) (S_wAny : Sta Z h0 "com/example/rowan/rowan/xslt/EncodedWriter$Repertoire" "ANY" "Lcom/example/rowan/rowan/xslt/EncodedWriter$Repertoire;" (.ref wAny)) (S_w11 : Sta Z h0 "com/example/rowan/rowan/xslt/EncodedWriter$Repertoire" "XML_1_1" "Lcom/example/rowan/rowan/xslt/EncodedWriter$Repertoire;" (.ref w11)) (E_w10 : Exa Z h0 w10 "com/example/rowan/rowan/xslt/EncodedWriter$Repertoire") (E_w11 : Exa Z h0 w11 "com/example/rowan/rowan/xslt/EncodedWriter$Repertoire") (n1 : w10 ≠ wAny) (n2 : w10 ≠ w11) :
    MetFree l x (head1 (Jvm.Cond.code x code maxLocals ret :: ws) room_1) (fun a U => a = #[(.int p1)] ∧ Z.Warmed39 U.vm ∧ U.heap = h0) (fun _ _ _ _ _ => True) (fun _ U o U' => ∃ v L, o = .returned v ∧ Q0 Z p1 w10 wAny w11 h0 n0 v U'.heap L ∧ FrameEnd U o U' L 0 0) := by
  refine MetFree.of_bodySF (plainFor_of_name pn_2) hisR ?_
  intro p e s m args below meth c s₁ Bd hml0 hP hK
  obtain ⟨rfl, hZ, hh⟩ := hP
  have hx := Bd.exec
  have hby := Bd.bytes
  have hml : c.maxLocals = 5 := hml0
  have hown : s.vm.findClass "com/example/rowan/rowan/xslt/RepertoireMayNotHoldPinLaw" = some m.cls := findClass_of_methodNamed Bd.named
  have hnm := (name_of_methodNamed Bd.named Bd.method).1
  have X0 : Stand p l e room_1 s m #[(.int p1)] below meth c s₁ [] 0 0 := Stand.of_body Bd
  have e0 : s₁.heap = h0 := by rw [← hh, Bd.state]; rfl
  have N0 := Fr.nil n0
  obtain ⟨Gl, hGl, k0⟩ : ∃ Gl : State → Prop, (∀ t, Gl t → Steps p.tables e below (s₁.setTop (entryFrame m #[(.int p1)] maxLocals)) t) ∧ ∀ t, own_S p e below s₁ (mkF m 0 #[.val (.int p1), .unset, .unset, .unset, .unset] []) t → Gl t := ⟨fun t => Steps p.tables e below (s₁.setTop (entryFrame m #[(.int p1)] maxLocals)) t, fun _ k => k, fun t k => castTop (ef_rm0 m p1) k⟩
  have k1 : ∀ t, own_S p e below s₁ (mkF m 5 #[.val (.int p1), .val (.int (p1.toUInt32.toUInt16.toUInt32.toInt32)), .val (.int (p1.toUInt32.toUInt16.toUInt32.toInt32)), .unset, .unset] []) t → Gl t := fun t kt => k0 t (by
    show own_S p e below s₁ (mkF m 0 #[.val (.int p1), .unset, .unset, .unset, .unset] []) _
    refine XS.iloadN X0.here hx rfl (hb hby at_0) rfl ?_
    show own_S p e below s₁ (mkF m 1 #[.val (.int p1), .unset, .unset, .unset, .unset] [(.int p1)]) _
    refine XS.i2c X0.here hx rfl (hb hby at_1) rfl ?_
    show own_S p e below s₁ (mkF m 2 #[.val (.int p1), .unset, .unset, .unset, .unset] [(.int (p1.toUInt32.toUInt16.toUInt32.toInt32))]) _
    refine XS.istoreN X0.here hx rfl (hb hby at_2) rfl (l' := #[.val (.int p1), .val (.int (p1.toUInt32.toUInt16.toUInt32.toInt32)), .unset, .unset, .unset]) rfl ?_
    show own_S p e below s₁ (mkF m 3 #[.val (.int p1), .val (.int (p1.toUInt32.toUInt16.toUInt32.toInt32)), .unset, .unset, .unset] []) _
    refine XS.iloadN X0.here hx rfl (hb hby at_3) rfl ?_
    show own_S p e below s₁ (mkF m 4 #[.val (.int p1), .val (.int (p1.toUInt32.toUInt16.toUInt32.toInt32)), .unset, .unset, .unset] [(.int (p1.toUInt32.toUInt16.toUInt32.toInt32))]) _
    refine XS.istoreN X0.here hx rfl (hb hby at_4) rfl (l' := #[.val (.int p1), .val (.int (p1.toUInt32.toUInt16.toUInt32.toInt32)), .val (.int (p1.toUInt32.toUInt16.toUInt32.toInt32)), .unset, .unset]) rfl ?_
    exact kt)
  obtain ⟨T2, X2, e2, st2⟩ := getS2 X0 hx hZ hown (host := "") (Or.inl (hw _ (List.mem_of_getElem? (i := 0) rfl))) Via.refl e0 S_w10 (g := (mkF m 5 #[.val (.int p1), .val (.int (p1.toUInt32.toUInt16.toUInt32.toInt32)), .val (.int (p1.toUInt32.toUInt16.toUInt32.toInt32)), .unset, .unset] [])) rfl (hb hby at_5)
  have k3 : ∀ t, own_S p e below T2 (mkF m 8 #[.val (.int p1), .val (.int (p1.toUInt32.toUInt16.toUInt32.toInt32)), .val (.int (p1.toUInt32.toUInt16.toUInt32.toInt32)), .unset, .unset] [(.ref w10)]) t → Gl t := fun t kt => k1 t (st2 _ kt)
  have k4 : ∀ t, own_S p e below T2 (mkF m 9 #[.val (.int p1), .val (.int (p1.toUInt32.toUInt16.toUInt32.toInt32)), .val (.int (p1.toUInt32.toUInt16.toUInt32.toInt32)), .unset, .unset] [(.int (p1.toUInt32.toUInt16.toUInt32.toInt32)), (.ref w10)]) t → Gl t := fun t kt => k3 t (by
    show own_S p e below T2 (mkF m 8 #[.val (.int p1), .val (.int (p1.toUInt32.toUInt16.toUInt32.toInt32)), .val (.int (p1.toUInt32.toUInt16.toUInt32.toInt32)), .unset, .unset] [(.ref w10)]) _
    refine XS.iloadN X2.here hx rfl (hb hby at_8) rfl ?_
    exact kt)
  obtain ⟨cq5, kq5, qa5, qb5, qc5⟩ := isOf hZ e2 E_w10
  obtain ⟨_, _, ⟨T5, L5, cc5, ss5⟩, -, X5, ⟨Lc5, hQ5, l5, y5, z5⟩, st5⟩ := X2.virtualBack hx (y := (⟨"com/example/rowan/rowan/xslt/EncodedWriter$Repertoire", "holds", "(I)Z"⟩ : MethodName)) (z := (⟨"com/example/rowan/rowan/xslt/EncodedWriter$Repertoire", "holds", "(I)Z"⟩ : MethodName)) hown (mvT hZ (hw _ (List.mem_of_getElem? (i := 3) rfl))) (mvT hZ (hw _ (List.mem_of_getElem? (i := 4) rfl))) (notFace_of_selects (args := #[]) (mvT hZ (hw _ (List.mem_of_getElem? (i := 6) rfl)))) (mvT hZ (hw _ (List.mem_of_getElem? (i := 6) rfl))) (mvT hZ (hw _ (List.mem_of_getElem? (i := 5) rfl))) (by decide) (backOf (W := 0) (rm1 l Z a0 hw [] w10 (p1.toUInt32.toUInt16.toUInt32.toInt32) wAny w11 h0 n0 Z0 S_wAny S_w11 n1 n2) hZ (hw _ (List.mem_of_getElem? (i := 7) rfl)) (hw _ (List.mem_of_getElem? (i := 1) rfl)) (by decide) (by decide)) qa5 qc5 (g := (mkF m 9 #[.val (.int p1), .val (.int (p1.toUInt32.toUInt16.toUInt32.toInt32)), .val (.int (p1.toUInt32.toUInt16.toUInt32.toInt32)), .unset, .unset] [(.int (p1.toUInt32.toUInt16.toUInt32.toInt32)), (.ref w10)])) rfl (by rw [hml]; rfl) (Steps.refl _) (argsL := [(.int (p1.toUInt32.toUInt16.toUInt32.toInt32))]) (rest := []) (lenOf pd_2 rfl) rfl (by show 2 * 0 + _ ≤ _; exact Nat.le_of_eq rfl) (hb hby at_9) (fun _ _ => ⟨rfl, e2, (by decide : 0 + 0 ≤ _), (by decide : 0 + 0 ≤ _)⟩)
  dsimp only [Pt.U, Pt.locs, Pt.cells, Pt.slots] at X5 l5 y5 z5 st5 hQ5
  subst l5 y5 z5
  obtain ⟨rfl, Nq5, eq5⟩ := hQ5
  have N5 := Fr.app N0 Nq5
  have k6 : ∀ t, own_S p e below T5 (mkF m 12 #[.val (.int p1), .val (.int (p1.toUInt32.toUInt16.toUInt32.toInt32)), .val (.int (p1.toUInt32.toUInt16.toUInt32.toInt32)), .unset, .unset] [(.int (own_holds (p1.toUInt32.toUInt16.toUInt32.toInt32)))]) t → Gl t := fun t kt => k4 t (st5.trans kt)
  by_cases hc12 : (own_holds (p1.toUInt32.toUInt16.toUInt32.toInt32)) = (0 : Int32)
  · have k7 : ∀ t, own_S p e below T5 (mkF m 44 #[.val (.int p1), .val (.int (p1.toUInt32.toUInt16.toUInt32.toInt32)), .val (.int (p1.toUInt32.toUInt16.toUInt32.toInt32)), .val (.int (1 : Int32)), .unset] [(.int (9 : Int32)), (.int (p1.toUInt32.toUInt16.toUInt32.toInt32))]) t → Gl t := fun t kt => k6 t (by
      show own_S p e below T5 (mkF m 12 #[.val (.int p1), .val (.int (p1.toUInt32.toUInt16.toUInt32.toInt32)), .val (.int (p1.toUInt32.toUInt16.toUInt32.toInt32)), .unset, .unset] [(.int (own_holds (p1.toUInt32.toUInt16.toUInt32.toInt32)))]) _
      refine XS.ifYes X5.here hx rfl (pc0 := 12) (pc' := 35) rfl (hb hby at_12) rfl ((if0 _ _).trans (teq hc12).1) (by decide) (by decide) ?_
      show own_S p e below T5 (mkF m 35 #[.val (.int p1), .val (.int (p1.toUInt32.toUInt16.toUInt32.toInt32)), .val (.int (p1.toUInt32.toUInt16.toUInt32.toInt32)), .unset, .unset] []) _
      refine XS.iconst X5.here hx rfl (hb hby at_35) ?_
      show own_S p e below T5 (mkF m 36 #[.val (.int p1), .val (.int (p1.toUInt32.toUInt16.toUInt32.toInt32)), .val (.int (p1.toUInt32.toUInt16.toUInt32.toInt32)), .unset, .unset] [(.int (1 : Int32))]) _
      refine XS.goto X5.here hx rfl (pc0 := 36) (pc' := 40) rfl (hb hby at_36) (by decide) (by decide) ?_
      show own_S p e below T5 (mkF m 40 #[.val (.int p1), .val (.int (p1.toUInt32.toUInt16.toUInt32.toInt32)), .val (.int (p1.toUInt32.toUInt16.toUInt32.toInt32)), .unset, .unset] [(.int (1 : Int32))]) _
      refine XS.istoreN X5.here hx rfl (hb hby at_40) rfl (l' := #[.val (.int p1), .val (.int (p1.toUInt32.toUInt16.toUInt32.toInt32)), .val (.int (p1.toUInt32.toUInt16.toUInt32.toInt32)), .val (.int (1 : Int32)), .unset]) rfl ?_
      show own_S p e below T5 (mkF m 41 #[.val (.int p1), .val (.int (p1.toUInt32.toUInt16.toUInt32.toInt32)), .val (.int (p1.toUInt32.toUInt16.toUInt32.toInt32)), .val (.int (1 : Int32)), .unset] []) _
      refine XS.iloadN X5.here hx rfl (hb hby at_41) rfl ?_
      show own_S p e below T5 (mkF m 42 #[.val (.int p1), .val (.int (p1.toUInt32.toUInt16.toUInt32.toInt32)), .val (.int (p1.toUInt32.toUInt16.toUInt32.toInt32)), .val (.int (1 : Int32)), .unset] [(.int (p1.toUInt32.toUInt16.toUInt32.toInt32))]) _
      refine XS.bipush X5.here hx rfl (hb hby at_42) ?_
      exact kt)
    by_cases hc44 : (p1.toUInt32.toUInt16.toUInt32.toInt32) = (9 : Int32)
    · have k8 : ∀ t, own_S p e below T5 (mkF m 67 #[.val (.int p1), .val (.int (p1.toUInt32.toUInt16.toUInt32.toInt32)), .val (.int (p1.toUInt32.toUInt16.toUInt32.toInt32)), .val (.int (1 : Int32)), .val (.int (1 : Int32))] [(.int (p1.toUInt32.toUInt16.toUInt32.toInt32))]) t → Gl t := fun t kt => k7 t (by
        show own_S p e below T5 (mkF m 44 #[.val (.int p1), .val (.int (p1.toUInt32.toUInt16.toUInt32.toInt32)), .val (.int (p1.toUInt32.toUInt16.toUInt32.toInt32)), .val (.int (1 : Int32)), .unset] [(.int (9 : Int32)), (.int (p1.toUInt32.toUInt16.toUInt32.toInt32))]) _
        refine XS.icmpYes X5.here hx rfl (pc0 := 44) (pc' := 59) rfl (hb hby at_44) rfl (teq hc44).1 (by decide) (by decide) ?_
        show own_S p e below T5 (mkF m 59 #[.val (.int p1), .val (.int (p1.toUInt32.toUInt16.toUInt32.toInt32)), .val (.int (p1.toUInt32.toUInt16.toUInt32.toInt32)), .val (.int (1 : Int32)), .unset] []) _
        refine XS.iconst X5.here hx rfl (hb hby at_59) ?_
        show own_S p e below T5 (mkF m 60 #[.val (.int p1), .val (.int (p1.toUInt32.toUInt16.toUInt32.toInt32)), .val (.int (p1.toUInt32.toUInt16.toUInt32.toInt32)), .val (.int (1 : Int32)), .unset] [(.int (1 : Int32))]) _
        refine XS.goto X5.here hx rfl (pc0 := 60) (pc' := 64) rfl (hb hby at_60) (by decide) (by decide) ?_
        show own_S p e below T5 (mkF m 64 #[.val (.int p1), .val (.int (p1.toUInt32.toUInt16.toUInt32.toInt32)), .val (.int (p1.toUInt32.toUInt16.toUInt32.toInt32)), .val (.int (1 : Int32)), .unset] [(.int (1 : Int32))]) _
        refine XS.istore X5.here hx rfl (hb hby at_64) rfl (l' := #[.val (.int p1), .val (.int (p1.toUInt32.toUInt16.toUInt32.toInt32)), .val (.int (p1.toUInt32.toUInt16.toUInt32.toInt32)), .val (.int (1 : Int32)), .val (.int (1 : Int32))]) rfl ?_
        show own_S p e below T5 (mkF m 66 #[.val (.int p1), .val (.int (p1.toUInt32.toUInt16.toUInt32.toInt32)), .val (.int (p1.toUInt32.toUInt16.toUInt32.toInt32)), .val (.int (1 : Int32)), .val (.int (1 : Int32))] []) _
        refine XS.iloadN X5.here hx rfl (hb hby at_66) rfl ?_
        exact kt)
      obtain ⟨_, _, ⟨T9, L9, cc9, ss9⟩, -, X9, ⟨Lc9, hQ9, l9, y9, z9⟩, st9⟩ := Jvm.LawKit.callS X5 hx (y := (⟨"com/example/rowan/rowan/xslt/EncodedWriter$Repertoire", "mayNotHold", "(C)Z"⟩ : MethodName)) hown (mvT hZ (hw _ (List.mem_of_getElem? (i := 16) rfl))) (mvT hZ (hw _ (List.mem_of_getElem? (i := 17) rfl))) (mvT hZ (hw _ (List.mem_of_getElem? (i := 1) rfl))) (mvT hZ (hw _ (List.mem_of_getElem? (i := 18) rfl))) (by decide) (backOf (W := 0) (rm3 l Z a0 hw [] (p1.toUInt32.toUInt16.toUInt32.toInt32)  h0 n0 Z0 ) hZ (hw _ (List.mem_of_getElem? (i := 18) rfl)) (hw _ (List.mem_of_getElem? (i := 1) rfl)) (by decide) (by decide)) (g := (mkF m 67 #[.val (.int p1), .val (.int (p1.toUInt32.toUInt16.toUInt32.toInt32)), .val (.int (p1.toUInt32.toUInt16.toUInt32.toInt32)), .val (.int (1 : Int32)), .val (.int (1 : Int32))] [(.int (p1.toUInt32.toUInt16.toUInt32.toInt32))])) rfl (by rw [hml]; rfl) (argsL := [(.int (p1.toUInt32.toUInt16.toUInt32.toInt32))]) (rest := []) (lenOf pd_0 rfl) rfl (by show 2 * 0 + _ ≤ _; exact Nat.le_of_eq rfl) (hb hby at_67) (fun _ _ => ⟨rfl, eq5, (by decide : 0 + 0 ≤ _), (by decide : 0 + 0 ≤ _)⟩)
      dsimp only [Pt.U, Pt.locs, Pt.cells, Pt.slots] at X9 l9 y9 z9 st9 hQ9
      subst l9 y9 z9
      obtain ⟨rfl, Nq9, eq9⟩ := hQ9
      have N9 := Fr.app N5 Nq9
      have k10 : ∀ t, own_S p e below T9 (mkF m 70 #[.val (.int p1), .val (.int (p1.toUInt32.toUInt16.toUInt32.toInt32)), .val (.int (p1.toUInt32.toUInt16.toUInt32.toInt32)), .val (.int (1 : Int32)), .val (.int (1 : Int32))] [(.int (own_mnh (p1.toUInt32.toUInt16.toUInt32.toInt32)))]) t → Gl t := fun t kt => k8 t (st9 _ kt)
      have k11 : ∀ t, own_S p e below T9 (mkF m 84 #[.val (.int p1), .val (.int (p1.toUInt32.toUInt16.toUInt32.toInt32)), .val (.int (p1.toUInt32.toUInt16.toUInt32.toInt32)), .val (.int (1 : Int32)), .val (.int (1 : Int32))] [(.int (1 : Int32)), (.int (own_mnh (p1.toUInt32.toUInt16.toUInt32.toInt32)))]) t → Gl t := fun t kt => k10 t (by
        show own_S p e below T9 (mkF m 70 #[.val (.int p1), .val (.int (p1.toUInt32.toUInt16.toUInt32.toInt32)), .val (.int (p1.toUInt32.toUInt16.toUInt32.toInt32)), .val (.int (1 : Int32)), .val (.int (1 : Int32))] [(.int (own_mnh (p1.toUInt32.toUInt16.toUInt32.toInt32)))]) _
        refine XS.iloadN X9.here hx rfl (hb hby at_70) rfl ?_
        show own_S p e below T9 (mkF m 71 #[.val (.int p1), .val (.int (p1.toUInt32.toUInt16.toUInt32.toInt32)), .val (.int (p1.toUInt32.toUInt16.toUInt32.toInt32)), .val (.int (1 : Int32)), .val (.int (1 : Int32))] [(.int (1 : Int32)), (.int (own_mnh (p1.toUInt32.toUInt16.toUInt32.toInt32)))]) _
        refine XS.ifYes X9.here hx rfl (pc0 := 71) (pc' := 79) rfl (hb hby at_71) rfl ((if0 _ _).trans (feq (by decide : ¬ ((1 : Int32) = (0 : Int32)))).2) (by decide) (by decide) ?_
        show own_S p e below T9 (mkF m 79 #[.val (.int p1), .val (.int (p1.toUInt32.toUInt16.toUInt32.toInt32)), .val (.int (p1.toUInt32.toUInt16.toUInt32.toInt32)), .val (.int (1 : Int32)), .val (.int (1 : Int32))] [(.int (own_mnh (p1.toUInt32.toUInt16.toUInt32.toInt32)))]) _
        refine XS.iconst X9.here hx rfl (hb hby at_79) ?_
        show own_S p e below T9 (mkF m 80 #[.val (.int p1), .val (.int (p1.toUInt32.toUInt16.toUInt32.toInt32)), .val (.int (p1.toUInt32.toUInt16.toUInt32.toInt32)), .val (.int (1 : Int32)), .val (.int (1 : Int32))] [(.int (1 : Int32)), (.int (own_mnh (p1.toUInt32.toUInt16.toUInt32.toInt32)))]) _
        refine XS.goto X9.here hx rfl (pc0 := 80) (pc' := 84) rfl (hb hby at_80) (by decide) (by decide) ?_
        exact kt)
      have hc84_12 : (own_mnh (p1.toUInt32.toUInt16.toUInt32.toInt32)) = (1 : Int32) := by rw [own_law (c_i2c p1).2.1 (c_i2c p1).2.2, if_pos (show own_all _ from Or.inl hc12)]
      have k13 : ∀ t, own_S p e below T9 (mkF m 92 #[.val (.int p1), .val (.int (p1.toUInt32.toUInt16.toUInt32.toInt32)), .val (.int (p1.toUInt32.toUInt16.toUInt32.toInt32)), .val (.int (1 : Int32)), .val (.int (1 : Int32))] [(.int (1 : Int32))]) t → Gl t := fun t kt => k11 t (by
        show own_S p e below T9 (mkF m 84 #[.val (.int p1), .val (.int (p1.toUInt32.toUInt16.toUInt32.toInt32)), .val (.int (p1.toUInt32.toUInt16.toUInt32.toInt32)), .val (.int (1 : Int32)), .val (.int (1 : Int32))] [(.int (1 : Int32)), (.int (own_mnh (p1.toUInt32.toUInt16.toUInt32.toInt32)))]) _
        refine XS.icmpNo X9.here hx rfl (hb hby at_84) rfl (teq hc84_12).2 ?_
        show own_S p e below T9 (mkF m 87 #[.val (.int p1), .val (.int (p1.toUInt32.toUInt16.toUInt32.toInt32)), .val (.int (p1.toUInt32.toUInt16.toUInt32.toInt32)), .val (.int (1 : Int32)), .val (.int (1 : Int32))] []) _
        refine XS.iconst X9.here hx rfl (hb hby at_87) ?_
        show own_S p e below T9 (mkF m 88 #[.val (.int p1), .val (.int (p1.toUInt32.toUInt16.toUInt32.toInt32)), .val (.int (p1.toUInt32.toUInt16.toUInt32.toInt32)), .val (.int (1 : Int32)), .val (.int (1 : Int32))] [(.int (1 : Int32))]) _
        refine XS.goto X9.here hx rfl (pc0 := 88) (pc' := 92) rfl (hb hby at_88) (by decide) (by decide) ?_
        exact kt)
      obtain ⟨fs, hr, hrun, hended, hW, hsame⟩ := X9.leave (v := some (.int (1 : Int32))) (fun h => by rw [Bd.returns] at h; cases h)
      refine ⟨_, _, hGl _ (k13 _ (retN X9 hx (t := .boolean) Bd.returns (by simp) (hb hby at_92) hr)), hrun, hended, _, _, rfl, ?_, ⟨_, rfl⟩, hW, hsame.mono (by decide) (by decide)⟩
      show Q0 Z p1 w10 wAny w11 h0 n0 _ T9.heap _
      rw [eq9]
      exact ⟨rfl, N9⟩
    · have k14 : ∀ t, own_S p e below T5 (mkF m 50 #[.val (.int p1), .val (.int (p1.toUInt32.toUInt16.toUInt32.toInt32)), .val (.int (p1.toUInt32.toUInt16.toUInt32.toInt32)), .val (.int (1 : Int32)), .unset] [(.int (10 : Int32)), (.int (p1.toUInt32.toUInt16.toUInt32.toInt32))]) t → Gl t := fun t kt => k7 t (by
        show own_S p e below T5 (mkF m 44 #[.val (.int p1), .val (.int (p1.toUInt32.toUInt16.toUInt32.toInt32)), .val (.int (p1.toUInt32.toUInt16.toUInt32.toInt32)), .val (.int (1 : Int32)), .unset] [(.int (9 : Int32)), (.int (p1.toUInt32.toUInt16.toUInt32.toInt32))]) _
        refine XS.icmpNo X5.here hx rfl (hb hby at_44) rfl (feq hc44).1 ?_
        show own_S p e below T5 (mkF m 47 #[.val (.int p1), .val (.int (p1.toUInt32.toUInt16.toUInt32.toInt32)), .val (.int (p1.toUInt32.toUInt16.toUInt32.toInt32)), .val (.int (1 : Int32)), .unset] []) _
        refine XS.iloadN X5.here hx rfl (hb hby at_47) rfl ?_
        show own_S p e below T5 (mkF m 48 #[.val (.int p1), .val (.int (p1.toUInt32.toUInt16.toUInt32.toInt32)), .val (.int (p1.toUInt32.toUInt16.toUInt32.toInt32)), .val (.int (1 : Int32)), .unset] [(.int (p1.toUInt32.toUInt16.toUInt32.toInt32))]) _
        refine XS.bipush X5.here hx rfl (hb hby at_48) ?_
        exact kt)
      by_cases hc50 : (p1.toUInt32.toUInt16.toUInt32.toInt32) = (10 : Int32)
      · have k15 : ∀ t, own_S p e below T5 (mkF m 67 #[.val (.int p1), .val (.int (p1.toUInt32.toUInt16.toUInt32.toInt32)), .val (.int (p1.toUInt32.toUInt16.toUInt32.toInt32)), .val (.int (1 : Int32)), .val (.int (1 : Int32))] [(.int (p1.toUInt32.toUInt16.toUInt32.toInt32))]) t → Gl t := fun t kt => k14 t (by
          show own_S p e below T5 (mkF m 50 #[.val (.int p1), .val (.int (p1.toUInt32.toUInt16.toUInt32.toInt32)), .val (.int (p1.toUInt32.toUInt16.toUInt32.toInt32)), .val (.int (1 : Int32)), .unset] [(.int (10 : Int32)), (.int (p1.toUInt32.toUInt16.toUInt32.toInt32))]) _
          refine XS.icmpYes X5.here hx rfl (pc0 := 50) (pc' := 59) rfl (hb hby at_50) rfl (teq hc50).1 (by decide) (by decide) ?_
          show own_S p e below T5 (mkF m 59 #[.val (.int p1), .val (.int (p1.toUInt32.toUInt16.toUInt32.toInt32)), .val (.int (p1.toUInt32.toUInt16.toUInt32.toInt32)), .val (.int (1 : Int32)), .unset] []) _
          refine XS.iconst X5.here hx rfl (hb hby at_59) ?_
          show own_S p e below T5 (mkF m 60 #[.val (.int p1), .val (.int (p1.toUInt32.toUInt16.toUInt32.toInt32)), .val (.int (p1.toUInt32.toUInt16.toUInt32.toInt32)), .val (.int (1 : Int32)), .unset] [(.int (1 : Int32))]) _
          refine XS.goto X5.here hx rfl (pc0 := 60) (pc' := 64) rfl (hb hby at_60) (by decide) (by decide) ?_
          show own_S p e below T5 (mkF m 64 #[.val (.int p1), .val (.int (p1.toUInt32.toUInt16.toUInt32.toInt32)), .val (.int (p1.toUInt32.toUInt16.toUInt32.toInt32)), .val (.int (1 : Int32)), .unset] [(.int (1 : Int32))]) _
          refine XS.istore X5.here hx rfl (hb hby at_64) rfl (l' := #[.val (.int p1), .val (.int (p1.toUInt32.toUInt16.toUInt32.toInt32)), .val (.int (p1.toUInt32.toUInt16.toUInt32.toInt32)), .val (.int (1 : Int32)), .val (.int (1 : Int32))]) rfl ?_
          show own_S p e below T5 (mkF m 66 #[.val (.int p1), .val (.int (p1.toUInt32.toUInt16.toUInt32.toInt32)), .val (.int (p1.toUInt32.toUInt16.toUInt32.toInt32)), .val (.int (1 : Int32)), .val (.int (1 : Int32))] []) _
          refine XS.iloadN X5.here hx rfl (hb hby at_66) rfl ?_
          exact kt)
        obtain ⟨_, _, ⟨T16, L16, cc16, ss16⟩, -, X16, ⟨Lc16, hQ16, l16, y16, z16⟩, st16⟩ := Jvm.LawKit.callS X5 hx (y := (⟨"com/example/rowan/rowan/xslt/EncodedWriter$Repertoire", "mayNotHold", "(C)Z"⟩ : MethodName)) hown (mvT hZ (hw _ (List.mem_of_getElem? (i := 16) rfl))) (mvT hZ (hw _ (List.mem_of_getElem? (i := 17) rfl))) (mvT hZ (hw _ (List.mem_of_getElem? (i := 1) rfl))) (mvT hZ (hw _ (List.mem_of_getElem? (i := 18) rfl))) (by decide) (backOf (W := 0) (rm3 l Z a0 hw [] (p1.toUInt32.toUInt16.toUInt32.toInt32)  h0 n0 Z0 ) hZ (hw _ (List.mem_of_getElem? (i := 18) rfl)) (hw _ (List.mem_of_getElem? (i := 1) rfl)) (by decide) (by decide)) (g := (mkF m 67 #[.val (.int p1), .val (.int (p1.toUInt32.toUInt16.toUInt32.toInt32)), .val (.int (p1.toUInt32.toUInt16.toUInt32.toInt32)), .val (.int (1 : Int32)), .val (.int (1 : Int32))] [(.int (p1.toUInt32.toUInt16.toUInt32.toInt32))])) rfl (by rw [hml]; rfl) (argsL := [(.int (p1.toUInt32.toUInt16.toUInt32.toInt32))]) (rest := []) (lenOf pd_0 rfl) rfl (by show 2 * 0 + _ ≤ _; exact Nat.le_of_eq rfl) (hb hby at_67) (fun _ _ => ⟨rfl, eq5, (by decide : 0 + 0 ≤ _), (by decide : 0 + 0 ≤ _)⟩)
        dsimp only [Pt.U, Pt.locs, Pt.cells, Pt.slots] at X16 l16 y16 z16 st16 hQ16
        subst l16 y16 z16
        obtain ⟨rfl, Nq16, eq16⟩ := hQ16
        have N16 := Fr.app N5 Nq16
        have k17 : ∀ t, own_S p e below T16 (mkF m 70 #[.val (.int p1), .val (.int (p1.toUInt32.toUInt16.toUInt32.toInt32)), .val (.int (p1.toUInt32.toUInt16.toUInt32.toInt32)), .val (.int (1 : Int32)), .val (.int (1 : Int32))] [(.int (own_mnh (p1.toUInt32.toUInt16.toUInt32.toInt32)))]) t → Gl t := fun t kt => k15 t (st16 _ kt)
        have k18 : ∀ t, own_S p e below T16 (mkF m 84 #[.val (.int p1), .val (.int (p1.toUInt32.toUInt16.toUInt32.toInt32)), .val (.int (p1.toUInt32.toUInt16.toUInt32.toInt32)), .val (.int (1 : Int32)), .val (.int (1 : Int32))] [(.int (1 : Int32)), (.int (own_mnh (p1.toUInt32.toUInt16.toUInt32.toInt32)))]) t → Gl t := fun t kt => k17 t (by
          show own_S p e below T16 (mkF m 70 #[.val (.int p1), .val (.int (p1.toUInt32.toUInt16.toUInt32.toInt32)), .val (.int (p1.toUInt32.toUInt16.toUInt32.toInt32)), .val (.int (1 : Int32)), .val (.int (1 : Int32))] [(.int (own_mnh (p1.toUInt32.toUInt16.toUInt32.toInt32)))]) _
          refine XS.iloadN X16.here hx rfl (hb hby at_70) rfl ?_
          show own_S p e below T16 (mkF m 71 #[.val (.int p1), .val (.int (p1.toUInt32.toUInt16.toUInt32.toInt32)), .val (.int (p1.toUInt32.toUInt16.toUInt32.toInt32)), .val (.int (1 : Int32)), .val (.int (1 : Int32))] [(.int (1 : Int32)), (.int (own_mnh (p1.toUInt32.toUInt16.toUInt32.toInt32)))]) _
          refine XS.ifYes X16.here hx rfl (pc0 := 71) (pc' := 79) rfl (hb hby at_71) rfl ((if0 _ _).trans (feq (by decide : ¬ ((1 : Int32) = (0 : Int32)))).2) (by decide) (by decide) ?_
          show own_S p e below T16 (mkF m 79 #[.val (.int p1), .val (.int (p1.toUInt32.toUInt16.toUInt32.toInt32)), .val (.int (p1.toUInt32.toUInt16.toUInt32.toInt32)), .val (.int (1 : Int32)), .val (.int (1 : Int32))] [(.int (own_mnh (p1.toUInt32.toUInt16.toUInt32.toInt32)))]) _
          refine XS.iconst X16.here hx rfl (hb hby at_79) ?_
          show own_S p e below T16 (mkF m 80 #[.val (.int p1), .val (.int (p1.toUInt32.toUInt16.toUInt32.toInt32)), .val (.int (p1.toUInt32.toUInt16.toUInt32.toInt32)), .val (.int (1 : Int32)), .val (.int (1 : Int32))] [(.int (1 : Int32)), (.int (own_mnh (p1.toUInt32.toUInt16.toUInt32.toInt32)))]) _
          refine XS.goto X16.here hx rfl (pc0 := 80) (pc' := 84) rfl (hb hby at_80) (by decide) (by decide) ?_
          exact kt)
        have hc84_19 : (own_mnh (p1.toUInt32.toUInt16.toUInt32.toInt32)) = (1 : Int32) := by rw [own_law (c_i2c p1).2.1 (c_i2c p1).2.2, if_pos (show own_all _ from Or.inl hc12)]
        have k20 : ∀ t, own_S p e below T16 (mkF m 92 #[.val (.int p1), .val (.int (p1.toUInt32.toUInt16.toUInt32.toInt32)), .val (.int (p1.toUInt32.toUInt16.toUInt32.toInt32)), .val (.int (1 : Int32)), .val (.int (1 : Int32))] [(.int (1 : Int32))]) t → Gl t := fun t kt => k18 t (by
          show own_S p e below T16 (mkF m 84 #[.val (.int p1), .val (.int (p1.toUInt32.toUInt16.toUInt32.toInt32)), .val (.int (p1.toUInt32.toUInt16.toUInt32.toInt32)), .val (.int (1 : Int32)), .val (.int (1 : Int32))] [(.int (1 : Int32)), (.int (own_mnh (p1.toUInt32.toUInt16.toUInt32.toInt32)))]) _
          refine XS.icmpNo X16.here hx rfl (hb hby at_84) rfl (teq hc84_19).2 ?_
          show own_S p e below T16 (mkF m 87 #[.val (.int p1), .val (.int (p1.toUInt32.toUInt16.toUInt32.toInt32)), .val (.int (p1.toUInt32.toUInt16.toUInt32.toInt32)), .val (.int (1 : Int32)), .val (.int (1 : Int32))] []) _
          refine XS.iconst X16.here hx rfl (hb hby at_87) ?_
          show own_S p e below T16 (mkF m 88 #[.val (.int p1), .val (.int (p1.toUInt32.toUInt16.toUInt32.toInt32)), .val (.int (p1.toUInt32.toUInt16.toUInt32.toInt32)), .val (.int (1 : Int32)), .val (.int (1 : Int32))] [(.int (1 : Int32))]) _
          refine XS.goto X16.here hx rfl (pc0 := 88) (pc' := 92) rfl (hb hby at_88) (by decide) (by decide) ?_
          exact kt)
        obtain ⟨fs, hr, hrun, hended, hW, hsame⟩ := X16.leave (v := some (.int (1 : Int32))) (fun h => by rw [Bd.returns] at h; cases h)
        refine ⟨_, _, hGl _ (k20 _ (retN X16 hx (t := .boolean) Bd.returns (by simp) (hb hby at_92) hr)), hrun, hended, _, _, rfl, ?_, ⟨_, rfl⟩, hW, hsame.mono (by decide) (by decide)⟩
        show Q0 Z p1 w10 wAny w11 h0 n0 _ T16.heap _
        rw [eq16]
        exact ⟨rfl, N16⟩
      · have k21 : ∀ t, own_S p e below T5 (mkF m 56 #[.val (.int p1), .val (.int (p1.toUInt32.toUInt16.toUInt32.toInt32)), .val (.int (p1.toUInt32.toUInt16.toUInt32.toInt32)), .val (.int (1 : Int32)), .unset] [(.int (13 : Int32)), (.int (p1.toUInt32.toUInt16.toUInt32.toInt32))]) t → Gl t := fun t kt => k14 t (by
          show own_S p e below T5 (mkF m 50 #[.val (.int p1), .val (.int (p1.toUInt32.toUInt16.toUInt32.toInt32)), .val (.int (p1.toUInt32.toUInt16.toUInt32.toInt32)), .val (.int (1 : Int32)), .unset] [(.int (10 : Int32)), (.int (p1.toUInt32.toUInt16.toUInt32.toInt32))]) _
          refine XS.icmpNo X5.here hx rfl (hb hby at_50) rfl (feq hc50).1 ?_
          show own_S p e below T5 (mkF m 53 #[.val (.int p1), .val (.int (p1.toUInt32.toUInt16.toUInt32.toInt32)), .val (.int (p1.toUInt32.toUInt16.toUInt32.toInt32)), .val (.int (1 : Int32)), .unset] []) _
          refine XS.iloadN X5.here hx rfl (hb hby at_53) rfl ?_
          show own_S p e below T5 (mkF m 54 #[.val (.int p1), .val (.int (p1.toUInt32.toUInt16.toUInt32.toInt32)), .val (.int (p1.toUInt32.toUInt16.toUInt32.toInt32)), .val (.int (1 : Int32)), .unset] [(.int (p1.toUInt32.toUInt16.toUInt32.toInt32))]) _
          refine XS.bipush X5.here hx rfl (hb hby at_54) ?_
          exact kt)
        by_cases hc56 : (p1.toUInt32.toUInt16.toUInt32.toInt32) = (13 : Int32)
        · have k22 : ∀ t, own_S p e below T5 (mkF m 67 #[.val (.int p1), .val (.int (p1.toUInt32.toUInt16.toUInt32.toInt32)), .val (.int (p1.toUInt32.toUInt16.toUInt32.toInt32)), .val (.int (1 : Int32)), .val (.int (1 : Int32))] [(.int (p1.toUInt32.toUInt16.toUInt32.toInt32))]) t → Gl t := fun t kt => k21 t (by
            show own_S p e below T5 (mkF m 56 #[.val (.int p1), .val (.int (p1.toUInt32.toUInt16.toUInt32.toInt32)), .val (.int (p1.toUInt32.toUInt16.toUInt32.toInt32)), .val (.int (1 : Int32)), .unset] [(.int (13 : Int32)), (.int (p1.toUInt32.toUInt16.toUInt32.toInt32))]) _
            refine XS.icmpNo X5.here hx rfl (hb hby at_56) rfl (teq hc56).2 ?_
            show own_S p e below T5 (mkF m 59 #[.val (.int p1), .val (.int (p1.toUInt32.toUInt16.toUInt32.toInt32)), .val (.int (p1.toUInt32.toUInt16.toUInt32.toInt32)), .val (.int (1 : Int32)), .unset] []) _
            refine XS.iconst X5.here hx rfl (hb hby at_59) ?_
            show own_S p e below T5 (mkF m 60 #[.val (.int p1), .val (.int (p1.toUInt32.toUInt16.toUInt32.toInt32)), .val (.int (p1.toUInt32.toUInt16.toUInt32.toInt32)), .val (.int (1 : Int32)), .unset] [(.int (1 : Int32))]) _
            refine XS.goto X5.here hx rfl (pc0 := 60) (pc' := 64) rfl (hb hby at_60) (by decide) (by decide) ?_
            show own_S p e below T5 (mkF m 64 #[.val (.int p1), .val (.int (p1.toUInt32.toUInt16.toUInt32.toInt32)), .val (.int (p1.toUInt32.toUInt16.toUInt32.toInt32)), .val (.int (1 : Int32)), .unset] [(.int (1 : Int32))]) _
            refine XS.istore X5.here hx rfl (hb hby at_64) rfl (l' := #[.val (.int p1), .val (.int (p1.toUInt32.toUInt16.toUInt32.toInt32)), .val (.int (p1.toUInt32.toUInt16.toUInt32.toInt32)), .val (.int (1 : Int32)), .val (.int (1 : Int32))]) rfl ?_
            show own_S p e below T5 (mkF m 66 #[.val (.int p1), .val (.int (p1.toUInt32.toUInt16.toUInt32.toInt32)), .val (.int (p1.toUInt32.toUInt16.toUInt32.toInt32)), .val (.int (1 : Int32)), .val (.int (1 : Int32))] []) _
            refine XS.iloadN X5.here hx rfl (hb hby at_66) rfl ?_
            exact kt)
          obtain ⟨_, _, ⟨T23, L23, cc23, ss23⟩, -, X23, ⟨Lc23, hQ23, l23, y23, z23⟩, st23⟩ := Jvm.LawKit.callS X5 hx (y := (⟨"com/example/rowan/rowan/xslt/EncodedWriter$Repertoire", "mayNotHold", "(C)Z"⟩ : MethodName)) hown (mvT hZ (hw _ (List.mem_of_getElem? (i := 16) rfl))) (mvT hZ (hw _ (List.mem_of_getElem? (i := 17) rfl))) (mvT hZ (hw _ (List.mem_of_getElem? (i := 1) rfl))) (mvT hZ (hw _ (List.mem_of_getElem? (i := 18) rfl))) (by decide) (backOf (W := 0) (rm3 l Z a0 hw [] (p1.toUInt32.toUInt16.toUInt32.toInt32)  h0 n0 Z0 ) hZ (hw _ (List.mem_of_getElem? (i := 18) rfl)) (hw _ (List.mem_of_getElem? (i := 1) rfl)) (by decide) (by decide)) (g := (mkF m 67 #[.val (.int p1), .val (.int (p1.toUInt32.toUInt16.toUInt32.toInt32)), .val (.int (p1.toUInt32.toUInt16.toUInt32.toInt32)), .val (.int (1 : Int32)), .val (.int (1 : Int32))] [(.int (p1.toUInt32.toUInt16.toUInt32.toInt32))])) rfl (by rw [hml]; rfl) (argsL := [(.int (p1.toUInt32.toUInt16.toUInt32.toInt32))]) (rest := []) (lenOf pd_0 rfl) rfl (by show 2 * 0 + _ ≤ _; exact Nat.le_of_eq rfl) (hb hby at_67) (fun _ _ => ⟨rfl, eq5, (by decide : 0 + 0 ≤ _), (by decide : 0 + 0 ≤ _)⟩)
          dsimp only [Pt.U, Pt.locs, Pt.cells, Pt.slots] at X23 l23 y23 z23 st23 hQ23
          subst l23 y23 z23
          obtain ⟨rfl, Nq23, eq23⟩ := hQ23
          have N23 := Fr.app N5 Nq23
          have k24 : ∀ t, own_S p e below T23 (mkF m 70 #[.val (.int p1), .val (.int (p1.toUInt32.toUInt16.toUInt32.toInt32)), .val (.int (p1.toUInt32.toUInt16.toUInt32.toInt32)), .val (.int (1 : Int32)), .val (.int (1 : Int32))] [(.int (own_mnh (p1.toUInt32.toUInt16.toUInt32.toInt32)))]) t → Gl t := fun t kt => k22 t (st23 _ kt)
          have k25 : ∀ t, own_S p e below T23 (mkF m 84 #[.val (.int p1), .val (.int (p1.toUInt32.toUInt16.toUInt32.toInt32)), .val (.int (p1.toUInt32.toUInt16.toUInt32.toInt32)), .val (.int (1 : Int32)), .val (.int (1 : Int32))] [(.int (1 : Int32)), (.int (own_mnh (p1.toUInt32.toUInt16.toUInt32.toInt32)))]) t → Gl t := fun t kt => k24 t (by
            show own_S p e below T23 (mkF m 70 #[.val (.int p1), .val (.int (p1.toUInt32.toUInt16.toUInt32.toInt32)), .val (.int (p1.toUInt32.toUInt16.toUInt32.toInt32)), .val (.int (1 : Int32)), .val (.int (1 : Int32))] [(.int (own_mnh (p1.toUInt32.toUInt16.toUInt32.toInt32)))]) _
            refine XS.iloadN X23.here hx rfl (hb hby at_70) rfl ?_
            show own_S p e below T23 (mkF m 71 #[.val (.int p1), .val (.int (p1.toUInt32.toUInt16.toUInt32.toInt32)), .val (.int (p1.toUInt32.toUInt16.toUInt32.toInt32)), .val (.int (1 : Int32)), .val (.int (1 : Int32))] [(.int (1 : Int32)), (.int (own_mnh (p1.toUInt32.toUInt16.toUInt32.toInt32)))]) _
            refine XS.ifYes X23.here hx rfl (pc0 := 71) (pc' := 79) rfl (hb hby at_71) rfl ((if0 _ _).trans (feq (by decide : ¬ ((1 : Int32) = (0 : Int32)))).2) (by decide) (by decide) ?_
            show own_S p e below T23 (mkF m 79 #[.val (.int p1), .val (.int (p1.toUInt32.toUInt16.toUInt32.toInt32)), .val (.int (p1.toUInt32.toUInt16.toUInt32.toInt32)), .val (.int (1 : Int32)), .val (.int (1 : Int32))] [(.int (own_mnh (p1.toUInt32.toUInt16.toUInt32.toInt32)))]) _
            refine XS.iconst X23.here hx rfl (hb hby at_79) ?_
            show own_S p e below T23 (mkF m 80 #[.val (.int p1), .val (.int (p1.toUInt32.toUInt16.toUInt32.toInt32)), .val (.int (p1.toUInt32.toUInt16.toUInt32.toInt32)), .val (.int (1 : Int32)), .val (.int (1 : Int32))] [(.int (1 : Int32)), (.int (own_mnh (p1.toUInt32.toUInt16.toUInt32.toInt32)))]) _
            refine XS.goto X23.here hx rfl (pc0 := 80) (pc' := 84) rfl (hb hby at_80) (by decide) (by decide) ?_
            exact kt)
          have hc84_26 : (own_mnh (p1.toUInt32.toUInt16.toUInt32.toInt32)) = (1 : Int32) := by rw [own_law (c_i2c p1).2.1 (c_i2c p1).2.2, if_pos (show own_all _ from Or.inl hc12)]
          have k27 : ∀ t, own_S p e below T23 (mkF m 92 #[.val (.int p1), .val (.int (p1.toUInt32.toUInt16.toUInt32.toInt32)), .val (.int (p1.toUInt32.toUInt16.toUInt32.toInt32)), .val (.int (1 : Int32)), .val (.int (1 : Int32))] [(.int (1 : Int32))]) t → Gl t := fun t kt => k25 t (by
            show own_S p e below T23 (mkF m 84 #[.val (.int p1), .val (.int (p1.toUInt32.toUInt16.toUInt32.toInt32)), .val (.int (p1.toUInt32.toUInt16.toUInt32.toInt32)), .val (.int (1 : Int32)), .val (.int (1 : Int32))] [(.int (1 : Int32)), (.int (own_mnh (p1.toUInt32.toUInt16.toUInt32.toInt32)))]) _
            refine XS.icmpNo X23.here hx rfl (hb hby at_84) rfl (teq hc84_26).2 ?_
            show own_S p e below T23 (mkF m 87 #[.val (.int p1), .val (.int (p1.toUInt32.toUInt16.toUInt32.toInt32)), .val (.int (p1.toUInt32.toUInt16.toUInt32.toInt32)), .val (.int (1 : Int32)), .val (.int (1 : Int32))] []) _
            refine XS.iconst X23.here hx rfl (hb hby at_87) ?_
            show own_S p e below T23 (mkF m 88 #[.val (.int p1), .val (.int (p1.toUInt32.toUInt16.toUInt32.toInt32)), .val (.int (p1.toUInt32.toUInt16.toUInt32.toInt32)), .val (.int (1 : Int32)), .val (.int (1 : Int32))] [(.int (1 : Int32))]) _
            refine XS.goto X23.here hx rfl (pc0 := 88) (pc' := 92) rfl (hb hby at_88) (by decide) (by decide) ?_
            exact kt)
          obtain ⟨fs, hr, hrun, hended, hW, hsame⟩ := X23.leave (v := some (.int (1 : Int32))) (fun h => by rw [Bd.returns] at h; cases h)
          refine ⟨_, _, hGl _ (k27 _ (retN X23 hx (t := .boolean) Bd.returns (by simp) (hb hby at_92) hr)), hrun, hended, _, _, rfl, ?_, ⟨_, rfl⟩, hW, hsame.mono (by decide) (by decide)⟩
          show Q0 Z p1 w10 wAny w11 h0 n0 _ T23.heap _
          rw [eq23]
          exact ⟨rfl, N23⟩
        · have k28 : ∀ t, own_S p e below T5 (mkF m 67 #[.val (.int p1), .val (.int (p1.toUInt32.toUInt16.toUInt32.toInt32)), .val (.int (p1.toUInt32.toUInt16.toUInt32.toInt32)), .val (.int (1 : Int32)), .val (.int (0 : Int32))] [(.int (p1.toUInt32.toUInt16.toUInt32.toInt32))]) t → Gl t := fun t kt => k21 t (by
            show own_S p e below T5 (mkF m 56 #[.val (.int p1), .val (.int (p1.toUInt32.toUInt16.toUInt32.toInt32)), .val (.int (p1.toUInt32.toUInt16.toUInt32.toInt32)), .val (.int (1 : Int32)), .unset] [(.int (13 : Int32)), (.int (p1.toUInt32.toUInt16.toUInt32.toInt32))]) _
            refine XS.icmpYes X5.here hx rfl (pc0 := 56) (pc' := 63) rfl (hb hby at_56) rfl (feq hc56).2 (by decide) (by decide) ?_
            show own_S p e below T5 (mkF m 63 #[.val (.int p1), .val (.int (p1.toUInt32.toUInt16.toUInt32.toInt32)), .val (.int (p1.toUInt32.toUInt16.toUInt32.toInt32)), .val (.int (1 : Int32)), .unset] []) _
            refine XS.iconst X5.here hx rfl (hb hby at_63) ?_
            show own_S p e below T5 (mkF m 64 #[.val (.int p1), .val (.int (p1.toUInt32.toUInt16.toUInt32.toInt32)), .val (.int (p1.toUInt32.toUInt16.toUInt32.toInt32)), .val (.int (1 : Int32)), .unset] [(.int (0 : Int32))]) _
            refine XS.istore X5.here hx rfl (hb hby at_64) rfl (l' := #[.val (.int p1), .val (.int (p1.toUInt32.toUInt16.toUInt32.toInt32)), .val (.int (p1.toUInt32.toUInt16.toUInt32.toInt32)), .val (.int (1 : Int32)), .val (.int (0 : Int32))]) rfl ?_
            show own_S p e below T5 (mkF m 66 #[.val (.int p1), .val (.int (p1.toUInt32.toUInt16.toUInt32.toInt32)), .val (.int (p1.toUInt32.toUInt16.toUInt32.toInt32)), .val (.int (1 : Int32)), .val (.int (0 : Int32))] []) _
            refine XS.iloadN X5.here hx rfl (hb hby at_66) rfl ?_
            exact kt)
          obtain ⟨_, _, ⟨T29, L29, cc29, ss29⟩, -, X29, ⟨Lc29, hQ29, l29, y29, z29⟩, st29⟩ := Jvm.LawKit.callS X5 hx (y := (⟨"com/example/rowan/rowan/xslt/EncodedWriter$Repertoire", "mayNotHold", "(C)Z"⟩ : MethodName)) hown (mvT hZ (hw _ (List.mem_of_getElem? (i := 16) rfl))) (mvT hZ (hw _ (List.mem_of_getElem? (i := 17) rfl))) (mvT hZ (hw _ (List.mem_of_getElem? (i := 1) rfl))) (mvT hZ (hw _ (List.mem_of_getElem? (i := 18) rfl))) (by decide) (backOf (W := 0) (rm3 l Z a0 hw [] (p1.toUInt32.toUInt16.toUInt32.toInt32)  h0 n0 Z0 ) hZ (hw _ (List.mem_of_getElem? (i := 18) rfl)) (hw _ (List.mem_of_getElem? (i := 1) rfl)) (by decide) (by decide)) (g := (mkF m 67 #[.val (.int p1), .val (.int (p1.toUInt32.toUInt16.toUInt32.toInt32)), .val (.int (p1.toUInt32.toUInt16.toUInt32.toInt32)), .val (.int (1 : Int32)), .val (.int (0 : Int32))] [(.int (p1.toUInt32.toUInt16.toUInt32.toInt32))])) rfl (by rw [hml]; rfl) (argsL := [(.int (p1.toUInt32.toUInt16.toUInt32.toInt32))]) (rest := []) (lenOf pd_0 rfl) rfl (by show 2 * 0 + _ ≤ _; exact Nat.le_of_eq rfl) (hb hby at_67) (fun _ _ => ⟨rfl, eq5, (by decide : 0 + 0 ≤ _), (by decide : 0 + 0 ≤ _)⟩)
          dsimp only [Pt.U, Pt.locs, Pt.cells, Pt.slots] at X29 l29 y29 z29 st29 hQ29
          subst l29 y29 z29
          obtain ⟨rfl, Nq29, eq29⟩ := hQ29
          have N29 := Fr.app N5 Nq29
          have k30 : ∀ t, own_S p e below T29 (mkF m 70 #[.val (.int p1), .val (.int (p1.toUInt32.toUInt16.toUInt32.toInt32)), .val (.int (p1.toUInt32.toUInt16.toUInt32.toInt32)), .val (.int (1 : Int32)), .val (.int (0 : Int32))] [(.int (own_mnh (p1.toUInt32.toUInt16.toUInt32.toInt32)))]) t → Gl t := fun t kt => k28 t (st29 _ kt)
          have k31 : ∀ t, own_S p e below T29 (mkF m 84 #[.val (.int p1), .val (.int (p1.toUInt32.toUInt16.toUInt32.toInt32)), .val (.int (p1.toUInt32.toUInt16.toUInt32.toInt32)), .val (.int (1 : Int32)), .val (.int (0 : Int32))] [(.int (1 : Int32)), (.int (own_mnh (p1.toUInt32.toUInt16.toUInt32.toInt32)))]) t → Gl t := fun t kt => k30 t (by
            show own_S p e below T29 (mkF m 70 #[.val (.int p1), .val (.int (p1.toUInt32.toUInt16.toUInt32.toInt32)), .val (.int (p1.toUInt32.toUInt16.toUInt32.toInt32)), .val (.int (1 : Int32)), .val (.int (0 : Int32))] [(.int (own_mnh (p1.toUInt32.toUInt16.toUInt32.toInt32)))]) _
            refine XS.iloadN X29.here hx rfl (hb hby at_70) rfl ?_
            show own_S p e below T29 (mkF m 71 #[.val (.int p1), .val (.int (p1.toUInt32.toUInt16.toUInt32.toInt32)), .val (.int (p1.toUInt32.toUInt16.toUInt32.toInt32)), .val (.int (1 : Int32)), .val (.int (0 : Int32))] [(.int (1 : Int32)), (.int (own_mnh (p1.toUInt32.toUInt16.toUInt32.toInt32)))]) _
            refine XS.ifYes X29.here hx rfl (pc0 := 71) (pc' := 79) rfl (hb hby at_71) rfl ((if0 _ _).trans (feq (by decide : ¬ ((1 : Int32) = (0 : Int32)))).2) (by decide) (by decide) ?_
            show own_S p e below T29 (mkF m 79 #[.val (.int p1), .val (.int (p1.toUInt32.toUInt16.toUInt32.toInt32)), .val (.int (p1.toUInt32.toUInt16.toUInt32.toInt32)), .val (.int (1 : Int32)), .val (.int (0 : Int32))] [(.int (own_mnh (p1.toUInt32.toUInt16.toUInt32.toInt32)))]) _
            refine XS.iconst X29.here hx rfl (hb hby at_79) ?_
            show own_S p e below T29 (mkF m 80 #[.val (.int p1), .val (.int (p1.toUInt32.toUInt16.toUInt32.toInt32)), .val (.int (p1.toUInt32.toUInt16.toUInt32.toInt32)), .val (.int (1 : Int32)), .val (.int (0 : Int32))] [(.int (1 : Int32)), (.int (own_mnh (p1.toUInt32.toUInt16.toUInt32.toInt32)))]) _
            refine XS.goto X29.here hx rfl (pc0 := 80) (pc' := 84) rfl (hb hby at_80) (by decide) (by decide) ?_
            exact kt)
          have hc84_32 : (own_mnh (p1.toUInt32.toUInt16.toUInt32.toInt32)) = (1 : Int32) := by rw [own_law (c_i2c p1).2.1 (c_i2c p1).2.2, if_pos (show own_all _ from Or.inl hc12)]
          have k33 : ∀ t, own_S p e below T29 (mkF m 92 #[.val (.int p1), .val (.int (p1.toUInt32.toUInt16.toUInt32.toInt32)), .val (.int (p1.toUInt32.toUInt16.toUInt32.toInt32)), .val (.int (1 : Int32)), .val (.int (0 : Int32))] [(.int (1 : Int32))]) t → Gl t := fun t kt => k31 t (by
            show own_S p e below T29 (mkF m 84 #[.val (.int p1), .val (.int (p1.toUInt32.toUInt16.toUInt32.toInt32)), .val (.int (p1.toUInt32.toUInt16.toUInt32.toInt32)), .val (.int (1 : Int32)), .val (.int (0 : Int32))] [(.int (1 : Int32)), (.int (own_mnh (p1.toUInt32.toUInt16.toUInt32.toInt32)))]) _
            refine XS.icmpNo X29.here hx rfl (hb hby at_84) rfl (teq hc84_32).2 ?_
            show own_S p e below T29 (mkF m 87 #[.val (.int p1), .val (.int (p1.toUInt32.toUInt16.toUInt32.toInt32)), .val (.int (p1.toUInt32.toUInt16.toUInt32.toInt32)), .val (.int (1 : Int32)), .val (.int (0 : Int32))] []) _
            refine XS.iconst X29.here hx rfl (hb hby at_87) ?_
            show own_S p e below T29 (mkF m 88 #[.val (.int p1), .val (.int (p1.toUInt32.toUInt16.toUInt32.toInt32)), .val (.int (p1.toUInt32.toUInt16.toUInt32.toInt32)), .val (.int (1 : Int32)), .val (.int (0 : Int32))] [(.int (1 : Int32))]) _
            refine XS.goto X29.here hx rfl (pc0 := 88) (pc' := 92) rfl (hb hby at_88) (by decide) (by decide) ?_
            exact kt)
          obtain ⟨fs, hr, hrun, hended, hW, hsame⟩ := X29.leave (v := some (.int (1 : Int32))) (fun h => by rw [Bd.returns] at h; cases h)
          refine ⟨_, _, hGl _ (k33 _ (retN X29 hx (t := .boolean) Bd.returns (by simp) (hb hby at_92) hr)), hrun, hended, _, _, rfl, ?_, ⟨_, rfl⟩, hW, hsame.mono (by decide) (by decide)⟩
          show Q0 Z p1 w10 wAny w11 h0 n0 _ T29.heap _
          rw [eq29]
          exact ⟨rfl, N29⟩
  · have k34 : ∀ t, own_S p e below T5 (mkF m 15 #[.val (.int p1), .val (.int (p1.toUInt32.toUInt16.toUInt32.toInt32)), .val (.int (p1.toUInt32.toUInt16.toUInt32.toInt32)), .unset, .unset] []) t → Gl t := fun t kt => k6 t (by
      show own_S p e below T5 (mkF m 12 #[.val (.int p1), .val (.int (p1.toUInt32.toUInt16.toUInt32.toInt32)), .val (.int (p1.toUInt32.toUInt16.toUInt32.toInt32)), .unset, .unset] [(.int (own_holds (p1.toUInt32.toUInt16.toUInt32.toInt32)))]) _
      refine XS.ifNo X5.here hx rfl (hb hby at_12) rfl ((if0 _ _).trans (feq hc12).1) ?_
      exact kt)
    obtain ⟨T35, X35, e35, st35⟩ := getS2 X5 hx hZ hown (host := "") (Or.inl (hw _ (List.mem_of_getElem? (i := 21) rfl))) Via.refl eq5 S_w11 (g := (mkF m 15 #[.val (.int p1), .val (.int (p1.toUInt32.toUInt16.toUInt32.toInt32)), .val (.int (p1.toUInt32.toUInt16.toUInt32.toInt32)), .unset, .unset] [])) rfl (hb hby at_15)
    have k36 : ∀ t, own_S p e below T35 (mkF m 18 #[.val (.int p1), .val (.int (p1.toUInt32.toUInt16.toUInt32.toInt32)), .val (.int (p1.toUInt32.toUInt16.toUInt32.toInt32)), .unset, .unset] [(.ref w11)]) t → Gl t := fun t kt => k34 t (st35 _ kt)
    have k37 : ∀ t, own_S p e below T35 (mkF m 19 #[.val (.int p1), .val (.int (p1.toUInt32.toUInt16.toUInt32.toInt32)), .val (.int (p1.toUInt32.toUInt16.toUInt32.toInt32)), .unset, .unset] [(.int (p1.toUInt32.toUInt16.toUInt32.toInt32)), (.ref w11)]) t → Gl t := fun t kt => k36 t (by
      show own_S p e below T35 (mkF m 18 #[.val (.int p1), .val (.int (p1.toUInt32.toUInt16.toUInt32.toInt32)), .val (.int (p1.toUInt32.toUInt16.toUInt32.toInt32)), .unset, .unset] [(.ref w11)]) _
      refine XS.iloadN X35.here hx rfl (hb hby at_18) rfl ?_
      exact kt)
    obtain ⟨cq38, kq38, qa38, qb38, qc38⟩ := isOf hZ e35 E_w11
    obtain ⟨_, _, ⟨T38, L38, cc38, ss38⟩, -, X38, ⟨Lc38, hQ38, l38, y38, z38⟩, st38⟩ := X35.virtualBack hx (y := (⟨"com/example/rowan/rowan/xslt/EncodedWriter$Repertoire", "onlyAsReference", "(I)Z"⟩ : MethodName)) (z := (⟨"com/example/rowan/rowan/xslt/EncodedWriter$Repertoire", "onlyAsReference", "(I)Z"⟩ : MethodName)) hown (mvT hZ (hw _ (List.mem_of_getElem? (i := 22) rfl))) (mvT hZ (hw _ (List.mem_of_getElem? (i := 23) rfl))) (notFace_of_selects (args := #[]) (mvT hZ (hw _ (List.mem_of_getElem? (i := 25) rfl)))) (mvT hZ (hw _ (List.mem_of_getElem? (i := 25) rfl))) (mvT hZ (hw _ (List.mem_of_getElem? (i := 24) rfl))) (by decide) (backOf (W := 0) (rm4 l Z a0 hw [] w11 (p1.toUInt32.toUInt16.toUInt32.toInt32)  h0 n0 Z0 S_w11 E_w11) hZ (hw _ (List.mem_of_getElem? (i := 26) rfl)) (hw _ (List.mem_of_getElem? (i := 1) rfl)) (by decide) (by decide)) qa38 qc38 (g := (mkF m 19 #[.val (.int p1), .val (.int (p1.toUInt32.toUInt16.toUInt32.toInt32)), .val (.int (p1.toUInt32.toUInt16.toUInt32.toInt32)), .unset, .unset] [(.int (p1.toUInt32.toUInt16.toUInt32.toInt32)), (.ref w11)])) rfl (by rw [hml]; rfl) (Steps.refl _) (argsL := [(.int (p1.toUInt32.toUInt16.toUInt32.toInt32))]) (rest := []) (lenOf pd_2 rfl) rfl (by show 2 * 0 + _ ≤ _; exact Nat.le_of_eq rfl) (hb hby at_19) (fun _ _ => ⟨rfl, e35, (by decide : 0 + 0 ≤ _), (by decide : 0 + 0 ≤ _)⟩)
    dsimp only [Pt.U, Pt.locs, Pt.cells, Pt.slots] at X38 l38 y38 z38 st38 hQ38
    subst l38 y38 z38
    obtain ⟨rfl, Nq38, eq38⟩ := hQ38
    have N38 := Fr.app N5 Nq38
    have k39 : ∀ t, own_S p e below T38 (mkF m 22 #[.val (.int p1), .val (.int (p1.toUInt32.toUInt16.toUInt32.toInt32)), .val (.int (p1.toUInt32.toUInt16.toUInt32.toInt32)), .unset, .unset] [(.int (own_oar (p1.toUInt32.toUInt16.toUInt32.toInt32)))]) t → Gl t := fun t kt => k37 t (st38.trans kt)
    by_cases hc22 : (own_oar (p1.toUInt32.toUInt16.toUInt32.toInt32)) = (0 : Int32)
    · have k40 : ∀ t, own_S p e below T38 (mkF m 25 #[.val (.int p1), .val (.int (p1.toUInt32.toUInt16.toUInt32.toInt32)), .val (.int (p1.toUInt32.toUInt16.toUInt32.toInt32)), .unset, .unset] []) t → Gl t := fun t kt => k39 t (by
        show own_S p e below T38 (mkF m 22 #[.val (.int p1), .val (.int (p1.toUInt32.toUInt16.toUInt32.toInt32)), .val (.int (p1.toUInt32.toUInt16.toUInt32.toInt32)), .unset, .unset] [(.int (own_oar (p1.toUInt32.toUInt16.toUInt32.toInt32)))]) _
        refine XS.ifNo X38.here hx rfl (hb hby at_22) rfl ((if0 _ _).trans (teq hc22).2) ?_
        exact kt)
      obtain ⟨T41, X41, e41, st41⟩ := getS2 X38 hx hZ hown (host := "") (Or.inl (hw _ (List.mem_of_getElem? (i := 21) rfl))) Via.refl eq38 S_w11 (g := (mkF m 25 #[.val (.int p1), .val (.int (p1.toUInt32.toUInt16.toUInt32.toInt32)), .val (.int (p1.toUInt32.toUInt16.toUInt32.toInt32)), .unset, .unset] [])) rfl (hb hby at_25)
      have k42 : ∀ t, own_S p e below T41 (mkF m 28 #[.val (.int p1), .val (.int (p1.toUInt32.toUInt16.toUInt32.toInt32)), .val (.int (p1.toUInt32.toUInt16.toUInt32.toInt32)), .unset, .unset] [(.ref w11)]) t → Gl t := fun t kt => k40 t (st41 _ kt)
      have k43 : ∀ t, own_S p e below T41 (mkF m 29 #[.val (.int p1), .val (.int (p1.toUInt32.toUInt16.toUInt32.toInt32)), .val (.int (p1.toUInt32.toUInt16.toUInt32.toInt32)), .unset, .unset] [(.int (p1.toUInt32.toUInt16.toUInt32.toInt32)), (.ref w11)]) t → Gl t := fun t kt => k42 t (by
        show own_S p e below T41 (mkF m 28 #[.val (.int p1), .val (.int (p1.toUInt32.toUInt16.toUInt32.toInt32)), .val (.int (p1.toUInt32.toUInt16.toUInt32.toInt32)), .unset, .unset] [(.ref w11)]) _
        refine XS.iloadN X41.here hx rfl (hb hby at_28) rfl ?_
        exact kt)
      obtain ⟨cq44, kq44, qa44, qb44, qc44⟩ := isOf hZ e41 E_w11
      obtain ⟨_, _, ⟨T44, L44, cc44, ss44⟩, -, X44, ⟨Lc44, hQ44, l44, y44, z44⟩, st44⟩ := X41.virtualBack hx (y := (⟨"com/example/rowan/rowan/xslt/EncodedWriter$Repertoire", "endsLine", "(I)Z"⟩ : MethodName)) (z := (⟨"com/example/rowan/rowan/xslt/EncodedWriter$Repertoire", "endsLine", "(I)Z"⟩ : MethodName)) hown (mvT hZ (hw _ (List.mem_of_getElem? (i := 31) rfl))) (mvT hZ (hw _ (List.mem_of_getElem? (i := 32) rfl))) (notFace_of_selects (args := #[]) (mvT hZ (hw _ (List.mem_of_getElem? (i := 34) rfl)))) (mvT hZ (hw _ (List.mem_of_getElem? (i := 34) rfl))) (mvT hZ (hw _ (List.mem_of_getElem? (i := 33) rfl))) (by decide) (backOf (W := 0) (rm6 l Z a0 hw [] w11 (p1.toUInt32.toUInt16.toUInt32.toInt32)  h0 n0 Z0 S_w11 E_w11) hZ (hw _ (List.mem_of_getElem? (i := 35) rfl)) (hw _ (List.mem_of_getElem? (i := 1) rfl)) (by decide) (by decide)) qa44 qc44 (g := (mkF m 29 #[.val (.int p1), .val (.int (p1.toUInt32.toUInt16.toUInt32.toInt32)), .val (.int (p1.toUInt32.toUInt16.toUInt32.toInt32)), .unset, .unset] [(.int (p1.toUInt32.toUInt16.toUInt32.toInt32)), (.ref w11)])) rfl (by rw [hml]; rfl) (Steps.refl _) (argsL := [(.int (p1.toUInt32.toUInt16.toUInt32.toInt32))]) (rest := []) (lenOf pd_2 rfl) rfl (by show 2 * 0 + _ ≤ _; exact Nat.le_of_eq rfl) (hb hby at_29) (fun _ _ => ⟨rfl, e41, (by decide : 0 + 0 ≤ _), (by decide : 0 + 0 ≤ _)⟩)
      dsimp only [Pt.U, Pt.locs, Pt.cells, Pt.slots] at X44 l44 y44 z44 st44 hQ44
      subst l44 y44 z44
      obtain ⟨rfl, Nq44, eq44⟩ := hQ44
      have N44 := Fr.app N38 Nq44
      have k45 : ∀ t, own_S p e below T44 (mkF m 32 #[.val (.int p1), .val (.int (p1.toUInt32.toUInt16.toUInt32.toInt32)), .val (.int (p1.toUInt32.toUInt16.toUInt32.toInt32)), .unset, .unset] [(.int (own_el (p1.toUInt32.toUInt16.toUInt32.toInt32)))]) t → Gl t := fun t kt => k43 t (st44.trans kt)
      by_cases hc32 : (own_el (p1.toUInt32.toUInt16.toUInt32.toInt32)) = (0 : Int32)
      · have k46 : ∀ t, own_S p e below T44 (mkF m 44 #[.val (.int p1), .val (.int (p1.toUInt32.toUInt16.toUInt32.toInt32)), .val (.int (p1.toUInt32.toUInt16.toUInt32.toInt32)), .val (.int (0 : Int32)), .unset] [(.int (9 : Int32)), (.int (p1.toUInt32.toUInt16.toUInt32.toInt32))]) t → Gl t := fun t kt => k45 t (by
          show own_S p e below T44 (mkF m 32 #[.val (.int p1), .val (.int (p1.toUInt32.toUInt16.toUInt32.toInt32)), .val (.int (p1.toUInt32.toUInt16.toUInt32.toInt32)), .unset, .unset] [(.int (own_el (p1.toUInt32.toUInt16.toUInt32.toInt32)))]) _
          refine XS.ifYes X44.here hx rfl (pc0 := 32) (pc' := 39) rfl (hb hby at_32) rfl ((if0 _ _).trans (teq hc32).1) (by decide) (by decide) ?_
          show own_S p e below T44 (mkF m 39 #[.val (.int p1), .val (.int (p1.toUInt32.toUInt16.toUInt32.toInt32)), .val (.int (p1.toUInt32.toUInt16.toUInt32.toInt32)), .unset, .unset] []) _
          refine XS.iconst X44.here hx rfl (hb hby at_39) ?_
          show own_S p e below T44 (mkF m 40 #[.val (.int p1), .val (.int (p1.toUInt32.toUInt16.toUInt32.toInt32)), .val (.int (p1.toUInt32.toUInt16.toUInt32.toInt32)), .unset, .unset] [(.int (0 : Int32))]) _
          refine XS.istoreN X44.here hx rfl (hb hby at_40) rfl (l' := #[.val (.int p1), .val (.int (p1.toUInt32.toUInt16.toUInt32.toInt32)), .val (.int (p1.toUInt32.toUInt16.toUInt32.toInt32)), .val (.int (0 : Int32)), .unset]) rfl ?_
          show own_S p e below T44 (mkF m 41 #[.val (.int p1), .val (.int (p1.toUInt32.toUInt16.toUInt32.toInt32)), .val (.int (p1.toUInt32.toUInt16.toUInt32.toInt32)), .val (.int (0 : Int32)), .unset] []) _
          refine XS.iloadN X44.here hx rfl (hb hby at_41) rfl ?_
          show own_S p e below T44 (mkF m 42 #[.val (.int p1), .val (.int (p1.toUInt32.toUInt16.toUInt32.toInt32)), .val (.int (p1.toUInt32.toUInt16.toUInt32.toInt32)), .val (.int (0 : Int32)), .unset] [(.int (p1.toUInt32.toUInt16.toUInt32.toInt32))]) _
          refine XS.bipush X44.here hx rfl (hb hby at_42) ?_
          exact kt)
        by_cases hc44 : (p1.toUInt32.toUInt16.toUInt32.toInt32) = (9 : Int32)
        · have k47 : ∀ t, own_S p e below T44 (mkF m 67 #[.val (.int p1), .val (.int (p1.toUInt32.toUInt16.toUInt32.toInt32)), .val (.int (p1.toUInt32.toUInt16.toUInt32.toInt32)), .val (.int (0 : Int32)), .val (.int (1 : Int32))] [(.int (p1.toUInt32.toUInt16.toUInt32.toInt32))]) t → Gl t := fun t kt => k46 t (by
            show own_S p e below T44 (mkF m 44 #[.val (.int p1), .val (.int (p1.toUInt32.toUInt16.toUInt32.toInt32)), .val (.int (p1.toUInt32.toUInt16.toUInt32.toInt32)), .val (.int (0 : Int32)), .unset] [(.int (9 : Int32)), (.int (p1.toUInt32.toUInt16.toUInt32.toInt32))]) _
            refine XS.icmpYes X44.here hx rfl (pc0 := 44) (pc' := 59) rfl (hb hby at_44) rfl (teq hc44).1 (by decide) (by decide) ?_
            show own_S p e below T44 (mkF m 59 #[.val (.int p1), .val (.int (p1.toUInt32.toUInt16.toUInt32.toInt32)), .val (.int (p1.toUInt32.toUInt16.toUInt32.toInt32)), .val (.int (0 : Int32)), .unset] []) _
            refine XS.iconst X44.here hx rfl (hb hby at_59) ?_
            show own_S p e below T44 (mkF m 60 #[.val (.int p1), .val (.int (p1.toUInt32.toUInt16.toUInt32.toInt32)), .val (.int (p1.toUInt32.toUInt16.toUInt32.toInt32)), .val (.int (0 : Int32)), .unset] [(.int (1 : Int32))]) _
            refine XS.goto X44.here hx rfl (pc0 := 60) (pc' := 64) rfl (hb hby at_60) (by decide) (by decide) ?_
            show own_S p e below T44 (mkF m 64 #[.val (.int p1), .val (.int (p1.toUInt32.toUInt16.toUInt32.toInt32)), .val (.int (p1.toUInt32.toUInt16.toUInt32.toInt32)), .val (.int (0 : Int32)), .unset] [(.int (1 : Int32))]) _
            refine XS.istore X44.here hx rfl (hb hby at_64) rfl (l' := #[.val (.int p1), .val (.int (p1.toUInt32.toUInt16.toUInt32.toInt32)), .val (.int (p1.toUInt32.toUInt16.toUInt32.toInt32)), .val (.int (0 : Int32)), .val (.int (1 : Int32))]) rfl ?_
            show own_S p e below T44 (mkF m 66 #[.val (.int p1), .val (.int (p1.toUInt32.toUInt16.toUInt32.toInt32)), .val (.int (p1.toUInt32.toUInt16.toUInt32.toInt32)), .val (.int (0 : Int32)), .val (.int (1 : Int32))] []) _
            refine XS.iloadN X44.here hx rfl (hb hby at_66) rfl ?_
            exact kt)
          obtain ⟨_, _, ⟨T48, L48, cc48, ss48⟩, -, X48, ⟨Lc48, hQ48, l48, y48, z48⟩, st48⟩ := Jvm.LawKit.callS X44 hx (y := (⟨"com/example/rowan/rowan/xslt/EncodedWriter$Repertoire", "mayNotHold", "(C)Z"⟩ : MethodName)) hown (mvT hZ (hw _ (List.mem_of_getElem? (i := 16) rfl))) (mvT hZ (hw _ (List.mem_of_getElem? (i := 17) rfl))) (mvT hZ (hw _ (List.mem_of_getElem? (i := 1) rfl))) (mvT hZ (hw _ (List.mem_of_getElem? (i := 18) rfl))) (by decide) (backOf (W := 0) (rm3 l Z a0 hw [] (p1.toUInt32.toUInt16.toUInt32.toInt32)  h0 n0 Z0 ) hZ (hw _ (List.mem_of_getElem? (i := 18) rfl)) (hw _ (List.mem_of_getElem? (i := 1) rfl)) (by decide) (by decide)) (g := (mkF m 67 #[.val (.int p1), .val (.int (p1.toUInt32.toUInt16.toUInt32.toInt32)), .val (.int (p1.toUInt32.toUInt16.toUInt32.toInt32)), .val (.int (0 : Int32)), .val (.int (1 : Int32))] [(.int (p1.toUInt32.toUInt16.toUInt32.toInt32))])) rfl (by rw [hml]; rfl) (argsL := [(.int (p1.toUInt32.toUInt16.toUInt32.toInt32))]) (rest := []) (lenOf pd_0 rfl) rfl (by show 2 * 0 + _ ≤ _; exact Nat.le_of_eq rfl) (hb hby at_67) (fun _ _ => ⟨rfl, eq44, (by decide : 0 + 0 ≤ _), (by decide : 0 + 0 ≤ _)⟩)
          dsimp only [Pt.U, Pt.locs, Pt.cells, Pt.slots] at X48 l48 y48 z48 st48 hQ48
          subst l48 y48 z48
          obtain ⟨rfl, Nq48, eq48⟩ := hQ48
          have N48 := Fr.app N44 Nq48
          have k49 : ∀ t, own_S p e below T48 (mkF m 70 #[.val (.int p1), .val (.int (p1.toUInt32.toUInt16.toUInt32.toInt32)), .val (.int (p1.toUInt32.toUInt16.toUInt32.toInt32)), .val (.int (0 : Int32)), .val (.int (1 : Int32))] [(.int (own_mnh (p1.toUInt32.toUInt16.toUInt32.toInt32)))]) t → Gl t := fun t kt => k47 t (st48 _ kt)
          have k50 : ∀ t, own_S p e below T48 (mkF m 84 #[.val (.int p1), .val (.int (p1.toUInt32.toUInt16.toUInt32.toInt32)), .val (.int (p1.toUInt32.toUInt16.toUInt32.toInt32)), .val (.int (0 : Int32)), .val (.int (1 : Int32))] [(.int (1 : Int32)), (.int (own_mnh (p1.toUInt32.toUInt16.toUInt32.toInt32)))]) t → Gl t := fun t kt => k49 t (by
            show own_S p e below T48 (mkF m 70 #[.val (.int p1), .val (.int (p1.toUInt32.toUInt16.toUInt32.toInt32)), .val (.int (p1.toUInt32.toUInt16.toUInt32.toInt32)), .val (.int (0 : Int32)), .val (.int (1 : Int32))] [(.int (own_mnh (p1.toUInt32.toUInt16.toUInt32.toInt32)))]) _
            refine XS.iloadN X48.here hx rfl (hb hby at_70) rfl ?_
            show own_S p e below T48 (mkF m 71 #[.val (.int p1), .val (.int (p1.toUInt32.toUInt16.toUInt32.toInt32)), .val (.int (p1.toUInt32.toUInt16.toUInt32.toInt32)), .val (.int (0 : Int32)), .val (.int (1 : Int32))] [(.int (0 : Int32)), (.int (own_mnh (p1.toUInt32.toUInt16.toUInt32.toInt32)))]) _
            refine XS.ifNo X48.here hx rfl (hb hby at_71) rfl ((if0 _ _).trans (teq (by decide : (0 : Int32) = (0 : Int32))).2) ?_
            show own_S p e below T48 (mkF m 74 #[.val (.int p1), .val (.int (p1.toUInt32.toUInt16.toUInt32.toInt32)), .val (.int (p1.toUInt32.toUInt16.toUInt32.toInt32)), .val (.int (0 : Int32)), .val (.int (1 : Int32))] [(.int (own_mnh (p1.toUInt32.toUInt16.toUInt32.toInt32)))]) _
            refine XS.iload X48.here hx rfl (hb hby at_74) rfl ?_
            show own_S p e below T48 (mkF m 76 #[.val (.int p1), .val (.int (p1.toUInt32.toUInt16.toUInt32.toInt32)), .val (.int (p1.toUInt32.toUInt16.toUInt32.toInt32)), .val (.int (0 : Int32)), .val (.int (1 : Int32))] [(.int (1 : Int32)), (.int (own_mnh (p1.toUInt32.toUInt16.toUInt32.toInt32)))]) _
            refine XS.ifNo X48.here hx rfl (hb hby at_76) rfl ((if0 _ _).trans (feq (by decide : ¬ ((1 : Int32) = (0 : Int32)))).1) ?_
            show own_S p e below T48 (mkF m 79 #[.val (.int p1), .val (.int (p1.toUInt32.toUInt16.toUInt32.toInt32)), .val (.int (p1.toUInt32.toUInt16.toUInt32.toInt32)), .val (.int (0 : Int32)), .val (.int (1 : Int32))] [(.int (own_mnh (p1.toUInt32.toUInt16.toUInt32.toInt32)))]) _
            refine XS.iconst X48.here hx rfl (hb hby at_79) ?_
            show own_S p e below T48 (mkF m 80 #[.val (.int p1), .val (.int (p1.toUInt32.toUInt16.toUInt32.toInt32)), .val (.int (p1.toUInt32.toUInt16.toUInt32.toInt32)), .val (.int (0 : Int32)), .val (.int (1 : Int32))] [(.int (1 : Int32)), (.int (own_mnh (p1.toUInt32.toUInt16.toUInt32.toInt32)))]) _
            refine XS.goto X48.here hx rfl (pc0 := 80) (pc' := 84) rfl (hb hby at_80) (by decide) (by decide) ?_
            exact kt)
          have hc84_51 : (own_mnh (p1.toUInt32.toUInt16.toUInt32.toInt32)) = (1 : Int32) := by rw [own_law (c_i2c p1).2.1 (c_i2c p1).2.2, if_pos (show own_all _ from Or.inr (Or.inr (Or.inr (Or.inl hc44))))]
          have k52 : ∀ t, own_S p e below T48 (mkF m 92 #[.val (.int p1), .val (.int (p1.toUInt32.toUInt16.toUInt32.toInt32)), .val (.int (p1.toUInt32.toUInt16.toUInt32.toInt32)), .val (.int (0 : Int32)), .val (.int (1 : Int32))] [(.int (1 : Int32))]) t → Gl t := fun t kt => k50 t (by
            show own_S p e below T48 (mkF m 84 #[.val (.int p1), .val (.int (p1.toUInt32.toUInt16.toUInt32.toInt32)), .val (.int (p1.toUInt32.toUInt16.toUInt32.toInt32)), .val (.int (0 : Int32)), .val (.int (1 : Int32))] [(.int (1 : Int32)), (.int (own_mnh (p1.toUInt32.toUInt16.toUInt32.toInt32)))]) _
            refine XS.icmpNo X48.here hx rfl (hb hby at_84) rfl (teq hc84_51).2 ?_
            show own_S p e below T48 (mkF m 87 #[.val (.int p1), .val (.int (p1.toUInt32.toUInt16.toUInt32.toInt32)), .val (.int (p1.toUInt32.toUInt16.toUInt32.toInt32)), .val (.int (0 : Int32)), .val (.int (1 : Int32))] []) _
            refine XS.iconst X48.here hx rfl (hb hby at_87) ?_
            show own_S p e below T48 (mkF m 88 #[.val (.int p1), .val (.int (p1.toUInt32.toUInt16.toUInt32.toInt32)), .val (.int (p1.toUInt32.toUInt16.toUInt32.toInt32)), .val (.int (0 : Int32)), .val (.int (1 : Int32))] [(.int (1 : Int32))]) _
            refine XS.goto X48.here hx rfl (pc0 := 88) (pc' := 92) rfl (hb hby at_88) (by decide) (by decide) ?_
            exact kt)
          obtain ⟨fs, hr, hrun, hended, hW, hsame⟩ := X48.leave (v := some (.int (1 : Int32))) (fun h => by rw [Bd.returns] at h; cases h)
          refine ⟨_, _, hGl _ (k52 _ (retN X48 hx (t := .boolean) Bd.returns (by simp) (hb hby at_92) hr)), hrun, hended, _, _, rfl, ?_, ⟨_, rfl⟩, hW, hsame.mono (by decide) (by decide)⟩
          show Q0 Z p1 w10 wAny w11 h0 n0 _ T48.heap _
          rw [eq48]
          exact ⟨rfl, N48⟩
        · have k53 : ∀ t, own_S p e below T44 (mkF m 50 #[.val (.int p1), .val (.int (p1.toUInt32.toUInt16.toUInt32.toInt32)), .val (.int (p1.toUInt32.toUInt16.toUInt32.toInt32)), .val (.int (0 : Int32)), .unset] [(.int (10 : Int32)), (.int (p1.toUInt32.toUInt16.toUInt32.toInt32))]) t → Gl t := fun t kt => k46 t (by
            show own_S p e below T44 (mkF m 44 #[.val (.int p1), .val (.int (p1.toUInt32.toUInt16.toUInt32.toInt32)), .val (.int (p1.toUInt32.toUInt16.toUInt32.toInt32)), .val (.int (0 : Int32)), .unset] [(.int (9 : Int32)), (.int (p1.toUInt32.toUInt16.toUInt32.toInt32))]) _
            refine XS.icmpNo X44.here hx rfl (hb hby at_44) rfl (feq hc44).1 ?_
            show own_S p e below T44 (mkF m 47 #[.val (.int p1), .val (.int (p1.toUInt32.toUInt16.toUInt32.toInt32)), .val (.int (p1.toUInt32.toUInt16.toUInt32.toInt32)), .val (.int (0 : Int32)), .unset] []) _
            refine XS.iloadN X44.here hx rfl (hb hby at_47) rfl ?_
            show own_S p e below T44 (mkF m 48 #[.val (.int p1), .val (.int (p1.toUInt32.toUInt16.toUInt32.toInt32)), .val (.int (p1.toUInt32.toUInt16.toUInt32.toInt32)), .val (.int (0 : Int32)), .unset] [(.int (p1.toUInt32.toUInt16.toUInt32.toInt32))]) _
            refine XS.bipush X44.here hx rfl (hb hby at_48) ?_
            exact kt)
          by_cases hc50 : (p1.toUInt32.toUInt16.toUInt32.toInt32) = (10 : Int32)
          · have k54 : ∀ t, own_S p e below T44 (mkF m 67 #[.val (.int p1), .val (.int (p1.toUInt32.toUInt16.toUInt32.toInt32)), .val (.int (p1.toUInt32.toUInt16.toUInt32.toInt32)), .val (.int (0 : Int32)), .val (.int (1 : Int32))] [(.int (p1.toUInt32.toUInt16.toUInt32.toInt32))]) t → Gl t := fun t kt => k53 t (by
              show own_S p e below T44 (mkF m 50 #[.val (.int p1), .val (.int (p1.toUInt32.toUInt16.toUInt32.toInt32)), .val (.int (p1.toUInt32.toUInt16.toUInt32.toInt32)), .val (.int (0 : Int32)), .unset] [(.int (10 : Int32)), (.int (p1.toUInt32.toUInt16.toUInt32.toInt32))]) _
              refine XS.icmpYes X44.here hx rfl (pc0 := 50) (pc' := 59) rfl (hb hby at_50) rfl (teq hc50).1 (by decide) (by decide) ?_
              show own_S p e below T44 (mkF m 59 #[.val (.int p1), .val (.int (p1.toUInt32.toUInt16.toUInt32.toInt32)), .val (.int (p1.toUInt32.toUInt16.toUInt32.toInt32)), .val (.int (0 : Int32)), .unset] []) _
              refine XS.iconst X44.here hx rfl (hb hby at_59) ?_
              show own_S p e below T44 (mkF m 60 #[.val (.int p1), .val (.int (p1.toUInt32.toUInt16.toUInt32.toInt32)), .val (.int (p1.toUInt32.toUInt16.toUInt32.toInt32)), .val (.int (0 : Int32)), .unset] [(.int (1 : Int32))]) _
              refine XS.goto X44.here hx rfl (pc0 := 60) (pc' := 64) rfl (hb hby at_60) (by decide) (by decide) ?_
              show own_S p e below T44 (mkF m 64 #[.val (.int p1), .val (.int (p1.toUInt32.toUInt16.toUInt32.toInt32)), .val (.int (p1.toUInt32.toUInt16.toUInt32.toInt32)), .val (.int (0 : Int32)), .unset] [(.int (1 : Int32))]) _
              refine XS.istore X44.here hx rfl (hb hby at_64) rfl (l' := #[.val (.int p1), .val (.int (p1.toUInt32.toUInt16.toUInt32.toInt32)), .val (.int (p1.toUInt32.toUInt16.toUInt32.toInt32)), .val (.int (0 : Int32)), .val (.int (1 : Int32))]) rfl ?_
              show own_S p e below T44 (mkF m 66 #[.val (.int p1), .val (.int (p1.toUInt32.toUInt16.toUInt32.toInt32)), .val (.int (p1.toUInt32.toUInt16.toUInt32.toInt32)), .val (.int (0 : Int32)), .val (.int (1 : Int32))] []) _
              refine XS.iloadN X44.here hx rfl (hb hby at_66) rfl ?_
              exact kt)
            obtain ⟨_, _, ⟨T55, L55, cc55, ss55⟩, -, X55, ⟨Lc55, hQ55, l55, y55, z55⟩, st55⟩ := Jvm.LawKit.callS X44 hx (y := (⟨"com/example/rowan/rowan/xslt/EncodedWriter$Repertoire", "mayNotHold", "(C)Z"⟩ : MethodName)) hown (mvT hZ (hw _ (List.mem_of_getElem? (i := 16) rfl))) (mvT hZ (hw _ (List.mem_of_getElem? (i := 17) rfl))) (mvT hZ (hw _ (List.mem_of_getElem? (i := 1) rfl))) (mvT hZ (hw _ (List.mem_of_getElem? (i := 18) rfl))) (by decide) (backOf (W := 0) (rm3 l Z a0 hw [] (p1.toUInt32.toUInt16.toUInt32.toInt32)  h0 n0 Z0 ) hZ (hw _ (List.mem_of_getElem? (i := 18) rfl)) (hw _ (List.mem_of_getElem? (i := 1) rfl)) (by decide) (by decide)) (g := (mkF m 67 #[.val (.int p1), .val (.int (p1.toUInt32.toUInt16.toUInt32.toInt32)), .val (.int (p1.toUInt32.toUInt16.toUInt32.toInt32)), .val (.int (0 : Int32)), .val (.int (1 : Int32))] [(.int (p1.toUInt32.toUInt16.toUInt32.toInt32))])) rfl (by rw [hml]; rfl) (argsL := [(.int (p1.toUInt32.toUInt16.toUInt32.toInt32))]) (rest := []) (lenOf pd_0 rfl) rfl (by show 2 * 0 + _ ≤ _; exact Nat.le_of_eq rfl) (hb hby at_67) (fun _ _ => ⟨rfl, eq44, (by decide : 0 + 0 ≤ _), (by decide : 0 + 0 ≤ _)⟩)
            dsimp only [Pt.U, Pt.locs, Pt.cells, Pt.slots] at X55 l55 y55 z55 st55 hQ55
            subst l55 y55 z55
            obtain ⟨rfl, Nq55, eq55⟩ := hQ55
            have N55 := Fr.app N44 Nq55
            have k56 : ∀ t, own_S p e below T55 (mkF m 70 #[.val (.int p1), .val (.int (p1.toUInt32.toUInt16.toUInt32.toInt32)), .val (.int (p1.toUInt32.toUInt16.toUInt32.toInt32)), .val (.int (0 : Int32)), .val (.int (1 : Int32))] [(.int (own_mnh (p1.toUInt32.toUInt16.toUInt32.toInt32)))]) t → Gl t := fun t kt => k54 t (st55 _ kt)
            have k57 : ∀ t, own_S p e below T55 (mkF m 84 #[.val (.int p1), .val (.int (p1.toUInt32.toUInt16.toUInt32.toInt32)), .val (.int (p1.toUInt32.toUInt16.toUInt32.toInt32)), .val (.int (0 : Int32)), .val (.int (1 : Int32))] [(.int (1 : Int32)), (.int (own_mnh (p1.toUInt32.toUInt16.toUInt32.toInt32)))]) t → Gl t := fun t kt => k56 t (by
              show own_S p e below T55 (mkF m 70 #[.val (.int p1), .val (.int (p1.toUInt32.toUInt16.toUInt32.toInt32)), .val (.int (p1.toUInt32.toUInt16.toUInt32.toInt32)), .val (.int (0 : Int32)), .val (.int (1 : Int32))] [(.int (own_mnh (p1.toUInt32.toUInt16.toUInt32.toInt32)))]) _
              refine XS.iloadN X55.here hx rfl (hb hby at_70) rfl ?_
              show own_S p e below T55 (mkF m 71 #[.val (.int p1), .val (.int (p1.toUInt32.toUInt16.toUInt32.toInt32)), .val (.int (p1.toUInt32.toUInt16.toUInt32.toInt32)), .val (.int (0 : Int32)), .val (.int (1 : Int32))] [(.int (0 : Int32)), (.int (own_mnh (p1.toUInt32.toUInt16.toUInt32.toInt32)))]) _
              refine XS.ifNo X55.here hx rfl (hb hby at_71) rfl ((if0 _ _).trans (teq (by decide : (0 : Int32) = (0 : Int32))).2) ?_
              show own_S p e below T55 (mkF m 74 #[.val (.int p1), .val (.int (p1.toUInt32.toUInt16.toUInt32.toInt32)), .val (.int (p1.toUInt32.toUInt16.toUInt32.toInt32)), .val (.int (0 : Int32)), .val (.int (1 : Int32))] [(.int (own_mnh (p1.toUInt32.toUInt16.toUInt32.toInt32)))]) _
              refine XS.iload X55.here hx rfl (hb hby at_74) rfl ?_
              show own_S p e below T55 (mkF m 76 #[.val (.int p1), .val (.int (p1.toUInt32.toUInt16.toUInt32.toInt32)), .val (.int (p1.toUInt32.toUInt16.toUInt32.toInt32)), .val (.int (0 : Int32)), .val (.int (1 : Int32))] [(.int (1 : Int32)), (.int (own_mnh (p1.toUInt32.toUInt16.toUInt32.toInt32)))]) _
              refine XS.ifNo X55.here hx rfl (hb hby at_76) rfl ((if0 _ _).trans (feq (by decide : ¬ ((1 : Int32) = (0 : Int32)))).1) ?_
              show own_S p e below T55 (mkF m 79 #[.val (.int p1), .val (.int (p1.toUInt32.toUInt16.toUInt32.toInt32)), .val (.int (p1.toUInt32.toUInt16.toUInt32.toInt32)), .val (.int (0 : Int32)), .val (.int (1 : Int32))] [(.int (own_mnh (p1.toUInt32.toUInt16.toUInt32.toInt32)))]) _
              refine XS.iconst X55.here hx rfl (hb hby at_79) ?_
              show own_S p e below T55 (mkF m 80 #[.val (.int p1), .val (.int (p1.toUInt32.toUInt16.toUInt32.toInt32)), .val (.int (p1.toUInt32.toUInt16.toUInt32.toInt32)), .val (.int (0 : Int32)), .val (.int (1 : Int32))] [(.int (1 : Int32)), (.int (own_mnh (p1.toUInt32.toUInt16.toUInt32.toInt32)))]) _
              refine XS.goto X55.here hx rfl (pc0 := 80) (pc' := 84) rfl (hb hby at_80) (by decide) (by decide) ?_
              exact kt)
            have hc84_58 : (own_mnh (p1.toUInt32.toUInt16.toUInt32.toInt32)) = (1 : Int32) := by rw [own_law (c_i2c p1).2.1 (c_i2c p1).2.2, if_pos (show own_all _ from Or.inr (Or.inr (Or.inr (Or.inr (Or.inl hc50)))))]
            have k59 : ∀ t, own_S p e below T55 (mkF m 92 #[.val (.int p1), .val (.int (p1.toUInt32.toUInt16.toUInt32.toInt32)), .val (.int (p1.toUInt32.toUInt16.toUInt32.toInt32)), .val (.int (0 : Int32)), .val (.int (1 : Int32))] [(.int (1 : Int32))]) t → Gl t := fun t kt => k57 t (by
              show own_S p e below T55 (mkF m 84 #[.val (.int p1), .val (.int (p1.toUInt32.toUInt16.toUInt32.toInt32)), .val (.int (p1.toUInt32.toUInt16.toUInt32.toInt32)), .val (.int (0 : Int32)), .val (.int (1 : Int32))] [(.int (1 : Int32)), (.int (own_mnh (p1.toUInt32.toUInt16.toUInt32.toInt32)))]) _
              refine XS.icmpNo X55.here hx rfl (hb hby at_84) rfl (teq hc84_58).2 ?_
              show own_S p e below T55 (mkF m 87 #[.val (.int p1), .val (.int (p1.toUInt32.toUInt16.toUInt32.toInt32)), .val (.int (p1.toUInt32.toUInt16.toUInt32.toInt32)), .val (.int (0 : Int32)), .val (.int (1 : Int32))] []) _
              refine XS.iconst X55.here hx rfl (hb hby at_87) ?_
              show own_S p e below T55 (mkF m 88 #[.val (.int p1), .val (.int (p1.toUInt32.toUInt16.toUInt32.toInt32)), .val (.int (p1.toUInt32.toUInt16.toUInt32.toInt32)), .val (.int (0 : Int32)), .val (.int (1 : Int32))] [(.int (1 : Int32))]) _
              refine XS.goto X55.here hx rfl (pc0 := 88) (pc' := 92) rfl (hb hby at_88) (by decide) (by decide) ?_
              exact kt)
            obtain ⟨fs, hr, hrun, hended, hW, hsame⟩ := X55.leave (v := some (.int (1 : Int32))) (fun h => by rw [Bd.returns] at h; cases h)
            refine ⟨_, _, hGl _ (k59 _ (retN X55 hx (t := .boolean) Bd.returns (by simp) (hb hby at_92) hr)), hrun, hended, _, _, rfl, ?_, ⟨_, rfl⟩, hW, hsame.mono (by decide) (by decide)⟩
            show Q0 Z p1 w10 wAny w11 h0 n0 _ T55.heap _
            rw [eq55]
            exact ⟨rfl, N55⟩
          · have k60 : ∀ t, own_S p e below T44 (mkF m 56 #[.val (.int p1), .val (.int (p1.toUInt32.toUInt16.toUInt32.toInt32)), .val (.int (p1.toUInt32.toUInt16.toUInt32.toInt32)), .val (.int (0 : Int32)), .unset] [(.int (13 : Int32)), (.int (p1.toUInt32.toUInt16.toUInt32.toInt32))]) t → Gl t := fun t kt => k53 t (by
              show own_S p e below T44 (mkF m 50 #[.val (.int p1), .val (.int (p1.toUInt32.toUInt16.toUInt32.toInt32)), .val (.int (p1.toUInt32.toUInt16.toUInt32.toInt32)), .val (.int (0 : Int32)), .unset] [(.int (10 : Int32)), (.int (p1.toUInt32.toUInt16.toUInt32.toInt32))]) _
              refine XS.icmpNo X44.here hx rfl (hb hby at_50) rfl (feq hc50).1 ?_
              show own_S p e below T44 (mkF m 53 #[.val (.int p1), .val (.int (p1.toUInt32.toUInt16.toUInt32.toInt32)), .val (.int (p1.toUInt32.toUInt16.toUInt32.toInt32)), .val (.int (0 : Int32)), .unset] []) _
              refine XS.iloadN X44.here hx rfl (hb hby at_53) rfl ?_
              show own_S p e below T44 (mkF m 54 #[.val (.int p1), .val (.int (p1.toUInt32.toUInt16.toUInt32.toInt32)), .val (.int (p1.toUInt32.toUInt16.toUInt32.toInt32)), .val (.int (0 : Int32)), .unset] [(.int (p1.toUInt32.toUInt16.toUInt32.toInt32))]) _
              refine XS.bipush X44.here hx rfl (hb hby at_54) ?_
              exact kt)
            by_cases hc56 : (p1.toUInt32.toUInt16.toUInt32.toInt32) = (13 : Int32)
            · have k61 : ∀ t, own_S p e below T44 (mkF m 67 #[.val (.int p1), .val (.int (p1.toUInt32.toUInt16.toUInt32.toInt32)), .val (.int (p1.toUInt32.toUInt16.toUInt32.toInt32)), .val (.int (0 : Int32)), .val (.int (1 : Int32))] [(.int (p1.toUInt32.toUInt16.toUInt32.toInt32))]) t → Gl t := fun t kt => k60 t (by
                show own_S p e below T44 (mkF m 56 #[.val (.int p1), .val (.int (p1.toUInt32.toUInt16.toUInt32.toInt32)), .val (.int (p1.toUInt32.toUInt16.toUInt32.toInt32)), .val (.int (0 : Int32)), .unset] [(.int (13 : Int32)), (.int (p1.toUInt32.toUInt16.toUInt32.toInt32))]) _
                refine XS.icmpNo X44.here hx rfl (hb hby at_56) rfl (teq hc56).2 ?_
                show own_S p e below T44 (mkF m 59 #[.val (.int p1), .val (.int (p1.toUInt32.toUInt16.toUInt32.toInt32)), .val (.int (p1.toUInt32.toUInt16.toUInt32.toInt32)), .val (.int (0 : Int32)), .unset] []) _
                refine XS.iconst X44.here hx rfl (hb hby at_59) ?_
                show own_S p e below T44 (mkF m 60 #[.val (.int p1), .val (.int (p1.toUInt32.toUInt16.toUInt32.toInt32)), .val (.int (p1.toUInt32.toUInt16.toUInt32.toInt32)), .val (.int (0 : Int32)), .unset] [(.int (1 : Int32))]) _
                refine XS.goto X44.here hx rfl (pc0 := 60) (pc' := 64) rfl (hb hby at_60) (by decide) (by decide) ?_
                show own_S p e below T44 (mkF m 64 #[.val (.int p1), .val (.int (p1.toUInt32.toUInt16.toUInt32.toInt32)), .val (.int (p1.toUInt32.toUInt16.toUInt32.toInt32)), .val (.int (0 : Int32)), .unset] [(.int (1 : Int32))]) _
                refine XS.istore X44.here hx rfl (hb hby at_64) rfl (l' := #[.val (.int p1), .val (.int (p1.toUInt32.toUInt16.toUInt32.toInt32)), .val (.int (p1.toUInt32.toUInt16.toUInt32.toInt32)), .val (.int (0 : Int32)), .val (.int (1 : Int32))]) rfl ?_
                show own_S p e below T44 (mkF m 66 #[.val (.int p1), .val (.int (p1.toUInt32.toUInt16.toUInt32.toInt32)), .val (.int (p1.toUInt32.toUInt16.toUInt32.toInt32)), .val (.int (0 : Int32)), .val (.int (1 : Int32))] []) _
                refine XS.iloadN X44.here hx rfl (hb hby at_66) rfl ?_
                exact kt)
              obtain ⟨_, _, ⟨T62, L62, cc62, ss62⟩, -, X62, ⟨Lc62, hQ62, l62, y62, z62⟩, st62⟩ := Jvm.LawKit.callS X44 hx (y := (⟨"com/example/rowan/rowan/xslt/EncodedWriter$Repertoire", "mayNotHold", "(C)Z"⟩ : MethodName)) hown (mvT hZ (hw _ (List.mem_of_getElem? (i := 16) rfl))) (mvT hZ (hw _ (List.mem_of_getElem? (i := 17) rfl))) (mvT hZ (hw _ (List.mem_of_getElem? (i := 1) rfl))) (mvT hZ (hw _ (List.mem_of_getElem? (i := 18) rfl))) (by decide) (backOf (W := 0) (rm3 l Z a0 hw [] (p1.toUInt32.toUInt16.toUInt32.toInt32)  h0 n0 Z0 ) hZ (hw _ (List.mem_of_getElem? (i := 18) rfl)) (hw _ (List.mem_of_getElem? (i := 1) rfl)) (by decide) (by decide)) (g := (mkF m 67 #[.val (.int p1), .val (.int (p1.toUInt32.toUInt16.toUInt32.toInt32)), .val (.int (p1.toUInt32.toUInt16.toUInt32.toInt32)), .val (.int (0 : Int32)), .val (.int (1 : Int32))] [(.int (p1.toUInt32.toUInt16.toUInt32.toInt32))])) rfl (by rw [hml]; rfl) (argsL := [(.int (p1.toUInt32.toUInt16.toUInt32.toInt32))]) (rest := []) (lenOf pd_0 rfl) rfl (by show 2 * 0 + _ ≤ _; exact Nat.le_of_eq rfl) (hb hby at_67) (fun _ _ => ⟨rfl, eq44, (by decide : 0 + 0 ≤ _), (by decide : 0 + 0 ≤ _)⟩)
              dsimp only [Pt.U, Pt.locs, Pt.cells, Pt.slots] at X62 l62 y62 z62 st62 hQ62
              subst l62 y62 z62
              obtain ⟨rfl, Nq62, eq62⟩ := hQ62
              have N62 := Fr.app N44 Nq62
              have k63 : ∀ t, own_S p e below T62 (mkF m 70 #[.val (.int p1), .val (.int (p1.toUInt32.toUInt16.toUInt32.toInt32)), .val (.int (p1.toUInt32.toUInt16.toUInt32.toInt32)), .val (.int (0 : Int32)), .val (.int (1 : Int32))] [(.int (own_mnh (p1.toUInt32.toUInt16.toUInt32.toInt32)))]) t → Gl t := fun t kt => k61 t (st62 _ kt)
              have k64 : ∀ t, own_S p e below T62 (mkF m 84 #[.val (.int p1), .val (.int (p1.toUInt32.toUInt16.toUInt32.toInt32)), .val (.int (p1.toUInt32.toUInt16.toUInt32.toInt32)), .val (.int (0 : Int32)), .val (.int (1 : Int32))] [(.int (1 : Int32)), (.int (own_mnh (p1.toUInt32.toUInt16.toUInt32.toInt32)))]) t → Gl t := fun t kt => k63 t (by
                show own_S p e below T62 (mkF m 70 #[.val (.int p1), .val (.int (p1.toUInt32.toUInt16.toUInt32.toInt32)), .val (.int (p1.toUInt32.toUInt16.toUInt32.toInt32)), .val (.int (0 : Int32)), .val (.int (1 : Int32))] [(.int (own_mnh (p1.toUInt32.toUInt16.toUInt32.toInt32)))]) _
                refine XS.iloadN X62.here hx rfl (hb hby at_70) rfl ?_
                show own_S p e below T62 (mkF m 71 #[.val (.int p1), .val (.int (p1.toUInt32.toUInt16.toUInt32.toInt32)), .val (.int (p1.toUInt32.toUInt16.toUInt32.toInt32)), .val (.int (0 : Int32)), .val (.int (1 : Int32))] [(.int (0 : Int32)), (.int (own_mnh (p1.toUInt32.toUInt16.toUInt32.toInt32)))]) _
                refine XS.ifNo X62.here hx rfl (hb hby at_71) rfl ((if0 _ _).trans (teq (by decide : (0 : Int32) = (0 : Int32))).2) ?_
                show own_S p e below T62 (mkF m 74 #[.val (.int p1), .val (.int (p1.toUInt32.toUInt16.toUInt32.toInt32)), .val (.int (p1.toUInt32.toUInt16.toUInt32.toInt32)), .val (.int (0 : Int32)), .val (.int (1 : Int32))] [(.int (own_mnh (p1.toUInt32.toUInt16.toUInt32.toInt32)))]) _
                refine XS.iload X62.here hx rfl (hb hby at_74) rfl ?_
                show own_S p e below T62 (mkF m 76 #[.val (.int p1), .val (.int (p1.toUInt32.toUInt16.toUInt32.toInt32)), .val (.int (p1.toUInt32.toUInt16.toUInt32.toInt32)), .val (.int (0 : Int32)), .val (.int (1 : Int32))] [(.int (1 : Int32)), (.int (own_mnh (p1.toUInt32.toUInt16.toUInt32.toInt32)))]) _
                refine XS.ifNo X62.here hx rfl (hb hby at_76) rfl ((if0 _ _).trans (feq (by decide : ¬ ((1 : Int32) = (0 : Int32)))).1) ?_
                show own_S p e below T62 (mkF m 79 #[.val (.int p1), .val (.int (p1.toUInt32.toUInt16.toUInt32.toInt32)), .val (.int (p1.toUInt32.toUInt16.toUInt32.toInt32)), .val (.int (0 : Int32)), .val (.int (1 : Int32))] [(.int (own_mnh (p1.toUInt32.toUInt16.toUInt32.toInt32)))]) _
                refine XS.iconst X62.here hx rfl (hb hby at_79) ?_
                show own_S p e below T62 (mkF m 80 #[.val (.int p1), .val (.int (p1.toUInt32.toUInt16.toUInt32.toInt32)), .val (.int (p1.toUInt32.toUInt16.toUInt32.toInt32)), .val (.int (0 : Int32)), .val (.int (1 : Int32))] [(.int (1 : Int32)), (.int (own_mnh (p1.toUInt32.toUInt16.toUInt32.toInt32)))]) _
                refine XS.goto X62.here hx rfl (pc0 := 80) (pc' := 84) rfl (hb hby at_80) (by decide) (by decide) ?_
                exact kt)
              have hc84_65 : (own_mnh (p1.toUInt32.toUInt16.toUInt32.toInt32)) = (1 : Int32) := by rw [own_law (c_i2c p1).2.1 (c_i2c p1).2.2, if_pos (show own_all _ from Or.inr (Or.inr (Or.inr (Or.inr (Or.inr (hc56))))))]
              have k66 : ∀ t, own_S p e below T62 (mkF m 92 #[.val (.int p1), .val (.int (p1.toUInt32.toUInt16.toUInt32.toInt32)), .val (.int (p1.toUInt32.toUInt16.toUInt32.toInt32)), .val (.int (0 : Int32)), .val (.int (1 : Int32))] [(.int (1 : Int32))]) t → Gl t := fun t kt => k64 t (by
                show own_S p e below T62 (mkF m 84 #[.val (.int p1), .val (.int (p1.toUInt32.toUInt16.toUInt32.toInt32)), .val (.int (p1.toUInt32.toUInt16.toUInt32.toInt32)), .val (.int (0 : Int32)), .val (.int (1 : Int32))] [(.int (1 : Int32)), (.int (own_mnh (p1.toUInt32.toUInt16.toUInt32.toInt32)))]) _
                refine XS.icmpNo X62.here hx rfl (hb hby at_84) rfl (teq hc84_65).2 ?_
                show own_S p e below T62 (mkF m 87 #[.val (.int p1), .val (.int (p1.toUInt32.toUInt16.toUInt32.toInt32)), .val (.int (p1.toUInt32.toUInt16.toUInt32.toInt32)), .val (.int (0 : Int32)), .val (.int (1 : Int32))] []) _
                refine XS.iconst X62.here hx rfl (hb hby at_87) ?_
                show own_S p e below T62 (mkF m 88 #[.val (.int p1), .val (.int (p1.toUInt32.toUInt16.toUInt32.toInt32)), .val (.int (p1.toUInt32.toUInt16.toUInt32.toInt32)), .val (.int (0 : Int32)), .val (.int (1 : Int32))] [(.int (1 : Int32))]) _
                refine XS.goto X62.here hx rfl (pc0 := 88) (pc' := 92) rfl (hb hby at_88) (by decide) (by decide) ?_
                exact kt)
              obtain ⟨fs, hr, hrun, hended, hW, hsame⟩ := X62.leave (v := some (.int (1 : Int32))) (fun h => by rw [Bd.returns] at h; cases h)
              refine ⟨_, _, hGl _ (k66 _ (retN X62 hx (t := .boolean) Bd.returns (by simp) (hb hby at_92) hr)), hrun, hended, _, _, rfl, ?_, ⟨_, rfl⟩, hW, hsame.mono (by decide) (by decide)⟩
              show Q0 Z p1 w10 wAny w11 h0 n0 _ T62.heap _
              rw [eq62]
              exact ⟨rfl, N62⟩
            · have k67 : ∀ t, own_S p e below T44 (mkF m 67 #[.val (.int p1), .val (.int (p1.toUInt32.toUInt16.toUInt32.toInt32)), .val (.int (p1.toUInt32.toUInt16.toUInt32.toInt32)), .val (.int (0 : Int32)), .val (.int (0 : Int32))] [(.int (p1.toUInt32.toUInt16.toUInt32.toInt32))]) t → Gl t := fun t kt => k60 t (by
                show own_S p e below T44 (mkF m 56 #[.val (.int p1), .val (.int (p1.toUInt32.toUInt16.toUInt32.toInt32)), .val (.int (p1.toUInt32.toUInt16.toUInt32.toInt32)), .val (.int (0 : Int32)), .unset] [(.int (13 : Int32)), (.int (p1.toUInt32.toUInt16.toUInt32.toInt32))]) _
                refine XS.icmpYes X44.here hx rfl (pc0 := 56) (pc' := 63) rfl (hb hby at_56) rfl (feq hc56).2 (by decide) (by decide) ?_
                show own_S p e below T44 (mkF m 63 #[.val (.int p1), .val (.int (p1.toUInt32.toUInt16.toUInt32.toInt32)), .val (.int (p1.toUInt32.toUInt16.toUInt32.toInt32)), .val (.int (0 : Int32)), .unset] []) _
                refine XS.iconst X44.here hx rfl (hb hby at_63) ?_
                show own_S p e below T44 (mkF m 64 #[.val (.int p1), .val (.int (p1.toUInt32.toUInt16.toUInt32.toInt32)), .val (.int (p1.toUInt32.toUInt16.toUInt32.toInt32)), .val (.int (0 : Int32)), .unset] [(.int (0 : Int32))]) _
                refine XS.istore X44.here hx rfl (hb hby at_64) rfl (l' := #[.val (.int p1), .val (.int (p1.toUInt32.toUInt16.toUInt32.toInt32)), .val (.int (p1.toUInt32.toUInt16.toUInt32.toInt32)), .val (.int (0 : Int32)), .val (.int (0 : Int32))]) rfl ?_
                show own_S p e below T44 (mkF m 66 #[.val (.int p1), .val (.int (p1.toUInt32.toUInt16.toUInt32.toInt32)), .val (.int (p1.toUInt32.toUInt16.toUInt32.toInt32)), .val (.int (0 : Int32)), .val (.int (0 : Int32))] []) _
                refine XS.iloadN X44.here hx rfl (hb hby at_66) rfl ?_
                exact kt)
              obtain ⟨_, _, ⟨T68, L68, cc68, ss68⟩, -, X68, ⟨Lc68, hQ68, l68, y68, z68⟩, st68⟩ := Jvm.LawKit.callS X44 hx (y := (⟨"com/example/rowan/rowan/xslt/EncodedWriter$Repertoire", "mayNotHold", "(C)Z"⟩ : MethodName)) hown (mvT hZ (hw _ (List.mem_of_getElem? (i := 16) rfl))) (mvT hZ (hw _ (List.mem_of_getElem? (i := 17) rfl))) (mvT hZ (hw _ (List.mem_of_getElem? (i := 1) rfl))) (mvT hZ (hw _ (List.mem_of_getElem? (i := 18) rfl))) (by decide) (backOf (W := 0) (rm3 l Z a0 hw [] (p1.toUInt32.toUInt16.toUInt32.toInt32)  h0 n0 Z0 ) hZ (hw _ (List.mem_of_getElem? (i := 18) rfl)) (hw _ (List.mem_of_getElem? (i := 1) rfl)) (by decide) (by decide)) (g := (mkF m 67 #[.val (.int p1), .val (.int (p1.toUInt32.toUInt16.toUInt32.toInt32)), .val (.int (p1.toUInt32.toUInt16.toUInt32.toInt32)), .val (.int (0 : Int32)), .val (.int (0 : Int32))] [(.int (p1.toUInt32.toUInt16.toUInt32.toInt32))])) rfl (by rw [hml]; rfl) (argsL := [(.int (p1.toUInt32.toUInt16.toUInt32.toInt32))]) (rest := []) (lenOf pd_0 rfl) rfl (by show 2 * 0 + _ ≤ _; exact Nat.le_of_eq rfl) (hb hby at_67) (fun _ _ => ⟨rfl, eq44, (by decide : 0 + 0 ≤ _), (by decide : 0 + 0 ≤ _)⟩)
              dsimp only [Pt.U, Pt.locs, Pt.cells, Pt.slots] at X68 l68 y68 z68 st68 hQ68
              subst l68 y68 z68
              obtain ⟨rfl, Nq68, eq68⟩ := hQ68
              have N68 := Fr.app N44 Nq68
              have k69 : ∀ t, own_S p e below T68 (mkF m 70 #[.val (.int p1), .val (.int (p1.toUInt32.toUInt16.toUInt32.toInt32)), .val (.int (p1.toUInt32.toUInt16.toUInt32.toInt32)), .val (.int (0 : Int32)), .val (.int (0 : Int32))] [(.int (own_mnh (p1.toUInt32.toUInt16.toUInt32.toInt32)))]) t → Gl t := fun t kt => k67 t (st68 _ kt)
              have k70 : ∀ t, own_S p e below T68 (mkF m 84 #[.val (.int p1), .val (.int (p1.toUInt32.toUInt16.toUInt32.toInt32)), .val (.int (p1.toUInt32.toUInt16.toUInt32.toInt32)), .val (.int (0 : Int32)), .val (.int (0 : Int32))] [(.int (0 : Int32)), (.int (own_mnh (p1.toUInt32.toUInt16.toUInt32.toInt32)))]) t → Gl t := fun t kt => k69 t (by
                show own_S p e below T68 (mkF m 70 #[.val (.int p1), .val (.int (p1.toUInt32.toUInt16.toUInt32.toInt32)), .val (.int (p1.toUInt32.toUInt16.toUInt32.toInt32)), .val (.int (0 : Int32)), .val (.int (0 : Int32))] [(.int (own_mnh (p1.toUInt32.toUInt16.toUInt32.toInt32)))]) _
                refine XS.iloadN X68.here hx rfl (hb hby at_70) rfl ?_
                show own_S p e below T68 (mkF m 71 #[.val (.int p1), .val (.int (p1.toUInt32.toUInt16.toUInt32.toInt32)), .val (.int (p1.toUInt32.toUInt16.toUInt32.toInt32)), .val (.int (0 : Int32)), .val (.int (0 : Int32))] [(.int (0 : Int32)), (.int (own_mnh (p1.toUInt32.toUInt16.toUInt32.toInt32)))]) _
                refine XS.ifNo X68.here hx rfl (hb hby at_71) rfl ((if0 _ _).trans (teq (by decide : (0 : Int32) = (0 : Int32))).2) ?_
                show own_S p e below T68 (mkF m 74 #[.val (.int p1), .val (.int (p1.toUInt32.toUInt16.toUInt32.toInt32)), .val (.int (p1.toUInt32.toUInt16.toUInt32.toInt32)), .val (.int (0 : Int32)), .val (.int (0 : Int32))] [(.int (own_mnh (p1.toUInt32.toUInt16.toUInt32.toInt32)))]) _
                refine XS.iload X68.here hx rfl (hb hby at_74) rfl ?_
                show own_S p e below T68 (mkF m 76 #[.val (.int p1), .val (.int (p1.toUInt32.toUInt16.toUInt32.toInt32)), .val (.int (p1.toUInt32.toUInt16.toUInt32.toInt32)), .val (.int (0 : Int32)), .val (.int (0 : Int32))] [(.int (0 : Int32)), (.int (own_mnh (p1.toUInt32.toUInt16.toUInt32.toInt32)))]) _
                refine XS.ifYes X68.here hx rfl (pc0 := 76) (pc' := 83) rfl (hb hby at_76) rfl ((if0 _ _).trans (teq (by decide : (0 : Int32) = (0 : Int32))).1) (by decide) (by decide) ?_
                show own_S p e below T68 (mkF m 83 #[.val (.int p1), .val (.int (p1.toUInt32.toUInt16.toUInt32.toInt32)), .val (.int (p1.toUInt32.toUInt16.toUInt32.toInt32)), .val (.int (0 : Int32)), .val (.int (0 : Int32))] [(.int (own_mnh (p1.toUInt32.toUInt16.toUInt32.toInt32)))]) _
                refine XS.iconst X68.here hx rfl (hb hby at_83) ?_
                exact kt)
              have hc84_71 : (own_mnh (p1.toUInt32.toUInt16.toUInt32.toInt32)) = (0 : Int32) := by rw [own_law (c_i2c p1).2.1 (c_i2c p1).2.2, if_neg (show ¬ own_all _ from fun q => by rcases q with q | q | q | q | q | q <;> first | exact hc12 q | exact q hc22 | exact q hc32 | exact hc44 q | exact hc50 q | exact hc56 q)]
              have k72 : ∀ t, own_S p e below T68 (mkF m 92 #[.val (.int p1), .val (.int (p1.toUInt32.toUInt16.toUInt32.toInt32)), .val (.int (p1.toUInt32.toUInt16.toUInt32.toInt32)), .val (.int (0 : Int32)), .val (.int (0 : Int32))] [(.int (1 : Int32))]) t → Gl t := fun t kt => k70 t (by
                show own_S p e below T68 (mkF m 84 #[.val (.int p1), .val (.int (p1.toUInt32.toUInt16.toUInt32.toInt32)), .val (.int (p1.toUInt32.toUInt16.toUInt32.toInt32)), .val (.int (0 : Int32)), .val (.int (0 : Int32))] [(.int (0 : Int32)), (.int (own_mnh (p1.toUInt32.toUInt16.toUInt32.toInt32)))]) _
                refine XS.icmpNo X68.here hx rfl (hb hby at_84) rfl (teq hc84_71).2 ?_
                show own_S p e below T68 (mkF m 87 #[.val (.int p1), .val (.int (p1.toUInt32.toUInt16.toUInt32.toInt32)), .val (.int (p1.toUInt32.toUInt16.toUInt32.toInt32)), .val (.int (0 : Int32)), .val (.int (0 : Int32))] []) _
                refine XS.iconst X68.here hx rfl (hb hby at_87) ?_
                show own_S p e below T68 (mkF m 88 #[.val (.int p1), .val (.int (p1.toUInt32.toUInt16.toUInt32.toInt32)), .val (.int (p1.toUInt32.toUInt16.toUInt32.toInt32)), .val (.int (0 : Int32)), .val (.int (0 : Int32))] [(.int (1 : Int32))]) _
                refine XS.goto X68.here hx rfl (pc0 := 88) (pc' := 92) rfl (hb hby at_88) (by decide) (by decide) ?_
                exact kt)
              obtain ⟨fs, hr, hrun, hended, hW, hsame⟩ := X68.leave (v := some (.int (1 : Int32))) (fun h => by rw [Bd.returns] at h; cases h)
              refine ⟨_, _, hGl _ (k72 _ (retN X68 hx (t := .boolean) Bd.returns (by simp) (hb hby at_92) hr)), hrun, hended, _, _, rfl, ?_, ⟨_, rfl⟩, hW, hsame.mono (by decide) (by decide)⟩
              show Q0 Z p1 w10 wAny w11 h0 n0 _ T68.heap _
              rw [eq68]
              exact ⟨rfl, N68⟩
      · have k73 : ∀ t, own_S p e below T44 (mkF m 44 #[.val (.int p1), .val (.int (p1.toUInt32.toUInt16.toUInt32.toInt32)), .val (.int (p1.toUInt32.toUInt16.toUInt32.toInt32)), .val (.int (1 : Int32)), .unset] [(.int (9 : Int32)), (.int (p1.toUInt32.toUInt16.toUInt32.toInt32))]) t → Gl t := fun t kt => k45 t (by
          show own_S p e below T44 (mkF m 32 #[.val (.int p1), .val (.int (p1.toUInt32.toUInt16.toUInt32.toInt32)), .val (.int (p1.toUInt32.toUInt16.toUInt32.toInt32)), .unset, .unset] [(.int (own_el (p1.toUInt32.toUInt16.toUInt32.toInt32)))]) _
          refine XS.ifNo X44.here hx rfl (hb hby at_32) rfl ((if0 _ _).trans (feq hc32).1) ?_
          show own_S p e below T44 (mkF m 35 #[.val (.int p1), .val (.int (p1.toUInt32.toUInt16.toUInt32.toInt32)), .val (.int (p1.toUInt32.toUInt16.toUInt32.toInt32)), .unset, .unset] []) _
          refine XS.iconst X44.here hx rfl (hb hby at_35) ?_
          show own_S p e below T44 (mkF m 36 #[.val (.int p1), .val (.int (p1.toUInt32.toUInt16.toUInt32.toInt32)), .val (.int (p1.toUInt32.toUInt16.toUInt32.toInt32)), .unset, .unset] [(.int (1 : Int32))]) _
          refine XS.goto X44.here hx rfl (pc0 := 36) (pc' := 40) rfl (hb hby at_36) (by decide) (by decide) ?_
          show own_S p e below T44 (mkF m 40 #[.val (.int p1), .val (.int (p1.toUInt32.toUInt16.toUInt32.toInt32)), .val (.int (p1.toUInt32.toUInt16.toUInt32.toInt32)), .unset, .unset] [(.int (1 : Int32))]) _
          refine XS.istoreN X44.here hx rfl (hb hby at_40) rfl (l' := #[.val (.int p1), .val (.int (p1.toUInt32.toUInt16.toUInt32.toInt32)), .val (.int (p1.toUInt32.toUInt16.toUInt32.toInt32)), .val (.int (1 : Int32)), .unset]) rfl ?_
          show own_S p e below T44 (mkF m 41 #[.val (.int p1), .val (.int (p1.toUInt32.toUInt16.toUInt32.toInt32)), .val (.int (p1.toUInt32.toUInt16.toUInt32.toInt32)), .val (.int (1 : Int32)), .unset] []) _
          refine XS.iloadN X44.here hx rfl (hb hby at_41) rfl ?_
          show own_S p e below T44 (mkF m 42 #[.val (.int p1), .val (.int (p1.toUInt32.toUInt16.toUInt32.toInt32)), .val (.int (p1.toUInt32.toUInt16.toUInt32.toInt32)), .val (.int (1 : Int32)), .unset] [(.int (p1.toUInt32.toUInt16.toUInt32.toInt32))]) _
          refine XS.bipush X44.here hx rfl (hb hby at_42) ?_
          exact kt)
        by_cases hc44 : (p1.toUInt32.toUInt16.toUInt32.toInt32) = (9 : Int32)
        · have k74 : ∀ t, own_S p e below T44 (mkF m 67 #[.val (.int p1), .val (.int (p1.toUInt32.toUInt16.toUInt32.toInt32)), .val (.int (p1.toUInt32.toUInt16.toUInt32.toInt32)), .val (.int (1 : Int32)), .val (.int (1 : Int32))] [(.int (p1.toUInt32.toUInt16.toUInt32.toInt32))]) t → Gl t := fun t kt => k73 t (by
            show own_S p e below T44 (mkF m 44 #[.val (.int p1), .val (.int (p1.toUInt32.toUInt16.toUInt32.toInt32)), .val (.int (p1.toUInt32.toUInt16.toUInt32.toInt32)), .val (.int (1 : Int32)), .unset] [(.int (9 : Int32)), (.int (p1.toUInt32.toUInt16.toUInt32.toInt32))]) _
            refine XS.icmpYes X44.here hx rfl (pc0 := 44) (pc' := 59) rfl (hb hby at_44) rfl (teq hc44).1 (by decide) (by decide) ?_
            show own_S p e below T44 (mkF m 59 #[.val (.int p1), .val (.int (p1.toUInt32.toUInt16.toUInt32.toInt32)), .val (.int (p1.toUInt32.toUInt16.toUInt32.toInt32)), .val (.int (1 : Int32)), .unset] []) _
            refine XS.iconst X44.here hx rfl (hb hby at_59) ?_
            show own_S p e below T44 (mkF m 60 #[.val (.int p1), .val (.int (p1.toUInt32.toUInt16.toUInt32.toInt32)), .val (.int (p1.toUInt32.toUInt16.toUInt32.toInt32)), .val (.int (1 : Int32)), .unset] [(.int (1 : Int32))]) _
            refine XS.goto X44.here hx rfl (pc0 := 60) (pc' := 64) rfl (hb hby at_60) (by decide) (by decide) ?_
            show own_S p e below T44 (mkF m 64 #[.val (.int p1), .val (.int (p1.toUInt32.toUInt16.toUInt32.toInt32)), .val (.int (p1.toUInt32.toUInt16.toUInt32.toInt32)), .val (.int (1 : Int32)), .unset] [(.int (1 : Int32))]) _
            refine XS.istore X44.here hx rfl (hb hby at_64) rfl (l' := #[.val (.int p1), .val (.int (p1.toUInt32.toUInt16.toUInt32.toInt32)), .val (.int (p1.toUInt32.toUInt16.toUInt32.toInt32)), .val (.int (1 : Int32)), .val (.int (1 : Int32))]) rfl ?_
            show own_S p e below T44 (mkF m 66 #[.val (.int p1), .val (.int (p1.toUInt32.toUInt16.toUInt32.toInt32)), .val (.int (p1.toUInt32.toUInt16.toUInt32.toInt32)), .val (.int (1 : Int32)), .val (.int (1 : Int32))] []) _
            refine XS.iloadN X44.here hx rfl (hb hby at_66) rfl ?_
            exact kt)
          obtain ⟨_, _, ⟨T75, L75, cc75, ss75⟩, -, X75, ⟨Lc75, hQ75, l75, y75, z75⟩, st75⟩ := Jvm.LawKit.callS X44 hx (y := (⟨"com/example/rowan/rowan/xslt/EncodedWriter$Repertoire", "mayNotHold", "(C)Z"⟩ : MethodName)) hown (mvT hZ (hw _ (List.mem_of_getElem? (i := 16) rfl))) (mvT hZ (hw _ (List.mem_of_getElem? (i := 17) rfl))) (mvT hZ (hw _ (List.mem_of_getElem? (i := 1) rfl))) (mvT hZ (hw _ (List.mem_of_getElem? (i := 18) rfl))) (by decide) (backOf (W := 0) (rm3 l Z a0 hw [] (p1.toUInt32.toUInt16.toUInt32.toInt32)  h0 n0 Z0 ) hZ (hw _ (List.mem_of_getElem? (i := 18) rfl)) (hw _ (List.mem_of_getElem? (i := 1) rfl)) (by decide) (by decide)) (g := (mkF m 67 #[.val (.int p1), .val (.int (p1.toUInt32.toUInt16.toUInt32.toInt32)), .val (.int (p1.toUInt32.toUInt16.toUInt32.toInt32)), .val (.int (1 : Int32)), .val (.int (1 : Int32))] [(.int (p1.toUInt32.toUInt16.toUInt32.toInt32))])) rfl (by rw [hml]; rfl) (argsL := [(.int (p1.toUInt32.toUInt16.toUInt32.toInt32))]) (rest := []) (lenOf pd_0 rfl) rfl (by show 2 * 0 + _ ≤ _; exact Nat.le_of_eq rfl) (hb hby at_67) (fun _ _ => ⟨rfl, eq44, (by decide : 0 + 0 ≤ _), (by decide : 0 + 0 ≤ _)⟩)
          dsimp only [Pt.U, Pt.locs, Pt.cells, Pt.slots] at X75 l75 y75 z75 st75 hQ75
          subst l75 y75 z75
          obtain ⟨rfl, Nq75, eq75⟩ := hQ75
          have N75 := Fr.app N44 Nq75
          have k76 : ∀ t, own_S p e below T75 (mkF m 70 #[.val (.int p1), .val (.int (p1.toUInt32.toUInt16.toUInt32.toInt32)), .val (.int (p1.toUInt32.toUInt16.toUInt32.toInt32)), .val (.int (1 : Int32)), .val (.int (1 : Int32))] [(.int (own_mnh (p1.toUInt32.toUInt16.toUInt32.toInt32)))]) t → Gl t := fun t kt => k74 t (st75 _ kt)
          have k77 : ∀ t, own_S p e below T75 (mkF m 84 #[.val (.int p1), .val (.int (p1.toUInt32.toUInt16.toUInt32.toInt32)), .val (.int (p1.toUInt32.toUInt16.toUInt32.toInt32)), .val (.int (1 : Int32)), .val (.int (1 : Int32))] [(.int (1 : Int32)), (.int (own_mnh (p1.toUInt32.toUInt16.toUInt32.toInt32)))]) t → Gl t := fun t kt => k76 t (by
            show own_S p e below T75 (mkF m 70 #[.val (.int p1), .val (.int (p1.toUInt32.toUInt16.toUInt32.toInt32)), .val (.int (p1.toUInt32.toUInt16.toUInt32.toInt32)), .val (.int (1 : Int32)), .val (.int (1 : Int32))] [(.int (own_mnh (p1.toUInt32.toUInt16.toUInt32.toInt32)))]) _
            refine XS.iloadN X75.here hx rfl (hb hby at_70) rfl ?_
            show own_S p e below T75 (mkF m 71 #[.val (.int p1), .val (.int (p1.toUInt32.toUInt16.toUInt32.toInt32)), .val (.int (p1.toUInt32.toUInt16.toUInt32.toInt32)), .val (.int (1 : Int32)), .val (.int (1 : Int32))] [(.int (1 : Int32)), (.int (own_mnh (p1.toUInt32.toUInt16.toUInt32.toInt32)))]) _
            refine XS.ifYes X75.here hx rfl (pc0 := 71) (pc' := 79) rfl (hb hby at_71) rfl ((if0 _ _).trans (feq (by decide : ¬ ((1 : Int32) = (0 : Int32)))).2) (by decide) (by decide) ?_
            show own_S p e below T75 (mkF m 79 #[.val (.int p1), .val (.int (p1.toUInt32.toUInt16.toUInt32.toInt32)), .val (.int (p1.toUInt32.toUInt16.toUInt32.toInt32)), .val (.int (1 : Int32)), .val (.int (1 : Int32))] [(.int (own_mnh (p1.toUInt32.toUInt16.toUInt32.toInt32)))]) _
            refine XS.iconst X75.here hx rfl (hb hby at_79) ?_
            show own_S p e below T75 (mkF m 80 #[.val (.int p1), .val (.int (p1.toUInt32.toUInt16.toUInt32.toInt32)), .val (.int (p1.toUInt32.toUInt16.toUInt32.toInt32)), .val (.int (1 : Int32)), .val (.int (1 : Int32))] [(.int (1 : Int32)), (.int (own_mnh (p1.toUInt32.toUInt16.toUInt32.toInt32)))]) _
            refine XS.goto X75.here hx rfl (pc0 := 80) (pc' := 84) rfl (hb hby at_80) (by decide) (by decide) ?_
            exact kt)
          have hc84_78 : (own_mnh (p1.toUInt32.toUInt16.toUInt32.toInt32)) = (1 : Int32) := by rw [own_law (c_i2c p1).2.1 (c_i2c p1).2.2, if_pos (show own_all _ from Or.inr (Or.inr (Or.inl hc32)))]
          have k79 : ∀ t, own_S p e below T75 (mkF m 92 #[.val (.int p1), .val (.int (p1.toUInt32.toUInt16.toUInt32.toInt32)), .val (.int (p1.toUInt32.toUInt16.toUInt32.toInt32)), .val (.int (1 : Int32)), .val (.int (1 : Int32))] [(.int (1 : Int32))]) t → Gl t := fun t kt => k77 t (by
            show own_S p e below T75 (mkF m 84 #[.val (.int p1), .val (.int (p1.toUInt32.toUInt16.toUInt32.toInt32)), .val (.int (p1.toUInt32.toUInt16.toUInt32.toInt32)), .val (.int (1 : Int32)), .val (.int (1 : Int32))] [(.int (1 : Int32)), (.int (own_mnh (p1.toUInt32.toUInt16.toUInt32.toInt32)))]) _
            refine XS.icmpNo X75.here hx rfl (hb hby at_84) rfl (teq hc84_78).2 ?_
            show own_S p e below T75 (mkF m 87 #[.val (.int p1), .val (.int (p1.toUInt32.toUInt16.toUInt32.toInt32)), .val (.int (p1.toUInt32.toUInt16.toUInt32.toInt32)), .val (.int (1 : Int32)), .val (.int (1 : Int32))] []) _
            refine XS.iconst X75.here hx rfl (hb hby at_87) ?_
            show own_S p e below T75 (mkF m 88 #[.val (.int p1), .val (.int (p1.toUInt32.toUInt16.toUInt32.toInt32)), .val (.int (p1.toUInt32.toUInt16.toUInt32.toInt32)), .val (.int (1 : Int32)), .val (.int (1 : Int32))] [(.int (1 : Int32))]) _
            refine XS.goto X75.here hx rfl (pc0 := 88) (pc' := 92) rfl (hb hby at_88) (by decide) (by decide) ?_
            exact kt)
          obtain ⟨fs, hr, hrun, hended, hW, hsame⟩ := X75.leave (v := some (.int (1 : Int32))) (fun h => by rw [Bd.returns] at h; cases h)
          refine ⟨_, _, hGl _ (k79 _ (retN X75 hx (t := .boolean) Bd.returns (by simp) (hb hby at_92) hr)), hrun, hended, _, _, rfl, ?_, ⟨_, rfl⟩, hW, hsame.mono (by decide) (by decide)⟩
          show Q0 Z p1 w10 wAny w11 h0 n0 _ T75.heap _
          rw [eq75]
          exact ⟨rfl, N75⟩
        · have k80 : ∀ t, own_S p e below T44 (mkF m 50 #[.val (.int p1), .val (.int (p1.toUInt32.toUInt16.toUInt32.toInt32)), .val (.int (p1.toUInt32.toUInt16.toUInt32.toInt32)), .val (.int (1 : Int32)), .unset] [(.int (10 : Int32)), (.int (p1.toUInt32.toUInt16.toUInt32.toInt32))]) t → Gl t := fun t kt => k73 t (by
            show own_S p e below T44 (mkF m 44 #[.val (.int p1), .val (.int (p1.toUInt32.toUInt16.toUInt32.toInt32)), .val (.int (p1.toUInt32.toUInt16.toUInt32.toInt32)), .val (.int (1 : Int32)), .unset] [(.int (9 : Int32)), (.int (p1.toUInt32.toUInt16.toUInt32.toInt32))]) _
            refine XS.icmpNo X44.here hx rfl (hb hby at_44) rfl (feq hc44).1 ?_
            show own_S p e below T44 (mkF m 47 #[.val (.int p1), .val (.int (p1.toUInt32.toUInt16.toUInt32.toInt32)), .val (.int (p1.toUInt32.toUInt16.toUInt32.toInt32)), .val (.int (1 : Int32)), .unset] []) _
            refine XS.iloadN X44.here hx rfl (hb hby at_47) rfl ?_
            show own_S p e below T44 (mkF m 48 #[.val (.int p1), .val (.int (p1.toUInt32.toUInt16.toUInt32.toInt32)), .val (.int (p1.toUInt32.toUInt16.toUInt32.toInt32)), .val (.int (1 : Int32)), .unset] [(.int (p1.toUInt32.toUInt16.toUInt32.toInt32))]) _
            refine XS.bipush X44.here hx rfl (hb hby at_48) ?_
            exact kt)
          by_cases hc50 : (p1.toUInt32.toUInt16.toUInt32.toInt32) = (10 : Int32)
          · have k81 : ∀ t, own_S p e below T44 (mkF m 67 #[.val (.int p1), .val (.int (p1.toUInt32.toUInt16.toUInt32.toInt32)), .val (.int (p1.toUInt32.toUInt16.toUInt32.toInt32)), .val (.int (1 : Int32)), .val (.int (1 : Int32))] [(.int (p1.toUInt32.toUInt16.toUInt32.toInt32))]) t → Gl t := fun t kt => k80 t (by
              show own_S p e below T44 (mkF m 50 #[.val (.int p1), .val (.int (p1.toUInt32.toUInt16.toUInt32.toInt32)), .val (.int (p1.toUInt32.toUInt16.toUInt32.toInt32)), .val (.int (1 : Int32)), .unset] [(.int (10 : Int32)), (.int (p1.toUInt32.toUInt16.toUInt32.toInt32))]) _
              refine XS.icmpYes X44.here hx rfl (pc0 := 50) (pc' := 59) rfl (hb hby at_50) rfl (teq hc50).1 (by decide) (by decide) ?_
              show own_S p e below T44 (mkF m 59 #[.val (.int p1), .val (.int (p1.toUInt32.toUInt16.toUInt32.toInt32)), .val (.int (p1.toUInt32.toUInt16.toUInt32.toInt32)), .val (.int (1 : Int32)), .unset] []) _
              refine XS.iconst X44.here hx rfl (hb hby at_59) ?_
              show own_S p e below T44 (mkF m 60 #[.val (.int p1), .val (.int (p1.toUInt32.toUInt16.toUInt32.toInt32)), .val (.int (p1.toUInt32.toUInt16.toUInt32.toInt32)), .val (.int (1 : Int32)), .unset] [(.int (1 : Int32))]) _
              refine XS.goto X44.here hx rfl (pc0 := 60) (pc' := 64) rfl (hb hby at_60) (by decide) (by decide) ?_
              show own_S p e below T44 (mkF m 64 #[.val (.int p1), .val (.int (p1.toUInt32.toUInt16.toUInt32.toInt32)), .val (.int (p1.toUInt32.toUInt16.toUInt32.toInt32)), .val (.int (1 : Int32)), .unset] [(.int (1 : Int32))]) _
              refine XS.istore X44.here hx rfl (hb hby at_64) rfl (l' := #[.val (.int p1), .val (.int (p1.toUInt32.toUInt16.toUInt32.toInt32)), .val (.int (p1.toUInt32.toUInt16.toUInt32.toInt32)), .val (.int (1 : Int32)), .val (.int (1 : Int32))]) rfl ?_
              show own_S p e below T44 (mkF m 66 #[.val (.int p1), .val (.int (p1.toUInt32.toUInt16.toUInt32.toInt32)), .val (.int (p1.toUInt32.toUInt16.toUInt32.toInt32)), .val (.int (1 : Int32)), .val (.int (1 : Int32))] []) _
              refine XS.iloadN X44.here hx rfl (hb hby at_66) rfl ?_
              exact kt)
            obtain ⟨_, _, ⟨T82, L82, cc82, ss82⟩, -, X82, ⟨Lc82, hQ82, l82, y82, z82⟩, st82⟩ := Jvm.LawKit.callS X44 hx (y := (⟨"com/example/rowan/rowan/xslt/EncodedWriter$Repertoire", "mayNotHold", "(C)Z"⟩ : MethodName)) hown (mvT hZ (hw _ (List.mem_of_getElem? (i := 16) rfl))) (mvT hZ (hw _ (List.mem_of_getElem? (i := 17) rfl))) (mvT hZ (hw _ (List.mem_of_getElem? (i := 1) rfl))) (mvT hZ (hw _ (List.mem_of_getElem? (i := 18) rfl))) (by decide) (backOf (W := 0) (rm3 l Z a0 hw [] (p1.toUInt32.toUInt16.toUInt32.toInt32)  h0 n0 Z0 ) hZ (hw _ (List.mem_of_getElem? (i := 18) rfl)) (hw _ (List.mem_of_getElem? (i := 1) rfl)) (by decide) (by decide)) (g := (mkF m 67 #[.val (.int p1), .val (.int (p1.toUInt32.toUInt16.toUInt32.toInt32)), .val (.int (p1.toUInt32.toUInt16.toUInt32.toInt32)), .val (.int (1 : Int32)), .val (.int (1 : Int32))] [(.int (p1.toUInt32.toUInt16.toUInt32.toInt32))])) rfl (by rw [hml]; rfl) (argsL := [(.int (p1.toUInt32.toUInt16.toUInt32.toInt32))]) (rest := []) (lenOf pd_0 rfl) rfl (by show 2 * 0 + _ ≤ _; exact Nat.le_of_eq rfl) (hb hby at_67) (fun _ _ => ⟨rfl, eq44, (by decide : 0 + 0 ≤ _), (by decide : 0 + 0 ≤ _)⟩)
            dsimp only [Pt.U, Pt.locs, Pt.cells, Pt.slots] at X82 l82 y82 z82 st82 hQ82
            subst l82 y82 z82
            obtain ⟨rfl, Nq82, eq82⟩ := hQ82
            have N82 := Fr.app N44 Nq82
            have k83 : ∀ t, own_S p e below T82 (mkF m 70 #[.val (.int p1), .val (.int (p1.toUInt32.toUInt16.toUInt32.toInt32)), .val (.int (p1.toUInt32.toUInt16.toUInt32.toInt32)), .val (.int (1 : Int32)), .val (.int (1 : Int32))] [(.int (own_mnh (p1.toUInt32.toUInt16.toUInt32.toInt32)))]) t → Gl t := fun t kt => k81 t (st82 _ kt)
            have k84 : ∀ t, own_S p e below T82 (mkF m 84 #[.val (.int p1), .val (.int (p1.toUInt32.toUInt16.toUInt32.toInt32)), .val (.int (p1.toUInt32.toUInt16.toUInt32.toInt32)), .val (.int (1 : Int32)), .val (.int (1 : Int32))] [(.int (1 : Int32)), (.int (own_mnh (p1.toUInt32.toUInt16.toUInt32.toInt32)))]) t → Gl t := fun t kt => k83 t (by
              show own_S p e below T82 (mkF m 70 #[.val (.int p1), .val (.int (p1.toUInt32.toUInt16.toUInt32.toInt32)), .val (.int (p1.toUInt32.toUInt16.toUInt32.toInt32)), .val (.int (1 : Int32)), .val (.int (1 : Int32))] [(.int (own_mnh (p1.toUInt32.toUInt16.toUInt32.toInt32)))]) _
              refine XS.iloadN X82.here hx rfl (hb hby at_70) rfl ?_
              show own_S p e below T82 (mkF m 71 #[.val (.int p1), .val (.int (p1.toUInt32.toUInt16.toUInt32.toInt32)), .val (.int (p1.toUInt32.toUInt16.toUInt32.toInt32)), .val (.int (1 : Int32)), .val (.int (1 : Int32))] [(.int (1 : Int32)), (.int (own_mnh (p1.toUInt32.toUInt16.toUInt32.toInt32)))]) _
              refine XS.ifYes X82.here hx rfl (pc0 := 71) (pc' := 79) rfl (hb hby at_71) rfl ((if0 _ _).trans (feq (by decide : ¬ ((1 : Int32) = (0 : Int32)))).2) (by decide) (by decide) ?_
              show own_S p e below T82 (mkF m 79 #[.val (.int p1), .val (.int (p1.toUInt32.toUInt16.toUInt32.toInt32)), .val (.int (p1.toUInt32.toUInt16.toUInt32.toInt32)), .val (.int (1 : Int32)), .val (.int (1 : Int32))] [(.int (own_mnh (p1.toUInt32.toUInt16.toUInt32.toInt32)))]) _
              refine XS.iconst X82.here hx rfl (hb hby at_79) ?_
              show own_S p e below T82 (mkF m 80 #[.val (.int p1), .val (.int (p1.toUInt32.toUInt16.toUInt32.toInt32)), .val (.int (p1.toUInt32.toUInt16.toUInt32.toInt32)), .val (.int (1 : Int32)), .val (.int (1 : Int32))] [(.int (1 : Int32)), (.int (own_mnh (p1.toUInt32.toUInt16.toUInt32.toInt32)))]) _
              refine XS.goto X82.here hx rfl (pc0 := 80) (pc' := 84) rfl (hb hby at_80) (by decide) (by decide) ?_
              exact kt)
            have hc84_85 : (own_mnh (p1.toUInt32.toUInt16.toUInt32.toInt32)) = (1 : Int32) := by rw [own_law (c_i2c p1).2.1 (c_i2c p1).2.2, if_pos (show own_all _ from Or.inr (Or.inr (Or.inl hc32)))]
            have k86 : ∀ t, own_S p e below T82 (mkF m 92 #[.val (.int p1), .val (.int (p1.toUInt32.toUInt16.toUInt32.toInt32)), .val (.int (p1.toUInt32.toUInt16.toUInt32.toInt32)), .val (.int (1 : Int32)), .val (.int (1 : Int32))] [(.int (1 : Int32))]) t → Gl t := fun t kt => k84 t (by
              show own_S p e below T82 (mkF m 84 #[.val (.int p1), .val (.int (p1.toUInt32.toUInt16.toUInt32.toInt32)), .val (.int (p1.toUInt32.toUInt16.toUInt32.toInt32)), .val (.int (1 : Int32)), .val (.int (1 : Int32))] [(.int (1 : Int32)), (.int (own_mnh (p1.toUInt32.toUInt16.toUInt32.toInt32)))]) _
              refine XS.icmpNo X82.here hx rfl (hb hby at_84) rfl (teq hc84_85).2 ?_
              show own_S p e below T82 (mkF m 87 #[.val (.int p1), .val (.int (p1.toUInt32.toUInt16.toUInt32.toInt32)), .val (.int (p1.toUInt32.toUInt16.toUInt32.toInt32)), .val (.int (1 : Int32)), .val (.int (1 : Int32))] []) _
              refine XS.iconst X82.here hx rfl (hb hby at_87) ?_
              show own_S p e below T82 (mkF m 88 #[.val (.int p1), .val (.int (p1.toUInt32.toUInt16.toUInt32.toInt32)), .val (.int (p1.toUInt32.toUInt16.toUInt32.toInt32)), .val (.int (1 : Int32)), .val (.int (1 : Int32))] [(.int (1 : Int32))]) _
              refine XS.goto X82.here hx rfl (pc0 := 88) (pc' := 92) rfl (hb hby at_88) (by decide) (by decide) ?_
              exact kt)
            obtain ⟨fs, hr, hrun, hended, hW, hsame⟩ := X82.leave (v := some (.int (1 : Int32))) (fun h => by rw [Bd.returns] at h; cases h)
            refine ⟨_, _, hGl _ (k86 _ (retN X82 hx (t := .boolean) Bd.returns (by simp) (hb hby at_92) hr)), hrun, hended, _, _, rfl, ?_, ⟨_, rfl⟩, hW, hsame.mono (by decide) (by decide)⟩
            show Q0 Z p1 w10 wAny w11 h0 n0 _ T82.heap _
            rw [eq82]
            exact ⟨rfl, N82⟩
          · have k87 : ∀ t, own_S p e below T44 (mkF m 56 #[.val (.int p1), .val (.int (p1.toUInt32.toUInt16.toUInt32.toInt32)), .val (.int (p1.toUInt32.toUInt16.toUInt32.toInt32)), .val (.int (1 : Int32)), .unset] [(.int (13 : Int32)), (.int (p1.toUInt32.toUInt16.toUInt32.toInt32))]) t → Gl t := fun t kt => k80 t (by
              show own_S p e below T44 (mkF m 50 #[.val (.int p1), .val (.int (p1.toUInt32.toUInt16.toUInt32.toInt32)), .val (.int (p1.toUInt32.toUInt16.toUInt32.toInt32)), .val (.int (1 : Int32)), .unset] [(.int (10 : Int32)), (.int (p1.toUInt32.toUInt16.toUInt32.toInt32))]) _
              refine XS.icmpNo X44.here hx rfl (hb hby at_50) rfl (feq hc50).1 ?_
              show own_S p e below T44 (mkF m 53 #[.val (.int p1), .val (.int (p1.toUInt32.toUInt16.toUInt32.toInt32)), .val (.int (p1.toUInt32.toUInt16.toUInt32.toInt32)), .val (.int (1 : Int32)), .unset] []) _
              refine XS.iloadN X44.here hx rfl (hb hby at_53) rfl ?_
              show own_S p e below T44 (mkF m 54 #[.val (.int p1), .val (.int (p1.toUInt32.toUInt16.toUInt32.toInt32)), .val (.int (p1.toUInt32.toUInt16.toUInt32.toInt32)), .val (.int (1 : Int32)), .unset] [(.int (p1.toUInt32.toUInt16.toUInt32.toInt32))]) _
              refine XS.bipush X44.here hx rfl (hb hby at_54) ?_
              exact kt)
            by_cases hc56 : (p1.toUInt32.toUInt16.toUInt32.toInt32) = (13 : Int32)
            · have k88 : ∀ t, own_S p e below T44 (mkF m 67 #[.val (.int p1), .val (.int (p1.toUInt32.toUInt16.toUInt32.toInt32)), .val (.int (p1.toUInt32.toUInt16.toUInt32.toInt32)), .val (.int (1 : Int32)), .val (.int (1 : Int32))] [(.int (p1.toUInt32.toUInt16.toUInt32.toInt32))]) t → Gl t := fun t kt => k87 t (by
                show own_S p e below T44 (mkF m 56 #[.val (.int p1), .val (.int (p1.toUInt32.toUInt16.toUInt32.toInt32)), .val (.int (p1.toUInt32.toUInt16.toUInt32.toInt32)), .val (.int (1 : Int32)), .unset] [(.int (13 : Int32)), (.int (p1.toUInt32.toUInt16.toUInt32.toInt32))]) _
                refine XS.icmpNo X44.here hx rfl (hb hby at_56) rfl (teq hc56).2 ?_
                show own_S p e below T44 (mkF m 59 #[.val (.int p1), .val (.int (p1.toUInt32.toUInt16.toUInt32.toInt32)), .val (.int (p1.toUInt32.toUInt16.toUInt32.toInt32)), .val (.int (1 : Int32)), .unset] []) _
                refine XS.iconst X44.here hx rfl (hb hby at_59) ?_
                show own_S p e below T44 (mkF m 60 #[.val (.int p1), .val (.int (p1.toUInt32.toUInt16.toUInt32.toInt32)), .val (.int (p1.toUInt32.toUInt16.toUInt32.toInt32)), .val (.int (1 : Int32)), .unset] [(.int (1 : Int32))]) _
                refine XS.goto X44.here hx rfl (pc0 := 60) (pc' := 64) rfl (hb hby at_60) (by decide) (by decide) ?_
                show own_S p e below T44 (mkF m 64 #[.val (.int p1), .val (.int (p1.toUInt32.toUInt16.toUInt32.toInt32)), .val (.int (p1.toUInt32.toUInt16.toUInt32.toInt32)), .val (.int (1 : Int32)), .unset] [(.int (1 : Int32))]) _
                refine XS.istore X44.here hx rfl (hb hby at_64) rfl (l' := #[.val (.int p1), .val (.int (p1.toUInt32.toUInt16.toUInt32.toInt32)), .val (.int (p1.toUInt32.toUInt16.toUInt32.toInt32)), .val (.int (1 : Int32)), .val (.int (1 : Int32))]) rfl ?_
                show own_S p e below T44 (mkF m 66 #[.val (.int p1), .val (.int (p1.toUInt32.toUInt16.toUInt32.toInt32)), .val (.int (p1.toUInt32.toUInt16.toUInt32.toInt32)), .val (.int (1 : Int32)), .val (.int (1 : Int32))] []) _
                refine XS.iloadN X44.here hx rfl (hb hby at_66) rfl ?_
                exact kt)
              obtain ⟨_, _, ⟨T89, L89, cc89, ss89⟩, -, X89, ⟨Lc89, hQ89, l89, y89, z89⟩, st89⟩ := Jvm.LawKit.callS X44 hx (y := (⟨"com/example/rowan/rowan/xslt/EncodedWriter$Repertoire", "mayNotHold", "(C)Z"⟩ : MethodName)) hown (mvT hZ (hw _ (List.mem_of_getElem? (i := 16) rfl))) (mvT hZ (hw _ (List.mem_of_getElem? (i := 17) rfl))) (mvT hZ (hw _ (List.mem_of_getElem? (i := 1) rfl))) (mvT hZ (hw _ (List.mem_of_getElem? (i := 18) rfl))) (by decide) (backOf (W := 0) (rm3 l Z a0 hw [] (p1.toUInt32.toUInt16.toUInt32.toInt32)  h0 n0 Z0 ) hZ (hw _ (List.mem_of_getElem? (i := 18) rfl)) (hw _ (List.mem_of_getElem? (i := 1) rfl)) (by decide) (by decide)) (g := (mkF m 67 #[.val (.int p1), .val (.int (p1.toUInt32.toUInt16.toUInt32.toInt32)), .val (.int (p1.toUInt32.toUInt16.toUInt32.toInt32)), .val (.int (1 : Int32)), .val (.int (1 : Int32))] [(.int (p1.toUInt32.toUInt16.toUInt32.toInt32))])) rfl (by rw [hml]; rfl) (argsL := [(.int (p1.toUInt32.toUInt16.toUInt32.toInt32))]) (rest := []) (lenOf pd_0 rfl) rfl (by show 2 * 0 + _ ≤ _; exact Nat.le_of_eq rfl) (hb hby at_67) (fun _ _ => ⟨rfl, eq44, (by decide : 0 + 0 ≤ _), (by decide : 0 + 0 ≤ _)⟩)
              dsimp only [Pt.U, Pt.locs, Pt.cells, Pt.slots] at X89 l89 y89 z89 st89 hQ89
              subst l89 y89 z89
              obtain ⟨rfl, Nq89, eq89⟩ := hQ89
              have N89 := Fr.app N44 Nq89
              have k90 : ∀ t, own_S p e below T89 (mkF m 70 #[.val (.int p1), .val (.int (p1.toUInt32.toUInt16.toUInt32.toInt32)), .val (.int (p1.toUInt32.toUInt16.toUInt32.toInt32)), .val (.int (1 : Int32)), .val (.int (1 : Int32))] [(.int (own_mnh (p1.toUInt32.toUInt16.toUInt32.toInt32)))]) t → Gl t := fun t kt => k88 t (st89 _ kt)
              have k91 : ∀ t, own_S p e below T89 (mkF m 84 #[.val (.int p1), .val (.int (p1.toUInt32.toUInt16.toUInt32.toInt32)), .val (.int (p1.toUInt32.toUInt16.toUInt32.toInt32)), .val (.int (1 : Int32)), .val (.int (1 : Int32))] [(.int (1 : Int32)), (.int (own_mnh (p1.toUInt32.toUInt16.toUInt32.toInt32)))]) t → Gl t := fun t kt => k90 t (by
                show own_S p e below T89 (mkF m 70 #[.val (.int p1), .val (.int (p1.toUInt32.toUInt16.toUInt32.toInt32)), .val (.int (p1.toUInt32.toUInt16.toUInt32.toInt32)), .val (.int (1 : Int32)), .val (.int (1 : Int32))] [(.int (own_mnh (p1.toUInt32.toUInt16.toUInt32.toInt32)))]) _
                refine XS.iloadN X89.here hx rfl (hb hby at_70) rfl ?_
                show own_S p e below T89 (mkF m 71 #[.val (.int p1), .val (.int (p1.toUInt32.toUInt16.toUInt32.toInt32)), .val (.int (p1.toUInt32.toUInt16.toUInt32.toInt32)), .val (.int (1 : Int32)), .val (.int (1 : Int32))] [(.int (1 : Int32)), (.int (own_mnh (p1.toUInt32.toUInt16.toUInt32.toInt32)))]) _
                refine XS.ifYes X89.here hx rfl (pc0 := 71) (pc' := 79) rfl (hb hby at_71) rfl ((if0 _ _).trans (feq (by decide : ¬ ((1 : Int32) = (0 : Int32)))).2) (by decide) (by decide) ?_
                show own_S p e below T89 (mkF m 79 #[.val (.int p1), .val (.int (p1.toUInt32.toUInt16.toUInt32.toInt32)), .val (.int (p1.toUInt32.toUInt16.toUInt32.toInt32)), .val (.int (1 : Int32)), .val (.int (1 : Int32))] [(.int (own_mnh (p1.toUInt32.toUInt16.toUInt32.toInt32)))]) _
                refine XS.iconst X89.here hx rfl (hb hby at_79) ?_
                show own_S p e below T89 (mkF m 80 #[.val (.int p1), .val (.int (p1.toUInt32.toUInt16.toUInt32.toInt32)), .val (.int (p1.toUInt32.toUInt16.toUInt32.toInt32)), .val (.int (1 : Int32)), .val (.int (1 : Int32))] [(.int (1 : Int32)), (.int (own_mnh (p1.toUInt32.toUInt16.toUInt32.toInt32)))]) _
                refine XS.goto X89.here hx rfl (pc0 := 80) (pc' := 84) rfl (hb hby at_80) (by decide) (by decide) ?_
                exact kt)
              have hc84_92 : (own_mnh (p1.toUInt32.toUInt16.toUInt32.toInt32)) = (1 : Int32) := by rw [own_law (c_i2c p1).2.1 (c_i2c p1).2.2, if_pos (show own_all _ from Or.inr (Or.inr (Or.inl hc32)))]
              have k93 : ∀ t, own_S p e below T89 (mkF m 92 #[.val (.int p1), .val (.int (p1.toUInt32.toUInt16.toUInt32.toInt32)), .val (.int (p1.toUInt32.toUInt16.toUInt32.toInt32)), .val (.int (1 : Int32)), .val (.int (1 : Int32))] [(.int (1 : Int32))]) t → Gl t := fun t kt => k91 t (by
                show own_S p e below T89 (mkF m 84 #[.val (.int p1), .val (.int (p1.toUInt32.toUInt16.toUInt32.toInt32)), .val (.int (p1.toUInt32.toUInt16.toUInt32.toInt32)), .val (.int (1 : Int32)), .val (.int (1 : Int32))] [(.int (1 : Int32)), (.int (own_mnh (p1.toUInt32.toUInt16.toUInt32.toInt32)))]) _
                refine XS.icmpNo X89.here hx rfl (hb hby at_84) rfl (teq hc84_92).2 ?_
                show own_S p e below T89 (mkF m 87 #[.val (.int p1), .val (.int (p1.toUInt32.toUInt16.toUInt32.toInt32)), .val (.int (p1.toUInt32.toUInt16.toUInt32.toInt32)), .val (.int (1 : Int32)), .val (.int (1 : Int32))] []) _
                refine XS.iconst X89.here hx rfl (hb hby at_87) ?_
                show own_S p e below T89 (mkF m 88 #[.val (.int p1), .val (.int (p1.toUInt32.toUInt16.toUInt32.toInt32)), .val (.int (p1.toUInt32.toUInt16.toUInt32.toInt32)), .val (.int (1 : Int32)), .val (.int (1 : Int32))] [(.int (1 : Int32))]) _
                refine XS.goto X89.here hx rfl (pc0 := 88) (pc' := 92) rfl (hb hby at_88) (by decide) (by decide) ?_
                exact kt)
              obtain ⟨fs, hr, hrun, hended, hW, hsame⟩ := X89.leave (v := some (.int (1 : Int32))) (fun h => by rw [Bd.returns] at h; cases h)
              refine ⟨_, _, hGl _ (k93 _ (retN X89 hx (t := .boolean) Bd.returns (by simp) (hb hby at_92) hr)), hrun, hended, _, _, rfl, ?_, ⟨_, rfl⟩, hW, hsame.mono (by decide) (by decide)⟩
              show Q0 Z p1 w10 wAny w11 h0 n0 _ T89.heap _
              rw [eq89]
              exact ⟨rfl, N89⟩
            · have k94 : ∀ t, own_S p e below T44 (mkF m 67 #[.val (.int p1), .val (.int (p1.toUInt32.toUInt16.toUInt32.toInt32)), .val (.int (p1.toUInt32.toUInt16.toUInt32.toInt32)), .val (.int (1 : Int32)), .val (.int (0 : Int32))] [(.int (p1.toUInt32.toUInt16.toUInt32.toInt32))]) t → Gl t := fun t kt => k87 t (by
                show own_S p e below T44 (mkF m 56 #[.val (.int p1), .val (.int (p1.toUInt32.toUInt16.toUInt32.toInt32)), .val (.int (p1.toUInt32.toUInt16.toUInt32.toInt32)), .val (.int (1 : Int32)), .unset] [(.int (13 : Int32)), (.int (p1.toUInt32.toUInt16.toUInt32.toInt32))]) _
                refine XS.icmpYes X44.here hx rfl (pc0 := 56) (pc' := 63) rfl (hb hby at_56) rfl (feq hc56).2 (by decide) (by decide) ?_
                show own_S p e below T44 (mkF m 63 #[.val (.int p1), .val (.int (p1.toUInt32.toUInt16.toUInt32.toInt32)), .val (.int (p1.toUInt32.toUInt16.toUInt32.toInt32)), .val (.int (1 : Int32)), .unset] []) _
                refine XS.iconst X44.here hx rfl (hb hby at_63) ?_
                show own_S p e below T44 (mkF m 64 #[.val (.int p1), .val (.int (p1.toUInt32.toUInt16.toUInt32.toInt32)), .val (.int (p1.toUInt32.toUInt16.toUInt32.toInt32)), .val (.int (1 : Int32)), .unset] [(.int (0 : Int32))]) _
                refine XS.istore X44.here hx rfl (hb hby at_64) rfl (l' := #[.val (.int p1), .val (.int (p1.toUInt32.toUInt16.toUInt32.toInt32)), .val (.int (p1.toUInt32.toUInt16.toUInt32.toInt32)), .val (.int (1 : Int32)), .val (.int (0 : Int32))]) rfl ?_
                show own_S p e below T44 (mkF m 66 #[.val (.int p1), .val (.int (p1.toUInt32.toUInt16.toUInt32.toInt32)), .val (.int (p1.toUInt32.toUInt16.toUInt32.toInt32)), .val (.int (1 : Int32)), .val (.int (0 : Int32))] []) _
                refine XS.iloadN X44.here hx rfl (hb hby at_66) rfl ?_
                exact kt)
              obtain ⟨_, _, ⟨T95, L95, cc95, ss95⟩, -, X95, ⟨Lc95, hQ95, l95, y95, z95⟩, st95⟩ := Jvm.LawKit.callS X44 hx (y := (⟨"com/example/rowan/rowan/xslt/EncodedWriter$Repertoire", "mayNotHold", "(C)Z"⟩ : MethodName)) hown (mvT hZ (hw _ (List.mem_of_getElem? (i := 16) rfl))) (mvT hZ (hw _ (List.mem_of_getElem? (i := 17) rfl))) (mvT hZ (hw _ (List.mem_of_getElem? (i := 1) rfl))) (mvT hZ (hw _ (List.mem_of_getElem? (i := 18) rfl))) (by decide) (backOf (W := 0) (rm3 l Z a0 hw [] (p1.toUInt32.toUInt16.toUInt32.toInt32)  h0 n0 Z0 ) hZ (hw _ (List.mem_of_getElem? (i := 18) rfl)) (hw _ (List.mem_of_getElem? (i := 1) rfl)) (by decide) (by decide)) (g := (mkF m 67 #[.val (.int p1), .val (.int (p1.toUInt32.toUInt16.toUInt32.toInt32)), .val (.int (p1.toUInt32.toUInt16.toUInt32.toInt32)), .val (.int (1 : Int32)), .val (.int (0 : Int32))] [(.int (p1.toUInt32.toUInt16.toUInt32.toInt32))])) rfl (by rw [hml]; rfl) (argsL := [(.int (p1.toUInt32.toUInt16.toUInt32.toInt32))]) (rest := []) (lenOf pd_0 rfl) rfl (by show 2 * 0 + _ ≤ _; exact Nat.le_of_eq rfl) (hb hby at_67) (fun _ _ => ⟨rfl, eq44, (by decide : 0 + 0 ≤ _), (by decide : 0 + 0 ≤ _)⟩)
              dsimp only [Pt.U, Pt.locs, Pt.cells, Pt.slots] at X95 l95 y95 z95 st95 hQ95
              subst l95 y95 z95
              obtain ⟨rfl, Nq95, eq95⟩ := hQ95
              have N95 := Fr.app N44 Nq95
              have k96 : ∀ t, own_S p e below T95 (mkF m 70 #[.val (.int p1), .val (.int (p1.toUInt32.toUInt16.toUInt32.toInt32)), .val (.int (p1.toUInt32.toUInt16.toUInt32.toInt32)), .val (.int (1 : Int32)), .val (.int (0 : Int32))] [(.int (own_mnh (p1.toUInt32.toUInt16.toUInt32.toInt32)))]) t → Gl t := fun t kt => k94 t (st95 _ kt)
              have k97 : ∀ t, own_S p e below T95 (mkF m 84 #[.val (.int p1), .val (.int (p1.toUInt32.toUInt16.toUInt32.toInt32)), .val (.int (p1.toUInt32.toUInt16.toUInt32.toInt32)), .val (.int (1 : Int32)), .val (.int (0 : Int32))] [(.int (1 : Int32)), (.int (own_mnh (p1.toUInt32.toUInt16.toUInt32.toInt32)))]) t → Gl t := fun t kt => k96 t (by
                show own_S p e below T95 (mkF m 70 #[.val (.int p1), .val (.int (p1.toUInt32.toUInt16.toUInt32.toInt32)), .val (.int (p1.toUInt32.toUInt16.toUInt32.toInt32)), .val (.int (1 : Int32)), .val (.int (0 : Int32))] [(.int (own_mnh (p1.toUInt32.toUInt16.toUInt32.toInt32)))]) _
                refine XS.iloadN X95.here hx rfl (hb hby at_70) rfl ?_
                show own_S p e below T95 (mkF m 71 #[.val (.int p1), .val (.int (p1.toUInt32.toUInt16.toUInt32.toInt32)), .val (.int (p1.toUInt32.toUInt16.toUInt32.toInt32)), .val (.int (1 : Int32)), .val (.int (0 : Int32))] [(.int (1 : Int32)), (.int (own_mnh (p1.toUInt32.toUInt16.toUInt32.toInt32)))]) _
                refine XS.ifYes X95.here hx rfl (pc0 := 71) (pc' := 79) rfl (hb hby at_71) rfl ((if0 _ _).trans (feq (by decide : ¬ ((1 : Int32) = (0 : Int32)))).2) (by decide) (by decide) ?_
                show own_S p e below T95 (mkF m 79 #[.val (.int p1), .val (.int (p1.toUInt32.toUInt16.toUInt32.toInt32)), .val (.int (p1.toUInt32.toUInt16.toUInt32.toInt32)), .val (.int (1 : Int32)), .val (.int (0 : Int32))] [(.int (own_mnh (p1.toUInt32.toUInt16.toUInt32.toInt32)))]) _
                refine XS.iconst X95.here hx rfl (hb hby at_79) ?_
                show own_S p e below T95 (mkF m 80 #[.val (.int p1), .val (.int (p1.toUInt32.toUInt16.toUInt32.toInt32)), .val (.int (p1.toUInt32.toUInt16.toUInt32.toInt32)), .val (.int (1 : Int32)), .val (.int (0 : Int32))] [(.int (1 : Int32)), (.int (own_mnh (p1.toUInt32.toUInt16.toUInt32.toInt32)))]) _
                refine XS.goto X95.here hx rfl (pc0 := 80) (pc' := 84) rfl (hb hby at_80) (by decide) (by decide) ?_
                exact kt)
              have hc84_98 : (own_mnh (p1.toUInt32.toUInt16.toUInt32.toInt32)) = (1 : Int32) := by rw [own_law (c_i2c p1).2.1 (c_i2c p1).2.2, if_pos (show own_all _ from Or.inr (Or.inr (Or.inl hc32)))]
              have k99 : ∀ t, own_S p e below T95 (mkF m 92 #[.val (.int p1), .val (.int (p1.toUInt32.toUInt16.toUInt32.toInt32)), .val (.int (p1.toUInt32.toUInt16.toUInt32.toInt32)), .val (.int (1 : Int32)), .val (.int (0 : Int32))] [(.int (1 : Int32))]) t → Gl t := fun t kt => k97 t (by
                show own_S p e below T95 (mkF m 84 #[.val (.int p1), .val (.int (p1.toUInt32.toUInt16.toUInt32.toInt32)), .val (.int (p1.toUInt32.toUInt16.toUInt32.toInt32)), .val (.int (1 : Int32)), .val (.int (0 : Int32))] [(.int (1 : Int32)), (.int (own_mnh (p1.toUInt32.toUInt16.toUInt32.toInt32)))]) _
                refine XS.icmpNo X95.here hx rfl (hb hby at_84) rfl (teq hc84_98).2 ?_
                show own_S p e below T95 (mkF m 87 #[.val (.int p1), .val (.int (p1.toUInt32.toUInt16.toUInt32.toInt32)), .val (.int (p1.toUInt32.toUInt16.toUInt32.toInt32)), .val (.int (1 : Int32)), .val (.int (0 : Int32))] []) _
                refine XS.iconst X95.here hx rfl (hb hby at_87) ?_
                show own_S p e below T95 (mkF m 88 #[.val (.int p1), .val (.int (p1.toUInt32.toUInt16.toUInt32.toInt32)), .val (.int (p1.toUInt32.toUInt16.toUInt32.toInt32)), .val (.int (1 : Int32)), .val (.int (0 : Int32))] [(.int (1 : Int32))]) _
                refine XS.goto X95.here hx rfl (pc0 := 88) (pc' := 92) rfl (hb hby at_88) (by decide) (by decide) ?_
                exact kt)
              obtain ⟨fs, hr, hrun, hended, hW, hsame⟩ := X95.leave (v := some (.int (1 : Int32))) (fun h => by rw [Bd.returns] at h; cases h)
              refine ⟨_, _, hGl _ (k99 _ (retN X95 hx (t := .boolean) Bd.returns (by simp) (hb hby at_92) hr)), hrun, hended, _, _, rfl, ?_, ⟨_, rfl⟩, hW, hsame.mono (by decide) (by decide)⟩
              show Q0 Z p1 w10 wAny w11 h0 n0 _ T95.heap _
              rw [eq95]
              exact ⟨rfl, N95⟩
    · have k100 : ∀ t, own_S p e below T38 (mkF m 44 #[.val (.int p1), .val (.int (p1.toUInt32.toUInt16.toUInt32.toInt32)), .val (.int (p1.toUInt32.toUInt16.toUInt32.toInt32)), .val (.int (1 : Int32)), .unset] [(.int (9 : Int32)), (.int (p1.toUInt32.toUInt16.toUInt32.toInt32))]) t → Gl t := fun t kt => k39 t (by
        show own_S p e below T38 (mkF m 22 #[.val (.int p1), .val (.int (p1.toUInt32.toUInt16.toUInt32.toInt32)), .val (.int (p1.toUInt32.toUInt16.toUInt32.toInt32)), .unset, .unset] [(.int (own_oar (p1.toUInt32.toUInt16.toUInt32.toInt32)))]) _
        refine XS.ifYes X38.here hx rfl (pc0 := 22) (pc' := 35) rfl (hb hby at_22) rfl ((if0 _ _).trans (feq hc22).2) (by decide) (by decide) ?_
        show own_S p e below T38 (mkF m 35 #[.val (.int p1), .val (.int (p1.toUInt32.toUInt16.toUInt32.toInt32)), .val (.int (p1.toUInt32.toUInt16.toUInt32.toInt32)), .unset, .unset] []) _
        refine XS.iconst X38.here hx rfl (hb hby at_35) ?_
        show own_S p e below T38 (mkF m 36 #[.val (.int p1), .val (.int (p1.toUInt32.toUInt16.toUInt32.toInt32)), .val (.int (p1.toUInt32.toUInt16.toUInt32.toInt32)), .unset, .unset] [(.int (1 : Int32))]) _
        refine XS.goto X38.here hx rfl (pc0 := 36) (pc' := 40) rfl (hb hby at_36) (by decide) (by decide) ?_
        show own_S p e below T38 (mkF m 40 #[.val (.int p1), .val (.int (p1.toUInt32.toUInt16.toUInt32.toInt32)), .val (.int (p1.toUInt32.toUInt16.toUInt32.toInt32)), .unset, .unset] [(.int (1 : Int32))]) _
        refine XS.istoreN X38.here hx rfl (hb hby at_40) rfl (l' := #[.val (.int p1), .val (.int (p1.toUInt32.toUInt16.toUInt32.toInt32)), .val (.int (p1.toUInt32.toUInt16.toUInt32.toInt32)), .val (.int (1 : Int32)), .unset]) rfl ?_
        show own_S p e below T38 (mkF m 41 #[.val (.int p1), .val (.int (p1.toUInt32.toUInt16.toUInt32.toInt32)), .val (.int (p1.toUInt32.toUInt16.toUInt32.toInt32)), .val (.int (1 : Int32)), .unset] []) _
        refine XS.iloadN X38.here hx rfl (hb hby at_41) rfl ?_
        show own_S p e below T38 (mkF m 42 #[.val (.int p1), .val (.int (p1.toUInt32.toUInt16.toUInt32.toInt32)), .val (.int (p1.toUInt32.toUInt16.toUInt32.toInt32)), .val (.int (1 : Int32)), .unset] [(.int (p1.toUInt32.toUInt16.toUInt32.toInt32))]) _
        refine XS.bipush X38.here hx rfl (hb hby at_42) ?_
        exact kt)
      by_cases hc44 : (p1.toUInt32.toUInt16.toUInt32.toInt32) = (9 : Int32)
      · have k101 : ∀ t, own_S p e below T38 (mkF m 67 #[.val (.int p1), .val (.int (p1.toUInt32.toUInt16.toUInt32.toInt32)), .val (.int (p1.toUInt32.toUInt16.toUInt32.toInt32)), .val (.int (1 : Int32)), .val (.int (1 : Int32))] [(.int (p1.toUInt32.toUInt16.toUInt32.toInt32))]) t → Gl t := fun t kt => k100 t (by
          show own_S p e below T38 (mkF m 44 #[.val (.int p1), .val (.int (p1.toUInt32.toUInt16.toUInt32.toInt32)), .val (.int (p1.toUInt32.toUInt16.toUInt32.toInt32)), .val (.int (1 : Int32)), .unset] [(.int (9 : Int32)), (.int (p1.toUInt32.toUInt16.toUInt32.toInt32))]) _
          refine XS.icmpYes X38.here hx rfl (pc0 := 44) (pc' := 59) rfl (hb hby at_44) rfl (teq hc44).1 (by decide) (by decide) ?_
          show own_S p e below T38 (mkF m 59 #[.val (.int p1), .val (.int (p1.toUInt32.toUInt16.toUInt32.toInt32)), .val (.int (p1.toUInt32.toUInt16.toUInt32.toInt32)), .val (.int (1 : Int32)), .unset] []) _
          refine XS.iconst X38.here hx rfl (hb hby at_59) ?_
          show own_S p e below T38 (mkF m 60 #[.val (.int p1), .val (.int (p1.toUInt32.toUInt16.toUInt32.toInt32)), .val (.int (p1.toUInt32.toUInt16.toUInt32.toInt32)), .val (.int (1 : Int32)), .unset] [(.int (1 : Int32))]) _
          refine XS.goto X38.here hx rfl (pc0 := 60) (pc' := 64) rfl (hb hby at_60) (by decide) (by decide) ?_
          show own_S p e below T38 (mkF m 64 #[.val (.int p1), .val (.int (p1.toUInt32.toUInt16.toUInt32.toInt32)), .val (.int (p1.toUInt32.toUInt16.toUInt32.toInt32)), .val (.int (1 : Int32)), .unset] [(.int (1 : Int32))]) _
          refine XS.istore X38.here hx rfl (hb hby at_64) rfl (l' := #[.val (.int p1), .val (.int (p1.toUInt32.toUInt16.toUInt32.toInt32)), .val (.int (p1.toUInt32.toUInt16.toUInt32.toInt32)), .val (.int (1 : Int32)), .val (.int (1 : Int32))]) rfl ?_
          show own_S p e below T38 (mkF m 66 #[.val (.int p1), .val (.int (p1.toUInt32.toUInt16.toUInt32.toInt32)), .val (.int (p1.toUInt32.toUInt16.toUInt32.toInt32)), .val (.int (1 : Int32)), .val (.int (1 : Int32))] []) _
          refine XS.iloadN X38.here hx rfl (hb hby at_66) rfl ?_
          exact kt)
        obtain ⟨_, _, ⟨T102, L102, cc102, ss102⟩, -, X102, ⟨Lc102, hQ102, l102, y102, z102⟩, st102⟩ := Jvm.LawKit.callS X38 hx (y := (⟨"com/example/rowan/rowan/xslt/EncodedWriter$Repertoire", "mayNotHold", "(C)Z"⟩ : MethodName)) hown (mvT hZ (hw _ (List.mem_of_getElem? (i := 16) rfl))) (mvT hZ (hw _ (List.mem_of_getElem? (i := 17) rfl))) (mvT hZ (hw _ (List.mem_of_getElem? (i := 1) rfl))) (mvT hZ (hw _ (List.mem_of_getElem? (i := 18) rfl))) (by decide) (backOf (W := 0) (rm3 l Z a0 hw [] (p1.toUInt32.toUInt16.toUInt32.toInt32)  h0 n0 Z0 ) hZ (hw _ (List.mem_of_getElem? (i := 18) rfl)) (hw _ (List.mem_of_getElem? (i := 1) rfl)) (by decide) (by decide)) (g := (mkF m 67 #[.val (.int p1), .val (.int (p1.toUInt32.toUInt16.toUInt32.toInt32)), .val (.int (p1.toUInt32.toUInt16.toUInt32.toInt32)), .val (.int (1 : Int32)), .val (.int (1 : Int32))] [(.int (p1.toUInt32.toUInt16.toUInt32.toInt32))])) rfl (by rw [hml]; rfl) (argsL := [(.int (p1.toUInt32.toUInt16.toUInt32.toInt32))]) (rest := []) (lenOf pd_0 rfl) rfl (by show 2 * 0 + _ ≤ _; exact Nat.le_of_eq rfl) (hb hby at_67) (fun _ _ => ⟨rfl, eq38, (by decide : 0 + 0 ≤ _), (by decide : 0 + 0 ≤ _)⟩)
        dsimp only [Pt.U, Pt.locs, Pt.cells, Pt.slots] at X102 l102 y102 z102 st102 hQ102
        subst l102 y102 z102
        obtain ⟨rfl, Nq102, eq102⟩ := hQ102
        have N102 := Fr.app N38 Nq102
        have k103 : ∀ t, own_S p e below T102 (mkF m 70 #[.val (.int p1), .val (.int (p1.toUInt32.toUInt16.toUInt32.toInt32)), .val (.int (p1.toUInt32.toUInt16.toUInt32.toInt32)), .val (.int (1 : Int32)), .val (.int (1 : Int32))] [(.int (own_mnh (p1.toUInt32.toUInt16.toUInt32.toInt32)))]) t → Gl t := fun t kt => k101 t (st102 _ kt)
        have k104 : ∀ t, own_S p e below T102 (mkF m 84 #[.val (.int p1), .val (.int (p1.toUInt32.toUInt16.toUInt32.toInt32)), .val (.int (p1.toUInt32.toUInt16.toUInt32.toInt32)), .val (.int (1 : Int32)), .val (.int (1 : Int32))] [(.int (1 : Int32)), (.int (own_mnh (p1.toUInt32.toUInt16.toUInt32.toInt32)))]) t → Gl t := fun t kt => k103 t (by
          show own_S p e below T102 (mkF m 70 #[.val (.int p1), .val (.int (p1.toUInt32.toUInt16.toUInt32.toInt32)), .val (.int (p1.toUInt32.toUInt16.toUInt32.toInt32)), .val (.int (1 : Int32)), .val (.int (1 : Int32))] [(.int (own_mnh (p1.toUInt32.toUInt16.toUInt32.toInt32)))]) _
          refine XS.iloadN X102.here hx rfl (hb hby at_70) rfl ?_
          show own_S p e below T102 (mkF m 71 #[.val (.int p1), .val (.int (p1.toUInt32.toUInt16.toUInt32.toInt32)), .val (.int (p1.toUInt32.toUInt16.toUInt32.toInt32)), .val (.int (1 : Int32)), .val (.int (1 : Int32))] [(.int (1 : Int32)), (.int (own_mnh (p1.toUInt32.toUInt16.toUInt32.toInt32)))]) _
          refine XS.ifYes X102.here hx rfl (pc0 := 71) (pc' := 79) rfl (hb hby at_71) rfl ((if0 _ _).trans (feq (by decide : ¬ ((1 : Int32) = (0 : Int32)))).2) (by decide) (by decide) ?_
          show own_S p e below T102 (mkF m 79 #[.val (.int p1), .val (.int (p1.toUInt32.toUInt16.toUInt32.toInt32)), .val (.int (p1.toUInt32.toUInt16.toUInt32.toInt32)), .val (.int (1 : Int32)), .val (.int (1 : Int32))] [(.int (own_mnh (p1.toUInt32.toUInt16.toUInt32.toInt32)))]) _
          refine XS.iconst X102.here hx rfl (hb hby at_79) ?_
          show own_S p e below T102 (mkF m 80 #[.val (.int p1), .val (.int (p1.toUInt32.toUInt16.toUInt32.toInt32)), .val (.int (p1.toUInt32.toUInt16.toUInt32.toInt32)), .val (.int (1 : Int32)), .val (.int (1 : Int32))] [(.int (1 : Int32)), (.int (own_mnh (p1.toUInt32.toUInt16.toUInt32.toInt32)))]) _
          refine XS.goto X102.here hx rfl (pc0 := 80) (pc' := 84) rfl (hb hby at_80) (by decide) (by decide) ?_
          exact kt)
        have hc84_105 : (own_mnh (p1.toUInt32.toUInt16.toUInt32.toInt32)) = (1 : Int32) := by rw [own_law (c_i2c p1).2.1 (c_i2c p1).2.2, if_pos (show own_all _ from Or.inr (Or.inl hc22))]
        have k106 : ∀ t, own_S p e below T102 (mkF m 92 #[.val (.int p1), .val (.int (p1.toUInt32.toUInt16.toUInt32.toInt32)), .val (.int (p1.toUInt32.toUInt16.toUInt32.toInt32)), .val (.int (1 : Int32)), .val (.int (1 : Int32))] [(.int (1 : Int32))]) t → Gl t := fun t kt => k104 t (by
          show own_S p e below T102 (mkF m 84 #[.val (.int p1), .val (.int (p1.toUInt32.toUInt16.toUInt32.toInt32)), .val (.int (p1.toUInt32.toUInt16.toUInt32.toInt32)), .val (.int (1 : Int32)), .val (.int (1 : Int32))] [(.int (1 : Int32)), (.int (own_mnh (p1.toUInt32.toUInt16.toUInt32.toInt32)))]) _
          refine XS.icmpNo X102.here hx rfl (hb hby at_84) rfl (teq hc84_105).2 ?_
          show own_S p e below T102 (mkF m 87 #[.val (.int p1), .val (.int (p1.toUInt32.toUInt16.toUInt32.toInt32)), .val (.int (p1.toUInt32.toUInt16.toUInt32.toInt32)), .val (.int (1 : Int32)), .val (.int (1 : Int32))] []) _
          refine XS.iconst X102.here hx rfl (hb hby at_87) ?_
          show own_S p e below T102 (mkF m 88 #[.val (.int p1), .val (.int (p1.toUInt32.toUInt16.toUInt32.toInt32)), .val (.int (p1.toUInt32.toUInt16.toUInt32.toInt32)), .val (.int (1 : Int32)), .val (.int (1 : Int32))] [(.int (1 : Int32))]) _
          refine XS.goto X102.here hx rfl (pc0 := 88) (pc' := 92) rfl (hb hby at_88) (by decide) (by decide) ?_
          exact kt)
        obtain ⟨fs, hr, hrun, hended, hW, hsame⟩ := X102.leave (v := some (.int (1 : Int32))) (fun h => by rw [Bd.returns] at h; cases h)
        refine ⟨_, _, hGl _ (k106 _ (retN X102 hx (t := .boolean) Bd.returns (by simp) (hb hby at_92) hr)), hrun, hended, _, _, rfl, ?_, ⟨_, rfl⟩, hW, hsame.mono (by decide) (by decide)⟩
        show Q0 Z p1 w10 wAny w11 h0 n0 _ T102.heap _
        rw [eq102]
        exact ⟨rfl, N102⟩
      · have k107 : ∀ t, own_S p e below T38 (mkF m 50 #[.val (.int p1), .val (.int (p1.toUInt32.toUInt16.toUInt32.toInt32)), .val (.int (p1.toUInt32.toUInt16.toUInt32.toInt32)), .val (.int (1 : Int32)), .unset] [(.int (10 : Int32)), (.int (p1.toUInt32.toUInt16.toUInt32.toInt32))]) t → Gl t := fun t kt => k100 t (by
          show own_S p e below T38 (mkF m 44 #[.val (.int p1), .val (.int (p1.toUInt32.toUInt16.toUInt32.toInt32)), .val (.int (p1.toUInt32.toUInt16.toUInt32.toInt32)), .val (.int (1 : Int32)), .unset] [(.int (9 : Int32)), (.int (p1.toUInt32.toUInt16.toUInt32.toInt32))]) _
          refine XS.icmpNo X38.here hx rfl (hb hby at_44) rfl (feq hc44).1 ?_
          show own_S p e below T38 (mkF m 47 #[.val (.int p1), .val (.int (p1.toUInt32.toUInt16.toUInt32.toInt32)), .val (.int (p1.toUInt32.toUInt16.toUInt32.toInt32)), .val (.int (1 : Int32)), .unset] []) _
          refine XS.iloadN X38.here hx rfl (hb hby at_47) rfl ?_
          show own_S p e below T38 (mkF m 48 #[.val (.int p1), .val (.int (p1.toUInt32.toUInt16.toUInt32.toInt32)), .val (.int (p1.toUInt32.toUInt16.toUInt32.toInt32)), .val (.int (1 : Int32)), .unset] [(.int (p1.toUInt32.toUInt16.toUInt32.toInt32))]) _
          refine XS.bipush X38.here hx rfl (hb hby at_48) ?_
          exact kt)
        by_cases hc50 : (p1.toUInt32.toUInt16.toUInt32.toInt32) = (10 : Int32)
        · have k108 : ∀ t, own_S p e below T38 (mkF m 67 #[.val (.int p1), .val (.int (p1.toUInt32.toUInt16.toUInt32.toInt32)), .val (.int (p1.toUInt32.toUInt16.toUInt32.toInt32)), .val (.int (1 : Int32)), .val (.int (1 : Int32))] [(.int (p1.toUInt32.toUInt16.toUInt32.toInt32))]) t → Gl t := fun t kt => k107 t (by
            show own_S p e below T38 (mkF m 50 #[.val (.int p1), .val (.int (p1.toUInt32.toUInt16.toUInt32.toInt32)), .val (.int (p1.toUInt32.toUInt16.toUInt32.toInt32)), .val (.int (1 : Int32)), .unset] [(.int (10 : Int32)), (.int (p1.toUInt32.toUInt16.toUInt32.toInt32))]) _
            refine XS.icmpYes X38.here hx rfl (pc0 := 50) (pc' := 59) rfl (hb hby at_50) rfl (teq hc50).1 (by decide) (by decide) ?_
            show own_S p e below T38 (mkF m 59 #[.val (.int p1), .val (.int (p1.toUInt32.toUInt16.toUInt32.toInt32)), .val (.int (p1.toUInt32.toUInt16.toUInt32.toInt32)), .val (.int (1 : Int32)), .unset] []) _
            refine XS.iconst X38.here hx rfl (hb hby at_59) ?_
            show own_S p e below T38 (mkF m 60 #[.val (.int p1), .val (.int (p1.toUInt32.toUInt16.toUInt32.toInt32)), .val (.int (p1.toUInt32.toUInt16.toUInt32.toInt32)), .val (.int (1 : Int32)), .unset] [(.int (1 : Int32))]) _
            refine XS.goto X38.here hx rfl (pc0 := 60) (pc' := 64) rfl (hb hby at_60) (by decide) (by decide) ?_
            show own_S p e below T38 (mkF m 64 #[.val (.int p1), .val (.int (p1.toUInt32.toUInt16.toUInt32.toInt32)), .val (.int (p1.toUInt32.toUInt16.toUInt32.toInt32)), .val (.int (1 : Int32)), .unset] [(.int (1 : Int32))]) _
            refine XS.istore X38.here hx rfl (hb hby at_64) rfl (l' := #[.val (.int p1), .val (.int (p1.toUInt32.toUInt16.toUInt32.toInt32)), .val (.int (p1.toUInt32.toUInt16.toUInt32.toInt32)), .val (.int (1 : Int32)), .val (.int (1 : Int32))]) rfl ?_
            show own_S p e below T38 (mkF m 66 #[.val (.int p1), .val (.int (p1.toUInt32.toUInt16.toUInt32.toInt32)), .val (.int (p1.toUInt32.toUInt16.toUInt32.toInt32)), .val (.int (1 : Int32)), .val (.int (1 : Int32))] []) _
            refine XS.iloadN X38.here hx rfl (hb hby at_66) rfl ?_
            exact kt)
          obtain ⟨_, _, ⟨T109, L109, cc109, ss109⟩, -, X109, ⟨Lc109, hQ109, l109, y109, z109⟩, st109⟩ := Jvm.LawKit.callS X38 hx (y := (⟨"com/example/rowan/rowan/xslt/EncodedWriter$Repertoire", "mayNotHold", "(C)Z"⟩ : MethodName)) hown (mvT hZ (hw _ (List.mem_of_getElem? (i := 16) rfl))) (mvT hZ (hw _ (List.mem_of_getElem? (i := 17) rfl))) (mvT hZ (hw _ (List.mem_of_getElem? (i := 1) rfl))) (mvT hZ (hw _ (List.mem_of_getElem? (i := 18) rfl))) (by decide) (backOf (W := 0) (rm3 l Z a0 hw [] (p1.toUInt32.toUInt16.toUInt32.toInt32)  h0 n0 Z0 ) hZ (hw _ (List.mem_of_getElem? (i := 18) rfl)) (hw _ (List.mem_of_getElem? (i := 1) rfl)) (by decide) (by decide)) (g := (mkF m 67 #[.val (.int p1), .val (.int (p1.toUInt32.toUInt16.toUInt32.toInt32)), .val (.int (p1.toUInt32.toUInt16.toUInt32.toInt32)), .val (.int (1 : Int32)), .val (.int (1 : Int32))] [(.int (p1.toUInt32.toUInt16.toUInt32.toInt32))])) rfl (by rw [hml]; rfl) (argsL := [(.int (p1.toUInt32.toUInt16.toUInt32.toInt32))]) (rest := []) (lenOf pd_0 rfl) rfl (by show 2 * 0 + _ ≤ _; exact Nat.le_of_eq rfl) (hb hby at_67) (fun _ _ => ⟨rfl, eq38, (by decide : 0 + 0 ≤ _), (by decide : 0 + 0 ≤ _)⟩)
          dsimp only [Pt.U, Pt.locs, Pt.cells, Pt.slots] at X109 l109 y109 z109 st109 hQ109
          subst l109 y109 z109
          obtain ⟨rfl, Nq109, eq109⟩ := hQ109
          have N109 := Fr.app N38 Nq109
          have k110 : ∀ t, own_S p e below T109 (mkF m 70 #[.val (.int p1), .val (.int (p1.toUInt32.toUInt16.toUInt32.toInt32)), .val (.int (p1.toUInt32.toUInt16.toUInt32.toInt32)), .val (.int (1 : Int32)), .val (.int (1 : Int32))] [(.int (own_mnh (p1.toUInt32.toUInt16.toUInt32.toInt32)))]) t → Gl t := fun t kt => k108 t (st109 _ kt)
          have k111 : ∀ t, own_S p e below T109 (mkF m 84 #[.val (.int p1), .val (.int (p1.toUInt32.toUInt16.toUInt32.toInt32)), .val (.int (p1.toUInt32.toUInt16.toUInt32.toInt32)), .val (.int (1 : Int32)), .val (.int (1 : Int32))] [(.int (1 : Int32)), (.int (own_mnh (p1.toUInt32.toUInt16.toUInt32.toInt32)))]) t → Gl t := fun t kt => k110 t (by
            show own_S p e below T109 (mkF m 70 #[.val (.int p1), .val (.int (p1.toUInt32.toUInt16.toUInt32.toInt32)), .val (.int (p1.toUInt32.toUInt16.toUInt32.toInt32)), .val (.int (1 : Int32)), .val (.int (1 : Int32))] [(.int (own_mnh (p1.toUInt32.toUInt16.toUInt32.toInt32)))]) _
            refine XS.iloadN X109.here hx rfl (hb hby at_70) rfl ?_
            show own_S p e below T109 (mkF m 71 #[.val (.int p1), .val (.int (p1.toUInt32.toUInt16.toUInt32.toInt32)), .val (.int (p1.toUInt32.toUInt16.toUInt32.toInt32)), .val (.int (1 : Int32)), .val (.int (1 : Int32))] [(.int (1 : Int32)), (.int (own_mnh (p1.toUInt32.toUInt16.toUInt32.toInt32)))]) _
            refine XS.ifYes X109.here hx rfl (pc0 := 71) (pc' := 79) rfl (hb hby at_71) rfl ((if0 _ _).trans (feq (by decide : ¬ ((1 : Int32) = (0 : Int32)))).2) (by decide) (by decide) ?_
            show own_S p e below T109 (mkF m 79 #[.val (.int p1), .val (.int (p1.toUInt32.toUInt16.toUInt32.toInt32)), .val (.int (p1.toUInt32.toUInt16.toUInt32.toInt32)), .val (.int (1 : Int32)), .val (.int (1 : Int32))] [(.int (own_mnh (p1.toUInt32.toUInt16.toUInt32.toInt32)))]) _
            refine XS.iconst X109.here hx rfl (hb hby at_79) ?_
            show own_S p e below T109 (mkF m 80 #[.val (.int p1), .val (.int (p1.toUInt32.toUInt16.toUInt32.toInt32)), .val (.int (p1.toUInt32.toUInt16.toUInt32.toInt32)), .val (.int (1 : Int32)), .val (.int (1 : Int32))] [(.int (1 : Int32)), (.int (own_mnh (p1.toUInt32.toUInt16.toUInt32.toInt32)))]) _
            refine XS.goto X109.here hx rfl (pc0 := 80) (pc' := 84) rfl (hb hby at_80) (by decide) (by decide) ?_
            exact kt)
          have hc84_112 : (own_mnh (p1.toUInt32.toUInt16.toUInt32.toInt32)) = (1 : Int32) := by rw [own_law (c_i2c p1).2.1 (c_i2c p1).2.2, if_pos (show own_all _ from Or.inr (Or.inl hc22))]
          have k113 : ∀ t, own_S p e below T109 (mkF m 92 #[.val (.int p1), .val (.int (p1.toUInt32.toUInt16.toUInt32.toInt32)), .val (.int (p1.toUInt32.toUInt16.toUInt32.toInt32)), .val (.int (1 : Int32)), .val (.int (1 : Int32))] [(.int (1 : Int32))]) t → Gl t := fun t kt => k111 t (by
            show own_S p e below T109 (mkF m 84 #[.val (.int p1), .val (.int (p1.toUInt32.toUInt16.toUInt32.toInt32)), .val (.int (p1.toUInt32.toUInt16.toUInt32.toInt32)), .val (.int (1 : Int32)), .val (.int (1 : Int32))] [(.int (1 : Int32)), (.int (own_mnh (p1.toUInt32.toUInt16.toUInt32.toInt32)))]) _
            refine XS.icmpNo X109.here hx rfl (hb hby at_84) rfl (teq hc84_112).2 ?_
            show own_S p e below T109 (mkF m 87 #[.val (.int p1), .val (.int (p1.toUInt32.toUInt16.toUInt32.toInt32)), .val (.int (p1.toUInt32.toUInt16.toUInt32.toInt32)), .val (.int (1 : Int32)), .val (.int (1 : Int32))] []) _
            refine XS.iconst X109.here hx rfl (hb hby at_87) ?_
            show own_S p e below T109 (mkF m 88 #[.val (.int p1), .val (.int (p1.toUInt32.toUInt16.toUInt32.toInt32)), .val (.int (p1.toUInt32.toUInt16.toUInt32.toInt32)), .val (.int (1 : Int32)), .val (.int (1 : Int32))] [(.int (1 : Int32))]) _
            refine XS.goto X109.here hx rfl (pc0 := 88) (pc' := 92) rfl (hb hby at_88) (by decide) (by decide) ?_
            exact kt)
          obtain ⟨fs, hr, hrun, hended, hW, hsame⟩ := X109.leave (v := some (.int (1 : Int32))) (fun h => by rw [Bd.returns] at h; cases h)
          refine ⟨_, _, hGl _ (k113 _ (retN X109 hx (t := .boolean) Bd.returns (by simp) (hb hby at_92) hr)), hrun, hended, _, _, rfl, ?_, ⟨_, rfl⟩, hW, hsame.mono (by decide) (by decide)⟩
          show Q0 Z p1 w10 wAny w11 h0 n0 _ T109.heap _
          rw [eq109]
          exact ⟨rfl, N109⟩
        · have k114 : ∀ t, own_S p e below T38 (mkF m 56 #[.val (.int p1), .val (.int (p1.toUInt32.toUInt16.toUInt32.toInt32)), .val (.int (p1.toUInt32.toUInt16.toUInt32.toInt32)), .val (.int (1 : Int32)), .unset] [(.int (13 : Int32)), (.int (p1.toUInt32.toUInt16.toUInt32.toInt32))]) t → Gl t := fun t kt => k107 t (by
            show own_S p e below T38 (mkF m 50 #[.val (.int p1), .val (.int (p1.toUInt32.toUInt16.toUInt32.toInt32)), .val (.int (p1.toUInt32.toUInt16.toUInt32.toInt32)), .val (.int (1 : Int32)), .unset] [(.int (10 : Int32)), (.int (p1.toUInt32.toUInt16.toUInt32.toInt32))]) _
            refine XS.icmpNo X38.here hx rfl (hb hby at_50) rfl (feq hc50).1 ?_
            show own_S p e below T38 (mkF m 53 #[.val (.int p1), .val (.int (p1.toUInt32.toUInt16.toUInt32.toInt32)), .val (.int (p1.toUInt32.toUInt16.toUInt32.toInt32)), .val (.int (1 : Int32)), .unset] []) _
            refine XS.iloadN X38.here hx rfl (hb hby at_53) rfl ?_
            show own_S p e below T38 (mkF m 54 #[.val (.int p1), .val (.int (p1.toUInt32.toUInt16.toUInt32.toInt32)), .val (.int (p1.toUInt32.toUInt16.toUInt32.toInt32)), .val (.int (1 : Int32)), .unset] [(.int (p1.toUInt32.toUInt16.toUInt32.toInt32))]) _
            refine XS.bipush X38.here hx rfl (hb hby at_54) ?_
            exact kt)
          by_cases hc56 : (p1.toUInt32.toUInt16.toUInt32.toInt32) = (13 : Int32)
          · have k115 : ∀ t, own_S p e below T38 (mkF m 67 #[.val (.int p1), .val (.int (p1.toUInt32.toUInt16.toUInt32.toInt32)), .val (.int (p1.toUInt32.toUInt16.toUInt32.toInt32)), .val (.int (1 : Int32)), .val (.int (1 : Int32))] [(.int (p1.toUInt32.toUInt16.toUInt32.toInt32))]) t → Gl t := fun t kt => k114 t (by
              show own_S p e below T38 (mkF m 56 #[.val (.int p1), .val (.int (p1.toUInt32.toUInt16.toUInt32.toInt32)), .val (.int (p1.toUInt32.toUInt16.toUInt32.toInt32)), .val (.int (1 : Int32)), .unset] [(.int (13 : Int32)), (.int (p1.toUInt32.toUInt16.toUInt32.toInt32))]) _
              refine XS.icmpNo X38.here hx rfl (hb hby at_56) rfl (teq hc56).2 ?_
              show own_S p e below T38 (mkF m 59 #[.val (.int p1), .val (.int (p1.toUInt32.toUInt16.toUInt32.toInt32)), .val (.int (p1.toUInt32.toUInt16.toUInt32.toInt32)), .val (.int (1 : Int32)), .unset] []) _
              refine XS.iconst X38.here hx rfl (hb hby at_59) ?_
              show own_S p e below T38 (mkF m 60 #[.val (.int p1), .val (.int (p1.toUInt32.toUInt16.toUInt32.toInt32)), .val (.int (p1.toUInt32.toUInt16.toUInt32.toInt32)), .val (.int (1 : Int32)), .unset] [(.int (1 : Int32))]) _
              refine XS.goto X38.here hx rfl (pc0 := 60) (pc' := 64) rfl (hb hby at_60) (by decide) (by decide) ?_
              show own_S p e below T38 (mkF m 64 #[.val (.int p1), .val (.int (p1.toUInt32.toUInt16.toUInt32.toInt32)), .val (.int (p1.toUInt32.toUInt16.toUInt32.toInt32)), .val (.int (1 : Int32)), .unset] [(.int (1 : Int32))]) _
              refine XS.istore X38.here hx rfl (hb hby at_64) rfl (l' := #[.val (.int p1), .val (.int (p1.toUInt32.toUInt16.toUInt32.toInt32)), .val (.int (p1.toUInt32.toUInt16.toUInt32.toInt32)), .val (.int (1 : Int32)), .val (.int (1 : Int32))]) rfl ?_
              show own_S p e below T38 (mkF m 66 #[.val (.int p1), .val (.int (p1.toUInt32.toUInt16.toUInt32.toInt32)), .val (.int (p1.toUInt32.toUInt16.toUInt32.toInt32)), .val (.int (1 : Int32)), .val (.int (1 : Int32))] []) _
              refine XS.iloadN X38.here hx rfl (hb hby at_66) rfl ?_
              exact kt)
            obtain ⟨_, _, ⟨T116, L116, cc116, ss116⟩, -, X116, ⟨Lc116, hQ116, l116, y116, z116⟩, st116⟩ := Jvm.LawKit.callS X38 hx (y := (⟨"com/example/rowan/rowan/xslt/EncodedWriter$Repertoire", "mayNotHold", "(C)Z"⟩ : MethodName)) hown (mvT hZ (hw _ (List.mem_of_getElem? (i := 16) rfl))) (mvT hZ (hw _ (List.mem_of_getElem? (i := 17) rfl))) (mvT hZ (hw _ (List.mem_of_getElem? (i := 1) rfl))) (mvT hZ (hw _ (List.mem_of_getElem? (i := 18) rfl))) (by decide) (backOf (W := 0) (rm3 l Z a0 hw [] (p1.toUInt32.toUInt16.toUInt32.toInt32)  h0 n0 Z0 ) hZ (hw _ (List.mem_of_getElem? (i := 18) rfl)) (hw _ (List.mem_of_getElem? (i := 1) rfl)) (by decide) (by decide)) (g := (mkF m 67 #[.val (.int p1), .val (.int (p1.toUInt32.toUInt16.toUInt32.toInt32)), .val (.int (p1.toUInt32.toUInt16.toUInt32.toInt32)), .val (.int (1 : Int32)), .val (.int (1 : Int32))] [(.int (p1.toUInt32.toUInt16.toUInt32.toInt32))])) rfl (by rw [hml]; rfl) (argsL := [(.int (p1.toUInt32.toUInt16.toUInt32.toInt32))]) (rest := []) (lenOf pd_0 rfl) rfl (by show 2 * 0 + _ ≤ _; exact Nat.le_of_eq rfl) (hb hby at_67) (fun _ _ => ⟨rfl, eq38, (by decide : 0 + 0 ≤ _), (by decide : 0 + 0 ≤ _)⟩)
            dsimp only [Pt.U, Pt.locs, Pt.cells, Pt.slots] at X116 l116 y116 z116 st116 hQ116
            subst l116 y116 z116
            obtain ⟨rfl, Nq116, eq116⟩ := hQ116
            have N116 := Fr.app N38 Nq116
            have k117 : ∀ t, own_S p e below T116 (mkF m 70 #[.val (.int p1), .val (.int (p1.toUInt32.toUInt16.toUInt32.toInt32)), .val (.int (p1.toUInt32.toUInt16.toUInt32.toInt32)), .val (.int (1 : Int32)), .val (.int (1 : Int32))] [(.int (own_mnh (p1.toUInt32.toUInt16.toUInt32.toInt32)))]) t → Gl t := fun t kt => k115 t (st116 _ kt)
            have k118 : ∀ t, own_S p e below T116 (mkF m 84 #[.val (.int p1), .val (.int (p1.toUInt32.toUInt16.toUInt32.toInt32)), .val (.int (p1.toUInt32.toUInt16.toUInt32.toInt32)), .val (.int (1 : Int32)), .val (.int (1 : Int32))] [(.int (1 : Int32)), (.int (own_mnh (p1.toUInt32.toUInt16.toUInt32.toInt32)))]) t → Gl t := fun t kt => k117 t (by
              show own_S p e below T116 (mkF m 70 #[.val (.int p1), .val (.int (p1.toUInt32.toUInt16.toUInt32.toInt32)), .val (.int (p1.toUInt32.toUInt16.toUInt32.toInt32)), .val (.int (1 : Int32)), .val (.int (1 : Int32))] [(.int (own_mnh (p1.toUInt32.toUInt16.toUInt32.toInt32)))]) _
              refine XS.iloadN X116.here hx rfl (hb hby at_70) rfl ?_
              show own_S p e below T116 (mkF m 71 #[.val (.int p1), .val (.int (p1.toUInt32.toUInt16.toUInt32.toInt32)), .val (.int (p1.toUInt32.toUInt16.toUInt32.toInt32)), .val (.int (1 : Int32)), .val (.int (1 : Int32))] [(.int (1 : Int32)), (.int (own_mnh (p1.toUInt32.toUInt16.toUInt32.toInt32)))]) _
              refine XS.ifYes X116.here hx rfl (pc0 := 71) (pc' := 79) rfl (hb hby at_71) rfl ((if0 _ _).trans (feq (by decide : ¬ ((1 : Int32) = (0 : Int32)))).2) (by decide) (by decide) ?_
              show own_S p e below T116 (mkF m 79 #[.val (.int p1), .val (.int (p1.toUInt32.toUInt16.toUInt32.toInt32)), .val (.int (p1.toUInt32.toUInt16.toUInt32.toInt32)), .val (.int (1 : Int32)), .val (.int (1 : Int32))] [(.int (own_mnh (p1.toUInt32.toUInt16.toUInt32.toInt32)))]) _
              refine XS.iconst X116.here hx rfl (hb hby at_79) ?_
              show own_S p e below T116 (mkF m 80 #[.val (.int p1), .val (.int (p1.toUInt32.toUInt16.toUInt32.toInt32)), .val (.int (p1.toUInt32.toUInt16.toUInt32.toInt32)), .val (.int (1 : Int32)), .val (.int (1 : Int32))] [(.int (1 : Int32)), (.int (own_mnh (p1.toUInt32.toUInt16.toUInt32.toInt32)))]) _
              refine XS.goto X116.here hx rfl (pc0 := 80) (pc' := 84) rfl (hb hby at_80) (by decide) (by decide) ?_
              exact kt)
            have hc84_119 : (own_mnh (p1.toUInt32.toUInt16.toUInt32.toInt32)) = (1 : Int32) := by rw [own_law (c_i2c p1).2.1 (c_i2c p1).2.2, if_pos (show own_all _ from Or.inr (Or.inl hc22))]
            have k120 : ∀ t, own_S p e below T116 (mkF m 92 #[.val (.int p1), .val (.int (p1.toUInt32.toUInt16.toUInt32.toInt32)), .val (.int (p1.toUInt32.toUInt16.toUInt32.toInt32)), .val (.int (1 : Int32)), .val (.int (1 : Int32))] [(.int (1 : Int32))]) t → Gl t := fun t kt => k118 t (by
              show own_S p e below T116 (mkF m 84 #[.val (.int p1), .val (.int (p1.toUInt32.toUInt16.toUInt32.toInt32)), .val (.int (p1.toUInt32.toUInt16.toUInt32.toInt32)), .val (.int (1 : Int32)), .val (.int (1 : Int32))] [(.int (1 : Int32)), (.int (own_mnh (p1.toUInt32.toUInt16.toUInt32.toInt32)))]) _
              refine XS.icmpNo X116.here hx rfl (hb hby at_84) rfl (teq hc84_119).2 ?_
              show own_S p e below T116 (mkF m 87 #[.val (.int p1), .val (.int (p1.toUInt32.toUInt16.toUInt32.toInt32)), .val (.int (p1.toUInt32.toUInt16.toUInt32.toInt32)), .val (.int (1 : Int32)), .val (.int (1 : Int32))] []) _
              refine XS.iconst X116.here hx rfl (hb hby at_87) ?_
              show own_S p e below T116 (mkF m 88 #[.val (.int p1), .val (.int (p1.toUInt32.toUInt16.toUInt32.toInt32)), .val (.int (p1.toUInt32.toUInt16.toUInt32.toInt32)), .val (.int (1 : Int32)), .val (.int (1 : Int32))] [(.int (1 : Int32))]) _
              refine XS.goto X116.here hx rfl (pc0 := 88) (pc' := 92) rfl (hb hby at_88) (by decide) (by decide) ?_
              exact kt)
            obtain ⟨fs, hr, hrun, hended, hW, hsame⟩ := X116.leave (v := some (.int (1 : Int32))) (fun h => by rw [Bd.returns] at h; cases h)
            refine ⟨_, _, hGl _ (k120 _ (retN X116 hx (t := .boolean) Bd.returns (by simp) (hb hby at_92) hr)), hrun, hended, _, _, rfl, ?_, ⟨_, rfl⟩, hW, hsame.mono (by decide) (by decide)⟩
            show Q0 Z p1 w10 wAny w11 h0 n0 _ T116.heap _
            rw [eq116]
            exact ⟨rfl, N116⟩
          · have k121 : ∀ t, own_S p e below T38 (mkF m 67 #[.val (.int p1), .val (.int (p1.toUInt32.toUInt16.toUInt32.toInt32)), .val (.int (p1.toUInt32.toUInt16.toUInt32.toInt32)), .val (.int (1 : Int32)), .val (.int (0 : Int32))] [(.int (p1.toUInt32.toUInt16.toUInt32.toInt32))]) t → Gl t := fun t kt => k114 t (by
              show own_S p e below T38 (mkF m 56 #[.val (.int p1), .val (.int (p1.toUInt32.toUInt16.toUInt32.toInt32)), .val (.int (p1.toUInt32.toUInt16.toUInt32.toInt32)), .val (.int (1 : Int32)), .unset] [(.int (13 : Int32)), (.int (p1.toUInt32.toUInt16.toUInt32.toInt32))]) _
              refine XS.icmpYes X38.here hx rfl (pc0 := 56) (pc' := 63) rfl (hb hby at_56) rfl (feq hc56).2 (by decide) (by decide) ?_
              show own_S p e below T38 (mkF m 63 #[.val (.int p1), .val (.int (p1.toUInt32.toUInt16.toUInt32.toInt32)), .val (.int (p1.toUInt32.toUInt16.toUInt32.toInt32)), .val (.int (1 : Int32)), .unset] []) _
              refine XS.iconst X38.here hx rfl (hb hby at_63) ?_
              show own_S p e below T38 (mkF m 64 #[.val (.int p1), .val (.int (p1.toUInt32.toUInt16.toUInt32.toInt32)), .val (.int (p1.toUInt32.toUInt16.toUInt32.toInt32)), .val (.int (1 : Int32)), .unset] [(.int (0 : Int32))]) _
              refine XS.istore X38.here hx rfl (hb hby at_64) rfl (l' := #[.val (.int p1), .val (.int (p1.toUInt32.toUInt16.toUInt32.toInt32)), .val (.int (p1.toUInt32.toUInt16.toUInt32.toInt32)), .val (.int (1 : Int32)), .val (.int (0 : Int32))]) rfl ?_
              show own_S p e below T38 (mkF m 66 #[.val (.int p1), .val (.int (p1.toUInt32.toUInt16.toUInt32.toInt32)), .val (.int (p1.toUInt32.toUInt16.toUInt32.toInt32)), .val (.int (1 : Int32)), .val (.int (0 : Int32))] []) _
              refine XS.iloadN X38.here hx rfl (hb hby at_66) rfl ?_
              exact kt)
            obtain ⟨_, _, ⟨T122, L122, cc122, ss122⟩, -, X122, ⟨Lc122, hQ122, l122, y122, z122⟩, st122⟩ := Jvm.LawKit.callS X38 hx (y := (⟨"com/example/rowan/rowan/xslt/EncodedWriter$Repertoire", "mayNotHold", "(C)Z"⟩ : MethodName)) hown (mvT hZ (hw _ (List.mem_of_getElem? (i := 16) rfl))) (mvT hZ (hw _ (List.mem_of_getElem? (i := 17) rfl))) (mvT hZ (hw _ (List.mem_of_getElem? (i := 1) rfl))) (mvT hZ (hw _ (List.mem_of_getElem? (i := 18) rfl))) (by decide) (backOf (W := 0) (rm3 l Z a0 hw [] (p1.toUInt32.toUInt16.toUInt32.toInt32)  h0 n0 Z0 ) hZ (hw _ (List.mem_of_getElem? (i := 18) rfl)) (hw _ (List.mem_of_getElem? (i := 1) rfl)) (by decide) (by decide)) (g := (mkF m 67 #[.val (.int p1), .val (.int (p1.toUInt32.toUInt16.toUInt32.toInt32)), .val (.int (p1.toUInt32.toUInt16.toUInt32.toInt32)), .val (.int (1 : Int32)), .val (.int (0 : Int32))] [(.int (p1.toUInt32.toUInt16.toUInt32.toInt32))])) rfl (by rw [hml]; rfl) (argsL := [(.int (p1.toUInt32.toUInt16.toUInt32.toInt32))]) (rest := []) (lenOf pd_0 rfl) rfl (by show 2 * 0 + _ ≤ _; exact Nat.le_of_eq rfl) (hb hby at_67) (fun _ _ => ⟨rfl, eq38, (by decide : 0 + 0 ≤ _), (by decide : 0 + 0 ≤ _)⟩)
            dsimp only [Pt.U, Pt.locs, Pt.cells, Pt.slots] at X122 l122 y122 z122 st122 hQ122
            subst l122 y122 z122
            obtain ⟨rfl, Nq122, eq122⟩ := hQ122
            have N122 := Fr.app N38 Nq122
            have k123 : ∀ t, own_S p e below T122 (mkF m 70 #[.val (.int p1), .val (.int (p1.toUInt32.toUInt16.toUInt32.toInt32)), .val (.int (p1.toUInt32.toUInt16.toUInt32.toInt32)), .val (.int (1 : Int32)), .val (.int (0 : Int32))] [(.int (own_mnh (p1.toUInt32.toUInt16.toUInt32.toInt32)))]) t → Gl t := fun t kt => k121 t (st122 _ kt)
            have k124 : ∀ t, own_S p e below T122 (mkF m 84 #[.val (.int p1), .val (.int (p1.toUInt32.toUInt16.toUInt32.toInt32)), .val (.int (p1.toUInt32.toUInt16.toUInt32.toInt32)), .val (.int (1 : Int32)), .val (.int (0 : Int32))] [(.int (1 : Int32)), (.int (own_mnh (p1.toUInt32.toUInt16.toUInt32.toInt32)))]) t → Gl t := fun t kt => k123 t (by
              show own_S p e below T122 (mkF m 70 #[.val (.int p1), .val (.int (p1.toUInt32.toUInt16.toUInt32.toInt32)), .val (.int (p1.toUInt32.toUInt16.toUInt32.toInt32)), .val (.int (1 : Int32)), .val (.int (0 : Int32))] [(.int (own_mnh (p1.toUInt32.toUInt16.toUInt32.toInt32)))]) _
              refine XS.iloadN X122.here hx rfl (hb hby at_70) rfl ?_
              show own_S p e below T122 (mkF m 71 #[.val (.int p1), .val (.int (p1.toUInt32.toUInt16.toUInt32.toInt32)), .val (.int (p1.toUInt32.toUInt16.toUInt32.toInt32)), .val (.int (1 : Int32)), .val (.int (0 : Int32))] [(.int (1 : Int32)), (.int (own_mnh (p1.toUInt32.toUInt16.toUInt32.toInt32)))]) _
              refine XS.ifYes X122.here hx rfl (pc0 := 71) (pc' := 79) rfl (hb hby at_71) rfl ((if0 _ _).trans (feq (by decide : ¬ ((1 : Int32) = (0 : Int32)))).2) (by decide) (by decide) ?_
              show own_S p e below T122 (mkF m 79 #[.val (.int p1), .val (.int (p1.toUInt32.toUInt16.toUInt32.toInt32)), .val (.int (p1.toUInt32.toUInt16.toUInt32.toInt32)), .val (.int (1 : Int32)), .val (.int (0 : Int32))] [(.int (own_mnh (p1.toUInt32.toUInt16.toUInt32.toInt32)))]) _
              refine XS.iconst X122.here hx rfl (hb hby at_79) ?_
              show own_S p e below T122 (mkF m 80 #[.val (.int p1), .val (.int (p1.toUInt32.toUInt16.toUInt32.toInt32)), .val (.int (p1.toUInt32.toUInt16.toUInt32.toInt32)), .val (.int (1 : Int32)), .val (.int (0 : Int32))] [(.int (1 : Int32)), (.int (own_mnh (p1.toUInt32.toUInt16.toUInt32.toInt32)))]) _
              refine XS.goto X122.here hx rfl (pc0 := 80) (pc' := 84) rfl (hb hby at_80) (by decide) (by decide) ?_
              exact kt)
            have hc84_125 : (own_mnh (p1.toUInt32.toUInt16.toUInt32.toInt32)) = (1 : Int32) := by rw [own_law (c_i2c p1).2.1 (c_i2c p1).2.2, if_pos (show own_all _ from Or.inr (Or.inl hc22))]
            have k126 : ∀ t, own_S p e below T122 (mkF m 92 #[.val (.int p1), .val (.int (p1.toUInt32.toUInt16.toUInt32.toInt32)), .val (.int (p1.toUInt32.toUInt16.toUInt32.toInt32)), .val (.int (1 : Int32)), .val (.int (0 : Int32))] [(.int (1 : Int32))]) t → Gl t := fun t kt => k124 t (by
              show own_S p e below T122 (mkF m 84 #[.val (.int p1), .val (.int (p1.toUInt32.toUInt16.toUInt32.toInt32)), .val (.int (p1.toUInt32.toUInt16.toUInt32.toInt32)), .val (.int (1 : Int32)), .val (.int (0 : Int32))] [(.int (1 : Int32)), (.int (own_mnh (p1.toUInt32.toUInt16.toUInt32.toInt32)))]) _
              refine XS.icmpNo X122.here hx rfl (hb hby at_84) rfl (teq hc84_125).2 ?_
              show own_S p e below T122 (mkF m 87 #[.val (.int p1), .val (.int (p1.toUInt32.toUInt16.toUInt32.toInt32)), .val (.int (p1.toUInt32.toUInt16.toUInt32.toInt32)), .val (.int (1 : Int32)), .val (.int (0 : Int32))] []) _
              refine XS.iconst X122.here hx rfl (hb hby at_87) ?_
              show own_S p e below T122 (mkF m 88 #[.val (.int p1), .val (.int (p1.toUInt32.toUInt16.toUInt32.toInt32)), .val (.int (p1.toUInt32.toUInt16.toUInt32.toInt32)), .val (.int (1 : Int32)), .val (.int (0 : Int32))] [(.int (1 : Int32))]) _
              refine XS.goto X122.here hx rfl (pc0 := 88) (pc' := 92) rfl (hb hby at_88) (by decide) (by decide) ?_
              exact kt)
            obtain ⟨fs, hr, hrun, hended, hW, hsame⟩ := X122.leave (v := some (.int (1 : Int32))) (fun h => by rw [Bd.returns] at h; cases h)
            refine ⟨_, _, hGl _ (k126 _ (retN X122 hx (t := .boolean) Bd.returns (by simp) (hb hby at_92) hr)), hrun, hended, _, _, rfl, ?_, ⟨_, rfl⟩, hW, hsame.mono (by decide) (by decide)⟩
            show Q0 Z p1 w10 wAny w11 h0 n0 _ T122.heap _
            rw [eq122]
            exact ⟨rfl, N122⟩

set_option maxRecDepth 65536 in
set_option maxHeartbeats 40000000 in
theorem comes_1 {Post : Tables → Env → Array Value → State → Outcome → State → Prop} (hpost : ∀ tb e args s v u, (limb_1_1.after args s (.returned v) u = true ∧ limb_1_2.after args s (.returned v) u = true ∧ True) → FrameEnd s (.returned v) u (Jvm.fieldLocs frame_1_writes args s ++ Jvm.arrayLocs frame_1_arrays args s ++ Jvm.staticLocs frame_1_statics s) 0 0 → Post tb e args s (.returned v) u) :
    ArmFor flags0 classFile x code maxLocals ret World_1 tables_1 room_1 Calls_1 rest_1 Pre_1 Post := by
  intro l hfl _ _ p e ha hc hk s m args below hf hA hF happ hP
  obtain ⟨hcalls, hrest, hpre⟩ := hP
  obtain ⟨-, -, -, hnamed, -, -, -, hat⟩ := (Spec.applies_iff hf).mp happ
  obtain ⟨hg, hn⟩ := and_e (Cond.before_iff.mp (show (Jvm.Cond.and given_1 narrow_1).before args s = true from hpre))
  obtain ⟨gc, gr0⟩ := and_e hg
  obtain ⟨w0, rfl⟩ : ∃ w0 : Value, args = #[w0] := by
    have hs : args.size = 1 := by simpa [Cond.value, given_1] using gc
    obtain ⟨L⟩ := args
    match L, hs with
    | [w0], _ => exact ⟨w0, rfl⟩
  have hw := fun d (hd : d ∈ tables_1) => atoms_spec (ws := Jvm.Cond.code x code maxLocals ret :: tables_1) hat d (List.mem_cons_of_mem _ hd)
  have hfit : Fit s := fun {y c} hc i hi => by
    obtain ⟨ha, rfl⟩ := Array.getElem?_eq_some_iff.mp hc
    have q := List.all_eq_true.mp ((Array.all_eq_true_iff_forall_mem.mp hF) _ (Array.getElem_mem ha)) i (List.mem_range.mpr hi)
    simpa [Array.getElem?_eq_getElem hi] using q
  obtain ⟨i0, ei0⟩ := is_v gr0
  obtain rfl : w0 = (.int i0) := Option.some.inj ei0
  obtain ⟨m1, r1⟩ := and_e hn
  obtain ⟨m2, r2⟩ := and_e r1
  obtain ⟨m3, r3⟩ := and_e r2
  obtain ⟨m4, r4⟩ := and_e r3
  obtain ⟨m5, m6⟩ := and_e r4
  obtain ⟨w10, v10⟩ := exa_v m1
  obtain ⟨wAny, vAny⟩ := exa_v m2
  obtain ⟨w11, v11⟩ := exa_v m5
  have F10 := Fld.start ((fld_at v10).symm.trans (own_eqi m3))
  have FAny := Fld.start ((fld_at vAny).symm.trans (own_eqi m4))
  have F11 := Fld.start ((fld_at v11).symm.trans (own_eqi m6))
  obtain ⟨n, o, h1, h2, h3, _, L, rfl, ⟨rfl, N⟩, hq⟩ := rm0 l s _ hw tables_1 i0 w10 wAny w11 s.heap s.heap.size (Nat.le_refl _) (Sta.start v10 (Or.inr ⟨(hw _ (List.mem_of_getElem? (i := 1) rfl)), (hw _ (List.mem_of_getElem? (i := 2) rfl))⟩)) (Sta.start vAny (Or.inr ⟨(hw _ (List.mem_of_getElem? (i := 1) rfl)), (hw _ (List.mem_of_getElem? (i := 9) rfl))⟩)) (Sta.start v11 (Or.inr ⟨(hw _ (List.mem_of_getElem? (i := 1) rfl)), (hw _ (List.mem_of_getElem? (i := 15) rfl))⟩)) (Exa.start v10 m1) (Exa.start v11 m5) (Fld.ne F10 FAny (by decide)) (Fld.ne F10 F11 (by decide)) p e ha hc hk s m _ below hf ((Spec.applies_iff_loose hf).mp happ).1 ⟨rfl, State.Warmed39.refl s, rfl⟩ trivial
  refine ⟨n, _, h1, h2, h3, hpost _ _ _ _ _ _ ⟨Cond.after_iff.mpr rfl, Cond.after_iff.mpr (eq_i res_at (Term.int_eval (1)) rfl), trivial⟩ ⟨hq.1, hq.2.1, (hq.2.2.sift fun y hy => Or.inr (N y hy)).mono (by decide) (by decide)⟩⟩
theorem main_1_1 : Claimed_1_1 := comes_1 fun _ _ _ _ _ _ h hF => ⟨h.1, hF⟩
theorem main_1_2 : Claimed_1_2 := comes_1 fun _ _ _ _ _ _ h hF => ⟨h.2.1, hF⟩

end Jvm.Pilot.@@N@@
namespace Jvm.Pilot.@@N@@
open Jvm Jvm.ClassFile Sem Op Lib Jvm.Free Jvm.Stand Jvm.Pilot.@@N@@.Jvm.D
/-! MADE BY PROGRAM (witnessworld.py) out of the Statement's table words and the real class files: 13 classes; the members and pool entries that the words name. The judged class is class 1, her method 1. -/
namespace start1
open Jvm.ClassFile
def u (s : String) : CpInfo := .utf8 (stringToUtf16 s)
/-- a pool by its gaps: so many unusable entries, then the entry; so many at the end -/
def gap : Nat → List CpInfo → List CpInfo
  | 0, r => r
  | n + 1, r => .unusable :: gap n r
def poolList (es : List (Nat × CpInfo)) (last : Nat) : List CpInfo := es.foldr (fun e r => gap e.1 (e.2 :: r)) (gap last [])
def pool (es : List (Nat × CpInfo)) (last : Nat) : Array CpInfo := ⟨poolList es last⟩
def fileOf (pool : Array CpInfo) (this : Nat) (attrs : Array Attribute := #[]) (ms : Array MethodInfo := #[]) (fl : Nat := 33) (sup : Nat := 0) (ifs : Array Nat := #[]) (fds : Array FieldInfo := #[]) : ClassFile where
  minorVersion := 0
  majorVersion := 65
  constantPool := pool
  accessFlags := fl
  thisClass := this
  superClass := sup
  interfaces := ifs
  fields := fds
  methods := ms
  attributes := attrs
def plain (name : String) (sup : Option ClassId) : Class where
  name := name
  kind := .ordinary
  loader := none
  accessFlags := 33
  super := sup
  interfaces := #[]
  cf := none
  fields := #[]
  methods := #[]
  instanceTypes := #[]
  staticTypes := #[]
  resolved := #[]
  callSites := []
  init := .initialized
  statics := none
  mirror := none

def pool0 : Array CpInfo := pool [(5, u "<init>"), (0, u "()V"), (1, .class_ 10), (1, u "java/lang/Object")] 113

def k0m0 : Method := { name := "<init>", desc := "()V", sig := { parameters := [], returnType := none }, accessFlags := 1, code := none }
/-- java/lang/Object -/
def k0 : Class := { plain "java/lang/Object" none with
  accessFlags := 33
  interfaces := #[]
  cf := some (fileOf pool0 8 #[] #[{ accessFlags := 1, nameIndex := 5, descriptorIndex := 6, attributes := #[] }] 33 0 #[] #[])
  fields := #[]
  methods := #[k0m0]
  instanceTypes := #[]
  staticTypes := #[]
  resolved := Array.replicate 124 none
  statics := none }

def pool1 : Array CpInfo := pool [(2, .class_ 4), (1, u "java/lang/Object"), (0, u "<init>"), (0, u "()V"), (0, .fieldref 8 9), (0, .class_ 10), (0, .nameAndType 11 12), (0, u "com/example/rowan/rowan/xslt/EncodedWriter$Repertoire"), (0, u "XML_1_0"), (0, u "Lcom/example/rowan/rowan/xslt/EncodedWriter$Repertoire;"), (0, .methodref 8 14), (0, .nameAndType 15 16), (0, u "holds"), (0, u "(I)Z"), (0, .fieldref 8 18), (0, .nameAndType 19 12), (0, u "XML_1_1"), (0, .methodref 8 21), (0, .nameAndType 22 16), (0, u "onlyAsReference"), (0, .methodref 8 24), (0, .nameAndType 25 16), (0, u "endsLine"), (0, .methodref 8 27), (0, .nameAndType 28 29), (0, u "mayNotHold"), (0, u "(C)Z"), (0, .class_ 31), (0, u "com/example/rowan/rowan/xslt/RepertoireMayNotHoldPinLaw"), (2, u "law")] 7

def k1m0 : Method := { name := "<init>", desc := "()V", sig := { parameters := [], returnType := none }, accessFlags := 2, code := none }
def k1c1 : Code := { maxStack := 2, maxLocals := 5, code := code, exceptionTable := #[], attributes := #[] }
def k1m1 : Method := { name := "law", desc := "(I)Z", sig := { parameters := [.int], returnType := some .boolean }, accessFlags := 9, code := some k1c1 }
/-- com/example/rowan/rowan/xslt/RepertoireMayNotHoldPinLaw -/
def k1 : Class := { plain "com/example/rowan/rowan/xslt/RepertoireMayNotHoldPinLaw" (some 0) with
  accessFlags := 49
  interfaces := #[]
  cf := some (fileOf pool1 30 #[] #[{ accessFlags := 2, nameIndex := 5, descriptorIndex := 6, attributes := #[] }, { accessFlags := 9, nameIndex := 34, descriptorIndex := 16, attributes := #[] }] 49 2 #[] #[])
  fields := #[]
  methods := #[k1m0, k1m1]
  instanceTypes := #[]
  staticTypes := #[]
  resolved := Array.replicate 42 none
  statics := none }

def pool2 : Array CpInfo := pool [(1, .class_ 2), (0, u "java/lang/constant/Constable"), (0, .class_ 4), (0, u "java/lang/Object")] 6

/-- java/lang/constant/Constable -/
def k2 : Class := { plain "java/lang/constant/Constable" (some 0) with
  accessFlags := 1537
  interfaces := #[]
  cf := some (fileOf pool2 1 #[] #[] 1537 3 #[] #[])
  fields := #[]
  methods := #[]
  instanceTypes := #[]
  staticTypes := #[]
  resolved := Array.replicate 11 none
  statics := none }

def pool3 : Array CpInfo := pool [(1, .class_ 2), (0, u "java/lang/Comparable"), (0, .class_ 4), (0, u "java/lang/Object")] 7

/-- java/lang/Comparable -/
def k3 : Class := { plain "java/lang/Comparable" (some 0) with
  accessFlags := 1537
  interfaces := #[]
  cf := some (fileOf pool3 1 #[] #[] 1537 3 #[] #[])
  fields := #[]
  methods := #[]
  instanceTypes := #[]
  staticTypes := #[]
  resolved := Array.replicate 12 none
  statics := none }

def pool4 : Array CpInfo := pool [(1, .class_ 2), (0, u "java/io/Serializable"), (0, .class_ 4), (0, u "java/lang/Object")] 2

/-- java/io/Serializable -/
def k4 : Class := { plain "java/io/Serializable" (some 0) with
  accessFlags := 1537
  interfaces := #[]
  cf := some (fileOf pool4 1 #[] #[] 1537 3 #[] #[])
  fields := #[]
  methods := #[]
  instanceTypes := #[]
  staticTypes := #[]
  resolved := Array.replicate 7 none
  statics := none }

def pool5 : Array CpInfo := pool [(2, .class_ 4), (1, u "java/lang/Enum"), (0, u "name"), (0, u "Ljava/lang/String;"), (2, u "ordinal"), (0, u "I"), (1, .class_ 14), (1, u "java/lang/Object"), (4, u "hash"), (86, .class_ 108), (1, u "java/lang/Enum$EnumDesc"), (2, .class_ 112), (0, u "java/lang/constant/Constable"), (0, .class_ 114), (0, u "java/lang/Comparable"), (0, .class_ 116), (0, u "java/io/Serializable")] 87

/-- java/lang/Enum -/
def k5 : Class := { plain "java/lang/Enum" (some 0) with
  accessFlags := 1057
  interfaces := #[2, 3, 4]
  cf := some (fileOf pool5 2 #[.nestMembers #[106]] #[] 1057 12 #[111, 113, 115] #[{ accessFlags := 18, nameIndex := 5, descriptorIndex := 6, attributes := #[] }, { accessFlags := 18, nameIndex := 9, descriptorIndex := 10, attributes := #[] }, { accessFlags := 2, nameIndex := 19, descriptorIndex := 10, attributes := #[] }])
  fields := #[{ name := "name", type := (.object "java/lang/String"), accessFlags := 18, slot := 0, constantValue := 0 }, { name := "ordinal", type := .int, accessFlags := 18, slot := 1, constantValue := 0 }, { name := "hash", type := .int, accessFlags := 2, slot := 2, constantValue := 0 }]
  methods := #[]
  instanceTypes := #[(.object "java/lang/String"), .int, .int]
  staticTypes := #[]
  resolved := Array.replicate 204 none
  statics := none }

def pool6 : Array CpInfo := pool [(1, .class_ 2), (0, u "com/example/rowan/rowan/xslt/EncodedWriter"), (0, .class_ 4), (0, u "com/example/rowan/rowan/xslt/EncodedWriter$Repertoire"), (0, .fieldref 3 6), (0, .nameAndType 7 8), (0, u "ANY"), (0, u "Lcom/example/rowan/rowan/xslt/EncodedWriter$Repertoire;"), (2, u "XML_1_0"), (0, .fieldref 3 13), (0, .nameAndType 14 8), (0, u "XML_1_1"), (2, u "UNDECLARED_XML_1_1"), (2, u "$VALUES"), (0, u "[Lcom/example/rowan/rowan/xslt/EncodedWriter$Repertoire;"), (6, .class_ 30), (1, u "java/lang/Enum"), (8, u "language"), (0, u "Ljava/lang/String;"), (2, u "attr"), (24, .integer 65534), (0, .methodref 70 71), (0, .class_ 72), (0, .nameAndType 73 74), (0, u "com/example/rowan/rowan/xpath/XmlCharacters"), (0, u "isWhitespace"), (0, u "(C)Z"), (0, .integer 65535), (0, .methodref 3 77), (0, .nameAndType 78 79), (0, u "readByXml11"), (0, u "()Z"), (32, u "mayNotHold"), (0, u "holds"), (0, u "(I)Z"), (0, u "onlyAsReference"), (0, u "endsLine")] 8

def k6c0 : Code := { maxStack := 2, maxLocals := 1, code := prog_133_method_5_code, exceptionTable := #[], attributes := #[] }
def k6m0 : Method := { name := "mayNotHold", desc := "(C)Z", sig := { parameters := [.char], returnType := some .boolean }, accessFlags := 8, code := some k6c0 }
def k6c1 : Code := { maxStack := 2, maxLocals := 3, code := prog_133_method_6_code, exceptionTable := #[], attributes := #[] }
def k6m1 : Method := { name := "holds", desc := "(I)Z", sig := { parameters := [.int], returnType := some .boolean }, accessFlags := 0, code := some k6c1 }
def k6c2 : Code := { maxStack := 2, maxLocals := 2, code := prog_133_method_7_code, exceptionTable := #[], attributes := #[] }
def k6m2 : Method := { name := "onlyAsReference", desc := "(I)Z", sig := { parameters := [.int], returnType := some .boolean }, accessFlags := 0, code := some k6c2 }
def k6c3 : Code := { maxStack := 2, maxLocals := 2, code := prog_133_method_8_code, exceptionTable := #[], attributes := #[] }
def k6m3 : Method := { name := "endsLine", desc := "(I)Z", sig := { parameters := [.int], returnType := some .boolean }, accessFlags := 0, code := some k6c3 }
def k6c4 : Code := { maxStack := 2, maxLocals := 1, code := prog_133_method_9_code, exceptionTable := #[], attributes := #[] }
def k6m4 : Method := { name := "readByXml11", desc := "()Z", sig := { parameters := [], returnType := some .boolean }, accessFlags := 2, code := some k6c4 }
/-- com/example/rowan/rowan/xslt/EncodedWriter$Repertoire -/
def k6 : Class := { plain "com/example/rowan/rowan/xslt/EncodedWriter$Repertoire" (some 5) with
  accessFlags := 16432
  interfaces := #[]
  cf := some (fileOf pool6 3 #[.nestHost 1] #[{ accessFlags := 8, nameIndex := 112, descriptorIndex := 74, attributes := #[] }, { accessFlags := 0, nameIndex := 113, descriptorIndex := 114, attributes := #[] }, { accessFlags := 0, nameIndex := 115, descriptorIndex := 114, attributes := #[] }, { accessFlags := 0, nameIndex := 116, descriptorIndex := 114, attributes := #[] }, { accessFlags := 2, nameIndex := 78, descriptorIndex := 79, attributes := #[] }] 16432 28 #[] #[{ accessFlags := 16409, nameIndex := 7, descriptorIndex := 8, attributes := #[] }, { accessFlags := 16409, nameIndex := 11, descriptorIndex := 8, attributes := #[] }, { accessFlags := 16409, nameIndex := 14, descriptorIndex := 8, attributes := #[] }, { accessFlags := 16409, nameIndex := 17, descriptorIndex := 8, attributes := #[] }, { accessFlags := 18, nameIndex := 39, descriptorIndex := 40, attributes := #[] }, { accessFlags := 18, nameIndex := 43, descriptorIndex := 40, attributes := #[] }, { accessFlags := 4122, nameIndex := 20, descriptorIndex := 21, attributes := #[] }])
  fields := #[{ name := "ANY", type := (.object "com/example/rowan/rowan/xslt/EncodedWriter$Repertoire"), accessFlags := 16409, slot := 0, constantValue := 0 }, { name := "XML_1_0", type := (.object "com/example/rowan/rowan/xslt/EncodedWriter$Repertoire"), accessFlags := 16409, slot := 1, constantValue := 0 }, { name := "XML_1_1", type := (.object "com/example/rowan/rowan/xslt/EncodedWriter$Repertoire"), accessFlags := 16409, slot := 2, constantValue := 0 }, { name := "UNDECLARED_XML_1_1", type := (.object "com/example/rowan/rowan/xslt/EncodedWriter$Repertoire"), accessFlags := 16409, slot := 3, constantValue := 0 }, { name := "language", type := (.object "java/lang/String"), accessFlags := 18, slot := 3, constantValue := 0 }, { name := "attr", type := (.object "java/lang/String"), accessFlags := 18, slot := 4, constantValue := 0 }, { name := "$VALUES", type := (.array (.object "com/example/rowan/rowan/xslt/EncodedWriter$Repertoire")), accessFlags := 4122, slot := 4, constantValue := 0 }]
  methods := #[k6m0, k6m1, k6m2, k6m3, k6m4]
  instanceTypes := #[(.object "java/lang/String"), .int, .int, (.object "java/lang/String"), (.object "java/lang/String")]
  staticTypes := #[(.object "com/example/rowan/rowan/xslt/EncodedWriter$Repertoire"), (.object "com/example/rowan/rowan/xslt/EncodedWriter$Repertoire"), (.object "com/example/rowan/rowan/xslt/EncodedWriter$Repertoire"), (.object "com/example/rowan/rowan/xslt/EncodedWriter$Repertoire"), (.array (.object "com/example/rowan/rowan/xslt/EncodedWriter$Repertoire"))]
  resolved := Array.replicate 125 none
  statics := some 0 }

def pool7 : Array CpInfo := pool [(2, .class_ 4), (1, u "java/lang/Object"), (0, u "<init>"), (0, u "()V"), (11, .class_ 20), (1, u "com/example/rowan/rowan/xpath/XmlCharacters"), (0, u "isWhitespace"), (0, u "(C)Z"), (23, u "NAME_START"), (0, u "[I"), (20, u "NAME_PART")] 39

def k7m0 : Method := { name := "<init>", desc := "()V", sig := { parameters := [], returnType := none }, accessFlags := 2, code := none }
def k7c1 : Code := { maxStack := 2, maxLocals := 1, code := prog_105_method_2_code, exceptionTable := #[], attributes := #[] }
def k7m1 : Method := { name := "isWhitespace", desc := "(C)Z", sig := { parameters := [.char], returnType := some .boolean }, accessFlags := 9, code := some k7c1 }
/-- com/example/rowan/rowan/xpath/XmlCharacters -/
def k7 : Class := { plain "com/example/rowan/rowan/xpath/XmlCharacters" (some 0) with
  accessFlags := 49
  interfaces := #[]
  cf := some (fileOf pool7 18 #[] #[{ accessFlags := 2, nameIndex := 5, descriptorIndex := 6, attributes := #[] }, { accessFlags := 9, nameIndex := 21, descriptorIndex := 22, attributes := #[] }] 49 2 #[] #[{ accessFlags := 26, nameIndex := 46, descriptorIndex := 47, attributes := #[] }, { accessFlags := 26, nameIndex := 68, descriptorIndex := 47, attributes := #[] }])
  fields := #[{ name := "NAME_START", type := (.array .int), accessFlags := 26, slot := 0, constantValue := 0 }, { name := "NAME_PART", type := (.array .int), accessFlags := 26, slot := 1, constantValue := 0 }]
  methods := #[k7m0, k7m1]
  instanceTypes := #[]
  staticTypes := #[(.array .int), (.array .int)]
  resolved := Array.replicate 108 none
  statics := none }

def pool8 : Array CpInfo := pool [(1, u "java/lang/Cloneable"), (0, .class_ 1), (0, u "java/lang/Object"), (0, .class_ 3)] 3

/-- java/lang/Cloneable -/
def k8 : Class := { plain "java/lang/Cloneable" (some 0) with
  accessFlags := 1537
  interfaces := #[]
  cf := some (fileOf pool8 2 #[] #[] 1537 4 #[] #[])
  fields := #[]
  methods := #[]
  instanceTypes := #[]
  staticTypes := #[]
  resolved := Array.replicate 8 none
  statics := none }

/-- the primitive byte -/
def k9 : Class := { plain "byte" none with kind := .primitive 'B', accessFlags := 0x411 }
/-- [B -/
def k10 : Class := { plain "[B" (some 0) with kind := .array 9 .byte, interfaces := #[8, 4], accessFlags := 1041 }

/-- the primitive int -/
def k11 : Class := { plain "int" none with kind := .primitive 'I', accessFlags := 0x411 }
/-- [I -/
def k12 : Class := { plain "[I" (some 0) with kind := .array 11 .int, interfaces := #[8, 4], accessFlags := 1041 }

def heap : Heap := #[{ cls := 6, slots := #[.ref 1, .ref 2, .ref 3, .null, .null], vm := .statics 6 },
  { cls := 6, slots := #[.null, .int 0, .int 0, .null, .null], vm := .none },
  { cls := 6, slots := #[.null, .int 1, .int 0, .null, .null], vm := .none },
  { cls := 6, slots := #[.null, .int 2, .int 0, .null, .null], vm := .none }]
def classes : Array Class := #[k0, k1, k2, k3, k4, k5, k6, k7, k8, k9, k10, k11, k12]
def interned : List (Array UInt16 × Addr) := []
def slotsUsed : Nat := 20
def theMethod : MethodId := ⟨1, 1⟩
def args0 : Array Value := #[.int 5]
def aboutOver (below : List Frame) : State where
  vm := { classes := classes, interned := interned.toArray }
  heap := heap
  slotsUsed := slotsUsed
  threads := #[{ frames := .invoking theMethod args0 :: below }]
def below0 : List Frame := [.native { method := ⟨0, 0⟩, args := #[] }]
def about1 : State := aboutOver below0
def p0 : Program := .bare "" "" ""
def e0 : Env := launch0.env 0 0 0
theorem w_frames : about1.frames = Frame.invoking theMethod args0 :: below0 := rfl
set_option maxRecDepth 65536 in
theorem w_args : argsFit about1.vm theMethod args0 = true := by decide +kernel
set_option maxRecDepth 65536 in
theorem w_heap : heapFits about1 = true := by decide +kernel
set_option maxRecDepth 65536 in
theorem w_runnable : about1.curStatus? = some .runnable := by decide +kernel
set_option maxRecDepth 65536 in
theorem w_alone : about1.alone = true := by decide +kernel
set_option maxRecDepth 65536 in
theorem w_named : about1.methodNamed? x = some theMethod := by decide +kernel
set_option maxRecDepth 65536 in
theorem w_hears : about1.hears theMethod below0 = true := by decide +kernel
set_option maxRecDepth 65536 in
theorem w_ripe : about1.ripe theMethod args0 below0 = true := by decide +kernel
theorem w_running : about1.status = .running := rfl
set_option maxRecDepth 65536 in
theorem w_room : about1.hasRoom e0.platform room_1 = true :=
  launch0.hasRoom_least _ room_1 (by decide +kernel) (by decide +kernel) (by decide +kernel) (by decide +kernel) (by decide +kernel) (by decide +kernel)
theorem allAtoms_all (ts : List Jvm.Cond) (a : Array Jvm.Value) (st : Jvm.State) : (allAtoms ts).before a st = ts.all (fun c => c.before a st) := by
  induction ts with
  | nil => rfl
  | cons c t ih =>
    show (Jvm.Cond.and c (allAtoms t)).before a st = _
    rw [Jvm.Cond.before_and, ih, List.all_cons]
def words1 : List Jvm.Cond := Jvm.Cond.code x code maxLocals ret :: tables_1
/-- a 'code' word, met by the world's own term for the bytes: nothing is compared byte by byte -/
theorem code_word {y : MethodName} {bytes : ByteArray} {mx : Nat} {rt : Option FieldType} {a : Array Value} {s : State} {m : MethodId} {meth : Method} {c : Code} (h1 : s.methodNamed? y = some m) (h2 : s.vm.method? m = some meth) (h3 : meth.code = some c) (h4 : c.code = bytes)
    (h5 : (c.maxLocals == mx && c.exceptionTable.isEmpty && decide (c.maxStack ≤ mostOperands) && decide (meth.sig.returnType = rt) && !meth.locks && decide (parseMethodDescriptor y.desc = some meth.sig)) = true) : (Jvm.Cond.code y bytes mx rt).before a s = true := by
  simp only [Bool.and_eq_true, beq_iff_eq, Bool.not_eq_true', decide_eq_true_eq] at h5
  obtain ⟨⟨⟨⟨⟨g1, g2⟩, g3⟩, g4⟩, g5⟩, g6⟩ := h5
  simp [Cond.before, Cond.holds, Cond.value, h1, h2, h3, h4, g1, g2, g3, g4, g5, g6]
def isCode : Jvm.Cond → Bool
  | .code _ _ _ _ => true
  | _ => false
theorem all_split {L : List Jvm.Cond} {P : Jvm.Cond → Bool} (h1 : L.all (fun c => isCode c || P c) = true) (h2 : ∀ c ∈ L.filter isCode, P c = true) : L.all P = true := by
  refine List.all_eq_true.mpr fun c hc => ?_
  have h := List.all_eq_true.mp h1 c hc
  rcases Bool.eq_false_or_eq_true (isCode c) with hi | hi
  · exact h2 c (List.mem_filter.mpr ⟨hc, hi⟩)
  · simpa [hi] using h
set_option maxRecDepth 65536 in
theorem w_c0 : (Jvm.Cond.code x code maxLocals ret).before args0 about1 = true := code_word (m := ⟨1, 1⟩) (meth := k1m1) (c := k1c1) (by decide +kernel) rfl rfl rfl (by decide +kernel)
set_option maxRecDepth 65536 in
theorem w_c1 : (Jvm.Cond.code ({ cls := "com/example/rowan/rowan/xslt/EncodedWriter$Repertoire", name := "holds", desc := "(I)Z" } : Jvm.MethodName) prog_133_method_6_code (3 : Nat) (Option.some Jvm.ClassFile.FieldType.boolean)).before args0 about1 = true := code_word (m := ⟨6, 1⟩) (meth := k6m1) (c := k6c1) (by decide +kernel) rfl rfl rfl (by decide +kernel)
set_option maxRecDepth 65536 in
theorem w_c2 : (Jvm.Cond.code ({ cls := "com/example/rowan/rowan/xpath/XmlCharacters", name := "isWhitespace", desc := "(C)Z" } : Jvm.MethodName) prog_105_method_2_code (1 : Nat) (Option.some Jvm.ClassFile.FieldType.boolean)).before args0 about1 = true := code_word (m := ⟨7, 1⟩) (meth := k7m1) (c := k7c1) (by decide +kernel) rfl rfl rfl (by decide +kernel)
set_option maxRecDepth 65536 in
theorem w_c3 : (Jvm.Cond.code ({ cls := "com/example/rowan/rowan/xslt/EncodedWriter$Repertoire", name := "mayNotHold", desc := "(C)Z" } : Jvm.MethodName) prog_133_method_5_code (1 : Nat) (Option.some Jvm.ClassFile.FieldType.boolean)).before args0 about1 = true := code_word (m := ⟨6, 0⟩) (meth := k6m0) (c := k6c0) (by decide +kernel) rfl rfl rfl (by decide +kernel)
set_option maxRecDepth 65536 in
theorem w_c4 : (Jvm.Cond.code ({ cls := "com/example/rowan/rowan/xslt/EncodedWriter$Repertoire", name := "onlyAsReference", desc := "(I)Z" } : Jvm.MethodName) prog_133_method_7_code (2 : Nat) (Option.some Jvm.ClassFile.FieldType.boolean)).before args0 about1 = true := code_word (m := ⟨6, 2⟩) (meth := k6m2) (c := k6c2) (by decide +kernel) rfl rfl rfl (by decide +kernel)
set_option maxRecDepth 65536 in
theorem w_c5 : (Jvm.Cond.code ({ cls := "com/example/rowan/rowan/xslt/EncodedWriter$Repertoire", name := "readByXml11", desc := "()Z" } : Jvm.MethodName) prog_133_method_9_code (1 : Nat) (Option.some Jvm.ClassFile.FieldType.boolean)).before args0 about1 = true := code_word (m := ⟨6, 4⟩) (meth := k6m4) (c := k6c4) (by decide +kernel) rfl rfl rfl (by decide +kernel)
set_option maxRecDepth 65536 in
theorem w_c6 : (Jvm.Cond.code ({ cls := "com/example/rowan/rowan/xslt/EncodedWriter$Repertoire", name := "endsLine", desc := "(I)Z" } : Jvm.MethodName) prog_133_method_8_code (2 : Nat) (Option.some Jvm.ClassFile.FieldType.boolean)).before args0 about1 = true := code_word (m := ⟨6, 3⟩) (meth := k6m3) (c := k6c3) (by decide +kernel) rfl rfl rfl (by decide +kernel)
def codes1 : List Jvm.Cond := [Jvm.Cond.code x code maxLocals ret, Jvm.Cond.code ({ cls := "com/example/rowan/rowan/xslt/EncodedWriter$Repertoire", name := "holds", desc := "(I)Z" } : Jvm.MethodName) prog_133_method_6_code (3 : Nat) (Option.some Jvm.ClassFile.FieldType.boolean), Jvm.Cond.code ({ cls := "com/example/rowan/rowan/xpath/XmlCharacters", name := "isWhitespace", desc := "(C)Z" } : Jvm.MethodName) prog_105_method_2_code (1 : Nat) (Option.some Jvm.ClassFile.FieldType.boolean), Jvm.Cond.code ({ cls := "com/example/rowan/rowan/xslt/EncodedWriter$Repertoire", name := "mayNotHold", desc := "(C)Z" } : Jvm.MethodName) prog_133_method_5_code (1 : Nat) (Option.some Jvm.ClassFile.FieldType.boolean), Jvm.Cond.code ({ cls := "com/example/rowan/rowan/xslt/EncodedWriter$Repertoire", name := "onlyAsReference", desc := "(I)Z" } : Jvm.MethodName) prog_133_method_7_code (2 : Nat) (Option.some Jvm.ClassFile.FieldType.boolean), Jvm.Cond.code ({ cls := "com/example/rowan/rowan/xslt/EncodedWriter$Repertoire", name := "readByXml11", desc := "()Z" } : Jvm.MethodName) prog_133_method_9_code (1 : Nat) (Option.some Jvm.ClassFile.FieldType.boolean), Jvm.Cond.code ({ cls := "com/example/rowan/rowan/xslt/EncodedWriter$Repertoire", name := "endsLine", desc := "(I)Z" } : Jvm.MethodName) prog_133_method_8_code (2 : Nat) (Option.some Jvm.ClassFile.FieldType.boolean)]
set_option maxRecDepth 65536 in
theorem codes_eq : words1.filter isCode = codes1 := rfl
theorem w_codes : ∀ c ∈ words1.filter isCode, c.before args0 about1 = true := by
  rw [codes_eq]
  intro c hc
  simp only [codes1, List.mem_cons, List.not_mem_nil, or_false] at hc
  rcases hc with rfl | rfl | rfl | rfl | rfl | rfl | rfl
  · exact w_c0
  · exact w_c1
  · exact w_c2
  · exact w_c3
  · exact w_c4
  · exact w_c5
  · exact w_c6
set_option maxRecDepth 65536 in
theorem w_t1 : (words1.take 24).all (fun c => isCode c || c.before args0 about1) = true := by decide +kernel
set_option maxRecDepth 65536 in
theorem w_t2 : (words1.drop 24).all (fun c => isCode c || c.before args0 about1) = true := by decide +kernel
theorem w_tables : (allAtoms (Jvm.Cond.code x code maxLocals ret :: tables_1)).before args0 about1 = true := by
  rw [allAtoms_all]
  show words1.all (fun c => c.before args0 about1) = true
  refine all_split ?_ w_codes
  rw [← List.take_append_drop 24 words1, List.all_append, w_t1, w_t2]
  rfl
set_option maxRecDepth 65536 in
theorem w_case : (Jvm.Cond.and given_1 narrow_1).before args0 about1 = true := by decide +kernel
theorem w_applies : (headSpec (Jvm.Cond.code x code maxLocals ret :: tables_1) room_1).applies x e0.platform about1 = true :=
  (Spec.applies_iff w_frames).mpr ⟨w_running, w_runnable, w_alone, w_named, w_hears, w_ripe, w_room, w_tables⟩
theorem atStart : AtStart classFile x code maxLocals ret World_1 tables_1 room_1 Calls_1 rest_1 Pre_1 launch0 p0 e0 about1 theMethod args0 below0 :=
  ⟨lists_1, trivial, launch0.admits_env _ _ _, launch0.least_env, fairChoices_fair.cas, fairChoices_fair.clock, w_frames, w_args, w_heap, w_applies, trivial, trivial, w_case⟩
end start1
theorem witness_1 : WitnessClaimed_1 := ⟨start1.p0, start1.e0, start1.about1, start1.theMethod, start1.args0, start1.below0, start1.atStart⟩
end Jvm.Pilot.@@N@@
