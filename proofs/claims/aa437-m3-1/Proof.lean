import JvmDerived
import JvmDerived.Pilot.@@N@@Statement
import JvmDerived.Pilot.@@N@@Code
set_option linter.unusedVariables false
set_option linter.unusedSimpArgs false

namespace Jvm.RoadKit
open Sem ClassFile Op Lib Jvm.Stand Jvm.Free Jvm.LawKit
section New
variable {p : Program} {l : Launch} {e : Env} {R : Room} {s : State} {m : MethodId} {args : Array Value} {below : List Frame} {meth : Method} {c : Code} {T : State} {locs : List Loc} {cells slots : Nat}
theorem retI (X : Stand p l e R s m args below meth c T locs cells slots) (hx : p.tables.exec = Jvm.exec) {pc : Nat} {Ls : Array Slot} {z : Int32} {rest : List Value} (hret : meth.sig.returnType = some .int) (hd : decode c.code pc = .ok (.ireturn, 1)) {fs : List Frame}
    (hl : ∀ (f : JFrame) (acts : List Action), f.method = m → f.locked = none → f.entered = [] → (doReturn e (T.setTop f) acts (some (.int z))).1 = T.setFrames fs) : Steps p.tables e below (T.setTop (mkF m pc Ls (.int z :: rest))) (T.setFrames fs) := by
  have hm' : T.vm.method? m = some meth := X.method'
  have hn : narrow .int (.int z) = .int z := rfl
  show Steps p.tables e below (T.setTop { method := m, pc := pc, locals := Ls, stack := _ :: rest, locked := none }) _
  jvm_step X.here [X.here.top, hx, hd, hm', hret, hn]
  first | (intro acts; rw [hl _ acts rfl rfl rfl]) | rw [hl _ _ rfl rfl rfl]
  exact Steps.refl _
end New
end Jvm.RoadKit

namespace Jvm.Pilot.@@N@@
open Jvm Jvm.ClassFile Sem Op Lib Jvm.Free Jvm.Stand Jvm.LawKit Jvm.RoadKit Bundle Jvm.Pilot.@@N@@.Jvm.D
abbrev own_S (p : Program) (e : Env) (below : List Frame) (T : State) (f : JFrame) (t : State) : Prop := Steps p.tables e below (T.setTop f) t

theorem own_eqi {args : Array Value} {first s : State} {o : Option Outcome} {idx : List Nat} {t : Term} {k : Int32} (h : (Jvm.Cond.eq t (Term.int k)).value args first o s idx = some true) : t.eval args first o idx s = some (.int k) := by
  simp only [Jvm.Cond.value, Term.eval] at h
  cases ht : t.eval args first o idx s with
  | none => simp [ht] at h
  | some x => cases x <;> simp [ht] at h; rw [h]
theorem own_eql {args : Array Value} {first s : State} {o : Option Outcome} {idx : List Nat} {t : Term} {k : Int64} (h : (Jvm.Cond.eq t (Term.long k)).value args first o s idx = some true) : t.eval args first o idx s = some (.long k) := by
  simp only [Jvm.Cond.value, Term.eval] at h
  cases ht : t.eval args first o idx s with
  | none => simp [ht] at h
  | some x => cases x <;> simp [ht] at h; rw [h]

theorem own_fin {c : Int32} {N : Nat} (h0 : 0 ≤ c.toInt) (h : c.toInt < N) : ∃ n : Fin N, c = Int32.ofInt (n.1 : Int) :=
  ⟨⟨c.toInt.toNat, by omega⟩, by rw [Int.toNat_of_nonneg h0, Int32.ofInt_toInt]⟩

def own_takes (lo hi c : Int32) : Int32 := if c < lo then 0 else if hi < c then 0 else 1
theorem own_max (c : Int32) : ¬ (2147483647 : Int32) < c := by
  rw [Int32.lt_iff_toInt_lt]
  have h : (2147483647 : Int32).toInt = 2147483647 := by decide
  have := rng32 c
  omega
def own_exp (lo hi c : Int32) : Int32 := if c < lo then 0 else if hi = (2147483647 : Int32) then 1 else if hi < c then 0 else 1
theorem own_te (lo hi c : Int32) : own_takes lo hi c = own_exp lo hi c := by
  unfold own_takes own_exp
  by_cases h : hi = (2147483647 : Int32)
  · subst h; rw [if_neg (own_max c), if_pos rfl]
  · rw [if_neg h]
def own_cnt (c m : Int32) : Int32 := if (m &&& (1 : Int32)) = (0 : Int32) then c else ((c &&& (7 : Int32)) - (1 : Int32))
abbrev own_i (p : Int32) : Int32 := ((p &&& (2147483647 : Int32)) % (27 : Int32))
theorem own_27 : ∀ n : Fin 27, (Int32.ofInt (n.1 : Int)) = (0 : Int32) ∨ (Int32.ofInt (n.1 : Int)) = (1 : Int32) ∨ (Int32.ofInt (n.1 : Int)) = (2 : Int32) ∨ (Int32.ofInt (n.1 : Int)) = (3 : Int32) ∨ (Int32.ofInt (n.1 : Int)) = (4 : Int32) ∨ (Int32.ofInt (n.1 : Int)) = (5 : Int32) ∨ (Int32.ofInt (n.1 : Int)) = (6 : Int32) ∨ (Int32.ofInt (n.1 : Int)) = (7 : Int32) ∨ (Int32.ofInt (n.1 : Int)) = (8 : Int32) ∨ (Int32.ofInt (n.1 : Int)) = (9 : Int32) ∨ (Int32.ofInt (n.1 : Int)) = (10 : Int32) ∨ (Int32.ofInt (n.1 : Int)) = (11 : Int32) ∨ (Int32.ofInt (n.1 : Int)) = (12 : Int32) ∨ (Int32.ofInt (n.1 : Int)) = (13 : Int32) ∨ (Int32.ofInt (n.1 : Int)) = (14 : Int32) ∨ (Int32.ofInt (n.1 : Int)) = (15 : Int32) ∨ (Int32.ofInt (n.1 : Int)) = (16 : Int32) ∨ (Int32.ofInt (n.1 : Int)) = (17 : Int32) ∨ (Int32.ofInt (n.1 : Int)) = (18 : Int32) ∨ (Int32.ofInt (n.1 : Int)) = (19 : Int32) ∨ (Int32.ofInt (n.1 : Int)) = (20 : Int32) ∨ (Int32.ofInt (n.1 : Int)) = (21 : Int32) ∨ (Int32.ofInt (n.1 : Int)) = (22 : Int32) ∨ (Int32.ofInt (n.1 : Int)) = (23 : Int32) ∨ (Int32.ofInt (n.1 : Int)) = (24 : Int32) ∨ (Int32.ofInt (n.1 : Int)) = (25 : Int32) ∨ (Int32.ofInt (n.1 : Int)) = (26 : Int32) := by decide +kernel
theorem own_all (p : Int32) : own_i p = (0 : Int32) ∨ own_i p = (1 : Int32) ∨ own_i p = (2 : Int32) ∨ own_i p = (3 : Int32) ∨ own_i p = (4 : Int32) ∨ own_i p = (5 : Int32) ∨ own_i p = (6 : Int32) ∨ own_i p = (7 : Int32) ∨ own_i p = (8 : Int32) ∨ own_i p = (9 : Int32) ∨ own_i p = (10 : Int32) ∨ own_i p = (11 : Int32) ∨ own_i p = (12 : Int32) ∨ own_i p = (13 : Int32) ∨ own_i p = (14 : Int32) ∨ own_i p = (15 : Int32) ∨ own_i p = (16 : Int32) ∨ own_i p = (17 : Int32) ∨ own_i p = (18 : Int32) ∨ own_i p = (19 : Int32) ∨ own_i p = (20 : Int32) ∨ own_i p = (21 : Int32) ∨ own_i p = (22 : Int32) ∨ own_i p = (23 : Int32) ∨ own_i p = (24 : Int32) ∨ own_i p = (25 : Int32) ∨ own_i p = (26 : Int32) := by
  have h1 := (c_andS p (2147483647 : Int32)).2.2 (by decide)
  have h2 := (c_iremV (p &&& (2147483647 : Int32)) (27 : Int32)).1 h1 (by decide)
  have h3 : (27 : Int32).toInt = 27 := by decide
  obtain ⟨n, e⟩ := own_fin (N := 27) h2.1 (by omega)
  rw [own_i, e]
  exact own_27 n

theorem d_prog_14_method_5_0 : decode prog_14_method_5_code 0 = .ok (.iload_n 1, 1) := by decide +kernel
theorem d_prog_14_method_5_1 : decode prog_14_method_5_code 1 = .ok (.aload_n 0, 1) := by decide +kernel
theorem d_prog_14_method_5_2 : decode prog_14_method_5_code 2 = .ok (.getfield 112, 3) := by decide +kernel
theorem d_prog_14_method_5_5 : decode prog_14_method_5_code 5 = .ok (.if_icmp .lt 15, 3) := by decide +kernel
theorem d_prog_14_method_5_8 : decode prog_14_method_5_code 8 = .ok (.iload_n 1, 1) := by decide +kernel
theorem d_prog_14_method_5_9 : decode prog_14_method_5_code 9 = .ok (.aload_n 0, 1) := by decide +kernel
theorem d_prog_14_method_5_10 : decode prog_14_method_5_code 10 = .ok (.getfield 116, 3) := by decide +kernel
theorem d_prog_14_method_5_13 : decode prog_14_method_5_code 13 = .ok (.if_icmp .gt 7, 3) := by decide +kernel
theorem d_prog_14_method_5_16 : decode prog_14_method_5_code 16 = .ok (.iconst 1, 1) := by decide +kernel
theorem d_prog_14_method_5_17 : decode prog_14_method_5_code 17 = .ok (.goto 4, 3) := by decide +kernel
theorem d_prog_14_method_5_20 : decode prog_14_method_5_code 20 = .ok (.iconst 0, 1) := by decide +kernel
theorem d_prog_14_method_5_21 : decode prog_14_method_5_code 21 = .ok (.ireturn, 1) := by decide +kernel
theorem pn_0 : plainName "com/example/rowan/rowan/xpath/CoreFunction" = true := by first | (simp [plainName, overriddenIn]; done) | decide +kernel
theorem ef_rm1 (m : MethodId) (x0 : Addr) (x1 : Int32) : entryFrame m #[(.ref x0), (.int x1)] 2 = mkF m 0 #[.val (.ref x0), .val (.int x1)] [] := by first | (simp [entryFrame, mkF, argsToLocals, Value.category]; done) | rfl
def Q1 (Z : State) (a1 : Addr) (p2 : Int32) (w1 : Int32) (w2 : Int32) (h0 : Heap) (n0 : Nat) (v : Option Value) (h : Heap) (L : List Loc) : Prop := v = some (.int (own_takes w1 w2 p2)) ∧ Fr n0 L ∧ h = h0
set_option maxRecDepth 65536 in
set_option maxHeartbeats 40000000 in
theorem rm1 (l : Launch) (Z : State) (a0 : Array Value) (hw : ∀ d ∈ tables_1, d.before a0 Z = true) (ws : List Jvm.Cond) (a1 : Addr) (p2 : Int32) (w1 : Int32) (w2 : Int32) (h0 : Heap) (n0 : Nat) (Z0 : n0 ≤ h0.size) (F1 : Fld Z h0 a1 "com/example/rowan/rowan/xpath/CoreFunction" "minimumArguments" "I" (.int w1)) (F2 : Fld Z h0 a1 "com/example/rowan/rowan/xpath/CoreFunction" "maximumArguments" "I" (.int w2)) :
    MetFree l (⟨"com/example/rowan/rowan/xpath/CoreFunction", "takes", "(I)Z"⟩ : MethodName) (head1 (Jvm.Cond.code (⟨"com/example/rowan/rowan/xpath/CoreFunction", "takes", "(I)Z"⟩ : MethodName) prog_14_method_5_code 2 (some .boolean) :: ws) ({ frames := 0, cells := 0, slots := 0, locals := 0 } : Room)) (fun a U => a = #[(.ref a1), (.int p2)] ∧ Z.Warmed39 U.vm ∧ U.heap = h0) (fun _ _ _ _ _ => True) (fun _ U o U' => ∃ v L, o = .returned v ∧ Q1 Z a1 p2 w1 w2 h0 n0 v U'.heap L ∧ FrameEnd U o U' L ({ frames := 0, cells := 0, slots := 0, locals := 0 } : Room).cells ({ frames := 0, cells := 0, slots := 0, locals := 0 } : Room).slots) := by
  refine MetFree.of_bodySF (plainFor_of_name pn_0) hisR ?_
  intro p e s m args below meth c s₁ Bd hml0 hP hK
  obtain ⟨rfl, hZ, hh⟩ := hP
  have hx := Bd.exec
  have hby := Bd.bytes
  have hml : c.maxLocals = 2 := hml0
  have hown : s.vm.findClass "com/example/rowan/rowan/xpath/CoreFunction" = some m.cls := findClass_of_methodNamed Bd.named
  have hnm := (name_of_methodNamed Bd.named Bd.method).1
  have X0 : Stand p l e ({ frames := 0, cells := 0, slots := 0, locals := 0 } : Room) s m #[(.ref a1), (.int p2)] below meth c s₁ [] 0 0 := Stand.of_body Bd
  have e0 : s₁.heap = h0 := by rw [← hh, Bd.state]; rfl
  have Nf0 := Fr.nil n0
  obtain ⟨Gl, hGl, kn0⟩ : ∃ Gl : State → Prop, (∀ t, Gl t → Steps p.tables e below (s₁.setTop (entryFrame m #[(.ref a1), (.int p2)] 2)) t) ∧ ∀ t, own_S p e below s₁ (mkF m 0 #[.val (.ref a1), .val (.int p2)] []) t → Gl t := ⟨fun t => Steps p.tables e below (s₁.setTop (entryFrame m #[(.ref a1), (.int p2)] 2)) t, fun _ k => k, fun t k => castTop (ef_rm1 m a1 p2) k⟩
  have kn1 : ∀ t, own_S p e below s₁ (mkF m 2 #[.val (.ref a1), .val (.int p2)] [(.ref a1), (.int p2)]) t → Gl t := fun t kt => kn0 t (by
    show own_S p e below s₁ (mkF m 0 #[.val (.ref a1), .val (.int p2)] []) _
    refine XS.iloadN X0.here hx rfl (hb hby d_prog_14_method_5_0) rfl ?_
    show own_S p e below s₁ (mkF m 1 #[.val (.ref a1), .val (.int p2)] [(.int p2)]) _
    refine XS.aloadN X0.here hx rfl (hb hby d_prog_14_method_5_1) rfl rfl ?_
    exact kt)
  obtain ⟨T2, X2, e2, st2⟩ := getF X0 hx hZ hown (host := "") (Or.inl (hw _ (List.mem_of_getElem? (i := 91) rfl))) Via.refl e0 F1 (g := (mkF m 2 #[.val (.ref a1), .val (.int p2)] [(.ref a1), (.int p2)])) rfl rfl (hb hby d_prog_14_method_5_2)
  have kn3 : ∀ t, own_S p e below T2 (mkF m 5 #[.val (.ref a1), .val (.int p2)] [(.int w1), (.int p2)]) t → Gl t := fun t kt => kn1 t (st2 _ kt)
  by_cases hc5 : p2 < w1
  · have kn4 : ∀ t, own_S p e below T2 (mkF m 21 #[.val (.ref a1), .val (.int p2)] [(.int (0 : Int32))]) t → Gl t := fun t kt => kn3 t (by
      show own_S p e below T2 (mkF m 5 #[.val (.ref a1), .val (.int p2)] [(.int w1), (.int p2)]) _
      refine XS.icmpYes X2.here hx rfl (pc0 := 5) (pc' := 20) rfl (hb hby d_prog_14_method_5_5) rfl (tlt hc5).1 (by decide) (by decide) ?_
      show own_S p e below T2 (mkF m 20 #[.val (.ref a1), .val (.int p2)] []) _
      refine XS.iconst X2.here hx rfl (hb hby d_prog_14_method_5_20) ?_
      exact kt)
    obtain ⟨fs, hr, hrun, hended, hW, hsame⟩ := X2.leave (v := some (.int (0 : Int32))) (fun h => by rw [Bd.returns] at h; cases h)
    refine ⟨_, _, hGl _ (kn4 _ (retN X2 hx (t := .boolean) Bd.returns (by simp) (hb hby d_prog_14_method_5_21) hr)), hrun, hended, _, _, rfl, ?_, ⟨_, rfl⟩, hW, hsame.mono (by decide) (by decide)⟩
    show Q1 Z a1 p2 w1 w2 h0 n0 _ T2.heap _
    rw [e2]
    exact ⟨by simp [own_takes, hc5], Nf0, rfl⟩
  · have kn5 : ∀ t, own_S p e below T2 (mkF m 10 #[.val (.ref a1), .val (.int p2)] [(.ref a1), (.int p2)]) t → Gl t := fun t kt => kn3 t (by
      show own_S p e below T2 (mkF m 5 #[.val (.ref a1), .val (.int p2)] [(.int w1), (.int p2)]) _
      refine XS.icmpNo X2.here hx rfl (hb hby d_prog_14_method_5_5) rfl (flt hc5).1 ?_
      show own_S p e below T2 (mkF m 8 #[.val (.ref a1), .val (.int p2)] []) _
      refine XS.iloadN X2.here hx rfl (hb hby d_prog_14_method_5_8) rfl ?_
      show own_S p e below T2 (mkF m 9 #[.val (.ref a1), .val (.int p2)] [(.int p2)]) _
      refine XS.aloadN X2.here hx rfl (hb hby d_prog_14_method_5_9) rfl rfl ?_
      exact kt)
    obtain ⟨T6, X6, e6, st6⟩ := getF X2 hx hZ hown (host := "") (Or.inl (hw _ (List.mem_of_getElem? (i := 93) rfl))) Via.refl e2 F2 (g := (mkF m 10 #[.val (.ref a1), .val (.int p2)] [(.ref a1), (.int p2)])) rfl rfl (hb hby d_prog_14_method_5_10)
    have kn7 : ∀ t, own_S p e below T6 (mkF m 13 #[.val (.ref a1), .val (.int p2)] [(.int w2), (.int p2)]) t → Gl t := fun t kt => kn5 t (st6 _ kt)
    by_cases hc13 : w2 < p2
    · have kn8 : ∀ t, own_S p e below T6 (mkF m 21 #[.val (.ref a1), .val (.int p2)] [(.int (0 : Int32))]) t → Gl t := fun t kt => kn7 t (by
        show own_S p e below T6 (mkF m 13 #[.val (.ref a1), .val (.int p2)] [(.int w2), (.int p2)]) _
        refine XS.icmpYes X6.here hx rfl (pc0 := 13) (pc' := 20) rfl (hb hby d_prog_14_method_5_13) rfl (tlt hc13).2.2.1 (by decide) (by decide) ?_
        show own_S p e below T6 (mkF m 20 #[.val (.ref a1), .val (.int p2)] []) _
        refine XS.iconst X6.here hx rfl (hb hby d_prog_14_method_5_20) ?_
        exact kt)
      obtain ⟨fs, hr, hrun, hended, hW, hsame⟩ := X6.leave (v := some (.int (0 : Int32))) (fun h => by rw [Bd.returns] at h; cases h)
      refine ⟨_, _, hGl _ (kn8 _ (retN X6 hx (t := .boolean) Bd.returns (by simp) (hb hby d_prog_14_method_5_21) hr)), hrun, hended, _, _, rfl, ?_, ⟨_, rfl⟩, hW, hsame.mono (by decide) (by decide)⟩
      show Q1 Z a1 p2 w1 w2 h0 n0 _ T6.heap _
      rw [e6]
      exact ⟨by simp [own_takes, hc5, hc13], Nf0, rfl⟩
    · have kn9 : ∀ t, own_S p e below T6 (mkF m 21 #[.val (.ref a1), .val (.int p2)] [(.int (1 : Int32))]) t → Gl t := fun t kt => kn7 t (by
        show own_S p e below T6 (mkF m 13 #[.val (.ref a1), .val (.int p2)] [(.int w2), (.int p2)]) _
        refine XS.icmpNo X6.here hx rfl (hb hby d_prog_14_method_5_13) rfl (flt hc13).2.2.1 ?_
        show own_S p e below T6 (mkF m 16 #[.val (.ref a1), .val (.int p2)] []) _
        refine XS.iconst X6.here hx rfl (hb hby d_prog_14_method_5_16) ?_
        show own_S p e below T6 (mkF m 17 #[.val (.ref a1), .val (.int p2)] [(.int (1 : Int32))]) _
        refine XS.goto X6.here hx rfl (pc0 := 17) (pc' := 21) rfl (hb hby d_prog_14_method_5_17) (by decide) (by decide) ?_
        exact kt)
      obtain ⟨fs, hr, hrun, hended, hW, hsame⟩ := X6.leave (v := some (.int (1 : Int32))) (fun h => by rw [Bd.returns] at h; cases h)
      refine ⟨_, _, hGl _ (kn9 _ (retN X6 hx (t := .boolean) Bd.returns (by simp) (hb hby d_prog_14_method_5_21) hr)), hrun, hended, _, _, rfl, ?_, ⟨_, rfl⟩, hW, hsame.mono (by decide) (by decide)⟩
      show Q1 Z a1 p2 w1 w2 h0 n0 _ T6.heap _
      rw [e6]
      exact ⟨by simp [own_takes, hc5, hc13], Nf0, rfl⟩

def Q0 (Z : State) (p1 : Int32) (p2 : Int32) (p3 : Int32) (w0 : Addr) (w1 : Addr) (w2 : Addr) (w3 : Addr) (w4 : Addr) (w5 : Addr) (w6 : Addr) (w7 : Addr) (w8 : Addr) (w9 : Addr) (w10 : Addr) (w11 : Addr) (w12 : Addr) (w13 : Addr) (w14 : Addr) (w15 : Addr) (w16 : Addr) (w17 : Addr) (w18 : Addr) (w19 : Addr) (w20 : Addr) (w21 : Addr) (w22 : Addr) (w23 : Addr) (w24 : Addr) (w25 : Addr) (w26 : Addr) (h0 : Heap) (n0 : Nat) (v : Option Value) (h : Heap) (L : List Loc) : Prop := v = some (.int (1 : Int32)) ∧ Fr n0 L
abbrev own_LO : List Value := ((.int (0 : Int32)) :: (.int (0 : Int32)) :: (.int (1 : Int32)) :: (.int (1 : Int32)) :: (.int (0 : Int32)) :: (.int (0 : Int32)) :: (.int (0 : Int32)) :: (.int (0 : Int32)) :: (.int (2 : Int32)) :: (.int (2 : Int32)) :: (.int (2 : Int32)) :: (.int (2 : Int32)) :: (.int (2 : Int32)) :: (.int (2 : Int32)) :: (.int (0 : Int32)) :: (.int (0 : Int32)) :: (.int (3 : Int32)) :: (.int (1 : Int32)) :: (.int (1 : Int32)) :: (.int (0 : Int32)) :: (.int (0 : Int32)) :: (.int (1 : Int32)) :: (.int (0 : Int32)) :: (.int (1 : Int32)) :: (.int (1 : Int32)) :: (.int (1 : Int32)) :: (.int (1 : Int32)) :: [])
abbrev own_HI : List Value := ((.int (0 : Int32)) :: (.int (0 : Int32)) :: (.int (1 : Int32)) :: (.int (1 : Int32)) :: (.int (1 : Int32)) :: (.int (1 : Int32)) :: (.int (1 : Int32)) :: (.int (1 : Int32)) :: (.int (2147483647 : Int32)) :: (.int (2 : Int32)) :: (.int (2 : Int32)) :: (.int (2 : Int32)) :: (.int (2 : Int32)) :: (.int (3 : Int32)) :: (.int (1 : Int32)) :: (.int (1 : Int32)) :: (.int (3 : Int32)) :: (.int (1 : Int32)) :: (.int (1 : Int32)) :: (.int (0 : Int32)) :: (.int (0 : Int32)) :: (.int (1 : Int32)) :: (.int (1 : Int32)) :: (.int (1 : Int32)) :: (.int (1 : Int32)) :: (.int (1 : Int32)) :: (.int (1 : Int32)) :: [])
def own_at (l : List Value) (i : Int32) : Int32 := match l.getD i.toNatClampNeg (.int (0 : Int32)) with | .int x => x | _ => 0
abbrev own_lo (i : Int32) : Int32 := own_at own_LO i
abbrev own_hi (i : Int32) : Int32 := own_at own_HI i
theorem own_lo27 : ∀ n : Fin 27, own_LO.getD (Int32.ofInt (n.1 : Int)).toNatClampNeg (.int (0 : Int32)) = .int (own_lo (Int32.ofInt (n.1 : Int))) ∧ own_HI.getD (Int32.ofInt (n.1 : Int)).toNatClampNeg (.int (0 : Int32)) = .int (own_hi (Int32.ofInt (n.1 : Int))) ∧ ¬ (Int32.ofInt (n.1 : Int)) < 0 ∧ (Int32.ofInt (n.1 : Int)) < (27 : Int32) := by
  intro n
  rcases own_27 n with e | e | e | e | e | e | e | e | e | e | e | e | e | e | e | e | e | e | e | e | e | e | e | e | e | e | e <;> rw [e] <;> exact ⟨rfl, rfl, by decide, by decide⟩
theorem own_idx (p : Int32) : own_LO.getD (own_i p).toNatClampNeg (.int (0 : Int32)) = .int (own_lo (own_i p)) ∧ own_HI.getD (own_i p).toNatClampNeg (.int (0 : Int32)) = .int (own_hi (own_i p)) ∧ ¬ (own_i p) < 0 ∧ (own_i p) < (27 : Int32) := by
  have h1 := (c_andS p (2147483647 : Int32)).2.2 (by decide)
  have h2 := (c_iremV (p &&& (2147483647 : Int32)) (27 : Int32)).1 h1 (by decide)
  have h3 : (27 : Int32).toInt = 27 := by decide
  obtain ⟨n, e⟩ := own_fin (N := 27) h2.1 (by omega)
  rw [own_i, e]
  exact own_lo27 n

theorem pd_0 : parseMethodDescriptor "(I)Z" = some ⟨[.int], some .boolean⟩ := by decide +kernel
set_option maxRecDepth 65536 in
set_option maxHeartbeats 40000000 in
theorem tail_0 {p : Program} {l : Launch} {e : Env} {s : State} {m : MethodId} {args : Array Value} {below : List Frame} {meth : Method} {c : Code} {T0 : State} {locs : List Loc} {Z : State} {a0 : Array Value} {h0 : Heap} {n0 : Nat} (p1 : Int32) (p2 : Int32) (p3 : Int32) (w0 : Addr) (w1 : Addr) (w2 : Addr) (w3 : Addr) (w4 : Addr) (w5 : Addr) (w6 : Addr) (w7 : Addr) (w8 : Addr) (w9 : Addr) (w10 : Addr) (w11 : Addr) (w12 : Addr) (w13 : Addr) (w14 : Addr) (w15 : Addr) (w16 : Addr) (w17 : Addr) (w18 : Addr) (w19 : Addr) (w20 : Addr) (w21 : Addr) (w22 : Addr) (w23 : Addr) (w24 : Addr) (w25 : Addr) (w26 : Addr) (b3 : Addr) (b4 : Addr) (b5 : Addr) (k3 : ClassId) (cnt : Int32) (xp : Int32)
    (X0 : Stand p l e room_1 s m args below meth c T0 locs 3 81) (hx : p.tables.exec = Jvm.exec) (hZ : Z.Warmed39 s.vm) (hw : ∀ d ∈ tables_1, d.before a0 Z = true) (hby : c.code = code) (hml : c.maxLocals = 9) (hown : s.vm.findClass "com/example/rowan/rowan/xpath/CoreFunctionTakesPinLaw" = some m.cls) (hret : meth.sig.returnType = some .boolean) (hlk : meth.locks = false) (e0 : T0.heap = h0) (Nf0 : Fr n0 locs) (Z0 : n0 ≤ h0.size) (O0 : Old Z n0 h0) (V3 : Arv Z h0 b3 k3 (.object "com/example/rowan/rowan/xpath/CoreFunction") (27 : Int32) ((.ref w0) :: (.ref w1) :: (.ref w2) :: (.ref w3) :: (.ref w4) :: (.ref w5) :: (.ref w6) :: (.ref w7) :: (.ref w8) :: (.ref w9) :: (.ref w10) :: (.ref w11) :: (.ref w12) :: (.ref w13) :: (.ref w14) :: (.ref w15) :: (.ref w16) :: (.ref w17) :: (.ref w18) :: (.ref w19) :: (.ref w20) :: (.ref w21) :: (.ref w22) :: (.ref w23) :: (.ref w24) :: (.ref w25) :: (.ref w26) :: []) .null) (E_w0 : Exa Z Z.heap w0 "com/example/rowan/rowan/xpath/CoreFunction$1") (Fa0 : Fld Z Z.heap w0 "com/example/rowan/rowan/xpath/CoreFunction" "minimumArguments" "I" (.int (0 : Int32))) (Fb0 : Fld Z Z.heap w0 "com/example/rowan/rowan/xpath/CoreFunction" "maximumArguments" "I" (.int (0 : Int32))) (hxp : xp = own_exp (0 : Int32) (0 : Int32) cnt) :
    ∃ s₂ o, Steps p.tables e below (T0.setTop (mkF m 536 #[.val (.int p1), .val (.int p2), .val (.int p3), .val (.ref b3), .val (.ref b4), .val (.ref b5), .val (.int (0 : Int32)), .val (.int cnt), .val (.int xp)] [])) s₂ ∧ s₂.status = .running ∧ Ended s₂ below o ∧ ∃ v L, o = .returned v ∧ Q0 Z p1 p2 p3 w0 w1 w2 w3 w4 w5 w6 w7 w8 w9 w10 w11 w12 w13 w14 w15 w16 w17 w18 w19 w20 w21 w22 w23 w24 w25 w26 h0 n0 v s₂.heap L ∧ FrameEnd s o s₂ L 16 256 := by
  have kn0 : ∀ t, own_S p e below T0 (mkF m 536 #[.val (.int p1), .val (.int p2), .val (.int p3), .val (.ref b3), .val (.ref b4), .val (.ref b5), .val (.int (0 : Int32)), .val (.int cnt), .val (.int xp)] []) t → own_S p e below T0 (mkF m 536 #[.val (.int p1), .val (.int p2), .val (.int p3), .val (.ref b3), .val (.ref b4), .val (.ref b5), .val (.int (0 : Int32)), .val (.int cnt), .val (.int xp)] []) t := fun t k => k
  have kn1 : ∀ t, own_S p e below T0 (mkF m 539 #[.val (.int p1), .val (.int p2), .val (.int p3), .val (.ref b3), .val (.ref b4), .val (.ref b5), .val (.int (0 : Int32)), .val (.int cnt), .val (.int xp)] [(.int (0 : Int32)), (.ref b3)]) t → own_S p e below T0 (mkF m 536 #[.val (.int p1), .val (.int p2), .val (.int p3), .val (.ref b3), .val (.ref b4), .val (.ref b5), .val (.int (0 : Int32)), .val (.int cnt), .val (.int xp)] []) t := fun t kt => kn0 t (by
    show own_S p e below T0 (mkF m 536 #[.val (.int p1), .val (.int p2), .val (.int p3), .val (.ref b3), .val (.ref b4), .val (.ref b5), .val (.int (0 : Int32)), .val (.int cnt), .val (.int xp)] []) _
    refine XS.aloadN X0.here hx rfl (hb hby at_536) rfl rfl ?_
    show own_S p e below T0 (mkF m 537 #[.val (.int p1), .val (.int p2), .val (.int p3), .val (.ref b3), .val (.ref b4), .val (.ref b5), .val (.int (0 : Int32)), .val (.int cnt), .val (.int xp)] [(.ref b3)]) _
    refine XS.iload X0.here hx rfl (hb hby at_537) rfl ?_
    exact kt)
  obtain ⟨cl2, Ar2, q2, Sz2, Ng2, Hs2, Gs2⟩ := id V3
  have hin2 : ¬ ((0 : Int32) < 0 ∨ cl2.slots.size ≤ ((0 : Int32)).toNatClampNeg) := inb_of Sz2 ⟨by decide, by decide⟩
  have hat2 : cl2.slots[((0 : Int32)).toNatClampNeg]? = some (.ref w0) := Hs2.at hin2 rfl
  have kn3 : ∀ t, own_S p e below T0 (mkF m 542 #[.val (.int p1), .val (.int p2), .val (.int p3), .val (.ref b3), .val (.ref b4), .val (.ref b5), .val (.int (0 : Int32)), .val (.int cnt), .val (.int xp)] [(.int cnt), (.ref w0)]) t → own_S p e below T0 (mkF m 536 #[.val (.int p1), .val (.int p2), .val (.int p3), .val (.ref b3), .val (.ref b4), .val (.ref b5), .val (.int (0 : Int32)), .val (.int cnt), .val (.int xp)] []) t := fun t kt => kn1 t (by
    show own_S p e below T0 (mkF m 539 #[.val (.int p1), .val (.int p2), .val (.int p3), .val (.ref b3), .val (.ref b4), .val (.ref b5), .val (.int (0 : Int32)), .val (.int cnt), .val (.int xp)] [(.int (0 : Int32)), (.ref b3)]) _
    refine X0.aaload hx (j := (0 : Int32)) (v := (.ref w0)) (by rw [e0]; exact Ar2.1) (State.isArrayOf_alike hZ.alike Ar2.2.1) rfl Ar2.2.2 hin2 hat2 (g := (mkF m 539 #[.val (.int p1), .val (.int p2), .val (.int p3), .val (.ref b3), .val (.ref b4), .val (.ref b5), .val (.int (0 : Int32)), .val (.int cnt), .val (.int xp)] [(.int (0 : Int32)), (.ref b3)])) rfl rfl (hb hby at_539) _ ?_
    show own_S p e below T0 (mkF m 540 #[.val (.int p1), .val (.int p2), .val (.int p3), .val (.ref b3), .val (.ref b4), .val (.ref b5), .val (.int (0 : Int32)), .val (.int cnt), .val (.int xp)] [(.ref w0)]) _
    refine XS.iload X0.here hx rfl (hb hby at_540) rfl ?_
    exact kt)
  obtain ⟨cq4, kq4, qa4, qb4, qc4⟩ := isOf hZ e0 (E_w0.ext O0.2)
  obtain ⟨_, _, ⟨T4, L4, cc4, ss4⟩, -, X4, ⟨Lc4, hQ4, l4, y4, z4⟩, st4⟩ := X0.virtualBack hx (y := (⟨"com/example/rowan/rowan/xpath/CoreFunction", "takes", "(I)Z"⟩ : MethodName)) (z := (⟨"com/example/rowan/rowan/xpath/CoreFunction", "takes", "(I)Z"⟩ : MethodName)) hown (mvT hZ (hw _ (List.mem_of_getElem? (i := 86) rfl))) (mvT hZ (hw _ (List.mem_of_getElem? (i := 87) rfl))) (notFace_of_selects (args := #[]) (mvT hZ (hw _ (List.mem_of_getElem? (i := 89) rfl)))) (mvT hZ (hw _ (List.mem_of_getElem? (i := 89) rfl))) (mvT hZ (hw _ (List.mem_of_getElem? (i := 88) rfl))) (by decide) (backOf (W := 0) (rm1 l Z a0 hw [] w0 cnt (0 : Int32) (0 : Int32) h0 n0 Z0 (Fa0.ext O0.2) (Fb0.ext O0.2)) hZ (hw _ (List.mem_of_getElem? (i := 90) rfl)) (hw _ (List.mem_of_getElem? (i := 3) rfl)) (by decide) (by decide)) qa4 qc4 (g := (mkF m 542 #[.val (.int p1), .val (.int p2), .val (.int p3), .val (.ref b3), .val (.ref b4), .val (.ref b5), .val (.int (0 : Int32)), .val (.int cnt), .val (.int xp)] [(.int cnt), (.ref w0)])) rfl (by rw [hml]; rfl) (Steps.refl _) (argsL := [(.int cnt)]) (rest := []) (lenOf pd_0 rfl) rfl (by show 2 * 0 + _ ≤ _; exact Nat.le_of_eq rfl) (hb hby at_542) (fun _ _ => ⟨rfl, e0, (by decide : 3 + 0 ≤ _), (by decide : 81 + 0 ≤ _)⟩)
  dsimp only [Pt.U, Pt.locs, Pt.cells, Pt.slots] at X4 l4 y4 z4 st4 hQ4
  subst l4 y4 z4
  have X4 : Stand p l e _ _ m _ below meth c T4 _ 3 81 := X4
  obtain ⟨rfl, Nq4, eq4⟩ := hQ4
  have Nf4 := Fr.app Nf0 Nq4
  have kn5 : ∀ t, own_S p e below T4 (mkF m 545 #[.val (.int p1), .val (.int p2), .val (.int p3), .val (.ref b3), .val (.ref b4), .val (.ref b5), .val (.int (0 : Int32)), .val (.int cnt), .val (.int xp)] [(.int (own_takes (0 : Int32) (0 : Int32) cnt))]) t → own_S p e below T0 (mkF m 536 #[.val (.int p1), .val (.int p2), .val (.int p3), .val (.ref b3), .val (.ref b4), .val (.ref b5), .val (.int (0 : Int32)), .val (.int cnt), .val (.int xp)] []) t := fun t kt => kn3 t (st4.trans kt)
  have kn6 : ∀ t, own_S p e below T4 (mkF m 547 #[.val (.int p1), .val (.int p2), .val (.int p3), .val (.ref b3), .val (.ref b4), .val (.ref b5), .val (.int (0 : Int32)), .val (.int cnt), .val (.int xp)] [(.int xp), (.int (own_takes (0 : Int32) (0 : Int32) cnt))]) t → own_S p e below T0 (mkF m 536 #[.val (.int p1), .val (.int p2), .val (.int p3), .val (.ref b3), .val (.ref b4), .val (.ref b5), .val (.int (0 : Int32)), .val (.int cnt), .val (.int xp)] []) t := fun t kt => kn5 t (by
    show own_S p e below T4 (mkF m 545 #[.val (.int p1), .val (.int p2), .val (.int p3), .val (.ref b3), .val (.ref b4), .val (.ref b5), .val (.int (0 : Int32)), .val (.int cnt), .val (.int xp)] [(.int (own_takes (0 : Int32) (0 : Int32) cnt))]) _
    refine XS.iload X4.here hx rfl (hb hby at_545) rfl ?_
    exact kt)
  have hc547_7 : (own_takes (0 : Int32) (0 : Int32) cnt) = xp := by rw [hxp]; exact own_te _ _ _
  have kn8 : ∀ t, own_S p e below T4 (mkF m 555 #[.val (.int p1), .val (.int p2), .val (.int p3), .val (.ref b3), .val (.ref b4), .val (.ref b5), .val (.int (0 : Int32)), .val (.int cnt), .val (.int xp)] [(.int (1 : Int32))]) t → own_S p e below T0 (mkF m 536 #[.val (.int p1), .val (.int p2), .val (.int p3), .val (.ref b3), .val (.ref b4), .val (.ref b5), .val (.int (0 : Int32)), .val (.int cnt), .val (.int xp)] []) t := fun t kt => kn6 t (by
    show own_S p e below T4 (mkF m 547 #[.val (.int p1), .val (.int p2), .val (.int p3), .val (.ref b3), .val (.ref b4), .val (.ref b5), .val (.int (0 : Int32)), .val (.int cnt), .val (.int xp)] [(.int xp), (.int (own_takes (0 : Int32) (0 : Int32) cnt))]) _
    refine XS.icmpNo X4.here hx rfl (hb hby at_547) rfl (teq hc547_7).2 ?_
    show own_S p e below T4 (mkF m 550 #[.val (.int p1), .val (.int p2), .val (.int p3), .val (.ref b3), .val (.ref b4), .val (.ref b5), .val (.int (0 : Int32)), .val (.int cnt), .val (.int xp)] []) _
    refine XS.iconst X4.here hx rfl (hb hby at_550) ?_
    show own_S p e below T4 (mkF m 551 #[.val (.int p1), .val (.int p2), .val (.int p3), .val (.ref b3), .val (.ref b4), .val (.ref b5), .val (.int (0 : Int32)), .val (.int cnt), .val (.int xp)] [(.int (1 : Int32))]) _
    refine XS.goto X4.here hx rfl (pc0 := 551) (pc' := 555) rfl (hb hby at_551) (by decide) (by decide) ?_
    exact kt)
  obtain ⟨fs, hr, hrun, hended, hW, hsame⟩ := X4.leave (v := some (.int (1 : Int32))) (fun h => by rw [hret] at h; cases h)
  refine ⟨_, _, id (kn8 _ (retN X4 hx (t := .boolean) hret (by simp) (hb hby at_555) hr)), hrun, hended, _, _, rfl, ?_, ⟨_, rfl⟩, hW, hsame.mono (by decide) (by decide)⟩
  show Q0 Z p1 p2 p3 w0 w1 w2 w3 w4 w5 w6 w7 w8 w9 w10 w11 w12 w13 w14 w15 w16 w17 w18 w19 w20 w21 w22 w23 w24 w25 w26 h0 n0 _ T4.heap _
  rw [eq4]
  exact ⟨rfl, Nf4⟩

set_option maxRecDepth 65536 in
set_option maxHeartbeats 40000000 in
theorem tail_1 {p : Program} {l : Launch} {e : Env} {s : State} {m : MethodId} {args : Array Value} {below : List Frame} {meth : Method} {c : Code} {T0 : State} {locs : List Loc} {Z : State} {a0 : Array Value} {h0 : Heap} {n0 : Nat} (p1 : Int32) (p2 : Int32) (p3 : Int32) (w0 : Addr) (w1 : Addr) (w2 : Addr) (w3 : Addr) (w4 : Addr) (w5 : Addr) (w6 : Addr) (w7 : Addr) (w8 : Addr) (w9 : Addr) (w10 : Addr) (w11 : Addr) (w12 : Addr) (w13 : Addr) (w14 : Addr) (w15 : Addr) (w16 : Addr) (w17 : Addr) (w18 : Addr) (w19 : Addr) (w20 : Addr) (w21 : Addr) (w22 : Addr) (w23 : Addr) (w24 : Addr) (w25 : Addr) (w26 : Addr) (b3 : Addr) (b4 : Addr) (b5 : Addr) (k3 : ClassId) (cnt : Int32) (xp : Int32)
    (X0 : Stand p l e room_1 s m args below meth c T0 locs 3 81) (hx : p.tables.exec = Jvm.exec) (hZ : Z.Warmed39 s.vm) (hw : ∀ d ∈ tables_1, d.before a0 Z = true) (hby : c.code = code) (hml : c.maxLocals = 9) (hown : s.vm.findClass "com/example/rowan/rowan/xpath/CoreFunctionTakesPinLaw" = some m.cls) (hret : meth.sig.returnType = some .boolean) (hlk : meth.locks = false) (e0 : T0.heap = h0) (Nf0 : Fr n0 locs) (Z0 : n0 ≤ h0.size) (O0 : Old Z n0 h0) (V3 : Arv Z h0 b3 k3 (.object "com/example/rowan/rowan/xpath/CoreFunction") (27 : Int32) ((.ref w0) :: (.ref w1) :: (.ref w2) :: (.ref w3) :: (.ref w4) :: (.ref w5) :: (.ref w6) :: (.ref w7) :: (.ref w8) :: (.ref w9) :: (.ref w10) :: (.ref w11) :: (.ref w12) :: (.ref w13) :: (.ref w14) :: (.ref w15) :: (.ref w16) :: (.ref w17) :: (.ref w18) :: (.ref w19) :: (.ref w20) :: (.ref w21) :: (.ref w22) :: (.ref w23) :: (.ref w24) :: (.ref w25) :: (.ref w26) :: []) .null) (E_w1 : Exa Z Z.heap w1 "com/example/rowan/rowan/xpath/CoreFunction$2") (Fa1 : Fld Z Z.heap w1 "com/example/rowan/rowan/xpath/CoreFunction" "minimumArguments" "I" (.int (0 : Int32))) (Fb1 : Fld Z Z.heap w1 "com/example/rowan/rowan/xpath/CoreFunction" "maximumArguments" "I" (.int (0 : Int32))) (hxp : xp = own_exp (0 : Int32) (0 : Int32) cnt) :
    ∃ s₂ o, Steps p.tables e below (T0.setTop (mkF m 536 #[.val (.int p1), .val (.int p2), .val (.int p3), .val (.ref b3), .val (.ref b4), .val (.ref b5), .val (.int (1 : Int32)), .val (.int cnt), .val (.int xp)] [])) s₂ ∧ s₂.status = .running ∧ Ended s₂ below o ∧ ∃ v L, o = .returned v ∧ Q0 Z p1 p2 p3 w0 w1 w2 w3 w4 w5 w6 w7 w8 w9 w10 w11 w12 w13 w14 w15 w16 w17 w18 w19 w20 w21 w22 w23 w24 w25 w26 h0 n0 v s₂.heap L ∧ FrameEnd s o s₂ L 16 256 := by
  have kn0 : ∀ t, own_S p e below T0 (mkF m 536 #[.val (.int p1), .val (.int p2), .val (.int p3), .val (.ref b3), .val (.ref b4), .val (.ref b5), .val (.int (1 : Int32)), .val (.int cnt), .val (.int xp)] []) t → own_S p e below T0 (mkF m 536 #[.val (.int p1), .val (.int p2), .val (.int p3), .val (.ref b3), .val (.ref b4), .val (.ref b5), .val (.int (1 : Int32)), .val (.int cnt), .val (.int xp)] []) t := fun t k => k
  have kn1 : ∀ t, own_S p e below T0 (mkF m 539 #[.val (.int p1), .val (.int p2), .val (.int p3), .val (.ref b3), .val (.ref b4), .val (.ref b5), .val (.int (1 : Int32)), .val (.int cnt), .val (.int xp)] [(.int (1 : Int32)), (.ref b3)]) t → own_S p e below T0 (mkF m 536 #[.val (.int p1), .val (.int p2), .val (.int p3), .val (.ref b3), .val (.ref b4), .val (.ref b5), .val (.int (1 : Int32)), .val (.int cnt), .val (.int xp)] []) t := fun t kt => kn0 t (by
    show own_S p e below T0 (mkF m 536 #[.val (.int p1), .val (.int p2), .val (.int p3), .val (.ref b3), .val (.ref b4), .val (.ref b5), .val (.int (1 : Int32)), .val (.int cnt), .val (.int xp)] []) _
    refine XS.aloadN X0.here hx rfl (hb hby at_536) rfl rfl ?_
    show own_S p e below T0 (mkF m 537 #[.val (.int p1), .val (.int p2), .val (.int p3), .val (.ref b3), .val (.ref b4), .val (.ref b5), .val (.int (1 : Int32)), .val (.int cnt), .val (.int xp)] [(.ref b3)]) _
    refine XS.iload X0.here hx rfl (hb hby at_537) rfl ?_
    exact kt)
  obtain ⟨cl2, Ar2, q2, Sz2, Ng2, Hs2, Gs2⟩ := id V3
  have hin2 : ¬ ((1 : Int32) < 0 ∨ cl2.slots.size ≤ ((1 : Int32)).toNatClampNeg) := inb_of Sz2 ⟨by decide, by decide⟩
  have hat2 : cl2.slots[((1 : Int32)).toNatClampNeg]? = some (.ref w1) := Hs2.at hin2 rfl
  have kn3 : ∀ t, own_S p e below T0 (mkF m 542 #[.val (.int p1), .val (.int p2), .val (.int p3), .val (.ref b3), .val (.ref b4), .val (.ref b5), .val (.int (1 : Int32)), .val (.int cnt), .val (.int xp)] [(.int cnt), (.ref w1)]) t → own_S p e below T0 (mkF m 536 #[.val (.int p1), .val (.int p2), .val (.int p3), .val (.ref b3), .val (.ref b4), .val (.ref b5), .val (.int (1 : Int32)), .val (.int cnt), .val (.int xp)] []) t := fun t kt => kn1 t (by
    show own_S p e below T0 (mkF m 539 #[.val (.int p1), .val (.int p2), .val (.int p3), .val (.ref b3), .val (.ref b4), .val (.ref b5), .val (.int (1 : Int32)), .val (.int cnt), .val (.int xp)] [(.int (1 : Int32)), (.ref b3)]) _
    refine X0.aaload hx (j := (1 : Int32)) (v := (.ref w1)) (by rw [e0]; exact Ar2.1) (State.isArrayOf_alike hZ.alike Ar2.2.1) rfl Ar2.2.2 hin2 hat2 (g := (mkF m 539 #[.val (.int p1), .val (.int p2), .val (.int p3), .val (.ref b3), .val (.ref b4), .val (.ref b5), .val (.int (1 : Int32)), .val (.int cnt), .val (.int xp)] [(.int (1 : Int32)), (.ref b3)])) rfl rfl (hb hby at_539) _ ?_
    show own_S p e below T0 (mkF m 540 #[.val (.int p1), .val (.int p2), .val (.int p3), .val (.ref b3), .val (.ref b4), .val (.ref b5), .val (.int (1 : Int32)), .val (.int cnt), .val (.int xp)] [(.ref w1)]) _
    refine XS.iload X0.here hx rfl (hb hby at_540) rfl ?_
    exact kt)
  obtain ⟨cq4, kq4, qa4, qb4, qc4⟩ := isOf hZ e0 (E_w1.ext O0.2)
  obtain ⟨_, _, ⟨T4, L4, cc4, ss4⟩, -, X4, ⟨Lc4, hQ4, l4, y4, z4⟩, st4⟩ := X0.virtualBack hx (y := (⟨"com/example/rowan/rowan/xpath/CoreFunction", "takes", "(I)Z"⟩ : MethodName)) (z := (⟨"com/example/rowan/rowan/xpath/CoreFunction", "takes", "(I)Z"⟩ : MethodName)) hown (mvT hZ (hw _ (List.mem_of_getElem? (i := 86) rfl))) (mvT hZ (hw _ (List.mem_of_getElem? (i := 87) rfl))) (notFace_of_selects (args := #[]) (mvT hZ (hw _ (List.mem_of_getElem? (i := 95) rfl)))) (mvT hZ (hw _ (List.mem_of_getElem? (i := 95) rfl))) (mvT hZ (hw _ (List.mem_of_getElem? (i := 88) rfl))) (by decide) (backOf (W := 0) (rm1 l Z a0 hw [] w1 cnt (0 : Int32) (0 : Int32) h0 n0 Z0 (Fa1.ext O0.2) (Fb1.ext O0.2)) hZ (hw _ (List.mem_of_getElem? (i := 90) rfl)) (hw _ (List.mem_of_getElem? (i := 3) rfl)) (by decide) (by decide)) qa4 qc4 (g := (mkF m 542 #[.val (.int p1), .val (.int p2), .val (.int p3), .val (.ref b3), .val (.ref b4), .val (.ref b5), .val (.int (1 : Int32)), .val (.int cnt), .val (.int xp)] [(.int cnt), (.ref w1)])) rfl (by rw [hml]; rfl) (Steps.refl _) (argsL := [(.int cnt)]) (rest := []) (lenOf pd_0 rfl) rfl (by show 2 * 0 + _ ≤ _; exact Nat.le_of_eq rfl) (hb hby at_542) (fun _ _ => ⟨rfl, e0, (by decide : 3 + 0 ≤ _), (by decide : 81 + 0 ≤ _)⟩)
  dsimp only [Pt.U, Pt.locs, Pt.cells, Pt.slots] at X4 l4 y4 z4 st4 hQ4
  subst l4 y4 z4
  have X4 : Stand p l e _ _ m _ below meth c T4 _ 3 81 := X4
  obtain ⟨rfl, Nq4, eq4⟩ := hQ4
  have Nf4 := Fr.app Nf0 Nq4
  have kn5 : ∀ t, own_S p e below T4 (mkF m 545 #[.val (.int p1), .val (.int p2), .val (.int p3), .val (.ref b3), .val (.ref b4), .val (.ref b5), .val (.int (1 : Int32)), .val (.int cnt), .val (.int xp)] [(.int (own_takes (0 : Int32) (0 : Int32) cnt))]) t → own_S p e below T0 (mkF m 536 #[.val (.int p1), .val (.int p2), .val (.int p3), .val (.ref b3), .val (.ref b4), .val (.ref b5), .val (.int (1 : Int32)), .val (.int cnt), .val (.int xp)] []) t := fun t kt => kn3 t (st4.trans kt)
  have kn6 : ∀ t, own_S p e below T4 (mkF m 547 #[.val (.int p1), .val (.int p2), .val (.int p3), .val (.ref b3), .val (.ref b4), .val (.ref b5), .val (.int (1 : Int32)), .val (.int cnt), .val (.int xp)] [(.int xp), (.int (own_takes (0 : Int32) (0 : Int32) cnt))]) t → own_S p e below T0 (mkF m 536 #[.val (.int p1), .val (.int p2), .val (.int p3), .val (.ref b3), .val (.ref b4), .val (.ref b5), .val (.int (1 : Int32)), .val (.int cnt), .val (.int xp)] []) t := fun t kt => kn5 t (by
    show own_S p e below T4 (mkF m 545 #[.val (.int p1), .val (.int p2), .val (.int p3), .val (.ref b3), .val (.ref b4), .val (.ref b5), .val (.int (1 : Int32)), .val (.int cnt), .val (.int xp)] [(.int (own_takes (0 : Int32) (0 : Int32) cnt))]) _
    refine XS.iload X4.here hx rfl (hb hby at_545) rfl ?_
    exact kt)
  have hc547_7 : (own_takes (0 : Int32) (0 : Int32) cnt) = xp := by rw [hxp]; exact own_te _ _ _
  have kn8 : ∀ t, own_S p e below T4 (mkF m 555 #[.val (.int p1), .val (.int p2), .val (.int p3), .val (.ref b3), .val (.ref b4), .val (.ref b5), .val (.int (1 : Int32)), .val (.int cnt), .val (.int xp)] [(.int (1 : Int32))]) t → own_S p e below T0 (mkF m 536 #[.val (.int p1), .val (.int p2), .val (.int p3), .val (.ref b3), .val (.ref b4), .val (.ref b5), .val (.int (1 : Int32)), .val (.int cnt), .val (.int xp)] []) t := fun t kt => kn6 t (by
    show own_S p e below T4 (mkF m 547 #[.val (.int p1), .val (.int p2), .val (.int p3), .val (.ref b3), .val (.ref b4), .val (.ref b5), .val (.int (1 : Int32)), .val (.int cnt), .val (.int xp)] [(.int xp), (.int (own_takes (0 : Int32) (0 : Int32) cnt))]) _
    refine XS.icmpNo X4.here hx rfl (hb hby at_547) rfl (teq hc547_7).2 ?_
    show own_S p e below T4 (mkF m 550 #[.val (.int p1), .val (.int p2), .val (.int p3), .val (.ref b3), .val (.ref b4), .val (.ref b5), .val (.int (1 : Int32)), .val (.int cnt), .val (.int xp)] []) _
    refine XS.iconst X4.here hx rfl (hb hby at_550) ?_
    show own_S p e below T4 (mkF m 551 #[.val (.int p1), .val (.int p2), .val (.int p3), .val (.ref b3), .val (.ref b4), .val (.ref b5), .val (.int (1 : Int32)), .val (.int cnt), .val (.int xp)] [(.int (1 : Int32))]) _
    refine XS.goto X4.here hx rfl (pc0 := 551) (pc' := 555) rfl (hb hby at_551) (by decide) (by decide) ?_
    exact kt)
  obtain ⟨fs, hr, hrun, hended, hW, hsame⟩ := X4.leave (v := some (.int (1 : Int32))) (fun h => by rw [hret] at h; cases h)
  refine ⟨_, _, id (kn8 _ (retN X4 hx (t := .boolean) hret (by simp) (hb hby at_555) hr)), hrun, hended, _, _, rfl, ?_, ⟨_, rfl⟩, hW, hsame.mono (by decide) (by decide)⟩
  show Q0 Z p1 p2 p3 w0 w1 w2 w3 w4 w5 w6 w7 w8 w9 w10 w11 w12 w13 w14 w15 w16 w17 w18 w19 w20 w21 w22 w23 w24 w25 w26 h0 n0 _ T4.heap _
  rw [eq4]
  exact ⟨rfl, Nf4⟩

set_option maxRecDepth 65536 in
set_option maxHeartbeats 40000000 in
theorem tail_2 {p : Program} {l : Launch} {e : Env} {s : State} {m : MethodId} {args : Array Value} {below : List Frame} {meth : Method} {c : Code} {T0 : State} {locs : List Loc} {Z : State} {a0 : Array Value} {h0 : Heap} {n0 : Nat} (p1 : Int32) (p2 : Int32) (p3 : Int32) (w0 : Addr) (w1 : Addr) (w2 : Addr) (w3 : Addr) (w4 : Addr) (w5 : Addr) (w6 : Addr) (w7 : Addr) (w8 : Addr) (w9 : Addr) (w10 : Addr) (w11 : Addr) (w12 : Addr) (w13 : Addr) (w14 : Addr) (w15 : Addr) (w16 : Addr) (w17 : Addr) (w18 : Addr) (w19 : Addr) (w20 : Addr) (w21 : Addr) (w22 : Addr) (w23 : Addr) (w24 : Addr) (w25 : Addr) (w26 : Addr) (b3 : Addr) (b4 : Addr) (b5 : Addr) (k3 : ClassId) (cnt : Int32) (xp : Int32)
    (X0 : Stand p l e room_1 s m args below meth c T0 locs 3 81) (hx : p.tables.exec = Jvm.exec) (hZ : Z.Warmed39 s.vm) (hw : ∀ d ∈ tables_1, d.before a0 Z = true) (hby : c.code = code) (hml : c.maxLocals = 9) (hown : s.vm.findClass "com/example/rowan/rowan/xpath/CoreFunctionTakesPinLaw" = some m.cls) (hret : meth.sig.returnType = some .boolean) (hlk : meth.locks = false) (e0 : T0.heap = h0) (Nf0 : Fr n0 locs) (Z0 : n0 ≤ h0.size) (O0 : Old Z n0 h0) (V3 : Arv Z h0 b3 k3 (.object "com/example/rowan/rowan/xpath/CoreFunction") (27 : Int32) ((.ref w0) :: (.ref w1) :: (.ref w2) :: (.ref w3) :: (.ref w4) :: (.ref w5) :: (.ref w6) :: (.ref w7) :: (.ref w8) :: (.ref w9) :: (.ref w10) :: (.ref w11) :: (.ref w12) :: (.ref w13) :: (.ref w14) :: (.ref w15) :: (.ref w16) :: (.ref w17) :: (.ref w18) :: (.ref w19) :: (.ref w20) :: (.ref w21) :: (.ref w22) :: (.ref w23) :: (.ref w24) :: (.ref w25) :: (.ref w26) :: []) .null) (E_w2 : Exa Z Z.heap w2 "com/example/rowan/rowan/xpath/CoreFunction$3") (Fa2 : Fld Z Z.heap w2 "com/example/rowan/rowan/xpath/CoreFunction" "minimumArguments" "I" (.int (1 : Int32))) (Fb2 : Fld Z Z.heap w2 "com/example/rowan/rowan/xpath/CoreFunction" "maximumArguments" "I" (.int (1 : Int32))) (hxp : xp = own_exp (1 : Int32) (1 : Int32) cnt) :
    ∃ s₂ o, Steps p.tables e below (T0.setTop (mkF m 536 #[.val (.int p1), .val (.int p2), .val (.int p3), .val (.ref b3), .val (.ref b4), .val (.ref b5), .val (.int (2 : Int32)), .val (.int cnt), .val (.int xp)] [])) s₂ ∧ s₂.status = .running ∧ Ended s₂ below o ∧ ∃ v L, o = .returned v ∧ Q0 Z p1 p2 p3 w0 w1 w2 w3 w4 w5 w6 w7 w8 w9 w10 w11 w12 w13 w14 w15 w16 w17 w18 w19 w20 w21 w22 w23 w24 w25 w26 h0 n0 v s₂.heap L ∧ FrameEnd s o s₂ L 16 256 := by
  have kn0 : ∀ t, own_S p e below T0 (mkF m 536 #[.val (.int p1), .val (.int p2), .val (.int p3), .val (.ref b3), .val (.ref b4), .val (.ref b5), .val (.int (2 : Int32)), .val (.int cnt), .val (.int xp)] []) t → own_S p e below T0 (mkF m 536 #[.val (.int p1), .val (.int p2), .val (.int p3), .val (.ref b3), .val (.ref b4), .val (.ref b5), .val (.int (2 : Int32)), .val (.int cnt), .val (.int xp)] []) t := fun t k => k
  have kn1 : ∀ t, own_S p e below T0 (mkF m 539 #[.val (.int p1), .val (.int p2), .val (.int p3), .val (.ref b3), .val (.ref b4), .val (.ref b5), .val (.int (2 : Int32)), .val (.int cnt), .val (.int xp)] [(.int (2 : Int32)), (.ref b3)]) t → own_S p e below T0 (mkF m 536 #[.val (.int p1), .val (.int p2), .val (.int p3), .val (.ref b3), .val (.ref b4), .val (.ref b5), .val (.int (2 : Int32)), .val (.int cnt), .val (.int xp)] []) t := fun t kt => kn0 t (by
    show own_S p e below T0 (mkF m 536 #[.val (.int p1), .val (.int p2), .val (.int p3), .val (.ref b3), .val (.ref b4), .val (.ref b5), .val (.int (2 : Int32)), .val (.int cnt), .val (.int xp)] []) _
    refine XS.aloadN X0.here hx rfl (hb hby at_536) rfl rfl ?_
    show own_S p e below T0 (mkF m 537 #[.val (.int p1), .val (.int p2), .val (.int p3), .val (.ref b3), .val (.ref b4), .val (.ref b5), .val (.int (2 : Int32)), .val (.int cnt), .val (.int xp)] [(.ref b3)]) _
    refine XS.iload X0.here hx rfl (hb hby at_537) rfl ?_
    exact kt)
  obtain ⟨cl2, Ar2, q2, Sz2, Ng2, Hs2, Gs2⟩ := id V3
  have hin2 : ¬ ((2 : Int32) < 0 ∨ cl2.slots.size ≤ ((2 : Int32)).toNatClampNeg) := inb_of Sz2 ⟨by decide, by decide⟩
  have hat2 : cl2.slots[((2 : Int32)).toNatClampNeg]? = some (.ref w2) := Hs2.at hin2 rfl
  have kn3 : ∀ t, own_S p e below T0 (mkF m 542 #[.val (.int p1), .val (.int p2), .val (.int p3), .val (.ref b3), .val (.ref b4), .val (.ref b5), .val (.int (2 : Int32)), .val (.int cnt), .val (.int xp)] [(.int cnt), (.ref w2)]) t → own_S p e below T0 (mkF m 536 #[.val (.int p1), .val (.int p2), .val (.int p3), .val (.ref b3), .val (.ref b4), .val (.ref b5), .val (.int (2 : Int32)), .val (.int cnt), .val (.int xp)] []) t := fun t kt => kn1 t (by
    show own_S p e below T0 (mkF m 539 #[.val (.int p1), .val (.int p2), .val (.int p3), .val (.ref b3), .val (.ref b4), .val (.ref b5), .val (.int (2 : Int32)), .val (.int cnt), .val (.int xp)] [(.int (2 : Int32)), (.ref b3)]) _
    refine X0.aaload hx (j := (2 : Int32)) (v := (.ref w2)) (by rw [e0]; exact Ar2.1) (State.isArrayOf_alike hZ.alike Ar2.2.1) rfl Ar2.2.2 hin2 hat2 (g := (mkF m 539 #[.val (.int p1), .val (.int p2), .val (.int p3), .val (.ref b3), .val (.ref b4), .val (.ref b5), .val (.int (2 : Int32)), .val (.int cnt), .val (.int xp)] [(.int (2 : Int32)), (.ref b3)])) rfl rfl (hb hby at_539) _ ?_
    show own_S p e below T0 (mkF m 540 #[.val (.int p1), .val (.int p2), .val (.int p3), .val (.ref b3), .val (.ref b4), .val (.ref b5), .val (.int (2 : Int32)), .val (.int cnt), .val (.int xp)] [(.ref w2)]) _
    refine XS.iload X0.here hx rfl (hb hby at_540) rfl ?_
    exact kt)
  obtain ⟨cq4, kq4, qa4, qb4, qc4⟩ := isOf hZ e0 (E_w2.ext O0.2)
  obtain ⟨_, _, ⟨T4, L4, cc4, ss4⟩, -, X4, ⟨Lc4, hQ4, l4, y4, z4⟩, st4⟩ := X0.virtualBack hx (y := (⟨"com/example/rowan/rowan/xpath/CoreFunction", "takes", "(I)Z"⟩ : MethodName)) (z := (⟨"com/example/rowan/rowan/xpath/CoreFunction", "takes", "(I)Z"⟩ : MethodName)) hown (mvT hZ (hw _ (List.mem_of_getElem? (i := 86) rfl))) (mvT hZ (hw _ (List.mem_of_getElem? (i := 87) rfl))) (notFace_of_selects (args := #[]) (mvT hZ (hw _ (List.mem_of_getElem? (i := 98) rfl)))) (mvT hZ (hw _ (List.mem_of_getElem? (i := 98) rfl))) (mvT hZ (hw _ (List.mem_of_getElem? (i := 88) rfl))) (by decide) (backOf (W := 0) (rm1 l Z a0 hw [] w2 cnt (1 : Int32) (1 : Int32) h0 n0 Z0 (Fa2.ext O0.2) (Fb2.ext O0.2)) hZ (hw _ (List.mem_of_getElem? (i := 90) rfl)) (hw _ (List.mem_of_getElem? (i := 3) rfl)) (by decide) (by decide)) qa4 qc4 (g := (mkF m 542 #[.val (.int p1), .val (.int p2), .val (.int p3), .val (.ref b3), .val (.ref b4), .val (.ref b5), .val (.int (2 : Int32)), .val (.int cnt), .val (.int xp)] [(.int cnt), (.ref w2)])) rfl (by rw [hml]; rfl) (Steps.refl _) (argsL := [(.int cnt)]) (rest := []) (lenOf pd_0 rfl) rfl (by show 2 * 0 + _ ≤ _; exact Nat.le_of_eq rfl) (hb hby at_542) (fun _ _ => ⟨rfl, e0, (by decide : 3 + 0 ≤ _), (by decide : 81 + 0 ≤ _)⟩)
  dsimp only [Pt.U, Pt.locs, Pt.cells, Pt.slots] at X4 l4 y4 z4 st4 hQ4
  subst l4 y4 z4
  have X4 : Stand p l e _ _ m _ below meth c T4 _ 3 81 := X4
  obtain ⟨rfl, Nq4, eq4⟩ := hQ4
  have Nf4 := Fr.app Nf0 Nq4
  have kn5 : ∀ t, own_S p e below T4 (mkF m 545 #[.val (.int p1), .val (.int p2), .val (.int p3), .val (.ref b3), .val (.ref b4), .val (.ref b5), .val (.int (2 : Int32)), .val (.int cnt), .val (.int xp)] [(.int (own_takes (1 : Int32) (1 : Int32) cnt))]) t → own_S p e below T0 (mkF m 536 #[.val (.int p1), .val (.int p2), .val (.int p3), .val (.ref b3), .val (.ref b4), .val (.ref b5), .val (.int (2 : Int32)), .val (.int cnt), .val (.int xp)] []) t := fun t kt => kn3 t (st4.trans kt)
  have kn6 : ∀ t, own_S p e below T4 (mkF m 547 #[.val (.int p1), .val (.int p2), .val (.int p3), .val (.ref b3), .val (.ref b4), .val (.ref b5), .val (.int (2 : Int32)), .val (.int cnt), .val (.int xp)] [(.int xp), (.int (own_takes (1 : Int32) (1 : Int32) cnt))]) t → own_S p e below T0 (mkF m 536 #[.val (.int p1), .val (.int p2), .val (.int p3), .val (.ref b3), .val (.ref b4), .val (.ref b5), .val (.int (2 : Int32)), .val (.int cnt), .val (.int xp)] []) t := fun t kt => kn5 t (by
    show own_S p e below T4 (mkF m 545 #[.val (.int p1), .val (.int p2), .val (.int p3), .val (.ref b3), .val (.ref b4), .val (.ref b5), .val (.int (2 : Int32)), .val (.int cnt), .val (.int xp)] [(.int (own_takes (1 : Int32) (1 : Int32) cnt))]) _
    refine XS.iload X4.here hx rfl (hb hby at_545) rfl ?_
    exact kt)
  have hc547_7 : (own_takes (1 : Int32) (1 : Int32) cnt) = xp := by rw [hxp]; exact own_te _ _ _
  have kn8 : ∀ t, own_S p e below T4 (mkF m 555 #[.val (.int p1), .val (.int p2), .val (.int p3), .val (.ref b3), .val (.ref b4), .val (.ref b5), .val (.int (2 : Int32)), .val (.int cnt), .val (.int xp)] [(.int (1 : Int32))]) t → own_S p e below T0 (mkF m 536 #[.val (.int p1), .val (.int p2), .val (.int p3), .val (.ref b3), .val (.ref b4), .val (.ref b5), .val (.int (2 : Int32)), .val (.int cnt), .val (.int xp)] []) t := fun t kt => kn6 t (by
    show own_S p e below T4 (mkF m 547 #[.val (.int p1), .val (.int p2), .val (.int p3), .val (.ref b3), .val (.ref b4), .val (.ref b5), .val (.int (2 : Int32)), .val (.int cnt), .val (.int xp)] [(.int xp), (.int (own_takes (1 : Int32) (1 : Int32) cnt))]) _
    refine XS.icmpNo X4.here hx rfl (hb hby at_547) rfl (teq hc547_7).2 ?_
    show own_S p e below T4 (mkF m 550 #[.val (.int p1), .val (.int p2), .val (.int p3), .val (.ref b3), .val (.ref b4), .val (.ref b5), .val (.int (2 : Int32)), .val (.int cnt), .val (.int xp)] []) _
    refine XS.iconst X4.here hx rfl (hb hby at_550) ?_
    show own_S p e below T4 (mkF m 551 #[.val (.int p1), .val (.int p2), .val (.int p3), .val (.ref b3), .val (.ref b4), .val (.ref b5), .val (.int (2 : Int32)), .val (.int cnt), .val (.int xp)] [(.int (1 : Int32))]) _
    refine XS.goto X4.here hx rfl (pc0 := 551) (pc' := 555) rfl (hb hby at_551) (by decide) (by decide) ?_
    exact kt)
  obtain ⟨fs, hr, hrun, hended, hW, hsame⟩ := X4.leave (v := some (.int (1 : Int32))) (fun h => by rw [hret] at h; cases h)
  refine ⟨_, _, id (kn8 _ (retN X4 hx (t := .boolean) hret (by simp) (hb hby at_555) hr)), hrun, hended, _, _, rfl, ?_, ⟨_, rfl⟩, hW, hsame.mono (by decide) (by decide)⟩
  show Q0 Z p1 p2 p3 w0 w1 w2 w3 w4 w5 w6 w7 w8 w9 w10 w11 w12 w13 w14 w15 w16 w17 w18 w19 w20 w21 w22 w23 w24 w25 w26 h0 n0 _ T4.heap _
  rw [eq4]
  exact ⟨rfl, Nf4⟩

set_option maxRecDepth 65536 in
set_option maxHeartbeats 40000000 in
theorem tail_3 {p : Program} {l : Launch} {e : Env} {s : State} {m : MethodId} {args : Array Value} {below : List Frame} {meth : Method} {c : Code} {T0 : State} {locs : List Loc} {Z : State} {a0 : Array Value} {h0 : Heap} {n0 : Nat} (p1 : Int32) (p2 : Int32) (p3 : Int32) (w0 : Addr) (w1 : Addr) (w2 : Addr) (w3 : Addr) (w4 : Addr) (w5 : Addr) (w6 : Addr) (w7 : Addr) (w8 : Addr) (w9 : Addr) (w10 : Addr) (w11 : Addr) (w12 : Addr) (w13 : Addr) (w14 : Addr) (w15 : Addr) (w16 : Addr) (w17 : Addr) (w18 : Addr) (w19 : Addr) (w20 : Addr) (w21 : Addr) (w22 : Addr) (w23 : Addr) (w24 : Addr) (w25 : Addr) (w26 : Addr) (b3 : Addr) (b4 : Addr) (b5 : Addr) (k3 : ClassId) (cnt : Int32) (xp : Int32)
    (X0 : Stand p l e room_1 s m args below meth c T0 locs 3 81) (hx : p.tables.exec = Jvm.exec) (hZ : Z.Warmed39 s.vm) (hw : ∀ d ∈ tables_1, d.before a0 Z = true) (hby : c.code = code) (hml : c.maxLocals = 9) (hown : s.vm.findClass "com/example/rowan/rowan/xpath/CoreFunctionTakesPinLaw" = some m.cls) (hret : meth.sig.returnType = some .boolean) (hlk : meth.locks = false) (e0 : T0.heap = h0) (Nf0 : Fr n0 locs) (Z0 : n0 ≤ h0.size) (O0 : Old Z n0 h0) (V3 : Arv Z h0 b3 k3 (.object "com/example/rowan/rowan/xpath/CoreFunction") (27 : Int32) ((.ref w0) :: (.ref w1) :: (.ref w2) :: (.ref w3) :: (.ref w4) :: (.ref w5) :: (.ref w6) :: (.ref w7) :: (.ref w8) :: (.ref w9) :: (.ref w10) :: (.ref w11) :: (.ref w12) :: (.ref w13) :: (.ref w14) :: (.ref w15) :: (.ref w16) :: (.ref w17) :: (.ref w18) :: (.ref w19) :: (.ref w20) :: (.ref w21) :: (.ref w22) :: (.ref w23) :: (.ref w24) :: (.ref w25) :: (.ref w26) :: []) .null) (E_w3 : Exa Z Z.heap w3 "com/example/rowan/rowan/xpath/CoreFunction$4") (Fa3 : Fld Z Z.heap w3 "com/example/rowan/rowan/xpath/CoreFunction" "minimumArguments" "I" (.int (1 : Int32))) (Fb3 : Fld Z Z.heap w3 "com/example/rowan/rowan/xpath/CoreFunction" "maximumArguments" "I" (.int (1 : Int32))) (hxp : xp = own_exp (1 : Int32) (1 : Int32) cnt) :
    ∃ s₂ o, Steps p.tables e below (T0.setTop (mkF m 536 #[.val (.int p1), .val (.int p2), .val (.int p3), .val (.ref b3), .val (.ref b4), .val (.ref b5), .val (.int (3 : Int32)), .val (.int cnt), .val (.int xp)] [])) s₂ ∧ s₂.status = .running ∧ Ended s₂ below o ∧ ∃ v L, o = .returned v ∧ Q0 Z p1 p2 p3 w0 w1 w2 w3 w4 w5 w6 w7 w8 w9 w10 w11 w12 w13 w14 w15 w16 w17 w18 w19 w20 w21 w22 w23 w24 w25 w26 h0 n0 v s₂.heap L ∧ FrameEnd s o s₂ L 16 256 := by
  have kn0 : ∀ t, own_S p e below T0 (mkF m 536 #[.val (.int p1), .val (.int p2), .val (.int p3), .val (.ref b3), .val (.ref b4), .val (.ref b5), .val (.int (3 : Int32)), .val (.int cnt), .val (.int xp)] []) t → own_S p e below T0 (mkF m 536 #[.val (.int p1), .val (.int p2), .val (.int p3), .val (.ref b3), .val (.ref b4), .val (.ref b5), .val (.int (3 : Int32)), .val (.int cnt), .val (.int xp)] []) t := fun t k => k
  have kn1 : ∀ t, own_S p e below T0 (mkF m 539 #[.val (.int p1), .val (.int p2), .val (.int p3), .val (.ref b3), .val (.ref b4), .val (.ref b5), .val (.int (3 : Int32)), .val (.int cnt), .val (.int xp)] [(.int (3 : Int32)), (.ref b3)]) t → own_S p e below T0 (mkF m 536 #[.val (.int p1), .val (.int p2), .val (.int p3), .val (.ref b3), .val (.ref b4), .val (.ref b5), .val (.int (3 : Int32)), .val (.int cnt), .val (.int xp)] []) t := fun t kt => kn0 t (by
    show own_S p e below T0 (mkF m 536 #[.val (.int p1), .val (.int p2), .val (.int p3), .val (.ref b3), .val (.ref b4), .val (.ref b5), .val (.int (3 : Int32)), .val (.int cnt), .val (.int xp)] []) _
    refine XS.aloadN X0.here hx rfl (hb hby at_536) rfl rfl ?_
    show own_S p e below T0 (mkF m 537 #[.val (.int p1), .val (.int p2), .val (.int p3), .val (.ref b3), .val (.ref b4), .val (.ref b5), .val (.int (3 : Int32)), .val (.int cnt), .val (.int xp)] [(.ref b3)]) _
    refine XS.iload X0.here hx rfl (hb hby at_537) rfl ?_
    exact kt)
  obtain ⟨cl2, Ar2, q2, Sz2, Ng2, Hs2, Gs2⟩ := id V3
  have hin2 : ¬ ((3 : Int32) < 0 ∨ cl2.slots.size ≤ ((3 : Int32)).toNatClampNeg) := inb_of Sz2 ⟨by decide, by decide⟩
  have hat2 : cl2.slots[((3 : Int32)).toNatClampNeg]? = some (.ref w3) := Hs2.at hin2 rfl
  have kn3 : ∀ t, own_S p e below T0 (mkF m 542 #[.val (.int p1), .val (.int p2), .val (.int p3), .val (.ref b3), .val (.ref b4), .val (.ref b5), .val (.int (3 : Int32)), .val (.int cnt), .val (.int xp)] [(.int cnt), (.ref w3)]) t → own_S p e below T0 (mkF m 536 #[.val (.int p1), .val (.int p2), .val (.int p3), .val (.ref b3), .val (.ref b4), .val (.ref b5), .val (.int (3 : Int32)), .val (.int cnt), .val (.int xp)] []) t := fun t kt => kn1 t (by
    show own_S p e below T0 (mkF m 539 #[.val (.int p1), .val (.int p2), .val (.int p3), .val (.ref b3), .val (.ref b4), .val (.ref b5), .val (.int (3 : Int32)), .val (.int cnt), .val (.int xp)] [(.int (3 : Int32)), (.ref b3)]) _
    refine X0.aaload hx (j := (3 : Int32)) (v := (.ref w3)) (by rw [e0]; exact Ar2.1) (State.isArrayOf_alike hZ.alike Ar2.2.1) rfl Ar2.2.2 hin2 hat2 (g := (mkF m 539 #[.val (.int p1), .val (.int p2), .val (.int p3), .val (.ref b3), .val (.ref b4), .val (.ref b5), .val (.int (3 : Int32)), .val (.int cnt), .val (.int xp)] [(.int (3 : Int32)), (.ref b3)])) rfl rfl (hb hby at_539) _ ?_
    show own_S p e below T0 (mkF m 540 #[.val (.int p1), .val (.int p2), .val (.int p3), .val (.ref b3), .val (.ref b4), .val (.ref b5), .val (.int (3 : Int32)), .val (.int cnt), .val (.int xp)] [(.ref w3)]) _
    refine XS.iload X0.here hx rfl (hb hby at_540) rfl ?_
    exact kt)
  obtain ⟨cq4, kq4, qa4, qb4, qc4⟩ := isOf hZ e0 (E_w3.ext O0.2)
  obtain ⟨_, _, ⟨T4, L4, cc4, ss4⟩, -, X4, ⟨Lc4, hQ4, l4, y4, z4⟩, st4⟩ := X0.virtualBack hx (y := (⟨"com/example/rowan/rowan/xpath/CoreFunction", "takes", "(I)Z"⟩ : MethodName)) (z := (⟨"com/example/rowan/rowan/xpath/CoreFunction", "takes", "(I)Z"⟩ : MethodName)) hown (mvT hZ (hw _ (List.mem_of_getElem? (i := 86) rfl))) (mvT hZ (hw _ (List.mem_of_getElem? (i := 87) rfl))) (notFace_of_selects (args := #[]) (mvT hZ (hw _ (List.mem_of_getElem? (i := 110) rfl)))) (mvT hZ (hw _ (List.mem_of_getElem? (i := 110) rfl))) (mvT hZ (hw _ (List.mem_of_getElem? (i := 88) rfl))) (by decide) (backOf (W := 0) (rm1 l Z a0 hw [] w3 cnt (1 : Int32) (1 : Int32) h0 n0 Z0 (Fa3.ext O0.2) (Fb3.ext O0.2)) hZ (hw _ (List.mem_of_getElem? (i := 90) rfl)) (hw _ (List.mem_of_getElem? (i := 3) rfl)) (by decide) (by decide)) qa4 qc4 (g := (mkF m 542 #[.val (.int p1), .val (.int p2), .val (.int p3), .val (.ref b3), .val (.ref b4), .val (.ref b5), .val (.int (3 : Int32)), .val (.int cnt), .val (.int xp)] [(.int cnt), (.ref w3)])) rfl (by rw [hml]; rfl) (Steps.refl _) (argsL := [(.int cnt)]) (rest := []) (lenOf pd_0 rfl) rfl (by show 2 * 0 + _ ≤ _; exact Nat.le_of_eq rfl) (hb hby at_542) (fun _ _ => ⟨rfl, e0, (by decide : 3 + 0 ≤ _), (by decide : 81 + 0 ≤ _)⟩)
  dsimp only [Pt.U, Pt.locs, Pt.cells, Pt.slots] at X4 l4 y4 z4 st4 hQ4
  subst l4 y4 z4
  have X4 : Stand p l e _ _ m _ below meth c T4 _ 3 81 := X4
  obtain ⟨rfl, Nq4, eq4⟩ := hQ4
  have Nf4 := Fr.app Nf0 Nq4
  have kn5 : ∀ t, own_S p e below T4 (mkF m 545 #[.val (.int p1), .val (.int p2), .val (.int p3), .val (.ref b3), .val (.ref b4), .val (.ref b5), .val (.int (3 : Int32)), .val (.int cnt), .val (.int xp)] [(.int (own_takes (1 : Int32) (1 : Int32) cnt))]) t → own_S p e below T0 (mkF m 536 #[.val (.int p1), .val (.int p2), .val (.int p3), .val (.ref b3), .val (.ref b4), .val (.ref b5), .val (.int (3 : Int32)), .val (.int cnt), .val (.int xp)] []) t := fun t kt => kn3 t (st4.trans kt)
  have kn6 : ∀ t, own_S p e below T4 (mkF m 547 #[.val (.int p1), .val (.int p2), .val (.int p3), .val (.ref b3), .val (.ref b4), .val (.ref b5), .val (.int (3 : Int32)), .val (.int cnt), .val (.int xp)] [(.int xp), (.int (own_takes (1 : Int32) (1 : Int32) cnt))]) t → own_S p e below T0 (mkF m 536 #[.val (.int p1), .val (.int p2), .val (.int p3), .val (.ref b3), .val (.ref b4), .val (.ref b5), .val (.int (3 : Int32)), .val (.int cnt), .val (.int xp)] []) t := fun t kt => kn5 t (by
    show own_S p e below T4 (mkF m 545 #[.val (.int p1), .val (.int p2), .val (.int p3), .val (.ref b3), .val (.ref b4), .val (.ref b5), .val (.int (3 : Int32)), .val (.int cnt), .val (.int xp)] [(.int (own_takes (1 : Int32) (1 : Int32) cnt))]) _
    refine XS.iload X4.here hx rfl (hb hby at_545) rfl ?_
    exact kt)
  have hc547_7 : (own_takes (1 : Int32) (1 : Int32) cnt) = xp := by rw [hxp]; exact own_te _ _ _
  have kn8 : ∀ t, own_S p e below T4 (mkF m 555 #[.val (.int p1), .val (.int p2), .val (.int p3), .val (.ref b3), .val (.ref b4), .val (.ref b5), .val (.int (3 : Int32)), .val (.int cnt), .val (.int xp)] [(.int (1 : Int32))]) t → own_S p e below T0 (mkF m 536 #[.val (.int p1), .val (.int p2), .val (.int p3), .val (.ref b3), .val (.ref b4), .val (.ref b5), .val (.int (3 : Int32)), .val (.int cnt), .val (.int xp)] []) t := fun t kt => kn6 t (by
    show own_S p e below T4 (mkF m 547 #[.val (.int p1), .val (.int p2), .val (.int p3), .val (.ref b3), .val (.ref b4), .val (.ref b5), .val (.int (3 : Int32)), .val (.int cnt), .val (.int xp)] [(.int xp), (.int (own_takes (1 : Int32) (1 : Int32) cnt))]) _
    refine XS.icmpNo X4.here hx rfl (hb hby at_547) rfl (teq hc547_7).2 ?_
    show own_S p e below T4 (mkF m 550 #[.val (.int p1), .val (.int p2), .val (.int p3), .val (.ref b3), .val (.ref b4), .val (.ref b5), .val (.int (3 : Int32)), .val (.int cnt), .val (.int xp)] []) _
    refine XS.iconst X4.here hx rfl (hb hby at_550) ?_
    show own_S p e below T4 (mkF m 551 #[.val (.int p1), .val (.int p2), .val (.int p3), .val (.ref b3), .val (.ref b4), .val (.ref b5), .val (.int (3 : Int32)), .val (.int cnt), .val (.int xp)] [(.int (1 : Int32))]) _
    refine XS.goto X4.here hx rfl (pc0 := 551) (pc' := 555) rfl (hb hby at_551) (by decide) (by decide) ?_
    exact kt)
  obtain ⟨fs, hr, hrun, hended, hW, hsame⟩ := X4.leave (v := some (.int (1 : Int32))) (fun h => by rw [hret] at h; cases h)
  refine ⟨_, _, id (kn8 _ (retN X4 hx (t := .boolean) hret (by simp) (hb hby at_555) hr)), hrun, hended, _, _, rfl, ?_, ⟨_, rfl⟩, hW, hsame.mono (by decide) (by decide)⟩
  show Q0 Z p1 p2 p3 w0 w1 w2 w3 w4 w5 w6 w7 w8 w9 w10 w11 w12 w13 w14 w15 w16 w17 w18 w19 w20 w21 w22 w23 w24 w25 w26 h0 n0 _ T4.heap _
  rw [eq4]
  exact ⟨rfl, Nf4⟩

set_option maxRecDepth 65536 in
set_option maxHeartbeats 40000000 in
theorem tail_4 {p : Program} {l : Launch} {e : Env} {s : State} {m : MethodId} {args : Array Value} {below : List Frame} {meth : Method} {c : Code} {T0 : State} {locs : List Loc} {Z : State} {a0 : Array Value} {h0 : Heap} {n0 : Nat} (p1 : Int32) (p2 : Int32) (p3 : Int32) (w0 : Addr) (w1 : Addr) (w2 : Addr) (w3 : Addr) (w4 : Addr) (w5 : Addr) (w6 : Addr) (w7 : Addr) (w8 : Addr) (w9 : Addr) (w10 : Addr) (w11 : Addr) (w12 : Addr) (w13 : Addr) (w14 : Addr) (w15 : Addr) (w16 : Addr) (w17 : Addr) (w18 : Addr) (w19 : Addr) (w20 : Addr) (w21 : Addr) (w22 : Addr) (w23 : Addr) (w24 : Addr) (w25 : Addr) (w26 : Addr) (b3 : Addr) (b4 : Addr) (b5 : Addr) (k3 : ClassId) (cnt : Int32) (xp : Int32)
    (X0 : Stand p l e room_1 s m args below meth c T0 locs 3 81) (hx : p.tables.exec = Jvm.exec) (hZ : Z.Warmed39 s.vm) (hw : ∀ d ∈ tables_1, d.before a0 Z = true) (hby : c.code = code) (hml : c.maxLocals = 9) (hown : s.vm.findClass "com/example/rowan/rowan/xpath/CoreFunctionTakesPinLaw" = some m.cls) (hret : meth.sig.returnType = some .boolean) (hlk : meth.locks = false) (e0 : T0.heap = h0) (Nf0 : Fr n0 locs) (Z0 : n0 ≤ h0.size) (O0 : Old Z n0 h0) (V3 : Arv Z h0 b3 k3 (.object "com/example/rowan/rowan/xpath/CoreFunction") (27 : Int32) ((.ref w0) :: (.ref w1) :: (.ref w2) :: (.ref w3) :: (.ref w4) :: (.ref w5) :: (.ref w6) :: (.ref w7) :: (.ref w8) :: (.ref w9) :: (.ref w10) :: (.ref w11) :: (.ref w12) :: (.ref w13) :: (.ref w14) :: (.ref w15) :: (.ref w16) :: (.ref w17) :: (.ref w18) :: (.ref w19) :: (.ref w20) :: (.ref w21) :: (.ref w22) :: (.ref w23) :: (.ref w24) :: (.ref w25) :: (.ref w26) :: []) .null) (E_w4 : Exa Z Z.heap w4 "com/example/rowan/rowan/xpath/CoreFunction$5") (Fa4 : Fld Z Z.heap w4 "com/example/rowan/rowan/xpath/CoreFunction" "minimumArguments" "I" (.int (0 : Int32))) (Fb4 : Fld Z Z.heap w4 "com/example/rowan/rowan/xpath/CoreFunction" "maximumArguments" "I" (.int (1 : Int32))) (hxp : xp = own_exp (0 : Int32) (1 : Int32) cnt) :
    ∃ s₂ o, Steps p.tables e below (T0.setTop (mkF m 536 #[.val (.int p1), .val (.int p2), .val (.int p3), .val (.ref b3), .val (.ref b4), .val (.ref b5), .val (.int (4 : Int32)), .val (.int cnt), .val (.int xp)] [])) s₂ ∧ s₂.status = .running ∧ Ended s₂ below o ∧ ∃ v L, o = .returned v ∧ Q0 Z p1 p2 p3 w0 w1 w2 w3 w4 w5 w6 w7 w8 w9 w10 w11 w12 w13 w14 w15 w16 w17 w18 w19 w20 w21 w22 w23 w24 w25 w26 h0 n0 v s₂.heap L ∧ FrameEnd s o s₂ L 16 256 := by
  have kn0 : ∀ t, own_S p e below T0 (mkF m 536 #[.val (.int p1), .val (.int p2), .val (.int p3), .val (.ref b3), .val (.ref b4), .val (.ref b5), .val (.int (4 : Int32)), .val (.int cnt), .val (.int xp)] []) t → own_S p e below T0 (mkF m 536 #[.val (.int p1), .val (.int p2), .val (.int p3), .val (.ref b3), .val (.ref b4), .val (.ref b5), .val (.int (4 : Int32)), .val (.int cnt), .val (.int xp)] []) t := fun t k => k
  have kn1 : ∀ t, own_S p e below T0 (mkF m 539 #[.val (.int p1), .val (.int p2), .val (.int p3), .val (.ref b3), .val (.ref b4), .val (.ref b5), .val (.int (4 : Int32)), .val (.int cnt), .val (.int xp)] [(.int (4 : Int32)), (.ref b3)]) t → own_S p e below T0 (mkF m 536 #[.val (.int p1), .val (.int p2), .val (.int p3), .val (.ref b3), .val (.ref b4), .val (.ref b5), .val (.int (4 : Int32)), .val (.int cnt), .val (.int xp)] []) t := fun t kt => kn0 t (by
    show own_S p e below T0 (mkF m 536 #[.val (.int p1), .val (.int p2), .val (.int p3), .val (.ref b3), .val (.ref b4), .val (.ref b5), .val (.int (4 : Int32)), .val (.int cnt), .val (.int xp)] []) _
    refine XS.aloadN X0.here hx rfl (hb hby at_536) rfl rfl ?_
    show own_S p e below T0 (mkF m 537 #[.val (.int p1), .val (.int p2), .val (.int p3), .val (.ref b3), .val (.ref b4), .val (.ref b5), .val (.int (4 : Int32)), .val (.int cnt), .val (.int xp)] [(.ref b3)]) _
    refine XS.iload X0.here hx rfl (hb hby at_537) rfl ?_
    exact kt)
  obtain ⟨cl2, Ar2, q2, Sz2, Ng2, Hs2, Gs2⟩ := id V3
  have hin2 : ¬ ((4 : Int32) < 0 ∨ cl2.slots.size ≤ ((4 : Int32)).toNatClampNeg) := inb_of Sz2 ⟨by decide, by decide⟩
  have hat2 : cl2.slots[((4 : Int32)).toNatClampNeg]? = some (.ref w4) := Hs2.at hin2 rfl
  have kn3 : ∀ t, own_S p e below T0 (mkF m 542 #[.val (.int p1), .val (.int p2), .val (.int p3), .val (.ref b3), .val (.ref b4), .val (.ref b5), .val (.int (4 : Int32)), .val (.int cnt), .val (.int xp)] [(.int cnt), (.ref w4)]) t → own_S p e below T0 (mkF m 536 #[.val (.int p1), .val (.int p2), .val (.int p3), .val (.ref b3), .val (.ref b4), .val (.ref b5), .val (.int (4 : Int32)), .val (.int cnt), .val (.int xp)] []) t := fun t kt => kn1 t (by
    show own_S p e below T0 (mkF m 539 #[.val (.int p1), .val (.int p2), .val (.int p3), .val (.ref b3), .val (.ref b4), .val (.ref b5), .val (.int (4 : Int32)), .val (.int cnt), .val (.int xp)] [(.int (4 : Int32)), (.ref b3)]) _
    refine X0.aaload hx (j := (4 : Int32)) (v := (.ref w4)) (by rw [e0]; exact Ar2.1) (State.isArrayOf_alike hZ.alike Ar2.2.1) rfl Ar2.2.2 hin2 hat2 (g := (mkF m 539 #[.val (.int p1), .val (.int p2), .val (.int p3), .val (.ref b3), .val (.ref b4), .val (.ref b5), .val (.int (4 : Int32)), .val (.int cnt), .val (.int xp)] [(.int (4 : Int32)), (.ref b3)])) rfl rfl (hb hby at_539) _ ?_
    show own_S p e below T0 (mkF m 540 #[.val (.int p1), .val (.int p2), .val (.int p3), .val (.ref b3), .val (.ref b4), .val (.ref b5), .val (.int (4 : Int32)), .val (.int cnt), .val (.int xp)] [(.ref w4)]) _
    refine XS.iload X0.here hx rfl (hb hby at_540) rfl ?_
    exact kt)
  obtain ⟨cq4, kq4, qa4, qb4, qc4⟩ := isOf hZ e0 (E_w4.ext O0.2)
  obtain ⟨_, _, ⟨T4, L4, cc4, ss4⟩, -, X4, ⟨Lc4, hQ4, l4, y4, z4⟩, st4⟩ := X0.virtualBack hx (y := (⟨"com/example/rowan/rowan/xpath/CoreFunction", "takes", "(I)Z"⟩ : MethodName)) (z := (⟨"com/example/rowan/rowan/xpath/CoreFunction", "takes", "(I)Z"⟩ : MethodName)) hown (mvT hZ (hw _ (List.mem_of_getElem? (i := 86) rfl))) (mvT hZ (hw _ (List.mem_of_getElem? (i := 87) rfl))) (notFace_of_selects (args := #[]) (mvT hZ (hw _ (List.mem_of_getElem? (i := 151) rfl)))) (mvT hZ (hw _ (List.mem_of_getElem? (i := 151) rfl))) (mvT hZ (hw _ (List.mem_of_getElem? (i := 88) rfl))) (by decide) (backOf (W := 0) (rm1 l Z a0 hw [] w4 cnt (0 : Int32) (1 : Int32) h0 n0 Z0 (Fa4.ext O0.2) (Fb4.ext O0.2)) hZ (hw _ (List.mem_of_getElem? (i := 90) rfl)) (hw _ (List.mem_of_getElem? (i := 3) rfl)) (by decide) (by decide)) qa4 qc4 (g := (mkF m 542 #[.val (.int p1), .val (.int p2), .val (.int p3), .val (.ref b3), .val (.ref b4), .val (.ref b5), .val (.int (4 : Int32)), .val (.int cnt), .val (.int xp)] [(.int cnt), (.ref w4)])) rfl (by rw [hml]; rfl) (Steps.refl _) (argsL := [(.int cnt)]) (rest := []) (lenOf pd_0 rfl) rfl (by show 2 * 0 + _ ≤ _; exact Nat.le_of_eq rfl) (hb hby at_542) (fun _ _ => ⟨rfl, e0, (by decide : 3 + 0 ≤ _), (by decide : 81 + 0 ≤ _)⟩)
  dsimp only [Pt.U, Pt.locs, Pt.cells, Pt.slots] at X4 l4 y4 z4 st4 hQ4
  subst l4 y4 z4
  have X4 : Stand p l e _ _ m _ below meth c T4 _ 3 81 := X4
  obtain ⟨rfl, Nq4, eq4⟩ := hQ4
  have Nf4 := Fr.app Nf0 Nq4
  have kn5 : ∀ t, own_S p e below T4 (mkF m 545 #[.val (.int p1), .val (.int p2), .val (.int p3), .val (.ref b3), .val (.ref b4), .val (.ref b5), .val (.int (4 : Int32)), .val (.int cnt), .val (.int xp)] [(.int (own_takes (0 : Int32) (1 : Int32) cnt))]) t → own_S p e below T0 (mkF m 536 #[.val (.int p1), .val (.int p2), .val (.int p3), .val (.ref b3), .val (.ref b4), .val (.ref b5), .val (.int (4 : Int32)), .val (.int cnt), .val (.int xp)] []) t := fun t kt => kn3 t (st4.trans kt)
  have kn6 : ∀ t, own_S p e below T4 (mkF m 547 #[.val (.int p1), .val (.int p2), .val (.int p3), .val (.ref b3), .val (.ref b4), .val (.ref b5), .val (.int (4 : Int32)), .val (.int cnt), .val (.int xp)] [(.int xp), (.int (own_takes (0 : Int32) (1 : Int32) cnt))]) t → own_S p e below T0 (mkF m 536 #[.val (.int p1), .val (.int p2), .val (.int p3), .val (.ref b3), .val (.ref b4), .val (.ref b5), .val (.int (4 : Int32)), .val (.int cnt), .val (.int xp)] []) t := fun t kt => kn5 t (by
    show own_S p e below T4 (mkF m 545 #[.val (.int p1), .val (.int p2), .val (.int p3), .val (.ref b3), .val (.ref b4), .val (.ref b5), .val (.int (4 : Int32)), .val (.int cnt), .val (.int xp)] [(.int (own_takes (0 : Int32) (1 : Int32) cnt))]) _
    refine XS.iload X4.here hx rfl (hb hby at_545) rfl ?_
    exact kt)
  have hc547_7 : (own_takes (0 : Int32) (1 : Int32) cnt) = xp := by rw [hxp]; exact own_te _ _ _
  have kn8 : ∀ t, own_S p e below T4 (mkF m 555 #[.val (.int p1), .val (.int p2), .val (.int p3), .val (.ref b3), .val (.ref b4), .val (.ref b5), .val (.int (4 : Int32)), .val (.int cnt), .val (.int xp)] [(.int (1 : Int32))]) t → own_S p e below T0 (mkF m 536 #[.val (.int p1), .val (.int p2), .val (.int p3), .val (.ref b3), .val (.ref b4), .val (.ref b5), .val (.int (4 : Int32)), .val (.int cnt), .val (.int xp)] []) t := fun t kt => kn6 t (by
    show own_S p e below T4 (mkF m 547 #[.val (.int p1), .val (.int p2), .val (.int p3), .val (.ref b3), .val (.ref b4), .val (.ref b5), .val (.int (4 : Int32)), .val (.int cnt), .val (.int xp)] [(.int xp), (.int (own_takes (0 : Int32) (1 : Int32) cnt))]) _
    refine XS.icmpNo X4.here hx rfl (hb hby at_547) rfl (teq hc547_7).2 ?_
    show own_S p e below T4 (mkF m 550 #[.val (.int p1), .val (.int p2), .val (.int p3), .val (.ref b3), .val (.ref b4), .val (.ref b5), .val (.int (4 : Int32)), .val (.int cnt), .val (.int xp)] []) _
    refine XS.iconst X4.here hx rfl (hb hby at_550) ?_
    show own_S p e below T4 (mkF m 551 #[.val (.int p1), .val (.int p2), .val (.int p3), .val (.ref b3), .val (.ref b4), .val (.ref b5), .val (.int (4 : Int32)), .val (.int cnt), .val (.int xp)] [(.int (1 : Int32))]) _
    refine XS.goto X4.here hx rfl (pc0 := 551) (pc' := 555) rfl (hb hby at_551) (by decide) (by decide) ?_
    exact kt)
  obtain ⟨fs, hr, hrun, hended, hW, hsame⟩ := X4.leave (v := some (.int (1 : Int32))) (fun h => by rw [hret] at h; cases h)
  refine ⟨_, _, id (kn8 _ (retN X4 hx (t := .boolean) hret (by simp) (hb hby at_555) hr)), hrun, hended, _, _, rfl, ?_, ⟨_, rfl⟩, hW, hsame.mono (by decide) (by decide)⟩
  show Q0 Z p1 p2 p3 w0 w1 w2 w3 w4 w5 w6 w7 w8 w9 w10 w11 w12 w13 w14 w15 w16 w17 w18 w19 w20 w21 w22 w23 w24 w25 w26 h0 n0 _ T4.heap _
  rw [eq4]
  exact ⟨rfl, Nf4⟩

set_option maxRecDepth 65536 in
set_option maxHeartbeats 40000000 in
theorem tail_5 {p : Program} {l : Launch} {e : Env} {s : State} {m : MethodId} {args : Array Value} {below : List Frame} {meth : Method} {c : Code} {T0 : State} {locs : List Loc} {Z : State} {a0 : Array Value} {h0 : Heap} {n0 : Nat} (p1 : Int32) (p2 : Int32) (p3 : Int32) (w0 : Addr) (w1 : Addr) (w2 : Addr) (w3 : Addr) (w4 : Addr) (w5 : Addr) (w6 : Addr) (w7 : Addr) (w8 : Addr) (w9 : Addr) (w10 : Addr) (w11 : Addr) (w12 : Addr) (w13 : Addr) (w14 : Addr) (w15 : Addr) (w16 : Addr) (w17 : Addr) (w18 : Addr) (w19 : Addr) (w20 : Addr) (w21 : Addr) (w22 : Addr) (w23 : Addr) (w24 : Addr) (w25 : Addr) (w26 : Addr) (b3 : Addr) (b4 : Addr) (b5 : Addr) (k3 : ClassId) (cnt : Int32) (xp : Int32)
    (X0 : Stand p l e room_1 s m args below meth c T0 locs 3 81) (hx : p.tables.exec = Jvm.exec) (hZ : Z.Warmed39 s.vm) (hw : ∀ d ∈ tables_1, d.before a0 Z = true) (hby : c.code = code) (hml : c.maxLocals = 9) (hown : s.vm.findClass "com/example/rowan/rowan/xpath/CoreFunctionTakesPinLaw" = some m.cls) (hret : meth.sig.returnType = some .boolean) (hlk : meth.locks = false) (e0 : T0.heap = h0) (Nf0 : Fr n0 locs) (Z0 : n0 ≤ h0.size) (O0 : Old Z n0 h0) (V3 : Arv Z h0 b3 k3 (.object "com/example/rowan/rowan/xpath/CoreFunction") (27 : Int32) ((.ref w0) :: (.ref w1) :: (.ref w2) :: (.ref w3) :: (.ref w4) :: (.ref w5) :: (.ref w6) :: (.ref w7) :: (.ref w8) :: (.ref w9) :: (.ref w10) :: (.ref w11) :: (.ref w12) :: (.ref w13) :: (.ref w14) :: (.ref w15) :: (.ref w16) :: (.ref w17) :: (.ref w18) :: (.ref w19) :: (.ref w20) :: (.ref w21) :: (.ref w22) :: (.ref w23) :: (.ref w24) :: (.ref w25) :: (.ref w26) :: []) .null) (E_w5 : Exa Z Z.heap w5 "com/example/rowan/rowan/xpath/CoreFunction$6") (Fa5 : Fld Z Z.heap w5 "com/example/rowan/rowan/xpath/CoreFunction" "minimumArguments" "I" (.int (0 : Int32))) (Fb5 : Fld Z Z.heap w5 "com/example/rowan/rowan/xpath/CoreFunction" "maximumArguments" "I" (.int (1 : Int32))) (hxp : xp = own_exp (0 : Int32) (1 : Int32) cnt) :
    ∃ s₂ o, Steps p.tables e below (T0.setTop (mkF m 536 #[.val (.int p1), .val (.int p2), .val (.int p3), .val (.ref b3), .val (.ref b4), .val (.ref b5), .val (.int (5 : Int32)), .val (.int cnt), .val (.int xp)] [])) s₂ ∧ s₂.status = .running ∧ Ended s₂ below o ∧ ∃ v L, o = .returned v ∧ Q0 Z p1 p2 p3 w0 w1 w2 w3 w4 w5 w6 w7 w8 w9 w10 w11 w12 w13 w14 w15 w16 w17 w18 w19 w20 w21 w22 w23 w24 w25 w26 h0 n0 v s₂.heap L ∧ FrameEnd s o s₂ L 16 256 := by
  have kn0 : ∀ t, own_S p e below T0 (mkF m 536 #[.val (.int p1), .val (.int p2), .val (.int p3), .val (.ref b3), .val (.ref b4), .val (.ref b5), .val (.int (5 : Int32)), .val (.int cnt), .val (.int xp)] []) t → own_S p e below T0 (mkF m 536 #[.val (.int p1), .val (.int p2), .val (.int p3), .val (.ref b3), .val (.ref b4), .val (.ref b5), .val (.int (5 : Int32)), .val (.int cnt), .val (.int xp)] []) t := fun t k => k
  have kn1 : ∀ t, own_S p e below T0 (mkF m 539 #[.val (.int p1), .val (.int p2), .val (.int p3), .val (.ref b3), .val (.ref b4), .val (.ref b5), .val (.int (5 : Int32)), .val (.int cnt), .val (.int xp)] [(.int (5 : Int32)), (.ref b3)]) t → own_S p e below T0 (mkF m 536 #[.val (.int p1), .val (.int p2), .val (.int p3), .val (.ref b3), .val (.ref b4), .val (.ref b5), .val (.int (5 : Int32)), .val (.int cnt), .val (.int xp)] []) t := fun t kt => kn0 t (by
    show own_S p e below T0 (mkF m 536 #[.val (.int p1), .val (.int p2), .val (.int p3), .val (.ref b3), .val (.ref b4), .val (.ref b5), .val (.int (5 : Int32)), .val (.int cnt), .val (.int xp)] []) _
    refine XS.aloadN X0.here hx rfl (hb hby at_536) rfl rfl ?_
    show own_S p e below T0 (mkF m 537 #[.val (.int p1), .val (.int p2), .val (.int p3), .val (.ref b3), .val (.ref b4), .val (.ref b5), .val (.int (5 : Int32)), .val (.int cnt), .val (.int xp)] [(.ref b3)]) _
    refine XS.iload X0.here hx rfl (hb hby at_537) rfl ?_
    exact kt)
  obtain ⟨cl2, Ar2, q2, Sz2, Ng2, Hs2, Gs2⟩ := id V3
  have hin2 : ¬ ((5 : Int32) < 0 ∨ cl2.slots.size ≤ ((5 : Int32)).toNatClampNeg) := inb_of Sz2 ⟨by decide, by decide⟩
  have hat2 : cl2.slots[((5 : Int32)).toNatClampNeg]? = some (.ref w5) := Hs2.at hin2 rfl
  have kn3 : ∀ t, own_S p e below T0 (mkF m 542 #[.val (.int p1), .val (.int p2), .val (.int p3), .val (.ref b3), .val (.ref b4), .val (.ref b5), .val (.int (5 : Int32)), .val (.int cnt), .val (.int xp)] [(.int cnt), (.ref w5)]) t → own_S p e below T0 (mkF m 536 #[.val (.int p1), .val (.int p2), .val (.int p3), .val (.ref b3), .val (.ref b4), .val (.ref b5), .val (.int (5 : Int32)), .val (.int cnt), .val (.int xp)] []) t := fun t kt => kn1 t (by
    show own_S p e below T0 (mkF m 539 #[.val (.int p1), .val (.int p2), .val (.int p3), .val (.ref b3), .val (.ref b4), .val (.ref b5), .val (.int (5 : Int32)), .val (.int cnt), .val (.int xp)] [(.int (5 : Int32)), (.ref b3)]) _
    refine X0.aaload hx (j := (5 : Int32)) (v := (.ref w5)) (by rw [e0]; exact Ar2.1) (State.isArrayOf_alike hZ.alike Ar2.2.1) rfl Ar2.2.2 hin2 hat2 (g := (mkF m 539 #[.val (.int p1), .val (.int p2), .val (.int p3), .val (.ref b3), .val (.ref b4), .val (.ref b5), .val (.int (5 : Int32)), .val (.int cnt), .val (.int xp)] [(.int (5 : Int32)), (.ref b3)])) rfl rfl (hb hby at_539) _ ?_
    show own_S p e below T0 (mkF m 540 #[.val (.int p1), .val (.int p2), .val (.int p3), .val (.ref b3), .val (.ref b4), .val (.ref b5), .val (.int (5 : Int32)), .val (.int cnt), .val (.int xp)] [(.ref w5)]) _
    refine XS.iload X0.here hx rfl (hb hby at_540) rfl ?_
    exact kt)
  obtain ⟨cq4, kq4, qa4, qb4, qc4⟩ := isOf hZ e0 (E_w5.ext O0.2)
  obtain ⟨_, _, ⟨T4, L4, cc4, ss4⟩, -, X4, ⟨Lc4, hQ4, l4, y4, z4⟩, st4⟩ := X0.virtualBack hx (y := (⟨"com/example/rowan/rowan/xpath/CoreFunction", "takes", "(I)Z"⟩ : MethodName)) (z := (⟨"com/example/rowan/rowan/xpath/CoreFunction", "takes", "(I)Z"⟩ : MethodName)) hown (mvT hZ (hw _ (List.mem_of_getElem? (i := 86) rfl))) (mvT hZ (hw _ (List.mem_of_getElem? (i := 87) rfl))) (notFace_of_selects (args := #[]) (mvT hZ (hw _ (List.mem_of_getElem? (i := 137) rfl)))) (mvT hZ (hw _ (List.mem_of_getElem? (i := 137) rfl))) (mvT hZ (hw _ (List.mem_of_getElem? (i := 88) rfl))) (by decide) (backOf (W := 0) (rm1 l Z a0 hw [] w5 cnt (0 : Int32) (1 : Int32) h0 n0 Z0 (Fa5.ext O0.2) (Fb5.ext O0.2)) hZ (hw _ (List.mem_of_getElem? (i := 90) rfl)) (hw _ (List.mem_of_getElem? (i := 3) rfl)) (by decide) (by decide)) qa4 qc4 (g := (mkF m 542 #[.val (.int p1), .val (.int p2), .val (.int p3), .val (.ref b3), .val (.ref b4), .val (.ref b5), .val (.int (5 : Int32)), .val (.int cnt), .val (.int xp)] [(.int cnt), (.ref w5)])) rfl (by rw [hml]; rfl) (Steps.refl _) (argsL := [(.int cnt)]) (rest := []) (lenOf pd_0 rfl) rfl (by show 2 * 0 + _ ≤ _; exact Nat.le_of_eq rfl) (hb hby at_542) (fun _ _ => ⟨rfl, e0, (by decide : 3 + 0 ≤ _), (by decide : 81 + 0 ≤ _)⟩)
  dsimp only [Pt.U, Pt.locs, Pt.cells, Pt.slots] at X4 l4 y4 z4 st4 hQ4
  subst l4 y4 z4
  have X4 : Stand p l e _ _ m _ below meth c T4 _ 3 81 := X4
  obtain ⟨rfl, Nq4, eq4⟩ := hQ4
  have Nf4 := Fr.app Nf0 Nq4
  have kn5 : ∀ t, own_S p e below T4 (mkF m 545 #[.val (.int p1), .val (.int p2), .val (.int p3), .val (.ref b3), .val (.ref b4), .val (.ref b5), .val (.int (5 : Int32)), .val (.int cnt), .val (.int xp)] [(.int (own_takes (0 : Int32) (1 : Int32) cnt))]) t → own_S p e below T0 (mkF m 536 #[.val (.int p1), .val (.int p2), .val (.int p3), .val (.ref b3), .val (.ref b4), .val (.ref b5), .val (.int (5 : Int32)), .val (.int cnt), .val (.int xp)] []) t := fun t kt => kn3 t (st4.trans kt)
  have kn6 : ∀ t, own_S p e below T4 (mkF m 547 #[.val (.int p1), .val (.int p2), .val (.int p3), .val (.ref b3), .val (.ref b4), .val (.ref b5), .val (.int (5 : Int32)), .val (.int cnt), .val (.int xp)] [(.int xp), (.int (own_takes (0 : Int32) (1 : Int32) cnt))]) t → own_S p e below T0 (mkF m 536 #[.val (.int p1), .val (.int p2), .val (.int p3), .val (.ref b3), .val (.ref b4), .val (.ref b5), .val (.int (5 : Int32)), .val (.int cnt), .val (.int xp)] []) t := fun t kt => kn5 t (by
    show own_S p e below T4 (mkF m 545 #[.val (.int p1), .val (.int p2), .val (.int p3), .val (.ref b3), .val (.ref b4), .val (.ref b5), .val (.int (5 : Int32)), .val (.int cnt), .val (.int xp)] [(.int (own_takes (0 : Int32) (1 : Int32) cnt))]) _
    refine XS.iload X4.here hx rfl (hb hby at_545) rfl ?_
    exact kt)
  have hc547_7 : (own_takes (0 : Int32) (1 : Int32) cnt) = xp := by rw [hxp]; exact own_te _ _ _
  have kn8 : ∀ t, own_S p e below T4 (mkF m 555 #[.val (.int p1), .val (.int p2), .val (.int p3), .val (.ref b3), .val (.ref b4), .val (.ref b5), .val (.int (5 : Int32)), .val (.int cnt), .val (.int xp)] [(.int (1 : Int32))]) t → own_S p e below T0 (mkF m 536 #[.val (.int p1), .val (.int p2), .val (.int p3), .val (.ref b3), .val (.ref b4), .val (.ref b5), .val (.int (5 : Int32)), .val (.int cnt), .val (.int xp)] []) t := fun t kt => kn6 t (by
    show own_S p e below T4 (mkF m 547 #[.val (.int p1), .val (.int p2), .val (.int p3), .val (.ref b3), .val (.ref b4), .val (.ref b5), .val (.int (5 : Int32)), .val (.int cnt), .val (.int xp)] [(.int xp), (.int (own_takes (0 : Int32) (1 : Int32) cnt))]) _
    refine XS.icmpNo X4.here hx rfl (hb hby at_547) rfl (teq hc547_7).2 ?_
    show own_S p e below T4 (mkF m 550 #[.val (.int p1), .val (.int p2), .val (.int p3), .val (.ref b3), .val (.ref b4), .val (.ref b5), .val (.int (5 : Int32)), .val (.int cnt), .val (.int xp)] []) _
    refine XS.iconst X4.here hx rfl (hb hby at_550) ?_
    show own_S p e below T4 (mkF m 551 #[.val (.int p1), .val (.int p2), .val (.int p3), .val (.ref b3), .val (.ref b4), .val (.ref b5), .val (.int (5 : Int32)), .val (.int cnt), .val (.int xp)] [(.int (1 : Int32))]) _
    refine XS.goto X4.here hx rfl (pc0 := 551) (pc' := 555) rfl (hb hby at_551) (by decide) (by decide) ?_
    exact kt)
  obtain ⟨fs, hr, hrun, hended, hW, hsame⟩ := X4.leave (v := some (.int (1 : Int32))) (fun h => by rw [hret] at h; cases h)
  refine ⟨_, _, id (kn8 _ (retN X4 hx (t := .boolean) hret (by simp) (hb hby at_555) hr)), hrun, hended, _, _, rfl, ?_, ⟨_, rfl⟩, hW, hsame.mono (by decide) (by decide)⟩
  show Q0 Z p1 p2 p3 w0 w1 w2 w3 w4 w5 w6 w7 w8 w9 w10 w11 w12 w13 w14 w15 w16 w17 w18 w19 w20 w21 w22 w23 w24 w25 w26 h0 n0 _ T4.heap _
  rw [eq4]
  exact ⟨rfl, Nf4⟩

set_option maxRecDepth 65536 in
set_option maxHeartbeats 40000000 in
theorem tail_6 {p : Program} {l : Launch} {e : Env} {s : State} {m : MethodId} {args : Array Value} {below : List Frame} {meth : Method} {c : Code} {T0 : State} {locs : List Loc} {Z : State} {a0 : Array Value} {h0 : Heap} {n0 : Nat} (p1 : Int32) (p2 : Int32) (p3 : Int32) (w0 : Addr) (w1 : Addr) (w2 : Addr) (w3 : Addr) (w4 : Addr) (w5 : Addr) (w6 : Addr) (w7 : Addr) (w8 : Addr) (w9 : Addr) (w10 : Addr) (w11 : Addr) (w12 : Addr) (w13 : Addr) (w14 : Addr) (w15 : Addr) (w16 : Addr) (w17 : Addr) (w18 : Addr) (w19 : Addr) (w20 : Addr) (w21 : Addr) (w22 : Addr) (w23 : Addr) (w24 : Addr) (w25 : Addr) (w26 : Addr) (b3 : Addr) (b4 : Addr) (b5 : Addr) (k3 : ClassId) (cnt : Int32) (xp : Int32)
    (X0 : Stand p l e room_1 s m args below meth c T0 locs 3 81) (hx : p.tables.exec = Jvm.exec) (hZ : Z.Warmed39 s.vm) (hw : ∀ d ∈ tables_1, d.before a0 Z = true) (hby : c.code = code) (hml : c.maxLocals = 9) (hown : s.vm.findClass "com/example/rowan/rowan/xpath/CoreFunctionTakesPinLaw" = some m.cls) (hret : meth.sig.returnType = some .boolean) (hlk : meth.locks = false) (e0 : T0.heap = h0) (Nf0 : Fr n0 locs) (Z0 : n0 ≤ h0.size) (O0 : Old Z n0 h0) (V3 : Arv Z h0 b3 k3 (.object "com/example/rowan/rowan/xpath/CoreFunction") (27 : Int32) ((.ref w0) :: (.ref w1) :: (.ref w2) :: (.ref w3) :: (.ref w4) :: (.ref w5) :: (.ref w6) :: (.ref w7) :: (.ref w8) :: (.ref w9) :: (.ref w10) :: (.ref w11) :: (.ref w12) :: (.ref w13) :: (.ref w14) :: (.ref w15) :: (.ref w16) :: (.ref w17) :: (.ref w18) :: (.ref w19) :: (.ref w20) :: (.ref w21) :: (.ref w22) :: (.ref w23) :: (.ref w24) :: (.ref w25) :: (.ref w26) :: []) .null) (E_w6 : Exa Z Z.heap w6 "com/example/rowan/rowan/xpath/CoreFunction$7") (Fa6 : Fld Z Z.heap w6 "com/example/rowan/rowan/xpath/CoreFunction" "minimumArguments" "I" (.int (0 : Int32))) (Fb6 : Fld Z Z.heap w6 "com/example/rowan/rowan/xpath/CoreFunction" "maximumArguments" "I" (.int (1 : Int32))) (hxp : xp = own_exp (0 : Int32) (1 : Int32) cnt) :
    ∃ s₂ o, Steps p.tables e below (T0.setTop (mkF m 536 #[.val (.int p1), .val (.int p2), .val (.int p3), .val (.ref b3), .val (.ref b4), .val (.ref b5), .val (.int (6 : Int32)), .val (.int cnt), .val (.int xp)] [])) s₂ ∧ s₂.status = .running ∧ Ended s₂ below o ∧ ∃ v L, o = .returned v ∧ Q0 Z p1 p2 p3 w0 w1 w2 w3 w4 w5 w6 w7 w8 w9 w10 w11 w12 w13 w14 w15 w16 w17 w18 w19 w20 w21 w22 w23 w24 w25 w26 h0 n0 v s₂.heap L ∧ FrameEnd s o s₂ L 16 256 := by
  have kn0 : ∀ t, own_S p e below T0 (mkF m 536 #[.val (.int p1), .val (.int p2), .val (.int p3), .val (.ref b3), .val (.ref b4), .val (.ref b5), .val (.int (6 : Int32)), .val (.int cnt), .val (.int xp)] []) t → own_S p e below T0 (mkF m 536 #[.val (.int p1), .val (.int p2), .val (.int p3), .val (.ref b3), .val (.ref b4), .val (.ref b5), .val (.int (6 : Int32)), .val (.int cnt), .val (.int xp)] []) t := fun t k => k
  have kn1 : ∀ t, own_S p e below T0 (mkF m 539 #[.val (.int p1), .val (.int p2), .val (.int p3), .val (.ref b3), .val (.ref b4), .val (.ref b5), .val (.int (6 : Int32)), .val (.int cnt), .val (.int xp)] [(.int (6 : Int32)), (.ref b3)]) t → own_S p e below T0 (mkF m 536 #[.val (.int p1), .val (.int p2), .val (.int p3), .val (.ref b3), .val (.ref b4), .val (.ref b5), .val (.int (6 : Int32)), .val (.int cnt), .val (.int xp)] []) t := fun t kt => kn0 t (by
    show own_S p e below T0 (mkF m 536 #[.val (.int p1), .val (.int p2), .val (.int p3), .val (.ref b3), .val (.ref b4), .val (.ref b5), .val (.int (6 : Int32)), .val (.int cnt), .val (.int xp)] []) _
    refine XS.aloadN X0.here hx rfl (hb hby at_536) rfl rfl ?_
    show own_S p e below T0 (mkF m 537 #[.val (.int p1), .val (.int p2), .val (.int p3), .val (.ref b3), .val (.ref b4), .val (.ref b5), .val (.int (6 : Int32)), .val (.int cnt), .val (.int xp)] [(.ref b3)]) _
    refine XS.iload X0.here hx rfl (hb hby at_537) rfl ?_
    exact kt)
  obtain ⟨cl2, Ar2, q2, Sz2, Ng2, Hs2, Gs2⟩ := id V3
  have hin2 : ¬ ((6 : Int32) < 0 ∨ cl2.slots.size ≤ ((6 : Int32)).toNatClampNeg) := inb_of Sz2 ⟨by decide, by decide⟩
  have hat2 : cl2.slots[((6 : Int32)).toNatClampNeg]? = some (.ref w6) := Hs2.at hin2 rfl
  have kn3 : ∀ t, own_S p e below T0 (mkF m 542 #[.val (.int p1), .val (.int p2), .val (.int p3), .val (.ref b3), .val (.ref b4), .val (.ref b5), .val (.int (6 : Int32)), .val (.int cnt), .val (.int xp)] [(.int cnt), (.ref w6)]) t → own_S p e below T0 (mkF m 536 #[.val (.int p1), .val (.int p2), .val (.int p3), .val (.ref b3), .val (.ref b4), .val (.ref b5), .val (.int (6 : Int32)), .val (.int cnt), .val (.int xp)] []) t := fun t kt => kn1 t (by
    show own_S p e below T0 (mkF m 539 #[.val (.int p1), .val (.int p2), .val (.int p3), .val (.ref b3), .val (.ref b4), .val (.ref b5), .val (.int (6 : Int32)), .val (.int cnt), .val (.int xp)] [(.int (6 : Int32)), (.ref b3)]) _
    refine X0.aaload hx (j := (6 : Int32)) (v := (.ref w6)) (by rw [e0]; exact Ar2.1) (State.isArrayOf_alike hZ.alike Ar2.2.1) rfl Ar2.2.2 hin2 hat2 (g := (mkF m 539 #[.val (.int p1), .val (.int p2), .val (.int p3), .val (.ref b3), .val (.ref b4), .val (.ref b5), .val (.int (6 : Int32)), .val (.int cnt), .val (.int xp)] [(.int (6 : Int32)), (.ref b3)])) rfl rfl (hb hby at_539) _ ?_
    show own_S p e below T0 (mkF m 540 #[.val (.int p1), .val (.int p2), .val (.int p3), .val (.ref b3), .val (.ref b4), .val (.ref b5), .val (.int (6 : Int32)), .val (.int cnt), .val (.int xp)] [(.ref w6)]) _
    refine XS.iload X0.here hx rfl (hb hby at_540) rfl ?_
    exact kt)
  obtain ⟨cq4, kq4, qa4, qb4, qc4⟩ := isOf hZ e0 (E_w6.ext O0.2)
  obtain ⟨_, _, ⟨T4, L4, cc4, ss4⟩, -, X4, ⟨Lc4, hQ4, l4, y4, z4⟩, st4⟩ := X0.virtualBack hx (y := (⟨"com/example/rowan/rowan/xpath/CoreFunction", "takes", "(I)Z"⟩ : MethodName)) (z := (⟨"com/example/rowan/rowan/xpath/CoreFunction", "takes", "(I)Z"⟩ : MethodName)) hown (mvT hZ (hw _ (List.mem_of_getElem? (i := 86) rfl))) (mvT hZ (hw _ (List.mem_of_getElem? (i := 87) rfl))) (notFace_of_selects (args := #[]) (mvT hZ (hw _ (List.mem_of_getElem? (i := 134) rfl)))) (mvT hZ (hw _ (List.mem_of_getElem? (i := 134) rfl))) (mvT hZ (hw _ (List.mem_of_getElem? (i := 88) rfl))) (by decide) (backOf (W := 0) (rm1 l Z a0 hw [] w6 cnt (0 : Int32) (1 : Int32) h0 n0 Z0 (Fa6.ext O0.2) (Fb6.ext O0.2)) hZ (hw _ (List.mem_of_getElem? (i := 90) rfl)) (hw _ (List.mem_of_getElem? (i := 3) rfl)) (by decide) (by decide)) qa4 qc4 (g := (mkF m 542 #[.val (.int p1), .val (.int p2), .val (.int p3), .val (.ref b3), .val (.ref b4), .val (.ref b5), .val (.int (6 : Int32)), .val (.int cnt), .val (.int xp)] [(.int cnt), (.ref w6)])) rfl (by rw [hml]; rfl) (Steps.refl _) (argsL := [(.int cnt)]) (rest := []) (lenOf pd_0 rfl) rfl (by show 2 * 0 + _ ≤ _; exact Nat.le_of_eq rfl) (hb hby at_542) (fun _ _ => ⟨rfl, e0, (by decide : 3 + 0 ≤ _), (by decide : 81 + 0 ≤ _)⟩)
  dsimp only [Pt.U, Pt.locs, Pt.cells, Pt.slots] at X4 l4 y4 z4 st4 hQ4
  subst l4 y4 z4
  have X4 : Stand p l e _ _ m _ below meth c T4 _ 3 81 := X4
  obtain ⟨rfl, Nq4, eq4⟩ := hQ4
  have Nf4 := Fr.app Nf0 Nq4
  have kn5 : ∀ t, own_S p e below T4 (mkF m 545 #[.val (.int p1), .val (.int p2), .val (.int p3), .val (.ref b3), .val (.ref b4), .val (.ref b5), .val (.int (6 : Int32)), .val (.int cnt), .val (.int xp)] [(.int (own_takes (0 : Int32) (1 : Int32) cnt))]) t → own_S p e below T0 (mkF m 536 #[.val (.int p1), .val (.int p2), .val (.int p3), .val (.ref b3), .val (.ref b4), .val (.ref b5), .val (.int (6 : Int32)), .val (.int cnt), .val (.int xp)] []) t := fun t kt => kn3 t (st4.trans kt)
  have kn6 : ∀ t, own_S p e below T4 (mkF m 547 #[.val (.int p1), .val (.int p2), .val (.int p3), .val (.ref b3), .val (.ref b4), .val (.ref b5), .val (.int (6 : Int32)), .val (.int cnt), .val (.int xp)] [(.int xp), (.int (own_takes (0 : Int32) (1 : Int32) cnt))]) t → own_S p e below T0 (mkF m 536 #[.val (.int p1), .val (.int p2), .val (.int p3), .val (.ref b3), .val (.ref b4), .val (.ref b5), .val (.int (6 : Int32)), .val (.int cnt), .val (.int xp)] []) t := fun t kt => kn5 t (by
    show own_S p e below T4 (mkF m 545 #[.val (.int p1), .val (.int p2), .val (.int p3), .val (.ref b3), .val (.ref b4), .val (.ref b5), .val (.int (6 : Int32)), .val (.int cnt), .val (.int xp)] [(.int (own_takes (0 : Int32) (1 : Int32) cnt))]) _
    refine XS.iload X4.here hx rfl (hb hby at_545) rfl ?_
    exact kt)
  have hc547_7 : (own_takes (0 : Int32) (1 : Int32) cnt) = xp := by rw [hxp]; exact own_te _ _ _
  have kn8 : ∀ t, own_S p e below T4 (mkF m 555 #[.val (.int p1), .val (.int p2), .val (.int p3), .val (.ref b3), .val (.ref b4), .val (.ref b5), .val (.int (6 : Int32)), .val (.int cnt), .val (.int xp)] [(.int (1 : Int32))]) t → own_S p e below T0 (mkF m 536 #[.val (.int p1), .val (.int p2), .val (.int p3), .val (.ref b3), .val (.ref b4), .val (.ref b5), .val (.int (6 : Int32)), .val (.int cnt), .val (.int xp)] []) t := fun t kt => kn6 t (by
    show own_S p e below T4 (mkF m 547 #[.val (.int p1), .val (.int p2), .val (.int p3), .val (.ref b3), .val (.ref b4), .val (.ref b5), .val (.int (6 : Int32)), .val (.int cnt), .val (.int xp)] [(.int xp), (.int (own_takes (0 : Int32) (1 : Int32) cnt))]) _
    refine XS.icmpNo X4.here hx rfl (hb hby at_547) rfl (teq hc547_7).2 ?_
    show own_S p e below T4 (mkF m 550 #[.val (.int p1), .val (.int p2), .val (.int p3), .val (.ref b3), .val (.ref b4), .val (.ref b5), .val (.int (6 : Int32)), .val (.int cnt), .val (.int xp)] []) _
    refine XS.iconst X4.here hx rfl (hb hby at_550) ?_
    show own_S p e below T4 (mkF m 551 #[.val (.int p1), .val (.int p2), .val (.int p3), .val (.ref b3), .val (.ref b4), .val (.ref b5), .val (.int (6 : Int32)), .val (.int cnt), .val (.int xp)] [(.int (1 : Int32))]) _
    refine XS.goto X4.here hx rfl (pc0 := 551) (pc' := 555) rfl (hb hby at_551) (by decide) (by decide) ?_
    exact kt)
  obtain ⟨fs, hr, hrun, hended, hW, hsame⟩ := X4.leave (v := some (.int (1 : Int32))) (fun h => by rw [hret] at h; cases h)
  refine ⟨_, _, id (kn8 _ (retN X4 hx (t := .boolean) hret (by simp) (hb hby at_555) hr)), hrun, hended, _, _, rfl, ?_, ⟨_, rfl⟩, hW, hsame.mono (by decide) (by decide)⟩
  show Q0 Z p1 p2 p3 w0 w1 w2 w3 w4 w5 w6 w7 w8 w9 w10 w11 w12 w13 w14 w15 w16 w17 w18 w19 w20 w21 w22 w23 w24 w25 w26 h0 n0 _ T4.heap _
  rw [eq4]
  exact ⟨rfl, Nf4⟩

set_option maxRecDepth 65536 in
set_option maxHeartbeats 40000000 in
theorem tail_7 {p : Program} {l : Launch} {e : Env} {s : State} {m : MethodId} {args : Array Value} {below : List Frame} {meth : Method} {c : Code} {T0 : State} {locs : List Loc} {Z : State} {a0 : Array Value} {h0 : Heap} {n0 : Nat} (p1 : Int32) (p2 : Int32) (p3 : Int32) (w0 : Addr) (w1 : Addr) (w2 : Addr) (w3 : Addr) (w4 : Addr) (w5 : Addr) (w6 : Addr) (w7 : Addr) (w8 : Addr) (w9 : Addr) (w10 : Addr) (w11 : Addr) (w12 : Addr) (w13 : Addr) (w14 : Addr) (w15 : Addr) (w16 : Addr) (w17 : Addr) (w18 : Addr) (w19 : Addr) (w20 : Addr) (w21 : Addr) (w22 : Addr) (w23 : Addr) (w24 : Addr) (w25 : Addr) (w26 : Addr) (b3 : Addr) (b4 : Addr) (b5 : Addr) (k3 : ClassId) (cnt : Int32) (xp : Int32)
    (X0 : Stand p l e room_1 s m args below meth c T0 locs 3 81) (hx : p.tables.exec = Jvm.exec) (hZ : Z.Warmed39 s.vm) (hw : ∀ d ∈ tables_1, d.before a0 Z = true) (hby : c.code = code) (hml : c.maxLocals = 9) (hown : s.vm.findClass "com/example/rowan/rowan/xpath/CoreFunctionTakesPinLaw" = some m.cls) (hret : meth.sig.returnType = some .boolean) (hlk : meth.locks = false) (e0 : T0.heap = h0) (Nf0 : Fr n0 locs) (Z0 : n0 ≤ h0.size) (O0 : Old Z n0 h0) (V3 : Arv Z h0 b3 k3 (.object "com/example/rowan/rowan/xpath/CoreFunction") (27 : Int32) ((.ref w0) :: (.ref w1) :: (.ref w2) :: (.ref w3) :: (.ref w4) :: (.ref w5) :: (.ref w6) :: (.ref w7) :: (.ref w8) :: (.ref w9) :: (.ref w10) :: (.ref w11) :: (.ref w12) :: (.ref w13) :: (.ref w14) :: (.ref w15) :: (.ref w16) :: (.ref w17) :: (.ref w18) :: (.ref w19) :: (.ref w20) :: (.ref w21) :: (.ref w22) :: (.ref w23) :: (.ref w24) :: (.ref w25) :: (.ref w26) :: []) .null) (E_w7 : Exa Z Z.heap w7 "com/example/rowan/rowan/xpath/CoreFunction$8") (Fa7 : Fld Z Z.heap w7 "com/example/rowan/rowan/xpath/CoreFunction" "minimumArguments" "I" (.int (0 : Int32))) (Fb7 : Fld Z Z.heap w7 "com/example/rowan/rowan/xpath/CoreFunction" "maximumArguments" "I" (.int (1 : Int32))) (hxp : xp = own_exp (0 : Int32) (1 : Int32) cnt) :
    ∃ s₂ o, Steps p.tables e below (T0.setTop (mkF m 536 #[.val (.int p1), .val (.int p2), .val (.int p3), .val (.ref b3), .val (.ref b4), .val (.ref b5), .val (.int (7 : Int32)), .val (.int cnt), .val (.int xp)] [])) s₂ ∧ s₂.status = .running ∧ Ended s₂ below o ∧ ∃ v L, o = .returned v ∧ Q0 Z p1 p2 p3 w0 w1 w2 w3 w4 w5 w6 w7 w8 w9 w10 w11 w12 w13 w14 w15 w16 w17 w18 w19 w20 w21 w22 w23 w24 w25 w26 h0 n0 v s₂.heap L ∧ FrameEnd s o s₂ L 16 256 := by
  have kn0 : ∀ t, own_S p e below T0 (mkF m 536 #[.val (.int p1), .val (.int p2), .val (.int p3), .val (.ref b3), .val (.ref b4), .val (.ref b5), .val (.int (7 : Int32)), .val (.int cnt), .val (.int xp)] []) t → own_S p e below T0 (mkF m 536 #[.val (.int p1), .val (.int p2), .val (.int p3), .val (.ref b3), .val (.ref b4), .val (.ref b5), .val (.int (7 : Int32)), .val (.int cnt), .val (.int xp)] []) t := fun t k => k
  have kn1 : ∀ t, own_S p e below T0 (mkF m 539 #[.val (.int p1), .val (.int p2), .val (.int p3), .val (.ref b3), .val (.ref b4), .val (.ref b5), .val (.int (7 : Int32)), .val (.int cnt), .val (.int xp)] [(.int (7 : Int32)), (.ref b3)]) t → own_S p e below T0 (mkF m 536 #[.val (.int p1), .val (.int p2), .val (.int p3), .val (.ref b3), .val (.ref b4), .val (.ref b5), .val (.int (7 : Int32)), .val (.int cnt), .val (.int xp)] []) t := fun t kt => kn0 t (by
    show own_S p e below T0 (mkF m 536 #[.val (.int p1), .val (.int p2), .val (.int p3), .val (.ref b3), .val (.ref b4), .val (.ref b5), .val (.int (7 : Int32)), .val (.int cnt), .val (.int xp)] []) _
    refine XS.aloadN X0.here hx rfl (hb hby at_536) rfl rfl ?_
    show own_S p e below T0 (mkF m 537 #[.val (.int p1), .val (.int p2), .val (.int p3), .val (.ref b3), .val (.ref b4), .val (.ref b5), .val (.int (7 : Int32)), .val (.int cnt), .val (.int xp)] [(.ref b3)]) _
    refine XS.iload X0.here hx rfl (hb hby at_537) rfl ?_
    exact kt)
  obtain ⟨cl2, Ar2, q2, Sz2, Ng2, Hs2, Gs2⟩ := id V3
  have hin2 : ¬ ((7 : Int32) < 0 ∨ cl2.slots.size ≤ ((7 : Int32)).toNatClampNeg) := inb_of Sz2 ⟨by decide, by decide⟩
  have hat2 : cl2.slots[((7 : Int32)).toNatClampNeg]? = some (.ref w7) := Hs2.at hin2 rfl
  have kn3 : ∀ t, own_S p e below T0 (mkF m 542 #[.val (.int p1), .val (.int p2), .val (.int p3), .val (.ref b3), .val (.ref b4), .val (.ref b5), .val (.int (7 : Int32)), .val (.int cnt), .val (.int xp)] [(.int cnt), (.ref w7)]) t → own_S p e below T0 (mkF m 536 #[.val (.int p1), .val (.int p2), .val (.int p3), .val (.ref b3), .val (.ref b4), .val (.ref b5), .val (.int (7 : Int32)), .val (.int cnt), .val (.int xp)] []) t := fun t kt => kn1 t (by
    show own_S p e below T0 (mkF m 539 #[.val (.int p1), .val (.int p2), .val (.int p3), .val (.ref b3), .val (.ref b4), .val (.ref b5), .val (.int (7 : Int32)), .val (.int cnt), .val (.int xp)] [(.int (7 : Int32)), (.ref b3)]) _
    refine X0.aaload hx (j := (7 : Int32)) (v := (.ref w7)) (by rw [e0]; exact Ar2.1) (State.isArrayOf_alike hZ.alike Ar2.2.1) rfl Ar2.2.2 hin2 hat2 (g := (mkF m 539 #[.val (.int p1), .val (.int p2), .val (.int p3), .val (.ref b3), .val (.ref b4), .val (.ref b5), .val (.int (7 : Int32)), .val (.int cnt), .val (.int xp)] [(.int (7 : Int32)), (.ref b3)])) rfl rfl (hb hby at_539) _ ?_
    show own_S p e below T0 (mkF m 540 #[.val (.int p1), .val (.int p2), .val (.int p3), .val (.ref b3), .val (.ref b4), .val (.ref b5), .val (.int (7 : Int32)), .val (.int cnt), .val (.int xp)] [(.ref w7)]) _
    refine XS.iload X0.here hx rfl (hb hby at_540) rfl ?_
    exact kt)
  obtain ⟨cq4, kq4, qa4, qb4, qc4⟩ := isOf hZ e0 (E_w7.ext O0.2)
  obtain ⟨_, _, ⟨T4, L4, cc4, ss4⟩, -, X4, ⟨Lc4, hQ4, l4, y4, z4⟩, st4⟩ := X0.virtualBack hx (y := (⟨"com/example/rowan/rowan/xpath/CoreFunction", "takes", "(I)Z"⟩ : MethodName)) (z := (⟨"com/example/rowan/rowan/xpath/CoreFunction", "takes", "(I)Z"⟩ : MethodName)) hown (mvT hZ (hw _ (List.mem_of_getElem? (i := 86) rfl))) (mvT hZ (hw _ (List.mem_of_getElem? (i := 87) rfl))) (notFace_of_selects (args := #[]) (mvT hZ (hw _ (List.mem_of_getElem? (i := 107) rfl)))) (mvT hZ (hw _ (List.mem_of_getElem? (i := 107) rfl))) (mvT hZ (hw _ (List.mem_of_getElem? (i := 88) rfl))) (by decide) (backOf (W := 0) (rm1 l Z a0 hw [] w7 cnt (0 : Int32) (1 : Int32) h0 n0 Z0 (Fa7.ext O0.2) (Fb7.ext O0.2)) hZ (hw _ (List.mem_of_getElem? (i := 90) rfl)) (hw _ (List.mem_of_getElem? (i := 3) rfl)) (by decide) (by decide)) qa4 qc4 (g := (mkF m 542 #[.val (.int p1), .val (.int p2), .val (.int p3), .val (.ref b3), .val (.ref b4), .val (.ref b5), .val (.int (7 : Int32)), .val (.int cnt), .val (.int xp)] [(.int cnt), (.ref w7)])) rfl (by rw [hml]; rfl) (Steps.refl _) (argsL := [(.int cnt)]) (rest := []) (lenOf pd_0 rfl) rfl (by show 2 * 0 + _ ≤ _; exact Nat.le_of_eq rfl) (hb hby at_542) (fun _ _ => ⟨rfl, e0, (by decide : 3 + 0 ≤ _), (by decide : 81 + 0 ≤ _)⟩)
  dsimp only [Pt.U, Pt.locs, Pt.cells, Pt.slots] at X4 l4 y4 z4 st4 hQ4
  subst l4 y4 z4
  have X4 : Stand p l e _ _ m _ below meth c T4 _ 3 81 := X4
  obtain ⟨rfl, Nq4, eq4⟩ := hQ4
  have Nf4 := Fr.app Nf0 Nq4
  have kn5 : ∀ t, own_S p e below T4 (mkF m 545 #[.val (.int p1), .val (.int p2), .val (.int p3), .val (.ref b3), .val (.ref b4), .val (.ref b5), .val (.int (7 : Int32)), .val (.int cnt), .val (.int xp)] [(.int (own_takes (0 : Int32) (1 : Int32) cnt))]) t → own_S p e below T0 (mkF m 536 #[.val (.int p1), .val (.int p2), .val (.int p3), .val (.ref b3), .val (.ref b4), .val (.ref b5), .val (.int (7 : Int32)), .val (.int cnt), .val (.int xp)] []) t := fun t kt => kn3 t (st4.trans kt)
  have kn6 : ∀ t, own_S p e below T4 (mkF m 547 #[.val (.int p1), .val (.int p2), .val (.int p3), .val (.ref b3), .val (.ref b4), .val (.ref b5), .val (.int (7 : Int32)), .val (.int cnt), .val (.int xp)] [(.int xp), (.int (own_takes (0 : Int32) (1 : Int32) cnt))]) t → own_S p e below T0 (mkF m 536 #[.val (.int p1), .val (.int p2), .val (.int p3), .val (.ref b3), .val (.ref b4), .val (.ref b5), .val (.int (7 : Int32)), .val (.int cnt), .val (.int xp)] []) t := fun t kt => kn5 t (by
    show own_S p e below T4 (mkF m 545 #[.val (.int p1), .val (.int p2), .val (.int p3), .val (.ref b3), .val (.ref b4), .val (.ref b5), .val (.int (7 : Int32)), .val (.int cnt), .val (.int xp)] [(.int (own_takes (0 : Int32) (1 : Int32) cnt))]) _
    refine XS.iload X4.here hx rfl (hb hby at_545) rfl ?_
    exact kt)
  have hc547_7 : (own_takes (0 : Int32) (1 : Int32) cnt) = xp := by rw [hxp]; exact own_te _ _ _
  have kn8 : ∀ t, own_S p e below T4 (mkF m 555 #[.val (.int p1), .val (.int p2), .val (.int p3), .val (.ref b3), .val (.ref b4), .val (.ref b5), .val (.int (7 : Int32)), .val (.int cnt), .val (.int xp)] [(.int (1 : Int32))]) t → own_S p e below T0 (mkF m 536 #[.val (.int p1), .val (.int p2), .val (.int p3), .val (.ref b3), .val (.ref b4), .val (.ref b5), .val (.int (7 : Int32)), .val (.int cnt), .val (.int xp)] []) t := fun t kt => kn6 t (by
    show own_S p e below T4 (mkF m 547 #[.val (.int p1), .val (.int p2), .val (.int p3), .val (.ref b3), .val (.ref b4), .val (.ref b5), .val (.int (7 : Int32)), .val (.int cnt), .val (.int xp)] [(.int xp), (.int (own_takes (0 : Int32) (1 : Int32) cnt))]) _
    refine XS.icmpNo X4.here hx rfl (hb hby at_547) rfl (teq hc547_7).2 ?_
    show own_S p e below T4 (mkF m 550 #[.val (.int p1), .val (.int p2), .val (.int p3), .val (.ref b3), .val (.ref b4), .val (.ref b5), .val (.int (7 : Int32)), .val (.int cnt), .val (.int xp)] []) _
    refine XS.iconst X4.here hx rfl (hb hby at_550) ?_
    show own_S p e below T4 (mkF m 551 #[.val (.int p1), .val (.int p2), .val (.int p3), .val (.ref b3), .val (.ref b4), .val (.ref b5), .val (.int (7 : Int32)), .val (.int cnt), .val (.int xp)] [(.int (1 : Int32))]) _
    refine XS.goto X4.here hx rfl (pc0 := 551) (pc' := 555) rfl (hb hby at_551) (by decide) (by decide) ?_
    exact kt)
  obtain ⟨fs, hr, hrun, hended, hW, hsame⟩ := X4.leave (v := some (.int (1 : Int32))) (fun h => by rw [hret] at h; cases h)
  refine ⟨_, _, id (kn8 _ (retN X4 hx (t := .boolean) hret (by simp) (hb hby at_555) hr)), hrun, hended, _, _, rfl, ?_, ⟨_, rfl⟩, hW, hsame.mono (by decide) (by decide)⟩
  show Q0 Z p1 p2 p3 w0 w1 w2 w3 w4 w5 w6 w7 w8 w9 w10 w11 w12 w13 w14 w15 w16 w17 w18 w19 w20 w21 w22 w23 w24 w25 w26 h0 n0 _ T4.heap _
  rw [eq4]
  exact ⟨rfl, Nf4⟩

set_option maxRecDepth 65536 in
set_option maxHeartbeats 40000000 in
theorem tail_8 {p : Program} {l : Launch} {e : Env} {s : State} {m : MethodId} {args : Array Value} {below : List Frame} {meth : Method} {c : Code} {T0 : State} {locs : List Loc} {Z : State} {a0 : Array Value} {h0 : Heap} {n0 : Nat} (p1 : Int32) (p2 : Int32) (p3 : Int32) (w0 : Addr) (w1 : Addr) (w2 : Addr) (w3 : Addr) (w4 : Addr) (w5 : Addr) (w6 : Addr) (w7 : Addr) (w8 : Addr) (w9 : Addr) (w10 : Addr) (w11 : Addr) (w12 : Addr) (w13 : Addr) (w14 : Addr) (w15 : Addr) (w16 : Addr) (w17 : Addr) (w18 : Addr) (w19 : Addr) (w20 : Addr) (w21 : Addr) (w22 : Addr) (w23 : Addr) (w24 : Addr) (w25 : Addr) (w26 : Addr) (b3 : Addr) (b4 : Addr) (b5 : Addr) (k3 : ClassId) (cnt : Int32) (xp : Int32)
    (X0 : Stand p l e room_1 s m args below meth c T0 locs 3 81) (hx : p.tables.exec = Jvm.exec) (hZ : Z.Warmed39 s.vm) (hw : ∀ d ∈ tables_1, d.before a0 Z = true) (hby : c.code = code) (hml : c.maxLocals = 9) (hown : s.vm.findClass "com/example/rowan/rowan/xpath/CoreFunctionTakesPinLaw" = some m.cls) (hret : meth.sig.returnType = some .boolean) (hlk : meth.locks = false) (e0 : T0.heap = h0) (Nf0 : Fr n0 locs) (Z0 : n0 ≤ h0.size) (O0 : Old Z n0 h0) (V3 : Arv Z h0 b3 k3 (.object "com/example/rowan/rowan/xpath/CoreFunction") (27 : Int32) ((.ref w0) :: (.ref w1) :: (.ref w2) :: (.ref w3) :: (.ref w4) :: (.ref w5) :: (.ref w6) :: (.ref w7) :: (.ref w8) :: (.ref w9) :: (.ref w10) :: (.ref w11) :: (.ref w12) :: (.ref w13) :: (.ref w14) :: (.ref w15) :: (.ref w16) :: (.ref w17) :: (.ref w18) :: (.ref w19) :: (.ref w20) :: (.ref w21) :: (.ref w22) :: (.ref w23) :: (.ref w24) :: (.ref w25) :: (.ref w26) :: []) .null) (E_w8 : Exa Z Z.heap w8 "com/example/rowan/rowan/xpath/CoreFunction$9") (Fa8 : Fld Z Z.heap w8 "com/example/rowan/rowan/xpath/CoreFunction" "minimumArguments" "I" (.int (2 : Int32))) (Fb8 : Fld Z Z.heap w8 "com/example/rowan/rowan/xpath/CoreFunction" "maximumArguments" "I" (.int (2147483647 : Int32))) (hxp : xp = own_exp (2 : Int32) (2147483647 : Int32) cnt) :
    ∃ s₂ o, Steps p.tables e below (T0.setTop (mkF m 536 #[.val (.int p1), .val (.int p2), .val (.int p3), .val (.ref b3), .val (.ref b4), .val (.ref b5), .val (.int (8 : Int32)), .val (.int cnt), .val (.int xp)] [])) s₂ ∧ s₂.status = .running ∧ Ended s₂ below o ∧ ∃ v L, o = .returned v ∧ Q0 Z p1 p2 p3 w0 w1 w2 w3 w4 w5 w6 w7 w8 w9 w10 w11 w12 w13 w14 w15 w16 w17 w18 w19 w20 w21 w22 w23 w24 w25 w26 h0 n0 v s₂.heap L ∧ FrameEnd s o s₂ L 16 256 := by
  have kn0 : ∀ t, own_S p e below T0 (mkF m 536 #[.val (.int p1), .val (.int p2), .val (.int p3), .val (.ref b3), .val (.ref b4), .val (.ref b5), .val (.int (8 : Int32)), .val (.int cnt), .val (.int xp)] []) t → own_S p e below T0 (mkF m 536 #[.val (.int p1), .val (.int p2), .val (.int p3), .val (.ref b3), .val (.ref b4), .val (.ref b5), .val (.int (8 : Int32)), .val (.int cnt), .val (.int xp)] []) t := fun t k => k
  have kn1 : ∀ t, own_S p e below T0 (mkF m 539 #[.val (.int p1), .val (.int p2), .val (.int p3), .val (.ref b3), .val (.ref b4), .val (.ref b5), .val (.int (8 : Int32)), .val (.int cnt), .val (.int xp)] [(.int (8 : Int32)), (.ref b3)]) t → own_S p e below T0 (mkF m 536 #[.val (.int p1), .val (.int p2), .val (.int p3), .val (.ref b3), .val (.ref b4), .val (.ref b5), .val (.int (8 : Int32)), .val (.int cnt), .val (.int xp)] []) t := fun t kt => kn0 t (by
    show own_S p e below T0 (mkF m 536 #[.val (.int p1), .val (.int p2), .val (.int p3), .val (.ref b3), .val (.ref b4), .val (.ref b5), .val (.int (8 : Int32)), .val (.int cnt), .val (.int xp)] []) _
    refine XS.aloadN X0.here hx rfl (hb hby at_536) rfl rfl ?_
    show own_S p e below T0 (mkF m 537 #[.val (.int p1), .val (.int p2), .val (.int p3), .val (.ref b3), .val (.ref b4), .val (.ref b5), .val (.int (8 : Int32)), .val (.int cnt), .val (.int xp)] [(.ref b3)]) _
    refine XS.iload X0.here hx rfl (hb hby at_537) rfl ?_
    exact kt)
  obtain ⟨cl2, Ar2, q2, Sz2, Ng2, Hs2, Gs2⟩ := id V3
  have hin2 : ¬ ((8 : Int32) < 0 ∨ cl2.slots.size ≤ ((8 : Int32)).toNatClampNeg) := inb_of Sz2 ⟨by decide, by decide⟩
  have hat2 : cl2.slots[((8 : Int32)).toNatClampNeg]? = some (.ref w8) := Hs2.at hin2 rfl
  have kn3 : ∀ t, own_S p e below T0 (mkF m 542 #[.val (.int p1), .val (.int p2), .val (.int p3), .val (.ref b3), .val (.ref b4), .val (.ref b5), .val (.int (8 : Int32)), .val (.int cnt), .val (.int xp)] [(.int cnt), (.ref w8)]) t → own_S p e below T0 (mkF m 536 #[.val (.int p1), .val (.int p2), .val (.int p3), .val (.ref b3), .val (.ref b4), .val (.ref b5), .val (.int (8 : Int32)), .val (.int cnt), .val (.int xp)] []) t := fun t kt => kn1 t (by
    show own_S p e below T0 (mkF m 539 #[.val (.int p1), .val (.int p2), .val (.int p3), .val (.ref b3), .val (.ref b4), .val (.ref b5), .val (.int (8 : Int32)), .val (.int cnt), .val (.int xp)] [(.int (8 : Int32)), (.ref b3)]) _
    refine X0.aaload hx (j := (8 : Int32)) (v := (.ref w8)) (by rw [e0]; exact Ar2.1) (State.isArrayOf_alike hZ.alike Ar2.2.1) rfl Ar2.2.2 hin2 hat2 (g := (mkF m 539 #[.val (.int p1), .val (.int p2), .val (.int p3), .val (.ref b3), .val (.ref b4), .val (.ref b5), .val (.int (8 : Int32)), .val (.int cnt), .val (.int xp)] [(.int (8 : Int32)), (.ref b3)])) rfl rfl (hb hby at_539) _ ?_
    show own_S p e below T0 (mkF m 540 #[.val (.int p1), .val (.int p2), .val (.int p3), .val (.ref b3), .val (.ref b4), .val (.ref b5), .val (.int (8 : Int32)), .val (.int cnt), .val (.int xp)] [(.ref w8)]) _
    refine XS.iload X0.here hx rfl (hb hby at_540) rfl ?_
    exact kt)
  obtain ⟨cq4, kq4, qa4, qb4, qc4⟩ := isOf hZ e0 (E_w8.ext O0.2)
  obtain ⟨_, _, ⟨T4, L4, cc4, ss4⟩, -, X4, ⟨Lc4, hQ4, l4, y4, z4⟩, st4⟩ := X0.virtualBack hx (y := (⟨"com/example/rowan/rowan/xpath/CoreFunction", "takes", "(I)Z"⟩ : MethodName)) (z := (⟨"com/example/rowan/rowan/xpath/CoreFunction", "takes", "(I)Z"⟩ : MethodName)) hown (mvT hZ (hw _ (List.mem_of_getElem? (i := 86) rfl))) (mvT hZ (hw _ (List.mem_of_getElem? (i := 87) rfl))) (notFace_of_selects (args := #[]) (mvT hZ (hw _ (List.mem_of_getElem? (i := 101) rfl)))) (mvT hZ (hw _ (List.mem_of_getElem? (i := 101) rfl))) (mvT hZ (hw _ (List.mem_of_getElem? (i := 88) rfl))) (by decide) (backOf (W := 0) (rm1 l Z a0 hw [] w8 cnt (2 : Int32) (2147483647 : Int32) h0 n0 Z0 (Fa8.ext O0.2) (Fb8.ext O0.2)) hZ (hw _ (List.mem_of_getElem? (i := 90) rfl)) (hw _ (List.mem_of_getElem? (i := 3) rfl)) (by decide) (by decide)) qa4 qc4 (g := (mkF m 542 #[.val (.int p1), .val (.int p2), .val (.int p3), .val (.ref b3), .val (.ref b4), .val (.ref b5), .val (.int (8 : Int32)), .val (.int cnt), .val (.int xp)] [(.int cnt), (.ref w8)])) rfl (by rw [hml]; rfl) (Steps.refl _) (argsL := [(.int cnt)]) (rest := []) (lenOf pd_0 rfl) rfl (by show 2 * 0 + _ ≤ _; exact Nat.le_of_eq rfl) (hb hby at_542) (fun _ _ => ⟨rfl, e0, (by decide : 3 + 0 ≤ _), (by decide : 81 + 0 ≤ _)⟩)
  dsimp only [Pt.U, Pt.locs, Pt.cells, Pt.slots] at X4 l4 y4 z4 st4 hQ4
  subst l4 y4 z4
  have X4 : Stand p l e _ _ m _ below meth c T4 _ 3 81 := X4
  obtain ⟨rfl, Nq4, eq4⟩ := hQ4
  have Nf4 := Fr.app Nf0 Nq4
  have kn5 : ∀ t, own_S p e below T4 (mkF m 545 #[.val (.int p1), .val (.int p2), .val (.int p3), .val (.ref b3), .val (.ref b4), .val (.ref b5), .val (.int (8 : Int32)), .val (.int cnt), .val (.int xp)] [(.int (own_takes (2 : Int32) (2147483647 : Int32) cnt))]) t → own_S p e below T0 (mkF m 536 #[.val (.int p1), .val (.int p2), .val (.int p3), .val (.ref b3), .val (.ref b4), .val (.ref b5), .val (.int (8 : Int32)), .val (.int cnt), .val (.int xp)] []) t := fun t kt => kn3 t (st4.trans kt)
  have kn6 : ∀ t, own_S p e below T4 (mkF m 547 #[.val (.int p1), .val (.int p2), .val (.int p3), .val (.ref b3), .val (.ref b4), .val (.ref b5), .val (.int (8 : Int32)), .val (.int cnt), .val (.int xp)] [(.int xp), (.int (own_takes (2 : Int32) (2147483647 : Int32) cnt))]) t → own_S p e below T0 (mkF m 536 #[.val (.int p1), .val (.int p2), .val (.int p3), .val (.ref b3), .val (.ref b4), .val (.ref b5), .val (.int (8 : Int32)), .val (.int cnt), .val (.int xp)] []) t := fun t kt => kn5 t (by
    show own_S p e below T4 (mkF m 545 #[.val (.int p1), .val (.int p2), .val (.int p3), .val (.ref b3), .val (.ref b4), .val (.ref b5), .val (.int (8 : Int32)), .val (.int cnt), .val (.int xp)] [(.int (own_takes (2 : Int32) (2147483647 : Int32) cnt))]) _
    refine XS.iload X4.here hx rfl (hb hby at_545) rfl ?_
    exact kt)
  have hc547_7 : (own_takes (2 : Int32) (2147483647 : Int32) cnt) = xp := by rw [hxp]; exact own_te _ _ _
  have kn8 : ∀ t, own_S p e below T4 (mkF m 555 #[.val (.int p1), .val (.int p2), .val (.int p3), .val (.ref b3), .val (.ref b4), .val (.ref b5), .val (.int (8 : Int32)), .val (.int cnt), .val (.int xp)] [(.int (1 : Int32))]) t → own_S p e below T0 (mkF m 536 #[.val (.int p1), .val (.int p2), .val (.int p3), .val (.ref b3), .val (.ref b4), .val (.ref b5), .val (.int (8 : Int32)), .val (.int cnt), .val (.int xp)] []) t := fun t kt => kn6 t (by
    show own_S p e below T4 (mkF m 547 #[.val (.int p1), .val (.int p2), .val (.int p3), .val (.ref b3), .val (.ref b4), .val (.ref b5), .val (.int (8 : Int32)), .val (.int cnt), .val (.int xp)] [(.int xp), (.int (own_takes (2 : Int32) (2147483647 : Int32) cnt))]) _
    refine XS.icmpNo X4.here hx rfl (hb hby at_547) rfl (teq hc547_7).2 ?_
    show own_S p e below T4 (mkF m 550 #[.val (.int p1), .val (.int p2), .val (.int p3), .val (.ref b3), .val (.ref b4), .val (.ref b5), .val (.int (8 : Int32)), .val (.int cnt), .val (.int xp)] []) _
    refine XS.iconst X4.here hx rfl (hb hby at_550) ?_
    show own_S p e below T4 (mkF m 551 #[.val (.int p1), .val (.int p2), .val (.int p3), .val (.ref b3), .val (.ref b4), .val (.ref b5), .val (.int (8 : Int32)), .val (.int cnt), .val (.int xp)] [(.int (1 : Int32))]) _
    refine XS.goto X4.here hx rfl (pc0 := 551) (pc' := 555) rfl (hb hby at_551) (by decide) (by decide) ?_
    exact kt)
  obtain ⟨fs, hr, hrun, hended, hW, hsame⟩ := X4.leave (v := some (.int (1 : Int32))) (fun h => by rw [hret] at h; cases h)
  refine ⟨_, _, id (kn8 _ (retN X4 hx (t := .boolean) hret (by simp) (hb hby at_555) hr)), hrun, hended, _, _, rfl, ?_, ⟨_, rfl⟩, hW, hsame.mono (by decide) (by decide)⟩
  show Q0 Z p1 p2 p3 w0 w1 w2 w3 w4 w5 w6 w7 w8 w9 w10 w11 w12 w13 w14 w15 w16 w17 w18 w19 w20 w21 w22 w23 w24 w25 w26 h0 n0 _ T4.heap _
  rw [eq4]
  exact ⟨rfl, Nf4⟩

set_option maxRecDepth 65536 in
set_option maxHeartbeats 40000000 in
theorem tail_9 {p : Program} {l : Launch} {e : Env} {s : State} {m : MethodId} {args : Array Value} {below : List Frame} {meth : Method} {c : Code} {T0 : State} {locs : List Loc} {Z : State} {a0 : Array Value} {h0 : Heap} {n0 : Nat} (p1 : Int32) (p2 : Int32) (p3 : Int32) (w0 : Addr) (w1 : Addr) (w2 : Addr) (w3 : Addr) (w4 : Addr) (w5 : Addr) (w6 : Addr) (w7 : Addr) (w8 : Addr) (w9 : Addr) (w10 : Addr) (w11 : Addr) (w12 : Addr) (w13 : Addr) (w14 : Addr) (w15 : Addr) (w16 : Addr) (w17 : Addr) (w18 : Addr) (w19 : Addr) (w20 : Addr) (w21 : Addr) (w22 : Addr) (w23 : Addr) (w24 : Addr) (w25 : Addr) (w26 : Addr) (b3 : Addr) (b4 : Addr) (b5 : Addr) (k3 : ClassId) (cnt : Int32) (xp : Int32)
    (X0 : Stand p l e room_1 s m args below meth c T0 locs 3 81) (hx : p.tables.exec = Jvm.exec) (hZ : Z.Warmed39 s.vm) (hw : ∀ d ∈ tables_1, d.before a0 Z = true) (hby : c.code = code) (hml : c.maxLocals = 9) (hown : s.vm.findClass "com/example/rowan/rowan/xpath/CoreFunctionTakesPinLaw" = some m.cls) (hret : meth.sig.returnType = some .boolean) (hlk : meth.locks = false) (e0 : T0.heap = h0) (Nf0 : Fr n0 locs) (Z0 : n0 ≤ h0.size) (O0 : Old Z n0 h0) (V3 : Arv Z h0 b3 k3 (.object "com/example/rowan/rowan/xpath/CoreFunction") (27 : Int32) ((.ref w0) :: (.ref w1) :: (.ref w2) :: (.ref w3) :: (.ref w4) :: (.ref w5) :: (.ref w6) :: (.ref w7) :: (.ref w8) :: (.ref w9) :: (.ref w10) :: (.ref w11) :: (.ref w12) :: (.ref w13) :: (.ref w14) :: (.ref w15) :: (.ref w16) :: (.ref w17) :: (.ref w18) :: (.ref w19) :: (.ref w20) :: (.ref w21) :: (.ref w22) :: (.ref w23) :: (.ref w24) :: (.ref w25) :: (.ref w26) :: []) .null) (E_w9 : Exa Z Z.heap w9 "com/example/rowan/rowan/xpath/CoreFunction$10") (Fa9 : Fld Z Z.heap w9 "com/example/rowan/rowan/xpath/CoreFunction" "minimumArguments" "I" (.int (2 : Int32))) (Fb9 : Fld Z Z.heap w9 "com/example/rowan/rowan/xpath/CoreFunction" "maximumArguments" "I" (.int (2 : Int32))) (hxp : xp = own_exp (2 : Int32) (2 : Int32) cnt) :
    ∃ s₂ o, Steps p.tables e below (T0.setTop (mkF m 536 #[.val (.int p1), .val (.int p2), .val (.int p3), .val (.ref b3), .val (.ref b4), .val (.ref b5), .val (.int (9 : Int32)), .val (.int cnt), .val (.int xp)] [])) s₂ ∧ s₂.status = .running ∧ Ended s₂ below o ∧ ∃ v L, o = .returned v ∧ Q0 Z p1 p2 p3 w0 w1 w2 w3 w4 w5 w6 w7 w8 w9 w10 w11 w12 w13 w14 w15 w16 w17 w18 w19 w20 w21 w22 w23 w24 w25 w26 h0 n0 v s₂.heap L ∧ FrameEnd s o s₂ L 16 256 := by
  have kn0 : ∀ t, own_S p e below T0 (mkF m 536 #[.val (.int p1), .val (.int p2), .val (.int p3), .val (.ref b3), .val (.ref b4), .val (.ref b5), .val (.int (9 : Int32)), .val (.int cnt), .val (.int xp)] []) t → own_S p e below T0 (mkF m 536 #[.val (.int p1), .val (.int p2), .val (.int p3), .val (.ref b3), .val (.ref b4), .val (.ref b5), .val (.int (9 : Int32)), .val (.int cnt), .val (.int xp)] []) t := fun t k => k
  have kn1 : ∀ t, own_S p e below T0 (mkF m 539 #[.val (.int p1), .val (.int p2), .val (.int p3), .val (.ref b3), .val (.ref b4), .val (.ref b5), .val (.int (9 : Int32)), .val (.int cnt), .val (.int xp)] [(.int (9 : Int32)), (.ref b3)]) t → own_S p e below T0 (mkF m 536 #[.val (.int p1), .val (.int p2), .val (.int p3), .val (.ref b3), .val (.ref b4), .val (.ref b5), .val (.int (9 : Int32)), .val (.int cnt), .val (.int xp)] []) t := fun t kt => kn0 t (by
    show own_S p e below T0 (mkF m 536 #[.val (.int p1), .val (.int p2), .val (.int p3), .val (.ref b3), .val (.ref b4), .val (.ref b5), .val (.int (9 : Int32)), .val (.int cnt), .val (.int xp)] []) _
    refine XS.aloadN X0.here hx rfl (hb hby at_536) rfl rfl ?_
    show own_S p e below T0 (mkF m 537 #[.val (.int p1), .val (.int p2), .val (.int p3), .val (.ref b3), .val (.ref b4), .val (.ref b5), .val (.int (9 : Int32)), .val (.int cnt), .val (.int xp)] [(.ref b3)]) _
    refine XS.iload X0.here hx rfl (hb hby at_537) rfl ?_
    exact kt)
  obtain ⟨cl2, Ar2, q2, Sz2, Ng2, Hs2, Gs2⟩ := id V3
  have hin2 : ¬ ((9 : Int32) < 0 ∨ cl2.slots.size ≤ ((9 : Int32)).toNatClampNeg) := inb_of Sz2 ⟨by decide, by decide⟩
  have hat2 : cl2.slots[((9 : Int32)).toNatClampNeg]? = some (.ref w9) := Hs2.at hin2 rfl
  have kn3 : ∀ t, own_S p e below T0 (mkF m 542 #[.val (.int p1), .val (.int p2), .val (.int p3), .val (.ref b3), .val (.ref b4), .val (.ref b5), .val (.int (9 : Int32)), .val (.int cnt), .val (.int xp)] [(.int cnt), (.ref w9)]) t → own_S p e below T0 (mkF m 536 #[.val (.int p1), .val (.int p2), .val (.int p3), .val (.ref b3), .val (.ref b4), .val (.ref b5), .val (.int (9 : Int32)), .val (.int cnt), .val (.int xp)] []) t := fun t kt => kn1 t (by
    show own_S p e below T0 (mkF m 539 #[.val (.int p1), .val (.int p2), .val (.int p3), .val (.ref b3), .val (.ref b4), .val (.ref b5), .val (.int (9 : Int32)), .val (.int cnt), .val (.int xp)] [(.int (9 : Int32)), (.ref b3)]) _
    refine X0.aaload hx (j := (9 : Int32)) (v := (.ref w9)) (by rw [e0]; exact Ar2.1) (State.isArrayOf_alike hZ.alike Ar2.2.1) rfl Ar2.2.2 hin2 hat2 (g := (mkF m 539 #[.val (.int p1), .val (.int p2), .val (.int p3), .val (.ref b3), .val (.ref b4), .val (.ref b5), .val (.int (9 : Int32)), .val (.int cnt), .val (.int xp)] [(.int (9 : Int32)), (.ref b3)])) rfl rfl (hb hby at_539) _ ?_
    show own_S p e below T0 (mkF m 540 #[.val (.int p1), .val (.int p2), .val (.int p3), .val (.ref b3), .val (.ref b4), .val (.ref b5), .val (.int (9 : Int32)), .val (.int cnt), .val (.int xp)] [(.ref w9)]) _
    refine XS.iload X0.here hx rfl (hb hby at_540) rfl ?_
    exact kt)
  obtain ⟨cq4, kq4, qa4, qb4, qc4⟩ := isOf hZ e0 (E_w9.ext O0.2)
  obtain ⟨_, _, ⟨T4, L4, cc4, ss4⟩, -, X4, ⟨Lc4, hQ4, l4, y4, z4⟩, st4⟩ := X0.virtualBack hx (y := (⟨"com/example/rowan/rowan/xpath/CoreFunction", "takes", "(I)Z"⟩ : MethodName)) (z := (⟨"com/example/rowan/rowan/xpath/CoreFunction", "takes", "(I)Z"⟩ : MethodName)) hown (mvT hZ (hw _ (List.mem_of_getElem? (i := 86) rfl))) (mvT hZ (hw _ (List.mem_of_getElem? (i := 87) rfl))) (notFace_of_selects (args := #[]) (mvT hZ (hw _ (List.mem_of_getElem? (i := 148) rfl)))) (mvT hZ (hw _ (List.mem_of_getElem? (i := 148) rfl))) (mvT hZ (hw _ (List.mem_of_getElem? (i := 88) rfl))) (by decide) (backOf (W := 0) (rm1 l Z a0 hw [] w9 cnt (2 : Int32) (2 : Int32) h0 n0 Z0 (Fa9.ext O0.2) (Fb9.ext O0.2)) hZ (hw _ (List.mem_of_getElem? (i := 90) rfl)) (hw _ (List.mem_of_getElem? (i := 3) rfl)) (by decide) (by decide)) qa4 qc4 (g := (mkF m 542 #[.val (.int p1), .val (.int p2), .val (.int p3), .val (.ref b3), .val (.ref b4), .val (.ref b5), .val (.int (9 : Int32)), .val (.int cnt), .val (.int xp)] [(.int cnt), (.ref w9)])) rfl (by rw [hml]; rfl) (Steps.refl _) (argsL := [(.int cnt)]) (rest := []) (lenOf pd_0 rfl) rfl (by show 2 * 0 + _ ≤ _; exact Nat.le_of_eq rfl) (hb hby at_542) (fun _ _ => ⟨rfl, e0, (by decide : 3 + 0 ≤ _), (by decide : 81 + 0 ≤ _)⟩)
  dsimp only [Pt.U, Pt.locs, Pt.cells, Pt.slots] at X4 l4 y4 z4 st4 hQ4
  subst l4 y4 z4
  have X4 : Stand p l e _ _ m _ below meth c T4 _ 3 81 := X4
  obtain ⟨rfl, Nq4, eq4⟩ := hQ4
  have Nf4 := Fr.app Nf0 Nq4
  have kn5 : ∀ t, own_S p e below T4 (mkF m 545 #[.val (.int p1), .val (.int p2), .val (.int p3), .val (.ref b3), .val (.ref b4), .val (.ref b5), .val (.int (9 : Int32)), .val (.int cnt), .val (.int xp)] [(.int (own_takes (2 : Int32) (2 : Int32) cnt))]) t → own_S p e below T0 (mkF m 536 #[.val (.int p1), .val (.int p2), .val (.int p3), .val (.ref b3), .val (.ref b4), .val (.ref b5), .val (.int (9 : Int32)), .val (.int cnt), .val (.int xp)] []) t := fun t kt => kn3 t (st4.trans kt)
  have kn6 : ∀ t, own_S p e below T4 (mkF m 547 #[.val (.int p1), .val (.int p2), .val (.int p3), .val (.ref b3), .val (.ref b4), .val (.ref b5), .val (.int (9 : Int32)), .val (.int cnt), .val (.int xp)] [(.int xp), (.int (own_takes (2 : Int32) (2 : Int32) cnt))]) t → own_S p e below T0 (mkF m 536 #[.val (.int p1), .val (.int p2), .val (.int p3), .val (.ref b3), .val (.ref b4), .val (.ref b5), .val (.int (9 : Int32)), .val (.int cnt), .val (.int xp)] []) t := fun t kt => kn5 t (by
    show own_S p e below T4 (mkF m 545 #[.val (.int p1), .val (.int p2), .val (.int p3), .val (.ref b3), .val (.ref b4), .val (.ref b5), .val (.int (9 : Int32)), .val (.int cnt), .val (.int xp)] [(.int (own_takes (2 : Int32) (2 : Int32) cnt))]) _
    refine XS.iload X4.here hx rfl (hb hby at_545) rfl ?_
    exact kt)
  have hc547_7 : (own_takes (2 : Int32) (2 : Int32) cnt) = xp := by rw [hxp]; exact own_te _ _ _
  have kn8 : ∀ t, own_S p e below T4 (mkF m 555 #[.val (.int p1), .val (.int p2), .val (.int p3), .val (.ref b3), .val (.ref b4), .val (.ref b5), .val (.int (9 : Int32)), .val (.int cnt), .val (.int xp)] [(.int (1 : Int32))]) t → own_S p e below T0 (mkF m 536 #[.val (.int p1), .val (.int p2), .val (.int p3), .val (.ref b3), .val (.ref b4), .val (.ref b5), .val (.int (9 : Int32)), .val (.int cnt), .val (.int xp)] []) t := fun t kt => kn6 t (by
    show own_S p e below T4 (mkF m 547 #[.val (.int p1), .val (.int p2), .val (.int p3), .val (.ref b3), .val (.ref b4), .val (.ref b5), .val (.int (9 : Int32)), .val (.int cnt), .val (.int xp)] [(.int xp), (.int (own_takes (2 : Int32) (2 : Int32) cnt))]) _
    refine XS.icmpNo X4.here hx rfl (hb hby at_547) rfl (teq hc547_7).2 ?_
    show own_S p e below T4 (mkF m 550 #[.val (.int p1), .val (.int p2), .val (.int p3), .val (.ref b3), .val (.ref b4), .val (.ref b5), .val (.int (9 : Int32)), .val (.int cnt), .val (.int xp)] []) _
    refine XS.iconst X4.here hx rfl (hb hby at_550) ?_
    show own_S p e below T4 (mkF m 551 #[.val (.int p1), .val (.int p2), .val (.int p3), .val (.ref b3), .val (.ref b4), .val (.ref b5), .val (.int (9 : Int32)), .val (.int cnt), .val (.int xp)] [(.int (1 : Int32))]) _
    refine XS.goto X4.here hx rfl (pc0 := 551) (pc' := 555) rfl (hb hby at_551) (by decide) (by decide) ?_
    exact kt)
  obtain ⟨fs, hr, hrun, hended, hW, hsame⟩ := X4.leave (v := some (.int (1 : Int32))) (fun h => by rw [hret] at h; cases h)
  refine ⟨_, _, id (kn8 _ (retN X4 hx (t := .boolean) hret (by simp) (hb hby at_555) hr)), hrun, hended, _, _, rfl, ?_, ⟨_, rfl⟩, hW, hsame.mono (by decide) (by decide)⟩
  show Q0 Z p1 p2 p3 w0 w1 w2 w3 w4 w5 w6 w7 w8 w9 w10 w11 w12 w13 w14 w15 w16 w17 w18 w19 w20 w21 w22 w23 w24 w25 w26 h0 n0 _ T4.heap _
  rw [eq4]
  exact ⟨rfl, Nf4⟩

set_option maxRecDepth 65536 in
set_option maxHeartbeats 40000000 in
theorem tail_10 {p : Program} {l : Launch} {e : Env} {s : State} {m : MethodId} {args : Array Value} {below : List Frame} {meth : Method} {c : Code} {T0 : State} {locs : List Loc} {Z : State} {a0 : Array Value} {h0 : Heap} {n0 : Nat} (p1 : Int32) (p2 : Int32) (p3 : Int32) (w0 : Addr) (w1 : Addr) (w2 : Addr) (w3 : Addr) (w4 : Addr) (w5 : Addr) (w6 : Addr) (w7 : Addr) (w8 : Addr) (w9 : Addr) (w10 : Addr) (w11 : Addr) (w12 : Addr) (w13 : Addr) (w14 : Addr) (w15 : Addr) (w16 : Addr) (w17 : Addr) (w18 : Addr) (w19 : Addr) (w20 : Addr) (w21 : Addr) (w22 : Addr) (w23 : Addr) (w24 : Addr) (w25 : Addr) (w26 : Addr) (b3 : Addr) (b4 : Addr) (b5 : Addr) (k3 : ClassId) (cnt : Int32) (xp : Int32)
    (X0 : Stand p l e room_1 s m args below meth c T0 locs 3 81) (hx : p.tables.exec = Jvm.exec) (hZ : Z.Warmed39 s.vm) (hw : ∀ d ∈ tables_1, d.before a0 Z = true) (hby : c.code = code) (hml : c.maxLocals = 9) (hown : s.vm.findClass "com/example/rowan/rowan/xpath/CoreFunctionTakesPinLaw" = some m.cls) (hret : meth.sig.returnType = some .boolean) (hlk : meth.locks = false) (e0 : T0.heap = h0) (Nf0 : Fr n0 locs) (Z0 : n0 ≤ h0.size) (O0 : Old Z n0 h0) (V3 : Arv Z h0 b3 k3 (.object "com/example/rowan/rowan/xpath/CoreFunction") (27 : Int32) ((.ref w0) :: (.ref w1) :: (.ref w2) :: (.ref w3) :: (.ref w4) :: (.ref w5) :: (.ref w6) :: (.ref w7) :: (.ref w8) :: (.ref w9) :: (.ref w10) :: (.ref w11) :: (.ref w12) :: (.ref w13) :: (.ref w14) :: (.ref w15) :: (.ref w16) :: (.ref w17) :: (.ref w18) :: (.ref w19) :: (.ref w20) :: (.ref w21) :: (.ref w22) :: (.ref w23) :: (.ref w24) :: (.ref w25) :: (.ref w26) :: []) .null) (E_w10 : Exa Z Z.heap w10 "com/example/rowan/rowan/xpath/CoreFunction$11") (Fa10 : Fld Z Z.heap w10 "com/example/rowan/rowan/xpath/CoreFunction" "minimumArguments" "I" (.int (2 : Int32))) (Fb10 : Fld Z Z.heap w10 "com/example/rowan/rowan/xpath/CoreFunction" "maximumArguments" "I" (.int (2 : Int32))) (hxp : xp = own_exp (2 : Int32) (2 : Int32) cnt) :
    ∃ s₂ o, Steps p.tables e below (T0.setTop (mkF m 536 #[.val (.int p1), .val (.int p2), .val (.int p3), .val (.ref b3), .val (.ref b4), .val (.ref b5), .val (.int (10 : Int32)), .val (.int cnt), .val (.int xp)] [])) s₂ ∧ s₂.status = .running ∧ Ended s₂ below o ∧ ∃ v L, o = .returned v ∧ Q0 Z p1 p2 p3 w0 w1 w2 w3 w4 w5 w6 w7 w8 w9 w10 w11 w12 w13 w14 w15 w16 w17 w18 w19 w20 w21 w22 w23 w24 w25 w26 h0 n0 v s₂.heap L ∧ FrameEnd s o s₂ L 16 256 := by
  have kn0 : ∀ t, own_S p e below T0 (mkF m 536 #[.val (.int p1), .val (.int p2), .val (.int p3), .val (.ref b3), .val (.ref b4), .val (.ref b5), .val (.int (10 : Int32)), .val (.int cnt), .val (.int xp)] []) t → own_S p e below T0 (mkF m 536 #[.val (.int p1), .val (.int p2), .val (.int p3), .val (.ref b3), .val (.ref b4), .val (.ref b5), .val (.int (10 : Int32)), .val (.int cnt), .val (.int xp)] []) t := fun t k => k
  have kn1 : ∀ t, own_S p e below T0 (mkF m 539 #[.val (.int p1), .val (.int p2), .val (.int p3), .val (.ref b3), .val (.ref b4), .val (.ref b5), .val (.int (10 : Int32)), .val (.int cnt), .val (.int xp)] [(.int (10 : Int32)), (.ref b3)]) t → own_S p e below T0 (mkF m 536 #[.val (.int p1), .val (.int p2), .val (.int p3), .val (.ref b3), .val (.ref b4), .val (.ref b5), .val (.int (10 : Int32)), .val (.int cnt), .val (.int xp)] []) t := fun t kt => kn0 t (by
    show own_S p e below T0 (mkF m 536 #[.val (.int p1), .val (.int p2), .val (.int p3), .val (.ref b3), .val (.ref b4), .val (.ref b5), .val (.int (10 : Int32)), .val (.int cnt), .val (.int xp)] []) _
    refine XS.aloadN X0.here hx rfl (hb hby at_536) rfl rfl ?_
    show own_S p e below T0 (mkF m 537 #[.val (.int p1), .val (.int p2), .val (.int p3), .val (.ref b3), .val (.ref b4), .val (.ref b5), .val (.int (10 : Int32)), .val (.int cnt), .val (.int xp)] [(.ref b3)]) _
    refine XS.iload X0.here hx rfl (hb hby at_537) rfl ?_
    exact kt)
  obtain ⟨cl2, Ar2, q2, Sz2, Ng2, Hs2, Gs2⟩ := id V3
  have hin2 : ¬ ((10 : Int32) < 0 ∨ cl2.slots.size ≤ ((10 : Int32)).toNatClampNeg) := inb_of Sz2 ⟨by decide, by decide⟩
  have hat2 : cl2.slots[((10 : Int32)).toNatClampNeg]? = some (.ref w10) := Hs2.at hin2 rfl
  have kn3 : ∀ t, own_S p e below T0 (mkF m 542 #[.val (.int p1), .val (.int p2), .val (.int p3), .val (.ref b3), .val (.ref b4), .val (.ref b5), .val (.int (10 : Int32)), .val (.int cnt), .val (.int xp)] [(.int cnt), (.ref w10)]) t → own_S p e below T0 (mkF m 536 #[.val (.int p1), .val (.int p2), .val (.int p3), .val (.ref b3), .val (.ref b4), .val (.ref b5), .val (.int (10 : Int32)), .val (.int cnt), .val (.int xp)] []) t := fun t kt => kn1 t (by
    show own_S p e below T0 (mkF m 539 #[.val (.int p1), .val (.int p2), .val (.int p3), .val (.ref b3), .val (.ref b4), .val (.ref b5), .val (.int (10 : Int32)), .val (.int cnt), .val (.int xp)] [(.int (10 : Int32)), (.ref b3)]) _
    refine X0.aaload hx (j := (10 : Int32)) (v := (.ref w10)) (by rw [e0]; exact Ar2.1) (State.isArrayOf_alike hZ.alike Ar2.2.1) rfl Ar2.2.2 hin2 hat2 (g := (mkF m 539 #[.val (.int p1), .val (.int p2), .val (.int p3), .val (.ref b3), .val (.ref b4), .val (.ref b5), .val (.int (10 : Int32)), .val (.int cnt), .val (.int xp)] [(.int (10 : Int32)), (.ref b3)])) rfl rfl (hb hby at_539) _ ?_
    show own_S p e below T0 (mkF m 540 #[.val (.int p1), .val (.int p2), .val (.int p3), .val (.ref b3), .val (.ref b4), .val (.ref b5), .val (.int (10 : Int32)), .val (.int cnt), .val (.int xp)] [(.ref w10)]) _
    refine XS.iload X0.here hx rfl (hb hby at_540) rfl ?_
    exact kt)
  obtain ⟨cq4, kq4, qa4, qb4, qc4⟩ := isOf hZ e0 (E_w10.ext O0.2)
  obtain ⟨_, _, ⟨T4, L4, cc4, ss4⟩, -, X4, ⟨Lc4, hQ4, l4, y4, z4⟩, st4⟩ := X0.virtualBack hx (y := (⟨"com/example/rowan/rowan/xpath/CoreFunction", "takes", "(I)Z"⟩ : MethodName)) (z := (⟨"com/example/rowan/rowan/xpath/CoreFunction", "takes", "(I)Z"⟩ : MethodName)) hown (mvT hZ (hw _ (List.mem_of_getElem? (i := 86) rfl))) (mvT hZ (hw _ (List.mem_of_getElem? (i := 87) rfl))) (notFace_of_selects (args := #[]) (mvT hZ (hw _ (List.mem_of_getElem? (i := 113) rfl)))) (mvT hZ (hw _ (List.mem_of_getElem? (i := 113) rfl))) (mvT hZ (hw _ (List.mem_of_getElem? (i := 88) rfl))) (by decide) (backOf (W := 0) (rm1 l Z a0 hw [] w10 cnt (2 : Int32) (2 : Int32) h0 n0 Z0 (Fa10.ext O0.2) (Fb10.ext O0.2)) hZ (hw _ (List.mem_of_getElem? (i := 90) rfl)) (hw _ (List.mem_of_getElem? (i := 3) rfl)) (by decide) (by decide)) qa4 qc4 (g := (mkF m 542 #[.val (.int p1), .val (.int p2), .val (.int p3), .val (.ref b3), .val (.ref b4), .val (.ref b5), .val (.int (10 : Int32)), .val (.int cnt), .val (.int xp)] [(.int cnt), (.ref w10)])) rfl (by rw [hml]; rfl) (Steps.refl _) (argsL := [(.int cnt)]) (rest := []) (lenOf pd_0 rfl) rfl (by show 2 * 0 + _ ≤ _; exact Nat.le_of_eq rfl) (hb hby at_542) (fun _ _ => ⟨rfl, e0, (by decide : 3 + 0 ≤ _), (by decide : 81 + 0 ≤ _)⟩)
  dsimp only [Pt.U, Pt.locs, Pt.cells, Pt.slots] at X4 l4 y4 z4 st4 hQ4
  subst l4 y4 z4
  have X4 : Stand p l e _ _ m _ below meth c T4 _ 3 81 := X4
  obtain ⟨rfl, Nq4, eq4⟩ := hQ4
  have Nf4 := Fr.app Nf0 Nq4
  have kn5 : ∀ t, own_S p e below T4 (mkF m 545 #[.val (.int p1), .val (.int p2), .val (.int p3), .val (.ref b3), .val (.ref b4), .val (.ref b5), .val (.int (10 : Int32)), .val (.int cnt), .val (.int xp)] [(.int (own_takes (2 : Int32) (2 : Int32) cnt))]) t → own_S p e below T0 (mkF m 536 #[.val (.int p1), .val (.int p2), .val (.int p3), .val (.ref b3), .val (.ref b4), .val (.ref b5), .val (.int (10 : Int32)), .val (.int cnt), .val (.int xp)] []) t := fun t kt => kn3 t (st4.trans kt)
  have kn6 : ∀ t, own_S p e below T4 (mkF m 547 #[.val (.int p1), .val (.int p2), .val (.int p3), .val (.ref b3), .val (.ref b4), .val (.ref b5), .val (.int (10 : Int32)), .val (.int cnt), .val (.int xp)] [(.int xp), (.int (own_takes (2 : Int32) (2 : Int32) cnt))]) t → own_S p e below T0 (mkF m 536 #[.val (.int p1), .val (.int p2), .val (.int p3), .val (.ref b3), .val (.ref b4), .val (.ref b5), .val (.int (10 : Int32)), .val (.int cnt), .val (.int xp)] []) t := fun t kt => kn5 t (by
    show own_S p e below T4 (mkF m 545 #[.val (.int p1), .val (.int p2), .val (.int p3), .val (.ref b3), .val (.ref b4), .val (.ref b5), .val (.int (10 : Int32)), .val (.int cnt), .val (.int xp)] [(.int (own_takes (2 : Int32) (2 : Int32) cnt))]) _
    refine XS.iload X4.here hx rfl (hb hby at_545) rfl ?_
    exact kt)
  have hc547_7 : (own_takes (2 : Int32) (2 : Int32) cnt) = xp := by rw [hxp]; exact own_te _ _ _
  have kn8 : ∀ t, own_S p e below T4 (mkF m 555 #[.val (.int p1), .val (.int p2), .val (.int p3), .val (.ref b3), .val (.ref b4), .val (.ref b5), .val (.int (10 : Int32)), .val (.int cnt), .val (.int xp)] [(.int (1 : Int32))]) t → own_S p e below T0 (mkF m 536 #[.val (.int p1), .val (.int p2), .val (.int p3), .val (.ref b3), .val (.ref b4), .val (.ref b5), .val (.int (10 : Int32)), .val (.int cnt), .val (.int xp)] []) t := fun t kt => kn6 t (by
    show own_S p e below T4 (mkF m 547 #[.val (.int p1), .val (.int p2), .val (.int p3), .val (.ref b3), .val (.ref b4), .val (.ref b5), .val (.int (10 : Int32)), .val (.int cnt), .val (.int xp)] [(.int xp), (.int (own_takes (2 : Int32) (2 : Int32) cnt))]) _
    refine XS.icmpNo X4.here hx rfl (hb hby at_547) rfl (teq hc547_7).2 ?_
    show own_S p e below T4 (mkF m 550 #[.val (.int p1), .val (.int p2), .val (.int p3), .val (.ref b3), .val (.ref b4), .val (.ref b5), .val (.int (10 : Int32)), .val (.int cnt), .val (.int xp)] []) _
    refine XS.iconst X4.here hx rfl (hb hby at_550) ?_
    show own_S p e below T4 (mkF m 551 #[.val (.int p1), .val (.int p2), .val (.int p3), .val (.ref b3), .val (.ref b4), .val (.ref b5), .val (.int (10 : Int32)), .val (.int cnt), .val (.int xp)] [(.int (1 : Int32))]) _
    refine XS.goto X4.here hx rfl (pc0 := 551) (pc' := 555) rfl (hb hby at_551) (by decide) (by decide) ?_
    exact kt)
  obtain ⟨fs, hr, hrun, hended, hW, hsame⟩ := X4.leave (v := some (.int (1 : Int32))) (fun h => by rw [hret] at h; cases h)
  refine ⟨_, _, id (kn8 _ (retN X4 hx (t := .boolean) hret (by simp) (hb hby at_555) hr)), hrun, hended, _, _, rfl, ?_, ⟨_, rfl⟩, hW, hsame.mono (by decide) (by decide)⟩
  show Q0 Z p1 p2 p3 w0 w1 w2 w3 w4 w5 w6 w7 w8 w9 w10 w11 w12 w13 w14 w15 w16 w17 w18 w19 w20 w21 w22 w23 w24 w25 w26 h0 n0 _ T4.heap _
  rw [eq4]
  exact ⟨rfl, Nf4⟩

set_option maxRecDepth 65536 in
set_option maxHeartbeats 40000000 in
theorem tail_11 {p : Program} {l : Launch} {e : Env} {s : State} {m : MethodId} {args : Array Value} {below : List Frame} {meth : Method} {c : Code} {T0 : State} {locs : List Loc} {Z : State} {a0 : Array Value} {h0 : Heap} {n0 : Nat} (p1 : Int32) (p2 : Int32) (p3 : Int32) (w0 : Addr) (w1 : Addr) (w2 : Addr) (w3 : Addr) (w4 : Addr) (w5 : Addr) (w6 : Addr) (w7 : Addr) (w8 : Addr) (w9 : Addr) (w10 : Addr) (w11 : Addr) (w12 : Addr) (w13 : Addr) (w14 : Addr) (w15 : Addr) (w16 : Addr) (w17 : Addr) (w18 : Addr) (w19 : Addr) (w20 : Addr) (w21 : Addr) (w22 : Addr) (w23 : Addr) (w24 : Addr) (w25 : Addr) (w26 : Addr) (b3 : Addr) (b4 : Addr) (b5 : Addr) (k3 : ClassId) (cnt : Int32) (xp : Int32)
    (X0 : Stand p l e room_1 s m args below meth c T0 locs 3 81) (hx : p.tables.exec = Jvm.exec) (hZ : Z.Warmed39 s.vm) (hw : ∀ d ∈ tables_1, d.before a0 Z = true) (hby : c.code = code) (hml : c.maxLocals = 9) (hown : s.vm.findClass "com/example/rowan/rowan/xpath/CoreFunctionTakesPinLaw" = some m.cls) (hret : meth.sig.returnType = some .boolean) (hlk : meth.locks = false) (e0 : T0.heap = h0) (Nf0 : Fr n0 locs) (Z0 : n0 ≤ h0.size) (O0 : Old Z n0 h0) (V3 : Arv Z h0 b3 k3 (.object "com/example/rowan/rowan/xpath/CoreFunction") (27 : Int32) ((.ref w0) :: (.ref w1) :: (.ref w2) :: (.ref w3) :: (.ref w4) :: (.ref w5) :: (.ref w6) :: (.ref w7) :: (.ref w8) :: (.ref w9) :: (.ref w10) :: (.ref w11) :: (.ref w12) :: (.ref w13) :: (.ref w14) :: (.ref w15) :: (.ref w16) :: (.ref w17) :: (.ref w18) :: (.ref w19) :: (.ref w20) :: (.ref w21) :: (.ref w22) :: (.ref w23) :: (.ref w24) :: (.ref w25) :: (.ref w26) :: []) .null) (E_w11 : Exa Z Z.heap w11 "com/example/rowan/rowan/xpath/CoreFunction$12") (Fa11 : Fld Z Z.heap w11 "com/example/rowan/rowan/xpath/CoreFunction" "minimumArguments" "I" (.int (2 : Int32))) (Fb11 : Fld Z Z.heap w11 "com/example/rowan/rowan/xpath/CoreFunction" "maximumArguments" "I" (.int (2 : Int32))) (hxp : xp = own_exp (2 : Int32) (2 : Int32) cnt) :
    ∃ s₂ o, Steps p.tables e below (T0.setTop (mkF m 536 #[.val (.int p1), .val (.int p2), .val (.int p3), .val (.ref b3), .val (.ref b4), .val (.ref b5), .val (.int (11 : Int32)), .val (.int cnt), .val (.int xp)] [])) s₂ ∧ s₂.status = .running ∧ Ended s₂ below o ∧ ∃ v L, o = .returned v ∧ Q0 Z p1 p2 p3 w0 w1 w2 w3 w4 w5 w6 w7 w8 w9 w10 w11 w12 w13 w14 w15 w16 w17 w18 w19 w20 w21 w22 w23 w24 w25 w26 h0 n0 v s₂.heap L ∧ FrameEnd s o s₂ L 16 256 := by
  have kn0 : ∀ t, own_S p e below T0 (mkF m 536 #[.val (.int p1), .val (.int p2), .val (.int p3), .val (.ref b3), .val (.ref b4), .val (.ref b5), .val (.int (11 : Int32)), .val (.int cnt), .val (.int xp)] []) t → own_S p e below T0 (mkF m 536 #[.val (.int p1), .val (.int p2), .val (.int p3), .val (.ref b3), .val (.ref b4), .val (.ref b5), .val (.int (11 : Int32)), .val (.int cnt), .val (.int xp)] []) t := fun t k => k
  have kn1 : ∀ t, own_S p e below T0 (mkF m 539 #[.val (.int p1), .val (.int p2), .val (.int p3), .val (.ref b3), .val (.ref b4), .val (.ref b5), .val (.int (11 : Int32)), .val (.int cnt), .val (.int xp)] [(.int (11 : Int32)), (.ref b3)]) t → own_S p e below T0 (mkF m 536 #[.val (.int p1), .val (.int p2), .val (.int p3), .val (.ref b3), .val (.ref b4), .val (.ref b5), .val (.int (11 : Int32)), .val (.int cnt), .val (.int xp)] []) t := fun t kt => kn0 t (by
    show own_S p e below T0 (mkF m 536 #[.val (.int p1), .val (.int p2), .val (.int p3), .val (.ref b3), .val (.ref b4), .val (.ref b5), .val (.int (11 : Int32)), .val (.int cnt), .val (.int xp)] []) _
    refine XS.aloadN X0.here hx rfl (hb hby at_536) rfl rfl ?_
    show own_S p e below T0 (mkF m 537 #[.val (.int p1), .val (.int p2), .val (.int p3), .val (.ref b3), .val (.ref b4), .val (.ref b5), .val (.int (11 : Int32)), .val (.int cnt), .val (.int xp)] [(.ref b3)]) _
    refine XS.iload X0.here hx rfl (hb hby at_537) rfl ?_
    exact kt)
  obtain ⟨cl2, Ar2, q2, Sz2, Ng2, Hs2, Gs2⟩ := id V3
  have hin2 : ¬ ((11 : Int32) < 0 ∨ cl2.slots.size ≤ ((11 : Int32)).toNatClampNeg) := inb_of Sz2 ⟨by decide, by decide⟩
  have hat2 : cl2.slots[((11 : Int32)).toNatClampNeg]? = some (.ref w11) := Hs2.at hin2 rfl
  have kn3 : ∀ t, own_S p e below T0 (mkF m 542 #[.val (.int p1), .val (.int p2), .val (.int p3), .val (.ref b3), .val (.ref b4), .val (.ref b5), .val (.int (11 : Int32)), .val (.int cnt), .val (.int xp)] [(.int cnt), (.ref w11)]) t → own_S p e below T0 (mkF m 536 #[.val (.int p1), .val (.int p2), .val (.int p3), .val (.ref b3), .val (.ref b4), .val (.ref b5), .val (.int (11 : Int32)), .val (.int cnt), .val (.int xp)] []) t := fun t kt => kn1 t (by
    show own_S p e below T0 (mkF m 539 #[.val (.int p1), .val (.int p2), .val (.int p3), .val (.ref b3), .val (.ref b4), .val (.ref b5), .val (.int (11 : Int32)), .val (.int cnt), .val (.int xp)] [(.int (11 : Int32)), (.ref b3)]) _
    refine X0.aaload hx (j := (11 : Int32)) (v := (.ref w11)) (by rw [e0]; exact Ar2.1) (State.isArrayOf_alike hZ.alike Ar2.2.1) rfl Ar2.2.2 hin2 hat2 (g := (mkF m 539 #[.val (.int p1), .val (.int p2), .val (.int p3), .val (.ref b3), .val (.ref b4), .val (.ref b5), .val (.int (11 : Int32)), .val (.int cnt), .val (.int xp)] [(.int (11 : Int32)), (.ref b3)])) rfl rfl (hb hby at_539) _ ?_
    show own_S p e below T0 (mkF m 540 #[.val (.int p1), .val (.int p2), .val (.int p3), .val (.ref b3), .val (.ref b4), .val (.ref b5), .val (.int (11 : Int32)), .val (.int cnt), .val (.int xp)] [(.ref w11)]) _
    refine XS.iload X0.here hx rfl (hb hby at_540) rfl ?_
    exact kt)
  obtain ⟨cq4, kq4, qa4, qb4, qc4⟩ := isOf hZ e0 (E_w11.ext O0.2)
  obtain ⟨_, _, ⟨T4, L4, cc4, ss4⟩, -, X4, ⟨Lc4, hQ4, l4, y4, z4⟩, st4⟩ := X0.virtualBack hx (y := (⟨"com/example/rowan/rowan/xpath/CoreFunction", "takes", "(I)Z"⟩ : MethodName)) (z := (⟨"com/example/rowan/rowan/xpath/CoreFunction", "takes", "(I)Z"⟩ : MethodName)) hown (mvT hZ (hw _ (List.mem_of_getElem? (i := 86) rfl))) (mvT hZ (hw _ (List.mem_of_getElem? (i := 87) rfl))) (notFace_of_selects (args := #[]) (mvT hZ (hw _ (List.mem_of_getElem? (i := 125) rfl)))) (mvT hZ (hw _ (List.mem_of_getElem? (i := 125) rfl))) (mvT hZ (hw _ (List.mem_of_getElem? (i := 88) rfl))) (by decide) (backOf (W := 0) (rm1 l Z a0 hw [] w11 cnt (2 : Int32) (2 : Int32) h0 n0 Z0 (Fa11.ext O0.2) (Fb11.ext O0.2)) hZ (hw _ (List.mem_of_getElem? (i := 90) rfl)) (hw _ (List.mem_of_getElem? (i := 3) rfl)) (by decide) (by decide)) qa4 qc4 (g := (mkF m 542 #[.val (.int p1), .val (.int p2), .val (.int p3), .val (.ref b3), .val (.ref b4), .val (.ref b5), .val (.int (11 : Int32)), .val (.int cnt), .val (.int xp)] [(.int cnt), (.ref w11)])) rfl (by rw [hml]; rfl) (Steps.refl _) (argsL := [(.int cnt)]) (rest := []) (lenOf pd_0 rfl) rfl (by show 2 * 0 + _ ≤ _; exact Nat.le_of_eq rfl) (hb hby at_542) (fun _ _ => ⟨rfl, e0, (by decide : 3 + 0 ≤ _), (by decide : 81 + 0 ≤ _)⟩)
  dsimp only [Pt.U, Pt.locs, Pt.cells, Pt.slots] at X4 l4 y4 z4 st4 hQ4
  subst l4 y4 z4
  have X4 : Stand p l e _ _ m _ below meth c T4 _ 3 81 := X4
  obtain ⟨rfl, Nq4, eq4⟩ := hQ4
  have Nf4 := Fr.app Nf0 Nq4
  have kn5 : ∀ t, own_S p e below T4 (mkF m 545 #[.val (.int p1), .val (.int p2), .val (.int p3), .val (.ref b3), .val (.ref b4), .val (.ref b5), .val (.int (11 : Int32)), .val (.int cnt), .val (.int xp)] [(.int (own_takes (2 : Int32) (2 : Int32) cnt))]) t → own_S p e below T0 (mkF m 536 #[.val (.int p1), .val (.int p2), .val (.int p3), .val (.ref b3), .val (.ref b4), .val (.ref b5), .val (.int (11 : Int32)), .val (.int cnt), .val (.int xp)] []) t := fun t kt => kn3 t (st4.trans kt)
  have kn6 : ∀ t, own_S p e below T4 (mkF m 547 #[.val (.int p1), .val (.int p2), .val (.int p3), .val (.ref b3), .val (.ref b4), .val (.ref b5), .val (.int (11 : Int32)), .val (.int cnt), .val (.int xp)] [(.int xp), (.int (own_takes (2 : Int32) (2 : Int32) cnt))]) t → own_S p e below T0 (mkF m 536 #[.val (.int p1), .val (.int p2), .val (.int p3), .val (.ref b3), .val (.ref b4), .val (.ref b5), .val (.int (11 : Int32)), .val (.int cnt), .val (.int xp)] []) t := fun t kt => kn5 t (by
    show own_S p e below T4 (mkF m 545 #[.val (.int p1), .val (.int p2), .val (.int p3), .val (.ref b3), .val (.ref b4), .val (.ref b5), .val (.int (11 : Int32)), .val (.int cnt), .val (.int xp)] [(.int (own_takes (2 : Int32) (2 : Int32) cnt))]) _
    refine XS.iload X4.here hx rfl (hb hby at_545) rfl ?_
    exact kt)
  have hc547_7 : (own_takes (2 : Int32) (2 : Int32) cnt) = xp := by rw [hxp]; exact own_te _ _ _
  have kn8 : ∀ t, own_S p e below T4 (mkF m 555 #[.val (.int p1), .val (.int p2), .val (.int p3), .val (.ref b3), .val (.ref b4), .val (.ref b5), .val (.int (11 : Int32)), .val (.int cnt), .val (.int xp)] [(.int (1 : Int32))]) t → own_S p e below T0 (mkF m 536 #[.val (.int p1), .val (.int p2), .val (.int p3), .val (.ref b3), .val (.ref b4), .val (.ref b5), .val (.int (11 : Int32)), .val (.int cnt), .val (.int xp)] []) t := fun t kt => kn6 t (by
    show own_S p e below T4 (mkF m 547 #[.val (.int p1), .val (.int p2), .val (.int p3), .val (.ref b3), .val (.ref b4), .val (.ref b5), .val (.int (11 : Int32)), .val (.int cnt), .val (.int xp)] [(.int xp), (.int (own_takes (2 : Int32) (2 : Int32) cnt))]) _
    refine XS.icmpNo X4.here hx rfl (hb hby at_547) rfl (teq hc547_7).2 ?_
    show own_S p e below T4 (mkF m 550 #[.val (.int p1), .val (.int p2), .val (.int p3), .val (.ref b3), .val (.ref b4), .val (.ref b5), .val (.int (11 : Int32)), .val (.int cnt), .val (.int xp)] []) _
    refine XS.iconst X4.here hx rfl (hb hby at_550) ?_
    show own_S p e below T4 (mkF m 551 #[.val (.int p1), .val (.int p2), .val (.int p3), .val (.ref b3), .val (.ref b4), .val (.ref b5), .val (.int (11 : Int32)), .val (.int cnt), .val (.int xp)] [(.int (1 : Int32))]) _
    refine XS.goto X4.here hx rfl (pc0 := 551) (pc' := 555) rfl (hb hby at_551) (by decide) (by decide) ?_
    exact kt)
  obtain ⟨fs, hr, hrun, hended, hW, hsame⟩ := X4.leave (v := some (.int (1 : Int32))) (fun h => by rw [hret] at h; cases h)
  refine ⟨_, _, id (kn8 _ (retN X4 hx (t := .boolean) hret (by simp) (hb hby at_555) hr)), hrun, hended, _, _, rfl, ?_, ⟨_, rfl⟩, hW, hsame.mono (by decide) (by decide)⟩
  show Q0 Z p1 p2 p3 w0 w1 w2 w3 w4 w5 w6 w7 w8 w9 w10 w11 w12 w13 w14 w15 w16 w17 w18 w19 w20 w21 w22 w23 w24 w25 w26 h0 n0 _ T4.heap _
  rw [eq4]
  exact ⟨rfl, Nf4⟩

set_option maxRecDepth 65536 in
set_option maxHeartbeats 40000000 in
theorem tail_12 {p : Program} {l : Launch} {e : Env} {s : State} {m : MethodId} {args : Array Value} {below : List Frame} {meth : Method} {c : Code} {T0 : State} {locs : List Loc} {Z : State} {a0 : Array Value} {h0 : Heap} {n0 : Nat} (p1 : Int32) (p2 : Int32) (p3 : Int32) (w0 : Addr) (w1 : Addr) (w2 : Addr) (w3 : Addr) (w4 : Addr) (w5 : Addr) (w6 : Addr) (w7 : Addr) (w8 : Addr) (w9 : Addr) (w10 : Addr) (w11 : Addr) (w12 : Addr) (w13 : Addr) (w14 : Addr) (w15 : Addr) (w16 : Addr) (w17 : Addr) (w18 : Addr) (w19 : Addr) (w20 : Addr) (w21 : Addr) (w22 : Addr) (w23 : Addr) (w24 : Addr) (w25 : Addr) (w26 : Addr) (b3 : Addr) (b4 : Addr) (b5 : Addr) (k3 : ClassId) (cnt : Int32) (xp : Int32)
    (X0 : Stand p l e room_1 s m args below meth c T0 locs 3 81) (hx : p.tables.exec = Jvm.exec) (hZ : Z.Warmed39 s.vm) (hw : ∀ d ∈ tables_1, d.before a0 Z = true) (hby : c.code = code) (hml : c.maxLocals = 9) (hown : s.vm.findClass "com/example/rowan/rowan/xpath/CoreFunctionTakesPinLaw" = some m.cls) (hret : meth.sig.returnType = some .boolean) (hlk : meth.locks = false) (e0 : T0.heap = h0) (Nf0 : Fr n0 locs) (Z0 : n0 ≤ h0.size) (O0 : Old Z n0 h0) (V3 : Arv Z h0 b3 k3 (.object "com/example/rowan/rowan/xpath/CoreFunction") (27 : Int32) ((.ref w0) :: (.ref w1) :: (.ref w2) :: (.ref w3) :: (.ref w4) :: (.ref w5) :: (.ref w6) :: (.ref w7) :: (.ref w8) :: (.ref w9) :: (.ref w10) :: (.ref w11) :: (.ref w12) :: (.ref w13) :: (.ref w14) :: (.ref w15) :: (.ref w16) :: (.ref w17) :: (.ref w18) :: (.ref w19) :: (.ref w20) :: (.ref w21) :: (.ref w22) :: (.ref w23) :: (.ref w24) :: (.ref w25) :: (.ref w26) :: []) .null) (E_w12 : Exa Z Z.heap w12 "com/example/rowan/rowan/xpath/CoreFunction$13") (Fa12 : Fld Z Z.heap w12 "com/example/rowan/rowan/xpath/CoreFunction" "minimumArguments" "I" (.int (2 : Int32))) (Fb12 : Fld Z Z.heap w12 "com/example/rowan/rowan/xpath/CoreFunction" "maximumArguments" "I" (.int (2 : Int32))) (hxp : xp = own_exp (2 : Int32) (2 : Int32) cnt) :
    ∃ s₂ o, Steps p.tables e below (T0.setTop (mkF m 536 #[.val (.int p1), .val (.int p2), .val (.int p3), .val (.ref b3), .val (.ref b4), .val (.ref b5), .val (.int (12 : Int32)), .val (.int cnt), .val (.int xp)] [])) s₂ ∧ s₂.status = .running ∧ Ended s₂ below o ∧ ∃ v L, o = .returned v ∧ Q0 Z p1 p2 p3 w0 w1 w2 w3 w4 w5 w6 w7 w8 w9 w10 w11 w12 w13 w14 w15 w16 w17 w18 w19 w20 w21 w22 w23 w24 w25 w26 h0 n0 v s₂.heap L ∧ FrameEnd s o s₂ L 16 256 := by
  have kn0 : ∀ t, own_S p e below T0 (mkF m 536 #[.val (.int p1), .val (.int p2), .val (.int p3), .val (.ref b3), .val (.ref b4), .val (.ref b5), .val (.int (12 : Int32)), .val (.int cnt), .val (.int xp)] []) t → own_S p e below T0 (mkF m 536 #[.val (.int p1), .val (.int p2), .val (.int p3), .val (.ref b3), .val (.ref b4), .val (.ref b5), .val (.int (12 : Int32)), .val (.int cnt), .val (.int xp)] []) t := fun t k => k
  have kn1 : ∀ t, own_S p e below T0 (mkF m 539 #[.val (.int p1), .val (.int p2), .val (.int p3), .val (.ref b3), .val (.ref b4), .val (.ref b5), .val (.int (12 : Int32)), .val (.int cnt), .val (.int xp)] [(.int (12 : Int32)), (.ref b3)]) t → own_S p e below T0 (mkF m 536 #[.val (.int p1), .val (.int p2), .val (.int p3), .val (.ref b3), .val (.ref b4), .val (.ref b5), .val (.int (12 : Int32)), .val (.int cnt), .val (.int xp)] []) t := fun t kt => kn0 t (by
    show own_S p e below T0 (mkF m 536 #[.val (.int p1), .val (.int p2), .val (.int p3), .val (.ref b3), .val (.ref b4), .val (.ref b5), .val (.int (12 : Int32)), .val (.int cnt), .val (.int xp)] []) _
    refine XS.aloadN X0.here hx rfl (hb hby at_536) rfl rfl ?_
    show own_S p e below T0 (mkF m 537 #[.val (.int p1), .val (.int p2), .val (.int p3), .val (.ref b3), .val (.ref b4), .val (.ref b5), .val (.int (12 : Int32)), .val (.int cnt), .val (.int xp)] [(.ref b3)]) _
    refine XS.iload X0.here hx rfl (hb hby at_537) rfl ?_
    exact kt)
  obtain ⟨cl2, Ar2, q2, Sz2, Ng2, Hs2, Gs2⟩ := id V3
  have hin2 : ¬ ((12 : Int32) < 0 ∨ cl2.slots.size ≤ ((12 : Int32)).toNatClampNeg) := inb_of Sz2 ⟨by decide, by decide⟩
  have hat2 : cl2.slots[((12 : Int32)).toNatClampNeg]? = some (.ref w12) := Hs2.at hin2 rfl
  have kn3 : ∀ t, own_S p e below T0 (mkF m 542 #[.val (.int p1), .val (.int p2), .val (.int p3), .val (.ref b3), .val (.ref b4), .val (.ref b5), .val (.int (12 : Int32)), .val (.int cnt), .val (.int xp)] [(.int cnt), (.ref w12)]) t → own_S p e below T0 (mkF m 536 #[.val (.int p1), .val (.int p2), .val (.int p3), .val (.ref b3), .val (.ref b4), .val (.ref b5), .val (.int (12 : Int32)), .val (.int cnt), .val (.int xp)] []) t := fun t kt => kn1 t (by
    show own_S p e below T0 (mkF m 539 #[.val (.int p1), .val (.int p2), .val (.int p3), .val (.ref b3), .val (.ref b4), .val (.ref b5), .val (.int (12 : Int32)), .val (.int cnt), .val (.int xp)] [(.int (12 : Int32)), (.ref b3)]) _
    refine X0.aaload hx (j := (12 : Int32)) (v := (.ref w12)) (by rw [e0]; exact Ar2.1) (State.isArrayOf_alike hZ.alike Ar2.2.1) rfl Ar2.2.2 hin2 hat2 (g := (mkF m 539 #[.val (.int p1), .val (.int p2), .val (.int p3), .val (.ref b3), .val (.ref b4), .val (.ref b5), .val (.int (12 : Int32)), .val (.int cnt), .val (.int xp)] [(.int (12 : Int32)), (.ref b3)])) rfl rfl (hb hby at_539) _ ?_
    show own_S p e below T0 (mkF m 540 #[.val (.int p1), .val (.int p2), .val (.int p3), .val (.ref b3), .val (.ref b4), .val (.ref b5), .val (.int (12 : Int32)), .val (.int cnt), .val (.int xp)] [(.ref w12)]) _
    refine XS.iload X0.here hx rfl (hb hby at_540) rfl ?_
    exact kt)
  obtain ⟨cq4, kq4, qa4, qb4, qc4⟩ := isOf hZ e0 (E_w12.ext O0.2)
  obtain ⟨_, _, ⟨T4, L4, cc4, ss4⟩, -, X4, ⟨Lc4, hQ4, l4, y4, z4⟩, st4⟩ := X0.virtualBack hx (y := (⟨"com/example/rowan/rowan/xpath/CoreFunction", "takes", "(I)Z"⟩ : MethodName)) (z := (⟨"com/example/rowan/rowan/xpath/CoreFunction", "takes", "(I)Z"⟩ : MethodName)) hown (mvT hZ (hw _ (List.mem_of_getElem? (i := 86) rfl))) (mvT hZ (hw _ (List.mem_of_getElem? (i := 87) rfl))) (notFace_of_selects (args := #[]) (mvT hZ (hw _ (List.mem_of_getElem? (i := 154) rfl)))) (mvT hZ (hw _ (List.mem_of_getElem? (i := 154) rfl))) (mvT hZ (hw _ (List.mem_of_getElem? (i := 88) rfl))) (by decide) (backOf (W := 0) (rm1 l Z a0 hw [] w12 cnt (2 : Int32) (2 : Int32) h0 n0 Z0 (Fa12.ext O0.2) (Fb12.ext O0.2)) hZ (hw _ (List.mem_of_getElem? (i := 90) rfl)) (hw _ (List.mem_of_getElem? (i := 3) rfl)) (by decide) (by decide)) qa4 qc4 (g := (mkF m 542 #[.val (.int p1), .val (.int p2), .val (.int p3), .val (.ref b3), .val (.ref b4), .val (.ref b5), .val (.int (12 : Int32)), .val (.int cnt), .val (.int xp)] [(.int cnt), (.ref w12)])) rfl (by rw [hml]; rfl) (Steps.refl _) (argsL := [(.int cnt)]) (rest := []) (lenOf pd_0 rfl) rfl (by show 2 * 0 + _ ≤ _; exact Nat.le_of_eq rfl) (hb hby at_542) (fun _ _ => ⟨rfl, e0, (by decide : 3 + 0 ≤ _), (by decide : 81 + 0 ≤ _)⟩)
  dsimp only [Pt.U, Pt.locs, Pt.cells, Pt.slots] at X4 l4 y4 z4 st4 hQ4
  subst l4 y4 z4
  have X4 : Stand p l e _ _ m _ below meth c T4 _ 3 81 := X4
  obtain ⟨rfl, Nq4, eq4⟩ := hQ4
  have Nf4 := Fr.app Nf0 Nq4
  have kn5 : ∀ t, own_S p e below T4 (mkF m 545 #[.val (.int p1), .val (.int p2), .val (.int p3), .val (.ref b3), .val (.ref b4), .val (.ref b5), .val (.int (12 : Int32)), .val (.int cnt), .val (.int xp)] [(.int (own_takes (2 : Int32) (2 : Int32) cnt))]) t → own_S p e below T0 (mkF m 536 #[.val (.int p1), .val (.int p2), .val (.int p3), .val (.ref b3), .val (.ref b4), .val (.ref b5), .val (.int (12 : Int32)), .val (.int cnt), .val (.int xp)] []) t := fun t kt => kn3 t (st4.trans kt)
  have kn6 : ∀ t, own_S p e below T4 (mkF m 547 #[.val (.int p1), .val (.int p2), .val (.int p3), .val (.ref b3), .val (.ref b4), .val (.ref b5), .val (.int (12 : Int32)), .val (.int cnt), .val (.int xp)] [(.int xp), (.int (own_takes (2 : Int32) (2 : Int32) cnt))]) t → own_S p e below T0 (mkF m 536 #[.val (.int p1), .val (.int p2), .val (.int p3), .val (.ref b3), .val (.ref b4), .val (.ref b5), .val (.int (12 : Int32)), .val (.int cnt), .val (.int xp)] []) t := fun t kt => kn5 t (by
    show own_S p e below T4 (mkF m 545 #[.val (.int p1), .val (.int p2), .val (.int p3), .val (.ref b3), .val (.ref b4), .val (.ref b5), .val (.int (12 : Int32)), .val (.int cnt), .val (.int xp)] [(.int (own_takes (2 : Int32) (2 : Int32) cnt))]) _
    refine XS.iload X4.here hx rfl (hb hby at_545) rfl ?_
    exact kt)
  have hc547_7 : (own_takes (2 : Int32) (2 : Int32) cnt) = xp := by rw [hxp]; exact own_te _ _ _
  have kn8 : ∀ t, own_S p e below T4 (mkF m 555 #[.val (.int p1), .val (.int p2), .val (.int p3), .val (.ref b3), .val (.ref b4), .val (.ref b5), .val (.int (12 : Int32)), .val (.int cnt), .val (.int xp)] [(.int (1 : Int32))]) t → own_S p e below T0 (mkF m 536 #[.val (.int p1), .val (.int p2), .val (.int p3), .val (.ref b3), .val (.ref b4), .val (.ref b5), .val (.int (12 : Int32)), .val (.int cnt), .val (.int xp)] []) t := fun t kt => kn6 t (by
    show own_S p e below T4 (mkF m 547 #[.val (.int p1), .val (.int p2), .val (.int p3), .val (.ref b3), .val (.ref b4), .val (.ref b5), .val (.int (12 : Int32)), .val (.int cnt), .val (.int xp)] [(.int xp), (.int (own_takes (2 : Int32) (2 : Int32) cnt))]) _
    refine XS.icmpNo X4.here hx rfl (hb hby at_547) rfl (teq hc547_7).2 ?_
    show own_S p e below T4 (mkF m 550 #[.val (.int p1), .val (.int p2), .val (.int p3), .val (.ref b3), .val (.ref b4), .val (.ref b5), .val (.int (12 : Int32)), .val (.int cnt), .val (.int xp)] []) _
    refine XS.iconst X4.here hx rfl (hb hby at_550) ?_
    show own_S p e below T4 (mkF m 551 #[.val (.int p1), .val (.int p2), .val (.int p3), .val (.ref b3), .val (.ref b4), .val (.ref b5), .val (.int (12 : Int32)), .val (.int cnt), .val (.int xp)] [(.int (1 : Int32))]) _
    refine XS.goto X4.here hx rfl (pc0 := 551) (pc' := 555) rfl (hb hby at_551) (by decide) (by decide) ?_
    exact kt)
  obtain ⟨fs, hr, hrun, hended, hW, hsame⟩ := X4.leave (v := some (.int (1 : Int32))) (fun h => by rw [hret] at h; cases h)
  refine ⟨_, _, id (kn8 _ (retN X4 hx (t := .boolean) hret (by simp) (hb hby at_555) hr)), hrun, hended, _, _, rfl, ?_, ⟨_, rfl⟩, hW, hsame.mono (by decide) (by decide)⟩
  show Q0 Z p1 p2 p3 w0 w1 w2 w3 w4 w5 w6 w7 w8 w9 w10 w11 w12 w13 w14 w15 w16 w17 w18 w19 w20 w21 w22 w23 w24 w25 w26 h0 n0 _ T4.heap _
  rw [eq4]
  exact ⟨rfl, Nf4⟩

set_option maxRecDepth 65536 in
set_option maxHeartbeats 40000000 in
theorem tail_13 {p : Program} {l : Launch} {e : Env} {s : State} {m : MethodId} {args : Array Value} {below : List Frame} {meth : Method} {c : Code} {T0 : State} {locs : List Loc} {Z : State} {a0 : Array Value} {h0 : Heap} {n0 : Nat} (p1 : Int32) (p2 : Int32) (p3 : Int32) (w0 : Addr) (w1 : Addr) (w2 : Addr) (w3 : Addr) (w4 : Addr) (w5 : Addr) (w6 : Addr) (w7 : Addr) (w8 : Addr) (w9 : Addr) (w10 : Addr) (w11 : Addr) (w12 : Addr) (w13 : Addr) (w14 : Addr) (w15 : Addr) (w16 : Addr) (w17 : Addr) (w18 : Addr) (w19 : Addr) (w20 : Addr) (w21 : Addr) (w22 : Addr) (w23 : Addr) (w24 : Addr) (w25 : Addr) (w26 : Addr) (b3 : Addr) (b4 : Addr) (b5 : Addr) (k3 : ClassId) (cnt : Int32) (xp : Int32)
    (X0 : Stand p l e room_1 s m args below meth c T0 locs 3 81) (hx : p.tables.exec = Jvm.exec) (hZ : Z.Warmed39 s.vm) (hw : ∀ d ∈ tables_1, d.before a0 Z = true) (hby : c.code = code) (hml : c.maxLocals = 9) (hown : s.vm.findClass "com/example/rowan/rowan/xpath/CoreFunctionTakesPinLaw" = some m.cls) (hret : meth.sig.returnType = some .boolean) (hlk : meth.locks = false) (e0 : T0.heap = h0) (Nf0 : Fr n0 locs) (Z0 : n0 ≤ h0.size) (O0 : Old Z n0 h0) (V3 : Arv Z h0 b3 k3 (.object "com/example/rowan/rowan/xpath/CoreFunction") (27 : Int32) ((.ref w0) :: (.ref w1) :: (.ref w2) :: (.ref w3) :: (.ref w4) :: (.ref w5) :: (.ref w6) :: (.ref w7) :: (.ref w8) :: (.ref w9) :: (.ref w10) :: (.ref w11) :: (.ref w12) :: (.ref w13) :: (.ref w14) :: (.ref w15) :: (.ref w16) :: (.ref w17) :: (.ref w18) :: (.ref w19) :: (.ref w20) :: (.ref w21) :: (.ref w22) :: (.ref w23) :: (.ref w24) :: (.ref w25) :: (.ref w26) :: []) .null) (E_w13 : Exa Z Z.heap w13 "com/example/rowan/rowan/xpath/CoreFunction$14") (Fa13 : Fld Z Z.heap w13 "com/example/rowan/rowan/xpath/CoreFunction" "minimumArguments" "I" (.int (2 : Int32))) (Fb13 : Fld Z Z.heap w13 "com/example/rowan/rowan/xpath/CoreFunction" "maximumArguments" "I" (.int (3 : Int32))) (hxp : xp = own_exp (2 : Int32) (3 : Int32) cnt) :
    ∃ s₂ o, Steps p.tables e below (T0.setTop (mkF m 536 #[.val (.int p1), .val (.int p2), .val (.int p3), .val (.ref b3), .val (.ref b4), .val (.ref b5), .val (.int (13 : Int32)), .val (.int cnt), .val (.int xp)] [])) s₂ ∧ s₂.status = .running ∧ Ended s₂ below o ∧ ∃ v L, o = .returned v ∧ Q0 Z p1 p2 p3 w0 w1 w2 w3 w4 w5 w6 w7 w8 w9 w10 w11 w12 w13 w14 w15 w16 w17 w18 w19 w20 w21 w22 w23 w24 w25 w26 h0 n0 v s₂.heap L ∧ FrameEnd s o s₂ L 16 256 := by
  have kn0 : ∀ t, own_S p e below T0 (mkF m 536 #[.val (.int p1), .val (.int p2), .val (.int p3), .val (.ref b3), .val (.ref b4), .val (.ref b5), .val (.int (13 : Int32)), .val (.int cnt), .val (.int xp)] []) t → own_S p e below T0 (mkF m 536 #[.val (.int p1), .val (.int p2), .val (.int p3), .val (.ref b3), .val (.ref b4), .val (.ref b5), .val (.int (13 : Int32)), .val (.int cnt), .val (.int xp)] []) t := fun t k => k
  have kn1 : ∀ t, own_S p e below T0 (mkF m 539 #[.val (.int p1), .val (.int p2), .val (.int p3), .val (.ref b3), .val (.ref b4), .val (.ref b5), .val (.int (13 : Int32)), .val (.int cnt), .val (.int xp)] [(.int (13 : Int32)), (.ref b3)]) t → own_S p e below T0 (mkF m 536 #[.val (.int p1), .val (.int p2), .val (.int p3), .val (.ref b3), .val (.ref b4), .val (.ref b5), .val (.int (13 : Int32)), .val (.int cnt), .val (.int xp)] []) t := fun t kt => kn0 t (by
    show own_S p e below T0 (mkF m 536 #[.val (.int p1), .val (.int p2), .val (.int p3), .val (.ref b3), .val (.ref b4), .val (.ref b5), .val (.int (13 : Int32)), .val (.int cnt), .val (.int xp)] []) _
    refine XS.aloadN X0.here hx rfl (hb hby at_536) rfl rfl ?_
    show own_S p e below T0 (mkF m 537 #[.val (.int p1), .val (.int p2), .val (.int p3), .val (.ref b3), .val (.ref b4), .val (.ref b5), .val (.int (13 : Int32)), .val (.int cnt), .val (.int xp)] [(.ref b3)]) _
    refine XS.iload X0.here hx rfl (hb hby at_537) rfl ?_
    exact kt)
  obtain ⟨cl2, Ar2, q2, Sz2, Ng2, Hs2, Gs2⟩ := id V3
  have hin2 : ¬ ((13 : Int32) < 0 ∨ cl2.slots.size ≤ ((13 : Int32)).toNatClampNeg) := inb_of Sz2 ⟨by decide, by decide⟩
  have hat2 : cl2.slots[((13 : Int32)).toNatClampNeg]? = some (.ref w13) := Hs2.at hin2 rfl
  have kn3 : ∀ t, own_S p e below T0 (mkF m 542 #[.val (.int p1), .val (.int p2), .val (.int p3), .val (.ref b3), .val (.ref b4), .val (.ref b5), .val (.int (13 : Int32)), .val (.int cnt), .val (.int xp)] [(.int cnt), (.ref w13)]) t → own_S p e below T0 (mkF m 536 #[.val (.int p1), .val (.int p2), .val (.int p3), .val (.ref b3), .val (.ref b4), .val (.ref b5), .val (.int (13 : Int32)), .val (.int cnt), .val (.int xp)] []) t := fun t kt => kn1 t (by
    show own_S p e below T0 (mkF m 539 #[.val (.int p1), .val (.int p2), .val (.int p3), .val (.ref b3), .val (.ref b4), .val (.ref b5), .val (.int (13 : Int32)), .val (.int cnt), .val (.int xp)] [(.int (13 : Int32)), (.ref b3)]) _
    refine X0.aaload hx (j := (13 : Int32)) (v := (.ref w13)) (by rw [e0]; exact Ar2.1) (State.isArrayOf_alike hZ.alike Ar2.2.1) rfl Ar2.2.2 hin2 hat2 (g := (mkF m 539 #[.val (.int p1), .val (.int p2), .val (.int p3), .val (.ref b3), .val (.ref b4), .val (.ref b5), .val (.int (13 : Int32)), .val (.int cnt), .val (.int xp)] [(.int (13 : Int32)), (.ref b3)])) rfl rfl (hb hby at_539) _ ?_
    show own_S p e below T0 (mkF m 540 #[.val (.int p1), .val (.int p2), .val (.int p3), .val (.ref b3), .val (.ref b4), .val (.ref b5), .val (.int (13 : Int32)), .val (.int cnt), .val (.int xp)] [(.ref w13)]) _
    refine XS.iload X0.here hx rfl (hb hby at_540) rfl ?_
    exact kt)
  obtain ⟨cq4, kq4, qa4, qb4, qc4⟩ := isOf hZ e0 (E_w13.ext O0.2)
  obtain ⟨_, _, ⟨T4, L4, cc4, ss4⟩, -, X4, ⟨Lc4, hQ4, l4, y4, z4⟩, st4⟩ := X0.virtualBack hx (y := (⟨"com/example/rowan/rowan/xpath/CoreFunction", "takes", "(I)Z"⟩ : MethodName)) (z := (⟨"com/example/rowan/rowan/xpath/CoreFunction", "takes", "(I)Z"⟩ : MethodName)) hown (mvT hZ (hw _ (List.mem_of_getElem? (i := 86) rfl))) (mvT hZ (hw _ (List.mem_of_getElem? (i := 87) rfl))) (notFace_of_selects (args := #[]) (mvT hZ (hw _ (List.mem_of_getElem? (i := 130) rfl)))) (mvT hZ (hw _ (List.mem_of_getElem? (i := 130) rfl))) (mvT hZ (hw _ (List.mem_of_getElem? (i := 88) rfl))) (by decide) (backOf (W := 0) (rm1 l Z a0 hw [] w13 cnt (2 : Int32) (3 : Int32) h0 n0 Z0 (Fa13.ext O0.2) (Fb13.ext O0.2)) hZ (hw _ (List.mem_of_getElem? (i := 90) rfl)) (hw _ (List.mem_of_getElem? (i := 3) rfl)) (by decide) (by decide)) qa4 qc4 (g := (mkF m 542 #[.val (.int p1), .val (.int p2), .val (.int p3), .val (.ref b3), .val (.ref b4), .val (.ref b5), .val (.int (13 : Int32)), .val (.int cnt), .val (.int xp)] [(.int cnt), (.ref w13)])) rfl (by rw [hml]; rfl) (Steps.refl _) (argsL := [(.int cnt)]) (rest := []) (lenOf pd_0 rfl) rfl (by show 2 * 0 + _ ≤ _; exact Nat.le_of_eq rfl) (hb hby at_542) (fun _ _ => ⟨rfl, e0, (by decide : 3 + 0 ≤ _), (by decide : 81 + 0 ≤ _)⟩)
  dsimp only [Pt.U, Pt.locs, Pt.cells, Pt.slots] at X4 l4 y4 z4 st4 hQ4
  subst l4 y4 z4
  have X4 : Stand p l e _ _ m _ below meth c T4 _ 3 81 := X4
  obtain ⟨rfl, Nq4, eq4⟩ := hQ4
  have Nf4 := Fr.app Nf0 Nq4
  have kn5 : ∀ t, own_S p e below T4 (mkF m 545 #[.val (.int p1), .val (.int p2), .val (.int p3), .val (.ref b3), .val (.ref b4), .val (.ref b5), .val (.int (13 : Int32)), .val (.int cnt), .val (.int xp)] [(.int (own_takes (2 : Int32) (3 : Int32) cnt))]) t → own_S p e below T0 (mkF m 536 #[.val (.int p1), .val (.int p2), .val (.int p3), .val (.ref b3), .val (.ref b4), .val (.ref b5), .val (.int (13 : Int32)), .val (.int cnt), .val (.int xp)] []) t := fun t kt => kn3 t (st4.trans kt)
  have kn6 : ∀ t, own_S p e below T4 (mkF m 547 #[.val (.int p1), .val (.int p2), .val (.int p3), .val (.ref b3), .val (.ref b4), .val (.ref b5), .val (.int (13 : Int32)), .val (.int cnt), .val (.int xp)] [(.int xp), (.int (own_takes (2 : Int32) (3 : Int32) cnt))]) t → own_S p e below T0 (mkF m 536 #[.val (.int p1), .val (.int p2), .val (.int p3), .val (.ref b3), .val (.ref b4), .val (.ref b5), .val (.int (13 : Int32)), .val (.int cnt), .val (.int xp)] []) t := fun t kt => kn5 t (by
    show own_S p e below T4 (mkF m 545 #[.val (.int p1), .val (.int p2), .val (.int p3), .val (.ref b3), .val (.ref b4), .val (.ref b5), .val (.int (13 : Int32)), .val (.int cnt), .val (.int xp)] [(.int (own_takes (2 : Int32) (3 : Int32) cnt))]) _
    refine XS.iload X4.here hx rfl (hb hby at_545) rfl ?_
    exact kt)
  have hc547_7 : (own_takes (2 : Int32) (3 : Int32) cnt) = xp := by rw [hxp]; exact own_te _ _ _
  have kn8 : ∀ t, own_S p e below T4 (mkF m 555 #[.val (.int p1), .val (.int p2), .val (.int p3), .val (.ref b3), .val (.ref b4), .val (.ref b5), .val (.int (13 : Int32)), .val (.int cnt), .val (.int xp)] [(.int (1 : Int32))]) t → own_S p e below T0 (mkF m 536 #[.val (.int p1), .val (.int p2), .val (.int p3), .val (.ref b3), .val (.ref b4), .val (.ref b5), .val (.int (13 : Int32)), .val (.int cnt), .val (.int xp)] []) t := fun t kt => kn6 t (by
    show own_S p e below T4 (mkF m 547 #[.val (.int p1), .val (.int p2), .val (.int p3), .val (.ref b3), .val (.ref b4), .val (.ref b5), .val (.int (13 : Int32)), .val (.int cnt), .val (.int xp)] [(.int xp), (.int (own_takes (2 : Int32) (3 : Int32) cnt))]) _
    refine XS.icmpNo X4.here hx rfl (hb hby at_547) rfl (teq hc547_7).2 ?_
    show own_S p e below T4 (mkF m 550 #[.val (.int p1), .val (.int p2), .val (.int p3), .val (.ref b3), .val (.ref b4), .val (.ref b5), .val (.int (13 : Int32)), .val (.int cnt), .val (.int xp)] []) _
    refine XS.iconst X4.here hx rfl (hb hby at_550) ?_
    show own_S p e below T4 (mkF m 551 #[.val (.int p1), .val (.int p2), .val (.int p3), .val (.ref b3), .val (.ref b4), .val (.ref b5), .val (.int (13 : Int32)), .val (.int cnt), .val (.int xp)] [(.int (1 : Int32))]) _
    refine XS.goto X4.here hx rfl (pc0 := 551) (pc' := 555) rfl (hb hby at_551) (by decide) (by decide) ?_
    exact kt)
  obtain ⟨fs, hr, hrun, hended, hW, hsame⟩ := X4.leave (v := some (.int (1 : Int32))) (fun h => by rw [hret] at h; cases h)
  refine ⟨_, _, id (kn8 _ (retN X4 hx (t := .boolean) hret (by simp) (hb hby at_555) hr)), hrun, hended, _, _, rfl, ?_, ⟨_, rfl⟩, hW, hsame.mono (by decide) (by decide)⟩
  show Q0 Z p1 p2 p3 w0 w1 w2 w3 w4 w5 w6 w7 w8 w9 w10 w11 w12 w13 w14 w15 w16 w17 w18 w19 w20 w21 w22 w23 w24 w25 w26 h0 n0 _ T4.heap _
  rw [eq4]
  exact ⟨rfl, Nf4⟩

set_option maxRecDepth 65536 in
set_option maxHeartbeats 40000000 in
theorem tail_14 {p : Program} {l : Launch} {e : Env} {s : State} {m : MethodId} {args : Array Value} {below : List Frame} {meth : Method} {c : Code} {T0 : State} {locs : List Loc} {Z : State} {a0 : Array Value} {h0 : Heap} {n0 : Nat} (p1 : Int32) (p2 : Int32) (p3 : Int32) (w0 : Addr) (w1 : Addr) (w2 : Addr) (w3 : Addr) (w4 : Addr) (w5 : Addr) (w6 : Addr) (w7 : Addr) (w8 : Addr) (w9 : Addr) (w10 : Addr) (w11 : Addr) (w12 : Addr) (w13 : Addr) (w14 : Addr) (w15 : Addr) (w16 : Addr) (w17 : Addr) (w18 : Addr) (w19 : Addr) (w20 : Addr) (w21 : Addr) (w22 : Addr) (w23 : Addr) (w24 : Addr) (w25 : Addr) (w26 : Addr) (b3 : Addr) (b4 : Addr) (b5 : Addr) (k3 : ClassId) (cnt : Int32) (xp : Int32)
    (X0 : Stand p l e room_1 s m args below meth c T0 locs 3 81) (hx : p.tables.exec = Jvm.exec) (hZ : Z.Warmed39 s.vm) (hw : ∀ d ∈ tables_1, d.before a0 Z = true) (hby : c.code = code) (hml : c.maxLocals = 9) (hown : s.vm.findClass "com/example/rowan/rowan/xpath/CoreFunctionTakesPinLaw" = some m.cls) (hret : meth.sig.returnType = some .boolean) (hlk : meth.locks = false) (e0 : T0.heap = h0) (Nf0 : Fr n0 locs) (Z0 : n0 ≤ h0.size) (O0 : Old Z n0 h0) (V3 : Arv Z h0 b3 k3 (.object "com/example/rowan/rowan/xpath/CoreFunction") (27 : Int32) ((.ref w0) :: (.ref w1) :: (.ref w2) :: (.ref w3) :: (.ref w4) :: (.ref w5) :: (.ref w6) :: (.ref w7) :: (.ref w8) :: (.ref w9) :: (.ref w10) :: (.ref w11) :: (.ref w12) :: (.ref w13) :: (.ref w14) :: (.ref w15) :: (.ref w16) :: (.ref w17) :: (.ref w18) :: (.ref w19) :: (.ref w20) :: (.ref w21) :: (.ref w22) :: (.ref w23) :: (.ref w24) :: (.ref w25) :: (.ref w26) :: []) .null) (E_w14 : Exa Z Z.heap w14 "com/example/rowan/rowan/xpath/CoreFunction$15") (Fa14 : Fld Z Z.heap w14 "com/example/rowan/rowan/xpath/CoreFunction" "minimumArguments" "I" (.int (0 : Int32))) (Fb14 : Fld Z Z.heap w14 "com/example/rowan/rowan/xpath/CoreFunction" "maximumArguments" "I" (.int (1 : Int32))) (hxp : xp = own_exp (0 : Int32) (1 : Int32) cnt) :
    ∃ s₂ o, Steps p.tables e below (T0.setTop (mkF m 536 #[.val (.int p1), .val (.int p2), .val (.int p3), .val (.ref b3), .val (.ref b4), .val (.ref b5), .val (.int (14 : Int32)), .val (.int cnt), .val (.int xp)] [])) s₂ ∧ s₂.status = .running ∧ Ended s₂ below o ∧ ∃ v L, o = .returned v ∧ Q0 Z p1 p2 p3 w0 w1 w2 w3 w4 w5 w6 w7 w8 w9 w10 w11 w12 w13 w14 w15 w16 w17 w18 w19 w20 w21 w22 w23 w24 w25 w26 h0 n0 v s₂.heap L ∧ FrameEnd s o s₂ L 16 256 := by
  have kn0 : ∀ t, own_S p e below T0 (mkF m 536 #[.val (.int p1), .val (.int p2), .val (.int p3), .val (.ref b3), .val (.ref b4), .val (.ref b5), .val (.int (14 : Int32)), .val (.int cnt), .val (.int xp)] []) t → own_S p e below T0 (mkF m 536 #[.val (.int p1), .val (.int p2), .val (.int p3), .val (.ref b3), .val (.ref b4), .val (.ref b5), .val (.int (14 : Int32)), .val (.int cnt), .val (.int xp)] []) t := fun t k => k
  have kn1 : ∀ t, own_S p e below T0 (mkF m 539 #[.val (.int p1), .val (.int p2), .val (.int p3), .val (.ref b3), .val (.ref b4), .val (.ref b5), .val (.int (14 : Int32)), .val (.int cnt), .val (.int xp)] [(.int (14 : Int32)), (.ref b3)]) t → own_S p e below T0 (mkF m 536 #[.val (.int p1), .val (.int p2), .val (.int p3), .val (.ref b3), .val (.ref b4), .val (.ref b5), .val (.int (14 : Int32)), .val (.int cnt), .val (.int xp)] []) t := fun t kt => kn0 t (by
    show own_S p e below T0 (mkF m 536 #[.val (.int p1), .val (.int p2), .val (.int p3), .val (.ref b3), .val (.ref b4), .val (.ref b5), .val (.int (14 : Int32)), .val (.int cnt), .val (.int xp)] []) _
    refine XS.aloadN X0.here hx rfl (hb hby at_536) rfl rfl ?_
    show own_S p e below T0 (mkF m 537 #[.val (.int p1), .val (.int p2), .val (.int p3), .val (.ref b3), .val (.ref b4), .val (.ref b5), .val (.int (14 : Int32)), .val (.int cnt), .val (.int xp)] [(.ref b3)]) _
    refine XS.iload X0.here hx rfl (hb hby at_537) rfl ?_
    exact kt)
  obtain ⟨cl2, Ar2, q2, Sz2, Ng2, Hs2, Gs2⟩ := id V3
  have hin2 : ¬ ((14 : Int32) < 0 ∨ cl2.slots.size ≤ ((14 : Int32)).toNatClampNeg) := inb_of Sz2 ⟨by decide, by decide⟩
  have hat2 : cl2.slots[((14 : Int32)).toNatClampNeg]? = some (.ref w14) := Hs2.at hin2 rfl
  have kn3 : ∀ t, own_S p e below T0 (mkF m 542 #[.val (.int p1), .val (.int p2), .val (.int p3), .val (.ref b3), .val (.ref b4), .val (.ref b5), .val (.int (14 : Int32)), .val (.int cnt), .val (.int xp)] [(.int cnt), (.ref w14)]) t → own_S p e below T0 (mkF m 536 #[.val (.int p1), .val (.int p2), .val (.int p3), .val (.ref b3), .val (.ref b4), .val (.ref b5), .val (.int (14 : Int32)), .val (.int cnt), .val (.int xp)] []) t := fun t kt => kn1 t (by
    show own_S p e below T0 (mkF m 539 #[.val (.int p1), .val (.int p2), .val (.int p3), .val (.ref b3), .val (.ref b4), .val (.ref b5), .val (.int (14 : Int32)), .val (.int cnt), .val (.int xp)] [(.int (14 : Int32)), (.ref b3)]) _
    refine X0.aaload hx (j := (14 : Int32)) (v := (.ref w14)) (by rw [e0]; exact Ar2.1) (State.isArrayOf_alike hZ.alike Ar2.2.1) rfl Ar2.2.2 hin2 hat2 (g := (mkF m 539 #[.val (.int p1), .val (.int p2), .val (.int p3), .val (.ref b3), .val (.ref b4), .val (.ref b5), .val (.int (14 : Int32)), .val (.int cnt), .val (.int xp)] [(.int (14 : Int32)), (.ref b3)])) rfl rfl (hb hby at_539) _ ?_
    show own_S p e below T0 (mkF m 540 #[.val (.int p1), .val (.int p2), .val (.int p3), .val (.ref b3), .val (.ref b4), .val (.ref b5), .val (.int (14 : Int32)), .val (.int cnt), .val (.int xp)] [(.ref w14)]) _
    refine XS.iload X0.here hx rfl (hb hby at_540) rfl ?_
    exact kt)
  obtain ⟨cq4, kq4, qa4, qb4, qc4⟩ := isOf hZ e0 (E_w14.ext O0.2)
  obtain ⟨_, _, ⟨T4, L4, cc4, ss4⟩, -, X4, ⟨Lc4, hQ4, l4, y4, z4⟩, st4⟩ := X0.virtualBack hx (y := (⟨"com/example/rowan/rowan/xpath/CoreFunction", "takes", "(I)Z"⟩ : MethodName)) (z := (⟨"com/example/rowan/rowan/xpath/CoreFunction", "takes", "(I)Z"⟩ : MethodName)) hown (mvT hZ (hw _ (List.mem_of_getElem? (i := 86) rfl))) (mvT hZ (hw _ (List.mem_of_getElem? (i := 87) rfl))) (notFace_of_selects (args := #[]) (mvT hZ (hw _ (List.mem_of_getElem? (i := 140) rfl)))) (mvT hZ (hw _ (List.mem_of_getElem? (i := 140) rfl))) (mvT hZ (hw _ (List.mem_of_getElem? (i := 88) rfl))) (by decide) (backOf (W := 0) (rm1 l Z a0 hw [] w14 cnt (0 : Int32) (1 : Int32) h0 n0 Z0 (Fa14.ext O0.2) (Fb14.ext O0.2)) hZ (hw _ (List.mem_of_getElem? (i := 90) rfl)) (hw _ (List.mem_of_getElem? (i := 3) rfl)) (by decide) (by decide)) qa4 qc4 (g := (mkF m 542 #[.val (.int p1), .val (.int p2), .val (.int p3), .val (.ref b3), .val (.ref b4), .val (.ref b5), .val (.int (14 : Int32)), .val (.int cnt), .val (.int xp)] [(.int cnt), (.ref w14)])) rfl (by rw [hml]; rfl) (Steps.refl _) (argsL := [(.int cnt)]) (rest := []) (lenOf pd_0 rfl) rfl (by show 2 * 0 + _ ≤ _; exact Nat.le_of_eq rfl) (hb hby at_542) (fun _ _ => ⟨rfl, e0, (by decide : 3 + 0 ≤ _), (by decide : 81 + 0 ≤ _)⟩)
  dsimp only [Pt.U, Pt.locs, Pt.cells, Pt.slots] at X4 l4 y4 z4 st4 hQ4
  subst l4 y4 z4
  have X4 : Stand p l e _ _ m _ below meth c T4 _ 3 81 := X4
  obtain ⟨rfl, Nq4, eq4⟩ := hQ4
  have Nf4 := Fr.app Nf0 Nq4
  have kn5 : ∀ t, own_S p e below T4 (mkF m 545 #[.val (.int p1), .val (.int p2), .val (.int p3), .val (.ref b3), .val (.ref b4), .val (.ref b5), .val (.int (14 : Int32)), .val (.int cnt), .val (.int xp)] [(.int (own_takes (0 : Int32) (1 : Int32) cnt))]) t → own_S p e below T0 (mkF m 536 #[.val (.int p1), .val (.int p2), .val (.int p3), .val (.ref b3), .val (.ref b4), .val (.ref b5), .val (.int (14 : Int32)), .val (.int cnt), .val (.int xp)] []) t := fun t kt => kn3 t (st4.trans kt)
  have kn6 : ∀ t, own_S p e below T4 (mkF m 547 #[.val (.int p1), .val (.int p2), .val (.int p3), .val (.ref b3), .val (.ref b4), .val (.ref b5), .val (.int (14 : Int32)), .val (.int cnt), .val (.int xp)] [(.int xp), (.int (own_takes (0 : Int32) (1 : Int32) cnt))]) t → own_S p e below T0 (mkF m 536 #[.val (.int p1), .val (.int p2), .val (.int p3), .val (.ref b3), .val (.ref b4), .val (.ref b5), .val (.int (14 : Int32)), .val (.int cnt), .val (.int xp)] []) t := fun t kt => kn5 t (by
    show own_S p e below T4 (mkF m 545 #[.val (.int p1), .val (.int p2), .val (.int p3), .val (.ref b3), .val (.ref b4), .val (.ref b5), .val (.int (14 : Int32)), .val (.int cnt), .val (.int xp)] [(.int (own_takes (0 : Int32) (1 : Int32) cnt))]) _
    refine XS.iload X4.here hx rfl (hb hby at_545) rfl ?_
    exact kt)
  have hc547_7 : (own_takes (0 : Int32) (1 : Int32) cnt) = xp := by rw [hxp]; exact own_te _ _ _
  have kn8 : ∀ t, own_S p e below T4 (mkF m 555 #[.val (.int p1), .val (.int p2), .val (.int p3), .val (.ref b3), .val (.ref b4), .val (.ref b5), .val (.int (14 : Int32)), .val (.int cnt), .val (.int xp)] [(.int (1 : Int32))]) t → own_S p e below T0 (mkF m 536 #[.val (.int p1), .val (.int p2), .val (.int p3), .val (.ref b3), .val (.ref b4), .val (.ref b5), .val (.int (14 : Int32)), .val (.int cnt), .val (.int xp)] []) t := fun t kt => kn6 t (by
    show own_S p e below T4 (mkF m 547 #[.val (.int p1), .val (.int p2), .val (.int p3), .val (.ref b3), .val (.ref b4), .val (.ref b5), .val (.int (14 : Int32)), .val (.int cnt), .val (.int xp)] [(.int xp), (.int (own_takes (0 : Int32) (1 : Int32) cnt))]) _
    refine XS.icmpNo X4.here hx rfl (hb hby at_547) rfl (teq hc547_7).2 ?_
    show own_S p e below T4 (mkF m 550 #[.val (.int p1), .val (.int p2), .val (.int p3), .val (.ref b3), .val (.ref b4), .val (.ref b5), .val (.int (14 : Int32)), .val (.int cnt), .val (.int xp)] []) _
    refine XS.iconst X4.here hx rfl (hb hby at_550) ?_
    show own_S p e below T4 (mkF m 551 #[.val (.int p1), .val (.int p2), .val (.int p3), .val (.ref b3), .val (.ref b4), .val (.ref b5), .val (.int (14 : Int32)), .val (.int cnt), .val (.int xp)] [(.int (1 : Int32))]) _
    refine XS.goto X4.here hx rfl (pc0 := 551) (pc' := 555) rfl (hb hby at_551) (by decide) (by decide) ?_
    exact kt)
  obtain ⟨fs, hr, hrun, hended, hW, hsame⟩ := X4.leave (v := some (.int (1 : Int32))) (fun h => by rw [hret] at h; cases h)
  refine ⟨_, _, id (kn8 _ (retN X4 hx (t := .boolean) hret (by simp) (hb hby at_555) hr)), hrun, hended, _, _, rfl, ?_, ⟨_, rfl⟩, hW, hsame.mono (by decide) (by decide)⟩
  show Q0 Z p1 p2 p3 w0 w1 w2 w3 w4 w5 w6 w7 w8 w9 w10 w11 w12 w13 w14 w15 w16 w17 w18 w19 w20 w21 w22 w23 w24 w25 w26 h0 n0 _ T4.heap _
  rw [eq4]
  exact ⟨rfl, Nf4⟩

set_option maxRecDepth 65536 in
set_option maxHeartbeats 40000000 in
theorem tail_15 {p : Program} {l : Launch} {e : Env} {s : State} {m : MethodId} {args : Array Value} {below : List Frame} {meth : Method} {c : Code} {T0 : State} {locs : List Loc} {Z : State} {a0 : Array Value} {h0 : Heap} {n0 : Nat} (p1 : Int32) (p2 : Int32) (p3 : Int32) (w0 : Addr) (w1 : Addr) (w2 : Addr) (w3 : Addr) (w4 : Addr) (w5 : Addr) (w6 : Addr) (w7 : Addr) (w8 : Addr) (w9 : Addr) (w10 : Addr) (w11 : Addr) (w12 : Addr) (w13 : Addr) (w14 : Addr) (w15 : Addr) (w16 : Addr) (w17 : Addr) (w18 : Addr) (w19 : Addr) (w20 : Addr) (w21 : Addr) (w22 : Addr) (w23 : Addr) (w24 : Addr) (w25 : Addr) (w26 : Addr) (b3 : Addr) (b4 : Addr) (b5 : Addr) (k3 : ClassId) (cnt : Int32) (xp : Int32)
    (X0 : Stand p l e room_1 s m args below meth c T0 locs 3 81) (hx : p.tables.exec = Jvm.exec) (hZ : Z.Warmed39 s.vm) (hw : ∀ d ∈ tables_1, d.before a0 Z = true) (hby : c.code = code) (hml : c.maxLocals = 9) (hown : s.vm.findClass "com/example/rowan/rowan/xpath/CoreFunctionTakesPinLaw" = some m.cls) (hret : meth.sig.returnType = some .boolean) (hlk : meth.locks = false) (e0 : T0.heap = h0) (Nf0 : Fr n0 locs) (Z0 : n0 ≤ h0.size) (O0 : Old Z n0 h0) (V3 : Arv Z h0 b3 k3 (.object "com/example/rowan/rowan/xpath/CoreFunction") (27 : Int32) ((.ref w0) :: (.ref w1) :: (.ref w2) :: (.ref w3) :: (.ref w4) :: (.ref w5) :: (.ref w6) :: (.ref w7) :: (.ref w8) :: (.ref w9) :: (.ref w10) :: (.ref w11) :: (.ref w12) :: (.ref w13) :: (.ref w14) :: (.ref w15) :: (.ref w16) :: (.ref w17) :: (.ref w18) :: (.ref w19) :: (.ref w20) :: (.ref w21) :: (.ref w22) :: (.ref w23) :: (.ref w24) :: (.ref w25) :: (.ref w26) :: []) .null) (E_w15 : Exa Z Z.heap w15 "com/example/rowan/rowan/xpath/CoreFunction$16") (Fa15 : Fld Z Z.heap w15 "com/example/rowan/rowan/xpath/CoreFunction" "minimumArguments" "I" (.int (0 : Int32))) (Fb15 : Fld Z Z.heap w15 "com/example/rowan/rowan/xpath/CoreFunction" "maximumArguments" "I" (.int (1 : Int32))) (hxp : xp = own_exp (0 : Int32) (1 : Int32) cnt) :
    ∃ s₂ o, Steps p.tables e below (T0.setTop (mkF m 536 #[.val (.int p1), .val (.int p2), .val (.int p3), .val (.ref b3), .val (.ref b4), .val (.ref b5), .val (.int (15 : Int32)), .val (.int cnt), .val (.int xp)] [])) s₂ ∧ s₂.status = .running ∧ Ended s₂ below o ∧ ∃ v L, o = .returned v ∧ Q0 Z p1 p2 p3 w0 w1 w2 w3 w4 w5 w6 w7 w8 w9 w10 w11 w12 w13 w14 w15 w16 w17 w18 w19 w20 w21 w22 w23 w24 w25 w26 h0 n0 v s₂.heap L ∧ FrameEnd s o s₂ L 16 256 := by
  have kn0 : ∀ t, own_S p e below T0 (mkF m 536 #[.val (.int p1), .val (.int p2), .val (.int p3), .val (.ref b3), .val (.ref b4), .val (.ref b5), .val (.int (15 : Int32)), .val (.int cnt), .val (.int xp)] []) t → own_S p e below T0 (mkF m 536 #[.val (.int p1), .val (.int p2), .val (.int p3), .val (.ref b3), .val (.ref b4), .val (.ref b5), .val (.int (15 : Int32)), .val (.int cnt), .val (.int xp)] []) t := fun t k => k
  have kn1 : ∀ t, own_S p e below T0 (mkF m 539 #[.val (.int p1), .val (.int p2), .val (.int p3), .val (.ref b3), .val (.ref b4), .val (.ref b5), .val (.int (15 : Int32)), .val (.int cnt), .val (.int xp)] [(.int (15 : Int32)), (.ref b3)]) t → own_S p e below T0 (mkF m 536 #[.val (.int p1), .val (.int p2), .val (.int p3), .val (.ref b3), .val (.ref b4), .val (.ref b5), .val (.int (15 : Int32)), .val (.int cnt), .val (.int xp)] []) t := fun t kt => kn0 t (by
    show own_S p e below T0 (mkF m 536 #[.val (.int p1), .val (.int p2), .val (.int p3), .val (.ref b3), .val (.ref b4), .val (.ref b5), .val (.int (15 : Int32)), .val (.int cnt), .val (.int xp)] []) _
    refine XS.aloadN X0.here hx rfl (hb hby at_536) rfl rfl ?_
    show own_S p e below T0 (mkF m 537 #[.val (.int p1), .val (.int p2), .val (.int p3), .val (.ref b3), .val (.ref b4), .val (.ref b5), .val (.int (15 : Int32)), .val (.int cnt), .val (.int xp)] [(.ref b3)]) _
    refine XS.iload X0.here hx rfl (hb hby at_537) rfl ?_
    exact kt)
  obtain ⟨cl2, Ar2, q2, Sz2, Ng2, Hs2, Gs2⟩ := id V3
  have hin2 : ¬ ((15 : Int32) < 0 ∨ cl2.slots.size ≤ ((15 : Int32)).toNatClampNeg) := inb_of Sz2 ⟨by decide, by decide⟩
  have hat2 : cl2.slots[((15 : Int32)).toNatClampNeg]? = some (.ref w15) := Hs2.at hin2 rfl
  have kn3 : ∀ t, own_S p e below T0 (mkF m 542 #[.val (.int p1), .val (.int p2), .val (.int p3), .val (.ref b3), .val (.ref b4), .val (.ref b5), .val (.int (15 : Int32)), .val (.int cnt), .val (.int xp)] [(.int cnt), (.ref w15)]) t → own_S p e below T0 (mkF m 536 #[.val (.int p1), .val (.int p2), .val (.int p3), .val (.ref b3), .val (.ref b4), .val (.ref b5), .val (.int (15 : Int32)), .val (.int cnt), .val (.int xp)] []) t := fun t kt => kn1 t (by
    show own_S p e below T0 (mkF m 539 #[.val (.int p1), .val (.int p2), .val (.int p3), .val (.ref b3), .val (.ref b4), .val (.ref b5), .val (.int (15 : Int32)), .val (.int cnt), .val (.int xp)] [(.int (15 : Int32)), (.ref b3)]) _
    refine X0.aaload hx (j := (15 : Int32)) (v := (.ref w15)) (by rw [e0]; exact Ar2.1) (State.isArrayOf_alike hZ.alike Ar2.2.1) rfl Ar2.2.2 hin2 hat2 (g := (mkF m 539 #[.val (.int p1), .val (.int p2), .val (.int p3), .val (.ref b3), .val (.ref b4), .val (.ref b5), .val (.int (15 : Int32)), .val (.int cnt), .val (.int xp)] [(.int (15 : Int32)), (.ref b3)])) rfl rfl (hb hby at_539) _ ?_
    show own_S p e below T0 (mkF m 540 #[.val (.int p1), .val (.int p2), .val (.int p3), .val (.ref b3), .val (.ref b4), .val (.ref b5), .val (.int (15 : Int32)), .val (.int cnt), .val (.int xp)] [(.ref w15)]) _
    refine XS.iload X0.here hx rfl (hb hby at_540) rfl ?_
    exact kt)
  obtain ⟨cq4, kq4, qa4, qb4, qc4⟩ := isOf hZ e0 (E_w15.ext O0.2)
  obtain ⟨_, _, ⟨T4, L4, cc4, ss4⟩, -, X4, ⟨Lc4, hQ4, l4, y4, z4⟩, st4⟩ := X0.virtualBack hx (y := (⟨"com/example/rowan/rowan/xpath/CoreFunction", "takes", "(I)Z"⟩ : MethodName)) (z := (⟨"com/example/rowan/rowan/xpath/CoreFunction", "takes", "(I)Z"⟩ : MethodName)) hown (mvT hZ (hw _ (List.mem_of_getElem? (i := 86) rfl))) (mvT hZ (hw _ (List.mem_of_getElem? (i := 87) rfl))) (notFace_of_selects (args := #[]) (mvT hZ (hw _ (List.mem_of_getElem? (i := 169) rfl)))) (mvT hZ (hw _ (List.mem_of_getElem? (i := 169) rfl))) (mvT hZ (hw _ (List.mem_of_getElem? (i := 88) rfl))) (by decide) (backOf (W := 0) (rm1 l Z a0 hw [] w15 cnt (0 : Int32) (1 : Int32) h0 n0 Z0 (Fa15.ext O0.2) (Fb15.ext O0.2)) hZ (hw _ (List.mem_of_getElem? (i := 90) rfl)) (hw _ (List.mem_of_getElem? (i := 3) rfl)) (by decide) (by decide)) qa4 qc4 (g := (mkF m 542 #[.val (.int p1), .val (.int p2), .val (.int p3), .val (.ref b3), .val (.ref b4), .val (.ref b5), .val (.int (15 : Int32)), .val (.int cnt), .val (.int xp)] [(.int cnt), (.ref w15)])) rfl (by rw [hml]; rfl) (Steps.refl _) (argsL := [(.int cnt)]) (rest := []) (lenOf pd_0 rfl) rfl (by show 2 * 0 + _ ≤ _; exact Nat.le_of_eq rfl) (hb hby at_542) (fun _ _ => ⟨rfl, e0, (by decide : 3 + 0 ≤ _), (by decide : 81 + 0 ≤ _)⟩)
  dsimp only [Pt.U, Pt.locs, Pt.cells, Pt.slots] at X4 l4 y4 z4 st4 hQ4
  subst l4 y4 z4
  have X4 : Stand p l e _ _ m _ below meth c T4 _ 3 81 := X4
  obtain ⟨rfl, Nq4, eq4⟩ := hQ4
  have Nf4 := Fr.app Nf0 Nq4
  have kn5 : ∀ t, own_S p e below T4 (mkF m 545 #[.val (.int p1), .val (.int p2), .val (.int p3), .val (.ref b3), .val (.ref b4), .val (.ref b5), .val (.int (15 : Int32)), .val (.int cnt), .val (.int xp)] [(.int (own_takes (0 : Int32) (1 : Int32) cnt))]) t → own_S p e below T0 (mkF m 536 #[.val (.int p1), .val (.int p2), .val (.int p3), .val (.ref b3), .val (.ref b4), .val (.ref b5), .val (.int (15 : Int32)), .val (.int cnt), .val (.int xp)] []) t := fun t kt => kn3 t (st4.trans kt)
  have kn6 : ∀ t, own_S p e below T4 (mkF m 547 #[.val (.int p1), .val (.int p2), .val (.int p3), .val (.ref b3), .val (.ref b4), .val (.ref b5), .val (.int (15 : Int32)), .val (.int cnt), .val (.int xp)] [(.int xp), (.int (own_takes (0 : Int32) (1 : Int32) cnt))]) t → own_S p e below T0 (mkF m 536 #[.val (.int p1), .val (.int p2), .val (.int p3), .val (.ref b3), .val (.ref b4), .val (.ref b5), .val (.int (15 : Int32)), .val (.int cnt), .val (.int xp)] []) t := fun t kt => kn5 t (by
    show own_S p e below T4 (mkF m 545 #[.val (.int p1), .val (.int p2), .val (.int p3), .val (.ref b3), .val (.ref b4), .val (.ref b5), .val (.int (15 : Int32)), .val (.int cnt), .val (.int xp)] [(.int (own_takes (0 : Int32) (1 : Int32) cnt))]) _
    refine XS.iload X4.here hx rfl (hb hby at_545) rfl ?_
    exact kt)
  have hc547_7 : (own_takes (0 : Int32) (1 : Int32) cnt) = xp := by rw [hxp]; exact own_te _ _ _
  have kn8 : ∀ t, own_S p e below T4 (mkF m 555 #[.val (.int p1), .val (.int p2), .val (.int p3), .val (.ref b3), .val (.ref b4), .val (.ref b5), .val (.int (15 : Int32)), .val (.int cnt), .val (.int xp)] [(.int (1 : Int32))]) t → own_S p e below T0 (mkF m 536 #[.val (.int p1), .val (.int p2), .val (.int p3), .val (.ref b3), .val (.ref b4), .val (.ref b5), .val (.int (15 : Int32)), .val (.int cnt), .val (.int xp)] []) t := fun t kt => kn6 t (by
    show own_S p e below T4 (mkF m 547 #[.val (.int p1), .val (.int p2), .val (.int p3), .val (.ref b3), .val (.ref b4), .val (.ref b5), .val (.int (15 : Int32)), .val (.int cnt), .val (.int xp)] [(.int xp), (.int (own_takes (0 : Int32) (1 : Int32) cnt))]) _
    refine XS.icmpNo X4.here hx rfl (hb hby at_547) rfl (teq hc547_7).2 ?_
    show own_S p e below T4 (mkF m 550 #[.val (.int p1), .val (.int p2), .val (.int p3), .val (.ref b3), .val (.ref b4), .val (.ref b5), .val (.int (15 : Int32)), .val (.int cnt), .val (.int xp)] []) _
    refine XS.iconst X4.here hx rfl (hb hby at_550) ?_
    show own_S p e below T4 (mkF m 551 #[.val (.int p1), .val (.int p2), .val (.int p3), .val (.ref b3), .val (.ref b4), .val (.ref b5), .val (.int (15 : Int32)), .val (.int cnt), .val (.int xp)] [(.int (1 : Int32))]) _
    refine XS.goto X4.here hx rfl (pc0 := 551) (pc' := 555) rfl (hb hby at_551) (by decide) (by decide) ?_
    exact kt)
  obtain ⟨fs, hr, hrun, hended, hW, hsame⟩ := X4.leave (v := some (.int (1 : Int32))) (fun h => by rw [hret] at h; cases h)
  refine ⟨_, _, id (kn8 _ (retN X4 hx (t := .boolean) hret (by simp) (hb hby at_555) hr)), hrun, hended, _, _, rfl, ?_, ⟨_, rfl⟩, hW, hsame.mono (by decide) (by decide)⟩
  show Q0 Z p1 p2 p3 w0 w1 w2 w3 w4 w5 w6 w7 w8 w9 w10 w11 w12 w13 w14 w15 w16 w17 w18 w19 w20 w21 w22 w23 w24 w25 w26 h0 n0 _ T4.heap _
  rw [eq4]
  exact ⟨rfl, Nf4⟩

set_option maxRecDepth 65536 in
set_option maxHeartbeats 40000000 in
theorem tail_16 {p : Program} {l : Launch} {e : Env} {s : State} {m : MethodId} {args : Array Value} {below : List Frame} {meth : Method} {c : Code} {T0 : State} {locs : List Loc} {Z : State} {a0 : Array Value} {h0 : Heap} {n0 : Nat} (p1 : Int32) (p2 : Int32) (p3 : Int32) (w0 : Addr) (w1 : Addr) (w2 : Addr) (w3 : Addr) (w4 : Addr) (w5 : Addr) (w6 : Addr) (w7 : Addr) (w8 : Addr) (w9 : Addr) (w10 : Addr) (w11 : Addr) (w12 : Addr) (w13 : Addr) (w14 : Addr) (w15 : Addr) (w16 : Addr) (w17 : Addr) (w18 : Addr) (w19 : Addr) (w20 : Addr) (w21 : Addr) (w22 : Addr) (w23 : Addr) (w24 : Addr) (w25 : Addr) (w26 : Addr) (b3 : Addr) (b4 : Addr) (b5 : Addr) (k3 : ClassId) (cnt : Int32) (xp : Int32)
    (X0 : Stand p l e room_1 s m args below meth c T0 locs 3 81) (hx : p.tables.exec = Jvm.exec) (hZ : Z.Warmed39 s.vm) (hw : ∀ d ∈ tables_1, d.before a0 Z = true) (hby : c.code = code) (hml : c.maxLocals = 9) (hown : s.vm.findClass "com/example/rowan/rowan/xpath/CoreFunctionTakesPinLaw" = some m.cls) (hret : meth.sig.returnType = some .boolean) (hlk : meth.locks = false) (e0 : T0.heap = h0) (Nf0 : Fr n0 locs) (Z0 : n0 ≤ h0.size) (O0 : Old Z n0 h0) (V3 : Arv Z h0 b3 k3 (.object "com/example/rowan/rowan/xpath/CoreFunction") (27 : Int32) ((.ref w0) :: (.ref w1) :: (.ref w2) :: (.ref w3) :: (.ref w4) :: (.ref w5) :: (.ref w6) :: (.ref w7) :: (.ref w8) :: (.ref w9) :: (.ref w10) :: (.ref w11) :: (.ref w12) :: (.ref w13) :: (.ref w14) :: (.ref w15) :: (.ref w16) :: (.ref w17) :: (.ref w18) :: (.ref w19) :: (.ref w20) :: (.ref w21) :: (.ref w22) :: (.ref w23) :: (.ref w24) :: (.ref w25) :: (.ref w26) :: []) .null) (E_w16 : Exa Z Z.heap w16 "com/example/rowan/rowan/xpath/CoreFunction$17") (Fa16 : Fld Z Z.heap w16 "com/example/rowan/rowan/xpath/CoreFunction" "minimumArguments" "I" (.int (3 : Int32))) (Fb16 : Fld Z Z.heap w16 "com/example/rowan/rowan/xpath/CoreFunction" "maximumArguments" "I" (.int (3 : Int32))) (hxp : xp = own_exp (3 : Int32) (3 : Int32) cnt) :
    ∃ s₂ o, Steps p.tables e below (T0.setTop (mkF m 536 #[.val (.int p1), .val (.int p2), .val (.int p3), .val (.ref b3), .val (.ref b4), .val (.ref b5), .val (.int (16 : Int32)), .val (.int cnt), .val (.int xp)] [])) s₂ ∧ s₂.status = .running ∧ Ended s₂ below o ∧ ∃ v L, o = .returned v ∧ Q0 Z p1 p2 p3 w0 w1 w2 w3 w4 w5 w6 w7 w8 w9 w10 w11 w12 w13 w14 w15 w16 w17 w18 w19 w20 w21 w22 w23 w24 w25 w26 h0 n0 v s₂.heap L ∧ FrameEnd s o s₂ L 16 256 := by
  have kn0 : ∀ t, own_S p e below T0 (mkF m 536 #[.val (.int p1), .val (.int p2), .val (.int p3), .val (.ref b3), .val (.ref b4), .val (.ref b5), .val (.int (16 : Int32)), .val (.int cnt), .val (.int xp)] []) t → own_S p e below T0 (mkF m 536 #[.val (.int p1), .val (.int p2), .val (.int p3), .val (.ref b3), .val (.ref b4), .val (.ref b5), .val (.int (16 : Int32)), .val (.int cnt), .val (.int xp)] []) t := fun t k => k
  have kn1 : ∀ t, own_S p e below T0 (mkF m 539 #[.val (.int p1), .val (.int p2), .val (.int p3), .val (.ref b3), .val (.ref b4), .val (.ref b5), .val (.int (16 : Int32)), .val (.int cnt), .val (.int xp)] [(.int (16 : Int32)), (.ref b3)]) t → own_S p e below T0 (mkF m 536 #[.val (.int p1), .val (.int p2), .val (.int p3), .val (.ref b3), .val (.ref b4), .val (.ref b5), .val (.int (16 : Int32)), .val (.int cnt), .val (.int xp)] []) t := fun t kt => kn0 t (by
    show own_S p e below T0 (mkF m 536 #[.val (.int p1), .val (.int p2), .val (.int p3), .val (.ref b3), .val (.ref b4), .val (.ref b5), .val (.int (16 : Int32)), .val (.int cnt), .val (.int xp)] []) _
    refine XS.aloadN X0.here hx rfl (hb hby at_536) rfl rfl ?_
    show own_S p e below T0 (mkF m 537 #[.val (.int p1), .val (.int p2), .val (.int p3), .val (.ref b3), .val (.ref b4), .val (.ref b5), .val (.int (16 : Int32)), .val (.int cnt), .val (.int xp)] [(.ref b3)]) _
    refine XS.iload X0.here hx rfl (hb hby at_537) rfl ?_
    exact kt)
  obtain ⟨cl2, Ar2, q2, Sz2, Ng2, Hs2, Gs2⟩ := id V3
  have hin2 : ¬ ((16 : Int32) < 0 ∨ cl2.slots.size ≤ ((16 : Int32)).toNatClampNeg) := inb_of Sz2 ⟨by decide, by decide⟩
  have hat2 : cl2.slots[((16 : Int32)).toNatClampNeg]? = some (.ref w16) := Hs2.at hin2 rfl
  have kn3 : ∀ t, own_S p e below T0 (mkF m 542 #[.val (.int p1), .val (.int p2), .val (.int p3), .val (.ref b3), .val (.ref b4), .val (.ref b5), .val (.int (16 : Int32)), .val (.int cnt), .val (.int xp)] [(.int cnt), (.ref w16)]) t → own_S p e below T0 (mkF m 536 #[.val (.int p1), .val (.int p2), .val (.int p3), .val (.ref b3), .val (.ref b4), .val (.ref b5), .val (.int (16 : Int32)), .val (.int cnt), .val (.int xp)] []) t := fun t kt => kn1 t (by
    show own_S p e below T0 (mkF m 539 #[.val (.int p1), .val (.int p2), .val (.int p3), .val (.ref b3), .val (.ref b4), .val (.ref b5), .val (.int (16 : Int32)), .val (.int cnt), .val (.int xp)] [(.int (16 : Int32)), (.ref b3)]) _
    refine X0.aaload hx (j := (16 : Int32)) (v := (.ref w16)) (by rw [e0]; exact Ar2.1) (State.isArrayOf_alike hZ.alike Ar2.2.1) rfl Ar2.2.2 hin2 hat2 (g := (mkF m 539 #[.val (.int p1), .val (.int p2), .val (.int p3), .val (.ref b3), .val (.ref b4), .val (.ref b5), .val (.int (16 : Int32)), .val (.int cnt), .val (.int xp)] [(.int (16 : Int32)), (.ref b3)])) rfl rfl (hb hby at_539) _ ?_
    show own_S p e below T0 (mkF m 540 #[.val (.int p1), .val (.int p2), .val (.int p3), .val (.ref b3), .val (.ref b4), .val (.ref b5), .val (.int (16 : Int32)), .val (.int cnt), .val (.int xp)] [(.ref w16)]) _
    refine XS.iload X0.here hx rfl (hb hby at_540) rfl ?_
    exact kt)
  obtain ⟨cq4, kq4, qa4, qb4, qc4⟩ := isOf hZ e0 (E_w16.ext O0.2)
  obtain ⟨_, _, ⟨T4, L4, cc4, ss4⟩, -, X4, ⟨Lc4, hQ4, l4, y4, z4⟩, st4⟩ := X0.virtualBack hx (y := (⟨"com/example/rowan/rowan/xpath/CoreFunction", "takes", "(I)Z"⟩ : MethodName)) (z := (⟨"com/example/rowan/rowan/xpath/CoreFunction", "takes", "(I)Z"⟩ : MethodName)) hown (mvT hZ (hw _ (List.mem_of_getElem? (i := 86) rfl))) (mvT hZ (hw _ (List.mem_of_getElem? (i := 87) rfl))) (notFace_of_selects (args := #[]) (mvT hZ (hw _ (List.mem_of_getElem? (i := 116) rfl)))) (mvT hZ (hw _ (List.mem_of_getElem? (i := 116) rfl))) (mvT hZ (hw _ (List.mem_of_getElem? (i := 88) rfl))) (by decide) (backOf (W := 0) (rm1 l Z a0 hw [] w16 cnt (3 : Int32) (3 : Int32) h0 n0 Z0 (Fa16.ext O0.2) (Fb16.ext O0.2)) hZ (hw _ (List.mem_of_getElem? (i := 90) rfl)) (hw _ (List.mem_of_getElem? (i := 3) rfl)) (by decide) (by decide)) qa4 qc4 (g := (mkF m 542 #[.val (.int p1), .val (.int p2), .val (.int p3), .val (.ref b3), .val (.ref b4), .val (.ref b5), .val (.int (16 : Int32)), .val (.int cnt), .val (.int xp)] [(.int cnt), (.ref w16)])) rfl (by rw [hml]; rfl) (Steps.refl _) (argsL := [(.int cnt)]) (rest := []) (lenOf pd_0 rfl) rfl (by show 2 * 0 + _ ≤ _; exact Nat.le_of_eq rfl) (hb hby at_542) (fun _ _ => ⟨rfl, e0, (by decide : 3 + 0 ≤ _), (by decide : 81 + 0 ≤ _)⟩)
  dsimp only [Pt.U, Pt.locs, Pt.cells, Pt.slots] at X4 l4 y4 z4 st4 hQ4
  subst l4 y4 z4
  have X4 : Stand p l e _ _ m _ below meth c T4 _ 3 81 := X4
  obtain ⟨rfl, Nq4, eq4⟩ := hQ4
  have Nf4 := Fr.app Nf0 Nq4
  have kn5 : ∀ t, own_S p e below T4 (mkF m 545 #[.val (.int p1), .val (.int p2), .val (.int p3), .val (.ref b3), .val (.ref b4), .val (.ref b5), .val (.int (16 : Int32)), .val (.int cnt), .val (.int xp)] [(.int (own_takes (3 : Int32) (3 : Int32) cnt))]) t → own_S p e below T0 (mkF m 536 #[.val (.int p1), .val (.int p2), .val (.int p3), .val (.ref b3), .val (.ref b4), .val (.ref b5), .val (.int (16 : Int32)), .val (.int cnt), .val (.int xp)] []) t := fun t kt => kn3 t (st4.trans kt)
  have kn6 : ∀ t, own_S p e below T4 (mkF m 547 #[.val (.int p1), .val (.int p2), .val (.int p3), .val (.ref b3), .val (.ref b4), .val (.ref b5), .val (.int (16 : Int32)), .val (.int cnt), .val (.int xp)] [(.int xp), (.int (own_takes (3 : Int32) (3 : Int32) cnt))]) t → own_S p e below T0 (mkF m 536 #[.val (.int p1), .val (.int p2), .val (.int p3), .val (.ref b3), .val (.ref b4), .val (.ref b5), .val (.int (16 : Int32)), .val (.int cnt), .val (.int xp)] []) t := fun t kt => kn5 t (by
    show own_S p e below T4 (mkF m 545 #[.val (.int p1), .val (.int p2), .val (.int p3), .val (.ref b3), .val (.ref b4), .val (.ref b5), .val (.int (16 : Int32)), .val (.int cnt), .val (.int xp)] [(.int (own_takes (3 : Int32) (3 : Int32) cnt))]) _
    refine XS.iload X4.here hx rfl (hb hby at_545) rfl ?_
    exact kt)
  have hc547_7 : (own_takes (3 : Int32) (3 : Int32) cnt) = xp := by rw [hxp]; exact own_te _ _ _
  have kn8 : ∀ t, own_S p e below T4 (mkF m 555 #[.val (.int p1), .val (.int p2), .val (.int p3), .val (.ref b3), .val (.ref b4), .val (.ref b5), .val (.int (16 : Int32)), .val (.int cnt), .val (.int xp)] [(.int (1 : Int32))]) t → own_S p e below T0 (mkF m 536 #[.val (.int p1), .val (.int p2), .val (.int p3), .val (.ref b3), .val (.ref b4), .val (.ref b5), .val (.int (16 : Int32)), .val (.int cnt), .val (.int xp)] []) t := fun t kt => kn6 t (by
    show own_S p e below T4 (mkF m 547 #[.val (.int p1), .val (.int p2), .val (.int p3), .val (.ref b3), .val (.ref b4), .val (.ref b5), .val (.int (16 : Int32)), .val (.int cnt), .val (.int xp)] [(.int xp), (.int (own_takes (3 : Int32) (3 : Int32) cnt))]) _
    refine XS.icmpNo X4.here hx rfl (hb hby at_547) rfl (teq hc547_7).2 ?_
    show own_S p e below T4 (mkF m 550 #[.val (.int p1), .val (.int p2), .val (.int p3), .val (.ref b3), .val (.ref b4), .val (.ref b5), .val (.int (16 : Int32)), .val (.int cnt), .val (.int xp)] []) _
    refine XS.iconst X4.here hx rfl (hb hby at_550) ?_
    show own_S p e below T4 (mkF m 551 #[.val (.int p1), .val (.int p2), .val (.int p3), .val (.ref b3), .val (.ref b4), .val (.ref b5), .val (.int (16 : Int32)), .val (.int cnt), .val (.int xp)] [(.int (1 : Int32))]) _
    refine XS.goto X4.here hx rfl (pc0 := 551) (pc' := 555) rfl (hb hby at_551) (by decide) (by decide) ?_
    exact kt)
  obtain ⟨fs, hr, hrun, hended, hW, hsame⟩ := X4.leave (v := some (.int (1 : Int32))) (fun h => by rw [hret] at h; cases h)
  refine ⟨_, _, id (kn8 _ (retN X4 hx (t := .boolean) hret (by simp) (hb hby at_555) hr)), hrun, hended, _, _, rfl, ?_, ⟨_, rfl⟩, hW, hsame.mono (by decide) (by decide)⟩
  show Q0 Z p1 p2 p3 w0 w1 w2 w3 w4 w5 w6 w7 w8 w9 w10 w11 w12 w13 w14 w15 w16 w17 w18 w19 w20 w21 w22 w23 w24 w25 w26 h0 n0 _ T4.heap _
  rw [eq4]
  exact ⟨rfl, Nf4⟩

set_option maxRecDepth 65536 in
set_option maxHeartbeats 40000000 in
theorem tail_17 {p : Program} {l : Launch} {e : Env} {s : State} {m : MethodId} {args : Array Value} {below : List Frame} {meth : Method} {c : Code} {T0 : State} {locs : List Loc} {Z : State} {a0 : Array Value} {h0 : Heap} {n0 : Nat} (p1 : Int32) (p2 : Int32) (p3 : Int32) (w0 : Addr) (w1 : Addr) (w2 : Addr) (w3 : Addr) (w4 : Addr) (w5 : Addr) (w6 : Addr) (w7 : Addr) (w8 : Addr) (w9 : Addr) (w10 : Addr) (w11 : Addr) (w12 : Addr) (w13 : Addr) (w14 : Addr) (w15 : Addr) (w16 : Addr) (w17 : Addr) (w18 : Addr) (w19 : Addr) (w20 : Addr) (w21 : Addr) (w22 : Addr) (w23 : Addr) (w24 : Addr) (w25 : Addr) (w26 : Addr) (b3 : Addr) (b4 : Addr) (b5 : Addr) (k3 : ClassId) (cnt : Int32) (xp : Int32)
    (X0 : Stand p l e room_1 s m args below meth c T0 locs 3 81) (hx : p.tables.exec = Jvm.exec) (hZ : Z.Warmed39 s.vm) (hw : ∀ d ∈ tables_1, d.before a0 Z = true) (hby : c.code = code) (hml : c.maxLocals = 9) (hown : s.vm.findClass "com/example/rowan/rowan/xpath/CoreFunctionTakesPinLaw" = some m.cls) (hret : meth.sig.returnType = some .boolean) (hlk : meth.locks = false) (e0 : T0.heap = h0) (Nf0 : Fr n0 locs) (Z0 : n0 ≤ h0.size) (O0 : Old Z n0 h0) (V3 : Arv Z h0 b3 k3 (.object "com/example/rowan/rowan/xpath/CoreFunction") (27 : Int32) ((.ref w0) :: (.ref w1) :: (.ref w2) :: (.ref w3) :: (.ref w4) :: (.ref w5) :: (.ref w6) :: (.ref w7) :: (.ref w8) :: (.ref w9) :: (.ref w10) :: (.ref w11) :: (.ref w12) :: (.ref w13) :: (.ref w14) :: (.ref w15) :: (.ref w16) :: (.ref w17) :: (.ref w18) :: (.ref w19) :: (.ref w20) :: (.ref w21) :: (.ref w22) :: (.ref w23) :: (.ref w24) :: (.ref w25) :: (.ref w26) :: []) .null) (E_w17 : Exa Z Z.heap w17 "com/example/rowan/rowan/xpath/CoreFunction$18") (Fa17 : Fld Z Z.heap w17 "com/example/rowan/rowan/xpath/CoreFunction" "minimumArguments" "I" (.int (1 : Int32))) (Fb17 : Fld Z Z.heap w17 "com/example/rowan/rowan/xpath/CoreFunction" "maximumArguments" "I" (.int (1 : Int32))) (hxp : xp = own_exp (1 : Int32) (1 : Int32) cnt) :
    ∃ s₂ o, Steps p.tables e below (T0.setTop (mkF m 536 #[.val (.int p1), .val (.int p2), .val (.int p3), .val (.ref b3), .val (.ref b4), .val (.ref b5), .val (.int (17 : Int32)), .val (.int cnt), .val (.int xp)] [])) s₂ ∧ s₂.status = .running ∧ Ended s₂ below o ∧ ∃ v L, o = .returned v ∧ Q0 Z p1 p2 p3 w0 w1 w2 w3 w4 w5 w6 w7 w8 w9 w10 w11 w12 w13 w14 w15 w16 w17 w18 w19 w20 w21 w22 w23 w24 w25 w26 h0 n0 v s₂.heap L ∧ FrameEnd s o s₂ L 16 256 := by
  have kn0 : ∀ t, own_S p e below T0 (mkF m 536 #[.val (.int p1), .val (.int p2), .val (.int p3), .val (.ref b3), .val (.ref b4), .val (.ref b5), .val (.int (17 : Int32)), .val (.int cnt), .val (.int xp)] []) t → own_S p e below T0 (mkF m 536 #[.val (.int p1), .val (.int p2), .val (.int p3), .val (.ref b3), .val (.ref b4), .val (.ref b5), .val (.int (17 : Int32)), .val (.int cnt), .val (.int xp)] []) t := fun t k => k
  have kn1 : ∀ t, own_S p e below T0 (mkF m 539 #[.val (.int p1), .val (.int p2), .val (.int p3), .val (.ref b3), .val (.ref b4), .val (.ref b5), .val (.int (17 : Int32)), .val (.int cnt), .val (.int xp)] [(.int (17 : Int32)), (.ref b3)]) t → own_S p e below T0 (mkF m 536 #[.val (.int p1), .val (.int p2), .val (.int p3), .val (.ref b3), .val (.ref b4), .val (.ref b5), .val (.int (17 : Int32)), .val (.int cnt), .val (.int xp)] []) t := fun t kt => kn0 t (by
    show own_S p e below T0 (mkF m 536 #[.val (.int p1), .val (.int p2), .val (.int p3), .val (.ref b3), .val (.ref b4), .val (.ref b5), .val (.int (17 : Int32)), .val (.int cnt), .val (.int xp)] []) _
    refine XS.aloadN X0.here hx rfl (hb hby at_536) rfl rfl ?_
    show own_S p e below T0 (mkF m 537 #[.val (.int p1), .val (.int p2), .val (.int p3), .val (.ref b3), .val (.ref b4), .val (.ref b5), .val (.int (17 : Int32)), .val (.int cnt), .val (.int xp)] [(.ref b3)]) _
    refine XS.iload X0.here hx rfl (hb hby at_537) rfl ?_
    exact kt)
  obtain ⟨cl2, Ar2, q2, Sz2, Ng2, Hs2, Gs2⟩ := id V3
  have hin2 : ¬ ((17 : Int32) < 0 ∨ cl2.slots.size ≤ ((17 : Int32)).toNatClampNeg) := inb_of Sz2 ⟨by decide, by decide⟩
  have hat2 : cl2.slots[((17 : Int32)).toNatClampNeg]? = some (.ref w17) := Hs2.at hin2 rfl
  have kn3 : ∀ t, own_S p e below T0 (mkF m 542 #[.val (.int p1), .val (.int p2), .val (.int p3), .val (.ref b3), .val (.ref b4), .val (.ref b5), .val (.int (17 : Int32)), .val (.int cnt), .val (.int xp)] [(.int cnt), (.ref w17)]) t → own_S p e below T0 (mkF m 536 #[.val (.int p1), .val (.int p2), .val (.int p3), .val (.ref b3), .val (.ref b4), .val (.ref b5), .val (.int (17 : Int32)), .val (.int cnt), .val (.int xp)] []) t := fun t kt => kn1 t (by
    show own_S p e below T0 (mkF m 539 #[.val (.int p1), .val (.int p2), .val (.int p3), .val (.ref b3), .val (.ref b4), .val (.ref b5), .val (.int (17 : Int32)), .val (.int cnt), .val (.int xp)] [(.int (17 : Int32)), (.ref b3)]) _
    refine X0.aaload hx (j := (17 : Int32)) (v := (.ref w17)) (by rw [e0]; exact Ar2.1) (State.isArrayOf_alike hZ.alike Ar2.2.1) rfl Ar2.2.2 hin2 hat2 (g := (mkF m 539 #[.val (.int p1), .val (.int p2), .val (.int p3), .val (.ref b3), .val (.ref b4), .val (.ref b5), .val (.int (17 : Int32)), .val (.int cnt), .val (.int xp)] [(.int (17 : Int32)), (.ref b3)])) rfl rfl (hb hby at_539) _ ?_
    show own_S p e below T0 (mkF m 540 #[.val (.int p1), .val (.int p2), .val (.int p3), .val (.ref b3), .val (.ref b4), .val (.ref b5), .val (.int (17 : Int32)), .val (.int cnt), .val (.int xp)] [(.ref w17)]) _
    refine XS.iload X0.here hx rfl (hb hby at_540) rfl ?_
    exact kt)
  obtain ⟨cq4, kq4, qa4, qb4, qc4⟩ := isOf hZ e0 (E_w17.ext O0.2)
  obtain ⟨_, _, ⟨T4, L4, cc4, ss4⟩, -, X4, ⟨Lc4, hQ4, l4, y4, z4⟩, st4⟩ := X0.virtualBack hx (y := (⟨"com/example/rowan/rowan/xpath/CoreFunction", "takes", "(I)Z"⟩ : MethodName)) (z := (⟨"com/example/rowan/rowan/xpath/CoreFunction", "takes", "(I)Z"⟩ : MethodName)) hown (mvT hZ (hw _ (List.mem_of_getElem? (i := 86) rfl))) (mvT hZ (hw _ (List.mem_of_getElem? (i := 87) rfl))) (notFace_of_selects (args := #[]) (mvT hZ (hw _ (List.mem_of_getElem? (i := 119) rfl)))) (mvT hZ (hw _ (List.mem_of_getElem? (i := 119) rfl))) (mvT hZ (hw _ (List.mem_of_getElem? (i := 88) rfl))) (by decide) (backOf (W := 0) (rm1 l Z a0 hw [] w17 cnt (1 : Int32) (1 : Int32) h0 n0 Z0 (Fa17.ext O0.2) (Fb17.ext O0.2)) hZ (hw _ (List.mem_of_getElem? (i := 90) rfl)) (hw _ (List.mem_of_getElem? (i := 3) rfl)) (by decide) (by decide)) qa4 qc4 (g := (mkF m 542 #[.val (.int p1), .val (.int p2), .val (.int p3), .val (.ref b3), .val (.ref b4), .val (.ref b5), .val (.int (17 : Int32)), .val (.int cnt), .val (.int xp)] [(.int cnt), (.ref w17)])) rfl (by rw [hml]; rfl) (Steps.refl _) (argsL := [(.int cnt)]) (rest := []) (lenOf pd_0 rfl) rfl (by show 2 * 0 + _ ≤ _; exact Nat.le_of_eq rfl) (hb hby at_542) (fun _ _ => ⟨rfl, e0, (by decide : 3 + 0 ≤ _), (by decide : 81 + 0 ≤ _)⟩)
  dsimp only [Pt.U, Pt.locs, Pt.cells, Pt.slots] at X4 l4 y4 z4 st4 hQ4
  subst l4 y4 z4
  have X4 : Stand p l e _ _ m _ below meth c T4 _ 3 81 := X4
  obtain ⟨rfl, Nq4, eq4⟩ := hQ4
  have Nf4 := Fr.app Nf0 Nq4
  have kn5 : ∀ t, own_S p e below T4 (mkF m 545 #[.val (.int p1), .val (.int p2), .val (.int p3), .val (.ref b3), .val (.ref b4), .val (.ref b5), .val (.int (17 : Int32)), .val (.int cnt), .val (.int xp)] [(.int (own_takes (1 : Int32) (1 : Int32) cnt))]) t → own_S p e below T0 (mkF m 536 #[.val (.int p1), .val (.int p2), .val (.int p3), .val (.ref b3), .val (.ref b4), .val (.ref b5), .val (.int (17 : Int32)), .val (.int cnt), .val (.int xp)] []) t := fun t kt => kn3 t (st4.trans kt)
  have kn6 : ∀ t, own_S p e below T4 (mkF m 547 #[.val (.int p1), .val (.int p2), .val (.int p3), .val (.ref b3), .val (.ref b4), .val (.ref b5), .val (.int (17 : Int32)), .val (.int cnt), .val (.int xp)] [(.int xp), (.int (own_takes (1 : Int32) (1 : Int32) cnt))]) t → own_S p e below T0 (mkF m 536 #[.val (.int p1), .val (.int p2), .val (.int p3), .val (.ref b3), .val (.ref b4), .val (.ref b5), .val (.int (17 : Int32)), .val (.int cnt), .val (.int xp)] []) t := fun t kt => kn5 t (by
    show own_S p e below T4 (mkF m 545 #[.val (.int p1), .val (.int p2), .val (.int p3), .val (.ref b3), .val (.ref b4), .val (.ref b5), .val (.int (17 : Int32)), .val (.int cnt), .val (.int xp)] [(.int (own_takes (1 : Int32) (1 : Int32) cnt))]) _
    refine XS.iload X4.here hx rfl (hb hby at_545) rfl ?_
    exact kt)
  have hc547_7 : (own_takes (1 : Int32) (1 : Int32) cnt) = xp := by rw [hxp]; exact own_te _ _ _
  have kn8 : ∀ t, own_S p e below T4 (mkF m 555 #[.val (.int p1), .val (.int p2), .val (.int p3), .val (.ref b3), .val (.ref b4), .val (.ref b5), .val (.int (17 : Int32)), .val (.int cnt), .val (.int xp)] [(.int (1 : Int32))]) t → own_S p e below T0 (mkF m 536 #[.val (.int p1), .val (.int p2), .val (.int p3), .val (.ref b3), .val (.ref b4), .val (.ref b5), .val (.int (17 : Int32)), .val (.int cnt), .val (.int xp)] []) t := fun t kt => kn6 t (by
    show own_S p e below T4 (mkF m 547 #[.val (.int p1), .val (.int p2), .val (.int p3), .val (.ref b3), .val (.ref b4), .val (.ref b5), .val (.int (17 : Int32)), .val (.int cnt), .val (.int xp)] [(.int xp), (.int (own_takes (1 : Int32) (1 : Int32) cnt))]) _
    refine XS.icmpNo X4.here hx rfl (hb hby at_547) rfl (teq hc547_7).2 ?_
    show own_S p e below T4 (mkF m 550 #[.val (.int p1), .val (.int p2), .val (.int p3), .val (.ref b3), .val (.ref b4), .val (.ref b5), .val (.int (17 : Int32)), .val (.int cnt), .val (.int xp)] []) _
    refine XS.iconst X4.here hx rfl (hb hby at_550) ?_
    show own_S p e below T4 (mkF m 551 #[.val (.int p1), .val (.int p2), .val (.int p3), .val (.ref b3), .val (.ref b4), .val (.ref b5), .val (.int (17 : Int32)), .val (.int cnt), .val (.int xp)] [(.int (1 : Int32))]) _
    refine XS.goto X4.here hx rfl (pc0 := 551) (pc' := 555) rfl (hb hby at_551) (by decide) (by decide) ?_
    exact kt)
  obtain ⟨fs, hr, hrun, hended, hW, hsame⟩ := X4.leave (v := some (.int (1 : Int32))) (fun h => by rw [hret] at h; cases h)
  refine ⟨_, _, id (kn8 _ (retN X4 hx (t := .boolean) hret (by simp) (hb hby at_555) hr)), hrun, hended, _, _, rfl, ?_, ⟨_, rfl⟩, hW, hsame.mono (by decide) (by decide)⟩
  show Q0 Z p1 p2 p3 w0 w1 w2 w3 w4 w5 w6 w7 w8 w9 w10 w11 w12 w13 w14 w15 w16 w17 w18 w19 w20 w21 w22 w23 w24 w25 w26 h0 n0 _ T4.heap _
  rw [eq4]
  exact ⟨rfl, Nf4⟩

set_option maxRecDepth 65536 in
set_option maxHeartbeats 40000000 in
theorem tail_18 {p : Program} {l : Launch} {e : Env} {s : State} {m : MethodId} {args : Array Value} {below : List Frame} {meth : Method} {c : Code} {T0 : State} {locs : List Loc} {Z : State} {a0 : Array Value} {h0 : Heap} {n0 : Nat} (p1 : Int32) (p2 : Int32) (p3 : Int32) (w0 : Addr) (w1 : Addr) (w2 : Addr) (w3 : Addr) (w4 : Addr) (w5 : Addr) (w6 : Addr) (w7 : Addr) (w8 : Addr) (w9 : Addr) (w10 : Addr) (w11 : Addr) (w12 : Addr) (w13 : Addr) (w14 : Addr) (w15 : Addr) (w16 : Addr) (w17 : Addr) (w18 : Addr) (w19 : Addr) (w20 : Addr) (w21 : Addr) (w22 : Addr) (w23 : Addr) (w24 : Addr) (w25 : Addr) (w26 : Addr) (b3 : Addr) (b4 : Addr) (b5 : Addr) (k3 : ClassId) (cnt : Int32) (xp : Int32)
    (X0 : Stand p l e room_1 s m args below meth c T0 locs 3 81) (hx : p.tables.exec = Jvm.exec) (hZ : Z.Warmed39 s.vm) (hw : ∀ d ∈ tables_1, d.before a0 Z = true) (hby : c.code = code) (hml : c.maxLocals = 9) (hown : s.vm.findClass "com/example/rowan/rowan/xpath/CoreFunctionTakesPinLaw" = some m.cls) (hret : meth.sig.returnType = some .boolean) (hlk : meth.locks = false) (e0 : T0.heap = h0) (Nf0 : Fr n0 locs) (Z0 : n0 ≤ h0.size) (O0 : Old Z n0 h0) (V3 : Arv Z h0 b3 k3 (.object "com/example/rowan/rowan/xpath/CoreFunction") (27 : Int32) ((.ref w0) :: (.ref w1) :: (.ref w2) :: (.ref w3) :: (.ref w4) :: (.ref w5) :: (.ref w6) :: (.ref w7) :: (.ref w8) :: (.ref w9) :: (.ref w10) :: (.ref w11) :: (.ref w12) :: (.ref w13) :: (.ref w14) :: (.ref w15) :: (.ref w16) :: (.ref w17) :: (.ref w18) :: (.ref w19) :: (.ref w20) :: (.ref w21) :: (.ref w22) :: (.ref w23) :: (.ref w24) :: (.ref w25) :: (.ref w26) :: []) .null) (E_w18 : Exa Z Z.heap w18 "com/example/rowan/rowan/xpath/CoreFunction$19") (Fa18 : Fld Z Z.heap w18 "com/example/rowan/rowan/xpath/CoreFunction" "minimumArguments" "I" (.int (1 : Int32))) (Fb18 : Fld Z Z.heap w18 "com/example/rowan/rowan/xpath/CoreFunction" "maximumArguments" "I" (.int (1 : Int32))) (hxp : xp = own_exp (1 : Int32) (1 : Int32) cnt) :
    ∃ s₂ o, Steps p.tables e below (T0.setTop (mkF m 536 #[.val (.int p1), .val (.int p2), .val (.int p3), .val (.ref b3), .val (.ref b4), .val (.ref b5), .val (.int (18 : Int32)), .val (.int cnt), .val (.int xp)] [])) s₂ ∧ s₂.status = .running ∧ Ended s₂ below o ∧ ∃ v L, o = .returned v ∧ Q0 Z p1 p2 p3 w0 w1 w2 w3 w4 w5 w6 w7 w8 w9 w10 w11 w12 w13 w14 w15 w16 w17 w18 w19 w20 w21 w22 w23 w24 w25 w26 h0 n0 v s₂.heap L ∧ FrameEnd s o s₂ L 16 256 := by
  have kn0 : ∀ t, own_S p e below T0 (mkF m 536 #[.val (.int p1), .val (.int p2), .val (.int p3), .val (.ref b3), .val (.ref b4), .val (.ref b5), .val (.int (18 : Int32)), .val (.int cnt), .val (.int xp)] []) t → own_S p e below T0 (mkF m 536 #[.val (.int p1), .val (.int p2), .val (.int p3), .val (.ref b3), .val (.ref b4), .val (.ref b5), .val (.int (18 : Int32)), .val (.int cnt), .val (.int xp)] []) t := fun t k => k
  have kn1 : ∀ t, own_S p e below T0 (mkF m 539 #[.val (.int p1), .val (.int p2), .val (.int p3), .val (.ref b3), .val (.ref b4), .val (.ref b5), .val (.int (18 : Int32)), .val (.int cnt), .val (.int xp)] [(.int (18 : Int32)), (.ref b3)]) t → own_S p e below T0 (mkF m 536 #[.val (.int p1), .val (.int p2), .val (.int p3), .val (.ref b3), .val (.ref b4), .val (.ref b5), .val (.int (18 : Int32)), .val (.int cnt), .val (.int xp)] []) t := fun t kt => kn0 t (by
    show own_S p e below T0 (mkF m 536 #[.val (.int p1), .val (.int p2), .val (.int p3), .val (.ref b3), .val (.ref b4), .val (.ref b5), .val (.int (18 : Int32)), .val (.int cnt), .val (.int xp)] []) _
    refine XS.aloadN X0.here hx rfl (hb hby at_536) rfl rfl ?_
    show own_S p e below T0 (mkF m 537 #[.val (.int p1), .val (.int p2), .val (.int p3), .val (.ref b3), .val (.ref b4), .val (.ref b5), .val (.int (18 : Int32)), .val (.int cnt), .val (.int xp)] [(.ref b3)]) _
    refine XS.iload X0.here hx rfl (hb hby at_537) rfl ?_
    exact kt)
  obtain ⟨cl2, Ar2, q2, Sz2, Ng2, Hs2, Gs2⟩ := id V3
  have hin2 : ¬ ((18 : Int32) < 0 ∨ cl2.slots.size ≤ ((18 : Int32)).toNatClampNeg) := inb_of Sz2 ⟨by decide, by decide⟩
  have hat2 : cl2.slots[((18 : Int32)).toNatClampNeg]? = some (.ref w18) := Hs2.at hin2 rfl
  have kn3 : ∀ t, own_S p e below T0 (mkF m 542 #[.val (.int p1), .val (.int p2), .val (.int p3), .val (.ref b3), .val (.ref b4), .val (.ref b5), .val (.int (18 : Int32)), .val (.int cnt), .val (.int xp)] [(.int cnt), (.ref w18)]) t → own_S p e below T0 (mkF m 536 #[.val (.int p1), .val (.int p2), .val (.int p3), .val (.ref b3), .val (.ref b4), .val (.ref b5), .val (.int (18 : Int32)), .val (.int cnt), .val (.int xp)] []) t := fun t kt => kn1 t (by
    show own_S p e below T0 (mkF m 539 #[.val (.int p1), .val (.int p2), .val (.int p3), .val (.ref b3), .val (.ref b4), .val (.ref b5), .val (.int (18 : Int32)), .val (.int cnt), .val (.int xp)] [(.int (18 : Int32)), (.ref b3)]) _
    refine X0.aaload hx (j := (18 : Int32)) (v := (.ref w18)) (by rw [e0]; exact Ar2.1) (State.isArrayOf_alike hZ.alike Ar2.2.1) rfl Ar2.2.2 hin2 hat2 (g := (mkF m 539 #[.val (.int p1), .val (.int p2), .val (.int p3), .val (.ref b3), .val (.ref b4), .val (.ref b5), .val (.int (18 : Int32)), .val (.int cnt), .val (.int xp)] [(.int (18 : Int32)), (.ref b3)])) rfl rfl (hb hby at_539) _ ?_
    show own_S p e below T0 (mkF m 540 #[.val (.int p1), .val (.int p2), .val (.int p3), .val (.ref b3), .val (.ref b4), .val (.ref b5), .val (.int (18 : Int32)), .val (.int cnt), .val (.int xp)] [(.ref w18)]) _
    refine XS.iload X0.here hx rfl (hb hby at_540) rfl ?_
    exact kt)
  obtain ⟨cq4, kq4, qa4, qb4, qc4⟩ := isOf hZ e0 (E_w18.ext O0.2)
  obtain ⟨_, _, ⟨T4, L4, cc4, ss4⟩, -, X4, ⟨Lc4, hQ4, l4, y4, z4⟩, st4⟩ := X0.virtualBack hx (y := (⟨"com/example/rowan/rowan/xpath/CoreFunction", "takes", "(I)Z"⟩ : MethodName)) (z := (⟨"com/example/rowan/rowan/xpath/CoreFunction", "takes", "(I)Z"⟩ : MethodName)) hown (mvT hZ (hw _ (List.mem_of_getElem? (i := 86) rfl))) (mvT hZ (hw _ (List.mem_of_getElem? (i := 87) rfl))) (notFace_of_selects (args := #[]) (mvT hZ (hw _ (List.mem_of_getElem? (i := 132) rfl)))) (mvT hZ (hw _ (List.mem_of_getElem? (i := 132) rfl))) (mvT hZ (hw _ (List.mem_of_getElem? (i := 88) rfl))) (by decide) (backOf (W := 0) (rm1 l Z a0 hw [] w18 cnt (1 : Int32) (1 : Int32) h0 n0 Z0 (Fa18.ext O0.2) (Fb18.ext O0.2)) hZ (hw _ (List.mem_of_getElem? (i := 90) rfl)) (hw _ (List.mem_of_getElem? (i := 3) rfl)) (by decide) (by decide)) qa4 qc4 (g := (mkF m 542 #[.val (.int p1), .val (.int p2), .val (.int p3), .val (.ref b3), .val (.ref b4), .val (.ref b5), .val (.int (18 : Int32)), .val (.int cnt), .val (.int xp)] [(.int cnt), (.ref w18)])) rfl (by rw [hml]; rfl) (Steps.refl _) (argsL := [(.int cnt)]) (rest := []) (lenOf pd_0 rfl) rfl (by show 2 * 0 + _ ≤ _; exact Nat.le_of_eq rfl) (hb hby at_542) (fun _ _ => ⟨rfl, e0, (by decide : 3 + 0 ≤ _), (by decide : 81 + 0 ≤ _)⟩)
  dsimp only [Pt.U, Pt.locs, Pt.cells, Pt.slots] at X4 l4 y4 z4 st4 hQ4
  subst l4 y4 z4
  have X4 : Stand p l e _ _ m _ below meth c T4 _ 3 81 := X4
  obtain ⟨rfl, Nq4, eq4⟩ := hQ4
  have Nf4 := Fr.app Nf0 Nq4
  have kn5 : ∀ t, own_S p e below T4 (mkF m 545 #[.val (.int p1), .val (.int p2), .val (.int p3), .val (.ref b3), .val (.ref b4), .val (.ref b5), .val (.int (18 : Int32)), .val (.int cnt), .val (.int xp)] [(.int (own_takes (1 : Int32) (1 : Int32) cnt))]) t → own_S p e below T0 (mkF m 536 #[.val (.int p1), .val (.int p2), .val (.int p3), .val (.ref b3), .val (.ref b4), .val (.ref b5), .val (.int (18 : Int32)), .val (.int cnt), .val (.int xp)] []) t := fun t kt => kn3 t (st4.trans kt)
  have kn6 : ∀ t, own_S p e below T4 (mkF m 547 #[.val (.int p1), .val (.int p2), .val (.int p3), .val (.ref b3), .val (.ref b4), .val (.ref b5), .val (.int (18 : Int32)), .val (.int cnt), .val (.int xp)] [(.int xp), (.int (own_takes (1 : Int32) (1 : Int32) cnt))]) t → own_S p e below T0 (mkF m 536 #[.val (.int p1), .val (.int p2), .val (.int p3), .val (.ref b3), .val (.ref b4), .val (.ref b5), .val (.int (18 : Int32)), .val (.int cnt), .val (.int xp)] []) t := fun t kt => kn5 t (by
    show own_S p e below T4 (mkF m 545 #[.val (.int p1), .val (.int p2), .val (.int p3), .val (.ref b3), .val (.ref b4), .val (.ref b5), .val (.int (18 : Int32)), .val (.int cnt), .val (.int xp)] [(.int (own_takes (1 : Int32) (1 : Int32) cnt))]) _
    refine XS.iload X4.here hx rfl (hb hby at_545) rfl ?_
    exact kt)
  have hc547_7 : (own_takes (1 : Int32) (1 : Int32) cnt) = xp := by rw [hxp]; exact own_te _ _ _
  have kn8 : ∀ t, own_S p e below T4 (mkF m 555 #[.val (.int p1), .val (.int p2), .val (.int p3), .val (.ref b3), .val (.ref b4), .val (.ref b5), .val (.int (18 : Int32)), .val (.int cnt), .val (.int xp)] [(.int (1 : Int32))]) t → own_S p e below T0 (mkF m 536 #[.val (.int p1), .val (.int p2), .val (.int p3), .val (.ref b3), .val (.ref b4), .val (.ref b5), .val (.int (18 : Int32)), .val (.int cnt), .val (.int xp)] []) t := fun t kt => kn6 t (by
    show own_S p e below T4 (mkF m 547 #[.val (.int p1), .val (.int p2), .val (.int p3), .val (.ref b3), .val (.ref b4), .val (.ref b5), .val (.int (18 : Int32)), .val (.int cnt), .val (.int xp)] [(.int xp), (.int (own_takes (1 : Int32) (1 : Int32) cnt))]) _
    refine XS.icmpNo X4.here hx rfl (hb hby at_547) rfl (teq hc547_7).2 ?_
    show own_S p e below T4 (mkF m 550 #[.val (.int p1), .val (.int p2), .val (.int p3), .val (.ref b3), .val (.ref b4), .val (.ref b5), .val (.int (18 : Int32)), .val (.int cnt), .val (.int xp)] []) _
    refine XS.iconst X4.here hx rfl (hb hby at_550) ?_
    show own_S p e below T4 (mkF m 551 #[.val (.int p1), .val (.int p2), .val (.int p3), .val (.ref b3), .val (.ref b4), .val (.ref b5), .val (.int (18 : Int32)), .val (.int cnt), .val (.int xp)] [(.int (1 : Int32))]) _
    refine XS.goto X4.here hx rfl (pc0 := 551) (pc' := 555) rfl (hb hby at_551) (by decide) (by decide) ?_
    exact kt)
  obtain ⟨fs, hr, hrun, hended, hW, hsame⟩ := X4.leave (v := some (.int (1 : Int32))) (fun h => by rw [hret] at h; cases h)
  refine ⟨_, _, id (kn8 _ (retN X4 hx (t := .boolean) hret (by simp) (hb hby at_555) hr)), hrun, hended, _, _, rfl, ?_, ⟨_, rfl⟩, hW, hsame.mono (by decide) (by decide)⟩
  show Q0 Z p1 p2 p3 w0 w1 w2 w3 w4 w5 w6 w7 w8 w9 w10 w11 w12 w13 w14 w15 w16 w17 w18 w19 w20 w21 w22 w23 w24 w25 w26 h0 n0 _ T4.heap _
  rw [eq4]
  exact ⟨rfl, Nf4⟩

set_option maxRecDepth 65536 in
set_option maxHeartbeats 40000000 in
theorem tail_19 {p : Program} {l : Launch} {e : Env} {s : State} {m : MethodId} {args : Array Value} {below : List Frame} {meth : Method} {c : Code} {T0 : State} {locs : List Loc} {Z : State} {a0 : Array Value} {h0 : Heap} {n0 : Nat} (p1 : Int32) (p2 : Int32) (p3 : Int32) (w0 : Addr) (w1 : Addr) (w2 : Addr) (w3 : Addr) (w4 : Addr) (w5 : Addr) (w6 : Addr) (w7 : Addr) (w8 : Addr) (w9 : Addr) (w10 : Addr) (w11 : Addr) (w12 : Addr) (w13 : Addr) (w14 : Addr) (w15 : Addr) (w16 : Addr) (w17 : Addr) (w18 : Addr) (w19 : Addr) (w20 : Addr) (w21 : Addr) (w22 : Addr) (w23 : Addr) (w24 : Addr) (w25 : Addr) (w26 : Addr) (b3 : Addr) (b4 : Addr) (b5 : Addr) (k3 : ClassId) (cnt : Int32) (xp : Int32)
    (X0 : Stand p l e room_1 s m args below meth c T0 locs 3 81) (hx : p.tables.exec = Jvm.exec) (hZ : Z.Warmed39 s.vm) (hw : ∀ d ∈ tables_1, d.before a0 Z = true) (hby : c.code = code) (hml : c.maxLocals = 9) (hown : s.vm.findClass "com/example/rowan/rowan/xpath/CoreFunctionTakesPinLaw" = some m.cls) (hret : meth.sig.returnType = some .boolean) (hlk : meth.locks = false) (e0 : T0.heap = h0) (Nf0 : Fr n0 locs) (Z0 : n0 ≤ h0.size) (O0 : Old Z n0 h0) (V3 : Arv Z h0 b3 k3 (.object "com/example/rowan/rowan/xpath/CoreFunction") (27 : Int32) ((.ref w0) :: (.ref w1) :: (.ref w2) :: (.ref w3) :: (.ref w4) :: (.ref w5) :: (.ref w6) :: (.ref w7) :: (.ref w8) :: (.ref w9) :: (.ref w10) :: (.ref w11) :: (.ref w12) :: (.ref w13) :: (.ref w14) :: (.ref w15) :: (.ref w16) :: (.ref w17) :: (.ref w18) :: (.ref w19) :: (.ref w20) :: (.ref w21) :: (.ref w22) :: (.ref w23) :: (.ref w24) :: (.ref w25) :: (.ref w26) :: []) .null) (E_w19 : Exa Z Z.heap w19 "com/example/rowan/rowan/xpath/CoreFunction$20") (Fa19 : Fld Z Z.heap w19 "com/example/rowan/rowan/xpath/CoreFunction" "minimumArguments" "I" (.int (0 : Int32))) (Fb19 : Fld Z Z.heap w19 "com/example/rowan/rowan/xpath/CoreFunction" "maximumArguments" "I" (.int (0 : Int32))) (hxp : xp = own_exp (0 : Int32) (0 : Int32) cnt) :
    ∃ s₂ o, Steps p.tables e below (T0.setTop (mkF m 536 #[.val (.int p1), .val (.int p2), .val (.int p3), .val (.ref b3), .val (.ref b4), .val (.ref b5), .val (.int (19 : Int32)), .val (.int cnt), .val (.int xp)] [])) s₂ ∧ s₂.status = .running ∧ Ended s₂ below o ∧ ∃ v L, o = .returned v ∧ Q0 Z p1 p2 p3 w0 w1 w2 w3 w4 w5 w6 w7 w8 w9 w10 w11 w12 w13 w14 w15 w16 w17 w18 w19 w20 w21 w22 w23 w24 w25 w26 h0 n0 v s₂.heap L ∧ FrameEnd s o s₂ L 16 256 := by
  have kn0 : ∀ t, own_S p e below T0 (mkF m 536 #[.val (.int p1), .val (.int p2), .val (.int p3), .val (.ref b3), .val (.ref b4), .val (.ref b5), .val (.int (19 : Int32)), .val (.int cnt), .val (.int xp)] []) t → own_S p e below T0 (mkF m 536 #[.val (.int p1), .val (.int p2), .val (.int p3), .val (.ref b3), .val (.ref b4), .val (.ref b5), .val (.int (19 : Int32)), .val (.int cnt), .val (.int xp)] []) t := fun t k => k
  have kn1 : ∀ t, own_S p e below T0 (mkF m 539 #[.val (.int p1), .val (.int p2), .val (.int p3), .val (.ref b3), .val (.ref b4), .val (.ref b5), .val (.int (19 : Int32)), .val (.int cnt), .val (.int xp)] [(.int (19 : Int32)), (.ref b3)]) t → own_S p e below T0 (mkF m 536 #[.val (.int p1), .val (.int p2), .val (.int p3), .val (.ref b3), .val (.ref b4), .val (.ref b5), .val (.int (19 : Int32)), .val (.int cnt), .val (.int xp)] []) t := fun t kt => kn0 t (by
    show own_S p e below T0 (mkF m 536 #[.val (.int p1), .val (.int p2), .val (.int p3), .val (.ref b3), .val (.ref b4), .val (.ref b5), .val (.int (19 : Int32)), .val (.int cnt), .val (.int xp)] []) _
    refine XS.aloadN X0.here hx rfl (hb hby at_536) rfl rfl ?_
    show own_S p e below T0 (mkF m 537 #[.val (.int p1), .val (.int p2), .val (.int p3), .val (.ref b3), .val (.ref b4), .val (.ref b5), .val (.int (19 : Int32)), .val (.int cnt), .val (.int xp)] [(.ref b3)]) _
    refine XS.iload X0.here hx rfl (hb hby at_537) rfl ?_
    exact kt)
  obtain ⟨cl2, Ar2, q2, Sz2, Ng2, Hs2, Gs2⟩ := id V3
  have hin2 : ¬ ((19 : Int32) < 0 ∨ cl2.slots.size ≤ ((19 : Int32)).toNatClampNeg) := inb_of Sz2 ⟨by decide, by decide⟩
  have hat2 : cl2.slots[((19 : Int32)).toNatClampNeg]? = some (.ref w19) := Hs2.at hin2 rfl
  have kn3 : ∀ t, own_S p e below T0 (mkF m 542 #[.val (.int p1), .val (.int p2), .val (.int p3), .val (.ref b3), .val (.ref b4), .val (.ref b5), .val (.int (19 : Int32)), .val (.int cnt), .val (.int xp)] [(.int cnt), (.ref w19)]) t → own_S p e below T0 (mkF m 536 #[.val (.int p1), .val (.int p2), .val (.int p3), .val (.ref b3), .val (.ref b4), .val (.ref b5), .val (.int (19 : Int32)), .val (.int cnt), .val (.int xp)] []) t := fun t kt => kn1 t (by
    show own_S p e below T0 (mkF m 539 #[.val (.int p1), .val (.int p2), .val (.int p3), .val (.ref b3), .val (.ref b4), .val (.ref b5), .val (.int (19 : Int32)), .val (.int cnt), .val (.int xp)] [(.int (19 : Int32)), (.ref b3)]) _
    refine X0.aaload hx (j := (19 : Int32)) (v := (.ref w19)) (by rw [e0]; exact Ar2.1) (State.isArrayOf_alike hZ.alike Ar2.2.1) rfl Ar2.2.2 hin2 hat2 (g := (mkF m 539 #[.val (.int p1), .val (.int p2), .val (.int p3), .val (.ref b3), .val (.ref b4), .val (.ref b5), .val (.int (19 : Int32)), .val (.int cnt), .val (.int xp)] [(.int (19 : Int32)), (.ref b3)])) rfl rfl (hb hby at_539) _ ?_
    show own_S p e below T0 (mkF m 540 #[.val (.int p1), .val (.int p2), .val (.int p3), .val (.ref b3), .val (.ref b4), .val (.ref b5), .val (.int (19 : Int32)), .val (.int cnt), .val (.int xp)] [(.ref w19)]) _
    refine XS.iload X0.here hx rfl (hb hby at_540) rfl ?_
    exact kt)
  obtain ⟨cq4, kq4, qa4, qb4, qc4⟩ := isOf hZ e0 (E_w19.ext O0.2)
  obtain ⟨_, _, ⟨T4, L4, cc4, ss4⟩, -, X4, ⟨Lc4, hQ4, l4, y4, z4⟩, st4⟩ := X0.virtualBack hx (y := (⟨"com/example/rowan/rowan/xpath/CoreFunction", "takes", "(I)Z"⟩ : MethodName)) (z := (⟨"com/example/rowan/rowan/xpath/CoreFunction", "takes", "(I)Z"⟩ : MethodName)) hown (mvT hZ (hw _ (List.mem_of_getElem? (i := 86) rfl))) (mvT hZ (hw _ (List.mem_of_getElem? (i := 87) rfl))) (notFace_of_selects (args := #[]) (mvT hZ (hw _ (List.mem_of_getElem? (i := 122) rfl)))) (mvT hZ (hw _ (List.mem_of_getElem? (i := 122) rfl))) (mvT hZ (hw _ (List.mem_of_getElem? (i := 88) rfl))) (by decide) (backOf (W := 0) (rm1 l Z a0 hw [] w19 cnt (0 : Int32) (0 : Int32) h0 n0 Z0 (Fa19.ext O0.2) (Fb19.ext O0.2)) hZ (hw _ (List.mem_of_getElem? (i := 90) rfl)) (hw _ (List.mem_of_getElem? (i := 3) rfl)) (by decide) (by decide)) qa4 qc4 (g := (mkF m 542 #[.val (.int p1), .val (.int p2), .val (.int p3), .val (.ref b3), .val (.ref b4), .val (.ref b5), .val (.int (19 : Int32)), .val (.int cnt), .val (.int xp)] [(.int cnt), (.ref w19)])) rfl (by rw [hml]; rfl) (Steps.refl _) (argsL := [(.int cnt)]) (rest := []) (lenOf pd_0 rfl) rfl (by show 2 * 0 + _ ≤ _; exact Nat.le_of_eq rfl) (hb hby at_542) (fun _ _ => ⟨rfl, e0, (by decide : 3 + 0 ≤ _), (by decide : 81 + 0 ≤ _)⟩)
  dsimp only [Pt.U, Pt.locs, Pt.cells, Pt.slots] at X4 l4 y4 z4 st4 hQ4
  subst l4 y4 z4
  have X4 : Stand p l e _ _ m _ below meth c T4 _ 3 81 := X4
  obtain ⟨rfl, Nq4, eq4⟩ := hQ4
  have Nf4 := Fr.app Nf0 Nq4
  have kn5 : ∀ t, own_S p e below T4 (mkF m 545 #[.val (.int p1), .val (.int p2), .val (.int p3), .val (.ref b3), .val (.ref b4), .val (.ref b5), .val (.int (19 : Int32)), .val (.int cnt), .val (.int xp)] [(.int (own_takes (0 : Int32) (0 : Int32) cnt))]) t → own_S p e below T0 (mkF m 536 #[.val (.int p1), .val (.int p2), .val (.int p3), .val (.ref b3), .val (.ref b4), .val (.ref b5), .val (.int (19 : Int32)), .val (.int cnt), .val (.int xp)] []) t := fun t kt => kn3 t (st4.trans kt)
  have kn6 : ∀ t, own_S p e below T4 (mkF m 547 #[.val (.int p1), .val (.int p2), .val (.int p3), .val (.ref b3), .val (.ref b4), .val (.ref b5), .val (.int (19 : Int32)), .val (.int cnt), .val (.int xp)] [(.int xp), (.int (own_takes (0 : Int32) (0 : Int32) cnt))]) t → own_S p e below T0 (mkF m 536 #[.val (.int p1), .val (.int p2), .val (.int p3), .val (.ref b3), .val (.ref b4), .val (.ref b5), .val (.int (19 : Int32)), .val (.int cnt), .val (.int xp)] []) t := fun t kt => kn5 t (by
    show own_S p e below T4 (mkF m 545 #[.val (.int p1), .val (.int p2), .val (.int p3), .val (.ref b3), .val (.ref b4), .val (.ref b5), .val (.int (19 : Int32)), .val (.int cnt), .val (.int xp)] [(.int (own_takes (0 : Int32) (0 : Int32) cnt))]) _
    refine XS.iload X4.here hx rfl (hb hby at_545) rfl ?_
    exact kt)
  have hc547_7 : (own_takes (0 : Int32) (0 : Int32) cnt) = xp := by rw [hxp]; exact own_te _ _ _
  have kn8 : ∀ t, own_S p e below T4 (mkF m 555 #[.val (.int p1), .val (.int p2), .val (.int p3), .val (.ref b3), .val (.ref b4), .val (.ref b5), .val (.int (19 : Int32)), .val (.int cnt), .val (.int xp)] [(.int (1 : Int32))]) t → own_S p e below T0 (mkF m 536 #[.val (.int p1), .val (.int p2), .val (.int p3), .val (.ref b3), .val (.ref b4), .val (.ref b5), .val (.int (19 : Int32)), .val (.int cnt), .val (.int xp)] []) t := fun t kt => kn6 t (by
    show own_S p e below T4 (mkF m 547 #[.val (.int p1), .val (.int p2), .val (.int p3), .val (.ref b3), .val (.ref b4), .val (.ref b5), .val (.int (19 : Int32)), .val (.int cnt), .val (.int xp)] [(.int xp), (.int (own_takes (0 : Int32) (0 : Int32) cnt))]) _
    refine XS.icmpNo X4.here hx rfl (hb hby at_547) rfl (teq hc547_7).2 ?_
    show own_S p e below T4 (mkF m 550 #[.val (.int p1), .val (.int p2), .val (.int p3), .val (.ref b3), .val (.ref b4), .val (.ref b5), .val (.int (19 : Int32)), .val (.int cnt), .val (.int xp)] []) _
    refine XS.iconst X4.here hx rfl (hb hby at_550) ?_
    show own_S p e below T4 (mkF m 551 #[.val (.int p1), .val (.int p2), .val (.int p3), .val (.ref b3), .val (.ref b4), .val (.ref b5), .val (.int (19 : Int32)), .val (.int cnt), .val (.int xp)] [(.int (1 : Int32))]) _
    refine XS.goto X4.here hx rfl (pc0 := 551) (pc' := 555) rfl (hb hby at_551) (by decide) (by decide) ?_
    exact kt)
  obtain ⟨fs, hr, hrun, hended, hW, hsame⟩ := X4.leave (v := some (.int (1 : Int32))) (fun h => by rw [hret] at h; cases h)
  refine ⟨_, _, id (kn8 _ (retN X4 hx (t := .boolean) hret (by simp) (hb hby at_555) hr)), hrun, hended, _, _, rfl, ?_, ⟨_, rfl⟩, hW, hsame.mono (by decide) (by decide)⟩
  show Q0 Z p1 p2 p3 w0 w1 w2 w3 w4 w5 w6 w7 w8 w9 w10 w11 w12 w13 w14 w15 w16 w17 w18 w19 w20 w21 w22 w23 w24 w25 w26 h0 n0 _ T4.heap _
  rw [eq4]
  exact ⟨rfl, Nf4⟩

set_option maxRecDepth 65536 in
set_option maxHeartbeats 40000000 in
theorem tail_20 {p : Program} {l : Launch} {e : Env} {s : State} {m : MethodId} {args : Array Value} {below : List Frame} {meth : Method} {c : Code} {T0 : State} {locs : List Loc} {Z : State} {a0 : Array Value} {h0 : Heap} {n0 : Nat} (p1 : Int32) (p2 : Int32) (p3 : Int32) (w0 : Addr) (w1 : Addr) (w2 : Addr) (w3 : Addr) (w4 : Addr) (w5 : Addr) (w6 : Addr) (w7 : Addr) (w8 : Addr) (w9 : Addr) (w10 : Addr) (w11 : Addr) (w12 : Addr) (w13 : Addr) (w14 : Addr) (w15 : Addr) (w16 : Addr) (w17 : Addr) (w18 : Addr) (w19 : Addr) (w20 : Addr) (w21 : Addr) (w22 : Addr) (w23 : Addr) (w24 : Addr) (w25 : Addr) (w26 : Addr) (b3 : Addr) (b4 : Addr) (b5 : Addr) (k3 : ClassId) (cnt : Int32) (xp : Int32)
    (X0 : Stand p l e room_1 s m args below meth c T0 locs 3 81) (hx : p.tables.exec = Jvm.exec) (hZ : Z.Warmed39 s.vm) (hw : ∀ d ∈ tables_1, d.before a0 Z = true) (hby : c.code = code) (hml : c.maxLocals = 9) (hown : s.vm.findClass "com/example/rowan/rowan/xpath/CoreFunctionTakesPinLaw" = some m.cls) (hret : meth.sig.returnType = some .boolean) (hlk : meth.locks = false) (e0 : T0.heap = h0) (Nf0 : Fr n0 locs) (Z0 : n0 ≤ h0.size) (O0 : Old Z n0 h0) (V3 : Arv Z h0 b3 k3 (.object "com/example/rowan/rowan/xpath/CoreFunction") (27 : Int32) ((.ref w0) :: (.ref w1) :: (.ref w2) :: (.ref w3) :: (.ref w4) :: (.ref w5) :: (.ref w6) :: (.ref w7) :: (.ref w8) :: (.ref w9) :: (.ref w10) :: (.ref w11) :: (.ref w12) :: (.ref w13) :: (.ref w14) :: (.ref w15) :: (.ref w16) :: (.ref w17) :: (.ref w18) :: (.ref w19) :: (.ref w20) :: (.ref w21) :: (.ref w22) :: (.ref w23) :: (.ref w24) :: (.ref w25) :: (.ref w26) :: []) .null) (E_w20 : Exa Z Z.heap w20 "com/example/rowan/rowan/xpath/CoreFunction$21") (Fa20 : Fld Z Z.heap w20 "com/example/rowan/rowan/xpath/CoreFunction" "minimumArguments" "I" (.int (0 : Int32))) (Fb20 : Fld Z Z.heap w20 "com/example/rowan/rowan/xpath/CoreFunction" "maximumArguments" "I" (.int (0 : Int32))) (hxp : xp = own_exp (0 : Int32) (0 : Int32) cnt) :
    ∃ s₂ o, Steps p.tables e below (T0.setTop (mkF m 536 #[.val (.int p1), .val (.int p2), .val (.int p3), .val (.ref b3), .val (.ref b4), .val (.ref b5), .val (.int (20 : Int32)), .val (.int cnt), .val (.int xp)] [])) s₂ ∧ s₂.status = .running ∧ Ended s₂ below o ∧ ∃ v L, o = .returned v ∧ Q0 Z p1 p2 p3 w0 w1 w2 w3 w4 w5 w6 w7 w8 w9 w10 w11 w12 w13 w14 w15 w16 w17 w18 w19 w20 w21 w22 w23 w24 w25 w26 h0 n0 v s₂.heap L ∧ FrameEnd s o s₂ L 16 256 := by
  have kn0 : ∀ t, own_S p e below T0 (mkF m 536 #[.val (.int p1), .val (.int p2), .val (.int p3), .val (.ref b3), .val (.ref b4), .val (.ref b5), .val (.int (20 : Int32)), .val (.int cnt), .val (.int xp)] []) t → own_S p e below T0 (mkF m 536 #[.val (.int p1), .val (.int p2), .val (.int p3), .val (.ref b3), .val (.ref b4), .val (.ref b5), .val (.int (20 : Int32)), .val (.int cnt), .val (.int xp)] []) t := fun t k => k
  have kn1 : ∀ t, own_S p e below T0 (mkF m 539 #[.val (.int p1), .val (.int p2), .val (.int p3), .val (.ref b3), .val (.ref b4), .val (.ref b5), .val (.int (20 : Int32)), .val (.int cnt), .val (.int xp)] [(.int (20 : Int32)), (.ref b3)]) t → own_S p e below T0 (mkF m 536 #[.val (.int p1), .val (.int p2), .val (.int p3), .val (.ref b3), .val (.ref b4), .val (.ref b5), .val (.int (20 : Int32)), .val (.int cnt), .val (.int xp)] []) t := fun t kt => kn0 t (by
    show own_S p e below T0 (mkF m 536 #[.val (.int p1), .val (.int p2), .val (.int p3), .val (.ref b3), .val (.ref b4), .val (.ref b5), .val (.int (20 : Int32)), .val (.int cnt), .val (.int xp)] []) _
    refine XS.aloadN X0.here hx rfl (hb hby at_536) rfl rfl ?_
    show own_S p e below T0 (mkF m 537 #[.val (.int p1), .val (.int p2), .val (.int p3), .val (.ref b3), .val (.ref b4), .val (.ref b5), .val (.int (20 : Int32)), .val (.int cnt), .val (.int xp)] [(.ref b3)]) _
    refine XS.iload X0.here hx rfl (hb hby at_537) rfl ?_
    exact kt)
  obtain ⟨cl2, Ar2, q2, Sz2, Ng2, Hs2, Gs2⟩ := id V3
  have hin2 : ¬ ((20 : Int32) < 0 ∨ cl2.slots.size ≤ ((20 : Int32)).toNatClampNeg) := inb_of Sz2 ⟨by decide, by decide⟩
  have hat2 : cl2.slots[((20 : Int32)).toNatClampNeg]? = some (.ref w20) := Hs2.at hin2 rfl
  have kn3 : ∀ t, own_S p e below T0 (mkF m 542 #[.val (.int p1), .val (.int p2), .val (.int p3), .val (.ref b3), .val (.ref b4), .val (.ref b5), .val (.int (20 : Int32)), .val (.int cnt), .val (.int xp)] [(.int cnt), (.ref w20)]) t → own_S p e below T0 (mkF m 536 #[.val (.int p1), .val (.int p2), .val (.int p3), .val (.ref b3), .val (.ref b4), .val (.ref b5), .val (.int (20 : Int32)), .val (.int cnt), .val (.int xp)] []) t := fun t kt => kn1 t (by
    show own_S p e below T0 (mkF m 539 #[.val (.int p1), .val (.int p2), .val (.int p3), .val (.ref b3), .val (.ref b4), .val (.ref b5), .val (.int (20 : Int32)), .val (.int cnt), .val (.int xp)] [(.int (20 : Int32)), (.ref b3)]) _
    refine X0.aaload hx (j := (20 : Int32)) (v := (.ref w20)) (by rw [e0]; exact Ar2.1) (State.isArrayOf_alike hZ.alike Ar2.2.1) rfl Ar2.2.2 hin2 hat2 (g := (mkF m 539 #[.val (.int p1), .val (.int p2), .val (.int p3), .val (.ref b3), .val (.ref b4), .val (.ref b5), .val (.int (20 : Int32)), .val (.int cnt), .val (.int xp)] [(.int (20 : Int32)), (.ref b3)])) rfl rfl (hb hby at_539) _ ?_
    show own_S p e below T0 (mkF m 540 #[.val (.int p1), .val (.int p2), .val (.int p3), .val (.ref b3), .val (.ref b4), .val (.ref b5), .val (.int (20 : Int32)), .val (.int cnt), .val (.int xp)] [(.ref w20)]) _
    refine XS.iload X0.here hx rfl (hb hby at_540) rfl ?_
    exact kt)
  obtain ⟨cq4, kq4, qa4, qb4, qc4⟩ := isOf hZ e0 (E_w20.ext O0.2)
  obtain ⟨_, _, ⟨T4, L4, cc4, ss4⟩, -, X4, ⟨Lc4, hQ4, l4, y4, z4⟩, st4⟩ := X0.virtualBack hx (y := (⟨"com/example/rowan/rowan/xpath/CoreFunction", "takes", "(I)Z"⟩ : MethodName)) (z := (⟨"com/example/rowan/rowan/xpath/CoreFunction", "takes", "(I)Z"⟩ : MethodName)) hown (mvT hZ (hw _ (List.mem_of_getElem? (i := 86) rfl))) (mvT hZ (hw _ (List.mem_of_getElem? (i := 87) rfl))) (notFace_of_selects (args := #[]) (mvT hZ (hw _ (List.mem_of_getElem? (i := 143) rfl)))) (mvT hZ (hw _ (List.mem_of_getElem? (i := 143) rfl))) (mvT hZ (hw _ (List.mem_of_getElem? (i := 88) rfl))) (by decide) (backOf (W := 0) (rm1 l Z a0 hw [] w20 cnt (0 : Int32) (0 : Int32) h0 n0 Z0 (Fa20.ext O0.2) (Fb20.ext O0.2)) hZ (hw _ (List.mem_of_getElem? (i := 90) rfl)) (hw _ (List.mem_of_getElem? (i := 3) rfl)) (by decide) (by decide)) qa4 qc4 (g := (mkF m 542 #[.val (.int p1), .val (.int p2), .val (.int p3), .val (.ref b3), .val (.ref b4), .val (.ref b5), .val (.int (20 : Int32)), .val (.int cnt), .val (.int xp)] [(.int cnt), (.ref w20)])) rfl (by rw [hml]; rfl) (Steps.refl _) (argsL := [(.int cnt)]) (rest := []) (lenOf pd_0 rfl) rfl (by show 2 * 0 + _ ≤ _; exact Nat.le_of_eq rfl) (hb hby at_542) (fun _ _ => ⟨rfl, e0, (by decide : 3 + 0 ≤ _), (by decide : 81 + 0 ≤ _)⟩)
  dsimp only [Pt.U, Pt.locs, Pt.cells, Pt.slots] at X4 l4 y4 z4 st4 hQ4
  subst l4 y4 z4
  have X4 : Stand p l e _ _ m _ below meth c T4 _ 3 81 := X4
  obtain ⟨rfl, Nq4, eq4⟩ := hQ4
  have Nf4 := Fr.app Nf0 Nq4
  have kn5 : ∀ t, own_S p e below T4 (mkF m 545 #[.val (.int p1), .val (.int p2), .val (.int p3), .val (.ref b3), .val (.ref b4), .val (.ref b5), .val (.int (20 : Int32)), .val (.int cnt), .val (.int xp)] [(.int (own_takes (0 : Int32) (0 : Int32) cnt))]) t → own_S p e below T0 (mkF m 536 #[.val (.int p1), .val (.int p2), .val (.int p3), .val (.ref b3), .val (.ref b4), .val (.ref b5), .val (.int (20 : Int32)), .val (.int cnt), .val (.int xp)] []) t := fun t kt => kn3 t (st4.trans kt)
  have kn6 : ∀ t, own_S p e below T4 (mkF m 547 #[.val (.int p1), .val (.int p2), .val (.int p3), .val (.ref b3), .val (.ref b4), .val (.ref b5), .val (.int (20 : Int32)), .val (.int cnt), .val (.int xp)] [(.int xp), (.int (own_takes (0 : Int32) (0 : Int32) cnt))]) t → own_S p e below T0 (mkF m 536 #[.val (.int p1), .val (.int p2), .val (.int p3), .val (.ref b3), .val (.ref b4), .val (.ref b5), .val (.int (20 : Int32)), .val (.int cnt), .val (.int xp)] []) t := fun t kt => kn5 t (by
    show own_S p e below T4 (mkF m 545 #[.val (.int p1), .val (.int p2), .val (.int p3), .val (.ref b3), .val (.ref b4), .val (.ref b5), .val (.int (20 : Int32)), .val (.int cnt), .val (.int xp)] [(.int (own_takes (0 : Int32) (0 : Int32) cnt))]) _
    refine XS.iload X4.here hx rfl (hb hby at_545) rfl ?_
    exact kt)
  have hc547_7 : (own_takes (0 : Int32) (0 : Int32) cnt) = xp := by rw [hxp]; exact own_te _ _ _
  have kn8 : ∀ t, own_S p e below T4 (mkF m 555 #[.val (.int p1), .val (.int p2), .val (.int p3), .val (.ref b3), .val (.ref b4), .val (.ref b5), .val (.int (20 : Int32)), .val (.int cnt), .val (.int xp)] [(.int (1 : Int32))]) t → own_S p e below T0 (mkF m 536 #[.val (.int p1), .val (.int p2), .val (.int p3), .val (.ref b3), .val (.ref b4), .val (.ref b5), .val (.int (20 : Int32)), .val (.int cnt), .val (.int xp)] []) t := fun t kt => kn6 t (by
    show own_S p e below T4 (mkF m 547 #[.val (.int p1), .val (.int p2), .val (.int p3), .val (.ref b3), .val (.ref b4), .val (.ref b5), .val (.int (20 : Int32)), .val (.int cnt), .val (.int xp)] [(.int xp), (.int (own_takes (0 : Int32) (0 : Int32) cnt))]) _
    refine XS.icmpNo X4.here hx rfl (hb hby at_547) rfl (teq hc547_7).2 ?_
    show own_S p e below T4 (mkF m 550 #[.val (.int p1), .val (.int p2), .val (.int p3), .val (.ref b3), .val (.ref b4), .val (.ref b5), .val (.int (20 : Int32)), .val (.int cnt), .val (.int xp)] []) _
    refine XS.iconst X4.here hx rfl (hb hby at_550) ?_
    show own_S p e below T4 (mkF m 551 #[.val (.int p1), .val (.int p2), .val (.int p3), .val (.ref b3), .val (.ref b4), .val (.ref b5), .val (.int (20 : Int32)), .val (.int cnt), .val (.int xp)] [(.int (1 : Int32))]) _
    refine XS.goto X4.here hx rfl (pc0 := 551) (pc' := 555) rfl (hb hby at_551) (by decide) (by decide) ?_
    exact kt)
  obtain ⟨fs, hr, hrun, hended, hW, hsame⟩ := X4.leave (v := some (.int (1 : Int32))) (fun h => by rw [hret] at h; cases h)
  refine ⟨_, _, id (kn8 _ (retN X4 hx (t := .boolean) hret (by simp) (hb hby at_555) hr)), hrun, hended, _, _, rfl, ?_, ⟨_, rfl⟩, hW, hsame.mono (by decide) (by decide)⟩
  show Q0 Z p1 p2 p3 w0 w1 w2 w3 w4 w5 w6 w7 w8 w9 w10 w11 w12 w13 w14 w15 w16 w17 w18 w19 w20 w21 w22 w23 w24 w25 w26 h0 n0 _ T4.heap _
  rw [eq4]
  exact ⟨rfl, Nf4⟩

set_option maxRecDepth 65536 in
set_option maxHeartbeats 40000000 in
theorem tail_21 {p : Program} {l : Launch} {e : Env} {s : State} {m : MethodId} {args : Array Value} {below : List Frame} {meth : Method} {c : Code} {T0 : State} {locs : List Loc} {Z : State} {a0 : Array Value} {h0 : Heap} {n0 : Nat} (p1 : Int32) (p2 : Int32) (p3 : Int32) (w0 : Addr) (w1 : Addr) (w2 : Addr) (w3 : Addr) (w4 : Addr) (w5 : Addr) (w6 : Addr) (w7 : Addr) (w8 : Addr) (w9 : Addr) (w10 : Addr) (w11 : Addr) (w12 : Addr) (w13 : Addr) (w14 : Addr) (w15 : Addr) (w16 : Addr) (w17 : Addr) (w18 : Addr) (w19 : Addr) (w20 : Addr) (w21 : Addr) (w22 : Addr) (w23 : Addr) (w24 : Addr) (w25 : Addr) (w26 : Addr) (b3 : Addr) (b4 : Addr) (b5 : Addr) (k3 : ClassId) (cnt : Int32) (xp : Int32)
    (X0 : Stand p l e room_1 s m args below meth c T0 locs 3 81) (hx : p.tables.exec = Jvm.exec) (hZ : Z.Warmed39 s.vm) (hw : ∀ d ∈ tables_1, d.before a0 Z = true) (hby : c.code = code) (hml : c.maxLocals = 9) (hown : s.vm.findClass "com/example/rowan/rowan/xpath/CoreFunctionTakesPinLaw" = some m.cls) (hret : meth.sig.returnType = some .boolean) (hlk : meth.locks = false) (e0 : T0.heap = h0) (Nf0 : Fr n0 locs) (Z0 : n0 ≤ h0.size) (O0 : Old Z n0 h0) (V3 : Arv Z h0 b3 k3 (.object "com/example/rowan/rowan/xpath/CoreFunction") (27 : Int32) ((.ref w0) :: (.ref w1) :: (.ref w2) :: (.ref w3) :: (.ref w4) :: (.ref w5) :: (.ref w6) :: (.ref w7) :: (.ref w8) :: (.ref w9) :: (.ref w10) :: (.ref w11) :: (.ref w12) :: (.ref w13) :: (.ref w14) :: (.ref w15) :: (.ref w16) :: (.ref w17) :: (.ref w18) :: (.ref w19) :: (.ref w20) :: (.ref w21) :: (.ref w22) :: (.ref w23) :: (.ref w24) :: (.ref w25) :: (.ref w26) :: []) .null) (E_w21 : Exa Z Z.heap w21 "com/example/rowan/rowan/xpath/CoreFunction$22") (Fa21 : Fld Z Z.heap w21 "com/example/rowan/rowan/xpath/CoreFunction" "minimumArguments" "I" (.int (1 : Int32))) (Fb21 : Fld Z Z.heap w21 "com/example/rowan/rowan/xpath/CoreFunction" "maximumArguments" "I" (.int (1 : Int32))) (hxp : xp = own_exp (1 : Int32) (1 : Int32) cnt) :
    ∃ s₂ o, Steps p.tables e below (T0.setTop (mkF m 536 #[.val (.int p1), .val (.int p2), .val (.int p3), .val (.ref b3), .val (.ref b4), .val (.ref b5), .val (.int (21 : Int32)), .val (.int cnt), .val (.int xp)] [])) s₂ ∧ s₂.status = .running ∧ Ended s₂ below o ∧ ∃ v L, o = .returned v ∧ Q0 Z p1 p2 p3 w0 w1 w2 w3 w4 w5 w6 w7 w8 w9 w10 w11 w12 w13 w14 w15 w16 w17 w18 w19 w20 w21 w22 w23 w24 w25 w26 h0 n0 v s₂.heap L ∧ FrameEnd s o s₂ L 16 256 := by
  have kn0 : ∀ t, own_S p e below T0 (mkF m 536 #[.val (.int p1), .val (.int p2), .val (.int p3), .val (.ref b3), .val (.ref b4), .val (.ref b5), .val (.int (21 : Int32)), .val (.int cnt), .val (.int xp)] []) t → own_S p e below T0 (mkF m 536 #[.val (.int p1), .val (.int p2), .val (.int p3), .val (.ref b3), .val (.ref b4), .val (.ref b5), .val (.int (21 : Int32)), .val (.int cnt), .val (.int xp)] []) t := fun t k => k
  have kn1 : ∀ t, own_S p e below T0 (mkF m 539 #[.val (.int p1), .val (.int p2), .val (.int p3), .val (.ref b3), .val (.ref b4), .val (.ref b5), .val (.int (21 : Int32)), .val (.int cnt), .val (.int xp)] [(.int (21 : Int32)), (.ref b3)]) t → own_S p e below T0 (mkF m 536 #[.val (.int p1), .val (.int p2), .val (.int p3), .val (.ref b3), .val (.ref b4), .val (.ref b5), .val (.int (21 : Int32)), .val (.int cnt), .val (.int xp)] []) t := fun t kt => kn0 t (by
    show own_S p e below T0 (mkF m 536 #[.val (.int p1), .val (.int p2), .val (.int p3), .val (.ref b3), .val (.ref b4), .val (.ref b5), .val (.int (21 : Int32)), .val (.int cnt), .val (.int xp)] []) _
    refine XS.aloadN X0.here hx rfl (hb hby at_536) rfl rfl ?_
    show own_S p e below T0 (mkF m 537 #[.val (.int p1), .val (.int p2), .val (.int p3), .val (.ref b3), .val (.ref b4), .val (.ref b5), .val (.int (21 : Int32)), .val (.int cnt), .val (.int xp)] [(.ref b3)]) _
    refine XS.iload X0.here hx rfl (hb hby at_537) rfl ?_
    exact kt)
  obtain ⟨cl2, Ar2, q2, Sz2, Ng2, Hs2, Gs2⟩ := id V3
  have hin2 : ¬ ((21 : Int32) < 0 ∨ cl2.slots.size ≤ ((21 : Int32)).toNatClampNeg) := inb_of Sz2 ⟨by decide, by decide⟩
  have hat2 : cl2.slots[((21 : Int32)).toNatClampNeg]? = some (.ref w21) := Hs2.at hin2 rfl
  have kn3 : ∀ t, own_S p e below T0 (mkF m 542 #[.val (.int p1), .val (.int p2), .val (.int p3), .val (.ref b3), .val (.ref b4), .val (.ref b5), .val (.int (21 : Int32)), .val (.int cnt), .val (.int xp)] [(.int cnt), (.ref w21)]) t → own_S p e below T0 (mkF m 536 #[.val (.int p1), .val (.int p2), .val (.int p3), .val (.ref b3), .val (.ref b4), .val (.ref b5), .val (.int (21 : Int32)), .val (.int cnt), .val (.int xp)] []) t := fun t kt => kn1 t (by
    show own_S p e below T0 (mkF m 539 #[.val (.int p1), .val (.int p2), .val (.int p3), .val (.ref b3), .val (.ref b4), .val (.ref b5), .val (.int (21 : Int32)), .val (.int cnt), .val (.int xp)] [(.int (21 : Int32)), (.ref b3)]) _
    refine X0.aaload hx (j := (21 : Int32)) (v := (.ref w21)) (by rw [e0]; exact Ar2.1) (State.isArrayOf_alike hZ.alike Ar2.2.1) rfl Ar2.2.2 hin2 hat2 (g := (mkF m 539 #[.val (.int p1), .val (.int p2), .val (.int p3), .val (.ref b3), .val (.ref b4), .val (.ref b5), .val (.int (21 : Int32)), .val (.int cnt), .val (.int xp)] [(.int (21 : Int32)), (.ref b3)])) rfl rfl (hb hby at_539) _ ?_
    show own_S p e below T0 (mkF m 540 #[.val (.int p1), .val (.int p2), .val (.int p3), .val (.ref b3), .val (.ref b4), .val (.ref b5), .val (.int (21 : Int32)), .val (.int cnt), .val (.int xp)] [(.ref w21)]) _
    refine XS.iload X0.here hx rfl (hb hby at_540) rfl ?_
    exact kt)
  obtain ⟨cq4, kq4, qa4, qb4, qc4⟩ := isOf hZ e0 (E_w21.ext O0.2)
  obtain ⟨_, _, ⟨T4, L4, cc4, ss4⟩, -, X4, ⟨Lc4, hQ4, l4, y4, z4⟩, st4⟩ := X0.virtualBack hx (y := (⟨"com/example/rowan/rowan/xpath/CoreFunction", "takes", "(I)Z"⟩ : MethodName)) (z := (⟨"com/example/rowan/rowan/xpath/CoreFunction", "takes", "(I)Z"⟩ : MethodName)) hown (mvT hZ (hw _ (List.mem_of_getElem? (i := 86) rfl))) (mvT hZ (hw _ (List.mem_of_getElem? (i := 87) rfl))) (notFace_of_selects (args := #[]) (mvT hZ (hw _ (List.mem_of_getElem? (i := 157) rfl)))) (mvT hZ (hw _ (List.mem_of_getElem? (i := 157) rfl))) (mvT hZ (hw _ (List.mem_of_getElem? (i := 88) rfl))) (by decide) (backOf (W := 0) (rm1 l Z a0 hw [] w21 cnt (1 : Int32) (1 : Int32) h0 n0 Z0 (Fa21.ext O0.2) (Fb21.ext O0.2)) hZ (hw _ (List.mem_of_getElem? (i := 90) rfl)) (hw _ (List.mem_of_getElem? (i := 3) rfl)) (by decide) (by decide)) qa4 qc4 (g := (mkF m 542 #[.val (.int p1), .val (.int p2), .val (.int p3), .val (.ref b3), .val (.ref b4), .val (.ref b5), .val (.int (21 : Int32)), .val (.int cnt), .val (.int xp)] [(.int cnt), (.ref w21)])) rfl (by rw [hml]; rfl) (Steps.refl _) (argsL := [(.int cnt)]) (rest := []) (lenOf pd_0 rfl) rfl (by show 2 * 0 + _ ≤ _; exact Nat.le_of_eq rfl) (hb hby at_542) (fun _ _ => ⟨rfl, e0, (by decide : 3 + 0 ≤ _), (by decide : 81 + 0 ≤ _)⟩)
  dsimp only [Pt.U, Pt.locs, Pt.cells, Pt.slots] at X4 l4 y4 z4 st4 hQ4
  subst l4 y4 z4
  have X4 : Stand p l e _ _ m _ below meth c T4 _ 3 81 := X4
  obtain ⟨rfl, Nq4, eq4⟩ := hQ4
  have Nf4 := Fr.app Nf0 Nq4
  have kn5 : ∀ t, own_S p e below T4 (mkF m 545 #[.val (.int p1), .val (.int p2), .val (.int p3), .val (.ref b3), .val (.ref b4), .val (.ref b5), .val (.int (21 : Int32)), .val (.int cnt), .val (.int xp)] [(.int (own_takes (1 : Int32) (1 : Int32) cnt))]) t → own_S p e below T0 (mkF m 536 #[.val (.int p1), .val (.int p2), .val (.int p3), .val (.ref b3), .val (.ref b4), .val (.ref b5), .val (.int (21 : Int32)), .val (.int cnt), .val (.int xp)] []) t := fun t kt => kn3 t (st4.trans kt)
  have kn6 : ∀ t, own_S p e below T4 (mkF m 547 #[.val (.int p1), .val (.int p2), .val (.int p3), .val (.ref b3), .val (.ref b4), .val (.ref b5), .val (.int (21 : Int32)), .val (.int cnt), .val (.int xp)] [(.int xp), (.int (own_takes (1 : Int32) (1 : Int32) cnt))]) t → own_S p e below T0 (mkF m 536 #[.val (.int p1), .val (.int p2), .val (.int p3), .val (.ref b3), .val (.ref b4), .val (.ref b5), .val (.int (21 : Int32)), .val (.int cnt), .val (.int xp)] []) t := fun t kt => kn5 t (by
    show own_S p e below T4 (mkF m 545 #[.val (.int p1), .val (.int p2), .val (.int p3), .val (.ref b3), .val (.ref b4), .val (.ref b5), .val (.int (21 : Int32)), .val (.int cnt), .val (.int xp)] [(.int (own_takes (1 : Int32) (1 : Int32) cnt))]) _
    refine XS.iload X4.here hx rfl (hb hby at_545) rfl ?_
    exact kt)
  have hc547_7 : (own_takes (1 : Int32) (1 : Int32) cnt) = xp := by rw [hxp]; exact own_te _ _ _
  have kn8 : ∀ t, own_S p e below T4 (mkF m 555 #[.val (.int p1), .val (.int p2), .val (.int p3), .val (.ref b3), .val (.ref b4), .val (.ref b5), .val (.int (21 : Int32)), .val (.int cnt), .val (.int xp)] [(.int (1 : Int32))]) t → own_S p e below T0 (mkF m 536 #[.val (.int p1), .val (.int p2), .val (.int p3), .val (.ref b3), .val (.ref b4), .val (.ref b5), .val (.int (21 : Int32)), .val (.int cnt), .val (.int xp)] []) t := fun t kt => kn6 t (by
    show own_S p e below T4 (mkF m 547 #[.val (.int p1), .val (.int p2), .val (.int p3), .val (.ref b3), .val (.ref b4), .val (.ref b5), .val (.int (21 : Int32)), .val (.int cnt), .val (.int xp)] [(.int xp), (.int (own_takes (1 : Int32) (1 : Int32) cnt))]) _
    refine XS.icmpNo X4.here hx rfl (hb hby at_547) rfl (teq hc547_7).2 ?_
    show own_S p e below T4 (mkF m 550 #[.val (.int p1), .val (.int p2), .val (.int p3), .val (.ref b3), .val (.ref b4), .val (.ref b5), .val (.int (21 : Int32)), .val (.int cnt), .val (.int xp)] []) _
    refine XS.iconst X4.here hx rfl (hb hby at_550) ?_
    show own_S p e below T4 (mkF m 551 #[.val (.int p1), .val (.int p2), .val (.int p3), .val (.ref b3), .val (.ref b4), .val (.ref b5), .val (.int (21 : Int32)), .val (.int cnt), .val (.int xp)] [(.int (1 : Int32))]) _
    refine XS.goto X4.here hx rfl (pc0 := 551) (pc' := 555) rfl (hb hby at_551) (by decide) (by decide) ?_
    exact kt)
  obtain ⟨fs, hr, hrun, hended, hW, hsame⟩ := X4.leave (v := some (.int (1 : Int32))) (fun h => by rw [hret] at h; cases h)
  refine ⟨_, _, id (kn8 _ (retN X4 hx (t := .boolean) hret (by simp) (hb hby at_555) hr)), hrun, hended, _, _, rfl, ?_, ⟨_, rfl⟩, hW, hsame.mono (by decide) (by decide)⟩
  show Q0 Z p1 p2 p3 w0 w1 w2 w3 w4 w5 w6 w7 w8 w9 w10 w11 w12 w13 w14 w15 w16 w17 w18 w19 w20 w21 w22 w23 w24 w25 w26 h0 n0 _ T4.heap _
  rw [eq4]
  exact ⟨rfl, Nf4⟩

set_option maxRecDepth 65536 in
set_option maxHeartbeats 40000000 in
theorem tail_22 {p : Program} {l : Launch} {e : Env} {s : State} {m : MethodId} {args : Array Value} {below : List Frame} {meth : Method} {c : Code} {T0 : State} {locs : List Loc} {Z : State} {a0 : Array Value} {h0 : Heap} {n0 : Nat} (p1 : Int32) (p2 : Int32) (p3 : Int32) (w0 : Addr) (w1 : Addr) (w2 : Addr) (w3 : Addr) (w4 : Addr) (w5 : Addr) (w6 : Addr) (w7 : Addr) (w8 : Addr) (w9 : Addr) (w10 : Addr) (w11 : Addr) (w12 : Addr) (w13 : Addr) (w14 : Addr) (w15 : Addr) (w16 : Addr) (w17 : Addr) (w18 : Addr) (w19 : Addr) (w20 : Addr) (w21 : Addr) (w22 : Addr) (w23 : Addr) (w24 : Addr) (w25 : Addr) (w26 : Addr) (b3 : Addr) (b4 : Addr) (b5 : Addr) (k3 : ClassId) (cnt : Int32) (xp : Int32)
    (X0 : Stand p l e room_1 s m args below meth c T0 locs 3 81) (hx : p.tables.exec = Jvm.exec) (hZ : Z.Warmed39 s.vm) (hw : ∀ d ∈ tables_1, d.before a0 Z = true) (hby : c.code = code) (hml : c.maxLocals = 9) (hown : s.vm.findClass "com/example/rowan/rowan/xpath/CoreFunctionTakesPinLaw" = some m.cls) (hret : meth.sig.returnType = some .boolean) (hlk : meth.locks = false) (e0 : T0.heap = h0) (Nf0 : Fr n0 locs) (Z0 : n0 ≤ h0.size) (O0 : Old Z n0 h0) (V3 : Arv Z h0 b3 k3 (.object "com/example/rowan/rowan/xpath/CoreFunction") (27 : Int32) ((.ref w0) :: (.ref w1) :: (.ref w2) :: (.ref w3) :: (.ref w4) :: (.ref w5) :: (.ref w6) :: (.ref w7) :: (.ref w8) :: (.ref w9) :: (.ref w10) :: (.ref w11) :: (.ref w12) :: (.ref w13) :: (.ref w14) :: (.ref w15) :: (.ref w16) :: (.ref w17) :: (.ref w18) :: (.ref w19) :: (.ref w20) :: (.ref w21) :: (.ref w22) :: (.ref w23) :: (.ref w24) :: (.ref w25) :: (.ref w26) :: []) .null) (E_w22 : Exa Z Z.heap w22 "com/example/rowan/rowan/xpath/CoreFunction$23") (Fa22 : Fld Z Z.heap w22 "com/example/rowan/rowan/xpath/CoreFunction" "minimumArguments" "I" (.int (0 : Int32))) (Fb22 : Fld Z Z.heap w22 "com/example/rowan/rowan/xpath/CoreFunction" "maximumArguments" "I" (.int (1 : Int32))) (hxp : xp = own_exp (0 : Int32) (1 : Int32) cnt) :
    ∃ s₂ o, Steps p.tables e below (T0.setTop (mkF m 536 #[.val (.int p1), .val (.int p2), .val (.int p3), .val (.ref b3), .val (.ref b4), .val (.ref b5), .val (.int (22 : Int32)), .val (.int cnt), .val (.int xp)] [])) s₂ ∧ s₂.status = .running ∧ Ended s₂ below o ∧ ∃ v L, o = .returned v ∧ Q0 Z p1 p2 p3 w0 w1 w2 w3 w4 w5 w6 w7 w8 w9 w10 w11 w12 w13 w14 w15 w16 w17 w18 w19 w20 w21 w22 w23 w24 w25 w26 h0 n0 v s₂.heap L ∧ FrameEnd s o s₂ L 16 256 := by
  have kn0 : ∀ t, own_S p e below T0 (mkF m 536 #[.val (.int p1), .val (.int p2), .val (.int p3), .val (.ref b3), .val (.ref b4), .val (.ref b5), .val (.int (22 : Int32)), .val (.int cnt), .val (.int xp)] []) t → own_S p e below T0 (mkF m 536 #[.val (.int p1), .val (.int p2), .val (.int p3), .val (.ref b3), .val (.ref b4), .val (.ref b5), .val (.int (22 : Int32)), .val (.int cnt), .val (.int xp)] []) t := fun t k => k
  have kn1 : ∀ t, own_S p e below T0 (mkF m 539 #[.val (.int p1), .val (.int p2), .val (.int p3), .val (.ref b3), .val (.ref b4), .val (.ref b5), .val (.int (22 : Int32)), .val (.int cnt), .val (.int xp)] [(.int (22 : Int32)), (.ref b3)]) t → own_S p e below T0 (mkF m 536 #[.val (.int p1), .val (.int p2), .val (.int p3), .val (.ref b3), .val (.ref b4), .val (.ref b5), .val (.int (22 : Int32)), .val (.int cnt), .val (.int xp)] []) t := fun t kt => kn0 t (by
    show own_S p e below T0 (mkF m 536 #[.val (.int p1), .val (.int p2), .val (.int p3), .val (.ref b3), .val (.ref b4), .val (.ref b5), .val (.int (22 : Int32)), .val (.int cnt), .val (.int xp)] []) _
    refine XS.aloadN X0.here hx rfl (hb hby at_536) rfl rfl ?_
    show own_S p e below T0 (mkF m 537 #[.val (.int p1), .val (.int p2), .val (.int p3), .val (.ref b3), .val (.ref b4), .val (.ref b5), .val (.int (22 : Int32)), .val (.int cnt), .val (.int xp)] [(.ref b3)]) _
    refine XS.iload X0.here hx rfl (hb hby at_537) rfl ?_
    exact kt)
  obtain ⟨cl2, Ar2, q2, Sz2, Ng2, Hs2, Gs2⟩ := id V3
  have hin2 : ¬ ((22 : Int32) < 0 ∨ cl2.slots.size ≤ ((22 : Int32)).toNatClampNeg) := inb_of Sz2 ⟨by decide, by decide⟩
  have hat2 : cl2.slots[((22 : Int32)).toNatClampNeg]? = some (.ref w22) := Hs2.at hin2 rfl
  have kn3 : ∀ t, own_S p e below T0 (mkF m 542 #[.val (.int p1), .val (.int p2), .val (.int p3), .val (.ref b3), .val (.ref b4), .val (.ref b5), .val (.int (22 : Int32)), .val (.int cnt), .val (.int xp)] [(.int cnt), (.ref w22)]) t → own_S p e below T0 (mkF m 536 #[.val (.int p1), .val (.int p2), .val (.int p3), .val (.ref b3), .val (.ref b4), .val (.ref b5), .val (.int (22 : Int32)), .val (.int cnt), .val (.int xp)] []) t := fun t kt => kn1 t (by
    show own_S p e below T0 (mkF m 539 #[.val (.int p1), .val (.int p2), .val (.int p3), .val (.ref b3), .val (.ref b4), .val (.ref b5), .val (.int (22 : Int32)), .val (.int cnt), .val (.int xp)] [(.int (22 : Int32)), (.ref b3)]) _
    refine X0.aaload hx (j := (22 : Int32)) (v := (.ref w22)) (by rw [e0]; exact Ar2.1) (State.isArrayOf_alike hZ.alike Ar2.2.1) rfl Ar2.2.2 hin2 hat2 (g := (mkF m 539 #[.val (.int p1), .val (.int p2), .val (.int p3), .val (.ref b3), .val (.ref b4), .val (.ref b5), .val (.int (22 : Int32)), .val (.int cnt), .val (.int xp)] [(.int (22 : Int32)), (.ref b3)])) rfl rfl (hb hby at_539) _ ?_
    show own_S p e below T0 (mkF m 540 #[.val (.int p1), .val (.int p2), .val (.int p3), .val (.ref b3), .val (.ref b4), .val (.ref b5), .val (.int (22 : Int32)), .val (.int cnt), .val (.int xp)] [(.ref w22)]) _
    refine XS.iload X0.here hx rfl (hb hby at_540) rfl ?_
    exact kt)
  obtain ⟨cq4, kq4, qa4, qb4, qc4⟩ := isOf hZ e0 (E_w22.ext O0.2)
  obtain ⟨_, _, ⟨T4, L4, cc4, ss4⟩, -, X4, ⟨Lc4, hQ4, l4, y4, z4⟩, st4⟩ := X0.virtualBack hx (y := (⟨"com/example/rowan/rowan/xpath/CoreFunction", "takes", "(I)Z"⟩ : MethodName)) (z := (⟨"com/example/rowan/rowan/xpath/CoreFunction", "takes", "(I)Z"⟩ : MethodName)) hown (mvT hZ (hw _ (List.mem_of_getElem? (i := 86) rfl))) (mvT hZ (hw _ (List.mem_of_getElem? (i := 87) rfl))) (notFace_of_selects (args := #[]) (mvT hZ (hw _ (List.mem_of_getElem? (i := 166) rfl)))) (mvT hZ (hw _ (List.mem_of_getElem? (i := 166) rfl))) (mvT hZ (hw _ (List.mem_of_getElem? (i := 88) rfl))) (by decide) (backOf (W := 0) (rm1 l Z a0 hw [] w22 cnt (0 : Int32) (1 : Int32) h0 n0 Z0 (Fa22.ext O0.2) (Fb22.ext O0.2)) hZ (hw _ (List.mem_of_getElem? (i := 90) rfl)) (hw _ (List.mem_of_getElem? (i := 3) rfl)) (by decide) (by decide)) qa4 qc4 (g := (mkF m 542 #[.val (.int p1), .val (.int p2), .val (.int p3), .val (.ref b3), .val (.ref b4), .val (.ref b5), .val (.int (22 : Int32)), .val (.int cnt), .val (.int xp)] [(.int cnt), (.ref w22)])) rfl (by rw [hml]; rfl) (Steps.refl _) (argsL := [(.int cnt)]) (rest := []) (lenOf pd_0 rfl) rfl (by show 2 * 0 + _ ≤ _; exact Nat.le_of_eq rfl) (hb hby at_542) (fun _ _ => ⟨rfl, e0, (by decide : 3 + 0 ≤ _), (by decide : 81 + 0 ≤ _)⟩)
  dsimp only [Pt.U, Pt.locs, Pt.cells, Pt.slots] at X4 l4 y4 z4 st4 hQ4
  subst l4 y4 z4
  have X4 : Stand p l e _ _ m _ below meth c T4 _ 3 81 := X4
  obtain ⟨rfl, Nq4, eq4⟩ := hQ4
  have Nf4 := Fr.app Nf0 Nq4
  have kn5 : ∀ t, own_S p e below T4 (mkF m 545 #[.val (.int p1), .val (.int p2), .val (.int p3), .val (.ref b3), .val (.ref b4), .val (.ref b5), .val (.int (22 : Int32)), .val (.int cnt), .val (.int xp)] [(.int (own_takes (0 : Int32) (1 : Int32) cnt))]) t → own_S p e below T0 (mkF m 536 #[.val (.int p1), .val (.int p2), .val (.int p3), .val (.ref b3), .val (.ref b4), .val (.ref b5), .val (.int (22 : Int32)), .val (.int cnt), .val (.int xp)] []) t := fun t kt => kn3 t (st4.trans kt)
  have kn6 : ∀ t, own_S p e below T4 (mkF m 547 #[.val (.int p1), .val (.int p2), .val (.int p3), .val (.ref b3), .val (.ref b4), .val (.ref b5), .val (.int (22 : Int32)), .val (.int cnt), .val (.int xp)] [(.int xp), (.int (own_takes (0 : Int32) (1 : Int32) cnt))]) t → own_S p e below T0 (mkF m 536 #[.val (.int p1), .val (.int p2), .val (.int p3), .val (.ref b3), .val (.ref b4), .val (.ref b5), .val (.int (22 : Int32)), .val (.int cnt), .val (.int xp)] []) t := fun t kt => kn5 t (by
    show own_S p e below T4 (mkF m 545 #[.val (.int p1), .val (.int p2), .val (.int p3), .val (.ref b3), .val (.ref b4), .val (.ref b5), .val (.int (22 : Int32)), .val (.int cnt), .val (.int xp)] [(.int (own_takes (0 : Int32) (1 : Int32) cnt))]) _
    refine XS.iload X4.here hx rfl (hb hby at_545) rfl ?_
    exact kt)
  have hc547_7 : (own_takes (0 : Int32) (1 : Int32) cnt) = xp := by rw [hxp]; exact own_te _ _ _
  have kn8 : ∀ t, own_S p e below T4 (mkF m 555 #[.val (.int p1), .val (.int p2), .val (.int p3), .val (.ref b3), .val (.ref b4), .val (.ref b5), .val (.int (22 : Int32)), .val (.int cnt), .val (.int xp)] [(.int (1 : Int32))]) t → own_S p e below T0 (mkF m 536 #[.val (.int p1), .val (.int p2), .val (.int p3), .val (.ref b3), .val (.ref b4), .val (.ref b5), .val (.int (22 : Int32)), .val (.int cnt), .val (.int xp)] []) t := fun t kt => kn6 t (by
    show own_S p e below T4 (mkF m 547 #[.val (.int p1), .val (.int p2), .val (.int p3), .val (.ref b3), .val (.ref b4), .val (.ref b5), .val (.int (22 : Int32)), .val (.int cnt), .val (.int xp)] [(.int xp), (.int (own_takes (0 : Int32) (1 : Int32) cnt))]) _
    refine XS.icmpNo X4.here hx rfl (hb hby at_547) rfl (teq hc547_7).2 ?_
    show own_S p e below T4 (mkF m 550 #[.val (.int p1), .val (.int p2), .val (.int p3), .val (.ref b3), .val (.ref b4), .val (.ref b5), .val (.int (22 : Int32)), .val (.int cnt), .val (.int xp)] []) _
    refine XS.iconst X4.here hx rfl (hb hby at_550) ?_
    show own_S p e below T4 (mkF m 551 #[.val (.int p1), .val (.int p2), .val (.int p3), .val (.ref b3), .val (.ref b4), .val (.ref b5), .val (.int (22 : Int32)), .val (.int cnt), .val (.int xp)] [(.int (1 : Int32))]) _
    refine XS.goto X4.here hx rfl (pc0 := 551) (pc' := 555) rfl (hb hby at_551) (by decide) (by decide) ?_
    exact kt)
  obtain ⟨fs, hr, hrun, hended, hW, hsame⟩ := X4.leave (v := some (.int (1 : Int32))) (fun h => by rw [hret] at h; cases h)
  refine ⟨_, _, id (kn8 _ (retN X4 hx (t := .boolean) hret (by simp) (hb hby at_555) hr)), hrun, hended, _, _, rfl, ?_, ⟨_, rfl⟩, hW, hsame.mono (by decide) (by decide)⟩
  show Q0 Z p1 p2 p3 w0 w1 w2 w3 w4 w5 w6 w7 w8 w9 w10 w11 w12 w13 w14 w15 w16 w17 w18 w19 w20 w21 w22 w23 w24 w25 w26 h0 n0 _ T4.heap _
  rw [eq4]
  exact ⟨rfl, Nf4⟩

set_option maxRecDepth 65536 in
set_option maxHeartbeats 40000000 in
theorem tail_23 {p : Program} {l : Launch} {e : Env} {s : State} {m : MethodId} {args : Array Value} {below : List Frame} {meth : Method} {c : Code} {T0 : State} {locs : List Loc} {Z : State} {a0 : Array Value} {h0 : Heap} {n0 : Nat} (p1 : Int32) (p2 : Int32) (p3 : Int32) (w0 : Addr) (w1 : Addr) (w2 : Addr) (w3 : Addr) (w4 : Addr) (w5 : Addr) (w6 : Addr) (w7 : Addr) (w8 : Addr) (w9 : Addr) (w10 : Addr) (w11 : Addr) (w12 : Addr) (w13 : Addr) (w14 : Addr) (w15 : Addr) (w16 : Addr) (w17 : Addr) (w18 : Addr) (w19 : Addr) (w20 : Addr) (w21 : Addr) (w22 : Addr) (w23 : Addr) (w24 : Addr) (w25 : Addr) (w26 : Addr) (b3 : Addr) (b4 : Addr) (b5 : Addr) (k3 : ClassId) (cnt : Int32) (xp : Int32)
    (X0 : Stand p l e room_1 s m args below meth c T0 locs 3 81) (hx : p.tables.exec = Jvm.exec) (hZ : Z.Warmed39 s.vm) (hw : ∀ d ∈ tables_1, d.before a0 Z = true) (hby : c.code = code) (hml : c.maxLocals = 9) (hown : s.vm.findClass "com/example/rowan/rowan/xpath/CoreFunctionTakesPinLaw" = some m.cls) (hret : meth.sig.returnType = some .boolean) (hlk : meth.locks = false) (e0 : T0.heap = h0) (Nf0 : Fr n0 locs) (Z0 : n0 ≤ h0.size) (O0 : Old Z n0 h0) (V3 : Arv Z h0 b3 k3 (.object "com/example/rowan/rowan/xpath/CoreFunction") (27 : Int32) ((.ref w0) :: (.ref w1) :: (.ref w2) :: (.ref w3) :: (.ref w4) :: (.ref w5) :: (.ref w6) :: (.ref w7) :: (.ref w8) :: (.ref w9) :: (.ref w10) :: (.ref w11) :: (.ref w12) :: (.ref w13) :: (.ref w14) :: (.ref w15) :: (.ref w16) :: (.ref w17) :: (.ref w18) :: (.ref w19) :: (.ref w20) :: (.ref w21) :: (.ref w22) :: (.ref w23) :: (.ref w24) :: (.ref w25) :: (.ref w26) :: []) .null) (E_w23 : Exa Z Z.heap w23 "com/example/rowan/rowan/xpath/CoreFunction$24") (Fa23 : Fld Z Z.heap w23 "com/example/rowan/rowan/xpath/CoreFunction" "minimumArguments" "I" (.int (1 : Int32))) (Fb23 : Fld Z Z.heap w23 "com/example/rowan/rowan/xpath/CoreFunction" "maximumArguments" "I" (.int (1 : Int32))) (hxp : xp = own_exp (1 : Int32) (1 : Int32) cnt) :
    ∃ s₂ o, Steps p.tables e below (T0.setTop (mkF m 536 #[.val (.int p1), .val (.int p2), .val (.int p3), .val (.ref b3), .val (.ref b4), .val (.ref b5), .val (.int (23 : Int32)), .val (.int cnt), .val (.int xp)] [])) s₂ ∧ s₂.status = .running ∧ Ended s₂ below o ∧ ∃ v L, o = .returned v ∧ Q0 Z p1 p2 p3 w0 w1 w2 w3 w4 w5 w6 w7 w8 w9 w10 w11 w12 w13 w14 w15 w16 w17 w18 w19 w20 w21 w22 w23 w24 w25 w26 h0 n0 v s₂.heap L ∧ FrameEnd s o s₂ L 16 256 := by
  have kn0 : ∀ t, own_S p e below T0 (mkF m 536 #[.val (.int p1), .val (.int p2), .val (.int p3), .val (.ref b3), .val (.ref b4), .val (.ref b5), .val (.int (23 : Int32)), .val (.int cnt), .val (.int xp)] []) t → own_S p e below T0 (mkF m 536 #[.val (.int p1), .val (.int p2), .val (.int p3), .val (.ref b3), .val (.ref b4), .val (.ref b5), .val (.int (23 : Int32)), .val (.int cnt), .val (.int xp)] []) t := fun t k => k
  have kn1 : ∀ t, own_S p e below T0 (mkF m 539 #[.val (.int p1), .val (.int p2), .val (.int p3), .val (.ref b3), .val (.ref b4), .val (.ref b5), .val (.int (23 : Int32)), .val (.int cnt), .val (.int xp)] [(.int (23 : Int32)), (.ref b3)]) t → own_S p e below T0 (mkF m 536 #[.val (.int p1), .val (.int p2), .val (.int p3), .val (.ref b3), .val (.ref b4), .val (.ref b5), .val (.int (23 : Int32)), .val (.int cnt), .val (.int xp)] []) t := fun t kt => kn0 t (by
    show own_S p e below T0 (mkF m 536 #[.val (.int p1), .val (.int p2), .val (.int p3), .val (.ref b3), .val (.ref b4), .val (.ref b5), .val (.int (23 : Int32)), .val (.int cnt), .val (.int xp)] []) _
    refine XS.aloadN X0.here hx rfl (hb hby at_536) rfl rfl ?_
    show own_S p e below T0 (mkF m 537 #[.val (.int p1), .val (.int p2), .val (.int p3), .val (.ref b3), .val (.ref b4), .val (.ref b5), .val (.int (23 : Int32)), .val (.int cnt), .val (.int xp)] [(.ref b3)]) _
    refine XS.iload X0.here hx rfl (hb hby at_537) rfl ?_
    exact kt)
  obtain ⟨cl2, Ar2, q2, Sz2, Ng2, Hs2, Gs2⟩ := id V3
  have hin2 : ¬ ((23 : Int32) < 0 ∨ cl2.slots.size ≤ ((23 : Int32)).toNatClampNeg) := inb_of Sz2 ⟨by decide, by decide⟩
  have hat2 : cl2.slots[((23 : Int32)).toNatClampNeg]? = some (.ref w23) := Hs2.at hin2 rfl
  have kn3 : ∀ t, own_S p e below T0 (mkF m 542 #[.val (.int p1), .val (.int p2), .val (.int p3), .val (.ref b3), .val (.ref b4), .val (.ref b5), .val (.int (23 : Int32)), .val (.int cnt), .val (.int xp)] [(.int cnt), (.ref w23)]) t → own_S p e below T0 (mkF m 536 #[.val (.int p1), .val (.int p2), .val (.int p3), .val (.ref b3), .val (.ref b4), .val (.ref b5), .val (.int (23 : Int32)), .val (.int cnt), .val (.int xp)] []) t := fun t kt => kn1 t (by
    show own_S p e below T0 (mkF m 539 #[.val (.int p1), .val (.int p2), .val (.int p3), .val (.ref b3), .val (.ref b4), .val (.ref b5), .val (.int (23 : Int32)), .val (.int cnt), .val (.int xp)] [(.int (23 : Int32)), (.ref b3)]) _
    refine X0.aaload hx (j := (23 : Int32)) (v := (.ref w23)) (by rw [e0]; exact Ar2.1) (State.isArrayOf_alike hZ.alike Ar2.2.1) rfl Ar2.2.2 hin2 hat2 (g := (mkF m 539 #[.val (.int p1), .val (.int p2), .val (.int p3), .val (.ref b3), .val (.ref b4), .val (.ref b5), .val (.int (23 : Int32)), .val (.int cnt), .val (.int xp)] [(.int (23 : Int32)), (.ref b3)])) rfl rfl (hb hby at_539) _ ?_
    show own_S p e below T0 (mkF m 540 #[.val (.int p1), .val (.int p2), .val (.int p3), .val (.ref b3), .val (.ref b4), .val (.ref b5), .val (.int (23 : Int32)), .val (.int cnt), .val (.int xp)] [(.ref w23)]) _
    refine XS.iload X0.here hx rfl (hb hby at_540) rfl ?_
    exact kt)
  obtain ⟨cq4, kq4, qa4, qb4, qc4⟩ := isOf hZ e0 (E_w23.ext O0.2)
  obtain ⟨_, _, ⟨T4, L4, cc4, ss4⟩, -, X4, ⟨Lc4, hQ4, l4, y4, z4⟩, st4⟩ := X0.virtualBack hx (y := (⟨"com/example/rowan/rowan/xpath/CoreFunction", "takes", "(I)Z"⟩ : MethodName)) (z := (⟨"com/example/rowan/rowan/xpath/CoreFunction", "takes", "(I)Z"⟩ : MethodName)) hown (mvT hZ (hw _ (List.mem_of_getElem? (i := 86) rfl))) (mvT hZ (hw _ (List.mem_of_getElem? (i := 87) rfl))) (notFace_of_selects (args := #[]) (mvT hZ (hw _ (List.mem_of_getElem? (i := 163) rfl)))) (mvT hZ (hw _ (List.mem_of_getElem? (i := 163) rfl))) (mvT hZ (hw _ (List.mem_of_getElem? (i := 88) rfl))) (by decide) (backOf (W := 0) (rm1 l Z a0 hw [] w23 cnt (1 : Int32) (1 : Int32) h0 n0 Z0 (Fa23.ext O0.2) (Fb23.ext O0.2)) hZ (hw _ (List.mem_of_getElem? (i := 90) rfl)) (hw _ (List.mem_of_getElem? (i := 3) rfl)) (by decide) (by decide)) qa4 qc4 (g := (mkF m 542 #[.val (.int p1), .val (.int p2), .val (.int p3), .val (.ref b3), .val (.ref b4), .val (.ref b5), .val (.int (23 : Int32)), .val (.int cnt), .val (.int xp)] [(.int cnt), (.ref w23)])) rfl (by rw [hml]; rfl) (Steps.refl _) (argsL := [(.int cnt)]) (rest := []) (lenOf pd_0 rfl) rfl (by show 2 * 0 + _ ≤ _; exact Nat.le_of_eq rfl) (hb hby at_542) (fun _ _ => ⟨rfl, e0, (by decide : 3 + 0 ≤ _), (by decide : 81 + 0 ≤ _)⟩)
  dsimp only [Pt.U, Pt.locs, Pt.cells, Pt.slots] at X4 l4 y4 z4 st4 hQ4
  subst l4 y4 z4
  have X4 : Stand p l e _ _ m _ below meth c T4 _ 3 81 := X4
  obtain ⟨rfl, Nq4, eq4⟩ := hQ4
  have Nf4 := Fr.app Nf0 Nq4
  have kn5 : ∀ t, own_S p e below T4 (mkF m 545 #[.val (.int p1), .val (.int p2), .val (.int p3), .val (.ref b3), .val (.ref b4), .val (.ref b5), .val (.int (23 : Int32)), .val (.int cnt), .val (.int xp)] [(.int (own_takes (1 : Int32) (1 : Int32) cnt))]) t → own_S p e below T0 (mkF m 536 #[.val (.int p1), .val (.int p2), .val (.int p3), .val (.ref b3), .val (.ref b4), .val (.ref b5), .val (.int (23 : Int32)), .val (.int cnt), .val (.int xp)] []) t := fun t kt => kn3 t (st4.trans kt)
  have kn6 : ∀ t, own_S p e below T4 (mkF m 547 #[.val (.int p1), .val (.int p2), .val (.int p3), .val (.ref b3), .val (.ref b4), .val (.ref b5), .val (.int (23 : Int32)), .val (.int cnt), .val (.int xp)] [(.int xp), (.int (own_takes (1 : Int32) (1 : Int32) cnt))]) t → own_S p e below T0 (mkF m 536 #[.val (.int p1), .val (.int p2), .val (.int p3), .val (.ref b3), .val (.ref b4), .val (.ref b5), .val (.int (23 : Int32)), .val (.int cnt), .val (.int xp)] []) t := fun t kt => kn5 t (by
    show own_S p e below T4 (mkF m 545 #[.val (.int p1), .val (.int p2), .val (.int p3), .val (.ref b3), .val (.ref b4), .val (.ref b5), .val (.int (23 : Int32)), .val (.int cnt), .val (.int xp)] [(.int (own_takes (1 : Int32) (1 : Int32) cnt))]) _
    refine XS.iload X4.here hx rfl (hb hby at_545) rfl ?_
    exact kt)
  have hc547_7 : (own_takes (1 : Int32) (1 : Int32) cnt) = xp := by rw [hxp]; exact own_te _ _ _
  have kn8 : ∀ t, own_S p e below T4 (mkF m 555 #[.val (.int p1), .val (.int p2), .val (.int p3), .val (.ref b3), .val (.ref b4), .val (.ref b5), .val (.int (23 : Int32)), .val (.int cnt), .val (.int xp)] [(.int (1 : Int32))]) t → own_S p e below T0 (mkF m 536 #[.val (.int p1), .val (.int p2), .val (.int p3), .val (.ref b3), .val (.ref b4), .val (.ref b5), .val (.int (23 : Int32)), .val (.int cnt), .val (.int xp)] []) t := fun t kt => kn6 t (by
    show own_S p e below T4 (mkF m 547 #[.val (.int p1), .val (.int p2), .val (.int p3), .val (.ref b3), .val (.ref b4), .val (.ref b5), .val (.int (23 : Int32)), .val (.int cnt), .val (.int xp)] [(.int xp), (.int (own_takes (1 : Int32) (1 : Int32) cnt))]) _
    refine XS.icmpNo X4.here hx rfl (hb hby at_547) rfl (teq hc547_7).2 ?_
    show own_S p e below T4 (mkF m 550 #[.val (.int p1), .val (.int p2), .val (.int p3), .val (.ref b3), .val (.ref b4), .val (.ref b5), .val (.int (23 : Int32)), .val (.int cnt), .val (.int xp)] []) _
    refine XS.iconst X4.here hx rfl (hb hby at_550) ?_
    show own_S p e below T4 (mkF m 551 #[.val (.int p1), .val (.int p2), .val (.int p3), .val (.ref b3), .val (.ref b4), .val (.ref b5), .val (.int (23 : Int32)), .val (.int cnt), .val (.int xp)] [(.int (1 : Int32))]) _
    refine XS.goto X4.here hx rfl (pc0 := 551) (pc' := 555) rfl (hb hby at_551) (by decide) (by decide) ?_
    exact kt)
  obtain ⟨fs, hr, hrun, hended, hW, hsame⟩ := X4.leave (v := some (.int (1 : Int32))) (fun h => by rw [hret] at h; cases h)
  refine ⟨_, _, id (kn8 _ (retN X4 hx (t := .boolean) hret (by simp) (hb hby at_555) hr)), hrun, hended, _, _, rfl, ?_, ⟨_, rfl⟩, hW, hsame.mono (by decide) (by decide)⟩
  show Q0 Z p1 p2 p3 w0 w1 w2 w3 w4 w5 w6 w7 w8 w9 w10 w11 w12 w13 w14 w15 w16 w17 w18 w19 w20 w21 w22 w23 w24 w25 w26 h0 n0 _ T4.heap _
  rw [eq4]
  exact ⟨rfl, Nf4⟩

set_option maxRecDepth 65536 in
set_option maxHeartbeats 40000000 in
theorem tail_24 {p : Program} {l : Launch} {e : Env} {s : State} {m : MethodId} {args : Array Value} {below : List Frame} {meth : Method} {c : Code} {T0 : State} {locs : List Loc} {Z : State} {a0 : Array Value} {h0 : Heap} {n0 : Nat} (p1 : Int32) (p2 : Int32) (p3 : Int32) (w0 : Addr) (w1 : Addr) (w2 : Addr) (w3 : Addr) (w4 : Addr) (w5 : Addr) (w6 : Addr) (w7 : Addr) (w8 : Addr) (w9 : Addr) (w10 : Addr) (w11 : Addr) (w12 : Addr) (w13 : Addr) (w14 : Addr) (w15 : Addr) (w16 : Addr) (w17 : Addr) (w18 : Addr) (w19 : Addr) (w20 : Addr) (w21 : Addr) (w22 : Addr) (w23 : Addr) (w24 : Addr) (w25 : Addr) (w26 : Addr) (b3 : Addr) (b4 : Addr) (b5 : Addr) (k3 : ClassId) (cnt : Int32) (xp : Int32)
    (X0 : Stand p l e room_1 s m args below meth c T0 locs 3 81) (hx : p.tables.exec = Jvm.exec) (hZ : Z.Warmed39 s.vm) (hw : ∀ d ∈ tables_1, d.before a0 Z = true) (hby : c.code = code) (hml : c.maxLocals = 9) (hown : s.vm.findClass "com/example/rowan/rowan/xpath/CoreFunctionTakesPinLaw" = some m.cls) (hret : meth.sig.returnType = some .boolean) (hlk : meth.locks = false) (e0 : T0.heap = h0) (Nf0 : Fr n0 locs) (Z0 : n0 ≤ h0.size) (O0 : Old Z n0 h0) (V3 : Arv Z h0 b3 k3 (.object "com/example/rowan/rowan/xpath/CoreFunction") (27 : Int32) ((.ref w0) :: (.ref w1) :: (.ref w2) :: (.ref w3) :: (.ref w4) :: (.ref w5) :: (.ref w6) :: (.ref w7) :: (.ref w8) :: (.ref w9) :: (.ref w10) :: (.ref w11) :: (.ref w12) :: (.ref w13) :: (.ref w14) :: (.ref w15) :: (.ref w16) :: (.ref w17) :: (.ref w18) :: (.ref w19) :: (.ref w20) :: (.ref w21) :: (.ref w22) :: (.ref w23) :: (.ref w24) :: (.ref w25) :: (.ref w26) :: []) .null) (E_w24 : Exa Z Z.heap w24 "com/example/rowan/rowan/xpath/CoreFunction$25") (Fa24 : Fld Z Z.heap w24 "com/example/rowan/rowan/xpath/CoreFunction" "minimumArguments" "I" (.int (1 : Int32))) (Fb24 : Fld Z Z.heap w24 "com/example/rowan/rowan/xpath/CoreFunction" "maximumArguments" "I" (.int (1 : Int32))) (hxp : xp = own_exp (1 : Int32) (1 : Int32) cnt) :
    ∃ s₂ o, Steps p.tables e below (T0.setTop (mkF m 536 #[.val (.int p1), .val (.int p2), .val (.int p3), .val (.ref b3), .val (.ref b4), .val (.ref b5), .val (.int (24 : Int32)), .val (.int cnt), .val (.int xp)] [])) s₂ ∧ s₂.status = .running ∧ Ended s₂ below o ∧ ∃ v L, o = .returned v ∧ Q0 Z p1 p2 p3 w0 w1 w2 w3 w4 w5 w6 w7 w8 w9 w10 w11 w12 w13 w14 w15 w16 w17 w18 w19 w20 w21 w22 w23 w24 w25 w26 h0 n0 v s₂.heap L ∧ FrameEnd s o s₂ L 16 256 := by
  have kn0 : ∀ t, own_S p e below T0 (mkF m 536 #[.val (.int p1), .val (.int p2), .val (.int p3), .val (.ref b3), .val (.ref b4), .val (.ref b5), .val (.int (24 : Int32)), .val (.int cnt), .val (.int xp)] []) t → own_S p e below T0 (mkF m 536 #[.val (.int p1), .val (.int p2), .val (.int p3), .val (.ref b3), .val (.ref b4), .val (.ref b5), .val (.int (24 : Int32)), .val (.int cnt), .val (.int xp)] []) t := fun t k => k
  have kn1 : ∀ t, own_S p e below T0 (mkF m 539 #[.val (.int p1), .val (.int p2), .val (.int p3), .val (.ref b3), .val (.ref b4), .val (.ref b5), .val (.int (24 : Int32)), .val (.int cnt), .val (.int xp)] [(.int (24 : Int32)), (.ref b3)]) t → own_S p e below T0 (mkF m 536 #[.val (.int p1), .val (.int p2), .val (.int p3), .val (.ref b3), .val (.ref b4), .val (.ref b5), .val (.int (24 : Int32)), .val (.int cnt), .val (.int xp)] []) t := fun t kt => kn0 t (by
    show own_S p e below T0 (mkF m 536 #[.val (.int p1), .val (.int p2), .val (.int p3), .val (.ref b3), .val (.ref b4), .val (.ref b5), .val (.int (24 : Int32)), .val (.int cnt), .val (.int xp)] []) _
    refine XS.aloadN X0.here hx rfl (hb hby at_536) rfl rfl ?_
    show own_S p e below T0 (mkF m 537 #[.val (.int p1), .val (.int p2), .val (.int p3), .val (.ref b3), .val (.ref b4), .val (.ref b5), .val (.int (24 : Int32)), .val (.int cnt), .val (.int xp)] [(.ref b3)]) _
    refine XS.iload X0.here hx rfl (hb hby at_537) rfl ?_
    exact kt)
  obtain ⟨cl2, Ar2, q2, Sz2, Ng2, Hs2, Gs2⟩ := id V3
  have hin2 : ¬ ((24 : Int32) < 0 ∨ cl2.slots.size ≤ ((24 : Int32)).toNatClampNeg) := inb_of Sz2 ⟨by decide, by decide⟩
  have hat2 : cl2.slots[((24 : Int32)).toNatClampNeg]? = some (.ref w24) := Hs2.at hin2 rfl
  have kn3 : ∀ t, own_S p e below T0 (mkF m 542 #[.val (.int p1), .val (.int p2), .val (.int p3), .val (.ref b3), .val (.ref b4), .val (.ref b5), .val (.int (24 : Int32)), .val (.int cnt), .val (.int xp)] [(.int cnt), (.ref w24)]) t → own_S p e below T0 (mkF m 536 #[.val (.int p1), .val (.int p2), .val (.int p3), .val (.ref b3), .val (.ref b4), .val (.ref b5), .val (.int (24 : Int32)), .val (.int cnt), .val (.int xp)] []) t := fun t kt => kn1 t (by
    show own_S p e below T0 (mkF m 539 #[.val (.int p1), .val (.int p2), .val (.int p3), .val (.ref b3), .val (.ref b4), .val (.ref b5), .val (.int (24 : Int32)), .val (.int cnt), .val (.int xp)] [(.int (24 : Int32)), (.ref b3)]) _
    refine X0.aaload hx (j := (24 : Int32)) (v := (.ref w24)) (by rw [e0]; exact Ar2.1) (State.isArrayOf_alike hZ.alike Ar2.2.1) rfl Ar2.2.2 hin2 hat2 (g := (mkF m 539 #[.val (.int p1), .val (.int p2), .val (.int p3), .val (.ref b3), .val (.ref b4), .val (.ref b5), .val (.int (24 : Int32)), .val (.int cnt), .val (.int xp)] [(.int (24 : Int32)), (.ref b3)])) rfl rfl (hb hby at_539) _ ?_
    show own_S p e below T0 (mkF m 540 #[.val (.int p1), .val (.int p2), .val (.int p3), .val (.ref b3), .val (.ref b4), .val (.ref b5), .val (.int (24 : Int32)), .val (.int cnt), .val (.int xp)] [(.ref w24)]) _
    refine XS.iload X0.here hx rfl (hb hby at_540) rfl ?_
    exact kt)
  obtain ⟨cq4, kq4, qa4, qb4, qc4⟩ := isOf hZ e0 (E_w24.ext O0.2)
  obtain ⟨_, _, ⟨T4, L4, cc4, ss4⟩, -, X4, ⟨Lc4, hQ4, l4, y4, z4⟩, st4⟩ := X0.virtualBack hx (y := (⟨"com/example/rowan/rowan/xpath/CoreFunction", "takes", "(I)Z"⟩ : MethodName)) (z := (⟨"com/example/rowan/rowan/xpath/CoreFunction", "takes", "(I)Z"⟩ : MethodName)) hown (mvT hZ (hw _ (List.mem_of_getElem? (i := 86) rfl))) (mvT hZ (hw _ (List.mem_of_getElem? (i := 87) rfl))) (notFace_of_selects (args := #[]) (mvT hZ (hw _ (List.mem_of_getElem? (i := 103) rfl)))) (mvT hZ (hw _ (List.mem_of_getElem? (i := 103) rfl))) (mvT hZ (hw _ (List.mem_of_getElem? (i := 88) rfl))) (by decide) (backOf (W := 0) (rm1 l Z a0 hw [] w24 cnt (1 : Int32) (1 : Int32) h0 n0 Z0 (Fa24.ext O0.2) (Fb24.ext O0.2)) hZ (hw _ (List.mem_of_getElem? (i := 90) rfl)) (hw _ (List.mem_of_getElem? (i := 3) rfl)) (by decide) (by decide)) qa4 qc4 (g := (mkF m 542 #[.val (.int p1), .val (.int p2), .val (.int p3), .val (.ref b3), .val (.ref b4), .val (.ref b5), .val (.int (24 : Int32)), .val (.int cnt), .val (.int xp)] [(.int cnt), (.ref w24)])) rfl (by rw [hml]; rfl) (Steps.refl _) (argsL := [(.int cnt)]) (rest := []) (lenOf pd_0 rfl) rfl (by show 2 * 0 + _ ≤ _; exact Nat.le_of_eq rfl) (hb hby at_542) (fun _ _ => ⟨rfl, e0, (by decide : 3 + 0 ≤ _), (by decide : 81 + 0 ≤ _)⟩)
  dsimp only [Pt.U, Pt.locs, Pt.cells, Pt.slots] at X4 l4 y4 z4 st4 hQ4
  subst l4 y4 z4
  have X4 : Stand p l e _ _ m _ below meth c T4 _ 3 81 := X4
  obtain ⟨rfl, Nq4, eq4⟩ := hQ4
  have Nf4 := Fr.app Nf0 Nq4
  have kn5 : ∀ t, own_S p e below T4 (mkF m 545 #[.val (.int p1), .val (.int p2), .val (.int p3), .val (.ref b3), .val (.ref b4), .val (.ref b5), .val (.int (24 : Int32)), .val (.int cnt), .val (.int xp)] [(.int (own_takes (1 : Int32) (1 : Int32) cnt))]) t → own_S p e below T0 (mkF m 536 #[.val (.int p1), .val (.int p2), .val (.int p3), .val (.ref b3), .val (.ref b4), .val (.ref b5), .val (.int (24 : Int32)), .val (.int cnt), .val (.int xp)] []) t := fun t kt => kn3 t (st4.trans kt)
  have kn6 : ∀ t, own_S p e below T4 (mkF m 547 #[.val (.int p1), .val (.int p2), .val (.int p3), .val (.ref b3), .val (.ref b4), .val (.ref b5), .val (.int (24 : Int32)), .val (.int cnt), .val (.int xp)] [(.int xp), (.int (own_takes (1 : Int32) (1 : Int32) cnt))]) t → own_S p e below T0 (mkF m 536 #[.val (.int p1), .val (.int p2), .val (.int p3), .val (.ref b3), .val (.ref b4), .val (.ref b5), .val (.int (24 : Int32)), .val (.int cnt), .val (.int xp)] []) t := fun t kt => kn5 t (by
    show own_S p e below T4 (mkF m 545 #[.val (.int p1), .val (.int p2), .val (.int p3), .val (.ref b3), .val (.ref b4), .val (.ref b5), .val (.int (24 : Int32)), .val (.int cnt), .val (.int xp)] [(.int (own_takes (1 : Int32) (1 : Int32) cnt))]) _
    refine XS.iload X4.here hx rfl (hb hby at_545) rfl ?_
    exact kt)
  have hc547_7 : (own_takes (1 : Int32) (1 : Int32) cnt) = xp := by rw [hxp]; exact own_te _ _ _
  have kn8 : ∀ t, own_S p e below T4 (mkF m 555 #[.val (.int p1), .val (.int p2), .val (.int p3), .val (.ref b3), .val (.ref b4), .val (.ref b5), .val (.int (24 : Int32)), .val (.int cnt), .val (.int xp)] [(.int (1 : Int32))]) t → own_S p e below T0 (mkF m 536 #[.val (.int p1), .val (.int p2), .val (.int p3), .val (.ref b3), .val (.ref b4), .val (.ref b5), .val (.int (24 : Int32)), .val (.int cnt), .val (.int xp)] []) t := fun t kt => kn6 t (by
    show own_S p e below T4 (mkF m 547 #[.val (.int p1), .val (.int p2), .val (.int p3), .val (.ref b3), .val (.ref b4), .val (.ref b5), .val (.int (24 : Int32)), .val (.int cnt), .val (.int xp)] [(.int xp), (.int (own_takes (1 : Int32) (1 : Int32) cnt))]) _
    refine XS.icmpNo X4.here hx rfl (hb hby at_547) rfl (teq hc547_7).2 ?_
    show own_S p e below T4 (mkF m 550 #[.val (.int p1), .val (.int p2), .val (.int p3), .val (.ref b3), .val (.ref b4), .val (.ref b5), .val (.int (24 : Int32)), .val (.int cnt), .val (.int xp)] []) _
    refine XS.iconst X4.here hx rfl (hb hby at_550) ?_
    show own_S p e below T4 (mkF m 551 #[.val (.int p1), .val (.int p2), .val (.int p3), .val (.ref b3), .val (.ref b4), .val (.ref b5), .val (.int (24 : Int32)), .val (.int cnt), .val (.int xp)] [(.int (1 : Int32))]) _
    refine XS.goto X4.here hx rfl (pc0 := 551) (pc' := 555) rfl (hb hby at_551) (by decide) (by decide) ?_
    exact kt)
  obtain ⟨fs, hr, hrun, hended, hW, hsame⟩ := X4.leave (v := some (.int (1 : Int32))) (fun h => by rw [hret] at h; cases h)
  refine ⟨_, _, id (kn8 _ (retN X4 hx (t := .boolean) hret (by simp) (hb hby at_555) hr)), hrun, hended, _, _, rfl, ?_, ⟨_, rfl⟩, hW, hsame.mono (by decide) (by decide)⟩
  show Q0 Z p1 p2 p3 w0 w1 w2 w3 w4 w5 w6 w7 w8 w9 w10 w11 w12 w13 w14 w15 w16 w17 w18 w19 w20 w21 w22 w23 w24 w25 w26 h0 n0 _ T4.heap _
  rw [eq4]
  exact ⟨rfl, Nf4⟩

set_option maxRecDepth 65536 in
set_option maxHeartbeats 40000000 in
theorem tail_25 {p : Program} {l : Launch} {e : Env} {s : State} {m : MethodId} {args : Array Value} {below : List Frame} {meth : Method} {c : Code} {T0 : State} {locs : List Loc} {Z : State} {a0 : Array Value} {h0 : Heap} {n0 : Nat} (p1 : Int32) (p2 : Int32) (p3 : Int32) (w0 : Addr) (w1 : Addr) (w2 : Addr) (w3 : Addr) (w4 : Addr) (w5 : Addr) (w6 : Addr) (w7 : Addr) (w8 : Addr) (w9 : Addr) (w10 : Addr) (w11 : Addr) (w12 : Addr) (w13 : Addr) (w14 : Addr) (w15 : Addr) (w16 : Addr) (w17 : Addr) (w18 : Addr) (w19 : Addr) (w20 : Addr) (w21 : Addr) (w22 : Addr) (w23 : Addr) (w24 : Addr) (w25 : Addr) (w26 : Addr) (b3 : Addr) (b4 : Addr) (b5 : Addr) (k3 : ClassId) (cnt : Int32) (xp : Int32)
    (X0 : Stand p l e room_1 s m args below meth c T0 locs 3 81) (hx : p.tables.exec = Jvm.exec) (hZ : Z.Warmed39 s.vm) (hw : ∀ d ∈ tables_1, d.before a0 Z = true) (hby : c.code = code) (hml : c.maxLocals = 9) (hown : s.vm.findClass "com/example/rowan/rowan/xpath/CoreFunctionTakesPinLaw" = some m.cls) (hret : meth.sig.returnType = some .boolean) (hlk : meth.locks = false) (e0 : T0.heap = h0) (Nf0 : Fr n0 locs) (Z0 : n0 ≤ h0.size) (O0 : Old Z n0 h0) (V3 : Arv Z h0 b3 k3 (.object "com/example/rowan/rowan/xpath/CoreFunction") (27 : Int32) ((.ref w0) :: (.ref w1) :: (.ref w2) :: (.ref w3) :: (.ref w4) :: (.ref w5) :: (.ref w6) :: (.ref w7) :: (.ref w8) :: (.ref w9) :: (.ref w10) :: (.ref w11) :: (.ref w12) :: (.ref w13) :: (.ref w14) :: (.ref w15) :: (.ref w16) :: (.ref w17) :: (.ref w18) :: (.ref w19) :: (.ref w20) :: (.ref w21) :: (.ref w22) :: (.ref w23) :: (.ref w24) :: (.ref w25) :: (.ref w26) :: []) .null) (E_w25 : Exa Z Z.heap w25 "com/example/rowan/rowan/xpath/CoreFunction$26") (Fa25 : Fld Z Z.heap w25 "com/example/rowan/rowan/xpath/CoreFunction" "minimumArguments" "I" (.int (1 : Int32))) (Fb25 : Fld Z Z.heap w25 "com/example/rowan/rowan/xpath/CoreFunction" "maximumArguments" "I" (.int (1 : Int32))) (hxp : xp = own_exp (1 : Int32) (1 : Int32) cnt) :
    ∃ s₂ o, Steps p.tables e below (T0.setTop (mkF m 536 #[.val (.int p1), .val (.int p2), .val (.int p3), .val (.ref b3), .val (.ref b4), .val (.ref b5), .val (.int (25 : Int32)), .val (.int cnt), .val (.int xp)] [])) s₂ ∧ s₂.status = .running ∧ Ended s₂ below o ∧ ∃ v L, o = .returned v ∧ Q0 Z p1 p2 p3 w0 w1 w2 w3 w4 w5 w6 w7 w8 w9 w10 w11 w12 w13 w14 w15 w16 w17 w18 w19 w20 w21 w22 w23 w24 w25 w26 h0 n0 v s₂.heap L ∧ FrameEnd s o s₂ L 16 256 := by
  have kn0 : ∀ t, own_S p e below T0 (mkF m 536 #[.val (.int p1), .val (.int p2), .val (.int p3), .val (.ref b3), .val (.ref b4), .val (.ref b5), .val (.int (25 : Int32)), .val (.int cnt), .val (.int xp)] []) t → own_S p e below T0 (mkF m 536 #[.val (.int p1), .val (.int p2), .val (.int p3), .val (.ref b3), .val (.ref b4), .val (.ref b5), .val (.int (25 : Int32)), .val (.int cnt), .val (.int xp)] []) t := fun t k => k
  have kn1 : ∀ t, own_S p e below T0 (mkF m 539 #[.val (.int p1), .val (.int p2), .val (.int p3), .val (.ref b3), .val (.ref b4), .val (.ref b5), .val (.int (25 : Int32)), .val (.int cnt), .val (.int xp)] [(.int (25 : Int32)), (.ref b3)]) t → own_S p e below T0 (mkF m 536 #[.val (.int p1), .val (.int p2), .val (.int p3), .val (.ref b3), .val (.ref b4), .val (.ref b5), .val (.int (25 : Int32)), .val (.int cnt), .val (.int xp)] []) t := fun t kt => kn0 t (by
    show own_S p e below T0 (mkF m 536 #[.val (.int p1), .val (.int p2), .val (.int p3), .val (.ref b3), .val (.ref b4), .val (.ref b5), .val (.int (25 : Int32)), .val (.int cnt), .val (.int xp)] []) _
    refine XS.aloadN X0.here hx rfl (hb hby at_536) rfl rfl ?_
    show own_S p e below T0 (mkF m 537 #[.val (.int p1), .val (.int p2), .val (.int p3), .val (.ref b3), .val (.ref b4), .val (.ref b5), .val (.int (25 : Int32)), .val (.int cnt), .val (.int xp)] [(.ref b3)]) _
    refine XS.iload X0.here hx rfl (hb hby at_537) rfl ?_
    exact kt)
  obtain ⟨cl2, Ar2, q2, Sz2, Ng2, Hs2, Gs2⟩ := id V3
  have hin2 : ¬ ((25 : Int32) < 0 ∨ cl2.slots.size ≤ ((25 : Int32)).toNatClampNeg) := inb_of Sz2 ⟨by decide, by decide⟩
  have hat2 : cl2.slots[((25 : Int32)).toNatClampNeg]? = some (.ref w25) := Hs2.at hin2 rfl
  have kn3 : ∀ t, own_S p e below T0 (mkF m 542 #[.val (.int p1), .val (.int p2), .val (.int p3), .val (.ref b3), .val (.ref b4), .val (.ref b5), .val (.int (25 : Int32)), .val (.int cnt), .val (.int xp)] [(.int cnt), (.ref w25)]) t → own_S p e below T0 (mkF m 536 #[.val (.int p1), .val (.int p2), .val (.int p3), .val (.ref b3), .val (.ref b4), .val (.ref b5), .val (.int (25 : Int32)), .val (.int cnt), .val (.int xp)] []) t := fun t kt => kn1 t (by
    show own_S p e below T0 (mkF m 539 #[.val (.int p1), .val (.int p2), .val (.int p3), .val (.ref b3), .val (.ref b4), .val (.ref b5), .val (.int (25 : Int32)), .val (.int cnt), .val (.int xp)] [(.int (25 : Int32)), (.ref b3)]) _
    refine X0.aaload hx (j := (25 : Int32)) (v := (.ref w25)) (by rw [e0]; exact Ar2.1) (State.isArrayOf_alike hZ.alike Ar2.2.1) rfl Ar2.2.2 hin2 hat2 (g := (mkF m 539 #[.val (.int p1), .val (.int p2), .val (.int p3), .val (.ref b3), .val (.ref b4), .val (.ref b5), .val (.int (25 : Int32)), .val (.int cnt), .val (.int xp)] [(.int (25 : Int32)), (.ref b3)])) rfl rfl (hb hby at_539) _ ?_
    show own_S p e below T0 (mkF m 540 #[.val (.int p1), .val (.int p2), .val (.int p3), .val (.ref b3), .val (.ref b4), .val (.ref b5), .val (.int (25 : Int32)), .val (.int cnt), .val (.int xp)] [(.ref w25)]) _
    refine XS.iload X0.here hx rfl (hb hby at_540) rfl ?_
    exact kt)
  obtain ⟨cq4, kq4, qa4, qb4, qc4⟩ := isOf hZ e0 (E_w25.ext O0.2)
  obtain ⟨_, _, ⟨T4, L4, cc4, ss4⟩, -, X4, ⟨Lc4, hQ4, l4, y4, z4⟩, st4⟩ := X0.virtualBack hx (y := (⟨"com/example/rowan/rowan/xpath/CoreFunction", "takes", "(I)Z"⟩ : MethodName)) (z := (⟨"com/example/rowan/rowan/xpath/CoreFunction", "takes", "(I)Z"⟩ : MethodName)) hown (mvT hZ (hw _ (List.mem_of_getElem? (i := 86) rfl))) (mvT hZ (hw _ (List.mem_of_getElem? (i := 87) rfl))) (notFace_of_selects (args := #[]) (mvT hZ (hw _ (List.mem_of_getElem? (i := 127) rfl)))) (mvT hZ (hw _ (List.mem_of_getElem? (i := 127) rfl))) (mvT hZ (hw _ (List.mem_of_getElem? (i := 88) rfl))) (by decide) (backOf (W := 0) (rm1 l Z a0 hw [] w25 cnt (1 : Int32) (1 : Int32) h0 n0 Z0 (Fa25.ext O0.2) (Fb25.ext O0.2)) hZ (hw _ (List.mem_of_getElem? (i := 90) rfl)) (hw _ (List.mem_of_getElem? (i := 3) rfl)) (by decide) (by decide)) qa4 qc4 (g := (mkF m 542 #[.val (.int p1), .val (.int p2), .val (.int p3), .val (.ref b3), .val (.ref b4), .val (.ref b5), .val (.int (25 : Int32)), .val (.int cnt), .val (.int xp)] [(.int cnt), (.ref w25)])) rfl (by rw [hml]; rfl) (Steps.refl _) (argsL := [(.int cnt)]) (rest := []) (lenOf pd_0 rfl) rfl (by show 2 * 0 + _ ≤ _; exact Nat.le_of_eq rfl) (hb hby at_542) (fun _ _ => ⟨rfl, e0, (by decide : 3 + 0 ≤ _), (by decide : 81 + 0 ≤ _)⟩)
  dsimp only [Pt.U, Pt.locs, Pt.cells, Pt.slots] at X4 l4 y4 z4 st4 hQ4
  subst l4 y4 z4
  have X4 : Stand p l e _ _ m _ below meth c T4 _ 3 81 := X4
  obtain ⟨rfl, Nq4, eq4⟩ := hQ4
  have Nf4 := Fr.app Nf0 Nq4
  have kn5 : ∀ t, own_S p e below T4 (mkF m 545 #[.val (.int p1), .val (.int p2), .val (.int p3), .val (.ref b3), .val (.ref b4), .val (.ref b5), .val (.int (25 : Int32)), .val (.int cnt), .val (.int xp)] [(.int (own_takes (1 : Int32) (1 : Int32) cnt))]) t → own_S p e below T0 (mkF m 536 #[.val (.int p1), .val (.int p2), .val (.int p3), .val (.ref b3), .val (.ref b4), .val (.ref b5), .val (.int (25 : Int32)), .val (.int cnt), .val (.int xp)] []) t := fun t kt => kn3 t (st4.trans kt)
  have kn6 : ∀ t, own_S p e below T4 (mkF m 547 #[.val (.int p1), .val (.int p2), .val (.int p3), .val (.ref b3), .val (.ref b4), .val (.ref b5), .val (.int (25 : Int32)), .val (.int cnt), .val (.int xp)] [(.int xp), (.int (own_takes (1 : Int32) (1 : Int32) cnt))]) t → own_S p e below T0 (mkF m 536 #[.val (.int p1), .val (.int p2), .val (.int p3), .val (.ref b3), .val (.ref b4), .val (.ref b5), .val (.int (25 : Int32)), .val (.int cnt), .val (.int xp)] []) t := fun t kt => kn5 t (by
    show own_S p e below T4 (mkF m 545 #[.val (.int p1), .val (.int p2), .val (.int p3), .val (.ref b3), .val (.ref b4), .val (.ref b5), .val (.int (25 : Int32)), .val (.int cnt), .val (.int xp)] [(.int (own_takes (1 : Int32) (1 : Int32) cnt))]) _
    refine XS.iload X4.here hx rfl (hb hby at_545) rfl ?_
    exact kt)
  have hc547_7 : (own_takes (1 : Int32) (1 : Int32) cnt) = xp := by rw [hxp]; exact own_te _ _ _
  have kn8 : ∀ t, own_S p e below T4 (mkF m 555 #[.val (.int p1), .val (.int p2), .val (.int p3), .val (.ref b3), .val (.ref b4), .val (.ref b5), .val (.int (25 : Int32)), .val (.int cnt), .val (.int xp)] [(.int (1 : Int32))]) t → own_S p e below T0 (mkF m 536 #[.val (.int p1), .val (.int p2), .val (.int p3), .val (.ref b3), .val (.ref b4), .val (.ref b5), .val (.int (25 : Int32)), .val (.int cnt), .val (.int xp)] []) t := fun t kt => kn6 t (by
    show own_S p e below T4 (mkF m 547 #[.val (.int p1), .val (.int p2), .val (.int p3), .val (.ref b3), .val (.ref b4), .val (.ref b5), .val (.int (25 : Int32)), .val (.int cnt), .val (.int xp)] [(.int xp), (.int (own_takes (1 : Int32) (1 : Int32) cnt))]) _
    refine XS.icmpNo X4.here hx rfl (hb hby at_547) rfl (teq hc547_7).2 ?_
    show own_S p e below T4 (mkF m 550 #[.val (.int p1), .val (.int p2), .val (.int p3), .val (.ref b3), .val (.ref b4), .val (.ref b5), .val (.int (25 : Int32)), .val (.int cnt), .val (.int xp)] []) _
    refine XS.iconst X4.here hx rfl (hb hby at_550) ?_
    show own_S p e below T4 (mkF m 551 #[.val (.int p1), .val (.int p2), .val (.int p3), .val (.ref b3), .val (.ref b4), .val (.ref b5), .val (.int (25 : Int32)), .val (.int cnt), .val (.int xp)] [(.int (1 : Int32))]) _
    refine XS.goto X4.here hx rfl (pc0 := 551) (pc' := 555) rfl (hb hby at_551) (by decide) (by decide) ?_
    exact kt)
  obtain ⟨fs, hr, hrun, hended, hW, hsame⟩ := X4.leave (v := some (.int (1 : Int32))) (fun h => by rw [hret] at h; cases h)
  refine ⟨_, _, id (kn8 _ (retN X4 hx (t := .boolean) hret (by simp) (hb hby at_555) hr)), hrun, hended, _, _, rfl, ?_, ⟨_, rfl⟩, hW, hsame.mono (by decide) (by decide)⟩
  show Q0 Z p1 p2 p3 w0 w1 w2 w3 w4 w5 w6 w7 w8 w9 w10 w11 w12 w13 w14 w15 w16 w17 w18 w19 w20 w21 w22 w23 w24 w25 w26 h0 n0 _ T4.heap _
  rw [eq4]
  exact ⟨rfl, Nf4⟩

set_option maxRecDepth 65536 in
set_option maxHeartbeats 40000000 in
theorem tail_26 {p : Program} {l : Launch} {e : Env} {s : State} {m : MethodId} {args : Array Value} {below : List Frame} {meth : Method} {c : Code} {T0 : State} {locs : List Loc} {Z : State} {a0 : Array Value} {h0 : Heap} {n0 : Nat} (p1 : Int32) (p2 : Int32) (p3 : Int32) (w0 : Addr) (w1 : Addr) (w2 : Addr) (w3 : Addr) (w4 : Addr) (w5 : Addr) (w6 : Addr) (w7 : Addr) (w8 : Addr) (w9 : Addr) (w10 : Addr) (w11 : Addr) (w12 : Addr) (w13 : Addr) (w14 : Addr) (w15 : Addr) (w16 : Addr) (w17 : Addr) (w18 : Addr) (w19 : Addr) (w20 : Addr) (w21 : Addr) (w22 : Addr) (w23 : Addr) (w24 : Addr) (w25 : Addr) (w26 : Addr) (b3 : Addr) (b4 : Addr) (b5 : Addr) (k3 : ClassId) (cnt : Int32) (xp : Int32)
    (X0 : Stand p l e room_1 s m args below meth c T0 locs 3 81) (hx : p.tables.exec = Jvm.exec) (hZ : Z.Warmed39 s.vm) (hw : ∀ d ∈ tables_1, d.before a0 Z = true) (hby : c.code = code) (hml : c.maxLocals = 9) (hown : s.vm.findClass "com/example/rowan/rowan/xpath/CoreFunctionTakesPinLaw" = some m.cls) (hret : meth.sig.returnType = some .boolean) (hlk : meth.locks = false) (e0 : T0.heap = h0) (Nf0 : Fr n0 locs) (Z0 : n0 ≤ h0.size) (O0 : Old Z n0 h0) (V3 : Arv Z h0 b3 k3 (.object "com/example/rowan/rowan/xpath/CoreFunction") (27 : Int32) ((.ref w0) :: (.ref w1) :: (.ref w2) :: (.ref w3) :: (.ref w4) :: (.ref w5) :: (.ref w6) :: (.ref w7) :: (.ref w8) :: (.ref w9) :: (.ref w10) :: (.ref w11) :: (.ref w12) :: (.ref w13) :: (.ref w14) :: (.ref w15) :: (.ref w16) :: (.ref w17) :: (.ref w18) :: (.ref w19) :: (.ref w20) :: (.ref w21) :: (.ref w22) :: (.ref w23) :: (.ref w24) :: (.ref w25) :: (.ref w26) :: []) .null) (E_w26 : Exa Z Z.heap w26 "com/example/rowan/rowan/xpath/CoreFunction$27") (Fa26 : Fld Z Z.heap w26 "com/example/rowan/rowan/xpath/CoreFunction" "minimumArguments" "I" (.int (1 : Int32))) (Fb26 : Fld Z Z.heap w26 "com/example/rowan/rowan/xpath/CoreFunction" "maximumArguments" "I" (.int (1 : Int32))) (hxp : xp = own_exp (1 : Int32) (1 : Int32) cnt) :
    ∃ s₂ o, Steps p.tables e below (T0.setTop (mkF m 536 #[.val (.int p1), .val (.int p2), .val (.int p3), .val (.ref b3), .val (.ref b4), .val (.ref b5), .val (.int (26 : Int32)), .val (.int cnt), .val (.int xp)] [])) s₂ ∧ s₂.status = .running ∧ Ended s₂ below o ∧ ∃ v L, o = .returned v ∧ Q0 Z p1 p2 p3 w0 w1 w2 w3 w4 w5 w6 w7 w8 w9 w10 w11 w12 w13 w14 w15 w16 w17 w18 w19 w20 w21 w22 w23 w24 w25 w26 h0 n0 v s₂.heap L ∧ FrameEnd s o s₂ L 16 256 := by
  have kn0 : ∀ t, own_S p e below T0 (mkF m 536 #[.val (.int p1), .val (.int p2), .val (.int p3), .val (.ref b3), .val (.ref b4), .val (.ref b5), .val (.int (26 : Int32)), .val (.int cnt), .val (.int xp)] []) t → own_S p e below T0 (mkF m 536 #[.val (.int p1), .val (.int p2), .val (.int p3), .val (.ref b3), .val (.ref b4), .val (.ref b5), .val (.int (26 : Int32)), .val (.int cnt), .val (.int xp)] []) t := fun t k => k
  have kn1 : ∀ t, own_S p e below T0 (mkF m 539 #[.val (.int p1), .val (.int p2), .val (.int p3), .val (.ref b3), .val (.ref b4), .val (.ref b5), .val (.int (26 : Int32)), .val (.int cnt), .val (.int xp)] [(.int (26 : Int32)), (.ref b3)]) t → own_S p e below T0 (mkF m 536 #[.val (.int p1), .val (.int p2), .val (.int p3), .val (.ref b3), .val (.ref b4), .val (.ref b5), .val (.int (26 : Int32)), .val (.int cnt), .val (.int xp)] []) t := fun t kt => kn0 t (by
    show own_S p e below T0 (mkF m 536 #[.val (.int p1), .val (.int p2), .val (.int p3), .val (.ref b3), .val (.ref b4), .val (.ref b5), .val (.int (26 : Int32)), .val (.int cnt), .val (.int xp)] []) _
    refine XS.aloadN X0.here hx rfl (hb hby at_536) rfl rfl ?_
    show own_S p e below T0 (mkF m 537 #[.val (.int p1), .val (.int p2), .val (.int p3), .val (.ref b3), .val (.ref b4), .val (.ref b5), .val (.int (26 : Int32)), .val (.int cnt), .val (.int xp)] [(.ref b3)]) _
    refine XS.iload X0.here hx rfl (hb hby at_537) rfl ?_
    exact kt)
  obtain ⟨cl2, Ar2, q2, Sz2, Ng2, Hs2, Gs2⟩ := id V3
  have hin2 : ¬ ((26 : Int32) < 0 ∨ cl2.slots.size ≤ ((26 : Int32)).toNatClampNeg) := inb_of Sz2 ⟨by decide, by decide⟩
  have hat2 : cl2.slots[((26 : Int32)).toNatClampNeg]? = some (.ref w26) := Hs2.at hin2 rfl
  have kn3 : ∀ t, own_S p e below T0 (mkF m 542 #[.val (.int p1), .val (.int p2), .val (.int p3), .val (.ref b3), .val (.ref b4), .val (.ref b5), .val (.int (26 : Int32)), .val (.int cnt), .val (.int xp)] [(.int cnt), (.ref w26)]) t → own_S p e below T0 (mkF m 536 #[.val (.int p1), .val (.int p2), .val (.int p3), .val (.ref b3), .val (.ref b4), .val (.ref b5), .val (.int (26 : Int32)), .val (.int cnt), .val (.int xp)] []) t := fun t kt => kn1 t (by
    show own_S p e below T0 (mkF m 539 #[.val (.int p1), .val (.int p2), .val (.int p3), .val (.ref b3), .val (.ref b4), .val (.ref b5), .val (.int (26 : Int32)), .val (.int cnt), .val (.int xp)] [(.int (26 : Int32)), (.ref b3)]) _
    refine X0.aaload hx (j := (26 : Int32)) (v := (.ref w26)) (by rw [e0]; exact Ar2.1) (State.isArrayOf_alike hZ.alike Ar2.2.1) rfl Ar2.2.2 hin2 hat2 (g := (mkF m 539 #[.val (.int p1), .val (.int p2), .val (.int p3), .val (.ref b3), .val (.ref b4), .val (.ref b5), .val (.int (26 : Int32)), .val (.int cnt), .val (.int xp)] [(.int (26 : Int32)), (.ref b3)])) rfl rfl (hb hby at_539) _ ?_
    show own_S p e below T0 (mkF m 540 #[.val (.int p1), .val (.int p2), .val (.int p3), .val (.ref b3), .val (.ref b4), .val (.ref b5), .val (.int (26 : Int32)), .val (.int cnt), .val (.int xp)] [(.ref w26)]) _
    refine XS.iload X0.here hx rfl (hb hby at_540) rfl ?_
    exact kt)
  obtain ⟨cq4, kq4, qa4, qb4, qc4⟩ := isOf hZ e0 (E_w26.ext O0.2)
  obtain ⟨_, _, ⟨T4, L4, cc4, ss4⟩, -, X4, ⟨Lc4, hQ4, l4, y4, z4⟩, st4⟩ := X0.virtualBack hx (y := (⟨"com/example/rowan/rowan/xpath/CoreFunction", "takes", "(I)Z"⟩ : MethodName)) (z := (⟨"com/example/rowan/rowan/xpath/CoreFunction", "takes", "(I)Z"⟩ : MethodName)) hown (mvT hZ (hw _ (List.mem_of_getElem? (i := 86) rfl))) (mvT hZ (hw _ (List.mem_of_getElem? (i := 87) rfl))) (notFace_of_selects (args := #[]) (mvT hZ (hw _ (List.mem_of_getElem? (i := 146) rfl)))) (mvT hZ (hw _ (List.mem_of_getElem? (i := 146) rfl))) (mvT hZ (hw _ (List.mem_of_getElem? (i := 88) rfl))) (by decide) (backOf (W := 0) (rm1 l Z a0 hw [] w26 cnt (1 : Int32) (1 : Int32) h0 n0 Z0 (Fa26.ext O0.2) (Fb26.ext O0.2)) hZ (hw _ (List.mem_of_getElem? (i := 90) rfl)) (hw _ (List.mem_of_getElem? (i := 3) rfl)) (by decide) (by decide)) qa4 qc4 (g := (mkF m 542 #[.val (.int p1), .val (.int p2), .val (.int p3), .val (.ref b3), .val (.ref b4), .val (.ref b5), .val (.int (26 : Int32)), .val (.int cnt), .val (.int xp)] [(.int cnt), (.ref w26)])) rfl (by rw [hml]; rfl) (Steps.refl _) (argsL := [(.int cnt)]) (rest := []) (lenOf pd_0 rfl) rfl (by show 2 * 0 + _ ≤ _; exact Nat.le_of_eq rfl) (hb hby at_542) (fun _ _ => ⟨rfl, e0, (by decide : 3 + 0 ≤ _), (by decide : 81 + 0 ≤ _)⟩)
  dsimp only [Pt.U, Pt.locs, Pt.cells, Pt.slots] at X4 l4 y4 z4 st4 hQ4
  subst l4 y4 z4
  have X4 : Stand p l e _ _ m _ below meth c T4 _ 3 81 := X4
  obtain ⟨rfl, Nq4, eq4⟩ := hQ4
  have Nf4 := Fr.app Nf0 Nq4
  have kn5 : ∀ t, own_S p e below T4 (mkF m 545 #[.val (.int p1), .val (.int p2), .val (.int p3), .val (.ref b3), .val (.ref b4), .val (.ref b5), .val (.int (26 : Int32)), .val (.int cnt), .val (.int xp)] [(.int (own_takes (1 : Int32) (1 : Int32) cnt))]) t → own_S p e below T0 (mkF m 536 #[.val (.int p1), .val (.int p2), .val (.int p3), .val (.ref b3), .val (.ref b4), .val (.ref b5), .val (.int (26 : Int32)), .val (.int cnt), .val (.int xp)] []) t := fun t kt => kn3 t (st4.trans kt)
  have kn6 : ∀ t, own_S p e below T4 (mkF m 547 #[.val (.int p1), .val (.int p2), .val (.int p3), .val (.ref b3), .val (.ref b4), .val (.ref b5), .val (.int (26 : Int32)), .val (.int cnt), .val (.int xp)] [(.int xp), (.int (own_takes (1 : Int32) (1 : Int32) cnt))]) t → own_S p e below T0 (mkF m 536 #[.val (.int p1), .val (.int p2), .val (.int p3), .val (.ref b3), .val (.ref b4), .val (.ref b5), .val (.int (26 : Int32)), .val (.int cnt), .val (.int xp)] []) t := fun t kt => kn5 t (by
    show own_S p e below T4 (mkF m 545 #[.val (.int p1), .val (.int p2), .val (.int p3), .val (.ref b3), .val (.ref b4), .val (.ref b5), .val (.int (26 : Int32)), .val (.int cnt), .val (.int xp)] [(.int (own_takes (1 : Int32) (1 : Int32) cnt))]) _
    refine XS.iload X4.here hx rfl (hb hby at_545) rfl ?_
    exact kt)
  have hc547_7 : (own_takes (1 : Int32) (1 : Int32) cnt) = xp := by rw [hxp]; exact own_te _ _ _
  have kn8 : ∀ t, own_S p e below T4 (mkF m 555 #[.val (.int p1), .val (.int p2), .val (.int p3), .val (.ref b3), .val (.ref b4), .val (.ref b5), .val (.int (26 : Int32)), .val (.int cnt), .val (.int xp)] [(.int (1 : Int32))]) t → own_S p e below T0 (mkF m 536 #[.val (.int p1), .val (.int p2), .val (.int p3), .val (.ref b3), .val (.ref b4), .val (.ref b5), .val (.int (26 : Int32)), .val (.int cnt), .val (.int xp)] []) t := fun t kt => kn6 t (by
    show own_S p e below T4 (mkF m 547 #[.val (.int p1), .val (.int p2), .val (.int p3), .val (.ref b3), .val (.ref b4), .val (.ref b5), .val (.int (26 : Int32)), .val (.int cnt), .val (.int xp)] [(.int xp), (.int (own_takes (1 : Int32) (1 : Int32) cnt))]) _
    refine XS.icmpNo X4.here hx rfl (hb hby at_547) rfl (teq hc547_7).2 ?_
    show own_S p e below T4 (mkF m 550 #[.val (.int p1), .val (.int p2), .val (.int p3), .val (.ref b3), .val (.ref b4), .val (.ref b5), .val (.int (26 : Int32)), .val (.int cnt), .val (.int xp)] []) _
    refine XS.iconst X4.here hx rfl (hb hby at_550) ?_
    show own_S p e below T4 (mkF m 551 #[.val (.int p1), .val (.int p2), .val (.int p3), .val (.ref b3), .val (.ref b4), .val (.ref b5), .val (.int (26 : Int32)), .val (.int cnt), .val (.int xp)] [(.int (1 : Int32))]) _
    refine XS.goto X4.here hx rfl (pc0 := 551) (pc' := 555) rfl (hb hby at_551) (by decide) (by decide) ?_
    exact kt)
  obtain ⟨fs, hr, hrun, hended, hW, hsame⟩ := X4.leave (v := some (.int (1 : Int32))) (fun h => by rw [hret] at h; cases h)
  refine ⟨_, _, id (kn8 _ (retN X4 hx (t := .boolean) hret (by simp) (hb hby at_555) hr)), hrun, hended, _, _, rfl, ?_, ⟨_, rfl⟩, hW, hsame.mono (by decide) (by decide)⟩
  show Q0 Z p1 p2 p3 w0 w1 w2 w3 w4 w5 w6 w7 w8 w9 w10 w11 w12 w13 w14 w15 w16 w17 w18 w19 w20 w21 w22 w23 w24 w25 w26 h0 n0 _ T4.heap _
  rw [eq4]
  exact ⟨rfl, Nf4⟩

theorem pn_1 : plainName "com/example/rowan/rowan/xpath/CoreFunctionTakesPinLaw" = true := by first | (simp [plainName, overriddenIn]; done) | decide +kernel
theorem ef_rm0 (m : MethodId) (x0 : Int32) (x1 : Int32) (x2 : Int32) : entryFrame m #[(.int x0), (.int x1), (.int x2)] maxLocals = mkF m 0 #[.val (.int x0), .val (.int x1), .val (.int x2), .unset, .unset, .unset, .unset, .unset, .unset] [] := by first | (simp [entryFrame, mkF, argsToLocals, Value.category, maxLocals]; done) | rfl
-- (Q0 stands above)
set_option maxRecDepth 65536 in
set_option maxHeartbeats 40000000 in
theorem rm0 (l : Launch) (Z : State) (a0 : Array Value) (hw : ∀ d ∈ tables_1, d.before a0 Z = true) (ws : List Jvm.Cond) (p1 : Int32) (p2 : Int32) (p3 : Int32) (w0 : Addr) (w1 : Addr) (w2 : Addr) (w3 : Addr) (w4 : Addr) (w5 : Addr) (w6 : Addr) (w7 : Addr) (w8 : Addr) (w9 : Addr) (w10 : Addr) (w11 : Addr) (w12 : Addr) (w13 : Addr) (w14 : Addr) (w15 : Addr) (w16 : Addr) (w17 : Addr) (w18 : Addr) (w19 : Addr) (w20 : Addr) (w21 : Addr) (w22 : Addr) (w23 : Addr) (w24 : Addr) (w25 : Addr) (w26 : Addr) (h0 : Heap) (n0 : Nat) (Z0 : n0 ≤ h0.size) (O0 : Old Z n0 h0) (S0 : Sta Z Z.heap "com/example/rowan/rowan/xpath/CoreFunction" "LAST" "Lcom/example/rowan/rowan/xpath/CoreFunction;" (.ref w0)) (E_w0 : Exa Z Z.heap w0 "com/example/rowan/rowan/xpath/CoreFunction$1") (Fa0 : Fld Z Z.heap w0 "com/example/rowan/rowan/xpath/CoreFunction" "minimumArguments" "I" (.int (0 : Int32))) (Fb0 : Fld Z Z.heap w0 "com/example/rowan/rowan/xpath/CoreFunction" "maximumArguments" "I" (.int (0 : Int32))) (S1 : Sta Z Z.heap "com/example/rowan/rowan/xpath/CoreFunction" "POSITION" "Lcom/example/rowan/rowan/xpath/CoreFunction;" (.ref w1)) (E_w1 : Exa Z Z.heap w1 "com/example/rowan/rowan/xpath/CoreFunction$2") (Fa1 : Fld Z Z.heap w1 "com/example/rowan/rowan/xpath/CoreFunction" "minimumArguments" "I" (.int (0 : Int32))) (Fb1 : Fld Z Z.heap w1 "com/example/rowan/rowan/xpath/CoreFunction" "maximumArguments" "I" (.int (0 : Int32))) (S2 : Sta Z Z.heap "com/example/rowan/rowan/xpath/CoreFunction" "COUNT" "Lcom/example/rowan/rowan/xpath/CoreFunction;" (.ref w2)) (E_w2 : Exa Z Z.heap w2 "com/example/rowan/rowan/xpath/CoreFunction$3") (Fa2 : Fld Z Z.heap w2 "com/example/rowan/rowan/xpath/CoreFunction" "minimumArguments" "I" (.int (1 : Int32))) (Fb2 : Fld Z Z.heap w2 "com/example/rowan/rowan/xpath/CoreFunction" "maximumArguments" "I" (.int (1 : Int32))) (S3 : Sta Z Z.heap "com/example/rowan/rowan/xpath/CoreFunction" "ID" "Lcom/example/rowan/rowan/xpath/CoreFunction;" (.ref w3)) (E_w3 : Exa Z Z.heap w3 "com/example/rowan/rowan/xpath/CoreFunction$4") (Fa3 : Fld Z Z.heap w3 "com/example/rowan/rowan/xpath/CoreFunction" "minimumArguments" "I" (.int (1 : Int32))) (Fb3 : Fld Z Z.heap w3 "com/example/rowan/rowan/xpath/CoreFunction" "maximumArguments" "I" (.int (1 : Int32))) (S4 : Sta Z Z.heap "com/example/rowan/rowan/xpath/CoreFunction" "LOCAL_NAME" "Lcom/example/rowan/rowan/xpath/CoreFunction;" (.ref w4)) (E_w4 : Exa Z Z.heap w4 "com/example/rowan/rowan/xpath/CoreFunction$5") (Fa4 : Fld Z Z.heap w4 "com/example/rowan/rowan/xpath/CoreFunction" "minimumArguments" "I" (.int (0 : Int32))) (Fb4 : Fld Z Z.heap w4 "com/example/rowan/rowan/xpath/CoreFunction" "maximumArguments" "I" (.int (1 : Int32))) (S5 : Sta Z Z.heap "com/example/rowan/rowan/xpath/CoreFunction" "NAMESPACE_URI" "Lcom/example/rowan/rowan/xpath/CoreFunction;" (.ref w5)) (E_w5 : Exa Z Z.heap w5 "com/example/rowan/rowan/xpath/CoreFunction$6") (Fa5 : Fld Z Z.heap w5 "com/example/rowan/rowan/xpath/CoreFunction" "minimumArguments" "I" (.int (0 : Int32))) (Fb5 : Fld Z Z.heap w5 "com/example/rowan/rowan/xpath/CoreFunction" "maximumArguments" "I" (.int (1 : Int32))) (S6 : Sta Z Z.heap "com/example/rowan/rowan/xpath/CoreFunction" "NAME" "Lcom/example/rowan/rowan/xpath/CoreFunction;" (.ref w6)) (E_w6 : Exa Z Z.heap w6 "com/example/rowan/rowan/xpath/CoreFunction$7") (Fa6 : Fld Z Z.heap w6 "com/example/rowan/rowan/xpath/CoreFunction" "minimumArguments" "I" (.int (0 : Int32))) (Fb6 : Fld Z Z.heap w6 "com/example/rowan/rowan/xpath/CoreFunction" "maximumArguments" "I" (.int (1 : Int32))) (S7 : Sta Z Z.heap "com/example/rowan/rowan/xpath/CoreFunction" "STRING" "Lcom/example/rowan/rowan/xpath/CoreFunction;" (.ref w7)) (E_w7 : Exa Z Z.heap w7 "com/example/rowan/rowan/xpath/CoreFunction$8") (Fa7 : Fld Z Z.heap w7 "com/example/rowan/rowan/xpath/CoreFunction" "minimumArguments" "I" (.int (0 : Int32))) (Fb7 : Fld Z Z.heap w7 "com/example/rowan/rowan/xpath/CoreFunction" "maximumArguments" "I" (.int (1 : Int32))) (S8 : Sta Z Z.heap "com/example/rowan/rowan/xpath/CoreFunction" "CONCAT" "Lcom/example/rowan/rowan/xpath/CoreFunction;" (.ref w8)) (E_w8 : Exa Z Z.heap w8 "com/example/rowan/rowan/xpath/CoreFunction$9") (Fa8 : Fld Z Z.heap w8 "com/example/rowan/rowan/xpath/CoreFunction" "minimumArguments" "I" (.int (2 : Int32))) (Fb8 : Fld Z Z.heap w8 "com/example/rowan/rowan/xpath/CoreFunction" "maximumArguments" "I" (.int (2147483647 : Int32))) (S9 : Sta Z Z.heap "com/example/rowan/rowan/xpath/CoreFunction" "STARTS_WITH" "Lcom/example/rowan/rowan/xpath/CoreFunction;" (.ref w9)) (E_w9 : Exa Z Z.heap w9 "com/example/rowan/rowan/xpath/CoreFunction$10") (Fa9 : Fld Z Z.heap w9 "com/example/rowan/rowan/xpath/CoreFunction" "minimumArguments" "I" (.int (2 : Int32))) (Fb9 : Fld Z Z.heap w9 "com/example/rowan/rowan/xpath/CoreFunction" "maximumArguments" "I" (.int (2 : Int32))) (S10 : Sta Z Z.heap "com/example/rowan/rowan/xpath/CoreFunction" "CONTAINS" "Lcom/example/rowan/rowan/xpath/CoreFunction;" (.ref w10)) (E_w10 : Exa Z Z.heap w10 "com/example/rowan/rowan/xpath/CoreFunction$11") (Fa10 : Fld Z Z.heap w10 "com/example/rowan/rowan/xpath/CoreFunction" "minimumArguments" "I" (.int (2 : Int32))) (Fb10 : Fld Z Z.heap w10 "com/example/rowan/rowan/xpath/CoreFunction" "maximumArguments" "I" (.int (2 : Int32))) (S11 : Sta Z Z.heap "com/example/rowan/rowan/xpath/CoreFunction" "SUBSTRING_BEFORE" "Lcom/example/rowan/rowan/xpath/CoreFunction;" (.ref w11)) (E_w11 : Exa Z Z.heap w11 "com/example/rowan/rowan/xpath/CoreFunction$12") (Fa11 : Fld Z Z.heap w11 "com/example/rowan/rowan/xpath/CoreFunction" "minimumArguments" "I" (.int (2 : Int32))) (Fb11 : Fld Z Z.heap w11 "com/example/rowan/rowan/xpath/CoreFunction" "maximumArguments" "I" (.int (2 : Int32))) (S12 : Sta Z Z.heap "com/example/rowan/rowan/xpath/CoreFunction" "SUBSTRING_AFTER" "Lcom/example/rowan/rowan/xpath/CoreFunction;" (.ref w12)) (E_w12 : Exa Z Z.heap w12 "com/example/rowan/rowan/xpath/CoreFunction$13") (Fa12 : Fld Z Z.heap w12 "com/example/rowan/rowan/xpath/CoreFunction" "minimumArguments" "I" (.int (2 : Int32))) (Fb12 : Fld Z Z.heap w12 "com/example/rowan/rowan/xpath/CoreFunction" "maximumArguments" "I" (.int (2 : Int32))) (S13 : Sta Z Z.heap "com/example/rowan/rowan/xpath/CoreFunction" "SUBSTRING" "Lcom/example/rowan/rowan/xpath/CoreFunction;" (.ref w13)) (E_w13 : Exa Z Z.heap w13 "com/example/rowan/rowan/xpath/CoreFunction$14") (Fa13 : Fld Z Z.heap w13 "com/example/rowan/rowan/xpath/CoreFunction" "minimumArguments" "I" (.int (2 : Int32))) (Fb13 : Fld Z Z.heap w13 "com/example/rowan/rowan/xpath/CoreFunction" "maximumArguments" "I" (.int (3 : Int32))) (S14 : Sta Z Z.heap "com/example/rowan/rowan/xpath/CoreFunction" "STRING_LENGTH" "Lcom/example/rowan/rowan/xpath/CoreFunction;" (.ref w14)) (E_w14 : Exa Z Z.heap w14 "com/example/rowan/rowan/xpath/CoreFunction$15") (Fa14 : Fld Z Z.heap w14 "com/example/rowan/rowan/xpath/CoreFunction" "minimumArguments" "I" (.int (0 : Int32))) (Fb14 : Fld Z Z.heap w14 "com/example/rowan/rowan/xpath/CoreFunction" "maximumArguments" "I" (.int (1 : Int32))) (S15 : Sta Z Z.heap "com/example/rowan/rowan/xpath/CoreFunction" "NORMALIZE_SPACE" "Lcom/example/rowan/rowan/xpath/CoreFunction;" (.ref w15)) (E_w15 : Exa Z Z.heap w15 "com/example/rowan/rowan/xpath/CoreFunction$16") (Fa15 : Fld Z Z.heap w15 "com/example/rowan/rowan/xpath/CoreFunction" "minimumArguments" "I" (.int (0 : Int32))) (Fb15 : Fld Z Z.heap w15 "com/example/rowan/rowan/xpath/CoreFunction" "maximumArguments" "I" (.int (1 : Int32))) (S16 : Sta Z Z.heap "com/example/rowan/rowan/xpath/CoreFunction" "TRANSLATE" "Lcom/example/rowan/rowan/xpath/CoreFunction;" (.ref w16)) (E_w16 : Exa Z Z.heap w16 "com/example/rowan/rowan/xpath/CoreFunction$17") (Fa16 : Fld Z Z.heap w16 "com/example/rowan/rowan/xpath/CoreFunction" "minimumArguments" "I" (.int (3 : Int32))) (Fb16 : Fld Z Z.heap w16 "com/example/rowan/rowan/xpath/CoreFunction" "maximumArguments" "I" (.int (3 : Int32))) (S17 : Sta Z Z.heap "com/example/rowan/rowan/xpath/CoreFunction" "BOOLEAN" "Lcom/example/rowan/rowan/xpath/CoreFunction;" (.ref w17)) (E_w17 : Exa Z Z.heap w17 "com/example/rowan/rowan/xpath/CoreFunction$18") (Fa17 : Fld Z Z.heap w17 "com/example/rowan/rowan/xpath/CoreFunction" "minimumArguments" "I" (.int (1 : Int32))) (Fb17 : Fld Z Z.heap w17 "com/example/rowan/rowan/xpath/CoreFunction" "maximumArguments" "I" (.int (1 : Int32))) (S18 : Sta Z Z.heap "com/example/rowan/rowan/xpath/CoreFunction" "NOT" "Lcom/example/rowan/rowan/xpath/CoreFunction;" (.ref w18)) (E_w18 : Exa Z Z.heap w18 "com/example/rowan/rowan/xpath/CoreFunction$19") (Fa18 : Fld Z Z.heap w18 "com/example/rowan/rowan/xpath/CoreFunction" "minimumArguments" "I" (.int (1 : Int32))) (Fb18 : Fld Z Z.heap w18 "com/example/rowan/rowan/xpath/CoreFunction" "maximumArguments" "I" (.int (1 : Int32))) (S19 : Sta Z Z.heap "com/example/rowan/rowan/xpath/CoreFunction" "TRUE" "Lcom/example/rowan/rowan/xpath/CoreFunction;" (.ref w19)) (E_w19 : Exa Z Z.heap w19 "com/example/rowan/rowan/xpath/CoreFunction$20") (Fa19 : Fld Z Z.heap w19 "com/example/rowan/rowan/xpath/CoreFunction" "minimumArguments" "I" (.int (0 : Int32))) (Fb19 : Fld Z Z.heap w19 "com/example/rowan/rowan/xpath/CoreFunction" "maximumArguments" "I" (.int (0 : Int32))) (S20 : Sta Z Z.heap "com/example/rowan/rowan/xpath/CoreFunction" "FALSE" "Lcom/example/rowan/rowan/xpath/CoreFunction;" (.ref w20)) (E_w20 : Exa Z Z.heap w20 "com/example/rowan/rowan/xpath/CoreFunction$21") (Fa20 : Fld Z Z.heap w20 "com/example/rowan/rowan/xpath/CoreFunction" "minimumArguments" "I" (.int (0 : Int32))) (Fb20 : Fld Z Z.heap w20 "com/example/rowan/rowan/xpath/CoreFunction" "maximumArguments" "I" (.int (0 : Int32))) (S21 : Sta Z Z.heap "com/example/rowan/rowan/xpath/CoreFunction" "LANG" "Lcom/example/rowan/rowan/xpath/CoreFunction;" (.ref w21)) (E_w21 : Exa Z Z.heap w21 "com/example/rowan/rowan/xpath/CoreFunction$22") (Fa21 : Fld Z Z.heap w21 "com/example/rowan/rowan/xpath/CoreFunction" "minimumArguments" "I" (.int (1 : Int32))) (Fb21 : Fld Z Z.heap w21 "com/example/rowan/rowan/xpath/CoreFunction" "maximumArguments" "I" (.int (1 : Int32))) (S22 : Sta Z Z.heap "com/example/rowan/rowan/xpath/CoreFunction" "NUMBER" "Lcom/example/rowan/rowan/xpath/CoreFunction;" (.ref w22)) (E_w22 : Exa Z Z.heap w22 "com/example/rowan/rowan/xpath/CoreFunction$23") (Fa22 : Fld Z Z.heap w22 "com/example/rowan/rowan/xpath/CoreFunction" "minimumArguments" "I" (.int (0 : Int32))) (Fb22 : Fld Z Z.heap w22 "com/example/rowan/rowan/xpath/CoreFunction" "maximumArguments" "I" (.int (1 : Int32))) (S23 : Sta Z Z.heap "com/example/rowan/rowan/xpath/CoreFunction" "SUM" "Lcom/example/rowan/rowan/xpath/CoreFunction;" (.ref w23)) (E_w23 : Exa Z Z.heap w23 "com/example/rowan/rowan/xpath/CoreFunction$24") (Fa23 : Fld Z Z.heap w23 "com/example/rowan/rowan/xpath/CoreFunction" "minimumArguments" "I" (.int (1 : Int32))) (Fb23 : Fld Z Z.heap w23 "com/example/rowan/rowan/xpath/CoreFunction" "maximumArguments" "I" (.int (1 : Int32))) (S24 : Sta Z Z.heap "com/example/rowan/rowan/xpath/CoreFunction" "FLOOR" "Lcom/example/rowan/rowan/xpath/CoreFunction;" (.ref w24)) (E_w24 : Exa Z Z.heap w24 "com/example/rowan/rowan/xpath/CoreFunction$25") (Fa24 : Fld Z Z.heap w24 "com/example/rowan/rowan/xpath/CoreFunction" "minimumArguments" "I" (.int (1 : Int32))) (Fb24 : Fld Z Z.heap w24 "com/example/rowan/rowan/xpath/CoreFunction" "maximumArguments" "I" (.int (1 : Int32))) (S25 : Sta Z Z.heap "com/example/rowan/rowan/xpath/CoreFunction" "CEILING" "Lcom/example/rowan/rowan/xpath/CoreFunction;" (.ref w25)) (E_w25 : Exa Z Z.heap w25 "com/example/rowan/rowan/xpath/CoreFunction$26") (Fa25 : Fld Z Z.heap w25 "com/example/rowan/rowan/xpath/CoreFunction" "minimumArguments" "I" (.int (1 : Int32))) (Fb25 : Fld Z Z.heap w25 "com/example/rowan/rowan/xpath/CoreFunction" "maximumArguments" "I" (.int (1 : Int32))) (S26 : Sta Z Z.heap "com/example/rowan/rowan/xpath/CoreFunction" "ROUND" "Lcom/example/rowan/rowan/xpath/CoreFunction;" (.ref w26)) (E_w26 : Exa Z Z.heap w26 "com/example/rowan/rowan/xpath/CoreFunction$27") (Fa26 : Fld Z Z.heap w26 "com/example/rowan/rowan/xpath/CoreFunction" "minimumArguments" "I" (.int (1 : Int32))) (Fb26 : Fld Z Z.heap w26 "com/example/rowan/rowan/xpath/CoreFunction" "maximumArguments" "I" (.int (1 : Int32))) :
    MetFree l x (head1 (Jvm.Cond.code x code maxLocals ret :: ws) room_1) (fun a U => a = #[(.int p1), (.int p2), (.int p3)] ∧ Z.Warmed39 U.vm ∧ U.heap = h0) (fun _ _ _ _ _ => True) (fun _ U o U' => ∃ v L, o = .returned v ∧ Q0 Z p1 p2 p3 w0 w1 w2 w3 w4 w5 w6 w7 w8 w9 w10 w11 w12 w13 w14 w15 w16 w17 w18 w19 w20 w21 w22 w23 w24 w25 w26 h0 n0 v U'.heap L ∧ FrameEnd U o U' L 16 256) := by
  refine MetFree.of_bodySF (plainFor_of_name pn_1) hisR ?_
  intro p e s m args below meth c s₁ Bd hml0 hP hK
  obtain ⟨rfl, hZ, hh⟩ := hP
  have hx := Bd.exec
  have hby := Bd.bytes
  have hml : c.maxLocals = 9 := hml0
  have hown : s.vm.findClass "com/example/rowan/rowan/xpath/CoreFunctionTakesPinLaw" = some m.cls := findClass_of_methodNamed Bd.named
  have hnm := (name_of_methodNamed Bd.named Bd.method).1
  have X0 : Stand p l e room_1 s m #[(.int p1), (.int p2), (.int p3)] below meth c s₁ [] 0 0 := Stand.of_body Bd
  have e0 : s₁.heap = h0 := by rw [← hh, Bd.state]; rfl
  have Nf0 := Fr.nil n0
  obtain ⟨Gl, hGl, kn0⟩ : ∃ Gl : State → Prop, (∀ t, Gl t → Steps p.tables e below (s₁.setTop (entryFrame m #[(.int p1), (.int p2), (.int p3)] maxLocals)) t) ∧ ∀ t, own_S p e below s₁ (mkF m 0 #[.val (.int p1), .val (.int p2), .val (.int p3), .unset, .unset, .unset, .unset, .unset, .unset] []) t → Gl t := ⟨fun t => Steps p.tables e below (s₁.setTop (entryFrame m #[(.int p1), (.int p2), (.int p3)] maxLocals)) t, fun _ k => k, fun t k => castTop (ef_rm0 m p1 p2 p3) k⟩
  have kn1 : ∀ t, own_S p e below s₁ (mkF m 2 #[.val (.int p1), .val (.int p2), .val (.int p3), .unset, .unset, .unset, .unset, .unset, .unset] [(.int (27 : Int32))]) t → Gl t := fun t kt => kn0 t (by
    show own_S p e below s₁ (mkF m 0 #[.val (.int p1), .val (.int p2), .val (.int p3), .unset, .unset, .unset, .unset, .unset, .unset] []) _
    refine XS.bipush X0.here hx rfl (hb hby at_0) ?_
    exact kt)
  obtain ⟨T2, h2, kk2, X2, e2, E2, A2, O2, st2⟩ := newR X0 hx hZ hown (hw _ (List.mem_of_getElem? (i := 0) rfl)) (hw _ (List.mem_of_getElem? (i := 1) rfl)) e0 (g := (mkF m 2 #[.val (.int p1), .val (.int p2), .val (.int p3), .unset, .unset, .unset, .unset, .unset, .unset] [(.int (27 : Int32))])) rfl (hb hby at_2) rfl (by decide) (cap := 27) (by decide) (by decide) (by decide) (by decide)
  obtain ⟨b2, g2⟩ : ∃ z, z = h0.size := ⟨_, rfl⟩
  rw [← g2] at A2 st2
  have g_b2 : n0 ≤ b2 := Nat.le_trans Z0 (Nat.le_of_eq g2.symm)
  have Z3 : n0 ≤ h2.size := Nat.le_trans Z0 E2.1
  have O4 : Old Z n0 h2 := O0.ext E2
  have V2 : Arv Z h2 b2 kk2 (.object "com/example/rowan/rowan/xpath/CoreFunction") (27 : Int32) (.null :: .null :: .null :: .null :: .null :: .null :: .null :: .null :: .null :: .null :: .null :: .null :: .null :: .null :: .null :: .null :: .null :: .null :: .null :: .null :: .null :: .null :: .null :: .null :: .null :: .null :: .null :: []) .null := (Arv.new A2 (by decide)).pad (pad_rep [] .null 27)
  have kn5 : ∀ t, own_S p e below T2 (mkF m 5 #[.val (.int p1), .val (.int p2), .val (.int p3), .unset, .unset, .unset, .unset, .unset, .unset] [(.ref b2)]) t → Gl t := fun t kt => kn1 t (st2 _ kt)
  have kn6 : ∀ t, own_S p e below T2 (mkF m 7 #[.val (.int p1), .val (.int p2), .val (.int p3), .unset, .unset, .unset, .unset, .unset, .unset] [(.int (0 : Int32)), (.ref b2), (.ref b2)]) t → Gl t := fun t kt => kn5 t (by
    show own_S p e below T2 (mkF m 5 #[.val (.int p1), .val (.int p2), .val (.int p3), .unset, .unset, .unset, .unset, .unset, .unset] [(.ref b2)]) _
    refine XS.dup X2.here hx rfl (hb hby at_5) rfl rfl ?_
    show own_S p e below T2 (mkF m 6 #[.val (.int p1), .val (.int p2), .val (.int p3), .unset, .unset, .unset, .unset, .unset, .unset] [(.ref b2), (.ref b2)]) _
    refine XS.iconst X2.here hx rfl (hb hby at_6) ?_
    exact kt)
  obtain ⟨T7, X7, e7, st7⟩ := getS2 X2 hx hZ hown (host := "") (Or.inl (hw _ (List.mem_of_getElem? (i := 2) rfl))) Via.refl e2 (S0.ext O4.2) (g := (mkF m 7 #[.val (.int p1), .val (.int p2), .val (.int p3), .unset, .unset, .unset, .unset, .unset, .unset] [(.int (0 : Int32)), (.ref b2), (.ref b2)])) rfl (hb hby at_7)
  have kn8 : ∀ t, own_S p e below T7 (mkF m 10 #[.val (.int p1), .val (.int p2), .val (.int p3), .unset, .unset, .unset, .unset, .unset, .unset] [(.ref w0), (.int (0 : Int32)), (.ref b2), (.ref b2)]) t → Gl t := fun t kt => kn6 t (st7 _ kt)
  obtain ⟨cl9, Ar9, q9, Sz9, Ng9, Hs9, Gs9⟩ := id V2
  have hin9 : ¬ ((0 : Int32) < 0 ∨ cl9.slots.size ≤ ((0 : Int32)).toNatClampNeg) := inb_of Sz9 ⟨by decide, by decide⟩
  obtain ⟨T9, h9, X9, e9, W9, st9⟩ := stR X7 hx hZ e7 Ar9 (j := (0 : Int32)) hin9 rfl (Sto.ofV Ar9 q9 O2 (Ins.of_exa (E_w0.ext O4.2) (hw _ (List.mem_of_getElem? (i := 5) rfl)))) (g := (mkF m 10 #[.val (.int p1), .val (.int p2), .val (.int p3), .unset, .unset, .unset, .unset, .unset, .unset] [(.ref w0), (.int (0 : Int32)), (.ref b2), (.ref b2)])) rfl rfl (hb hby at_10)
  have Z10 : n0 ≤ h9.size := Nat.le_trans Z3 (Keep.of_wr W9).1
  have O11 : Old Z n0 h9 := O4.wr W9 g_b2
  have V9 : Arv Z h9 b2 kk2 (.object "com/example/rowan/rowan/xpath/CoreFunction") (27 : Int32) ((.ref w0) :: .null :: .null :: .null :: .null :: .null :: .null :: .null :: .null :: .null :: .null :: .null :: .null :: .null :: .null :: .null :: .null :: .null :: .null :: .null :: .null :: .null :: .null :: .null :: .null :: .null :: .null :: []) .null := Arv.set Ar9 q9 Sz9 Ng9 Hs9 Gs9 rfl W9 0 rfl (Nat.le_of_ble_eq_true rfl)
  have Nf12 := Fr.snoc X9 Nf0 g_b2
  have kn13 : ∀ t, own_S p e below T9 (mkF m 11 #[.val (.int p1), .val (.int p2), .val (.int p3), .unset, .unset, .unset, .unset, .unset, .unset] [(.ref b2)]) t → Gl t := fun t kt => kn8 t (st9 _ kt)
  have kn14 : ∀ t, own_S p e below T9 (mkF m 13 #[.val (.int p1), .val (.int p2), .val (.int p3), .unset, .unset, .unset, .unset, .unset, .unset] [(.int (1 : Int32)), (.ref b2), (.ref b2)]) t → Gl t := fun t kt => kn13 t (by
    show own_S p e below T9 (mkF m 11 #[.val (.int p1), .val (.int p2), .val (.int p3), .unset, .unset, .unset, .unset, .unset, .unset] [(.ref b2)]) _
    refine XS.dup X9.here hx rfl (hb hby at_11) rfl rfl ?_
    show own_S p e below T9 (mkF m 12 #[.val (.int p1), .val (.int p2), .val (.int p3), .unset, .unset, .unset, .unset, .unset, .unset] [(.ref b2), (.ref b2)]) _
    refine XS.iconst X9.here hx rfl (hb hby at_12) ?_
    exact kt)
  obtain ⟨T15, X15, e15, st15⟩ := getS2 X9 hx hZ hown (host := "") (Or.inl (hw _ (List.mem_of_getElem? (i := 6) rfl))) Via.refl e9 (S1.ext O11.2) (g := (mkF m 13 #[.val (.int p1), .val (.int p2), .val (.int p3), .unset, .unset, .unset, .unset, .unset, .unset] [(.int (1 : Int32)), (.ref b2), (.ref b2)])) rfl (hb hby at_13)
  have kn16 : ∀ t, own_S p e below T15 (mkF m 16 #[.val (.int p1), .val (.int p2), .val (.int p3), .unset, .unset, .unset, .unset, .unset, .unset] [(.ref w1), (.int (1 : Int32)), (.ref b2), (.ref b2)]) t → Gl t := fun t kt => kn14 t (st15 _ kt)
  obtain ⟨cl17, Ar17, q17, Sz17, Ng17, Hs17, Gs17⟩ := id V9
  have hin17 : ¬ ((1 : Int32) < 0 ∨ cl17.slots.size ≤ ((1 : Int32)).toNatClampNeg) := inb_of Sz17 ⟨by decide, by decide⟩
  obtain ⟨T17, h17, X17, e17, W17, st17⟩ := stR X15 hx hZ e15 Ar17 (j := (1 : Int32)) hin17 rfl (Sto.ofV Ar17 q17 O2 (Ins.of_exa (E_w1.ext O11.2) (hw _ (List.mem_of_getElem? (i := 8) rfl)))) (g := (mkF m 16 #[.val (.int p1), .val (.int p2), .val (.int p3), .unset, .unset, .unset, .unset, .unset, .unset] [(.ref w1), (.int (1 : Int32)), (.ref b2), (.ref b2)])) rfl rfl (hb hby at_16)
  have Z18 : n0 ≤ h17.size := Nat.le_trans Z10 (Keep.of_wr W17).1
  have O19 : Old Z n0 h17 := O11.wr W17 g_b2
  have V17 : Arv Z h17 b2 kk2 (.object "com/example/rowan/rowan/xpath/CoreFunction") (27 : Int32) ((.ref w0) :: (.ref w1) :: .null :: .null :: .null :: .null :: .null :: .null :: .null :: .null :: .null :: .null :: .null :: .null :: .null :: .null :: .null :: .null :: .null :: .null :: .null :: .null :: .null :: .null :: .null :: .null :: .null :: []) .null := Arv.set Ar17 q17 Sz17 Ng17 Hs17 Gs17 rfl W17 1 rfl (Nat.le_of_ble_eq_true rfl)
  have Nf20 := Fr.snoc X17 Nf12 g_b2
  have kn21 : ∀ t, own_S p e below T17 (mkF m 17 #[.val (.int p1), .val (.int p2), .val (.int p3), .unset, .unset, .unset, .unset, .unset, .unset] [(.ref b2)]) t → Gl t := fun t kt => kn16 t (st17 _ kt)
  have kn22 : ∀ t, own_S p e below T17 (mkF m 19 #[.val (.int p1), .val (.int p2), .val (.int p3), .unset, .unset, .unset, .unset, .unset, .unset] [(.int (2 : Int32)), (.ref b2), (.ref b2)]) t → Gl t := fun t kt => kn21 t (by
    show own_S p e below T17 (mkF m 17 #[.val (.int p1), .val (.int p2), .val (.int p3), .unset, .unset, .unset, .unset, .unset, .unset] [(.ref b2)]) _
    refine XS.dup X17.here hx rfl (hb hby at_17) rfl rfl ?_
    show own_S p e below T17 (mkF m 18 #[.val (.int p1), .val (.int p2), .val (.int p3), .unset, .unset, .unset, .unset, .unset, .unset] [(.ref b2), (.ref b2)]) _
    refine XS.iconst X17.here hx rfl (hb hby at_18) ?_
    exact kt)
  obtain ⟨T23, X23, e23, st23⟩ := getS2 X17 hx hZ hown (host := "") (Or.inl (hw _ (List.mem_of_getElem? (i := 9) rfl))) Via.refl e17 (S2.ext O19.2) (g := (mkF m 19 #[.val (.int p1), .val (.int p2), .val (.int p3), .unset, .unset, .unset, .unset, .unset, .unset] [(.int (2 : Int32)), (.ref b2), (.ref b2)])) rfl (hb hby at_19)
  have kn24 : ∀ t, own_S p e below T23 (mkF m 22 #[.val (.int p1), .val (.int p2), .val (.int p3), .unset, .unset, .unset, .unset, .unset, .unset] [(.ref w2), (.int (2 : Int32)), (.ref b2), (.ref b2)]) t → Gl t := fun t kt => kn22 t (st23 _ kt)
  obtain ⟨cl25, Ar25, q25, Sz25, Ng25, Hs25, Gs25⟩ := id V17
  have hin25 : ¬ ((2 : Int32) < 0 ∨ cl25.slots.size ≤ ((2 : Int32)).toNatClampNeg) := inb_of Sz25 ⟨by decide, by decide⟩
  obtain ⟨T25, h25, X25, e25, W25, st25⟩ := stR X23 hx hZ e23 Ar25 (j := (2 : Int32)) hin25 rfl (Sto.ofV Ar25 q25 O2 (Ins.of_exa (E_w2.ext O19.2) (hw _ (List.mem_of_getElem? (i := 11) rfl)))) (g := (mkF m 22 #[.val (.int p1), .val (.int p2), .val (.int p3), .unset, .unset, .unset, .unset, .unset, .unset] [(.ref w2), (.int (2 : Int32)), (.ref b2), (.ref b2)])) rfl rfl (hb hby at_22)
  have Z26 : n0 ≤ h25.size := Nat.le_trans Z18 (Keep.of_wr W25).1
  have O27 : Old Z n0 h25 := O19.wr W25 g_b2
  have V25 : Arv Z h25 b2 kk2 (.object "com/example/rowan/rowan/xpath/CoreFunction") (27 : Int32) ((.ref w0) :: (.ref w1) :: (.ref w2) :: .null :: .null :: .null :: .null :: .null :: .null :: .null :: .null :: .null :: .null :: .null :: .null :: .null :: .null :: .null :: .null :: .null :: .null :: .null :: .null :: .null :: .null :: .null :: .null :: []) .null := Arv.set Ar25 q25 Sz25 Ng25 Hs25 Gs25 rfl W25 2 rfl (Nat.le_of_ble_eq_true rfl)
  have Nf28 := Fr.snoc X25 Nf20 g_b2
  have kn29 : ∀ t, own_S p e below T25 (mkF m 23 #[.val (.int p1), .val (.int p2), .val (.int p3), .unset, .unset, .unset, .unset, .unset, .unset] [(.ref b2)]) t → Gl t := fun t kt => kn24 t (st25 _ kt)
  have kn30 : ∀ t, own_S p e below T25 (mkF m 25 #[.val (.int p1), .val (.int p2), .val (.int p3), .unset, .unset, .unset, .unset, .unset, .unset] [(.int (3 : Int32)), (.ref b2), (.ref b2)]) t → Gl t := fun t kt => kn29 t (by
    show own_S p e below T25 (mkF m 23 #[.val (.int p1), .val (.int p2), .val (.int p3), .unset, .unset, .unset, .unset, .unset, .unset] [(.ref b2)]) _
    refine XS.dup X25.here hx rfl (hb hby at_23) rfl rfl ?_
    show own_S p e below T25 (mkF m 24 #[.val (.int p1), .val (.int p2), .val (.int p3), .unset, .unset, .unset, .unset, .unset, .unset] [(.ref b2), (.ref b2)]) _
    refine XS.iconst X25.here hx rfl (hb hby at_24) ?_
    exact kt)
  obtain ⟨T31, X31, e31, st31⟩ := getS2 X25 hx hZ hown (host := "") (Or.inl (hw _ (List.mem_of_getElem? (i := 12) rfl))) Via.refl e25 (S3.ext O27.2) (g := (mkF m 25 #[.val (.int p1), .val (.int p2), .val (.int p3), .unset, .unset, .unset, .unset, .unset, .unset] [(.int (3 : Int32)), (.ref b2), (.ref b2)])) rfl (hb hby at_25)
  have kn32 : ∀ t, own_S p e below T31 (mkF m 28 #[.val (.int p1), .val (.int p2), .val (.int p3), .unset, .unset, .unset, .unset, .unset, .unset] [(.ref w3), (.int (3 : Int32)), (.ref b2), (.ref b2)]) t → Gl t := fun t kt => kn30 t (st31 _ kt)
  obtain ⟨cl33, Ar33, q33, Sz33, Ng33, Hs33, Gs33⟩ := id V25
  have hin33 : ¬ ((3 : Int32) < 0 ∨ cl33.slots.size ≤ ((3 : Int32)).toNatClampNeg) := inb_of Sz33 ⟨by decide, by decide⟩
  obtain ⟨T33, h33, X33, e33, W33, st33⟩ := stR X31 hx hZ e31 Ar33 (j := (3 : Int32)) hin33 rfl (Sto.ofV Ar33 q33 O2 (Ins.of_exa (E_w3.ext O27.2) (hw _ (List.mem_of_getElem? (i := 14) rfl)))) (g := (mkF m 28 #[.val (.int p1), .val (.int p2), .val (.int p3), .unset, .unset, .unset, .unset, .unset, .unset] [(.ref w3), (.int (3 : Int32)), (.ref b2), (.ref b2)])) rfl rfl (hb hby at_28)
  have Z34 : n0 ≤ h33.size := Nat.le_trans Z26 (Keep.of_wr W33).1
  have O35 : Old Z n0 h33 := O27.wr W33 g_b2
  have V33 : Arv Z h33 b2 kk2 (.object "com/example/rowan/rowan/xpath/CoreFunction") (27 : Int32) ((.ref w0) :: (.ref w1) :: (.ref w2) :: (.ref w3) :: .null :: .null :: .null :: .null :: .null :: .null :: .null :: .null :: .null :: .null :: .null :: .null :: .null :: .null :: .null :: .null :: .null :: .null :: .null :: .null :: .null :: .null :: .null :: []) .null := Arv.set Ar33 q33 Sz33 Ng33 Hs33 Gs33 rfl W33 3 rfl (Nat.le_of_ble_eq_true rfl)
  have Nf36 := Fr.snoc X33 Nf28 g_b2
  have kn37 : ∀ t, own_S p e below T33 (mkF m 29 #[.val (.int p1), .val (.int p2), .val (.int p3), .unset, .unset, .unset, .unset, .unset, .unset] [(.ref b2)]) t → Gl t := fun t kt => kn32 t (st33 _ kt)
  have kn38 : ∀ t, own_S p e below T33 (mkF m 31 #[.val (.int p1), .val (.int p2), .val (.int p3), .unset, .unset, .unset, .unset, .unset, .unset] [(.int (4 : Int32)), (.ref b2), (.ref b2)]) t → Gl t := fun t kt => kn37 t (by
    show own_S p e below T33 (mkF m 29 #[.val (.int p1), .val (.int p2), .val (.int p3), .unset, .unset, .unset, .unset, .unset, .unset] [(.ref b2)]) _
    refine XS.dup X33.here hx rfl (hb hby at_29) rfl rfl ?_
    show own_S p e below T33 (mkF m 30 #[.val (.int p1), .val (.int p2), .val (.int p3), .unset, .unset, .unset, .unset, .unset, .unset] [(.ref b2), (.ref b2)]) _
    refine XS.iconst X33.here hx rfl (hb hby at_30) ?_
    exact kt)
  obtain ⟨T39, X39, e39, st39⟩ := getS2 X33 hx hZ hown (host := "") (Or.inl (hw _ (List.mem_of_getElem? (i := 15) rfl))) Via.refl e33 (S4.ext O35.2) (g := (mkF m 31 #[.val (.int p1), .val (.int p2), .val (.int p3), .unset, .unset, .unset, .unset, .unset, .unset] [(.int (4 : Int32)), (.ref b2), (.ref b2)])) rfl (hb hby at_31)
  have kn40 : ∀ t, own_S p e below T39 (mkF m 34 #[.val (.int p1), .val (.int p2), .val (.int p3), .unset, .unset, .unset, .unset, .unset, .unset] [(.ref w4), (.int (4 : Int32)), (.ref b2), (.ref b2)]) t → Gl t := fun t kt => kn38 t (st39 _ kt)
  obtain ⟨cl41, Ar41, q41, Sz41, Ng41, Hs41, Gs41⟩ := id V33
  have hin41 : ¬ ((4 : Int32) < 0 ∨ cl41.slots.size ≤ ((4 : Int32)).toNatClampNeg) := inb_of Sz41 ⟨by decide, by decide⟩
  obtain ⟨T41, h41, X41, e41, W41, st41⟩ := stR X39 hx hZ e39 Ar41 (j := (4 : Int32)) hin41 rfl (Sto.ofV Ar41 q41 O2 (Ins.of_exa (E_w4.ext O35.2) (hw _ (List.mem_of_getElem? (i := 17) rfl)))) (g := (mkF m 34 #[.val (.int p1), .val (.int p2), .val (.int p3), .unset, .unset, .unset, .unset, .unset, .unset] [(.ref w4), (.int (4 : Int32)), (.ref b2), (.ref b2)])) rfl rfl (hb hby at_34)
  have Z42 : n0 ≤ h41.size := Nat.le_trans Z34 (Keep.of_wr W41).1
  have O43 : Old Z n0 h41 := O35.wr W41 g_b2
  have V41 : Arv Z h41 b2 kk2 (.object "com/example/rowan/rowan/xpath/CoreFunction") (27 : Int32) ((.ref w0) :: (.ref w1) :: (.ref w2) :: (.ref w3) :: (.ref w4) :: .null :: .null :: .null :: .null :: .null :: .null :: .null :: .null :: .null :: .null :: .null :: .null :: .null :: .null :: .null :: .null :: .null :: .null :: .null :: .null :: .null :: .null :: []) .null := Arv.set Ar41 q41 Sz41 Ng41 Hs41 Gs41 rfl W41 4 rfl (Nat.le_of_ble_eq_true rfl)
  have Nf44 := Fr.snoc X41 Nf36 g_b2
  have kn45 : ∀ t, own_S p e below T41 (mkF m 35 #[.val (.int p1), .val (.int p2), .val (.int p3), .unset, .unset, .unset, .unset, .unset, .unset] [(.ref b2)]) t → Gl t := fun t kt => kn40 t (st41 _ kt)
  have kn46 : ∀ t, own_S p e below T41 (mkF m 37 #[.val (.int p1), .val (.int p2), .val (.int p3), .unset, .unset, .unset, .unset, .unset, .unset] [(.int (5 : Int32)), (.ref b2), (.ref b2)]) t → Gl t := fun t kt => kn45 t (by
    show own_S p e below T41 (mkF m 35 #[.val (.int p1), .val (.int p2), .val (.int p3), .unset, .unset, .unset, .unset, .unset, .unset] [(.ref b2)]) _
    refine XS.dup X41.here hx rfl (hb hby at_35) rfl rfl ?_
    show own_S p e below T41 (mkF m 36 #[.val (.int p1), .val (.int p2), .val (.int p3), .unset, .unset, .unset, .unset, .unset, .unset] [(.ref b2), (.ref b2)]) _
    refine XS.iconst X41.here hx rfl (hb hby at_36) ?_
    exact kt)
  obtain ⟨T47, X47, e47, st47⟩ := getS2 X41 hx hZ hown (host := "") (Or.inl (hw _ (List.mem_of_getElem? (i := 18) rfl))) Via.refl e41 (S5.ext O43.2) (g := (mkF m 37 #[.val (.int p1), .val (.int p2), .val (.int p3), .unset, .unset, .unset, .unset, .unset, .unset] [(.int (5 : Int32)), (.ref b2), (.ref b2)])) rfl (hb hby at_37)
  have kn48 : ∀ t, own_S p e below T47 (mkF m 40 #[.val (.int p1), .val (.int p2), .val (.int p3), .unset, .unset, .unset, .unset, .unset, .unset] [(.ref w5), (.int (5 : Int32)), (.ref b2), (.ref b2)]) t → Gl t := fun t kt => kn46 t (st47 _ kt)
  obtain ⟨cl49, Ar49, q49, Sz49, Ng49, Hs49, Gs49⟩ := id V41
  have hin49 : ¬ ((5 : Int32) < 0 ∨ cl49.slots.size ≤ ((5 : Int32)).toNatClampNeg) := inb_of Sz49 ⟨by decide, by decide⟩
  obtain ⟨T49, h49, X49, e49, W49, st49⟩ := stR X47 hx hZ e47 Ar49 (j := (5 : Int32)) hin49 rfl (Sto.ofV Ar49 q49 O2 (Ins.of_exa (E_w5.ext O43.2) (hw _ (List.mem_of_getElem? (i := 20) rfl)))) (g := (mkF m 40 #[.val (.int p1), .val (.int p2), .val (.int p3), .unset, .unset, .unset, .unset, .unset, .unset] [(.ref w5), (.int (5 : Int32)), (.ref b2), (.ref b2)])) rfl rfl (hb hby at_40)
  have Z50 : n0 ≤ h49.size := Nat.le_trans Z42 (Keep.of_wr W49).1
  have O51 : Old Z n0 h49 := O43.wr W49 g_b2
  have V49 : Arv Z h49 b2 kk2 (.object "com/example/rowan/rowan/xpath/CoreFunction") (27 : Int32) ((.ref w0) :: (.ref w1) :: (.ref w2) :: (.ref w3) :: (.ref w4) :: (.ref w5) :: .null :: .null :: .null :: .null :: .null :: .null :: .null :: .null :: .null :: .null :: .null :: .null :: .null :: .null :: .null :: .null :: .null :: .null :: .null :: .null :: .null :: []) .null := Arv.set Ar49 q49 Sz49 Ng49 Hs49 Gs49 rfl W49 5 rfl (Nat.le_of_ble_eq_true rfl)
  have Nf52 := Fr.snoc X49 Nf44 g_b2
  have kn53 : ∀ t, own_S p e below T49 (mkF m 41 #[.val (.int p1), .val (.int p2), .val (.int p3), .unset, .unset, .unset, .unset, .unset, .unset] [(.ref b2)]) t → Gl t := fun t kt => kn48 t (st49 _ kt)
  have kn54 : ∀ t, own_S p e below T49 (mkF m 44 #[.val (.int p1), .val (.int p2), .val (.int p3), .unset, .unset, .unset, .unset, .unset, .unset] [(.int (6 : Int32)), (.ref b2), (.ref b2)]) t → Gl t := fun t kt => kn53 t (by
    show own_S p e below T49 (mkF m 41 #[.val (.int p1), .val (.int p2), .val (.int p3), .unset, .unset, .unset, .unset, .unset, .unset] [(.ref b2)]) _
    refine XS.dup X49.here hx rfl (hb hby at_41) rfl rfl ?_
    show own_S p e below T49 (mkF m 42 #[.val (.int p1), .val (.int p2), .val (.int p3), .unset, .unset, .unset, .unset, .unset, .unset] [(.ref b2), (.ref b2)]) _
    refine XS.bipush X49.here hx rfl (hb hby at_42) ?_
    exact kt)
  obtain ⟨T55, X55, e55, st55⟩ := getS2 X49 hx hZ hown (host := "") (Or.inl (hw _ (List.mem_of_getElem? (i := 21) rfl))) Via.refl e49 (S6.ext O51.2) (g := (mkF m 44 #[.val (.int p1), .val (.int p2), .val (.int p3), .unset, .unset, .unset, .unset, .unset, .unset] [(.int (6 : Int32)), (.ref b2), (.ref b2)])) rfl (hb hby at_44)
  have kn56 : ∀ t, own_S p e below T55 (mkF m 47 #[.val (.int p1), .val (.int p2), .val (.int p3), .unset, .unset, .unset, .unset, .unset, .unset] [(.ref w6), (.int (6 : Int32)), (.ref b2), (.ref b2)]) t → Gl t := fun t kt => kn54 t (st55 _ kt)
  obtain ⟨cl57, Ar57, q57, Sz57, Ng57, Hs57, Gs57⟩ := id V49
  have hin57 : ¬ ((6 : Int32) < 0 ∨ cl57.slots.size ≤ ((6 : Int32)).toNatClampNeg) := inb_of Sz57 ⟨by decide, by decide⟩
  obtain ⟨T57, h57, X57, e57, W57, st57⟩ := stR X55 hx hZ e55 Ar57 (j := (6 : Int32)) hin57 rfl (Sto.ofV Ar57 q57 O2 (Ins.of_exa (E_w6.ext O51.2) (hw _ (List.mem_of_getElem? (i := 23) rfl)))) (g := (mkF m 47 #[.val (.int p1), .val (.int p2), .val (.int p3), .unset, .unset, .unset, .unset, .unset, .unset] [(.ref w6), (.int (6 : Int32)), (.ref b2), (.ref b2)])) rfl rfl (hb hby at_47)
  have Z58 : n0 ≤ h57.size := Nat.le_trans Z50 (Keep.of_wr W57).1
  have O59 : Old Z n0 h57 := O51.wr W57 g_b2
  have V57 : Arv Z h57 b2 kk2 (.object "com/example/rowan/rowan/xpath/CoreFunction") (27 : Int32) ((.ref w0) :: (.ref w1) :: (.ref w2) :: (.ref w3) :: (.ref w4) :: (.ref w5) :: (.ref w6) :: .null :: .null :: .null :: .null :: .null :: .null :: .null :: .null :: .null :: .null :: .null :: .null :: .null :: .null :: .null :: .null :: .null :: .null :: .null :: .null :: []) .null := Arv.set Ar57 q57 Sz57 Ng57 Hs57 Gs57 rfl W57 6 rfl (Nat.le_of_ble_eq_true rfl)
  have Nf60 := Fr.snoc X57 Nf52 g_b2
  have kn61 : ∀ t, own_S p e below T57 (mkF m 48 #[.val (.int p1), .val (.int p2), .val (.int p3), .unset, .unset, .unset, .unset, .unset, .unset] [(.ref b2)]) t → Gl t := fun t kt => kn56 t (st57 _ kt)
  have kn62 : ∀ t, own_S p e below T57 (mkF m 51 #[.val (.int p1), .val (.int p2), .val (.int p3), .unset, .unset, .unset, .unset, .unset, .unset] [(.int (7 : Int32)), (.ref b2), (.ref b2)]) t → Gl t := fun t kt => kn61 t (by
    show own_S p e below T57 (mkF m 48 #[.val (.int p1), .val (.int p2), .val (.int p3), .unset, .unset, .unset, .unset, .unset, .unset] [(.ref b2)]) _
    refine XS.dup X57.here hx rfl (hb hby at_48) rfl rfl ?_
    show own_S p e below T57 (mkF m 49 #[.val (.int p1), .val (.int p2), .val (.int p3), .unset, .unset, .unset, .unset, .unset, .unset] [(.ref b2), (.ref b2)]) _
    refine XS.bipush X57.here hx rfl (hb hby at_49) ?_
    exact kt)
  obtain ⟨T63, X63, e63, st63⟩ := getS2 X57 hx hZ hown (host := "") (Or.inl (hw _ (List.mem_of_getElem? (i := 24) rfl))) Via.refl e57 (S7.ext O59.2) (g := (mkF m 51 #[.val (.int p1), .val (.int p2), .val (.int p3), .unset, .unset, .unset, .unset, .unset, .unset] [(.int (7 : Int32)), (.ref b2), (.ref b2)])) rfl (hb hby at_51)
  have kn64 : ∀ t, own_S p e below T63 (mkF m 54 #[.val (.int p1), .val (.int p2), .val (.int p3), .unset, .unset, .unset, .unset, .unset, .unset] [(.ref w7), (.int (7 : Int32)), (.ref b2), (.ref b2)]) t → Gl t := fun t kt => kn62 t (st63 _ kt)
  obtain ⟨cl65, Ar65, q65, Sz65, Ng65, Hs65, Gs65⟩ := id V57
  have hin65 : ¬ ((7 : Int32) < 0 ∨ cl65.slots.size ≤ ((7 : Int32)).toNatClampNeg) := inb_of Sz65 ⟨by decide, by decide⟩
  obtain ⟨T65, h65, X65, e65, W65, st65⟩ := stR X63 hx hZ e63 Ar65 (j := (7 : Int32)) hin65 rfl (Sto.ofV Ar65 q65 O2 (Ins.of_exa (E_w7.ext O59.2) (hw _ (List.mem_of_getElem? (i := 26) rfl)))) (g := (mkF m 54 #[.val (.int p1), .val (.int p2), .val (.int p3), .unset, .unset, .unset, .unset, .unset, .unset] [(.ref w7), (.int (7 : Int32)), (.ref b2), (.ref b2)])) rfl rfl (hb hby at_54)
  have Z66 : n0 ≤ h65.size := Nat.le_trans Z58 (Keep.of_wr W65).1
  have O67 : Old Z n0 h65 := O59.wr W65 g_b2
  have V65 : Arv Z h65 b2 kk2 (.object "com/example/rowan/rowan/xpath/CoreFunction") (27 : Int32) ((.ref w0) :: (.ref w1) :: (.ref w2) :: (.ref w3) :: (.ref w4) :: (.ref w5) :: (.ref w6) :: (.ref w7) :: .null :: .null :: .null :: .null :: .null :: .null :: .null :: .null :: .null :: .null :: .null :: .null :: .null :: .null :: .null :: .null :: .null :: .null :: .null :: []) .null := Arv.set Ar65 q65 Sz65 Ng65 Hs65 Gs65 rfl W65 7 rfl (Nat.le_of_ble_eq_true rfl)
  have Nf68 := Fr.snoc X65 Nf60 g_b2
  have kn69 : ∀ t, own_S p e below T65 (mkF m 55 #[.val (.int p1), .val (.int p2), .val (.int p3), .unset, .unset, .unset, .unset, .unset, .unset] [(.ref b2)]) t → Gl t := fun t kt => kn64 t (st65 _ kt)
  have kn70 : ∀ t, own_S p e below T65 (mkF m 58 #[.val (.int p1), .val (.int p2), .val (.int p3), .unset, .unset, .unset, .unset, .unset, .unset] [(.int (8 : Int32)), (.ref b2), (.ref b2)]) t → Gl t := fun t kt => kn69 t (by
    show own_S p e below T65 (mkF m 55 #[.val (.int p1), .val (.int p2), .val (.int p3), .unset, .unset, .unset, .unset, .unset, .unset] [(.ref b2)]) _
    refine XS.dup X65.here hx rfl (hb hby at_55) rfl rfl ?_
    show own_S p e below T65 (mkF m 56 #[.val (.int p1), .val (.int p2), .val (.int p3), .unset, .unset, .unset, .unset, .unset, .unset] [(.ref b2), (.ref b2)]) _
    refine XS.bipush X65.here hx rfl (hb hby at_56) ?_
    exact kt)
  obtain ⟨T71, X71, e71, st71⟩ := getS2 X65 hx hZ hown (host := "") (Or.inl (hw _ (List.mem_of_getElem? (i := 27) rfl))) Via.refl e65 (S8.ext O67.2) (g := (mkF m 58 #[.val (.int p1), .val (.int p2), .val (.int p3), .unset, .unset, .unset, .unset, .unset, .unset] [(.int (8 : Int32)), (.ref b2), (.ref b2)])) rfl (hb hby at_58)
  have kn72 : ∀ t, own_S p e below T71 (mkF m 61 #[.val (.int p1), .val (.int p2), .val (.int p3), .unset, .unset, .unset, .unset, .unset, .unset] [(.ref w8), (.int (8 : Int32)), (.ref b2), (.ref b2)]) t → Gl t := fun t kt => kn70 t (st71 _ kt)
  obtain ⟨cl73, Ar73, q73, Sz73, Ng73, Hs73, Gs73⟩ := id V65
  have hin73 : ¬ ((8 : Int32) < 0 ∨ cl73.slots.size ≤ ((8 : Int32)).toNatClampNeg) := inb_of Sz73 ⟨by decide, by decide⟩
  obtain ⟨T73, h73, X73, e73, W73, st73⟩ := stR X71 hx hZ e71 Ar73 (j := (8 : Int32)) hin73 rfl (Sto.ofV Ar73 q73 O2 (Ins.of_exa (E_w8.ext O67.2) (hw _ (List.mem_of_getElem? (i := 29) rfl)))) (g := (mkF m 61 #[.val (.int p1), .val (.int p2), .val (.int p3), .unset, .unset, .unset, .unset, .unset, .unset] [(.ref w8), (.int (8 : Int32)), (.ref b2), (.ref b2)])) rfl rfl (hb hby at_61)
  have Z74 : n0 ≤ h73.size := Nat.le_trans Z66 (Keep.of_wr W73).1
  have O75 : Old Z n0 h73 := O67.wr W73 g_b2
  have V73 : Arv Z h73 b2 kk2 (.object "com/example/rowan/rowan/xpath/CoreFunction") (27 : Int32) ((.ref w0) :: (.ref w1) :: (.ref w2) :: (.ref w3) :: (.ref w4) :: (.ref w5) :: (.ref w6) :: (.ref w7) :: (.ref w8) :: .null :: .null :: .null :: .null :: .null :: .null :: .null :: .null :: .null :: .null :: .null :: .null :: .null :: .null :: .null :: .null :: .null :: .null :: []) .null := Arv.set Ar73 q73 Sz73 Ng73 Hs73 Gs73 rfl W73 8 rfl (Nat.le_of_ble_eq_true rfl)
  have Nf76 := Fr.snoc X73 Nf68 g_b2
  have kn77 : ∀ t, own_S p e below T73 (mkF m 62 #[.val (.int p1), .val (.int p2), .val (.int p3), .unset, .unset, .unset, .unset, .unset, .unset] [(.ref b2)]) t → Gl t := fun t kt => kn72 t (st73 _ kt)
  have kn78 : ∀ t, own_S p e below T73 (mkF m 65 #[.val (.int p1), .val (.int p2), .val (.int p3), .unset, .unset, .unset, .unset, .unset, .unset] [(.int (9 : Int32)), (.ref b2), (.ref b2)]) t → Gl t := fun t kt => kn77 t (by
    show own_S p e below T73 (mkF m 62 #[.val (.int p1), .val (.int p2), .val (.int p3), .unset, .unset, .unset, .unset, .unset, .unset] [(.ref b2)]) _
    refine XS.dup X73.here hx rfl (hb hby at_62) rfl rfl ?_
    show own_S p e below T73 (mkF m 63 #[.val (.int p1), .val (.int p2), .val (.int p3), .unset, .unset, .unset, .unset, .unset, .unset] [(.ref b2), (.ref b2)]) _
    refine XS.bipush X73.here hx rfl (hb hby at_63) ?_
    exact kt)
  obtain ⟨T79, X79, e79, st79⟩ := getS2 X73 hx hZ hown (host := "") (Or.inl (hw _ (List.mem_of_getElem? (i := 30) rfl))) Via.refl e73 (S9.ext O75.2) (g := (mkF m 65 #[.val (.int p1), .val (.int p2), .val (.int p3), .unset, .unset, .unset, .unset, .unset, .unset] [(.int (9 : Int32)), (.ref b2), (.ref b2)])) rfl (hb hby at_65)
  have kn80 : ∀ t, own_S p e below T79 (mkF m 68 #[.val (.int p1), .val (.int p2), .val (.int p3), .unset, .unset, .unset, .unset, .unset, .unset] [(.ref w9), (.int (9 : Int32)), (.ref b2), (.ref b2)]) t → Gl t := fun t kt => kn78 t (st79 _ kt)
  obtain ⟨cl81, Ar81, q81, Sz81, Ng81, Hs81, Gs81⟩ := id V73
  have hin81 : ¬ ((9 : Int32) < 0 ∨ cl81.slots.size ≤ ((9 : Int32)).toNatClampNeg) := inb_of Sz81 ⟨by decide, by decide⟩
  obtain ⟨T81, h81, X81, e81, W81, st81⟩ := stR X79 hx hZ e79 Ar81 (j := (9 : Int32)) hin81 rfl (Sto.ofV Ar81 q81 O2 (Ins.of_exa (E_w9.ext O75.2) (hw _ (List.mem_of_getElem? (i := 32) rfl)))) (g := (mkF m 68 #[.val (.int p1), .val (.int p2), .val (.int p3), .unset, .unset, .unset, .unset, .unset, .unset] [(.ref w9), (.int (9 : Int32)), (.ref b2), (.ref b2)])) rfl rfl (hb hby at_68)
  have Z82 : n0 ≤ h81.size := Nat.le_trans Z74 (Keep.of_wr W81).1
  have O83 : Old Z n0 h81 := O75.wr W81 g_b2
  have V81 : Arv Z h81 b2 kk2 (.object "com/example/rowan/rowan/xpath/CoreFunction") (27 : Int32) ((.ref w0) :: (.ref w1) :: (.ref w2) :: (.ref w3) :: (.ref w4) :: (.ref w5) :: (.ref w6) :: (.ref w7) :: (.ref w8) :: (.ref w9) :: .null :: .null :: .null :: .null :: .null :: .null :: .null :: .null :: .null :: .null :: .null :: .null :: .null :: .null :: .null :: .null :: .null :: []) .null := Arv.set Ar81 q81 Sz81 Ng81 Hs81 Gs81 rfl W81 9 rfl (Nat.le_of_ble_eq_true rfl)
  have Nf84 := Fr.snoc X81 Nf76 g_b2
  have kn85 : ∀ t, own_S p e below T81 (mkF m 69 #[.val (.int p1), .val (.int p2), .val (.int p3), .unset, .unset, .unset, .unset, .unset, .unset] [(.ref b2)]) t → Gl t := fun t kt => kn80 t (st81 _ kt)
  have kn86 : ∀ t, own_S p e below T81 (mkF m 72 #[.val (.int p1), .val (.int p2), .val (.int p3), .unset, .unset, .unset, .unset, .unset, .unset] [(.int (10 : Int32)), (.ref b2), (.ref b2)]) t → Gl t := fun t kt => kn85 t (by
    show own_S p e below T81 (mkF m 69 #[.val (.int p1), .val (.int p2), .val (.int p3), .unset, .unset, .unset, .unset, .unset, .unset] [(.ref b2)]) _
    refine XS.dup X81.here hx rfl (hb hby at_69) rfl rfl ?_
    show own_S p e below T81 (mkF m 70 #[.val (.int p1), .val (.int p2), .val (.int p3), .unset, .unset, .unset, .unset, .unset, .unset] [(.ref b2), (.ref b2)]) _
    refine XS.bipush X81.here hx rfl (hb hby at_70) ?_
    exact kt)
  obtain ⟨T87, X87, e87, st87⟩ := getS2 X81 hx hZ hown (host := "") (Or.inl (hw _ (List.mem_of_getElem? (i := 33) rfl))) Via.refl e81 (S10.ext O83.2) (g := (mkF m 72 #[.val (.int p1), .val (.int p2), .val (.int p3), .unset, .unset, .unset, .unset, .unset, .unset] [(.int (10 : Int32)), (.ref b2), (.ref b2)])) rfl (hb hby at_72)
  have kn88 : ∀ t, own_S p e below T87 (mkF m 75 #[.val (.int p1), .val (.int p2), .val (.int p3), .unset, .unset, .unset, .unset, .unset, .unset] [(.ref w10), (.int (10 : Int32)), (.ref b2), (.ref b2)]) t → Gl t := fun t kt => kn86 t (st87 _ kt)
  obtain ⟨cl89, Ar89, q89, Sz89, Ng89, Hs89, Gs89⟩ := id V81
  have hin89 : ¬ ((10 : Int32) < 0 ∨ cl89.slots.size ≤ ((10 : Int32)).toNatClampNeg) := inb_of Sz89 ⟨by decide, by decide⟩
  obtain ⟨T89, h89, X89, e89, W89, st89⟩ := stR X87 hx hZ e87 Ar89 (j := (10 : Int32)) hin89 rfl (Sto.ofV Ar89 q89 O2 (Ins.of_exa (E_w10.ext O83.2) (hw _ (List.mem_of_getElem? (i := 35) rfl)))) (g := (mkF m 75 #[.val (.int p1), .val (.int p2), .val (.int p3), .unset, .unset, .unset, .unset, .unset, .unset] [(.ref w10), (.int (10 : Int32)), (.ref b2), (.ref b2)])) rfl rfl (hb hby at_75)
  have Z90 : n0 ≤ h89.size := Nat.le_trans Z82 (Keep.of_wr W89).1
  have O91 : Old Z n0 h89 := O83.wr W89 g_b2
  have V89 : Arv Z h89 b2 kk2 (.object "com/example/rowan/rowan/xpath/CoreFunction") (27 : Int32) ((.ref w0) :: (.ref w1) :: (.ref w2) :: (.ref w3) :: (.ref w4) :: (.ref w5) :: (.ref w6) :: (.ref w7) :: (.ref w8) :: (.ref w9) :: (.ref w10) :: .null :: .null :: .null :: .null :: .null :: .null :: .null :: .null :: .null :: .null :: .null :: .null :: .null :: .null :: .null :: .null :: []) .null := Arv.set Ar89 q89 Sz89 Ng89 Hs89 Gs89 rfl W89 10 rfl (Nat.le_of_ble_eq_true rfl)
  have Nf92 := Fr.snoc X89 Nf84 g_b2
  have kn93 : ∀ t, own_S p e below T89 (mkF m 76 #[.val (.int p1), .val (.int p2), .val (.int p3), .unset, .unset, .unset, .unset, .unset, .unset] [(.ref b2)]) t → Gl t := fun t kt => kn88 t (st89 _ kt)
  have kn94 : ∀ t, own_S p e below T89 (mkF m 79 #[.val (.int p1), .val (.int p2), .val (.int p3), .unset, .unset, .unset, .unset, .unset, .unset] [(.int (11 : Int32)), (.ref b2), (.ref b2)]) t → Gl t := fun t kt => kn93 t (by
    show own_S p e below T89 (mkF m 76 #[.val (.int p1), .val (.int p2), .val (.int p3), .unset, .unset, .unset, .unset, .unset, .unset] [(.ref b2)]) _
    refine XS.dup X89.here hx rfl (hb hby at_76) rfl rfl ?_
    show own_S p e below T89 (mkF m 77 #[.val (.int p1), .val (.int p2), .val (.int p3), .unset, .unset, .unset, .unset, .unset, .unset] [(.ref b2), (.ref b2)]) _
    refine XS.bipush X89.here hx rfl (hb hby at_77) ?_
    exact kt)
  obtain ⟨T95, X95, e95, st95⟩ := getS2 X89 hx hZ hown (host := "") (Or.inl (hw _ (List.mem_of_getElem? (i := 36) rfl))) Via.refl e89 (S11.ext O91.2) (g := (mkF m 79 #[.val (.int p1), .val (.int p2), .val (.int p3), .unset, .unset, .unset, .unset, .unset, .unset] [(.int (11 : Int32)), (.ref b2), (.ref b2)])) rfl (hb hby at_79)
  have kn96 : ∀ t, own_S p e below T95 (mkF m 82 #[.val (.int p1), .val (.int p2), .val (.int p3), .unset, .unset, .unset, .unset, .unset, .unset] [(.ref w11), (.int (11 : Int32)), (.ref b2), (.ref b2)]) t → Gl t := fun t kt => kn94 t (st95 _ kt)
  obtain ⟨cl97, Ar97, q97, Sz97, Ng97, Hs97, Gs97⟩ := id V89
  have hin97 : ¬ ((11 : Int32) < 0 ∨ cl97.slots.size ≤ ((11 : Int32)).toNatClampNeg) := inb_of Sz97 ⟨by decide, by decide⟩
  obtain ⟨T97, h97, X97, e97, W97, st97⟩ := stR X95 hx hZ e95 Ar97 (j := (11 : Int32)) hin97 rfl (Sto.ofV Ar97 q97 O2 (Ins.of_exa (E_w11.ext O91.2) (hw _ (List.mem_of_getElem? (i := 38) rfl)))) (g := (mkF m 82 #[.val (.int p1), .val (.int p2), .val (.int p3), .unset, .unset, .unset, .unset, .unset, .unset] [(.ref w11), (.int (11 : Int32)), (.ref b2), (.ref b2)])) rfl rfl (hb hby at_82)
  have Z98 : n0 ≤ h97.size := Nat.le_trans Z90 (Keep.of_wr W97).1
  have O99 : Old Z n0 h97 := O91.wr W97 g_b2
  have V97 : Arv Z h97 b2 kk2 (.object "com/example/rowan/rowan/xpath/CoreFunction") (27 : Int32) ((.ref w0) :: (.ref w1) :: (.ref w2) :: (.ref w3) :: (.ref w4) :: (.ref w5) :: (.ref w6) :: (.ref w7) :: (.ref w8) :: (.ref w9) :: (.ref w10) :: (.ref w11) :: .null :: .null :: .null :: .null :: .null :: .null :: .null :: .null :: .null :: .null :: .null :: .null :: .null :: .null :: .null :: []) .null := Arv.set Ar97 q97 Sz97 Ng97 Hs97 Gs97 rfl W97 11 rfl (Nat.le_of_ble_eq_true rfl)
  have Nf100 := Fr.snoc X97 Nf92 g_b2
  have kn101 : ∀ t, own_S p e below T97 (mkF m 83 #[.val (.int p1), .val (.int p2), .val (.int p3), .unset, .unset, .unset, .unset, .unset, .unset] [(.ref b2)]) t → Gl t := fun t kt => kn96 t (st97 _ kt)
  have kn102 : ∀ t, own_S p e below T97 (mkF m 86 #[.val (.int p1), .val (.int p2), .val (.int p3), .unset, .unset, .unset, .unset, .unset, .unset] [(.int (12 : Int32)), (.ref b2), (.ref b2)]) t → Gl t := fun t kt => kn101 t (by
    show own_S p e below T97 (mkF m 83 #[.val (.int p1), .val (.int p2), .val (.int p3), .unset, .unset, .unset, .unset, .unset, .unset] [(.ref b2)]) _
    refine XS.dup X97.here hx rfl (hb hby at_83) rfl rfl ?_
    show own_S p e below T97 (mkF m 84 #[.val (.int p1), .val (.int p2), .val (.int p3), .unset, .unset, .unset, .unset, .unset, .unset] [(.ref b2), (.ref b2)]) _
    refine XS.bipush X97.here hx rfl (hb hby at_84) ?_
    exact kt)
  obtain ⟨T103, X103, e103, st103⟩ := getS2 X97 hx hZ hown (host := "") (Or.inl (hw _ (List.mem_of_getElem? (i := 39) rfl))) Via.refl e97 (S12.ext O99.2) (g := (mkF m 86 #[.val (.int p1), .val (.int p2), .val (.int p3), .unset, .unset, .unset, .unset, .unset, .unset] [(.int (12 : Int32)), (.ref b2), (.ref b2)])) rfl (hb hby at_86)
  have kn104 : ∀ t, own_S p e below T103 (mkF m 89 #[.val (.int p1), .val (.int p2), .val (.int p3), .unset, .unset, .unset, .unset, .unset, .unset] [(.ref w12), (.int (12 : Int32)), (.ref b2), (.ref b2)]) t → Gl t := fun t kt => kn102 t (st103 _ kt)
  obtain ⟨cl105, Ar105, q105, Sz105, Ng105, Hs105, Gs105⟩ := id V97
  have hin105 : ¬ ((12 : Int32) < 0 ∨ cl105.slots.size ≤ ((12 : Int32)).toNatClampNeg) := inb_of Sz105 ⟨by decide, by decide⟩
  obtain ⟨T105, h105, X105, e105, W105, st105⟩ := stR X103 hx hZ e103 Ar105 (j := (12 : Int32)) hin105 rfl (Sto.ofV Ar105 q105 O2 (Ins.of_exa (E_w12.ext O99.2) (hw _ (List.mem_of_getElem? (i := 41) rfl)))) (g := (mkF m 89 #[.val (.int p1), .val (.int p2), .val (.int p3), .unset, .unset, .unset, .unset, .unset, .unset] [(.ref w12), (.int (12 : Int32)), (.ref b2), (.ref b2)])) rfl rfl (hb hby at_89)
  have Z106 : n0 ≤ h105.size := Nat.le_trans Z98 (Keep.of_wr W105).1
  have O107 : Old Z n0 h105 := O99.wr W105 g_b2
  have V105 : Arv Z h105 b2 kk2 (.object "com/example/rowan/rowan/xpath/CoreFunction") (27 : Int32) ((.ref w0) :: (.ref w1) :: (.ref w2) :: (.ref w3) :: (.ref w4) :: (.ref w5) :: (.ref w6) :: (.ref w7) :: (.ref w8) :: (.ref w9) :: (.ref w10) :: (.ref w11) :: (.ref w12) :: .null :: .null :: .null :: .null :: .null :: .null :: .null :: .null :: .null :: .null :: .null :: .null :: .null :: .null :: []) .null := Arv.set Ar105 q105 Sz105 Ng105 Hs105 Gs105 rfl W105 12 rfl (Nat.le_of_ble_eq_true rfl)
  have Nf108 := Fr.snoc X105 Nf100 g_b2
  have kn109 : ∀ t, own_S p e below T105 (mkF m 90 #[.val (.int p1), .val (.int p2), .val (.int p3), .unset, .unset, .unset, .unset, .unset, .unset] [(.ref b2)]) t → Gl t := fun t kt => kn104 t (st105 _ kt)
  have kn110 : ∀ t, own_S p e below T105 (mkF m 93 #[.val (.int p1), .val (.int p2), .val (.int p3), .unset, .unset, .unset, .unset, .unset, .unset] [(.int (13 : Int32)), (.ref b2), (.ref b2)]) t → Gl t := fun t kt => kn109 t (by
    show own_S p e below T105 (mkF m 90 #[.val (.int p1), .val (.int p2), .val (.int p3), .unset, .unset, .unset, .unset, .unset, .unset] [(.ref b2)]) _
    refine XS.dup X105.here hx rfl (hb hby at_90) rfl rfl ?_
    show own_S p e below T105 (mkF m 91 #[.val (.int p1), .val (.int p2), .val (.int p3), .unset, .unset, .unset, .unset, .unset, .unset] [(.ref b2), (.ref b2)]) _
    refine XS.bipush X105.here hx rfl (hb hby at_91) ?_
    exact kt)
  obtain ⟨T111, X111, e111, st111⟩ := getS2 X105 hx hZ hown (host := "") (Or.inl (hw _ (List.mem_of_getElem? (i := 42) rfl))) Via.refl e105 (S13.ext O107.2) (g := (mkF m 93 #[.val (.int p1), .val (.int p2), .val (.int p3), .unset, .unset, .unset, .unset, .unset, .unset] [(.int (13 : Int32)), (.ref b2), (.ref b2)])) rfl (hb hby at_93)
  have kn112 : ∀ t, own_S p e below T111 (mkF m 96 #[.val (.int p1), .val (.int p2), .val (.int p3), .unset, .unset, .unset, .unset, .unset, .unset] [(.ref w13), (.int (13 : Int32)), (.ref b2), (.ref b2)]) t → Gl t := fun t kt => kn110 t (st111 _ kt)
  obtain ⟨cl113, Ar113, q113, Sz113, Ng113, Hs113, Gs113⟩ := id V105
  have hin113 : ¬ ((13 : Int32) < 0 ∨ cl113.slots.size ≤ ((13 : Int32)).toNatClampNeg) := inb_of Sz113 ⟨by decide, by decide⟩
  obtain ⟨T113, h113, X113, e113, W113, st113⟩ := stR X111 hx hZ e111 Ar113 (j := (13 : Int32)) hin113 rfl (Sto.ofV Ar113 q113 O2 (Ins.of_exa (E_w13.ext O107.2) (hw _ (List.mem_of_getElem? (i := 44) rfl)))) (g := (mkF m 96 #[.val (.int p1), .val (.int p2), .val (.int p3), .unset, .unset, .unset, .unset, .unset, .unset] [(.ref w13), (.int (13 : Int32)), (.ref b2), (.ref b2)])) rfl rfl (hb hby at_96)
  have Z114 : n0 ≤ h113.size := Nat.le_trans Z106 (Keep.of_wr W113).1
  have O115 : Old Z n0 h113 := O107.wr W113 g_b2
  have V113 : Arv Z h113 b2 kk2 (.object "com/example/rowan/rowan/xpath/CoreFunction") (27 : Int32) ((.ref w0) :: (.ref w1) :: (.ref w2) :: (.ref w3) :: (.ref w4) :: (.ref w5) :: (.ref w6) :: (.ref w7) :: (.ref w8) :: (.ref w9) :: (.ref w10) :: (.ref w11) :: (.ref w12) :: (.ref w13) :: .null :: .null :: .null :: .null :: .null :: .null :: .null :: .null :: .null :: .null :: .null :: .null :: .null :: []) .null := Arv.set Ar113 q113 Sz113 Ng113 Hs113 Gs113 rfl W113 13 rfl (Nat.le_of_ble_eq_true rfl)
  have Nf116 := Fr.snoc X113 Nf108 g_b2
  have kn117 : ∀ t, own_S p e below T113 (mkF m 97 #[.val (.int p1), .val (.int p2), .val (.int p3), .unset, .unset, .unset, .unset, .unset, .unset] [(.ref b2)]) t → Gl t := fun t kt => kn112 t (st113 _ kt)
  have kn118 : ∀ t, own_S p e below T113 (mkF m 100 #[.val (.int p1), .val (.int p2), .val (.int p3), .unset, .unset, .unset, .unset, .unset, .unset] [(.int (14 : Int32)), (.ref b2), (.ref b2)]) t → Gl t := fun t kt => kn117 t (by
    show own_S p e below T113 (mkF m 97 #[.val (.int p1), .val (.int p2), .val (.int p3), .unset, .unset, .unset, .unset, .unset, .unset] [(.ref b2)]) _
    refine XS.dup X113.here hx rfl (hb hby at_97) rfl rfl ?_
    show own_S p e below T113 (mkF m 98 #[.val (.int p1), .val (.int p2), .val (.int p3), .unset, .unset, .unset, .unset, .unset, .unset] [(.ref b2), (.ref b2)]) _
    refine XS.bipush X113.here hx rfl (hb hby at_98) ?_
    exact kt)
  obtain ⟨T119, X119, e119, st119⟩ := getS2 X113 hx hZ hown (host := "") (Or.inl (hw _ (List.mem_of_getElem? (i := 45) rfl))) Via.refl e113 (S14.ext O115.2) (g := (mkF m 100 #[.val (.int p1), .val (.int p2), .val (.int p3), .unset, .unset, .unset, .unset, .unset, .unset] [(.int (14 : Int32)), (.ref b2), (.ref b2)])) rfl (hb hby at_100)
  have kn120 : ∀ t, own_S p e below T119 (mkF m 103 #[.val (.int p1), .val (.int p2), .val (.int p3), .unset, .unset, .unset, .unset, .unset, .unset] [(.ref w14), (.int (14 : Int32)), (.ref b2), (.ref b2)]) t → Gl t := fun t kt => kn118 t (st119 _ kt)
  obtain ⟨cl121, Ar121, q121, Sz121, Ng121, Hs121, Gs121⟩ := id V113
  have hin121 : ¬ ((14 : Int32) < 0 ∨ cl121.slots.size ≤ ((14 : Int32)).toNatClampNeg) := inb_of Sz121 ⟨by decide, by decide⟩
  obtain ⟨T121, h121, X121, e121, W121, st121⟩ := stR X119 hx hZ e119 Ar121 (j := (14 : Int32)) hin121 rfl (Sto.ofV Ar121 q121 O2 (Ins.of_exa (E_w14.ext O115.2) (hw _ (List.mem_of_getElem? (i := 47) rfl)))) (g := (mkF m 103 #[.val (.int p1), .val (.int p2), .val (.int p3), .unset, .unset, .unset, .unset, .unset, .unset] [(.ref w14), (.int (14 : Int32)), (.ref b2), (.ref b2)])) rfl rfl (hb hby at_103)
  have Z122 : n0 ≤ h121.size := Nat.le_trans Z114 (Keep.of_wr W121).1
  have O123 : Old Z n0 h121 := O115.wr W121 g_b2
  have V121 : Arv Z h121 b2 kk2 (.object "com/example/rowan/rowan/xpath/CoreFunction") (27 : Int32) ((.ref w0) :: (.ref w1) :: (.ref w2) :: (.ref w3) :: (.ref w4) :: (.ref w5) :: (.ref w6) :: (.ref w7) :: (.ref w8) :: (.ref w9) :: (.ref w10) :: (.ref w11) :: (.ref w12) :: (.ref w13) :: (.ref w14) :: .null :: .null :: .null :: .null :: .null :: .null :: .null :: .null :: .null :: .null :: .null :: .null :: []) .null := Arv.set Ar121 q121 Sz121 Ng121 Hs121 Gs121 rfl W121 14 rfl (Nat.le_of_ble_eq_true rfl)
  have Nf124 := Fr.snoc X121 Nf116 g_b2
  have kn125 : ∀ t, own_S p e below T121 (mkF m 104 #[.val (.int p1), .val (.int p2), .val (.int p3), .unset, .unset, .unset, .unset, .unset, .unset] [(.ref b2)]) t → Gl t := fun t kt => kn120 t (st121 _ kt)
  have kn126 : ∀ t, own_S p e below T121 (mkF m 107 #[.val (.int p1), .val (.int p2), .val (.int p3), .unset, .unset, .unset, .unset, .unset, .unset] [(.int (15 : Int32)), (.ref b2), (.ref b2)]) t → Gl t := fun t kt => kn125 t (by
    show own_S p e below T121 (mkF m 104 #[.val (.int p1), .val (.int p2), .val (.int p3), .unset, .unset, .unset, .unset, .unset, .unset] [(.ref b2)]) _
    refine XS.dup X121.here hx rfl (hb hby at_104) rfl rfl ?_
    show own_S p e below T121 (mkF m 105 #[.val (.int p1), .val (.int p2), .val (.int p3), .unset, .unset, .unset, .unset, .unset, .unset] [(.ref b2), (.ref b2)]) _
    refine XS.bipush X121.here hx rfl (hb hby at_105) ?_
    exact kt)
  obtain ⟨T127, X127, e127, st127⟩ := getS2 X121 hx hZ hown (host := "") (Or.inl (hw _ (List.mem_of_getElem? (i := 48) rfl))) Via.refl e121 (S15.ext O123.2) (g := (mkF m 107 #[.val (.int p1), .val (.int p2), .val (.int p3), .unset, .unset, .unset, .unset, .unset, .unset] [(.int (15 : Int32)), (.ref b2), (.ref b2)])) rfl (hb hby at_107)
  have kn128 : ∀ t, own_S p e below T127 (mkF m 110 #[.val (.int p1), .val (.int p2), .val (.int p3), .unset, .unset, .unset, .unset, .unset, .unset] [(.ref w15), (.int (15 : Int32)), (.ref b2), (.ref b2)]) t → Gl t := fun t kt => kn126 t (st127 _ kt)
  obtain ⟨cl129, Ar129, q129, Sz129, Ng129, Hs129, Gs129⟩ := id V121
  have hin129 : ¬ ((15 : Int32) < 0 ∨ cl129.slots.size ≤ ((15 : Int32)).toNatClampNeg) := inb_of Sz129 ⟨by decide, by decide⟩
  obtain ⟨T129, h129, X129, e129, W129, st129⟩ := stR X127 hx hZ e127 Ar129 (j := (15 : Int32)) hin129 rfl (Sto.ofV Ar129 q129 O2 (Ins.of_exa (E_w15.ext O123.2) (hw _ (List.mem_of_getElem? (i := 50) rfl)))) (g := (mkF m 110 #[.val (.int p1), .val (.int p2), .val (.int p3), .unset, .unset, .unset, .unset, .unset, .unset] [(.ref w15), (.int (15 : Int32)), (.ref b2), (.ref b2)])) rfl rfl (hb hby at_110)
  have Z130 : n0 ≤ h129.size := Nat.le_trans Z122 (Keep.of_wr W129).1
  have O131 : Old Z n0 h129 := O123.wr W129 g_b2
  have V129 : Arv Z h129 b2 kk2 (.object "com/example/rowan/rowan/xpath/CoreFunction") (27 : Int32) ((.ref w0) :: (.ref w1) :: (.ref w2) :: (.ref w3) :: (.ref w4) :: (.ref w5) :: (.ref w6) :: (.ref w7) :: (.ref w8) :: (.ref w9) :: (.ref w10) :: (.ref w11) :: (.ref w12) :: (.ref w13) :: (.ref w14) :: (.ref w15) :: .null :: .null :: .null :: .null :: .null :: .null :: .null :: .null :: .null :: .null :: .null :: []) .null := Arv.set Ar129 q129 Sz129 Ng129 Hs129 Gs129 rfl W129 15 rfl (Nat.le_of_ble_eq_true rfl)
  have Nf132 := Fr.snoc X129 Nf124 g_b2
  have kn133 : ∀ t, own_S p e below T129 (mkF m 111 #[.val (.int p1), .val (.int p2), .val (.int p3), .unset, .unset, .unset, .unset, .unset, .unset] [(.ref b2)]) t → Gl t := fun t kt => kn128 t (st129 _ kt)
  have kn134 : ∀ t, own_S p e below T129 (mkF m 114 #[.val (.int p1), .val (.int p2), .val (.int p3), .unset, .unset, .unset, .unset, .unset, .unset] [(.int (16 : Int32)), (.ref b2), (.ref b2)]) t → Gl t := fun t kt => kn133 t (by
    show own_S p e below T129 (mkF m 111 #[.val (.int p1), .val (.int p2), .val (.int p3), .unset, .unset, .unset, .unset, .unset, .unset] [(.ref b2)]) _
    refine XS.dup X129.here hx rfl (hb hby at_111) rfl rfl ?_
    show own_S p e below T129 (mkF m 112 #[.val (.int p1), .val (.int p2), .val (.int p3), .unset, .unset, .unset, .unset, .unset, .unset] [(.ref b2), (.ref b2)]) _
    refine XS.bipush X129.here hx rfl (hb hby at_112) ?_
    exact kt)
  obtain ⟨T135, X135, e135, st135⟩ := getS2 X129 hx hZ hown (host := "") (Or.inl (hw _ (List.mem_of_getElem? (i := 51) rfl))) Via.refl e129 (S16.ext O131.2) (g := (mkF m 114 #[.val (.int p1), .val (.int p2), .val (.int p3), .unset, .unset, .unset, .unset, .unset, .unset] [(.int (16 : Int32)), (.ref b2), (.ref b2)])) rfl (hb hby at_114)
  have kn136 : ∀ t, own_S p e below T135 (mkF m 117 #[.val (.int p1), .val (.int p2), .val (.int p3), .unset, .unset, .unset, .unset, .unset, .unset] [(.ref w16), (.int (16 : Int32)), (.ref b2), (.ref b2)]) t → Gl t := fun t kt => kn134 t (st135 _ kt)
  obtain ⟨cl137, Ar137, q137, Sz137, Ng137, Hs137, Gs137⟩ := id V129
  have hin137 : ¬ ((16 : Int32) < 0 ∨ cl137.slots.size ≤ ((16 : Int32)).toNatClampNeg) := inb_of Sz137 ⟨by decide, by decide⟩
  obtain ⟨T137, h137, X137, e137, W137, st137⟩ := stR X135 hx hZ e135 Ar137 (j := (16 : Int32)) hin137 rfl (Sto.ofV Ar137 q137 O2 (Ins.of_exa (E_w16.ext O131.2) (hw _ (List.mem_of_getElem? (i := 53) rfl)))) (g := (mkF m 117 #[.val (.int p1), .val (.int p2), .val (.int p3), .unset, .unset, .unset, .unset, .unset, .unset] [(.ref w16), (.int (16 : Int32)), (.ref b2), (.ref b2)])) rfl rfl (hb hby at_117)
  have Z138 : n0 ≤ h137.size := Nat.le_trans Z130 (Keep.of_wr W137).1
  have O139 : Old Z n0 h137 := O131.wr W137 g_b2
  have V137 : Arv Z h137 b2 kk2 (.object "com/example/rowan/rowan/xpath/CoreFunction") (27 : Int32) ((.ref w0) :: (.ref w1) :: (.ref w2) :: (.ref w3) :: (.ref w4) :: (.ref w5) :: (.ref w6) :: (.ref w7) :: (.ref w8) :: (.ref w9) :: (.ref w10) :: (.ref w11) :: (.ref w12) :: (.ref w13) :: (.ref w14) :: (.ref w15) :: (.ref w16) :: .null :: .null :: .null :: .null :: .null :: .null :: .null :: .null :: .null :: .null :: []) .null := Arv.set Ar137 q137 Sz137 Ng137 Hs137 Gs137 rfl W137 16 rfl (Nat.le_of_ble_eq_true rfl)
  have Nf140 := Fr.snoc X137 Nf132 g_b2
  have kn141 : ∀ t, own_S p e below T137 (mkF m 118 #[.val (.int p1), .val (.int p2), .val (.int p3), .unset, .unset, .unset, .unset, .unset, .unset] [(.ref b2)]) t → Gl t := fun t kt => kn136 t (st137 _ kt)
  have kn142 : ∀ t, own_S p e below T137 (mkF m 121 #[.val (.int p1), .val (.int p2), .val (.int p3), .unset, .unset, .unset, .unset, .unset, .unset] [(.int (17 : Int32)), (.ref b2), (.ref b2)]) t → Gl t := fun t kt => kn141 t (by
    show own_S p e below T137 (mkF m 118 #[.val (.int p1), .val (.int p2), .val (.int p3), .unset, .unset, .unset, .unset, .unset, .unset] [(.ref b2)]) _
    refine XS.dup X137.here hx rfl (hb hby at_118) rfl rfl ?_
    show own_S p e below T137 (mkF m 119 #[.val (.int p1), .val (.int p2), .val (.int p3), .unset, .unset, .unset, .unset, .unset, .unset] [(.ref b2), (.ref b2)]) _
    refine XS.bipush X137.here hx rfl (hb hby at_119) ?_
    exact kt)
  obtain ⟨T143, X143, e143, st143⟩ := getS2 X137 hx hZ hown (host := "") (Or.inl (hw _ (List.mem_of_getElem? (i := 54) rfl))) Via.refl e137 (S17.ext O139.2) (g := (mkF m 121 #[.val (.int p1), .val (.int p2), .val (.int p3), .unset, .unset, .unset, .unset, .unset, .unset] [(.int (17 : Int32)), (.ref b2), (.ref b2)])) rfl (hb hby at_121)
  have kn144 : ∀ t, own_S p e below T143 (mkF m 124 #[.val (.int p1), .val (.int p2), .val (.int p3), .unset, .unset, .unset, .unset, .unset, .unset] [(.ref w17), (.int (17 : Int32)), (.ref b2), (.ref b2)]) t → Gl t := fun t kt => kn142 t (st143 _ kt)
  obtain ⟨cl145, Ar145, q145, Sz145, Ng145, Hs145, Gs145⟩ := id V137
  have hin145 : ¬ ((17 : Int32) < 0 ∨ cl145.slots.size ≤ ((17 : Int32)).toNatClampNeg) := inb_of Sz145 ⟨by decide, by decide⟩
  obtain ⟨T145, h145, X145, e145, W145, st145⟩ := stR X143 hx hZ e143 Ar145 (j := (17 : Int32)) hin145 rfl (Sto.ofV Ar145 q145 O2 (Ins.of_exa (E_w17.ext O139.2) (hw _ (List.mem_of_getElem? (i := 56) rfl)))) (g := (mkF m 124 #[.val (.int p1), .val (.int p2), .val (.int p3), .unset, .unset, .unset, .unset, .unset, .unset] [(.ref w17), (.int (17 : Int32)), (.ref b2), (.ref b2)])) rfl rfl (hb hby at_124)
  have Z146 : n0 ≤ h145.size := Nat.le_trans Z138 (Keep.of_wr W145).1
  have O147 : Old Z n0 h145 := O139.wr W145 g_b2
  have V145 : Arv Z h145 b2 kk2 (.object "com/example/rowan/rowan/xpath/CoreFunction") (27 : Int32) ((.ref w0) :: (.ref w1) :: (.ref w2) :: (.ref w3) :: (.ref w4) :: (.ref w5) :: (.ref w6) :: (.ref w7) :: (.ref w8) :: (.ref w9) :: (.ref w10) :: (.ref w11) :: (.ref w12) :: (.ref w13) :: (.ref w14) :: (.ref w15) :: (.ref w16) :: (.ref w17) :: .null :: .null :: .null :: .null :: .null :: .null :: .null :: .null :: .null :: []) .null := Arv.set Ar145 q145 Sz145 Ng145 Hs145 Gs145 rfl W145 17 rfl (Nat.le_of_ble_eq_true rfl)
  have Nf148 := Fr.snoc X145 Nf140 g_b2
  have kn149 : ∀ t, own_S p e below T145 (mkF m 125 #[.val (.int p1), .val (.int p2), .val (.int p3), .unset, .unset, .unset, .unset, .unset, .unset] [(.ref b2)]) t → Gl t := fun t kt => kn144 t (st145 _ kt)
  have kn150 : ∀ t, own_S p e below T145 (mkF m 128 #[.val (.int p1), .val (.int p2), .val (.int p3), .unset, .unset, .unset, .unset, .unset, .unset] [(.int (18 : Int32)), (.ref b2), (.ref b2)]) t → Gl t := fun t kt => kn149 t (by
    show own_S p e below T145 (mkF m 125 #[.val (.int p1), .val (.int p2), .val (.int p3), .unset, .unset, .unset, .unset, .unset, .unset] [(.ref b2)]) _
    refine XS.dup X145.here hx rfl (hb hby at_125) rfl rfl ?_
    show own_S p e below T145 (mkF m 126 #[.val (.int p1), .val (.int p2), .val (.int p3), .unset, .unset, .unset, .unset, .unset, .unset] [(.ref b2), (.ref b2)]) _
    refine XS.bipush X145.here hx rfl (hb hby at_126) ?_
    exact kt)
  obtain ⟨T151, X151, e151, st151⟩ := getS2 X145 hx hZ hown (host := "") (Or.inl (hw _ (List.mem_of_getElem? (i := 57) rfl))) Via.refl e145 (S18.ext O147.2) (g := (mkF m 128 #[.val (.int p1), .val (.int p2), .val (.int p3), .unset, .unset, .unset, .unset, .unset, .unset] [(.int (18 : Int32)), (.ref b2), (.ref b2)])) rfl (hb hby at_128)
  have kn152 : ∀ t, own_S p e below T151 (mkF m 131 #[.val (.int p1), .val (.int p2), .val (.int p3), .unset, .unset, .unset, .unset, .unset, .unset] [(.ref w18), (.int (18 : Int32)), (.ref b2), (.ref b2)]) t → Gl t := fun t kt => kn150 t (st151 _ kt)
  obtain ⟨cl153, Ar153, q153, Sz153, Ng153, Hs153, Gs153⟩ := id V145
  have hin153 : ¬ ((18 : Int32) < 0 ∨ cl153.slots.size ≤ ((18 : Int32)).toNatClampNeg) := inb_of Sz153 ⟨by decide, by decide⟩
  obtain ⟨T153, h153, X153, e153, W153, st153⟩ := stR X151 hx hZ e151 Ar153 (j := (18 : Int32)) hin153 rfl (Sto.ofV Ar153 q153 O2 (Ins.of_exa (E_w18.ext O147.2) (hw _ (List.mem_of_getElem? (i := 59) rfl)))) (g := (mkF m 131 #[.val (.int p1), .val (.int p2), .val (.int p3), .unset, .unset, .unset, .unset, .unset, .unset] [(.ref w18), (.int (18 : Int32)), (.ref b2), (.ref b2)])) rfl rfl (hb hby at_131)
  have Z154 : n0 ≤ h153.size := Nat.le_trans Z146 (Keep.of_wr W153).1
  have O155 : Old Z n0 h153 := O147.wr W153 g_b2
  have V153 : Arv Z h153 b2 kk2 (.object "com/example/rowan/rowan/xpath/CoreFunction") (27 : Int32) ((.ref w0) :: (.ref w1) :: (.ref w2) :: (.ref w3) :: (.ref w4) :: (.ref w5) :: (.ref w6) :: (.ref w7) :: (.ref w8) :: (.ref w9) :: (.ref w10) :: (.ref w11) :: (.ref w12) :: (.ref w13) :: (.ref w14) :: (.ref w15) :: (.ref w16) :: (.ref w17) :: (.ref w18) :: .null :: .null :: .null :: .null :: .null :: .null :: .null :: .null :: []) .null := Arv.set Ar153 q153 Sz153 Ng153 Hs153 Gs153 rfl W153 18 rfl (Nat.le_of_ble_eq_true rfl)
  have Nf156 := Fr.snoc X153 Nf148 g_b2
  have kn157 : ∀ t, own_S p e below T153 (mkF m 132 #[.val (.int p1), .val (.int p2), .val (.int p3), .unset, .unset, .unset, .unset, .unset, .unset] [(.ref b2)]) t → Gl t := fun t kt => kn152 t (st153 _ kt)
  have kn158 : ∀ t, own_S p e below T153 (mkF m 135 #[.val (.int p1), .val (.int p2), .val (.int p3), .unset, .unset, .unset, .unset, .unset, .unset] [(.int (19 : Int32)), (.ref b2), (.ref b2)]) t → Gl t := fun t kt => kn157 t (by
    show own_S p e below T153 (mkF m 132 #[.val (.int p1), .val (.int p2), .val (.int p3), .unset, .unset, .unset, .unset, .unset, .unset] [(.ref b2)]) _
    refine XS.dup X153.here hx rfl (hb hby at_132) rfl rfl ?_
    show own_S p e below T153 (mkF m 133 #[.val (.int p1), .val (.int p2), .val (.int p3), .unset, .unset, .unset, .unset, .unset, .unset] [(.ref b2), (.ref b2)]) _
    refine XS.bipush X153.here hx rfl (hb hby at_133) ?_
    exact kt)
  obtain ⟨T159, X159, e159, st159⟩ := getS2 X153 hx hZ hown (host := "") (Or.inl (hw _ (List.mem_of_getElem? (i := 60) rfl))) Via.refl e153 (S19.ext O155.2) (g := (mkF m 135 #[.val (.int p1), .val (.int p2), .val (.int p3), .unset, .unset, .unset, .unset, .unset, .unset] [(.int (19 : Int32)), (.ref b2), (.ref b2)])) rfl (hb hby at_135)
  have kn160 : ∀ t, own_S p e below T159 (mkF m 138 #[.val (.int p1), .val (.int p2), .val (.int p3), .unset, .unset, .unset, .unset, .unset, .unset] [(.ref w19), (.int (19 : Int32)), (.ref b2), (.ref b2)]) t → Gl t := fun t kt => kn158 t (st159 _ kt)
  obtain ⟨cl161, Ar161, q161, Sz161, Ng161, Hs161, Gs161⟩ := id V153
  have hin161 : ¬ ((19 : Int32) < 0 ∨ cl161.slots.size ≤ ((19 : Int32)).toNatClampNeg) := inb_of Sz161 ⟨by decide, by decide⟩
  obtain ⟨T161, h161, X161, e161, W161, st161⟩ := stR X159 hx hZ e159 Ar161 (j := (19 : Int32)) hin161 rfl (Sto.ofV Ar161 q161 O2 (Ins.of_exa (E_w19.ext O155.2) (hw _ (List.mem_of_getElem? (i := 62) rfl)))) (g := (mkF m 138 #[.val (.int p1), .val (.int p2), .val (.int p3), .unset, .unset, .unset, .unset, .unset, .unset] [(.ref w19), (.int (19 : Int32)), (.ref b2), (.ref b2)])) rfl rfl (hb hby at_138)
  have Z162 : n0 ≤ h161.size := Nat.le_trans Z154 (Keep.of_wr W161).1
  have O163 : Old Z n0 h161 := O155.wr W161 g_b2
  have V161 : Arv Z h161 b2 kk2 (.object "com/example/rowan/rowan/xpath/CoreFunction") (27 : Int32) ((.ref w0) :: (.ref w1) :: (.ref w2) :: (.ref w3) :: (.ref w4) :: (.ref w5) :: (.ref w6) :: (.ref w7) :: (.ref w8) :: (.ref w9) :: (.ref w10) :: (.ref w11) :: (.ref w12) :: (.ref w13) :: (.ref w14) :: (.ref w15) :: (.ref w16) :: (.ref w17) :: (.ref w18) :: (.ref w19) :: .null :: .null :: .null :: .null :: .null :: .null :: .null :: []) .null := Arv.set Ar161 q161 Sz161 Ng161 Hs161 Gs161 rfl W161 19 rfl (Nat.le_of_ble_eq_true rfl)
  have Nf164 := Fr.snoc X161 Nf156 g_b2
  have kn165 : ∀ t, own_S p e below T161 (mkF m 139 #[.val (.int p1), .val (.int p2), .val (.int p3), .unset, .unset, .unset, .unset, .unset, .unset] [(.ref b2)]) t → Gl t := fun t kt => kn160 t (st161 _ kt)
  have kn166 : ∀ t, own_S p e below T161 (mkF m 142 #[.val (.int p1), .val (.int p2), .val (.int p3), .unset, .unset, .unset, .unset, .unset, .unset] [(.int (20 : Int32)), (.ref b2), (.ref b2)]) t → Gl t := fun t kt => kn165 t (by
    show own_S p e below T161 (mkF m 139 #[.val (.int p1), .val (.int p2), .val (.int p3), .unset, .unset, .unset, .unset, .unset, .unset] [(.ref b2)]) _
    refine XS.dup X161.here hx rfl (hb hby at_139) rfl rfl ?_
    show own_S p e below T161 (mkF m 140 #[.val (.int p1), .val (.int p2), .val (.int p3), .unset, .unset, .unset, .unset, .unset, .unset] [(.ref b2), (.ref b2)]) _
    refine XS.bipush X161.here hx rfl (hb hby at_140) ?_
    exact kt)
  obtain ⟨T167, X167, e167, st167⟩ := getS2 X161 hx hZ hown (host := "") (Or.inl (hw _ (List.mem_of_getElem? (i := 63) rfl))) Via.refl e161 (S20.ext O163.2) (g := (mkF m 142 #[.val (.int p1), .val (.int p2), .val (.int p3), .unset, .unset, .unset, .unset, .unset, .unset] [(.int (20 : Int32)), (.ref b2), (.ref b2)])) rfl (hb hby at_142)
  have kn168 : ∀ t, own_S p e below T167 (mkF m 145 #[.val (.int p1), .val (.int p2), .val (.int p3), .unset, .unset, .unset, .unset, .unset, .unset] [(.ref w20), (.int (20 : Int32)), (.ref b2), (.ref b2)]) t → Gl t := fun t kt => kn166 t (st167 _ kt)
  obtain ⟨cl169, Ar169, q169, Sz169, Ng169, Hs169, Gs169⟩ := id V161
  have hin169 : ¬ ((20 : Int32) < 0 ∨ cl169.slots.size ≤ ((20 : Int32)).toNatClampNeg) := inb_of Sz169 ⟨by decide, by decide⟩
  obtain ⟨T169, h169, X169, e169, W169, st169⟩ := stR X167 hx hZ e167 Ar169 (j := (20 : Int32)) hin169 rfl (Sto.ofV Ar169 q169 O2 (Ins.of_exa (E_w20.ext O163.2) (hw _ (List.mem_of_getElem? (i := 65) rfl)))) (g := (mkF m 145 #[.val (.int p1), .val (.int p2), .val (.int p3), .unset, .unset, .unset, .unset, .unset, .unset] [(.ref w20), (.int (20 : Int32)), (.ref b2), (.ref b2)])) rfl rfl (hb hby at_145)
  have Z170 : n0 ≤ h169.size := Nat.le_trans Z162 (Keep.of_wr W169).1
  have O171 : Old Z n0 h169 := O163.wr W169 g_b2
  have V169 : Arv Z h169 b2 kk2 (.object "com/example/rowan/rowan/xpath/CoreFunction") (27 : Int32) ((.ref w0) :: (.ref w1) :: (.ref w2) :: (.ref w3) :: (.ref w4) :: (.ref w5) :: (.ref w6) :: (.ref w7) :: (.ref w8) :: (.ref w9) :: (.ref w10) :: (.ref w11) :: (.ref w12) :: (.ref w13) :: (.ref w14) :: (.ref w15) :: (.ref w16) :: (.ref w17) :: (.ref w18) :: (.ref w19) :: (.ref w20) :: .null :: .null :: .null :: .null :: .null :: .null :: []) .null := Arv.set Ar169 q169 Sz169 Ng169 Hs169 Gs169 rfl W169 20 rfl (Nat.le_of_ble_eq_true rfl)
  have Nf172 := Fr.snoc X169 Nf164 g_b2
  have kn173 : ∀ t, own_S p e below T169 (mkF m 146 #[.val (.int p1), .val (.int p2), .val (.int p3), .unset, .unset, .unset, .unset, .unset, .unset] [(.ref b2)]) t → Gl t := fun t kt => kn168 t (st169 _ kt)
  have kn174 : ∀ t, own_S p e below T169 (mkF m 149 #[.val (.int p1), .val (.int p2), .val (.int p3), .unset, .unset, .unset, .unset, .unset, .unset] [(.int (21 : Int32)), (.ref b2), (.ref b2)]) t → Gl t := fun t kt => kn173 t (by
    show own_S p e below T169 (mkF m 146 #[.val (.int p1), .val (.int p2), .val (.int p3), .unset, .unset, .unset, .unset, .unset, .unset] [(.ref b2)]) _
    refine XS.dup X169.here hx rfl (hb hby at_146) rfl rfl ?_
    show own_S p e below T169 (mkF m 147 #[.val (.int p1), .val (.int p2), .val (.int p3), .unset, .unset, .unset, .unset, .unset, .unset] [(.ref b2), (.ref b2)]) _
    refine XS.bipush X169.here hx rfl (hb hby at_147) ?_
    exact kt)
  obtain ⟨T175, X175, e175, st175⟩ := getS2 X169 hx hZ hown (host := "") (Or.inl (hw _ (List.mem_of_getElem? (i := 66) rfl))) Via.refl e169 (S21.ext O171.2) (g := (mkF m 149 #[.val (.int p1), .val (.int p2), .val (.int p3), .unset, .unset, .unset, .unset, .unset, .unset] [(.int (21 : Int32)), (.ref b2), (.ref b2)])) rfl (hb hby at_149)
  have kn176 : ∀ t, own_S p e below T175 (mkF m 152 #[.val (.int p1), .val (.int p2), .val (.int p3), .unset, .unset, .unset, .unset, .unset, .unset] [(.ref w21), (.int (21 : Int32)), (.ref b2), (.ref b2)]) t → Gl t := fun t kt => kn174 t (st175 _ kt)
  obtain ⟨cl177, Ar177, q177, Sz177, Ng177, Hs177, Gs177⟩ := id V169
  have hin177 : ¬ ((21 : Int32) < 0 ∨ cl177.slots.size ≤ ((21 : Int32)).toNatClampNeg) := inb_of Sz177 ⟨by decide, by decide⟩
  obtain ⟨T177, h177, X177, e177, W177, st177⟩ := stR X175 hx hZ e175 Ar177 (j := (21 : Int32)) hin177 rfl (Sto.ofV Ar177 q177 O2 (Ins.of_exa (E_w21.ext O171.2) (hw _ (List.mem_of_getElem? (i := 68) rfl)))) (g := (mkF m 152 #[.val (.int p1), .val (.int p2), .val (.int p3), .unset, .unset, .unset, .unset, .unset, .unset] [(.ref w21), (.int (21 : Int32)), (.ref b2), (.ref b2)])) rfl rfl (hb hby at_152)
  have Z178 : n0 ≤ h177.size := Nat.le_trans Z170 (Keep.of_wr W177).1
  have O179 : Old Z n0 h177 := O171.wr W177 g_b2
  have V177 : Arv Z h177 b2 kk2 (.object "com/example/rowan/rowan/xpath/CoreFunction") (27 : Int32) ((.ref w0) :: (.ref w1) :: (.ref w2) :: (.ref w3) :: (.ref w4) :: (.ref w5) :: (.ref w6) :: (.ref w7) :: (.ref w8) :: (.ref w9) :: (.ref w10) :: (.ref w11) :: (.ref w12) :: (.ref w13) :: (.ref w14) :: (.ref w15) :: (.ref w16) :: (.ref w17) :: (.ref w18) :: (.ref w19) :: (.ref w20) :: (.ref w21) :: .null :: .null :: .null :: .null :: .null :: []) .null := Arv.set Ar177 q177 Sz177 Ng177 Hs177 Gs177 rfl W177 21 rfl (Nat.le_of_ble_eq_true rfl)
  have Nf180 := Fr.snoc X177 Nf172 g_b2
  have kn181 : ∀ t, own_S p e below T177 (mkF m 153 #[.val (.int p1), .val (.int p2), .val (.int p3), .unset, .unset, .unset, .unset, .unset, .unset] [(.ref b2)]) t → Gl t := fun t kt => kn176 t (st177 _ kt)
  have kn182 : ∀ t, own_S p e below T177 (mkF m 156 #[.val (.int p1), .val (.int p2), .val (.int p3), .unset, .unset, .unset, .unset, .unset, .unset] [(.int (22 : Int32)), (.ref b2), (.ref b2)]) t → Gl t := fun t kt => kn181 t (by
    show own_S p e below T177 (mkF m 153 #[.val (.int p1), .val (.int p2), .val (.int p3), .unset, .unset, .unset, .unset, .unset, .unset] [(.ref b2)]) _
    refine XS.dup X177.here hx rfl (hb hby at_153) rfl rfl ?_
    show own_S p e below T177 (mkF m 154 #[.val (.int p1), .val (.int p2), .val (.int p3), .unset, .unset, .unset, .unset, .unset, .unset] [(.ref b2), (.ref b2)]) _
    refine XS.bipush X177.here hx rfl (hb hby at_154) ?_
    exact kt)
  obtain ⟨T183, X183, e183, st183⟩ := getS2 X177 hx hZ hown (host := "") (Or.inl (hw _ (List.mem_of_getElem? (i := 69) rfl))) Via.refl e177 (S22.ext O179.2) (g := (mkF m 156 #[.val (.int p1), .val (.int p2), .val (.int p3), .unset, .unset, .unset, .unset, .unset, .unset] [(.int (22 : Int32)), (.ref b2), (.ref b2)])) rfl (hb hby at_156)
  have kn184 : ∀ t, own_S p e below T183 (mkF m 159 #[.val (.int p1), .val (.int p2), .val (.int p3), .unset, .unset, .unset, .unset, .unset, .unset] [(.ref w22), (.int (22 : Int32)), (.ref b2), (.ref b2)]) t → Gl t := fun t kt => kn182 t (st183 _ kt)
  obtain ⟨cl185, Ar185, q185, Sz185, Ng185, Hs185, Gs185⟩ := id V177
  have hin185 : ¬ ((22 : Int32) < 0 ∨ cl185.slots.size ≤ ((22 : Int32)).toNatClampNeg) := inb_of Sz185 ⟨by decide, by decide⟩
  obtain ⟨T185, h185, X185, e185, W185, st185⟩ := stR X183 hx hZ e183 Ar185 (j := (22 : Int32)) hin185 rfl (Sto.ofV Ar185 q185 O2 (Ins.of_exa (E_w22.ext O179.2) (hw _ (List.mem_of_getElem? (i := 71) rfl)))) (g := (mkF m 159 #[.val (.int p1), .val (.int p2), .val (.int p3), .unset, .unset, .unset, .unset, .unset, .unset] [(.ref w22), (.int (22 : Int32)), (.ref b2), (.ref b2)])) rfl rfl (hb hby at_159)
  have Z186 : n0 ≤ h185.size := Nat.le_trans Z178 (Keep.of_wr W185).1
  have O187 : Old Z n0 h185 := O179.wr W185 g_b2
  have V185 : Arv Z h185 b2 kk2 (.object "com/example/rowan/rowan/xpath/CoreFunction") (27 : Int32) ((.ref w0) :: (.ref w1) :: (.ref w2) :: (.ref w3) :: (.ref w4) :: (.ref w5) :: (.ref w6) :: (.ref w7) :: (.ref w8) :: (.ref w9) :: (.ref w10) :: (.ref w11) :: (.ref w12) :: (.ref w13) :: (.ref w14) :: (.ref w15) :: (.ref w16) :: (.ref w17) :: (.ref w18) :: (.ref w19) :: (.ref w20) :: (.ref w21) :: (.ref w22) :: .null :: .null :: .null :: .null :: []) .null := Arv.set Ar185 q185 Sz185 Ng185 Hs185 Gs185 rfl W185 22 rfl (Nat.le_of_ble_eq_true rfl)
  have Nf188 := Fr.snoc X185 Nf180 g_b2
  have kn189 : ∀ t, own_S p e below T185 (mkF m 160 #[.val (.int p1), .val (.int p2), .val (.int p3), .unset, .unset, .unset, .unset, .unset, .unset] [(.ref b2)]) t → Gl t := fun t kt => kn184 t (st185 _ kt)
  have kn190 : ∀ t, own_S p e below T185 (mkF m 163 #[.val (.int p1), .val (.int p2), .val (.int p3), .unset, .unset, .unset, .unset, .unset, .unset] [(.int (23 : Int32)), (.ref b2), (.ref b2)]) t → Gl t := fun t kt => kn189 t (by
    show own_S p e below T185 (mkF m 160 #[.val (.int p1), .val (.int p2), .val (.int p3), .unset, .unset, .unset, .unset, .unset, .unset] [(.ref b2)]) _
    refine XS.dup X185.here hx rfl (hb hby at_160) rfl rfl ?_
    show own_S p e below T185 (mkF m 161 #[.val (.int p1), .val (.int p2), .val (.int p3), .unset, .unset, .unset, .unset, .unset, .unset] [(.ref b2), (.ref b2)]) _
    refine XS.bipush X185.here hx rfl (hb hby at_161) ?_
    exact kt)
  obtain ⟨T191, X191, e191, st191⟩ := getS2 X185 hx hZ hown (host := "") (Or.inl (hw _ (List.mem_of_getElem? (i := 72) rfl))) Via.refl e185 (S23.ext O187.2) (g := (mkF m 163 #[.val (.int p1), .val (.int p2), .val (.int p3), .unset, .unset, .unset, .unset, .unset, .unset] [(.int (23 : Int32)), (.ref b2), (.ref b2)])) rfl (hb hby at_163)
  have kn192 : ∀ t, own_S p e below T191 (mkF m 166 #[.val (.int p1), .val (.int p2), .val (.int p3), .unset, .unset, .unset, .unset, .unset, .unset] [(.ref w23), (.int (23 : Int32)), (.ref b2), (.ref b2)]) t → Gl t := fun t kt => kn190 t (st191 _ kt)
  obtain ⟨cl193, Ar193, q193, Sz193, Ng193, Hs193, Gs193⟩ := id V185
  have hin193 : ¬ ((23 : Int32) < 0 ∨ cl193.slots.size ≤ ((23 : Int32)).toNatClampNeg) := inb_of Sz193 ⟨by decide, by decide⟩
  obtain ⟨T193, h193, X193, e193, W193, st193⟩ := stR X191 hx hZ e191 Ar193 (j := (23 : Int32)) hin193 rfl (Sto.ofV Ar193 q193 O2 (Ins.of_exa (E_w23.ext O187.2) (hw _ (List.mem_of_getElem? (i := 74) rfl)))) (g := (mkF m 166 #[.val (.int p1), .val (.int p2), .val (.int p3), .unset, .unset, .unset, .unset, .unset, .unset] [(.ref w23), (.int (23 : Int32)), (.ref b2), (.ref b2)])) rfl rfl (hb hby at_166)
  have Z194 : n0 ≤ h193.size := Nat.le_trans Z186 (Keep.of_wr W193).1
  have O195 : Old Z n0 h193 := O187.wr W193 g_b2
  have V193 : Arv Z h193 b2 kk2 (.object "com/example/rowan/rowan/xpath/CoreFunction") (27 : Int32) ((.ref w0) :: (.ref w1) :: (.ref w2) :: (.ref w3) :: (.ref w4) :: (.ref w5) :: (.ref w6) :: (.ref w7) :: (.ref w8) :: (.ref w9) :: (.ref w10) :: (.ref w11) :: (.ref w12) :: (.ref w13) :: (.ref w14) :: (.ref w15) :: (.ref w16) :: (.ref w17) :: (.ref w18) :: (.ref w19) :: (.ref w20) :: (.ref w21) :: (.ref w22) :: (.ref w23) :: .null :: .null :: .null :: []) .null := Arv.set Ar193 q193 Sz193 Ng193 Hs193 Gs193 rfl W193 23 rfl (Nat.le_of_ble_eq_true rfl)
  have Nf196 := Fr.snoc X193 Nf188 g_b2
  have kn197 : ∀ t, own_S p e below T193 (mkF m 167 #[.val (.int p1), .val (.int p2), .val (.int p3), .unset, .unset, .unset, .unset, .unset, .unset] [(.ref b2)]) t → Gl t := fun t kt => kn192 t (st193 _ kt)
  have kn198 : ∀ t, own_S p e below T193 (mkF m 170 #[.val (.int p1), .val (.int p2), .val (.int p3), .unset, .unset, .unset, .unset, .unset, .unset] [(.int (24 : Int32)), (.ref b2), (.ref b2)]) t → Gl t := fun t kt => kn197 t (by
    show own_S p e below T193 (mkF m 167 #[.val (.int p1), .val (.int p2), .val (.int p3), .unset, .unset, .unset, .unset, .unset, .unset] [(.ref b2)]) _
    refine XS.dup X193.here hx rfl (hb hby at_167) rfl rfl ?_
    show own_S p e below T193 (mkF m 168 #[.val (.int p1), .val (.int p2), .val (.int p3), .unset, .unset, .unset, .unset, .unset, .unset] [(.ref b2), (.ref b2)]) _
    refine XS.bipush X193.here hx rfl (hb hby at_168) ?_
    exact kt)
  obtain ⟨T199, X199, e199, st199⟩ := getS2 X193 hx hZ hown (host := "") (Or.inl (hw _ (List.mem_of_getElem? (i := 75) rfl))) Via.refl e193 (S24.ext O195.2) (g := (mkF m 170 #[.val (.int p1), .val (.int p2), .val (.int p3), .unset, .unset, .unset, .unset, .unset, .unset] [(.int (24 : Int32)), (.ref b2), (.ref b2)])) rfl (hb hby at_170)
  have kn200 : ∀ t, own_S p e below T199 (mkF m 173 #[.val (.int p1), .val (.int p2), .val (.int p3), .unset, .unset, .unset, .unset, .unset, .unset] [(.ref w24), (.int (24 : Int32)), (.ref b2), (.ref b2)]) t → Gl t := fun t kt => kn198 t (st199 _ kt)
  obtain ⟨cl201, Ar201, q201, Sz201, Ng201, Hs201, Gs201⟩ := id V193
  have hin201 : ¬ ((24 : Int32) < 0 ∨ cl201.slots.size ≤ ((24 : Int32)).toNatClampNeg) := inb_of Sz201 ⟨by decide, by decide⟩
  obtain ⟨T201, h201, X201, e201, W201, st201⟩ := stR X199 hx hZ e199 Ar201 (j := (24 : Int32)) hin201 rfl (Sto.ofV Ar201 q201 O2 (Ins.of_exa (E_w24.ext O195.2) (hw _ (List.mem_of_getElem? (i := 77) rfl)))) (g := (mkF m 173 #[.val (.int p1), .val (.int p2), .val (.int p3), .unset, .unset, .unset, .unset, .unset, .unset] [(.ref w24), (.int (24 : Int32)), (.ref b2), (.ref b2)])) rfl rfl (hb hby at_173)
  have Z202 : n0 ≤ h201.size := Nat.le_trans Z194 (Keep.of_wr W201).1
  have O203 : Old Z n0 h201 := O195.wr W201 g_b2
  have V201 : Arv Z h201 b2 kk2 (.object "com/example/rowan/rowan/xpath/CoreFunction") (27 : Int32) ((.ref w0) :: (.ref w1) :: (.ref w2) :: (.ref w3) :: (.ref w4) :: (.ref w5) :: (.ref w6) :: (.ref w7) :: (.ref w8) :: (.ref w9) :: (.ref w10) :: (.ref w11) :: (.ref w12) :: (.ref w13) :: (.ref w14) :: (.ref w15) :: (.ref w16) :: (.ref w17) :: (.ref w18) :: (.ref w19) :: (.ref w20) :: (.ref w21) :: (.ref w22) :: (.ref w23) :: (.ref w24) :: .null :: .null :: []) .null := Arv.set Ar201 q201 Sz201 Ng201 Hs201 Gs201 rfl W201 24 rfl (Nat.le_of_ble_eq_true rfl)
  have Nf204 := Fr.snoc X201 Nf196 g_b2
  have kn205 : ∀ t, own_S p e below T201 (mkF m 174 #[.val (.int p1), .val (.int p2), .val (.int p3), .unset, .unset, .unset, .unset, .unset, .unset] [(.ref b2)]) t → Gl t := fun t kt => kn200 t (st201 _ kt)
  have kn206 : ∀ t, own_S p e below T201 (mkF m 177 #[.val (.int p1), .val (.int p2), .val (.int p3), .unset, .unset, .unset, .unset, .unset, .unset] [(.int (25 : Int32)), (.ref b2), (.ref b2)]) t → Gl t := fun t kt => kn205 t (by
    show own_S p e below T201 (mkF m 174 #[.val (.int p1), .val (.int p2), .val (.int p3), .unset, .unset, .unset, .unset, .unset, .unset] [(.ref b2)]) _
    refine XS.dup X201.here hx rfl (hb hby at_174) rfl rfl ?_
    show own_S p e below T201 (mkF m 175 #[.val (.int p1), .val (.int p2), .val (.int p3), .unset, .unset, .unset, .unset, .unset, .unset] [(.ref b2), (.ref b2)]) _
    refine XS.bipush X201.here hx rfl (hb hby at_175) ?_
    exact kt)
  obtain ⟨T207, X207, e207, st207⟩ := getS2 X201 hx hZ hown (host := "") (Or.inl (hw _ (List.mem_of_getElem? (i := 78) rfl))) Via.refl e201 (S25.ext O203.2) (g := (mkF m 177 #[.val (.int p1), .val (.int p2), .val (.int p3), .unset, .unset, .unset, .unset, .unset, .unset] [(.int (25 : Int32)), (.ref b2), (.ref b2)])) rfl (hb hby at_177)
  have kn208 : ∀ t, own_S p e below T207 (mkF m 180 #[.val (.int p1), .val (.int p2), .val (.int p3), .unset, .unset, .unset, .unset, .unset, .unset] [(.ref w25), (.int (25 : Int32)), (.ref b2), (.ref b2)]) t → Gl t := fun t kt => kn206 t (st207 _ kt)
  obtain ⟨cl209, Ar209, q209, Sz209, Ng209, Hs209, Gs209⟩ := id V201
  have hin209 : ¬ ((25 : Int32) < 0 ∨ cl209.slots.size ≤ ((25 : Int32)).toNatClampNeg) := inb_of Sz209 ⟨by decide, by decide⟩
  obtain ⟨T209, h209, X209, e209, W209, st209⟩ := stR X207 hx hZ e207 Ar209 (j := (25 : Int32)) hin209 rfl (Sto.ofV Ar209 q209 O2 (Ins.of_exa (E_w25.ext O203.2) (hw _ (List.mem_of_getElem? (i := 80) rfl)))) (g := (mkF m 180 #[.val (.int p1), .val (.int p2), .val (.int p3), .unset, .unset, .unset, .unset, .unset, .unset] [(.ref w25), (.int (25 : Int32)), (.ref b2), (.ref b2)])) rfl rfl (hb hby at_180)
  have Z210 : n0 ≤ h209.size := Nat.le_trans Z202 (Keep.of_wr W209).1
  have O211 : Old Z n0 h209 := O203.wr W209 g_b2
  have V209 : Arv Z h209 b2 kk2 (.object "com/example/rowan/rowan/xpath/CoreFunction") (27 : Int32) ((.ref w0) :: (.ref w1) :: (.ref w2) :: (.ref w3) :: (.ref w4) :: (.ref w5) :: (.ref w6) :: (.ref w7) :: (.ref w8) :: (.ref w9) :: (.ref w10) :: (.ref w11) :: (.ref w12) :: (.ref w13) :: (.ref w14) :: (.ref w15) :: (.ref w16) :: (.ref w17) :: (.ref w18) :: (.ref w19) :: (.ref w20) :: (.ref w21) :: (.ref w22) :: (.ref w23) :: (.ref w24) :: (.ref w25) :: .null :: []) .null := Arv.set Ar209 q209 Sz209 Ng209 Hs209 Gs209 rfl W209 25 rfl (Nat.le_of_ble_eq_true rfl)
  have Nf212 := Fr.snoc X209 Nf204 g_b2
  have kn213 : ∀ t, own_S p e below T209 (mkF m 181 #[.val (.int p1), .val (.int p2), .val (.int p3), .unset, .unset, .unset, .unset, .unset, .unset] [(.ref b2)]) t → Gl t := fun t kt => kn208 t (st209 _ kt)
  have kn214 : ∀ t, own_S p e below T209 (mkF m 184 #[.val (.int p1), .val (.int p2), .val (.int p3), .unset, .unset, .unset, .unset, .unset, .unset] [(.int (26 : Int32)), (.ref b2), (.ref b2)]) t → Gl t := fun t kt => kn213 t (by
    show own_S p e below T209 (mkF m 181 #[.val (.int p1), .val (.int p2), .val (.int p3), .unset, .unset, .unset, .unset, .unset, .unset] [(.ref b2)]) _
    refine XS.dup X209.here hx rfl (hb hby at_181) rfl rfl ?_
    show own_S p e below T209 (mkF m 182 #[.val (.int p1), .val (.int p2), .val (.int p3), .unset, .unset, .unset, .unset, .unset, .unset] [(.ref b2), (.ref b2)]) _
    refine XS.bipush X209.here hx rfl (hb hby at_182) ?_
    exact kt)
  obtain ⟨T215, X215, e215, st215⟩ := getS2 X209 hx hZ hown (host := "") (Or.inl (hw _ (List.mem_of_getElem? (i := 81) rfl))) Via.refl e209 (S26.ext O211.2) (g := (mkF m 184 #[.val (.int p1), .val (.int p2), .val (.int p3), .unset, .unset, .unset, .unset, .unset, .unset] [(.int (26 : Int32)), (.ref b2), (.ref b2)])) rfl (hb hby at_184)
  have kn216 : ∀ t, own_S p e below T215 (mkF m 187 #[.val (.int p1), .val (.int p2), .val (.int p3), .unset, .unset, .unset, .unset, .unset, .unset] [(.ref w26), (.int (26 : Int32)), (.ref b2), (.ref b2)]) t → Gl t := fun t kt => kn214 t (st215 _ kt)
  obtain ⟨cl217, Ar217, q217, Sz217, Ng217, Hs217, Gs217⟩ := id V209
  have hin217 : ¬ ((26 : Int32) < 0 ∨ cl217.slots.size ≤ ((26 : Int32)).toNatClampNeg) := inb_of Sz217 ⟨by decide, by decide⟩
  obtain ⟨T217, h217, X217, e217, W217, st217⟩ := stR X215 hx hZ e215 Ar217 (j := (26 : Int32)) hin217 rfl (Sto.ofV Ar217 q217 O2 (Ins.of_exa (E_w26.ext O211.2) (hw _ (List.mem_of_getElem? (i := 83) rfl)))) (g := (mkF m 187 #[.val (.int p1), .val (.int p2), .val (.int p3), .unset, .unset, .unset, .unset, .unset, .unset] [(.ref w26), (.int (26 : Int32)), (.ref b2), (.ref b2)])) rfl rfl (hb hby at_187)
  have Z218 : n0 ≤ h217.size := Nat.le_trans Z210 (Keep.of_wr W217).1
  have O219 : Old Z n0 h217 := O211.wr W217 g_b2
  have V217 : Arv Z h217 b2 kk2 (.object "com/example/rowan/rowan/xpath/CoreFunction") (27 : Int32) ((.ref w0) :: (.ref w1) :: (.ref w2) :: (.ref w3) :: (.ref w4) :: (.ref w5) :: (.ref w6) :: (.ref w7) :: (.ref w8) :: (.ref w9) :: (.ref w10) :: (.ref w11) :: (.ref w12) :: (.ref w13) :: (.ref w14) :: (.ref w15) :: (.ref w16) :: (.ref w17) :: (.ref w18) :: (.ref w19) :: (.ref w20) :: (.ref w21) :: (.ref w22) :: (.ref w23) :: (.ref w24) :: (.ref w25) :: (.ref w26) :: []) .null := Arv.set Ar217 q217 Sz217 Ng217 Hs217 Gs217 rfl W217 26 rfl (Nat.le_of_ble_eq_true rfl)
  have Nf220 := Fr.snoc X217 Nf212 g_b2
  have kn221 : ∀ t, own_S p e below T217 (mkF m 188 #[.val (.int p1), .val (.int p2), .val (.int p3), .unset, .unset, .unset, .unset, .unset, .unset] [(.ref b2)]) t → Gl t := fun t kt => kn216 t (st217 _ kt)
  have kn222 : ∀ t, own_S p e below T217 (mkF m 191 #[.val (.int p1), .val (.int p2), .val (.int p3), .val (.ref b2), .unset, .unset, .unset, .unset, .unset] [(.int (27 : Int32))]) t → Gl t := fun t kt => kn221 t (by
    show own_S p e below T217 (mkF m 188 #[.val (.int p1), .val (.int p2), .val (.int p3), .unset, .unset, .unset, .unset, .unset, .unset] [(.ref b2)]) _
    refine XS.astoreN X217.here hx rfl (hb hby at_188) rfl rfl (l' := #[.val (.int p1), .val (.int p2), .val (.int p3), .val (.ref b2), .unset, .unset, .unset, .unset, .unset]) rfl ?_
    show own_S p e below T217 (mkF m 189 #[.val (.int p1), .val (.int p2), .val (.int p3), .val (.ref b2), .unset, .unset, .unset, .unset, .unset] []) _
    refine XS.bipush X217.here hx rfl (hb hby at_189) ?_
    exact kt)
  obtain ⟨T223, h223, kk223, X223, e223, E223, A223, st223⟩ := newP X217 hx hZ (hw _ (List.mem_of_getElem? (i := 84) rfl)) e217 (g := (mkF m 191 #[.val (.int p1), .val (.int p2), .val (.int p3), .val (.ref b2), .unset, .unset, .unset, .unset, .unset] [(.int (27 : Int32))])) rfl (hb hby at_191) rfl (by decide) (cap := 27) (by decide) (by decide) (by decide) (by decide)
  obtain ⟨b223, g223⟩ : ∃ z, z = h217.size := ⟨_, rfl⟩
  rw [← g223] at A223 st223
  have g_b223 : n0 ≤ b223 := Nat.le_trans Z218 (Nat.le_of_eq g223.symm)
  have ne_b2_b223 : b2 ≠ b223 := Nat.ne_of_lt (Nat.lt_of_lt_of_le V217.lt (Nat.le_of_eq g223.symm))
  have Z224 : n0 ≤ h223.size := Nat.le_trans Z218 E223.1
  have O225 : Old Z n0 h223 := O219.ext E223
  have V223 : Arv Z h223 b223 kk223 .int (27 : Int32) ((.int (0 : Int32)) :: (.int (0 : Int32)) :: (.int (0 : Int32)) :: (.int (0 : Int32)) :: (.int (0 : Int32)) :: (.int (0 : Int32)) :: (.int (0 : Int32)) :: (.int (0 : Int32)) :: (.int (0 : Int32)) :: (.int (0 : Int32)) :: (.int (0 : Int32)) :: (.int (0 : Int32)) :: (.int (0 : Int32)) :: (.int (0 : Int32)) :: (.int (0 : Int32)) :: (.int (0 : Int32)) :: (.int (0 : Int32)) :: (.int (0 : Int32)) :: (.int (0 : Int32)) :: (.int (0 : Int32)) :: (.int (0 : Int32)) :: (.int (0 : Int32)) :: (.int (0 : Int32)) :: (.int (0 : Int32)) :: (.int (0 : Int32)) :: (.int (0 : Int32)) :: (.int (0 : Int32)) :: []) (.int (0 : Int32)) := (Arv.new A223 (by decide)).pad (pad_rep [] (.int (0 : Int32)) 27)
  have kn226 : ∀ t, own_S p e below T223 (mkF m 193 #[.val (.int p1), .val (.int p2), .val (.int p3), .val (.ref b2), .unset, .unset, .unset, .unset, .unset] [(.ref b223)]) t → Gl t := fun t kt => kn222 t (st223 _ kt)
  have kn227 : ∀ t, own_S p e below T223 (mkF m 196 #[.val (.int p1), .val (.int p2), .val (.int p3), .val (.ref b2), .unset, .unset, .unset, .unset, .unset] [(.int (0 : Int32)), (.int (0 : Int32)), (.ref b223), (.ref b223)]) t → Gl t := fun t kt => kn226 t (by
    show own_S p e below T223 (mkF m 193 #[.val (.int p1), .val (.int p2), .val (.int p3), .val (.ref b2), .unset, .unset, .unset, .unset, .unset] [(.ref b223)]) _
    refine XS.dup X223.here hx rfl (hb hby at_193) rfl rfl ?_
    show own_S p e below T223 (mkF m 194 #[.val (.int p1), .val (.int p2), .val (.int p3), .val (.ref b2), .unset, .unset, .unset, .unset, .unset] [(.ref b223), (.ref b223)]) _
    refine XS.iconst X223.here hx rfl (hb hby at_194) ?_
    show own_S p e below T223 (mkF m 195 #[.val (.int p1), .val (.int p2), .val (.int p3), .val (.ref b2), .unset, .unset, .unset, .unset, .unset] [(.int (0 : Int32)), (.ref b223), (.ref b223)]) _
    refine XS.iconst X223.here hx rfl (hb hby at_195) ?_
    exact kt)
  obtain ⟨cl228, Ar228, q228, Sz228, Ng228, Hs228, Gs228⟩ := id V223
  have hin228 : ¬ ((0 : Int32) < 0 ∨ cl228.slots.size ≤ ((0 : Int32)).toNatClampNeg) := inb_of Sz228 ⟨by decide, by decide⟩
  obtain ⟨T228, h228, X228, e228, W228, st228⟩ := stI X223 hx hZ e223 Ar228 (j := (0 : Int32)) hin228 (g := (mkF m 196 #[.val (.int p1), .val (.int p2), .val (.int p3), .val (.ref b2), .unset, .unset, .unset, .unset, .unset] [(.int (0 : Int32)), (.int (0 : Int32)), (.ref b223), (.ref b223)])) rfl rfl (hb hby at_196)
  have Z229 : n0 ≤ h228.size := Nat.le_trans Z224 (Keep.of_wr W228).1
  have O230 : Old Z n0 h228 := O225.wr W228 g_b223
  have V228 : Arv Z h228 b223 kk223 .int (27 : Int32) ((.int (0 : Int32)) :: (.int (0 : Int32)) :: (.int (0 : Int32)) :: (.int (0 : Int32)) :: (.int (0 : Int32)) :: (.int (0 : Int32)) :: (.int (0 : Int32)) :: (.int (0 : Int32)) :: (.int (0 : Int32)) :: (.int (0 : Int32)) :: (.int (0 : Int32)) :: (.int (0 : Int32)) :: (.int (0 : Int32)) :: (.int (0 : Int32)) :: (.int (0 : Int32)) :: (.int (0 : Int32)) :: (.int (0 : Int32)) :: (.int (0 : Int32)) :: (.int (0 : Int32)) :: (.int (0 : Int32)) :: (.int (0 : Int32)) :: (.int (0 : Int32)) :: (.int (0 : Int32)) :: (.int (0 : Int32)) :: (.int (0 : Int32)) :: (.int (0 : Int32)) :: (.int (0 : Int32)) :: []) (.int (0 : Int32)) := Arv.set Ar228 q228 Sz228 Ng228 Hs228 Gs228 rfl W228 0 rfl (Nat.le_of_ble_eq_true rfl)
  have Nf231 := Fr.snoc X228 Nf220 g_b223
  have kn232 : ∀ t, own_S p e below T228 (mkF m 197 #[.val (.int p1), .val (.int p2), .val (.int p3), .val (.ref b2), .unset, .unset, .unset, .unset, .unset] [(.ref b223)]) t → Gl t := fun t kt => kn227 t (st228 _ kt)
  have kn233 : ∀ t, own_S p e below T228 (mkF m 200 #[.val (.int p1), .val (.int p2), .val (.int p3), .val (.ref b2), .unset, .unset, .unset, .unset, .unset] [(.int (0 : Int32)), (.int (1 : Int32)), (.ref b223), (.ref b223)]) t → Gl t := fun t kt => kn232 t (by
    show own_S p e below T228 (mkF m 197 #[.val (.int p1), .val (.int p2), .val (.int p3), .val (.ref b2), .unset, .unset, .unset, .unset, .unset] [(.ref b223)]) _
    refine XS.dup X228.here hx rfl (hb hby at_197) rfl rfl ?_
    show own_S p e below T228 (mkF m 198 #[.val (.int p1), .val (.int p2), .val (.int p3), .val (.ref b2), .unset, .unset, .unset, .unset, .unset] [(.ref b223), (.ref b223)]) _
    refine XS.iconst X228.here hx rfl (hb hby at_198) ?_
    show own_S p e below T228 (mkF m 199 #[.val (.int p1), .val (.int p2), .val (.int p3), .val (.ref b2), .unset, .unset, .unset, .unset, .unset] [(.int (1 : Int32)), (.ref b223), (.ref b223)]) _
    refine XS.iconst X228.here hx rfl (hb hby at_199) ?_
    exact kt)
  obtain ⟨cl234, Ar234, q234, Sz234, Ng234, Hs234, Gs234⟩ := id V228
  have hin234 : ¬ ((1 : Int32) < 0 ∨ cl234.slots.size ≤ ((1 : Int32)).toNatClampNeg) := inb_of Sz234 ⟨by decide, by decide⟩
  obtain ⟨T234, h234, X234, e234, W234, st234⟩ := stI X228 hx hZ e228 Ar234 (j := (1 : Int32)) hin234 (g := (mkF m 200 #[.val (.int p1), .val (.int p2), .val (.int p3), .val (.ref b2), .unset, .unset, .unset, .unset, .unset] [(.int (0 : Int32)), (.int (1 : Int32)), (.ref b223), (.ref b223)])) rfl rfl (hb hby at_200)
  have Z235 : n0 ≤ h234.size := Nat.le_trans Z229 (Keep.of_wr W234).1
  have O236 : Old Z n0 h234 := O230.wr W234 g_b223
  have V234 : Arv Z h234 b223 kk223 .int (27 : Int32) ((.int (0 : Int32)) :: (.int (0 : Int32)) :: (.int (0 : Int32)) :: (.int (0 : Int32)) :: (.int (0 : Int32)) :: (.int (0 : Int32)) :: (.int (0 : Int32)) :: (.int (0 : Int32)) :: (.int (0 : Int32)) :: (.int (0 : Int32)) :: (.int (0 : Int32)) :: (.int (0 : Int32)) :: (.int (0 : Int32)) :: (.int (0 : Int32)) :: (.int (0 : Int32)) :: (.int (0 : Int32)) :: (.int (0 : Int32)) :: (.int (0 : Int32)) :: (.int (0 : Int32)) :: (.int (0 : Int32)) :: (.int (0 : Int32)) :: (.int (0 : Int32)) :: (.int (0 : Int32)) :: (.int (0 : Int32)) :: (.int (0 : Int32)) :: (.int (0 : Int32)) :: (.int (0 : Int32)) :: []) (.int (0 : Int32)) := Arv.set Ar234 q234 Sz234 Ng234 Hs234 Gs234 rfl W234 1 rfl (Nat.le_of_ble_eq_true rfl)
  have Nf237 := Fr.snoc X234 Nf231 g_b223
  have kn238 : ∀ t, own_S p e below T234 (mkF m 201 #[.val (.int p1), .val (.int p2), .val (.int p3), .val (.ref b2), .unset, .unset, .unset, .unset, .unset] [(.ref b223)]) t → Gl t := fun t kt => kn233 t (st234 _ kt)
  have kn239 : ∀ t, own_S p e below T234 (mkF m 204 #[.val (.int p1), .val (.int p2), .val (.int p3), .val (.ref b2), .unset, .unset, .unset, .unset, .unset] [(.int (1 : Int32)), (.int (2 : Int32)), (.ref b223), (.ref b223)]) t → Gl t := fun t kt => kn238 t (by
    show own_S p e below T234 (mkF m 201 #[.val (.int p1), .val (.int p2), .val (.int p3), .val (.ref b2), .unset, .unset, .unset, .unset, .unset] [(.ref b223)]) _
    refine XS.dup X234.here hx rfl (hb hby at_201) rfl rfl ?_
    show own_S p e below T234 (mkF m 202 #[.val (.int p1), .val (.int p2), .val (.int p3), .val (.ref b2), .unset, .unset, .unset, .unset, .unset] [(.ref b223), (.ref b223)]) _
    refine XS.iconst X234.here hx rfl (hb hby at_202) ?_
    show own_S p e below T234 (mkF m 203 #[.val (.int p1), .val (.int p2), .val (.int p3), .val (.ref b2), .unset, .unset, .unset, .unset, .unset] [(.int (2 : Int32)), (.ref b223), (.ref b223)]) _
    refine XS.iconst X234.here hx rfl (hb hby at_203) ?_
    exact kt)
  obtain ⟨cl240, Ar240, q240, Sz240, Ng240, Hs240, Gs240⟩ := id V234
  have hin240 : ¬ ((2 : Int32) < 0 ∨ cl240.slots.size ≤ ((2 : Int32)).toNatClampNeg) := inb_of Sz240 ⟨by decide, by decide⟩
  obtain ⟨T240, h240, X240, e240, W240, st240⟩ := stI X234 hx hZ e234 Ar240 (j := (2 : Int32)) hin240 (g := (mkF m 204 #[.val (.int p1), .val (.int p2), .val (.int p3), .val (.ref b2), .unset, .unset, .unset, .unset, .unset] [(.int (1 : Int32)), (.int (2 : Int32)), (.ref b223), (.ref b223)])) rfl rfl (hb hby at_204)
  have Z241 : n0 ≤ h240.size := Nat.le_trans Z235 (Keep.of_wr W240).1
  have O242 : Old Z n0 h240 := O236.wr W240 g_b223
  have V240 : Arv Z h240 b223 kk223 .int (27 : Int32) ((.int (0 : Int32)) :: (.int (0 : Int32)) :: (.int (1 : Int32)) :: (.int (0 : Int32)) :: (.int (0 : Int32)) :: (.int (0 : Int32)) :: (.int (0 : Int32)) :: (.int (0 : Int32)) :: (.int (0 : Int32)) :: (.int (0 : Int32)) :: (.int (0 : Int32)) :: (.int (0 : Int32)) :: (.int (0 : Int32)) :: (.int (0 : Int32)) :: (.int (0 : Int32)) :: (.int (0 : Int32)) :: (.int (0 : Int32)) :: (.int (0 : Int32)) :: (.int (0 : Int32)) :: (.int (0 : Int32)) :: (.int (0 : Int32)) :: (.int (0 : Int32)) :: (.int (0 : Int32)) :: (.int (0 : Int32)) :: (.int (0 : Int32)) :: (.int (0 : Int32)) :: (.int (0 : Int32)) :: []) (.int (0 : Int32)) := Arv.set Ar240 q240 Sz240 Ng240 Hs240 Gs240 rfl W240 2 rfl (Nat.le_of_ble_eq_true rfl)
  have Nf243 := Fr.snoc X240 Nf237 g_b223
  have kn244 : ∀ t, own_S p e below T240 (mkF m 205 #[.val (.int p1), .val (.int p2), .val (.int p3), .val (.ref b2), .unset, .unset, .unset, .unset, .unset] [(.ref b223)]) t → Gl t := fun t kt => kn239 t (st240 _ kt)
  have kn245 : ∀ t, own_S p e below T240 (mkF m 208 #[.val (.int p1), .val (.int p2), .val (.int p3), .val (.ref b2), .unset, .unset, .unset, .unset, .unset] [(.int (1 : Int32)), (.int (3 : Int32)), (.ref b223), (.ref b223)]) t → Gl t := fun t kt => kn244 t (by
    show own_S p e below T240 (mkF m 205 #[.val (.int p1), .val (.int p2), .val (.int p3), .val (.ref b2), .unset, .unset, .unset, .unset, .unset] [(.ref b223)]) _
    refine XS.dup X240.here hx rfl (hb hby at_205) rfl rfl ?_
    show own_S p e below T240 (mkF m 206 #[.val (.int p1), .val (.int p2), .val (.int p3), .val (.ref b2), .unset, .unset, .unset, .unset, .unset] [(.ref b223), (.ref b223)]) _
    refine XS.iconst X240.here hx rfl (hb hby at_206) ?_
    show own_S p e below T240 (mkF m 207 #[.val (.int p1), .val (.int p2), .val (.int p3), .val (.ref b2), .unset, .unset, .unset, .unset, .unset] [(.int (3 : Int32)), (.ref b223), (.ref b223)]) _
    refine XS.iconst X240.here hx rfl (hb hby at_207) ?_
    exact kt)
  obtain ⟨cl246, Ar246, q246, Sz246, Ng246, Hs246, Gs246⟩ := id V240
  have hin246 : ¬ ((3 : Int32) < 0 ∨ cl246.slots.size ≤ ((3 : Int32)).toNatClampNeg) := inb_of Sz246 ⟨by decide, by decide⟩
  obtain ⟨T246, h246, X246, e246, W246, st246⟩ := stI X240 hx hZ e240 Ar246 (j := (3 : Int32)) hin246 (g := (mkF m 208 #[.val (.int p1), .val (.int p2), .val (.int p3), .val (.ref b2), .unset, .unset, .unset, .unset, .unset] [(.int (1 : Int32)), (.int (3 : Int32)), (.ref b223), (.ref b223)])) rfl rfl (hb hby at_208)
  have Z247 : n0 ≤ h246.size := Nat.le_trans Z241 (Keep.of_wr W246).1
  have O248 : Old Z n0 h246 := O242.wr W246 g_b223
  have V246 : Arv Z h246 b223 kk223 .int (27 : Int32) ((.int (0 : Int32)) :: (.int (0 : Int32)) :: (.int (1 : Int32)) :: (.int (1 : Int32)) :: (.int (0 : Int32)) :: (.int (0 : Int32)) :: (.int (0 : Int32)) :: (.int (0 : Int32)) :: (.int (0 : Int32)) :: (.int (0 : Int32)) :: (.int (0 : Int32)) :: (.int (0 : Int32)) :: (.int (0 : Int32)) :: (.int (0 : Int32)) :: (.int (0 : Int32)) :: (.int (0 : Int32)) :: (.int (0 : Int32)) :: (.int (0 : Int32)) :: (.int (0 : Int32)) :: (.int (0 : Int32)) :: (.int (0 : Int32)) :: (.int (0 : Int32)) :: (.int (0 : Int32)) :: (.int (0 : Int32)) :: (.int (0 : Int32)) :: (.int (0 : Int32)) :: (.int (0 : Int32)) :: []) (.int (0 : Int32)) := Arv.set Ar246 q246 Sz246 Ng246 Hs246 Gs246 rfl W246 3 rfl (Nat.le_of_ble_eq_true rfl)
  have Nf249 := Fr.snoc X246 Nf243 g_b223
  have kn250 : ∀ t, own_S p e below T246 (mkF m 209 #[.val (.int p1), .val (.int p2), .val (.int p3), .val (.ref b2), .unset, .unset, .unset, .unset, .unset] [(.ref b223)]) t → Gl t := fun t kt => kn245 t (st246 _ kt)
  have kn251 : ∀ t, own_S p e below T246 (mkF m 212 #[.val (.int p1), .val (.int p2), .val (.int p3), .val (.ref b2), .unset, .unset, .unset, .unset, .unset] [(.int (0 : Int32)), (.int (4 : Int32)), (.ref b223), (.ref b223)]) t → Gl t := fun t kt => kn250 t (by
    show own_S p e below T246 (mkF m 209 #[.val (.int p1), .val (.int p2), .val (.int p3), .val (.ref b2), .unset, .unset, .unset, .unset, .unset] [(.ref b223)]) _
    refine XS.dup X246.here hx rfl (hb hby at_209) rfl rfl ?_
    show own_S p e below T246 (mkF m 210 #[.val (.int p1), .val (.int p2), .val (.int p3), .val (.ref b2), .unset, .unset, .unset, .unset, .unset] [(.ref b223), (.ref b223)]) _
    refine XS.iconst X246.here hx rfl (hb hby at_210) ?_
    show own_S p e below T246 (mkF m 211 #[.val (.int p1), .val (.int p2), .val (.int p3), .val (.ref b2), .unset, .unset, .unset, .unset, .unset] [(.int (4 : Int32)), (.ref b223), (.ref b223)]) _
    refine XS.iconst X246.here hx rfl (hb hby at_211) ?_
    exact kt)
  obtain ⟨cl252, Ar252, q252, Sz252, Ng252, Hs252, Gs252⟩ := id V246
  have hin252 : ¬ ((4 : Int32) < 0 ∨ cl252.slots.size ≤ ((4 : Int32)).toNatClampNeg) := inb_of Sz252 ⟨by decide, by decide⟩
  obtain ⟨T252, h252, X252, e252, W252, st252⟩ := stI X246 hx hZ e246 Ar252 (j := (4 : Int32)) hin252 (g := (mkF m 212 #[.val (.int p1), .val (.int p2), .val (.int p3), .val (.ref b2), .unset, .unset, .unset, .unset, .unset] [(.int (0 : Int32)), (.int (4 : Int32)), (.ref b223), (.ref b223)])) rfl rfl (hb hby at_212)
  have Z253 : n0 ≤ h252.size := Nat.le_trans Z247 (Keep.of_wr W252).1
  have O254 : Old Z n0 h252 := O248.wr W252 g_b223
  have V252 : Arv Z h252 b223 kk223 .int (27 : Int32) ((.int (0 : Int32)) :: (.int (0 : Int32)) :: (.int (1 : Int32)) :: (.int (1 : Int32)) :: (.int (0 : Int32)) :: (.int (0 : Int32)) :: (.int (0 : Int32)) :: (.int (0 : Int32)) :: (.int (0 : Int32)) :: (.int (0 : Int32)) :: (.int (0 : Int32)) :: (.int (0 : Int32)) :: (.int (0 : Int32)) :: (.int (0 : Int32)) :: (.int (0 : Int32)) :: (.int (0 : Int32)) :: (.int (0 : Int32)) :: (.int (0 : Int32)) :: (.int (0 : Int32)) :: (.int (0 : Int32)) :: (.int (0 : Int32)) :: (.int (0 : Int32)) :: (.int (0 : Int32)) :: (.int (0 : Int32)) :: (.int (0 : Int32)) :: (.int (0 : Int32)) :: (.int (0 : Int32)) :: []) (.int (0 : Int32)) := Arv.set Ar252 q252 Sz252 Ng252 Hs252 Gs252 rfl W252 4 rfl (Nat.le_of_ble_eq_true rfl)
  have Nf255 := Fr.snoc X252 Nf249 g_b223
  have kn256 : ∀ t, own_S p e below T252 (mkF m 213 #[.val (.int p1), .val (.int p2), .val (.int p3), .val (.ref b2), .unset, .unset, .unset, .unset, .unset] [(.ref b223)]) t → Gl t := fun t kt => kn251 t (st252 _ kt)
  have kn257 : ∀ t, own_S p e below T252 (mkF m 216 #[.val (.int p1), .val (.int p2), .val (.int p3), .val (.ref b2), .unset, .unset, .unset, .unset, .unset] [(.int (0 : Int32)), (.int (5 : Int32)), (.ref b223), (.ref b223)]) t → Gl t := fun t kt => kn256 t (by
    show own_S p e below T252 (mkF m 213 #[.val (.int p1), .val (.int p2), .val (.int p3), .val (.ref b2), .unset, .unset, .unset, .unset, .unset] [(.ref b223)]) _
    refine XS.dup X252.here hx rfl (hb hby at_213) rfl rfl ?_
    show own_S p e below T252 (mkF m 214 #[.val (.int p1), .val (.int p2), .val (.int p3), .val (.ref b2), .unset, .unset, .unset, .unset, .unset] [(.ref b223), (.ref b223)]) _
    refine XS.iconst X252.here hx rfl (hb hby at_214) ?_
    show own_S p e below T252 (mkF m 215 #[.val (.int p1), .val (.int p2), .val (.int p3), .val (.ref b2), .unset, .unset, .unset, .unset, .unset] [(.int (5 : Int32)), (.ref b223), (.ref b223)]) _
    refine XS.iconst X252.here hx rfl (hb hby at_215) ?_
    exact kt)
  obtain ⟨cl258, Ar258, q258, Sz258, Ng258, Hs258, Gs258⟩ := id V252
  have hin258 : ¬ ((5 : Int32) < 0 ∨ cl258.slots.size ≤ ((5 : Int32)).toNatClampNeg) := inb_of Sz258 ⟨by decide, by decide⟩
  obtain ⟨T258, h258, X258, e258, W258, st258⟩ := stI X252 hx hZ e252 Ar258 (j := (5 : Int32)) hin258 (g := (mkF m 216 #[.val (.int p1), .val (.int p2), .val (.int p3), .val (.ref b2), .unset, .unset, .unset, .unset, .unset] [(.int (0 : Int32)), (.int (5 : Int32)), (.ref b223), (.ref b223)])) rfl rfl (hb hby at_216)
  have Z259 : n0 ≤ h258.size := Nat.le_trans Z253 (Keep.of_wr W258).1
  have O260 : Old Z n0 h258 := O254.wr W258 g_b223
  have V258 : Arv Z h258 b223 kk223 .int (27 : Int32) ((.int (0 : Int32)) :: (.int (0 : Int32)) :: (.int (1 : Int32)) :: (.int (1 : Int32)) :: (.int (0 : Int32)) :: (.int (0 : Int32)) :: (.int (0 : Int32)) :: (.int (0 : Int32)) :: (.int (0 : Int32)) :: (.int (0 : Int32)) :: (.int (0 : Int32)) :: (.int (0 : Int32)) :: (.int (0 : Int32)) :: (.int (0 : Int32)) :: (.int (0 : Int32)) :: (.int (0 : Int32)) :: (.int (0 : Int32)) :: (.int (0 : Int32)) :: (.int (0 : Int32)) :: (.int (0 : Int32)) :: (.int (0 : Int32)) :: (.int (0 : Int32)) :: (.int (0 : Int32)) :: (.int (0 : Int32)) :: (.int (0 : Int32)) :: (.int (0 : Int32)) :: (.int (0 : Int32)) :: []) (.int (0 : Int32)) := Arv.set Ar258 q258 Sz258 Ng258 Hs258 Gs258 rfl W258 5 rfl (Nat.le_of_ble_eq_true rfl)
  have Nf261 := Fr.snoc X258 Nf255 g_b223
  have kn262 : ∀ t, own_S p e below T258 (mkF m 217 #[.val (.int p1), .val (.int p2), .val (.int p3), .val (.ref b2), .unset, .unset, .unset, .unset, .unset] [(.ref b223)]) t → Gl t := fun t kt => kn257 t (st258 _ kt)
  have kn263 : ∀ t, own_S p e below T258 (mkF m 221 #[.val (.int p1), .val (.int p2), .val (.int p3), .val (.ref b2), .unset, .unset, .unset, .unset, .unset] [(.int (0 : Int32)), (.int (6 : Int32)), (.ref b223), (.ref b223)]) t → Gl t := fun t kt => kn262 t (by
    show own_S p e below T258 (mkF m 217 #[.val (.int p1), .val (.int p2), .val (.int p3), .val (.ref b2), .unset, .unset, .unset, .unset, .unset] [(.ref b223)]) _
    refine XS.dup X258.here hx rfl (hb hby at_217) rfl rfl ?_
    show own_S p e below T258 (mkF m 218 #[.val (.int p1), .val (.int p2), .val (.int p3), .val (.ref b2), .unset, .unset, .unset, .unset, .unset] [(.ref b223), (.ref b223)]) _
    refine XS.bipush X258.here hx rfl (hb hby at_218) ?_
    show own_S p e below T258 (mkF m 220 #[.val (.int p1), .val (.int p2), .val (.int p3), .val (.ref b2), .unset, .unset, .unset, .unset, .unset] [(.int (6 : Int32)), (.ref b223), (.ref b223)]) _
    refine XS.iconst X258.here hx rfl (hb hby at_220) ?_
    exact kt)
  obtain ⟨cl264, Ar264, q264, Sz264, Ng264, Hs264, Gs264⟩ := id V258
  have hin264 : ¬ ((6 : Int32) < 0 ∨ cl264.slots.size ≤ ((6 : Int32)).toNatClampNeg) := inb_of Sz264 ⟨by decide, by decide⟩
  obtain ⟨T264, h264, X264, e264, W264, st264⟩ := stI X258 hx hZ e258 Ar264 (j := (6 : Int32)) hin264 (g := (mkF m 221 #[.val (.int p1), .val (.int p2), .val (.int p3), .val (.ref b2), .unset, .unset, .unset, .unset, .unset] [(.int (0 : Int32)), (.int (6 : Int32)), (.ref b223), (.ref b223)])) rfl rfl (hb hby at_221)
  have Z265 : n0 ≤ h264.size := Nat.le_trans Z259 (Keep.of_wr W264).1
  have O266 : Old Z n0 h264 := O260.wr W264 g_b223
  have V264 : Arv Z h264 b223 kk223 .int (27 : Int32) ((.int (0 : Int32)) :: (.int (0 : Int32)) :: (.int (1 : Int32)) :: (.int (1 : Int32)) :: (.int (0 : Int32)) :: (.int (0 : Int32)) :: (.int (0 : Int32)) :: (.int (0 : Int32)) :: (.int (0 : Int32)) :: (.int (0 : Int32)) :: (.int (0 : Int32)) :: (.int (0 : Int32)) :: (.int (0 : Int32)) :: (.int (0 : Int32)) :: (.int (0 : Int32)) :: (.int (0 : Int32)) :: (.int (0 : Int32)) :: (.int (0 : Int32)) :: (.int (0 : Int32)) :: (.int (0 : Int32)) :: (.int (0 : Int32)) :: (.int (0 : Int32)) :: (.int (0 : Int32)) :: (.int (0 : Int32)) :: (.int (0 : Int32)) :: (.int (0 : Int32)) :: (.int (0 : Int32)) :: []) (.int (0 : Int32)) := Arv.set Ar264 q264 Sz264 Ng264 Hs264 Gs264 rfl W264 6 rfl (Nat.le_of_ble_eq_true rfl)
  have Nf267 := Fr.snoc X264 Nf261 g_b223
  have kn268 : ∀ t, own_S p e below T264 (mkF m 222 #[.val (.int p1), .val (.int p2), .val (.int p3), .val (.ref b2), .unset, .unset, .unset, .unset, .unset] [(.ref b223)]) t → Gl t := fun t kt => kn263 t (st264 _ kt)
  have kn269 : ∀ t, own_S p e below T264 (mkF m 226 #[.val (.int p1), .val (.int p2), .val (.int p3), .val (.ref b2), .unset, .unset, .unset, .unset, .unset] [(.int (0 : Int32)), (.int (7 : Int32)), (.ref b223), (.ref b223)]) t → Gl t := fun t kt => kn268 t (by
    show own_S p e below T264 (mkF m 222 #[.val (.int p1), .val (.int p2), .val (.int p3), .val (.ref b2), .unset, .unset, .unset, .unset, .unset] [(.ref b223)]) _
    refine XS.dup X264.here hx rfl (hb hby at_222) rfl rfl ?_
    show own_S p e below T264 (mkF m 223 #[.val (.int p1), .val (.int p2), .val (.int p3), .val (.ref b2), .unset, .unset, .unset, .unset, .unset] [(.ref b223), (.ref b223)]) _
    refine XS.bipush X264.here hx rfl (hb hby at_223) ?_
    show own_S p e below T264 (mkF m 225 #[.val (.int p1), .val (.int p2), .val (.int p3), .val (.ref b2), .unset, .unset, .unset, .unset, .unset] [(.int (7 : Int32)), (.ref b223), (.ref b223)]) _
    refine XS.iconst X264.here hx rfl (hb hby at_225) ?_
    exact kt)
  obtain ⟨cl270, Ar270, q270, Sz270, Ng270, Hs270, Gs270⟩ := id V264
  have hin270 : ¬ ((7 : Int32) < 0 ∨ cl270.slots.size ≤ ((7 : Int32)).toNatClampNeg) := inb_of Sz270 ⟨by decide, by decide⟩
  obtain ⟨T270, h270, X270, e270, W270, st270⟩ := stI X264 hx hZ e264 Ar270 (j := (7 : Int32)) hin270 (g := (mkF m 226 #[.val (.int p1), .val (.int p2), .val (.int p3), .val (.ref b2), .unset, .unset, .unset, .unset, .unset] [(.int (0 : Int32)), (.int (7 : Int32)), (.ref b223), (.ref b223)])) rfl rfl (hb hby at_226)
  have Z271 : n0 ≤ h270.size := Nat.le_trans Z265 (Keep.of_wr W270).1
  have O272 : Old Z n0 h270 := O266.wr W270 g_b223
  have V270 : Arv Z h270 b223 kk223 .int (27 : Int32) ((.int (0 : Int32)) :: (.int (0 : Int32)) :: (.int (1 : Int32)) :: (.int (1 : Int32)) :: (.int (0 : Int32)) :: (.int (0 : Int32)) :: (.int (0 : Int32)) :: (.int (0 : Int32)) :: (.int (0 : Int32)) :: (.int (0 : Int32)) :: (.int (0 : Int32)) :: (.int (0 : Int32)) :: (.int (0 : Int32)) :: (.int (0 : Int32)) :: (.int (0 : Int32)) :: (.int (0 : Int32)) :: (.int (0 : Int32)) :: (.int (0 : Int32)) :: (.int (0 : Int32)) :: (.int (0 : Int32)) :: (.int (0 : Int32)) :: (.int (0 : Int32)) :: (.int (0 : Int32)) :: (.int (0 : Int32)) :: (.int (0 : Int32)) :: (.int (0 : Int32)) :: (.int (0 : Int32)) :: []) (.int (0 : Int32)) := Arv.set Ar270 q270 Sz270 Ng270 Hs270 Gs270 rfl W270 7 rfl (Nat.le_of_ble_eq_true rfl)
  have Nf273 := Fr.snoc X270 Nf267 g_b223
  have kn274 : ∀ t, own_S p e below T270 (mkF m 227 #[.val (.int p1), .val (.int p2), .val (.int p3), .val (.ref b2), .unset, .unset, .unset, .unset, .unset] [(.ref b223)]) t → Gl t := fun t kt => kn269 t (st270 _ kt)
  have kn275 : ∀ t, own_S p e below T270 (mkF m 231 #[.val (.int p1), .val (.int p2), .val (.int p3), .val (.ref b2), .unset, .unset, .unset, .unset, .unset] [(.int (2 : Int32)), (.int (8 : Int32)), (.ref b223), (.ref b223)]) t → Gl t := fun t kt => kn274 t (by
    show own_S p e below T270 (mkF m 227 #[.val (.int p1), .val (.int p2), .val (.int p3), .val (.ref b2), .unset, .unset, .unset, .unset, .unset] [(.ref b223)]) _
    refine XS.dup X270.here hx rfl (hb hby at_227) rfl rfl ?_
    show own_S p e below T270 (mkF m 228 #[.val (.int p1), .val (.int p2), .val (.int p3), .val (.ref b2), .unset, .unset, .unset, .unset, .unset] [(.ref b223), (.ref b223)]) _
    refine XS.bipush X270.here hx rfl (hb hby at_228) ?_
    show own_S p e below T270 (mkF m 230 #[.val (.int p1), .val (.int p2), .val (.int p3), .val (.ref b2), .unset, .unset, .unset, .unset, .unset] [(.int (8 : Int32)), (.ref b223), (.ref b223)]) _
    refine XS.iconst X270.here hx rfl (hb hby at_230) ?_
    exact kt)
  obtain ⟨cl276, Ar276, q276, Sz276, Ng276, Hs276, Gs276⟩ := id V270
  have hin276 : ¬ ((8 : Int32) < 0 ∨ cl276.slots.size ≤ ((8 : Int32)).toNatClampNeg) := inb_of Sz276 ⟨by decide, by decide⟩
  obtain ⟨T276, h276, X276, e276, W276, st276⟩ := stI X270 hx hZ e270 Ar276 (j := (8 : Int32)) hin276 (g := (mkF m 231 #[.val (.int p1), .val (.int p2), .val (.int p3), .val (.ref b2), .unset, .unset, .unset, .unset, .unset] [(.int (2 : Int32)), (.int (8 : Int32)), (.ref b223), (.ref b223)])) rfl rfl (hb hby at_231)
  have Z277 : n0 ≤ h276.size := Nat.le_trans Z271 (Keep.of_wr W276).1
  have O278 : Old Z n0 h276 := O272.wr W276 g_b223
  have V276 : Arv Z h276 b223 kk223 .int (27 : Int32) ((.int (0 : Int32)) :: (.int (0 : Int32)) :: (.int (1 : Int32)) :: (.int (1 : Int32)) :: (.int (0 : Int32)) :: (.int (0 : Int32)) :: (.int (0 : Int32)) :: (.int (0 : Int32)) :: (.int (2 : Int32)) :: (.int (0 : Int32)) :: (.int (0 : Int32)) :: (.int (0 : Int32)) :: (.int (0 : Int32)) :: (.int (0 : Int32)) :: (.int (0 : Int32)) :: (.int (0 : Int32)) :: (.int (0 : Int32)) :: (.int (0 : Int32)) :: (.int (0 : Int32)) :: (.int (0 : Int32)) :: (.int (0 : Int32)) :: (.int (0 : Int32)) :: (.int (0 : Int32)) :: (.int (0 : Int32)) :: (.int (0 : Int32)) :: (.int (0 : Int32)) :: (.int (0 : Int32)) :: []) (.int (0 : Int32)) := Arv.set Ar276 q276 Sz276 Ng276 Hs276 Gs276 rfl W276 8 rfl (Nat.le_of_ble_eq_true rfl)
  have Nf279 := Fr.snoc X276 Nf273 g_b223
  have kn280 : ∀ t, own_S p e below T276 (mkF m 232 #[.val (.int p1), .val (.int p2), .val (.int p3), .val (.ref b2), .unset, .unset, .unset, .unset, .unset] [(.ref b223)]) t → Gl t := fun t kt => kn275 t (st276 _ kt)
  have kn281 : ∀ t, own_S p e below T276 (mkF m 236 #[.val (.int p1), .val (.int p2), .val (.int p3), .val (.ref b2), .unset, .unset, .unset, .unset, .unset] [(.int (2 : Int32)), (.int (9 : Int32)), (.ref b223), (.ref b223)]) t → Gl t := fun t kt => kn280 t (by
    show own_S p e below T276 (mkF m 232 #[.val (.int p1), .val (.int p2), .val (.int p3), .val (.ref b2), .unset, .unset, .unset, .unset, .unset] [(.ref b223)]) _
    refine XS.dup X276.here hx rfl (hb hby at_232) rfl rfl ?_
    show own_S p e below T276 (mkF m 233 #[.val (.int p1), .val (.int p2), .val (.int p3), .val (.ref b2), .unset, .unset, .unset, .unset, .unset] [(.ref b223), (.ref b223)]) _
    refine XS.bipush X276.here hx rfl (hb hby at_233) ?_
    show own_S p e below T276 (mkF m 235 #[.val (.int p1), .val (.int p2), .val (.int p3), .val (.ref b2), .unset, .unset, .unset, .unset, .unset] [(.int (9 : Int32)), (.ref b223), (.ref b223)]) _
    refine XS.iconst X276.here hx rfl (hb hby at_235) ?_
    exact kt)
  obtain ⟨cl282, Ar282, q282, Sz282, Ng282, Hs282, Gs282⟩ := id V276
  have hin282 : ¬ ((9 : Int32) < 0 ∨ cl282.slots.size ≤ ((9 : Int32)).toNatClampNeg) := inb_of Sz282 ⟨by decide, by decide⟩
  obtain ⟨T282, h282, X282, e282, W282, st282⟩ := stI X276 hx hZ e276 Ar282 (j := (9 : Int32)) hin282 (g := (mkF m 236 #[.val (.int p1), .val (.int p2), .val (.int p3), .val (.ref b2), .unset, .unset, .unset, .unset, .unset] [(.int (2 : Int32)), (.int (9 : Int32)), (.ref b223), (.ref b223)])) rfl rfl (hb hby at_236)
  have Z283 : n0 ≤ h282.size := Nat.le_trans Z277 (Keep.of_wr W282).1
  have O284 : Old Z n0 h282 := O278.wr W282 g_b223
  have V282 : Arv Z h282 b223 kk223 .int (27 : Int32) ((.int (0 : Int32)) :: (.int (0 : Int32)) :: (.int (1 : Int32)) :: (.int (1 : Int32)) :: (.int (0 : Int32)) :: (.int (0 : Int32)) :: (.int (0 : Int32)) :: (.int (0 : Int32)) :: (.int (2 : Int32)) :: (.int (2 : Int32)) :: (.int (0 : Int32)) :: (.int (0 : Int32)) :: (.int (0 : Int32)) :: (.int (0 : Int32)) :: (.int (0 : Int32)) :: (.int (0 : Int32)) :: (.int (0 : Int32)) :: (.int (0 : Int32)) :: (.int (0 : Int32)) :: (.int (0 : Int32)) :: (.int (0 : Int32)) :: (.int (0 : Int32)) :: (.int (0 : Int32)) :: (.int (0 : Int32)) :: (.int (0 : Int32)) :: (.int (0 : Int32)) :: (.int (0 : Int32)) :: []) (.int (0 : Int32)) := Arv.set Ar282 q282 Sz282 Ng282 Hs282 Gs282 rfl W282 9 rfl (Nat.le_of_ble_eq_true rfl)
  have Nf285 := Fr.snoc X282 Nf279 g_b223
  have kn286 : ∀ t, own_S p e below T282 (mkF m 237 #[.val (.int p1), .val (.int p2), .val (.int p3), .val (.ref b2), .unset, .unset, .unset, .unset, .unset] [(.ref b223)]) t → Gl t := fun t kt => kn281 t (st282 _ kt)
  have kn287 : ∀ t, own_S p e below T282 (mkF m 241 #[.val (.int p1), .val (.int p2), .val (.int p3), .val (.ref b2), .unset, .unset, .unset, .unset, .unset] [(.int (2 : Int32)), (.int (10 : Int32)), (.ref b223), (.ref b223)]) t → Gl t := fun t kt => kn286 t (by
    show own_S p e below T282 (mkF m 237 #[.val (.int p1), .val (.int p2), .val (.int p3), .val (.ref b2), .unset, .unset, .unset, .unset, .unset] [(.ref b223)]) _
    refine XS.dup X282.here hx rfl (hb hby at_237) rfl rfl ?_
    show own_S p e below T282 (mkF m 238 #[.val (.int p1), .val (.int p2), .val (.int p3), .val (.ref b2), .unset, .unset, .unset, .unset, .unset] [(.ref b223), (.ref b223)]) _
    refine XS.bipush X282.here hx rfl (hb hby at_238) ?_
    show own_S p e below T282 (mkF m 240 #[.val (.int p1), .val (.int p2), .val (.int p3), .val (.ref b2), .unset, .unset, .unset, .unset, .unset] [(.int (10 : Int32)), (.ref b223), (.ref b223)]) _
    refine XS.iconst X282.here hx rfl (hb hby at_240) ?_
    exact kt)
  obtain ⟨cl288, Ar288, q288, Sz288, Ng288, Hs288, Gs288⟩ := id V282
  have hin288 : ¬ ((10 : Int32) < 0 ∨ cl288.slots.size ≤ ((10 : Int32)).toNatClampNeg) := inb_of Sz288 ⟨by decide, by decide⟩
  obtain ⟨T288, h288, X288, e288, W288, st288⟩ := stI X282 hx hZ e282 Ar288 (j := (10 : Int32)) hin288 (g := (mkF m 241 #[.val (.int p1), .val (.int p2), .val (.int p3), .val (.ref b2), .unset, .unset, .unset, .unset, .unset] [(.int (2 : Int32)), (.int (10 : Int32)), (.ref b223), (.ref b223)])) rfl rfl (hb hby at_241)
  have Z289 : n0 ≤ h288.size := Nat.le_trans Z283 (Keep.of_wr W288).1
  have O290 : Old Z n0 h288 := O284.wr W288 g_b223
  have V288 : Arv Z h288 b223 kk223 .int (27 : Int32) ((.int (0 : Int32)) :: (.int (0 : Int32)) :: (.int (1 : Int32)) :: (.int (1 : Int32)) :: (.int (0 : Int32)) :: (.int (0 : Int32)) :: (.int (0 : Int32)) :: (.int (0 : Int32)) :: (.int (2 : Int32)) :: (.int (2 : Int32)) :: (.int (2 : Int32)) :: (.int (0 : Int32)) :: (.int (0 : Int32)) :: (.int (0 : Int32)) :: (.int (0 : Int32)) :: (.int (0 : Int32)) :: (.int (0 : Int32)) :: (.int (0 : Int32)) :: (.int (0 : Int32)) :: (.int (0 : Int32)) :: (.int (0 : Int32)) :: (.int (0 : Int32)) :: (.int (0 : Int32)) :: (.int (0 : Int32)) :: (.int (0 : Int32)) :: (.int (0 : Int32)) :: (.int (0 : Int32)) :: []) (.int (0 : Int32)) := Arv.set Ar288 q288 Sz288 Ng288 Hs288 Gs288 rfl W288 10 rfl (Nat.le_of_ble_eq_true rfl)
  have Nf291 := Fr.snoc X288 Nf285 g_b223
  have kn292 : ∀ t, own_S p e below T288 (mkF m 242 #[.val (.int p1), .val (.int p2), .val (.int p3), .val (.ref b2), .unset, .unset, .unset, .unset, .unset] [(.ref b223)]) t → Gl t := fun t kt => kn287 t (st288 _ kt)
  have kn293 : ∀ t, own_S p e below T288 (mkF m 246 #[.val (.int p1), .val (.int p2), .val (.int p3), .val (.ref b2), .unset, .unset, .unset, .unset, .unset] [(.int (2 : Int32)), (.int (11 : Int32)), (.ref b223), (.ref b223)]) t → Gl t := fun t kt => kn292 t (by
    show own_S p e below T288 (mkF m 242 #[.val (.int p1), .val (.int p2), .val (.int p3), .val (.ref b2), .unset, .unset, .unset, .unset, .unset] [(.ref b223)]) _
    refine XS.dup X288.here hx rfl (hb hby at_242) rfl rfl ?_
    show own_S p e below T288 (mkF m 243 #[.val (.int p1), .val (.int p2), .val (.int p3), .val (.ref b2), .unset, .unset, .unset, .unset, .unset] [(.ref b223), (.ref b223)]) _
    refine XS.bipush X288.here hx rfl (hb hby at_243) ?_
    show own_S p e below T288 (mkF m 245 #[.val (.int p1), .val (.int p2), .val (.int p3), .val (.ref b2), .unset, .unset, .unset, .unset, .unset] [(.int (11 : Int32)), (.ref b223), (.ref b223)]) _
    refine XS.iconst X288.here hx rfl (hb hby at_245) ?_
    exact kt)
  obtain ⟨cl294, Ar294, q294, Sz294, Ng294, Hs294, Gs294⟩ := id V288
  have hin294 : ¬ ((11 : Int32) < 0 ∨ cl294.slots.size ≤ ((11 : Int32)).toNatClampNeg) := inb_of Sz294 ⟨by decide, by decide⟩
  obtain ⟨T294, h294, X294, e294, W294, st294⟩ := stI X288 hx hZ e288 Ar294 (j := (11 : Int32)) hin294 (g := (mkF m 246 #[.val (.int p1), .val (.int p2), .val (.int p3), .val (.ref b2), .unset, .unset, .unset, .unset, .unset] [(.int (2 : Int32)), (.int (11 : Int32)), (.ref b223), (.ref b223)])) rfl rfl (hb hby at_246)
  have Z295 : n0 ≤ h294.size := Nat.le_trans Z289 (Keep.of_wr W294).1
  have O296 : Old Z n0 h294 := O290.wr W294 g_b223
  have V294 : Arv Z h294 b223 kk223 .int (27 : Int32) ((.int (0 : Int32)) :: (.int (0 : Int32)) :: (.int (1 : Int32)) :: (.int (1 : Int32)) :: (.int (0 : Int32)) :: (.int (0 : Int32)) :: (.int (0 : Int32)) :: (.int (0 : Int32)) :: (.int (2 : Int32)) :: (.int (2 : Int32)) :: (.int (2 : Int32)) :: (.int (2 : Int32)) :: (.int (0 : Int32)) :: (.int (0 : Int32)) :: (.int (0 : Int32)) :: (.int (0 : Int32)) :: (.int (0 : Int32)) :: (.int (0 : Int32)) :: (.int (0 : Int32)) :: (.int (0 : Int32)) :: (.int (0 : Int32)) :: (.int (0 : Int32)) :: (.int (0 : Int32)) :: (.int (0 : Int32)) :: (.int (0 : Int32)) :: (.int (0 : Int32)) :: (.int (0 : Int32)) :: []) (.int (0 : Int32)) := Arv.set Ar294 q294 Sz294 Ng294 Hs294 Gs294 rfl W294 11 rfl (Nat.le_of_ble_eq_true rfl)
  have Nf297 := Fr.snoc X294 Nf291 g_b223
  have kn298 : ∀ t, own_S p e below T294 (mkF m 247 #[.val (.int p1), .val (.int p2), .val (.int p3), .val (.ref b2), .unset, .unset, .unset, .unset, .unset] [(.ref b223)]) t → Gl t := fun t kt => kn293 t (st294 _ kt)
  have kn299 : ∀ t, own_S p e below T294 (mkF m 251 #[.val (.int p1), .val (.int p2), .val (.int p3), .val (.ref b2), .unset, .unset, .unset, .unset, .unset] [(.int (2 : Int32)), (.int (12 : Int32)), (.ref b223), (.ref b223)]) t → Gl t := fun t kt => kn298 t (by
    show own_S p e below T294 (mkF m 247 #[.val (.int p1), .val (.int p2), .val (.int p3), .val (.ref b2), .unset, .unset, .unset, .unset, .unset] [(.ref b223)]) _
    refine XS.dup X294.here hx rfl (hb hby at_247) rfl rfl ?_
    show own_S p e below T294 (mkF m 248 #[.val (.int p1), .val (.int p2), .val (.int p3), .val (.ref b2), .unset, .unset, .unset, .unset, .unset] [(.ref b223), (.ref b223)]) _
    refine XS.bipush X294.here hx rfl (hb hby at_248) ?_
    show own_S p e below T294 (mkF m 250 #[.val (.int p1), .val (.int p2), .val (.int p3), .val (.ref b2), .unset, .unset, .unset, .unset, .unset] [(.int (12 : Int32)), (.ref b223), (.ref b223)]) _
    refine XS.iconst X294.here hx rfl (hb hby at_250) ?_
    exact kt)
  obtain ⟨cl300, Ar300, q300, Sz300, Ng300, Hs300, Gs300⟩ := id V294
  have hin300 : ¬ ((12 : Int32) < 0 ∨ cl300.slots.size ≤ ((12 : Int32)).toNatClampNeg) := inb_of Sz300 ⟨by decide, by decide⟩
  obtain ⟨T300, h300, X300, e300, W300, st300⟩ := stI X294 hx hZ e294 Ar300 (j := (12 : Int32)) hin300 (g := (mkF m 251 #[.val (.int p1), .val (.int p2), .val (.int p3), .val (.ref b2), .unset, .unset, .unset, .unset, .unset] [(.int (2 : Int32)), (.int (12 : Int32)), (.ref b223), (.ref b223)])) rfl rfl (hb hby at_251)
  have Z301 : n0 ≤ h300.size := Nat.le_trans Z295 (Keep.of_wr W300).1
  have O302 : Old Z n0 h300 := O296.wr W300 g_b223
  have V300 : Arv Z h300 b223 kk223 .int (27 : Int32) ((.int (0 : Int32)) :: (.int (0 : Int32)) :: (.int (1 : Int32)) :: (.int (1 : Int32)) :: (.int (0 : Int32)) :: (.int (0 : Int32)) :: (.int (0 : Int32)) :: (.int (0 : Int32)) :: (.int (2 : Int32)) :: (.int (2 : Int32)) :: (.int (2 : Int32)) :: (.int (2 : Int32)) :: (.int (2 : Int32)) :: (.int (0 : Int32)) :: (.int (0 : Int32)) :: (.int (0 : Int32)) :: (.int (0 : Int32)) :: (.int (0 : Int32)) :: (.int (0 : Int32)) :: (.int (0 : Int32)) :: (.int (0 : Int32)) :: (.int (0 : Int32)) :: (.int (0 : Int32)) :: (.int (0 : Int32)) :: (.int (0 : Int32)) :: (.int (0 : Int32)) :: (.int (0 : Int32)) :: []) (.int (0 : Int32)) := Arv.set Ar300 q300 Sz300 Ng300 Hs300 Gs300 rfl W300 12 rfl (Nat.le_of_ble_eq_true rfl)
  have Nf303 := Fr.snoc X300 Nf297 g_b223
  have kn304 : ∀ t, own_S p e below T300 (mkF m 252 #[.val (.int p1), .val (.int p2), .val (.int p3), .val (.ref b2), .unset, .unset, .unset, .unset, .unset] [(.ref b223)]) t → Gl t := fun t kt => kn299 t (st300 _ kt)
  have kn305 : ∀ t, own_S p e below T300 (mkF m 256 #[.val (.int p1), .val (.int p2), .val (.int p3), .val (.ref b2), .unset, .unset, .unset, .unset, .unset] [(.int (2 : Int32)), (.int (13 : Int32)), (.ref b223), (.ref b223)]) t → Gl t := fun t kt => kn304 t (by
    show own_S p e below T300 (mkF m 252 #[.val (.int p1), .val (.int p2), .val (.int p3), .val (.ref b2), .unset, .unset, .unset, .unset, .unset] [(.ref b223)]) _
    refine XS.dup X300.here hx rfl (hb hby at_252) rfl rfl ?_
    show own_S p e below T300 (mkF m 253 #[.val (.int p1), .val (.int p2), .val (.int p3), .val (.ref b2), .unset, .unset, .unset, .unset, .unset] [(.ref b223), (.ref b223)]) _
    refine XS.bipush X300.here hx rfl (hb hby at_253) ?_
    show own_S p e below T300 (mkF m 255 #[.val (.int p1), .val (.int p2), .val (.int p3), .val (.ref b2), .unset, .unset, .unset, .unset, .unset] [(.int (13 : Int32)), (.ref b223), (.ref b223)]) _
    refine XS.iconst X300.here hx rfl (hb hby at_255) ?_
    exact kt)
  obtain ⟨cl306, Ar306, q306, Sz306, Ng306, Hs306, Gs306⟩ := id V300
  have hin306 : ¬ ((13 : Int32) < 0 ∨ cl306.slots.size ≤ ((13 : Int32)).toNatClampNeg) := inb_of Sz306 ⟨by decide, by decide⟩
  obtain ⟨T306, h306, X306, e306, W306, st306⟩ := stI X300 hx hZ e300 Ar306 (j := (13 : Int32)) hin306 (g := (mkF m 256 #[.val (.int p1), .val (.int p2), .val (.int p3), .val (.ref b2), .unset, .unset, .unset, .unset, .unset] [(.int (2 : Int32)), (.int (13 : Int32)), (.ref b223), (.ref b223)])) rfl rfl (hb hby at_256)
  have Z307 : n0 ≤ h306.size := Nat.le_trans Z301 (Keep.of_wr W306).1
  have O308 : Old Z n0 h306 := O302.wr W306 g_b223
  have V306 : Arv Z h306 b223 kk223 .int (27 : Int32) ((.int (0 : Int32)) :: (.int (0 : Int32)) :: (.int (1 : Int32)) :: (.int (1 : Int32)) :: (.int (0 : Int32)) :: (.int (0 : Int32)) :: (.int (0 : Int32)) :: (.int (0 : Int32)) :: (.int (2 : Int32)) :: (.int (2 : Int32)) :: (.int (2 : Int32)) :: (.int (2 : Int32)) :: (.int (2 : Int32)) :: (.int (2 : Int32)) :: (.int (0 : Int32)) :: (.int (0 : Int32)) :: (.int (0 : Int32)) :: (.int (0 : Int32)) :: (.int (0 : Int32)) :: (.int (0 : Int32)) :: (.int (0 : Int32)) :: (.int (0 : Int32)) :: (.int (0 : Int32)) :: (.int (0 : Int32)) :: (.int (0 : Int32)) :: (.int (0 : Int32)) :: (.int (0 : Int32)) :: []) (.int (0 : Int32)) := Arv.set Ar306 q306 Sz306 Ng306 Hs306 Gs306 rfl W306 13 rfl (Nat.le_of_ble_eq_true rfl)
  have Nf309 := Fr.snoc X306 Nf303 g_b223
  have kn310 : ∀ t, own_S p e below T306 (mkF m 257 #[.val (.int p1), .val (.int p2), .val (.int p3), .val (.ref b2), .unset, .unset, .unset, .unset, .unset] [(.ref b223)]) t → Gl t := fun t kt => kn305 t (st306 _ kt)
  have kn311 : ∀ t, own_S p e below T306 (mkF m 261 #[.val (.int p1), .val (.int p2), .val (.int p3), .val (.ref b2), .unset, .unset, .unset, .unset, .unset] [(.int (0 : Int32)), (.int (14 : Int32)), (.ref b223), (.ref b223)]) t → Gl t := fun t kt => kn310 t (by
    show own_S p e below T306 (mkF m 257 #[.val (.int p1), .val (.int p2), .val (.int p3), .val (.ref b2), .unset, .unset, .unset, .unset, .unset] [(.ref b223)]) _
    refine XS.dup X306.here hx rfl (hb hby at_257) rfl rfl ?_
    show own_S p e below T306 (mkF m 258 #[.val (.int p1), .val (.int p2), .val (.int p3), .val (.ref b2), .unset, .unset, .unset, .unset, .unset] [(.ref b223), (.ref b223)]) _
    refine XS.bipush X306.here hx rfl (hb hby at_258) ?_
    show own_S p e below T306 (mkF m 260 #[.val (.int p1), .val (.int p2), .val (.int p3), .val (.ref b2), .unset, .unset, .unset, .unset, .unset] [(.int (14 : Int32)), (.ref b223), (.ref b223)]) _
    refine XS.iconst X306.here hx rfl (hb hby at_260) ?_
    exact kt)
  obtain ⟨cl312, Ar312, q312, Sz312, Ng312, Hs312, Gs312⟩ := id V306
  have hin312 : ¬ ((14 : Int32) < 0 ∨ cl312.slots.size ≤ ((14 : Int32)).toNatClampNeg) := inb_of Sz312 ⟨by decide, by decide⟩
  obtain ⟨T312, h312, X312, e312, W312, st312⟩ := stI X306 hx hZ e306 Ar312 (j := (14 : Int32)) hin312 (g := (mkF m 261 #[.val (.int p1), .val (.int p2), .val (.int p3), .val (.ref b2), .unset, .unset, .unset, .unset, .unset] [(.int (0 : Int32)), (.int (14 : Int32)), (.ref b223), (.ref b223)])) rfl rfl (hb hby at_261)
  have Z313 : n0 ≤ h312.size := Nat.le_trans Z307 (Keep.of_wr W312).1
  have O314 : Old Z n0 h312 := O308.wr W312 g_b223
  have V312 : Arv Z h312 b223 kk223 .int (27 : Int32) ((.int (0 : Int32)) :: (.int (0 : Int32)) :: (.int (1 : Int32)) :: (.int (1 : Int32)) :: (.int (0 : Int32)) :: (.int (0 : Int32)) :: (.int (0 : Int32)) :: (.int (0 : Int32)) :: (.int (2 : Int32)) :: (.int (2 : Int32)) :: (.int (2 : Int32)) :: (.int (2 : Int32)) :: (.int (2 : Int32)) :: (.int (2 : Int32)) :: (.int (0 : Int32)) :: (.int (0 : Int32)) :: (.int (0 : Int32)) :: (.int (0 : Int32)) :: (.int (0 : Int32)) :: (.int (0 : Int32)) :: (.int (0 : Int32)) :: (.int (0 : Int32)) :: (.int (0 : Int32)) :: (.int (0 : Int32)) :: (.int (0 : Int32)) :: (.int (0 : Int32)) :: (.int (0 : Int32)) :: []) (.int (0 : Int32)) := Arv.set Ar312 q312 Sz312 Ng312 Hs312 Gs312 rfl W312 14 rfl (Nat.le_of_ble_eq_true rfl)
  have Nf315 := Fr.snoc X312 Nf309 g_b223
  have kn316 : ∀ t, own_S p e below T312 (mkF m 262 #[.val (.int p1), .val (.int p2), .val (.int p3), .val (.ref b2), .unset, .unset, .unset, .unset, .unset] [(.ref b223)]) t → Gl t := fun t kt => kn311 t (st312 _ kt)
  have kn317 : ∀ t, own_S p e below T312 (mkF m 266 #[.val (.int p1), .val (.int p2), .val (.int p3), .val (.ref b2), .unset, .unset, .unset, .unset, .unset] [(.int (0 : Int32)), (.int (15 : Int32)), (.ref b223), (.ref b223)]) t → Gl t := fun t kt => kn316 t (by
    show own_S p e below T312 (mkF m 262 #[.val (.int p1), .val (.int p2), .val (.int p3), .val (.ref b2), .unset, .unset, .unset, .unset, .unset] [(.ref b223)]) _
    refine XS.dup X312.here hx rfl (hb hby at_262) rfl rfl ?_
    show own_S p e below T312 (mkF m 263 #[.val (.int p1), .val (.int p2), .val (.int p3), .val (.ref b2), .unset, .unset, .unset, .unset, .unset] [(.ref b223), (.ref b223)]) _
    refine XS.bipush X312.here hx rfl (hb hby at_263) ?_
    show own_S p e below T312 (mkF m 265 #[.val (.int p1), .val (.int p2), .val (.int p3), .val (.ref b2), .unset, .unset, .unset, .unset, .unset] [(.int (15 : Int32)), (.ref b223), (.ref b223)]) _
    refine XS.iconst X312.here hx rfl (hb hby at_265) ?_
    exact kt)
  obtain ⟨cl318, Ar318, q318, Sz318, Ng318, Hs318, Gs318⟩ := id V312
  have hin318 : ¬ ((15 : Int32) < 0 ∨ cl318.slots.size ≤ ((15 : Int32)).toNatClampNeg) := inb_of Sz318 ⟨by decide, by decide⟩
  obtain ⟨T318, h318, X318, e318, W318, st318⟩ := stI X312 hx hZ e312 Ar318 (j := (15 : Int32)) hin318 (g := (mkF m 266 #[.val (.int p1), .val (.int p2), .val (.int p3), .val (.ref b2), .unset, .unset, .unset, .unset, .unset] [(.int (0 : Int32)), (.int (15 : Int32)), (.ref b223), (.ref b223)])) rfl rfl (hb hby at_266)
  have Z319 : n0 ≤ h318.size := Nat.le_trans Z313 (Keep.of_wr W318).1
  have O320 : Old Z n0 h318 := O314.wr W318 g_b223
  have V318 : Arv Z h318 b223 kk223 .int (27 : Int32) ((.int (0 : Int32)) :: (.int (0 : Int32)) :: (.int (1 : Int32)) :: (.int (1 : Int32)) :: (.int (0 : Int32)) :: (.int (0 : Int32)) :: (.int (0 : Int32)) :: (.int (0 : Int32)) :: (.int (2 : Int32)) :: (.int (2 : Int32)) :: (.int (2 : Int32)) :: (.int (2 : Int32)) :: (.int (2 : Int32)) :: (.int (2 : Int32)) :: (.int (0 : Int32)) :: (.int (0 : Int32)) :: (.int (0 : Int32)) :: (.int (0 : Int32)) :: (.int (0 : Int32)) :: (.int (0 : Int32)) :: (.int (0 : Int32)) :: (.int (0 : Int32)) :: (.int (0 : Int32)) :: (.int (0 : Int32)) :: (.int (0 : Int32)) :: (.int (0 : Int32)) :: (.int (0 : Int32)) :: []) (.int (0 : Int32)) := Arv.set Ar318 q318 Sz318 Ng318 Hs318 Gs318 rfl W318 15 rfl (Nat.le_of_ble_eq_true rfl)
  have Nf321 := Fr.snoc X318 Nf315 g_b223
  have kn322 : ∀ t, own_S p e below T318 (mkF m 267 #[.val (.int p1), .val (.int p2), .val (.int p3), .val (.ref b2), .unset, .unset, .unset, .unset, .unset] [(.ref b223)]) t → Gl t := fun t kt => kn317 t (st318 _ kt)
  have kn323 : ∀ t, own_S p e below T318 (mkF m 271 #[.val (.int p1), .val (.int p2), .val (.int p3), .val (.ref b2), .unset, .unset, .unset, .unset, .unset] [(.int (3 : Int32)), (.int (16 : Int32)), (.ref b223), (.ref b223)]) t → Gl t := fun t kt => kn322 t (by
    show own_S p e below T318 (mkF m 267 #[.val (.int p1), .val (.int p2), .val (.int p3), .val (.ref b2), .unset, .unset, .unset, .unset, .unset] [(.ref b223)]) _
    refine XS.dup X318.here hx rfl (hb hby at_267) rfl rfl ?_
    show own_S p e below T318 (mkF m 268 #[.val (.int p1), .val (.int p2), .val (.int p3), .val (.ref b2), .unset, .unset, .unset, .unset, .unset] [(.ref b223), (.ref b223)]) _
    refine XS.bipush X318.here hx rfl (hb hby at_268) ?_
    show own_S p e below T318 (mkF m 270 #[.val (.int p1), .val (.int p2), .val (.int p3), .val (.ref b2), .unset, .unset, .unset, .unset, .unset] [(.int (16 : Int32)), (.ref b223), (.ref b223)]) _
    refine XS.iconst X318.here hx rfl (hb hby at_270) ?_
    exact kt)
  obtain ⟨cl324, Ar324, q324, Sz324, Ng324, Hs324, Gs324⟩ := id V318
  have hin324 : ¬ ((16 : Int32) < 0 ∨ cl324.slots.size ≤ ((16 : Int32)).toNatClampNeg) := inb_of Sz324 ⟨by decide, by decide⟩
  obtain ⟨T324, h324, X324, e324, W324, st324⟩ := stI X318 hx hZ e318 Ar324 (j := (16 : Int32)) hin324 (g := (mkF m 271 #[.val (.int p1), .val (.int p2), .val (.int p3), .val (.ref b2), .unset, .unset, .unset, .unset, .unset] [(.int (3 : Int32)), (.int (16 : Int32)), (.ref b223), (.ref b223)])) rfl rfl (hb hby at_271)
  have Z325 : n0 ≤ h324.size := Nat.le_trans Z319 (Keep.of_wr W324).1
  have O326 : Old Z n0 h324 := O320.wr W324 g_b223
  have V324 : Arv Z h324 b223 kk223 .int (27 : Int32) ((.int (0 : Int32)) :: (.int (0 : Int32)) :: (.int (1 : Int32)) :: (.int (1 : Int32)) :: (.int (0 : Int32)) :: (.int (0 : Int32)) :: (.int (0 : Int32)) :: (.int (0 : Int32)) :: (.int (2 : Int32)) :: (.int (2 : Int32)) :: (.int (2 : Int32)) :: (.int (2 : Int32)) :: (.int (2 : Int32)) :: (.int (2 : Int32)) :: (.int (0 : Int32)) :: (.int (0 : Int32)) :: (.int (3 : Int32)) :: (.int (0 : Int32)) :: (.int (0 : Int32)) :: (.int (0 : Int32)) :: (.int (0 : Int32)) :: (.int (0 : Int32)) :: (.int (0 : Int32)) :: (.int (0 : Int32)) :: (.int (0 : Int32)) :: (.int (0 : Int32)) :: (.int (0 : Int32)) :: []) (.int (0 : Int32)) := Arv.set Ar324 q324 Sz324 Ng324 Hs324 Gs324 rfl W324 16 rfl (Nat.le_of_ble_eq_true rfl)
  have Nf327 := Fr.snoc X324 Nf321 g_b223
  have kn328 : ∀ t, own_S p e below T324 (mkF m 272 #[.val (.int p1), .val (.int p2), .val (.int p3), .val (.ref b2), .unset, .unset, .unset, .unset, .unset] [(.ref b223)]) t → Gl t := fun t kt => kn323 t (st324 _ kt)
  have kn329 : ∀ t, own_S p e below T324 (mkF m 276 #[.val (.int p1), .val (.int p2), .val (.int p3), .val (.ref b2), .unset, .unset, .unset, .unset, .unset] [(.int (1 : Int32)), (.int (17 : Int32)), (.ref b223), (.ref b223)]) t → Gl t := fun t kt => kn328 t (by
    show own_S p e below T324 (mkF m 272 #[.val (.int p1), .val (.int p2), .val (.int p3), .val (.ref b2), .unset, .unset, .unset, .unset, .unset] [(.ref b223)]) _
    refine XS.dup X324.here hx rfl (hb hby at_272) rfl rfl ?_
    show own_S p e below T324 (mkF m 273 #[.val (.int p1), .val (.int p2), .val (.int p3), .val (.ref b2), .unset, .unset, .unset, .unset, .unset] [(.ref b223), (.ref b223)]) _
    refine XS.bipush X324.here hx rfl (hb hby at_273) ?_
    show own_S p e below T324 (mkF m 275 #[.val (.int p1), .val (.int p2), .val (.int p3), .val (.ref b2), .unset, .unset, .unset, .unset, .unset] [(.int (17 : Int32)), (.ref b223), (.ref b223)]) _
    refine XS.iconst X324.here hx rfl (hb hby at_275) ?_
    exact kt)
  obtain ⟨cl330, Ar330, q330, Sz330, Ng330, Hs330, Gs330⟩ := id V324
  have hin330 : ¬ ((17 : Int32) < 0 ∨ cl330.slots.size ≤ ((17 : Int32)).toNatClampNeg) := inb_of Sz330 ⟨by decide, by decide⟩
  obtain ⟨T330, h330, X330, e330, W330, st330⟩ := stI X324 hx hZ e324 Ar330 (j := (17 : Int32)) hin330 (g := (mkF m 276 #[.val (.int p1), .val (.int p2), .val (.int p3), .val (.ref b2), .unset, .unset, .unset, .unset, .unset] [(.int (1 : Int32)), (.int (17 : Int32)), (.ref b223), (.ref b223)])) rfl rfl (hb hby at_276)
  have Z331 : n0 ≤ h330.size := Nat.le_trans Z325 (Keep.of_wr W330).1
  have O332 : Old Z n0 h330 := O326.wr W330 g_b223
  have V330 : Arv Z h330 b223 kk223 .int (27 : Int32) ((.int (0 : Int32)) :: (.int (0 : Int32)) :: (.int (1 : Int32)) :: (.int (1 : Int32)) :: (.int (0 : Int32)) :: (.int (0 : Int32)) :: (.int (0 : Int32)) :: (.int (0 : Int32)) :: (.int (2 : Int32)) :: (.int (2 : Int32)) :: (.int (2 : Int32)) :: (.int (2 : Int32)) :: (.int (2 : Int32)) :: (.int (2 : Int32)) :: (.int (0 : Int32)) :: (.int (0 : Int32)) :: (.int (3 : Int32)) :: (.int (1 : Int32)) :: (.int (0 : Int32)) :: (.int (0 : Int32)) :: (.int (0 : Int32)) :: (.int (0 : Int32)) :: (.int (0 : Int32)) :: (.int (0 : Int32)) :: (.int (0 : Int32)) :: (.int (0 : Int32)) :: (.int (0 : Int32)) :: []) (.int (0 : Int32)) := Arv.set Ar330 q330 Sz330 Ng330 Hs330 Gs330 rfl W330 17 rfl (Nat.le_of_ble_eq_true rfl)
  have Nf333 := Fr.snoc X330 Nf327 g_b223
  have kn334 : ∀ t, own_S p e below T330 (mkF m 277 #[.val (.int p1), .val (.int p2), .val (.int p3), .val (.ref b2), .unset, .unset, .unset, .unset, .unset] [(.ref b223)]) t → Gl t := fun t kt => kn329 t (st330 _ kt)
  have kn335 : ∀ t, own_S p e below T330 (mkF m 281 #[.val (.int p1), .val (.int p2), .val (.int p3), .val (.ref b2), .unset, .unset, .unset, .unset, .unset] [(.int (1 : Int32)), (.int (18 : Int32)), (.ref b223), (.ref b223)]) t → Gl t := fun t kt => kn334 t (by
    show own_S p e below T330 (mkF m 277 #[.val (.int p1), .val (.int p2), .val (.int p3), .val (.ref b2), .unset, .unset, .unset, .unset, .unset] [(.ref b223)]) _
    refine XS.dup X330.here hx rfl (hb hby at_277) rfl rfl ?_
    show own_S p e below T330 (mkF m 278 #[.val (.int p1), .val (.int p2), .val (.int p3), .val (.ref b2), .unset, .unset, .unset, .unset, .unset] [(.ref b223), (.ref b223)]) _
    refine XS.bipush X330.here hx rfl (hb hby at_278) ?_
    show own_S p e below T330 (mkF m 280 #[.val (.int p1), .val (.int p2), .val (.int p3), .val (.ref b2), .unset, .unset, .unset, .unset, .unset] [(.int (18 : Int32)), (.ref b223), (.ref b223)]) _
    refine XS.iconst X330.here hx rfl (hb hby at_280) ?_
    exact kt)
  obtain ⟨cl336, Ar336, q336, Sz336, Ng336, Hs336, Gs336⟩ := id V330
  have hin336 : ¬ ((18 : Int32) < 0 ∨ cl336.slots.size ≤ ((18 : Int32)).toNatClampNeg) := inb_of Sz336 ⟨by decide, by decide⟩
  obtain ⟨T336, h336, X336, e336, W336, st336⟩ := stI X330 hx hZ e330 Ar336 (j := (18 : Int32)) hin336 (g := (mkF m 281 #[.val (.int p1), .val (.int p2), .val (.int p3), .val (.ref b2), .unset, .unset, .unset, .unset, .unset] [(.int (1 : Int32)), (.int (18 : Int32)), (.ref b223), (.ref b223)])) rfl rfl (hb hby at_281)
  have Z337 : n0 ≤ h336.size := Nat.le_trans Z331 (Keep.of_wr W336).1
  have O338 : Old Z n0 h336 := O332.wr W336 g_b223
  have V336 : Arv Z h336 b223 kk223 .int (27 : Int32) ((.int (0 : Int32)) :: (.int (0 : Int32)) :: (.int (1 : Int32)) :: (.int (1 : Int32)) :: (.int (0 : Int32)) :: (.int (0 : Int32)) :: (.int (0 : Int32)) :: (.int (0 : Int32)) :: (.int (2 : Int32)) :: (.int (2 : Int32)) :: (.int (2 : Int32)) :: (.int (2 : Int32)) :: (.int (2 : Int32)) :: (.int (2 : Int32)) :: (.int (0 : Int32)) :: (.int (0 : Int32)) :: (.int (3 : Int32)) :: (.int (1 : Int32)) :: (.int (1 : Int32)) :: (.int (0 : Int32)) :: (.int (0 : Int32)) :: (.int (0 : Int32)) :: (.int (0 : Int32)) :: (.int (0 : Int32)) :: (.int (0 : Int32)) :: (.int (0 : Int32)) :: (.int (0 : Int32)) :: []) (.int (0 : Int32)) := Arv.set Ar336 q336 Sz336 Ng336 Hs336 Gs336 rfl W336 18 rfl (Nat.le_of_ble_eq_true rfl)
  have Nf339 := Fr.snoc X336 Nf333 g_b223
  have kn340 : ∀ t, own_S p e below T336 (mkF m 282 #[.val (.int p1), .val (.int p2), .val (.int p3), .val (.ref b2), .unset, .unset, .unset, .unset, .unset] [(.ref b223)]) t → Gl t := fun t kt => kn335 t (st336 _ kt)
  have kn341 : ∀ t, own_S p e below T336 (mkF m 286 #[.val (.int p1), .val (.int p2), .val (.int p3), .val (.ref b2), .unset, .unset, .unset, .unset, .unset] [(.int (0 : Int32)), (.int (19 : Int32)), (.ref b223), (.ref b223)]) t → Gl t := fun t kt => kn340 t (by
    show own_S p e below T336 (mkF m 282 #[.val (.int p1), .val (.int p2), .val (.int p3), .val (.ref b2), .unset, .unset, .unset, .unset, .unset] [(.ref b223)]) _
    refine XS.dup X336.here hx rfl (hb hby at_282) rfl rfl ?_
    show own_S p e below T336 (mkF m 283 #[.val (.int p1), .val (.int p2), .val (.int p3), .val (.ref b2), .unset, .unset, .unset, .unset, .unset] [(.ref b223), (.ref b223)]) _
    refine XS.bipush X336.here hx rfl (hb hby at_283) ?_
    show own_S p e below T336 (mkF m 285 #[.val (.int p1), .val (.int p2), .val (.int p3), .val (.ref b2), .unset, .unset, .unset, .unset, .unset] [(.int (19 : Int32)), (.ref b223), (.ref b223)]) _
    refine XS.iconst X336.here hx rfl (hb hby at_285) ?_
    exact kt)
  obtain ⟨cl342, Ar342, q342, Sz342, Ng342, Hs342, Gs342⟩ := id V336
  have hin342 : ¬ ((19 : Int32) < 0 ∨ cl342.slots.size ≤ ((19 : Int32)).toNatClampNeg) := inb_of Sz342 ⟨by decide, by decide⟩
  obtain ⟨T342, h342, X342, e342, W342, st342⟩ := stI X336 hx hZ e336 Ar342 (j := (19 : Int32)) hin342 (g := (mkF m 286 #[.val (.int p1), .val (.int p2), .val (.int p3), .val (.ref b2), .unset, .unset, .unset, .unset, .unset] [(.int (0 : Int32)), (.int (19 : Int32)), (.ref b223), (.ref b223)])) rfl rfl (hb hby at_286)
  have Z343 : n0 ≤ h342.size := Nat.le_trans Z337 (Keep.of_wr W342).1
  have O344 : Old Z n0 h342 := O338.wr W342 g_b223
  have V342 : Arv Z h342 b223 kk223 .int (27 : Int32) ((.int (0 : Int32)) :: (.int (0 : Int32)) :: (.int (1 : Int32)) :: (.int (1 : Int32)) :: (.int (0 : Int32)) :: (.int (0 : Int32)) :: (.int (0 : Int32)) :: (.int (0 : Int32)) :: (.int (2 : Int32)) :: (.int (2 : Int32)) :: (.int (2 : Int32)) :: (.int (2 : Int32)) :: (.int (2 : Int32)) :: (.int (2 : Int32)) :: (.int (0 : Int32)) :: (.int (0 : Int32)) :: (.int (3 : Int32)) :: (.int (1 : Int32)) :: (.int (1 : Int32)) :: (.int (0 : Int32)) :: (.int (0 : Int32)) :: (.int (0 : Int32)) :: (.int (0 : Int32)) :: (.int (0 : Int32)) :: (.int (0 : Int32)) :: (.int (0 : Int32)) :: (.int (0 : Int32)) :: []) (.int (0 : Int32)) := Arv.set Ar342 q342 Sz342 Ng342 Hs342 Gs342 rfl W342 19 rfl (Nat.le_of_ble_eq_true rfl)
  have Nf345 := Fr.snoc X342 Nf339 g_b223
  have kn346 : ∀ t, own_S p e below T342 (mkF m 287 #[.val (.int p1), .val (.int p2), .val (.int p3), .val (.ref b2), .unset, .unset, .unset, .unset, .unset] [(.ref b223)]) t → Gl t := fun t kt => kn341 t (st342 _ kt)
  have kn347 : ∀ t, own_S p e below T342 (mkF m 291 #[.val (.int p1), .val (.int p2), .val (.int p3), .val (.ref b2), .unset, .unset, .unset, .unset, .unset] [(.int (0 : Int32)), (.int (20 : Int32)), (.ref b223), (.ref b223)]) t → Gl t := fun t kt => kn346 t (by
    show own_S p e below T342 (mkF m 287 #[.val (.int p1), .val (.int p2), .val (.int p3), .val (.ref b2), .unset, .unset, .unset, .unset, .unset] [(.ref b223)]) _
    refine XS.dup X342.here hx rfl (hb hby at_287) rfl rfl ?_
    show own_S p e below T342 (mkF m 288 #[.val (.int p1), .val (.int p2), .val (.int p3), .val (.ref b2), .unset, .unset, .unset, .unset, .unset] [(.ref b223), (.ref b223)]) _
    refine XS.bipush X342.here hx rfl (hb hby at_288) ?_
    show own_S p e below T342 (mkF m 290 #[.val (.int p1), .val (.int p2), .val (.int p3), .val (.ref b2), .unset, .unset, .unset, .unset, .unset] [(.int (20 : Int32)), (.ref b223), (.ref b223)]) _
    refine XS.iconst X342.here hx rfl (hb hby at_290) ?_
    exact kt)
  obtain ⟨cl348, Ar348, q348, Sz348, Ng348, Hs348, Gs348⟩ := id V342
  have hin348 : ¬ ((20 : Int32) < 0 ∨ cl348.slots.size ≤ ((20 : Int32)).toNatClampNeg) := inb_of Sz348 ⟨by decide, by decide⟩
  obtain ⟨T348, h348, X348, e348, W348, st348⟩ := stI X342 hx hZ e342 Ar348 (j := (20 : Int32)) hin348 (g := (mkF m 291 #[.val (.int p1), .val (.int p2), .val (.int p3), .val (.ref b2), .unset, .unset, .unset, .unset, .unset] [(.int (0 : Int32)), (.int (20 : Int32)), (.ref b223), (.ref b223)])) rfl rfl (hb hby at_291)
  have Z349 : n0 ≤ h348.size := Nat.le_trans Z343 (Keep.of_wr W348).1
  have O350 : Old Z n0 h348 := O344.wr W348 g_b223
  have V348 : Arv Z h348 b223 kk223 .int (27 : Int32) ((.int (0 : Int32)) :: (.int (0 : Int32)) :: (.int (1 : Int32)) :: (.int (1 : Int32)) :: (.int (0 : Int32)) :: (.int (0 : Int32)) :: (.int (0 : Int32)) :: (.int (0 : Int32)) :: (.int (2 : Int32)) :: (.int (2 : Int32)) :: (.int (2 : Int32)) :: (.int (2 : Int32)) :: (.int (2 : Int32)) :: (.int (2 : Int32)) :: (.int (0 : Int32)) :: (.int (0 : Int32)) :: (.int (3 : Int32)) :: (.int (1 : Int32)) :: (.int (1 : Int32)) :: (.int (0 : Int32)) :: (.int (0 : Int32)) :: (.int (0 : Int32)) :: (.int (0 : Int32)) :: (.int (0 : Int32)) :: (.int (0 : Int32)) :: (.int (0 : Int32)) :: (.int (0 : Int32)) :: []) (.int (0 : Int32)) := Arv.set Ar348 q348 Sz348 Ng348 Hs348 Gs348 rfl W348 20 rfl (Nat.le_of_ble_eq_true rfl)
  have Nf351 := Fr.snoc X348 Nf345 g_b223
  have kn352 : ∀ t, own_S p e below T348 (mkF m 292 #[.val (.int p1), .val (.int p2), .val (.int p3), .val (.ref b2), .unset, .unset, .unset, .unset, .unset] [(.ref b223)]) t → Gl t := fun t kt => kn347 t (st348 _ kt)
  have kn353 : ∀ t, own_S p e below T348 (mkF m 296 #[.val (.int p1), .val (.int p2), .val (.int p3), .val (.ref b2), .unset, .unset, .unset, .unset, .unset] [(.int (1 : Int32)), (.int (21 : Int32)), (.ref b223), (.ref b223)]) t → Gl t := fun t kt => kn352 t (by
    show own_S p e below T348 (mkF m 292 #[.val (.int p1), .val (.int p2), .val (.int p3), .val (.ref b2), .unset, .unset, .unset, .unset, .unset] [(.ref b223)]) _
    refine XS.dup X348.here hx rfl (hb hby at_292) rfl rfl ?_
    show own_S p e below T348 (mkF m 293 #[.val (.int p1), .val (.int p2), .val (.int p3), .val (.ref b2), .unset, .unset, .unset, .unset, .unset] [(.ref b223), (.ref b223)]) _
    refine XS.bipush X348.here hx rfl (hb hby at_293) ?_
    show own_S p e below T348 (mkF m 295 #[.val (.int p1), .val (.int p2), .val (.int p3), .val (.ref b2), .unset, .unset, .unset, .unset, .unset] [(.int (21 : Int32)), (.ref b223), (.ref b223)]) _
    refine XS.iconst X348.here hx rfl (hb hby at_295) ?_
    exact kt)
  obtain ⟨cl354, Ar354, q354, Sz354, Ng354, Hs354, Gs354⟩ := id V348
  have hin354 : ¬ ((21 : Int32) < 0 ∨ cl354.slots.size ≤ ((21 : Int32)).toNatClampNeg) := inb_of Sz354 ⟨by decide, by decide⟩
  obtain ⟨T354, h354, X354, e354, W354, st354⟩ := stI X348 hx hZ e348 Ar354 (j := (21 : Int32)) hin354 (g := (mkF m 296 #[.val (.int p1), .val (.int p2), .val (.int p3), .val (.ref b2), .unset, .unset, .unset, .unset, .unset] [(.int (1 : Int32)), (.int (21 : Int32)), (.ref b223), (.ref b223)])) rfl rfl (hb hby at_296)
  have Z355 : n0 ≤ h354.size := Nat.le_trans Z349 (Keep.of_wr W354).1
  have O356 : Old Z n0 h354 := O350.wr W354 g_b223
  have V354 : Arv Z h354 b223 kk223 .int (27 : Int32) ((.int (0 : Int32)) :: (.int (0 : Int32)) :: (.int (1 : Int32)) :: (.int (1 : Int32)) :: (.int (0 : Int32)) :: (.int (0 : Int32)) :: (.int (0 : Int32)) :: (.int (0 : Int32)) :: (.int (2 : Int32)) :: (.int (2 : Int32)) :: (.int (2 : Int32)) :: (.int (2 : Int32)) :: (.int (2 : Int32)) :: (.int (2 : Int32)) :: (.int (0 : Int32)) :: (.int (0 : Int32)) :: (.int (3 : Int32)) :: (.int (1 : Int32)) :: (.int (1 : Int32)) :: (.int (0 : Int32)) :: (.int (0 : Int32)) :: (.int (1 : Int32)) :: (.int (0 : Int32)) :: (.int (0 : Int32)) :: (.int (0 : Int32)) :: (.int (0 : Int32)) :: (.int (0 : Int32)) :: []) (.int (0 : Int32)) := Arv.set Ar354 q354 Sz354 Ng354 Hs354 Gs354 rfl W354 21 rfl (Nat.le_of_ble_eq_true rfl)
  have Nf357 := Fr.snoc X354 Nf351 g_b223
  have kn358 : ∀ t, own_S p e below T354 (mkF m 297 #[.val (.int p1), .val (.int p2), .val (.int p3), .val (.ref b2), .unset, .unset, .unset, .unset, .unset] [(.ref b223)]) t → Gl t := fun t kt => kn353 t (st354 _ kt)
  have kn359 : ∀ t, own_S p e below T354 (mkF m 301 #[.val (.int p1), .val (.int p2), .val (.int p3), .val (.ref b2), .unset, .unset, .unset, .unset, .unset] [(.int (0 : Int32)), (.int (22 : Int32)), (.ref b223), (.ref b223)]) t → Gl t := fun t kt => kn358 t (by
    show own_S p e below T354 (mkF m 297 #[.val (.int p1), .val (.int p2), .val (.int p3), .val (.ref b2), .unset, .unset, .unset, .unset, .unset] [(.ref b223)]) _
    refine XS.dup X354.here hx rfl (hb hby at_297) rfl rfl ?_
    show own_S p e below T354 (mkF m 298 #[.val (.int p1), .val (.int p2), .val (.int p3), .val (.ref b2), .unset, .unset, .unset, .unset, .unset] [(.ref b223), (.ref b223)]) _
    refine XS.bipush X354.here hx rfl (hb hby at_298) ?_
    show own_S p e below T354 (mkF m 300 #[.val (.int p1), .val (.int p2), .val (.int p3), .val (.ref b2), .unset, .unset, .unset, .unset, .unset] [(.int (22 : Int32)), (.ref b223), (.ref b223)]) _
    refine XS.iconst X354.here hx rfl (hb hby at_300) ?_
    exact kt)
  obtain ⟨cl360, Ar360, q360, Sz360, Ng360, Hs360, Gs360⟩ := id V354
  have hin360 : ¬ ((22 : Int32) < 0 ∨ cl360.slots.size ≤ ((22 : Int32)).toNatClampNeg) := inb_of Sz360 ⟨by decide, by decide⟩
  obtain ⟨T360, h360, X360, e360, W360, st360⟩ := stI X354 hx hZ e354 Ar360 (j := (22 : Int32)) hin360 (g := (mkF m 301 #[.val (.int p1), .val (.int p2), .val (.int p3), .val (.ref b2), .unset, .unset, .unset, .unset, .unset] [(.int (0 : Int32)), (.int (22 : Int32)), (.ref b223), (.ref b223)])) rfl rfl (hb hby at_301)
  have Z361 : n0 ≤ h360.size := Nat.le_trans Z355 (Keep.of_wr W360).1
  have O362 : Old Z n0 h360 := O356.wr W360 g_b223
  have V360 : Arv Z h360 b223 kk223 .int (27 : Int32) ((.int (0 : Int32)) :: (.int (0 : Int32)) :: (.int (1 : Int32)) :: (.int (1 : Int32)) :: (.int (0 : Int32)) :: (.int (0 : Int32)) :: (.int (0 : Int32)) :: (.int (0 : Int32)) :: (.int (2 : Int32)) :: (.int (2 : Int32)) :: (.int (2 : Int32)) :: (.int (2 : Int32)) :: (.int (2 : Int32)) :: (.int (2 : Int32)) :: (.int (0 : Int32)) :: (.int (0 : Int32)) :: (.int (3 : Int32)) :: (.int (1 : Int32)) :: (.int (1 : Int32)) :: (.int (0 : Int32)) :: (.int (0 : Int32)) :: (.int (1 : Int32)) :: (.int (0 : Int32)) :: (.int (0 : Int32)) :: (.int (0 : Int32)) :: (.int (0 : Int32)) :: (.int (0 : Int32)) :: []) (.int (0 : Int32)) := Arv.set Ar360 q360 Sz360 Ng360 Hs360 Gs360 rfl W360 22 rfl (Nat.le_of_ble_eq_true rfl)
  have Nf363 := Fr.snoc X360 Nf357 g_b223
  have kn364 : ∀ t, own_S p e below T360 (mkF m 302 #[.val (.int p1), .val (.int p2), .val (.int p3), .val (.ref b2), .unset, .unset, .unset, .unset, .unset] [(.ref b223)]) t → Gl t := fun t kt => kn359 t (st360 _ kt)
  have kn365 : ∀ t, own_S p e below T360 (mkF m 306 #[.val (.int p1), .val (.int p2), .val (.int p3), .val (.ref b2), .unset, .unset, .unset, .unset, .unset] [(.int (1 : Int32)), (.int (23 : Int32)), (.ref b223), (.ref b223)]) t → Gl t := fun t kt => kn364 t (by
    show own_S p e below T360 (mkF m 302 #[.val (.int p1), .val (.int p2), .val (.int p3), .val (.ref b2), .unset, .unset, .unset, .unset, .unset] [(.ref b223)]) _
    refine XS.dup X360.here hx rfl (hb hby at_302) rfl rfl ?_
    show own_S p e below T360 (mkF m 303 #[.val (.int p1), .val (.int p2), .val (.int p3), .val (.ref b2), .unset, .unset, .unset, .unset, .unset] [(.ref b223), (.ref b223)]) _
    refine XS.bipush X360.here hx rfl (hb hby at_303) ?_
    show own_S p e below T360 (mkF m 305 #[.val (.int p1), .val (.int p2), .val (.int p3), .val (.ref b2), .unset, .unset, .unset, .unset, .unset] [(.int (23 : Int32)), (.ref b223), (.ref b223)]) _
    refine XS.iconst X360.here hx rfl (hb hby at_305) ?_
    exact kt)
  obtain ⟨cl366, Ar366, q366, Sz366, Ng366, Hs366, Gs366⟩ := id V360
  have hin366 : ¬ ((23 : Int32) < 0 ∨ cl366.slots.size ≤ ((23 : Int32)).toNatClampNeg) := inb_of Sz366 ⟨by decide, by decide⟩
  obtain ⟨T366, h366, X366, e366, W366, st366⟩ := stI X360 hx hZ e360 Ar366 (j := (23 : Int32)) hin366 (g := (mkF m 306 #[.val (.int p1), .val (.int p2), .val (.int p3), .val (.ref b2), .unset, .unset, .unset, .unset, .unset] [(.int (1 : Int32)), (.int (23 : Int32)), (.ref b223), (.ref b223)])) rfl rfl (hb hby at_306)
  have Z367 : n0 ≤ h366.size := Nat.le_trans Z361 (Keep.of_wr W366).1
  have O368 : Old Z n0 h366 := O362.wr W366 g_b223
  have V366 : Arv Z h366 b223 kk223 .int (27 : Int32) ((.int (0 : Int32)) :: (.int (0 : Int32)) :: (.int (1 : Int32)) :: (.int (1 : Int32)) :: (.int (0 : Int32)) :: (.int (0 : Int32)) :: (.int (0 : Int32)) :: (.int (0 : Int32)) :: (.int (2 : Int32)) :: (.int (2 : Int32)) :: (.int (2 : Int32)) :: (.int (2 : Int32)) :: (.int (2 : Int32)) :: (.int (2 : Int32)) :: (.int (0 : Int32)) :: (.int (0 : Int32)) :: (.int (3 : Int32)) :: (.int (1 : Int32)) :: (.int (1 : Int32)) :: (.int (0 : Int32)) :: (.int (0 : Int32)) :: (.int (1 : Int32)) :: (.int (0 : Int32)) :: (.int (1 : Int32)) :: (.int (0 : Int32)) :: (.int (0 : Int32)) :: (.int (0 : Int32)) :: []) (.int (0 : Int32)) := Arv.set Ar366 q366 Sz366 Ng366 Hs366 Gs366 rfl W366 23 rfl (Nat.le_of_ble_eq_true rfl)
  have Nf369 := Fr.snoc X366 Nf363 g_b223
  have kn370 : ∀ t, own_S p e below T366 (mkF m 307 #[.val (.int p1), .val (.int p2), .val (.int p3), .val (.ref b2), .unset, .unset, .unset, .unset, .unset] [(.ref b223)]) t → Gl t := fun t kt => kn365 t (st366 _ kt)
  have kn371 : ∀ t, own_S p e below T366 (mkF m 311 #[.val (.int p1), .val (.int p2), .val (.int p3), .val (.ref b2), .unset, .unset, .unset, .unset, .unset] [(.int (1 : Int32)), (.int (24 : Int32)), (.ref b223), (.ref b223)]) t → Gl t := fun t kt => kn370 t (by
    show own_S p e below T366 (mkF m 307 #[.val (.int p1), .val (.int p2), .val (.int p3), .val (.ref b2), .unset, .unset, .unset, .unset, .unset] [(.ref b223)]) _
    refine XS.dup X366.here hx rfl (hb hby at_307) rfl rfl ?_
    show own_S p e below T366 (mkF m 308 #[.val (.int p1), .val (.int p2), .val (.int p3), .val (.ref b2), .unset, .unset, .unset, .unset, .unset] [(.ref b223), (.ref b223)]) _
    refine XS.bipush X366.here hx rfl (hb hby at_308) ?_
    show own_S p e below T366 (mkF m 310 #[.val (.int p1), .val (.int p2), .val (.int p3), .val (.ref b2), .unset, .unset, .unset, .unset, .unset] [(.int (24 : Int32)), (.ref b223), (.ref b223)]) _
    refine XS.iconst X366.here hx rfl (hb hby at_310) ?_
    exact kt)
  obtain ⟨cl372, Ar372, q372, Sz372, Ng372, Hs372, Gs372⟩ := id V366
  have hin372 : ¬ ((24 : Int32) < 0 ∨ cl372.slots.size ≤ ((24 : Int32)).toNatClampNeg) := inb_of Sz372 ⟨by decide, by decide⟩
  obtain ⟨T372, h372, X372, e372, W372, st372⟩ := stI X366 hx hZ e366 Ar372 (j := (24 : Int32)) hin372 (g := (mkF m 311 #[.val (.int p1), .val (.int p2), .val (.int p3), .val (.ref b2), .unset, .unset, .unset, .unset, .unset] [(.int (1 : Int32)), (.int (24 : Int32)), (.ref b223), (.ref b223)])) rfl rfl (hb hby at_311)
  have Z373 : n0 ≤ h372.size := Nat.le_trans Z367 (Keep.of_wr W372).1
  have O374 : Old Z n0 h372 := O368.wr W372 g_b223
  have V372 : Arv Z h372 b223 kk223 .int (27 : Int32) ((.int (0 : Int32)) :: (.int (0 : Int32)) :: (.int (1 : Int32)) :: (.int (1 : Int32)) :: (.int (0 : Int32)) :: (.int (0 : Int32)) :: (.int (0 : Int32)) :: (.int (0 : Int32)) :: (.int (2 : Int32)) :: (.int (2 : Int32)) :: (.int (2 : Int32)) :: (.int (2 : Int32)) :: (.int (2 : Int32)) :: (.int (2 : Int32)) :: (.int (0 : Int32)) :: (.int (0 : Int32)) :: (.int (3 : Int32)) :: (.int (1 : Int32)) :: (.int (1 : Int32)) :: (.int (0 : Int32)) :: (.int (0 : Int32)) :: (.int (1 : Int32)) :: (.int (0 : Int32)) :: (.int (1 : Int32)) :: (.int (1 : Int32)) :: (.int (0 : Int32)) :: (.int (0 : Int32)) :: []) (.int (0 : Int32)) := Arv.set Ar372 q372 Sz372 Ng372 Hs372 Gs372 rfl W372 24 rfl (Nat.le_of_ble_eq_true rfl)
  have Nf375 := Fr.snoc X372 Nf369 g_b223
  have kn376 : ∀ t, own_S p e below T372 (mkF m 312 #[.val (.int p1), .val (.int p2), .val (.int p3), .val (.ref b2), .unset, .unset, .unset, .unset, .unset] [(.ref b223)]) t → Gl t := fun t kt => kn371 t (st372 _ kt)
  have kn377 : ∀ t, own_S p e below T372 (mkF m 316 #[.val (.int p1), .val (.int p2), .val (.int p3), .val (.ref b2), .unset, .unset, .unset, .unset, .unset] [(.int (1 : Int32)), (.int (25 : Int32)), (.ref b223), (.ref b223)]) t → Gl t := fun t kt => kn376 t (by
    show own_S p e below T372 (mkF m 312 #[.val (.int p1), .val (.int p2), .val (.int p3), .val (.ref b2), .unset, .unset, .unset, .unset, .unset] [(.ref b223)]) _
    refine XS.dup X372.here hx rfl (hb hby at_312) rfl rfl ?_
    show own_S p e below T372 (mkF m 313 #[.val (.int p1), .val (.int p2), .val (.int p3), .val (.ref b2), .unset, .unset, .unset, .unset, .unset] [(.ref b223), (.ref b223)]) _
    refine XS.bipush X372.here hx rfl (hb hby at_313) ?_
    show own_S p e below T372 (mkF m 315 #[.val (.int p1), .val (.int p2), .val (.int p3), .val (.ref b2), .unset, .unset, .unset, .unset, .unset] [(.int (25 : Int32)), (.ref b223), (.ref b223)]) _
    refine XS.iconst X372.here hx rfl (hb hby at_315) ?_
    exact kt)
  obtain ⟨cl378, Ar378, q378, Sz378, Ng378, Hs378, Gs378⟩ := id V372
  have hin378 : ¬ ((25 : Int32) < 0 ∨ cl378.slots.size ≤ ((25 : Int32)).toNatClampNeg) := inb_of Sz378 ⟨by decide, by decide⟩
  obtain ⟨T378, h378, X378, e378, W378, st378⟩ := stI X372 hx hZ e372 Ar378 (j := (25 : Int32)) hin378 (g := (mkF m 316 #[.val (.int p1), .val (.int p2), .val (.int p3), .val (.ref b2), .unset, .unset, .unset, .unset, .unset] [(.int (1 : Int32)), (.int (25 : Int32)), (.ref b223), (.ref b223)])) rfl rfl (hb hby at_316)
  have Z379 : n0 ≤ h378.size := Nat.le_trans Z373 (Keep.of_wr W378).1
  have O380 : Old Z n0 h378 := O374.wr W378 g_b223
  have V378 : Arv Z h378 b223 kk223 .int (27 : Int32) ((.int (0 : Int32)) :: (.int (0 : Int32)) :: (.int (1 : Int32)) :: (.int (1 : Int32)) :: (.int (0 : Int32)) :: (.int (0 : Int32)) :: (.int (0 : Int32)) :: (.int (0 : Int32)) :: (.int (2 : Int32)) :: (.int (2 : Int32)) :: (.int (2 : Int32)) :: (.int (2 : Int32)) :: (.int (2 : Int32)) :: (.int (2 : Int32)) :: (.int (0 : Int32)) :: (.int (0 : Int32)) :: (.int (3 : Int32)) :: (.int (1 : Int32)) :: (.int (1 : Int32)) :: (.int (0 : Int32)) :: (.int (0 : Int32)) :: (.int (1 : Int32)) :: (.int (0 : Int32)) :: (.int (1 : Int32)) :: (.int (1 : Int32)) :: (.int (1 : Int32)) :: (.int (0 : Int32)) :: []) (.int (0 : Int32)) := Arv.set Ar378 q378 Sz378 Ng378 Hs378 Gs378 rfl W378 25 rfl (Nat.le_of_ble_eq_true rfl)
  have Nf381 := Fr.snoc X378 Nf375 g_b223
  have kn382 : ∀ t, own_S p e below T378 (mkF m 317 #[.val (.int p1), .val (.int p2), .val (.int p3), .val (.ref b2), .unset, .unset, .unset, .unset, .unset] [(.ref b223)]) t → Gl t := fun t kt => kn377 t (st378 _ kt)
  have kn383 : ∀ t, own_S p e below T378 (mkF m 321 #[.val (.int p1), .val (.int p2), .val (.int p3), .val (.ref b2), .unset, .unset, .unset, .unset, .unset] [(.int (1 : Int32)), (.int (26 : Int32)), (.ref b223), (.ref b223)]) t → Gl t := fun t kt => kn382 t (by
    show own_S p e below T378 (mkF m 317 #[.val (.int p1), .val (.int p2), .val (.int p3), .val (.ref b2), .unset, .unset, .unset, .unset, .unset] [(.ref b223)]) _
    refine XS.dup X378.here hx rfl (hb hby at_317) rfl rfl ?_
    show own_S p e below T378 (mkF m 318 #[.val (.int p1), .val (.int p2), .val (.int p3), .val (.ref b2), .unset, .unset, .unset, .unset, .unset] [(.ref b223), (.ref b223)]) _
    refine XS.bipush X378.here hx rfl (hb hby at_318) ?_
    show own_S p e below T378 (mkF m 320 #[.val (.int p1), .val (.int p2), .val (.int p3), .val (.ref b2), .unset, .unset, .unset, .unset, .unset] [(.int (26 : Int32)), (.ref b223), (.ref b223)]) _
    refine XS.iconst X378.here hx rfl (hb hby at_320) ?_
    exact kt)
  obtain ⟨cl384, Ar384, q384, Sz384, Ng384, Hs384, Gs384⟩ := id V378
  have hin384 : ¬ ((26 : Int32) < 0 ∨ cl384.slots.size ≤ ((26 : Int32)).toNatClampNeg) := inb_of Sz384 ⟨by decide, by decide⟩
  obtain ⟨T384, h384, X384, e384, W384, st384⟩ := stI X378 hx hZ e378 Ar384 (j := (26 : Int32)) hin384 (g := (mkF m 321 #[.val (.int p1), .val (.int p2), .val (.int p3), .val (.ref b2), .unset, .unset, .unset, .unset, .unset] [(.int (1 : Int32)), (.int (26 : Int32)), (.ref b223), (.ref b223)])) rfl rfl (hb hby at_321)
  have Z385 : n0 ≤ h384.size := Nat.le_trans Z379 (Keep.of_wr W384).1
  have O386 : Old Z n0 h384 := O380.wr W384 g_b223
  have V384 : Arv Z h384 b223 kk223 .int (27 : Int32) ((.int (0 : Int32)) :: (.int (0 : Int32)) :: (.int (1 : Int32)) :: (.int (1 : Int32)) :: (.int (0 : Int32)) :: (.int (0 : Int32)) :: (.int (0 : Int32)) :: (.int (0 : Int32)) :: (.int (2 : Int32)) :: (.int (2 : Int32)) :: (.int (2 : Int32)) :: (.int (2 : Int32)) :: (.int (2 : Int32)) :: (.int (2 : Int32)) :: (.int (0 : Int32)) :: (.int (0 : Int32)) :: (.int (3 : Int32)) :: (.int (1 : Int32)) :: (.int (1 : Int32)) :: (.int (0 : Int32)) :: (.int (0 : Int32)) :: (.int (1 : Int32)) :: (.int (0 : Int32)) :: (.int (1 : Int32)) :: (.int (1 : Int32)) :: (.int (1 : Int32)) :: (.int (1 : Int32)) :: []) (.int (0 : Int32)) := Arv.set Ar384 q384 Sz384 Ng384 Hs384 Gs384 rfl W384 26 rfl (Nat.le_of_ble_eq_true rfl)
  have Nf387 := Fr.snoc X384 Nf381 g_b223
  have kn388 : ∀ t, own_S p e below T384 (mkF m 322 #[.val (.int p1), .val (.int p2), .val (.int p3), .val (.ref b2), .unset, .unset, .unset, .unset, .unset] [(.ref b223)]) t → Gl t := fun t kt => kn383 t (st384 _ kt)
  have kn389 : ∀ t, own_S p e below T384 (mkF m 326 #[.val (.int p1), .val (.int p2), .val (.int p3), .val (.ref b2), .val (.ref b223), .unset, .unset, .unset, .unset] [(.int (27 : Int32))]) t → Gl t := fun t kt => kn388 t (by
    show own_S p e below T384 (mkF m 322 #[.val (.int p1), .val (.int p2), .val (.int p3), .val (.ref b2), .unset, .unset, .unset, .unset, .unset] [(.ref b223)]) _
    refine XS.astore X384.here hx rfl (hb hby at_322) rfl rfl (l' := #[.val (.int p1), .val (.int p2), .val (.int p3), .val (.ref b2), .val (.ref b223), .unset, .unset, .unset, .unset]) rfl ?_
    show own_S p e below T384 (mkF m 324 #[.val (.int p1), .val (.int p2), .val (.int p3), .val (.ref b2), .val (.ref b223), .unset, .unset, .unset, .unset] []) _
    refine XS.bipush X384.here hx rfl (hb hby at_324) ?_
    exact kt)
  obtain ⟨T390, h390, kk390, X390, e390, E390, A390, st390⟩ := newP X384 hx hZ (hw _ (List.mem_of_getElem? (i := 84) rfl)) e384 (g := (mkF m 326 #[.val (.int p1), .val (.int p2), .val (.int p3), .val (.ref b2), .val (.ref b223), .unset, .unset, .unset, .unset] [(.int (27 : Int32))])) rfl (hb hby at_326) rfl (by decide) (cap := 27) (by decide) (by decide) (by decide) (by decide)
  obtain ⟨b390, g390⟩ : ∃ z, z = h384.size := ⟨_, rfl⟩
  rw [← g390] at A390 st390
  have g_b390 : n0 ≤ b390 := Nat.le_trans Z385 (Nat.le_of_eq g390.symm)
  have f391 := ((((((((((((((((((((((((((((V217.ext E223).other W228 ne_b2_b223).other W234 ne_b2_b223).other W240 ne_b2_b223).other W246 ne_b2_b223).other W252 ne_b2_b223).other W258 ne_b2_b223).other W264 ne_b2_b223).other W270 ne_b2_b223).other W276 ne_b2_b223).other W282 ne_b2_b223).other W288 ne_b2_b223).other W294 ne_b2_b223).other W300 ne_b2_b223).other W306 ne_b2_b223).other W312 ne_b2_b223).other W318 ne_b2_b223).other W324 ne_b2_b223).other W330 ne_b2_b223).other W336 ne_b2_b223).other W342 ne_b2_b223).other W348 ne_b2_b223).other W354 ne_b2_b223).other W360 ne_b2_b223).other W366 ne_b2_b223).other W372 ne_b2_b223).other W378 ne_b2_b223).other W384 ne_b2_b223)
  have ne_b2_b390 : b2 ≠ b390 := Nat.ne_of_lt (Nat.lt_of_lt_of_le f391.lt (Nat.le_of_eq g390.symm))
  have ne_b223_b390 : b223 ≠ b390 := Nat.ne_of_lt (Nat.lt_of_lt_of_le V384.lt (Nat.le_of_eq g390.symm))
  have Z392 : n0 ≤ h390.size := Nat.le_trans Z385 E390.1
  have O393 : Old Z n0 h390 := O386.ext E390
  have V390 : Arv Z h390 b390 kk390 .int (27 : Int32) ((.int (0 : Int32)) :: (.int (0 : Int32)) :: (.int (0 : Int32)) :: (.int (0 : Int32)) :: (.int (0 : Int32)) :: (.int (0 : Int32)) :: (.int (0 : Int32)) :: (.int (0 : Int32)) :: (.int (0 : Int32)) :: (.int (0 : Int32)) :: (.int (0 : Int32)) :: (.int (0 : Int32)) :: (.int (0 : Int32)) :: (.int (0 : Int32)) :: (.int (0 : Int32)) :: (.int (0 : Int32)) :: (.int (0 : Int32)) :: (.int (0 : Int32)) :: (.int (0 : Int32)) :: (.int (0 : Int32)) :: (.int (0 : Int32)) :: (.int (0 : Int32)) :: (.int (0 : Int32)) :: (.int (0 : Int32)) :: (.int (0 : Int32)) :: (.int (0 : Int32)) :: (.int (0 : Int32)) :: []) (.int (0 : Int32)) := (Arv.new A390 (by decide)).pad (pad_rep [] (.int (0 : Int32)) 27)
  have kn394 : ∀ t, own_S p e below T390 (mkF m 328 #[.val (.int p1), .val (.int p2), .val (.int p3), .val (.ref b2), .val (.ref b223), .unset, .unset, .unset, .unset] [(.ref b390)]) t → Gl t := fun t kt => kn389 t (st390 _ kt)
  have kn395 : ∀ t, own_S p e below T390 (mkF m 331 #[.val (.int p1), .val (.int p2), .val (.int p3), .val (.ref b2), .val (.ref b223), .unset, .unset, .unset, .unset] [(.int (0 : Int32)), (.int (0 : Int32)), (.ref b390), (.ref b390)]) t → Gl t := fun t kt => kn394 t (by
    show own_S p e below T390 (mkF m 328 #[.val (.int p1), .val (.int p2), .val (.int p3), .val (.ref b2), .val (.ref b223), .unset, .unset, .unset, .unset] [(.ref b390)]) _
    refine XS.dup X390.here hx rfl (hb hby at_328) rfl rfl ?_
    show own_S p e below T390 (mkF m 329 #[.val (.int p1), .val (.int p2), .val (.int p3), .val (.ref b2), .val (.ref b223), .unset, .unset, .unset, .unset] [(.ref b390), (.ref b390)]) _
    refine XS.iconst X390.here hx rfl (hb hby at_329) ?_
    show own_S p e below T390 (mkF m 330 #[.val (.int p1), .val (.int p2), .val (.int p3), .val (.ref b2), .val (.ref b223), .unset, .unset, .unset, .unset] [(.int (0 : Int32)), (.ref b390), (.ref b390)]) _
    refine XS.iconst X390.here hx rfl (hb hby at_330) ?_
    exact kt)
  obtain ⟨cl396, Ar396, q396, Sz396, Ng396, Hs396, Gs396⟩ := id V390
  have hin396 : ¬ ((0 : Int32) < 0 ∨ cl396.slots.size ≤ ((0 : Int32)).toNatClampNeg) := inb_of Sz396 ⟨by decide, by decide⟩
  obtain ⟨T396, h396, X396, e396, W396, st396⟩ := stI X390 hx hZ e390 Ar396 (j := (0 : Int32)) hin396 (g := (mkF m 331 #[.val (.int p1), .val (.int p2), .val (.int p3), .val (.ref b2), .val (.ref b223), .unset, .unset, .unset, .unset] [(.int (0 : Int32)), (.int (0 : Int32)), (.ref b390), (.ref b390)])) rfl rfl (hb hby at_331)
  have Z397 : n0 ≤ h396.size := Nat.le_trans Z392 (Keep.of_wr W396).1
  have O398 : Old Z n0 h396 := O393.wr W396 g_b390
  have V396 : Arv Z h396 b390 kk390 .int (27 : Int32) ((.int (0 : Int32)) :: (.int (0 : Int32)) :: (.int (0 : Int32)) :: (.int (0 : Int32)) :: (.int (0 : Int32)) :: (.int (0 : Int32)) :: (.int (0 : Int32)) :: (.int (0 : Int32)) :: (.int (0 : Int32)) :: (.int (0 : Int32)) :: (.int (0 : Int32)) :: (.int (0 : Int32)) :: (.int (0 : Int32)) :: (.int (0 : Int32)) :: (.int (0 : Int32)) :: (.int (0 : Int32)) :: (.int (0 : Int32)) :: (.int (0 : Int32)) :: (.int (0 : Int32)) :: (.int (0 : Int32)) :: (.int (0 : Int32)) :: (.int (0 : Int32)) :: (.int (0 : Int32)) :: (.int (0 : Int32)) :: (.int (0 : Int32)) :: (.int (0 : Int32)) :: (.int (0 : Int32)) :: []) (.int (0 : Int32)) := Arv.set Ar396 q396 Sz396 Ng396 Hs396 Gs396 rfl W396 0 rfl (Nat.le_of_ble_eq_true rfl)
  have Nf399 := Fr.snoc X396 Nf387 g_b390
  have kn400 : ∀ t, own_S p e below T396 (mkF m 332 #[.val (.int p1), .val (.int p2), .val (.int p3), .val (.ref b2), .val (.ref b223), .unset, .unset, .unset, .unset] [(.ref b390)]) t → Gl t := fun t kt => kn395 t (st396 _ kt)
  have kn401 : ∀ t, own_S p e below T396 (mkF m 335 #[.val (.int p1), .val (.int p2), .val (.int p3), .val (.ref b2), .val (.ref b223), .unset, .unset, .unset, .unset] [(.int (0 : Int32)), (.int (1 : Int32)), (.ref b390), (.ref b390)]) t → Gl t := fun t kt => kn400 t (by
    show own_S p e below T396 (mkF m 332 #[.val (.int p1), .val (.int p2), .val (.int p3), .val (.ref b2), .val (.ref b223), .unset, .unset, .unset, .unset] [(.ref b390)]) _
    refine XS.dup X396.here hx rfl (hb hby at_332) rfl rfl ?_
    show own_S p e below T396 (mkF m 333 #[.val (.int p1), .val (.int p2), .val (.int p3), .val (.ref b2), .val (.ref b223), .unset, .unset, .unset, .unset] [(.ref b390), (.ref b390)]) _
    refine XS.iconst X396.here hx rfl (hb hby at_333) ?_
    show own_S p e below T396 (mkF m 334 #[.val (.int p1), .val (.int p2), .val (.int p3), .val (.ref b2), .val (.ref b223), .unset, .unset, .unset, .unset] [(.int (1 : Int32)), (.ref b390), (.ref b390)]) _
    refine XS.iconst X396.here hx rfl (hb hby at_334) ?_
    exact kt)
  obtain ⟨cl402, Ar402, q402, Sz402, Ng402, Hs402, Gs402⟩ := id V396
  have hin402 : ¬ ((1 : Int32) < 0 ∨ cl402.slots.size ≤ ((1 : Int32)).toNatClampNeg) := inb_of Sz402 ⟨by decide, by decide⟩
  obtain ⟨T402, h402, X402, e402, W402, st402⟩ := stI X396 hx hZ e396 Ar402 (j := (1 : Int32)) hin402 (g := (mkF m 335 #[.val (.int p1), .val (.int p2), .val (.int p3), .val (.ref b2), .val (.ref b223), .unset, .unset, .unset, .unset] [(.int (0 : Int32)), (.int (1 : Int32)), (.ref b390), (.ref b390)])) rfl rfl (hb hby at_335)
  have Z403 : n0 ≤ h402.size := Nat.le_trans Z397 (Keep.of_wr W402).1
  have O404 : Old Z n0 h402 := O398.wr W402 g_b390
  have V402 : Arv Z h402 b390 kk390 .int (27 : Int32) ((.int (0 : Int32)) :: (.int (0 : Int32)) :: (.int (0 : Int32)) :: (.int (0 : Int32)) :: (.int (0 : Int32)) :: (.int (0 : Int32)) :: (.int (0 : Int32)) :: (.int (0 : Int32)) :: (.int (0 : Int32)) :: (.int (0 : Int32)) :: (.int (0 : Int32)) :: (.int (0 : Int32)) :: (.int (0 : Int32)) :: (.int (0 : Int32)) :: (.int (0 : Int32)) :: (.int (0 : Int32)) :: (.int (0 : Int32)) :: (.int (0 : Int32)) :: (.int (0 : Int32)) :: (.int (0 : Int32)) :: (.int (0 : Int32)) :: (.int (0 : Int32)) :: (.int (0 : Int32)) :: (.int (0 : Int32)) :: (.int (0 : Int32)) :: (.int (0 : Int32)) :: (.int (0 : Int32)) :: []) (.int (0 : Int32)) := Arv.set Ar402 q402 Sz402 Ng402 Hs402 Gs402 rfl W402 1 rfl (Nat.le_of_ble_eq_true rfl)
  have Nf405 := Fr.snoc X402 Nf399 g_b390
  have kn406 : ∀ t, own_S p e below T402 (mkF m 336 #[.val (.int p1), .val (.int p2), .val (.int p3), .val (.ref b2), .val (.ref b223), .unset, .unset, .unset, .unset] [(.ref b390)]) t → Gl t := fun t kt => kn401 t (st402 _ kt)
  have kn407 : ∀ t, own_S p e below T402 (mkF m 339 #[.val (.int p1), .val (.int p2), .val (.int p3), .val (.ref b2), .val (.ref b223), .unset, .unset, .unset, .unset] [(.int (1 : Int32)), (.int (2 : Int32)), (.ref b390), (.ref b390)]) t → Gl t := fun t kt => kn406 t (by
    show own_S p e below T402 (mkF m 336 #[.val (.int p1), .val (.int p2), .val (.int p3), .val (.ref b2), .val (.ref b223), .unset, .unset, .unset, .unset] [(.ref b390)]) _
    refine XS.dup X402.here hx rfl (hb hby at_336) rfl rfl ?_
    show own_S p e below T402 (mkF m 337 #[.val (.int p1), .val (.int p2), .val (.int p3), .val (.ref b2), .val (.ref b223), .unset, .unset, .unset, .unset] [(.ref b390), (.ref b390)]) _
    refine XS.iconst X402.here hx rfl (hb hby at_337) ?_
    show own_S p e below T402 (mkF m 338 #[.val (.int p1), .val (.int p2), .val (.int p3), .val (.ref b2), .val (.ref b223), .unset, .unset, .unset, .unset] [(.int (2 : Int32)), (.ref b390), (.ref b390)]) _
    refine XS.iconst X402.here hx rfl (hb hby at_338) ?_
    exact kt)
  obtain ⟨cl408, Ar408, q408, Sz408, Ng408, Hs408, Gs408⟩ := id V402
  have hin408 : ¬ ((2 : Int32) < 0 ∨ cl408.slots.size ≤ ((2 : Int32)).toNatClampNeg) := inb_of Sz408 ⟨by decide, by decide⟩
  obtain ⟨T408, h408, X408, e408, W408, st408⟩ := stI X402 hx hZ e402 Ar408 (j := (2 : Int32)) hin408 (g := (mkF m 339 #[.val (.int p1), .val (.int p2), .val (.int p3), .val (.ref b2), .val (.ref b223), .unset, .unset, .unset, .unset] [(.int (1 : Int32)), (.int (2 : Int32)), (.ref b390), (.ref b390)])) rfl rfl (hb hby at_339)
  have Z409 : n0 ≤ h408.size := Nat.le_trans Z403 (Keep.of_wr W408).1
  have O410 : Old Z n0 h408 := O404.wr W408 g_b390
  have V408 : Arv Z h408 b390 kk390 .int (27 : Int32) ((.int (0 : Int32)) :: (.int (0 : Int32)) :: (.int (1 : Int32)) :: (.int (0 : Int32)) :: (.int (0 : Int32)) :: (.int (0 : Int32)) :: (.int (0 : Int32)) :: (.int (0 : Int32)) :: (.int (0 : Int32)) :: (.int (0 : Int32)) :: (.int (0 : Int32)) :: (.int (0 : Int32)) :: (.int (0 : Int32)) :: (.int (0 : Int32)) :: (.int (0 : Int32)) :: (.int (0 : Int32)) :: (.int (0 : Int32)) :: (.int (0 : Int32)) :: (.int (0 : Int32)) :: (.int (0 : Int32)) :: (.int (0 : Int32)) :: (.int (0 : Int32)) :: (.int (0 : Int32)) :: (.int (0 : Int32)) :: (.int (0 : Int32)) :: (.int (0 : Int32)) :: (.int (0 : Int32)) :: []) (.int (0 : Int32)) := Arv.set Ar408 q408 Sz408 Ng408 Hs408 Gs408 rfl W408 2 rfl (Nat.le_of_ble_eq_true rfl)
  have Nf411 := Fr.snoc X408 Nf405 g_b390
  have kn412 : ∀ t, own_S p e below T408 (mkF m 340 #[.val (.int p1), .val (.int p2), .val (.int p3), .val (.ref b2), .val (.ref b223), .unset, .unset, .unset, .unset] [(.ref b390)]) t → Gl t := fun t kt => kn407 t (st408 _ kt)
  have kn413 : ∀ t, own_S p e below T408 (mkF m 343 #[.val (.int p1), .val (.int p2), .val (.int p3), .val (.ref b2), .val (.ref b223), .unset, .unset, .unset, .unset] [(.int (1 : Int32)), (.int (3 : Int32)), (.ref b390), (.ref b390)]) t → Gl t := fun t kt => kn412 t (by
    show own_S p e below T408 (mkF m 340 #[.val (.int p1), .val (.int p2), .val (.int p3), .val (.ref b2), .val (.ref b223), .unset, .unset, .unset, .unset] [(.ref b390)]) _
    refine XS.dup X408.here hx rfl (hb hby at_340) rfl rfl ?_
    show own_S p e below T408 (mkF m 341 #[.val (.int p1), .val (.int p2), .val (.int p3), .val (.ref b2), .val (.ref b223), .unset, .unset, .unset, .unset] [(.ref b390), (.ref b390)]) _
    refine XS.iconst X408.here hx rfl (hb hby at_341) ?_
    show own_S p e below T408 (mkF m 342 #[.val (.int p1), .val (.int p2), .val (.int p3), .val (.ref b2), .val (.ref b223), .unset, .unset, .unset, .unset] [(.int (3 : Int32)), (.ref b390), (.ref b390)]) _
    refine XS.iconst X408.here hx rfl (hb hby at_342) ?_
    exact kt)
  obtain ⟨cl414, Ar414, q414, Sz414, Ng414, Hs414, Gs414⟩ := id V408
  have hin414 : ¬ ((3 : Int32) < 0 ∨ cl414.slots.size ≤ ((3 : Int32)).toNatClampNeg) := inb_of Sz414 ⟨by decide, by decide⟩
  obtain ⟨T414, h414, X414, e414, W414, st414⟩ := stI X408 hx hZ e408 Ar414 (j := (3 : Int32)) hin414 (g := (mkF m 343 #[.val (.int p1), .val (.int p2), .val (.int p3), .val (.ref b2), .val (.ref b223), .unset, .unset, .unset, .unset] [(.int (1 : Int32)), (.int (3 : Int32)), (.ref b390), (.ref b390)])) rfl rfl (hb hby at_343)
  have Z415 : n0 ≤ h414.size := Nat.le_trans Z409 (Keep.of_wr W414).1
  have O416 : Old Z n0 h414 := O410.wr W414 g_b390
  have V414 : Arv Z h414 b390 kk390 .int (27 : Int32) ((.int (0 : Int32)) :: (.int (0 : Int32)) :: (.int (1 : Int32)) :: (.int (1 : Int32)) :: (.int (0 : Int32)) :: (.int (0 : Int32)) :: (.int (0 : Int32)) :: (.int (0 : Int32)) :: (.int (0 : Int32)) :: (.int (0 : Int32)) :: (.int (0 : Int32)) :: (.int (0 : Int32)) :: (.int (0 : Int32)) :: (.int (0 : Int32)) :: (.int (0 : Int32)) :: (.int (0 : Int32)) :: (.int (0 : Int32)) :: (.int (0 : Int32)) :: (.int (0 : Int32)) :: (.int (0 : Int32)) :: (.int (0 : Int32)) :: (.int (0 : Int32)) :: (.int (0 : Int32)) :: (.int (0 : Int32)) :: (.int (0 : Int32)) :: (.int (0 : Int32)) :: (.int (0 : Int32)) :: []) (.int (0 : Int32)) := Arv.set Ar414 q414 Sz414 Ng414 Hs414 Gs414 rfl W414 3 rfl (Nat.le_of_ble_eq_true rfl)
  have Nf417 := Fr.snoc X414 Nf411 g_b390
  have kn418 : ∀ t, own_S p e below T414 (mkF m 344 #[.val (.int p1), .val (.int p2), .val (.int p3), .val (.ref b2), .val (.ref b223), .unset, .unset, .unset, .unset] [(.ref b390)]) t → Gl t := fun t kt => kn413 t (st414 _ kt)
  have kn419 : ∀ t, own_S p e below T414 (mkF m 347 #[.val (.int p1), .val (.int p2), .val (.int p3), .val (.ref b2), .val (.ref b223), .unset, .unset, .unset, .unset] [(.int (1 : Int32)), (.int (4 : Int32)), (.ref b390), (.ref b390)]) t → Gl t := fun t kt => kn418 t (by
    show own_S p e below T414 (mkF m 344 #[.val (.int p1), .val (.int p2), .val (.int p3), .val (.ref b2), .val (.ref b223), .unset, .unset, .unset, .unset] [(.ref b390)]) _
    refine XS.dup X414.here hx rfl (hb hby at_344) rfl rfl ?_
    show own_S p e below T414 (mkF m 345 #[.val (.int p1), .val (.int p2), .val (.int p3), .val (.ref b2), .val (.ref b223), .unset, .unset, .unset, .unset] [(.ref b390), (.ref b390)]) _
    refine XS.iconst X414.here hx rfl (hb hby at_345) ?_
    show own_S p e below T414 (mkF m 346 #[.val (.int p1), .val (.int p2), .val (.int p3), .val (.ref b2), .val (.ref b223), .unset, .unset, .unset, .unset] [(.int (4 : Int32)), (.ref b390), (.ref b390)]) _
    refine XS.iconst X414.here hx rfl (hb hby at_346) ?_
    exact kt)
  obtain ⟨cl420, Ar420, q420, Sz420, Ng420, Hs420, Gs420⟩ := id V414
  have hin420 : ¬ ((4 : Int32) < 0 ∨ cl420.slots.size ≤ ((4 : Int32)).toNatClampNeg) := inb_of Sz420 ⟨by decide, by decide⟩
  obtain ⟨T420, h420, X420, e420, W420, st420⟩ := stI X414 hx hZ e414 Ar420 (j := (4 : Int32)) hin420 (g := (mkF m 347 #[.val (.int p1), .val (.int p2), .val (.int p3), .val (.ref b2), .val (.ref b223), .unset, .unset, .unset, .unset] [(.int (1 : Int32)), (.int (4 : Int32)), (.ref b390), (.ref b390)])) rfl rfl (hb hby at_347)
  have Z421 : n0 ≤ h420.size := Nat.le_trans Z415 (Keep.of_wr W420).1
  have O422 : Old Z n0 h420 := O416.wr W420 g_b390
  have V420 : Arv Z h420 b390 kk390 .int (27 : Int32) ((.int (0 : Int32)) :: (.int (0 : Int32)) :: (.int (1 : Int32)) :: (.int (1 : Int32)) :: (.int (1 : Int32)) :: (.int (0 : Int32)) :: (.int (0 : Int32)) :: (.int (0 : Int32)) :: (.int (0 : Int32)) :: (.int (0 : Int32)) :: (.int (0 : Int32)) :: (.int (0 : Int32)) :: (.int (0 : Int32)) :: (.int (0 : Int32)) :: (.int (0 : Int32)) :: (.int (0 : Int32)) :: (.int (0 : Int32)) :: (.int (0 : Int32)) :: (.int (0 : Int32)) :: (.int (0 : Int32)) :: (.int (0 : Int32)) :: (.int (0 : Int32)) :: (.int (0 : Int32)) :: (.int (0 : Int32)) :: (.int (0 : Int32)) :: (.int (0 : Int32)) :: (.int (0 : Int32)) :: []) (.int (0 : Int32)) := Arv.set Ar420 q420 Sz420 Ng420 Hs420 Gs420 rfl W420 4 rfl (Nat.le_of_ble_eq_true rfl)
  have Nf423 := Fr.snoc X420 Nf417 g_b390
  have kn424 : ∀ t, own_S p e below T420 (mkF m 348 #[.val (.int p1), .val (.int p2), .val (.int p3), .val (.ref b2), .val (.ref b223), .unset, .unset, .unset, .unset] [(.ref b390)]) t → Gl t := fun t kt => kn419 t (st420 _ kt)
  have kn425 : ∀ t, own_S p e below T420 (mkF m 351 #[.val (.int p1), .val (.int p2), .val (.int p3), .val (.ref b2), .val (.ref b223), .unset, .unset, .unset, .unset] [(.int (1 : Int32)), (.int (5 : Int32)), (.ref b390), (.ref b390)]) t → Gl t := fun t kt => kn424 t (by
    show own_S p e below T420 (mkF m 348 #[.val (.int p1), .val (.int p2), .val (.int p3), .val (.ref b2), .val (.ref b223), .unset, .unset, .unset, .unset] [(.ref b390)]) _
    refine XS.dup X420.here hx rfl (hb hby at_348) rfl rfl ?_
    show own_S p e below T420 (mkF m 349 #[.val (.int p1), .val (.int p2), .val (.int p3), .val (.ref b2), .val (.ref b223), .unset, .unset, .unset, .unset] [(.ref b390), (.ref b390)]) _
    refine XS.iconst X420.here hx rfl (hb hby at_349) ?_
    show own_S p e below T420 (mkF m 350 #[.val (.int p1), .val (.int p2), .val (.int p3), .val (.ref b2), .val (.ref b223), .unset, .unset, .unset, .unset] [(.int (5 : Int32)), (.ref b390), (.ref b390)]) _
    refine XS.iconst X420.here hx rfl (hb hby at_350) ?_
    exact kt)
  obtain ⟨cl426, Ar426, q426, Sz426, Ng426, Hs426, Gs426⟩ := id V420
  have hin426 : ¬ ((5 : Int32) < 0 ∨ cl426.slots.size ≤ ((5 : Int32)).toNatClampNeg) := inb_of Sz426 ⟨by decide, by decide⟩
  obtain ⟨T426, h426, X426, e426, W426, st426⟩ := stI X420 hx hZ e420 Ar426 (j := (5 : Int32)) hin426 (g := (mkF m 351 #[.val (.int p1), .val (.int p2), .val (.int p3), .val (.ref b2), .val (.ref b223), .unset, .unset, .unset, .unset] [(.int (1 : Int32)), (.int (5 : Int32)), (.ref b390), (.ref b390)])) rfl rfl (hb hby at_351)
  have Z427 : n0 ≤ h426.size := Nat.le_trans Z421 (Keep.of_wr W426).1
  have O428 : Old Z n0 h426 := O422.wr W426 g_b390
  have V426 : Arv Z h426 b390 kk390 .int (27 : Int32) ((.int (0 : Int32)) :: (.int (0 : Int32)) :: (.int (1 : Int32)) :: (.int (1 : Int32)) :: (.int (1 : Int32)) :: (.int (1 : Int32)) :: (.int (0 : Int32)) :: (.int (0 : Int32)) :: (.int (0 : Int32)) :: (.int (0 : Int32)) :: (.int (0 : Int32)) :: (.int (0 : Int32)) :: (.int (0 : Int32)) :: (.int (0 : Int32)) :: (.int (0 : Int32)) :: (.int (0 : Int32)) :: (.int (0 : Int32)) :: (.int (0 : Int32)) :: (.int (0 : Int32)) :: (.int (0 : Int32)) :: (.int (0 : Int32)) :: (.int (0 : Int32)) :: (.int (0 : Int32)) :: (.int (0 : Int32)) :: (.int (0 : Int32)) :: (.int (0 : Int32)) :: (.int (0 : Int32)) :: []) (.int (0 : Int32)) := Arv.set Ar426 q426 Sz426 Ng426 Hs426 Gs426 rfl W426 5 rfl (Nat.le_of_ble_eq_true rfl)
  have Nf429 := Fr.snoc X426 Nf423 g_b390
  have kn430 : ∀ t, own_S p e below T426 (mkF m 352 #[.val (.int p1), .val (.int p2), .val (.int p3), .val (.ref b2), .val (.ref b223), .unset, .unset, .unset, .unset] [(.ref b390)]) t → Gl t := fun t kt => kn425 t (st426 _ kt)
  have kn431 : ∀ t, own_S p e below T426 (mkF m 356 #[.val (.int p1), .val (.int p2), .val (.int p3), .val (.ref b2), .val (.ref b223), .unset, .unset, .unset, .unset] [(.int (1 : Int32)), (.int (6 : Int32)), (.ref b390), (.ref b390)]) t → Gl t := fun t kt => kn430 t (by
    show own_S p e below T426 (mkF m 352 #[.val (.int p1), .val (.int p2), .val (.int p3), .val (.ref b2), .val (.ref b223), .unset, .unset, .unset, .unset] [(.ref b390)]) _
    refine XS.dup X426.here hx rfl (hb hby at_352) rfl rfl ?_
    show own_S p e below T426 (mkF m 353 #[.val (.int p1), .val (.int p2), .val (.int p3), .val (.ref b2), .val (.ref b223), .unset, .unset, .unset, .unset] [(.ref b390), (.ref b390)]) _
    refine XS.bipush X426.here hx rfl (hb hby at_353) ?_
    show own_S p e below T426 (mkF m 355 #[.val (.int p1), .val (.int p2), .val (.int p3), .val (.ref b2), .val (.ref b223), .unset, .unset, .unset, .unset] [(.int (6 : Int32)), (.ref b390), (.ref b390)]) _
    refine XS.iconst X426.here hx rfl (hb hby at_355) ?_
    exact kt)
  obtain ⟨cl432, Ar432, q432, Sz432, Ng432, Hs432, Gs432⟩ := id V426
  have hin432 : ¬ ((6 : Int32) < 0 ∨ cl432.slots.size ≤ ((6 : Int32)).toNatClampNeg) := inb_of Sz432 ⟨by decide, by decide⟩
  obtain ⟨T432, h432, X432, e432, W432, st432⟩ := stI X426 hx hZ e426 Ar432 (j := (6 : Int32)) hin432 (g := (mkF m 356 #[.val (.int p1), .val (.int p2), .val (.int p3), .val (.ref b2), .val (.ref b223), .unset, .unset, .unset, .unset] [(.int (1 : Int32)), (.int (6 : Int32)), (.ref b390), (.ref b390)])) rfl rfl (hb hby at_356)
  have Z433 : n0 ≤ h432.size := Nat.le_trans Z427 (Keep.of_wr W432).1
  have O434 : Old Z n0 h432 := O428.wr W432 g_b390
  have V432 : Arv Z h432 b390 kk390 .int (27 : Int32) ((.int (0 : Int32)) :: (.int (0 : Int32)) :: (.int (1 : Int32)) :: (.int (1 : Int32)) :: (.int (1 : Int32)) :: (.int (1 : Int32)) :: (.int (1 : Int32)) :: (.int (0 : Int32)) :: (.int (0 : Int32)) :: (.int (0 : Int32)) :: (.int (0 : Int32)) :: (.int (0 : Int32)) :: (.int (0 : Int32)) :: (.int (0 : Int32)) :: (.int (0 : Int32)) :: (.int (0 : Int32)) :: (.int (0 : Int32)) :: (.int (0 : Int32)) :: (.int (0 : Int32)) :: (.int (0 : Int32)) :: (.int (0 : Int32)) :: (.int (0 : Int32)) :: (.int (0 : Int32)) :: (.int (0 : Int32)) :: (.int (0 : Int32)) :: (.int (0 : Int32)) :: (.int (0 : Int32)) :: []) (.int (0 : Int32)) := Arv.set Ar432 q432 Sz432 Ng432 Hs432 Gs432 rfl W432 6 rfl (Nat.le_of_ble_eq_true rfl)
  have Nf435 := Fr.snoc X432 Nf429 g_b390
  have kn436 : ∀ t, own_S p e below T432 (mkF m 357 #[.val (.int p1), .val (.int p2), .val (.int p3), .val (.ref b2), .val (.ref b223), .unset, .unset, .unset, .unset] [(.ref b390)]) t → Gl t := fun t kt => kn431 t (st432 _ kt)
  have kn437 : ∀ t, own_S p e below T432 (mkF m 361 #[.val (.int p1), .val (.int p2), .val (.int p3), .val (.ref b2), .val (.ref b223), .unset, .unset, .unset, .unset] [(.int (1 : Int32)), (.int (7 : Int32)), (.ref b390), (.ref b390)]) t → Gl t := fun t kt => kn436 t (by
    show own_S p e below T432 (mkF m 357 #[.val (.int p1), .val (.int p2), .val (.int p3), .val (.ref b2), .val (.ref b223), .unset, .unset, .unset, .unset] [(.ref b390)]) _
    refine XS.dup X432.here hx rfl (hb hby at_357) rfl rfl ?_
    show own_S p e below T432 (mkF m 358 #[.val (.int p1), .val (.int p2), .val (.int p3), .val (.ref b2), .val (.ref b223), .unset, .unset, .unset, .unset] [(.ref b390), (.ref b390)]) _
    refine XS.bipush X432.here hx rfl (hb hby at_358) ?_
    show own_S p e below T432 (mkF m 360 #[.val (.int p1), .val (.int p2), .val (.int p3), .val (.ref b2), .val (.ref b223), .unset, .unset, .unset, .unset] [(.int (7 : Int32)), (.ref b390), (.ref b390)]) _
    refine XS.iconst X432.here hx rfl (hb hby at_360) ?_
    exact kt)
  obtain ⟨cl438, Ar438, q438, Sz438, Ng438, Hs438, Gs438⟩ := id V432
  have hin438 : ¬ ((7 : Int32) < 0 ∨ cl438.slots.size ≤ ((7 : Int32)).toNatClampNeg) := inb_of Sz438 ⟨by decide, by decide⟩
  obtain ⟨T438, h438, X438, e438, W438, st438⟩ := stI X432 hx hZ e432 Ar438 (j := (7 : Int32)) hin438 (g := (mkF m 361 #[.val (.int p1), .val (.int p2), .val (.int p3), .val (.ref b2), .val (.ref b223), .unset, .unset, .unset, .unset] [(.int (1 : Int32)), (.int (7 : Int32)), (.ref b390), (.ref b390)])) rfl rfl (hb hby at_361)
  have Z439 : n0 ≤ h438.size := Nat.le_trans Z433 (Keep.of_wr W438).1
  have O440 : Old Z n0 h438 := O434.wr W438 g_b390
  have V438 : Arv Z h438 b390 kk390 .int (27 : Int32) ((.int (0 : Int32)) :: (.int (0 : Int32)) :: (.int (1 : Int32)) :: (.int (1 : Int32)) :: (.int (1 : Int32)) :: (.int (1 : Int32)) :: (.int (1 : Int32)) :: (.int (1 : Int32)) :: (.int (0 : Int32)) :: (.int (0 : Int32)) :: (.int (0 : Int32)) :: (.int (0 : Int32)) :: (.int (0 : Int32)) :: (.int (0 : Int32)) :: (.int (0 : Int32)) :: (.int (0 : Int32)) :: (.int (0 : Int32)) :: (.int (0 : Int32)) :: (.int (0 : Int32)) :: (.int (0 : Int32)) :: (.int (0 : Int32)) :: (.int (0 : Int32)) :: (.int (0 : Int32)) :: (.int (0 : Int32)) :: (.int (0 : Int32)) :: (.int (0 : Int32)) :: (.int (0 : Int32)) :: []) (.int (0 : Int32)) := Arv.set Ar438 q438 Sz438 Ng438 Hs438 Gs438 rfl W438 7 rfl (Nat.le_of_ble_eq_true rfl)
  have Nf441 := Fr.snoc X438 Nf435 g_b390
  have kn442 : ∀ t, own_S p e below T438 (mkF m 362 #[.val (.int p1), .val (.int p2), .val (.int p3), .val (.ref b2), .val (.ref b223), .unset, .unset, .unset, .unset] [(.ref b390)]) t → Gl t := fun t kt => kn437 t (st438 _ kt)
  have kn443 : ∀ t, own_S p e below T438 (mkF m 367 #[.val (.int p1), .val (.int p2), .val (.int p3), .val (.ref b2), .val (.ref b223), .unset, .unset, .unset, .unset] [(.int (2147483647 : Int32)), (.int (8 : Int32)), (.ref b390), (.ref b390)]) t → Gl t := fun t kt => kn442 t (by
    show own_S p e below T438 (mkF m 362 #[.val (.int p1), .val (.int p2), .val (.int p3), .val (.ref b2), .val (.ref b223), .unset, .unset, .unset, .unset] [(.ref b390)]) _
    refine XS.dup X438.here hx rfl (hb hby at_362) rfl rfl ?_
    show own_S p e below T438 (mkF m 363 #[.val (.int p1), .val (.int p2), .val (.int p3), .val (.ref b2), .val (.ref b223), .unset, .unset, .unset, .unset] [(.ref b390), (.ref b390)]) _
    refine XS.bipush X438.here hx rfl (hb hby at_363) ?_
    show own_S p e below T438 (mkF m 365 #[.val (.int p1), .val (.int p2), .val (.int p3), .val (.ref b2), .val (.ref b223), .unset, .unset, .unset, .unset] [(.int (8 : Int32)), (.ref b390), (.ref b390)]) _
    refine X438.ldcInt hx hown (mvT hZ (hw _ (List.mem_of_getElem? (i := 85) rfl))) (g := (mkF m 365 #[.val (.int p1), .val (.int p2), .val (.int p3), .val (.ref b2), .val (.ref b223), .unset, .unset, .unset, .unset] [(.int (8 : Int32)), (.ref b390), (.ref b390)])) rfl (hb hby at_365) _ ?_
    exact kt)
  obtain ⟨cl444, Ar444, q444, Sz444, Ng444, Hs444, Gs444⟩ := id V438
  have hin444 : ¬ ((8 : Int32) < 0 ∨ cl444.slots.size ≤ ((8 : Int32)).toNatClampNeg) := inb_of Sz444 ⟨by decide, by decide⟩
  obtain ⟨T444, h444, X444, e444, W444, st444⟩ := stI X438 hx hZ e438 Ar444 (j := (8 : Int32)) hin444 (g := (mkF m 367 #[.val (.int p1), .val (.int p2), .val (.int p3), .val (.ref b2), .val (.ref b223), .unset, .unset, .unset, .unset] [(.int (2147483647 : Int32)), (.int (8 : Int32)), (.ref b390), (.ref b390)])) rfl rfl (hb hby at_367)
  have Z445 : n0 ≤ h444.size := Nat.le_trans Z439 (Keep.of_wr W444).1
  have O446 : Old Z n0 h444 := O440.wr W444 g_b390
  have V444 : Arv Z h444 b390 kk390 .int (27 : Int32) ((.int (0 : Int32)) :: (.int (0 : Int32)) :: (.int (1 : Int32)) :: (.int (1 : Int32)) :: (.int (1 : Int32)) :: (.int (1 : Int32)) :: (.int (1 : Int32)) :: (.int (1 : Int32)) :: (.int (2147483647 : Int32)) :: (.int (0 : Int32)) :: (.int (0 : Int32)) :: (.int (0 : Int32)) :: (.int (0 : Int32)) :: (.int (0 : Int32)) :: (.int (0 : Int32)) :: (.int (0 : Int32)) :: (.int (0 : Int32)) :: (.int (0 : Int32)) :: (.int (0 : Int32)) :: (.int (0 : Int32)) :: (.int (0 : Int32)) :: (.int (0 : Int32)) :: (.int (0 : Int32)) :: (.int (0 : Int32)) :: (.int (0 : Int32)) :: (.int (0 : Int32)) :: (.int (0 : Int32)) :: []) (.int (0 : Int32)) := Arv.set Ar444 q444 Sz444 Ng444 Hs444 Gs444 rfl W444 8 rfl (Nat.le_of_ble_eq_true rfl)
  have Nf447 := Fr.snoc X444 Nf441 g_b390
  have kn448 : ∀ t, own_S p e below T444 (mkF m 368 #[.val (.int p1), .val (.int p2), .val (.int p3), .val (.ref b2), .val (.ref b223), .unset, .unset, .unset, .unset] [(.ref b390)]) t → Gl t := fun t kt => kn443 t (st444 _ kt)
  have kn449 : ∀ t, own_S p e below T444 (mkF m 372 #[.val (.int p1), .val (.int p2), .val (.int p3), .val (.ref b2), .val (.ref b223), .unset, .unset, .unset, .unset] [(.int (2 : Int32)), (.int (9 : Int32)), (.ref b390), (.ref b390)]) t → Gl t := fun t kt => kn448 t (by
    show own_S p e below T444 (mkF m 368 #[.val (.int p1), .val (.int p2), .val (.int p3), .val (.ref b2), .val (.ref b223), .unset, .unset, .unset, .unset] [(.ref b390)]) _
    refine XS.dup X444.here hx rfl (hb hby at_368) rfl rfl ?_
    show own_S p e below T444 (mkF m 369 #[.val (.int p1), .val (.int p2), .val (.int p3), .val (.ref b2), .val (.ref b223), .unset, .unset, .unset, .unset] [(.ref b390), (.ref b390)]) _
    refine XS.bipush X444.here hx rfl (hb hby at_369) ?_
    show own_S p e below T444 (mkF m 371 #[.val (.int p1), .val (.int p2), .val (.int p3), .val (.ref b2), .val (.ref b223), .unset, .unset, .unset, .unset] [(.int (9 : Int32)), (.ref b390), (.ref b390)]) _
    refine XS.iconst X444.here hx rfl (hb hby at_371) ?_
    exact kt)
  obtain ⟨cl450, Ar450, q450, Sz450, Ng450, Hs450, Gs450⟩ := id V444
  have hin450 : ¬ ((9 : Int32) < 0 ∨ cl450.slots.size ≤ ((9 : Int32)).toNatClampNeg) := inb_of Sz450 ⟨by decide, by decide⟩
  obtain ⟨T450, h450, X450, e450, W450, st450⟩ := stI X444 hx hZ e444 Ar450 (j := (9 : Int32)) hin450 (g := (mkF m 372 #[.val (.int p1), .val (.int p2), .val (.int p3), .val (.ref b2), .val (.ref b223), .unset, .unset, .unset, .unset] [(.int (2 : Int32)), (.int (9 : Int32)), (.ref b390), (.ref b390)])) rfl rfl (hb hby at_372)
  have Z451 : n0 ≤ h450.size := Nat.le_trans Z445 (Keep.of_wr W450).1
  have O452 : Old Z n0 h450 := O446.wr W450 g_b390
  have V450 : Arv Z h450 b390 kk390 .int (27 : Int32) ((.int (0 : Int32)) :: (.int (0 : Int32)) :: (.int (1 : Int32)) :: (.int (1 : Int32)) :: (.int (1 : Int32)) :: (.int (1 : Int32)) :: (.int (1 : Int32)) :: (.int (1 : Int32)) :: (.int (2147483647 : Int32)) :: (.int (2 : Int32)) :: (.int (0 : Int32)) :: (.int (0 : Int32)) :: (.int (0 : Int32)) :: (.int (0 : Int32)) :: (.int (0 : Int32)) :: (.int (0 : Int32)) :: (.int (0 : Int32)) :: (.int (0 : Int32)) :: (.int (0 : Int32)) :: (.int (0 : Int32)) :: (.int (0 : Int32)) :: (.int (0 : Int32)) :: (.int (0 : Int32)) :: (.int (0 : Int32)) :: (.int (0 : Int32)) :: (.int (0 : Int32)) :: (.int (0 : Int32)) :: []) (.int (0 : Int32)) := Arv.set Ar450 q450 Sz450 Ng450 Hs450 Gs450 rfl W450 9 rfl (Nat.le_of_ble_eq_true rfl)
  have Nf453 := Fr.snoc X450 Nf447 g_b390
  have kn454 : ∀ t, own_S p e below T450 (mkF m 373 #[.val (.int p1), .val (.int p2), .val (.int p3), .val (.ref b2), .val (.ref b223), .unset, .unset, .unset, .unset] [(.ref b390)]) t → Gl t := fun t kt => kn449 t (st450 _ kt)
  have kn455 : ∀ t, own_S p e below T450 (mkF m 377 #[.val (.int p1), .val (.int p2), .val (.int p3), .val (.ref b2), .val (.ref b223), .unset, .unset, .unset, .unset] [(.int (2 : Int32)), (.int (10 : Int32)), (.ref b390), (.ref b390)]) t → Gl t := fun t kt => kn454 t (by
    show own_S p e below T450 (mkF m 373 #[.val (.int p1), .val (.int p2), .val (.int p3), .val (.ref b2), .val (.ref b223), .unset, .unset, .unset, .unset] [(.ref b390)]) _
    refine XS.dup X450.here hx rfl (hb hby at_373) rfl rfl ?_
    show own_S p e below T450 (mkF m 374 #[.val (.int p1), .val (.int p2), .val (.int p3), .val (.ref b2), .val (.ref b223), .unset, .unset, .unset, .unset] [(.ref b390), (.ref b390)]) _
    refine XS.bipush X450.here hx rfl (hb hby at_374) ?_
    show own_S p e below T450 (mkF m 376 #[.val (.int p1), .val (.int p2), .val (.int p3), .val (.ref b2), .val (.ref b223), .unset, .unset, .unset, .unset] [(.int (10 : Int32)), (.ref b390), (.ref b390)]) _
    refine XS.iconst X450.here hx rfl (hb hby at_376) ?_
    exact kt)
  obtain ⟨cl456, Ar456, q456, Sz456, Ng456, Hs456, Gs456⟩ := id V450
  have hin456 : ¬ ((10 : Int32) < 0 ∨ cl456.slots.size ≤ ((10 : Int32)).toNatClampNeg) := inb_of Sz456 ⟨by decide, by decide⟩
  obtain ⟨T456, h456, X456, e456, W456, st456⟩ := stI X450 hx hZ e450 Ar456 (j := (10 : Int32)) hin456 (g := (mkF m 377 #[.val (.int p1), .val (.int p2), .val (.int p3), .val (.ref b2), .val (.ref b223), .unset, .unset, .unset, .unset] [(.int (2 : Int32)), (.int (10 : Int32)), (.ref b390), (.ref b390)])) rfl rfl (hb hby at_377)
  have Z457 : n0 ≤ h456.size := Nat.le_trans Z451 (Keep.of_wr W456).1
  have O458 : Old Z n0 h456 := O452.wr W456 g_b390
  have V456 : Arv Z h456 b390 kk390 .int (27 : Int32) ((.int (0 : Int32)) :: (.int (0 : Int32)) :: (.int (1 : Int32)) :: (.int (1 : Int32)) :: (.int (1 : Int32)) :: (.int (1 : Int32)) :: (.int (1 : Int32)) :: (.int (1 : Int32)) :: (.int (2147483647 : Int32)) :: (.int (2 : Int32)) :: (.int (2 : Int32)) :: (.int (0 : Int32)) :: (.int (0 : Int32)) :: (.int (0 : Int32)) :: (.int (0 : Int32)) :: (.int (0 : Int32)) :: (.int (0 : Int32)) :: (.int (0 : Int32)) :: (.int (0 : Int32)) :: (.int (0 : Int32)) :: (.int (0 : Int32)) :: (.int (0 : Int32)) :: (.int (0 : Int32)) :: (.int (0 : Int32)) :: (.int (0 : Int32)) :: (.int (0 : Int32)) :: (.int (0 : Int32)) :: []) (.int (0 : Int32)) := Arv.set Ar456 q456 Sz456 Ng456 Hs456 Gs456 rfl W456 10 rfl (Nat.le_of_ble_eq_true rfl)
  have Nf459 := Fr.snoc X456 Nf453 g_b390
  have kn460 : ∀ t, own_S p e below T456 (mkF m 378 #[.val (.int p1), .val (.int p2), .val (.int p3), .val (.ref b2), .val (.ref b223), .unset, .unset, .unset, .unset] [(.ref b390)]) t → Gl t := fun t kt => kn455 t (st456 _ kt)
  have kn461 : ∀ t, own_S p e below T456 (mkF m 382 #[.val (.int p1), .val (.int p2), .val (.int p3), .val (.ref b2), .val (.ref b223), .unset, .unset, .unset, .unset] [(.int (2 : Int32)), (.int (11 : Int32)), (.ref b390), (.ref b390)]) t → Gl t := fun t kt => kn460 t (by
    show own_S p e below T456 (mkF m 378 #[.val (.int p1), .val (.int p2), .val (.int p3), .val (.ref b2), .val (.ref b223), .unset, .unset, .unset, .unset] [(.ref b390)]) _
    refine XS.dup X456.here hx rfl (hb hby at_378) rfl rfl ?_
    show own_S p e below T456 (mkF m 379 #[.val (.int p1), .val (.int p2), .val (.int p3), .val (.ref b2), .val (.ref b223), .unset, .unset, .unset, .unset] [(.ref b390), (.ref b390)]) _
    refine XS.bipush X456.here hx rfl (hb hby at_379) ?_
    show own_S p e below T456 (mkF m 381 #[.val (.int p1), .val (.int p2), .val (.int p3), .val (.ref b2), .val (.ref b223), .unset, .unset, .unset, .unset] [(.int (11 : Int32)), (.ref b390), (.ref b390)]) _
    refine XS.iconst X456.here hx rfl (hb hby at_381) ?_
    exact kt)
  obtain ⟨cl462, Ar462, q462, Sz462, Ng462, Hs462, Gs462⟩ := id V456
  have hin462 : ¬ ((11 : Int32) < 0 ∨ cl462.slots.size ≤ ((11 : Int32)).toNatClampNeg) := inb_of Sz462 ⟨by decide, by decide⟩
  obtain ⟨T462, h462, X462, e462, W462, st462⟩ := stI X456 hx hZ e456 Ar462 (j := (11 : Int32)) hin462 (g := (mkF m 382 #[.val (.int p1), .val (.int p2), .val (.int p3), .val (.ref b2), .val (.ref b223), .unset, .unset, .unset, .unset] [(.int (2 : Int32)), (.int (11 : Int32)), (.ref b390), (.ref b390)])) rfl rfl (hb hby at_382)
  have Z463 : n0 ≤ h462.size := Nat.le_trans Z457 (Keep.of_wr W462).1
  have O464 : Old Z n0 h462 := O458.wr W462 g_b390
  have V462 : Arv Z h462 b390 kk390 .int (27 : Int32) ((.int (0 : Int32)) :: (.int (0 : Int32)) :: (.int (1 : Int32)) :: (.int (1 : Int32)) :: (.int (1 : Int32)) :: (.int (1 : Int32)) :: (.int (1 : Int32)) :: (.int (1 : Int32)) :: (.int (2147483647 : Int32)) :: (.int (2 : Int32)) :: (.int (2 : Int32)) :: (.int (2 : Int32)) :: (.int (0 : Int32)) :: (.int (0 : Int32)) :: (.int (0 : Int32)) :: (.int (0 : Int32)) :: (.int (0 : Int32)) :: (.int (0 : Int32)) :: (.int (0 : Int32)) :: (.int (0 : Int32)) :: (.int (0 : Int32)) :: (.int (0 : Int32)) :: (.int (0 : Int32)) :: (.int (0 : Int32)) :: (.int (0 : Int32)) :: (.int (0 : Int32)) :: (.int (0 : Int32)) :: []) (.int (0 : Int32)) := Arv.set Ar462 q462 Sz462 Ng462 Hs462 Gs462 rfl W462 11 rfl (Nat.le_of_ble_eq_true rfl)
  have Nf465 := Fr.snoc X462 Nf459 g_b390
  have kn466 : ∀ t, own_S p e below T462 (mkF m 383 #[.val (.int p1), .val (.int p2), .val (.int p3), .val (.ref b2), .val (.ref b223), .unset, .unset, .unset, .unset] [(.ref b390)]) t → Gl t := fun t kt => kn461 t (st462 _ kt)
  have kn467 : ∀ t, own_S p e below T462 (mkF m 387 #[.val (.int p1), .val (.int p2), .val (.int p3), .val (.ref b2), .val (.ref b223), .unset, .unset, .unset, .unset] [(.int (2 : Int32)), (.int (12 : Int32)), (.ref b390), (.ref b390)]) t → Gl t := fun t kt => kn466 t (by
    show own_S p e below T462 (mkF m 383 #[.val (.int p1), .val (.int p2), .val (.int p3), .val (.ref b2), .val (.ref b223), .unset, .unset, .unset, .unset] [(.ref b390)]) _
    refine XS.dup X462.here hx rfl (hb hby at_383) rfl rfl ?_
    show own_S p e below T462 (mkF m 384 #[.val (.int p1), .val (.int p2), .val (.int p3), .val (.ref b2), .val (.ref b223), .unset, .unset, .unset, .unset] [(.ref b390), (.ref b390)]) _
    refine XS.bipush X462.here hx rfl (hb hby at_384) ?_
    show own_S p e below T462 (mkF m 386 #[.val (.int p1), .val (.int p2), .val (.int p3), .val (.ref b2), .val (.ref b223), .unset, .unset, .unset, .unset] [(.int (12 : Int32)), (.ref b390), (.ref b390)]) _
    refine XS.iconst X462.here hx rfl (hb hby at_386) ?_
    exact kt)
  obtain ⟨cl468, Ar468, q468, Sz468, Ng468, Hs468, Gs468⟩ := id V462
  have hin468 : ¬ ((12 : Int32) < 0 ∨ cl468.slots.size ≤ ((12 : Int32)).toNatClampNeg) := inb_of Sz468 ⟨by decide, by decide⟩
  obtain ⟨T468, h468, X468, e468, W468, st468⟩ := stI X462 hx hZ e462 Ar468 (j := (12 : Int32)) hin468 (g := (mkF m 387 #[.val (.int p1), .val (.int p2), .val (.int p3), .val (.ref b2), .val (.ref b223), .unset, .unset, .unset, .unset] [(.int (2 : Int32)), (.int (12 : Int32)), (.ref b390), (.ref b390)])) rfl rfl (hb hby at_387)
  have Z469 : n0 ≤ h468.size := Nat.le_trans Z463 (Keep.of_wr W468).1
  have O470 : Old Z n0 h468 := O464.wr W468 g_b390
  have V468 : Arv Z h468 b390 kk390 .int (27 : Int32) ((.int (0 : Int32)) :: (.int (0 : Int32)) :: (.int (1 : Int32)) :: (.int (1 : Int32)) :: (.int (1 : Int32)) :: (.int (1 : Int32)) :: (.int (1 : Int32)) :: (.int (1 : Int32)) :: (.int (2147483647 : Int32)) :: (.int (2 : Int32)) :: (.int (2 : Int32)) :: (.int (2 : Int32)) :: (.int (2 : Int32)) :: (.int (0 : Int32)) :: (.int (0 : Int32)) :: (.int (0 : Int32)) :: (.int (0 : Int32)) :: (.int (0 : Int32)) :: (.int (0 : Int32)) :: (.int (0 : Int32)) :: (.int (0 : Int32)) :: (.int (0 : Int32)) :: (.int (0 : Int32)) :: (.int (0 : Int32)) :: (.int (0 : Int32)) :: (.int (0 : Int32)) :: (.int (0 : Int32)) :: []) (.int (0 : Int32)) := Arv.set Ar468 q468 Sz468 Ng468 Hs468 Gs468 rfl W468 12 rfl (Nat.le_of_ble_eq_true rfl)
  have Nf471 := Fr.snoc X468 Nf465 g_b390
  have kn472 : ∀ t, own_S p e below T468 (mkF m 388 #[.val (.int p1), .val (.int p2), .val (.int p3), .val (.ref b2), .val (.ref b223), .unset, .unset, .unset, .unset] [(.ref b390)]) t → Gl t := fun t kt => kn467 t (st468 _ kt)
  have kn473 : ∀ t, own_S p e below T468 (mkF m 392 #[.val (.int p1), .val (.int p2), .val (.int p3), .val (.ref b2), .val (.ref b223), .unset, .unset, .unset, .unset] [(.int (3 : Int32)), (.int (13 : Int32)), (.ref b390), (.ref b390)]) t → Gl t := fun t kt => kn472 t (by
    show own_S p e below T468 (mkF m 388 #[.val (.int p1), .val (.int p2), .val (.int p3), .val (.ref b2), .val (.ref b223), .unset, .unset, .unset, .unset] [(.ref b390)]) _
    refine XS.dup X468.here hx rfl (hb hby at_388) rfl rfl ?_
    show own_S p e below T468 (mkF m 389 #[.val (.int p1), .val (.int p2), .val (.int p3), .val (.ref b2), .val (.ref b223), .unset, .unset, .unset, .unset] [(.ref b390), (.ref b390)]) _
    refine XS.bipush X468.here hx rfl (hb hby at_389) ?_
    show own_S p e below T468 (mkF m 391 #[.val (.int p1), .val (.int p2), .val (.int p3), .val (.ref b2), .val (.ref b223), .unset, .unset, .unset, .unset] [(.int (13 : Int32)), (.ref b390), (.ref b390)]) _
    refine XS.iconst X468.here hx rfl (hb hby at_391) ?_
    exact kt)
  obtain ⟨cl474, Ar474, q474, Sz474, Ng474, Hs474, Gs474⟩ := id V468
  have hin474 : ¬ ((13 : Int32) < 0 ∨ cl474.slots.size ≤ ((13 : Int32)).toNatClampNeg) := inb_of Sz474 ⟨by decide, by decide⟩
  obtain ⟨T474, h474, X474, e474, W474, st474⟩ := stI X468 hx hZ e468 Ar474 (j := (13 : Int32)) hin474 (g := (mkF m 392 #[.val (.int p1), .val (.int p2), .val (.int p3), .val (.ref b2), .val (.ref b223), .unset, .unset, .unset, .unset] [(.int (3 : Int32)), (.int (13 : Int32)), (.ref b390), (.ref b390)])) rfl rfl (hb hby at_392)
  have Z475 : n0 ≤ h474.size := Nat.le_trans Z469 (Keep.of_wr W474).1
  have O476 : Old Z n0 h474 := O470.wr W474 g_b390
  have V474 : Arv Z h474 b390 kk390 .int (27 : Int32) ((.int (0 : Int32)) :: (.int (0 : Int32)) :: (.int (1 : Int32)) :: (.int (1 : Int32)) :: (.int (1 : Int32)) :: (.int (1 : Int32)) :: (.int (1 : Int32)) :: (.int (1 : Int32)) :: (.int (2147483647 : Int32)) :: (.int (2 : Int32)) :: (.int (2 : Int32)) :: (.int (2 : Int32)) :: (.int (2 : Int32)) :: (.int (3 : Int32)) :: (.int (0 : Int32)) :: (.int (0 : Int32)) :: (.int (0 : Int32)) :: (.int (0 : Int32)) :: (.int (0 : Int32)) :: (.int (0 : Int32)) :: (.int (0 : Int32)) :: (.int (0 : Int32)) :: (.int (0 : Int32)) :: (.int (0 : Int32)) :: (.int (0 : Int32)) :: (.int (0 : Int32)) :: (.int (0 : Int32)) :: []) (.int (0 : Int32)) := Arv.set Ar474 q474 Sz474 Ng474 Hs474 Gs474 rfl W474 13 rfl (Nat.le_of_ble_eq_true rfl)
  have Nf477 := Fr.snoc X474 Nf471 g_b390
  have kn478 : ∀ t, own_S p e below T474 (mkF m 393 #[.val (.int p1), .val (.int p2), .val (.int p3), .val (.ref b2), .val (.ref b223), .unset, .unset, .unset, .unset] [(.ref b390)]) t → Gl t := fun t kt => kn473 t (st474 _ kt)
  have kn479 : ∀ t, own_S p e below T474 (mkF m 397 #[.val (.int p1), .val (.int p2), .val (.int p3), .val (.ref b2), .val (.ref b223), .unset, .unset, .unset, .unset] [(.int (1 : Int32)), (.int (14 : Int32)), (.ref b390), (.ref b390)]) t → Gl t := fun t kt => kn478 t (by
    show own_S p e below T474 (mkF m 393 #[.val (.int p1), .val (.int p2), .val (.int p3), .val (.ref b2), .val (.ref b223), .unset, .unset, .unset, .unset] [(.ref b390)]) _
    refine XS.dup X474.here hx rfl (hb hby at_393) rfl rfl ?_
    show own_S p e below T474 (mkF m 394 #[.val (.int p1), .val (.int p2), .val (.int p3), .val (.ref b2), .val (.ref b223), .unset, .unset, .unset, .unset] [(.ref b390), (.ref b390)]) _
    refine XS.bipush X474.here hx rfl (hb hby at_394) ?_
    show own_S p e below T474 (mkF m 396 #[.val (.int p1), .val (.int p2), .val (.int p3), .val (.ref b2), .val (.ref b223), .unset, .unset, .unset, .unset] [(.int (14 : Int32)), (.ref b390), (.ref b390)]) _
    refine XS.iconst X474.here hx rfl (hb hby at_396) ?_
    exact kt)
  obtain ⟨cl480, Ar480, q480, Sz480, Ng480, Hs480, Gs480⟩ := id V474
  have hin480 : ¬ ((14 : Int32) < 0 ∨ cl480.slots.size ≤ ((14 : Int32)).toNatClampNeg) := inb_of Sz480 ⟨by decide, by decide⟩
  obtain ⟨T480, h480, X480, e480, W480, st480⟩ := stI X474 hx hZ e474 Ar480 (j := (14 : Int32)) hin480 (g := (mkF m 397 #[.val (.int p1), .val (.int p2), .val (.int p3), .val (.ref b2), .val (.ref b223), .unset, .unset, .unset, .unset] [(.int (1 : Int32)), (.int (14 : Int32)), (.ref b390), (.ref b390)])) rfl rfl (hb hby at_397)
  have Z481 : n0 ≤ h480.size := Nat.le_trans Z475 (Keep.of_wr W480).1
  have O482 : Old Z n0 h480 := O476.wr W480 g_b390
  have V480 : Arv Z h480 b390 kk390 .int (27 : Int32) ((.int (0 : Int32)) :: (.int (0 : Int32)) :: (.int (1 : Int32)) :: (.int (1 : Int32)) :: (.int (1 : Int32)) :: (.int (1 : Int32)) :: (.int (1 : Int32)) :: (.int (1 : Int32)) :: (.int (2147483647 : Int32)) :: (.int (2 : Int32)) :: (.int (2 : Int32)) :: (.int (2 : Int32)) :: (.int (2 : Int32)) :: (.int (3 : Int32)) :: (.int (1 : Int32)) :: (.int (0 : Int32)) :: (.int (0 : Int32)) :: (.int (0 : Int32)) :: (.int (0 : Int32)) :: (.int (0 : Int32)) :: (.int (0 : Int32)) :: (.int (0 : Int32)) :: (.int (0 : Int32)) :: (.int (0 : Int32)) :: (.int (0 : Int32)) :: (.int (0 : Int32)) :: (.int (0 : Int32)) :: []) (.int (0 : Int32)) := Arv.set Ar480 q480 Sz480 Ng480 Hs480 Gs480 rfl W480 14 rfl (Nat.le_of_ble_eq_true rfl)
  have Nf483 := Fr.snoc X480 Nf477 g_b390
  have kn484 : ∀ t, own_S p e below T480 (mkF m 398 #[.val (.int p1), .val (.int p2), .val (.int p3), .val (.ref b2), .val (.ref b223), .unset, .unset, .unset, .unset] [(.ref b390)]) t → Gl t := fun t kt => kn479 t (st480 _ kt)
  have kn485 : ∀ t, own_S p e below T480 (mkF m 402 #[.val (.int p1), .val (.int p2), .val (.int p3), .val (.ref b2), .val (.ref b223), .unset, .unset, .unset, .unset] [(.int (1 : Int32)), (.int (15 : Int32)), (.ref b390), (.ref b390)]) t → Gl t := fun t kt => kn484 t (by
    show own_S p e below T480 (mkF m 398 #[.val (.int p1), .val (.int p2), .val (.int p3), .val (.ref b2), .val (.ref b223), .unset, .unset, .unset, .unset] [(.ref b390)]) _
    refine XS.dup X480.here hx rfl (hb hby at_398) rfl rfl ?_
    show own_S p e below T480 (mkF m 399 #[.val (.int p1), .val (.int p2), .val (.int p3), .val (.ref b2), .val (.ref b223), .unset, .unset, .unset, .unset] [(.ref b390), (.ref b390)]) _
    refine XS.bipush X480.here hx rfl (hb hby at_399) ?_
    show own_S p e below T480 (mkF m 401 #[.val (.int p1), .val (.int p2), .val (.int p3), .val (.ref b2), .val (.ref b223), .unset, .unset, .unset, .unset] [(.int (15 : Int32)), (.ref b390), (.ref b390)]) _
    refine XS.iconst X480.here hx rfl (hb hby at_401) ?_
    exact kt)
  obtain ⟨cl486, Ar486, q486, Sz486, Ng486, Hs486, Gs486⟩ := id V480
  have hin486 : ¬ ((15 : Int32) < 0 ∨ cl486.slots.size ≤ ((15 : Int32)).toNatClampNeg) := inb_of Sz486 ⟨by decide, by decide⟩
  obtain ⟨T486, h486, X486, e486, W486, st486⟩ := stI X480 hx hZ e480 Ar486 (j := (15 : Int32)) hin486 (g := (mkF m 402 #[.val (.int p1), .val (.int p2), .val (.int p3), .val (.ref b2), .val (.ref b223), .unset, .unset, .unset, .unset] [(.int (1 : Int32)), (.int (15 : Int32)), (.ref b390), (.ref b390)])) rfl rfl (hb hby at_402)
  have Z487 : n0 ≤ h486.size := Nat.le_trans Z481 (Keep.of_wr W486).1
  have O488 : Old Z n0 h486 := O482.wr W486 g_b390
  have V486 : Arv Z h486 b390 kk390 .int (27 : Int32) ((.int (0 : Int32)) :: (.int (0 : Int32)) :: (.int (1 : Int32)) :: (.int (1 : Int32)) :: (.int (1 : Int32)) :: (.int (1 : Int32)) :: (.int (1 : Int32)) :: (.int (1 : Int32)) :: (.int (2147483647 : Int32)) :: (.int (2 : Int32)) :: (.int (2 : Int32)) :: (.int (2 : Int32)) :: (.int (2 : Int32)) :: (.int (3 : Int32)) :: (.int (1 : Int32)) :: (.int (1 : Int32)) :: (.int (0 : Int32)) :: (.int (0 : Int32)) :: (.int (0 : Int32)) :: (.int (0 : Int32)) :: (.int (0 : Int32)) :: (.int (0 : Int32)) :: (.int (0 : Int32)) :: (.int (0 : Int32)) :: (.int (0 : Int32)) :: (.int (0 : Int32)) :: (.int (0 : Int32)) :: []) (.int (0 : Int32)) := Arv.set Ar486 q486 Sz486 Ng486 Hs486 Gs486 rfl W486 15 rfl (Nat.le_of_ble_eq_true rfl)
  have Nf489 := Fr.snoc X486 Nf483 g_b390
  have kn490 : ∀ t, own_S p e below T486 (mkF m 403 #[.val (.int p1), .val (.int p2), .val (.int p3), .val (.ref b2), .val (.ref b223), .unset, .unset, .unset, .unset] [(.ref b390)]) t → Gl t := fun t kt => kn485 t (st486 _ kt)
  have kn491 : ∀ t, own_S p e below T486 (mkF m 407 #[.val (.int p1), .val (.int p2), .val (.int p3), .val (.ref b2), .val (.ref b223), .unset, .unset, .unset, .unset] [(.int (3 : Int32)), (.int (16 : Int32)), (.ref b390), (.ref b390)]) t → Gl t := fun t kt => kn490 t (by
    show own_S p e below T486 (mkF m 403 #[.val (.int p1), .val (.int p2), .val (.int p3), .val (.ref b2), .val (.ref b223), .unset, .unset, .unset, .unset] [(.ref b390)]) _
    refine XS.dup X486.here hx rfl (hb hby at_403) rfl rfl ?_
    show own_S p e below T486 (mkF m 404 #[.val (.int p1), .val (.int p2), .val (.int p3), .val (.ref b2), .val (.ref b223), .unset, .unset, .unset, .unset] [(.ref b390), (.ref b390)]) _
    refine XS.bipush X486.here hx rfl (hb hby at_404) ?_
    show own_S p e below T486 (mkF m 406 #[.val (.int p1), .val (.int p2), .val (.int p3), .val (.ref b2), .val (.ref b223), .unset, .unset, .unset, .unset] [(.int (16 : Int32)), (.ref b390), (.ref b390)]) _
    refine XS.iconst X486.here hx rfl (hb hby at_406) ?_
    exact kt)
  obtain ⟨cl492, Ar492, q492, Sz492, Ng492, Hs492, Gs492⟩ := id V486
  have hin492 : ¬ ((16 : Int32) < 0 ∨ cl492.slots.size ≤ ((16 : Int32)).toNatClampNeg) := inb_of Sz492 ⟨by decide, by decide⟩
  obtain ⟨T492, h492, X492, e492, W492, st492⟩ := stI X486 hx hZ e486 Ar492 (j := (16 : Int32)) hin492 (g := (mkF m 407 #[.val (.int p1), .val (.int p2), .val (.int p3), .val (.ref b2), .val (.ref b223), .unset, .unset, .unset, .unset] [(.int (3 : Int32)), (.int (16 : Int32)), (.ref b390), (.ref b390)])) rfl rfl (hb hby at_407)
  have Z493 : n0 ≤ h492.size := Nat.le_trans Z487 (Keep.of_wr W492).1
  have O494 : Old Z n0 h492 := O488.wr W492 g_b390
  have V492 : Arv Z h492 b390 kk390 .int (27 : Int32) ((.int (0 : Int32)) :: (.int (0 : Int32)) :: (.int (1 : Int32)) :: (.int (1 : Int32)) :: (.int (1 : Int32)) :: (.int (1 : Int32)) :: (.int (1 : Int32)) :: (.int (1 : Int32)) :: (.int (2147483647 : Int32)) :: (.int (2 : Int32)) :: (.int (2 : Int32)) :: (.int (2 : Int32)) :: (.int (2 : Int32)) :: (.int (3 : Int32)) :: (.int (1 : Int32)) :: (.int (1 : Int32)) :: (.int (3 : Int32)) :: (.int (0 : Int32)) :: (.int (0 : Int32)) :: (.int (0 : Int32)) :: (.int (0 : Int32)) :: (.int (0 : Int32)) :: (.int (0 : Int32)) :: (.int (0 : Int32)) :: (.int (0 : Int32)) :: (.int (0 : Int32)) :: (.int (0 : Int32)) :: []) (.int (0 : Int32)) := Arv.set Ar492 q492 Sz492 Ng492 Hs492 Gs492 rfl W492 16 rfl (Nat.le_of_ble_eq_true rfl)
  have Nf495 := Fr.snoc X492 Nf489 g_b390
  have kn496 : ∀ t, own_S p e below T492 (mkF m 408 #[.val (.int p1), .val (.int p2), .val (.int p3), .val (.ref b2), .val (.ref b223), .unset, .unset, .unset, .unset] [(.ref b390)]) t → Gl t := fun t kt => kn491 t (st492 _ kt)
  have kn497 : ∀ t, own_S p e below T492 (mkF m 412 #[.val (.int p1), .val (.int p2), .val (.int p3), .val (.ref b2), .val (.ref b223), .unset, .unset, .unset, .unset] [(.int (1 : Int32)), (.int (17 : Int32)), (.ref b390), (.ref b390)]) t → Gl t := fun t kt => kn496 t (by
    show own_S p e below T492 (mkF m 408 #[.val (.int p1), .val (.int p2), .val (.int p3), .val (.ref b2), .val (.ref b223), .unset, .unset, .unset, .unset] [(.ref b390)]) _
    refine XS.dup X492.here hx rfl (hb hby at_408) rfl rfl ?_
    show own_S p e below T492 (mkF m 409 #[.val (.int p1), .val (.int p2), .val (.int p3), .val (.ref b2), .val (.ref b223), .unset, .unset, .unset, .unset] [(.ref b390), (.ref b390)]) _
    refine XS.bipush X492.here hx rfl (hb hby at_409) ?_
    show own_S p e below T492 (mkF m 411 #[.val (.int p1), .val (.int p2), .val (.int p3), .val (.ref b2), .val (.ref b223), .unset, .unset, .unset, .unset] [(.int (17 : Int32)), (.ref b390), (.ref b390)]) _
    refine XS.iconst X492.here hx rfl (hb hby at_411) ?_
    exact kt)
  obtain ⟨cl498, Ar498, q498, Sz498, Ng498, Hs498, Gs498⟩ := id V492
  have hin498 : ¬ ((17 : Int32) < 0 ∨ cl498.slots.size ≤ ((17 : Int32)).toNatClampNeg) := inb_of Sz498 ⟨by decide, by decide⟩
  obtain ⟨T498, h498, X498, e498, W498, st498⟩ := stI X492 hx hZ e492 Ar498 (j := (17 : Int32)) hin498 (g := (mkF m 412 #[.val (.int p1), .val (.int p2), .val (.int p3), .val (.ref b2), .val (.ref b223), .unset, .unset, .unset, .unset] [(.int (1 : Int32)), (.int (17 : Int32)), (.ref b390), (.ref b390)])) rfl rfl (hb hby at_412)
  have Z499 : n0 ≤ h498.size := Nat.le_trans Z493 (Keep.of_wr W498).1
  have O500 : Old Z n0 h498 := O494.wr W498 g_b390
  have V498 : Arv Z h498 b390 kk390 .int (27 : Int32) ((.int (0 : Int32)) :: (.int (0 : Int32)) :: (.int (1 : Int32)) :: (.int (1 : Int32)) :: (.int (1 : Int32)) :: (.int (1 : Int32)) :: (.int (1 : Int32)) :: (.int (1 : Int32)) :: (.int (2147483647 : Int32)) :: (.int (2 : Int32)) :: (.int (2 : Int32)) :: (.int (2 : Int32)) :: (.int (2 : Int32)) :: (.int (3 : Int32)) :: (.int (1 : Int32)) :: (.int (1 : Int32)) :: (.int (3 : Int32)) :: (.int (1 : Int32)) :: (.int (0 : Int32)) :: (.int (0 : Int32)) :: (.int (0 : Int32)) :: (.int (0 : Int32)) :: (.int (0 : Int32)) :: (.int (0 : Int32)) :: (.int (0 : Int32)) :: (.int (0 : Int32)) :: (.int (0 : Int32)) :: []) (.int (0 : Int32)) := Arv.set Ar498 q498 Sz498 Ng498 Hs498 Gs498 rfl W498 17 rfl (Nat.le_of_ble_eq_true rfl)
  have Nf501 := Fr.snoc X498 Nf495 g_b390
  have kn502 : ∀ t, own_S p e below T498 (mkF m 413 #[.val (.int p1), .val (.int p2), .val (.int p3), .val (.ref b2), .val (.ref b223), .unset, .unset, .unset, .unset] [(.ref b390)]) t → Gl t := fun t kt => kn497 t (st498 _ kt)
  have kn503 : ∀ t, own_S p e below T498 (mkF m 417 #[.val (.int p1), .val (.int p2), .val (.int p3), .val (.ref b2), .val (.ref b223), .unset, .unset, .unset, .unset] [(.int (1 : Int32)), (.int (18 : Int32)), (.ref b390), (.ref b390)]) t → Gl t := fun t kt => kn502 t (by
    show own_S p e below T498 (mkF m 413 #[.val (.int p1), .val (.int p2), .val (.int p3), .val (.ref b2), .val (.ref b223), .unset, .unset, .unset, .unset] [(.ref b390)]) _
    refine XS.dup X498.here hx rfl (hb hby at_413) rfl rfl ?_
    show own_S p e below T498 (mkF m 414 #[.val (.int p1), .val (.int p2), .val (.int p3), .val (.ref b2), .val (.ref b223), .unset, .unset, .unset, .unset] [(.ref b390), (.ref b390)]) _
    refine XS.bipush X498.here hx rfl (hb hby at_414) ?_
    show own_S p e below T498 (mkF m 416 #[.val (.int p1), .val (.int p2), .val (.int p3), .val (.ref b2), .val (.ref b223), .unset, .unset, .unset, .unset] [(.int (18 : Int32)), (.ref b390), (.ref b390)]) _
    refine XS.iconst X498.here hx rfl (hb hby at_416) ?_
    exact kt)
  obtain ⟨cl504, Ar504, q504, Sz504, Ng504, Hs504, Gs504⟩ := id V498
  have hin504 : ¬ ((18 : Int32) < 0 ∨ cl504.slots.size ≤ ((18 : Int32)).toNatClampNeg) := inb_of Sz504 ⟨by decide, by decide⟩
  obtain ⟨T504, h504, X504, e504, W504, st504⟩ := stI X498 hx hZ e498 Ar504 (j := (18 : Int32)) hin504 (g := (mkF m 417 #[.val (.int p1), .val (.int p2), .val (.int p3), .val (.ref b2), .val (.ref b223), .unset, .unset, .unset, .unset] [(.int (1 : Int32)), (.int (18 : Int32)), (.ref b390), (.ref b390)])) rfl rfl (hb hby at_417)
  have Z505 : n0 ≤ h504.size := Nat.le_trans Z499 (Keep.of_wr W504).1
  have O506 : Old Z n0 h504 := O500.wr W504 g_b390
  have V504 : Arv Z h504 b390 kk390 .int (27 : Int32) ((.int (0 : Int32)) :: (.int (0 : Int32)) :: (.int (1 : Int32)) :: (.int (1 : Int32)) :: (.int (1 : Int32)) :: (.int (1 : Int32)) :: (.int (1 : Int32)) :: (.int (1 : Int32)) :: (.int (2147483647 : Int32)) :: (.int (2 : Int32)) :: (.int (2 : Int32)) :: (.int (2 : Int32)) :: (.int (2 : Int32)) :: (.int (3 : Int32)) :: (.int (1 : Int32)) :: (.int (1 : Int32)) :: (.int (3 : Int32)) :: (.int (1 : Int32)) :: (.int (1 : Int32)) :: (.int (0 : Int32)) :: (.int (0 : Int32)) :: (.int (0 : Int32)) :: (.int (0 : Int32)) :: (.int (0 : Int32)) :: (.int (0 : Int32)) :: (.int (0 : Int32)) :: (.int (0 : Int32)) :: []) (.int (0 : Int32)) := Arv.set Ar504 q504 Sz504 Ng504 Hs504 Gs504 rfl W504 18 rfl (Nat.le_of_ble_eq_true rfl)
  have Nf507 := Fr.snoc X504 Nf501 g_b390
  have kn508 : ∀ t, own_S p e below T504 (mkF m 418 #[.val (.int p1), .val (.int p2), .val (.int p3), .val (.ref b2), .val (.ref b223), .unset, .unset, .unset, .unset] [(.ref b390)]) t → Gl t := fun t kt => kn503 t (st504 _ kt)
  have kn509 : ∀ t, own_S p e below T504 (mkF m 422 #[.val (.int p1), .val (.int p2), .val (.int p3), .val (.ref b2), .val (.ref b223), .unset, .unset, .unset, .unset] [(.int (0 : Int32)), (.int (19 : Int32)), (.ref b390), (.ref b390)]) t → Gl t := fun t kt => kn508 t (by
    show own_S p e below T504 (mkF m 418 #[.val (.int p1), .val (.int p2), .val (.int p3), .val (.ref b2), .val (.ref b223), .unset, .unset, .unset, .unset] [(.ref b390)]) _
    refine XS.dup X504.here hx rfl (hb hby at_418) rfl rfl ?_
    show own_S p e below T504 (mkF m 419 #[.val (.int p1), .val (.int p2), .val (.int p3), .val (.ref b2), .val (.ref b223), .unset, .unset, .unset, .unset] [(.ref b390), (.ref b390)]) _
    refine XS.bipush X504.here hx rfl (hb hby at_419) ?_
    show own_S p e below T504 (mkF m 421 #[.val (.int p1), .val (.int p2), .val (.int p3), .val (.ref b2), .val (.ref b223), .unset, .unset, .unset, .unset] [(.int (19 : Int32)), (.ref b390), (.ref b390)]) _
    refine XS.iconst X504.here hx rfl (hb hby at_421) ?_
    exact kt)
  obtain ⟨cl510, Ar510, q510, Sz510, Ng510, Hs510, Gs510⟩ := id V504
  have hin510 : ¬ ((19 : Int32) < 0 ∨ cl510.slots.size ≤ ((19 : Int32)).toNatClampNeg) := inb_of Sz510 ⟨by decide, by decide⟩
  obtain ⟨T510, h510, X510, e510, W510, st510⟩ := stI X504 hx hZ e504 Ar510 (j := (19 : Int32)) hin510 (g := (mkF m 422 #[.val (.int p1), .val (.int p2), .val (.int p3), .val (.ref b2), .val (.ref b223), .unset, .unset, .unset, .unset] [(.int (0 : Int32)), (.int (19 : Int32)), (.ref b390), (.ref b390)])) rfl rfl (hb hby at_422)
  have Z511 : n0 ≤ h510.size := Nat.le_trans Z505 (Keep.of_wr W510).1
  have O512 : Old Z n0 h510 := O506.wr W510 g_b390
  have V510 : Arv Z h510 b390 kk390 .int (27 : Int32) ((.int (0 : Int32)) :: (.int (0 : Int32)) :: (.int (1 : Int32)) :: (.int (1 : Int32)) :: (.int (1 : Int32)) :: (.int (1 : Int32)) :: (.int (1 : Int32)) :: (.int (1 : Int32)) :: (.int (2147483647 : Int32)) :: (.int (2 : Int32)) :: (.int (2 : Int32)) :: (.int (2 : Int32)) :: (.int (2 : Int32)) :: (.int (3 : Int32)) :: (.int (1 : Int32)) :: (.int (1 : Int32)) :: (.int (3 : Int32)) :: (.int (1 : Int32)) :: (.int (1 : Int32)) :: (.int (0 : Int32)) :: (.int (0 : Int32)) :: (.int (0 : Int32)) :: (.int (0 : Int32)) :: (.int (0 : Int32)) :: (.int (0 : Int32)) :: (.int (0 : Int32)) :: (.int (0 : Int32)) :: []) (.int (0 : Int32)) := Arv.set Ar510 q510 Sz510 Ng510 Hs510 Gs510 rfl W510 19 rfl (Nat.le_of_ble_eq_true rfl)
  have Nf513 := Fr.snoc X510 Nf507 g_b390
  have kn514 : ∀ t, own_S p e below T510 (mkF m 423 #[.val (.int p1), .val (.int p2), .val (.int p3), .val (.ref b2), .val (.ref b223), .unset, .unset, .unset, .unset] [(.ref b390)]) t → Gl t := fun t kt => kn509 t (st510 _ kt)
  have kn515 : ∀ t, own_S p e below T510 (mkF m 427 #[.val (.int p1), .val (.int p2), .val (.int p3), .val (.ref b2), .val (.ref b223), .unset, .unset, .unset, .unset] [(.int (0 : Int32)), (.int (20 : Int32)), (.ref b390), (.ref b390)]) t → Gl t := fun t kt => kn514 t (by
    show own_S p e below T510 (mkF m 423 #[.val (.int p1), .val (.int p2), .val (.int p3), .val (.ref b2), .val (.ref b223), .unset, .unset, .unset, .unset] [(.ref b390)]) _
    refine XS.dup X510.here hx rfl (hb hby at_423) rfl rfl ?_
    show own_S p e below T510 (mkF m 424 #[.val (.int p1), .val (.int p2), .val (.int p3), .val (.ref b2), .val (.ref b223), .unset, .unset, .unset, .unset] [(.ref b390), (.ref b390)]) _
    refine XS.bipush X510.here hx rfl (hb hby at_424) ?_
    show own_S p e below T510 (mkF m 426 #[.val (.int p1), .val (.int p2), .val (.int p3), .val (.ref b2), .val (.ref b223), .unset, .unset, .unset, .unset] [(.int (20 : Int32)), (.ref b390), (.ref b390)]) _
    refine XS.iconst X510.here hx rfl (hb hby at_426) ?_
    exact kt)
  obtain ⟨cl516, Ar516, q516, Sz516, Ng516, Hs516, Gs516⟩ := id V510
  have hin516 : ¬ ((20 : Int32) < 0 ∨ cl516.slots.size ≤ ((20 : Int32)).toNatClampNeg) := inb_of Sz516 ⟨by decide, by decide⟩
  obtain ⟨T516, h516, X516, e516, W516, st516⟩ := stI X510 hx hZ e510 Ar516 (j := (20 : Int32)) hin516 (g := (mkF m 427 #[.val (.int p1), .val (.int p2), .val (.int p3), .val (.ref b2), .val (.ref b223), .unset, .unset, .unset, .unset] [(.int (0 : Int32)), (.int (20 : Int32)), (.ref b390), (.ref b390)])) rfl rfl (hb hby at_427)
  have Z517 : n0 ≤ h516.size := Nat.le_trans Z511 (Keep.of_wr W516).1
  have O518 : Old Z n0 h516 := O512.wr W516 g_b390
  have V516 : Arv Z h516 b390 kk390 .int (27 : Int32) ((.int (0 : Int32)) :: (.int (0 : Int32)) :: (.int (1 : Int32)) :: (.int (1 : Int32)) :: (.int (1 : Int32)) :: (.int (1 : Int32)) :: (.int (1 : Int32)) :: (.int (1 : Int32)) :: (.int (2147483647 : Int32)) :: (.int (2 : Int32)) :: (.int (2 : Int32)) :: (.int (2 : Int32)) :: (.int (2 : Int32)) :: (.int (3 : Int32)) :: (.int (1 : Int32)) :: (.int (1 : Int32)) :: (.int (3 : Int32)) :: (.int (1 : Int32)) :: (.int (1 : Int32)) :: (.int (0 : Int32)) :: (.int (0 : Int32)) :: (.int (0 : Int32)) :: (.int (0 : Int32)) :: (.int (0 : Int32)) :: (.int (0 : Int32)) :: (.int (0 : Int32)) :: (.int (0 : Int32)) :: []) (.int (0 : Int32)) := Arv.set Ar516 q516 Sz516 Ng516 Hs516 Gs516 rfl W516 20 rfl (Nat.le_of_ble_eq_true rfl)
  have Nf519 := Fr.snoc X516 Nf513 g_b390
  have kn520 : ∀ t, own_S p e below T516 (mkF m 428 #[.val (.int p1), .val (.int p2), .val (.int p3), .val (.ref b2), .val (.ref b223), .unset, .unset, .unset, .unset] [(.ref b390)]) t → Gl t := fun t kt => kn515 t (st516 _ kt)
  have kn521 : ∀ t, own_S p e below T516 (mkF m 432 #[.val (.int p1), .val (.int p2), .val (.int p3), .val (.ref b2), .val (.ref b223), .unset, .unset, .unset, .unset] [(.int (1 : Int32)), (.int (21 : Int32)), (.ref b390), (.ref b390)]) t → Gl t := fun t kt => kn520 t (by
    show own_S p e below T516 (mkF m 428 #[.val (.int p1), .val (.int p2), .val (.int p3), .val (.ref b2), .val (.ref b223), .unset, .unset, .unset, .unset] [(.ref b390)]) _
    refine XS.dup X516.here hx rfl (hb hby at_428) rfl rfl ?_
    show own_S p e below T516 (mkF m 429 #[.val (.int p1), .val (.int p2), .val (.int p3), .val (.ref b2), .val (.ref b223), .unset, .unset, .unset, .unset] [(.ref b390), (.ref b390)]) _
    refine XS.bipush X516.here hx rfl (hb hby at_429) ?_
    show own_S p e below T516 (mkF m 431 #[.val (.int p1), .val (.int p2), .val (.int p3), .val (.ref b2), .val (.ref b223), .unset, .unset, .unset, .unset] [(.int (21 : Int32)), (.ref b390), (.ref b390)]) _
    refine XS.iconst X516.here hx rfl (hb hby at_431) ?_
    exact kt)
  obtain ⟨cl522, Ar522, q522, Sz522, Ng522, Hs522, Gs522⟩ := id V516
  have hin522 : ¬ ((21 : Int32) < 0 ∨ cl522.slots.size ≤ ((21 : Int32)).toNatClampNeg) := inb_of Sz522 ⟨by decide, by decide⟩
  obtain ⟨T522, h522, X522, e522, W522, st522⟩ := stI X516 hx hZ e516 Ar522 (j := (21 : Int32)) hin522 (g := (mkF m 432 #[.val (.int p1), .val (.int p2), .val (.int p3), .val (.ref b2), .val (.ref b223), .unset, .unset, .unset, .unset] [(.int (1 : Int32)), (.int (21 : Int32)), (.ref b390), (.ref b390)])) rfl rfl (hb hby at_432)
  have Z523 : n0 ≤ h522.size := Nat.le_trans Z517 (Keep.of_wr W522).1
  have O524 : Old Z n0 h522 := O518.wr W522 g_b390
  have V522 : Arv Z h522 b390 kk390 .int (27 : Int32) ((.int (0 : Int32)) :: (.int (0 : Int32)) :: (.int (1 : Int32)) :: (.int (1 : Int32)) :: (.int (1 : Int32)) :: (.int (1 : Int32)) :: (.int (1 : Int32)) :: (.int (1 : Int32)) :: (.int (2147483647 : Int32)) :: (.int (2 : Int32)) :: (.int (2 : Int32)) :: (.int (2 : Int32)) :: (.int (2 : Int32)) :: (.int (3 : Int32)) :: (.int (1 : Int32)) :: (.int (1 : Int32)) :: (.int (3 : Int32)) :: (.int (1 : Int32)) :: (.int (1 : Int32)) :: (.int (0 : Int32)) :: (.int (0 : Int32)) :: (.int (1 : Int32)) :: (.int (0 : Int32)) :: (.int (0 : Int32)) :: (.int (0 : Int32)) :: (.int (0 : Int32)) :: (.int (0 : Int32)) :: []) (.int (0 : Int32)) := Arv.set Ar522 q522 Sz522 Ng522 Hs522 Gs522 rfl W522 21 rfl (Nat.le_of_ble_eq_true rfl)
  have Nf525 := Fr.snoc X522 Nf519 g_b390
  have kn526 : ∀ t, own_S p e below T522 (mkF m 433 #[.val (.int p1), .val (.int p2), .val (.int p3), .val (.ref b2), .val (.ref b223), .unset, .unset, .unset, .unset] [(.ref b390)]) t → Gl t := fun t kt => kn521 t (st522 _ kt)
  have kn527 : ∀ t, own_S p e below T522 (mkF m 437 #[.val (.int p1), .val (.int p2), .val (.int p3), .val (.ref b2), .val (.ref b223), .unset, .unset, .unset, .unset] [(.int (1 : Int32)), (.int (22 : Int32)), (.ref b390), (.ref b390)]) t → Gl t := fun t kt => kn526 t (by
    show own_S p e below T522 (mkF m 433 #[.val (.int p1), .val (.int p2), .val (.int p3), .val (.ref b2), .val (.ref b223), .unset, .unset, .unset, .unset] [(.ref b390)]) _
    refine XS.dup X522.here hx rfl (hb hby at_433) rfl rfl ?_
    show own_S p e below T522 (mkF m 434 #[.val (.int p1), .val (.int p2), .val (.int p3), .val (.ref b2), .val (.ref b223), .unset, .unset, .unset, .unset] [(.ref b390), (.ref b390)]) _
    refine XS.bipush X522.here hx rfl (hb hby at_434) ?_
    show own_S p e below T522 (mkF m 436 #[.val (.int p1), .val (.int p2), .val (.int p3), .val (.ref b2), .val (.ref b223), .unset, .unset, .unset, .unset] [(.int (22 : Int32)), (.ref b390), (.ref b390)]) _
    refine XS.iconst X522.here hx rfl (hb hby at_436) ?_
    exact kt)
  obtain ⟨cl528, Ar528, q528, Sz528, Ng528, Hs528, Gs528⟩ := id V522
  have hin528 : ¬ ((22 : Int32) < 0 ∨ cl528.slots.size ≤ ((22 : Int32)).toNatClampNeg) := inb_of Sz528 ⟨by decide, by decide⟩
  obtain ⟨T528, h528, X528, e528, W528, st528⟩ := stI X522 hx hZ e522 Ar528 (j := (22 : Int32)) hin528 (g := (mkF m 437 #[.val (.int p1), .val (.int p2), .val (.int p3), .val (.ref b2), .val (.ref b223), .unset, .unset, .unset, .unset] [(.int (1 : Int32)), (.int (22 : Int32)), (.ref b390), (.ref b390)])) rfl rfl (hb hby at_437)
  have Z529 : n0 ≤ h528.size := Nat.le_trans Z523 (Keep.of_wr W528).1
  have O530 : Old Z n0 h528 := O524.wr W528 g_b390
  have V528 : Arv Z h528 b390 kk390 .int (27 : Int32) ((.int (0 : Int32)) :: (.int (0 : Int32)) :: (.int (1 : Int32)) :: (.int (1 : Int32)) :: (.int (1 : Int32)) :: (.int (1 : Int32)) :: (.int (1 : Int32)) :: (.int (1 : Int32)) :: (.int (2147483647 : Int32)) :: (.int (2 : Int32)) :: (.int (2 : Int32)) :: (.int (2 : Int32)) :: (.int (2 : Int32)) :: (.int (3 : Int32)) :: (.int (1 : Int32)) :: (.int (1 : Int32)) :: (.int (3 : Int32)) :: (.int (1 : Int32)) :: (.int (1 : Int32)) :: (.int (0 : Int32)) :: (.int (0 : Int32)) :: (.int (1 : Int32)) :: (.int (1 : Int32)) :: (.int (0 : Int32)) :: (.int (0 : Int32)) :: (.int (0 : Int32)) :: (.int (0 : Int32)) :: []) (.int (0 : Int32)) := Arv.set Ar528 q528 Sz528 Ng528 Hs528 Gs528 rfl W528 22 rfl (Nat.le_of_ble_eq_true rfl)
  have Nf531 := Fr.snoc X528 Nf525 g_b390
  have kn532 : ∀ t, own_S p e below T528 (mkF m 438 #[.val (.int p1), .val (.int p2), .val (.int p3), .val (.ref b2), .val (.ref b223), .unset, .unset, .unset, .unset] [(.ref b390)]) t → Gl t := fun t kt => kn527 t (st528 _ kt)
  have kn533 : ∀ t, own_S p e below T528 (mkF m 442 #[.val (.int p1), .val (.int p2), .val (.int p3), .val (.ref b2), .val (.ref b223), .unset, .unset, .unset, .unset] [(.int (1 : Int32)), (.int (23 : Int32)), (.ref b390), (.ref b390)]) t → Gl t := fun t kt => kn532 t (by
    show own_S p e below T528 (mkF m 438 #[.val (.int p1), .val (.int p2), .val (.int p3), .val (.ref b2), .val (.ref b223), .unset, .unset, .unset, .unset] [(.ref b390)]) _
    refine XS.dup X528.here hx rfl (hb hby at_438) rfl rfl ?_
    show own_S p e below T528 (mkF m 439 #[.val (.int p1), .val (.int p2), .val (.int p3), .val (.ref b2), .val (.ref b223), .unset, .unset, .unset, .unset] [(.ref b390), (.ref b390)]) _
    refine XS.bipush X528.here hx rfl (hb hby at_439) ?_
    show own_S p e below T528 (mkF m 441 #[.val (.int p1), .val (.int p2), .val (.int p3), .val (.ref b2), .val (.ref b223), .unset, .unset, .unset, .unset] [(.int (23 : Int32)), (.ref b390), (.ref b390)]) _
    refine XS.iconst X528.here hx rfl (hb hby at_441) ?_
    exact kt)
  obtain ⟨cl534, Ar534, q534, Sz534, Ng534, Hs534, Gs534⟩ := id V528
  have hin534 : ¬ ((23 : Int32) < 0 ∨ cl534.slots.size ≤ ((23 : Int32)).toNatClampNeg) := inb_of Sz534 ⟨by decide, by decide⟩
  obtain ⟨T534, h534, X534, e534, W534, st534⟩ := stI X528 hx hZ e528 Ar534 (j := (23 : Int32)) hin534 (g := (mkF m 442 #[.val (.int p1), .val (.int p2), .val (.int p3), .val (.ref b2), .val (.ref b223), .unset, .unset, .unset, .unset] [(.int (1 : Int32)), (.int (23 : Int32)), (.ref b390), (.ref b390)])) rfl rfl (hb hby at_442)
  have Z535 : n0 ≤ h534.size := Nat.le_trans Z529 (Keep.of_wr W534).1
  have O536 : Old Z n0 h534 := O530.wr W534 g_b390
  have V534 : Arv Z h534 b390 kk390 .int (27 : Int32) ((.int (0 : Int32)) :: (.int (0 : Int32)) :: (.int (1 : Int32)) :: (.int (1 : Int32)) :: (.int (1 : Int32)) :: (.int (1 : Int32)) :: (.int (1 : Int32)) :: (.int (1 : Int32)) :: (.int (2147483647 : Int32)) :: (.int (2 : Int32)) :: (.int (2 : Int32)) :: (.int (2 : Int32)) :: (.int (2 : Int32)) :: (.int (3 : Int32)) :: (.int (1 : Int32)) :: (.int (1 : Int32)) :: (.int (3 : Int32)) :: (.int (1 : Int32)) :: (.int (1 : Int32)) :: (.int (0 : Int32)) :: (.int (0 : Int32)) :: (.int (1 : Int32)) :: (.int (1 : Int32)) :: (.int (1 : Int32)) :: (.int (0 : Int32)) :: (.int (0 : Int32)) :: (.int (0 : Int32)) :: []) (.int (0 : Int32)) := Arv.set Ar534 q534 Sz534 Ng534 Hs534 Gs534 rfl W534 23 rfl (Nat.le_of_ble_eq_true rfl)
  have Nf537 := Fr.snoc X534 Nf531 g_b390
  have kn538 : ∀ t, own_S p e below T534 (mkF m 443 #[.val (.int p1), .val (.int p2), .val (.int p3), .val (.ref b2), .val (.ref b223), .unset, .unset, .unset, .unset] [(.ref b390)]) t → Gl t := fun t kt => kn533 t (st534 _ kt)
  have kn539 : ∀ t, own_S p e below T534 (mkF m 447 #[.val (.int p1), .val (.int p2), .val (.int p3), .val (.ref b2), .val (.ref b223), .unset, .unset, .unset, .unset] [(.int (1 : Int32)), (.int (24 : Int32)), (.ref b390), (.ref b390)]) t → Gl t := fun t kt => kn538 t (by
    show own_S p e below T534 (mkF m 443 #[.val (.int p1), .val (.int p2), .val (.int p3), .val (.ref b2), .val (.ref b223), .unset, .unset, .unset, .unset] [(.ref b390)]) _
    refine XS.dup X534.here hx rfl (hb hby at_443) rfl rfl ?_
    show own_S p e below T534 (mkF m 444 #[.val (.int p1), .val (.int p2), .val (.int p3), .val (.ref b2), .val (.ref b223), .unset, .unset, .unset, .unset] [(.ref b390), (.ref b390)]) _
    refine XS.bipush X534.here hx rfl (hb hby at_444) ?_
    show own_S p e below T534 (mkF m 446 #[.val (.int p1), .val (.int p2), .val (.int p3), .val (.ref b2), .val (.ref b223), .unset, .unset, .unset, .unset] [(.int (24 : Int32)), (.ref b390), (.ref b390)]) _
    refine XS.iconst X534.here hx rfl (hb hby at_446) ?_
    exact kt)
  obtain ⟨cl540, Ar540, q540, Sz540, Ng540, Hs540, Gs540⟩ := id V534
  have hin540 : ¬ ((24 : Int32) < 0 ∨ cl540.slots.size ≤ ((24 : Int32)).toNatClampNeg) := inb_of Sz540 ⟨by decide, by decide⟩
  obtain ⟨T540, h540, X540, e540, W540, st540⟩ := stI X534 hx hZ e534 Ar540 (j := (24 : Int32)) hin540 (g := (mkF m 447 #[.val (.int p1), .val (.int p2), .val (.int p3), .val (.ref b2), .val (.ref b223), .unset, .unset, .unset, .unset] [(.int (1 : Int32)), (.int (24 : Int32)), (.ref b390), (.ref b390)])) rfl rfl (hb hby at_447)
  have Z541 : n0 ≤ h540.size := Nat.le_trans Z535 (Keep.of_wr W540).1
  have O542 : Old Z n0 h540 := O536.wr W540 g_b390
  have V540 : Arv Z h540 b390 kk390 .int (27 : Int32) ((.int (0 : Int32)) :: (.int (0 : Int32)) :: (.int (1 : Int32)) :: (.int (1 : Int32)) :: (.int (1 : Int32)) :: (.int (1 : Int32)) :: (.int (1 : Int32)) :: (.int (1 : Int32)) :: (.int (2147483647 : Int32)) :: (.int (2 : Int32)) :: (.int (2 : Int32)) :: (.int (2 : Int32)) :: (.int (2 : Int32)) :: (.int (3 : Int32)) :: (.int (1 : Int32)) :: (.int (1 : Int32)) :: (.int (3 : Int32)) :: (.int (1 : Int32)) :: (.int (1 : Int32)) :: (.int (0 : Int32)) :: (.int (0 : Int32)) :: (.int (1 : Int32)) :: (.int (1 : Int32)) :: (.int (1 : Int32)) :: (.int (1 : Int32)) :: (.int (0 : Int32)) :: (.int (0 : Int32)) :: []) (.int (0 : Int32)) := Arv.set Ar540 q540 Sz540 Ng540 Hs540 Gs540 rfl W540 24 rfl (Nat.le_of_ble_eq_true rfl)
  have Nf543 := Fr.snoc X540 Nf537 g_b390
  have kn544 : ∀ t, own_S p e below T540 (mkF m 448 #[.val (.int p1), .val (.int p2), .val (.int p3), .val (.ref b2), .val (.ref b223), .unset, .unset, .unset, .unset] [(.ref b390)]) t → Gl t := fun t kt => kn539 t (st540 _ kt)
  have kn545 : ∀ t, own_S p e below T540 (mkF m 452 #[.val (.int p1), .val (.int p2), .val (.int p3), .val (.ref b2), .val (.ref b223), .unset, .unset, .unset, .unset] [(.int (1 : Int32)), (.int (25 : Int32)), (.ref b390), (.ref b390)]) t → Gl t := fun t kt => kn544 t (by
    show own_S p e below T540 (mkF m 448 #[.val (.int p1), .val (.int p2), .val (.int p3), .val (.ref b2), .val (.ref b223), .unset, .unset, .unset, .unset] [(.ref b390)]) _
    refine XS.dup X540.here hx rfl (hb hby at_448) rfl rfl ?_
    show own_S p e below T540 (mkF m 449 #[.val (.int p1), .val (.int p2), .val (.int p3), .val (.ref b2), .val (.ref b223), .unset, .unset, .unset, .unset] [(.ref b390), (.ref b390)]) _
    refine XS.bipush X540.here hx rfl (hb hby at_449) ?_
    show own_S p e below T540 (mkF m 451 #[.val (.int p1), .val (.int p2), .val (.int p3), .val (.ref b2), .val (.ref b223), .unset, .unset, .unset, .unset] [(.int (25 : Int32)), (.ref b390), (.ref b390)]) _
    refine XS.iconst X540.here hx rfl (hb hby at_451) ?_
    exact kt)
  obtain ⟨cl546, Ar546, q546, Sz546, Ng546, Hs546, Gs546⟩ := id V540
  have hin546 : ¬ ((25 : Int32) < 0 ∨ cl546.slots.size ≤ ((25 : Int32)).toNatClampNeg) := inb_of Sz546 ⟨by decide, by decide⟩
  obtain ⟨T546, h546, X546, e546, W546, st546⟩ := stI X540 hx hZ e540 Ar546 (j := (25 : Int32)) hin546 (g := (mkF m 452 #[.val (.int p1), .val (.int p2), .val (.int p3), .val (.ref b2), .val (.ref b223), .unset, .unset, .unset, .unset] [(.int (1 : Int32)), (.int (25 : Int32)), (.ref b390), (.ref b390)])) rfl rfl (hb hby at_452)
  have Z547 : n0 ≤ h546.size := Nat.le_trans Z541 (Keep.of_wr W546).1
  have O548 : Old Z n0 h546 := O542.wr W546 g_b390
  have V546 : Arv Z h546 b390 kk390 .int (27 : Int32) ((.int (0 : Int32)) :: (.int (0 : Int32)) :: (.int (1 : Int32)) :: (.int (1 : Int32)) :: (.int (1 : Int32)) :: (.int (1 : Int32)) :: (.int (1 : Int32)) :: (.int (1 : Int32)) :: (.int (2147483647 : Int32)) :: (.int (2 : Int32)) :: (.int (2 : Int32)) :: (.int (2 : Int32)) :: (.int (2 : Int32)) :: (.int (3 : Int32)) :: (.int (1 : Int32)) :: (.int (1 : Int32)) :: (.int (3 : Int32)) :: (.int (1 : Int32)) :: (.int (1 : Int32)) :: (.int (0 : Int32)) :: (.int (0 : Int32)) :: (.int (1 : Int32)) :: (.int (1 : Int32)) :: (.int (1 : Int32)) :: (.int (1 : Int32)) :: (.int (1 : Int32)) :: (.int (0 : Int32)) :: []) (.int (0 : Int32)) := Arv.set Ar546 q546 Sz546 Ng546 Hs546 Gs546 rfl W546 25 rfl (Nat.le_of_ble_eq_true rfl)
  have Nf549 := Fr.snoc X546 Nf543 g_b390
  have kn550 : ∀ t, own_S p e below T546 (mkF m 453 #[.val (.int p1), .val (.int p2), .val (.int p3), .val (.ref b2), .val (.ref b223), .unset, .unset, .unset, .unset] [(.ref b390)]) t → Gl t := fun t kt => kn545 t (st546 _ kt)
  have kn551 : ∀ t, own_S p e below T546 (mkF m 457 #[.val (.int p1), .val (.int p2), .val (.int p3), .val (.ref b2), .val (.ref b223), .unset, .unset, .unset, .unset] [(.int (1 : Int32)), (.int (26 : Int32)), (.ref b390), (.ref b390)]) t → Gl t := fun t kt => kn550 t (by
    show own_S p e below T546 (mkF m 453 #[.val (.int p1), .val (.int p2), .val (.int p3), .val (.ref b2), .val (.ref b223), .unset, .unset, .unset, .unset] [(.ref b390)]) _
    refine XS.dup X546.here hx rfl (hb hby at_453) rfl rfl ?_
    show own_S p e below T546 (mkF m 454 #[.val (.int p1), .val (.int p2), .val (.int p3), .val (.ref b2), .val (.ref b223), .unset, .unset, .unset, .unset] [(.ref b390), (.ref b390)]) _
    refine XS.bipush X546.here hx rfl (hb hby at_454) ?_
    show own_S p e below T546 (mkF m 456 #[.val (.int p1), .val (.int p2), .val (.int p3), .val (.ref b2), .val (.ref b223), .unset, .unset, .unset, .unset] [(.int (26 : Int32)), (.ref b390), (.ref b390)]) _
    refine XS.iconst X546.here hx rfl (hb hby at_456) ?_
    exact kt)
  obtain ⟨cl552, Ar552, q552, Sz552, Ng552, Hs552, Gs552⟩ := id V546
  have hin552 : ¬ ((26 : Int32) < 0 ∨ cl552.slots.size ≤ ((26 : Int32)).toNatClampNeg) := inb_of Sz552 ⟨by decide, by decide⟩
  obtain ⟨T552, h552, X552, e552, W552, st552⟩ := stI X546 hx hZ e546 Ar552 (j := (26 : Int32)) hin552 (g := (mkF m 457 #[.val (.int p1), .val (.int p2), .val (.int p3), .val (.ref b2), .val (.ref b223), .unset, .unset, .unset, .unset] [(.int (1 : Int32)), (.int (26 : Int32)), (.ref b390), (.ref b390)])) rfl rfl (hb hby at_457)
  have Z553 : n0 ≤ h552.size := Nat.le_trans Z547 (Keep.of_wr W552).1
  have O554 : Old Z n0 h552 := O548.wr W552 g_b390
  have V552 : Arv Z h552 b390 kk390 .int (27 : Int32) ((.int (0 : Int32)) :: (.int (0 : Int32)) :: (.int (1 : Int32)) :: (.int (1 : Int32)) :: (.int (1 : Int32)) :: (.int (1 : Int32)) :: (.int (1 : Int32)) :: (.int (1 : Int32)) :: (.int (2147483647 : Int32)) :: (.int (2 : Int32)) :: (.int (2 : Int32)) :: (.int (2 : Int32)) :: (.int (2 : Int32)) :: (.int (3 : Int32)) :: (.int (1 : Int32)) :: (.int (1 : Int32)) :: (.int (3 : Int32)) :: (.int (1 : Int32)) :: (.int (1 : Int32)) :: (.int (0 : Int32)) :: (.int (0 : Int32)) :: (.int (1 : Int32)) :: (.int (1 : Int32)) :: (.int (1 : Int32)) :: (.int (1 : Int32)) :: (.int (1 : Int32)) :: (.int (1 : Int32)) :: []) (.int (0 : Int32)) := Arv.set Ar552 q552 Sz552 Ng552 Hs552 Gs552 rfl W552 26 rfl (Nat.le_of_ble_eq_true rfl)
  have Nf555 := Fr.snoc X552 Nf549 g_b390
  have kn556 : ∀ t, own_S p e below T552 (mkF m 458 #[.val (.int p1), .val (.int p2), .val (.int p3), .val (.ref b2), .val (.ref b223), .unset, .unset, .unset, .unset] [(.ref b390)]) t → Gl t := fun t kt => kn551 t (st552 _ kt)
  have kn557 : ∀ t, own_S p e below T552 (mkF m 472 #[.val (.int p1), .val (.int p2), .val (.int p3), .val (.ref b2), .val (.ref b223), .val (.ref b390), .val (.int ((p1 &&& (2147483647 : Int32)) % (27 : Int32))), .unset, .unset] [(.int (p3 &&& (1 : Int32)))]) t → Gl t := fun t kt => kn556 t (by
    show own_S p e below T552 (mkF m 458 #[.val (.int p1), .val (.int p2), .val (.int p3), .val (.ref b2), .val (.ref b223), .unset, .unset, .unset, .unset] [(.ref b390)]) _
    refine XS.astore X552.here hx rfl (hb hby at_458) rfl rfl (l' := #[.val (.int p1), .val (.int p2), .val (.int p3), .val (.ref b2), .val (.ref b223), .val (.ref b390), .unset, .unset, .unset]) rfl ?_
    show own_S p e below T552 (mkF m 460 #[.val (.int p1), .val (.int p2), .val (.int p3), .val (.ref b2), .val (.ref b223), .val (.ref b390), .unset, .unset, .unset] []) _
    refine XS.iloadN X552.here hx rfl (hb hby at_460) rfl ?_
    show own_S p e below T552 (mkF m 461 #[.val (.int p1), .val (.int p2), .val (.int p3), .val (.ref b2), .val (.ref b223), .val (.ref b390), .unset, .unset, .unset] [(.int p1)]) _
    refine X552.ldcInt hx hown (mvT hZ (hw _ (List.mem_of_getElem? (i := 85) rfl))) (g := (mkF m 461 #[.val (.int p1), .val (.int p2), .val (.int p3), .val (.ref b2), .val (.ref b223), .val (.ref b390), .unset, .unset, .unset] [(.int p1)])) rfl (hb hby at_461) _ ?_
    show own_S p e below T552 (mkF m 463 #[.val (.int p1), .val (.int p2), .val (.int p3), .val (.ref b2), .val (.ref b223), .val (.ref b390), .unset, .unset, .unset] [(.int (2147483647 : Int32)), (.int p1)]) _
    refine XS.iand X552.here hx rfl (hb hby at_463) rfl ?_
    show own_S p e below T552 (mkF m 464 #[.val (.int p1), .val (.int p2), .val (.int p3), .val (.ref b2), .val (.ref b223), .val (.ref b390), .unset, .unset, .unset] [(.int (p1 &&& (2147483647 : Int32)))]) _
    refine XS.bipush X552.here hx rfl (hb hby at_464) ?_
    show own_S p e below T552 (mkF m 466 #[.val (.int p1), .val (.int p2), .val (.int p3), .val (.ref b2), .val (.ref b223), .val (.ref b390), .unset, .unset, .unset] [(.int (27 : Int32)), (.int (p1 &&& (2147483647 : Int32)))]) _
    refine iremM X552 hx rfl (hb hby at_466) rfl (by decide) ?_
    show own_S p e below T552 (mkF m 467 #[.val (.int p1), .val (.int p2), .val (.int p3), .val (.ref b2), .val (.ref b223), .val (.ref b390), .unset, .unset, .unset] [(.int ((p1 &&& (2147483647 : Int32)) % (27 : Int32)))]) _
    refine XS.istore X552.here hx rfl (hb hby at_467) rfl (l' := #[.val (.int p1), .val (.int p2), .val (.int p3), .val (.ref b2), .val (.ref b223), .val (.ref b390), .val (.int ((p1 &&& (2147483647 : Int32)) % (27 : Int32))), .unset, .unset]) rfl ?_
    show own_S p e below T552 (mkF m 469 #[.val (.int p1), .val (.int p2), .val (.int p3), .val (.ref b2), .val (.ref b223), .val (.ref b390), .val (.int ((p1 &&& (2147483647 : Int32)) % (27 : Int32))), .unset, .unset] []) _
    refine XS.iloadN X552.here hx rfl (hb hby at_469) rfl ?_
    show own_S p e below T552 (mkF m 470 #[.val (.int p1), .val (.int p2), .val (.int p3), .val (.ref b2), .val (.ref b223), .val (.ref b390), .val (.int ((p1 &&& (2147483647 : Int32)) % (27 : Int32))), .unset, .unset] [(.int p3)]) _
    refine XS.iconst X552.here hx rfl (hb hby at_470) ?_
    show own_S p e below T552 (mkF m 471 #[.val (.int p1), .val (.int p2), .val (.int p3), .val (.ref b2), .val (.ref b223), .val (.ref b390), .val (.int ((p1 &&& (2147483647 : Int32)) % (27 : Int32))), .unset, .unset] [(.int (1 : Int32)), (.int p3)]) _
    refine XS.iand X552.here hx rfl (hb hby at_471) rfl ?_
    exact kt)
  have kn558 : ∀ t, own_S p e below T552 (mkF m 485 #[.val (.int p1), .val (.int p2), .val (.int p3), .val (.ref b2), .val (.ref b223), .val (.ref b390), .val (.int ((p1 &&& (2147483647 : Int32)) % (27 : Int32))), .unset, .unset] [(.int (own_cnt p2 p3))]) t → Gl t := by
    intro t kt
    by_cases hc472 : (p3 &&& (1 : Int32)) = (0 : Int32)
    · rw [(show (own_cnt p2 p3) = p2 from by rw [own_cnt, if_pos hc472])] at kt
      exact kn557 t (by
        show own_S p e below T552 (mkF m 472 #[.val (.int p1), .val (.int p2), .val (.int p3), .val (.ref b2), .val (.ref b223), .val (.ref b390), .val (.int ((p1 &&& (2147483647 : Int32)) % (27 : Int32))), .unset, .unset] [(.int (p3 &&& (1 : Int32)))]) _
        refine XS.ifYes X552.here hx rfl (pc0 := 472) (pc' := 484) rfl (hb hby at_472) rfl ((if0 _ _).trans (teq hc472).1) (by decide) (by decide) ?_
        show own_S p e below T552 (mkF m 484 #[.val (.int p1), .val (.int p2), .val (.int p3), .val (.ref b2), .val (.ref b223), .val (.ref b390), .val (.int ((p1 &&& (2147483647 : Int32)) % (27 : Int32))), .unset, .unset] []) _
        refine XS.iloadN X552.here hx rfl (hb hby at_484) rfl ?_
        exact kt)
    · rw [(show (own_cnt p2 p3) = ((p2 &&& (7 : Int32)) - (1 : Int32)) from by rw [own_cnt, if_neg hc472])] at kt
      exact kn557 t (by
        show own_S p e below T552 (mkF m 472 #[.val (.int p1), .val (.int p2), .val (.int p3), .val (.ref b2), .val (.ref b223), .val (.ref b390), .val (.int ((p1 &&& (2147483647 : Int32)) % (27 : Int32))), .unset, .unset] [(.int (p3 &&& (1 : Int32)))]) _
        refine XS.ifNo X552.here hx rfl (hb hby at_472) rfl ((if0 _ _).trans (feq hc472).1) ?_
        show own_S p e below T552 (mkF m 475 #[.val (.int p1), .val (.int p2), .val (.int p3), .val (.ref b2), .val (.ref b223), .val (.ref b390), .val (.int ((p1 &&& (2147483647 : Int32)) % (27 : Int32))), .unset, .unset] []) _
        refine XS.iloadN X552.here hx rfl (hb hby at_475) rfl ?_
        show own_S p e below T552 (mkF m 476 #[.val (.int p1), .val (.int p2), .val (.int p3), .val (.ref b2), .val (.ref b223), .val (.ref b390), .val (.int ((p1 &&& (2147483647 : Int32)) % (27 : Int32))), .unset, .unset] [(.int p2)]) _
        refine XS.bipush X552.here hx rfl (hb hby at_476) ?_
        show own_S p e below T552 (mkF m 478 #[.val (.int p1), .val (.int p2), .val (.int p3), .val (.ref b2), .val (.ref b223), .val (.ref b390), .val (.int ((p1 &&& (2147483647 : Int32)) % (27 : Int32))), .unset, .unset] [(.int (7 : Int32)), (.int p2)]) _
        refine XS.iand X552.here hx rfl (hb hby at_478) rfl ?_
        show own_S p e below T552 (mkF m 479 #[.val (.int p1), .val (.int p2), .val (.int p3), .val (.ref b2), .val (.ref b223), .val (.ref b390), .val (.int ((p1 &&& (2147483647 : Int32)) % (27 : Int32))), .unset, .unset] [(.int (p2 &&& (7 : Int32)))]) _
        refine XS.iconst X552.here hx rfl (hb hby at_479) ?_
        show own_S p e below T552 (mkF m 480 #[.val (.int p1), .val (.int p2), .val (.int p3), .val (.ref b2), .val (.ref b223), .val (.ref b390), .val (.int ((p1 &&& (2147483647 : Int32)) % (27 : Int32))), .unset, .unset] [(.int (1 : Int32)), (.int (p2 &&& (7 : Int32)))]) _
        refine XS.isub X552.here hx rfl (hb hby at_480) rfl ?_
        show own_S p e below T552 (mkF m 481 #[.val (.int p1), .val (.int p2), .val (.int p3), .val (.ref b2), .val (.ref b223), .val (.ref b390), .val (.int ((p1 &&& (2147483647 : Int32)) % (27 : Int32))), .unset, .unset] [(.int ((p2 &&& (7 : Int32)) - (1 : Int32)))]) _
        refine XS.goto X552.here hx rfl (pc0 := 481) (pc' := 485) rfl (hb hby at_481) (by decide) (by decide) ?_
        exact kt)
  have kn559 : ∀ t, own_S p e below T552 (mkF m 487 #[.val (.int p1), .val (.int p2), .val (.int p3), .val (.ref b2), .val (.ref b223), .val (.ref b390), .val (.int ((p1 &&& (2147483647 : Int32)) % (27 : Int32))), .val (.int (own_cnt p2 p3)), .unset] []) t → Gl t := fun t kt => kn558 t (by
    show own_S p e below T552 (mkF m 485 #[.val (.int p1), .val (.int p2), .val (.int p3), .val (.ref b2), .val (.ref b223), .val (.ref b390), .val (.int ((p1 &&& (2147483647 : Int32)) % (27 : Int32))), .unset, .unset] [(.int (own_cnt p2 p3))]) _
    refine XS.istore X552.here hx rfl (hb hby at_485) rfl (l' := #[.val (.int p1), .val (.int p2), .val (.int p3), .val (.ref b2), .val (.ref b223), .val (.ref b390), .val (.int ((p1 &&& (2147483647 : Int32)) % (27 : Int32))), .val (.int (own_cnt p2 p3)), .unset]) rfl ?_
    exact kt)
  rw [(show ((p1 &&& (2147483647 : Int32)) % (27 : Int32)) = (own_i p1) from rfl)] at kn559
  have kn560 : ∀ t, own_S p e below T552 (mkF m 493 #[.val (.int p1), .val (.int p2), .val (.int p3), .val (.ref b2), .val (.ref b223), .val (.ref b390), .val (.int (own_i p1)), .val (.int (own_cnt p2 p3)), .unset] [(.int (own_i p1)), (.ref b223), (.int (own_cnt p2 p3))]) t → Gl t := fun t kt => kn559 t (by
    show own_S p e below T552 (mkF m 487 #[.val (.int p1), .val (.int p2), .val (.int p3), .val (.ref b2), .val (.ref b223), .val (.ref b390), .val (.int (own_i p1)), .val (.int (own_cnt p2 p3)), .unset] []) _
    refine XS.iload X552.here hx rfl (hb hby at_487) rfl ?_
    show own_S p e below T552 (mkF m 489 #[.val (.int p1), .val (.int p2), .val (.int p3), .val (.ref b2), .val (.ref b223), .val (.ref b390), .val (.int (own_i p1)), .val (.int (own_cnt p2 p3)), .unset] [(.int (own_cnt p2 p3))]) _
    refine XS.aload X552.here hx rfl (hb hby at_489) rfl rfl ?_
    show own_S p e below T552 (mkF m 491 #[.val (.int p1), .val (.int p2), .val (.int p3), .val (.ref b2), .val (.ref b223), .val (.ref b390), .val (.int (own_i p1)), .val (.int (own_cnt p2 p3)), .unset] [(.ref b223), (.int (own_cnt p2 p3))]) _
    refine XS.iload X552.here hx rfl (hb hby at_491) rfl ?_
    exact kt)
  have f561 := ((((((((((((((((((((((((((((V384.ext E390).other W396 ne_b223_b390).other W402 ne_b223_b390).other W408 ne_b223_b390).other W414 ne_b223_b390).other W420 ne_b223_b390).other W426 ne_b223_b390).other W432 ne_b223_b390).other W438 ne_b223_b390).other W444 ne_b223_b390).other W450 ne_b223_b390).other W456 ne_b223_b390).other W462 ne_b223_b390).other W468 ne_b223_b390).other W474 ne_b223_b390).other W480 ne_b223_b390).other W486 ne_b223_b390).other W492 ne_b223_b390).other W498 ne_b223_b390).other W504 ne_b223_b390).other W510 ne_b223_b390).other W516 ne_b223_b390).other W522 ne_b223_b390).other W528 ne_b223_b390).other W534 ne_b223_b390).other W540 ne_b223_b390).other W546 ne_b223_b390).other W552 ne_b223_b390)
  obtain ⟨cl562, Ar562, q562, Sz562, Ng562, Hs562, Gs562⟩ := id f561
  have hin562 : ¬ ((own_i p1) < 0 ∨ cl562.slots.size ≤ ((own_i p1)).toNatClampNeg) := inb_of Sz562 (own_idx p1).2.2
  have hat562 : cl562.slots[((own_i p1)).toNatClampNeg]? = some (.int (own_lo (own_i p1))) := Hs562.at hin562 (own_idx p1).1
  have kn563 : ∀ t, own_S p e below T552 (mkF m 494 #[.val (.int p1), .val (.int p2), .val (.int p3), .val (.ref b2), .val (.ref b223), .val (.ref b390), .val (.int (own_i p1)), .val (.int (own_cnt p2 p3)), .unset] [(.int (own_lo (own_i p1))), (.int (own_cnt p2 p3))]) t → Gl t := fun t kt => kn560 t (by
    show own_S p e below T552 (mkF m 493 #[.val (.int p1), .val (.int p2), .val (.int p3), .val (.ref b2), .val (.ref b223), .val (.ref b390), .val (.int (own_i p1)), .val (.int (own_cnt p2 p3)), .unset] [(.int (own_i p1)), (.ref b223), (.int (own_cnt p2 p3))]) _
    refine X552.iaload hx (j := (own_i p1)) (v := (.int (own_lo (own_i p1)))) (by rw [e552]; exact Ar562.1) (State.isArrayOf_alike hZ.alike Ar562.2.1) Ar562.2.2 hin562 hat562 (g := (mkF m 493 #[.val (.int p1), .val (.int p2), .val (.int p3), .val (.ref b2), .val (.ref b223), .val (.ref b390), .val (.int (own_i p1)), .val (.int (own_cnt p2 p3)), .unset] [(.int (own_i p1)), (.ref b223), (.int (own_cnt p2 p3))])) rfl rfl (hb hby at_493) _ ?_
    exact kt)
  have kn564 : ∀ t, own_S p e below T552 (mkF m 536 #[.val (.int p1), .val (.int p2), .val (.int p3), .val (.ref b2), .val (.ref b223), .val (.ref b390), .val (.int (own_i p1)), .val (.int (own_cnt p2 p3)), .val (.int (own_exp (own_lo (own_i p1)) (own_hi (own_i p1)) (own_cnt p2 p3)))] []) t → Gl t := by
    intro t kt
    by_cases hc494 : (own_cnt p2 p3) < (own_lo (own_i p1))
    · rw [(show (own_exp (own_lo (own_i p1)) (own_hi (own_i p1)) (own_cnt p2 p3)) = (0 : Int32) from by rw [own_exp, if_pos hc494])] at kt
      exact kn563 t (by
        show own_S p e below T552 (mkF m 494 #[.val (.int p1), .val (.int p2), .val (.int p3), .val (.ref b2), .val (.ref b223), .val (.ref b390), .val (.int (own_i p1)), .val (.int (own_cnt p2 p3)), .unset] [(.int (own_lo (own_i p1))), (.int (own_cnt p2 p3))]) _
        refine XS.icmpNo X552.here hx rfl (hb hby at_494) rfl (tlt hc494).2.1 ?_
        show own_S p e below T552 (mkF m 497 #[.val (.int p1), .val (.int p2), .val (.int p3), .val (.ref b2), .val (.ref b223), .val (.ref b390), .val (.int (own_i p1)), .val (.int (own_cnt p2 p3)), .unset] []) _
        refine XS.iconst X552.here hx rfl (hb hby at_497) ?_
        show own_S p e below T552 (mkF m 498 #[.val (.int p1), .val (.int p2), .val (.int p3), .val (.ref b2), .val (.ref b223), .val (.ref b390), .val (.int (own_i p1)), .val (.int (own_cnt p2 p3)), .unset] [(.int (0 : Int32))]) _
        refine XS.istore X552.here hx rfl (hb hby at_498) rfl (l' := #[.val (.int p1), .val (.int p2), .val (.int p3), .val (.ref b2), .val (.ref b223), .val (.ref b390), .val (.int (own_i p1)), .val (.int (own_cnt p2 p3)), .val (.int (0 : Int32))]) rfl ?_
        show own_S p e below T552 (mkF m 500 #[.val (.int p1), .val (.int p2), .val (.int p3), .val (.ref b2), .val (.ref b223), .val (.ref b390), .val (.int (own_i p1)), .val (.int (own_cnt p2 p3)), .val (.int (0 : Int32))] []) _
        refine XS.goto X552.here hx rfl (pc0 := 500) (pc' := 536) rfl (hb hby at_500) (by decide) (by decide) ?_
        exact kt)
    · have kn565 : ∀ t, own_S p e below T552 (mkF m 507 #[.val (.int p1), .val (.int p2), .val (.int p3), .val (.ref b2), .val (.ref b223), .val (.ref b390), .val (.int (own_i p1)), .val (.int (own_cnt p2 p3)), .unset] [(.int (own_i p1)), (.ref b390)]) t → Gl t := fun t kt => kn563 t (by
        show own_S p e below T552 (mkF m 494 #[.val (.int p1), .val (.int p2), .val (.int p3), .val (.ref b2), .val (.ref b223), .val (.ref b390), .val (.int (own_i p1)), .val (.int (own_cnt p2 p3)), .unset] [(.int (own_lo (own_i p1))), (.int (own_cnt p2 p3))]) _
        refine XS.icmpYes X552.here hx rfl (pc0 := 494) (pc' := 503) rfl (hb hby at_494) rfl (flt hc494).2.1 (by decide) (by decide) ?_
        show own_S p e below T552 (mkF m 503 #[.val (.int p1), .val (.int p2), .val (.int p3), .val (.ref b2), .val (.ref b223), .val (.ref b390), .val (.int (own_i p1)), .val (.int (own_cnt p2 p3)), .unset] []) _
        refine XS.aload X552.here hx rfl (hb hby at_503) rfl rfl ?_
        show own_S p e below T552 (mkF m 505 #[.val (.int p1), .val (.int p2), .val (.int p3), .val (.ref b2), .val (.ref b223), .val (.ref b390), .val (.int (own_i p1)), .val (.int (own_cnt p2 p3)), .unset] [(.ref b390)]) _
        refine XS.iload X552.here hx rfl (hb hby at_505) rfl ?_
        exact kt)
      obtain ⟨cl566, Ar566, q566, Sz566, Ng566, Hs566, Gs566⟩ := id V552
      have hin566 : ¬ ((own_i p1) < 0 ∨ cl566.slots.size ≤ ((own_i p1)).toNatClampNeg) := inb_of Sz566 (own_idx p1).2.2
      have hat566 : cl566.slots[((own_i p1)).toNatClampNeg]? = some (.int (own_hi (own_i p1))) := Hs566.at hin566 (own_idx p1).2.1
      have kn567 : ∀ t, own_S p e below T552 (mkF m 510 #[.val (.int p1), .val (.int p2), .val (.int p3), .val (.ref b2), .val (.ref b223), .val (.ref b390), .val (.int (own_i p1)), .val (.int (own_cnt p2 p3)), .unset] [(.int (2147483647 : Int32)), (.int (own_hi (own_i p1)))]) t → Gl t := fun t kt => kn565 t (by
        show own_S p e below T552 (mkF m 507 #[.val (.int p1), .val (.int p2), .val (.int p3), .val (.ref b2), .val (.ref b223), .val (.ref b390), .val (.int (own_i p1)), .val (.int (own_cnt p2 p3)), .unset] [(.int (own_i p1)), (.ref b390)]) _
        refine X552.iaload hx (j := (own_i p1)) (v := (.int (own_hi (own_i p1)))) (by rw [e552]; exact Ar566.1) (State.isArrayOf_alike hZ.alike Ar566.2.1) Ar566.2.2 hin566 hat566 (g := (mkF m 507 #[.val (.int p1), .val (.int p2), .val (.int p3), .val (.ref b2), .val (.ref b223), .val (.ref b390), .val (.int (own_i p1)), .val (.int (own_cnt p2 p3)), .unset] [(.int (own_i p1)), (.ref b390)])) rfl rfl (hb hby at_507) _ ?_
        show own_S p e below T552 (mkF m 508 #[.val (.int p1), .val (.int p2), .val (.int p3), .val (.ref b2), .val (.ref b223), .val (.ref b390), .val (.int (own_i p1)), .val (.int (own_cnt p2 p3)), .unset] [(.int (own_hi (own_i p1)))]) _
        refine X552.ldcInt hx hown (mvT hZ (hw _ (List.mem_of_getElem? (i := 85) rfl))) (g := (mkF m 508 #[.val (.int p1), .val (.int p2), .val (.int p3), .val (.ref b2), .val (.ref b223), .val (.ref b390), .val (.int (own_i p1)), .val (.int (own_cnt p2 p3)), .unset] [(.int (own_hi (own_i p1)))])) rfl (hb hby at_508) _ ?_
        exact kt)
      by_cases hc510 : (own_hi (own_i p1)) = (2147483647 : Int32)
      · rw [(show (own_exp (own_lo (own_i p1)) (own_hi (own_i p1)) (own_cnt p2 p3)) = (1 : Int32) from by rw [own_exp, if_neg hc494, if_pos hc510])] at kt
        exact kn567 t (by
          show own_S p e below T552 (mkF m 510 #[.val (.int p1), .val (.int p2), .val (.int p3), .val (.ref b2), .val (.ref b223), .val (.ref b390), .val (.int (own_i p1)), .val (.int (own_cnt p2 p3)), .unset] [(.int (2147483647 : Int32)), (.int (own_hi (own_i p1)))]) _
          refine XS.icmpNo X552.here hx rfl (hb hby at_510) rfl (teq hc510).2 ?_
          show own_S p e below T552 (mkF m 513 #[.val (.int p1), .val (.int p2), .val (.int p3), .val (.ref b2), .val (.ref b223), .val (.ref b390), .val (.int (own_i p1)), .val (.int (own_cnt p2 p3)), .unset] []) _
          refine XS.iconst X552.here hx rfl (hb hby at_513) ?_
          show own_S p e below T552 (mkF m 514 #[.val (.int p1), .val (.int p2), .val (.int p3), .val (.ref b2), .val (.ref b223), .val (.ref b390), .val (.int (own_i p1)), .val (.int (own_cnt p2 p3)), .unset] [(.int (1 : Int32))]) _
          refine XS.istore X552.here hx rfl (hb hby at_514) rfl (l' := #[.val (.int p1), .val (.int p2), .val (.int p3), .val (.ref b2), .val (.ref b223), .val (.ref b390), .val (.int (own_i p1)), .val (.int (own_cnt p2 p3)), .val (.int (1 : Int32))]) rfl ?_
          show own_S p e below T552 (mkF m 516 #[.val (.int p1), .val (.int p2), .val (.int p3), .val (.ref b2), .val (.ref b223), .val (.ref b390), .val (.int (own_i p1)), .val (.int (own_cnt p2 p3)), .val (.int (1 : Int32))] []) _
          refine XS.goto X552.here hx rfl (pc0 := 516) (pc' := 536) rfl (hb hby at_516) (by decide) (by decide) ?_
          exact kt)
      · have kn568 : ∀ t, own_S p e below T552 (mkF m 525 #[.val (.int p1), .val (.int p2), .val (.int p3), .val (.ref b2), .val (.ref b223), .val (.ref b390), .val (.int (own_i p1)), .val (.int (own_cnt p2 p3)), .unset] [(.int (own_i p1)), (.ref b390), (.int (own_cnt p2 p3))]) t → Gl t := fun t kt => kn567 t (by
          show own_S p e below T552 (mkF m 510 #[.val (.int p1), .val (.int p2), .val (.int p3), .val (.ref b2), .val (.ref b223), .val (.ref b390), .val (.int (own_i p1)), .val (.int (own_cnt p2 p3)), .unset] [(.int (2147483647 : Int32)), (.int (own_hi (own_i p1)))]) _
          refine XS.icmpYes X552.here hx rfl (pc0 := 510) (pc' := 519) rfl (hb hby at_510) rfl (feq hc510).2 (by decide) (by decide) ?_
          show own_S p e below T552 (mkF m 519 #[.val (.int p1), .val (.int p2), .val (.int p3), .val (.ref b2), .val (.ref b223), .val (.ref b390), .val (.int (own_i p1)), .val (.int (own_cnt p2 p3)), .unset] []) _
          refine XS.iload X552.here hx rfl (hb hby at_519) rfl ?_
          show own_S p e below T552 (mkF m 521 #[.val (.int p1), .val (.int p2), .val (.int p3), .val (.ref b2), .val (.ref b223), .val (.ref b390), .val (.int (own_i p1)), .val (.int (own_cnt p2 p3)), .unset] [(.int (own_cnt p2 p3))]) _
          refine XS.aload X552.here hx rfl (hb hby at_521) rfl rfl ?_
          show own_S p e below T552 (mkF m 523 #[.val (.int p1), .val (.int p2), .val (.int p3), .val (.ref b2), .val (.ref b223), .val (.ref b390), .val (.int (own_i p1)), .val (.int (own_cnt p2 p3)), .unset] [(.ref b390), (.int (own_cnt p2 p3))]) _
          refine XS.iload X552.here hx rfl (hb hby at_523) rfl ?_
          exact kt)
        obtain ⟨cl569, Ar569, q569, Sz569, Ng569, Hs569, Gs569⟩ := id V552
        have hin569 : ¬ ((own_i p1) < 0 ∨ cl569.slots.size ≤ ((own_i p1)).toNatClampNeg) := inb_of Sz569 (own_idx p1).2.2
        have hat569 : cl569.slots[((own_i p1)).toNatClampNeg]? = some (.int (own_hi (own_i p1))) := Hs569.at hin569 (own_idx p1).2.1
        have kn570 : ∀ t, own_S p e below T552 (mkF m 526 #[.val (.int p1), .val (.int p2), .val (.int p3), .val (.ref b2), .val (.ref b223), .val (.ref b390), .val (.int (own_i p1)), .val (.int (own_cnt p2 p3)), .unset] [(.int (own_hi (own_i p1))), (.int (own_cnt p2 p3))]) t → Gl t := fun t kt => kn568 t (by
          show own_S p e below T552 (mkF m 525 #[.val (.int p1), .val (.int p2), .val (.int p3), .val (.ref b2), .val (.ref b223), .val (.ref b390), .val (.int (own_i p1)), .val (.int (own_cnt p2 p3)), .unset] [(.int (own_i p1)), (.ref b390), (.int (own_cnt p2 p3))]) _
          refine X552.iaload hx (j := (own_i p1)) (v := (.int (own_hi (own_i p1)))) (by rw [e552]; exact Ar569.1) (State.isArrayOf_alike hZ.alike Ar569.2.1) Ar569.2.2 hin569 hat569 (g := (mkF m 525 #[.val (.int p1), .val (.int p2), .val (.int p3), .val (.ref b2), .val (.ref b223), .val (.ref b390), .val (.int (own_i p1)), .val (.int (own_cnt p2 p3)), .unset] [(.int (own_i p1)), (.ref b390), (.int (own_cnt p2 p3))])) rfl rfl (hb hby at_525) _ ?_
          exact kt)
        by_cases hc526 : (own_hi (own_i p1)) < (own_cnt p2 p3)
        · rw [(show (own_exp (own_lo (own_i p1)) (own_hi (own_i p1)) (own_cnt p2 p3)) = (0 : Int32) from by rw [own_exp, if_neg hc494, if_neg hc510, if_pos hc526])] at kt
          exact kn570 t (by
            show own_S p e below T552 (mkF m 526 #[.val (.int p1), .val (.int p2), .val (.int p3), .val (.ref b2), .val (.ref b223), .val (.ref b390), .val (.int (own_i p1)), .val (.int (own_cnt p2 p3)), .unset] [(.int (own_hi (own_i p1))), (.int (own_cnt p2 p3))]) _
            refine XS.icmpYes X552.here hx rfl (pc0 := 526) (pc' := 533) rfl (hb hby at_526) rfl (tlt hc526).2.2.1 (by decide) (by decide) ?_
            show own_S p e below T552 (mkF m 533 #[.val (.int p1), .val (.int p2), .val (.int p3), .val (.ref b2), .val (.ref b223), .val (.ref b390), .val (.int (own_i p1)), .val (.int (own_cnt p2 p3)), .unset] []) _
            refine XS.iconst X552.here hx rfl (hb hby at_533) ?_
            show own_S p e below T552 (mkF m 534 #[.val (.int p1), .val (.int p2), .val (.int p3), .val (.ref b2), .val (.ref b223), .val (.ref b390), .val (.int (own_i p1)), .val (.int (own_cnt p2 p3)), .unset] [(.int (0 : Int32))]) _
            refine XS.istore X552.here hx rfl (hb hby at_534) rfl (l' := #[.val (.int p1), .val (.int p2), .val (.int p3), .val (.ref b2), .val (.ref b223), .val (.ref b390), .val (.int (own_i p1)), .val (.int (own_cnt p2 p3)), .val (.int (0 : Int32))]) rfl ?_
            exact kt)
        · rw [(show (own_exp (own_lo (own_i p1)) (own_hi (own_i p1)) (own_cnt p2 p3)) = (1 : Int32) from by rw [own_exp, if_neg hc494, if_neg hc510, if_neg hc526])] at kt
          exact kn570 t (by
            show own_S p e below T552 (mkF m 526 #[.val (.int p1), .val (.int p2), .val (.int p3), .val (.ref b2), .val (.ref b223), .val (.ref b390), .val (.int (own_i p1)), .val (.int (own_cnt p2 p3)), .unset] [(.int (own_hi (own_i p1))), (.int (own_cnt p2 p3))]) _
            refine XS.icmpNo X552.here hx rfl (hb hby at_526) rfl (flt hc526).2.2.1 ?_
            show own_S p e below T552 (mkF m 529 #[.val (.int p1), .val (.int p2), .val (.int p3), .val (.ref b2), .val (.ref b223), .val (.ref b390), .val (.int (own_i p1)), .val (.int (own_cnt p2 p3)), .unset] []) _
            refine XS.iconst X552.here hx rfl (hb hby at_529) ?_
            show own_S p e below T552 (mkF m 530 #[.val (.int p1), .val (.int p2), .val (.int p3), .val (.ref b2), .val (.ref b223), .val (.ref b390), .val (.int (own_i p1)), .val (.int (own_cnt p2 p3)), .unset] [(.int (1 : Int32))]) _
            refine XS.goto X552.here hx rfl (pc0 := 530) (pc' := 534) rfl (hb hby at_530) (by decide) (by decide) ?_
            show own_S p e below T552 (mkF m 534 #[.val (.int p1), .val (.int p2), .val (.int p3), .val (.ref b2), .val (.ref b223), .val (.ref b390), .val (.int (own_i p1)), .val (.int (own_cnt p2 p3)), .unset] [(.int (1 : Int32))]) _
            refine XS.istore X552.here hx rfl (hb hby at_534) rfl (l' := #[.val (.int p1), .val (.int p2), .val (.int p3), .val (.ref b2), .val (.ref b223), .val (.ref b390), .val (.int (own_i p1)), .val (.int (own_cnt p2 p3)), .val (.int (1 : Int32))]) rfl ?_
            exact kt)
  have f571 := ((((((((((((((((((((((((((((f391.ext E390).other W396 ne_b2_b390).other W402 ne_b2_b390).other W408 ne_b2_b390).other W414 ne_b2_b390).other W420 ne_b2_b390).other W426 ne_b2_b390).other W432 ne_b2_b390).other W438 ne_b2_b390).other W444 ne_b2_b390).other W450 ne_b2_b390).other W456 ne_b2_b390).other W462 ne_b2_b390).other W468 ne_b2_b390).other W474 ne_b2_b390).other W480 ne_b2_b390).other W486 ne_b2_b390).other W492 ne_b2_b390).other W498 ne_b2_b390).other W504 ne_b2_b390).other W510 ne_b2_b390).other W516 ne_b2_b390).other W522 ne_b2_b390).other W528 ne_b2_b390).other W534 ne_b2_b390).other W540 ne_b2_b390).other W546 ne_b2_b390).other W552 ne_b2_b390)
  rcases own_all p1 with hi | hi | hi | hi | hi | hi | hi | hi | hi | hi | hi | hi | hi | hi | hi | hi | hi | hi | hi | hi | hi | hi | hi | hi | hi | hi | hi
  · rw [(show (own_i p1) = (0 : Int32) from hi)] at kn564
    obtain ⟨s2, o2, t1, t2, t3, t4⟩ := tail_0 (n0 := n0) p1 p2 p3 w0 w1 w2 w3 w4 w5 w6 w7 w8 w9 w10 w11 w12 w13 w14 w15 w16 w17 w18 w19 w20 w21 w22 w23 w24 w25 w26 b2 b223 b390 kk2 (own_cnt p2 p3) (own_exp (own_lo (0 : Int32)) (own_hi (0 : Int32)) (own_cnt p2 p3)) X552 hx hZ hw hby hml hown Bd.returns (BodyLoose.notSynchronized Bd) e552 Nf555 Z553 O554 f571 E_w0 Fa0 Fb0 rfl
    exact ⟨s2, o2, hGl _ (kn564 _ t1), t2, t3, t4⟩
  · rw [(show (own_i p1) = (1 : Int32) from hi)] at kn564
    obtain ⟨s2, o2, t1, t2, t3, t4⟩ := tail_1 (n0 := n0) p1 p2 p3 w0 w1 w2 w3 w4 w5 w6 w7 w8 w9 w10 w11 w12 w13 w14 w15 w16 w17 w18 w19 w20 w21 w22 w23 w24 w25 w26 b2 b223 b390 kk2 (own_cnt p2 p3) (own_exp (own_lo (1 : Int32)) (own_hi (1 : Int32)) (own_cnt p2 p3)) X552 hx hZ hw hby hml hown Bd.returns (BodyLoose.notSynchronized Bd) e552 Nf555 Z553 O554 f571 E_w1 Fa1 Fb1 rfl
    exact ⟨s2, o2, hGl _ (kn564 _ t1), t2, t3, t4⟩
  · rw [(show (own_i p1) = (2 : Int32) from hi)] at kn564
    obtain ⟨s2, o2, t1, t2, t3, t4⟩ := tail_2 (n0 := n0) p1 p2 p3 w0 w1 w2 w3 w4 w5 w6 w7 w8 w9 w10 w11 w12 w13 w14 w15 w16 w17 w18 w19 w20 w21 w22 w23 w24 w25 w26 b2 b223 b390 kk2 (own_cnt p2 p3) (own_exp (own_lo (2 : Int32)) (own_hi (2 : Int32)) (own_cnt p2 p3)) X552 hx hZ hw hby hml hown Bd.returns (BodyLoose.notSynchronized Bd) e552 Nf555 Z553 O554 f571 E_w2 Fa2 Fb2 rfl
    exact ⟨s2, o2, hGl _ (kn564 _ t1), t2, t3, t4⟩
  · rw [(show (own_i p1) = (3 : Int32) from hi)] at kn564
    obtain ⟨s2, o2, t1, t2, t3, t4⟩ := tail_3 (n0 := n0) p1 p2 p3 w0 w1 w2 w3 w4 w5 w6 w7 w8 w9 w10 w11 w12 w13 w14 w15 w16 w17 w18 w19 w20 w21 w22 w23 w24 w25 w26 b2 b223 b390 kk2 (own_cnt p2 p3) (own_exp (own_lo (3 : Int32)) (own_hi (3 : Int32)) (own_cnt p2 p3)) X552 hx hZ hw hby hml hown Bd.returns (BodyLoose.notSynchronized Bd) e552 Nf555 Z553 O554 f571 E_w3 Fa3 Fb3 rfl
    exact ⟨s2, o2, hGl _ (kn564 _ t1), t2, t3, t4⟩
  · rw [(show (own_i p1) = (4 : Int32) from hi)] at kn564
    obtain ⟨s2, o2, t1, t2, t3, t4⟩ := tail_4 (n0 := n0) p1 p2 p3 w0 w1 w2 w3 w4 w5 w6 w7 w8 w9 w10 w11 w12 w13 w14 w15 w16 w17 w18 w19 w20 w21 w22 w23 w24 w25 w26 b2 b223 b390 kk2 (own_cnt p2 p3) (own_exp (own_lo (4 : Int32)) (own_hi (4 : Int32)) (own_cnt p2 p3)) X552 hx hZ hw hby hml hown Bd.returns (BodyLoose.notSynchronized Bd) e552 Nf555 Z553 O554 f571 E_w4 Fa4 Fb4 rfl
    exact ⟨s2, o2, hGl _ (kn564 _ t1), t2, t3, t4⟩
  · rw [(show (own_i p1) = (5 : Int32) from hi)] at kn564
    obtain ⟨s2, o2, t1, t2, t3, t4⟩ := tail_5 (n0 := n0) p1 p2 p3 w0 w1 w2 w3 w4 w5 w6 w7 w8 w9 w10 w11 w12 w13 w14 w15 w16 w17 w18 w19 w20 w21 w22 w23 w24 w25 w26 b2 b223 b390 kk2 (own_cnt p2 p3) (own_exp (own_lo (5 : Int32)) (own_hi (5 : Int32)) (own_cnt p2 p3)) X552 hx hZ hw hby hml hown Bd.returns (BodyLoose.notSynchronized Bd) e552 Nf555 Z553 O554 f571 E_w5 Fa5 Fb5 rfl
    exact ⟨s2, o2, hGl _ (kn564 _ t1), t2, t3, t4⟩
  · rw [(show (own_i p1) = (6 : Int32) from hi)] at kn564
    obtain ⟨s2, o2, t1, t2, t3, t4⟩ := tail_6 (n0 := n0) p1 p2 p3 w0 w1 w2 w3 w4 w5 w6 w7 w8 w9 w10 w11 w12 w13 w14 w15 w16 w17 w18 w19 w20 w21 w22 w23 w24 w25 w26 b2 b223 b390 kk2 (own_cnt p2 p3) (own_exp (own_lo (6 : Int32)) (own_hi (6 : Int32)) (own_cnt p2 p3)) X552 hx hZ hw hby hml hown Bd.returns (BodyLoose.notSynchronized Bd) e552 Nf555 Z553 O554 f571 E_w6 Fa6 Fb6 rfl
    exact ⟨s2, o2, hGl _ (kn564 _ t1), t2, t3, t4⟩
  · rw [(show (own_i p1) = (7 : Int32) from hi)] at kn564
    obtain ⟨s2, o2, t1, t2, t3, t4⟩ := tail_7 (n0 := n0) p1 p2 p3 w0 w1 w2 w3 w4 w5 w6 w7 w8 w9 w10 w11 w12 w13 w14 w15 w16 w17 w18 w19 w20 w21 w22 w23 w24 w25 w26 b2 b223 b390 kk2 (own_cnt p2 p3) (own_exp (own_lo (7 : Int32)) (own_hi (7 : Int32)) (own_cnt p2 p3)) X552 hx hZ hw hby hml hown Bd.returns (BodyLoose.notSynchronized Bd) e552 Nf555 Z553 O554 f571 E_w7 Fa7 Fb7 rfl
    exact ⟨s2, o2, hGl _ (kn564 _ t1), t2, t3, t4⟩
  · rw [(show (own_i p1) = (8 : Int32) from hi)] at kn564
    obtain ⟨s2, o2, t1, t2, t3, t4⟩ := tail_8 (n0 := n0) p1 p2 p3 w0 w1 w2 w3 w4 w5 w6 w7 w8 w9 w10 w11 w12 w13 w14 w15 w16 w17 w18 w19 w20 w21 w22 w23 w24 w25 w26 b2 b223 b390 kk2 (own_cnt p2 p3) (own_exp (own_lo (8 : Int32)) (own_hi (8 : Int32)) (own_cnt p2 p3)) X552 hx hZ hw hby hml hown Bd.returns (BodyLoose.notSynchronized Bd) e552 Nf555 Z553 O554 f571 E_w8 Fa8 Fb8 rfl
    exact ⟨s2, o2, hGl _ (kn564 _ t1), t2, t3, t4⟩
  · rw [(show (own_i p1) = (9 : Int32) from hi)] at kn564
    obtain ⟨s2, o2, t1, t2, t3, t4⟩ := tail_9 (n0 := n0) p1 p2 p3 w0 w1 w2 w3 w4 w5 w6 w7 w8 w9 w10 w11 w12 w13 w14 w15 w16 w17 w18 w19 w20 w21 w22 w23 w24 w25 w26 b2 b223 b390 kk2 (own_cnt p2 p3) (own_exp (own_lo (9 : Int32)) (own_hi (9 : Int32)) (own_cnt p2 p3)) X552 hx hZ hw hby hml hown Bd.returns (BodyLoose.notSynchronized Bd) e552 Nf555 Z553 O554 f571 E_w9 Fa9 Fb9 rfl
    exact ⟨s2, o2, hGl _ (kn564 _ t1), t2, t3, t4⟩
  · rw [(show (own_i p1) = (10 : Int32) from hi)] at kn564
    obtain ⟨s2, o2, t1, t2, t3, t4⟩ := tail_10 (n0 := n0) p1 p2 p3 w0 w1 w2 w3 w4 w5 w6 w7 w8 w9 w10 w11 w12 w13 w14 w15 w16 w17 w18 w19 w20 w21 w22 w23 w24 w25 w26 b2 b223 b390 kk2 (own_cnt p2 p3) (own_exp (own_lo (10 : Int32)) (own_hi (10 : Int32)) (own_cnt p2 p3)) X552 hx hZ hw hby hml hown Bd.returns (BodyLoose.notSynchronized Bd) e552 Nf555 Z553 O554 f571 E_w10 Fa10 Fb10 rfl
    exact ⟨s2, o2, hGl _ (kn564 _ t1), t2, t3, t4⟩
  · rw [(show (own_i p1) = (11 : Int32) from hi)] at kn564
    obtain ⟨s2, o2, t1, t2, t3, t4⟩ := tail_11 (n0 := n0) p1 p2 p3 w0 w1 w2 w3 w4 w5 w6 w7 w8 w9 w10 w11 w12 w13 w14 w15 w16 w17 w18 w19 w20 w21 w22 w23 w24 w25 w26 b2 b223 b390 kk2 (own_cnt p2 p3) (own_exp (own_lo (11 : Int32)) (own_hi (11 : Int32)) (own_cnt p2 p3)) X552 hx hZ hw hby hml hown Bd.returns (BodyLoose.notSynchronized Bd) e552 Nf555 Z553 O554 f571 E_w11 Fa11 Fb11 rfl
    exact ⟨s2, o2, hGl _ (kn564 _ t1), t2, t3, t4⟩
  · rw [(show (own_i p1) = (12 : Int32) from hi)] at kn564
    obtain ⟨s2, o2, t1, t2, t3, t4⟩ := tail_12 (n0 := n0) p1 p2 p3 w0 w1 w2 w3 w4 w5 w6 w7 w8 w9 w10 w11 w12 w13 w14 w15 w16 w17 w18 w19 w20 w21 w22 w23 w24 w25 w26 b2 b223 b390 kk2 (own_cnt p2 p3) (own_exp (own_lo (12 : Int32)) (own_hi (12 : Int32)) (own_cnt p2 p3)) X552 hx hZ hw hby hml hown Bd.returns (BodyLoose.notSynchronized Bd) e552 Nf555 Z553 O554 f571 E_w12 Fa12 Fb12 rfl
    exact ⟨s2, o2, hGl _ (kn564 _ t1), t2, t3, t4⟩
  · rw [(show (own_i p1) = (13 : Int32) from hi)] at kn564
    obtain ⟨s2, o2, t1, t2, t3, t4⟩ := tail_13 (n0 := n0) p1 p2 p3 w0 w1 w2 w3 w4 w5 w6 w7 w8 w9 w10 w11 w12 w13 w14 w15 w16 w17 w18 w19 w20 w21 w22 w23 w24 w25 w26 b2 b223 b390 kk2 (own_cnt p2 p3) (own_exp (own_lo (13 : Int32)) (own_hi (13 : Int32)) (own_cnt p2 p3)) X552 hx hZ hw hby hml hown Bd.returns (BodyLoose.notSynchronized Bd) e552 Nf555 Z553 O554 f571 E_w13 Fa13 Fb13 rfl
    exact ⟨s2, o2, hGl _ (kn564 _ t1), t2, t3, t4⟩
  · rw [(show (own_i p1) = (14 : Int32) from hi)] at kn564
    obtain ⟨s2, o2, t1, t2, t3, t4⟩ := tail_14 (n0 := n0) p1 p2 p3 w0 w1 w2 w3 w4 w5 w6 w7 w8 w9 w10 w11 w12 w13 w14 w15 w16 w17 w18 w19 w20 w21 w22 w23 w24 w25 w26 b2 b223 b390 kk2 (own_cnt p2 p3) (own_exp (own_lo (14 : Int32)) (own_hi (14 : Int32)) (own_cnt p2 p3)) X552 hx hZ hw hby hml hown Bd.returns (BodyLoose.notSynchronized Bd) e552 Nf555 Z553 O554 f571 E_w14 Fa14 Fb14 rfl
    exact ⟨s2, o2, hGl _ (kn564 _ t1), t2, t3, t4⟩
  · rw [(show (own_i p1) = (15 : Int32) from hi)] at kn564
    obtain ⟨s2, o2, t1, t2, t3, t4⟩ := tail_15 (n0 := n0) p1 p2 p3 w0 w1 w2 w3 w4 w5 w6 w7 w8 w9 w10 w11 w12 w13 w14 w15 w16 w17 w18 w19 w20 w21 w22 w23 w24 w25 w26 b2 b223 b390 kk2 (own_cnt p2 p3) (own_exp (own_lo (15 : Int32)) (own_hi (15 : Int32)) (own_cnt p2 p3)) X552 hx hZ hw hby hml hown Bd.returns (BodyLoose.notSynchronized Bd) e552 Nf555 Z553 O554 f571 E_w15 Fa15 Fb15 rfl
    exact ⟨s2, o2, hGl _ (kn564 _ t1), t2, t3, t4⟩
  · rw [(show (own_i p1) = (16 : Int32) from hi)] at kn564
    obtain ⟨s2, o2, t1, t2, t3, t4⟩ := tail_16 (n0 := n0) p1 p2 p3 w0 w1 w2 w3 w4 w5 w6 w7 w8 w9 w10 w11 w12 w13 w14 w15 w16 w17 w18 w19 w20 w21 w22 w23 w24 w25 w26 b2 b223 b390 kk2 (own_cnt p2 p3) (own_exp (own_lo (16 : Int32)) (own_hi (16 : Int32)) (own_cnt p2 p3)) X552 hx hZ hw hby hml hown Bd.returns (BodyLoose.notSynchronized Bd) e552 Nf555 Z553 O554 f571 E_w16 Fa16 Fb16 rfl
    exact ⟨s2, o2, hGl _ (kn564 _ t1), t2, t3, t4⟩
  · rw [(show (own_i p1) = (17 : Int32) from hi)] at kn564
    obtain ⟨s2, o2, t1, t2, t3, t4⟩ := tail_17 (n0 := n0) p1 p2 p3 w0 w1 w2 w3 w4 w5 w6 w7 w8 w9 w10 w11 w12 w13 w14 w15 w16 w17 w18 w19 w20 w21 w22 w23 w24 w25 w26 b2 b223 b390 kk2 (own_cnt p2 p3) (own_exp (own_lo (17 : Int32)) (own_hi (17 : Int32)) (own_cnt p2 p3)) X552 hx hZ hw hby hml hown Bd.returns (BodyLoose.notSynchronized Bd) e552 Nf555 Z553 O554 f571 E_w17 Fa17 Fb17 rfl
    exact ⟨s2, o2, hGl _ (kn564 _ t1), t2, t3, t4⟩
  · rw [(show (own_i p1) = (18 : Int32) from hi)] at kn564
    obtain ⟨s2, o2, t1, t2, t3, t4⟩ := tail_18 (n0 := n0) p1 p2 p3 w0 w1 w2 w3 w4 w5 w6 w7 w8 w9 w10 w11 w12 w13 w14 w15 w16 w17 w18 w19 w20 w21 w22 w23 w24 w25 w26 b2 b223 b390 kk2 (own_cnt p2 p3) (own_exp (own_lo (18 : Int32)) (own_hi (18 : Int32)) (own_cnt p2 p3)) X552 hx hZ hw hby hml hown Bd.returns (BodyLoose.notSynchronized Bd) e552 Nf555 Z553 O554 f571 E_w18 Fa18 Fb18 rfl
    exact ⟨s2, o2, hGl _ (kn564 _ t1), t2, t3, t4⟩
  · rw [(show (own_i p1) = (19 : Int32) from hi)] at kn564
    obtain ⟨s2, o2, t1, t2, t3, t4⟩ := tail_19 (n0 := n0) p1 p2 p3 w0 w1 w2 w3 w4 w5 w6 w7 w8 w9 w10 w11 w12 w13 w14 w15 w16 w17 w18 w19 w20 w21 w22 w23 w24 w25 w26 b2 b223 b390 kk2 (own_cnt p2 p3) (own_exp (own_lo (19 : Int32)) (own_hi (19 : Int32)) (own_cnt p2 p3)) X552 hx hZ hw hby hml hown Bd.returns (BodyLoose.notSynchronized Bd) e552 Nf555 Z553 O554 f571 E_w19 Fa19 Fb19 rfl
    exact ⟨s2, o2, hGl _ (kn564 _ t1), t2, t3, t4⟩
  · rw [(show (own_i p1) = (20 : Int32) from hi)] at kn564
    obtain ⟨s2, o2, t1, t2, t3, t4⟩ := tail_20 (n0 := n0) p1 p2 p3 w0 w1 w2 w3 w4 w5 w6 w7 w8 w9 w10 w11 w12 w13 w14 w15 w16 w17 w18 w19 w20 w21 w22 w23 w24 w25 w26 b2 b223 b390 kk2 (own_cnt p2 p3) (own_exp (own_lo (20 : Int32)) (own_hi (20 : Int32)) (own_cnt p2 p3)) X552 hx hZ hw hby hml hown Bd.returns (BodyLoose.notSynchronized Bd) e552 Nf555 Z553 O554 f571 E_w20 Fa20 Fb20 rfl
    exact ⟨s2, o2, hGl _ (kn564 _ t1), t2, t3, t4⟩
  · rw [(show (own_i p1) = (21 : Int32) from hi)] at kn564
    obtain ⟨s2, o2, t1, t2, t3, t4⟩ := tail_21 (n0 := n0) p1 p2 p3 w0 w1 w2 w3 w4 w5 w6 w7 w8 w9 w10 w11 w12 w13 w14 w15 w16 w17 w18 w19 w20 w21 w22 w23 w24 w25 w26 b2 b223 b390 kk2 (own_cnt p2 p3) (own_exp (own_lo (21 : Int32)) (own_hi (21 : Int32)) (own_cnt p2 p3)) X552 hx hZ hw hby hml hown Bd.returns (BodyLoose.notSynchronized Bd) e552 Nf555 Z553 O554 f571 E_w21 Fa21 Fb21 rfl
    exact ⟨s2, o2, hGl _ (kn564 _ t1), t2, t3, t4⟩
  · rw [(show (own_i p1) = (22 : Int32) from hi)] at kn564
    obtain ⟨s2, o2, t1, t2, t3, t4⟩ := tail_22 (n0 := n0) p1 p2 p3 w0 w1 w2 w3 w4 w5 w6 w7 w8 w9 w10 w11 w12 w13 w14 w15 w16 w17 w18 w19 w20 w21 w22 w23 w24 w25 w26 b2 b223 b390 kk2 (own_cnt p2 p3) (own_exp (own_lo (22 : Int32)) (own_hi (22 : Int32)) (own_cnt p2 p3)) X552 hx hZ hw hby hml hown Bd.returns (BodyLoose.notSynchronized Bd) e552 Nf555 Z553 O554 f571 E_w22 Fa22 Fb22 rfl
    exact ⟨s2, o2, hGl _ (kn564 _ t1), t2, t3, t4⟩
  · rw [(show (own_i p1) = (23 : Int32) from hi)] at kn564
    obtain ⟨s2, o2, t1, t2, t3, t4⟩ := tail_23 (n0 := n0) p1 p2 p3 w0 w1 w2 w3 w4 w5 w6 w7 w8 w9 w10 w11 w12 w13 w14 w15 w16 w17 w18 w19 w20 w21 w22 w23 w24 w25 w26 b2 b223 b390 kk2 (own_cnt p2 p3) (own_exp (own_lo (23 : Int32)) (own_hi (23 : Int32)) (own_cnt p2 p3)) X552 hx hZ hw hby hml hown Bd.returns (BodyLoose.notSynchronized Bd) e552 Nf555 Z553 O554 f571 E_w23 Fa23 Fb23 rfl
    exact ⟨s2, o2, hGl _ (kn564 _ t1), t2, t3, t4⟩
  · rw [(show (own_i p1) = (24 : Int32) from hi)] at kn564
    obtain ⟨s2, o2, t1, t2, t3, t4⟩ := tail_24 (n0 := n0) p1 p2 p3 w0 w1 w2 w3 w4 w5 w6 w7 w8 w9 w10 w11 w12 w13 w14 w15 w16 w17 w18 w19 w20 w21 w22 w23 w24 w25 w26 b2 b223 b390 kk2 (own_cnt p2 p3) (own_exp (own_lo (24 : Int32)) (own_hi (24 : Int32)) (own_cnt p2 p3)) X552 hx hZ hw hby hml hown Bd.returns (BodyLoose.notSynchronized Bd) e552 Nf555 Z553 O554 f571 E_w24 Fa24 Fb24 rfl
    exact ⟨s2, o2, hGl _ (kn564 _ t1), t2, t3, t4⟩
  · rw [(show (own_i p1) = (25 : Int32) from hi)] at kn564
    obtain ⟨s2, o2, t1, t2, t3, t4⟩ := tail_25 (n0 := n0) p1 p2 p3 w0 w1 w2 w3 w4 w5 w6 w7 w8 w9 w10 w11 w12 w13 w14 w15 w16 w17 w18 w19 w20 w21 w22 w23 w24 w25 w26 b2 b223 b390 kk2 (own_cnt p2 p3) (own_exp (own_lo (25 : Int32)) (own_hi (25 : Int32)) (own_cnt p2 p3)) X552 hx hZ hw hby hml hown Bd.returns (BodyLoose.notSynchronized Bd) e552 Nf555 Z553 O554 f571 E_w25 Fa25 Fb25 rfl
    exact ⟨s2, o2, hGl _ (kn564 _ t1), t2, t3, t4⟩
  · rw [(show (own_i p1) = (26 : Int32) from hi)] at kn564
    obtain ⟨s2, o2, t1, t2, t3, t4⟩ := tail_26 (n0 := n0) p1 p2 p3 w0 w1 w2 w3 w4 w5 w6 w7 w8 w9 w10 w11 w12 w13 w14 w15 w16 w17 w18 w19 w20 w21 w22 w23 w24 w25 w26 b2 b223 b390 kk2 (own_cnt p2 p3) (own_exp (own_lo (26 : Int32)) (own_hi (26 : Int32)) (own_cnt p2 p3)) X552 hx hZ hw hby hml hown Bd.returns (BodyLoose.notSynchronized Bd) e552 Nf555 Z553 O554 f571 E_w26 Fa26 Fb26 rfl
    exact ⟨s2, o2, hGl _ (kn564 _ t1), t2, t3, t4⟩

set_option maxRecDepth 65536 in
set_option maxHeartbeats 40000000 in
theorem comes_1 {Post : Tables → Env → Array Value → State → Outcome → State → Prop} (hpost : ∀ tb e args s v u, (limb_1_1.after args s (.returned v) u = true ∧ limb_1_2.after args s (.returned v) u = true ∧ True) → FrameEnd s (.returned v) u (Jvm.fieldLocs frame_1_writes args s ++ Jvm.arrayLocs frame_1_arrays args s ++ Jvm.staticLocs frame_1_statics s) 16 256 → Post tb e args s (.returned v) u) :
    ArmFor flags0 classFile x code maxLocals ret World_1 tables_1 room_1 Calls_1 rest_1 Pre_1 Post := by
  intro l hfl _ _ p e ha hc hk s m args below hf hA hF happ hP
  obtain ⟨hcalls, hrest, hpre⟩ := hP
  obtain ⟨-, -, -, hnamed, -, -, -, hat⟩ := (Spec.applies_iff hf).mp happ
  obtain ⟨hg, hn⟩ := and_e (Cond.before_iff.mp (show (Jvm.Cond.and given_1 narrow_1).before args s = true from hpre))
  obtain ⟨gc, gr0⟩ := and_e hg
  obtain ⟨ga0, gr1⟩ := and_e gr0
  obtain ⟨ga1, gr2⟩ := and_e gr1
  obtain ⟨w0, w1, w2, rfl⟩ : ∃ w0 w1 w2 : Value, args = #[w0, w1, w2] := by
    have hs : args.size = 3 := by simpa [Cond.value, given_1] using gc
    obtain ⟨L⟩ := args
    match L, hs with
    | [w0, w1, w2], _ => exact ⟨w0, w1, w2, rfl⟩
  have hw := fun d (hd : d ∈ tables_1) => atoms_spec (ws := Jvm.Cond.code x code maxLocals ret :: tables_1) hat d (List.mem_cons_of_mem _ hd)
  have hfit : Fit s := fun {y c} hc i hi => by
    obtain ⟨ha, rfl⟩ := Array.getElem?_eq_some_iff.mp hc
    have q := List.all_eq_true.mp ((Array.all_eq_true_iff_forall_mem.mp hF) _ (Array.getElem_mem ha)) i (List.mem_range.mpr hi)
    simpa [Array.getElem?_eq_getElem hi] using q
  obtain ⟨i0, ei0⟩ := is_v ga0
  obtain rfl : w0 = (.int i0) := Option.some.inj ei0
  obtain ⟨i1, ei1⟩ := is_v ga1
  obtain rfl : w1 = (.int i1) := Option.some.inj ei1
  obtain ⟨i2, ei2⟩ := is_v gr2
  obtain rfl : w2 = (.int i2) := Option.some.inj ei2
  obtain ⟨m0, r0⟩ := and_e hn
  obtain ⟨m1, r1⟩ := and_e r0
  obtain ⟨m2, r2⟩ := and_e r1
  obtain ⟨m3, r3⟩ := and_e r2
  obtain ⟨m4, r4⟩ := and_e r3
  obtain ⟨m5, r5⟩ := and_e r4
  obtain ⟨m6, r6⟩ := and_e r5
  obtain ⟨m7, r7⟩ := and_e r6
  obtain ⟨m8, r8⟩ := and_e r7
  obtain ⟨m9, r9⟩ := and_e r8
  obtain ⟨m10, r10⟩ := and_e r9
  obtain ⟨m11, r11⟩ := and_e r10
  obtain ⟨m12, r12⟩ := and_e r11
  obtain ⟨m13, r13⟩ := and_e r12
  obtain ⟨m14, r14⟩ := and_e r13
  obtain ⟨m15, r15⟩ := and_e r14
  obtain ⟨m16, r16⟩ := and_e r15
  obtain ⟨m17, r17⟩ := and_e r16
  obtain ⟨m18, r18⟩ := and_e r17
  obtain ⟨m19, r19⟩ := and_e r18
  obtain ⟨m20, r20⟩ := and_e r19
  obtain ⟨m21, r21⟩ := and_e r20
  obtain ⟨m22, r22⟩ := and_e r21
  obtain ⟨m23, r23⟩ := and_e r22
  obtain ⟨m24, r24⟩ := and_e r23
  obtain ⟨m25, r25⟩ := and_e r24
  obtain ⟨m26, r26⟩ := and_e r25
  obtain ⟨m27, r27⟩ := and_e r26
  obtain ⟨m28, r28⟩ := and_e r27
  obtain ⟨m29, r29⟩ := and_e r28
  obtain ⟨m30, r30⟩ := and_e r29
  obtain ⟨m31, r31⟩ := and_e r30
  obtain ⟨m32, r32⟩ := and_e r31
  obtain ⟨m33, r33⟩ := and_e r32
  obtain ⟨m34, r34⟩ := and_e r33
  obtain ⟨m35, r35⟩ := and_e r34
  obtain ⟨m36, r36⟩ := and_e r35
  obtain ⟨m37, r37⟩ := and_e r36
  obtain ⟨m38, r38⟩ := and_e r37
  obtain ⟨m39, r39⟩ := and_e r38
  obtain ⟨m40, r40⟩ := and_e r39
  obtain ⟨m41, r41⟩ := and_e r40
  obtain ⟨m42, r42⟩ := and_e r41
  obtain ⟨m43, r43⟩ := and_e r42
  obtain ⟨m44, r44⟩ := and_e r43
  obtain ⟨m45, r45⟩ := and_e r44
  obtain ⟨m46, r46⟩ := and_e r45
  obtain ⟨m47, r47⟩ := and_e r46
  obtain ⟨m48, r48⟩ := and_e r47
  obtain ⟨m49, r49⟩ := and_e r48
  obtain ⟨m50, r50⟩ := and_e r49
  obtain ⟨m51, r51⟩ := and_e r50
  obtain ⟨m52, r52⟩ := and_e r51
  obtain ⟨m53, r53⟩ := and_e r52
  obtain ⟨m54, r54⟩ := and_e r53
  obtain ⟨m55, r55⟩ := and_e r54
  obtain ⟨m56, r56⟩ := and_e r55
  obtain ⟨m57, r57⟩ := and_e r56
  obtain ⟨m58, r58⟩ := and_e r57
  obtain ⟨m59, r59⟩ := and_e r58
  obtain ⟨m60, r60⟩ := and_e r59
  obtain ⟨m61, r61⟩ := and_e r60
  obtain ⟨m62, r62⟩ := and_e r61
  obtain ⟨m63, r63⟩ := and_e r62
  obtain ⟨m64, r64⟩ := and_e r63
  obtain ⟨m65, r65⟩ := and_e r64
  obtain ⟨m66, r66⟩ := and_e r65
  obtain ⟨m67, r67⟩ := and_e r66
  obtain ⟨m68, r68⟩ := and_e r67
  obtain ⟨m69, r69⟩ := and_e r68
  obtain ⟨m70, r70⟩ := and_e r69
  obtain ⟨m71, r71⟩ := and_e r70
  obtain ⟨m72, r72⟩ := and_e r71
  obtain ⟨m73, r73⟩ := and_e r72
  obtain ⟨m74, r74⟩ := and_e r73
  obtain ⟨m75, r75⟩ := and_e r74
  obtain ⟨m76, r76⟩ := and_e r75
  obtain ⟨m77, r77⟩ := and_e r76
  obtain ⟨m78, r78⟩ := and_e r77
  obtain ⟨m79, r79⟩ := and_e r78
  have m80 := r79
  obtain ⟨w0_, v0⟩ := exa_v m0
  obtain ⟨w1_, v1⟩ := exa_v m1
  obtain ⟨w2_, v2⟩ := exa_v m2
  obtain ⟨w3_, v3⟩ := exa_v m3
  obtain ⟨w4_, v4⟩ := exa_v m4
  obtain ⟨w5_, v5⟩ := exa_v m5
  obtain ⟨w6_, v6⟩ := exa_v m6
  obtain ⟨w7_, v7⟩ := exa_v m7
  obtain ⟨w8_, v8⟩ := exa_v m8
  obtain ⟨w9_, v9⟩ := exa_v m9
  obtain ⟨w10_, v10⟩ := exa_v m10
  obtain ⟨w11_, v11⟩ := exa_v m11
  obtain ⟨w12_, v12⟩ := exa_v m12
  obtain ⟨w13_, v13⟩ := exa_v m13
  obtain ⟨w14_, v14⟩ := exa_v m14
  obtain ⟨w15_, v15⟩ := exa_v m15
  obtain ⟨w16_, v16⟩ := exa_v m16
  obtain ⟨w17_, v17⟩ := exa_v m17
  obtain ⟨w18_, v18⟩ := exa_v m18
  obtain ⟨w19_, v19⟩ := exa_v m19
  obtain ⟨w20_, v20⟩ := exa_v m20
  obtain ⟨w21_, v21⟩ := exa_v m21
  obtain ⟨w22_, v22⟩ := exa_v m22
  obtain ⟨w23_, v23⟩ := exa_v m23
  obtain ⟨w24_, v24⟩ := exa_v m24
  obtain ⟨w25_, v25⟩ := exa_v m25
  obtain ⟨w26_, v26⟩ := exa_v m26
  obtain ⟨n, o, h1, h2, h3, _, L, rfl, ⟨rfl, N⟩, hq⟩ := rm0 l s _ hw tables_1 i0 i1 i2 w0_ w1_ w2_ w3_ w4_ w5_ w6_ w7_ w8_ w9_ w10_ w11_ w12_ w13_ w14_ w15_ w16_ w17_ w18_ w19_ w20_ w21_ w22_ w23_ w24_ w25_ w26_ s.heap s.heap.size (Nat.le_refl _) (Old.start s) (Sta.start v0 (Or.inr ⟨(hw _ (List.mem_of_getElem? (i := 3) rfl)), (hw _ (List.mem_of_getElem? (i := 4) rfl))⟩)) (Exa.start v0 m0) (Fld.start ((fld_at v0).symm.trans (own_eqi m27))) (Fld.start ((fld_at v0).symm.trans (own_eqi m28))) (Sta.start v1 (Or.inr ⟨(hw _ (List.mem_of_getElem? (i := 3) rfl)), (hw _ (List.mem_of_getElem? (i := 7) rfl))⟩)) (Exa.start v1 m1) (Fld.start ((fld_at v1).symm.trans (own_eqi m29))) (Fld.start ((fld_at v1).symm.trans (own_eqi m30))) (Sta.start v2 (Or.inr ⟨(hw _ (List.mem_of_getElem? (i := 3) rfl)), (hw _ (List.mem_of_getElem? (i := 10) rfl))⟩)) (Exa.start v2 m2) (Fld.start ((fld_at v2).symm.trans (own_eqi m31))) (Fld.start ((fld_at v2).symm.trans (own_eqi m32))) (Sta.start v3 (Or.inr ⟨(hw _ (List.mem_of_getElem? (i := 3) rfl)), (hw _ (List.mem_of_getElem? (i := 13) rfl))⟩)) (Exa.start v3 m3) (Fld.start ((fld_at v3).symm.trans (own_eqi m39))) (Fld.start ((fld_at v3).symm.trans (own_eqi m40))) (Sta.start v4 (Or.inr ⟨(hw _ (List.mem_of_getElem? (i := 3) rfl)), (hw _ (List.mem_of_getElem? (i := 16) rfl))⟩)) (Exa.start v4 m4) (Fld.start ((fld_at v4).symm.trans (own_eqi m65))) (Fld.start ((fld_at v4).symm.trans (own_eqi m66))) (Sta.start v5 (Or.inr ⟨(hw _ (List.mem_of_getElem? (i := 3) rfl)), (hw _ (List.mem_of_getElem? (i := 19) rfl))⟩)) (Exa.start v5 m5) (Fld.start ((fld_at v5).symm.trans (own_eqi m56))) (Fld.start ((fld_at v5).symm.trans (own_eqi m57))) (Sta.start v6 (Or.inr ⟨(hw _ (List.mem_of_getElem? (i := 3) rfl)), (hw _ (List.mem_of_getElem? (i := 22) rfl))⟩)) (Exa.start v6 m6) (Fld.start ((fld_at v6).symm.trans (own_eqi m54))) (Fld.start ((fld_at v6).symm.trans (own_eqi m55))) (Sta.start v7 (Or.inr ⟨(hw _ (List.mem_of_getElem? (i := 3) rfl)), (hw _ (List.mem_of_getElem? (i := 25) rfl))⟩)) (Exa.start v7 m7) (Fld.start ((fld_at v7).symm.trans (own_eqi m37))) (Fld.start ((fld_at v7).symm.trans (own_eqi m38))) (Sta.start v8 (Or.inr ⟨(hw _ (List.mem_of_getElem? (i := 3) rfl)), (hw _ (List.mem_of_getElem? (i := 28) rfl))⟩)) (Exa.start v8 m8) (Fld.start ((fld_at v8).symm.trans (own_eqi m33))) (Fld.start ((fld_at v8).symm.trans (own_eqi m36))) (Sta.start v9 (Or.inr ⟨(hw _ (List.mem_of_getElem? (i := 3) rfl)), (hw _ (List.mem_of_getElem? (i := 31) rfl))⟩)) (Exa.start v9 m9) (Fld.start ((fld_at v9).symm.trans (own_eqi m63))) (Fld.start ((fld_at v9).symm.trans (own_eqi m64))) (Sta.start v10 (Or.inr ⟨(hw _ (List.mem_of_getElem? (i := 3) rfl)), (hw _ (List.mem_of_getElem? (i := 34) rfl))⟩)) (Exa.start v10 m10) (Fld.start ((fld_at v10).symm.trans (own_eqi m41))) (Fld.start ((fld_at v10).symm.trans (own_eqi m42))) (Sta.start v11 (Or.inr ⟨(hw _ (List.mem_of_getElem? (i := 3) rfl)), (hw _ (List.mem_of_getElem? (i := 37) rfl))⟩)) (Exa.start v11 m11) (Fld.start ((fld_at v11).symm.trans (own_eqi m49))) (Fld.start ((fld_at v11).symm.trans (own_eqi m73))) (Sta.start v12 (Or.inr ⟨(hw _ (List.mem_of_getElem? (i := 3) rfl)), (hw _ (List.mem_of_getElem? (i := 40) rfl))⟩)) (Exa.start v12 m12) (Fld.start ((fld_at v12).symm.trans (own_eqi m67))) (Fld.start ((fld_at v12).symm.trans (own_eqi m68))) (Sta.start v13 (Or.inr ⟨(hw _ (List.mem_of_getElem? (i := 3) rfl)), (hw _ (List.mem_of_getElem? (i := 43) rfl))⟩)) (Exa.start v13 m13) (Fld.start ((fld_at v13).symm.trans (own_eqi m52))) (Fld.start ((fld_at v13).symm.trans (own_eqi m75))) (Sta.start v14 (Or.inr ⟨(hw _ (List.mem_of_getElem? (i := 3) rfl)), (hw _ (List.mem_of_getElem? (i := 46) rfl))⟩)) (Exa.start v14 m14) (Fld.start ((fld_at v14).symm.trans (own_eqi m58))) (Fld.start ((fld_at v14).symm.trans (own_eqi m59))) (Sta.start v15 (Or.inr ⟨(hw _ (List.mem_of_getElem? (i := 3) rfl)), (hw _ (List.mem_of_getElem? (i := 49) rfl))⟩)) (Exa.start v15 m15) (Fld.start ((fld_at v15).symm.trans (own_eqi m78))) (Fld.start ((fld_at v15).symm.trans (own_eqi m79))) (Sta.start v16 (Or.inr ⟨(hw _ (List.mem_of_getElem? (i := 3) rfl)), (hw _ (List.mem_of_getElem? (i := 52) rfl))⟩)) (Exa.start v16 m16) (Fld.start ((fld_at v16).symm.trans (own_eqi m43))) (Fld.start ((fld_at v16).symm.trans (own_eqi m44))) (Sta.start v17 (Or.inr ⟨(hw _ (List.mem_of_getElem? (i := 3) rfl)), (hw _ (List.mem_of_getElem? (i := 55) rfl))⟩)) (Exa.start v17 m17) (Fld.start ((fld_at v17).symm.trans (own_eqi m45))) (Fld.start ((fld_at v17).symm.trans (own_eqi m46))) (Sta.start v18 (Or.inr ⟨(hw _ (List.mem_of_getElem? (i := 3) rfl)), (hw _ (List.mem_of_getElem? (i := 58) rfl))⟩)) (Exa.start v18 m18) (Fld.start ((fld_at v18).symm.trans (own_eqi m53))) (Fld.start ((fld_at v18).symm.trans (own_eqi m71))) (Sta.start v19 (Or.inr ⟨(hw _ (List.mem_of_getElem? (i := 3) rfl)), (hw _ (List.mem_of_getElem? (i := 61) rfl))⟩)) (Exa.start v19 m19) (Fld.start ((fld_at v19).symm.trans (own_eqi m47))) (Fld.start ((fld_at v19).symm.trans (own_eqi m48))) (Sta.start v20 (Or.inr ⟨(hw _ (List.mem_of_getElem? (i := 3) rfl)), (hw _ (List.mem_of_getElem? (i := 64) rfl))⟩)) (Exa.start v20 m20) (Fld.start ((fld_at v20).symm.trans (own_eqi m60))) (Fld.start ((fld_at v20).symm.trans (own_eqi m61))) (Sta.start v21 (Or.inr ⟨(hw _ (List.mem_of_getElem? (i := 3) rfl)), (hw _ (List.mem_of_getElem? (i := 67) rfl))⟩)) (Exa.start v21 m21) (Fld.start ((fld_at v21).symm.trans (own_eqi m69))) (Fld.start ((fld_at v21).symm.trans (own_eqi m70))) (Sta.start v22 (Or.inr ⟨(hw _ (List.mem_of_getElem? (i := 3) rfl)), (hw _ (List.mem_of_getElem? (i := 70) rfl))⟩)) (Exa.start v22 m22) (Fld.start ((fld_at v22).symm.trans (own_eqi m76))) (Fld.start ((fld_at v22).symm.trans (own_eqi m77))) (Sta.start v23 (Or.inr ⟨(hw _ (List.mem_of_getElem? (i := 3) rfl)), (hw _ (List.mem_of_getElem? (i := 73) rfl))⟩)) (Exa.start v23 m23) (Fld.start ((fld_at v23).symm.trans (own_eqi m74))) (Fld.start ((fld_at v23).symm.trans (own_eqi m80))) (Sta.start v24 (Or.inr ⟨(hw _ (List.mem_of_getElem? (i := 3) rfl)), (hw _ (List.mem_of_getElem? (i := 76) rfl))⟩)) (Exa.start v24 m24) (Fld.start ((fld_at v24).symm.trans (own_eqi m34))) (Fld.start ((fld_at v24).symm.trans (own_eqi m35))) (Sta.start v25 (Or.inr ⟨(hw _ (List.mem_of_getElem? (i := 3) rfl)), (hw _ (List.mem_of_getElem? (i := 79) rfl))⟩)) (Exa.start v25 m25) (Fld.start ((fld_at v25).symm.trans (own_eqi m50))) (Fld.start ((fld_at v25).symm.trans (own_eqi m51))) (Sta.start v26 (Or.inr ⟨(hw _ (List.mem_of_getElem? (i := 3) rfl)), (hw _ (List.mem_of_getElem? (i := 82) rfl))⟩)) (Exa.start v26 m26) (Fld.start ((fld_at v26).symm.trans (own_eqi m62))) (Fld.start ((fld_at v26).symm.trans (own_eqi m72))) p e ha hc hk s m _ below hf ((Spec.applies_iff_loose hf).mp happ).1 ⟨rfl, State.Warmed39.refl s, rfl⟩ trivial
  refine ⟨n, _, h1, h2, h3, hpost _ _ _ _ _ _ ⟨Cond.after_iff.mpr rfl, Cond.after_iff.mpr (eq_i res_at (Term.int_eval (1)) rfl), trivial⟩ ⟨hq.1, hq.2.1, (hq.2.2.sift fun y hy => Or.inr (N y hy)).mono (by decide) (by decide)⟩⟩
theorem main_1_1 : Claimed_1_1 := comes_1 fun _ _ _ _ _ _ h hF => ⟨h.1, hF⟩
theorem main_1_2 : Claimed_1_2 := comes_1 fun _ _ _ _ _ _ h hF => ⟨h.2.1, hF⟩

end Jvm.Pilot.@@N@@
namespace Jvm.Pilot.@@N@@
open Jvm Jvm.ClassFile Sem Op Lib Jvm.Free Jvm.Stand Jvm.Pilot.@@N@@.Jvm.D
/-! MADE BY PROGRAM (witnessworld.py) out of the Statement's table words and the real class files: 41 classes; the members and pool entries that the words name. The judged class is class 1, her method 1. -/
namespace start1
open Jvm.ClassFile
def u (s : String) : CpInfo := .utf8 (stringToUtf16 s)
/-- a pool by its gaps: so many unusable entries, then the entry; so many at the end -/
def gap : Nat → List CpInfo → List CpInfo
  | 0, r => r
  | n + 1, r => .unusable :: gap n r
def poolList (es : List (Nat × CpInfo)) (last : Nat) : List CpInfo := es.foldr (fun e r => gap e.1 (e.2 :: r)) (gap last [])
def pool (es : List (Nat × CpInfo)) (last : Nat) : Array CpInfo := ⟨poolList es last⟩
def fileOf (pool : Array CpInfo) (this : Nat) (attrs : Array Attribute := #[]) (ms : Array MethodInfo := #[]) (fl : Nat := 33) (sup : Nat := 0) (ifs : Array Nat := #[]) (fds : Array FieldInfo := #[]) : ClassFile where
  minorVersion := 0
  majorVersion := 65
  constantPool := pool
  accessFlags := fl
  thisClass := this
  superClass := sup
  interfaces := ifs
  fields := fds
  methods := ms
  attributes := attrs
def plain (name : String) (sup : Option ClassId) : Class where
  name := name
  kind := .ordinary
  loader := none
  accessFlags := 33
  super := sup
  interfaces := #[]
  cf := none
  fields := #[]
  methods := #[]
  instanceTypes := #[]
  staticTypes := #[]
  resolved := #[]
  callSites := []
  init := .initialized
  statics := none
  mirror := none

def pool0 : Array CpInfo := pool [(5, u "<init>"), (0, u "()V"), (1, .class_ 10), (1, u "java/lang/Object")] 113

def k0m0 : Method := { name := "<init>", desc := "()V", sig := { parameters := [], returnType := none }, accessFlags := 1, code := none }
/-- java/lang/Object -/
def k0 : Class := { plain "java/lang/Object" none with
  accessFlags := 33
  interfaces := #[]
  cf := some (fileOf pool0 8 #[] #[{ accessFlags := 1, nameIndex := 5, descriptorIndex := 6, attributes := #[] }] 33 0 #[] #[])
  fields := #[]
  methods := #[k0m0]
  instanceTypes := #[]
  staticTypes := #[]
  resolved := Array.replicate 124 none
  statics := none }

def pool1 : Array CpInfo := pool [(2, .class_ 4), (1, u "java/lang/Object"), (0, u "<init>"), (0, u "()V"), (0, .class_ 8), (0, u "com/example/rowan/rowan/xpath/CoreFunction"), (0, .fieldref 7 10), (0, .nameAndType 11 12), (0, u "LAST"), (0, u "Lcom/example/rowan/rowan/xpath/CoreFunction;"), (0, .fieldref 7 14), (0, .nameAndType 15 12), (0, u "POSITION"), (0, .fieldref 7 17), (0, .nameAndType 18 12), (0, u "COUNT"), (0, .fieldref 7 20), (0, .nameAndType 21 12), (0, u "ID"), (0, .fieldref 7 23), (0, .nameAndType 24 12), (0, u "LOCAL_NAME"), (0, .fieldref 7 26), (0, .nameAndType 27 12), (0, u "NAMESPACE_URI"), (0, .fieldref 7 29), (0, .nameAndType 30 12), (0, u "NAME"), (0, .fieldref 7 32), (0, .nameAndType 33 12), (0, u "STRING"), (0, .fieldref 7 35), (0, .nameAndType 36 12), (0, u "CONCAT"), (0, .fieldref 7 38), (0, .nameAndType 39 12), (0, u "STARTS_WITH"), (0, .fieldref 7 41), (0, .nameAndType 42 12), (0, u "CONTAINS"), (0, .fieldref 7 44), (0, .nameAndType 45 12), (0, u "SUBSTRING_BEFORE"), (0, .fieldref 7 47), (0, .nameAndType 48 12), (0, u "SUBSTRING_AFTER"), (0, .fieldref 7 50), (0, .nameAndType 51 12), (0, u "SUBSTRING"), (0, .fieldref 7 53), (0, .nameAndType 54 12), (0, u "STRING_LENGTH"), (0, .fieldref 7 56), (0, .nameAndType 57 12), (0, u "NORMALIZE_SPACE"), (0, .fieldref 7 59), (0, .nameAndType 60 12), (0, u "TRANSLATE"), (0, .fieldref 7 62), (0, .nameAndType 63 12), (0, u "BOOLEAN"), (0, .fieldref 7 65), (0, .nameAndType 66 12), (0, u "NOT"), (0, .fieldref 7 68), (0, .nameAndType 69 12), (0, u "TRUE"), (0, .fieldref 7 71), (0, .nameAndType 72 12), (0, u "FALSE"), (0, .fieldref 7 74), (0, .nameAndType 75 12), (0, u "LANG"), (0, .fieldref 7 77), (0, .nameAndType 78 12), (0, u "NUMBER"), (0, .fieldref 7 80), (0, .nameAndType 81 12), (0, u "SUM"), (0, .fieldref 7 83), (0, .nameAndType 84 12), (0, u "FLOOR"), (0, .fieldref 7 86), (0, .nameAndType 87 12), (0, u "CEILING"), (0, .fieldref 7 89), (0, .nameAndType 90 12), (0, u "ROUND"), (2, .integer 2147483647), (0, .methodref 7 95), (0, .nameAndType 96 97), (0, u "takes"), (0, u "(I)Z"), (0, .class_ 99), (0, u "com/example/rowan/rowan/xpath/CoreFunctionTakesPinLaw"), (2, u "law"), (0, u "(III)Z")] 7

def k1m0 : Method := { name := "<init>", desc := "()V", sig := { parameters := [], returnType := none }, accessFlags := 1, code := none }
def k1c1 : Code := { maxStack := 4, maxLocals := 9, code := code, exceptionTable := #[], attributes := #[] }
def k1m1 : Method := { name := "law", desc := "(III)Z", sig := { parameters := [.int, .int, .int], returnType := some .boolean }, accessFlags := 9, code := some k1c1 }
/-- com/example/rowan/rowan/xpath/CoreFunctionTakesPinLaw -/
def k1 : Class := { plain "com/example/rowan/rowan/xpath/CoreFunctionTakesPinLaw" (some 0) with
  accessFlags := 49
  interfaces := #[]
  cf := some (fileOf pool1 98 #[] #[{ accessFlags := 1, nameIndex := 5, descriptorIndex := 6, attributes := #[] }, { accessFlags := 9, nameIndex := 102, descriptorIndex := 103, attributes := #[] }] 49 2 #[] #[])
  fields := #[]
  methods := #[k1m0, k1m1]
  instanceTypes := #[]
  staticTypes := #[]
  resolved := Array.replicate 111 none
  statics := none }

def pool2 : Array CpInfo := pool [(1, .class_ 2), (0, u "java/lang/constant/Constable"), (0, .class_ 4), (0, u "java/lang/Object")] 6

/-- java/lang/constant/Constable -/
def k2 : Class := { plain "java/lang/constant/Constable" (some 0) with
  accessFlags := 1537
  interfaces := #[]
  cf := some (fileOf pool2 1 #[] #[] 1537 3 #[] #[])
  fields := #[]
  methods := #[]
  instanceTypes := #[]
  staticTypes := #[]
  resolved := Array.replicate 11 none
  statics := none }

def pool3 : Array CpInfo := pool [(1, .class_ 2), (0, u "java/lang/Comparable"), (0, .class_ 4), (0, u "java/lang/Object")] 7

/-- java/lang/Comparable -/
def k3 : Class := { plain "java/lang/Comparable" (some 0) with
  accessFlags := 1537
  interfaces := #[]
  cf := some (fileOf pool3 1 #[] #[] 1537 3 #[] #[])
  fields := #[]
  methods := #[]
  instanceTypes := #[]
  staticTypes := #[]
  resolved := Array.replicate 12 none
  statics := none }

def pool4 : Array CpInfo := pool [(1, .class_ 2), (0, u "java/io/Serializable"), (0, .class_ 4), (0, u "java/lang/Object")] 2

/-- java/io/Serializable -/
def k4 : Class := { plain "java/io/Serializable" (some 0) with
  accessFlags := 1537
  interfaces := #[]
  cf := some (fileOf pool4 1 #[] #[] 1537 3 #[] #[])
  fields := #[]
  methods := #[]
  instanceTypes := #[]
  staticTypes := #[]
  resolved := Array.replicate 7 none
  statics := none }

def pool5 : Array CpInfo := pool [(2, .class_ 4), (1, u "java/lang/Enum"), (0, u "name"), (0, u "Ljava/lang/String;"), (2, u "ordinal"), (0, u "I"), (1, .class_ 14), (1, u "java/lang/Object"), (4, u "hash"), (86, .class_ 108), (1, u "java/lang/Enum$EnumDesc"), (2, .class_ 112), (0, u "java/lang/constant/Constable"), (0, .class_ 114), (0, u "java/lang/Comparable"), (0, .class_ 116), (0, u "java/io/Serializable")] 87

/-- java/lang/Enum -/
def k5 : Class := { plain "java/lang/Enum" (some 0) with
  accessFlags := 1057
  interfaces := #[2, 3, 4]
  cf := some (fileOf pool5 2 #[.nestMembers #[106]] #[] 1057 12 #[111, 113, 115] #[{ accessFlags := 18, nameIndex := 5, descriptorIndex := 6, attributes := #[] }, { accessFlags := 18, nameIndex := 9, descriptorIndex := 10, attributes := #[] }, { accessFlags := 2, nameIndex := 19, descriptorIndex := 10, attributes := #[] }])
  fields := #[{ name := "name", type := (.object "java/lang/String"), accessFlags := 18, slot := 0, constantValue := 0 }, { name := "ordinal", type := .int, accessFlags := 18, slot := 1, constantValue := 0 }, { name := "hash", type := .int, accessFlags := 2, slot := 2, constantValue := 0 }]
  methods := #[]
  instanceTypes := #[(.object "java/lang/String"), .int, .int]
  staticTypes := #[]
  resolved := Array.replicate 204 none
  statics := none }

def pool6 : Array CpInfo := pool [(31, .class_ 32), (0, u "com/example/rowan/rowan/xpath/LibraryFunction"), (0, .class_ 34), (0, u "java/lang/Object")] 25

/-- com/example/rowan/rowan/xpath/LibraryFunction -/
def k6 : Class := { plain "com/example/rowan/rowan/xpath/LibraryFunction" (some 0) with
  accessFlags := 1537
  interfaces := #[]
  cf := some (fileOf pool6 31 #[] #[] 1537 33 #[] #[])
  fields := #[]
  methods := #[]
  instanceTypes := #[]
  staticTypes := #[]
  resolved := Array.replicate 60 none
  statics := none }

def pool7 : Array CpInfo := pool [(1, .class_ 2), (0, u "com/example/rowan/rowan/xpath/CoreFunction"), (2, u "LAST"), (0, u "Lcom/example/rowan/rowan/xpath/CoreFunction;"), (2, u "POSITION"), (2, u "COUNT"), (2, u "ID"), (2, u "LOCAL_NAME"), (2, u "NAMESPACE_URI"), (2, u "NAME"), (2, u "STRING"), (2, u "CONCAT"), (2, u "STARTS_WITH"), (2, u "CONTAINS"), (2, u "SUBSTRING_BEFORE"), (2, u "SUBSTRING_AFTER"), (2, u "SUBSTRING"), (2, u "STRING_LENGTH"), (2, u "NORMALIZE_SPACE"), (2, u "TRANSLATE"), (2, u "BOOLEAN"), (2, u "NOT"), (2, u "TRUE"), (2, u "FALSE"), (2, u "LANG"), (2, u "NUMBER"), (2, u "SUM"), (2, u "FLOOR"), (2, u "CEILING"), (2, u "ROUND"), (2, u "$VALUES"), (0, u "[Lcom/example/rowan/rowan/xpath/CoreFunction;"), (6, .class_ 97), (1, u "java/lang/Enum"), (8, u "functionName"), (0, u "Ljava/lang/String;"), (2, u "type"), (0, u "Lcom/example/rowan/rowan/xpath/ValueType;"), (0, .fieldref 1 113), (0, .nameAndType 114 115), (0, u "minimumArguments"), (0, u "I"), (0, .fieldref 1 117), (0, .nameAndType 118 115), (0, u "maximumArguments"), (2, u "parameters"), (0, u "[Lcom/example/rowan/rowan/xpath/ValueType;"), (58, .class_ 182), (0, u "com/example/rowan/rowan/xpath/CoreFunction$1"), (10, .class_ 194), (0, u "com/example/rowan/rowan/xpath/CoreFunction$2"), (4, .class_ 200), (0, u "com/example/rowan/rowan/xpath/CoreFunction$3"), (7, .class_ 209), (0, u "com/example/rowan/rowan/xpath/CoreFunction$4"), (7, .class_ 218), (0, u "com/example/rowan/rowan/xpath/CoreFunction$5"), (6, .class_ 226), (0, u "com/example/rowan/rowan/xpath/CoreFunction$6"), (4, .class_ 232), (0, u "com/example/rowan/rowan/xpath/CoreFunction$7"), (4, .class_ 238), (0, u "com/example/rowan/rowan/xpath/CoreFunction$8"), (4, .class_ 244), (0, u "com/example/rowan/rowan/xpath/CoreFunction$9"), (7, .class_ 253), (0, u "com/example/rowan/rowan/xpath/CoreFunction$10"), (6, .class_ 261), (0, u "com/example/rowan/rowan/xpath/CoreFunction$11"), (4, .class_ 267), (0, u "com/example/rowan/rowan/xpath/CoreFunction$12"), (4, .class_ 273), (0, u "com/example/rowan/rowan/xpath/CoreFunction$13"), (4, .class_ 279), (0, u "com/example/rowan/rowan/xpath/CoreFunction$14"), (4, .class_ 285), (0, u "com/example/rowan/rowan/xpath/CoreFunction$15"), (4, .class_ 291), (0, u "com/example/rowan/rowan/xpath/CoreFunction$16"), (4, .class_ 297), (0, u "com/example/rowan/rowan/xpath/CoreFunction$17"), (4, .class_ 303), (0, u "com/example/rowan/rowan/xpath/CoreFunction$18"), (4, .class_ 309), (0, u "com/example/rowan/rowan/xpath/CoreFunction$19"), (4, .class_ 315), (0, u "com/example/rowan/rowan/xpath/CoreFunction$20"), (4, .class_ 321), (0, u "com/example/rowan/rowan/xpath/CoreFunction$21"), (4, .class_ 327), (0, u "com/example/rowan/rowan/xpath/CoreFunction$22"), (4, .class_ 333), (0, u "com/example/rowan/rowan/xpath/CoreFunction$23"), (4, .class_ 339), (0, u "com/example/rowan/rowan/xpath/CoreFunction$24"), (4, .class_ 345), (0, u "com/example/rowan/rowan/xpath/CoreFunction$25"), (4, .class_ 351), (0, u "com/example/rowan/rowan/xpath/CoreFunction$26"), (4, .class_ 357), (0, u "com/example/rowan/rowan/xpath/CoreFunction$27"), (7, .class_ 366), (0, u "com/example/rowan/rowan/xpath/LibraryFunction"), (0, u "REMOVED"), (10, u "takes"), (0, u "(I)Z")] 20

def k7c0 : Code := { maxStack := 2, maxLocals := 2, code := prog_14_method_5_code, exceptionTable := #[], attributes := #[] }
def k7m0 : Method := { name := "takes", desc := "(I)Z", sig := { parameters := [.int], returnType := some .boolean }, accessFlags := 1, code := some k7c0 }
/-- com/example/rowan/rowan/xpath/CoreFunction -/
def k7 : Class := { plain "com/example/rowan/rowan/xpath/CoreFunction" (some 5) with
  accessFlags := 17440
  interfaces := #[6]
  cf := some (fileOf pool7 1 #[.nestMembers #[356, 350, 344, 338, 332, 326, 320, 314, 308, 302, 296, 290, 284, 278, 272, 266, 260, 252, 243, 237, 231, 225, 217, 208, 199, 193, 181]] #[{ accessFlags := 1, nameIndex := 378, descriptorIndex := 379, attributes := #[] }] 17440 95 #[365] #[{ accessFlags := 16409, nameIndex := 5, descriptorIndex := 6, attributes := #[] }, { accessFlags := 16409, nameIndex := 9, descriptorIndex := 6, attributes := #[] }, { accessFlags := 16409, nameIndex := 12, descriptorIndex := 6, attributes := #[] }, { accessFlags := 16409, nameIndex := 15, descriptorIndex := 6, attributes := #[] }, { accessFlags := 16409, nameIndex := 18, descriptorIndex := 6, attributes := #[] }, { accessFlags := 16409, nameIndex := 21, descriptorIndex := 6, attributes := #[] }, { accessFlags := 16409, nameIndex := 24, descriptorIndex := 6, attributes := #[] }, { accessFlags := 16409, nameIndex := 27, descriptorIndex := 6, attributes := #[] }, { accessFlags := 16409, nameIndex := 30, descriptorIndex := 6, attributes := #[] }, { accessFlags := 16409, nameIndex := 33, descriptorIndex := 6, attributes := #[] }, { accessFlags := 16409, nameIndex := 36, descriptorIndex := 6, attributes := #[] }, { accessFlags := 16409, nameIndex := 39, descriptorIndex := 6, attributes := #[] }, { accessFlags := 16409, nameIndex := 42, descriptorIndex := 6, attributes := #[] }, { accessFlags := 16409, nameIndex := 45, descriptorIndex := 6, attributes := #[] }, { accessFlags := 16409, nameIndex := 48, descriptorIndex := 6, attributes := #[] }, { accessFlags := 16409, nameIndex := 51, descriptorIndex := 6, attributes := #[] }, { accessFlags := 16409, nameIndex := 54, descriptorIndex := 6, attributes := #[] }, { accessFlags := 16409, nameIndex := 57, descriptorIndex := 6, attributes := #[] }, { accessFlags := 16409, nameIndex := 60, descriptorIndex := 6, attributes := #[] }, { accessFlags := 16409, nameIndex := 63, descriptorIndex := 6, attributes := #[] }, { accessFlags := 16409, nameIndex := 66, descriptorIndex := 6, attributes := #[] }, { accessFlags := 16409, nameIndex := 69, descriptorIndex := 6, attributes := #[] }, { accessFlags := 16409, nameIndex := 72, descriptorIndex := 6, attributes := #[] }, { accessFlags := 16409, nameIndex := 75, descriptorIndex := 6, attributes := #[] }, { accessFlags := 16409, nameIndex := 78, descriptorIndex := 6, attributes := #[] }, { accessFlags := 16409, nameIndex := 81, descriptorIndex := 6, attributes := #[] }, { accessFlags := 16409, nameIndex := 84, descriptorIndex := 6, attributes := #[] }, { accessFlags := 26, nameIndex := 367, descriptorIndex := 115, attributes := #[] }, { accessFlags := 18, nameIndex := 106, descriptorIndex := 107, attributes := #[] }, { accessFlags := 18, nameIndex := 110, descriptorIndex := 111, attributes := #[] }, { accessFlags := 18, nameIndex := 114, descriptorIndex := 115, attributes := #[] }, { accessFlags := 18, nameIndex := 118, descriptorIndex := 115, attributes := #[] }, { accessFlags := 18, nameIndex := 121, descriptorIndex := 122, attributes := #[] }, { accessFlags := 4122, nameIndex := 87, descriptorIndex := 88, attributes := #[] }])
  fields := #[{ name := "LAST", type := (.object "com/example/rowan/rowan/xpath/CoreFunction"), accessFlags := 16409, slot := 0, constantValue := 0 }, { name := "POSITION", type := (.object "com/example/rowan/rowan/xpath/CoreFunction"), accessFlags := 16409, slot := 1, constantValue := 0 }, { name := "COUNT", type := (.object "com/example/rowan/rowan/xpath/CoreFunction"), accessFlags := 16409, slot := 2, constantValue := 0 }, { name := "ID", type := (.object "com/example/rowan/rowan/xpath/CoreFunction"), accessFlags := 16409, slot := 3, constantValue := 0 }, { name := "LOCAL_NAME", type := (.object "com/example/rowan/rowan/xpath/CoreFunction"), accessFlags := 16409, slot := 4, constantValue := 0 }, { name := "NAMESPACE_URI", type := (.object "com/example/rowan/rowan/xpath/CoreFunction"), accessFlags := 16409, slot := 5, constantValue := 0 }, { name := "NAME", type := (.object "com/example/rowan/rowan/xpath/CoreFunction"), accessFlags := 16409, slot := 6, constantValue := 0 }, { name := "STRING", type := (.object "com/example/rowan/rowan/xpath/CoreFunction"), accessFlags := 16409, slot := 7, constantValue := 0 }, { name := "CONCAT", type := (.object "com/example/rowan/rowan/xpath/CoreFunction"), accessFlags := 16409, slot := 8, constantValue := 0 }, { name := "STARTS_WITH", type := (.object "com/example/rowan/rowan/xpath/CoreFunction"), accessFlags := 16409, slot := 9, constantValue := 0 }, { name := "CONTAINS", type := (.object "com/example/rowan/rowan/xpath/CoreFunction"), accessFlags := 16409, slot := 10, constantValue := 0 }, { name := "SUBSTRING_BEFORE", type := (.object "com/example/rowan/rowan/xpath/CoreFunction"), accessFlags := 16409, slot := 11, constantValue := 0 }, { name := "SUBSTRING_AFTER", type := (.object "com/example/rowan/rowan/xpath/CoreFunction"), accessFlags := 16409, slot := 12, constantValue := 0 }, { name := "SUBSTRING", type := (.object "com/example/rowan/rowan/xpath/CoreFunction"), accessFlags := 16409, slot := 13, constantValue := 0 }, { name := "STRING_LENGTH", type := (.object "com/example/rowan/rowan/xpath/CoreFunction"), accessFlags := 16409, slot := 14, constantValue := 0 }, { name := "NORMALIZE_SPACE", type := (.object "com/example/rowan/rowan/xpath/CoreFunction"), accessFlags := 16409, slot := 15, constantValue := 0 }, { name := "TRANSLATE", type := (.object "com/example/rowan/rowan/xpath/CoreFunction"), accessFlags := 16409, slot := 16, constantValue := 0 }, { name := "BOOLEAN", type := (.object "com/example/rowan/rowan/xpath/CoreFunction"), accessFlags := 16409, slot := 17, constantValue := 0 }, { name := "NOT", type := (.object "com/example/rowan/rowan/xpath/CoreFunction"), accessFlags := 16409, slot := 18, constantValue := 0 }, { name := "TRUE", type := (.object "com/example/rowan/rowan/xpath/CoreFunction"), accessFlags := 16409, slot := 19, constantValue := 0 }, { name := "FALSE", type := (.object "com/example/rowan/rowan/xpath/CoreFunction"), accessFlags := 16409, slot := 20, constantValue := 0 }, { name := "LANG", type := (.object "com/example/rowan/rowan/xpath/CoreFunction"), accessFlags := 16409, slot := 21, constantValue := 0 }, { name := "NUMBER", type := (.object "com/example/rowan/rowan/xpath/CoreFunction"), accessFlags := 16409, slot := 22, constantValue := 0 }, { name := "SUM", type := (.object "com/example/rowan/rowan/xpath/CoreFunction"), accessFlags := 16409, slot := 23, constantValue := 0 }, { name := "FLOOR", type := (.object "com/example/rowan/rowan/xpath/CoreFunction"), accessFlags := 16409, slot := 24, constantValue := 0 }, { name := "CEILING", type := (.object "com/example/rowan/rowan/xpath/CoreFunction"), accessFlags := 16409, slot := 25, constantValue := 0 }, { name := "ROUND", type := (.object "com/example/rowan/rowan/xpath/CoreFunction"), accessFlags := 16409, slot := 26, constantValue := 0 }, { name := "REMOVED", type := .int, accessFlags := 26, slot := 27, constantValue := 0 }, { name := "functionName", type := (.object "java/lang/String"), accessFlags := 18, slot := 3, constantValue := 0 }, { name := "type", type := (.object "com/example/rowan/rowan/xpath/ValueType"), accessFlags := 18, slot := 4, constantValue := 0 }, { name := "minimumArguments", type := .int, accessFlags := 18, slot := 5, constantValue := 0 }, { name := "maximumArguments", type := .int, accessFlags := 18, slot := 6, constantValue := 0 }, { name := "parameters", type := (.array (.object "com/example/rowan/rowan/xpath/ValueType")), accessFlags := 18, slot := 7, constantValue := 0 }, { name := "$VALUES", type := (.array (.object "com/example/rowan/rowan/xpath/CoreFunction")), accessFlags := 4122, slot := 28, constantValue := 0 }]
  methods := #[k7m0]
  instanceTypes := #[(.object "java/lang/String"), .int, .int, (.object "java/lang/String"), (.object "com/example/rowan/rowan/xpath/ValueType"), .int, .int, (.array (.object "com/example/rowan/rowan/xpath/ValueType"))]
  staticTypes := #[(.object "com/example/rowan/rowan/xpath/CoreFunction"), (.object "com/example/rowan/rowan/xpath/CoreFunction"), (.object "com/example/rowan/rowan/xpath/CoreFunction"), (.object "com/example/rowan/rowan/xpath/CoreFunction"), (.object "com/example/rowan/rowan/xpath/CoreFunction"), (.object "com/example/rowan/rowan/xpath/CoreFunction"), (.object "com/example/rowan/rowan/xpath/CoreFunction"), (.object "com/example/rowan/rowan/xpath/CoreFunction"), (.object "com/example/rowan/rowan/xpath/CoreFunction"), (.object "com/example/rowan/rowan/xpath/CoreFunction"), (.object "com/example/rowan/rowan/xpath/CoreFunction"), (.object "com/example/rowan/rowan/xpath/CoreFunction"), (.object "com/example/rowan/rowan/xpath/CoreFunction"), (.object "com/example/rowan/rowan/xpath/CoreFunction"), (.object "com/example/rowan/rowan/xpath/CoreFunction"), (.object "com/example/rowan/rowan/xpath/CoreFunction"), (.object "com/example/rowan/rowan/xpath/CoreFunction"), (.object "com/example/rowan/rowan/xpath/CoreFunction"), (.object "com/example/rowan/rowan/xpath/CoreFunction"), (.object "com/example/rowan/rowan/xpath/CoreFunction"), (.object "com/example/rowan/rowan/xpath/CoreFunction"), (.object "com/example/rowan/rowan/xpath/CoreFunction"), (.object "com/example/rowan/rowan/xpath/CoreFunction"), (.object "com/example/rowan/rowan/xpath/CoreFunction"), (.object "com/example/rowan/rowan/xpath/CoreFunction"), (.object "com/example/rowan/rowan/xpath/CoreFunction"), (.object "com/example/rowan/rowan/xpath/CoreFunction"), .int, (.array (.object "com/example/rowan/rowan/xpath/CoreFunction"))]
  resolved := Array.replicate 400 none
  statics := some 0 }

def pool8 : Array CpInfo := pool [(2, .class_ 4), (1, u "com/example/rowan/rowan/xpath/CoreFunction"), (14, .class_ 20), (0, u "com/example/rowan/rowan/xpath/CoreFunction$1")] 12

/-- com/example/rowan/rowan/xpath/CoreFunction$1 -/
def k8 : Class := { plain "com/example/rowan/rowan/xpath/CoreFunction$1" (some 7) with
  accessFlags := 16432
  interfaces := #[]
  cf := some (fileOf pool8 19 #[.nestHost 2] #[] 16432 2 #[] #[])
  fields := #[]
  methods := #[]
  instanceTypes := #[(.object "java/lang/String"), .int, .int, (.object "java/lang/String"), (.object "com/example/rowan/rowan/xpath/ValueType"), .int, .int, (.array (.object "com/example/rowan/rowan/xpath/ValueType"))]
  staticTypes := #[]
  resolved := Array.replicate 33 none
  statics := none }

def pool9 : Array CpInfo := pool [(2, .class_ 4), (1, u "com/example/rowan/rowan/xpath/CoreFunction"), (14, .class_ 20), (0, u "com/example/rowan/rowan/xpath/CoreFunction$2")] 12

/-- com/example/rowan/rowan/xpath/CoreFunction$2 -/
def k9 : Class := { plain "com/example/rowan/rowan/xpath/CoreFunction$2" (some 7) with
  accessFlags := 16432
  interfaces := #[]
  cf := some (fileOf pool9 19 #[.nestHost 2] #[] 16432 2 #[] #[])
  fields := #[]
  methods := #[]
  instanceTypes := #[(.object "java/lang/String"), .int, .int, (.object "java/lang/String"), (.object "com/example/rowan/rowan/xpath/ValueType"), .int, .int, (.array (.object "com/example/rowan/rowan/xpath/ValueType"))]
  staticTypes := #[]
  resolved := Array.replicate 33 none
  statics := none }

def pool10 : Array CpInfo := pool [(2, .class_ 4), (1, u "com/example/rowan/rowan/xpath/CoreFunction"), (24, .class_ 30), (0, u "com/example/rowan/rowan/xpath/CoreFunction$3")] 12

/-- com/example/rowan/rowan/xpath/CoreFunction$3 -/
def k10 : Class := { plain "com/example/rowan/rowan/xpath/CoreFunction$3" (some 7) with
  accessFlags := 16432
  interfaces := #[]
  cf := some (fileOf pool10 29 #[.nestHost 2] #[] 16432 2 #[] #[])
  fields := #[]
  methods := #[]
  instanceTypes := #[(.object "java/lang/String"), .int, .int, (.object "java/lang/String"), (.object "com/example/rowan/rowan/xpath/ValueType"), .int, .int, (.array (.object "com/example/rowan/rowan/xpath/ValueType"))]
  staticTypes := #[]
  resolved := Array.replicate 43 none
  statics := none }

def pool11 : Array CpInfo := pool [(2, .class_ 4), (1, u "com/example/rowan/rowan/xpath/CoreFunction"), (63, .class_ 69), (0, u "com/example/rowan/rowan/xpath/CoreFunction$4")] 13

/-- com/example/rowan/rowan/xpath/CoreFunction$4 -/
def k11 : Class := { plain "com/example/rowan/rowan/xpath/CoreFunction$4" (some 7) with
  accessFlags := 16432
  interfaces := #[]
  cf := some (fileOf pool11 68 #[.nestHost 2] #[] 16432 2 #[] #[])
  fields := #[]
  methods := #[]
  instanceTypes := #[(.object "java/lang/String"), .int, .int, (.object "java/lang/String"), (.object "com/example/rowan/rowan/xpath/ValueType"), .int, .int, (.array (.object "com/example/rowan/rowan/xpath/ValueType"))]
  staticTypes := #[]
  resolved := Array.replicate 83 none
  statics := none }

def pool12 : Array CpInfo := pool [(2, .class_ 4), (1, u "com/example/rowan/rowan/xpath/CoreFunction"), (16, .class_ 22), (0, u "com/example/rowan/rowan/xpath/CoreFunction$5")] 15

/-- com/example/rowan/rowan/xpath/CoreFunction$5 -/
def k12 : Class := { plain "com/example/rowan/rowan/xpath/CoreFunction$5" (some 7) with
  accessFlags := 16432
  interfaces := #[]
  cf := some (fileOf pool12 21 #[.nestHost 2] #[] 16432 2 #[] #[])
  fields := #[]
  methods := #[]
  instanceTypes := #[(.object "java/lang/String"), .int, .int, (.object "java/lang/String"), (.object "com/example/rowan/rowan/xpath/ValueType"), .int, .int, (.array (.object "com/example/rowan/rowan/xpath/ValueType"))]
  staticTypes := #[]
  resolved := Array.replicate 38 none
  statics := none }

def pool13 : Array CpInfo := pool [(2, .class_ 4), (1, u "com/example/rowan/rowan/xpath/CoreFunction"), (16, .class_ 22), (0, u "com/example/rowan/rowan/xpath/CoreFunction$6")] 15

/-- com/example/rowan/rowan/xpath/CoreFunction$6 -/
def k13 : Class := { plain "com/example/rowan/rowan/xpath/CoreFunction$6" (some 7) with
  accessFlags := 16432
  interfaces := #[]
  cf := some (fileOf pool13 21 #[.nestHost 2] #[] 16432 2 #[] #[])
  fields := #[]
  methods := #[]
  instanceTypes := #[(.object "java/lang/String"), .int, .int, (.object "java/lang/String"), (.object "com/example/rowan/rowan/xpath/ValueType"), .int, .int, (.array (.object "com/example/rowan/rowan/xpath/ValueType"))]
  staticTypes := #[]
  resolved := Array.replicate 38 none
  statics := none }

def pool14 : Array CpInfo := pool [(2, .class_ 4), (1, u "com/example/rowan/rowan/xpath/CoreFunction"), (16, .class_ 22), (0, u "com/example/rowan/rowan/xpath/CoreFunction$7")] 15

/-- com/example/rowan/rowan/xpath/CoreFunction$7 -/
def k14 : Class := { plain "com/example/rowan/rowan/xpath/CoreFunction$7" (some 7) with
  accessFlags := 16432
  interfaces := #[]
  cf := some (fileOf pool14 21 #[.nestHost 2] #[] 16432 2 #[] #[])
  fields := #[]
  methods := #[]
  instanceTypes := #[(.object "java/lang/String"), .int, .int, (.object "java/lang/String"), (.object "com/example/rowan/rowan/xpath/ValueType"), .int, .int, (.array (.object "com/example/rowan/rowan/xpath/ValueType"))]
  staticTypes := #[]
  resolved := Array.replicate 38 none
  statics := none }

def pool15 : Array CpInfo := pool [(2, .class_ 4), (1, u "com/example/rowan/rowan/xpath/CoreFunction"), (6, .class_ 12), (0, u "com/example/rowan/rowan/xpath/CoreFunction$8")] 12

/-- com/example/rowan/rowan/xpath/CoreFunction$8 -/
def k15 : Class := { plain "com/example/rowan/rowan/xpath/CoreFunction$8" (some 7) with
  accessFlags := 16432
  interfaces := #[]
  cf := some (fileOf pool15 11 #[.nestHost 2] #[] 16432 2 #[] #[])
  fields := #[]
  methods := #[]
  instanceTypes := #[(.object "java/lang/String"), .int, .int, (.object "java/lang/String"), (.object "com/example/rowan/rowan/xpath/ValueType"), .int, .int, (.array (.object "com/example/rowan/rowan/xpath/ValueType"))]
  staticTypes := #[]
  resolved := Array.replicate 25 none
  statics := none }

def pool16 : Array CpInfo := pool [(2, .class_ 4), (1, u "com/example/rowan/rowan/xpath/CoreFunction"), (33, .class_ 39), (0, u "com/example/rowan/rowan/xpath/CoreFunction$9")] 13

/-- com/example/rowan/rowan/xpath/CoreFunction$9 -/
def k16 : Class := { plain "com/example/rowan/rowan/xpath/CoreFunction$9" (some 7) with
  accessFlags := 16432
  interfaces := #[]
  cf := some (fileOf pool16 38 #[.nestHost 2] #[] 16432 2 #[] #[])
  fields := #[]
  methods := #[]
  instanceTypes := #[(.object "java/lang/String"), .int, .int, (.object "java/lang/String"), (.object "com/example/rowan/rowan/xpath/ValueType"), .int, .int, (.array (.object "com/example/rowan/rowan/xpath/ValueType"))]
  staticTypes := #[]
  resolved := Array.replicate 53 none
  statics := none }

def pool17 : Array CpInfo := pool [(2, .class_ 4), (1, u "com/example/rowan/rowan/xpath/CoreFunction"), (20, .class_ 26), (0, u "com/example/rowan/rowan/xpath/CoreFunction$10")] 12

/-- com/example/rowan/rowan/xpath/CoreFunction$10 -/
def k17 : Class := { plain "com/example/rowan/rowan/xpath/CoreFunction$10" (some 7) with
  accessFlags := 16432
  interfaces := #[]
  cf := some (fileOf pool17 25 #[.nestHost 2] #[] 16432 2 #[] #[])
  fields := #[]
  methods := #[]
  instanceTypes := #[(.object "java/lang/String"), .int, .int, (.object "java/lang/String"), (.object "com/example/rowan/rowan/xpath/ValueType"), .int, .int, (.array (.object "com/example/rowan/rowan/xpath/ValueType"))]
  staticTypes := #[]
  resolved := Array.replicate 39 none
  statics := none }

def pool18 : Array CpInfo := pool [(2, .class_ 4), (1, u "com/example/rowan/rowan/xpath/CoreFunction"), (20, .class_ 26), (0, u "com/example/rowan/rowan/xpath/CoreFunction$11")] 12

/-- com/example/rowan/rowan/xpath/CoreFunction$11 -/
def k18 : Class := { plain "com/example/rowan/rowan/xpath/CoreFunction$11" (some 7) with
  accessFlags := 16432
  interfaces := #[]
  cf := some (fileOf pool18 25 #[.nestHost 2] #[] 16432 2 #[] #[])
  fields := #[]
  methods := #[]
  instanceTypes := #[(.object "java/lang/String"), .int, .int, (.object "java/lang/String"), (.object "com/example/rowan/rowan/xpath/ValueType"), .int, .int, (.array (.object "com/example/rowan/rowan/xpath/ValueType"))]
  staticTypes := #[]
  resolved := Array.replicate 39 none
  statics := none }

def pool19 : Array CpInfo := pool [(2, .class_ 4), (1, u "com/example/rowan/rowan/xpath/CoreFunction"), (20, .class_ 26), (0, u "com/example/rowan/rowan/xpath/CoreFunction$12")] 15

/-- com/example/rowan/rowan/xpath/CoreFunction$12 -/
def k19 : Class := { plain "com/example/rowan/rowan/xpath/CoreFunction$12" (some 7) with
  accessFlags := 16432
  interfaces := #[]
  cf := some (fileOf pool19 25 #[.nestHost 2] #[] 16432 2 #[] #[])
  fields := #[]
  methods := #[]
  instanceTypes := #[(.object "java/lang/String"), .int, .int, (.object "java/lang/String"), (.object "com/example/rowan/rowan/xpath/ValueType"), .int, .int, (.array (.object "com/example/rowan/rowan/xpath/ValueType"))]
  staticTypes := #[]
  resolved := Array.replicate 42 none
  statics := none }

def pool20 : Array CpInfo := pool [(2, .class_ 4), (1, u "com/example/rowan/rowan/xpath/CoreFunction"), (24, .class_ 30), (0, u "com/example/rowan/rowan/xpath/CoreFunction$13")] 15

/-- com/example/rowan/rowan/xpath/CoreFunction$13 -/
def k20 : Class := { plain "com/example/rowan/rowan/xpath/CoreFunction$13" (some 7) with
  accessFlags := 16432
  interfaces := #[]
  cf := some (fileOf pool20 29 #[.nestHost 2] #[] 16432 2 #[] #[])
  fields := #[]
  methods := #[]
  instanceTypes := #[(.object "java/lang/String"), .int, .int, (.object "java/lang/String"), (.object "com/example/rowan/rowan/xpath/ValueType"), .int, .int, (.array (.object "com/example/rowan/rowan/xpath/ValueType"))]
  staticTypes := #[]
  resolved := Array.replicate 46 none
  statics := none }

def pool21 : Array CpInfo := pool [(2, .class_ 4), (1, u "com/example/rowan/rowan/xpath/CoreFunction"), (51, .class_ 57), (0, u "com/example/rowan/rowan/xpath/CoreFunction$14")] 17

/-- com/example/rowan/rowan/xpath/CoreFunction$14 -/
def k21 : Class := { plain "com/example/rowan/rowan/xpath/CoreFunction$14" (some 7) with
  accessFlags := 16432
  interfaces := #[]
  cf := some (fileOf pool21 56 #[.nestHost 2] #[] 16432 2 #[] #[])
  fields := #[]
  methods := #[]
  instanceTypes := #[(.object "java/lang/String"), .int, .int, (.object "java/lang/String"), (.object "com/example/rowan/rowan/xpath/ValueType"), .int, .int, (.array (.object "com/example/rowan/rowan/xpath/ValueType"))]
  staticTypes := #[]
  resolved := Array.replicate 75 none
  statics := none }

def pool22 : Array CpInfo := pool [(2, .class_ 4), (1, u "com/example/rowan/rowan/xpath/CoreFunction"), (22, .class_ 28), (0, u "com/example/rowan/rowan/xpath/CoreFunction$15")] 12

/-- com/example/rowan/rowan/xpath/CoreFunction$15 -/
def k22 : Class := { plain "com/example/rowan/rowan/xpath/CoreFunction$15" (some 7) with
  accessFlags := 16432
  interfaces := #[]
  cf := some (fileOf pool22 27 #[.nestHost 2] #[] 16432 2 #[] #[])
  fields := #[]
  methods := #[]
  instanceTypes := #[(.object "java/lang/String"), .int, .int, (.object "java/lang/String"), (.object "com/example/rowan/rowan/xpath/ValueType"), .int, .int, (.array (.object "com/example/rowan/rowan/xpath/ValueType"))]
  staticTypes := #[]
  resolved := Array.replicate 41 none
  statics := none }

def pool23 : Array CpInfo := pool [(2, .class_ 4), (1, u "com/example/rowan/rowan/xpath/CoreFunction"), (39, .class_ 45), (0, u "com/example/rowan/rowan/xpath/CoreFunction$16")] 17

/-- com/example/rowan/rowan/xpath/CoreFunction$16 -/
def k23 : Class := { plain "com/example/rowan/rowan/xpath/CoreFunction$16" (some 7) with
  accessFlags := 16432
  interfaces := #[]
  cf := some (fileOf pool23 44 #[.nestHost 2] #[] 16432 2 #[] #[])
  fields := #[]
  methods := #[]
  instanceTypes := #[(.object "java/lang/String"), .int, .int, (.object "java/lang/String"), (.object "com/example/rowan/rowan/xpath/ValueType"), .int, .int, (.array (.object "com/example/rowan/rowan/xpath/ValueType"))]
  staticTypes := #[]
  resolved := Array.replicate 63 none
  statics := none }

def pool24 : Array CpInfo := pool [(1, .class_ 2), (0, u "com/example/rowan/rowan/xpath/CoreFunction"), (57, .class_ 61), (0, u "com/example/rowan/rowan/xpath/CoreFunction$17")] 17

/-- com/example/rowan/rowan/xpath/CoreFunction$17 -/
def k24 : Class := { plain "com/example/rowan/rowan/xpath/CoreFunction$17" (some 7) with
  accessFlags := 16432
  interfaces := #[]
  cf := some (fileOf pool24 60 #[.nestHost 1] #[] 16432 1 #[] #[])
  fields := #[]
  methods := #[]
  instanceTypes := #[(.object "java/lang/String"), .int, .int, (.object "java/lang/String"), (.object "com/example/rowan/rowan/xpath/ValueType"), .int, .int, (.array (.object "com/example/rowan/rowan/xpath/ValueType"))]
  staticTypes := #[]
  resolved := Array.replicate 79 none
  statics := none }

def pool25 : Array CpInfo := pool [(2, .class_ 4), (1, u "com/example/rowan/rowan/xpath/CoreFunction"), (8, .class_ 14), (0, u "com/example/rowan/rowan/xpath/CoreFunction$18")] 12

/-- com/example/rowan/rowan/xpath/CoreFunction$18 -/
def k25 : Class := { plain "com/example/rowan/rowan/xpath/CoreFunction$18" (some 7) with
  accessFlags := 16432
  interfaces := #[]
  cf := some (fileOf pool25 13 #[.nestHost 2] #[] 16432 2 #[] #[])
  fields := #[]
  methods := #[]
  instanceTypes := #[(.object "java/lang/String"), .int, .int, (.object "java/lang/String"), (.object "com/example/rowan/rowan/xpath/ValueType"), .int, .int, (.array (.object "com/example/rowan/rowan/xpath/ValueType"))]
  staticTypes := #[]
  resolved := Array.replicate 27 none
  statics := none }

def pool26 : Array CpInfo := pool [(2, .class_ 4), (1, u "com/example/rowan/rowan/xpath/CoreFunction"), (18, .class_ 24), (0, u "com/example/rowan/rowan/xpath/CoreFunction$19")] 13

/-- com/example/rowan/rowan/xpath/CoreFunction$19 -/
def k26 : Class := { plain "com/example/rowan/rowan/xpath/CoreFunction$19" (some 7) with
  accessFlags := 16432
  interfaces := #[]
  cf := some (fileOf pool26 23 #[.nestHost 2] #[] 16432 2 #[] #[])
  fields := #[]
  methods := #[]
  instanceTypes := #[(.object "java/lang/String"), .int, .int, (.object "java/lang/String"), (.object "com/example/rowan/rowan/xpath/ValueType"), .int, .int, (.array (.object "com/example/rowan/rowan/xpath/ValueType"))]
  staticTypes := #[]
  resolved := Array.replicate 38 none
  statics := none }

def pool27 : Array CpInfo := pool [(2, .class_ 4), (1, u "com/example/rowan/rowan/xpath/CoreFunction"), (8, .class_ 14), (0, u "com/example/rowan/rowan/xpath/CoreFunction$20")] 12

/-- com/example/rowan/rowan/xpath/CoreFunction$20 -/
def k27 : Class := { plain "com/example/rowan/rowan/xpath/CoreFunction$20" (some 7) with
  accessFlags := 16432
  interfaces := #[]
  cf := some (fileOf pool27 13 #[.nestHost 2] #[] 16432 2 #[] #[])
  fields := #[]
  methods := #[]
  instanceTypes := #[(.object "java/lang/String"), .int, .int, (.object "java/lang/String"), (.object "com/example/rowan/rowan/xpath/ValueType"), .int, .int, (.array (.object "com/example/rowan/rowan/xpath/ValueType"))]
  staticTypes := #[]
  resolved := Array.replicate 27 none
  statics := none }

def pool28 : Array CpInfo := pool [(2, .class_ 4), (1, u "com/example/rowan/rowan/xpath/CoreFunction"), (8, .class_ 14), (0, u "com/example/rowan/rowan/xpath/CoreFunction$21")] 12

/-- com/example/rowan/rowan/xpath/CoreFunction$21 -/
def k28 : Class := { plain "com/example/rowan/rowan/xpath/CoreFunction$21" (some 7) with
  accessFlags := 16432
  interfaces := #[]
  cf := some (fileOf pool28 13 #[.nestHost 2] #[] 16432 2 #[] #[])
  fields := #[]
  methods := #[]
  instanceTypes := #[(.object "java/lang/String"), .int, .int, (.object "java/lang/String"), (.object "com/example/rowan/rowan/xpath/ValueType"), .int, .int, (.array (.object "com/example/rowan/rowan/xpath/ValueType"))]
  staticTypes := #[]
  resolved := Array.replicate 27 none
  statics := none }

def pool29 : Array CpInfo := pool [(2, .class_ 4), (1, u "com/example/rowan/rowan/xpath/CoreFunction"), (47, .class_ 53), (0, u "com/example/rowan/rowan/xpath/CoreFunction$22")] 13

/-- com/example/rowan/rowan/xpath/CoreFunction$22 -/
def k29 : Class := { plain "com/example/rowan/rowan/xpath/CoreFunction$22" (some 7) with
  accessFlags := 16432
  interfaces := #[]
  cf := some (fileOf pool29 52 #[.nestHost 2] #[] 16432 2 #[] #[])
  fields := #[]
  methods := #[]
  instanceTypes := #[(.object "java/lang/String"), .int, .int, (.object "java/lang/String"), (.object "com/example/rowan/rowan/xpath/ValueType"), .int, .int, (.array (.object "com/example/rowan/rowan/xpath/ValueType"))]
  staticTypes := #[]
  resolved := Array.replicate 67 none
  statics := none }

def pool30 : Array CpInfo := pool [(2, .class_ 4), (1, u "com/example/rowan/rowan/xpath/CoreFunction"), (36, .class_ 42), (0, u "com/example/rowan/rowan/xpath/CoreFunction$23")] 15

/-- com/example/rowan/rowan/xpath/CoreFunction$23 -/
def k30 : Class := { plain "com/example/rowan/rowan/xpath/CoreFunction$23" (some 7) with
  accessFlags := 16432
  interfaces := #[]
  cf := some (fileOf pool30 41 #[.nestHost 2] #[] 16432 2 #[] #[])
  fields := #[]
  methods := #[]
  instanceTypes := #[(.object "java/lang/String"), .int, .int, (.object "java/lang/String"), (.object "com/example/rowan/rowan/xpath/ValueType"), .int, .int, (.array (.object "com/example/rowan/rowan/xpath/ValueType"))]
  staticTypes := #[]
  resolved := Array.replicate 58 none
  statics := none }

def pool31 : Array CpInfo := pool [(2, .class_ 4), (1, u "com/example/rowan/rowan/xpath/CoreFunction"), (46, .class_ 52), (0, u "com/example/rowan/rowan/xpath/CoreFunction$24")] 13

/-- com/example/rowan/rowan/xpath/CoreFunction$24 -/
def k31 : Class := { plain "com/example/rowan/rowan/xpath/CoreFunction$24" (some 7) with
  accessFlags := 16432
  interfaces := #[]
  cf := some (fileOf pool31 51 #[.nestHost 2] #[] 16432 2 #[] #[])
  fields := #[]
  methods := #[]
  instanceTypes := #[(.object "java/lang/String"), .int, .int, (.object "java/lang/String"), (.object "com/example/rowan/rowan/xpath/ValueType"), .int, .int, (.array (.object "com/example/rowan/rowan/xpath/ValueType"))]
  staticTypes := #[]
  resolved := Array.replicate 66 none
  statics := none }

def pool32 : Array CpInfo := pool [(2, .class_ 4), (1, u "com/example/rowan/rowan/xpath/CoreFunction"), (24, .class_ 30), (0, u "com/example/rowan/rowan/xpath/CoreFunction$25")] 12

/-- com/example/rowan/rowan/xpath/CoreFunction$25 -/
def k32 : Class := { plain "com/example/rowan/rowan/xpath/CoreFunction$25" (some 7) with
  accessFlags := 16432
  interfaces := #[]
  cf := some (fileOf pool32 29 #[.nestHost 2] #[] 16432 2 #[] #[])
  fields := #[]
  methods := #[]
  instanceTypes := #[(.object "java/lang/String"), .int, .int, (.object "java/lang/String"), (.object "com/example/rowan/rowan/xpath/ValueType"), .int, .int, (.array (.object "com/example/rowan/rowan/xpath/ValueType"))]
  staticTypes := #[]
  resolved := Array.replicate 43 none
  statics := none }

def pool33 : Array CpInfo := pool [(2, .class_ 4), (1, u "com/example/rowan/rowan/xpath/CoreFunction"), (24, .class_ 30), (0, u "com/example/rowan/rowan/xpath/CoreFunction$26")] 12

/-- com/example/rowan/rowan/xpath/CoreFunction$26 -/
def k33 : Class := { plain "com/example/rowan/rowan/xpath/CoreFunction$26" (some 7) with
  accessFlags := 16432
  interfaces := #[]
  cf := some (fileOf pool33 29 #[.nestHost 2] #[] 16432 2 #[] #[])
  fields := #[]
  methods := #[]
  instanceTypes := #[(.object "java/lang/String"), .int, .int, (.object "java/lang/String"), (.object "com/example/rowan/rowan/xpath/ValueType"), .int, .int, (.array (.object "com/example/rowan/rowan/xpath/ValueType"))]
  staticTypes := #[]
  resolved := Array.replicate 43 none
  statics := none }

def pool34 : Array CpInfo := pool [(2, .class_ 4), (1, u "com/example/rowan/rowan/xpath/CoreFunction"), (24, .class_ 30), (0, u "com/example/rowan/rowan/xpath/CoreFunction$27")] 12

/-- com/example/rowan/rowan/xpath/CoreFunction$27 -/
def k34 : Class := { plain "com/example/rowan/rowan/xpath/CoreFunction$27" (some 7) with
  accessFlags := 16432
  interfaces := #[]
  cf := some (fileOf pool34 29 #[.nestHost 2] #[] 16432 2 #[] #[])
  fields := #[]
  methods := #[]
  instanceTypes := #[(.object "java/lang/String"), .int, .int, (.object "java/lang/String"), (.object "com/example/rowan/rowan/xpath/ValueType"), .int, .int, (.array (.object "com/example/rowan/rowan/xpath/ValueType"))]
  staticTypes := #[]
  resolved := Array.replicate 43 none
  statics := none }

def pool35 : Array CpInfo := pool [(1, u "java/lang/Cloneable"), (0, .class_ 1), (0, u "java/lang/Object"), (0, .class_ 3)] 3

/-- java/lang/Cloneable -/
def k35 : Class := { plain "java/lang/Cloneable" (some 0) with
  accessFlags := 1537
  interfaces := #[]
  cf := some (fileOf pool35 2 #[] #[] 1537 4 #[] #[])
  fields := #[]
  methods := #[]
  instanceTypes := #[]
  staticTypes := #[]
  resolved := Array.replicate 8 none
  statics := none }

/-- the primitive byte -/
def k36 : Class := { plain "byte" none with kind := .primitive 'B', accessFlags := 0x411 }
/-- [B -/
def k37 : Class := { plain "[B" (some 0) with kind := .array 36 .byte, interfaces := #[35, 4], accessFlags := 1041 }

/-- the primitive int -/
def k38 : Class := { plain "int" none with kind := .primitive 'I', accessFlags := 0x411 }
/-- [I -/
def k39 : Class := { plain "[I" (some 0) with kind := .array 38 .int, interfaces := #[35, 4], accessFlags := 1041 }

/-- [Lcom/example/rowan/rowan/xpath/CoreFunction; -/
def k40 : Class := { plain "[Lcom/example/rowan/rowan/xpath/CoreFunction;" (some 0) with kind := .array 7 (.object "com/example/rowan/rowan/xpath/CoreFunction"), interfaces := #[35, 4], accessFlags := 1041 }

def heap : Heap := #[{ cls := 7, slots := #[.ref 1, .ref 2, .ref 3, .ref 4, .ref 5, .ref 6, .ref 7, .ref 8, .ref 9, .ref 10, .ref 11, .ref 12, .ref 13, .ref 14, .ref 15, .ref 16, .ref 17, .ref 18, .ref 19, .ref 20, .ref 21, .ref 22, .ref 23, .ref 24, .ref 25, .ref 26, .ref 27, .int 0, .null], vm := .statics 7 },
  { cls := 8, slots := #[.null, .int 0, .int 0, .null, .null, .int 0, .int 0, .null], vm := .none },
  { cls := 9, slots := #[.null, .int 1, .int 0, .null, .null, .int 0, .int 0, .null], vm := .none },
  { cls := 10, slots := #[.null, .int 2, .int 0, .null, .null, .int 1, .int 1, .null], vm := .none },
  { cls := 11, slots := #[.null, .int 3, .int 0, .null, .null, .int 1, .int 1, .null], vm := .none },
  { cls := 12, slots := #[.null, .int 4, .int 0, .null, .null, .int 0, .int 1, .null], vm := .none },
  { cls := 13, slots := #[.null, .int 5, .int 0, .null, .null, .int 0, .int 1, .null], vm := .none },
  { cls := 14, slots := #[.null, .int 6, .int 0, .null, .null, .int 0, .int 1, .null], vm := .none },
  { cls := 15, slots := #[.null, .int 7, .int 0, .null, .null, .int 0, .int 1, .null], vm := .none },
  { cls := 16, slots := #[.null, .int 8, .int 0, .null, .null, .int 2, .int 2147483647, .null], vm := .none },
  { cls := 17, slots := #[.null, .int 9, .int 0, .null, .null, .int 2, .int 2, .null], vm := .none },
  { cls := 18, slots := #[.null, .int 10, .int 0, .null, .null, .int 2, .int 2, .null], vm := .none },
  { cls := 19, slots := #[.null, .int 11, .int 0, .null, .null, .int 2, .int 2, .null], vm := .none },
  { cls := 20, slots := #[.null, .int 12, .int 0, .null, .null, .int 2, .int 2, .null], vm := .none },
  { cls := 21, slots := #[.null, .int 13, .int 0, .null, .null, .int 2, .int 3, .null], vm := .none },
  { cls := 22, slots := #[.null, .int 14, .int 0, .null, .null, .int 0, .int 1, .null], vm := .none },
  { cls := 23, slots := #[.null, .int 15, .int 0, .null, .null, .int 0, .int 1, .null], vm := .none },
  { cls := 24, slots := #[.null, .int 16, .int 0, .null, .null, .int 3, .int 3, .null], vm := .none },
  { cls := 25, slots := #[.null, .int 17, .int 0, .null, .null, .int 1, .int 1, .null], vm := .none },
  { cls := 26, slots := #[.null, .int 18, .int 0, .null, .null, .int 1, .int 1, .null], vm := .none },
  { cls := 27, slots := #[.null, .int 19, .int 0, .null, .null, .int 0, .int 0, .null], vm := .none },
  { cls := 28, slots := #[.null, .int 20, .int 0, .null, .null, .int 0, .int 0, .null], vm := .none },
  { cls := 29, slots := #[.null, .int 21, .int 0, .null, .null, .int 1, .int 1, .null], vm := .none },
  { cls := 30, slots := #[.null, .int 22, .int 0, .null, .null, .int 0, .int 1, .null], vm := .none },
  { cls := 31, slots := #[.null, .int 23, .int 0, .null, .null, .int 1, .int 1, .null], vm := .none },
  { cls := 32, slots := #[.null, .int 24, .int 0, .null, .null, .int 1, .int 1, .null], vm := .none },
  { cls := 33, slots := #[.null, .int 25, .int 0, .null, .null, .int 1, .int 1, .null], vm := .none },
  { cls := 34, slots := #[.null, .int 26, .int 0, .null, .null, .int 1, .int 1, .null], vm := .none }]
def classes : Array Class := #[k0, k1, k2, k3, k4, k5, k6, k7, k8, k9, k10, k11, k12, k13, k14, k15, k16, k17, k18, k19, k20, k21, k22, k23, k24, k25, k26, k27, k28, k29, k30, k31, k32, k33, k34, k35, k36, k37, k38, k39, k40]
def interned : List (Array UInt16 × Addr) := []
def slotsUsed : Nat := 245
def theMethod : MethodId := ⟨1, 1⟩
def args0 : Array Value := #[.int 1, .int 2, .int 3]
def aboutOver (below : List Frame) : State where
  vm := { classes := classes, interned := interned.toArray }
  heap := heap
  slotsUsed := slotsUsed
  threads := #[{ frames := .invoking theMethod args0 :: below }]
def below0 : List Frame := [.native { method := ⟨0, 0⟩, args := #[] }]
def about1 : State := aboutOver below0
def p0 : Program := .bare "" "" ""
def e0 : Env := launch0.env 0 0 0
theorem w_frames : about1.frames = Frame.invoking theMethod args0 :: below0 := rfl
set_option maxRecDepth 65536 in
theorem w_args : argsFit about1.vm theMethod args0 = true := by decide +kernel
set_option maxRecDepth 65536 in
theorem w_heap : heapFits about1 = true := by decide +kernel
set_option maxRecDepth 65536 in
theorem w_runnable : about1.curStatus? = some .runnable := by decide +kernel
set_option maxRecDepth 65536 in
theorem w_alone : about1.alone = true := by decide +kernel
set_option maxRecDepth 65536 in
theorem w_named : about1.methodNamed? x = some theMethod := by decide +kernel
set_option maxRecDepth 65536 in
theorem w_hears : about1.hears theMethod below0 = true := by decide +kernel
set_option maxRecDepth 65536 in
theorem w_ripe : about1.ripe theMethod args0 below0 = true := by decide +kernel
theorem w_running : about1.status = .running := rfl
set_option maxRecDepth 65536 in
theorem w_room : about1.hasRoom e0.platform room_1 = true :=
  launch0.hasRoom_least _ room_1 (by decide +kernel) (by decide +kernel) (by decide +kernel) (by decide +kernel) (by decide +kernel) (by decide +kernel)
theorem allAtoms_all (ts : List Jvm.Cond) (a : Array Jvm.Value) (st : Jvm.State) : (allAtoms ts).before a st = ts.all (fun c => c.before a st) := by
  induction ts with
  | nil => rfl
  | cons c t ih =>
    show (Jvm.Cond.and c (allAtoms t)).before a st = _
    rw [Jvm.Cond.before_and, ih, List.all_cons]
def words1 : List Jvm.Cond := Jvm.Cond.code x code maxLocals ret :: tables_1
/-- a 'code' word, met by the world's own term for the bytes: nothing is compared byte by byte -/
theorem code_word {y : MethodName} {bytes : ByteArray} {mx : Nat} {rt : Option FieldType} {a : Array Value} {s : State} {m : MethodId} {meth : Method} {c : Code} (h1 : s.methodNamed? y = some m) (h2 : s.vm.method? m = some meth) (h3 : meth.code = some c) (h4 : c.code = bytes)
    (h5 : (c.maxLocals == mx && c.exceptionTable.isEmpty && decide (c.maxStack ≤ mostOperands) && decide (meth.sig.returnType = rt) && !meth.locks && decide (parseMethodDescriptor y.desc = some meth.sig)) = true) : (Jvm.Cond.code y bytes mx rt).before a s = true := by
  simp only [Bool.and_eq_true, beq_iff_eq, Bool.not_eq_true', decide_eq_true_eq] at h5
  obtain ⟨⟨⟨⟨⟨g1, g2⟩, g3⟩, g4⟩, g5⟩, g6⟩ := h5
  simp [Cond.before, Cond.holds, Cond.value, h1, h2, h3, h4, g1, g2, g3, g4, g5, g6]
def isCode : Jvm.Cond → Bool
  | .code _ _ _ _ => true
  | _ => false
theorem all_split {L : List Jvm.Cond} {P : Jvm.Cond → Bool} (h1 : L.all (fun c => isCode c || P c) = true) (h2 : ∀ c ∈ L.filter isCode, P c = true) : L.all P = true := by
  refine List.all_eq_true.mpr fun c hc => ?_
  have h := List.all_eq_true.mp h1 c hc
  rcases Bool.eq_false_or_eq_true (isCode c) with hi | hi
  · exact h2 c (List.mem_filter.mpr ⟨hc, hi⟩)
  · simpa [hi] using h
set_option maxRecDepth 65536 in
theorem w_c0 : (Jvm.Cond.code x code maxLocals ret).before args0 about1 = true := code_word (m := ⟨1, 1⟩) (meth := k1m1) (c := k1c1) (by decide +kernel) rfl rfl rfl (by decide +kernel)
set_option maxRecDepth 65536 in
theorem w_c1 : (Jvm.Cond.code ({ cls := "com/example/rowan/rowan/xpath/CoreFunction", name := "takes", desc := "(I)Z" } : Jvm.MethodName) prog_14_method_5_code (2 : Nat) (Option.some Jvm.ClassFile.FieldType.boolean)).before args0 about1 = true := code_word (m := ⟨7, 0⟩) (meth := k7m0) (c := k7c0) (by decide +kernel) rfl rfl rfl (by decide +kernel)
def codes1 : List Jvm.Cond := [Jvm.Cond.code x code maxLocals ret, Jvm.Cond.code ({ cls := "com/example/rowan/rowan/xpath/CoreFunction", name := "takes", desc := "(I)Z" } : Jvm.MethodName) prog_14_method_5_code (2 : Nat) (Option.some Jvm.ClassFile.FieldType.boolean)]
set_option maxRecDepth 65536 in
theorem codes_eq : words1.filter isCode = codes1 := rfl
theorem w_codes : ∀ c ∈ words1.filter isCode, c.before args0 about1 = true := by
  rw [codes_eq]
  intro c hc
  simp only [codes1, List.mem_cons, List.not_mem_nil, or_false] at hc
  rcases hc with rfl | rfl
  · exact w_c0
  · exact w_c1
set_option maxRecDepth 65536 in
theorem w_t1 : (words1.take 24).all (fun c => isCode c || c.before args0 about1) = true := by decide +kernel
set_option maxRecDepth 65536 in
theorem w_t2 : ((words1.drop 24).take 24).all (fun c => isCode c || c.before args0 about1) = true := by decide +kernel
set_option maxRecDepth 65536 in
theorem w_t3 : (((words1.drop 24).drop 24).take 24).all (fun c => isCode c || c.before args0 about1) = true := by decide +kernel
set_option maxRecDepth 65536 in
theorem w_t4 : ((((words1.drop 24).drop 24).drop 24).take 24).all (fun c => isCode c || c.before args0 about1) = true := by decide +kernel
set_option maxRecDepth 65536 in
theorem w_t5 : (((((words1.drop 24).drop 24).drop 24).drop 24).take 24).all (fun c => isCode c || c.before args0 about1) = true := by decide +kernel
set_option maxRecDepth 65536 in
theorem w_t6 : ((((((words1.drop 24).drop 24).drop 24).drop 24).drop 24).take 24).all (fun c => isCode c || c.before args0 about1) = true := by decide +kernel
set_option maxRecDepth 65536 in
theorem w_t7 : (((((((words1.drop 24).drop 24).drop 24).drop 24).drop 24).drop 24).take 24).all (fun c => isCode c || c.before args0 about1) = true := by decide +kernel
set_option maxRecDepth 65536 in
theorem w_t8 : (((((((words1.drop 24).drop 24).drop 24).drop 24).drop 24).drop 24).drop 24).all (fun c => isCode c || c.before args0 about1) = true := by decide +kernel
theorem w_tables : (allAtoms (Jvm.Cond.code x code maxLocals ret :: tables_1)).before args0 about1 = true := by
  rw [allAtoms_all]
  show words1.all (fun c => c.before args0 about1) = true
  refine all_split ?_ w_codes
  rw [← List.take_append_drop 24 words1, List.all_append, w_t1, ← List.take_append_drop 24 (words1.drop 24), List.all_append, w_t2, ← List.take_append_drop 24 ((words1.drop 24).drop 24), List.all_append, w_t3, ← List.take_append_drop 24 (((words1.drop 24).drop 24).drop 24), List.all_append, w_t4, ← List.take_append_drop 24 ((((words1.drop 24).drop 24).drop 24).drop 24), List.all_append, w_t5, ← List.take_append_drop 24 (((((words1.drop 24).drop 24).drop 24).drop 24).drop 24), List.all_append, w_t6, ← List.take_append_drop 24 ((((((words1.drop 24).drop 24).drop 24).drop 24).drop 24).drop 24), List.all_append, w_t7, w_t8]
  rfl
set_option maxRecDepth 65536 in
theorem w_case : (Jvm.Cond.and given_1 narrow_1).before args0 about1 = true := by decide +kernel
theorem w_applies : (headSpec (Jvm.Cond.code x code maxLocals ret :: tables_1) room_1).applies x e0.platform about1 = true :=
  (Spec.applies_iff w_frames).mpr ⟨w_running, w_runnable, w_alone, w_named, w_hears, w_ripe, w_room, w_tables⟩
theorem atStart : AtStart classFile x code maxLocals ret World_1 tables_1 room_1 Calls_1 rest_1 Pre_1 launch0 p0 e0 about1 theMethod args0 below0 :=
  ⟨lists_1, trivial, launch0.admits_env _ _ _, launch0.least_env, fairChoices_fair.cas, fairChoices_fair.clock, w_frames, w_args, w_heap, w_applies, trivial, trivial, w_case⟩
end start1
theorem witness_1 : WitnessClaimed_1 := ⟨start1.p0, start1.e0, start1.about1, start1.theMethod, start1.args0, start1.below0, start1.atStart⟩
end Jvm.Pilot.@@N@@
