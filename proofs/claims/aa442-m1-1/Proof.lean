import JvmDerived
import JvmDerived.Pilot.@@N@@Statement
import JvmDerived.Pilot.@@N@@Code
set_option linter.unusedVariables false
set_option linter.unusedSimpArgs false

namespace Jvm.RoadKit
open Sem ClassFile Op Lib Jvm.Stand Jvm.Free Jvm.LawKit
section New
variable {p : Program} {l : Launch} {e : Env} {R : Room} {s : State} {m : MethodId} {args : Array Value} {below : List Frame} {meth : Method} {c : Code} {T : State} {locs : List Loc} {cells slots : Nat}
theorem retI (X : Stand p l e R s m args below meth c T locs cells slots) (hx : p.tables.exec = Jvm.exec) {pc : Nat} {Ls : Array Slot} {z : Int32} {rest : List Value} (hret : meth.sig.returnType = some .int) (hd : decode c.code pc = .ok (.ireturn, 1)) {fs : List Frame}
    (hl : ∀ (f : JFrame) (acts : List Action), f.method = m → f.locked = none → f.entered = [] → (doReturn e (T.setTop f) acts (some (.int z))).1 = T.setFrames fs) : Steps p.tables e below (T.setTop (mkF m pc Ls (.int z :: rest))) (T.setFrames fs) := by
  have hm' : T.vm.method? m = some meth := X.method'
  have hn : narrow .int (.int z) = .int z := rfl
  show Steps p.tables e below (T.setTop { method := m, pc := pc, locals := Ls, stack := _ :: rest, locked := none }) _
  jvm_step X.here [X.here.top, hx, hd, hm', hret, hn]
  first | (intro acts; rw [hl _ acts rfl rfl rfl]) | rw [hl _ _ rfl rfl rfl]
  exact Steps.refl _
end New
end Jvm.RoadKit

namespace Jvm.Pilot.@@N@@
open Jvm Jvm.ClassFile Sem Op Lib Jvm.Free Jvm.Stand Jvm.LawKit Jvm.RoadKit Bundle Jvm.Pilot.@@N@@.Jvm.D
abbrev own_S (p : Program) (e : Env) (below : List Frame) (T : State) (f : JFrame) (t : State) : Prop := Steps p.tables e below (T.setTop f) t

theorem d_prog_28_method_1_0 : decode prog_28_method_1_code 0 = .ok (.aload_n 0, 1) := by decide +kernel
theorem d_prog_28_method_1_1 : decode prog_28_method_1_code 1 = .ok (.invokespecial 5, 3) := by decide +kernel
theorem d_prog_28_method_1_4 : decode prog_28_method_1_code 4 = .ok (.aload_n 0, 1) := by decide +kernel
theorem d_prog_28_method_1_5 : decode prog_28_method_1_code 5 = .ok (.iload_n 1, 1) := by decide +kernel
theorem d_prog_28_method_1_6 : decode prog_28_method_1_code 6 = .ok (.putfield 11, 3) := by decide +kernel
theorem d_prog_28_method_1_9 : decode prog_28_method_1_code 9 = .ok (.aload_n 0, 1) := by decide +kernel
theorem d_prog_28_method_1_10 : decode prog_28_method_1_code 10 = .ok (.lload_n 2, 1) := by decide +kernel
theorem d_prog_28_method_1_11 : decode prog_28_method_1_code 11 = .ok (.putfield 17, 3) := by decide +kernel
theorem d_prog_28_method_1_14 : decode prog_28_method_1_code 14 = .ok (.aload_n 0, 1) := by decide +kernel
theorem d_prog_28_method_1_15 : decode prog_28_method_1_code 15 = .ok (.lload 4, 2) := by decide +kernel
theorem d_prog_28_method_1_17 : decode prog_28_method_1_code 17 = .ok (.putfield 21, 3) := by decide +kernel
theorem d_prog_28_method_1_20 : decode prog_28_method_1_code 20 = .ok (.aload_n 0, 1) := by decide +kernel
theorem d_prog_28_method_1_21 : decode prog_28_method_1_code 21 = .ok (.lload 6, 2) := by decide +kernel
theorem d_prog_28_method_1_23 : decode prog_28_method_1_code 23 = .ok (.putfield 24, 3) := by decide +kernel
theorem d_prog_28_method_1_26 : decode prog_28_method_1_code 26 = .ok (.return_, 1) := by decide +kernel
theorem pn_0 : plainName "com/example/dual_delivery/dualdelivery/store/MessageState" = true := by first | (simp [plainName, overriddenIn]; done) | decide +kernel
theorem ef_rm1 (m : MethodId) (x0 : Addr) (x1 : Int32) (x2 : Int64) (x3 : Int64) (x4 : Int64) : entryFrame m #[(.ref x0), (.int x1), (.long x2), (.long x3), (.long x4)] 8 = mkF m 0 #[.val (.ref x0), .val (.int x1), .val (.long x2), .second, .val (.long x3), .second, .val (.long x4), .second] [] := by first | (simp [entryFrame, mkF, argsToLocals, Value.category]; done) | rfl
def Q1 (Z : State) (a1 : Addr) (p2 : Int32) (q3 : Int64) (q4 : Int64) (q5 : Int64) (h0 : Heap) (n0 : Nat) (v : Option Value) (h : Heap) (L : List Loc) : Prop := v = none ∧ Fr n0 L ∧ Keep h0 h [a1] ∧ Exa Z h a1 "com/example/dual_delivery/dualdelivery/store/MessageState" ∧ Fld Z h a1 "com/example/dual_delivery/dualdelivery/store/MessageState" "dequeueCount" "I" (.int p2) ∧ Fld Z h a1 "com/example/dual_delivery/dualdelivery/store/MessageState" "firstDequeueMillis" "J" (.long q3) ∧ Fld Z h a1 "com/example/dual_delivery/dualdelivery/store/MessageState" "token" "J" (.long q4) ∧ Fld Z h a1 "com/example/dual_delivery/dualdelivery/store/MessageState" "sendMillis" "J" (.long q5)
set_option maxRecDepth 65536 in
set_option maxHeartbeats 40000000 in
theorem rm1 (l : Launch) (Z : State) (a0 : Array Value) (hw : ∀ d ∈ tables_1, d.before a0 Z = true) (ws : List Jvm.Cond) (a1 : Addr) (p2 : Int32) (q3 : Int64) (q4 : Int64) (q5 : Int64) (h0 : Heap) (n0 : Nat) (Z0 : n0 ≤ h0.size) (F0 : Fld Z h0 a1 "com/example/dual_delivery/dualdelivery/store/MessageState" "dequeueCount" "I" (.int (0 : Int32))) (F1 : Fld Z h0 a1 "com/example/dual_delivery/dualdelivery/store/MessageState" "firstDequeueMillis" "J" (.long (0 : Int64))) (F2 : Fld Z h0 a1 "com/example/dual_delivery/dualdelivery/store/MessageState" "token" "J" (.long (0 : Int64))) (F3 : Fld Z h0 a1 "com/example/dual_delivery/dualdelivery/store/MessageState" "sendMillis" "J" (.long (0 : Int64))) (E1 : Exa Z h0 a1 "com/example/dual_delivery/dualdelivery/store/MessageState") (g_a1 : n0 ≤ a1) :
    MetFree l (⟨"com/example/dual_delivery/dualdelivery/store/MessageState", "<init>", "(IJJJ)V"⟩ : MethodName) (head1 (Jvm.Cond.code (⟨"com/example/dual_delivery/dualdelivery/store/MessageState", "<init>", "(IJJJ)V"⟩ : MethodName) prog_28_method_1_code 8 none :: ws) ({ frames := 1, cells := 0, slots := 0, locals := 12 } : Room)) (fun a U => a = #[(.ref a1), (.int p2), (.long q3), (.long q4), (.long q5)] ∧ Z.Warmed39 U.vm ∧ U.heap = h0) (fun _ _ _ _ _ => True) (fun _ U o U' => ∃ v L, o = .returned v ∧ Q1 Z a1 p2 q3 q4 q5 h0 n0 v U'.heap L ∧ FrameEnd U o U' L ({ frames := 1, cells := 0, slots := 0, locals := 12 } : Room).cells ({ frames := 1, cells := 0, slots := 0, locals := 12 } : Room).slots) := by
  refine MetFree.of_bodySF (plainFor_of_name pn_0) hisR ?_
  intro p e s m args below meth c s₁ Bd hml0 hP hK
  obtain ⟨rfl, hZ, hh⟩ := hP
  have hx := Bd.exec
  have hby := Bd.bytes
  have hml : c.maxLocals = 8 := hml0
  have hown : s.vm.findClass "com/example/dual_delivery/dualdelivery/store/MessageState" = some m.cls := findClass_of_methodNamed Bd.named
  have hnm := (name_of_methodNamed Bd.named Bd.method).1
  have X0 : Stand p l e ({ frames := 1, cells := 0, slots := 0, locals := 12 } : Room) s m #[(.ref a1), (.int p2), (.long q3), (.long q4), (.long q5)] below meth c s₁ [] 0 0 := Stand.of_body Bd
  have e0 : s₁.heap = h0 := by rw [← hh, Bd.state]; rfl
  have N0 := Fr.nil n0
  obtain ⟨Gl, hGl, k0⟩ : ∃ Gl : State → Prop, (∀ t, Gl t → Steps p.tables e below (s₁.setTop (entryFrame m #[(.ref a1), (.int p2), (.long q3), (.long q4), (.long q5)] 8)) t) ∧ ∀ t, own_S p e below s₁ (mkF m 0 #[.val (.ref a1), .val (.int p2), .val (.long q3), .second, .val (.long q4), .second, .val (.long q5), .second] []) t → Gl t := ⟨fun t => Steps p.tables e below (s₁.setTop (entryFrame m #[(.ref a1), (.int p2), (.long q3), (.long q4), (.long q5)] 8)) t, fun _ k => k, fun t k => castTop (ef_rm1 m a1 p2 q3 q4 q5) k⟩
  have k1 : ∀ t, own_S p e below s₁ (mkF m 1 #[.val (.ref a1), .val (.int p2), .val (.long q3), .second, .val (.long q4), .second, .val (.long q5), .second] [(.ref a1)]) t → Gl t := fun t kt => k0 t (by
    show own_S p e below s₁ (mkF m 0 #[.val (.ref a1), .val (.int p2), .val (.long q3), .second, .val (.long q4), .second, .val (.long q5), .second] []) _
    refine XS.aloadN X0.here hx rfl (hb hby d_prog_28_method_1_0) rfl rfl ?_
    exact kt)
  obtain ⟨T2, X2, e2, st2⟩ := initO X0 hx hZ hown (hw _ (List.mem_of_getElem? (i := 6) rfl)) (hw _ (List.mem_of_getElem? (i := 7) rfl)) (hw _ (List.mem_of_getElem? (i := 8) rfl)) e0 (g := (mkF m 1 #[.val (.ref a1), .val (.int p2), .val (.long q3), .second, .val (.long q4), .second, .val (.long q5), .second] [(.ref a1)])) rfl (by rw [hml]; rfl) rfl (hb hby d_prog_28_method_1_1) (by decide) (W := 0) (by show 2 * 0 + _ ≤ _; exact Nat.le_of_eq rfl) (by decide)
  have k3 : ∀ t, own_S p e below T2 (mkF m 4 #[.val (.ref a1), .val (.int p2), .val (.long q3), .second, .val (.long q4), .second, .val (.long q5), .second] []) t → Gl t := fun t kt => k1 t (st2 _ kt)
  have k4 : ∀ t, own_S p e below T2 (mkF m 6 #[.val (.ref a1), .val (.int p2), .val (.long q3), .second, .val (.long q4), .second, .val (.long q5), .second] [(.int p2), (.ref a1)]) t → Gl t := fun t kt => k3 t (by
    show own_S p e below T2 (mkF m 4 #[.val (.ref a1), .val (.int p2), .val (.long q3), .second, .val (.long q4), .second, .val (.long q5), .second] []) _
    refine XS.aloadN X2.here hx rfl (hb hby d_prog_28_method_1_4) rfl rfl ?_
    show own_S p e below T2 (mkF m 5 #[.val (.ref a1), .val (.int p2), .val (.long q3), .second, .val (.long q4), .second, .val (.long q5), .second] [(.ref a1)]) _
    refine XS.iloadN X2.here hx rfl (hb hby d_prog_28_method_1_5) rfl ?_
    exact kt)
  obtain ⟨T5, h5, X5, e5, W5, st5⟩ := putF X2 hx hZ hown (host := "") (Or.inl (hw _ (List.mem_of_getElem? (i := 9) rfl))) Via.refl e2 F0 E1 (Or.inr ⟨(hw _ (List.mem_of_getElem? (i := 10) rfl)), rfl, hnm⟩) (hw _ (List.mem_of_getElem? (i := 1) rfl)) (ty := .int) (by decide) rfl rfl (g := (mkF m 6 #[.val (.ref a1), .val (.int p2), .val (.long q3), .second, .val (.long q4), .second, .val (.long q5), .second] [(.int p2), (.ref a1)])) rfl rfl (hb hby d_prog_28_method_1_6)
  have Z6 : n0 ≤ h5.size := Nat.le_trans Z0 (Keep.of_wr W5).1
  have K7 : Keep h0 h5 [a1] := (Keep.refl h0 [a1]).wr W5 (Or.inl (List.mem_of_getElem? (i := 0) rfl))
  have Fw5 := F0.same W5
  have N8 := Fr.snoc X5 N0 g_a1
  have k9 : ∀ t, own_S p e below T5 (mkF m 9 #[.val (.ref a1), .val (.int p2), .val (.long q3), .second, .val (.long q4), .second, .val (.long q5), .second] []) t → Gl t := fun t kt => k4 t (st5 _ kt)
  have k10 : ∀ t, own_S p e below T5 (mkF m 11 #[.val (.ref a1), .val (.int p2), .val (.long q3), .second, .val (.long q4), .second, .val (.long q5), .second] [(.long q3), (.ref a1)]) t → Gl t := fun t kt => k9 t (by
    show own_S p e below T5 (mkF m 9 #[.val (.ref a1), .val (.int p2), .val (.long q3), .second, .val (.long q4), .second, .val (.long q5), .second] []) _
    refine XS.aloadN X5.here hx rfl (hb hby d_prog_28_method_1_9) rfl rfl ?_
    show own_S p e below T5 (mkF m 10 #[.val (.ref a1), .val (.int p2), .val (.long q3), .second, .val (.long q4), .second, .val (.long q5), .second] [(.ref a1)]) _
    refine XS.lloadN X5.here hx rfl (hb hby d_prog_28_method_1_10) rfl ?_
    exact kt)
  have f11 := (F1.other W5 (Or.inr (slot_ne (Or.inr (hw _ (List.mem_of_getElem? (i := 12) rfl))) (Or.inr (hw _ (List.mem_of_getElem? (i := 10) rfl))) (by decide) (t := .long) (t' := .int) (by decide) (by decide))))
  have f12 := (E1.wr W5)
  obtain ⟨T13, h13, X13, e13, W13, st13⟩ := putF X5 hx hZ hown (host := "") (Or.inl (hw _ (List.mem_of_getElem? (i := 11) rfl))) Via.refl e5 f11 f12 (Or.inr ⟨(hw _ (List.mem_of_getElem? (i := 12) rfl)), rfl, hnm⟩) (hw _ (List.mem_of_getElem? (i := 1) rfl)) (ty := .long) (by decide) rfl rfl (g := (mkF m 11 #[.val (.ref a1), .val (.int p2), .val (.long q3), .second, .val (.long q4), .second, .val (.long q5), .second] [(.long q3), (.ref a1)])) rfl rfl (hb hby d_prog_28_method_1_11)
  have Z14 : n0 ≤ h13.size := Nat.le_trans Z6 (Keep.of_wr W13).1
  have K15 : Keep h0 h13 [a1] := K7.wr W13 (Or.inl (List.mem_of_getElem? (i := 0) rfl))
  have Fw13 := f11.same W13
  have N16 := Fr.snoc X13 N8 g_a1
  have k17 : ∀ t, own_S p e below T13 (mkF m 14 #[.val (.ref a1), .val (.int p2), .val (.long q3), .second, .val (.long q4), .second, .val (.long q5), .second] []) t → Gl t := fun t kt => k10 t (st13 _ kt)
  have k18 : ∀ t, own_S p e below T13 (mkF m 17 #[.val (.ref a1), .val (.int p2), .val (.long q3), .second, .val (.long q4), .second, .val (.long q5), .second] [(.long q4), (.ref a1)]) t → Gl t := fun t kt => k17 t (by
    show own_S p e below T13 (mkF m 14 #[.val (.ref a1), .val (.int p2), .val (.long q3), .second, .val (.long q4), .second, .val (.long q5), .second] []) _
    refine XS.aloadN X13.here hx rfl (hb hby d_prog_28_method_1_14) rfl rfl ?_
    show own_S p e below T13 (mkF m 15 #[.val (.ref a1), .val (.int p2), .val (.long q3), .second, .val (.long q4), .second, .val (.long q5), .second] [(.ref a1)]) _
    refine XS.lload X13.here hx rfl (hb hby d_prog_28_method_1_15) rfl ?_
    exact kt)
  have f19 := ((F2.other W5 (Or.inr (slot_ne (Or.inr (hw _ (List.mem_of_getElem? (i := 14) rfl))) (Or.inr (hw _ (List.mem_of_getElem? (i := 10) rfl))) (by decide) (t := .long) (t' := .int) (by decide) (by decide)))).other W13 (Or.inr (slot_ne (Or.inr (hw _ (List.mem_of_getElem? (i := 14) rfl))) (Or.inr (hw _ (List.mem_of_getElem? (i := 12) rfl))) (by decide) (t := .long) (t' := .long) (by decide) (by decide))))
  have f20 := (f12.wr W13)
  obtain ⟨T21, h21, X21, e21, W21, st21⟩ := putF X13 hx hZ hown (host := "") (Or.inl (hw _ (List.mem_of_getElem? (i := 13) rfl))) Via.refl e13 f19 f20 (Or.inr ⟨(hw _ (List.mem_of_getElem? (i := 14) rfl)), rfl, hnm⟩) (hw _ (List.mem_of_getElem? (i := 1) rfl)) (ty := .long) (by decide) rfl rfl (g := (mkF m 17 #[.val (.ref a1), .val (.int p2), .val (.long q3), .second, .val (.long q4), .second, .val (.long q5), .second] [(.long q4), (.ref a1)])) rfl rfl (hb hby d_prog_28_method_1_17)
  have Z22 : n0 ≤ h21.size := Nat.le_trans Z14 (Keep.of_wr W21).1
  have K23 : Keep h0 h21 [a1] := K15.wr W21 (Or.inl (List.mem_of_getElem? (i := 0) rfl))
  have Fw21 := f19.same W21
  have N24 := Fr.snoc X21 N16 g_a1
  have k25 : ∀ t, own_S p e below T21 (mkF m 20 #[.val (.ref a1), .val (.int p2), .val (.long q3), .second, .val (.long q4), .second, .val (.long q5), .second] []) t → Gl t := fun t kt => k18 t (st21 _ kt)
  have k26 : ∀ t, own_S p e below T21 (mkF m 23 #[.val (.ref a1), .val (.int p2), .val (.long q3), .second, .val (.long q4), .second, .val (.long q5), .second] [(.long q5), (.ref a1)]) t → Gl t := fun t kt => k25 t (by
    show own_S p e below T21 (mkF m 20 #[.val (.ref a1), .val (.int p2), .val (.long q3), .second, .val (.long q4), .second, .val (.long q5), .second] []) _
    refine XS.aloadN X21.here hx rfl (hb hby d_prog_28_method_1_20) rfl rfl ?_
    show own_S p e below T21 (mkF m 21 #[.val (.ref a1), .val (.int p2), .val (.long q3), .second, .val (.long q4), .second, .val (.long q5), .second] [(.ref a1)]) _
    refine XS.lload X21.here hx rfl (hb hby d_prog_28_method_1_21) rfl ?_
    exact kt)
  have f27 := (((F3.other W5 (Or.inr (slot_ne (Or.inr (hw _ (List.mem_of_getElem? (i := 16) rfl))) (Or.inr (hw _ (List.mem_of_getElem? (i := 10) rfl))) (by decide) (t := .long) (t' := .int) (by decide) (by decide)))).other W13 (Or.inr (slot_ne (Or.inr (hw _ (List.mem_of_getElem? (i := 16) rfl))) (Or.inr (hw _ (List.mem_of_getElem? (i := 12) rfl))) (by decide) (t := .long) (t' := .long) (by decide) (by decide)))).other W21 (Or.inr (slot_ne (Or.inr (hw _ (List.mem_of_getElem? (i := 16) rfl))) (Or.inr (hw _ (List.mem_of_getElem? (i := 14) rfl))) (by decide) (t := .long) (t' := .long) (by decide) (by decide))))
  have f28 := (f20.wr W21)
  obtain ⟨T29, h29, X29, e29, W29, st29⟩ := putF X21 hx hZ hown (host := "") (Or.inl (hw _ (List.mem_of_getElem? (i := 15) rfl))) Via.refl e21 f27 f28 (Or.inr ⟨(hw _ (List.mem_of_getElem? (i := 16) rfl)), rfl, hnm⟩) (hw _ (List.mem_of_getElem? (i := 1) rfl)) (ty := .long) (by decide) rfl rfl (g := (mkF m 23 #[.val (.ref a1), .val (.int p2), .val (.long q3), .second, .val (.long q4), .second, .val (.long q5), .second] [(.long q5), (.ref a1)])) rfl rfl (hb hby d_prog_28_method_1_23)
  have Z30 : n0 ≤ h29.size := Nat.le_trans Z22 (Keep.of_wr W29).1
  have K31 : Keep h0 h29 [a1] := K23.wr W29 (Or.inl (List.mem_of_getElem? (i := 0) rfl))
  have Fw29 := f27.same W29
  have N32 := Fr.snoc X29 N24 g_a1
  have k33 : ∀ t, own_S p e below T29 (mkF m 26 #[.val (.ref a1), .val (.int p2), .val (.long q3), .second, .val (.long q4), .second, .val (.long q5), .second] []) t → Gl t := fun t kt => k26 t (st29 _ kt)
  obtain ⟨fs, hr, hrun, hended, hW, hsame⟩ := X29.leave (v := none) (fun _ => rfl)
  refine ⟨_, _, hGl _ (k33 _ (X29.returnOut hx Bd.returns (hb hby d_prog_28_method_1_26) hr)), hrun, hended, _, _, rfl, ?_, ⟨_, rfl⟩, hW, hsame.mono (by decide) (by decide)⟩
  show Q1 Z a1 p2 q3 q4 q5 h0 n0 _ T29.heap _
  rw [e29]
  have f34 := (f28.wr W29)
  have f35 := (((Fw5.other W13 (Or.inr (slot_ne (Or.inr (hw _ (List.mem_of_getElem? (i := 10) rfl))) (Or.inr (hw _ (List.mem_of_getElem? (i := 12) rfl))) (by decide) (t := .int) (t' := .long) (by decide) (by decide)))).other W21 (Or.inr (slot_ne (Or.inr (hw _ (List.mem_of_getElem? (i := 10) rfl))) (Or.inr (hw _ (List.mem_of_getElem? (i := 14) rfl))) (by decide) (t := .int) (t' := .long) (by decide) (by decide)))).other W29 (Or.inr (slot_ne (Or.inr (hw _ (List.mem_of_getElem? (i := 10) rfl))) (Or.inr (hw _ (List.mem_of_getElem? (i := 16) rfl))) (by decide) (t := .int) (t' := .long) (by decide) (by decide))))
  have f36 := ((Fw13.other W21 (Or.inr (slot_ne (Or.inr (hw _ (List.mem_of_getElem? (i := 12) rfl))) (Or.inr (hw _ (List.mem_of_getElem? (i := 14) rfl))) (by decide) (t := .long) (t' := .long) (by decide) (by decide)))).other W29 (Or.inr (slot_ne (Or.inr (hw _ (List.mem_of_getElem? (i := 12) rfl))) (Or.inr (hw _ (List.mem_of_getElem? (i := 16) rfl))) (by decide) (t := .long) (t' := .long) (by decide) (by decide))))
  have f37 := (Fw21.other W29 (Or.inr (slot_ne (Or.inr (hw _ (List.mem_of_getElem? (i := 14) rfl))) (Or.inr (hw _ (List.mem_of_getElem? (i := 16) rfl))) (by decide) (t := .long) (t' := .long) (by decide) (by decide))))
  exact ⟨rfl, N32, K31, f34, f35, f36, f37, Fw29⟩

theorem d_prog_28_method_4_0 : decode prog_28_method_4_code 0 = .ok (.new 12, 3) := by decide +kernel
theorem d_prog_28_method_4_3 : decode prog_28_method_4_code 3 = .ok (.dup, 1) := by decide +kernel
theorem d_prog_28_method_4_4 : decode prog_28_method_4_code 4 = .ok (.aload_n 0, 1) := by decide +kernel
theorem d_prog_28_method_4_5 : decode prog_28_method_4_code 5 = .ok (.getfield 11, 3) := by decide +kernel
theorem d_prog_28_method_4_8 : decode prog_28_method_4_code 8 = .ok (.iconst 1, 1) := by decide +kernel
theorem d_prog_28_method_4_9 : decode prog_28_method_4_code 9 = .ok (.iadd, 1) := by decide +kernel
theorem d_prog_28_method_4_10 : decode prog_28_method_4_code 10 = .ok (.aload_n 0, 1) := by decide +kernel
theorem d_prog_28_method_4_11 : decode prog_28_method_4_code 11 = .ok (.getfield 11, 3) := by decide +kernel
theorem d_prog_28_method_4_14 : decode prog_28_method_4_code 14 = .ok (.ifCond .ne 7, 3) := by decide +kernel
theorem d_prog_28_method_4_17 : decode prog_28_method_4_code 17 = .ok (.lload_n 1, 1) := by decide +kernel
theorem d_prog_28_method_4_18 : decode prog_28_method_4_code 18 = .ok (.goto 7, 3) := by decide +kernel
theorem d_prog_28_method_4_21 : decode prog_28_method_4_code 21 = .ok (.aload_n 0, 1) := by decide +kernel
theorem d_prog_28_method_4_22 : decode prog_28_method_4_code 22 = .ok (.getfield 17, 3) := by decide +kernel
theorem d_prog_28_method_4_25 : decode prog_28_method_4_code 25 = .ok (.lload_n 3, 1) := by decide +kernel
theorem d_prog_28_method_4_26 : decode prog_28_method_4_code 26 = .ok (.aload_n 0, 1) := by decide +kernel
theorem d_prog_28_method_4_27 : decode prog_28_method_4_code 27 = .ok (.getfield 24, 3) := by decide +kernel
theorem d_prog_28_method_4_30 : decode prog_28_method_4_code 30 = .ok (.invokespecial 41, 3) := by decide +kernel
theorem d_prog_28_method_4_33 : decode prog_28_method_4_code 33 = .ok (.areturn, 1) := by decide +kernel
theorem pd_0 : parseMethodDescriptor "(IJJJ)V" = some ⟨[.int, .long, .long, .long], none⟩ := by decide +kernel
theorem ef_rm3 (m : MethodId) (x0 : Addr) (x1 : Int64) (x2 : Int64) : entryFrame m #[(.ref x0), (.long x1), (.long x2)] 5 = mkF m 0 #[.val (.ref x0), .val (.long x1), .second, .val (.long x2), .second] [] := by first | (simp [entryFrame, mkF, argsToLocals, Value.category]; done) | rfl
def Q3 (Z : State) (a1 : Addr) (q2 : Int64) (q3 : Int64) (w1 : Int32) (w2 : Int64) (w3 : Int64) (w4 : Int64) (h0 : Heap) (n0 : Nat) (v : Option Value) (h : Heap) (L : List Loc) : Prop := ∃ b : Addr, v = some (.ref b) ∧ Fr n0 L ∧ n0 ≤ b ∧ Keep h0 h [] ∧ Exa Z h b "com/example/dual_delivery/dualdelivery/store/MessageState" ∧ Fld Z h b "com/example/dual_delivery/dualdelivery/store/MessageState" "dequeueCount" "I" (.int (w1 + (1 : Int32))) ∧ Fld Z h b "com/example/dual_delivery/dualdelivery/store/MessageState" "firstDequeueMillis" "J" (.long (if w1 = (0 : Int32) then q2 else w2)) ∧ Fld Z h b "com/example/dual_delivery/dualdelivery/store/MessageState" "token" "J" (.long q3) ∧ Fld Z h b "com/example/dual_delivery/dualdelivery/store/MessageState" "sendMillis" "J" (.long w4)
set_option maxRecDepth 65536 in
set_option maxHeartbeats 40000000 in
theorem rm3 (l : Launch) (Z : State) (a0 : Array Value) (hw : ∀ d ∈ tables_1, d.before a0 Z = true) (ws : List Jvm.Cond) (a1 : Addr) (q2 : Int64) (q3 : Int64) (w1 : Int32) (w2 : Int64) (w3 : Int64) (w4 : Int64) (h0 : Heap) (n0 : Nat) (Z0 : n0 ≤ h0.size) (F0 : Fld Z h0 a1 "com/example/dual_delivery/dualdelivery/store/MessageState" "dequeueCount" "I" (.int w1)) (F1 : Fld Z h0 a1 "com/example/dual_delivery/dualdelivery/store/MessageState" "firstDequeueMillis" "J" (.long w2)) (F2 : Fld Z h0 a1 "com/example/dual_delivery/dualdelivery/store/MessageState" "token" "J" (.long w3)) (F3 : Fld Z h0 a1 "com/example/dual_delivery/dualdelivery/store/MessageState" "sendMillis" "J" (.long w4)) :
    MetFree l (⟨"com/example/dual_delivery/dualdelivery/store/MessageState", "receivedAt", "(JJ)Lcom/example/dual_delivery/dualdelivery/store/MessageState;"⟩ : MethodName) (head1 (Jvm.Cond.code (⟨"com/example/dual_delivery/dualdelivery/store/MessageState", "receivedAt", "(JJ)Lcom/example/dual_delivery/dualdelivery/store/MessageState;"⟩ : MethodName) prog_28_method_4_code 5 (some (.object "com/example/dual_delivery/dualdelivery/store/MessageState")) :: ws) ({ frames := 2, cells := 1, slots := 4, locals := 32 } : Room)) (fun a U => a = #[(.ref a1), (.long q2), (.long q3)] ∧ Z.Warmed39 U.vm ∧ U.heap = h0) (fun _ _ _ _ _ => True) (fun _ U o U' => ∃ v L, o = .returned v ∧ Q3 Z a1 q2 q3 w1 w2 w3 w4 h0 n0 v U'.heap L ∧ FrameEnd U o U' L ({ frames := 2, cells := 1, slots := 4, locals := 32 } : Room).cells ({ frames := 2, cells := 1, slots := 4, locals := 32 } : Room).slots) := by
  refine MetFree.of_bodySF (plainFor_of_name pn_0) hisR ?_
  intro p e s m args below meth c s₁ Bd hml0 hP hK
  obtain ⟨rfl, hZ, hh⟩ := hP
  have hx := Bd.exec
  have hby := Bd.bytes
  have hml : c.maxLocals = 5 := hml0
  have hown : s.vm.findClass "com/example/dual_delivery/dualdelivery/store/MessageState" = some m.cls := findClass_of_methodNamed Bd.named
  have hnm := (name_of_methodNamed Bd.named Bd.method).1
  have X0 : Stand p l e ({ frames := 2, cells := 1, slots := 4, locals := 32 } : Room) s m #[(.ref a1), (.long q2), (.long q3)] below meth c s₁ [] 0 0 := Stand.of_body Bd
  have e0 : s₁.heap = h0 := by rw [← hh, Bd.state]; rfl
  have N0 := Fr.nil n0
  obtain ⟨Gl, hGl, k0⟩ : ∃ Gl : State → Prop, (∀ t, Gl t → Steps p.tables e below (s₁.setTop (entryFrame m #[(.ref a1), (.long q2), (.long q3)] 5)) t) ∧ ∀ t, own_S p e below s₁ (mkF m 0 #[.val (.ref a1), .val (.long q2), .second, .val (.long q3), .second] []) t → Gl t := ⟨fun t => Steps p.tables e below (s₁.setTop (entryFrame m #[(.ref a1), (.long q2), (.long q3)] 5)) t, fun _ k => k, fun t k => castTop (ef_rm3 m a1 q2 q3) k⟩
  obtain ⟨T1, h1, X1, e1, E1, A1, D1, -, st1⟩ := newO X0 hx hZ hown (hw _ (List.mem_of_getElem? (i := 22) rfl)) (hw _ (List.mem_of_getElem? (i := 1) rfl)) (hw _ (List.mem_of_getElem? (i := 2) rfl)) e0 (g := (mkF m 0 #[.val (.ref a1), .val (.long q2), .second, .val (.long q3), .second] [])) rfl (hb hby d_prog_28_method_4_0) (by decide) (by decide)
  obtain ⟨b1, g1⟩ : ∃ z, z = h0.size := ⟨_, rfl⟩
  rw [← g1] at A1 D1 st1
  have sz_b1 : h0.size ≤ b1 := Nat.le_trans (Keep.refl h0 []).1 (Nat.le_of_eq g1.symm)
  have g_b1 : n0 ≤ b1 := Nat.le_trans Z0 (Nat.le_of_eq g1.symm)
  have ne_a1_b1 : a1 ≠ b1 := Nat.ne_of_lt (Nat.lt_of_lt_of_le F0.lt (Nat.le_of_eq g1.symm))
  have Z2 : n0 ≤ h1.size := Nat.le_trans Z0 E1.1
  have K3 : Keep h0 h1 [] := (Keep.refl h0 []).ext E1
  have F1_10 : Fld Z h1 b1 "com/example/dual_delivery/dualdelivery/store/MessageState" "dequeueCount" "I" (.int (0 : Int32)) := D1 (Or.inr (hw _ (List.mem_of_getElem? (i := 10) rfl))) (ty := .int) (by decide)
  have F1_12 : Fld Z h1 b1 "com/example/dual_delivery/dualdelivery/store/MessageState" "firstDequeueMillis" "J" (.long (0 : Int64)) := D1 (Or.inr (hw _ (List.mem_of_getElem? (i := 12) rfl))) (ty := .long) (by decide)
  have F1_14 : Fld Z h1 b1 "com/example/dual_delivery/dualdelivery/store/MessageState" "token" "J" (.long (0 : Int64)) := D1 (Or.inr (hw _ (List.mem_of_getElem? (i := 14) rfl))) (ty := .long) (by decide)
  have F1_16 : Fld Z h1 b1 "com/example/dual_delivery/dualdelivery/store/MessageState" "sendMillis" "J" (.long (0 : Int64)) := D1 (Or.inr (hw _ (List.mem_of_getElem? (i := 16) rfl))) (ty := .long) (by decide)
  have k4 : ∀ t, own_S p e below T1 (mkF m 3 #[.val (.ref a1), .val (.long q2), .second, .val (.long q3), .second] [(.ref b1)]) t → Gl t := fun t kt => k0 t (st1 _ kt)
  have k5 : ∀ t, own_S p e below T1 (mkF m 5 #[.val (.ref a1), .val (.long q2), .second, .val (.long q3), .second] [(.ref a1), (.ref b1), (.ref b1)]) t → Gl t := fun t kt => k4 t (by
    show own_S p e below T1 (mkF m 3 #[.val (.ref a1), .val (.long q2), .second, .val (.long q3), .second] [(.ref b1)]) _
    refine XS.dup X1.here hx rfl (hb hby d_prog_28_method_4_3) rfl rfl ?_
    show own_S p e below T1 (mkF m 4 #[.val (.ref a1), .val (.long q2), .second, .val (.long q3), .second] [(.ref b1), (.ref b1)]) _
    refine XS.aloadN X1.here hx rfl (hb hby d_prog_28_method_4_4) rfl rfl ?_
    exact kt)
  have f6 := (F0.ext E1)
  obtain ⟨T7, X7, e7, st7⟩ := getF X1 hx hZ hown (host := "") (Or.inl (hw _ (List.mem_of_getElem? (i := 9) rfl))) Via.refl e1 f6 (g := (mkF m 5 #[.val (.ref a1), .val (.long q2), .second, .val (.long q3), .second] [(.ref a1), (.ref b1), (.ref b1)])) rfl rfl (hb hby d_prog_28_method_4_5)
  have k8 : ∀ t, own_S p e below T7 (mkF m 8 #[.val (.ref a1), .val (.long q2), .second, .val (.long q3), .second] [(.int w1), (.ref b1), (.ref b1)]) t → Gl t := fun t kt => k5 t (st7 _ kt)
  have k9 : ∀ t, own_S p e below T7 (mkF m 11 #[.val (.ref a1), .val (.long q2), .second, .val (.long q3), .second] [(.ref a1), (.int (w1 + (1 : Int32))), (.ref b1), (.ref b1)]) t → Gl t := fun t kt => k8 t (by
    show own_S p e below T7 (mkF m 8 #[.val (.ref a1), .val (.long q2), .second, .val (.long q3), .second] [(.int w1), (.ref b1), (.ref b1)]) _
    refine XS.iconst X7.here hx rfl (hb hby d_prog_28_method_4_8) ?_
    show own_S p e below T7 (mkF m 9 #[.val (.ref a1), .val (.long q2), .second, .val (.long q3), .second] [(.int (1 : Int32)), (.int w1), (.ref b1), (.ref b1)]) _
    refine XS.iadd X7.here hx rfl (hb hby d_prog_28_method_4_9) rfl ?_
    show own_S p e below T7 (mkF m 10 #[.val (.ref a1), .val (.long q2), .second, .val (.long q3), .second] [(.int (w1 + (1 : Int32))), (.ref b1), (.ref b1)]) _
    refine XS.aloadN X7.here hx rfl (hb hby d_prog_28_method_4_10) rfl rfl ?_
    exact kt)
  obtain ⟨T10, X10, e10, st10⟩ := getF X7 hx hZ hown (host := "") (Or.inl (hw _ (List.mem_of_getElem? (i := 9) rfl))) Via.refl e7 f6 (g := (mkF m 11 #[.val (.ref a1), .val (.long q2), .second, .val (.long q3), .second] [(.ref a1), (.int (w1 + (1 : Int32))), (.ref b1), (.ref b1)])) rfl rfl (hb hby d_prog_28_method_4_11)
  have k11 : ∀ t, own_S p e below T10 (mkF m 14 #[.val (.ref a1), .val (.long q2), .second, .val (.long q3), .second] [(.int w1), (.int (w1 + (1 : Int32))), (.ref b1), (.ref b1)]) t → Gl t := fun t kt => k9 t (st10 _ kt)
  by_cases hc14 : w1 = (0 : Int32)
  · have k12 : ∀ t, own_S p e below T10 (mkF m 27 #[.val (.ref a1), .val (.long q2), .second, .val (.long q3), .second] [(.ref a1), (.long q3), (.long q2), (.int (w1 + (1 : Int32))), (.ref b1), (.ref b1)]) t → Gl t := fun t kt => k11 t (by
      show own_S p e below T10 (mkF m 14 #[.val (.ref a1), .val (.long q2), .second, .val (.long q3), .second] [(.int w1), (.int (w1 + (1 : Int32))), (.ref b1), (.ref b1)]) _
      refine XS.ifNo X10.here hx rfl (hb hby d_prog_28_method_4_14) rfl ((if0 _ _).trans (teq hc14).2) ?_
      show own_S p e below T10 (mkF m 17 #[.val (.ref a1), .val (.long q2), .second, .val (.long q3), .second] [(.int (w1 + (1 : Int32))), (.ref b1), (.ref b1)]) _
      refine XS.lloadN X10.here hx rfl (hb hby d_prog_28_method_4_17) rfl ?_
      show own_S p e below T10 (mkF m 18 #[.val (.ref a1), .val (.long q2), .second, .val (.long q3), .second] [(.long q2), (.int (w1 + (1 : Int32))), (.ref b1), (.ref b1)]) _
      refine XS.goto X10.here hx rfl (pc0 := 18) (pc' := 25) rfl (hb hby d_prog_28_method_4_18) (by decide) (by decide) ?_
      show own_S p e below T10 (mkF m 25 #[.val (.ref a1), .val (.long q2), .second, .val (.long q3), .second] [(.long q2), (.int (w1 + (1 : Int32))), (.ref b1), (.ref b1)]) _
      refine XS.lloadN X10.here hx rfl (hb hby d_prog_28_method_4_25) rfl ?_
      show own_S p e below T10 (mkF m 26 #[.val (.ref a1), .val (.long q2), .second, .val (.long q3), .second] [(.long q3), (.long q2), (.int (w1 + (1 : Int32))), (.ref b1), (.ref b1)]) _
      refine XS.aloadN X10.here hx rfl (hb hby d_prog_28_method_4_26) rfl rfl ?_
      exact kt)
    have f13 := (F3.ext E1)
    obtain ⟨T14, X14, e14, st14⟩ := getF X10 hx hZ hown (host := "") (Or.inl (hw _ (List.mem_of_getElem? (i := 15) rfl))) Via.refl e10 f13 (g := (mkF m 27 #[.val (.ref a1), .val (.long q2), .second, .val (.long q3), .second] [(.ref a1), (.long q3), (.long q2), (.int (w1 + (1 : Int32))), (.ref b1), (.ref b1)])) rfl rfl (hb hby d_prog_28_method_4_27)
    have k15 : ∀ t, own_S p e below T14 (mkF m 30 #[.val (.ref a1), .val (.long q2), .second, .val (.long q3), .second] [(.long w4), (.long q3), (.long q2), (.int (w1 + (1 : Int32))), (.ref b1), (.ref b1)]) t → Gl t := fun t kt => k12 t (st14 _ kt)
    obtain ⟨_, _, ⟨T16, L16, cc16, ss16⟩, -, X16, ⟨Lc16, hQ16, l16, y16, z16⟩, st16⟩ := X14.specialBack hx (y := (⟨"com/example/dual_delivery/dualdelivery/store/MessageState", "<init>", "(IJJJ)V"⟩ : MethodName)) rfl hown (mvT hZ (hw _ (List.mem_of_getElem? (i := 23) rfl))) (mvT hZ (hw _ (List.mem_of_getElem? (i := 4) rfl))) (mvT hZ (hw _ (List.mem_of_getElem? (i := 5) rfl))) (by decide) (backOf (W := 1) (rm1 l Z a0 hw [] b1 (w1 + (1 : Int32)) q2 q3 w4  h1 n0 Z2 F1_10 F1_12 F1_14 F1_16 A1 g_b1) hZ (hw _ (List.mem_of_getElem? (i := 5) rfl)) (hw _ (List.mem_of_getElem? (i := 2) rfl)) (by decide) (by decide)) (g := (mkF m 30 #[.val (.ref a1), .val (.long q2), .second, .val (.long q3), .second] [(.long w4), (.long q3), (.long q2), (.int (w1 + (1 : Int32))), (.ref b1), (.ref b1)])) rfl (by rw [hml]; rfl) (Steps.refl _) (a := b1) (argsL := [(.int (w1 + (1 : Int32))), (.long q2), (.long q3), (.long w4)]) (rest := [(.ref b1)]) (lenOf pd_0 rfl) rfl (by show 2 * 0 + _ ≤ _; exact Nat.le_of_eq rfl) (hb hby d_prog_28_method_4_30) (fun _ _ => ⟨rfl, e14, (by decide : 1 + 0 ≤ _), (by decide : 4 + 0 ≤ _)⟩)
    dsimp only [Pt.U, Pt.locs, Pt.cells, Pt.slots] at X16 l16 y16 z16 st16 hQ16
    subst l16 y16 z16
    obtain ⟨rfl, Nq16, K16, Ex16, Fl16_0, Fl16_1, Fl16_2, Fl16_3⟩ := hQ16
    have N16 := Fr.app N0 Nq16
    have Z17 : n0 ≤ T16.heap.size := Nat.le_trans Z2 K16.1
    have K18 : Keep h0 T16.heap [] := K3.trans K16 (allS (Or.inr sz_b1) all0)
    have k19 : ∀ t, own_S p e below T16 (mkF m 33 #[.val (.ref a1), .val (.long q2), .second, .val (.long q3), .second] [(.ref b1)]) t → Gl t := fun t kt => k15 t (st16.trans kt)
    obtain ⟨fs, hr, hrun, hended, hW, hsame⟩ := X16.leave (v := some (.ref b1)) (fun h => by rw [Bd.returns] at h; cases h)
    refine ⟨_, _, hGl _ (k19 _ (by
        show own_S p e below T16 (mkF m 33 #[.val (.ref a1), .val (.long q2), .second, .val (.long q3), .second] [(.ref b1)]) _
        jvm_step X16.here [X16.here.top, hx, (hb hby d_prog_28_method_4_33), X16.method', Bd.returns, Value.isRef, FieldType.isReference]
        first | (intro acts; rw [hr _ acts rfl rfl rfl]) | rw [hr _ _ rfl rfl rfl]
        exact Steps.refl _)), hrun, hended, _, _, rfl, ?_, ⟨_, rfl⟩, hW, hsame.mono (by decide) (by decide)⟩
    show Q3 Z a1 q2 q3 w1 w2 w3 w4 h0 n0 _ T16.heap _
    have hif : (if w1 = (0 : Int32) then q2 else w2) = q2 := if_pos hc14
    exact ⟨_, rfl, N16, g_b1, K18, Ex16, Fl16_0, (hif.symm ▸ Fl16_1), Fl16_2, Fl16_3⟩
  · have k20 : ∀ t, own_S p e below T10 (mkF m 22 #[.val (.ref a1), .val (.long q2), .second, .val (.long q3), .second] [(.ref a1), (.int (w1 + (1 : Int32))), (.ref b1), (.ref b1)]) t → Gl t := fun t kt => k11 t (by
      show own_S p e below T10 (mkF m 14 #[.val (.ref a1), .val (.long q2), .second, .val (.long q3), .second] [(.int w1), (.int (w1 + (1 : Int32))), (.ref b1), (.ref b1)]) _
      refine XS.ifYes X10.here hx rfl (pc0 := 14) (pc' := 21) rfl (hb hby d_prog_28_method_4_14) rfl ((if0 _ _).trans (feq hc14).2) (by decide) (by decide) ?_
      show own_S p e below T10 (mkF m 21 #[.val (.ref a1), .val (.long q2), .second, .val (.long q3), .second] [(.int (w1 + (1 : Int32))), (.ref b1), (.ref b1)]) _
      refine XS.aloadN X10.here hx rfl (hb hby d_prog_28_method_4_21) rfl rfl ?_
      exact kt)
    have f21 := (F1.ext E1)
    obtain ⟨T22, X22, e22, st22⟩ := getF X10 hx hZ hown (host := "") (Or.inl (hw _ (List.mem_of_getElem? (i := 11) rfl))) Via.refl e10 f21 (g := (mkF m 22 #[.val (.ref a1), .val (.long q2), .second, .val (.long q3), .second] [(.ref a1), (.int (w1 + (1 : Int32))), (.ref b1), (.ref b1)])) rfl rfl (hb hby d_prog_28_method_4_22)
    have k23 : ∀ t, own_S p e below T22 (mkF m 25 #[.val (.ref a1), .val (.long q2), .second, .val (.long q3), .second] [(.long w2), (.int (w1 + (1 : Int32))), (.ref b1), (.ref b1)]) t → Gl t := fun t kt => k20 t (st22 _ kt)
    have k24 : ∀ t, own_S p e below T22 (mkF m 27 #[.val (.ref a1), .val (.long q2), .second, .val (.long q3), .second] [(.ref a1), (.long q3), (.long w2), (.int (w1 + (1 : Int32))), (.ref b1), (.ref b1)]) t → Gl t := fun t kt => k23 t (by
      show own_S p e below T22 (mkF m 25 #[.val (.ref a1), .val (.long q2), .second, .val (.long q3), .second] [(.long w2), (.int (w1 + (1 : Int32))), (.ref b1), (.ref b1)]) _
      refine XS.lloadN X22.here hx rfl (hb hby d_prog_28_method_4_25) rfl ?_
      show own_S p e below T22 (mkF m 26 #[.val (.ref a1), .val (.long q2), .second, .val (.long q3), .second] [(.long q3), (.long w2), (.int (w1 + (1 : Int32))), (.ref b1), (.ref b1)]) _
      refine XS.aloadN X22.here hx rfl (hb hby d_prog_28_method_4_26) rfl rfl ?_
      exact kt)
    have f25 := (F3.ext E1)
    obtain ⟨T26, X26, e26, st26⟩ := getF X22 hx hZ hown (host := "") (Or.inl (hw _ (List.mem_of_getElem? (i := 15) rfl))) Via.refl e22 f25 (g := (mkF m 27 #[.val (.ref a1), .val (.long q2), .second, .val (.long q3), .second] [(.ref a1), (.long q3), (.long w2), (.int (w1 + (1 : Int32))), (.ref b1), (.ref b1)])) rfl rfl (hb hby d_prog_28_method_4_27)
    have k27 : ∀ t, own_S p e below T26 (mkF m 30 #[.val (.ref a1), .val (.long q2), .second, .val (.long q3), .second] [(.long w4), (.long q3), (.long w2), (.int (w1 + (1 : Int32))), (.ref b1), (.ref b1)]) t → Gl t := fun t kt => k24 t (st26 _ kt)
    obtain ⟨_, _, ⟨T28, L28, cc28, ss28⟩, -, X28, ⟨Lc28, hQ28, l28, y28, z28⟩, st28⟩ := X26.specialBack hx (y := (⟨"com/example/dual_delivery/dualdelivery/store/MessageState", "<init>", "(IJJJ)V"⟩ : MethodName)) rfl hown (mvT hZ (hw _ (List.mem_of_getElem? (i := 23) rfl))) (mvT hZ (hw _ (List.mem_of_getElem? (i := 4) rfl))) (mvT hZ (hw _ (List.mem_of_getElem? (i := 5) rfl))) (by decide) (backOf (W := 1) (rm1 l Z a0 hw [] b1 (w1 + (1 : Int32)) w2 q3 w4  h1 n0 Z2 F1_10 F1_12 F1_14 F1_16 A1 g_b1) hZ (hw _ (List.mem_of_getElem? (i := 5) rfl)) (hw _ (List.mem_of_getElem? (i := 2) rfl)) (by decide) (by decide)) (g := (mkF m 30 #[.val (.ref a1), .val (.long q2), .second, .val (.long q3), .second] [(.long w4), (.long q3), (.long w2), (.int (w1 + (1 : Int32))), (.ref b1), (.ref b1)])) rfl (by rw [hml]; rfl) (Steps.refl _) (a := b1) (argsL := [(.int (w1 + (1 : Int32))), (.long w2), (.long q3), (.long w4)]) (rest := [(.ref b1)]) (lenOf pd_0 rfl) rfl (by show 2 * 0 + _ ≤ _; exact Nat.le_of_eq rfl) (hb hby d_prog_28_method_4_30) (fun _ _ => ⟨rfl, e26, (by decide : 1 + 0 ≤ _), (by decide : 4 + 0 ≤ _)⟩)
    dsimp only [Pt.U, Pt.locs, Pt.cells, Pt.slots] at X28 l28 y28 z28 st28 hQ28
    subst l28 y28 z28
    obtain ⟨rfl, Nq28, K28, Ex28, Fl28_0, Fl28_1, Fl28_2, Fl28_3⟩ := hQ28
    have N28 := Fr.app N0 Nq28
    have Z29 : n0 ≤ T28.heap.size := Nat.le_trans Z2 K28.1
    have K30 : Keep h0 T28.heap [] := K3.trans K28 (allS (Or.inr sz_b1) all0)
    have k31 : ∀ t, own_S p e below T28 (mkF m 33 #[.val (.ref a1), .val (.long q2), .second, .val (.long q3), .second] [(.ref b1)]) t → Gl t := fun t kt => k27 t (st28.trans kt)
    obtain ⟨fs, hr, hrun, hended, hW, hsame⟩ := X28.leave (v := some (.ref b1)) (fun h => by rw [Bd.returns] at h; cases h)
    refine ⟨_, _, hGl _ (k31 _ (by
        show own_S p e below T28 (mkF m 33 #[.val (.ref a1), .val (.long q2), .second, .val (.long q3), .second] [(.ref b1)]) _
        jvm_step X28.here [X28.here.top, hx, (hb hby d_prog_28_method_4_33), X28.method', Bd.returns, Value.isRef, FieldType.isReference]
        first | (intro acts; rw [hr _ acts rfl rfl rfl]) | rw [hr _ _ rfl rfl rfl]
        exact Steps.refl _)), hrun, hended, _, _, rfl, ?_, ⟨_, rfl⟩, hW, hsame.mono (by decide) (by decide)⟩
    show Q3 Z a1 q2 q3 w1 w2 w3 w4 h0 n0 _ T28.heap _
    have hif : (if w1 = (0 : Int32) then q2 else w2) = w2 := if_neg hc14
    exact ⟨_, rfl, N28, g_b1, K30, Ex28, Fl28_0, (hif.symm ▸ Fl28_1), Fl28_2, Fl28_3⟩

theorem d_prog_28_method_6_0 : decode prog_28_method_6_code 0 = .ok (.aload_n 0, 1) := by decide +kernel
theorem d_prog_28_method_6_1 : decode prog_28_method_6_code 1 = .ok (.getfield 11, 3) := by decide +kernel
theorem d_prog_28_method_6_4 : decode prog_28_method_6_code 4 = .ok (.ireturn, 1) := by decide +kernel
theorem ef_rm4 (m : MethodId) (x0 : Addr) : entryFrame m #[(.ref x0)] 1 = mkF m 0 #[.val (.ref x0)] [] := by first | (simp [entryFrame, mkF, argsToLocals, Value.category]; done) | rfl
def Q4 (Z : State) (a1 : Addr) (w1 : Int32) (h0 : Heap) (n0 : Nat) (v : Option Value) (h : Heap) (L : List Loc) : Prop := v = some (.int w1) ∧ Fr n0 L ∧ h = h0
set_option maxRecDepth 65536 in
set_option maxHeartbeats 40000000 in
theorem rm4 (l : Launch) (Z : State) (a0 : Array Value) (hw : ∀ d ∈ tables_1, d.before a0 Z = true) (ws : List Jvm.Cond) (a1 : Addr) (w1 : Int32) (h0 : Heap) (n0 : Nat) (Z0 : n0 ≤ h0.size) (F1 : Fld Z h0 a1 "com/example/dual_delivery/dualdelivery/store/MessageState" "dequeueCount" "I" (.int w1)) :
    MetFree l (⟨"com/example/dual_delivery/dualdelivery/store/MessageState", "getDequeueCount", "()I"⟩ : MethodName) (head1 (Jvm.Cond.code (⟨"com/example/dual_delivery/dualdelivery/store/MessageState", "getDequeueCount", "()I"⟩ : MethodName) prog_28_method_6_code 1 (some .int) :: ws) ({ frames := 0, cells := 0, slots := 0, locals := 0 } : Room)) (fun a U => a = #[(.ref a1)] ∧ Z.Warmed39 U.vm ∧ U.heap = h0) (fun _ _ _ _ _ => True) (fun _ U o U' => ∃ v L, o = .returned v ∧ Q4 Z a1 w1 h0 n0 v U'.heap L ∧ FrameEnd U o U' L ({ frames := 0, cells := 0, slots := 0, locals := 0 } : Room).cells ({ frames := 0, cells := 0, slots := 0, locals := 0 } : Room).slots) := by
  refine MetFree.of_bodySF (plainFor_of_name pn_0) hisR ?_
  intro p e s m args below meth c s₁ Bd hml0 hP hK
  obtain ⟨rfl, hZ, hh⟩ := hP
  have hx := Bd.exec
  have hby := Bd.bytes
  have hml : c.maxLocals = 1 := hml0
  have hown : s.vm.findClass "com/example/dual_delivery/dualdelivery/store/MessageState" = some m.cls := findClass_of_methodNamed Bd.named
  have hnm := (name_of_methodNamed Bd.named Bd.method).1
  have X0 : Stand p l e ({ frames := 0, cells := 0, slots := 0, locals := 0 } : Room) s m #[(.ref a1)] below meth c s₁ [] 0 0 := Stand.of_body Bd
  have e0 : s₁.heap = h0 := by rw [← hh, Bd.state]; rfl
  have N0 := Fr.nil n0
  obtain ⟨Gl, hGl, k0⟩ : ∃ Gl : State → Prop, (∀ t, Gl t → Steps p.tables e below (s₁.setTop (entryFrame m #[(.ref a1)] 1)) t) ∧ ∀ t, own_S p e below s₁ (mkF m 0 #[.val (.ref a1)] []) t → Gl t := ⟨fun t => Steps p.tables e below (s₁.setTop (entryFrame m #[(.ref a1)] 1)) t, fun _ k => k, fun t k => castTop (ef_rm4 m a1) k⟩
  have k1 : ∀ t, own_S p e below s₁ (mkF m 1 #[.val (.ref a1)] [(.ref a1)]) t → Gl t := fun t kt => k0 t (by
    show own_S p e below s₁ (mkF m 0 #[.val (.ref a1)] []) _
    refine XS.aloadN X0.here hx rfl (hb hby d_prog_28_method_6_0) rfl rfl ?_
    exact kt)
  obtain ⟨T2, X2, e2, st2⟩ := getF X0 hx hZ hown (host := "") (Or.inl (hw _ (List.mem_of_getElem? (i := 9) rfl))) Via.refl e0 F1 (g := (mkF m 1 #[.val (.ref a1)] [(.ref a1)])) rfl rfl (hb hby d_prog_28_method_6_1)
  have k3 : ∀ t, own_S p e below T2 (mkF m 4 #[.val (.ref a1)] [(.int w1)]) t → Gl t := fun t kt => k1 t (st2 _ kt)
  obtain ⟨fs, hr, hrun, hended, hW, hsame⟩ := X2.leave (v := some (.int w1)) (fun h => by rw [Bd.returns] at h; cases h)
  refine ⟨_, _, hGl _ (k3 _ (retI X2 hx Bd.returns (hb hby d_prog_28_method_6_4) hr)), hrun, hended, _, _, rfl, ?_, ⟨_, rfl⟩, hW, hsame.mono (by decide) (by decide)⟩
  show Q4 Z a1 w1 h0 n0 _ T2.heap _
  rw [e2]
  exact ⟨rfl, N0, rfl⟩

theorem d_prog_28_method_7_0 : decode prog_28_method_7_code 0 = .ok (.aload_n 0, 1) := by decide +kernel
theorem d_prog_28_method_7_1 : decode prog_28_method_7_code 1 = .ok (.getfield 17, 3) := by decide +kernel
theorem d_prog_28_method_7_4 : decode prog_28_method_7_code 4 = .ok (.lreturn, 1) := by decide +kernel
theorem ef_rm5 (m : MethodId) (x0 : Addr) : entryFrame m #[(.ref x0)] 1 = mkF m 0 #[.val (.ref x0)] [] := by first | (simp [entryFrame, mkF, argsToLocals, Value.category]; done) | rfl
def Q5 (Z : State) (a1 : Addr) (w1 : Int64) (h0 : Heap) (n0 : Nat) (v : Option Value) (h : Heap) (L : List Loc) : Prop := v = some (.long w1) ∧ Fr n0 L ∧ h = h0
set_option maxRecDepth 65536 in
set_option maxHeartbeats 40000000 in
theorem rm5 (l : Launch) (Z : State) (a0 : Array Value) (hw : ∀ d ∈ tables_1, d.before a0 Z = true) (ws : List Jvm.Cond) (a1 : Addr) (w1 : Int64) (h0 : Heap) (n0 : Nat) (Z0 : n0 ≤ h0.size) (F1 : Fld Z h0 a1 "com/example/dual_delivery/dualdelivery/store/MessageState" "firstDequeueMillis" "J" (.long w1)) :
    MetFree l (⟨"com/example/dual_delivery/dualdelivery/store/MessageState", "getFirstDequeueMillis", "()J"⟩ : MethodName) (head1 (Jvm.Cond.code (⟨"com/example/dual_delivery/dualdelivery/store/MessageState", "getFirstDequeueMillis", "()J"⟩ : MethodName) prog_28_method_7_code 1 (some .long) :: ws) ({ frames := 0, cells := 0, slots := 0, locals := 0 } : Room)) (fun a U => a = #[(.ref a1)] ∧ Z.Warmed39 U.vm ∧ U.heap = h0) (fun _ _ _ _ _ => True) (fun _ U o U' => ∃ v L, o = .returned v ∧ Q5 Z a1 w1 h0 n0 v U'.heap L ∧ FrameEnd U o U' L ({ frames := 0, cells := 0, slots := 0, locals := 0 } : Room).cells ({ frames := 0, cells := 0, slots := 0, locals := 0 } : Room).slots) := by
  refine MetFree.of_bodySF (plainFor_of_name pn_0) hisR ?_
  intro p e s m args below meth c s₁ Bd hml0 hP hK
  obtain ⟨rfl, hZ, hh⟩ := hP
  have hx := Bd.exec
  have hby := Bd.bytes
  have hml : c.maxLocals = 1 := hml0
  have hown : s.vm.findClass "com/example/dual_delivery/dualdelivery/store/MessageState" = some m.cls := findClass_of_methodNamed Bd.named
  have hnm := (name_of_methodNamed Bd.named Bd.method).1
  have X0 : Stand p l e ({ frames := 0, cells := 0, slots := 0, locals := 0 } : Room) s m #[(.ref a1)] below meth c s₁ [] 0 0 := Stand.of_body Bd
  have e0 : s₁.heap = h0 := by rw [← hh, Bd.state]; rfl
  have N0 := Fr.nil n0
  obtain ⟨Gl, hGl, k0⟩ : ∃ Gl : State → Prop, (∀ t, Gl t → Steps p.tables e below (s₁.setTop (entryFrame m #[(.ref a1)] 1)) t) ∧ ∀ t, own_S p e below s₁ (mkF m 0 #[.val (.ref a1)] []) t → Gl t := ⟨fun t => Steps p.tables e below (s₁.setTop (entryFrame m #[(.ref a1)] 1)) t, fun _ k => k, fun t k => castTop (ef_rm5 m a1) k⟩
  have k1 : ∀ t, own_S p e below s₁ (mkF m 1 #[.val (.ref a1)] [(.ref a1)]) t → Gl t := fun t kt => k0 t (by
    show own_S p e below s₁ (mkF m 0 #[.val (.ref a1)] []) _
    refine XS.aloadN X0.here hx rfl (hb hby d_prog_28_method_7_0) rfl rfl ?_
    exact kt)
  obtain ⟨T2, X2, e2, st2⟩ := getF X0 hx hZ hown (host := "") (Or.inl (hw _ (List.mem_of_getElem? (i := 11) rfl))) Via.refl e0 F1 (g := (mkF m 1 #[.val (.ref a1)] [(.ref a1)])) rfl rfl (hb hby d_prog_28_method_7_1)
  have k3 : ∀ t, own_S p e below T2 (mkF m 4 #[.val (.ref a1)] [(.long w1)]) t → Gl t := fun t kt => k1 t (st2 _ kt)
  obtain ⟨fs, hr, hrun, hended, hW, hsame⟩ := X2.leave (v := some (.long w1)) (fun h => by rw [Bd.returns] at h; cases h)
  refine ⟨_, _, hGl _ (k3 _ (by
      show own_S p e below T2 (mkF m 4 #[.val (.ref a1)] [(.long w1)]) _
      jvm_step X2.here [X2.here.top, hx, (hb hby d_prog_28_method_7_4), X2.method', Bd.returns, narrow]
      first | (intro acts; rw [hr _ acts rfl rfl rfl]) | rw [hr _ _ rfl rfl rfl]
      exact Steps.refl _)), hrun, hended, _, _, rfl, ?_, ⟨_, rfl⟩, hW, hsame.mono (by decide) (by decide)⟩
  show Q5 Z a1 w1 h0 n0 _ T2.heap _
  rw [e2]
  exact ⟨rfl, N0, rfl⟩

theorem d_prog_28_method_8_0 : decode prog_28_method_8_code 0 = .ok (.aload_n 0, 1) := by decide +kernel
theorem d_prog_28_method_8_1 : decode prog_28_method_8_code 1 = .ok (.getfield 21, 3) := by decide +kernel
theorem d_prog_28_method_8_4 : decode prog_28_method_8_code 4 = .ok (.lreturn, 1) := by decide +kernel
theorem ef_rm6 (m : MethodId) (x0 : Addr) : entryFrame m #[(.ref x0)] 1 = mkF m 0 #[.val (.ref x0)] [] := by first | (simp [entryFrame, mkF, argsToLocals, Value.category]; done) | rfl
def Q6 (Z : State) (a1 : Addr) (w1 : Int64) (h0 : Heap) (n0 : Nat) (v : Option Value) (h : Heap) (L : List Loc) : Prop := v = some (.long w1) ∧ Fr n0 L ∧ h = h0
set_option maxRecDepth 65536 in
set_option maxHeartbeats 40000000 in
theorem rm6 (l : Launch) (Z : State) (a0 : Array Value) (hw : ∀ d ∈ tables_1, d.before a0 Z = true) (ws : List Jvm.Cond) (a1 : Addr) (w1 : Int64) (h0 : Heap) (n0 : Nat) (Z0 : n0 ≤ h0.size) (F1 : Fld Z h0 a1 "com/example/dual_delivery/dualdelivery/store/MessageState" "token" "J" (.long w1)) :
    MetFree l (⟨"com/example/dual_delivery/dualdelivery/store/MessageState", "getToken", "()J"⟩ : MethodName) (head1 (Jvm.Cond.code (⟨"com/example/dual_delivery/dualdelivery/store/MessageState", "getToken", "()J"⟩ : MethodName) prog_28_method_8_code 1 (some .long) :: ws) ({ frames := 0, cells := 0, slots := 0, locals := 0 } : Room)) (fun a U => a = #[(.ref a1)] ∧ Z.Warmed39 U.vm ∧ U.heap = h0) (fun _ _ _ _ _ => True) (fun _ U o U' => ∃ v L, o = .returned v ∧ Q6 Z a1 w1 h0 n0 v U'.heap L ∧ FrameEnd U o U' L ({ frames := 0, cells := 0, slots := 0, locals := 0 } : Room).cells ({ frames := 0, cells := 0, slots := 0, locals := 0 } : Room).slots) := by
  refine MetFree.of_bodySF (plainFor_of_name pn_0) hisR ?_
  intro p e s m args below meth c s₁ Bd hml0 hP hK
  obtain ⟨rfl, hZ, hh⟩ := hP
  have hx := Bd.exec
  have hby := Bd.bytes
  have hml : c.maxLocals = 1 := hml0
  have hown : s.vm.findClass "com/example/dual_delivery/dualdelivery/store/MessageState" = some m.cls := findClass_of_methodNamed Bd.named
  have hnm := (name_of_methodNamed Bd.named Bd.method).1
  have X0 : Stand p l e ({ frames := 0, cells := 0, slots := 0, locals := 0 } : Room) s m #[(.ref a1)] below meth c s₁ [] 0 0 := Stand.of_body Bd
  have e0 : s₁.heap = h0 := by rw [← hh, Bd.state]; rfl
  have N0 := Fr.nil n0
  obtain ⟨Gl, hGl, k0⟩ : ∃ Gl : State → Prop, (∀ t, Gl t → Steps p.tables e below (s₁.setTop (entryFrame m #[(.ref a1)] 1)) t) ∧ ∀ t, own_S p e below s₁ (mkF m 0 #[.val (.ref a1)] []) t → Gl t := ⟨fun t => Steps p.tables e below (s₁.setTop (entryFrame m #[(.ref a1)] 1)) t, fun _ k => k, fun t k => castTop (ef_rm6 m a1) k⟩
  have k1 : ∀ t, own_S p e below s₁ (mkF m 1 #[.val (.ref a1)] [(.ref a1)]) t → Gl t := fun t kt => k0 t (by
    show own_S p e below s₁ (mkF m 0 #[.val (.ref a1)] []) _
    refine XS.aloadN X0.here hx rfl (hb hby d_prog_28_method_8_0) rfl rfl ?_
    exact kt)
  obtain ⟨T2, X2, e2, st2⟩ := getF X0 hx hZ hown (host := "") (Or.inl (hw _ (List.mem_of_getElem? (i := 13) rfl))) Via.refl e0 F1 (g := (mkF m 1 #[.val (.ref a1)] [(.ref a1)])) rfl rfl (hb hby d_prog_28_method_8_1)
  have k3 : ∀ t, own_S p e below T2 (mkF m 4 #[.val (.ref a1)] [(.long w1)]) t → Gl t := fun t kt => k1 t (st2 _ kt)
  obtain ⟨fs, hr, hrun, hended, hW, hsame⟩ := X2.leave (v := some (.long w1)) (fun h => by rw [Bd.returns] at h; cases h)
  refine ⟨_, _, hGl _ (k3 _ (by
      show own_S p e below T2 (mkF m 4 #[.val (.ref a1)] [(.long w1)]) _
      jvm_step X2.here [X2.here.top, hx, (hb hby d_prog_28_method_8_4), X2.method', Bd.returns, narrow]
      first | (intro acts; rw [hr _ acts rfl rfl rfl]) | rw [hr _ _ rfl rfl rfl]
      exact Steps.refl _)), hrun, hended, _, _, rfl, ?_, ⟨_, rfl⟩, hW, hsame.mono (by decide) (by decide)⟩
  show Q6 Z a1 w1 h0 n0 _ T2.heap _
  rw [e2]
  exact ⟨rfl, N0, rfl⟩

theorem d_prog_28_method_9_0 : decode prog_28_method_9_code 0 = .ok (.aload_n 0, 1) := by decide +kernel
theorem d_prog_28_method_9_1 : decode prog_28_method_9_code 1 = .ok (.getfield 24, 3) := by decide +kernel
theorem d_prog_28_method_9_4 : decode prog_28_method_9_code 4 = .ok (.lreturn, 1) := by decide +kernel
theorem ef_rm7 (m : MethodId) (x0 : Addr) : entryFrame m #[(.ref x0)] 1 = mkF m 0 #[.val (.ref x0)] [] := by first | (simp [entryFrame, mkF, argsToLocals, Value.category]; done) | rfl
def Q7 (Z : State) (a1 : Addr) (w1 : Int64) (h0 : Heap) (n0 : Nat) (v : Option Value) (h : Heap) (L : List Loc) : Prop := v = some (.long w1) ∧ Fr n0 L ∧ h = h0
set_option maxRecDepth 65536 in
set_option maxHeartbeats 40000000 in
theorem rm7 (l : Launch) (Z : State) (a0 : Array Value) (hw : ∀ d ∈ tables_1, d.before a0 Z = true) (ws : List Jvm.Cond) (a1 : Addr) (w1 : Int64) (h0 : Heap) (n0 : Nat) (Z0 : n0 ≤ h0.size) (F1 : Fld Z h0 a1 "com/example/dual_delivery/dualdelivery/store/MessageState" "sendMillis" "J" (.long w1)) :
    MetFree l (⟨"com/example/dual_delivery/dualdelivery/store/MessageState", "getSendMillis", "()J"⟩ : MethodName) (head1 (Jvm.Cond.code (⟨"com/example/dual_delivery/dualdelivery/store/MessageState", "getSendMillis", "()J"⟩ : MethodName) prog_28_method_9_code 1 (some .long) :: ws) ({ frames := 0, cells := 0, slots := 0, locals := 0 } : Room)) (fun a U => a = #[(.ref a1)] ∧ Z.Warmed39 U.vm ∧ U.heap = h0) (fun _ _ _ _ _ => True) (fun _ U o U' => ∃ v L, o = .returned v ∧ Q7 Z a1 w1 h0 n0 v U'.heap L ∧ FrameEnd U o U' L ({ frames := 0, cells := 0, slots := 0, locals := 0 } : Room).cells ({ frames := 0, cells := 0, slots := 0, locals := 0 } : Room).slots) := by
  refine MetFree.of_bodySF (plainFor_of_name pn_0) hisR ?_
  intro p e s m args below meth c s₁ Bd hml0 hP hK
  obtain ⟨rfl, hZ, hh⟩ := hP
  have hx := Bd.exec
  have hby := Bd.bytes
  have hml : c.maxLocals = 1 := hml0
  have hown : s.vm.findClass "com/example/dual_delivery/dualdelivery/store/MessageState" = some m.cls := findClass_of_methodNamed Bd.named
  have hnm := (name_of_methodNamed Bd.named Bd.method).1
  have X0 : Stand p l e ({ frames := 0, cells := 0, slots := 0, locals := 0 } : Room) s m #[(.ref a1)] below meth c s₁ [] 0 0 := Stand.of_body Bd
  have e0 : s₁.heap = h0 := by rw [← hh, Bd.state]; rfl
  have N0 := Fr.nil n0
  obtain ⟨Gl, hGl, k0⟩ : ∃ Gl : State → Prop, (∀ t, Gl t → Steps p.tables e below (s₁.setTop (entryFrame m #[(.ref a1)] 1)) t) ∧ ∀ t, own_S p e below s₁ (mkF m 0 #[.val (.ref a1)] []) t → Gl t := ⟨fun t => Steps p.tables e below (s₁.setTop (entryFrame m #[(.ref a1)] 1)) t, fun _ k => k, fun t k => castTop (ef_rm7 m a1) k⟩
  have k1 : ∀ t, own_S p e below s₁ (mkF m 1 #[.val (.ref a1)] [(.ref a1)]) t → Gl t := fun t kt => k0 t (by
    show own_S p e below s₁ (mkF m 0 #[.val (.ref a1)] []) _
    refine XS.aloadN X0.here hx rfl (hb hby d_prog_28_method_9_0) rfl rfl ?_
    exact kt)
  obtain ⟨T2, X2, e2, st2⟩ := getF X0 hx hZ hown (host := "") (Or.inl (hw _ (List.mem_of_getElem? (i := 15) rfl))) Via.refl e0 F1 (g := (mkF m 1 #[.val (.ref a1)] [(.ref a1)])) rfl rfl (hb hby d_prog_28_method_9_1)
  have k3 : ∀ t, own_S p e below T2 (mkF m 4 #[.val (.ref a1)] [(.long w1)]) t → Gl t := fun t kt => k1 t (st2 _ kt)
  obtain ⟨fs, hr, hrun, hended, hW, hsame⟩ := X2.leave (v := some (.long w1)) (fun h => by rw [Bd.returns] at h; cases h)
  refine ⟨_, _, hGl _ (k3 _ (by
      show own_S p e below T2 (mkF m 4 #[.val (.ref a1)] [(.long w1)]) _
      jvm_step X2.here [X2.here.top, hx, (hb hby d_prog_28_method_9_4), X2.method', Bd.returns, narrow]
      first | (intro acts; rw [hr _ acts rfl rfl rfl]) | rw [hr _ _ rfl rfl rfl]
      exact Steps.refl _)), hrun, hended, _, _, rfl, ?_, ⟨_, rfl⟩, hW, hsame.mono (by decide) (by decide)⟩
  show Q7 Z a1 w1 h0 n0 _ T2.heap _
  rw [e2]
  exact ⟨rfl, N0, rfl⟩

theorem pn_1 : plainName "com/example/dual_delivery/dualdelivery/store/MessageStateReceivedAtPinLaw" = true := by first | (simp [plainName, overriddenIn]; done) | decide +kernel
theorem pd_1 : parseMethodDescriptor "(JJ)Lcom/example/dual_delivery/dualdelivery/store/MessageState;" = some ⟨[.long, .long], some (.object "com/example/dual_delivery/dualdelivery/store/MessageState")⟩ := by decide +kernel
theorem pd_2 : parseMethodDescriptor "()I" = some ⟨[], some .int⟩ := by decide +kernel
theorem pd_3 : parseMethodDescriptor "()J" = some ⟨[], some .long⟩ := by decide +kernel
theorem ef_rm0 (m : MethodId) (x0 : Int32) (x1 : Int64) (x2 : Int64) (x3 : Int64) (x4 : Int64) (x5 : Int64) : entryFrame m #[(.int x0), (.long x1), (.long x2), (.long x3), (.long x4), (.long x5)] maxLocals = mkF m 0 #[.val (.int x0), .val (.long x1), .second, .val (.long x2), .second, .val (.long x3), .second, .val (.long x4), .second, .val (.long x5), .second, .unset, .unset, .unset, .unset, .unset, .unset, .unset, .unset] [] := by first | (simp [entryFrame, mkF, argsToLocals, Value.category, maxLocals]; done) | rfl
def Q0 (Z : State) (p1 : Int32) (q2 : Int64) (q3 : Int64) (q4 : Int64) (q5 : Int64) (q6 : Int64) (h0 : Heap) (n0 : Nat) (v : Option Value) (h : Heap) (L : List Loc) : Prop := v = some (.int (1 : Int32)) ∧ Fr n0 L
set_option maxRecDepth 65536 in
set_option maxHeartbeats 40000000 in
theorem rm0 (l : Launch) (Z : State) (a0 : Array Value) (hw : ∀ d ∈ tables_1, d.before a0 Z = true) (ws : List Jvm.Cond) (p1 : Int32) (q2 : Int64) (q3 : Int64) (q4 : Int64) (q5 : Int64) (q6 : Int64) (h0 : Heap) (n0 : Nat) (Z0 : n0 ≤ h0.size) :
    MetFree l x (head1 (Jvm.Cond.code x code maxLocals ret :: ws) room_1) (fun a U => a = #[(.int p1), (.long q2), (.long q3), (.long q4), (.long q5), (.long q6)] ∧ Z.Warmed39 U.vm ∧ U.heap = h0) (fun _ _ _ _ _ => True) (fun _ U o U' => ∃ v L, o = .returned v ∧ Q0 Z p1 q2 q3 q4 q5 q6 h0 n0 v U'.heap L ∧ FrameEnd U o U' L 16 128) := by
  refine MetFree.of_bodySF (plainFor_of_name pn_1) hisR ?_
  intro p e s m args below meth c s₁ Bd hml0 hP hK
  obtain ⟨rfl, hZ, hh⟩ := hP
  have hx := Bd.exec
  have hby := Bd.bytes
  have hml : c.maxLocals = 19 := hml0
  have hown : s.vm.findClass "com/example/dual_delivery/dualdelivery/store/MessageStateReceivedAtPinLaw" = some m.cls := findClass_of_methodNamed Bd.named
  have hnm := (name_of_methodNamed Bd.named Bd.method).1
  have X0 : Stand p l e room_1 s m #[(.int p1), (.long q2), (.long q3), (.long q4), (.long q5), (.long q6)] below meth c s₁ [] 0 0 := Stand.of_body Bd
  have e0 : s₁.heap = h0 := by rw [← hh, Bd.state]; rfl
  have N0 := Fr.nil n0
  obtain ⟨Gl, hGl, k0⟩ : ∃ Gl : State → Prop, (∀ t, Gl t → Steps p.tables e below (s₁.setTop (entryFrame m #[(.int p1), (.long q2), (.long q3), (.long q4), (.long q5), (.long q6)] maxLocals)) t) ∧ ∀ t, own_S p e below s₁ (mkF m 0 #[.val (.int p1), .val (.long q2), .second, .val (.long q3), .second, .val (.long q4), .second, .val (.long q5), .second, .val (.long q6), .second, .unset, .unset, .unset, .unset, .unset, .unset, .unset, .unset] []) t → Gl t := ⟨fun t => Steps p.tables e below (s₁.setTop (entryFrame m #[(.int p1), (.long q2), (.long q3), (.long q4), (.long q5), (.long q6)] maxLocals)) t, fun _ k => k, fun t k => castTop (ef_rm0 m p1 q2 q3 q4 q5 q6) k⟩
  have k1 : ∀ t, own_S p e below s₁ (mkF m 5 #[.val (.int p1), .val (.long q2), .second, .val (.long q3), .second, .val (.long q4), .second, .val (.long q5), .second, .val (.long q6), .second, .unset, .unset, .unset, .unset, .unset, .unset, .unset, .unset] [(.int (lcmpW (q3 &&& (1 : Int64)) (0 : Int64)))]) t → Gl t := fun t kt => k0 t (by
    show own_S p e below s₁ (mkF m 0 #[.val (.int p1), .val (.long q2), .second, .val (.long q3), .second, .val (.long q4), .second, .val (.long q5), .second, .val (.long q6), .second, .unset, .unset, .unset, .unset, .unset, .unset, .unset, .unset] []) _
    refine XS.lloadN X0.here hx rfl (hb hby at_0) rfl ?_
    show own_S p e below s₁ (mkF m 1 #[.val (.int p1), .val (.long q2), .second, .val (.long q3), .second, .val (.long q4), .second, .val (.long q5), .second, .val (.long q6), .second, .unset, .unset, .unset, .unset, .unset, .unset, .unset, .unset] [(.long q3)]) _
    refine XS.lconst X0.here hx rfl (hb hby at_1) ?_
    show own_S p e below s₁ (mkF m 2 #[.val (.int p1), .val (.long q2), .second, .val (.long q3), .second, .val (.long q4), .second, .val (.long q5), .second, .val (.long q6), .second, .unset, .unset, .unset, .unset, .unset, .unset, .unset, .unset] [(.long (1 : Int64)), (.long q3)]) _
    refine XS.land X0.here hx rfl (hb hby at_2) rfl ?_
    show own_S p e below s₁ (mkF m 3 #[.val (.int p1), .val (.long q2), .second, .val (.long q3), .second, .val (.long q4), .second, .val (.long q5), .second, .val (.long q6), .second, .unset, .unset, .unset, .unset, .unset, .unset, .unset, .unset] [(.long (q3 &&& (1 : Int64)))]) _
    refine XS.lconst X0.here hx rfl (hb hby at_3) ?_
    show own_S p e below s₁ (mkF m 4 #[.val (.int p1), .val (.long q2), .second, .val (.long q3), .second, .val (.long q4), .second, .val (.long q5), .second, .val (.long q6), .second, .unset, .unset, .unset, .unset, .unset, .unset, .unset, .unset] [(.long (0 : Int64)), (.long (q3 &&& (1 : Int64)))]) _
    refine XS.lcmp X0.here hx rfl (hb hby at_4) rfl ?_
    exact kt)
  by_cases hc5 : (q3 &&& (1 : Int64)) = (0 : Int64)
  · have k2 : ∀ t, own_S p e below s₁ (mkF m 15 #[.val (.int p1), .val (.long q2), .second, .val (.long q3), .second, .val (.long q4), .second, .val (.long q5), .second, .val (.long q6), .second, .val (.int (0 : Int32)), .unset, .unset, .unset, .unset, .unset, .unset, .unset] []) t → Gl t := fun t kt => k1 t (by
      show own_S p e below s₁ (mkF m 5 #[.val (.int p1), .val (.long q2), .second, .val (.long q3), .second, .val (.long q4), .second, .val (.long q5), .second, .val (.long q6), .second, .unset, .unset, .unset, .unset, .unset, .unset, .unset, .unset] [(.int (lcmpW (q3 &&& (1 : Int64)) (0 : Int64)))]) _
      refine XS.ifNo X0.here hx rfl (hb hby at_5) rfl ((if0 _ _).trans (teq ((lw_eq (q3 &&& (1 : Int64)) (0 : Int64)).mpr hc5)).2) ?_
      show own_S p e below s₁ (mkF m 8 #[.val (.int p1), .val (.long q2), .second, .val (.long q3), .second, .val (.long q4), .second, .val (.long q5), .second, .val (.long q6), .second, .unset, .unset, .unset, .unset, .unset, .unset, .unset, .unset] []) _
      refine XS.iconst X0.here hx rfl (hb hby at_8) ?_
      show own_S p e below s₁ (mkF m 9 #[.val (.int p1), .val (.long q2), .second, .val (.long q3), .second, .val (.long q4), .second, .val (.long q5), .second, .val (.long q6), .second, .unset, .unset, .unset, .unset, .unset, .unset, .unset, .unset] [(.int (0 : Int32))]) _
      refine XS.goto X0.here hx rfl (pc0 := 9) (pc' := 13) rfl (hb hby at_9) (by decide) (by decide) ?_
      show own_S p e below s₁ (mkF m 13 #[.val (.int p1), .val (.long q2), .second, .val (.long q3), .second, .val (.long q4), .second, .val (.long q5), .second, .val (.long q6), .second, .unset, .unset, .unset, .unset, .unset, .unset, .unset, .unset] [(.int (0 : Int32))]) _
      refine XS.istore X0.here hx rfl (hb hby at_13) rfl (l' := #[.val (.int p1), .val (.long q2), .second, .val (.long q3), .second, .val (.long q4), .second, .val (.long q5), .second, .val (.long q6), .second, .val (.int (0 : Int32)), .unset, .unset, .unset, .unset, .unset, .unset, .unset]) rfl ?_
      exact kt)
    obtain ⟨T3, h3, X3, e3, E3, A3, D3, -, st3⟩ := newO X0 hx hZ hown (hw _ (List.mem_of_getElem? (i := 0) rfl)) (hw _ (List.mem_of_getElem? (i := 1) rfl)) (hw _ (List.mem_of_getElem? (i := 2) rfl)) e0 (g := (mkF m 15 #[.val (.int p1), .val (.long q2), .second, .val (.long q3), .second, .val (.long q4), .second, .val (.long q5), .second, .val (.long q6), .second, .val (.int (0 : Int32)), .unset, .unset, .unset, .unset, .unset, .unset, .unset] [])) rfl (hb hby at_15) (by decide) (by decide)
    obtain ⟨b3, g3⟩ : ∃ z, z = h0.size := ⟨_, rfl⟩
    rw [← g3] at A3 D3 st3
    have g_b3 : n0 ≤ b3 := Nat.le_trans Z0 (Nat.le_of_eq g3.symm)
    have Z4 : n0 ≤ h3.size := Nat.le_trans Z0 E3.1
    have F3_10 : Fld Z h3 b3 "com/example/dual_delivery/dualdelivery/store/MessageState" "dequeueCount" "I" (.int (0 : Int32)) := D3 (Or.inr (hw _ (List.mem_of_getElem? (i := 10) rfl))) (ty := .int) (by decide)
    have F3_12 : Fld Z h3 b3 "com/example/dual_delivery/dualdelivery/store/MessageState" "firstDequeueMillis" "J" (.long (0 : Int64)) := D3 (Or.inr (hw _ (List.mem_of_getElem? (i := 12) rfl))) (ty := .long) (by decide)
    have F3_14 : Fld Z h3 b3 "com/example/dual_delivery/dualdelivery/store/MessageState" "token" "J" (.long (0 : Int64)) := D3 (Or.inr (hw _ (List.mem_of_getElem? (i := 14) rfl))) (ty := .long) (by decide)
    have F3_16 : Fld Z h3 b3 "com/example/dual_delivery/dualdelivery/store/MessageState" "sendMillis" "J" (.long (0 : Int64)) := D3 (Or.inr (hw _ (List.mem_of_getElem? (i := 16) rfl))) (ty := .long) (by decide)
    have k5 : ∀ t, own_S p e below T3 (mkF m 18 #[.val (.int p1), .val (.long q2), .second, .val (.long q3), .second, .val (.long q4), .second, .val (.long q5), .second, .val (.long q6), .second, .val (.int (0 : Int32)), .unset, .unset, .unset, .unset, .unset, .unset, .unset] [(.ref b3)]) t → Gl t := fun t kt => k2 t (st3 _ kt)
    have k6 : ∀ t, own_S p e below T3 (mkF m 25 #[.val (.int p1), .val (.long q2), .second, .val (.long q3), .second, .val (.long q4), .second, .val (.long q5), .second, .val (.long q6), .second, .val (.int (0 : Int32)), .unset, .unset, .unset, .unset, .unset, .unset, .unset] [(.long q4), (.long q3), (.long q2), (.int (0 : Int32)), (.ref b3), (.ref b3)]) t → Gl t := fun t kt => k5 t (by
      show own_S p e below T3 (mkF m 18 #[.val (.int p1), .val (.long q2), .second, .val (.long q3), .second, .val (.long q4), .second, .val (.long q5), .second, .val (.long q6), .second, .val (.int (0 : Int32)), .unset, .unset, .unset, .unset, .unset, .unset, .unset] [(.ref b3)]) _
      refine XS.dup X3.here hx rfl (hb hby at_18) rfl rfl ?_
      show own_S p e below T3 (mkF m 19 #[.val (.int p1), .val (.long q2), .second, .val (.long q3), .second, .val (.long q4), .second, .val (.long q5), .second, .val (.long q6), .second, .val (.int (0 : Int32)), .unset, .unset, .unset, .unset, .unset, .unset, .unset] [(.ref b3), (.ref b3)]) _
      refine XS.iload X3.here hx rfl (hb hby at_19) rfl ?_
      show own_S p e below T3 (mkF m 21 #[.val (.int p1), .val (.long q2), .second, .val (.long q3), .second, .val (.long q4), .second, .val (.long q5), .second, .val (.long q6), .second, .val (.int (0 : Int32)), .unset, .unset, .unset, .unset, .unset, .unset, .unset] [(.int (0 : Int32)), (.ref b3), (.ref b3)]) _
      refine XS.lloadN X3.here hx rfl (hb hby at_21) rfl ?_
      show own_S p e below T3 (mkF m 22 #[.val (.int p1), .val (.long q2), .second, .val (.long q3), .second, .val (.long q4), .second, .val (.long q5), .second, .val (.long q6), .second, .val (.int (0 : Int32)), .unset, .unset, .unset, .unset, .unset, .unset, .unset] [(.long q2), (.int (0 : Int32)), (.ref b3), (.ref b3)]) _
      refine XS.lloadN X3.here hx rfl (hb hby at_22) rfl ?_
      show own_S p e below T3 (mkF m 23 #[.val (.int p1), .val (.long q2), .second, .val (.long q3), .second, .val (.long q4), .second, .val (.long q5), .second, .val (.long q6), .second, .val (.int (0 : Int32)), .unset, .unset, .unset, .unset, .unset, .unset, .unset] [(.long q3), (.long q2), (.int (0 : Int32)), (.ref b3), (.ref b3)]) _
      refine XS.lload X3.here hx rfl (hb hby at_23) rfl ?_
      exact kt)
    obtain ⟨_, _, ⟨T7, L7, cc7, ss7⟩, -, X7, ⟨Lc7, hQ7, l7, y7, z7⟩, st7⟩ := X3.specialBack hx (y := (⟨"com/example/dual_delivery/dualdelivery/store/MessageState", "<init>", "(IJJJ)V"⟩ : MethodName)) rfl hown (mvT hZ (hw _ (List.mem_of_getElem? (i := 3) rfl))) (mvT hZ (hw _ (List.mem_of_getElem? (i := 4) rfl))) (mvT hZ (hw _ (List.mem_of_getElem? (i := 5) rfl))) (by decide) (backOf (W := 1) (rm1 l Z a0 hw [] b3 (0 : Int32) q2 q3 q4  h3 n0 Z4 F3_10 F3_12 F3_14 F3_16 A3 g_b3) hZ (hw _ (List.mem_of_getElem? (i := 5) rfl)) (hw _ (List.mem_of_getElem? (i := 2) rfl)) (by decide) (by decide)) (g := (mkF m 25 #[.val (.int p1), .val (.long q2), .second, .val (.long q3), .second, .val (.long q4), .second, .val (.long q5), .second, .val (.long q6), .second, .val (.int (0 : Int32)), .unset, .unset, .unset, .unset, .unset, .unset, .unset] [(.long q4), (.long q3), (.long q2), (.int (0 : Int32)), (.ref b3), (.ref b3)])) rfl (by rw [hml]; rfl) (Steps.refl _) (a := b3) (argsL := [(.int (0 : Int32)), (.long q2), (.long q3), (.long q4)]) (rest := [(.ref b3)]) (lenOf pd_0 rfl) rfl (by show 2 * 0 + _ ≤ _; exact Nat.le_of_eq rfl) (hb hby at_25) (fun _ _ => ⟨rfl, e3, (by decide : 1 + 0 ≤ _), (by decide : 4 + 0 ≤ _)⟩)
    dsimp only [Pt.U, Pt.locs, Pt.cells, Pt.slots] at X7 l7 y7 z7 st7 hQ7
    subst l7 y7 z7
    obtain ⟨rfl, Nq7, K7, Ex7, Fl7_0, Fl7_1, Fl7_2, Fl7_3⟩ := hQ7
    have N7 := Fr.app N0 Nq7
    have Z8 : n0 ≤ T7.heap.size := Nat.le_trans Z4 K7.1
    have k9 : ∀ t, own_S p e below T7 (mkF m 28 #[.val (.int p1), .val (.long q2), .second, .val (.long q3), .second, .val (.long q4), .second, .val (.long q5), .second, .val (.long q6), .second, .val (.int (0 : Int32)), .unset, .unset, .unset, .unset, .unset, .unset, .unset] [(.ref b3)]) t → Gl t := fun t kt => k6 t (st7.trans kt)
    have k10 : ∀ t, own_S p e below T7 (mkF m 36 #[.val (.int p1), .val (.long q2), .second, .val (.long q3), .second, .val (.long q4), .second, .val (.long q5), .second, .val (.long q6), .second, .val (.int (0 : Int32)), .val (.ref b3), .unset, .unset, .unset, .unset, .unset, .unset] [(.long q6), (.long q5), (.ref b3)]) t → Gl t := fun t kt => k9 t (by
      show own_S p e below T7 (mkF m 28 #[.val (.int p1), .val (.long q2), .second, .val (.long q3), .second, .val (.long q4), .second, .val (.long q5), .second, .val (.long q6), .second, .val (.int (0 : Int32)), .unset, .unset, .unset, .unset, .unset, .unset, .unset] [(.ref b3)]) _
      refine XS.astore X7.here hx rfl (hb hby at_28) rfl rfl (l' := #[.val (.int p1), .val (.long q2), .second, .val (.long q3), .second, .val (.long q4), .second, .val (.long q5), .second, .val (.long q6), .second, .val (.int (0 : Int32)), .val (.ref b3), .unset, .unset, .unset, .unset, .unset, .unset]) rfl ?_
      show own_S p e below T7 (mkF m 30 #[.val (.int p1), .val (.long q2), .second, .val (.long q3), .second, .val (.long q4), .second, .val (.long q5), .second, .val (.long q6), .second, .val (.int (0 : Int32)), .val (.ref b3), .unset, .unset, .unset, .unset, .unset, .unset] []) _
      refine XS.aload X7.here hx rfl (hb hby at_30) rfl rfl ?_
      show own_S p e below T7 (mkF m 32 #[.val (.int p1), .val (.long q2), .second, .val (.long q3), .second, .val (.long q4), .second, .val (.long q5), .second, .val (.long q6), .second, .val (.int (0 : Int32)), .val (.ref b3), .unset, .unset, .unset, .unset, .unset, .unset] [(.ref b3)]) _
      refine XS.lload X7.here hx rfl (hb hby at_32) rfl ?_
      show own_S p e below T7 (mkF m 34 #[.val (.int p1), .val (.long q2), .second, .val (.long q3), .second, .val (.long q4), .second, .val (.long q5), .second, .val (.long q6), .second, .val (.int (0 : Int32)), .val (.ref b3), .unset, .unset, .unset, .unset, .unset, .unset] [(.long q5), (.ref b3)]) _
      refine XS.lload X7.here hx rfl (hb hby at_34) rfl ?_
      exact kt)
    obtain ⟨cq11, kq11, qa11, qb11, qc11⟩ := isOf hZ rfl Ex7
    obtain ⟨_, _, ⟨T11, L11, cc11, ss11⟩, -, X11, ⟨Lc11, hQ11, l11, y11, z11⟩, st11⟩ := X7.virtualBack hx (y := (⟨"com/example/dual_delivery/dualdelivery/store/MessageState", "receivedAt", "(JJ)Lcom/example/dual_delivery/dualdelivery/store/MessageState;"⟩ : MethodName)) (z := (⟨"com/example/dual_delivery/dualdelivery/store/MessageState", "receivedAt", "(JJ)Lcom/example/dual_delivery/dualdelivery/store/MessageState;"⟩ : MethodName)) hown (mvT hZ (hw _ (List.mem_of_getElem? (i := 17) rfl))) (mvT hZ (hw _ (List.mem_of_getElem? (i := 18) rfl))) (notFace_of_selects (args := #[]) (mvT hZ (hw _ (List.mem_of_getElem? (i := 20) rfl)))) (mvT hZ (hw _ (List.mem_of_getElem? (i := 20) rfl))) (mvT hZ (hw _ (List.mem_of_getElem? (i := 19) rfl))) (by decide) (backOf (W := 0) (rm3 l Z a0 hw [] b3 q5 q6 (0 : Int32) q2 q3 q4 T7.heap n0 Z8 Fl7_0 Fl7_1 Fl7_2 Fl7_3) hZ (hw _ (List.mem_of_getElem? (i := 21) rfl)) (hw _ (List.mem_of_getElem? (i := 2) rfl)) (by decide) (by decide)) qa11 qc11 (g := (mkF m 36 #[.val (.int p1), .val (.long q2), .second, .val (.long q3), .second, .val (.long q4), .second, .val (.long q5), .second, .val (.long q6), .second, .val (.int (0 : Int32)), .val (.ref b3), .unset, .unset, .unset, .unset, .unset, .unset] [(.long q6), (.long q5), (.ref b3)])) rfl (by rw [hml]; rfl) (Steps.refl _) (argsL := [(.long q5), (.long q6)]) (rest := []) (lenOf pd_1 rfl) rfl (by show 2 * 0 + _ ≤ _; exact Nat.le_of_eq rfl) (hb hby at_36) (fun _ _ => ⟨rfl, rfl, (by decide : 1 + 1 ≤ _), (by decide : 4 + 4 ≤ _)⟩)
    dsimp only [Pt.U, Pt.locs, Pt.cells, Pt.slots] at X11 l11 y11 z11 st11 hQ11
    subst l11 y11 z11
    obtain ⟨b11, rfl, Nq11, g_b11, K11, Ex11, Fl11_0, Fl11_1, Fl11_2, Fl11_3⟩ := hQ11
    have N11 := Fr.app N7 Nq11
    have Z12 : n0 ≤ T11.heap.size := Nat.le_trans Z8 K11.1
    have k13 : ∀ t, own_S p e below T11 (mkF m 39 #[.val (.int p1), .val (.long q2), .second, .val (.long q3), .second, .val (.long q4), .second, .val (.long q5), .second, .val (.long q6), .second, .val (.int (0 : Int32)), .val (.ref b3), .unset, .unset, .unset, .unset, .unset, .unset] [(.ref b11)]) t → Gl t := fun t kt => k10 t (st11.trans kt)
    have k14 : ∀ t, own_S p e below T11 (mkF m 64 #[.val (.int p1), .val (.long q2), .second, .val (.long q3), .second, .val (.long q4), .second, .val (.long q5), .second, .val (.long q6), .second, .val (.int (0 : Int32)), .val (.ref b3), .val (.ref b11), .val (.int (1 : Int32)), .val (.long q5), .second, .unset, .unset] [(.ref b11)]) t → Gl t := fun t kt => k13 t (by
      show own_S p e below T11 (mkF m 39 #[.val (.int p1), .val (.long q2), .second, .val (.long q3), .second, .val (.long q4), .second, .val (.long q5), .second, .val (.long q6), .second, .val (.int (0 : Int32)), .val (.ref b3), .unset, .unset, .unset, .unset, .unset, .unset] [(.ref b11)]) _
      refine XS.astore X11.here hx rfl (hb hby at_39) rfl rfl (l' := #[.val (.int p1), .val (.long q2), .second, .val (.long q3), .second, .val (.long q4), .second, .val (.long q5), .second, .val (.long q6), .second, .val (.int (0 : Int32)), .val (.ref b3), .val (.ref b11), .unset, .unset, .unset, .unset, .unset]) rfl ?_
      show own_S p e below T11 (mkF m 41 #[.val (.int p1), .val (.long q2), .second, .val (.long q3), .second, .val (.long q4), .second, .val (.long q5), .second, .val (.long q6), .second, .val (.int (0 : Int32)), .val (.ref b3), .val (.ref b11), .unset, .unset, .unset, .unset, .unset] []) _
      refine XS.iload X11.here hx rfl (hb hby at_41) rfl ?_
      show own_S p e below T11 (mkF m 43 #[.val (.int p1), .val (.long q2), .second, .val (.long q3), .second, .val (.long q4), .second, .val (.long q5), .second, .val (.long q6), .second, .val (.int (0 : Int32)), .val (.ref b3), .val (.ref b11), .unset, .unset, .unset, .unset, .unset] [(.int (0 : Int32))]) _
      refine XS.iconst X11.here hx rfl (hb hby at_43) ?_
      show own_S p e below T11 (mkF m 44 #[.val (.int p1), .val (.long q2), .second, .val (.long q3), .second, .val (.long q4), .second, .val (.long q5), .second, .val (.long q6), .second, .val (.int (0 : Int32)), .val (.ref b3), .val (.ref b11), .unset, .unset, .unset, .unset, .unset] [(.int (1 : Int32)), (.int (0 : Int32))]) _
      refine XS.iadd X11.here hx rfl (hb hby at_44) rfl ?_
      rw [(by decide : ((0 : Int32) + (1 : Int32)) = (1 : Int32))]
      show own_S p e below T11 (mkF m 45 #[.val (.int p1), .val (.long q2), .second, .val (.long q3), .second, .val (.long q4), .second, .val (.long q5), .second, .val (.long q6), .second, .val (.int (0 : Int32)), .val (.ref b3), .val (.ref b11), .unset, .unset, .unset, .unset, .unset] [(.int (1 : Int32))]) _
      refine XS.istore X11.here hx rfl (hb hby at_45) rfl (l' := #[.val (.int p1), .val (.long q2), .second, .val (.long q3), .second, .val (.long q4), .second, .val (.long q5), .second, .val (.long q6), .second, .val (.int (0 : Int32)), .val (.ref b3), .val (.ref b11), .val (.int (1 : Int32)), .unset, .unset, .unset, .unset]) rfl ?_
      show own_S p e below T11 (mkF m 47 #[.val (.int p1), .val (.long q2), .second, .val (.long q3), .second, .val (.long q4), .second, .val (.long q5), .second, .val (.long q6), .second, .val (.int (0 : Int32)), .val (.ref b3), .val (.ref b11), .val (.int (1 : Int32)), .unset, .unset, .unset, .unset] []) _
      refine XS.iload X11.here hx rfl (hb hby at_47) rfl ?_
      show own_S p e below T11 (mkF m 49 #[.val (.int p1), .val (.long q2), .second, .val (.long q3), .second, .val (.long q4), .second, .val (.long q5), .second, .val (.long q6), .second, .val (.int (0 : Int32)), .val (.ref b3), .val (.ref b11), .val (.int (1 : Int32)), .unset, .unset, .unset, .unset] [(.int (0 : Int32))]) _
      refine XS.ifNo X11.here hx rfl (hb hby at_49) rfl ((if0 _ _).trans (teq (by decide : (0 : Int32) = (0 : Int32))).2) ?_
      show own_S p e below T11 (mkF m 52 #[.val (.int p1), .val (.long q2), .second, .val (.long q3), .second, .val (.long q4), .second, .val (.long q5), .second, .val (.long q6), .second, .val (.int (0 : Int32)), .val (.ref b3), .val (.ref b11), .val (.int (1 : Int32)), .unset, .unset, .unset, .unset] []) _
      refine XS.lload X11.here hx rfl (hb hby at_52) rfl ?_
      show own_S p e below T11 (mkF m 54 #[.val (.int p1), .val (.long q2), .second, .val (.long q3), .second, .val (.long q4), .second, .val (.long q5), .second, .val (.long q6), .second, .val (.int (0 : Int32)), .val (.ref b3), .val (.ref b11), .val (.int (1 : Int32)), .unset, .unset, .unset, .unset] [(.long q5)]) _
      refine XS.lstore X11.here hx rfl (hb hby at_54) rfl (l' := #[.val (.int p1), .val (.long q2), .second, .val (.long q3), .second, .val (.long q4), .second, .val (.long q5), .second, .val (.long q6), .second, .val (.int (0 : Int32)), .val (.ref b3), .val (.ref b11), .val (.int (1 : Int32)), .val (.long q5), .second, .unset, .unset]) rfl ?_
      show own_S p e below T11 (mkF m 56 #[.val (.int p1), .val (.long q2), .second, .val (.long q3), .second, .val (.long q4), .second, .val (.long q5), .second, .val (.long q6), .second, .val (.int (0 : Int32)), .val (.ref b3), .val (.ref b11), .val (.int (1 : Int32)), .val (.long q5), .second, .unset, .unset] []) _
      refine XS.goto X11.here hx rfl (pc0 := 56) (pc' := 62) rfl (hb hby at_56) (by decide) (by decide) ?_
      show own_S p e below T11 (mkF m 62 #[.val (.int p1), .val (.long q2), .second, .val (.long q3), .second, .val (.long q4), .second, .val (.long q5), .second, .val (.long q6), .second, .val (.int (0 : Int32)), .val (.ref b3), .val (.ref b11), .val (.int (1 : Int32)), .val (.long q5), .second, .unset, .unset] []) _
      refine XS.aload X11.here hx rfl (hb hby at_62) rfl rfl ?_
      exact kt)
    obtain ⟨cq15, kq15, qa15, qb15, qc15⟩ := isOf hZ rfl Ex11
    obtain ⟨_, _, ⟨T15, L15, cc15, ss15⟩, -, X15, ⟨Lc15, hQ15, l15, y15, z15⟩, st15⟩ := X11.virtualBack hx (y := (⟨"com/example/dual_delivery/dualdelivery/store/MessageState", "getDequeueCount", "()I"⟩ : MethodName)) (z := (⟨"com/example/dual_delivery/dualdelivery/store/MessageState", "getDequeueCount", "()I"⟩ : MethodName)) hown (mvT hZ (hw _ (List.mem_of_getElem? (i := 24) rfl))) (mvT hZ (hw _ (List.mem_of_getElem? (i := 25) rfl))) (notFace_of_selects (args := #[]) (mvT hZ (hw _ (List.mem_of_getElem? (i := 27) rfl)))) (mvT hZ (hw _ (List.mem_of_getElem? (i := 27) rfl))) (mvT hZ (hw _ (List.mem_of_getElem? (i := 26) rfl))) (by decide) (backOf (W := 0) (rm4 l Z a0 hw [] b11 ((0 : Int32) + (1 : Int32)) T11.heap n0 Z12 Fl11_0) hZ (hw _ (List.mem_of_getElem? (i := 28) rfl)) (hw _ (List.mem_of_getElem? (i := 2) rfl)) (by decide) (by decide)) qa15 qc15 (g := (mkF m 64 #[.val (.int p1), .val (.long q2), .second, .val (.long q3), .second, .val (.long q4), .second, .val (.long q5), .second, .val (.long q6), .second, .val (.int (0 : Int32)), .val (.ref b3), .val (.ref b11), .val (.int (1 : Int32)), .val (.long q5), .second, .unset, .unset] [(.ref b11)])) rfl (by rw [hml]; rfl) (Steps.refl _) (argsL := []) (rest := []) (lenOf pd_2 rfl) rfl (by show 2 * 0 + _ ≤ _; exact Nat.le_of_eq rfl) (hb hby at_64) (fun _ _ => ⟨rfl, rfl, (by decide : 2 + 0 ≤ _), (by decide : 8 + 0 ≤ _)⟩)
    dsimp only [Pt.U, Pt.locs, Pt.cells, Pt.slots] at X15 l15 y15 z15 st15 hQ15
    subst l15 y15 z15
    obtain ⟨rfl, Nq15, eq15⟩ := hQ15
    have N15 := Fr.app N11 Nq15
    have k16 : ∀ t, own_S p e below T15 (mkF m 67 #[.val (.int p1), .val (.long q2), .second, .val (.long q3), .second, .val (.long q4), .second, .val (.long q5), .second, .val (.long q6), .second, .val (.int (0 : Int32)), .val (.ref b3), .val (.ref b11), .val (.int (1 : Int32)), .val (.long q5), .second, .unset, .unset] [(.int ((0 : Int32) + (1 : Int32)))]) t → Gl t := fun t kt => k14 t (st15.trans kt)
    have k17 : ∀ t, own_S p e below T15 (mkF m 69 #[.val (.int p1), .val (.long q2), .second, .val (.long q3), .second, .val (.long q4), .second, .val (.long q5), .second, .val (.long q6), .second, .val (.int (0 : Int32)), .val (.ref b3), .val (.ref b11), .val (.int (1 : Int32)), .val (.long q5), .second, .unset, .unset] [(.int (1 : Int32)), (.int ((0 : Int32) + (1 : Int32)))]) t → Gl t := fun t kt => k16 t (by
      show own_S p e below T15 (mkF m 67 #[.val (.int p1), .val (.long q2), .second, .val (.long q3), .second, .val (.long q4), .second, .val (.long q5), .second, .val (.long q6), .second, .val (.int (0 : Int32)), .val (.ref b3), .val (.ref b11), .val (.int (1 : Int32)), .val (.long q5), .second, .unset, .unset] [(.int ((0 : Int32) + (1 : Int32)))]) _
      refine XS.iload X15.here hx rfl (hb hby at_67) rfl ?_
      exact kt)
    have hc69_18 : ((0 : Int32) + (1 : Int32)) = (1 : Int32) := rfl
    have k19 : ∀ t, own_S p e below T15 (mkF m 74 #[.val (.int p1), .val (.long q2), .second, .val (.long q3), .second, .val (.long q4), .second, .val (.long q5), .second, .val (.long q6), .second, .val (.int (0 : Int32)), .val (.ref b3), .val (.ref b11), .val (.int (1 : Int32)), .val (.long q5), .second, .unset, .unset] [(.ref b11)]) t → Gl t := fun t kt => k17 t (by
      show own_S p e below T15 (mkF m 69 #[.val (.int p1), .val (.long q2), .second, .val (.long q3), .second, .val (.long q4), .second, .val (.long q5), .second, .val (.long q6), .second, .val (.int (0 : Int32)), .val (.ref b3), .val (.ref b11), .val (.int (1 : Int32)), .val (.long q5), .second, .unset, .unset] [(.int (1 : Int32)), (.int ((0 : Int32) + (1 : Int32)))]) _
      refine XS.icmpNo X15.here hx rfl (hb hby at_69) rfl (teq hc69_18).2 ?_
      show own_S p e below T15 (mkF m 72 #[.val (.int p1), .val (.long q2), .second, .val (.long q3), .second, .val (.long q4), .second, .val (.long q5), .second, .val (.long q6), .second, .val (.int (0 : Int32)), .val (.ref b3), .val (.ref b11), .val (.int (1 : Int32)), .val (.long q5), .second, .unset, .unset] []) _
      refine XS.aload X15.here hx rfl (hb hby at_72) rfl rfl ?_
      exact kt)
    obtain ⟨cq20, kq20, qa20, qb20, qc20⟩ := isOf hZ eq15 Ex11
    obtain ⟨_, _, ⟨T20, L20, cc20, ss20⟩, -, X20, ⟨Lc20, hQ20, l20, y20, z20⟩, st20⟩ := X15.virtualBack hx (y := (⟨"com/example/dual_delivery/dualdelivery/store/MessageState", "getFirstDequeueMillis", "()J"⟩ : MethodName)) (z := (⟨"com/example/dual_delivery/dualdelivery/store/MessageState", "getFirstDequeueMillis", "()J"⟩ : MethodName)) hown (mvT hZ (hw _ (List.mem_of_getElem? (i := 29) rfl))) (mvT hZ (hw _ (List.mem_of_getElem? (i := 30) rfl))) (notFace_of_selects (args := #[]) (mvT hZ (hw _ (List.mem_of_getElem? (i := 32) rfl)))) (mvT hZ (hw _ (List.mem_of_getElem? (i := 32) rfl))) (mvT hZ (hw _ (List.mem_of_getElem? (i := 31) rfl))) (by decide) (backOf (W := 0) (rm5 l Z a0 hw [] b11 (if (0 : Int32) = (0 : Int32) then q5 else q2) T11.heap n0 Z12 Fl11_1) hZ (hw _ (List.mem_of_getElem? (i := 33) rfl)) (hw _ (List.mem_of_getElem? (i := 2) rfl)) (by decide) (by decide)) qa20 qc20 (g := (mkF m 74 #[.val (.int p1), .val (.long q2), .second, .val (.long q3), .second, .val (.long q4), .second, .val (.long q5), .second, .val (.long q6), .second, .val (.int (0 : Int32)), .val (.ref b3), .val (.ref b11), .val (.int (1 : Int32)), .val (.long q5), .second, .unset, .unset] [(.ref b11)])) rfl (by rw [hml]; rfl) (Steps.refl _) (argsL := []) (rest := []) (lenOf pd_3 rfl) rfl (by show 2 * 0 + _ ≤ _; exact Nat.le_of_eq rfl) (hb hby at_74) (fun _ _ => ⟨rfl, eq15, (by decide : 2 + 0 ≤ _), (by decide : 8 + 0 ≤ _)⟩)
    dsimp only [Pt.U, Pt.locs, Pt.cells, Pt.slots] at X20 l20 y20 z20 st20 hQ20
    subst l20 y20 z20
    obtain ⟨rfl, Nq20, eq20⟩ := hQ20
    have N20 := Fr.app N15 Nq20
    have k21 : ∀ t, own_S p e below T20 (mkF m 77 #[.val (.int p1), .val (.long q2), .second, .val (.long q3), .second, .val (.long q4), .second, .val (.long q5), .second, .val (.long q6), .second, .val (.int (0 : Int32)), .val (.ref b3), .val (.ref b11), .val (.int (1 : Int32)), .val (.long q5), .second, .unset, .unset] [(.long (if (0 : Int32) = (0 : Int32) then q5 else q2))]) t → Gl t := fun t kt => k19 t (st20.trans kt)
    have k22 : ∀ t, own_S p e below T20 (mkF m 80 #[.val (.int p1), .val (.long q2), .second, .val (.long q3), .second, .val (.long q4), .second, .val (.long q5), .second, .val (.long q6), .second, .val (.int (0 : Int32)), .val (.ref b3), .val (.ref b11), .val (.int (1 : Int32)), .val (.long q5), .second, .unset, .unset] [(.int (lcmpW (if (0 : Int32) = (0 : Int32) then q5 else q2) q5))]) t → Gl t := fun t kt => k21 t (by
      show own_S p e below T20 (mkF m 77 #[.val (.int p1), .val (.long q2), .second, .val (.long q3), .second, .val (.long q4), .second, .val (.long q5), .second, .val (.long q6), .second, .val (.int (0 : Int32)), .val (.ref b3), .val (.ref b11), .val (.int (1 : Int32)), .val (.long q5), .second, .unset, .unset] [(.long (if (0 : Int32) = (0 : Int32) then q5 else q2))]) _
      refine XS.lload X20.here hx rfl (hb hby at_77) rfl ?_
      show own_S p e below T20 (mkF m 79 #[.val (.int p1), .val (.long q2), .second, .val (.long q3), .second, .val (.long q4), .second, .val (.long q5), .second, .val (.long q6), .second, .val (.int (0 : Int32)), .val (.ref b3), .val (.ref b11), .val (.int (1 : Int32)), .val (.long q5), .second, .unset, .unset] [(.long q5), (.long (if (0 : Int32) = (0 : Int32) then q5 else q2))]) _
      refine XS.lcmp X20.here hx rfl (hb hby at_79) rfl ?_
      exact kt)
    have hc80_23 : (if (0 : Int32) = (0 : Int32) then q5 else q2) = q5 := if_pos (by decide)
    have k24 : ∀ t, own_S p e below T20 (mkF m 85 #[.val (.int p1), .val (.long q2), .second, .val (.long q3), .second, .val (.long q4), .second, .val (.long q5), .second, .val (.long q6), .second, .val (.int (0 : Int32)), .val (.ref b3), .val (.ref b11), .val (.int (1 : Int32)), .val (.long q5), .second, .unset, .unset] [(.ref b11)]) t → Gl t := fun t kt => k22 t (by
      show own_S p e below T20 (mkF m 80 #[.val (.int p1), .val (.long q2), .second, .val (.long q3), .second, .val (.long q4), .second, .val (.long q5), .second, .val (.long q6), .second, .val (.int (0 : Int32)), .val (.ref b3), .val (.ref b11), .val (.int (1 : Int32)), .val (.long q5), .second, .unset, .unset] [(.int (lcmpW (if (0 : Int32) = (0 : Int32) then q5 else q2) q5))]) _
      refine XS.ifNo X20.here hx rfl (hb hby at_80) rfl ((if0 _ _).trans (teq ((lw_eq (if (0 : Int32) = (0 : Int32) then q5 else q2) q5).mpr hc80_23)).2) ?_
      show own_S p e below T20 (mkF m 83 #[.val (.int p1), .val (.long q2), .second, .val (.long q3), .second, .val (.long q4), .second, .val (.long q5), .second, .val (.long q6), .second, .val (.int (0 : Int32)), .val (.ref b3), .val (.ref b11), .val (.int (1 : Int32)), .val (.long q5), .second, .unset, .unset] []) _
      refine XS.aload X20.here hx rfl (hb hby at_83) rfl rfl ?_
      exact kt)
    obtain ⟨cq25, kq25, qa25, qb25, qc25⟩ := isOf hZ eq20 Ex11
    obtain ⟨_, _, ⟨T25, L25, cc25, ss25⟩, -, X25, ⟨Lc25, hQ25, l25, y25, z25⟩, st25⟩ := X20.virtualBack hx (y := (⟨"com/example/dual_delivery/dualdelivery/store/MessageState", "getToken", "()J"⟩ : MethodName)) (z := (⟨"com/example/dual_delivery/dualdelivery/store/MessageState", "getToken", "()J"⟩ : MethodName)) hown (mvT hZ (hw _ (List.mem_of_getElem? (i := 34) rfl))) (mvT hZ (hw _ (List.mem_of_getElem? (i := 35) rfl))) (notFace_of_selects (args := #[]) (mvT hZ (hw _ (List.mem_of_getElem? (i := 37) rfl)))) (mvT hZ (hw _ (List.mem_of_getElem? (i := 37) rfl))) (mvT hZ (hw _ (List.mem_of_getElem? (i := 36) rfl))) (by decide) (backOf (W := 0) (rm6 l Z a0 hw [] b11 q6 T11.heap n0 Z12 Fl11_2) hZ (hw _ (List.mem_of_getElem? (i := 38) rfl)) (hw _ (List.mem_of_getElem? (i := 2) rfl)) (by decide) (by decide)) qa25 qc25 (g := (mkF m 85 #[.val (.int p1), .val (.long q2), .second, .val (.long q3), .second, .val (.long q4), .second, .val (.long q5), .second, .val (.long q6), .second, .val (.int (0 : Int32)), .val (.ref b3), .val (.ref b11), .val (.int (1 : Int32)), .val (.long q5), .second, .unset, .unset] [(.ref b11)])) rfl (by rw [hml]; rfl) (Steps.refl _) (argsL := []) (rest := []) (lenOf pd_3 rfl) rfl (by show 2 * 0 + _ ≤ _; exact Nat.le_of_eq rfl) (hb hby at_85) (fun _ _ => ⟨rfl, eq20, (by decide : 2 + 0 ≤ _), (by decide : 8 + 0 ≤ _)⟩)
    dsimp only [Pt.U, Pt.locs, Pt.cells, Pt.slots] at X25 l25 y25 z25 st25 hQ25
    subst l25 y25 z25
    obtain ⟨rfl, Nq25, eq25⟩ := hQ25
    have N25 := Fr.app N20 Nq25
    have k26 : ∀ t, own_S p e below T25 (mkF m 88 #[.val (.int p1), .val (.long q2), .second, .val (.long q3), .second, .val (.long q4), .second, .val (.long q5), .second, .val (.long q6), .second, .val (.int (0 : Int32)), .val (.ref b3), .val (.ref b11), .val (.int (1 : Int32)), .val (.long q5), .second, .unset, .unset] [(.long q6)]) t → Gl t := fun t kt => k24 t (st25.trans kt)
    have k27 : ∀ t, own_S p e below T25 (mkF m 91 #[.val (.int p1), .val (.long q2), .second, .val (.long q3), .second, .val (.long q4), .second, .val (.long q5), .second, .val (.long q6), .second, .val (.int (0 : Int32)), .val (.ref b3), .val (.ref b11), .val (.int (1 : Int32)), .val (.long q5), .second, .unset, .unset] [(.int (lcmpW q6 q6))]) t → Gl t := fun t kt => k26 t (by
      show own_S p e below T25 (mkF m 88 #[.val (.int p1), .val (.long q2), .second, .val (.long q3), .second, .val (.long q4), .second, .val (.long q5), .second, .val (.long q6), .second, .val (.int (0 : Int32)), .val (.ref b3), .val (.ref b11), .val (.int (1 : Int32)), .val (.long q5), .second, .unset, .unset] [(.long q6)]) _
      refine XS.lload X25.here hx rfl (hb hby at_88) rfl ?_
      show own_S p e below T25 (mkF m 90 #[.val (.int p1), .val (.long q2), .second, .val (.long q3), .second, .val (.long q4), .second, .val (.long q5), .second, .val (.long q6), .second, .val (.int (0 : Int32)), .val (.ref b3), .val (.ref b11), .val (.int (1 : Int32)), .val (.long q5), .second, .unset, .unset] [(.long q6), (.long q6)]) _
      refine XS.lcmp X25.here hx rfl (hb hby at_90) rfl ?_
      exact kt)
    have hc91_28 : q6 = q6 := rfl
    have k29 : ∀ t, own_S p e below T25 (mkF m 96 #[.val (.int p1), .val (.long q2), .second, .val (.long q3), .second, .val (.long q4), .second, .val (.long q5), .second, .val (.long q6), .second, .val (.int (0 : Int32)), .val (.ref b3), .val (.ref b11), .val (.int (1 : Int32)), .val (.long q5), .second, .unset, .unset] [(.ref b11)]) t → Gl t := fun t kt => k27 t (by
      show own_S p e below T25 (mkF m 91 #[.val (.int p1), .val (.long q2), .second, .val (.long q3), .second, .val (.long q4), .second, .val (.long q5), .second, .val (.long q6), .second, .val (.int (0 : Int32)), .val (.ref b3), .val (.ref b11), .val (.int (1 : Int32)), .val (.long q5), .second, .unset, .unset] [(.int (lcmpW q6 q6))]) _
      refine XS.ifNo X25.here hx rfl (hb hby at_91) rfl ((if0 _ _).trans (teq ((lw_eq q6 q6).mpr hc91_28)).2) ?_
      show own_S p e below T25 (mkF m 94 #[.val (.int p1), .val (.long q2), .second, .val (.long q3), .second, .val (.long q4), .second, .val (.long q5), .second, .val (.long q6), .second, .val (.int (0 : Int32)), .val (.ref b3), .val (.ref b11), .val (.int (1 : Int32)), .val (.long q5), .second, .unset, .unset] []) _
      refine XS.aload X25.here hx rfl (hb hby at_94) rfl rfl ?_
      exact kt)
    obtain ⟨cq30, kq30, qa30, qb30, qc30⟩ := isOf hZ eq25 Ex11
    obtain ⟨_, _, ⟨T30, L30, cc30, ss30⟩, -, X30, ⟨Lc30, hQ30, l30, y30, z30⟩, st30⟩ := X25.virtualBack hx (y := (⟨"com/example/dual_delivery/dualdelivery/store/MessageState", "getSendMillis", "()J"⟩ : MethodName)) (z := (⟨"com/example/dual_delivery/dualdelivery/store/MessageState", "getSendMillis", "()J"⟩ : MethodName)) hown (mvT hZ (hw _ (List.mem_of_getElem? (i := 39) rfl))) (mvT hZ (hw _ (List.mem_of_getElem? (i := 40) rfl))) (notFace_of_selects (args := #[]) (mvT hZ (hw _ (List.mem_of_getElem? (i := 42) rfl)))) (mvT hZ (hw _ (List.mem_of_getElem? (i := 42) rfl))) (mvT hZ (hw _ (List.mem_of_getElem? (i := 41) rfl))) (by decide) (backOf (W := 0) (rm7 l Z a0 hw [] b11 q4 T11.heap n0 Z12 Fl11_3) hZ (hw _ (List.mem_of_getElem? (i := 43) rfl)) (hw _ (List.mem_of_getElem? (i := 2) rfl)) (by decide) (by decide)) qa30 qc30 (g := (mkF m 96 #[.val (.int p1), .val (.long q2), .second, .val (.long q3), .second, .val (.long q4), .second, .val (.long q5), .second, .val (.long q6), .second, .val (.int (0 : Int32)), .val (.ref b3), .val (.ref b11), .val (.int (1 : Int32)), .val (.long q5), .second, .unset, .unset] [(.ref b11)])) rfl (by rw [hml]; rfl) (Steps.refl _) (argsL := []) (rest := []) (lenOf pd_3 rfl) rfl (by show 2 * 0 + _ ≤ _; exact Nat.le_of_eq rfl) (hb hby at_96) (fun _ _ => ⟨rfl, eq25, (by decide : 2 + 0 ≤ _), (by decide : 8 + 0 ≤ _)⟩)
    dsimp only [Pt.U, Pt.locs, Pt.cells, Pt.slots] at X30 l30 y30 z30 st30 hQ30
    subst l30 y30 z30
    obtain ⟨rfl, Nq30, eq30⟩ := hQ30
    have N30 := Fr.app N25 Nq30
    have k31 : ∀ t, own_S p e below T30 (mkF m 99 #[.val (.int p1), .val (.long q2), .second, .val (.long q3), .second, .val (.long q4), .second, .val (.long q5), .second, .val (.long q6), .second, .val (.int (0 : Int32)), .val (.ref b3), .val (.ref b11), .val (.int (1 : Int32)), .val (.long q5), .second, .unset, .unset] [(.long q4)]) t → Gl t := fun t kt => k29 t (st30.trans kt)
    have k32 : ∀ t, own_S p e below T30 (mkF m 102 #[.val (.int p1), .val (.long q2), .second, .val (.long q3), .second, .val (.long q4), .second, .val (.long q5), .second, .val (.long q6), .second, .val (.int (0 : Int32)), .val (.ref b3), .val (.ref b11), .val (.int (1 : Int32)), .val (.long q5), .second, .unset, .unset] [(.int (lcmpW q4 q4))]) t → Gl t := fun t kt => k31 t (by
      show own_S p e below T30 (mkF m 99 #[.val (.int p1), .val (.long q2), .second, .val (.long q3), .second, .val (.long q4), .second, .val (.long q5), .second, .val (.long q6), .second, .val (.int (0 : Int32)), .val (.ref b3), .val (.ref b11), .val (.int (1 : Int32)), .val (.long q5), .second, .unset, .unset] [(.long q4)]) _
      refine XS.lload X30.here hx rfl (hb hby at_99) rfl ?_
      show own_S p e below T30 (mkF m 101 #[.val (.int p1), .val (.long q2), .second, .val (.long q3), .second, .val (.long q4), .second, .val (.long q5), .second, .val (.long q6), .second, .val (.int (0 : Int32)), .val (.ref b3), .val (.ref b11), .val (.int (1 : Int32)), .val (.long q5), .second, .unset, .unset] [(.long q4), (.long q4)]) _
      refine XS.lcmp X30.here hx rfl (hb hby at_101) rfl ?_
      exact kt)
    have hc102_33 : q4 = q4 := rfl
    have k34 : ∀ t, own_S p e below T30 (mkF m 114 #[.val (.int p1), .val (.long q2), .second, .val (.long q3), .second, .val (.long q4), .second, .val (.long q5), .second, .val (.long q6), .second, .val (.int (0 : Int32)), .val (.ref b3), .val (.ref b11), .val (.int (1 : Int32)), .val (.long q5), .second, .val (.int (1 : Int32)), .unset] [(.ref b3)]) t → Gl t := fun t kt => k32 t (by
      show own_S p e below T30 (mkF m 102 #[.val (.int p1), .val (.long q2), .second, .val (.long q3), .second, .val (.long q4), .second, .val (.long q5), .second, .val (.long q6), .second, .val (.int (0 : Int32)), .val (.ref b3), .val (.ref b11), .val (.int (1 : Int32)), .val (.long q5), .second, .unset, .unset] [(.int (lcmpW q4 q4))]) _
      refine XS.ifNo X30.here hx rfl (hb hby at_102) rfl ((if0 _ _).trans (teq ((lw_eq q4 q4).mpr hc102_33)).2) ?_
      show own_S p e below T30 (mkF m 105 #[.val (.int p1), .val (.long q2), .second, .val (.long q3), .second, .val (.long q4), .second, .val (.long q5), .second, .val (.long q6), .second, .val (.int (0 : Int32)), .val (.ref b3), .val (.ref b11), .val (.int (1 : Int32)), .val (.long q5), .second, .unset, .unset] []) _
      refine XS.iconst X30.here hx rfl (hb hby at_105) ?_
      show own_S p e below T30 (mkF m 106 #[.val (.int p1), .val (.long q2), .second, .val (.long q3), .second, .val (.long q4), .second, .val (.long q5), .second, .val (.long q6), .second, .val (.int (0 : Int32)), .val (.ref b3), .val (.ref b11), .val (.int (1 : Int32)), .val (.long q5), .second, .unset, .unset] [(.int (1 : Int32))]) _
      refine XS.goto X30.here hx rfl (pc0 := 106) (pc' := 110) rfl (hb hby at_106) (by decide) (by decide) ?_
      show own_S p e below T30 (mkF m 110 #[.val (.int p1), .val (.long q2), .second, .val (.long q3), .second, .val (.long q4), .second, .val (.long q5), .second, .val (.long q6), .second, .val (.int (0 : Int32)), .val (.ref b3), .val (.ref b11), .val (.int (1 : Int32)), .val (.long q5), .second, .unset, .unset] [(.int (1 : Int32))]) _
      refine XS.istore X30.here hx rfl (hb hby at_110) rfl (l' := #[.val (.int p1), .val (.long q2), .second, .val (.long q3), .second, .val (.long q4), .second, .val (.long q5), .second, .val (.long q6), .second, .val (.int (0 : Int32)), .val (.ref b3), .val (.ref b11), .val (.int (1 : Int32)), .val (.long q5), .second, .val (.int (1 : Int32)), .unset]) rfl ?_
      show own_S p e below T30 (mkF m 112 #[.val (.int p1), .val (.long q2), .second, .val (.long q3), .second, .val (.long q4), .second, .val (.long q5), .second, .val (.long q6), .second, .val (.int (0 : Int32)), .val (.ref b3), .val (.ref b11), .val (.int (1 : Int32)), .val (.long q5), .second, .val (.int (1 : Int32)), .unset] []) _
      refine XS.aload X30.here hx rfl (hb hby at_112) rfl rfl ?_
      exact kt)
    have f36 := (Fl7_0.keep K11 nin0)
    have f37 := (Ex7.keep K11)
    obtain ⟨cq35, kq35, qa35, qb35, qc35⟩ := isOf hZ eq30 f37
    obtain ⟨_, _, ⟨T35, L35, cc35, ss35⟩, -, X35, ⟨Lc35, hQ35, l35, y35, z35⟩, st35⟩ := X30.virtualBack hx (y := (⟨"com/example/dual_delivery/dualdelivery/store/MessageState", "getDequeueCount", "()I"⟩ : MethodName)) (z := (⟨"com/example/dual_delivery/dualdelivery/store/MessageState", "getDequeueCount", "()I"⟩ : MethodName)) hown (mvT hZ (hw _ (List.mem_of_getElem? (i := 24) rfl))) (mvT hZ (hw _ (List.mem_of_getElem? (i := 25) rfl))) (notFace_of_selects (args := #[]) (mvT hZ (hw _ (List.mem_of_getElem? (i := 27) rfl)))) (mvT hZ (hw _ (List.mem_of_getElem? (i := 27) rfl))) (mvT hZ (hw _ (List.mem_of_getElem? (i := 26) rfl))) (by decide) (backOf (W := 0) (rm4 l Z a0 hw [] b3 (0 : Int32) T11.heap n0 Z12 f36) hZ (hw _ (List.mem_of_getElem? (i := 28) rfl)) (hw _ (List.mem_of_getElem? (i := 2) rfl)) (by decide) (by decide)) qa35 qc35 (g := (mkF m 114 #[.val (.int p1), .val (.long q2), .second, .val (.long q3), .second, .val (.long q4), .second, .val (.long q5), .second, .val (.long q6), .second, .val (.int (0 : Int32)), .val (.ref b3), .val (.ref b11), .val (.int (1 : Int32)), .val (.long q5), .second, .val (.int (1 : Int32)), .unset] [(.ref b3)])) rfl (by rw [hml]; rfl) (Steps.refl _) (argsL := []) (rest := []) (lenOf pd_2 rfl) rfl (by show 2 * 0 + _ ≤ _; exact Nat.le_of_eq rfl) (hb hby at_114) (fun _ _ => ⟨rfl, eq30, (by decide : 2 + 0 ≤ _), (by decide : 8 + 0 ≤ _)⟩)
    dsimp only [Pt.U, Pt.locs, Pt.cells, Pt.slots] at X35 l35 y35 z35 st35 hQ35
    subst l35 y35 z35
    obtain ⟨rfl, Nq35, eq35⟩ := hQ35
    have N35 := Fr.app N30 Nq35
    have k38 : ∀ t, own_S p e below T35 (mkF m 117 #[.val (.int p1), .val (.long q2), .second, .val (.long q3), .second, .val (.long q4), .second, .val (.long q5), .second, .val (.long q6), .second, .val (.int (0 : Int32)), .val (.ref b3), .val (.ref b11), .val (.int (1 : Int32)), .val (.long q5), .second, .val (.int (1 : Int32)), .unset] [(.int (0 : Int32))]) t → Gl t := fun t kt => k34 t (st35.trans kt)
    have k39 : ∀ t, own_S p e below T35 (mkF m 124 #[.val (.int p1), .val (.long q2), .second, .val (.long q3), .second, .val (.long q4), .second, .val (.long q5), .second, .val (.long q6), .second, .val (.int (0 : Int32)), .val (.ref b3), .val (.ref b11), .val (.int (1 : Int32)), .val (.long q5), .second, .val (.int (1 : Int32)), .unset] [(.ref b3)]) t → Gl t := fun t kt => k38 t (by
      show own_S p e below T35 (mkF m 117 #[.val (.int p1), .val (.long q2), .second, .val (.long q3), .second, .val (.long q4), .second, .val (.long q5), .second, .val (.long q6), .second, .val (.int (0 : Int32)), .val (.ref b3), .val (.ref b11), .val (.int (1 : Int32)), .val (.long q5), .second, .val (.int (1 : Int32)), .unset] [(.int (0 : Int32))]) _
      refine XS.iload X35.here hx rfl (hb hby at_117) rfl ?_
      show own_S p e below T35 (mkF m 119 #[.val (.int p1), .val (.long q2), .second, .val (.long q3), .second, .val (.long q4), .second, .val (.long q5), .second, .val (.long q6), .second, .val (.int (0 : Int32)), .val (.ref b3), .val (.ref b11), .val (.int (1 : Int32)), .val (.long q5), .second, .val (.int (1 : Int32)), .unset] [(.int (0 : Int32)), (.int (0 : Int32))]) _
      refine XS.icmpNo X35.here hx rfl (hb hby at_119) rfl (teq (by decide : (0 : Int32) = (0 : Int32))).2 ?_
      show own_S p e below T35 (mkF m 122 #[.val (.int p1), .val (.long q2), .second, .val (.long q3), .second, .val (.long q4), .second, .val (.long q5), .second, .val (.long q6), .second, .val (.int (0 : Int32)), .val (.ref b3), .val (.ref b11), .val (.int (1 : Int32)), .val (.long q5), .second, .val (.int (1 : Int32)), .unset] []) _
      refine XS.aload X35.here hx rfl (hb hby at_122) rfl rfl ?_
      exact kt)
    have f41 := (Fl7_1.keep K11 nin0)
    obtain ⟨cq40, kq40, qa40, qb40, qc40⟩ := isOf hZ eq35 f37
    obtain ⟨_, _, ⟨T40, L40, cc40, ss40⟩, -, X40, ⟨Lc40, hQ40, l40, y40, z40⟩, st40⟩ := X35.virtualBack hx (y := (⟨"com/example/dual_delivery/dualdelivery/store/MessageState", "getFirstDequeueMillis", "()J"⟩ : MethodName)) (z := (⟨"com/example/dual_delivery/dualdelivery/store/MessageState", "getFirstDequeueMillis", "()J"⟩ : MethodName)) hown (mvT hZ (hw _ (List.mem_of_getElem? (i := 29) rfl))) (mvT hZ (hw _ (List.mem_of_getElem? (i := 30) rfl))) (notFace_of_selects (args := #[]) (mvT hZ (hw _ (List.mem_of_getElem? (i := 32) rfl)))) (mvT hZ (hw _ (List.mem_of_getElem? (i := 32) rfl))) (mvT hZ (hw _ (List.mem_of_getElem? (i := 31) rfl))) (by decide) (backOf (W := 0) (rm5 l Z a0 hw [] b3 q2 T11.heap n0 Z12 f41) hZ (hw _ (List.mem_of_getElem? (i := 33) rfl)) (hw _ (List.mem_of_getElem? (i := 2) rfl)) (by decide) (by decide)) qa40 qc40 (g := (mkF m 124 #[.val (.int p1), .val (.long q2), .second, .val (.long q3), .second, .val (.long q4), .second, .val (.long q5), .second, .val (.long q6), .second, .val (.int (0 : Int32)), .val (.ref b3), .val (.ref b11), .val (.int (1 : Int32)), .val (.long q5), .second, .val (.int (1 : Int32)), .unset] [(.ref b3)])) rfl (by rw [hml]; rfl) (Steps.refl _) (argsL := []) (rest := []) (lenOf pd_3 rfl) rfl (by show 2 * 0 + _ ≤ _; exact Nat.le_of_eq rfl) (hb hby at_124) (fun _ _ => ⟨rfl, eq35, (by decide : 2 + 0 ≤ _), (by decide : 8 + 0 ≤ _)⟩)
    dsimp only [Pt.U, Pt.locs, Pt.cells, Pt.slots] at X40 l40 y40 z40 st40 hQ40
    subst l40 y40 z40
    obtain ⟨rfl, Nq40, eq40⟩ := hQ40
    have N40 := Fr.app N35 Nq40
    have k42 : ∀ t, own_S p e below T40 (mkF m 127 #[.val (.int p1), .val (.long q2), .second, .val (.long q3), .second, .val (.long q4), .second, .val (.long q5), .second, .val (.long q6), .second, .val (.int (0 : Int32)), .val (.ref b3), .val (.ref b11), .val (.int (1 : Int32)), .val (.long q5), .second, .val (.int (1 : Int32)), .unset] [(.long q2)]) t → Gl t := fun t kt => k39 t (st40.trans kt)
    have k43 : ∀ t, own_S p e below T40 (mkF m 129 #[.val (.int p1), .val (.long q2), .second, .val (.long q3), .second, .val (.long q4), .second, .val (.long q5), .second, .val (.long q6), .second, .val (.int (0 : Int32)), .val (.ref b3), .val (.ref b11), .val (.int (1 : Int32)), .val (.long q5), .second, .val (.int (1 : Int32)), .unset] [(.int (lcmpW q2 q2))]) t → Gl t := fun t kt => k42 t (by
      show own_S p e below T40 (mkF m 127 #[.val (.int p1), .val (.long q2), .second, .val (.long q3), .second, .val (.long q4), .second, .val (.long q5), .second, .val (.long q6), .second, .val (.int (0 : Int32)), .val (.ref b3), .val (.ref b11), .val (.int (1 : Int32)), .val (.long q5), .second, .val (.int (1 : Int32)), .unset] [(.long q2)]) _
      refine XS.lloadN X40.here hx rfl (hb hby at_127) rfl ?_
      show own_S p e below T40 (mkF m 128 #[.val (.int p1), .val (.long q2), .second, .val (.long q3), .second, .val (.long q4), .second, .val (.long q5), .second, .val (.long q6), .second, .val (.int (0 : Int32)), .val (.ref b3), .val (.ref b11), .val (.int (1 : Int32)), .val (.long q5), .second, .val (.int (1 : Int32)), .unset] [(.long q2), (.long q2)]) _
      refine XS.lcmp X40.here hx rfl (hb hby at_128) rfl ?_
      exact kt)
    have hc129_44 : q2 = q2 := rfl
    have k45 : ∀ t, own_S p e below T40 (mkF m 134 #[.val (.int p1), .val (.long q2), .second, .val (.long q3), .second, .val (.long q4), .second, .val (.long q5), .second, .val (.long q6), .second, .val (.int (0 : Int32)), .val (.ref b3), .val (.ref b11), .val (.int (1 : Int32)), .val (.long q5), .second, .val (.int (1 : Int32)), .unset] [(.ref b3)]) t → Gl t := fun t kt => k43 t (by
      show own_S p e below T40 (mkF m 129 #[.val (.int p1), .val (.long q2), .second, .val (.long q3), .second, .val (.long q4), .second, .val (.long q5), .second, .val (.long q6), .second, .val (.int (0 : Int32)), .val (.ref b3), .val (.ref b11), .val (.int (1 : Int32)), .val (.long q5), .second, .val (.int (1 : Int32)), .unset] [(.int (lcmpW q2 q2))]) _
      refine XS.ifNo X40.here hx rfl (hb hby at_129) rfl ((if0 _ _).trans (teq ((lw_eq q2 q2).mpr hc129_44)).2) ?_
      show own_S p e below T40 (mkF m 132 #[.val (.int p1), .val (.long q2), .second, .val (.long q3), .second, .val (.long q4), .second, .val (.long q5), .second, .val (.long q6), .second, .val (.int (0 : Int32)), .val (.ref b3), .val (.ref b11), .val (.int (1 : Int32)), .val (.long q5), .second, .val (.int (1 : Int32)), .unset] []) _
      refine XS.aload X40.here hx rfl (hb hby at_132) rfl rfl ?_
      exact kt)
    have f47 := (Fl7_2.keep K11 nin0)
    obtain ⟨cq46, kq46, qa46, qb46, qc46⟩ := isOf hZ eq40 f37
    obtain ⟨_, _, ⟨T46, L46, cc46, ss46⟩, -, X46, ⟨Lc46, hQ46, l46, y46, z46⟩, st46⟩ := X40.virtualBack hx (y := (⟨"com/example/dual_delivery/dualdelivery/store/MessageState", "getToken", "()J"⟩ : MethodName)) (z := (⟨"com/example/dual_delivery/dualdelivery/store/MessageState", "getToken", "()J"⟩ : MethodName)) hown (mvT hZ (hw _ (List.mem_of_getElem? (i := 34) rfl))) (mvT hZ (hw _ (List.mem_of_getElem? (i := 35) rfl))) (notFace_of_selects (args := #[]) (mvT hZ (hw _ (List.mem_of_getElem? (i := 37) rfl)))) (mvT hZ (hw _ (List.mem_of_getElem? (i := 37) rfl))) (mvT hZ (hw _ (List.mem_of_getElem? (i := 36) rfl))) (by decide) (backOf (W := 0) (rm6 l Z a0 hw [] b3 q3 T11.heap n0 Z12 f47) hZ (hw _ (List.mem_of_getElem? (i := 38) rfl)) (hw _ (List.mem_of_getElem? (i := 2) rfl)) (by decide) (by decide)) qa46 qc46 (g := (mkF m 134 #[.val (.int p1), .val (.long q2), .second, .val (.long q3), .second, .val (.long q4), .second, .val (.long q5), .second, .val (.long q6), .second, .val (.int (0 : Int32)), .val (.ref b3), .val (.ref b11), .val (.int (1 : Int32)), .val (.long q5), .second, .val (.int (1 : Int32)), .unset] [(.ref b3)])) rfl (by rw [hml]; rfl) (Steps.refl _) (argsL := []) (rest := []) (lenOf pd_3 rfl) rfl (by show 2 * 0 + _ ≤ _; exact Nat.le_of_eq rfl) (hb hby at_134) (fun _ _ => ⟨rfl, eq40, (by decide : 2 + 0 ≤ _), (by decide : 8 + 0 ≤ _)⟩)
    dsimp only [Pt.U, Pt.locs, Pt.cells, Pt.slots] at X46 l46 y46 z46 st46 hQ46
    subst l46 y46 z46
    obtain ⟨rfl, Nq46, eq46⟩ := hQ46
    have N46 := Fr.app N40 Nq46
    have k48 : ∀ t, own_S p e below T46 (mkF m 137 #[.val (.int p1), .val (.long q2), .second, .val (.long q3), .second, .val (.long q4), .second, .val (.long q5), .second, .val (.long q6), .second, .val (.int (0 : Int32)), .val (.ref b3), .val (.ref b11), .val (.int (1 : Int32)), .val (.long q5), .second, .val (.int (1 : Int32)), .unset] [(.long q3)]) t → Gl t := fun t kt => k45 t (st46.trans kt)
    have k49 : ∀ t, own_S p e below T46 (mkF m 139 #[.val (.int p1), .val (.long q2), .second, .val (.long q3), .second, .val (.long q4), .second, .val (.long q5), .second, .val (.long q6), .second, .val (.int (0 : Int32)), .val (.ref b3), .val (.ref b11), .val (.int (1 : Int32)), .val (.long q5), .second, .val (.int (1 : Int32)), .unset] [(.int (lcmpW q3 q3))]) t → Gl t := fun t kt => k48 t (by
      show own_S p e below T46 (mkF m 137 #[.val (.int p1), .val (.long q2), .second, .val (.long q3), .second, .val (.long q4), .second, .val (.long q5), .second, .val (.long q6), .second, .val (.int (0 : Int32)), .val (.ref b3), .val (.ref b11), .val (.int (1 : Int32)), .val (.long q5), .second, .val (.int (1 : Int32)), .unset] [(.long q3)]) _
      refine XS.lloadN X46.here hx rfl (hb hby at_137) rfl ?_
      show own_S p e below T46 (mkF m 138 #[.val (.int p1), .val (.long q2), .second, .val (.long q3), .second, .val (.long q4), .second, .val (.long q5), .second, .val (.long q6), .second, .val (.int (0 : Int32)), .val (.ref b3), .val (.ref b11), .val (.int (1 : Int32)), .val (.long q5), .second, .val (.int (1 : Int32)), .unset] [(.long q3), (.long q3)]) _
      refine XS.lcmp X46.here hx rfl (hb hby at_138) rfl ?_
      exact kt)
    have hc139_50 : q3 = q3 := rfl
    have k51 : ∀ t, own_S p e below T46 (mkF m 144 #[.val (.int p1), .val (.long q2), .second, .val (.long q3), .second, .val (.long q4), .second, .val (.long q5), .second, .val (.long q6), .second, .val (.int (0 : Int32)), .val (.ref b3), .val (.ref b11), .val (.int (1 : Int32)), .val (.long q5), .second, .val (.int (1 : Int32)), .unset] [(.ref b3)]) t → Gl t := fun t kt => k49 t (by
      show own_S p e below T46 (mkF m 139 #[.val (.int p1), .val (.long q2), .second, .val (.long q3), .second, .val (.long q4), .second, .val (.long q5), .second, .val (.long q6), .second, .val (.int (0 : Int32)), .val (.ref b3), .val (.ref b11), .val (.int (1 : Int32)), .val (.long q5), .second, .val (.int (1 : Int32)), .unset] [(.int (lcmpW q3 q3))]) _
      refine XS.ifNo X46.here hx rfl (hb hby at_139) rfl ((if0 _ _).trans (teq ((lw_eq q3 q3).mpr hc139_50)).2) ?_
      show own_S p e below T46 (mkF m 142 #[.val (.int p1), .val (.long q2), .second, .val (.long q3), .second, .val (.long q4), .second, .val (.long q5), .second, .val (.long q6), .second, .val (.int (0 : Int32)), .val (.ref b3), .val (.ref b11), .val (.int (1 : Int32)), .val (.long q5), .second, .val (.int (1 : Int32)), .unset] []) _
      refine XS.aload X46.here hx rfl (hb hby at_142) rfl rfl ?_
      exact kt)
    have f53 := (Fl7_3.keep K11 nin0)
    obtain ⟨cq52, kq52, qa52, qb52, qc52⟩ := isOf hZ eq46 f37
    obtain ⟨_, _, ⟨T52, L52, cc52, ss52⟩, -, X52, ⟨Lc52, hQ52, l52, y52, z52⟩, st52⟩ := X46.virtualBack hx (y := (⟨"com/example/dual_delivery/dualdelivery/store/MessageState", "getSendMillis", "()J"⟩ : MethodName)) (z := (⟨"com/example/dual_delivery/dualdelivery/store/MessageState", "getSendMillis", "()J"⟩ : MethodName)) hown (mvT hZ (hw _ (List.mem_of_getElem? (i := 39) rfl))) (mvT hZ (hw _ (List.mem_of_getElem? (i := 40) rfl))) (notFace_of_selects (args := #[]) (mvT hZ (hw _ (List.mem_of_getElem? (i := 42) rfl)))) (mvT hZ (hw _ (List.mem_of_getElem? (i := 42) rfl))) (mvT hZ (hw _ (List.mem_of_getElem? (i := 41) rfl))) (by decide) (backOf (W := 0) (rm7 l Z a0 hw [] b3 q4 T11.heap n0 Z12 f53) hZ (hw _ (List.mem_of_getElem? (i := 43) rfl)) (hw _ (List.mem_of_getElem? (i := 2) rfl)) (by decide) (by decide)) qa52 qc52 (g := (mkF m 144 #[.val (.int p1), .val (.long q2), .second, .val (.long q3), .second, .val (.long q4), .second, .val (.long q5), .second, .val (.long q6), .second, .val (.int (0 : Int32)), .val (.ref b3), .val (.ref b11), .val (.int (1 : Int32)), .val (.long q5), .second, .val (.int (1 : Int32)), .unset] [(.ref b3)])) rfl (by rw [hml]; rfl) (Steps.refl _) (argsL := []) (rest := []) (lenOf pd_3 rfl) rfl (by show 2 * 0 + _ ≤ _; exact Nat.le_of_eq rfl) (hb hby at_144) (fun _ _ => ⟨rfl, eq46, (by decide : 2 + 0 ≤ _), (by decide : 8 + 0 ≤ _)⟩)
    dsimp only [Pt.U, Pt.locs, Pt.cells, Pt.slots] at X52 l52 y52 z52 st52 hQ52
    subst l52 y52 z52
    obtain ⟨rfl, Nq52, eq52⟩ := hQ52
    have N52 := Fr.app N46 Nq52
    have k54 : ∀ t, own_S p e below T52 (mkF m 147 #[.val (.int p1), .val (.long q2), .second, .val (.long q3), .second, .val (.long q4), .second, .val (.long q5), .second, .val (.long q6), .second, .val (.int (0 : Int32)), .val (.ref b3), .val (.ref b11), .val (.int (1 : Int32)), .val (.long q5), .second, .val (.int (1 : Int32)), .unset] [(.long q4)]) t → Gl t := fun t kt => k51 t (st52.trans kt)
    have k55 : ∀ t, own_S p e below T52 (mkF m 150 #[.val (.int p1), .val (.long q2), .second, .val (.long q3), .second, .val (.long q4), .second, .val (.long q5), .second, .val (.long q6), .second, .val (.int (0 : Int32)), .val (.ref b3), .val (.ref b11), .val (.int (1 : Int32)), .val (.long q5), .second, .val (.int (1 : Int32)), .unset] [(.int (lcmpW q4 q4))]) t → Gl t := fun t kt => k54 t (by
      show own_S p e below T52 (mkF m 147 #[.val (.int p1), .val (.long q2), .second, .val (.long q3), .second, .val (.long q4), .second, .val (.long q5), .second, .val (.long q6), .second, .val (.int (0 : Int32)), .val (.ref b3), .val (.ref b11), .val (.int (1 : Int32)), .val (.long q5), .second, .val (.int (1 : Int32)), .unset] [(.long q4)]) _
      refine XS.lload X52.here hx rfl (hb hby at_147) rfl ?_
      show own_S p e below T52 (mkF m 149 #[.val (.int p1), .val (.long q2), .second, .val (.long q3), .second, .val (.long q4), .second, .val (.long q5), .second, .val (.long q6), .second, .val (.int (0 : Int32)), .val (.ref b3), .val (.ref b11), .val (.int (1 : Int32)), .val (.long q5), .second, .val (.int (1 : Int32)), .unset] [(.long q4), (.long q4)]) _
      refine XS.lcmp X52.here hx rfl (hb hby at_149) rfl ?_
      exact kt)
    have hc150_56 : q4 = q4 := rfl
    have k57 : ∀ t, own_S p e below T52 (mkF m 175 #[.val (.int p1), .val (.long q2), .second, .val (.long q3), .second, .val (.long q4), .second, .val (.long q5), .second, .val (.long q6), .second, .val (.int (0 : Int32)), .val (.ref b3), .val (.ref b11), .val (.int (1 : Int32)), .val (.long q5), .second, .val (.int (1 : Int32)), .val (.int (1 : Int32))] [(.int (1 : Int32))]) t → Gl t := fun t kt => k55 t (by
      show own_S p e below T52 (mkF m 150 #[.val (.int p1), .val (.long q2), .second, .val (.long q3), .second, .val (.long q4), .second, .val (.long q5), .second, .val (.long q6), .second, .val (.int (0 : Int32)), .val (.ref b3), .val (.ref b11), .val (.int (1 : Int32)), .val (.long q5), .second, .val (.int (1 : Int32)), .unset] [(.int (lcmpW q4 q4))]) _
      refine XS.ifNo X52.here hx rfl (hb hby at_150) rfl ((if0 _ _).trans (teq ((lw_eq q4 q4).mpr hc150_56)).2) ?_
      show own_S p e below T52 (mkF m 153 #[.val (.int p1), .val (.long q2), .second, .val (.long q3), .second, .val (.long q4), .second, .val (.long q5), .second, .val (.long q6), .second, .val (.int (0 : Int32)), .val (.ref b3), .val (.ref b11), .val (.int (1 : Int32)), .val (.long q5), .second, .val (.int (1 : Int32)), .unset] []) _
      refine XS.iconst X52.here hx rfl (hb hby at_153) ?_
      show own_S p e below T52 (mkF m 154 #[.val (.int p1), .val (.long q2), .second, .val (.long q3), .second, .val (.long q4), .second, .val (.long q5), .second, .val (.long q6), .second, .val (.int (0 : Int32)), .val (.ref b3), .val (.ref b11), .val (.int (1 : Int32)), .val (.long q5), .second, .val (.int (1 : Int32)), .unset] [(.int (1 : Int32))]) _
      refine XS.goto X52.here hx rfl (pc0 := 154) (pc' := 158) rfl (hb hby at_154) (by decide) (by decide) ?_
      show own_S p e below T52 (mkF m 158 #[.val (.int p1), .val (.long q2), .second, .val (.long q3), .second, .val (.long q4), .second, .val (.long q5), .second, .val (.long q6), .second, .val (.int (0 : Int32)), .val (.ref b3), .val (.ref b11), .val (.int (1 : Int32)), .val (.long q5), .second, .val (.int (1 : Int32)), .unset] [(.int (1 : Int32))]) _
      refine XS.istore X52.here hx rfl (hb hby at_158) rfl (l' := #[.val (.int p1), .val (.long q2), .second, .val (.long q3), .second, .val (.long q4), .second, .val (.long q5), .second, .val (.long q6), .second, .val (.int (0 : Int32)), .val (.ref b3), .val (.ref b11), .val (.int (1 : Int32)), .val (.long q5), .second, .val (.int (1 : Int32)), .val (.int (1 : Int32))]) rfl ?_
      show own_S p e below T52 (mkF m 160 #[.val (.int p1), .val (.long q2), .second, .val (.long q3), .second, .val (.long q4), .second, .val (.long q5), .second, .val (.long q6), .second, .val (.int (0 : Int32)), .val (.ref b3), .val (.ref b11), .val (.int (1 : Int32)), .val (.long q5), .second, .val (.int (1 : Int32)), .val (.int (1 : Int32))] []) _
      refine XS.iload X52.here hx rfl (hb hby at_160) rfl ?_
      show own_S p e below T52 (mkF m 162 #[.val (.int p1), .val (.long q2), .second, .val (.long q3), .second, .val (.long q4), .second, .val (.long q5), .second, .val (.long q6), .second, .val (.int (0 : Int32)), .val (.ref b3), .val (.ref b11), .val (.int (1 : Int32)), .val (.long q5), .second, .val (.int (1 : Int32)), .val (.int (1 : Int32))] [(.int (1 : Int32))]) _
      refine XS.ifNo X52.here hx rfl (hb hby at_162) rfl ((if0 _ _).trans (feq (by decide : ¬ ((1 : Int32) = (0 : Int32)))).1) ?_
      show own_S p e below T52 (mkF m 165 #[.val (.int p1), .val (.long q2), .second, .val (.long q3), .second, .val (.long q4), .second, .val (.long q5), .second, .val (.long q6), .second, .val (.int (0 : Int32)), .val (.ref b3), .val (.ref b11), .val (.int (1 : Int32)), .val (.long q5), .second, .val (.int (1 : Int32)), .val (.int (1 : Int32))] []) _
      refine XS.iload X52.here hx rfl (hb hby at_165) rfl ?_
      show own_S p e below T52 (mkF m 167 #[.val (.int p1), .val (.long q2), .second, .val (.long q3), .second, .val (.long q4), .second, .val (.long q5), .second, .val (.long q6), .second, .val (.int (0 : Int32)), .val (.ref b3), .val (.ref b11), .val (.int (1 : Int32)), .val (.long q5), .second, .val (.int (1 : Int32)), .val (.int (1 : Int32))] [(.int (1 : Int32))]) _
      refine XS.ifNo X52.here hx rfl (hb hby at_167) rfl ((if0 _ _).trans (feq (by decide : ¬ ((1 : Int32) = (0 : Int32)))).1) ?_
      show own_S p e below T52 (mkF m 170 #[.val (.int p1), .val (.long q2), .second, .val (.long q3), .second, .val (.long q4), .second, .val (.long q5), .second, .val (.long q6), .second, .val (.int (0 : Int32)), .val (.ref b3), .val (.ref b11), .val (.int (1 : Int32)), .val (.long q5), .second, .val (.int (1 : Int32)), .val (.int (1 : Int32))] []) _
      refine XS.iconst X52.here hx rfl (hb hby at_170) ?_
      show own_S p e below T52 (mkF m 171 #[.val (.int p1), .val (.long q2), .second, .val (.long q3), .second, .val (.long q4), .second, .val (.long q5), .second, .val (.long q6), .second, .val (.int (0 : Int32)), .val (.ref b3), .val (.ref b11), .val (.int (1 : Int32)), .val (.long q5), .second, .val (.int (1 : Int32)), .val (.int (1 : Int32))] [(.int (1 : Int32))]) _
      refine XS.goto X52.here hx rfl (pc0 := 171) (pc' := 175) rfl (hb hby at_171) (by decide) (by decide) ?_
      exact kt)
    obtain ⟨fs, hr, hrun, hended, hW, hsame⟩ := X52.leave (v := some (.int (1 : Int32))) (fun h => by rw [Bd.returns] at h; cases h)
    refine ⟨_, _, hGl _ (k57 _ (retN X52 hx (t := .boolean) Bd.returns (by simp) (hb hby at_175) hr)), hrun, hended, _, _, rfl, ?_, ⟨_, rfl⟩, hW, hsame.mono (by decide) (by decide)⟩
    show Q0 Z p1 q2 q3 q4 q5 q6 h0 n0 _ T52.heap _
    rw [eq52]
    exact ⟨rfl, N52⟩
  · have k58 : ∀ t, own_S p e below s₁ (mkF m 15 #[.val (.int p1), .val (.long q2), .second, .val (.long q3), .second, .val (.long q4), .second, .val (.long q5), .second, .val (.long q6), .second, .val (.int p1), .unset, .unset, .unset, .unset, .unset, .unset, .unset] []) t → Gl t := fun t kt => k1 t (by
      show own_S p e below s₁ (mkF m 5 #[.val (.int p1), .val (.long q2), .second, .val (.long q3), .second, .val (.long q4), .second, .val (.long q5), .second, .val (.long q6), .second, .unset, .unset, .unset, .unset, .unset, .unset, .unset, .unset] [(.int (lcmpW (q3 &&& (1 : Int64)) (0 : Int64)))]) _
      refine XS.ifYes X0.here hx rfl (pc0 := 5) (pc' := 12) rfl (hb hby at_5) rfl ((if0 _ _).trans (feq (fun q => hc5 ((lw_eq (q3 &&& (1 : Int64)) (0 : Int64)).mp q))).2) (by decide) (by decide) ?_
      show own_S p e below s₁ (mkF m 12 #[.val (.int p1), .val (.long q2), .second, .val (.long q3), .second, .val (.long q4), .second, .val (.long q5), .second, .val (.long q6), .second, .unset, .unset, .unset, .unset, .unset, .unset, .unset, .unset] []) _
      refine XS.iloadN X0.here hx rfl (hb hby at_12) rfl ?_
      show own_S p e below s₁ (mkF m 13 #[.val (.int p1), .val (.long q2), .second, .val (.long q3), .second, .val (.long q4), .second, .val (.long q5), .second, .val (.long q6), .second, .unset, .unset, .unset, .unset, .unset, .unset, .unset, .unset] [(.int p1)]) _
      refine XS.istore X0.here hx rfl (hb hby at_13) rfl (l' := #[.val (.int p1), .val (.long q2), .second, .val (.long q3), .second, .val (.long q4), .second, .val (.long q5), .second, .val (.long q6), .second, .val (.int p1), .unset, .unset, .unset, .unset, .unset, .unset, .unset]) rfl ?_
      exact kt)
    obtain ⟨T59, h59, X59, e59, E59, A59, D59, -, st59⟩ := newO X0 hx hZ hown (hw _ (List.mem_of_getElem? (i := 0) rfl)) (hw _ (List.mem_of_getElem? (i := 1) rfl)) (hw _ (List.mem_of_getElem? (i := 2) rfl)) e0 (g := (mkF m 15 #[.val (.int p1), .val (.long q2), .second, .val (.long q3), .second, .val (.long q4), .second, .val (.long q5), .second, .val (.long q6), .second, .val (.int p1), .unset, .unset, .unset, .unset, .unset, .unset, .unset] [])) rfl (hb hby at_15) (by decide) (by decide)
    obtain ⟨b59, g59⟩ : ∃ z, z = h0.size := ⟨_, rfl⟩
    rw [← g59] at A59 D59 st59
    have g_b59 : n0 ≤ b59 := Nat.le_trans Z0 (Nat.le_of_eq g59.symm)
    have Z60 : n0 ≤ h59.size := Nat.le_trans Z0 E59.1
    have F59_10 : Fld Z h59 b59 "com/example/dual_delivery/dualdelivery/store/MessageState" "dequeueCount" "I" (.int (0 : Int32)) := D59 (Or.inr (hw _ (List.mem_of_getElem? (i := 10) rfl))) (ty := .int) (by decide)
    have F59_12 : Fld Z h59 b59 "com/example/dual_delivery/dualdelivery/store/MessageState" "firstDequeueMillis" "J" (.long (0 : Int64)) := D59 (Or.inr (hw _ (List.mem_of_getElem? (i := 12) rfl))) (ty := .long) (by decide)
    have F59_14 : Fld Z h59 b59 "com/example/dual_delivery/dualdelivery/store/MessageState" "token" "J" (.long (0 : Int64)) := D59 (Or.inr (hw _ (List.mem_of_getElem? (i := 14) rfl))) (ty := .long) (by decide)
    have F59_16 : Fld Z h59 b59 "com/example/dual_delivery/dualdelivery/store/MessageState" "sendMillis" "J" (.long (0 : Int64)) := D59 (Or.inr (hw _ (List.mem_of_getElem? (i := 16) rfl))) (ty := .long) (by decide)
    have k61 : ∀ t, own_S p e below T59 (mkF m 18 #[.val (.int p1), .val (.long q2), .second, .val (.long q3), .second, .val (.long q4), .second, .val (.long q5), .second, .val (.long q6), .second, .val (.int p1), .unset, .unset, .unset, .unset, .unset, .unset, .unset] [(.ref b59)]) t → Gl t := fun t kt => k58 t (st59 _ kt)
    have k62 : ∀ t, own_S p e below T59 (mkF m 25 #[.val (.int p1), .val (.long q2), .second, .val (.long q3), .second, .val (.long q4), .second, .val (.long q5), .second, .val (.long q6), .second, .val (.int p1), .unset, .unset, .unset, .unset, .unset, .unset, .unset] [(.long q4), (.long q3), (.long q2), (.int p1), (.ref b59), (.ref b59)]) t → Gl t := fun t kt => k61 t (by
      show own_S p e below T59 (mkF m 18 #[.val (.int p1), .val (.long q2), .second, .val (.long q3), .second, .val (.long q4), .second, .val (.long q5), .second, .val (.long q6), .second, .val (.int p1), .unset, .unset, .unset, .unset, .unset, .unset, .unset] [(.ref b59)]) _
      refine XS.dup X59.here hx rfl (hb hby at_18) rfl rfl ?_
      show own_S p e below T59 (mkF m 19 #[.val (.int p1), .val (.long q2), .second, .val (.long q3), .second, .val (.long q4), .second, .val (.long q5), .second, .val (.long q6), .second, .val (.int p1), .unset, .unset, .unset, .unset, .unset, .unset, .unset] [(.ref b59), (.ref b59)]) _
      refine XS.iload X59.here hx rfl (hb hby at_19) rfl ?_
      show own_S p e below T59 (mkF m 21 #[.val (.int p1), .val (.long q2), .second, .val (.long q3), .second, .val (.long q4), .second, .val (.long q5), .second, .val (.long q6), .second, .val (.int p1), .unset, .unset, .unset, .unset, .unset, .unset, .unset] [(.int p1), (.ref b59), (.ref b59)]) _
      refine XS.lloadN X59.here hx rfl (hb hby at_21) rfl ?_
      show own_S p e below T59 (mkF m 22 #[.val (.int p1), .val (.long q2), .second, .val (.long q3), .second, .val (.long q4), .second, .val (.long q5), .second, .val (.long q6), .second, .val (.int p1), .unset, .unset, .unset, .unset, .unset, .unset, .unset] [(.long q2), (.int p1), (.ref b59), (.ref b59)]) _
      refine XS.lloadN X59.here hx rfl (hb hby at_22) rfl ?_
      show own_S p e below T59 (mkF m 23 #[.val (.int p1), .val (.long q2), .second, .val (.long q3), .second, .val (.long q4), .second, .val (.long q5), .second, .val (.long q6), .second, .val (.int p1), .unset, .unset, .unset, .unset, .unset, .unset, .unset] [(.long q3), (.long q2), (.int p1), (.ref b59), (.ref b59)]) _
      refine XS.lload X59.here hx rfl (hb hby at_23) rfl ?_
      exact kt)
    obtain ⟨_, _, ⟨T63, L63, cc63, ss63⟩, -, X63, ⟨Lc63, hQ63, l63, y63, z63⟩, st63⟩ := X59.specialBack hx (y := (⟨"com/example/dual_delivery/dualdelivery/store/MessageState", "<init>", "(IJJJ)V"⟩ : MethodName)) rfl hown (mvT hZ (hw _ (List.mem_of_getElem? (i := 3) rfl))) (mvT hZ (hw _ (List.mem_of_getElem? (i := 4) rfl))) (mvT hZ (hw _ (List.mem_of_getElem? (i := 5) rfl))) (by decide) (backOf (W := 1) (rm1 l Z a0 hw [] b59 p1 q2 q3 q4  h59 n0 Z60 F59_10 F59_12 F59_14 F59_16 A59 g_b59) hZ (hw _ (List.mem_of_getElem? (i := 5) rfl)) (hw _ (List.mem_of_getElem? (i := 2) rfl)) (by decide) (by decide)) (g := (mkF m 25 #[.val (.int p1), .val (.long q2), .second, .val (.long q3), .second, .val (.long q4), .second, .val (.long q5), .second, .val (.long q6), .second, .val (.int p1), .unset, .unset, .unset, .unset, .unset, .unset, .unset] [(.long q4), (.long q3), (.long q2), (.int p1), (.ref b59), (.ref b59)])) rfl (by rw [hml]; rfl) (Steps.refl _) (a := b59) (argsL := [(.int p1), (.long q2), (.long q3), (.long q4)]) (rest := [(.ref b59)]) (lenOf pd_0 rfl) rfl (by show 2 * 0 + _ ≤ _; exact Nat.le_of_eq rfl) (hb hby at_25) (fun _ _ => ⟨rfl, e59, (by decide : 1 + 0 ≤ _), (by decide : 4 + 0 ≤ _)⟩)
    dsimp only [Pt.U, Pt.locs, Pt.cells, Pt.slots] at X63 l63 y63 z63 st63 hQ63
    subst l63 y63 z63
    obtain ⟨rfl, Nq63, K63, Ex63, Fl63_0, Fl63_1, Fl63_2, Fl63_3⟩ := hQ63
    have N63 := Fr.app N0 Nq63
    have Z64 : n0 ≤ T63.heap.size := Nat.le_trans Z60 K63.1
    have k65 : ∀ t, own_S p e below T63 (mkF m 28 #[.val (.int p1), .val (.long q2), .second, .val (.long q3), .second, .val (.long q4), .second, .val (.long q5), .second, .val (.long q6), .second, .val (.int p1), .unset, .unset, .unset, .unset, .unset, .unset, .unset] [(.ref b59)]) t → Gl t := fun t kt => k62 t (st63.trans kt)
    have k66 : ∀ t, own_S p e below T63 (mkF m 36 #[.val (.int p1), .val (.long q2), .second, .val (.long q3), .second, .val (.long q4), .second, .val (.long q5), .second, .val (.long q6), .second, .val (.int p1), .val (.ref b59), .unset, .unset, .unset, .unset, .unset, .unset] [(.long q6), (.long q5), (.ref b59)]) t → Gl t := fun t kt => k65 t (by
      show own_S p e below T63 (mkF m 28 #[.val (.int p1), .val (.long q2), .second, .val (.long q3), .second, .val (.long q4), .second, .val (.long q5), .second, .val (.long q6), .second, .val (.int p1), .unset, .unset, .unset, .unset, .unset, .unset, .unset] [(.ref b59)]) _
      refine XS.astore X63.here hx rfl (hb hby at_28) rfl rfl (l' := #[.val (.int p1), .val (.long q2), .second, .val (.long q3), .second, .val (.long q4), .second, .val (.long q5), .second, .val (.long q6), .second, .val (.int p1), .val (.ref b59), .unset, .unset, .unset, .unset, .unset, .unset]) rfl ?_
      show own_S p e below T63 (mkF m 30 #[.val (.int p1), .val (.long q2), .second, .val (.long q3), .second, .val (.long q4), .second, .val (.long q5), .second, .val (.long q6), .second, .val (.int p1), .val (.ref b59), .unset, .unset, .unset, .unset, .unset, .unset] []) _
      refine XS.aload X63.here hx rfl (hb hby at_30) rfl rfl ?_
      show own_S p e below T63 (mkF m 32 #[.val (.int p1), .val (.long q2), .second, .val (.long q3), .second, .val (.long q4), .second, .val (.long q5), .second, .val (.long q6), .second, .val (.int p1), .val (.ref b59), .unset, .unset, .unset, .unset, .unset, .unset] [(.ref b59)]) _
      refine XS.lload X63.here hx rfl (hb hby at_32) rfl ?_
      show own_S p e below T63 (mkF m 34 #[.val (.int p1), .val (.long q2), .second, .val (.long q3), .second, .val (.long q4), .second, .val (.long q5), .second, .val (.long q6), .second, .val (.int p1), .val (.ref b59), .unset, .unset, .unset, .unset, .unset, .unset] [(.long q5), (.ref b59)]) _
      refine XS.lload X63.here hx rfl (hb hby at_34) rfl ?_
      exact kt)
    obtain ⟨cq67, kq67, qa67, qb67, qc67⟩ := isOf hZ rfl Ex63
    obtain ⟨_, _, ⟨T67, L67, cc67, ss67⟩, -, X67, ⟨Lc67, hQ67, l67, y67, z67⟩, st67⟩ := X63.virtualBack hx (y := (⟨"com/example/dual_delivery/dualdelivery/store/MessageState", "receivedAt", "(JJ)Lcom/example/dual_delivery/dualdelivery/store/MessageState;"⟩ : MethodName)) (z := (⟨"com/example/dual_delivery/dualdelivery/store/MessageState", "receivedAt", "(JJ)Lcom/example/dual_delivery/dualdelivery/store/MessageState;"⟩ : MethodName)) hown (mvT hZ (hw _ (List.mem_of_getElem? (i := 17) rfl))) (mvT hZ (hw _ (List.mem_of_getElem? (i := 18) rfl))) (notFace_of_selects (args := #[]) (mvT hZ (hw _ (List.mem_of_getElem? (i := 20) rfl)))) (mvT hZ (hw _ (List.mem_of_getElem? (i := 20) rfl))) (mvT hZ (hw _ (List.mem_of_getElem? (i := 19) rfl))) (by decide) (backOf (W := 0) (rm3 l Z a0 hw [] b59 q5 q6 p1 q2 q3 q4 T63.heap n0 Z64 Fl63_0 Fl63_1 Fl63_2 Fl63_3) hZ (hw _ (List.mem_of_getElem? (i := 21) rfl)) (hw _ (List.mem_of_getElem? (i := 2) rfl)) (by decide) (by decide)) qa67 qc67 (g := (mkF m 36 #[.val (.int p1), .val (.long q2), .second, .val (.long q3), .second, .val (.long q4), .second, .val (.long q5), .second, .val (.long q6), .second, .val (.int p1), .val (.ref b59), .unset, .unset, .unset, .unset, .unset, .unset] [(.long q6), (.long q5), (.ref b59)])) rfl (by rw [hml]; rfl) (Steps.refl _) (argsL := [(.long q5), (.long q6)]) (rest := []) (lenOf pd_1 rfl) rfl (by show 2 * 0 + _ ≤ _; exact Nat.le_of_eq rfl) (hb hby at_36) (fun _ _ => ⟨rfl, rfl, (by decide : 1 + 1 ≤ _), (by decide : 4 + 4 ≤ _)⟩)
    dsimp only [Pt.U, Pt.locs, Pt.cells, Pt.slots] at X67 l67 y67 z67 st67 hQ67
    subst l67 y67 z67
    obtain ⟨b67, rfl, Nq67, g_b67, K67, Ex67, Fl67_0, Fl67_1, Fl67_2, Fl67_3⟩ := hQ67
    have N67 := Fr.app N63 Nq67
    have Z68 : n0 ≤ T67.heap.size := Nat.le_trans Z64 K67.1
    have k69 : ∀ t, own_S p e below T67 (mkF m 39 #[.val (.int p1), .val (.long q2), .second, .val (.long q3), .second, .val (.long q4), .second, .val (.long q5), .second, .val (.long q6), .second, .val (.int p1), .val (.ref b59), .unset, .unset, .unset, .unset, .unset, .unset] [(.ref b67)]) t → Gl t := fun t kt => k66 t (st67.trans kt)
    have k70 : ∀ t, own_S p e below T67 (mkF m 49 #[.val (.int p1), .val (.long q2), .second, .val (.long q3), .second, .val (.long q4), .second, .val (.long q5), .second, .val (.long q6), .second, .val (.int p1), .val (.ref b59), .val (.ref b67), .val (.int (p1 + (1 : Int32))), .unset, .unset, .unset, .unset] [(.int p1)]) t → Gl t := fun t kt => k69 t (by
      show own_S p e below T67 (mkF m 39 #[.val (.int p1), .val (.long q2), .second, .val (.long q3), .second, .val (.long q4), .second, .val (.long q5), .second, .val (.long q6), .second, .val (.int p1), .val (.ref b59), .unset, .unset, .unset, .unset, .unset, .unset] [(.ref b67)]) _
      refine XS.astore X67.here hx rfl (hb hby at_39) rfl rfl (l' := #[.val (.int p1), .val (.long q2), .second, .val (.long q3), .second, .val (.long q4), .second, .val (.long q5), .second, .val (.long q6), .second, .val (.int p1), .val (.ref b59), .val (.ref b67), .unset, .unset, .unset, .unset, .unset]) rfl ?_
      show own_S p e below T67 (mkF m 41 #[.val (.int p1), .val (.long q2), .second, .val (.long q3), .second, .val (.long q4), .second, .val (.long q5), .second, .val (.long q6), .second, .val (.int p1), .val (.ref b59), .val (.ref b67), .unset, .unset, .unset, .unset, .unset] []) _
      refine XS.iload X67.here hx rfl (hb hby at_41) rfl ?_
      show own_S p e below T67 (mkF m 43 #[.val (.int p1), .val (.long q2), .second, .val (.long q3), .second, .val (.long q4), .second, .val (.long q5), .second, .val (.long q6), .second, .val (.int p1), .val (.ref b59), .val (.ref b67), .unset, .unset, .unset, .unset, .unset] [(.int p1)]) _
      refine XS.iconst X67.here hx rfl (hb hby at_43) ?_
      show own_S p e below T67 (mkF m 44 #[.val (.int p1), .val (.long q2), .second, .val (.long q3), .second, .val (.long q4), .second, .val (.long q5), .second, .val (.long q6), .second, .val (.int p1), .val (.ref b59), .val (.ref b67), .unset, .unset, .unset, .unset, .unset] [(.int (1 : Int32)), (.int p1)]) _
      refine XS.iadd X67.here hx rfl (hb hby at_44) rfl ?_
      show own_S p e below T67 (mkF m 45 #[.val (.int p1), .val (.long q2), .second, .val (.long q3), .second, .val (.long q4), .second, .val (.long q5), .second, .val (.long q6), .second, .val (.int p1), .val (.ref b59), .val (.ref b67), .unset, .unset, .unset, .unset, .unset] [(.int (p1 + (1 : Int32)))]) _
      refine XS.istore X67.here hx rfl (hb hby at_45) rfl (l' := #[.val (.int p1), .val (.long q2), .second, .val (.long q3), .second, .val (.long q4), .second, .val (.long q5), .second, .val (.long q6), .second, .val (.int p1), .val (.ref b59), .val (.ref b67), .val (.int (p1 + (1 : Int32))), .unset, .unset, .unset, .unset]) rfl ?_
      show own_S p e below T67 (mkF m 47 #[.val (.int p1), .val (.long q2), .second, .val (.long q3), .second, .val (.long q4), .second, .val (.long q5), .second, .val (.long q6), .second, .val (.int p1), .val (.ref b59), .val (.ref b67), .val (.int (p1 + (1 : Int32))), .unset, .unset, .unset, .unset] []) _
      refine XS.iload X67.here hx rfl (hb hby at_47) rfl ?_
      exact kt)
    by_cases hc49 : p1 = (0 : Int32)
    · have k71 : ∀ t, own_S p e below T67 (mkF m 64 #[.val (.int p1), .val (.long q2), .second, .val (.long q3), .second, .val (.long q4), .second, .val (.long q5), .second, .val (.long q6), .second, .val (.int p1), .val (.ref b59), .val (.ref b67), .val (.int (p1 + (1 : Int32))), .val (.long q5), .second, .unset, .unset] [(.ref b67)]) t → Gl t := fun t kt => k70 t (by
        show own_S p e below T67 (mkF m 49 #[.val (.int p1), .val (.long q2), .second, .val (.long q3), .second, .val (.long q4), .second, .val (.long q5), .second, .val (.long q6), .second, .val (.int p1), .val (.ref b59), .val (.ref b67), .val (.int (p1 + (1 : Int32))), .unset, .unset, .unset, .unset] [(.int p1)]) _
        refine XS.ifNo X67.here hx rfl (hb hby at_49) rfl ((if0 _ _).trans (teq hc49).2) ?_
        show own_S p e below T67 (mkF m 52 #[.val (.int p1), .val (.long q2), .second, .val (.long q3), .second, .val (.long q4), .second, .val (.long q5), .second, .val (.long q6), .second, .val (.int p1), .val (.ref b59), .val (.ref b67), .val (.int (p1 + (1 : Int32))), .unset, .unset, .unset, .unset] []) _
        refine XS.lload X67.here hx rfl (hb hby at_52) rfl ?_
        show own_S p e below T67 (mkF m 54 #[.val (.int p1), .val (.long q2), .second, .val (.long q3), .second, .val (.long q4), .second, .val (.long q5), .second, .val (.long q6), .second, .val (.int p1), .val (.ref b59), .val (.ref b67), .val (.int (p1 + (1 : Int32))), .unset, .unset, .unset, .unset] [(.long q5)]) _
        refine XS.lstore X67.here hx rfl (hb hby at_54) rfl (l' := #[.val (.int p1), .val (.long q2), .second, .val (.long q3), .second, .val (.long q4), .second, .val (.long q5), .second, .val (.long q6), .second, .val (.int p1), .val (.ref b59), .val (.ref b67), .val (.int (p1 + (1 : Int32))), .val (.long q5), .second, .unset, .unset]) rfl ?_
        show own_S p e below T67 (mkF m 56 #[.val (.int p1), .val (.long q2), .second, .val (.long q3), .second, .val (.long q4), .second, .val (.long q5), .second, .val (.long q6), .second, .val (.int p1), .val (.ref b59), .val (.ref b67), .val (.int (p1 + (1 : Int32))), .val (.long q5), .second, .unset, .unset] []) _
        refine XS.goto X67.here hx rfl (pc0 := 56) (pc' := 62) rfl (hb hby at_56) (by decide) (by decide) ?_
        show own_S p e below T67 (mkF m 62 #[.val (.int p1), .val (.long q2), .second, .val (.long q3), .second, .val (.long q4), .second, .val (.long q5), .second, .val (.long q6), .second, .val (.int p1), .val (.ref b59), .val (.ref b67), .val (.int (p1 + (1 : Int32))), .val (.long q5), .second, .unset, .unset] []) _
        refine XS.aload X67.here hx rfl (hb hby at_62) rfl rfl ?_
        exact kt)
      obtain ⟨cq72, kq72, qa72, qb72, qc72⟩ := isOf hZ rfl Ex67
      obtain ⟨_, _, ⟨T72, L72, cc72, ss72⟩, -, X72, ⟨Lc72, hQ72, l72, y72, z72⟩, st72⟩ := X67.virtualBack hx (y := (⟨"com/example/dual_delivery/dualdelivery/store/MessageState", "getDequeueCount", "()I"⟩ : MethodName)) (z := (⟨"com/example/dual_delivery/dualdelivery/store/MessageState", "getDequeueCount", "()I"⟩ : MethodName)) hown (mvT hZ (hw _ (List.mem_of_getElem? (i := 24) rfl))) (mvT hZ (hw _ (List.mem_of_getElem? (i := 25) rfl))) (notFace_of_selects (args := #[]) (mvT hZ (hw _ (List.mem_of_getElem? (i := 27) rfl)))) (mvT hZ (hw _ (List.mem_of_getElem? (i := 27) rfl))) (mvT hZ (hw _ (List.mem_of_getElem? (i := 26) rfl))) (by decide) (backOf (W := 0) (rm4 l Z a0 hw [] b67 (p1 + (1 : Int32)) T67.heap n0 Z68 Fl67_0) hZ (hw _ (List.mem_of_getElem? (i := 28) rfl)) (hw _ (List.mem_of_getElem? (i := 2) rfl)) (by decide) (by decide)) qa72 qc72 (g := (mkF m 64 #[.val (.int p1), .val (.long q2), .second, .val (.long q3), .second, .val (.long q4), .second, .val (.long q5), .second, .val (.long q6), .second, .val (.int p1), .val (.ref b59), .val (.ref b67), .val (.int (p1 + (1 : Int32))), .val (.long q5), .second, .unset, .unset] [(.ref b67)])) rfl (by rw [hml]; rfl) (Steps.refl _) (argsL := []) (rest := []) (lenOf pd_2 rfl) rfl (by show 2 * 0 + _ ≤ _; exact Nat.le_of_eq rfl) (hb hby at_64) (fun _ _ => ⟨rfl, rfl, (by decide : 2 + 0 ≤ _), (by decide : 8 + 0 ≤ _)⟩)
      dsimp only [Pt.U, Pt.locs, Pt.cells, Pt.slots] at X72 l72 y72 z72 st72 hQ72
      subst l72 y72 z72
      obtain ⟨rfl, Nq72, eq72⟩ := hQ72
      have N72 := Fr.app N67 Nq72
      have k73 : ∀ t, own_S p e below T72 (mkF m 67 #[.val (.int p1), .val (.long q2), .second, .val (.long q3), .second, .val (.long q4), .second, .val (.long q5), .second, .val (.long q6), .second, .val (.int p1), .val (.ref b59), .val (.ref b67), .val (.int (p1 + (1 : Int32))), .val (.long q5), .second, .unset, .unset] [(.int (p1 + (1 : Int32)))]) t → Gl t := fun t kt => k71 t (st72.trans kt)
      have k74 : ∀ t, own_S p e below T72 (mkF m 69 #[.val (.int p1), .val (.long q2), .second, .val (.long q3), .second, .val (.long q4), .second, .val (.long q5), .second, .val (.long q6), .second, .val (.int p1), .val (.ref b59), .val (.ref b67), .val (.int (p1 + (1 : Int32))), .val (.long q5), .second, .unset, .unset] [(.int (p1 + (1 : Int32))), (.int (p1 + (1 : Int32)))]) t → Gl t := fun t kt => k73 t (by
        show own_S p e below T72 (mkF m 67 #[.val (.int p1), .val (.long q2), .second, .val (.long q3), .second, .val (.long q4), .second, .val (.long q5), .second, .val (.long q6), .second, .val (.int p1), .val (.ref b59), .val (.ref b67), .val (.int (p1 + (1 : Int32))), .val (.long q5), .second, .unset, .unset] [(.int (p1 + (1 : Int32)))]) _
        refine XS.iload X72.here hx rfl (hb hby at_67) rfl ?_
        exact kt)
      have hc69_75 : (p1 + (1 : Int32)) = (p1 + (1 : Int32)) := rfl
      have k76 : ∀ t, own_S p e below T72 (mkF m 74 #[.val (.int p1), .val (.long q2), .second, .val (.long q3), .second, .val (.long q4), .second, .val (.long q5), .second, .val (.long q6), .second, .val (.int p1), .val (.ref b59), .val (.ref b67), .val (.int (p1 + (1 : Int32))), .val (.long q5), .second, .unset, .unset] [(.ref b67)]) t → Gl t := fun t kt => k74 t (by
        show own_S p e below T72 (mkF m 69 #[.val (.int p1), .val (.long q2), .second, .val (.long q3), .second, .val (.long q4), .second, .val (.long q5), .second, .val (.long q6), .second, .val (.int p1), .val (.ref b59), .val (.ref b67), .val (.int (p1 + (1 : Int32))), .val (.long q5), .second, .unset, .unset] [(.int (p1 + (1 : Int32))), (.int (p1 + (1 : Int32)))]) _
        refine XS.icmpNo X72.here hx rfl (hb hby at_69) rfl (teq hc69_75).2 ?_
        show own_S p e below T72 (mkF m 72 #[.val (.int p1), .val (.long q2), .second, .val (.long q3), .second, .val (.long q4), .second, .val (.long q5), .second, .val (.long q6), .second, .val (.int p1), .val (.ref b59), .val (.ref b67), .val (.int (p1 + (1 : Int32))), .val (.long q5), .second, .unset, .unset] []) _
        refine XS.aload X72.here hx rfl (hb hby at_72) rfl rfl ?_
        exact kt)
      obtain ⟨cq77, kq77, qa77, qb77, qc77⟩ := isOf hZ eq72 Ex67
      obtain ⟨_, _, ⟨T77, L77, cc77, ss77⟩, -, X77, ⟨Lc77, hQ77, l77, y77, z77⟩, st77⟩ := X72.virtualBack hx (y := (⟨"com/example/dual_delivery/dualdelivery/store/MessageState", "getFirstDequeueMillis", "()J"⟩ : MethodName)) (z := (⟨"com/example/dual_delivery/dualdelivery/store/MessageState", "getFirstDequeueMillis", "()J"⟩ : MethodName)) hown (mvT hZ (hw _ (List.mem_of_getElem? (i := 29) rfl))) (mvT hZ (hw _ (List.mem_of_getElem? (i := 30) rfl))) (notFace_of_selects (args := #[]) (mvT hZ (hw _ (List.mem_of_getElem? (i := 32) rfl)))) (mvT hZ (hw _ (List.mem_of_getElem? (i := 32) rfl))) (mvT hZ (hw _ (List.mem_of_getElem? (i := 31) rfl))) (by decide) (backOf (W := 0) (rm5 l Z a0 hw [] b67 (if p1 = (0 : Int32) then q5 else q2) T67.heap n0 Z68 Fl67_1) hZ (hw _ (List.mem_of_getElem? (i := 33) rfl)) (hw _ (List.mem_of_getElem? (i := 2) rfl)) (by decide) (by decide)) qa77 qc77 (g := (mkF m 74 #[.val (.int p1), .val (.long q2), .second, .val (.long q3), .second, .val (.long q4), .second, .val (.long q5), .second, .val (.long q6), .second, .val (.int p1), .val (.ref b59), .val (.ref b67), .val (.int (p1 + (1 : Int32))), .val (.long q5), .second, .unset, .unset] [(.ref b67)])) rfl (by rw [hml]; rfl) (Steps.refl _) (argsL := []) (rest := []) (lenOf pd_3 rfl) rfl (by show 2 * 0 + _ ≤ _; exact Nat.le_of_eq rfl) (hb hby at_74) (fun _ _ => ⟨rfl, eq72, (by decide : 2 + 0 ≤ _), (by decide : 8 + 0 ≤ _)⟩)
      dsimp only [Pt.U, Pt.locs, Pt.cells, Pt.slots] at X77 l77 y77 z77 st77 hQ77
      subst l77 y77 z77
      obtain ⟨rfl, Nq77, eq77⟩ := hQ77
      have N77 := Fr.app N72 Nq77
      have k78 : ∀ t, own_S p e below T77 (mkF m 77 #[.val (.int p1), .val (.long q2), .second, .val (.long q3), .second, .val (.long q4), .second, .val (.long q5), .second, .val (.long q6), .second, .val (.int p1), .val (.ref b59), .val (.ref b67), .val (.int (p1 + (1 : Int32))), .val (.long q5), .second, .unset, .unset] [(.long (if p1 = (0 : Int32) then q5 else q2))]) t → Gl t := fun t kt => k76 t (st77.trans kt)
      have k79 : ∀ t, own_S p e below T77 (mkF m 80 #[.val (.int p1), .val (.long q2), .second, .val (.long q3), .second, .val (.long q4), .second, .val (.long q5), .second, .val (.long q6), .second, .val (.int p1), .val (.ref b59), .val (.ref b67), .val (.int (p1 + (1 : Int32))), .val (.long q5), .second, .unset, .unset] [(.int (lcmpW (if p1 = (0 : Int32) then q5 else q2) q5))]) t → Gl t := fun t kt => k78 t (by
        show own_S p e below T77 (mkF m 77 #[.val (.int p1), .val (.long q2), .second, .val (.long q3), .second, .val (.long q4), .second, .val (.long q5), .second, .val (.long q6), .second, .val (.int p1), .val (.ref b59), .val (.ref b67), .val (.int (p1 + (1 : Int32))), .val (.long q5), .second, .unset, .unset] [(.long (if p1 = (0 : Int32) then q5 else q2))]) _
        refine XS.lload X77.here hx rfl (hb hby at_77) rfl ?_
        show own_S p e below T77 (mkF m 79 #[.val (.int p1), .val (.long q2), .second, .val (.long q3), .second, .val (.long q4), .second, .val (.long q5), .second, .val (.long q6), .second, .val (.int p1), .val (.ref b59), .val (.ref b67), .val (.int (p1 + (1 : Int32))), .val (.long q5), .second, .unset, .unset] [(.long q5), (.long (if p1 = (0 : Int32) then q5 else q2))]) _
        refine XS.lcmp X77.here hx rfl (hb hby at_79) rfl ?_
        exact kt)
      have hc80_80 : (if p1 = (0 : Int32) then q5 else q2) = q5 := if_pos hc49
      have k81 : ∀ t, own_S p e below T77 (mkF m 85 #[.val (.int p1), .val (.long q2), .second, .val (.long q3), .second, .val (.long q4), .second, .val (.long q5), .second, .val (.long q6), .second, .val (.int p1), .val (.ref b59), .val (.ref b67), .val (.int (p1 + (1 : Int32))), .val (.long q5), .second, .unset, .unset] [(.ref b67)]) t → Gl t := fun t kt => k79 t (by
        show own_S p e below T77 (mkF m 80 #[.val (.int p1), .val (.long q2), .second, .val (.long q3), .second, .val (.long q4), .second, .val (.long q5), .second, .val (.long q6), .second, .val (.int p1), .val (.ref b59), .val (.ref b67), .val (.int (p1 + (1 : Int32))), .val (.long q5), .second, .unset, .unset] [(.int (lcmpW (if p1 = (0 : Int32) then q5 else q2) q5))]) _
        refine XS.ifNo X77.here hx rfl (hb hby at_80) rfl ((if0 _ _).trans (teq ((lw_eq (if p1 = (0 : Int32) then q5 else q2) q5).mpr hc80_80)).2) ?_
        show own_S p e below T77 (mkF m 83 #[.val (.int p1), .val (.long q2), .second, .val (.long q3), .second, .val (.long q4), .second, .val (.long q5), .second, .val (.long q6), .second, .val (.int p1), .val (.ref b59), .val (.ref b67), .val (.int (p1 + (1 : Int32))), .val (.long q5), .second, .unset, .unset] []) _
        refine XS.aload X77.here hx rfl (hb hby at_83) rfl rfl ?_
        exact kt)
      obtain ⟨cq82, kq82, qa82, qb82, qc82⟩ := isOf hZ eq77 Ex67
      obtain ⟨_, _, ⟨T82, L82, cc82, ss82⟩, -, X82, ⟨Lc82, hQ82, l82, y82, z82⟩, st82⟩ := X77.virtualBack hx (y := (⟨"com/example/dual_delivery/dualdelivery/store/MessageState", "getToken", "()J"⟩ : MethodName)) (z := (⟨"com/example/dual_delivery/dualdelivery/store/MessageState", "getToken", "()J"⟩ : MethodName)) hown (mvT hZ (hw _ (List.mem_of_getElem? (i := 34) rfl))) (mvT hZ (hw _ (List.mem_of_getElem? (i := 35) rfl))) (notFace_of_selects (args := #[]) (mvT hZ (hw _ (List.mem_of_getElem? (i := 37) rfl)))) (mvT hZ (hw _ (List.mem_of_getElem? (i := 37) rfl))) (mvT hZ (hw _ (List.mem_of_getElem? (i := 36) rfl))) (by decide) (backOf (W := 0) (rm6 l Z a0 hw [] b67 q6 T67.heap n0 Z68 Fl67_2) hZ (hw _ (List.mem_of_getElem? (i := 38) rfl)) (hw _ (List.mem_of_getElem? (i := 2) rfl)) (by decide) (by decide)) qa82 qc82 (g := (mkF m 85 #[.val (.int p1), .val (.long q2), .second, .val (.long q3), .second, .val (.long q4), .second, .val (.long q5), .second, .val (.long q6), .second, .val (.int p1), .val (.ref b59), .val (.ref b67), .val (.int (p1 + (1 : Int32))), .val (.long q5), .second, .unset, .unset] [(.ref b67)])) rfl (by rw [hml]; rfl) (Steps.refl _) (argsL := []) (rest := []) (lenOf pd_3 rfl) rfl (by show 2 * 0 + _ ≤ _; exact Nat.le_of_eq rfl) (hb hby at_85) (fun _ _ => ⟨rfl, eq77, (by decide : 2 + 0 ≤ _), (by decide : 8 + 0 ≤ _)⟩)
      dsimp only [Pt.U, Pt.locs, Pt.cells, Pt.slots] at X82 l82 y82 z82 st82 hQ82
      subst l82 y82 z82
      obtain ⟨rfl, Nq82, eq82⟩ := hQ82
      have N82 := Fr.app N77 Nq82
      have k83 : ∀ t, own_S p e below T82 (mkF m 88 #[.val (.int p1), .val (.long q2), .second, .val (.long q3), .second, .val (.long q4), .second, .val (.long q5), .second, .val (.long q6), .second, .val (.int p1), .val (.ref b59), .val (.ref b67), .val (.int (p1 + (1 : Int32))), .val (.long q5), .second, .unset, .unset] [(.long q6)]) t → Gl t := fun t kt => k81 t (st82.trans kt)
      have k84 : ∀ t, own_S p e below T82 (mkF m 91 #[.val (.int p1), .val (.long q2), .second, .val (.long q3), .second, .val (.long q4), .second, .val (.long q5), .second, .val (.long q6), .second, .val (.int p1), .val (.ref b59), .val (.ref b67), .val (.int (p1 + (1 : Int32))), .val (.long q5), .second, .unset, .unset] [(.int (lcmpW q6 q6))]) t → Gl t := fun t kt => k83 t (by
        show own_S p e below T82 (mkF m 88 #[.val (.int p1), .val (.long q2), .second, .val (.long q3), .second, .val (.long q4), .second, .val (.long q5), .second, .val (.long q6), .second, .val (.int p1), .val (.ref b59), .val (.ref b67), .val (.int (p1 + (1 : Int32))), .val (.long q5), .second, .unset, .unset] [(.long q6)]) _
        refine XS.lload X82.here hx rfl (hb hby at_88) rfl ?_
        show own_S p e below T82 (mkF m 90 #[.val (.int p1), .val (.long q2), .second, .val (.long q3), .second, .val (.long q4), .second, .val (.long q5), .second, .val (.long q6), .second, .val (.int p1), .val (.ref b59), .val (.ref b67), .val (.int (p1 + (1 : Int32))), .val (.long q5), .second, .unset, .unset] [(.long q6), (.long q6)]) _
        refine XS.lcmp X82.here hx rfl (hb hby at_90) rfl ?_
        exact kt)
      have hc91_85 : q6 = q6 := rfl
      have k86 : ∀ t, own_S p e below T82 (mkF m 96 #[.val (.int p1), .val (.long q2), .second, .val (.long q3), .second, .val (.long q4), .second, .val (.long q5), .second, .val (.long q6), .second, .val (.int p1), .val (.ref b59), .val (.ref b67), .val (.int (p1 + (1 : Int32))), .val (.long q5), .second, .unset, .unset] [(.ref b67)]) t → Gl t := fun t kt => k84 t (by
        show own_S p e below T82 (mkF m 91 #[.val (.int p1), .val (.long q2), .second, .val (.long q3), .second, .val (.long q4), .second, .val (.long q5), .second, .val (.long q6), .second, .val (.int p1), .val (.ref b59), .val (.ref b67), .val (.int (p1 + (1 : Int32))), .val (.long q5), .second, .unset, .unset] [(.int (lcmpW q6 q6))]) _
        refine XS.ifNo X82.here hx rfl (hb hby at_91) rfl ((if0 _ _).trans (teq ((lw_eq q6 q6).mpr hc91_85)).2) ?_
        show own_S p e below T82 (mkF m 94 #[.val (.int p1), .val (.long q2), .second, .val (.long q3), .second, .val (.long q4), .second, .val (.long q5), .second, .val (.long q6), .second, .val (.int p1), .val (.ref b59), .val (.ref b67), .val (.int (p1 + (1 : Int32))), .val (.long q5), .second, .unset, .unset] []) _
        refine XS.aload X82.here hx rfl (hb hby at_94) rfl rfl ?_
        exact kt)
      obtain ⟨cq87, kq87, qa87, qb87, qc87⟩ := isOf hZ eq82 Ex67
      obtain ⟨_, _, ⟨T87, L87, cc87, ss87⟩, -, X87, ⟨Lc87, hQ87, l87, y87, z87⟩, st87⟩ := X82.virtualBack hx (y := (⟨"com/example/dual_delivery/dualdelivery/store/MessageState", "getSendMillis", "()J"⟩ : MethodName)) (z := (⟨"com/example/dual_delivery/dualdelivery/store/MessageState", "getSendMillis", "()J"⟩ : MethodName)) hown (mvT hZ (hw _ (List.mem_of_getElem? (i := 39) rfl))) (mvT hZ (hw _ (List.mem_of_getElem? (i := 40) rfl))) (notFace_of_selects (args := #[]) (mvT hZ (hw _ (List.mem_of_getElem? (i := 42) rfl)))) (mvT hZ (hw _ (List.mem_of_getElem? (i := 42) rfl))) (mvT hZ (hw _ (List.mem_of_getElem? (i := 41) rfl))) (by decide) (backOf (W := 0) (rm7 l Z a0 hw [] b67 q4 T67.heap n0 Z68 Fl67_3) hZ (hw _ (List.mem_of_getElem? (i := 43) rfl)) (hw _ (List.mem_of_getElem? (i := 2) rfl)) (by decide) (by decide)) qa87 qc87 (g := (mkF m 96 #[.val (.int p1), .val (.long q2), .second, .val (.long q3), .second, .val (.long q4), .second, .val (.long q5), .second, .val (.long q6), .second, .val (.int p1), .val (.ref b59), .val (.ref b67), .val (.int (p1 + (1 : Int32))), .val (.long q5), .second, .unset, .unset] [(.ref b67)])) rfl (by rw [hml]; rfl) (Steps.refl _) (argsL := []) (rest := []) (lenOf pd_3 rfl) rfl (by show 2 * 0 + _ ≤ _; exact Nat.le_of_eq rfl) (hb hby at_96) (fun _ _ => ⟨rfl, eq82, (by decide : 2 + 0 ≤ _), (by decide : 8 + 0 ≤ _)⟩)
      dsimp only [Pt.U, Pt.locs, Pt.cells, Pt.slots] at X87 l87 y87 z87 st87 hQ87
      subst l87 y87 z87
      obtain ⟨rfl, Nq87, eq87⟩ := hQ87
      have N87 := Fr.app N82 Nq87
      have k88 : ∀ t, own_S p e below T87 (mkF m 99 #[.val (.int p1), .val (.long q2), .second, .val (.long q3), .second, .val (.long q4), .second, .val (.long q5), .second, .val (.long q6), .second, .val (.int p1), .val (.ref b59), .val (.ref b67), .val (.int (p1 + (1 : Int32))), .val (.long q5), .second, .unset, .unset] [(.long q4)]) t → Gl t := fun t kt => k86 t (st87.trans kt)
      have k89 : ∀ t, own_S p e below T87 (mkF m 102 #[.val (.int p1), .val (.long q2), .second, .val (.long q3), .second, .val (.long q4), .second, .val (.long q5), .second, .val (.long q6), .second, .val (.int p1), .val (.ref b59), .val (.ref b67), .val (.int (p1 + (1 : Int32))), .val (.long q5), .second, .unset, .unset] [(.int (lcmpW q4 q4))]) t → Gl t := fun t kt => k88 t (by
        show own_S p e below T87 (mkF m 99 #[.val (.int p1), .val (.long q2), .second, .val (.long q3), .second, .val (.long q4), .second, .val (.long q5), .second, .val (.long q6), .second, .val (.int p1), .val (.ref b59), .val (.ref b67), .val (.int (p1 + (1 : Int32))), .val (.long q5), .second, .unset, .unset] [(.long q4)]) _
        refine XS.lload X87.here hx rfl (hb hby at_99) rfl ?_
        show own_S p e below T87 (mkF m 101 #[.val (.int p1), .val (.long q2), .second, .val (.long q3), .second, .val (.long q4), .second, .val (.long q5), .second, .val (.long q6), .second, .val (.int p1), .val (.ref b59), .val (.ref b67), .val (.int (p1 + (1 : Int32))), .val (.long q5), .second, .unset, .unset] [(.long q4), (.long q4)]) _
        refine XS.lcmp X87.here hx rfl (hb hby at_101) rfl ?_
        exact kt)
      have hc102_90 : q4 = q4 := rfl
      have k91 : ∀ t, own_S p e below T87 (mkF m 114 #[.val (.int p1), .val (.long q2), .second, .val (.long q3), .second, .val (.long q4), .second, .val (.long q5), .second, .val (.long q6), .second, .val (.int p1), .val (.ref b59), .val (.ref b67), .val (.int (p1 + (1 : Int32))), .val (.long q5), .second, .val (.int (1 : Int32)), .unset] [(.ref b59)]) t → Gl t := fun t kt => k89 t (by
        show own_S p e below T87 (mkF m 102 #[.val (.int p1), .val (.long q2), .second, .val (.long q3), .second, .val (.long q4), .second, .val (.long q5), .second, .val (.long q6), .second, .val (.int p1), .val (.ref b59), .val (.ref b67), .val (.int (p1 + (1 : Int32))), .val (.long q5), .second, .unset, .unset] [(.int (lcmpW q4 q4))]) _
        refine XS.ifNo X87.here hx rfl (hb hby at_102) rfl ((if0 _ _).trans (teq ((lw_eq q4 q4).mpr hc102_90)).2) ?_
        show own_S p e below T87 (mkF m 105 #[.val (.int p1), .val (.long q2), .second, .val (.long q3), .second, .val (.long q4), .second, .val (.long q5), .second, .val (.long q6), .second, .val (.int p1), .val (.ref b59), .val (.ref b67), .val (.int (p1 + (1 : Int32))), .val (.long q5), .second, .unset, .unset] []) _
        refine XS.iconst X87.here hx rfl (hb hby at_105) ?_
        show own_S p e below T87 (mkF m 106 #[.val (.int p1), .val (.long q2), .second, .val (.long q3), .second, .val (.long q4), .second, .val (.long q5), .second, .val (.long q6), .second, .val (.int p1), .val (.ref b59), .val (.ref b67), .val (.int (p1 + (1 : Int32))), .val (.long q5), .second, .unset, .unset] [(.int (1 : Int32))]) _
        refine XS.goto X87.here hx rfl (pc0 := 106) (pc' := 110) rfl (hb hby at_106) (by decide) (by decide) ?_
        show own_S p e below T87 (mkF m 110 #[.val (.int p1), .val (.long q2), .second, .val (.long q3), .second, .val (.long q4), .second, .val (.long q5), .second, .val (.long q6), .second, .val (.int p1), .val (.ref b59), .val (.ref b67), .val (.int (p1 + (1 : Int32))), .val (.long q5), .second, .unset, .unset] [(.int (1 : Int32))]) _
        refine XS.istore X87.here hx rfl (hb hby at_110) rfl (l' := #[.val (.int p1), .val (.long q2), .second, .val (.long q3), .second, .val (.long q4), .second, .val (.long q5), .second, .val (.long q6), .second, .val (.int p1), .val (.ref b59), .val (.ref b67), .val (.int (p1 + (1 : Int32))), .val (.long q5), .second, .val (.int (1 : Int32)), .unset]) rfl ?_
        show own_S p e below T87 (mkF m 112 #[.val (.int p1), .val (.long q2), .second, .val (.long q3), .second, .val (.long q4), .second, .val (.long q5), .second, .val (.long q6), .second, .val (.int p1), .val (.ref b59), .val (.ref b67), .val (.int (p1 + (1 : Int32))), .val (.long q5), .second, .val (.int (1 : Int32)), .unset] []) _
        refine XS.aload X87.here hx rfl (hb hby at_112) rfl rfl ?_
        exact kt)
      have f93 := (Fl63_0.keep K67 nin0)
      have f94 := (Ex63.keep K67)
      obtain ⟨cq92, kq92, qa92, qb92, qc92⟩ := isOf hZ eq87 f94
      obtain ⟨_, _, ⟨T92, L92, cc92, ss92⟩, -, X92, ⟨Lc92, hQ92, l92, y92, z92⟩, st92⟩ := X87.virtualBack hx (y := (⟨"com/example/dual_delivery/dualdelivery/store/MessageState", "getDequeueCount", "()I"⟩ : MethodName)) (z := (⟨"com/example/dual_delivery/dualdelivery/store/MessageState", "getDequeueCount", "()I"⟩ : MethodName)) hown (mvT hZ (hw _ (List.mem_of_getElem? (i := 24) rfl))) (mvT hZ (hw _ (List.mem_of_getElem? (i := 25) rfl))) (notFace_of_selects (args := #[]) (mvT hZ (hw _ (List.mem_of_getElem? (i := 27) rfl)))) (mvT hZ (hw _ (List.mem_of_getElem? (i := 27) rfl))) (mvT hZ (hw _ (List.mem_of_getElem? (i := 26) rfl))) (by decide) (backOf (W := 0) (rm4 l Z a0 hw [] b59 p1 T67.heap n0 Z68 f93) hZ (hw _ (List.mem_of_getElem? (i := 28) rfl)) (hw _ (List.mem_of_getElem? (i := 2) rfl)) (by decide) (by decide)) qa92 qc92 (g := (mkF m 114 #[.val (.int p1), .val (.long q2), .second, .val (.long q3), .second, .val (.long q4), .second, .val (.long q5), .second, .val (.long q6), .second, .val (.int p1), .val (.ref b59), .val (.ref b67), .val (.int (p1 + (1 : Int32))), .val (.long q5), .second, .val (.int (1 : Int32)), .unset] [(.ref b59)])) rfl (by rw [hml]; rfl) (Steps.refl _) (argsL := []) (rest := []) (lenOf pd_2 rfl) rfl (by show 2 * 0 + _ ≤ _; exact Nat.le_of_eq rfl) (hb hby at_114) (fun _ _ => ⟨rfl, eq87, (by decide : 2 + 0 ≤ _), (by decide : 8 + 0 ≤ _)⟩)
      dsimp only [Pt.U, Pt.locs, Pt.cells, Pt.slots] at X92 l92 y92 z92 st92 hQ92
      subst l92 y92 z92
      obtain ⟨rfl, Nq92, eq92⟩ := hQ92
      have N92 := Fr.app N87 Nq92
      have k95 : ∀ t, own_S p e below T92 (mkF m 117 #[.val (.int p1), .val (.long q2), .second, .val (.long q3), .second, .val (.long q4), .second, .val (.long q5), .second, .val (.long q6), .second, .val (.int p1), .val (.ref b59), .val (.ref b67), .val (.int (p1 + (1 : Int32))), .val (.long q5), .second, .val (.int (1 : Int32)), .unset] [(.int p1)]) t → Gl t := fun t kt => k91 t (st92.trans kt)
      have k96 : ∀ t, own_S p e below T92 (mkF m 119 #[.val (.int p1), .val (.long q2), .second, .val (.long q3), .second, .val (.long q4), .second, .val (.long q5), .second, .val (.long q6), .second, .val (.int p1), .val (.ref b59), .val (.ref b67), .val (.int (p1 + (1 : Int32))), .val (.long q5), .second, .val (.int (1 : Int32)), .unset] [(.int p1), (.int p1)]) t → Gl t := fun t kt => k95 t (by
        show own_S p e below T92 (mkF m 117 #[.val (.int p1), .val (.long q2), .second, .val (.long q3), .second, .val (.long q4), .second, .val (.long q5), .second, .val (.long q6), .second, .val (.int p1), .val (.ref b59), .val (.ref b67), .val (.int (p1 + (1 : Int32))), .val (.long q5), .second, .val (.int (1 : Int32)), .unset] [(.int p1)]) _
        refine XS.iload X92.here hx rfl (hb hby at_117) rfl ?_
        exact kt)
      have hc119_97 : p1 = p1 := rfl
      have k98 : ∀ t, own_S p e below T92 (mkF m 124 #[.val (.int p1), .val (.long q2), .second, .val (.long q3), .second, .val (.long q4), .second, .val (.long q5), .second, .val (.long q6), .second, .val (.int p1), .val (.ref b59), .val (.ref b67), .val (.int (p1 + (1 : Int32))), .val (.long q5), .second, .val (.int (1 : Int32)), .unset] [(.ref b59)]) t → Gl t := fun t kt => k96 t (by
        show own_S p e below T92 (mkF m 119 #[.val (.int p1), .val (.long q2), .second, .val (.long q3), .second, .val (.long q4), .second, .val (.long q5), .second, .val (.long q6), .second, .val (.int p1), .val (.ref b59), .val (.ref b67), .val (.int (p1 + (1 : Int32))), .val (.long q5), .second, .val (.int (1 : Int32)), .unset] [(.int p1), (.int p1)]) _
        refine XS.icmpNo X92.here hx rfl (hb hby at_119) rfl (teq hc119_97).2 ?_
        show own_S p e below T92 (mkF m 122 #[.val (.int p1), .val (.long q2), .second, .val (.long q3), .second, .val (.long q4), .second, .val (.long q5), .second, .val (.long q6), .second, .val (.int p1), .val (.ref b59), .val (.ref b67), .val (.int (p1 + (1 : Int32))), .val (.long q5), .second, .val (.int (1 : Int32)), .unset] []) _
        refine XS.aload X92.here hx rfl (hb hby at_122) rfl rfl ?_
        exact kt)
      have f100 := (Fl63_1.keep K67 nin0)
      obtain ⟨cq99, kq99, qa99, qb99, qc99⟩ := isOf hZ eq92 f94
      obtain ⟨_, _, ⟨T99, L99, cc99, ss99⟩, -, X99, ⟨Lc99, hQ99, l99, y99, z99⟩, st99⟩ := X92.virtualBack hx (y := (⟨"com/example/dual_delivery/dualdelivery/store/MessageState", "getFirstDequeueMillis", "()J"⟩ : MethodName)) (z := (⟨"com/example/dual_delivery/dualdelivery/store/MessageState", "getFirstDequeueMillis", "()J"⟩ : MethodName)) hown (mvT hZ (hw _ (List.mem_of_getElem? (i := 29) rfl))) (mvT hZ (hw _ (List.mem_of_getElem? (i := 30) rfl))) (notFace_of_selects (args := #[]) (mvT hZ (hw _ (List.mem_of_getElem? (i := 32) rfl)))) (mvT hZ (hw _ (List.mem_of_getElem? (i := 32) rfl))) (mvT hZ (hw _ (List.mem_of_getElem? (i := 31) rfl))) (by decide) (backOf (W := 0) (rm5 l Z a0 hw [] b59 q2 T67.heap n0 Z68 f100) hZ (hw _ (List.mem_of_getElem? (i := 33) rfl)) (hw _ (List.mem_of_getElem? (i := 2) rfl)) (by decide) (by decide)) qa99 qc99 (g := (mkF m 124 #[.val (.int p1), .val (.long q2), .second, .val (.long q3), .second, .val (.long q4), .second, .val (.long q5), .second, .val (.long q6), .second, .val (.int p1), .val (.ref b59), .val (.ref b67), .val (.int (p1 + (1 : Int32))), .val (.long q5), .second, .val (.int (1 : Int32)), .unset] [(.ref b59)])) rfl (by rw [hml]; rfl) (Steps.refl _) (argsL := []) (rest := []) (lenOf pd_3 rfl) rfl (by show 2 * 0 + _ ≤ _; exact Nat.le_of_eq rfl) (hb hby at_124) (fun _ _ => ⟨rfl, eq92, (by decide : 2 + 0 ≤ _), (by decide : 8 + 0 ≤ _)⟩)
      dsimp only [Pt.U, Pt.locs, Pt.cells, Pt.slots] at X99 l99 y99 z99 st99 hQ99
      subst l99 y99 z99
      obtain ⟨rfl, Nq99, eq99⟩ := hQ99
      have N99 := Fr.app N92 Nq99
      have k101 : ∀ t, own_S p e below T99 (mkF m 127 #[.val (.int p1), .val (.long q2), .second, .val (.long q3), .second, .val (.long q4), .second, .val (.long q5), .second, .val (.long q6), .second, .val (.int p1), .val (.ref b59), .val (.ref b67), .val (.int (p1 + (1 : Int32))), .val (.long q5), .second, .val (.int (1 : Int32)), .unset] [(.long q2)]) t → Gl t := fun t kt => k98 t (st99.trans kt)
      have k102 : ∀ t, own_S p e below T99 (mkF m 129 #[.val (.int p1), .val (.long q2), .second, .val (.long q3), .second, .val (.long q4), .second, .val (.long q5), .second, .val (.long q6), .second, .val (.int p1), .val (.ref b59), .val (.ref b67), .val (.int (p1 + (1 : Int32))), .val (.long q5), .second, .val (.int (1 : Int32)), .unset] [(.int (lcmpW q2 q2))]) t → Gl t := fun t kt => k101 t (by
        show own_S p e below T99 (mkF m 127 #[.val (.int p1), .val (.long q2), .second, .val (.long q3), .second, .val (.long q4), .second, .val (.long q5), .second, .val (.long q6), .second, .val (.int p1), .val (.ref b59), .val (.ref b67), .val (.int (p1 + (1 : Int32))), .val (.long q5), .second, .val (.int (1 : Int32)), .unset] [(.long q2)]) _
        refine XS.lloadN X99.here hx rfl (hb hby at_127) rfl ?_
        show own_S p e below T99 (mkF m 128 #[.val (.int p1), .val (.long q2), .second, .val (.long q3), .second, .val (.long q4), .second, .val (.long q5), .second, .val (.long q6), .second, .val (.int p1), .val (.ref b59), .val (.ref b67), .val (.int (p1 + (1 : Int32))), .val (.long q5), .second, .val (.int (1 : Int32)), .unset] [(.long q2), (.long q2)]) _
        refine XS.lcmp X99.here hx rfl (hb hby at_128) rfl ?_
        exact kt)
      have hc129_103 : q2 = q2 := rfl
      have k104 : ∀ t, own_S p e below T99 (mkF m 134 #[.val (.int p1), .val (.long q2), .second, .val (.long q3), .second, .val (.long q4), .second, .val (.long q5), .second, .val (.long q6), .second, .val (.int p1), .val (.ref b59), .val (.ref b67), .val (.int (p1 + (1 : Int32))), .val (.long q5), .second, .val (.int (1 : Int32)), .unset] [(.ref b59)]) t → Gl t := fun t kt => k102 t (by
        show own_S p e below T99 (mkF m 129 #[.val (.int p1), .val (.long q2), .second, .val (.long q3), .second, .val (.long q4), .second, .val (.long q5), .second, .val (.long q6), .second, .val (.int p1), .val (.ref b59), .val (.ref b67), .val (.int (p1 + (1 : Int32))), .val (.long q5), .second, .val (.int (1 : Int32)), .unset] [(.int (lcmpW q2 q2))]) _
        refine XS.ifNo X99.here hx rfl (hb hby at_129) rfl ((if0 _ _).trans (teq ((lw_eq q2 q2).mpr hc129_103)).2) ?_
        show own_S p e below T99 (mkF m 132 #[.val (.int p1), .val (.long q2), .second, .val (.long q3), .second, .val (.long q4), .second, .val (.long q5), .second, .val (.long q6), .second, .val (.int p1), .val (.ref b59), .val (.ref b67), .val (.int (p1 + (1 : Int32))), .val (.long q5), .second, .val (.int (1 : Int32)), .unset] []) _
        refine XS.aload X99.here hx rfl (hb hby at_132) rfl rfl ?_
        exact kt)
      have f106 := (Fl63_2.keep K67 nin0)
      obtain ⟨cq105, kq105, qa105, qb105, qc105⟩ := isOf hZ eq99 f94
      obtain ⟨_, _, ⟨T105, L105, cc105, ss105⟩, -, X105, ⟨Lc105, hQ105, l105, y105, z105⟩, st105⟩ := X99.virtualBack hx (y := (⟨"com/example/dual_delivery/dualdelivery/store/MessageState", "getToken", "()J"⟩ : MethodName)) (z := (⟨"com/example/dual_delivery/dualdelivery/store/MessageState", "getToken", "()J"⟩ : MethodName)) hown (mvT hZ (hw _ (List.mem_of_getElem? (i := 34) rfl))) (mvT hZ (hw _ (List.mem_of_getElem? (i := 35) rfl))) (notFace_of_selects (args := #[]) (mvT hZ (hw _ (List.mem_of_getElem? (i := 37) rfl)))) (mvT hZ (hw _ (List.mem_of_getElem? (i := 37) rfl))) (mvT hZ (hw _ (List.mem_of_getElem? (i := 36) rfl))) (by decide) (backOf (W := 0) (rm6 l Z a0 hw [] b59 q3 T67.heap n0 Z68 f106) hZ (hw _ (List.mem_of_getElem? (i := 38) rfl)) (hw _ (List.mem_of_getElem? (i := 2) rfl)) (by decide) (by decide)) qa105 qc105 (g := (mkF m 134 #[.val (.int p1), .val (.long q2), .second, .val (.long q3), .second, .val (.long q4), .second, .val (.long q5), .second, .val (.long q6), .second, .val (.int p1), .val (.ref b59), .val (.ref b67), .val (.int (p1 + (1 : Int32))), .val (.long q5), .second, .val (.int (1 : Int32)), .unset] [(.ref b59)])) rfl (by rw [hml]; rfl) (Steps.refl _) (argsL := []) (rest := []) (lenOf pd_3 rfl) rfl (by show 2 * 0 + _ ≤ _; exact Nat.le_of_eq rfl) (hb hby at_134) (fun _ _ => ⟨rfl, eq99, (by decide : 2 + 0 ≤ _), (by decide : 8 + 0 ≤ _)⟩)
      dsimp only [Pt.U, Pt.locs, Pt.cells, Pt.slots] at X105 l105 y105 z105 st105 hQ105
      subst l105 y105 z105
      obtain ⟨rfl, Nq105, eq105⟩ := hQ105
      have N105 := Fr.app N99 Nq105
      have k107 : ∀ t, own_S p e below T105 (mkF m 137 #[.val (.int p1), .val (.long q2), .second, .val (.long q3), .second, .val (.long q4), .second, .val (.long q5), .second, .val (.long q6), .second, .val (.int p1), .val (.ref b59), .val (.ref b67), .val (.int (p1 + (1 : Int32))), .val (.long q5), .second, .val (.int (1 : Int32)), .unset] [(.long q3)]) t → Gl t := fun t kt => k104 t (st105.trans kt)
      have k108 : ∀ t, own_S p e below T105 (mkF m 139 #[.val (.int p1), .val (.long q2), .second, .val (.long q3), .second, .val (.long q4), .second, .val (.long q5), .second, .val (.long q6), .second, .val (.int p1), .val (.ref b59), .val (.ref b67), .val (.int (p1 + (1 : Int32))), .val (.long q5), .second, .val (.int (1 : Int32)), .unset] [(.int (lcmpW q3 q3))]) t → Gl t := fun t kt => k107 t (by
        show own_S p e below T105 (mkF m 137 #[.val (.int p1), .val (.long q2), .second, .val (.long q3), .second, .val (.long q4), .second, .val (.long q5), .second, .val (.long q6), .second, .val (.int p1), .val (.ref b59), .val (.ref b67), .val (.int (p1 + (1 : Int32))), .val (.long q5), .second, .val (.int (1 : Int32)), .unset] [(.long q3)]) _
        refine XS.lloadN X105.here hx rfl (hb hby at_137) rfl ?_
        show own_S p e below T105 (mkF m 138 #[.val (.int p1), .val (.long q2), .second, .val (.long q3), .second, .val (.long q4), .second, .val (.long q5), .second, .val (.long q6), .second, .val (.int p1), .val (.ref b59), .val (.ref b67), .val (.int (p1 + (1 : Int32))), .val (.long q5), .second, .val (.int (1 : Int32)), .unset] [(.long q3), (.long q3)]) _
        refine XS.lcmp X105.here hx rfl (hb hby at_138) rfl ?_
        exact kt)
      have hc139_109 : q3 = q3 := rfl
      have k110 : ∀ t, own_S p e below T105 (mkF m 144 #[.val (.int p1), .val (.long q2), .second, .val (.long q3), .second, .val (.long q4), .second, .val (.long q5), .second, .val (.long q6), .second, .val (.int p1), .val (.ref b59), .val (.ref b67), .val (.int (p1 + (1 : Int32))), .val (.long q5), .second, .val (.int (1 : Int32)), .unset] [(.ref b59)]) t → Gl t := fun t kt => k108 t (by
        show own_S p e below T105 (mkF m 139 #[.val (.int p1), .val (.long q2), .second, .val (.long q3), .second, .val (.long q4), .second, .val (.long q5), .second, .val (.long q6), .second, .val (.int p1), .val (.ref b59), .val (.ref b67), .val (.int (p1 + (1 : Int32))), .val (.long q5), .second, .val (.int (1 : Int32)), .unset] [(.int (lcmpW q3 q3))]) _
        refine XS.ifNo X105.here hx rfl (hb hby at_139) rfl ((if0 _ _).trans (teq ((lw_eq q3 q3).mpr hc139_109)).2) ?_
        show own_S p e below T105 (mkF m 142 #[.val (.int p1), .val (.long q2), .second, .val (.long q3), .second, .val (.long q4), .second, .val (.long q5), .second, .val (.long q6), .second, .val (.int p1), .val (.ref b59), .val (.ref b67), .val (.int (p1 + (1 : Int32))), .val (.long q5), .second, .val (.int (1 : Int32)), .unset] []) _
        refine XS.aload X105.here hx rfl (hb hby at_142) rfl rfl ?_
        exact kt)
      have f112 := (Fl63_3.keep K67 nin0)
      obtain ⟨cq111, kq111, qa111, qb111, qc111⟩ := isOf hZ eq105 f94
      obtain ⟨_, _, ⟨T111, L111, cc111, ss111⟩, -, X111, ⟨Lc111, hQ111, l111, y111, z111⟩, st111⟩ := X105.virtualBack hx (y := (⟨"com/example/dual_delivery/dualdelivery/store/MessageState", "getSendMillis", "()J"⟩ : MethodName)) (z := (⟨"com/example/dual_delivery/dualdelivery/store/MessageState", "getSendMillis", "()J"⟩ : MethodName)) hown (mvT hZ (hw _ (List.mem_of_getElem? (i := 39) rfl))) (mvT hZ (hw _ (List.mem_of_getElem? (i := 40) rfl))) (notFace_of_selects (args := #[]) (mvT hZ (hw _ (List.mem_of_getElem? (i := 42) rfl)))) (mvT hZ (hw _ (List.mem_of_getElem? (i := 42) rfl))) (mvT hZ (hw _ (List.mem_of_getElem? (i := 41) rfl))) (by decide) (backOf (W := 0) (rm7 l Z a0 hw [] b59 q4 T67.heap n0 Z68 f112) hZ (hw _ (List.mem_of_getElem? (i := 43) rfl)) (hw _ (List.mem_of_getElem? (i := 2) rfl)) (by decide) (by decide)) qa111 qc111 (g := (mkF m 144 #[.val (.int p1), .val (.long q2), .second, .val (.long q3), .second, .val (.long q4), .second, .val (.long q5), .second, .val (.long q6), .second, .val (.int p1), .val (.ref b59), .val (.ref b67), .val (.int (p1 + (1 : Int32))), .val (.long q5), .second, .val (.int (1 : Int32)), .unset] [(.ref b59)])) rfl (by rw [hml]; rfl) (Steps.refl _) (argsL := []) (rest := []) (lenOf pd_3 rfl) rfl (by show 2 * 0 + _ ≤ _; exact Nat.le_of_eq rfl) (hb hby at_144) (fun _ _ => ⟨rfl, eq105, (by decide : 2 + 0 ≤ _), (by decide : 8 + 0 ≤ _)⟩)
      dsimp only [Pt.U, Pt.locs, Pt.cells, Pt.slots] at X111 l111 y111 z111 st111 hQ111
      subst l111 y111 z111
      obtain ⟨rfl, Nq111, eq111⟩ := hQ111
      have N111 := Fr.app N105 Nq111
      have k113 : ∀ t, own_S p e below T111 (mkF m 147 #[.val (.int p1), .val (.long q2), .second, .val (.long q3), .second, .val (.long q4), .second, .val (.long q5), .second, .val (.long q6), .second, .val (.int p1), .val (.ref b59), .val (.ref b67), .val (.int (p1 + (1 : Int32))), .val (.long q5), .second, .val (.int (1 : Int32)), .unset] [(.long q4)]) t → Gl t := fun t kt => k110 t (st111.trans kt)
      have k114 : ∀ t, own_S p e below T111 (mkF m 150 #[.val (.int p1), .val (.long q2), .second, .val (.long q3), .second, .val (.long q4), .second, .val (.long q5), .second, .val (.long q6), .second, .val (.int p1), .val (.ref b59), .val (.ref b67), .val (.int (p1 + (1 : Int32))), .val (.long q5), .second, .val (.int (1 : Int32)), .unset] [(.int (lcmpW q4 q4))]) t → Gl t := fun t kt => k113 t (by
        show own_S p e below T111 (mkF m 147 #[.val (.int p1), .val (.long q2), .second, .val (.long q3), .second, .val (.long q4), .second, .val (.long q5), .second, .val (.long q6), .second, .val (.int p1), .val (.ref b59), .val (.ref b67), .val (.int (p1 + (1 : Int32))), .val (.long q5), .second, .val (.int (1 : Int32)), .unset] [(.long q4)]) _
        refine XS.lload X111.here hx rfl (hb hby at_147) rfl ?_
        show own_S p e below T111 (mkF m 149 #[.val (.int p1), .val (.long q2), .second, .val (.long q3), .second, .val (.long q4), .second, .val (.long q5), .second, .val (.long q6), .second, .val (.int p1), .val (.ref b59), .val (.ref b67), .val (.int (p1 + (1 : Int32))), .val (.long q5), .second, .val (.int (1 : Int32)), .unset] [(.long q4), (.long q4)]) _
        refine XS.lcmp X111.here hx rfl (hb hby at_149) rfl ?_
        exact kt)
      have hc150_115 : q4 = q4 := rfl
      have k116 : ∀ t, own_S p e below T111 (mkF m 175 #[.val (.int p1), .val (.long q2), .second, .val (.long q3), .second, .val (.long q4), .second, .val (.long q5), .second, .val (.long q6), .second, .val (.int p1), .val (.ref b59), .val (.ref b67), .val (.int (p1 + (1 : Int32))), .val (.long q5), .second, .val (.int (1 : Int32)), .val (.int (1 : Int32))] [(.int (1 : Int32))]) t → Gl t := fun t kt => k114 t (by
        show own_S p e below T111 (mkF m 150 #[.val (.int p1), .val (.long q2), .second, .val (.long q3), .second, .val (.long q4), .second, .val (.long q5), .second, .val (.long q6), .second, .val (.int p1), .val (.ref b59), .val (.ref b67), .val (.int (p1 + (1 : Int32))), .val (.long q5), .second, .val (.int (1 : Int32)), .unset] [(.int (lcmpW q4 q4))]) _
        refine XS.ifNo X111.here hx rfl (hb hby at_150) rfl ((if0 _ _).trans (teq ((lw_eq q4 q4).mpr hc150_115)).2) ?_
        show own_S p e below T111 (mkF m 153 #[.val (.int p1), .val (.long q2), .second, .val (.long q3), .second, .val (.long q4), .second, .val (.long q5), .second, .val (.long q6), .second, .val (.int p1), .val (.ref b59), .val (.ref b67), .val (.int (p1 + (1 : Int32))), .val (.long q5), .second, .val (.int (1 : Int32)), .unset] []) _
        refine XS.iconst X111.here hx rfl (hb hby at_153) ?_
        show own_S p e below T111 (mkF m 154 #[.val (.int p1), .val (.long q2), .second, .val (.long q3), .second, .val (.long q4), .second, .val (.long q5), .second, .val (.long q6), .second, .val (.int p1), .val (.ref b59), .val (.ref b67), .val (.int (p1 + (1 : Int32))), .val (.long q5), .second, .val (.int (1 : Int32)), .unset] [(.int (1 : Int32))]) _
        refine XS.goto X111.here hx rfl (pc0 := 154) (pc' := 158) rfl (hb hby at_154) (by decide) (by decide) ?_
        show own_S p e below T111 (mkF m 158 #[.val (.int p1), .val (.long q2), .second, .val (.long q3), .second, .val (.long q4), .second, .val (.long q5), .second, .val (.long q6), .second, .val (.int p1), .val (.ref b59), .val (.ref b67), .val (.int (p1 + (1 : Int32))), .val (.long q5), .second, .val (.int (1 : Int32)), .unset] [(.int (1 : Int32))]) _
        refine XS.istore X111.here hx rfl (hb hby at_158) rfl (l' := #[.val (.int p1), .val (.long q2), .second, .val (.long q3), .second, .val (.long q4), .second, .val (.long q5), .second, .val (.long q6), .second, .val (.int p1), .val (.ref b59), .val (.ref b67), .val (.int (p1 + (1 : Int32))), .val (.long q5), .second, .val (.int (1 : Int32)), .val (.int (1 : Int32))]) rfl ?_
        show own_S p e below T111 (mkF m 160 #[.val (.int p1), .val (.long q2), .second, .val (.long q3), .second, .val (.long q4), .second, .val (.long q5), .second, .val (.long q6), .second, .val (.int p1), .val (.ref b59), .val (.ref b67), .val (.int (p1 + (1 : Int32))), .val (.long q5), .second, .val (.int (1 : Int32)), .val (.int (1 : Int32))] []) _
        refine XS.iload X111.here hx rfl (hb hby at_160) rfl ?_
        show own_S p e below T111 (mkF m 162 #[.val (.int p1), .val (.long q2), .second, .val (.long q3), .second, .val (.long q4), .second, .val (.long q5), .second, .val (.long q6), .second, .val (.int p1), .val (.ref b59), .val (.ref b67), .val (.int (p1 + (1 : Int32))), .val (.long q5), .second, .val (.int (1 : Int32)), .val (.int (1 : Int32))] [(.int (1 : Int32))]) _
        refine XS.ifNo X111.here hx rfl (hb hby at_162) rfl ((if0 _ _).trans (feq (by decide : ¬ ((1 : Int32) = (0 : Int32)))).1) ?_
        show own_S p e below T111 (mkF m 165 #[.val (.int p1), .val (.long q2), .second, .val (.long q3), .second, .val (.long q4), .second, .val (.long q5), .second, .val (.long q6), .second, .val (.int p1), .val (.ref b59), .val (.ref b67), .val (.int (p1 + (1 : Int32))), .val (.long q5), .second, .val (.int (1 : Int32)), .val (.int (1 : Int32))] []) _
        refine XS.iload X111.here hx rfl (hb hby at_165) rfl ?_
        show own_S p e below T111 (mkF m 167 #[.val (.int p1), .val (.long q2), .second, .val (.long q3), .second, .val (.long q4), .second, .val (.long q5), .second, .val (.long q6), .second, .val (.int p1), .val (.ref b59), .val (.ref b67), .val (.int (p1 + (1 : Int32))), .val (.long q5), .second, .val (.int (1 : Int32)), .val (.int (1 : Int32))] [(.int (1 : Int32))]) _
        refine XS.ifNo X111.here hx rfl (hb hby at_167) rfl ((if0 _ _).trans (feq (by decide : ¬ ((1 : Int32) = (0 : Int32)))).1) ?_
        show own_S p e below T111 (mkF m 170 #[.val (.int p1), .val (.long q2), .second, .val (.long q3), .second, .val (.long q4), .second, .val (.long q5), .second, .val (.long q6), .second, .val (.int p1), .val (.ref b59), .val (.ref b67), .val (.int (p1 + (1 : Int32))), .val (.long q5), .second, .val (.int (1 : Int32)), .val (.int (1 : Int32))] []) _
        refine XS.iconst X111.here hx rfl (hb hby at_170) ?_
        show own_S p e below T111 (mkF m 171 #[.val (.int p1), .val (.long q2), .second, .val (.long q3), .second, .val (.long q4), .second, .val (.long q5), .second, .val (.long q6), .second, .val (.int p1), .val (.ref b59), .val (.ref b67), .val (.int (p1 + (1 : Int32))), .val (.long q5), .second, .val (.int (1 : Int32)), .val (.int (1 : Int32))] [(.int (1 : Int32))]) _
        refine XS.goto X111.here hx rfl (pc0 := 171) (pc' := 175) rfl (hb hby at_171) (by decide) (by decide) ?_
        exact kt)
      obtain ⟨fs, hr, hrun, hended, hW, hsame⟩ := X111.leave (v := some (.int (1 : Int32))) (fun h => by rw [Bd.returns] at h; cases h)
      refine ⟨_, _, hGl _ (k116 _ (retN X111 hx (t := .boolean) Bd.returns (by simp) (hb hby at_175) hr)), hrun, hended, _, _, rfl, ?_, ⟨_, rfl⟩, hW, hsame.mono (by decide) (by decide)⟩
      show Q0 Z p1 q2 q3 q4 q5 q6 h0 n0 _ T111.heap _
      rw [eq111]
      exact ⟨rfl, N111⟩
    · have k117 : ∀ t, own_S p e below T67 (mkF m 64 #[.val (.int p1), .val (.long q2), .second, .val (.long q3), .second, .val (.long q4), .second, .val (.long q5), .second, .val (.long q6), .second, .val (.int p1), .val (.ref b59), .val (.ref b67), .val (.int (p1 + (1 : Int32))), .val (.long q2), .second, .unset, .unset] [(.ref b67)]) t → Gl t := fun t kt => k70 t (by
        show own_S p e below T67 (mkF m 49 #[.val (.int p1), .val (.long q2), .second, .val (.long q3), .second, .val (.long q4), .second, .val (.long q5), .second, .val (.long q6), .second, .val (.int p1), .val (.ref b59), .val (.ref b67), .val (.int (p1 + (1 : Int32))), .unset, .unset, .unset, .unset] [(.int p1)]) _
        refine XS.ifYes X67.here hx rfl (pc0 := 49) (pc' := 59) rfl (hb hby at_49) rfl ((if0 _ _).trans (feq hc49).2) (by decide) (by decide) ?_
        show own_S p e below T67 (mkF m 59 #[.val (.int p1), .val (.long q2), .second, .val (.long q3), .second, .val (.long q4), .second, .val (.long q5), .second, .val (.long q6), .second, .val (.int p1), .val (.ref b59), .val (.ref b67), .val (.int (p1 + (1 : Int32))), .unset, .unset, .unset, .unset] []) _
        refine XS.lloadN X67.here hx rfl (hb hby at_59) rfl ?_
        show own_S p e below T67 (mkF m 60 #[.val (.int p1), .val (.long q2), .second, .val (.long q3), .second, .val (.long q4), .second, .val (.long q5), .second, .val (.long q6), .second, .val (.int p1), .val (.ref b59), .val (.ref b67), .val (.int (p1 + (1 : Int32))), .unset, .unset, .unset, .unset] [(.long q2)]) _
        refine XS.lstore X67.here hx rfl (hb hby at_60) rfl (l' := #[.val (.int p1), .val (.long q2), .second, .val (.long q3), .second, .val (.long q4), .second, .val (.long q5), .second, .val (.long q6), .second, .val (.int p1), .val (.ref b59), .val (.ref b67), .val (.int (p1 + (1 : Int32))), .val (.long q2), .second, .unset, .unset]) rfl ?_
        show own_S p e below T67 (mkF m 62 #[.val (.int p1), .val (.long q2), .second, .val (.long q3), .second, .val (.long q4), .second, .val (.long q5), .second, .val (.long q6), .second, .val (.int p1), .val (.ref b59), .val (.ref b67), .val (.int (p1 + (1 : Int32))), .val (.long q2), .second, .unset, .unset] []) _
        refine XS.aload X67.here hx rfl (hb hby at_62) rfl rfl ?_
        exact kt)
      obtain ⟨cq118, kq118, qa118, qb118, qc118⟩ := isOf hZ rfl Ex67
      obtain ⟨_, _, ⟨T118, L118, cc118, ss118⟩, -, X118, ⟨Lc118, hQ118, l118, y118, z118⟩, st118⟩ := X67.virtualBack hx (y := (⟨"com/example/dual_delivery/dualdelivery/store/MessageState", "getDequeueCount", "()I"⟩ : MethodName)) (z := (⟨"com/example/dual_delivery/dualdelivery/store/MessageState", "getDequeueCount", "()I"⟩ : MethodName)) hown (mvT hZ (hw _ (List.mem_of_getElem? (i := 24) rfl))) (mvT hZ (hw _ (List.mem_of_getElem? (i := 25) rfl))) (notFace_of_selects (args := #[]) (mvT hZ (hw _ (List.mem_of_getElem? (i := 27) rfl)))) (mvT hZ (hw _ (List.mem_of_getElem? (i := 27) rfl))) (mvT hZ (hw _ (List.mem_of_getElem? (i := 26) rfl))) (by decide) (backOf (W := 0) (rm4 l Z a0 hw [] b67 (p1 + (1 : Int32)) T67.heap n0 Z68 Fl67_0) hZ (hw _ (List.mem_of_getElem? (i := 28) rfl)) (hw _ (List.mem_of_getElem? (i := 2) rfl)) (by decide) (by decide)) qa118 qc118 (g := (mkF m 64 #[.val (.int p1), .val (.long q2), .second, .val (.long q3), .second, .val (.long q4), .second, .val (.long q5), .second, .val (.long q6), .second, .val (.int p1), .val (.ref b59), .val (.ref b67), .val (.int (p1 + (1 : Int32))), .val (.long q2), .second, .unset, .unset] [(.ref b67)])) rfl (by rw [hml]; rfl) (Steps.refl _) (argsL := []) (rest := []) (lenOf pd_2 rfl) rfl (by show 2 * 0 + _ ≤ _; exact Nat.le_of_eq rfl) (hb hby at_64) (fun _ _ => ⟨rfl, rfl, (by decide : 2 + 0 ≤ _), (by decide : 8 + 0 ≤ _)⟩)
      dsimp only [Pt.U, Pt.locs, Pt.cells, Pt.slots] at X118 l118 y118 z118 st118 hQ118
      subst l118 y118 z118
      obtain ⟨rfl, Nq118, eq118⟩ := hQ118
      have N118 := Fr.app N67 Nq118
      have k119 : ∀ t, own_S p e below T118 (mkF m 67 #[.val (.int p1), .val (.long q2), .second, .val (.long q3), .second, .val (.long q4), .second, .val (.long q5), .second, .val (.long q6), .second, .val (.int p1), .val (.ref b59), .val (.ref b67), .val (.int (p1 + (1 : Int32))), .val (.long q2), .second, .unset, .unset] [(.int (p1 + (1 : Int32)))]) t → Gl t := fun t kt => k117 t (st118.trans kt)
      have k120 : ∀ t, own_S p e below T118 (mkF m 69 #[.val (.int p1), .val (.long q2), .second, .val (.long q3), .second, .val (.long q4), .second, .val (.long q5), .second, .val (.long q6), .second, .val (.int p1), .val (.ref b59), .val (.ref b67), .val (.int (p1 + (1 : Int32))), .val (.long q2), .second, .unset, .unset] [(.int (p1 + (1 : Int32))), (.int (p1 + (1 : Int32)))]) t → Gl t := fun t kt => k119 t (by
        show own_S p e below T118 (mkF m 67 #[.val (.int p1), .val (.long q2), .second, .val (.long q3), .second, .val (.long q4), .second, .val (.long q5), .second, .val (.long q6), .second, .val (.int p1), .val (.ref b59), .val (.ref b67), .val (.int (p1 + (1 : Int32))), .val (.long q2), .second, .unset, .unset] [(.int (p1 + (1 : Int32)))]) _
        refine XS.iload X118.here hx rfl (hb hby at_67) rfl ?_
        exact kt)
      have hc69_121 : (p1 + (1 : Int32)) = (p1 + (1 : Int32)) := rfl
      have k122 : ∀ t, own_S p e below T118 (mkF m 74 #[.val (.int p1), .val (.long q2), .second, .val (.long q3), .second, .val (.long q4), .second, .val (.long q5), .second, .val (.long q6), .second, .val (.int p1), .val (.ref b59), .val (.ref b67), .val (.int (p1 + (1 : Int32))), .val (.long q2), .second, .unset, .unset] [(.ref b67)]) t → Gl t := fun t kt => k120 t (by
        show own_S p e below T118 (mkF m 69 #[.val (.int p1), .val (.long q2), .second, .val (.long q3), .second, .val (.long q4), .second, .val (.long q5), .second, .val (.long q6), .second, .val (.int p1), .val (.ref b59), .val (.ref b67), .val (.int (p1 + (1 : Int32))), .val (.long q2), .second, .unset, .unset] [(.int (p1 + (1 : Int32))), (.int (p1 + (1 : Int32)))]) _
        refine XS.icmpNo X118.here hx rfl (hb hby at_69) rfl (teq hc69_121).2 ?_
        show own_S p e below T118 (mkF m 72 #[.val (.int p1), .val (.long q2), .second, .val (.long q3), .second, .val (.long q4), .second, .val (.long q5), .second, .val (.long q6), .second, .val (.int p1), .val (.ref b59), .val (.ref b67), .val (.int (p1 + (1 : Int32))), .val (.long q2), .second, .unset, .unset] []) _
        refine XS.aload X118.here hx rfl (hb hby at_72) rfl rfl ?_
        exact kt)
      obtain ⟨cq123, kq123, qa123, qb123, qc123⟩ := isOf hZ eq118 Ex67
      obtain ⟨_, _, ⟨T123, L123, cc123, ss123⟩, -, X123, ⟨Lc123, hQ123, l123, y123, z123⟩, st123⟩ := X118.virtualBack hx (y := (⟨"com/example/dual_delivery/dualdelivery/store/MessageState", "getFirstDequeueMillis", "()J"⟩ : MethodName)) (z := (⟨"com/example/dual_delivery/dualdelivery/store/MessageState", "getFirstDequeueMillis", "()J"⟩ : MethodName)) hown (mvT hZ (hw _ (List.mem_of_getElem? (i := 29) rfl))) (mvT hZ (hw _ (List.mem_of_getElem? (i := 30) rfl))) (notFace_of_selects (args := #[]) (mvT hZ (hw _ (List.mem_of_getElem? (i := 32) rfl)))) (mvT hZ (hw _ (List.mem_of_getElem? (i := 32) rfl))) (mvT hZ (hw _ (List.mem_of_getElem? (i := 31) rfl))) (by decide) (backOf (W := 0) (rm5 l Z a0 hw [] b67 (if p1 = (0 : Int32) then q5 else q2) T67.heap n0 Z68 Fl67_1) hZ (hw _ (List.mem_of_getElem? (i := 33) rfl)) (hw _ (List.mem_of_getElem? (i := 2) rfl)) (by decide) (by decide)) qa123 qc123 (g := (mkF m 74 #[.val (.int p1), .val (.long q2), .second, .val (.long q3), .second, .val (.long q4), .second, .val (.long q5), .second, .val (.long q6), .second, .val (.int p1), .val (.ref b59), .val (.ref b67), .val (.int (p1 + (1 : Int32))), .val (.long q2), .second, .unset, .unset] [(.ref b67)])) rfl (by rw [hml]; rfl) (Steps.refl _) (argsL := []) (rest := []) (lenOf pd_3 rfl) rfl (by show 2 * 0 + _ ≤ _; exact Nat.le_of_eq rfl) (hb hby at_74) (fun _ _ => ⟨rfl, eq118, (by decide : 2 + 0 ≤ _), (by decide : 8 + 0 ≤ _)⟩)
      dsimp only [Pt.U, Pt.locs, Pt.cells, Pt.slots] at X123 l123 y123 z123 st123 hQ123
      subst l123 y123 z123
      obtain ⟨rfl, Nq123, eq123⟩ := hQ123
      have N123 := Fr.app N118 Nq123
      have k124 : ∀ t, own_S p e below T123 (mkF m 77 #[.val (.int p1), .val (.long q2), .second, .val (.long q3), .second, .val (.long q4), .second, .val (.long q5), .second, .val (.long q6), .second, .val (.int p1), .val (.ref b59), .val (.ref b67), .val (.int (p1 + (1 : Int32))), .val (.long q2), .second, .unset, .unset] [(.long (if p1 = (0 : Int32) then q5 else q2))]) t → Gl t := fun t kt => k122 t (st123.trans kt)
      have k125 : ∀ t, own_S p e below T123 (mkF m 80 #[.val (.int p1), .val (.long q2), .second, .val (.long q3), .second, .val (.long q4), .second, .val (.long q5), .second, .val (.long q6), .second, .val (.int p1), .val (.ref b59), .val (.ref b67), .val (.int (p1 + (1 : Int32))), .val (.long q2), .second, .unset, .unset] [(.int (lcmpW (if p1 = (0 : Int32) then q5 else q2) q2))]) t → Gl t := fun t kt => k124 t (by
        show own_S p e below T123 (mkF m 77 #[.val (.int p1), .val (.long q2), .second, .val (.long q3), .second, .val (.long q4), .second, .val (.long q5), .second, .val (.long q6), .second, .val (.int p1), .val (.ref b59), .val (.ref b67), .val (.int (p1 + (1 : Int32))), .val (.long q2), .second, .unset, .unset] [(.long (if p1 = (0 : Int32) then q5 else q2))]) _
        refine XS.lload X123.here hx rfl (hb hby at_77) rfl ?_
        show own_S p e below T123 (mkF m 79 #[.val (.int p1), .val (.long q2), .second, .val (.long q3), .second, .val (.long q4), .second, .val (.long q5), .second, .val (.long q6), .second, .val (.int p1), .val (.ref b59), .val (.ref b67), .val (.int (p1 + (1 : Int32))), .val (.long q2), .second, .unset, .unset] [(.long q2), (.long (if p1 = (0 : Int32) then q5 else q2))]) _
        refine XS.lcmp X123.here hx rfl (hb hby at_79) rfl ?_
        exact kt)
      have hc80_126 : (if p1 = (0 : Int32) then q5 else q2) = q2 := if_neg hc49
      have k127 : ∀ t, own_S p e below T123 (mkF m 85 #[.val (.int p1), .val (.long q2), .second, .val (.long q3), .second, .val (.long q4), .second, .val (.long q5), .second, .val (.long q6), .second, .val (.int p1), .val (.ref b59), .val (.ref b67), .val (.int (p1 + (1 : Int32))), .val (.long q2), .second, .unset, .unset] [(.ref b67)]) t → Gl t := fun t kt => k125 t (by
        show own_S p e below T123 (mkF m 80 #[.val (.int p1), .val (.long q2), .second, .val (.long q3), .second, .val (.long q4), .second, .val (.long q5), .second, .val (.long q6), .second, .val (.int p1), .val (.ref b59), .val (.ref b67), .val (.int (p1 + (1 : Int32))), .val (.long q2), .second, .unset, .unset] [(.int (lcmpW (if p1 = (0 : Int32) then q5 else q2) q2))]) _
        refine XS.ifNo X123.here hx rfl (hb hby at_80) rfl ((if0 _ _).trans (teq ((lw_eq (if p1 = (0 : Int32) then q5 else q2) q2).mpr hc80_126)).2) ?_
        show own_S p e below T123 (mkF m 83 #[.val (.int p1), .val (.long q2), .second, .val (.long q3), .second, .val (.long q4), .second, .val (.long q5), .second, .val (.long q6), .second, .val (.int p1), .val (.ref b59), .val (.ref b67), .val (.int (p1 + (1 : Int32))), .val (.long q2), .second, .unset, .unset] []) _
        refine XS.aload X123.here hx rfl (hb hby at_83) rfl rfl ?_
        exact kt)
      obtain ⟨cq128, kq128, qa128, qb128, qc128⟩ := isOf hZ eq123 Ex67
      obtain ⟨_, _, ⟨T128, L128, cc128, ss128⟩, -, X128, ⟨Lc128, hQ128, l128, y128, z128⟩, st128⟩ := X123.virtualBack hx (y := (⟨"com/example/dual_delivery/dualdelivery/store/MessageState", "getToken", "()J"⟩ : MethodName)) (z := (⟨"com/example/dual_delivery/dualdelivery/store/MessageState", "getToken", "()J"⟩ : MethodName)) hown (mvT hZ (hw _ (List.mem_of_getElem? (i := 34) rfl))) (mvT hZ (hw _ (List.mem_of_getElem? (i := 35) rfl))) (notFace_of_selects (args := #[]) (mvT hZ (hw _ (List.mem_of_getElem? (i := 37) rfl)))) (mvT hZ (hw _ (List.mem_of_getElem? (i := 37) rfl))) (mvT hZ (hw _ (List.mem_of_getElem? (i := 36) rfl))) (by decide) (backOf (W := 0) (rm6 l Z a0 hw [] b67 q6 T67.heap n0 Z68 Fl67_2) hZ (hw _ (List.mem_of_getElem? (i := 38) rfl)) (hw _ (List.mem_of_getElem? (i := 2) rfl)) (by decide) (by decide)) qa128 qc128 (g := (mkF m 85 #[.val (.int p1), .val (.long q2), .second, .val (.long q3), .second, .val (.long q4), .second, .val (.long q5), .second, .val (.long q6), .second, .val (.int p1), .val (.ref b59), .val (.ref b67), .val (.int (p1 + (1 : Int32))), .val (.long q2), .second, .unset, .unset] [(.ref b67)])) rfl (by rw [hml]; rfl) (Steps.refl _) (argsL := []) (rest := []) (lenOf pd_3 rfl) rfl (by show 2 * 0 + _ ≤ _; exact Nat.le_of_eq rfl) (hb hby at_85) (fun _ _ => ⟨rfl, eq123, (by decide : 2 + 0 ≤ _), (by decide : 8 + 0 ≤ _)⟩)
      dsimp only [Pt.U, Pt.locs, Pt.cells, Pt.slots] at X128 l128 y128 z128 st128 hQ128
      subst l128 y128 z128
      obtain ⟨rfl, Nq128, eq128⟩ := hQ128
      have N128 := Fr.app N123 Nq128
      have k129 : ∀ t, own_S p e below T128 (mkF m 88 #[.val (.int p1), .val (.long q2), .second, .val (.long q3), .second, .val (.long q4), .second, .val (.long q5), .second, .val (.long q6), .second, .val (.int p1), .val (.ref b59), .val (.ref b67), .val (.int (p1 + (1 : Int32))), .val (.long q2), .second, .unset, .unset] [(.long q6)]) t → Gl t := fun t kt => k127 t (st128.trans kt)
      have k130 : ∀ t, own_S p e below T128 (mkF m 91 #[.val (.int p1), .val (.long q2), .second, .val (.long q3), .second, .val (.long q4), .second, .val (.long q5), .second, .val (.long q6), .second, .val (.int p1), .val (.ref b59), .val (.ref b67), .val (.int (p1 + (1 : Int32))), .val (.long q2), .second, .unset, .unset] [(.int (lcmpW q6 q6))]) t → Gl t := fun t kt => k129 t (by
        show own_S p e below T128 (mkF m 88 #[.val (.int p1), .val (.long q2), .second, .val (.long q3), .second, .val (.long q4), .second, .val (.long q5), .second, .val (.long q6), .second, .val (.int p1), .val (.ref b59), .val (.ref b67), .val (.int (p1 + (1 : Int32))), .val (.long q2), .second, .unset, .unset] [(.long q6)]) _
        refine XS.lload X128.here hx rfl (hb hby at_88) rfl ?_
        show own_S p e below T128 (mkF m 90 #[.val (.int p1), .val (.long q2), .second, .val (.long q3), .second, .val (.long q4), .second, .val (.long q5), .second, .val (.long q6), .second, .val (.int p1), .val (.ref b59), .val (.ref b67), .val (.int (p1 + (1 : Int32))), .val (.long q2), .second, .unset, .unset] [(.long q6), (.long q6)]) _
        refine XS.lcmp X128.here hx rfl (hb hby at_90) rfl ?_
        exact kt)
      have hc91_131 : q6 = q6 := rfl
      have k132 : ∀ t, own_S p e below T128 (mkF m 96 #[.val (.int p1), .val (.long q2), .second, .val (.long q3), .second, .val (.long q4), .second, .val (.long q5), .second, .val (.long q6), .second, .val (.int p1), .val (.ref b59), .val (.ref b67), .val (.int (p1 + (1 : Int32))), .val (.long q2), .second, .unset, .unset] [(.ref b67)]) t → Gl t := fun t kt => k130 t (by
        show own_S p e below T128 (mkF m 91 #[.val (.int p1), .val (.long q2), .second, .val (.long q3), .second, .val (.long q4), .second, .val (.long q5), .second, .val (.long q6), .second, .val (.int p1), .val (.ref b59), .val (.ref b67), .val (.int (p1 + (1 : Int32))), .val (.long q2), .second, .unset, .unset] [(.int (lcmpW q6 q6))]) _
        refine XS.ifNo X128.here hx rfl (hb hby at_91) rfl ((if0 _ _).trans (teq ((lw_eq q6 q6).mpr hc91_131)).2) ?_
        show own_S p e below T128 (mkF m 94 #[.val (.int p1), .val (.long q2), .second, .val (.long q3), .second, .val (.long q4), .second, .val (.long q5), .second, .val (.long q6), .second, .val (.int p1), .val (.ref b59), .val (.ref b67), .val (.int (p1 + (1 : Int32))), .val (.long q2), .second, .unset, .unset] []) _
        refine XS.aload X128.here hx rfl (hb hby at_94) rfl rfl ?_
        exact kt)
      obtain ⟨cq133, kq133, qa133, qb133, qc133⟩ := isOf hZ eq128 Ex67
      obtain ⟨_, _, ⟨T133, L133, cc133, ss133⟩, -, X133, ⟨Lc133, hQ133, l133, y133, z133⟩, st133⟩ := X128.virtualBack hx (y := (⟨"com/example/dual_delivery/dualdelivery/store/MessageState", "getSendMillis", "()J"⟩ : MethodName)) (z := (⟨"com/example/dual_delivery/dualdelivery/store/MessageState", "getSendMillis", "()J"⟩ : MethodName)) hown (mvT hZ (hw _ (List.mem_of_getElem? (i := 39) rfl))) (mvT hZ (hw _ (List.mem_of_getElem? (i := 40) rfl))) (notFace_of_selects (args := #[]) (mvT hZ (hw _ (List.mem_of_getElem? (i := 42) rfl)))) (mvT hZ (hw _ (List.mem_of_getElem? (i := 42) rfl))) (mvT hZ (hw _ (List.mem_of_getElem? (i := 41) rfl))) (by decide) (backOf (W := 0) (rm7 l Z a0 hw [] b67 q4 T67.heap n0 Z68 Fl67_3) hZ (hw _ (List.mem_of_getElem? (i := 43) rfl)) (hw _ (List.mem_of_getElem? (i := 2) rfl)) (by decide) (by decide)) qa133 qc133 (g := (mkF m 96 #[.val (.int p1), .val (.long q2), .second, .val (.long q3), .second, .val (.long q4), .second, .val (.long q5), .second, .val (.long q6), .second, .val (.int p1), .val (.ref b59), .val (.ref b67), .val (.int (p1 + (1 : Int32))), .val (.long q2), .second, .unset, .unset] [(.ref b67)])) rfl (by rw [hml]; rfl) (Steps.refl _) (argsL := []) (rest := []) (lenOf pd_3 rfl) rfl (by show 2 * 0 + _ ≤ _; exact Nat.le_of_eq rfl) (hb hby at_96) (fun _ _ => ⟨rfl, eq128, (by decide : 2 + 0 ≤ _), (by decide : 8 + 0 ≤ _)⟩)
      dsimp only [Pt.U, Pt.locs, Pt.cells, Pt.slots] at X133 l133 y133 z133 st133 hQ133
      subst l133 y133 z133
      obtain ⟨rfl, Nq133, eq133⟩ := hQ133
      have N133 := Fr.app N128 Nq133
      have k134 : ∀ t, own_S p e below T133 (mkF m 99 #[.val (.int p1), .val (.long q2), .second, .val (.long q3), .second, .val (.long q4), .second, .val (.long q5), .second, .val (.long q6), .second, .val (.int p1), .val (.ref b59), .val (.ref b67), .val (.int (p1 + (1 : Int32))), .val (.long q2), .second, .unset, .unset] [(.long q4)]) t → Gl t := fun t kt => k132 t (st133.trans kt)
      have k135 : ∀ t, own_S p e below T133 (mkF m 102 #[.val (.int p1), .val (.long q2), .second, .val (.long q3), .second, .val (.long q4), .second, .val (.long q5), .second, .val (.long q6), .second, .val (.int p1), .val (.ref b59), .val (.ref b67), .val (.int (p1 + (1 : Int32))), .val (.long q2), .second, .unset, .unset] [(.int (lcmpW q4 q4))]) t → Gl t := fun t kt => k134 t (by
        show own_S p e below T133 (mkF m 99 #[.val (.int p1), .val (.long q2), .second, .val (.long q3), .second, .val (.long q4), .second, .val (.long q5), .second, .val (.long q6), .second, .val (.int p1), .val (.ref b59), .val (.ref b67), .val (.int (p1 + (1 : Int32))), .val (.long q2), .second, .unset, .unset] [(.long q4)]) _
        refine XS.lload X133.here hx rfl (hb hby at_99) rfl ?_
        show own_S p e below T133 (mkF m 101 #[.val (.int p1), .val (.long q2), .second, .val (.long q3), .second, .val (.long q4), .second, .val (.long q5), .second, .val (.long q6), .second, .val (.int p1), .val (.ref b59), .val (.ref b67), .val (.int (p1 + (1 : Int32))), .val (.long q2), .second, .unset, .unset] [(.long q4), (.long q4)]) _
        refine XS.lcmp X133.here hx rfl (hb hby at_101) rfl ?_
        exact kt)
      have hc102_136 : q4 = q4 := rfl
      have k137 : ∀ t, own_S p e below T133 (mkF m 114 #[.val (.int p1), .val (.long q2), .second, .val (.long q3), .second, .val (.long q4), .second, .val (.long q5), .second, .val (.long q6), .second, .val (.int p1), .val (.ref b59), .val (.ref b67), .val (.int (p1 + (1 : Int32))), .val (.long q2), .second, .val (.int (1 : Int32)), .unset] [(.ref b59)]) t → Gl t := fun t kt => k135 t (by
        show own_S p e below T133 (mkF m 102 #[.val (.int p1), .val (.long q2), .second, .val (.long q3), .second, .val (.long q4), .second, .val (.long q5), .second, .val (.long q6), .second, .val (.int p1), .val (.ref b59), .val (.ref b67), .val (.int (p1 + (1 : Int32))), .val (.long q2), .second, .unset, .unset] [(.int (lcmpW q4 q4))]) _
        refine XS.ifNo X133.here hx rfl (hb hby at_102) rfl ((if0 _ _).trans (teq ((lw_eq q4 q4).mpr hc102_136)).2) ?_
        show own_S p e below T133 (mkF m 105 #[.val (.int p1), .val (.long q2), .second, .val (.long q3), .second, .val (.long q4), .second, .val (.long q5), .second, .val (.long q6), .second, .val (.int p1), .val (.ref b59), .val (.ref b67), .val (.int (p1 + (1 : Int32))), .val (.long q2), .second, .unset, .unset] []) _
        refine XS.iconst X133.here hx rfl (hb hby at_105) ?_
        show own_S p e below T133 (mkF m 106 #[.val (.int p1), .val (.long q2), .second, .val (.long q3), .second, .val (.long q4), .second, .val (.long q5), .second, .val (.long q6), .second, .val (.int p1), .val (.ref b59), .val (.ref b67), .val (.int (p1 + (1 : Int32))), .val (.long q2), .second, .unset, .unset] [(.int (1 : Int32))]) _
        refine XS.goto X133.here hx rfl (pc0 := 106) (pc' := 110) rfl (hb hby at_106) (by decide) (by decide) ?_
        show own_S p e below T133 (mkF m 110 #[.val (.int p1), .val (.long q2), .second, .val (.long q3), .second, .val (.long q4), .second, .val (.long q5), .second, .val (.long q6), .second, .val (.int p1), .val (.ref b59), .val (.ref b67), .val (.int (p1 + (1 : Int32))), .val (.long q2), .second, .unset, .unset] [(.int (1 : Int32))]) _
        refine XS.istore X133.here hx rfl (hb hby at_110) rfl (l' := #[.val (.int p1), .val (.long q2), .second, .val (.long q3), .second, .val (.long q4), .second, .val (.long q5), .second, .val (.long q6), .second, .val (.int p1), .val (.ref b59), .val (.ref b67), .val (.int (p1 + (1 : Int32))), .val (.long q2), .second, .val (.int (1 : Int32)), .unset]) rfl ?_
        show own_S p e below T133 (mkF m 112 #[.val (.int p1), .val (.long q2), .second, .val (.long q3), .second, .val (.long q4), .second, .val (.long q5), .second, .val (.long q6), .second, .val (.int p1), .val (.ref b59), .val (.ref b67), .val (.int (p1 + (1 : Int32))), .val (.long q2), .second, .val (.int (1 : Int32)), .unset] []) _
        refine XS.aload X133.here hx rfl (hb hby at_112) rfl rfl ?_
        exact kt)
      have f139 := (Fl63_0.keep K67 nin0)
      have f140 := (Ex63.keep K67)
      obtain ⟨cq138, kq138, qa138, qb138, qc138⟩ := isOf hZ eq133 f140
      obtain ⟨_, _, ⟨T138, L138, cc138, ss138⟩, -, X138, ⟨Lc138, hQ138, l138, y138, z138⟩, st138⟩ := X133.virtualBack hx (y := (⟨"com/example/dual_delivery/dualdelivery/store/MessageState", "getDequeueCount", "()I"⟩ : MethodName)) (z := (⟨"com/example/dual_delivery/dualdelivery/store/MessageState", "getDequeueCount", "()I"⟩ : MethodName)) hown (mvT hZ (hw _ (List.mem_of_getElem? (i := 24) rfl))) (mvT hZ (hw _ (List.mem_of_getElem? (i := 25) rfl))) (notFace_of_selects (args := #[]) (mvT hZ (hw _ (List.mem_of_getElem? (i := 27) rfl)))) (mvT hZ (hw _ (List.mem_of_getElem? (i := 27) rfl))) (mvT hZ (hw _ (List.mem_of_getElem? (i := 26) rfl))) (by decide) (backOf (W := 0) (rm4 l Z a0 hw [] b59 p1 T67.heap n0 Z68 f139) hZ (hw _ (List.mem_of_getElem? (i := 28) rfl)) (hw _ (List.mem_of_getElem? (i := 2) rfl)) (by decide) (by decide)) qa138 qc138 (g := (mkF m 114 #[.val (.int p1), .val (.long q2), .second, .val (.long q3), .second, .val (.long q4), .second, .val (.long q5), .second, .val (.long q6), .second, .val (.int p1), .val (.ref b59), .val (.ref b67), .val (.int (p1 + (1 : Int32))), .val (.long q2), .second, .val (.int (1 : Int32)), .unset] [(.ref b59)])) rfl (by rw [hml]; rfl) (Steps.refl _) (argsL := []) (rest := []) (lenOf pd_2 rfl) rfl (by show 2 * 0 + _ ≤ _; exact Nat.le_of_eq rfl) (hb hby at_114) (fun _ _ => ⟨rfl, eq133, (by decide : 2 + 0 ≤ _), (by decide : 8 + 0 ≤ _)⟩)
      dsimp only [Pt.U, Pt.locs, Pt.cells, Pt.slots] at X138 l138 y138 z138 st138 hQ138
      subst l138 y138 z138
      obtain ⟨rfl, Nq138, eq138⟩ := hQ138
      have N138 := Fr.app N133 Nq138
      have k141 : ∀ t, own_S p e below T138 (mkF m 117 #[.val (.int p1), .val (.long q2), .second, .val (.long q3), .second, .val (.long q4), .second, .val (.long q5), .second, .val (.long q6), .second, .val (.int p1), .val (.ref b59), .val (.ref b67), .val (.int (p1 + (1 : Int32))), .val (.long q2), .second, .val (.int (1 : Int32)), .unset] [(.int p1)]) t → Gl t := fun t kt => k137 t (st138.trans kt)
      have k142 : ∀ t, own_S p e below T138 (mkF m 119 #[.val (.int p1), .val (.long q2), .second, .val (.long q3), .second, .val (.long q4), .second, .val (.long q5), .second, .val (.long q6), .second, .val (.int p1), .val (.ref b59), .val (.ref b67), .val (.int (p1 + (1 : Int32))), .val (.long q2), .second, .val (.int (1 : Int32)), .unset] [(.int p1), (.int p1)]) t → Gl t := fun t kt => k141 t (by
        show own_S p e below T138 (mkF m 117 #[.val (.int p1), .val (.long q2), .second, .val (.long q3), .second, .val (.long q4), .second, .val (.long q5), .second, .val (.long q6), .second, .val (.int p1), .val (.ref b59), .val (.ref b67), .val (.int (p1 + (1 : Int32))), .val (.long q2), .second, .val (.int (1 : Int32)), .unset] [(.int p1)]) _
        refine XS.iload X138.here hx rfl (hb hby at_117) rfl ?_
        exact kt)
      have hc119_143 : p1 = p1 := rfl
      have k144 : ∀ t, own_S p e below T138 (mkF m 124 #[.val (.int p1), .val (.long q2), .second, .val (.long q3), .second, .val (.long q4), .second, .val (.long q5), .second, .val (.long q6), .second, .val (.int p1), .val (.ref b59), .val (.ref b67), .val (.int (p1 + (1 : Int32))), .val (.long q2), .second, .val (.int (1 : Int32)), .unset] [(.ref b59)]) t → Gl t := fun t kt => k142 t (by
        show own_S p e below T138 (mkF m 119 #[.val (.int p1), .val (.long q2), .second, .val (.long q3), .second, .val (.long q4), .second, .val (.long q5), .second, .val (.long q6), .second, .val (.int p1), .val (.ref b59), .val (.ref b67), .val (.int (p1 + (1 : Int32))), .val (.long q2), .second, .val (.int (1 : Int32)), .unset] [(.int p1), (.int p1)]) _
        refine XS.icmpNo X138.here hx rfl (hb hby at_119) rfl (teq hc119_143).2 ?_
        show own_S p e below T138 (mkF m 122 #[.val (.int p1), .val (.long q2), .second, .val (.long q3), .second, .val (.long q4), .second, .val (.long q5), .second, .val (.long q6), .second, .val (.int p1), .val (.ref b59), .val (.ref b67), .val (.int (p1 + (1 : Int32))), .val (.long q2), .second, .val (.int (1 : Int32)), .unset] []) _
        refine XS.aload X138.here hx rfl (hb hby at_122) rfl rfl ?_
        exact kt)
      have f146 := (Fl63_1.keep K67 nin0)
      obtain ⟨cq145, kq145, qa145, qb145, qc145⟩ := isOf hZ eq138 f140
      obtain ⟨_, _, ⟨T145, L145, cc145, ss145⟩, -, X145, ⟨Lc145, hQ145, l145, y145, z145⟩, st145⟩ := X138.virtualBack hx (y := (⟨"com/example/dual_delivery/dualdelivery/store/MessageState", "getFirstDequeueMillis", "()J"⟩ : MethodName)) (z := (⟨"com/example/dual_delivery/dualdelivery/store/MessageState", "getFirstDequeueMillis", "()J"⟩ : MethodName)) hown (mvT hZ (hw _ (List.mem_of_getElem? (i := 29) rfl))) (mvT hZ (hw _ (List.mem_of_getElem? (i := 30) rfl))) (notFace_of_selects (args := #[]) (mvT hZ (hw _ (List.mem_of_getElem? (i := 32) rfl)))) (mvT hZ (hw _ (List.mem_of_getElem? (i := 32) rfl))) (mvT hZ (hw _ (List.mem_of_getElem? (i := 31) rfl))) (by decide) (backOf (W := 0) (rm5 l Z a0 hw [] b59 q2 T67.heap n0 Z68 f146) hZ (hw _ (List.mem_of_getElem? (i := 33) rfl)) (hw _ (List.mem_of_getElem? (i := 2) rfl)) (by decide) (by decide)) qa145 qc145 (g := (mkF m 124 #[.val (.int p1), .val (.long q2), .second, .val (.long q3), .second, .val (.long q4), .second, .val (.long q5), .second, .val (.long q6), .second, .val (.int p1), .val (.ref b59), .val (.ref b67), .val (.int (p1 + (1 : Int32))), .val (.long q2), .second, .val (.int (1 : Int32)), .unset] [(.ref b59)])) rfl (by rw [hml]; rfl) (Steps.refl _) (argsL := []) (rest := []) (lenOf pd_3 rfl) rfl (by show 2 * 0 + _ ≤ _; exact Nat.le_of_eq rfl) (hb hby at_124) (fun _ _ => ⟨rfl, eq138, (by decide : 2 + 0 ≤ _), (by decide : 8 + 0 ≤ _)⟩)
      dsimp only [Pt.U, Pt.locs, Pt.cells, Pt.slots] at X145 l145 y145 z145 st145 hQ145
      subst l145 y145 z145
      obtain ⟨rfl, Nq145, eq145⟩ := hQ145
      have N145 := Fr.app N138 Nq145
      have k147 : ∀ t, own_S p e below T145 (mkF m 127 #[.val (.int p1), .val (.long q2), .second, .val (.long q3), .second, .val (.long q4), .second, .val (.long q5), .second, .val (.long q6), .second, .val (.int p1), .val (.ref b59), .val (.ref b67), .val (.int (p1 + (1 : Int32))), .val (.long q2), .second, .val (.int (1 : Int32)), .unset] [(.long q2)]) t → Gl t := fun t kt => k144 t (st145.trans kt)
      have k148 : ∀ t, own_S p e below T145 (mkF m 129 #[.val (.int p1), .val (.long q2), .second, .val (.long q3), .second, .val (.long q4), .second, .val (.long q5), .second, .val (.long q6), .second, .val (.int p1), .val (.ref b59), .val (.ref b67), .val (.int (p1 + (1 : Int32))), .val (.long q2), .second, .val (.int (1 : Int32)), .unset] [(.int (lcmpW q2 q2))]) t → Gl t := fun t kt => k147 t (by
        show own_S p e below T145 (mkF m 127 #[.val (.int p1), .val (.long q2), .second, .val (.long q3), .second, .val (.long q4), .second, .val (.long q5), .second, .val (.long q6), .second, .val (.int p1), .val (.ref b59), .val (.ref b67), .val (.int (p1 + (1 : Int32))), .val (.long q2), .second, .val (.int (1 : Int32)), .unset] [(.long q2)]) _
        refine XS.lloadN X145.here hx rfl (hb hby at_127) rfl ?_
        show own_S p e below T145 (mkF m 128 #[.val (.int p1), .val (.long q2), .second, .val (.long q3), .second, .val (.long q4), .second, .val (.long q5), .second, .val (.long q6), .second, .val (.int p1), .val (.ref b59), .val (.ref b67), .val (.int (p1 + (1 : Int32))), .val (.long q2), .second, .val (.int (1 : Int32)), .unset] [(.long q2), (.long q2)]) _
        refine XS.lcmp X145.here hx rfl (hb hby at_128) rfl ?_
        exact kt)
      have hc129_149 : q2 = q2 := rfl
      have k150 : ∀ t, own_S p e below T145 (mkF m 134 #[.val (.int p1), .val (.long q2), .second, .val (.long q3), .second, .val (.long q4), .second, .val (.long q5), .second, .val (.long q6), .second, .val (.int p1), .val (.ref b59), .val (.ref b67), .val (.int (p1 + (1 : Int32))), .val (.long q2), .second, .val (.int (1 : Int32)), .unset] [(.ref b59)]) t → Gl t := fun t kt => k148 t (by
        show own_S p e below T145 (mkF m 129 #[.val (.int p1), .val (.long q2), .second, .val (.long q3), .second, .val (.long q4), .second, .val (.long q5), .second, .val (.long q6), .second, .val (.int p1), .val (.ref b59), .val (.ref b67), .val (.int (p1 + (1 : Int32))), .val (.long q2), .second, .val (.int (1 : Int32)), .unset] [(.int (lcmpW q2 q2))]) _
        refine XS.ifNo X145.here hx rfl (hb hby at_129) rfl ((if0 _ _).trans (teq ((lw_eq q2 q2).mpr hc129_149)).2) ?_
        show own_S p e below T145 (mkF m 132 #[.val (.int p1), .val (.long q2), .second, .val (.long q3), .second, .val (.long q4), .second, .val (.long q5), .second, .val (.long q6), .second, .val (.int p1), .val (.ref b59), .val (.ref b67), .val (.int (p1 + (1 : Int32))), .val (.long q2), .second, .val (.int (1 : Int32)), .unset] []) _
        refine XS.aload X145.here hx rfl (hb hby at_132) rfl rfl ?_
        exact kt)
      have f152 := (Fl63_2.keep K67 nin0)
      obtain ⟨cq151, kq151, qa151, qb151, qc151⟩ := isOf hZ eq145 f140
      obtain ⟨_, _, ⟨T151, L151, cc151, ss151⟩, -, X151, ⟨Lc151, hQ151, l151, y151, z151⟩, st151⟩ := X145.virtualBack hx (y := (⟨"com/example/dual_delivery/dualdelivery/store/MessageState", "getToken", "()J"⟩ : MethodName)) (z := (⟨"com/example/dual_delivery/dualdelivery/store/MessageState", "getToken", "()J"⟩ : MethodName)) hown (mvT hZ (hw _ (List.mem_of_getElem? (i := 34) rfl))) (mvT hZ (hw _ (List.mem_of_getElem? (i := 35) rfl))) (notFace_of_selects (args := #[]) (mvT hZ (hw _ (List.mem_of_getElem? (i := 37) rfl)))) (mvT hZ (hw _ (List.mem_of_getElem? (i := 37) rfl))) (mvT hZ (hw _ (List.mem_of_getElem? (i := 36) rfl))) (by decide) (backOf (W := 0) (rm6 l Z a0 hw [] b59 q3 T67.heap n0 Z68 f152) hZ (hw _ (List.mem_of_getElem? (i := 38) rfl)) (hw _ (List.mem_of_getElem? (i := 2) rfl)) (by decide) (by decide)) qa151 qc151 (g := (mkF m 134 #[.val (.int p1), .val (.long q2), .second, .val (.long q3), .second, .val (.long q4), .second, .val (.long q5), .second, .val (.long q6), .second, .val (.int p1), .val (.ref b59), .val (.ref b67), .val (.int (p1 + (1 : Int32))), .val (.long q2), .second, .val (.int (1 : Int32)), .unset] [(.ref b59)])) rfl (by rw [hml]; rfl) (Steps.refl _) (argsL := []) (rest := []) (lenOf pd_3 rfl) rfl (by show 2 * 0 + _ ≤ _; exact Nat.le_of_eq rfl) (hb hby at_134) (fun _ _ => ⟨rfl, eq145, (by decide : 2 + 0 ≤ _), (by decide : 8 + 0 ≤ _)⟩)
      dsimp only [Pt.U, Pt.locs, Pt.cells, Pt.slots] at X151 l151 y151 z151 st151 hQ151
      subst l151 y151 z151
      obtain ⟨rfl, Nq151, eq151⟩ := hQ151
      have N151 := Fr.app N145 Nq151
      have k153 : ∀ t, own_S p e below T151 (mkF m 137 #[.val (.int p1), .val (.long q2), .second, .val (.long q3), .second, .val (.long q4), .second, .val (.long q5), .second, .val (.long q6), .second, .val (.int p1), .val (.ref b59), .val (.ref b67), .val (.int (p1 + (1 : Int32))), .val (.long q2), .second, .val (.int (1 : Int32)), .unset] [(.long q3)]) t → Gl t := fun t kt => k150 t (st151.trans kt)
      have k154 : ∀ t, own_S p e below T151 (mkF m 139 #[.val (.int p1), .val (.long q2), .second, .val (.long q3), .second, .val (.long q4), .second, .val (.long q5), .second, .val (.long q6), .second, .val (.int p1), .val (.ref b59), .val (.ref b67), .val (.int (p1 + (1 : Int32))), .val (.long q2), .second, .val (.int (1 : Int32)), .unset] [(.int (lcmpW q3 q3))]) t → Gl t := fun t kt => k153 t (by
        show own_S p e below T151 (mkF m 137 #[.val (.int p1), .val (.long q2), .second, .val (.long q3), .second, .val (.long q4), .second, .val (.long q5), .second, .val (.long q6), .second, .val (.int p1), .val (.ref b59), .val (.ref b67), .val (.int (p1 + (1 : Int32))), .val (.long q2), .second, .val (.int (1 : Int32)), .unset] [(.long q3)]) _
        refine XS.lloadN X151.here hx rfl (hb hby at_137) rfl ?_
        show own_S p e below T151 (mkF m 138 #[.val (.int p1), .val (.long q2), .second, .val (.long q3), .second, .val (.long q4), .second, .val (.long q5), .second, .val (.long q6), .second, .val (.int p1), .val (.ref b59), .val (.ref b67), .val (.int (p1 + (1 : Int32))), .val (.long q2), .second, .val (.int (1 : Int32)), .unset] [(.long q3), (.long q3)]) _
        refine XS.lcmp X151.here hx rfl (hb hby at_138) rfl ?_
        exact kt)
      have hc139_155 : q3 = q3 := rfl
      have k156 : ∀ t, own_S p e below T151 (mkF m 144 #[.val (.int p1), .val (.long q2), .second, .val (.long q3), .second, .val (.long q4), .second, .val (.long q5), .second, .val (.long q6), .second, .val (.int p1), .val (.ref b59), .val (.ref b67), .val (.int (p1 + (1 : Int32))), .val (.long q2), .second, .val (.int (1 : Int32)), .unset] [(.ref b59)]) t → Gl t := fun t kt => k154 t (by
        show own_S p e below T151 (mkF m 139 #[.val (.int p1), .val (.long q2), .second, .val (.long q3), .second, .val (.long q4), .second, .val (.long q5), .second, .val (.long q6), .second, .val (.int p1), .val (.ref b59), .val (.ref b67), .val (.int (p1 + (1 : Int32))), .val (.long q2), .second, .val (.int (1 : Int32)), .unset] [(.int (lcmpW q3 q3))]) _
        refine XS.ifNo X151.here hx rfl (hb hby at_139) rfl ((if0 _ _).trans (teq ((lw_eq q3 q3).mpr hc139_155)).2) ?_
        show own_S p e below T151 (mkF m 142 #[.val (.int p1), .val (.long q2), .second, .val (.long q3), .second, .val (.long q4), .second, .val (.long q5), .second, .val (.long q6), .second, .val (.int p1), .val (.ref b59), .val (.ref b67), .val (.int (p1 + (1 : Int32))), .val (.long q2), .second, .val (.int (1 : Int32)), .unset] []) _
        refine XS.aload X151.here hx rfl (hb hby at_142) rfl rfl ?_
        exact kt)
      have f158 := (Fl63_3.keep K67 nin0)
      obtain ⟨cq157, kq157, qa157, qb157, qc157⟩ := isOf hZ eq151 f140
      obtain ⟨_, _, ⟨T157, L157, cc157, ss157⟩, -, X157, ⟨Lc157, hQ157, l157, y157, z157⟩, st157⟩ := X151.virtualBack hx (y := (⟨"com/example/dual_delivery/dualdelivery/store/MessageState", "getSendMillis", "()J"⟩ : MethodName)) (z := (⟨"com/example/dual_delivery/dualdelivery/store/MessageState", "getSendMillis", "()J"⟩ : MethodName)) hown (mvT hZ (hw _ (List.mem_of_getElem? (i := 39) rfl))) (mvT hZ (hw _ (List.mem_of_getElem? (i := 40) rfl))) (notFace_of_selects (args := #[]) (mvT hZ (hw _ (List.mem_of_getElem? (i := 42) rfl)))) (mvT hZ (hw _ (List.mem_of_getElem? (i := 42) rfl))) (mvT hZ (hw _ (List.mem_of_getElem? (i := 41) rfl))) (by decide) (backOf (W := 0) (rm7 l Z a0 hw [] b59 q4 T67.heap n0 Z68 f158) hZ (hw _ (List.mem_of_getElem? (i := 43) rfl)) (hw _ (List.mem_of_getElem? (i := 2) rfl)) (by decide) (by decide)) qa157 qc157 (g := (mkF m 144 #[.val (.int p1), .val (.long q2), .second, .val (.long q3), .second, .val (.long q4), .second, .val (.long q5), .second, .val (.long q6), .second, .val (.int p1), .val (.ref b59), .val (.ref b67), .val (.int (p1 + (1 : Int32))), .val (.long q2), .second, .val (.int (1 : Int32)), .unset] [(.ref b59)])) rfl (by rw [hml]; rfl) (Steps.refl _) (argsL := []) (rest := []) (lenOf pd_3 rfl) rfl (by show 2 * 0 + _ ≤ _; exact Nat.le_of_eq rfl) (hb hby at_144) (fun _ _ => ⟨rfl, eq151, (by decide : 2 + 0 ≤ _), (by decide : 8 + 0 ≤ _)⟩)
      dsimp only [Pt.U, Pt.locs, Pt.cells, Pt.slots] at X157 l157 y157 z157 st157 hQ157
      subst l157 y157 z157
      obtain ⟨rfl, Nq157, eq157⟩ := hQ157
      have N157 := Fr.app N151 Nq157
      have k159 : ∀ t, own_S p e below T157 (mkF m 147 #[.val (.int p1), .val (.long q2), .second, .val (.long q3), .second, .val (.long q4), .second, .val (.long q5), .second, .val (.long q6), .second, .val (.int p1), .val (.ref b59), .val (.ref b67), .val (.int (p1 + (1 : Int32))), .val (.long q2), .second, .val (.int (1 : Int32)), .unset] [(.long q4)]) t → Gl t := fun t kt => k156 t (st157.trans kt)
      have k160 : ∀ t, own_S p e below T157 (mkF m 150 #[.val (.int p1), .val (.long q2), .second, .val (.long q3), .second, .val (.long q4), .second, .val (.long q5), .second, .val (.long q6), .second, .val (.int p1), .val (.ref b59), .val (.ref b67), .val (.int (p1 + (1 : Int32))), .val (.long q2), .second, .val (.int (1 : Int32)), .unset] [(.int (lcmpW q4 q4))]) t → Gl t := fun t kt => k159 t (by
        show own_S p e below T157 (mkF m 147 #[.val (.int p1), .val (.long q2), .second, .val (.long q3), .second, .val (.long q4), .second, .val (.long q5), .second, .val (.long q6), .second, .val (.int p1), .val (.ref b59), .val (.ref b67), .val (.int (p1 + (1 : Int32))), .val (.long q2), .second, .val (.int (1 : Int32)), .unset] [(.long q4)]) _
        refine XS.lload X157.here hx rfl (hb hby at_147) rfl ?_
        show own_S p e below T157 (mkF m 149 #[.val (.int p1), .val (.long q2), .second, .val (.long q3), .second, .val (.long q4), .second, .val (.long q5), .second, .val (.long q6), .second, .val (.int p1), .val (.ref b59), .val (.ref b67), .val (.int (p1 + (1 : Int32))), .val (.long q2), .second, .val (.int (1 : Int32)), .unset] [(.long q4), (.long q4)]) _
        refine XS.lcmp X157.here hx rfl (hb hby at_149) rfl ?_
        exact kt)
      have hc150_161 : q4 = q4 := rfl
      have k162 : ∀ t, own_S p e below T157 (mkF m 175 #[.val (.int p1), .val (.long q2), .second, .val (.long q3), .second, .val (.long q4), .second, .val (.long q5), .second, .val (.long q6), .second, .val (.int p1), .val (.ref b59), .val (.ref b67), .val (.int (p1 + (1 : Int32))), .val (.long q2), .second, .val (.int (1 : Int32)), .val (.int (1 : Int32))] [(.int (1 : Int32))]) t → Gl t := fun t kt => k160 t (by
        show own_S p e below T157 (mkF m 150 #[.val (.int p1), .val (.long q2), .second, .val (.long q3), .second, .val (.long q4), .second, .val (.long q5), .second, .val (.long q6), .second, .val (.int p1), .val (.ref b59), .val (.ref b67), .val (.int (p1 + (1 : Int32))), .val (.long q2), .second, .val (.int (1 : Int32)), .unset] [(.int (lcmpW q4 q4))]) _
        refine XS.ifNo X157.here hx rfl (hb hby at_150) rfl ((if0 _ _).trans (teq ((lw_eq q4 q4).mpr hc150_161)).2) ?_
        show own_S p e below T157 (mkF m 153 #[.val (.int p1), .val (.long q2), .second, .val (.long q3), .second, .val (.long q4), .second, .val (.long q5), .second, .val (.long q6), .second, .val (.int p1), .val (.ref b59), .val (.ref b67), .val (.int (p1 + (1 : Int32))), .val (.long q2), .second, .val (.int (1 : Int32)), .unset] []) _
        refine XS.iconst X157.here hx rfl (hb hby at_153) ?_
        show own_S p e below T157 (mkF m 154 #[.val (.int p1), .val (.long q2), .second, .val (.long q3), .second, .val (.long q4), .second, .val (.long q5), .second, .val (.long q6), .second, .val (.int p1), .val (.ref b59), .val (.ref b67), .val (.int (p1 + (1 : Int32))), .val (.long q2), .second, .val (.int (1 : Int32)), .unset] [(.int (1 : Int32))]) _
        refine XS.goto X157.here hx rfl (pc0 := 154) (pc' := 158) rfl (hb hby at_154) (by decide) (by decide) ?_
        show own_S p e below T157 (mkF m 158 #[.val (.int p1), .val (.long q2), .second, .val (.long q3), .second, .val (.long q4), .second, .val (.long q5), .second, .val (.long q6), .second, .val (.int p1), .val (.ref b59), .val (.ref b67), .val (.int (p1 + (1 : Int32))), .val (.long q2), .second, .val (.int (1 : Int32)), .unset] [(.int (1 : Int32))]) _
        refine XS.istore X157.here hx rfl (hb hby at_158) rfl (l' := #[.val (.int p1), .val (.long q2), .second, .val (.long q3), .second, .val (.long q4), .second, .val (.long q5), .second, .val (.long q6), .second, .val (.int p1), .val (.ref b59), .val (.ref b67), .val (.int (p1 + (1 : Int32))), .val (.long q2), .second, .val (.int (1 : Int32)), .val (.int (1 : Int32))]) rfl ?_
        show own_S p e below T157 (mkF m 160 #[.val (.int p1), .val (.long q2), .second, .val (.long q3), .second, .val (.long q4), .second, .val (.long q5), .second, .val (.long q6), .second, .val (.int p1), .val (.ref b59), .val (.ref b67), .val (.int (p1 + (1 : Int32))), .val (.long q2), .second, .val (.int (1 : Int32)), .val (.int (1 : Int32))] []) _
        refine XS.iload X157.here hx rfl (hb hby at_160) rfl ?_
        show own_S p e below T157 (mkF m 162 #[.val (.int p1), .val (.long q2), .second, .val (.long q3), .second, .val (.long q4), .second, .val (.long q5), .second, .val (.long q6), .second, .val (.int p1), .val (.ref b59), .val (.ref b67), .val (.int (p1 + (1 : Int32))), .val (.long q2), .second, .val (.int (1 : Int32)), .val (.int (1 : Int32))] [(.int (1 : Int32))]) _
        refine XS.ifNo X157.here hx rfl (hb hby at_162) rfl ((if0 _ _).trans (feq (by decide : ¬ ((1 : Int32) = (0 : Int32)))).1) ?_
        show own_S p e below T157 (mkF m 165 #[.val (.int p1), .val (.long q2), .second, .val (.long q3), .second, .val (.long q4), .second, .val (.long q5), .second, .val (.long q6), .second, .val (.int p1), .val (.ref b59), .val (.ref b67), .val (.int (p1 + (1 : Int32))), .val (.long q2), .second, .val (.int (1 : Int32)), .val (.int (1 : Int32))] []) _
        refine XS.iload X157.here hx rfl (hb hby at_165) rfl ?_
        show own_S p e below T157 (mkF m 167 #[.val (.int p1), .val (.long q2), .second, .val (.long q3), .second, .val (.long q4), .second, .val (.long q5), .second, .val (.long q6), .second, .val (.int p1), .val (.ref b59), .val (.ref b67), .val (.int (p1 + (1 : Int32))), .val (.long q2), .second, .val (.int (1 : Int32)), .val (.int (1 : Int32))] [(.int (1 : Int32))]) _
        refine XS.ifNo X157.here hx rfl (hb hby at_167) rfl ((if0 _ _).trans (feq (by decide : ¬ ((1 : Int32) = (0 : Int32)))).1) ?_
        show own_S p e below T157 (mkF m 170 #[.val (.int p1), .val (.long q2), .second, .val (.long q3), .second, .val (.long q4), .second, .val (.long q5), .second, .val (.long q6), .second, .val (.int p1), .val (.ref b59), .val (.ref b67), .val (.int (p1 + (1 : Int32))), .val (.long q2), .second, .val (.int (1 : Int32)), .val (.int (1 : Int32))] []) _
        refine XS.iconst X157.here hx rfl (hb hby at_170) ?_
        show own_S p e below T157 (mkF m 171 #[.val (.int p1), .val (.long q2), .second, .val (.long q3), .second, .val (.long q4), .second, .val (.long q5), .second, .val (.long q6), .second, .val (.int p1), .val (.ref b59), .val (.ref b67), .val (.int (p1 + (1 : Int32))), .val (.long q2), .second, .val (.int (1 : Int32)), .val (.int (1 : Int32))] [(.int (1 : Int32))]) _
        refine XS.goto X157.here hx rfl (pc0 := 171) (pc' := 175) rfl (hb hby at_171) (by decide) (by decide) ?_
        exact kt)
      obtain ⟨fs, hr, hrun, hended, hW, hsame⟩ := X157.leave (v := some (.int (1 : Int32))) (fun h => by rw [Bd.returns] at h; cases h)
      refine ⟨_, _, hGl _ (k162 _ (retN X157 hx (t := .boolean) Bd.returns (by simp) (hb hby at_175) hr)), hrun, hended, _, _, rfl, ?_, ⟨_, rfl⟩, hW, hsame.mono (by decide) (by decide)⟩
      show Q0 Z p1 q2 q3 q4 q5 q6 h0 n0 _ T157.heap _
      rw [eq157]
      exact ⟨rfl, N157⟩

set_option maxRecDepth 65536 in
set_option maxHeartbeats 40000000 in
theorem comes_1 {Post : Tables → Env → Array Value → State → Outcome → State → Prop} (hpost : ∀ tb e args s v u, (limb_1_1.after args s (.returned v) u = true ∧ limb_1_2.after args s (.returned v) u = true ∧ True) → FrameEnd s (.returned v) u (Jvm.fieldLocs frame_1_writes args s ++ Jvm.arrayLocs frame_1_arrays args s ++ Jvm.staticLocs frame_1_statics s) 16 128 → Post tb e args s (.returned v) u) :
    ArmFor flags0 classFile x code maxLocals ret World_1 tables_1 room_1 Calls_1 rest_1 Pre_1 Post := by
  intro l hfl _ _ p e ha hc hk s m args below hf hA hF happ hP
  obtain ⟨hcalls, hrest, hpre⟩ := hP
  obtain ⟨-, -, -, hnamed, -, -, -, hat⟩ := (Spec.applies_iff hf).mp happ
  obtain ⟨hg, hn⟩ := and_e (Cond.before_iff.mp (show (Jvm.Cond.and given_1 narrow_1).before args s = true from hpre))
  obtain ⟨gc, gr0⟩ := and_e hg
  obtain ⟨ga0, gr1⟩ := and_e gr0
  obtain ⟨ga1, gr2⟩ := and_e gr1
  obtain ⟨ga2, gr3⟩ := and_e gr2
  obtain ⟨ga3, gr4⟩ := and_e gr3
  obtain ⟨ga4, gr5⟩ := and_e gr4
  obtain ⟨w0, w1, w2, w3, w4, w5, rfl⟩ : ∃ w0 w1 w2 w3 w4 w5 : Value, args = #[w0, w1, w2, w3, w4, w5] := by
    have hs : args.size = 6 := by simpa [Cond.value, given_1] using gc
    obtain ⟨L⟩ := args
    match L, hs with
    | [w0, w1, w2, w3, w4, w5], _ => exact ⟨w0, w1, w2, w3, w4, w5, rfl⟩
  have hw := fun d (hd : d ∈ tables_1) => atoms_spec (ws := Jvm.Cond.code x code maxLocals ret :: tables_1) hat d (List.mem_cons_of_mem _ hd)
  have hfit : Fit s := fun {y c} hc i hi => by
    obtain ⟨ha, rfl⟩ := Array.getElem?_eq_some_iff.mp hc
    have q := List.all_eq_true.mp ((Array.all_eq_true_iff_forall_mem.mp hF) _ (Array.getElem_mem ha)) i (List.mem_range.mpr hi)
    simpa [Array.getElem?_eq_getElem hi] using q
  obtain ⟨i0, ei0⟩ := is_v ga0
  obtain rfl : w0 = (.int i0) := Option.some.inj ei0
  obtain ⟨i1, ei1⟩ := isL_v ga1
  obtain rfl : w1 = (.long i1) := Option.some.inj ei1
  obtain ⟨i2, ei2⟩ := isL_v ga2
  obtain rfl : w2 = (.long i2) := Option.some.inj ei2
  obtain ⟨i3, ei3⟩ := isL_v ga3
  obtain rfl : w3 = (.long i3) := Option.some.inj ei3
  obtain ⟨i4, ei4⟩ := isL_v ga4
  obtain rfl : w4 = (.long i4) := Option.some.inj ei4
  obtain ⟨i5, ei5⟩ := isL_v gr5
  obtain rfl : w5 = (.long i5) := Option.some.inj ei5
  obtain ⟨n, o, h1, h2, h3, _, L, rfl, ⟨rfl, N⟩, hq⟩ := rm0 l s _ hw tables_1 i0 i1 i2 i3 i4 i5  s.heap s.heap.size (Nat.le_refl _)  p e ha hc hk s m _ below hf ((Spec.applies_iff_loose hf).mp happ).1 ⟨rfl, State.Warmed39.refl s, rfl⟩ trivial
  refine ⟨n, _, h1, h2, h3, hpost _ _ _ _ _ _ ⟨Cond.after_iff.mpr rfl, Cond.after_iff.mpr (eq_i res_at (Term.int_eval (1)) rfl), trivial⟩ ⟨hq.1, hq.2.1, (hq.2.2.sift fun y hy => Or.inr (N y hy)).mono (by decide) (by decide)⟩⟩
theorem main_1_1 : Claimed_1_1 := comes_1 fun _ _ _ _ _ _ h hF => ⟨h.1, hF⟩
theorem main_1_2 : Claimed_1_2 := comes_1 fun _ _ _ _ _ _ h hF => ⟨h.2.1, hF⟩

end Jvm.Pilot.@@N@@
namespace Jvm.Pilot.@@N@@
open Jvm Jvm.ClassFile Sem Op Lib Jvm.Free Jvm.Stand Jvm.Pilot.@@N@@.Jvm.D
/-! MADE BY PROGRAM (witnessworld.py) out of the Statement's table words and the real class files: 7 classes; the members and pool entries that the words name. The judged class is class 1, her method 1. -/
namespace start1
open Jvm.ClassFile
def u (s : String) : CpInfo := .utf8 (stringToUtf16 s)
/-- a pool by its gaps: so many unusable entries, then the entry; so many at the end -/
def gap : Nat → List CpInfo → List CpInfo
  | 0, r => r
  | n + 1, r => .unusable :: gap n r
def poolList (es : List (Nat × CpInfo)) (last : Nat) : List CpInfo := es.foldr (fun e r => gap e.1 (e.2 :: r)) (gap last [])
def pool (es : List (Nat × CpInfo)) (last : Nat) : Array CpInfo := ⟨poolList es last⟩
def fileOf (pool : Array CpInfo) (this : Nat) (attrs : Array Attribute := #[]) (ms : Array MethodInfo := #[]) (fl : Nat := 33) (sup : Nat := 0) (ifs : Array Nat := #[]) (fds : Array FieldInfo := #[]) : ClassFile where
  minorVersion := 0
  majorVersion := 65
  constantPool := pool
  accessFlags := fl
  thisClass := this
  superClass := sup
  interfaces := ifs
  fields := fds
  methods := ms
  attributes := attrs
def plain (name : String) (sup : Option ClassId) : Class where
  name := name
  kind := .ordinary
  loader := none
  accessFlags := 33
  super := sup
  interfaces := #[]
  cf := none
  fields := #[]
  methods := #[]
  instanceTypes := #[]
  staticTypes := #[]
  resolved := #[]
  callSites := []
  init := .initialized
  statics := none
  mirror := none

def pool0 : Array CpInfo := pool [(5, u "<init>"), (0, u "()V"), (1, .class_ 10), (1, u "java/lang/Object")] 113

def k0c0 : Code := { maxStack := 0, maxLocals := 1, code := object_method_1_code, exceptionTable := #[], attributes := #[] }
def k0m0 : Method := { name := "<init>", desc := "()V", sig := { parameters := [], returnType := none }, accessFlags := 1, code := some k0c0 }
/-- java/lang/Object -/
def k0 : Class := { plain "java/lang/Object" none with
  accessFlags := 33
  interfaces := #[]
  cf := some (fileOf pool0 8 #[] #[{ accessFlags := 1, nameIndex := 5, descriptorIndex := 6, attributes := #[] }] 33 0 #[] #[])
  fields := #[]
  methods := #[k0m0]
  instanceTypes := #[]
  staticTypes := #[]
  resolved := Array.replicate 124 none
  statics := none }

def pool1 : Array CpInfo := pool [(2, .class_ 4), (1, u "java/lang/Object"), (0, u "<init>"), (0, u "()V"), (0, .class_ 8), (0, u "com/example/dual_delivery/dualdelivery/store/MessageState"), (0, .methodref 7 10), (0, .nameAndType 5 11), (0, u "(IJJJ)V"), (0, .methodref 7 13), (0, .nameAndType 14 15), (0, u "receivedAt"), (0, u "(JJ)Lcom/example/dual_delivery/dualdelivery/store/MessageState;"), (0, .methodref 7 17), (0, .nameAndType 18 19), (0, u "getDequeueCount"), (0, u "()I"), (0, .methodref 7 21), (0, .nameAndType 22 23), (0, u "getFirstDequeueMillis"), (0, u "()J"), (0, .methodref 7 25), (0, .nameAndType 26 23), (0, u "getToken"), (0, .methodref 7 28), (0, .nameAndType 29 23), (0, u "getSendMillis"), (0, .class_ 31), (0, u "com/example/dual_delivery/dualdelivery/store/MessageStateReceivedAtPinLaw"), (2, u "law"), (0, u "(IJJJJJ)Z")] 3

def k1m0 : Method := { name := "<init>", desc := "()V", sig := { parameters := [], returnType := none }, accessFlags := 1, code := none }
def k1c1 : Code := { maxStack := 9, maxLocals := 19, code := code, exceptionTable := #[], attributes := #[] }
def k1m1 : Method := { name := "law", desc := "(IJJJJJ)Z", sig := { parameters := [.int, .long, .long, .long, .long, .long], returnType := some .boolean }, accessFlags := 9, code := some k1c1 }
/-- com/example/dual_delivery/dualdelivery/store/MessageStateReceivedAtPinLaw -/
def k1 : Class := { plain "com/example/dual_delivery/dualdelivery/store/MessageStateReceivedAtPinLaw" (some 0) with
  accessFlags := 49
  interfaces := #[]
  cf := some (fileOf pool1 30 #[] #[{ accessFlags := 1, nameIndex := 5, descriptorIndex := 6, attributes := #[] }, { accessFlags := 9, nameIndex := 34, descriptorIndex := 35, attributes := #[] }] 49 2 #[] #[])
  fields := #[]
  methods := #[k1m0, k1m1]
  instanceTypes := #[]
  staticTypes := #[]
  resolved := Array.replicate 39 none
  statics := none }

def pool2 : Array CpInfo := pool [(5, .methodref 6 7), (0, .class_ 8), (0, .nameAndType 9 10), (0, u "java/lang/Object"), (0, u "<init>"), (0, u "()V"), (0, .fieldref 12 13), (0, .class_ 14), (0, .nameAndType 15 16), (0, u "com/example/dual_delivery/dualdelivery/store/MessageState"), (0, u "dequeueCount"), (0, u "I"), (0, .fieldref 12 18), (0, .nameAndType 19 20), (0, u "firstDequeueMillis"), (0, u "J"), (0, .fieldref 12 22), (0, .nameAndType 23 20), (0, u "token"), (0, .fieldref 12 25), (0, .nameAndType 26 20), (0, u "sendMillis"), (9, u "()I"), (3, u "()J"), (0, .methodref 12 42), (0, .nameAndType 9 43), (0, u "(IJJJ)V"), (30, u "FORMAT"), (0, u "B"), (2, u "FORMAT_WITHOUT_SEND"), (1, u "BYTES"), (7, u "receivedAt"), (0, u "(JJ)Lcom/example/dual_delivery/dualdelivery/store/MessageState;"), (2, u "getDequeueCount"), (0, u "getFirstDequeueMillis"), (0, u "getToken"), (0, u "getSendMillis")] 2

def k2c0 : Code := { maxStack := 3, maxLocals := 8, code := prog_28_method_1_code, exceptionTable := #[], attributes := #[] }
def k2m0 : Method := { name := "<init>", desc := "(IJJJ)V", sig := { parameters := [.int, .long, .long, .long], returnType := none }, accessFlags := 0, code := some k2c0 }
def k2c1 : Code := { maxStack := 9, maxLocals := 5, code := prog_28_method_4_code, exceptionTable := #[], attributes := #[] }
def k2m1 : Method := { name := "receivedAt", desc := "(JJ)Lcom/example/dual_delivery/dualdelivery/store/MessageState;", sig := { parameters := [.long, .long], returnType := some (.object "com/example/dual_delivery/dualdelivery/store/MessageState") }, accessFlags := 0, code := some k2c1 }
def k2c2 : Code := { maxStack := 1, maxLocals := 1, code := prog_28_method_6_code, exceptionTable := #[], attributes := #[] }
def k2m2 : Method := { name := "getDequeueCount", desc := "()I", sig := { parameters := [], returnType := some .int }, accessFlags := 0, code := some k2c2 }
def k2c3 : Code := { maxStack := 2, maxLocals := 1, code := prog_28_method_7_code, exceptionTable := #[], attributes := #[] }
def k2m3 : Method := { name := "getFirstDequeueMillis", desc := "()J", sig := { parameters := [], returnType := some .long }, accessFlags := 0, code := some k2c3 }
def k2c4 : Code := { maxStack := 2, maxLocals := 1, code := prog_28_method_8_code, exceptionTable := #[], attributes := #[] }
def k2m4 : Method := { name := "getToken", desc := "()J", sig := { parameters := [], returnType := some .long }, accessFlags := 0, code := some k2c4 }
def k2c5 : Code := { maxStack := 2, maxLocals := 1, code := prog_28_method_9_code, exceptionTable := #[], attributes := #[] }
def k2m5 : Method := { name := "getSendMillis", desc := "()J", sig := { parameters := [], returnType := some .long }, accessFlags := 0, code := some k2c5 }
/-- com/example/dual_delivery/dualdelivery/store/MessageState -/
def k2 : Class := { plain "com/example/dual_delivery/dualdelivery/store/MessageState" (some 0) with
  accessFlags := 48
  interfaces := #[]
  cf := some (fileOf pool2 12 #[] #[{ accessFlags := 0, nameIndex := 9, descriptorIndex := 43, attributes := #[] }, { accessFlags := 0, nameIndex := 88, descriptorIndex := 89, attributes := #[] }, { accessFlags := 0, nameIndex := 92, descriptorIndex := 36, attributes := #[] }, { accessFlags := 0, nameIndex := 93, descriptorIndex := 40, attributes := #[] }, { accessFlags := 0, nameIndex := 94, descriptorIndex := 40, attributes := #[] }, { accessFlags := 0, nameIndex := 95, descriptorIndex := 40, attributes := #[] }] 48 6 #[] #[{ accessFlags := 24, nameIndex := 74, descriptorIndex := 75, attributes := #[] }, { accessFlags := 26, nameIndex := 78, descriptorIndex := 75, attributes := #[] }, { accessFlags := 26, nameIndex := 80, descriptorIndex := 16, attributes := #[] }, { accessFlags := 18, nameIndex := 15, descriptorIndex := 16, attributes := #[] }, { accessFlags := 18, nameIndex := 19, descriptorIndex := 20, attributes := #[] }, { accessFlags := 18, nameIndex := 23, descriptorIndex := 20, attributes := #[] }, { accessFlags := 18, nameIndex := 26, descriptorIndex := 20, attributes := #[] }])
  fields := #[{ name := "FORMAT", type := .byte, accessFlags := 24, slot := 0, constantValue := 0 }, { name := "FORMAT_WITHOUT_SEND", type := .byte, accessFlags := 26, slot := 1, constantValue := 0 }, { name := "BYTES", type := .int, accessFlags := 26, slot := 2, constantValue := 0 }, { name := "dequeueCount", type := .int, accessFlags := 18, slot := 0, constantValue := 0 }, { name := "firstDequeueMillis", type := .long, accessFlags := 18, slot := 1, constantValue := 0 }, { name := "token", type := .long, accessFlags := 18, slot := 2, constantValue := 0 }, { name := "sendMillis", type := .long, accessFlags := 18, slot := 3, constantValue := 0 }]
  methods := #[k2m0, k2m1, k2m2, k2m3, k2m4, k2m5]
  instanceTypes := #[.int, .long, .long, .long]
  staticTypes := #[.byte, .byte, .int]
  resolved := Array.replicate 98 none
  statics := none }

def pool3 : Array CpInfo := pool [(1, u "java/lang/Cloneable"), (0, .class_ 1), (0, u "java/lang/Object"), (0, .class_ 3)] 3

/-- java/lang/Cloneable -/
def k3 : Class := { plain "java/lang/Cloneable" (some 0) with
  accessFlags := 1537
  interfaces := #[]
  cf := some (fileOf pool3 2 #[] #[] 1537 4 #[] #[])
  fields := #[]
  methods := #[]
  instanceTypes := #[]
  staticTypes := #[]
  resolved := Array.replicate 8 none
  statics := none }

def pool4 : Array CpInfo := pool [(1, u "java/io/Serializable"), (0, .class_ 1), (0, u "java/lang/Object"), (0, .class_ 3)] 3

/-- java/io/Serializable -/
def k4 : Class := { plain "java/io/Serializable" (some 0) with
  accessFlags := 1537
  interfaces := #[]
  cf := some (fileOf pool4 2 #[] #[] 1537 4 #[] #[])
  fields := #[]
  methods := #[]
  instanceTypes := #[]
  staticTypes := #[]
  resolved := Array.replicate 8 none
  statics := none }

/-- the primitive byte -/
def k5 : Class := { plain "byte" none with kind := .primitive 'B', accessFlags := 0x411 }
/-- [B -/
def k6 : Class := { plain "[B" (some 0) with kind := .array 5 .byte, interfaces := #[3, 4], accessFlags := 1041 }

def heap : Heap := #[]
def classes : Array Class := #[k0, k1, k2, k3, k4, k5, k6]
def interned : List (Array UInt16 × Addr) := []
def slotsUsed : Nat := 0
def theMethod : MethodId := ⟨1, 1⟩
def args0 : Array Value := #[.int 5, .long 1, .long 2, .long 3, .long 4, .long 5]
def aboutOver (below : List Frame) : State where
  vm := { classes := classes, interned := interned.toArray }
  heap := heap
  slotsUsed := slotsUsed
  threads := #[{ frames := .invoking theMethod args0 :: below }]
def below0 : List Frame := [.native { method := ⟨0, 0⟩, args := #[] }]
def about1 : State := aboutOver below0
def p0 : Program := .bare "" "" ""
def e0 : Env := launch0.env 0 0 0
theorem w_frames : about1.frames = Frame.invoking theMethod args0 :: below0 := rfl
set_option maxRecDepth 65536 in
theorem w_args : argsFit about1.vm theMethod args0 = true := by decide +kernel
set_option maxRecDepth 65536 in
theorem w_heap : heapFits about1 = true := by decide +kernel
set_option maxRecDepth 65536 in
theorem w_runnable : about1.curStatus? = some .runnable := by decide +kernel
set_option maxRecDepth 65536 in
theorem w_alone : about1.alone = true := by decide +kernel
set_option maxRecDepth 65536 in
theorem w_named : about1.methodNamed? x = some theMethod := by decide +kernel
set_option maxRecDepth 65536 in
theorem w_hears : about1.hears theMethod below0 = true := by decide +kernel
set_option maxRecDepth 65536 in
theorem w_ripe : about1.ripe theMethod args0 below0 = true := by decide +kernel
theorem w_running : about1.status = .running := rfl
set_option maxRecDepth 65536 in
theorem w_room : about1.hasRoom e0.platform room_1 = true :=
  launch0.hasRoom_least _ room_1 (by decide +kernel) (by decide +kernel) (by decide +kernel) (by decide +kernel) (by decide +kernel) (by decide +kernel)
theorem allAtoms_all (ts : List Jvm.Cond) (a : Array Jvm.Value) (st : Jvm.State) : (allAtoms ts).before a st = ts.all (fun c => c.before a st) := by
  induction ts with
  | nil => rfl
  | cons c t ih =>
    show (Jvm.Cond.and c (allAtoms t)).before a st = _
    rw [Jvm.Cond.before_and, ih, List.all_cons]
def words1 : List Jvm.Cond := Jvm.Cond.code x code maxLocals ret :: tables_1
/-- a 'code' word, met by the world's own term for the bytes: nothing is compared byte by byte -/
theorem code_word {y : MethodName} {bytes : ByteArray} {mx : Nat} {rt : Option FieldType} {a : Array Value} {s : State} {m : MethodId} {meth : Method} {c : Code} (h1 : s.methodNamed? y = some m) (h2 : s.vm.method? m = some meth) (h3 : meth.code = some c) (h4 : c.code = bytes)
    (h5 : (c.maxLocals == mx && c.exceptionTable.isEmpty && decide (c.maxStack ≤ mostOperands) && decide (meth.sig.returnType = rt) && !meth.locks && decide (parseMethodDescriptor y.desc = some meth.sig)) = true) : (Jvm.Cond.code y bytes mx rt).before a s = true := by
  simp only [Bool.and_eq_true, beq_iff_eq, Bool.not_eq_true', decide_eq_true_eq] at h5
  obtain ⟨⟨⟨⟨⟨g1, g2⟩, g3⟩, g4⟩, g5⟩, g6⟩ := h5
  simp [Cond.before, Cond.holds, Cond.value, h1, h2, h3, h4, g1, g2, g3, g4, g5, g6]
def isCode : Jvm.Cond → Bool
  | .code _ _ _ _ => true
  | _ => false
theorem all_split {L : List Jvm.Cond} {P : Jvm.Cond → Bool} (h1 : L.all (fun c => isCode c || P c) = true) (h2 : ∀ c ∈ L.filter isCode, P c = true) : L.all P = true := by
  refine List.all_eq_true.mpr fun c hc => ?_
  have h := List.all_eq_true.mp h1 c hc
  rcases Bool.eq_false_or_eq_true (isCode c) with hi | hi
  · exact h2 c (List.mem_filter.mpr ⟨hc, hi⟩)
  · simpa [hi] using h
set_option maxRecDepth 65536 in
theorem w_c0 : (Jvm.Cond.code x code maxLocals ret).before args0 about1 = true := code_word (m := ⟨1, 1⟩) (meth := k1m1) (c := k1c1) (by decide +kernel) rfl rfl rfl (by decide +kernel)
set_option maxRecDepth 65536 in
theorem w_c1 : (Jvm.Cond.code ({ cls := "com/example/dual_delivery/dualdelivery/store/MessageState", name := "<init>", desc := "(IJJJ)V" } : Jvm.MethodName) prog_28_method_1_code (8 : Nat) (Option.none : Option Jvm.ClassFile.FieldType)).before args0 about1 = true := code_word (m := ⟨2, 0⟩) (meth := k2m0) (c := k2c0) (by decide +kernel) rfl rfl rfl (by decide +kernel)
set_option maxRecDepth 65536 in
theorem w_c2 : (Jvm.Cond.code ({ cls := "java/lang/Object", name := "<init>", desc := "()V" } : Jvm.MethodName) object_method_1_code (1 : Nat) (Option.none : Option Jvm.ClassFile.FieldType)).before args0 about1 = true := code_word (m := ⟨0, 0⟩) (meth := k0m0) (c := k0c0) (by decide +kernel) rfl rfl rfl (by decide +kernel)
set_option maxRecDepth 65536 in
theorem w_c3 : (Jvm.Cond.code ({ cls := "com/example/dual_delivery/dualdelivery/store/MessageState", name := "receivedAt", desc := "(JJ)Lcom/example/dual_delivery/dualdelivery/store/MessageState;" } : Jvm.MethodName) prog_28_method_4_code (5 : Nat) (Option.some (Jvm.ClassFile.FieldType.object "com/example/dual_delivery/dualdelivery/store/MessageState"))).before args0 about1 = true := code_word (m := ⟨2, 1⟩) (meth := k2m1) (c := k2c1) (by decide +kernel) rfl rfl rfl (by decide +kernel)
set_option maxRecDepth 65536 in
theorem w_c4 : (Jvm.Cond.code ({ cls := "com/example/dual_delivery/dualdelivery/store/MessageState", name := "getDequeueCount", desc := "()I" } : Jvm.MethodName) prog_28_method_6_code (1 : Nat) (Option.some Jvm.ClassFile.FieldType.int)).before args0 about1 = true := code_word (m := ⟨2, 2⟩) (meth := k2m2) (c := k2c2) (by decide +kernel) rfl rfl rfl (by decide +kernel)
set_option maxRecDepth 65536 in
theorem w_c5 : (Jvm.Cond.code ({ cls := "com/example/dual_delivery/dualdelivery/store/MessageState", name := "getFirstDequeueMillis", desc := "()J" } : Jvm.MethodName) prog_28_method_7_code (1 : Nat) (Option.some Jvm.ClassFile.FieldType.long)).before args0 about1 = true := code_word (m := ⟨2, 3⟩) (meth := k2m3) (c := k2c3) (by decide +kernel) rfl rfl rfl (by decide +kernel)
set_option maxRecDepth 65536 in
theorem w_c6 : (Jvm.Cond.code ({ cls := "com/example/dual_delivery/dualdelivery/store/MessageState", name := "getToken", desc := "()J" } : Jvm.MethodName) prog_28_method_8_code (1 : Nat) (Option.some Jvm.ClassFile.FieldType.long)).before args0 about1 = true := code_word (m := ⟨2, 4⟩) (meth := k2m4) (c := k2c4) (by decide +kernel) rfl rfl rfl (by decide +kernel)
set_option maxRecDepth 65536 in
theorem w_c7 : (Jvm.Cond.code ({ cls := "com/example/dual_delivery/dualdelivery/store/MessageState", name := "getSendMillis", desc := "()J" } : Jvm.MethodName) prog_28_method_9_code (1 : Nat) (Option.some Jvm.ClassFile.FieldType.long)).before args0 about1 = true := code_word (m := ⟨2, 5⟩) (meth := k2m5) (c := k2c5) (by decide +kernel) rfl rfl rfl (by decide +kernel)
def codes1 : List Jvm.Cond := [Jvm.Cond.code x code maxLocals ret, Jvm.Cond.code ({ cls := "com/example/dual_delivery/dualdelivery/store/MessageState", name := "<init>", desc := "(IJJJ)V" } : Jvm.MethodName) prog_28_method_1_code (8 : Nat) (Option.none : Option Jvm.ClassFile.FieldType), Jvm.Cond.code ({ cls := "java/lang/Object", name := "<init>", desc := "()V" } : Jvm.MethodName) object_method_1_code (1 : Nat) (Option.none : Option Jvm.ClassFile.FieldType), Jvm.Cond.code ({ cls := "com/example/dual_delivery/dualdelivery/store/MessageState", name := "receivedAt", desc := "(JJ)Lcom/example/dual_delivery/dualdelivery/store/MessageState;" } : Jvm.MethodName) prog_28_method_4_code (5 : Nat) (Option.some (Jvm.ClassFile.FieldType.object "com/example/dual_delivery/dualdelivery/store/MessageState")), Jvm.Cond.code ({ cls := "com/example/dual_delivery/dualdelivery/store/MessageState", name := "getDequeueCount", desc := "()I" } : Jvm.MethodName) prog_28_method_6_code (1 : Nat) (Option.some Jvm.ClassFile.FieldType.int), Jvm.Cond.code ({ cls := "com/example/dual_delivery/dualdelivery/store/MessageState", name := "getFirstDequeueMillis", desc := "()J" } : Jvm.MethodName) prog_28_method_7_code (1 : Nat) (Option.some Jvm.ClassFile.FieldType.long), Jvm.Cond.code ({ cls := "com/example/dual_delivery/dualdelivery/store/MessageState", name := "getToken", desc := "()J" } : Jvm.MethodName) prog_28_method_8_code (1 : Nat) (Option.some Jvm.ClassFile.FieldType.long), Jvm.Cond.code ({ cls := "com/example/dual_delivery/dualdelivery/store/MessageState", name := "getSendMillis", desc := "()J" } : Jvm.MethodName) prog_28_method_9_code (1 : Nat) (Option.some Jvm.ClassFile.FieldType.long)]
set_option maxRecDepth 65536 in
theorem codes_eq : words1.filter isCode = codes1 := rfl
theorem w_codes : ∀ c ∈ words1.filter isCode, c.before args0 about1 = true := by
  rw [codes_eq]
  intro c hc
  simp only [codes1, List.mem_cons, List.not_mem_nil, or_false] at hc
  rcases hc with rfl | rfl | rfl | rfl | rfl | rfl | rfl | rfl
  · exact w_c0
  · exact w_c1
  · exact w_c2
  · exact w_c3
  · exact w_c4
  · exact w_c5
  · exact w_c6
  · exact w_c7
set_option maxRecDepth 65536 in
theorem w_t1 : (words1.take 24).all (fun c => isCode c || c.before args0 about1) = true := by decide +kernel
set_option maxRecDepth 65536 in
theorem w_t2 : (words1.drop 24).all (fun c => isCode c || c.before args0 about1) = true := by decide +kernel
theorem w_tables : (allAtoms (Jvm.Cond.code x code maxLocals ret :: tables_1)).before args0 about1 = true := by
  rw [allAtoms_all]
  show words1.all (fun c => c.before args0 about1) = true
  refine all_split ?_ w_codes
  rw [← List.take_append_drop 24 words1, List.all_append, w_t1, w_t2]
  rfl
set_option maxRecDepth 65536 in
theorem w_case : (Jvm.Cond.and given_1 narrow_1).before args0 about1 = true := by decide +kernel
theorem w_applies : (headSpec (Jvm.Cond.code x code maxLocals ret :: tables_1) room_1).applies x e0.platform about1 = true :=
  (Spec.applies_iff w_frames).mpr ⟨w_running, w_runnable, w_alone, w_named, w_hears, w_ripe, w_room, w_tables⟩
theorem atStart : AtStart classFile x code maxLocals ret World_1 tables_1 room_1 Calls_1 rest_1 Pre_1 launch0 p0 e0 about1 theMethod args0 below0 :=
  ⟨lists_1, trivial, launch0.admits_env _ _ _, launch0.least_env, fairChoices_fair.cas, fairChoices_fair.clock, w_frames, w_args, w_heap, w_applies, trivial, trivial, w_case⟩
end start1
theorem witness_1 : WitnessClaimed_1 := ⟨start1.p0, start1.e0, start1.about1, start1.theMethod, start1.args0, start1.below0, start1.atStart⟩
end Jvm.Pilot.@@N@@
