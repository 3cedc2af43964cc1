import JvmDerived
import JvmDerived.Pilot.@@N@@Statement
import JvmDerived.Pilot.@@N@@Code
set_option linter.unusedVariables false
set_option linter.unusedSimpArgs false

namespace Jvm.RoadKit
open Sem ClassFile Op Lib Jvm.Stand Jvm.Free Jvm.LawKit
section New
variable {p : Program} {l : Launch} {e : Env} {R : Room} {s : State} {m : MethodId} {args : Array Value} {below : List Frame} {meth : Method} {c : Code} {T : State} {locs : List Loc} {cells slots : Nat}
theorem retI (X : Stand p l e R s m args below meth c T locs cells slots) (hx : p.tables.exec = Jvm.exec) {pc : Nat} {Ls : Array Slot} {z : Int32} {rest : List Value} (hret : meth.sig.returnType = some .int) (hd : decode c.code pc = .ok (.ireturn, 1)) {fs : List Frame}
    (hl : ∀ (f : JFrame) (acts : List Action), f.method = m → f.locked = none → f.entered = [] → (doReturn e (T.setTop f) acts (some (.int z))).1 = T.setFrames fs) : Steps p.tables e below (T.setTop (mkF m pc Ls (.int z :: rest))) (T.setFrames fs) := by
  have hm' : T.vm.method? m = some meth := X.method'
  have hn : narrow .int (.int z) = .int z := rfl
  show Steps p.tables e below (T.setTop { method := m, pc := pc, locals := Ls, stack := _ :: rest, locked := none }) _
  jvm_step X.here [X.here.top, hx, hd, hm', hret, hn]
  first | (intro acts; rw [hl _ acts rfl rfl rfl]) | rw [hl _ _ rfl rfl rfl]
  exact Steps.refl _
end New
end Jvm.RoadKit

@@BLOCK:LamKit.lean.txt@@
namespace Jvm.RoadKit
open Sem ClassFile Op Lib Jvm.Stand Jvm.Free Jvm.LawKit Jvm.LamKit
/-- the object of a lambda that holds one reference -/
def Lam (h : Heap) (a : Addr) (cK : ClassId) (it : Addr) : Prop := h[a]? = some { cls := cK, slots := #[.ref it], vm := .none }
theorem Lam.ext {h h' : Heap} {a it : Addr} {cK : ClassId} (L : Lam h a cK it) (E : Ext h h') : Lam h' a cK it := E.2 _ _ L
theorem Lam.other {h h' : Heap} {a it b : Addr} {cK : ClassId} {sl : Nat} {v : Value} (L : Lam h a cK it) (W : Wr h h' b sl v) (hne : a ≠ b) : Lam h' a cK it := by
  obtain ⟨c0, -, -, -, rfl⟩ := W
  show (h.setIfInBounds b _)[a]? = _
  rw [Array.getElem?_setIfInBounds_ne hne.symm]; exact L
theorem Lam.keep {h h' : Heap} {a it : Addr} {cK : ClassId} {ws : List Addr} (L : Lam h a cK it) (K : Keep h h' ws) (hn : a ∉ ws) : Lam h' a cK it := K.2.1 _ _ L hn
theorem Lam.lt {h : Heap} {a it : Addr} {cK : ClassId} (L : Lam h a cK it) : a < h.size := (Array.getElem?_eq_some_iff.mp L).1
theorem own_insK {Z : State} {h h' : Heap} {a : Addr} {C : String} {ws : List Addr} (F : Ins Z h a C true) (K : Keep h h' ws) (hn : a ∉ ws) : Ins Z h' a C true := by
  obtain ⟨cell, k, h1, r⟩ := F; exact ⟨cell, k, K.2.1 _ _ h1 hn, r⟩
theorem own_nf {args : Array Value} {s : State} {C : String} {x z y : MethodName} (hsel : (Cond.selects C x z).before args s = true) (hc : y.cls = z.cls) : NotFace s y := fun r0 h0 => by
  obtain ⟨c2, r2, m2, q1, q2, q3, q4, kP, hkP, hkPi⟩ := Cond.selects_spec hsel
  have e1 := findClass_of_methodNamed h0
  have e2 := findClass_of_methodNamed q3
  rw [hc] at e1
  have e : r0.cls = m2.cls := Option.some.inj (e1.symm.trans e2)
  exact ⟨kP, by rw [e]; exact hkP, hkPi⟩
section
variable {p : Program} {l : Launch} {e : Env} {R : Room} {s : State} {m : MethodId} {args : Array Value} {below : List Frame} {meth : Method} {c : Code} {T : State} {locs : List Loc} {cells slots : Nat} {Z : State} {a0 : Array Value} {h : Heap}
theorem own_backW {y : MethodName} {bytes : ByteArray} {maxL : Nat} {ret : Option FieldType} {rm : Room} {len W : Nat} {as' : Array Value} {Q : Option Value → Heap → List Loc → Prop}
    (hM : MetFree l y (head1 [Cond.code y bytes maxL ret] rm) (fun a U => a = as' ∧ Z.Warmed39 U.vm ∧ U.heap = h ∧ Z.WarmedH U.vm) (fun _ _ _ _ _ => True) (fun _ U o U' => ∃ v L, o = .returned v ∧ Q v U'.heap L ∧ FrameEnd U o U' L rm.cells rm.slots))
    (hZ : Z.Warmed39 s.vm) (hWH : Z.WarmedH s.vm) (wc : (Cond.code y bytes maxL ret).before a0 Z = true) (wz : (Cond.initialized y.cls).before a0 Z = true) (hf : rm.frames + 1 ≤ R.frames) (hl : W + (maxL + 11) + rm.locals ≤ R.locals) :
    Back l R p e below s args y len W (fun A a => a = as' ∧ A.U.heap = h ∧ A.cells + rm.cells ≤ R.cells ∧ A.slots + rm.slots ≤ R.slots)
      (fun A _ v B => ∃ L, Q v B.U.heap L ∧ B.locs = A.locs ++ L ∧ B.cells = A.cells + rm.cells ∧ B.slots = A.slots + rm.slots) :=
  Back.of_free (bytes := bytes) (maxL := maxL) (ret := ret) (E := fun _ _ o t L k n => k = rm.cells ∧ n = rm.slots ∧ ∃ v, o = .returned v ∧ Q v t.heap L) hM hf hl
    (fun m meth c A a Y hp => have hU : Z.Warmed39 A.U.vm := wtrans hZ Y.warmed
      ⟨by show (Cond.and _ .tt).before a A.U = true; rw [Cond.before_and, mv hU wc]; rfl, mv hU wc, mv hU wz, hp.2.2.1, hp.2.2.2⟩)
    (fun m meth c A a g mk Y hp => ⟨hp.1, wtrans hZ Y.warmed, hp.2.1, hWH.trans Y.warmed⟩) (fun _ _ _ _ _ _ _ _ _ => trivial)
    (fun _ _ _ _ ⟨v, L, h1, h2, h3⟩ => ⟨L, _, _, h3, rfl, rfl, v, h1, h2⟩)
    (fun m meth c A a g mk v t L k n Y hp _ _ ⟨e1, e2, v', e3, e4⟩ => by cases e3; subst e1 e2; exact ⟨L, e4, rfl, rfl, rfl⟩)
theorem own_named {x : MethodName} {mD : MethodId} (hWH : Z.WarmedH s.vm) (hmD : Z.methodNamed? x = some mD) : s.methodNamed? x = some mD := by
  have := State.methodNamed?_setVm (s := Z) hWH.alike x
  rw [hmD] at this
  exact this
/-- the site that captures nothing, of a walk whose tables are the start's, warmer -/
theorem own_const (X : Stand p l e R s m args below meth c T locs cells slots) (hx : p.tables.exec = Jvm.exec) (hWH : Z.WarmedH s.vm) {x : MethodName} {pc index : Nat} {σ : Lambda.Shape} (hnamed : s.methodNamed? x = some m)
    (hsite : (Cond.lambdaSite x pc index σ).before a0 Z = true) (hcap : σ.captured = []) {g : JFrame} (hg : g.method = m) (hpc : g.pc = pc) (hsize : g.locals.size = c.maxLocals)
    (hdg : decode c.code g.pc = .ok (.invokedynamic index, 5)) (hwords : 2 * g.monitorRoom + (g.stack.map fun v => v.category).sum + 3072 ≤ R.locals) :
    ∃ a : Addr, ∀ target, Steps p.tables e below (T.setTop { g with pc := g.pc + 5, stack := .ref a :: g.stack }) target → Steps p.tables e below (T.setTop g) target := by
  obtain ⟨cK, one, hat⟩ := Cond.lambdaSite_spec hsite
  obtain ⟨mD, kD, cfD, i0, p0, lk, hmD, hkD, -, -, -, hfind, hmade, hcan, hl⟩ := State.lambdaAt?_spec hat
  cases hnamed.symm.trans (own_named hWH hmD)
  obtain ⟨kD', hkD', he⟩ := hWH.alike.2.2 _ _ hkD
  rcases hl with ⟨a, cell, rfl, -, -, hcell, hcls, hvm, -⟩ | ⟨-, -, hne⟩
  · have hw : e.platform.lambdaLinkWords = 3072 := by rw [X.admits.platform]
    exact ⟨a, fun target h => X.lambdaConstant hx hg hsize hdg hkD' (by rw [he, hpc]; exact hfind) (by rw [hw]; exact hwords) h⟩
  · exact absurd hcap hne
theorem own_ext_push (h : Heap) (cl : Cell) : Ext h (h.push cl) := ⟨by simp, fun b c q => by
  have hb := (Array.getElem?_eq_some_iff.mp q).1
  rw [Array.getElem?_push, if_neg (by omega)]; exact q⟩
/-- the site that captures one reference -/
theorem own_makes (X : Stand p l e R s m args below meth c T locs cells slots) (hx : p.tables.exec = Jvm.exec) (hWH : Z.WarmedH s.vm) {x : MethodName} {pc index fi : Nat} {σ : Lambda.Shape} {cK : ClassId} {one : Option Addr} (hnamed : s.methodNamed? x = some m)
    (hat : Z.lambdaAt? x pc index σ = some (cK, one)) (hcap : σ.captured ≠ []) (hok : capOK σ x.cls fi 0 = true) (hO : (Cond.instantiable "java/lang/Object" 0).before a0 Z = true) (eT : T.heap = h)
    {g : JFrame} (hg : g.method = m) (hpc : g.pc = pc) (hsize : g.locals.size = c.maxLocals) (hdg : decode c.code g.pc = .ok (.invokedynamic index, 5))
    {it : Addr} {rest : List Value} (hlen : σ.captured.length = 1) (hstack : g.stack = .ref it :: rest) (hfit : ∀ t, σ.captured[0]? = some t → narrow t (.ref it) = .ref it ∧ fits t (.ref it) = true)
    (hwords : 2 * g.monitorRoom + (g.stack.map fun v => v.category).sum + 3072 ≤ R.locals) (hcells : cells + 1 ≤ R.cells) (hslots : slots + 1 ≤ R.slots) :
    ∃ (T' : State) (h' : Heap), Stand p l e R s m args below meth c T' locs (cells + 1) (slots + 1) ∧ T'.heap = h' ∧ Ext h h' ∧ Lam h' h.size cK it ∧
      ∀ target, Steps p.tables e below (T'.setTop { g with pc := g.pc + 5, stack := .ref h.size :: rest }) target → Steps p.tables e below (T.setTop g) target := by
  subst eT
  obtain ⟨mD, kD, cfD, i0, p0, lk, hmD, hkD, hcfD, hsh, -, hfind, hmade, hcan, hl⟩ := State.lambdaAt?_spec hat
  obtain ⟨kN, hkN, hnameN⟩ := className_of_methodNamed hmD
  cases hkD.symm.trans hkN
  cases hnamed.symm.trans (own_named hWH hmD)
  obtain ⟨kD', hkD', he⟩ := hWH.alike.2.2 _ _ hkD
  have hnameD : kD'.name = x.cls := by rw [he]; exact hnameN
  have hcfD' : kD'.cf = some cfD := by rw [he]; exact hcfD
  have hmade' := Lambda.isMade_warmer hWH hmade
  rcases hl with ⟨a, cell, -, -, hc0, -⟩ | ⟨rfl, -, -⟩
  · exact absurd hc0 hcap
  · obtain ⟨b, nt, desc, site, h1, h2, h3, h4⟩ := Lambda.shapeOf?_site hsh
    obtain ⟨kc, f, hkc, hkind, hty, -⟩ := made_cap hok hkD' hnameD hmade' (noFields hO hWH)
    have hz : ((kc.instanceTypes.toList.zip [Value.ref it]).map fun (t, v) => narrow t v) = [Value.ref it] := by
      rw [hty]; exact zip_narrow _ _ (by simp [hlen]) fun i t v a b => by
        cases i with
        | zero => cases b; exact (hfit t a).1
        | succ i => cases b
    have hw : e.platform.lambdaLinkWords = 3072 := by rw [X.admits.platform]
    have q := X.lambdaMakes hx hg hsize hdg (vals := [Value.ref it]) (rest := rest) hkD' (by rw [he, hpc]; exact hfind) hcfD' h1 h2 (parseLong_of_parse h3) (by rw [h4]; simp [hlen]) hstack hkc (by rw [hw]; exact hwords) hcells (by rw [hz]; exact hslots)
      (fun i v hv => by
        rw [hz] at hv
        cases i with
        | zero =>
          have hv' : v = .ref it := by simpa using hv.symm
          subst hv'
          have hi : 0 < σ.captured.length := by omega
          have := (hfit _ (List.getElem?_eq_getElem hi)).2
          simp [State.fitsSlot, State.slotType?, hkc, hkind, hty, List.getElem?_eq_getElem hi, this]
        | succ i => simp at hv)
    rw [hz] at q
    refine ⟨_, _, by simpa using q.1, rfl, own_ext_push _ _, ?_, q.2⟩
    show (T.heap.push _)[T.heap.size]? = _
    simp
theorem own_made {x : MethodName} {pc index : Nat} {σ : Lambda.Shape} {cK : ClassId} {one : Option Addr} (hWH : Z.WarmedH s.vm) (hat : Z.lambdaAt? x pc index σ = some (cK, one)) : Jvm.LamKit.Made s x.cls σ cK := by
  obtain ⟨mD, kD, cfD, i0, p0, lk, hmD, hkD, hcfD, hsh, -, hfind, hmade, hcan, hl⟩ := State.lambdaAt?_spec hat
  obtain ⟨kN, hkN, hnameN⟩ := className_of_methodNamed hmD
  cases hkD.symm.trans hkN
  obtain ⟨kD', hkD', he⟩ := hWH.alike.2.2 _ _ hkD
  have hcan' : s.lambdaCallable σ cK = true := by
    have hA := hWH.alike
    simp only [State.lambdaCallable, hA.findClass, hA.assignable, hA.superclasses, hA.declaredIn] at hcan ⊢
    exact hcan
  exact ⟨_, kD', hkD', by rw [he]; exact hnameN, Lambda.isMade_warmer hWH hmade, hcan'⟩
theorem own_insC {x : MethodName} {pc index : Nat} {σ : Lambda.Shape} {cK : ClassId} {one : Option Addr} {a it : Addr} (L : Lam h a cK it) (hat : Z.lambdaAt? x pc index σ = some (cK, one)) : Ins Z h a σ.iface true := by
  obtain ⟨mD, kD, cfD, i0, p0, lk, hmD, hkD, hcfD, hsh, -, hfind, hmade, hcan, hl⟩ := State.lambdaAt?_spec hat
  obtain ⟨i, h1, h2, -⟩ := State.lambdaCallable_spec hcan
  exact ⟨_, i, L, h1, by rw [h2]; rfl⟩
theorem own_insO {x : MethodName} {pc index : Nat} {σ : Lambda.Shape} {cK : ClassId} {one : Option Addr} {a it : Addr} (L : Lam h a cK it) (hat : Z.lambdaAt? x pc index σ = some (cK, one)) (hO : (Cond.instantiable "java/lang/Object" 0).before a0 Z = true) : Ins Z h a "java/lang/Object" true := by
  obtain ⟨mD, kD, cfD, i0, p0, lk, hmD, hkD, hcfD, hsh, -, hfind, hmade, hcan, hl⟩ := State.lambdaAt?_spec hat
  obtain ⟨c0, k0, h1, h2, i1, i2, i3, h3⟩ := Cond.instantiable_spec hO
  obtain ⟨dk, k, ok, tk, file, cf, object, iface, t, lay, methods, tgt, found, -, hk, -, -, ho, -, hok, -, -, -, -, -, -, ⟨-, hkind, -, hsup, -, -⟩, -⟩ := Lambda.isMade_spec hmade
  cases h1.symm.trans ho
  cases h2.symm.trans hok
  refine ⟨_, c0, L, h1, ?_⟩
  obtain ⟨n, hn⟩ : ∃ n, Z.vm.classes.size = n + 1 := ⟨Z.vm.classes.size - 1, by have := (Array.getElem?_eq_some_iff.mp hk).1; omega⟩
  have hs : Z.vm.isSubclass cK c0 = true := by
    simp [Vm.isSubclass, hn, Vm.isSubclassAux, hk, hsup]
  have ha : Z.vm.assignable cK c0 = true := by
    have hi : k0.isInterface = false := by simp at i2; exact i2.1
    simp [Vm.assignable, Vm.assignableAux, hk, hok, hkind, i1, hi, hs]
  show (!(VmData.none).isStatics && Z.vm.assignable cK c0) = true
  rw [ha]; rfl
theorem own_specialRef (X : Stand p l e R s m args below meth c T locs cells slots) (hexec : p.tables.exec = Jvm.exec) (hZ : Z.Warmed39 s.vm) {own : String} {index : Nat} {y : MethodName} (hy1 : y.name = "<init>")
    (hown : s.vm.findClass own = some m.cls) (hlink : (Cond.methodRef own index y).before a0 Z = true) (hinst : (Cond.instanceMethod y).before a0 Z = true)
    {bytes : ByteArray} {maxL : Nat} (hcode : (Cond.code y bytes maxL none).before a0 Z = true)
    (hy : y.cls ≠ "java/lang/invoke/MethodHandle" ∧ y.cls ≠ "java/lang/invoke/VarHandle")
    {W : Nat} {Pre : Pt → Array Value → Prop} {Post : Pt → Array Value → Option Value → Pt → Prop} (hK : Back l R p e below s args y 3 W Pre Post)
    {g : JFrame} (hg : g.method = m) (hsize : g.locals.size = c.maxLocals) {s₀ : State} (hcome : Steps p.tables e below s₀ (T.setTop g)) {a : Addr} {argsL rest : List Value}
    (hlen : ∀ sig, parseMethodDescriptor y.desc = some sig → argsL.length = sig.parameters.length) (hstack : g.stack = argsL.reverse ++ .ref a :: rest) (hW : 2 * g.monitorRoom + (rest.map fun v => v.category).sum ≤ W)
    (hdg : decode c.code g.pc = .ok (.invokespecial index, 3)) (hpre : ∀ vm₁, s.WarmedH vm₁ → Pre ⟨T.setVm vm₁, locs, cells, slots⟩ (.ref a :: argsL).toArray) :
    ∃ (v : Option Value) (vm₁ : Vm) (B : Pt), s.WarmedH vm₁ ∧ Stand p l e R s m args below meth c B.U B.locs B.cells B.slots ∧ Post ⟨T.setVm vm₁, locs, cells, slots⟩ (.ref a :: argsL).toArray v B ∧
      Steps p.tables e below s₀ (B.U.setTop { g with pc := g.pc + 3, stack := v.toList ++ rest }) := by
  subst hg
  have hWT : Z.Warmed39 T.vm := wtrans hZ X.warmed
  have hal : Z.vm.Alike T.vm := hWT.alike
  obtain ⟨obj, methO, hnO, hmO, hstO, habO⟩ := Cond.instanceMethod_spec hinst
  obtain ⟨methO', cO, hmO', hcO, hbO, hlO, -, hlockO, -, hsigO⟩ := Cond.code_spec hnO hcode
  cases hmO.symm.trans hmO'
  obtain ⟨kO, hkO, hnameO⟩ := className_of_methodNamed hnO
  obtain ⟨hnameMO, hdescO⟩ := name_of_methodNamed hnO hmO
  have hR := Cond.methodRef_warmed39 hWT hnO hy hlink
  have hcurT : (Z.setVm T.vm).vm.findClass own = some g.method.cls := by rw [show (Z.setVm T.vm).vm = T.vm from rfl, X.warmed.alike.findClass]; exact hown
  obtain ⟨m', c', hf', hready, hfind, hnr⟩ := Cond.methodRef_named e hcurT hR
  have hnT : (Z.setVm T.vm).methodNamed? y = some obj := by rw [State.methodNamed?_setVm hal]; exact hnO
  have hnS : s.methodNamed? y = some obj := by
    have := State.methodNamed?_setVm (s := Z) hZ.alike y
    rw [hnO] at this
    exact this
  cases hf'.symm.trans (State.methodFound?_of_named hnT hy)
  obtain rfl : c' = obj.cls := Option.some.inj (hfind.symm.trans (findClass_of_methodNamed hnT))
  obtain ⟨kO₂, hkO₂, heO₂⟩ := hal.2.2 _ _ hkO
  have hmO₂ : T.vm.method? obj = some methO := by rw [hal.method?]; exact hmO
  have hfound : lookupSpecial T.vm obj.cls "<init>" methO.desc = .method obj := by
    rw [hal.lookupSpecial, hdescO, ← hy1]; exact lookupSpecial_of_named hnO hmO hstO
  have hstep : ∀ target, (∀ acts, Steps p.tables e below (doInvoke e (T.setTop { g with stack := rest }) acts obj (.ref a :: argsL).toArray).1 target) → Steps p.tables e below (T.setTop g) target := fun target hrest => by
    jvm_step X.here [hexec, hdg, invokespecial.wp_init (e := e) (s := T) (k := kO₂) (meth := methO) (m := obj) (a := a) (args := argsL) (rest := rest) (f := g) X.here.top hnr hready hkO₂ hmO₂ (by rw [hnameMO]; exact hy1) hstO habO hfound (hlen _ hsigO) hstack]
    intro acts
    exact hrest acts
  obtain ⟨v, B, X', hpost, hsteps⟩ := hK g.method meth c ⟨T.setVm T.vm, locs, cells, slots⟩ { g with stack := rest } (.invokespecial index) obj (.ref a :: argsL).toArray X rfl hsize hdg hW (X.named hnS) (hpre T.vm X.warmed)
  exact ⟨v, T.vm, B, X.warmed, X', hpost, (hcome.trans (hstep _ fun acts => by rw [doInvoke_state]; exact Steps.refl _)).trans hsteps⟩
end
end Jvm.RoadKit

namespace Jvm.Pilot.@@N@@
open Jvm Jvm.ClassFile Sem Op Lib Jvm.Free Jvm.Stand Jvm.LawKit Jvm.RoadKit Jvm.LamKit Bundle Jvm.Pilot.@@N@@.Jvm.D
abbrev own_S (p : Program) (e : Env) (below : List Frame) (T : State) (f : JFrame) (t : State) : Prop := Steps p.tables e below (T.setTop f) t

theorem own_eqi {args : Array Value} {first s : State} {o : Option Outcome} {idx : List Nat} {t : Term} {k : Int32} (h : (Jvm.Cond.eq t (Term.int k)).value args first o s idx = some true) : t.eval args first o idx s = some (.int k) := by
  simp only [Jvm.Cond.value, Term.eval] at h
  cases ht : t.eval args first o idx s with
  | none => simp [ht] at h
  | some x => cases x <;> simp [ht] at h; rw [h]
theorem own_eql {args : Array Value} {first s : State} {o : Option Outcome} {idx : List Nat} {t : Term} {k : Int64} (h : (Jvm.Cond.eq t (Term.long k)).value args first o s idx = some true) : t.eval args first o idx s = some (.long k) := by
  simp only [Jvm.Cond.value, Term.eval] at h
  cases ht : t.eval args first o idx s with
  | none => simp [ht] at h
  | some x => cases x <;> simp [ht] at h; rw [h]

theorem own_len {s : State} {args : Array Value} {t : Term} {a : Addr} {cl : Cell} {ty : FieldType} {n : Int32} (A : Arr s s.heap a cl ty) (ev : t.eval args s none [] s = some (.ref a)) (hl : (Term.length t).eval args s none [] s = some (.int n)) : cl.slots.size < 2 ^ 31 ∧ cl.slots.size.toInt32 = n := by
  have ha := A.fin (U := s) (Vm.Alike.refl _)
  by_cases q : cl.slots.size < 2 ^ 31
  · have e := (len_f ev ha q).symm.trans hl
    exact ⟨q, by simpa using e⟩
  · simp [Term.eval, ev, ha, q] at hl
theorem own_eqr {args : Array Value} {first s : State} {o : Option Outcome} {idx : List Nat} {t u : Term} {g : Addr} (h : (Jvm.Cond.eq t u).value args first o s idx = some true) (hu : u.eval args first o idx s = some (.ref g)) : t.eval args first o idx s = some (.ref g) := by
  obtain ⟨x, y, hx, hy, k1, k2⟩ := cmp_v (Or.inl h)
  cases hu.symm.trans hy
  have hr : x.isRef = true := k2.2
  have e := gotT (eq_R hx hu hr rfl) h
  rw [hx, e]

theorem d_jdk_40_method_36_0 : decode jdk_40_method_36_code 0 = .ok (.getstatic 90, 3) := by decide +kernel
theorem d_jdk_40_method_36_3 : decode jdk_40_method_36_code 3 = .ok (.areturn, 1) := by decide +kernel
theorem pn_0 : plainName "java/util/List" = true := by first | (simp [plainName, overriddenIn]; done) | decide +kernel
theorem ef_rm2 (m : MethodId)  : entryFrame m #[] 0 = mkF m 0 #[] [] := by first | (simp [entryFrame, mkF, argsToLocals, Value.category]; done) | rfl
def Q2 (Z : State) (gL : Addr) (h0 : Heap) (n0 : Nat) (v : Option Value) (h : Heap) (L : List Loc) : Prop := v = some (.ref gL) ∧ Fr n0 L ∧ h = h0
set_option maxRecDepth 65536 in
set_option maxHeartbeats 40000000 in
theorem rm2 (l : Launch) (Z : State) (a0 : Array Value) (hw : ∀ d ∈ tables_1, d.before a0 Z = true) (ws : List Jvm.Cond) (gL : Addr) (h0 : Heap) (n0 : Nat) (Z0 : n0 ≤ h0.size) (O0 : Old Z n0 h0) (S_L : Sta Z Z.heap "java/util/ImmutableCollections" "EMPTY_LIST" "Ljava/util/ImmutableCollections$ListN;" (.ref gL)) :
    MetFree l (⟨"java/util/List", "of", "()Ljava/util/List;"⟩ : MethodName) (head1 (Jvm.Cond.code (⟨"java/util/List", "of", "()Ljava/util/List;"⟩ : MethodName) jdk_40_method_36_code 0 (some (.object "java/util/List")) :: ws) ({ frames := 0, cells := 0, slots := 0, locals := 0 } : Room)) (fun a U => a = #[] ∧ Z.Warmed39 U.vm ∧ U.heap = h0) (fun _ _ _ _ _ => True) (fun _ U o U' => ∃ v L, o = .returned v ∧ Q2 Z gL h0 n0 v U'.heap L ∧ FrameEnd U o U' L ({ frames := 0, cells := 0, slots := 0, locals := 0 } : Room).cells ({ frames := 0, cells := 0, slots := 0, locals := 0 } : Room).slots) := by
  refine MetFree.of_bodySF (plainFor_of_name pn_0) hisR ?_
  intro p e s m args below meth c s₁ Bd hml0 hP hK
  obtain ⟨rfl, hZ, hh⟩ := hP
  have hx := Bd.exec
  have hby := Bd.bytes
  have hml : c.maxLocals = 0 := hml0
  have hown : s.vm.findClass "java/util/List" = some m.cls := findClass_of_methodNamed Bd.named
  have hnm := (name_of_methodNamed Bd.named Bd.method).1
  have X0 : Stand p l e ({ frames := 0, cells := 0, slots := 0, locals := 0 } : Room) s m #[] below meth c s₁ [] 0 0 := Stand.of_body Bd
  have e0 : s₁.heap = h0 := by rw [← hh, Bd.state]; rfl
  have Nf0 := Fr.nil n0
  obtain ⟨Gl, hGl, kn0⟩ : ∃ Gl : State → Prop, (∀ t, Gl t → Steps p.tables e below (s₁.setTop (entryFrame m #[] 0)) t) ∧ ∀ t, own_S p e below s₁ (mkF m 0 #[] []) t → Gl t := ⟨fun t => Steps p.tables e below (s₁.setTop (entryFrame m #[] 0)) t, fun _ k => k, fun t k => castTop (ef_rm2 m ) k⟩
  obtain ⟨T1, X1, e1, st1⟩ := getS2 X0 hx hZ hown (host := "") (Or.inl (hw _ (List.mem_of_getElem? (i := 10) rfl))) Via.refl e0 (S_L.ext O0.2) (g := (mkF m 0 #[] [])) rfl (hb hby d_jdk_40_method_36_0)
  have kn2 : ∀ t, own_S p e below T1 (mkF m 3 #[] [(.ref gL)]) t → Gl t := fun t kt => kn0 t (st1 _ kt)
  obtain ⟨fs, hr, hrun, hended, hW, hsame⟩ := X1.leave (v := some (.ref gL)) (fun h => by rw [Bd.returns] at h; cases h)
  refine ⟨_, _, hGl _ (kn2 _ (by
      show own_S p e below T1 (mkF m 3 #[] [(.ref gL)]) _
      jvm_step X1.here [X1.here.top, hx, (hb hby d_jdk_40_method_36_3), X1.method', Bd.returns, Value.isRef, FieldType.isReference]
      first | (intro acts; rw [hr _ acts rfl rfl rfl]) | rw [hr _ _ rfl rfl rfl]
      exact Steps.refl _)), hrun, hended, _, _, rfl, ?_, ⟨_, rfl⟩, hW, hsame.mono (by decide) (by decide)⟩
  show Q2 Z gL h0 n0 _ T1.heap _
  rw [e1]
  exact ⟨rfl, Nf0, rfl⟩

theorem d_prog_43_method_1_0 : decode prog_43_method_1_code 0 = .ok (.aload_n 0, 1) := by decide +kernel
theorem d_prog_43_method_1_1 : decode prog_43_method_1_code 1 = .ok (.invokespecial 1, 3) := by decide +kernel
theorem d_prog_43_method_1_4 : decode prog_43_method_1_code 4 = .ok (.aload_n 0, 1) := by decide +kernel
theorem d_prog_43_method_1_5 : decode prog_43_method_1_code 5 = .ok (.aload_n 1, 1) := by decide +kernel
theorem d_prog_43_method_1_6 : decode prog_43_method_1_code 6 = .ok (.putfield 7, 3) := by decide +kernel
theorem d_prog_43_method_1_9 : decode prog_43_method_1_code 9 = .ok (.aload_n 0, 1) := by decide +kernel
theorem d_prog_43_method_1_10 : decode prog_43_method_1_code 10 = .ok (.aload_n 2, 1) := by decide +kernel
theorem d_prog_43_method_1_11 : decode prog_43_method_1_code 11 = .ok (.putfield 13, 3) := by decide +kernel
theorem d_prog_43_method_1_14 : decode prog_43_method_1_code 14 = .ok (.return_, 1) := by decide +kernel
theorem pn_1 : plainName "com/example/caddis/caddis/StatementSet" = true := by first | (simp [plainName, overriddenIn]; done) | decide +kernel
theorem ef_rm3 (m : MethodId) (x0 : Addr) (x1 : Addr) (x2 : Addr) : entryFrame m #[(.ref x0), (.ref x1), (.ref x2)] 3 = mkF m 0 #[.val (.ref x0), .val (.ref x1), .val (.ref x2)] [] := by first | (simp [entryFrame, mkF, argsToLocals, Value.category]; done) | rfl
def Q3 (Z : State) (a1 : Addr) (ls : Addr) (lt_ : Addr) (h0 : Heap) (n0 : Nat) (v : Option Value) (h : Heap) (L : List Loc) : Prop := v = none ∧ Fr n0 L ∧ Keep h0 h [a1] ∧ Exa Z h a1 "com/example/caddis/caddis/StatementSet" ∧ Fld Z h a1 "com/example/caddis/caddis/StatementSet" "inMemory" "Ljava/util/List;" (.ref ls) ∧ Fld Z h a1 "com/example/caddis/caddis/StatementSet" "runs" "Ljava/util/List;" (.ref lt_)
set_option maxRecDepth 65536 in
set_option maxHeartbeats 40000000 in
theorem rm3 (l : Launch) (Z : State) (a0 : Array Value) (hw : ∀ d ∈ tables_1, d.before a0 Z = true) (ws : List Jvm.Cond) (a1 : Addr) (ls : Addr) (lt_ : Addr) (h0 : Heap) (n0 : Nat) (Z0 : n0 ≤ h0.size) (O0 : Old Z n0 h0) (E_a1 : Exa Z h0 a1 "com/example/caddis/caddis/StatementSet") (F_a1_inMemory : Fld Z h0 a1 "com/example/caddis/caddis/StatementSet" "inMemory" "Ljava/util/List;" .null) (F_a1_runs : Fld Z h0 a1 "com/example/caddis/caddis/StatementSet" "runs" "Ljava/util/List;" .null) (g_a1 : n0 ≤ a1) :
    MetFree l (⟨"com/example/caddis/caddis/StatementSet", "<init>", "(Ljava/util/List;Ljava/util/List;)V"⟩ : MethodName) (head1 (Jvm.Cond.code (⟨"com/example/caddis/caddis/StatementSet", "<init>", "(Ljava/util/List;Ljava/util/List;)V"⟩ : MethodName) prog_43_method_1_code 3 none :: ws) ({ frames := 1, cells := 0, slots := 0, locals := 12 } : Room)) (fun a U => a = #[(.ref a1), (.ref ls), (.ref lt_)] ∧ Z.Warmed39 U.vm ∧ U.heap = h0) (fun _ _ _ _ _ => True) (fun _ U o U' => ∃ v L, o = .returned v ∧ Q3 Z a1 ls lt_ h0 n0 v U'.heap L ∧ FrameEnd U o U' L ({ frames := 1, cells := 0, slots := 0, locals := 12 } : Room).cells ({ frames := 1, cells := 0, slots := 0, locals := 12 } : Room).slots) := by
  refine MetFree.of_bodySF (plainFor_of_name pn_1) hisR ?_
  intro p e s m args below meth c s₁ Bd hml0 hP hK
  obtain ⟨rfl, hZ, hh⟩ := hP
  have hx := Bd.exec
  have hby := Bd.bytes
  have hml : c.maxLocals = 3 := hml0
  have hown : s.vm.findClass "com/example/caddis/caddis/StatementSet" = some m.cls := findClass_of_methodNamed Bd.named
  have hnm := (name_of_methodNamed Bd.named Bd.method).1
  have X0 : Stand p l e ({ frames := 1, cells := 0, slots := 0, locals := 12 } : Room) s m #[(.ref a1), (.ref ls), (.ref lt_)] below meth c s₁ [] 0 0 := Stand.of_body Bd
  have e0 : s₁.heap = h0 := by rw [← hh, Bd.state]; rfl
  have Nf0 := Fr.nil n0
  obtain ⟨Gl, hGl, kn0⟩ : ∃ Gl : State → Prop, (∀ t, Gl t → Steps p.tables e below (s₁.setTop (entryFrame m #[(.ref a1), (.ref ls), (.ref lt_)] 3)) t) ∧ ∀ t, own_S p e below s₁ (mkF m 0 #[.val (.ref a1), .val (.ref ls), .val (.ref lt_)] []) t → Gl t := ⟨fun t => Steps p.tables e below (s₁.setTop (entryFrame m #[(.ref a1), (.ref ls), (.ref lt_)] 3)) t, fun _ k => k, fun t k => castTop (ef_rm3 m a1 ls lt_) k⟩
  have kn1 : ∀ t, own_S p e below s₁ (mkF m 1 #[.val (.ref a1), .val (.ref ls), .val (.ref lt_)] [(.ref a1)]) t → Gl t := fun t kt => kn0 t (by
    show own_S p e below s₁ (mkF m 0 #[.val (.ref a1), .val (.ref ls), .val (.ref lt_)] []) _
    refine XS.aloadN X0.here hx rfl (hb hby d_prog_43_method_1_0) rfl rfl ?_
    exact kt)
  obtain ⟨T2, X2, e2, st2⟩ := initO X0 hx hZ hown (hw _ (List.mem_of_getElem? (i := 15) rfl)) (hw _ (List.mem_of_getElem? (i := 16) rfl)) (hw _ (List.mem_of_getElem? (i := 17) rfl)) e0 (g := (mkF m 1 #[.val (.ref a1), .val (.ref ls), .val (.ref lt_)] [(.ref a1)])) rfl (by rw [hml]; rfl) rfl (hb hby d_prog_43_method_1_1) (by decide) (W := 0) (by show 2 * 0 + _ ≤ _; exact Nat.le_of_eq rfl) (by decide)
  have kn3 : ∀ t, own_S p e below T2 (mkF m 4 #[.val (.ref a1), .val (.ref ls), .val (.ref lt_)] []) t → Gl t := fun t kt => kn1 t (st2 _ kt)
  have kn4 : ∀ t, own_S p e below T2 (mkF m 6 #[.val (.ref a1), .val (.ref ls), .val (.ref lt_)] [(.ref ls), (.ref a1)]) t → Gl t := fun t kt => kn3 t (by
    show own_S p e below T2 (mkF m 4 #[.val (.ref a1), .val (.ref ls), .val (.ref lt_)] []) _
    refine XS.aloadN X2.here hx rfl (hb hby d_prog_43_method_1_4) rfl rfl ?_
    show own_S p e below T2 (mkF m 5 #[.val (.ref a1), .val (.ref ls), .val (.ref lt_)] [(.ref a1)]) _
    refine XS.aloadN X2.here hx rfl (hb hby d_prog_43_method_1_5) rfl rfl ?_
    exact kt)
  obtain ⟨T5, h5, X5, e5, W5, st5⟩ := putF X2 hx hZ hown (host := "") (Or.inl (hw _ (List.mem_of_getElem? (i := 18) rfl))) Via.refl e2 F_a1_inMemory E_a1 (Or.inr ⟨(hw _ (List.mem_of_getElem? (i := 19) rfl)), rfl, hnm⟩) (hw _ (List.mem_of_getElem? (i := 5) rfl)) (ty := (.object "java/util/List")) (by decide) rfl rfl (g := (mkF m 6 #[.val (.ref a1), .val (.ref ls), .val (.ref lt_)] [(.ref ls), (.ref a1)])) rfl rfl (hb hby d_prog_43_method_1_6)
  have Z6 : n0 ≤ h5.size := Nat.le_trans Z0 (Keep.of_wr W5).1
  have Od7 : Old Z n0 h5 := O0.wr W5 g_a1
  have K8 : Keep h0 h5 [a1] := (Keep.refl h0 [a1]).wr W5 (Or.inl (List.mem_of_getElem? (i := 0) rfl))
  have Fw5 := F_a1_inMemory.same W5
  have Nf9 := Fr.snoc X5 Nf0 g_a1
  have kn10 : ∀ t, own_S p e below T5 (mkF m 9 #[.val (.ref a1), .val (.ref ls), .val (.ref lt_)] []) t → Gl t := fun t kt => kn4 t (st5 _ kt)
  have kn11 : ∀ t, own_S p e below T5 (mkF m 11 #[.val (.ref a1), .val (.ref ls), .val (.ref lt_)] [(.ref lt_), (.ref a1)]) t → Gl t := fun t kt => kn10 t (by
    show own_S p e below T5 (mkF m 9 #[.val (.ref a1), .val (.ref ls), .val (.ref lt_)] []) _
    refine XS.aloadN X5.here hx rfl (hb hby d_prog_43_method_1_9) rfl rfl ?_
    show own_S p e below T5 (mkF m 10 #[.val (.ref a1), .val (.ref ls), .val (.ref lt_)] [(.ref a1)]) _
    refine XS.aloadN X5.here hx rfl (hb hby d_prog_43_method_1_10) rfl rfl ?_
    exact kt)
  have f12 := (F_a1_runs.other W5 (Or.inr (slot_ne (Or.inr (hw _ (List.mem_of_getElem? (i := 21) rfl))) (Or.inr (hw _ (List.mem_of_getElem? (i := 19) rfl))) (by decide) (t := (.object "java/util/List")) (t' := (.object "java/util/List")) (by decide) (by decide))))
  have f13 := (E_a1.wr W5)
  obtain ⟨T14, h14, X14, e14, W14, st14⟩ := putF X5 hx hZ hown (host := "") (Or.inl (hw _ (List.mem_of_getElem? (i := 20) rfl))) Via.refl e5 f12 f13 (Or.inr ⟨(hw _ (List.mem_of_getElem? (i := 21) rfl)), rfl, hnm⟩) (hw _ (List.mem_of_getElem? (i := 5) rfl)) (ty := (.object "java/util/List")) (by decide) rfl rfl (g := (mkF m 11 #[.val (.ref a1), .val (.ref ls), .val (.ref lt_)] [(.ref lt_), (.ref a1)])) rfl rfl (hb hby d_prog_43_method_1_11)
  have Z15 : n0 ≤ h14.size := Nat.le_trans Z6 (Keep.of_wr W14).1
  have Od16 : Old Z n0 h14 := Od7.wr W14 g_a1
  have K17 : Keep h0 h14 [a1] := K8.wr W14 (Or.inl (List.mem_of_getElem? (i := 0) rfl))
  have Fw14 := f12.same W14
  have Nf18 := Fr.snoc X14 Nf9 g_a1
  have kn19 : ∀ t, own_S p e below T14 (mkF m 14 #[.val (.ref a1), .val (.ref ls), .val (.ref lt_)] []) t → Gl t := fun t kt => kn11 t (st14 _ kt)
  obtain ⟨fs, hr, hrun, hended, hW, hsame⟩ := X14.leave (v := none) (fun _ => rfl)
  refine ⟨_, _, hGl _ (kn19 _ (X14.returnOut hx Bd.returns (hb hby d_prog_43_method_1_14) hr)), hrun, hended, _, _, rfl, ?_, ⟨_, rfl⟩, hW, hsame.mono (by decide) (by decide)⟩
  show Q3 Z a1 ls lt_ h0 n0 _ T14.heap _
  rw [e14]
  have f20 := (f13.wr W14)
  have f21 := (Fw5.other W14 (Or.inr (slot_ne (Or.inr (hw _ (List.mem_of_getElem? (i := 19) rfl))) (Or.inr (hw _ (List.mem_of_getElem? (i := 21) rfl))) (by decide) (t := (.object "java/util/List")) (t' := (.object "java/util/List")) (by decide) (by decide))))
  exact ⟨rfl, Nf18, K17, f20, f21, Fw14⟩

theorem d_prog_43_method_3_0 : decode prog_43_method_3_code 0 = .ok (.new 8, 3) := by decide +kernel
theorem d_prog_43_method_3_3 : decode prog_43_method_3_code 3 = .ok (.dup, 1) := by decide +kernel
theorem d_prog_43_method_3_4 : decode prog_43_method_3_code 4 = .ok (.invokestatic 44, 3) := by decide +kernel
theorem d_prog_43_method_3_7 : decode prog_43_method_3_code 7 = .ok (.invokestatic 44, 3) := by decide +kernel
theorem d_prog_43_method_3_10 : decode prog_43_method_3_code 10 = .ok (.invokespecial 50, 3) := by decide +kernel
theorem d_prog_43_method_3_13 : decode prog_43_method_3_code 13 = .ok (.areturn, 1) := by decide +kernel
theorem pd_0 : parseMethodDescriptor "()Ljava/util/List;" = some ⟨[], some (.object "java/util/List")⟩ := by decide +kernel
theorem pd_1 : parseMethodDescriptor "(Ljava/util/List;Ljava/util/List;)V" = some ⟨[(.object "java/util/List"), (.object "java/util/List")], none⟩ := by decide +kernel
theorem ef_rm1 (m : MethodId)  : entryFrame m #[] 0 = mkF m 0 #[] [] := by first | (simp [entryFrame, mkF, argsToLocals, Value.category]; done) | rfl
def Q1 (Z : State) (gL : Addr) (h0 : Heap) (n0 : Nat) (v : Option Value) (h : Heap) (L : List Loc) : Prop := ∃ b : Addr, v = some (.ref b) ∧ Fr n0 L ∧ n0 ≤ b ∧ h0.size ≤ b ∧ Keep h0 h [] ∧ Exa Z h b "com/example/caddis/caddis/StatementSet" ∧ Fld Z h b "com/example/caddis/caddis/StatementSet" "inMemory" "Ljava/util/List;" (.ref gL) ∧ Fld Z h b "com/example/caddis/caddis/StatementSet" "runs" "Ljava/util/List;" (.ref gL)
set_option maxRecDepth 65536 in
set_option maxHeartbeats 40000000 in
theorem rm1 (l : Launch) (Z : State) (a0 : Array Value) (hw : ∀ d ∈ tables_1, d.before a0 Z = true) (ws : List Jvm.Cond) (gL : Addr) (h0 : Heap) (n0 : Nat) (Z0 : n0 ≤ h0.size) (O0 : Old Z n0 h0) (S_L : Sta Z Z.heap "java/util/ImmutableCollections" "EMPTY_LIST" "Ljava/util/ImmutableCollections$ListN;" (.ref gL)) :
    MetFree l (⟨"com/example/caddis/caddis/StatementSet", "empty", "()Lcom/example/caddis/caddis/StatementSet;"⟩ : MethodName) (head1 (Jvm.Cond.code (⟨"com/example/caddis/caddis/StatementSet", "empty", "()Lcom/example/caddis/caddis/StatementSet;"⟩ : MethodName) prog_43_method_3_code 0 (some (.object "com/example/caddis/caddis/StatementSet")) :: ws) ({ frames := 2, cells := 1, slots := 2, locals := 27 } : Room)) (fun a U => a = #[] ∧ Z.Warmed39 U.vm ∧ U.heap = h0) (fun _ _ _ _ _ => True) (fun _ U o U' => ∃ v L, o = .returned v ∧ Q1 Z gL h0 n0 v U'.heap L ∧ FrameEnd U o U' L ({ frames := 2, cells := 1, slots := 2, locals := 27 } : Room).cells ({ frames := 2, cells := 1, slots := 2, locals := 27 } : Room).slots) := by
  refine MetFree.of_bodySF (plainFor_of_name pn_1) hisR ?_
  intro p e s m args below meth c s₁ Bd hml0 hP hK
  obtain ⟨rfl, hZ, hh⟩ := hP
  have hx := Bd.exec
  have hby := Bd.bytes
  have hml : c.maxLocals = 0 := hml0
  have hown : s.vm.findClass "com/example/caddis/caddis/StatementSet" = some m.cls := findClass_of_methodNamed Bd.named
  have hnm := (name_of_methodNamed Bd.named Bd.method).1
  have X0 : Stand p l e ({ frames := 2, cells := 1, slots := 2, locals := 27 } : Room) s m #[] below meth c s₁ [] 0 0 := Stand.of_body Bd
  have e0 : s₁.heap = h0 := by rw [← hh, Bd.state]; rfl
  have Nf0 := Fr.nil n0
  obtain ⟨Gl, hGl, kn0⟩ : ∃ Gl : State → Prop, (∀ t, Gl t → Steps p.tables e below (s₁.setTop (entryFrame m #[] 0)) t) ∧ ∀ t, own_S p e below s₁ (mkF m 0 #[] []) t → Gl t := ⟨fun t => Steps p.tables e below (s₁.setTop (entryFrame m #[] 0)) t, fun _ k => k, fun t k => castTop (ef_rm1 m ) k⟩
  obtain ⟨T1, h1, X1, e1, E1, A1, D1, -, st1⟩ := newO X0 hx hZ hown (hw _ (List.mem_of_getElem? (i := 4) rfl)) (hw _ (List.mem_of_getElem? (i := 5) rfl)) (hw _ (List.mem_of_getElem? (i := 2) rfl)) e0 (g := (mkF m 0 #[] [])) rfl (hb hby d_prog_43_method_3_0) (by decide) (by decide)
  obtain ⟨b1, g1⟩ : ∃ z, z = h0.size := ⟨_, rfl⟩
  rw [← g1] at A1 D1 st1
  have sz_b1 : h0.size ≤ b1 := Nat.le_trans (Keep.refl h0 []).1 (Nat.le_of_eq g1.symm)
  have g_b1 : n0 ≤ b1 := Nat.le_trans Z0 (Nat.le_of_eq g1.symm)
  have Z2 : n0 ≤ h1.size := Nat.le_trans Z0 E1.1
  have Od3 : Old Z n0 h1 := O0.ext E1
  have K4 : Keep h0 h1 [] := (Keep.refl h0 []).ext E1
  have F1_19 : Fld Z h1 b1 "com/example/caddis/caddis/StatementSet" "inMemory" "Ljava/util/List;" .null := D1 (Or.inr (hw _ (List.mem_of_getElem? (i := 19) rfl))) (ty := (.object "java/util/List")) (by decide)
  have F1_21 : Fld Z h1 b1 "com/example/caddis/caddis/StatementSet" "runs" "Ljava/util/List;" .null := D1 (Or.inr (hw _ (List.mem_of_getElem? (i := 21) rfl))) (ty := (.object "java/util/List")) (by decide)
  have kn5 : ∀ t, own_S p e below T1 (mkF m 3 #[] [(.ref b1)]) t → Gl t := fun t kt => kn0 t (st1 _ kt)
  have kn6 : ∀ t, own_S p e below T1 (mkF m 4 #[] [(.ref b1), (.ref b1)]) t → Gl t := fun t kt => kn5 t (by
    show own_S p e below T1 (mkF m 3 #[] [(.ref b1)]) _
    refine XS.dup X1.here hx rfl (hb hby d_prog_43_method_3_3) rfl rfl ?_
    exact kt)
  obtain ⟨_, _, ⟨T7, L7, cc7, ss7⟩, -, X7, ⟨Lc7, hQ7, l7, y7, z7⟩, st7⟩ := Jvm.LawKit.callS X1 hx (y := (⟨"java/util/List", "of", "()Ljava/util/List;"⟩ : MethodName)) hown (mvT hZ (hw _ (List.mem_of_getElem? (i := 6) rfl))) (mvT hZ (hw _ (List.mem_of_getElem? (i := 7) rfl))) (mvT hZ (hw _ (List.mem_of_getElem? (i := 8) rfl))) (mvT hZ (hw _ (List.mem_of_getElem? (i := 9) rfl))) (by decide) (backOf (W := 2) (rm2 l Z a0 hw []  gL h1 n0 Z2 Od3 S_L) hZ (hw _ (List.mem_of_getElem? (i := 9) rfl)) (hw _ (List.mem_of_getElem? (i := 8) rfl)) (by decide) (by decide)) (g := (mkF m 4 #[] [(.ref b1), (.ref b1)])) rfl (by rw [hml]; rfl) (argsL := []) (rest := [(.ref b1), (.ref b1)]) (lenOf pd_0 rfl) rfl (by show 2 * 0 + _ ≤ _; exact Nat.le_of_eq rfl) (hb hby d_prog_43_method_3_4) (fun _ _ => ⟨rfl, e1, (by decide : 1 + 0 ≤ _), (by decide : 2 + 0 ≤ _)⟩)
  dsimp only [Pt.U, Pt.locs, Pt.cells, Pt.slots] at X7 l7 y7 z7 st7 hQ7
  subst l7 y7 z7
  have X7 : Stand p l e _ _ m _ below meth c T7 _ 1 2 := X7
  obtain ⟨rfl, Nq7, eq7⟩ := hQ7
  have Nf7 := Fr.app Nf0 Nq7
  have kn8 : ∀ t, own_S p e below T7 (mkF m 7 #[] [(.ref gL), (.ref b1), (.ref b1)]) t → Gl t := fun t kt => kn6 t (st7 _ kt)
  obtain ⟨_, _, ⟨T9, L9, cc9, ss9⟩, -, X9, ⟨Lc9, hQ9, l9, y9, z9⟩, st9⟩ := Jvm.LawKit.callS X7 hx (y := (⟨"java/util/List", "of", "()Ljava/util/List;"⟩ : MethodName)) hown (mvT hZ (hw _ (List.mem_of_getElem? (i := 6) rfl))) (mvT hZ (hw _ (List.mem_of_getElem? (i := 7) rfl))) (mvT hZ (hw _ (List.mem_of_getElem? (i := 8) rfl))) (mvT hZ (hw _ (List.mem_of_getElem? (i := 9) rfl))) (by decide) (backOf (W := 3) (rm2 l Z a0 hw []  gL h1 n0 Z2 Od3 S_L) hZ (hw _ (List.mem_of_getElem? (i := 9) rfl)) (hw _ (List.mem_of_getElem? (i := 8) rfl)) (by decide) (by decide)) (g := (mkF m 7 #[] [(.ref gL), (.ref b1), (.ref b1)])) rfl (by rw [hml]; rfl) (argsL := []) (rest := [(.ref gL), (.ref b1), (.ref b1)]) (lenOf pd_0 rfl) rfl (by show 2 * 0 + _ ≤ _; exact Nat.le_of_eq rfl) (hb hby d_prog_43_method_3_7) (fun _ _ => ⟨rfl, eq7, (by decide : 1 + 0 ≤ _), (by decide : 2 + 0 ≤ _)⟩)
  dsimp only [Pt.U, Pt.locs, Pt.cells, Pt.slots] at X9 l9 y9 z9 st9 hQ9
  subst l9 y9 z9
  have X9 : Stand p l e _ _ m _ below meth c T9 _ 1 2 := X9
  obtain ⟨rfl, Nq9, eq9⟩ := hQ9
  have Nf9 := Fr.app Nf7 Nq9
  have kn10 : ∀ t, own_S p e below T9 (mkF m 10 #[] [(.ref gL), (.ref gL), (.ref b1), (.ref b1)]) t → Gl t := fun t kt => kn8 t (st9 _ kt)
  obtain ⟨_, _, ⟨T11, L11, cc11, ss11⟩, -, X11, ⟨Lc11, hQ11, l11, y11, z11⟩, st11⟩ := X9.specialBack hx (y := (⟨"com/example/caddis/caddis/StatementSet", "<init>", "(Ljava/util/List;Ljava/util/List;)V"⟩ : MethodName)) rfl hown (mvT hZ (hw _ (List.mem_of_getElem? (i := 12) rfl))) (mvT hZ (hw _ (List.mem_of_getElem? (i := 13) rfl))) (mvT hZ (hw _ (List.mem_of_getElem? (i := 14) rfl))) (by decide) (backOf (W := 1) (rm3 l Z a0 hw [] b1 gL gL  h1 n0 Z2 Od3 A1 F1_19 F1_21 g_b1 ) hZ (hw _ (List.mem_of_getElem? (i := 14) rfl)) (hw _ (List.mem_of_getElem? (i := 2) rfl)) (by decide) (by decide)) (g := (mkF m 10 #[] [(.ref gL), (.ref gL), (.ref b1), (.ref b1)])) rfl (by rw [hml]; rfl) (Steps.refl _) (a := b1) (argsL := [(.ref gL), (.ref gL)]) (rest := [(.ref b1)]) (lenOf pd_1 rfl) rfl (by show 2 * 0 + _ ≤ _; exact Nat.le_of_eq rfl) (hb hby d_prog_43_method_3_10) (fun _ _ => ⟨rfl, eq9, (by decide : 1 + 0 ≤ _), (by decide : 2 + 0 ≤ _)⟩)
  dsimp only [Pt.U, Pt.locs, Pt.cells, Pt.slots] at X11 l11 y11 z11 st11 hQ11
  subst l11 y11 z11
  have X11 : Stand p l e _ _ m _ below meth c T11 _ 1 2 := X11
  obtain ⟨rfl, Nq11, K11, Ex11_a, Fx11_a_0, Fx11_a_1⟩ := hQ11
  have Nf11 := Fr.app Nf9 Nq11
  have Z12 : n0 ≤ T11.heap.size := Nat.le_trans Z2 K11.1
  have Od13 : Old Z n0 T11.heap := Od3.keep K11 (allS g_b1 all0)
  have K14 : Keep h0 T11.heap [] := K4.trans K11 (allS (Or.inr sz_b1) all0)
  have kn15 : ∀ t, own_S p e below T11 (mkF m 13 #[] [(.ref b1)]) t → Gl t := fun t kt => kn10 t (st11.trans kt)
  obtain ⟨fs, hr, hrun, hended, hW, hsame⟩ := X11.leave (v := some (.ref b1)) (fun h => by rw [Bd.returns] at h; cases h)
  refine ⟨_, _, hGl _ (kn15 _ (by
      show own_S p e below T11 (mkF m 13 #[] [(.ref b1)]) _
      jvm_step X11.here [X11.here.top, hx, (hb hby d_prog_43_method_3_13), X11.method', Bd.returns, Value.isRef, FieldType.isReference]
      first | (intro acts; rw [hr _ acts rfl rfl rfl]) | rw [hr _ _ rfl rfl rfl]
      exact Steps.refl _)), hrun, hended, _, _, rfl, ?_, ⟨_, rfl⟩, hW, hsame.mono (by decide) (by decide)⟩
  show Q1 Z gL h0 n0 _ T11.heap _
  exact ⟨b1, rfl, Nf11, g_b1, sz_b1, K14, Ex11_a, Fx11_a_0, Fx11_a_1⟩

theorem d_jdk_22_method_1_0 : decode jdk_22_method_1_code 0 = .ok (.aload_n 0, 1) := by decide +kernel
theorem d_jdk_22_method_1_1 : decode jdk_22_method_1_code 1 = .ok (.invokespecial 1, 3) := by decide +kernel
theorem d_jdk_22_method_1_4 : decode jdk_22_method_1_code 4 = .ok (.return_, 1) := by decide +kernel
theorem pn_2 : plainName "java/util/AbstractCollection" = true := by first | (simp [plainName, overriddenIn]; done) | decide +kernel
theorem ef_rm8 (m : MethodId) (x0 : Addr) : entryFrame m #[(.ref x0)] 1 = mkF m 0 #[.val (.ref x0)] [] := by first | (simp [entryFrame, mkF, argsToLocals, Value.category]; done) | rfl
def Q8 (Z : State) (a1 : Addr) (h0 : Heap) (n0 : Nat) (v : Option Value) (h : Heap) (L : List Loc) : Prop := v = none ∧ Fr n0 L ∧ h = h0
set_option maxRecDepth 65536 in
set_option maxHeartbeats 40000000 in
theorem rm8 (l : Launch) (Z : State) (a0 : Array Value) (hw : ∀ d ∈ tables_1, d.before a0 Z = true) (ws : List Jvm.Cond) (a1 : Addr) (h0 : Heap) (n0 : Nat) (Z0 : n0 ≤ h0.size) :
    MetFree l (⟨"java/util/AbstractCollection", "<init>", "()V"⟩ : MethodName) (head1 (Jvm.Cond.code (⟨"java/util/AbstractCollection", "<init>", "()V"⟩ : MethodName) jdk_22_method_1_code 1 none :: ws) ({ frames := 1, cells := 0, slots := 0, locals := 12 } : Room)) (fun a U => a = #[(.ref a1)] ∧ Z.Warmed39 U.vm ∧ U.heap = h0) (fun _ _ _ _ _ => True) (fun _ U o U' => ∃ v L, o = .returned v ∧ Q8 Z a1 h0 n0 v U'.heap L ∧ FrameEnd U o U' L ({ frames := 1, cells := 0, slots := 0, locals := 12 } : Room).cells ({ frames := 1, cells := 0, slots := 0, locals := 12 } : Room).slots) := by
  refine MetFree.of_bodySF (plainFor_of_name pn_2) hisR ?_
  intro p e s m args below meth c s₁ Bd hml0 hP hK
  obtain ⟨rfl, hZ, hh⟩ := hP
  have hx := Bd.exec
  have hby := Bd.bytes
  have hml : c.maxLocals = 1 := hml0
  have hown : s.vm.findClass "java/util/AbstractCollection" = some m.cls := findClass_of_methodNamed Bd.named
  have hnm := (name_of_methodNamed Bd.named Bd.method).1
  have X0 : Stand p l e ({ frames := 1, cells := 0, slots := 0, locals := 12 } : Room) s m #[(.ref a1)] below meth c s₁ [] 0 0 := Stand.of_body Bd
  have e0 : s₁.heap = h0 := by rw [← hh, Bd.state]; rfl
  have Nf0 := Fr.nil n0
  obtain ⟨Gl, hGl, kn0⟩ : ∃ Gl : State → Prop, (∀ t, Gl t → Steps p.tables e below (s₁.setTop (entryFrame m #[(.ref a1)] 1)) t) ∧ ∀ t, own_S p e below s₁ (mkF m 0 #[.val (.ref a1)] []) t → Gl t := ⟨fun t => Steps p.tables e below (s₁.setTop (entryFrame m #[(.ref a1)] 1)) t, fun _ k => k, fun t k => castTop (ef_rm8 m a1) k⟩
  have kn1 : ∀ t, own_S p e below s₁ (mkF m 1 #[.val (.ref a1)] [(.ref a1)]) t → Gl t := fun t kt => kn0 t (by
    show own_S p e below s₁ (mkF m 0 #[.val (.ref a1)] []) _
    refine XS.aloadN X0.here hx rfl (hb hby d_jdk_22_method_1_0) rfl rfl ?_
    exact kt)
  obtain ⟨T2, X2, e2, st2⟩ := initO X0 hx hZ hown (hw _ (List.mem_of_getElem? (i := 45) rfl)) (hw _ (List.mem_of_getElem? (i := 16) rfl)) (hw _ (List.mem_of_getElem? (i := 17) rfl)) e0 (g := (mkF m 1 #[.val (.ref a1)] [(.ref a1)])) rfl (by rw [hml]; rfl) rfl (hb hby d_jdk_22_method_1_1) (by decide) (W := 0) (by show 2 * 0 + _ ≤ _; exact Nat.le_of_eq rfl) (by decide)
  have kn3 : ∀ t, own_S p e below T2 (mkF m 4 #[.val (.ref a1)] []) t → Gl t := fun t kt => kn1 t (st2 _ kt)
  obtain ⟨fs, hr, hrun, hended, hW, hsame⟩ := X2.leave (v := none) (fun _ => rfl)
  refine ⟨_, _, hGl _ (kn3 _ (X2.returnOut hx Bd.returns (hb hby d_jdk_22_method_1_4) hr)), hrun, hended, _, _, rfl, ?_, ⟨_, rfl⟩, hW, hsame.mono (by decide) (by decide)⟩
  show Q8 Z a1 h0 n0 _ T2.heap _
  rw [e2]
  exact ⟨rfl, Nf0, rfl⟩

theorem d_jdk_39_method_1_0 : decode jdk_39_method_1_code 0 = .ok (.aload_n 0, 1) := by decide +kernel
theorem d_jdk_39_method_1_1 : decode jdk_39_method_1_code 1 = .ok (.invokespecial 1, 3) := by decide +kernel
theorem d_jdk_39_method_1_4 : decode jdk_39_method_1_code 4 = .ok (.aload_n 0, 1) := by decide +kernel
theorem d_jdk_39_method_1_5 : decode jdk_39_method_1_code 5 = .ok (.iconst 0, 1) := by decide +kernel
theorem d_jdk_39_method_1_6 : decode jdk_39_method_1_code 6 = .ok (.putfield 7, 3) := by decide +kernel
theorem d_jdk_39_method_1_9 : decode jdk_39_method_1_code 9 = .ok (.return_, 1) := by decide +kernel
theorem pn_3 : plainName "java/util/AbstractList" = true := by first | (simp [plainName, overriddenIn]; done) | decide +kernel
theorem pd_2 : parseMethodDescriptor "()V" = some ⟨[], none⟩ := by decide +kernel
theorem ef_rm7 (m : MethodId) (x0 : Addr) : entryFrame m #[(.ref x0)] 1 = mkF m 0 #[.val (.ref x0)] [] := by first | (simp [entryFrame, mkF, argsToLocals, Value.category]; done) | rfl
def Q7 (Z : State) (a1 : Addr) (h0 : Heap) (n0 : Nat) (v : Option Value) (h : Heap) (L : List Loc) : Prop := v = none ∧ Fr n0 L ∧ Keep h0 h [a1] ∧ Exa Z h a1 "java/util/ArrayList" ∧ Fld Z h a1 "java/util/AbstractList" "modCount" "I" (.int (0 : Int32)) ∧ Fld Z h a1 "java/util/ArrayList" "elementData" "[Ljava/lang/Object;" .null ∧ Fld Z h a1 "java/util/ArrayList" "size" "I" (.int (0 : Int32))
set_option maxRecDepth 65536 in
set_option maxHeartbeats 40000000 in
theorem rm7 (l : Launch) (Z : State) (a0 : Array Value) (hw : ∀ d ∈ tables_1, d.before a0 Z = true) (ws : List Jvm.Cond) (a1 : Addr) (h0 : Heap) (n0 : Nat) (Z0 : n0 ≤ h0.size) (O0 : Old Z n0 h0) (E_a1 : Exa Z h0 a1 "java/util/ArrayList") (F_a1_modCount : Fld Z h0 a1 "java/util/AbstractList" "modCount" "I" (.int (0 : Int32))) (F_a1_elementData : Fld Z h0 a1 "java/util/ArrayList" "elementData" "[Ljava/lang/Object;" .null) (F_a1_size : Fld Z h0 a1 "java/util/ArrayList" "size" "I" (.int (0 : Int32))) (g_a1 : n0 ≤ a1) :
    MetFree l (⟨"java/util/AbstractList", "<init>", "()V"⟩ : MethodName) (head1 (Jvm.Cond.code (⟨"java/util/AbstractList", "<init>", "()V"⟩ : MethodName) jdk_39_method_1_code 1 none :: ws) ({ frames := 2, cells := 0, slots := 0, locals := 24 } : Room)) (fun a U => a = #[(.ref a1)] ∧ Z.Warmed39 U.vm ∧ U.heap = h0) (fun _ _ _ _ _ => True) (fun _ U o U' => ∃ v L, o = .returned v ∧ Q7 Z a1 h0 n0 v U'.heap L ∧ FrameEnd U o U' L ({ frames := 2, cells := 0, slots := 0, locals := 24 } : Room).cells ({ frames := 2, cells := 0, slots := 0, locals := 24 } : Room).slots) := by
  refine MetFree.of_bodySF (plainFor_of_name pn_3) hisR ?_
  intro p e s m args below meth c s₁ Bd hml0 hP hK
  obtain ⟨rfl, hZ, hh⟩ := hP
  have hx := Bd.exec
  have hby := Bd.bytes
  have hml : c.maxLocals = 1 := hml0
  have hown : s.vm.findClass "java/util/AbstractList" = some m.cls := findClass_of_methodNamed Bd.named
  have hnm := (name_of_methodNamed Bd.named Bd.method).1
  have X0 : Stand p l e ({ frames := 2, cells := 0, slots := 0, locals := 24 } : Room) s m #[(.ref a1)] below meth c s₁ [] 0 0 := Stand.of_body Bd
  have e0 : s₁.heap = h0 := by rw [← hh, Bd.state]; rfl
  have Nf0 := Fr.nil n0
  obtain ⟨Gl, hGl, kn0⟩ : ∃ Gl : State → Prop, (∀ t, Gl t → Steps p.tables e below (s₁.setTop (entryFrame m #[(.ref a1)] 1)) t) ∧ ∀ t, own_S p e below s₁ (mkF m 0 #[.val (.ref a1)] []) t → Gl t := ⟨fun t => Steps p.tables e below (s₁.setTop (entryFrame m #[(.ref a1)] 1)) t, fun _ k => k, fun t k => castTop (ef_rm7 m a1) k⟩
  have kn1 : ∀ t, own_S p e below s₁ (mkF m 1 #[.val (.ref a1)] [(.ref a1)]) t → Gl t := fun t kt => kn0 t (by
    show own_S p e below s₁ (mkF m 0 #[.val (.ref a1)] []) _
    refine XS.aloadN X0.here hx rfl (hb hby d_jdk_39_method_1_0) rfl rfl ?_
    exact kt)
  obtain ⟨_, _, ⟨T2, L2, cc2, ss2⟩, -, X2, ⟨Lc2, hQ2, l2, y2, z2⟩, st2⟩ := X0.specialBack hx (y := (⟨"java/util/AbstractCollection", "<init>", "()V"⟩ : MethodName)) rfl hown (mvT hZ (hw _ (List.mem_of_getElem? (i := 39) rfl))) (mvT hZ (hw _ (List.mem_of_getElem? (i := 40) rfl))) (mvT hZ (hw _ (List.mem_of_getElem? (i := 44) rfl))) (by decide) (backOf (W := 0) (rm8 l Z a0 hw [] a1  h0 n0 Z0 ) hZ (hw _ (List.mem_of_getElem? (i := 44) rfl)) (hw _ (List.mem_of_getElem? (i := 43) rfl)) (by decide) (by decide)) (g := (mkF m 1 #[.val (.ref a1)] [(.ref a1)])) rfl (by rw [hml]; rfl) (Steps.refl _) (a := a1) (argsL := []) (rest := []) (lenOf pd_2 rfl) rfl (by show 2 * 0 + _ ≤ _; exact Nat.le_of_eq rfl) (hb hby d_jdk_39_method_1_1) (fun _ _ => ⟨rfl, e0, (by decide : 0 + 0 ≤ _), (by decide : 0 + 0 ≤ _)⟩)
  dsimp only [Pt.U, Pt.locs, Pt.cells, Pt.slots] at X2 l2 y2 z2 st2 hQ2
  subst l2 y2 z2
  have X2 : Stand p l e _ _ m _ below meth c T2 _ 0 0 := X2
  obtain ⟨rfl, Nq2, eq2⟩ := hQ2
  have Nf2 := Fr.app Nf0 Nq2
  have kn3 : ∀ t, own_S p e below T2 (mkF m 4 #[.val (.ref a1)] []) t → Gl t := fun t kt => kn1 t (st2.trans kt)
  have kn4 : ∀ t, own_S p e below T2 (mkF m 6 #[.val (.ref a1)] [(.int (0 : Int32)), (.ref a1)]) t → Gl t := fun t kt => kn3 t (by
    show own_S p e below T2 (mkF m 4 #[.val (.ref a1)] []) _
    refine XS.aloadN X2.here hx rfl (hb hby d_jdk_39_method_1_4) rfl rfl ?_
    show own_S p e below T2 (mkF m 5 #[.val (.ref a1)] [(.ref a1)]) _
    refine XS.iconst X2.here hx rfl (hb hby d_jdk_39_method_1_5) ?_
    exact kt)
  obtain ⟨T5, h5, X5, e5, W5, st5⟩ := putF X2 hx hZ hown (host := "") (Or.inl (hw _ (List.mem_of_getElem? (i := 46) rfl))) Via.refl eq2 F_a1_modCount E_a1 (Or.inl (hw _ (List.mem_of_getElem? (i := 47) rfl))) (hw _ (List.mem_of_getElem? (i := 28) rfl)) (ty := .int) (by decide) rfl rfl (g := (mkF m 6 #[.val (.ref a1)] [(.int (0 : Int32)), (.ref a1)])) rfl rfl (hb hby d_jdk_39_method_1_6)
  have Z6 : n0 ≤ h5.size := Nat.le_trans Z0 (Keep.of_wr W5).1
  have Od7 : Old Z n0 h5 := O0.wr W5 g_a1
  have K8 : Keep h0 h5 [a1] := (Keep.refl h0 [a1]).wr W5 (Or.inl (List.mem_of_getElem? (i := 0) rfl))
  have Fw5 := F_a1_modCount.same W5
  have Nf9 := Fr.snoc X5 Nf2 g_a1
  have kn10 : ∀ t, own_S p e below T5 (mkF m 9 #[.val (.ref a1)] []) t → Gl t := fun t kt => kn4 t (st5 _ kt)
  obtain ⟨fs, hr, hrun, hended, hW, hsame⟩ := X5.leave (v := none) (fun _ => rfl)
  refine ⟨_, _, hGl _ (kn10 _ (X5.returnOut hx Bd.returns (hb hby d_jdk_39_method_1_9) hr)), hrun, hended, _, _, rfl, ?_, ⟨_, rfl⟩, hW, hsame.mono (by decide) (by decide)⟩
  show Q7 Z a1 h0 n0 _ T5.heap _
  rw [e5]
  have f11 := (E_a1.wr W5)
  have f12 := (F_a1_elementData.other W5 (Or.inr (slot_ne (Or.inl (hw _ (List.mem_of_getElem? (i := 50) rfl))) (Or.inl (hw _ (List.mem_of_getElem? (i := 47) rfl))) (by decide) (t := (.array (.object "java/lang/Object"))) (t' := .int) (by decide) (by decide))))
  have f13 := (F_a1_size.other W5 (Or.inr (slot_ne (Or.inl (hw _ (List.mem_of_getElem? (i := 105) rfl))) (Or.inl (hw _ (List.mem_of_getElem? (i := 47) rfl))) (by decide) (t := .int) (t' := .int) (by decide) (by decide))))
  exact ⟨rfl, Nf9, K8, f11, Fw5, f12, f13⟩

theorem d_jdk_38_method_2_0 : decode jdk_38_method_2_code 0 = .ok (.aload_n 0, 1) := by decide +kernel
theorem d_jdk_38_method_2_1 : decode jdk_38_method_2_code 1 = .ok (.invokespecial 1, 3) := by decide +kernel
theorem d_jdk_38_method_2_4 : decode jdk_38_method_2_code 4 = .ok (.aload_n 0, 1) := by decide +kernel
theorem d_jdk_38_method_2_5 : decode jdk_38_method_2_code 5 = .ok (.getstatic 39, 3) := by decide +kernel
theorem d_jdk_38_method_2_8 : decode jdk_38_method_2_code 8 = .ok (.putfield 9, 3) := by decide +kernel
theorem d_jdk_38_method_2_11 : decode jdk_38_method_2_code 11 = .ok (.return_, 1) := by decide +kernel
theorem pn_4 : plainName "java/util/ArrayList" = true := by first | (simp [plainName, overriddenIn]; done) | decide +kernel
theorem ef_rm6 (m : MethodId) (x0 : Addr) : entryFrame m #[(.ref x0)] 1 = mkF m 0 #[.val (.ref x0)] [] := by first | (simp [entryFrame, mkF, argsToLocals, Value.category]; done) | rfl
def Q6 (Z : State) (a1 : Addr) (gD : Addr) (kD : ClassId) (h0 : Heap) (n0 : Nat) (v : Option Value) (h : Heap) (L : List Loc) : Prop := v = none ∧ Fr n0 L ∧ Keep h0 h [a1] ∧ Exa Z h a1 "java/util/ArrayList" ∧ Fld Z h a1 "java/util/AbstractList" "modCount" "I" (.int (0 : Int32)) ∧ Fld Z h a1 "java/util/ArrayList" "elementData" "[Ljava/lang/Object;" (.ref gD) ∧ Fld Z h a1 "java/util/ArrayList" "size" "I" (.int (0 : Int32))
set_option maxRecDepth 65536 in
set_option maxHeartbeats 40000000 in
theorem rm6 (l : Launch) (Z : State) (a0 : Array Value) (hw : ∀ d ∈ tables_1, d.before a0 Z = true) (ws : List Jvm.Cond) (a1 : Addr) (gD : Addr) (kD : ClassId) (h0 : Heap) (n0 : Nat) (Z0 : n0 ≤ h0.size) (O0 : Old Z n0 h0) (E_a1 : Exa Z h0 a1 "java/util/ArrayList") (F_a1_modCount : Fld Z h0 a1 "java/util/AbstractList" "modCount" "I" (.int (0 : Int32))) (F_a1_elementData : Fld Z h0 a1 "java/util/ArrayList" "elementData" "[Ljava/lang/Object;" .null) (F_a1_size : Fld Z h0 a1 "java/util/ArrayList" "size" "I" (.int (0 : Int32))) (g_a1 : n0 ≤ a1) (S_D : Sta Z Z.heap "java/util/ArrayList" "DEFAULTCAPACITY_EMPTY_ELEMENTDATA" "[Ljava/lang/Object;" (.ref gD)) (A_D : Arv Z Z.heap gD kD (.object "java/lang/Object") (0 : Int32) [] .null) :
    MetFree l (⟨"java/util/ArrayList", "<init>", "()V"⟩ : MethodName) (head1 (Jvm.Cond.code (⟨"java/util/ArrayList", "<init>", "()V"⟩ : MethodName) jdk_38_method_2_code 1 none :: ws) ({ frames := 3, cells := 0, slots := 0, locals := 36 } : Room)) (fun a U => a = #[(.ref a1)] ∧ Z.Warmed39 U.vm ∧ U.heap = h0) (fun _ _ _ _ _ => True) (fun _ U o U' => ∃ v L, o = .returned v ∧ Q6 Z a1 gD kD h0 n0 v U'.heap L ∧ FrameEnd U o U' L ({ frames := 3, cells := 0, slots := 0, locals := 36 } : Room).cells ({ frames := 3, cells := 0, slots := 0, locals := 36 } : Room).slots) := by
  refine MetFree.of_bodySF (plainFor_of_name pn_4) hisR ?_
  intro p e s m args below meth c s₁ Bd hml0 hP hK
  obtain ⟨rfl, hZ, hh⟩ := hP
  have hx := Bd.exec
  have hby := Bd.bytes
  have hml : c.maxLocals = 1 := hml0
  have hown : s.vm.findClass "java/util/ArrayList" = some m.cls := findClass_of_methodNamed Bd.named
  have hnm := (name_of_methodNamed Bd.named Bd.method).1
  have X0 : Stand p l e ({ frames := 3, cells := 0, slots := 0, locals := 36 } : Room) s m #[(.ref a1)] below meth c s₁ [] 0 0 := Stand.of_body Bd
  have e0 : s₁.heap = h0 := by rw [← hh, Bd.state]; rfl
  have Nf0 := Fr.nil n0
  obtain ⟨Gl, hGl, kn0⟩ : ∃ Gl : State → Prop, (∀ t, Gl t → Steps p.tables e below (s₁.setTop (entryFrame m #[(.ref a1)] 1)) t) ∧ ∀ t, own_S p e below s₁ (mkF m 0 #[.val (.ref a1)] []) t → Gl t := ⟨fun t => Steps p.tables e below (s₁.setTop (entryFrame m #[(.ref a1)] 1)) t, fun _ k => k, fun t k => castTop (ef_rm6 m a1) k⟩
  have kn1 : ∀ t, own_S p e below s₁ (mkF m 1 #[.val (.ref a1)] [(.ref a1)]) t → Gl t := fun t kt => kn0 t (by
    show own_S p e below s₁ (mkF m 0 #[.val (.ref a1)] []) _
    refine XS.aloadN X0.here hx rfl (hb hby d_jdk_38_method_2_0) rfl rfl ?_
    exact kt)
  obtain ⟨_, _, ⟨T2, L2, cc2, ss2⟩, -, X2, ⟨Lc2, hQ2, l2, y2, z2⟩, st2⟩ := X0.specialBack hx (y := (⟨"java/util/AbstractList", "<init>", "()V"⟩ : MethodName)) rfl hown (mvT hZ (hw _ (List.mem_of_getElem? (i := 33) rfl))) (mvT hZ (hw _ (List.mem_of_getElem? (i := 34) rfl))) (mvT hZ (hw _ (List.mem_of_getElem? (i := 38) rfl))) (by decide) (backOf (W := 0) (rm7 l Z a0 hw [] a1  h0 n0 Z0 O0 E_a1 F_a1_modCount F_a1_elementData F_a1_size g_a1 ) hZ (hw _ (List.mem_of_getElem? (i := 38) rfl)) (hw _ (List.mem_of_getElem? (i := 37) rfl)) (by decide) (by decide)) (g := (mkF m 1 #[.val (.ref a1)] [(.ref a1)])) rfl (by rw [hml]; rfl) (Steps.refl _) (a := a1) (argsL := []) (rest := []) (lenOf pd_2 rfl) rfl (by show 2 * 0 + _ ≤ _; exact Nat.le_of_eq rfl) (hb hby d_jdk_38_method_2_1) (fun _ _ => ⟨rfl, e0, (by decide : 0 + 0 ≤ _), (by decide : 0 + 0 ≤ _)⟩)
  dsimp only [Pt.U, Pt.locs, Pt.cells, Pt.slots] at X2 l2 y2 z2 st2 hQ2
  subst l2 y2 z2
  have X2 : Stand p l e _ _ m _ below meth c T2 _ 0 0 := X2
  obtain ⟨rfl, Nq2, K2, Ex2_a, Fx2_a_0, Fx2_a_1, Fx2_a_2⟩ := hQ2
  have Nf2 := Fr.app Nf0 Nq2
  have Z3 : n0 ≤ T2.heap.size := Nat.le_trans Z0 K2.1
  have Od4 : Old Z n0 T2.heap := O0.keep K2 (allS g_a1 all0)
  have K5 : Keep h0 T2.heap [a1] := (Keep.refl h0 [a1]).trans K2 (allS (Or.inl (List.mem_of_getElem? (i := 0) rfl)) all0)
  have kn6 : ∀ t, own_S p e below T2 (mkF m 4 #[.val (.ref a1)] []) t → Gl t := fun t kt => kn1 t (st2.trans kt)
  have kn7 : ∀ t, own_S p e below T2 (mkF m 5 #[.val (.ref a1)] [(.ref a1)]) t → Gl t := fun t kt => kn6 t (by
    show own_S p e below T2 (mkF m 4 #[.val (.ref a1)] []) _
    refine XS.aloadN X2.here hx rfl (hb hby d_jdk_38_method_2_4) rfl rfl ?_
    exact kt)
  obtain ⟨T8, X8, e8, st8⟩ := getS2 X2 hx hZ hown (host := "") (Or.inl (hw _ (List.mem_of_getElem? (i := 48) rfl))) Via.refl rfl (S_D.ext Od4.2) (g := (mkF m 5 #[.val (.ref a1)] [(.ref a1)])) rfl (hb hby d_jdk_38_method_2_5)
  have kn9 : ∀ t, own_S p e below T8 (mkF m 8 #[.val (.ref a1)] [(.ref gD), (.ref a1)]) t → Gl t := fun t kt => kn7 t (st8 _ kt)
  obtain ⟨T10, h10, X10, e10, W10, st10⟩ := putF X8 hx hZ hown (host := "") (Or.inl (hw _ (List.mem_of_getElem? (i := 49) rfl))) Via.refl e8 Fx2_a_1 Ex2_a (Or.inl (hw _ (List.mem_of_getElem? (i := 50) rfl))) (hw _ (List.mem_of_getElem? (i := 28) rfl)) (ty := (.array (.object "java/lang/Object"))) (by decide) rfl rfl (g := (mkF m 8 #[.val (.ref a1)] [(.ref gD), (.ref a1)])) rfl rfl (hb hby d_jdk_38_method_2_8)
  have Z11 : n0 ≤ h10.size := Nat.le_trans Z3 (Keep.of_wr W10).1
  have Od12 : Old Z n0 h10 := Od4.wr W10 g_a1
  have K13 : Keep h0 h10 [a1] := K5.wr W10 (Or.inl (List.mem_of_getElem? (i := 0) rfl))
  have Fw10 := Fx2_a_1.same W10
  have Nf14 := Fr.snoc X10 Nf2 g_a1
  have kn15 : ∀ t, own_S p e below T10 (mkF m 11 #[.val (.ref a1)] []) t → Gl t := fun t kt => kn9 t (st10 _ kt)
  obtain ⟨fs, hr, hrun, hended, hW, hsame⟩ := X10.leave (v := none) (fun _ => rfl)
  refine ⟨_, _, hGl _ (kn15 _ (X10.returnOut hx Bd.returns (hb hby d_jdk_38_method_2_11) hr)), hrun, hended, _, _, rfl, ?_, ⟨_, rfl⟩, hW, hsame.mono (by decide) (by decide)⟩
  show Q6 Z a1 gD kD h0 n0 _ T10.heap _
  rw [e10]
  have f16 := (Ex2_a.wr W10)
  have f17 := (Fx2_a_0.other W10 (Or.inr (slot_ne (Or.inl (hw _ (List.mem_of_getElem? (i := 47) rfl))) (Or.inl (hw _ (List.mem_of_getElem? (i := 50) rfl))) (by decide) (t := .int) (t' := (.array (.object "java/lang/Object"))) (by decide) (by decide))))
  have f18 := (Fx2_a_2.other W10 (Or.inr (slot_ne (Or.inl (hw _ (List.mem_of_getElem? (i := 105) rfl))) (Or.inl (hw _ (List.mem_of_getElem? (i := 50) rfl))) (by decide) (t := .int) (t' := (.array (.object "java/lang/Object"))) (by decide) (by decide))))
  exact ⟨rfl, Nf14, K13, f16, f17, Fw10, f18⟩

theorem d_jdk_2435_method_1_0 : decode jdk_2435_method_1_code 0 = .ok (.aload_n 0, 1) := by decide +kernel
theorem d_jdk_2435_method_1_1 : decode jdk_2435_method_1_code 1 = .ok (.invokespecial 1, 3) := by decide +kernel
theorem d_jdk_2435_method_1_4 : decode jdk_2435_method_1_code 4 = .ok (.return_, 1) := by decide +kernel
theorem pn_5 : plainName "java/util/AbstractQueue" = true := by first | (simp [plainName, overriddenIn]; done) | decide +kernel
theorem ef_rm22 (m : MethodId) (x0 : Addr) : entryFrame m #[(.ref x0)] 1 = mkF m 0 #[.val (.ref x0)] [] := by first | (simp [entryFrame, mkF, argsToLocals, Value.category]; done) | rfl
def Q22 (Z : State) (a1 : Addr) (h0 : Heap) (n0 : Nat) (v : Option Value) (h : Heap) (L : List Loc) : Prop := v = none ∧ Fr n0 L ∧ h = h0
set_option maxRecDepth 65536 in
set_option maxHeartbeats 40000000 in
theorem rm22 (l : Launch) (Z : State) (a0 : Array Value) (hw : ∀ d ∈ tables_1, d.before a0 Z = true) (ws : List Jvm.Cond) (a1 : Addr) (h0 : Heap) (n0 : Nat) (Z0 : n0 ≤ h0.size) :
    MetFree l (⟨"java/util/AbstractQueue", "<init>", "()V"⟩ : MethodName) (head1 (Jvm.Cond.code (⟨"java/util/AbstractQueue", "<init>", "()V"⟩ : MethodName) jdk_2435_method_1_code 1 none :: ws) ({ frames := 2, cells := 0, slots := 0, locals := 24 } : Room)) (fun a U => a = #[(.ref a1)] ∧ Z.Warmed39 U.vm ∧ U.heap = h0) (fun _ _ _ _ _ => True) (fun _ U o U' => ∃ v L, o = .returned v ∧ Q22 Z a1 h0 n0 v U'.heap L ∧ FrameEnd U o U' L ({ frames := 2, cells := 0, slots := 0, locals := 24 } : Room).cells ({ frames := 2, cells := 0, slots := 0, locals := 24 } : Room).slots) := by
  refine MetFree.of_bodySF (plainFor_of_name pn_5) hisR ?_
  intro p e s m args below meth c s₁ Bd hml0 hP hK
  obtain ⟨rfl, hZ, hh⟩ := hP
  have hx := Bd.exec
  have hby := Bd.bytes
  have hml : c.maxLocals = 1 := hml0
  have hown : s.vm.findClass "java/util/AbstractQueue" = some m.cls := findClass_of_methodNamed Bd.named
  have hnm := (name_of_methodNamed Bd.named Bd.method).1
  have X0 : Stand p l e ({ frames := 2, cells := 0, slots := 0, locals := 24 } : Room) s m #[(.ref a1)] below meth c s₁ [] 0 0 := Stand.of_body Bd
  have e0 : s₁.heap = h0 := by rw [← hh, Bd.state]; rfl
  have Nf0 := Fr.nil n0
  obtain ⟨Gl, hGl, kn0⟩ : ∃ Gl : State → Prop, (∀ t, Gl t → Steps p.tables e below (s₁.setTop (entryFrame m #[(.ref a1)] 1)) t) ∧ ∀ t, own_S p e below s₁ (mkF m 0 #[.val (.ref a1)] []) t → Gl t := ⟨fun t => Steps p.tables e below (s₁.setTop (entryFrame m #[(.ref a1)] 1)) t, fun _ k => k, fun t k => castTop (ef_rm22 m a1) k⟩
  have kn1 : ∀ t, own_S p e below s₁ (mkF m 1 #[.val (.ref a1)] [(.ref a1)]) t → Gl t := fun t kt => kn0 t (by
    show own_S p e below s₁ (mkF m 0 #[.val (.ref a1)] []) _
    refine XS.aloadN X0.here hx rfl (hb hby d_jdk_2435_method_1_0) rfl rfl ?_
    exact kt)
  obtain ⟨_, _, ⟨T2, L2, cc2, ss2⟩, -, X2, ⟨Lc2, hQ2, l2, y2, z2⟩, st2⟩ := X0.specialBack hx (y := (⟨"java/util/AbstractCollection", "<init>", "()V"⟩ : MethodName)) rfl hown (mvT hZ (hw _ (List.mem_of_getElem? (i := 157) rfl))) (mvT hZ (hw _ (List.mem_of_getElem? (i := 40) rfl))) (mvT hZ (hw _ (List.mem_of_getElem? (i := 44) rfl))) (by decide) (backOf (W := 0) (rm8 l Z a0 hw [] a1  h0 n0 Z0 ) hZ (hw _ (List.mem_of_getElem? (i := 44) rfl)) (hw _ (List.mem_of_getElem? (i := 43) rfl)) (by decide) (by decide)) (g := (mkF m 1 #[.val (.ref a1)] [(.ref a1)])) rfl (by rw [hml]; rfl) (Steps.refl _) (a := a1) (argsL := []) (rest := []) (lenOf pd_2 rfl) rfl (by show 2 * 0 + _ ≤ _; exact Nat.le_of_eq rfl) (hb hby d_jdk_2435_method_1_1) (fun _ _ => ⟨rfl, e0, (by decide : 0 + 0 ≤ _), (by decide : 0 + 0 ≤ _)⟩)
  dsimp only [Pt.U, Pt.locs, Pt.cells, Pt.slots] at X2 l2 y2 z2 st2 hQ2
  subst l2 y2 z2
  have X2 : Stand p l e _ _ m _ below meth c T2 _ 0 0 := X2
  obtain ⟨rfl, Nq2, eq2⟩ := hQ2
  have Nf2 := Fr.app Nf0 Nq2
  have kn3 : ∀ t, own_S p e below T2 (mkF m 4 #[.val (.ref a1)] []) t → Gl t := fun t kt => kn1 t (st2.trans kt)
  obtain ⟨fs, hr, hrun, hended, hW, hsame⟩ := X2.leave (v := none) (fun _ => rfl)
  refine ⟨_, _, hGl _ (kn3 _ (X2.returnOut hx Bd.returns (hb hby d_jdk_2435_method_1_4) hr)), hrun, hended, _, _, rfl, ?_, ⟨_, rfl⟩, hW, hsame.mono (by decide) (by decide)⟩
  show Q22 Z a1 h0 n0 _ T2.heap _
  rw [eq2]
  exact ⟨rfl, Nf2, rfl⟩

theorem d_jdk_2655_method_4_0 : decode jdk_2655_method_4_code 0 = .ok (.aload_n 0, 1) := by decide +kernel
theorem d_jdk_2655_method_4_1 : decode jdk_2655_method_4_code 1 = .ok (.invokespecial 7, 3) := by decide +kernel
theorem d_jdk_2655_method_4_4 : decode jdk_2655_method_4_code 4 = .ok (.iload_n 1, 1) := by decide +kernel
theorem d_jdk_2655_method_4_5 : decode jdk_2655_method_4_code 5 = .ok (.iconst 1, 1) := by decide +kernel
theorem d_jdk_2655_method_4_6 : decode jdk_2655_method_4_code 6 = .ok (.if_icmp .ge 11, 3) := by decide +kernel
theorem d_jdk_2655_method_4_17 : decode jdk_2655_method_4_code 17 = .ok (.aload_n 0, 1) := by decide +kernel
theorem d_jdk_2655_method_4_18 : decode jdk_2655_method_4_code 18 = .ok (.iload_n 1, 1) := by decide +kernel
theorem d_jdk_2655_method_4_19 : decode jdk_2655_method_4_code 19 = .ok (.anewarray 15, 3) := by decide +kernel
theorem d_jdk_2655_method_4_22 : decode jdk_2655_method_4_code 22 = .ok (.putfield 17, 3) := by decide +kernel
theorem d_jdk_2655_method_4_25 : decode jdk_2655_method_4_code 25 = .ok (.aload_n 0, 1) := by decide +kernel
theorem d_jdk_2655_method_4_26 : decode jdk_2655_method_4_code 26 = .ok (.aload_n 2, 1) := by decide +kernel
theorem d_jdk_2655_method_4_27 : decode jdk_2655_method_4_code 27 = .ok (.putfield 21, 3) := by decide +kernel
theorem d_jdk_2655_method_4_30 : decode jdk_2655_method_4_code 30 = .ok (.return_, 1) := by decide +kernel
theorem pn_6 : plainName "java/util/PriorityQueue" = true := by first | (simp [plainName, overriddenIn]; done) | decide +kernel
theorem ef_rm21 (m : MethodId) (x0 : Addr) (x2 : Addr) : entryFrame m #[(.ref x0), (.int (11 : Int32)), (.ref x2)] 3 = mkF m 0 #[.val (.ref x0), .val (.int (11 : Int32)), .val (.ref x2)] [] := by first | (simp [entryFrame, mkF, argsToLocals, Value.category]; done) | rfl
def Q21 (Z : State) (a1 : Addr) (qc : Addr) (h0 : Heap) (n0 : Nat) (v : Option Value) (h : Heap) (L : List Loc) : Prop := v = none ∧ Fr n0 L ∧ Keep h0 h [a1] ∧ Exa Z h a1 "java/util/PriorityQueue" ∧ Fld Z h a1 "java/util/PriorityQueue" "size" "I" (.int (0 : Int32))
set_option maxRecDepth 65536 in
set_option maxHeartbeats 40000000 in
theorem rm21 (l : Launch) (Z : State) (a0 : Array Value) (hw : ∀ d ∈ tables_1, d.before a0 Z = true) (ws : List Jvm.Cond) (a1 : Addr) (qc : Addr) (h0 : Heap) (n0 : Nat) (Z0 : n0 ≤ h0.size) (O0 : Old Z n0 h0) (E_a1 : Exa Z h0 a1 "java/util/PriorityQueue") (F_a1_queue : Fld Z h0 a1 "java/util/PriorityQueue" "queue" "[Ljava/lang/Object;" .null) (F_a1_comparator : Fld Z h0 a1 "java/util/PriorityQueue" "comparator" "Ljava/util/Comparator;" .null) (F_a1_size : Fld Z h0 a1 "java/util/PriorityQueue" "size" "I" (.int (0 : Int32))) (g_a1 : n0 ≤ a1) :
    MetFree l (⟨"java/util/PriorityQueue", "<init>", "(ILjava/util/Comparator;)V"⟩ : MethodName) (head1 (Jvm.Cond.code (⟨"java/util/PriorityQueue", "<init>", "(ILjava/util/Comparator;)V"⟩ : MethodName) jdk_2655_method_4_code 3 none :: ws) ({ frames := 3, cells := 1, slots := 11, locals := 36 } : Room)) (fun a U => a = #[(.ref a1), (.int (11 : Int32)), (.ref qc)] ∧ Z.Warmed39 U.vm ∧ U.heap = h0) (fun _ _ _ _ _ => True) (fun _ U o U' => ∃ v L, o = .returned v ∧ Q21 Z a1 qc h0 n0 v U'.heap L ∧ FrameEnd U o U' L ({ frames := 3, cells := 1, slots := 11, locals := 36 } : Room).cells ({ frames := 3, cells := 1, slots := 11, locals := 36 } : Room).slots) := by
  refine MetFree.of_bodySF (plainFor_of_name pn_6) hisR ?_
  intro p e s m args below meth c s₁ Bd hml0 hP hK
  obtain ⟨rfl, hZ, hh⟩ := hP
  have hx := Bd.exec
  have hby := Bd.bytes
  have hml : c.maxLocals = 3 := hml0
  have hown : s.vm.findClass "java/util/PriorityQueue" = some m.cls := findClass_of_methodNamed Bd.named
  have hnm := (name_of_methodNamed Bd.named Bd.method).1
  have X0 : Stand p l e ({ frames := 3, cells := 1, slots := 11, locals := 36 } : Room) s m #[(.ref a1), (.int (11 : Int32)), (.ref qc)] below meth c s₁ [] 0 0 := Stand.of_body Bd
  have e0 : s₁.heap = h0 := by rw [← hh, Bd.state]; rfl
  have Nf0 := Fr.nil n0
  obtain ⟨Gl, hGl, kn0⟩ : ∃ Gl : State → Prop, (∀ t, Gl t → Steps p.tables e below (s₁.setTop (entryFrame m #[(.ref a1), (.int (11 : Int32)), (.ref qc)] 3)) t) ∧ ∀ t, own_S p e below s₁ (mkF m 0 #[.val (.ref a1), .val (.int (11 : Int32)), .val (.ref qc)] []) t → Gl t := ⟨fun t => Steps p.tables e below (s₁.setTop (entryFrame m #[(.ref a1), (.int (11 : Int32)), (.ref qc)] 3)) t, fun _ k => k, fun t k => castTop (ef_rm21 m a1 qc) k⟩
  have kn1 : ∀ t, own_S p e below s₁ (mkF m 1 #[.val (.ref a1), .val (.int (11 : Int32)), .val (.ref qc)] [(.ref a1)]) t → Gl t := fun t kt => kn0 t (by
    show own_S p e below s₁ (mkF m 0 #[.val (.ref a1), .val (.int (11 : Int32)), .val (.ref qc)] []) _
    refine XS.aloadN X0.here hx rfl (hb hby d_jdk_2655_method_4_0) rfl rfl ?_
    exact kt)
  obtain ⟨_, _, ⟨T2, L2, cc2, ss2⟩, -, X2, ⟨Lc2, hQ2, l2, y2, z2⟩, st2⟩ := X0.specialBack hx (y := (⟨"java/util/AbstractQueue", "<init>", "()V"⟩ : MethodName)) rfl hown (mvT hZ (hw _ (List.mem_of_getElem? (i := 151) rfl))) (mvT hZ (hw _ (List.mem_of_getElem? (i := 152) rfl))) (mvT hZ (hw _ (List.mem_of_getElem? (i := 156) rfl))) (by decide) (backOf (W := 0) (rm22 l Z a0 hw [] a1  h0 n0 Z0 ) hZ (hw _ (List.mem_of_getElem? (i := 156) rfl)) (hw _ (List.mem_of_getElem? (i := 155) rfl)) (by decide) (by decide)) (g := (mkF m 1 #[.val (.ref a1), .val (.int (11 : Int32)), .val (.ref qc)] [(.ref a1)])) rfl (by rw [hml]; rfl) (Steps.refl _) (a := a1) (argsL := []) (rest := []) (lenOf pd_2 rfl) rfl (by show 2 * 0 + _ ≤ _; exact Nat.le_of_eq rfl) (hb hby d_jdk_2655_method_4_1) (fun _ _ => ⟨rfl, e0, (by decide : 0 + 0 ≤ _), (by decide : 0 + 0 ≤ _)⟩)
  dsimp only [Pt.U, Pt.locs, Pt.cells, Pt.slots] at X2 l2 y2 z2 st2 hQ2
  subst l2 y2 z2
  have X2 : Stand p l e _ _ m _ below meth c T2 _ 0 0 := X2
  obtain ⟨rfl, Nq2, eq2⟩ := hQ2
  have Nf2 := Fr.app Nf0 Nq2
  have kn3 : ∀ t, own_S p e below T2 (mkF m 4 #[.val (.ref a1), .val (.int (11 : Int32)), .val (.ref qc)] []) t → Gl t := fun t kt => kn1 t (st2.trans kt)
  have kn4 : ∀ t, own_S p e below T2 (mkF m 19 #[.val (.ref a1), .val (.int (11 : Int32)), .val (.ref qc)] [(.int (11 : Int32)), (.ref a1)]) t → Gl t := fun t kt => kn3 t (by
    show own_S p e below T2 (mkF m 4 #[.val (.ref a1), .val (.int (11 : Int32)), .val (.ref qc)] []) _
    refine XS.iloadN X2.here hx rfl (hb hby d_jdk_2655_method_4_4) rfl ?_
    show own_S p e below T2 (mkF m 5 #[.val (.ref a1), .val (.int (11 : Int32)), .val (.ref qc)] [(.int (11 : Int32))]) _
    refine XS.iconst X2.here hx rfl (hb hby d_jdk_2655_method_4_5) ?_
    show own_S p e below T2 (mkF m 6 #[.val (.ref a1), .val (.int (11 : Int32)), .val (.ref qc)] [(.int (1 : Int32)), (.int (11 : Int32))]) _
    refine XS.icmpYes X2.here hx rfl (pc0 := 6) (pc' := 17) rfl (hb hby d_jdk_2655_method_4_6) rfl (flt (by decide : ¬ ((11 : Int32) < (1 : Int32)))).2.1 (by decide) (by decide) ?_
    show own_S p e below T2 (mkF m 17 #[.val (.ref a1), .val (.int (11 : Int32)), .val (.ref qc)] []) _
    refine XS.aloadN X2.here hx rfl (hb hby d_jdk_2655_method_4_17) rfl rfl ?_
    show own_S p e below T2 (mkF m 18 #[.val (.ref a1), .val (.int (11 : Int32)), .val (.ref qc)] [(.ref a1)]) _
    refine XS.iloadN X2.here hx rfl (hb hby d_jdk_2655_method_4_18) rfl ?_
    exact kt)
  obtain ⟨T5, h5, kk5, X5, e5, E5, A5, O5, st5⟩ := newR X2 hx hZ hown (hw _ (List.mem_of_getElem? (i := 159) rfl)) (hw _ (List.mem_of_getElem? (i := 126) rfl)) eq2 (g := (mkF m 19 #[.val (.ref a1), .val (.int (11 : Int32)), .val (.ref qc)] [(.int (11 : Int32)), (.ref a1)])) rfl (hb hby d_jdk_2655_method_4_19) rfl (by decide) (cap := 11) (by decide) (by decide) (by decide) (by decide)
  obtain ⟨b5, g5⟩ : ∃ z, z = h0.size := ⟨_, rfl⟩
  rw [← g5] at A5 st5
  have sz_b5 : h0.size ≤ b5 := Nat.le_trans (Keep.refl h0 [a1]).1 (Nat.le_of_eq g5.symm)
  have g_b5 : n0 ≤ b5 := Nat.le_trans Z0 (Nat.le_of_eq g5.symm)
  have ne_a1_b5 : a1 ≠ b5 := Nat.ne_of_lt (Nat.lt_of_lt_of_le E_a1.lt (Nat.le_of_eq g5.symm))
  have Z6 : n0 ≤ h5.size := Nat.le_trans Z0 E5.1
  have Od7 : Old Z n0 h5 := O0.ext E5
  have K8 : Keep h0 h5 [a1] := (Keep.refl h0 [a1]).ext E5
  have V5 : Arv Z h5 b5 kk5 (.object "java/lang/Object") (11 : Int32) [.null, .null, .null, .null, .null, .null, .null, .null, .null, .null, .null] .null := (Arv.new A5 (by decide)).pad (pad_rep [] .null 11)
  have kn9 : ∀ t, own_S p e below T5 (mkF m 22 #[.val (.ref a1), .val (.int (11 : Int32)), .val (.ref qc)] [(.ref b5), (.ref a1)]) t → Gl t := fun t kt => kn4 t (st5 _ kt)
  have f10 := (F_a1_queue.ext E5)
  have f11 := (E_a1.ext E5)
  obtain ⟨T12, h12, X12, e12, W12, st12⟩ := putF X5 hx hZ hown (host := "") (Or.inl (hw _ (List.mem_of_getElem? (i := 160) rfl))) Via.refl e5 f10 f11 (Or.inl (hw _ (List.mem_of_getElem? (i := 161) rfl))) (hw _ (List.mem_of_getElem? (i := 140) rfl)) (ty := (.array (.object "java/lang/Object"))) (by decide) rfl rfl (g := (mkF m 22 #[.val (.ref a1), .val (.int (11 : Int32)), .val (.ref qc)] [(.ref b5), (.ref a1)])) rfl rfl (hb hby d_jdk_2655_method_4_22)
  have Z13 : n0 ≤ h12.size := Nat.le_trans Z6 (Keep.of_wr W12).1
  have Od14 : Old Z n0 h12 := Od7.wr W12 g_a1
  have K15 : Keep h0 h12 [a1] := K8.wr W12 (Or.inl (List.mem_of_getElem? (i := 0) rfl))
  have Fw12 := f10.same W12
  have Nf16 := Fr.snoc X12 Nf2 g_a1
  have kn17 : ∀ t, own_S p e below T12 (mkF m 25 #[.val (.ref a1), .val (.int (11 : Int32)), .val (.ref qc)] []) t → Gl t := fun t kt => kn9 t (st12 _ kt)
  have kn18 : ∀ t, own_S p e below T12 (mkF m 27 #[.val (.ref a1), .val (.int (11 : Int32)), .val (.ref qc)] [(.ref qc), (.ref a1)]) t → Gl t := fun t kt => kn17 t (by
    show own_S p e below T12 (mkF m 25 #[.val (.ref a1), .val (.int (11 : Int32)), .val (.ref qc)] []) _
    refine XS.aloadN X12.here hx rfl (hb hby d_jdk_2655_method_4_25) rfl rfl ?_
    show own_S p e below T12 (mkF m 26 #[.val (.ref a1), .val (.int (11 : Int32)), .val (.ref qc)] [(.ref a1)]) _
    refine XS.aloadN X12.here hx rfl (hb hby d_jdk_2655_method_4_26) rfl rfl ?_
    exact kt)
  have f19 := ((F_a1_comparator.ext E5).other W12 (Or.inr (slot_ne (Or.inr (hw _ (List.mem_of_getElem? (i := 163) rfl))) (Or.inl (hw _ (List.mem_of_getElem? (i := 161) rfl))) (by decide) (t := (.object "java/util/Comparator")) (t' := (.array (.object "java/lang/Object"))) (by decide) (by decide))))
  have f20 := (f11.wr W12)
  obtain ⟨T21, h21, X21, e21, W21, st21⟩ := putF X12 hx hZ hown (host := "") (Or.inl (hw _ (List.mem_of_getElem? (i := 162) rfl))) Via.refl e12 f19 f20 (Or.inr ⟨(hw _ (List.mem_of_getElem? (i := 163) rfl)), rfl, hnm⟩) (hw _ (List.mem_of_getElem? (i := 140) rfl)) (ty := (.object "java/util/Comparator")) (by decide) rfl rfl (g := (mkF m 27 #[.val (.ref a1), .val (.int (11 : Int32)), .val (.ref qc)] [(.ref qc), (.ref a1)])) rfl rfl (hb hby d_jdk_2655_method_4_27)
  have Z22 : n0 ≤ h21.size := Nat.le_trans Z13 (Keep.of_wr W21).1
  have Od23 : Old Z n0 h21 := Od14.wr W21 g_a1
  have K24 : Keep h0 h21 [a1] := K15.wr W21 (Or.inl (List.mem_of_getElem? (i := 0) rfl))
  have Fw21 := f19.same W21
  have Nf25 := Fr.snoc X21 Nf16 g_a1
  have kn26 : ∀ t, own_S p e below T21 (mkF m 30 #[.val (.ref a1), .val (.int (11 : Int32)), .val (.ref qc)] []) t → Gl t := fun t kt => kn18 t (st21 _ kt)
  obtain ⟨fs, hr, hrun, hended, hW, hsame⟩ := X21.leave (v := none) (fun _ => rfl)
  refine ⟨_, _, hGl _ (kn26 _ (X21.returnOut hx Bd.returns (hb hby d_jdk_2655_method_4_30) hr)), hrun, hended, _, _, rfl, ?_, ⟨_, rfl⟩, hW, hsame.mono (by decide) (by decide)⟩
  show Q21 Z a1 qc h0 n0 _ T21.heap _
  rw [e21]
  have f27 := (f20.wr W21)
  have f28 := (((F_a1_size.ext E5).other W12 (Or.inr (slot_ne (Or.inl (hw _ (List.mem_of_getElem? (i := 240) rfl))) (Or.inl (hw _ (List.mem_of_getElem? (i := 161) rfl))) (by decide) (t := .int) (t' := (.array (.object "java/lang/Object"))) (by decide) (by decide)))).other W21 (Or.inr (slot_ne (Or.inl (hw _ (List.mem_of_getElem? (i := 240) rfl))) (Or.inr (hw _ (List.mem_of_getElem? (i := 163) rfl))) (by decide) (t := .int) (t' := (.object "java/util/Comparator")) (by decide) (by decide))))
  exact ⟨rfl, Nf25, K24, f27, f28⟩

theorem d_jdk_2655_method_3_0 : decode jdk_2655_method_3_code 0 = .ok (.aload_n 0, 1) := by decide +kernel
theorem d_jdk_2655_method_3_1 : decode jdk_2655_method_3_code 1 = .ok (.bipush 11, 2) := by decide +kernel
theorem d_jdk_2655_method_3_3 : decode jdk_2655_method_3_code 3 = .ok (.aload_n 1, 1) := by decide +kernel
theorem d_jdk_2655_method_3_4 : decode jdk_2655_method_3_code 4 = .ok (.invokespecial 3, 3) := by decide +kernel
theorem d_jdk_2655_method_3_7 : decode jdk_2655_method_3_code 7 = .ok (.return_, 1) := by decide +kernel
theorem pd_3 : parseMethodDescriptor "(ILjava/util/Comparator;)V" = some ⟨[.int, (.object "java/util/Comparator")], none⟩ := by decide +kernel
theorem ef_rm20 (m : MethodId) (x0 : Addr) (x1 : Addr) : entryFrame m #[(.ref x0), (.ref x1)] 2 = mkF m 0 #[.val (.ref x0), .val (.ref x1)] [] := by first | (simp [entryFrame, mkF, argsToLocals, Value.category]; done) | rfl
def Q20 (Z : State) (a1 : Addr) (qc : Addr) (h0 : Heap) (n0 : Nat) (v : Option Value) (h : Heap) (L : List Loc) : Prop := v = none ∧ Fr n0 L ∧ Keep h0 h [a1] ∧ Exa Z h a1 "java/util/PriorityQueue" ∧ Fld Z h a1 "java/util/PriorityQueue" "size" "I" (.int (0 : Int32))
set_option maxRecDepth 65536 in
set_option maxHeartbeats 40000000 in
theorem rm20 (l : Launch) (Z : State) (a0 : Array Value) (hw : ∀ d ∈ tables_1, d.before a0 Z = true) (ws : List Jvm.Cond) (a1 : Addr) (qc : Addr) (h0 : Heap) (n0 : Nat) (Z0 : n0 ≤ h0.size) (O0 : Old Z n0 h0) (E_a1 : Exa Z h0 a1 "java/util/PriorityQueue") (F_a1_queue : Fld Z h0 a1 "java/util/PriorityQueue" "queue" "[Ljava/lang/Object;" .null) (F_a1_comparator : Fld Z h0 a1 "java/util/PriorityQueue" "comparator" "Ljava/util/Comparator;" .null) (F_a1_size : Fld Z h0 a1 "java/util/PriorityQueue" "size" "I" (.int (0 : Int32))) (g_a1 : n0 ≤ a1) :
    MetFree l (⟨"java/util/PriorityQueue", "<init>", "(Ljava/util/Comparator;)V"⟩ : MethodName) (head1 (Jvm.Cond.code (⟨"java/util/PriorityQueue", "<init>", "(Ljava/util/Comparator;)V"⟩ : MethodName) jdk_2655_method_3_code 2 none :: ws) ({ frames := 4, cells := 1, slots := 11, locals := 50 } : Room)) (fun a U => a = #[(.ref a1), (.ref qc)] ∧ Z.Warmed39 U.vm ∧ U.heap = h0) (fun _ _ _ _ _ => True) (fun _ U o U' => ∃ v L, o = .returned v ∧ Q20 Z a1 qc h0 n0 v U'.heap L ∧ FrameEnd U o U' L ({ frames := 4, cells := 1, slots := 11, locals := 50 } : Room).cells ({ frames := 4, cells := 1, slots := 11, locals := 50 } : Room).slots) := by
  refine MetFree.of_bodySF (plainFor_of_name pn_6) hisR ?_
  intro p e s m args below meth c s₁ Bd hml0 hP hK
  obtain ⟨rfl, hZ, hh⟩ := hP
  have hx := Bd.exec
  have hby := Bd.bytes
  have hml : c.maxLocals = 2 := hml0
  have hown : s.vm.findClass "java/util/PriorityQueue" = some m.cls := findClass_of_methodNamed Bd.named
  have hnm := (name_of_methodNamed Bd.named Bd.method).1
  have X0 : Stand p l e ({ frames := 4, cells := 1, slots := 11, locals := 50 } : Room) s m #[(.ref a1), (.ref qc)] below meth c s₁ [] 0 0 := Stand.of_body Bd
  have e0 : s₁.heap = h0 := by rw [← hh, Bd.state]; rfl
  have Nf0 := Fr.nil n0
  obtain ⟨Gl, hGl, kn0⟩ : ∃ Gl : State → Prop, (∀ t, Gl t → Steps p.tables e below (s₁.setTop (entryFrame m #[(.ref a1), (.ref qc)] 2)) t) ∧ ∀ t, own_S p e below s₁ (mkF m 0 #[.val (.ref a1), .val (.ref qc)] []) t → Gl t := ⟨fun t => Steps p.tables e below (s₁.setTop (entryFrame m #[(.ref a1), (.ref qc)] 2)) t, fun _ k => k, fun t k => castTop (ef_rm20 m a1 qc) k⟩
  have kn1 : ∀ t, own_S p e below s₁ (mkF m 4 #[.val (.ref a1), .val (.ref qc)] [(.ref qc), (.int (11 : Int32)), (.ref a1)]) t → Gl t := fun t kt => kn0 t (by
    show own_S p e below s₁ (mkF m 0 #[.val (.ref a1), .val (.ref qc)] []) _
    refine XS.aloadN X0.here hx rfl (hb hby d_jdk_2655_method_3_0) rfl rfl ?_
    show own_S p e below s₁ (mkF m 1 #[.val (.ref a1), .val (.ref qc)] [(.ref a1)]) _
    refine XS.bipush X0.here hx rfl (hb hby d_jdk_2655_method_3_1) ?_
    show own_S p e below s₁ (mkF m 3 #[.val (.ref a1), .val (.ref qc)] [(.int (11 : Int32)), (.ref a1)]) _
    refine XS.aloadN X0.here hx rfl (hb hby d_jdk_2655_method_3_3) rfl rfl ?_
    exact kt)
  obtain ⟨_, _, ⟨T2, L2, cc2, ss2⟩, -, X2, ⟨Lc2, hQ2, l2, y2, z2⟩, st2⟩ := X0.specialBack hx (y := (⟨"java/util/PriorityQueue", "<init>", "(ILjava/util/Comparator;)V"⟩ : MethodName)) rfl hown (mvT hZ (hw _ (List.mem_of_getElem? (i := 147) rfl))) (mvT hZ (hw _ (List.mem_of_getElem? (i := 148) rfl))) (mvT hZ (hw _ (List.mem_of_getElem? (i := 150) rfl))) (by decide) (backOf (W := 0) (rm21 l Z a0 hw [] a1 qc  h0 n0 Z0 O0 E_a1 F_a1_queue F_a1_comparator F_a1_size g_a1 ) hZ (hw _ (List.mem_of_getElem? (i := 150) rfl)) (hw _ (List.mem_of_getElem? (i := 141) rfl)) (by decide) (by decide)) (g := (mkF m 4 #[.val (.ref a1), .val (.ref qc)] [(.ref qc), (.int (11 : Int32)), (.ref a1)])) rfl (by rw [hml]; rfl) (Steps.refl _) (a := a1) (argsL := [(.int (11 : Int32)), (.ref qc)]) (rest := []) (lenOf pd_3 rfl) rfl (by show 2 * 0 + _ ≤ _; exact Nat.le_of_eq rfl) (hb hby d_jdk_2655_method_3_4) (fun _ _ => ⟨rfl, e0, (by decide : 0 + 1 ≤ _), (by decide : 0 + 11 ≤ _)⟩)
  dsimp only [Pt.U, Pt.locs, Pt.cells, Pt.slots] at X2 l2 y2 z2 st2 hQ2
  subst l2 y2 z2
  have X2 : Stand p l e _ _ m _ below meth c T2 _ 1 11 := X2
  obtain ⟨rfl, Nq2, K2, Ex2_a, Fx2_a_0⟩ := hQ2
  have Nf2 := Fr.app Nf0 Nq2
  have Z3 : n0 ≤ T2.heap.size := Nat.le_trans Z0 K2.1
  have Od4 : Old Z n0 T2.heap := O0.keep K2 (allS g_a1 all0)
  have K5 : Keep h0 T2.heap [a1] := (Keep.refl h0 [a1]).trans K2 (allS (Or.inl (List.mem_of_getElem? (i := 0) rfl)) all0)
  have kn6 : ∀ t, own_S p e below T2 (mkF m 7 #[.val (.ref a1), .val (.ref qc)] []) t → Gl t := fun t kt => kn1 t (st2.trans kt)
  obtain ⟨fs, hr, hrun, hended, hW, hsame⟩ := X2.leave (v := none) (fun _ => rfl)
  refine ⟨_, _, hGl _ (kn6 _ (X2.returnOut hx Bd.returns (hb hby d_jdk_2655_method_3_7) hr)), hrun, hended, _, _, rfl, ?_, ⟨_, rfl⟩, hW, hsame.mono (by decide) (by decide)⟩
  show Q20 Z a1 qc h0 n0 _ T2.heap _
  exact ⟨rfl, Nf2, K5, Ex2_a, Fx2_a_0⟩

theorem d_jdk_53_method_1_0 : decode jdk_53_method_1_code 0 = .ok (.aload_n 0, 1) := by decide +kernel
theorem d_jdk_53_method_1_1 : decode jdk_53_method_1_code 1 = .ok (.invokespecial 1, 3) := by decide +kernel
theorem d_jdk_53_method_1_4 : decode jdk_53_method_1_code 4 = .ok (.aload_n 0, 1) := by decide +kernel
theorem d_jdk_53_method_1_5 : decode jdk_53_method_1_code 5 = .ok (.aload_n 1, 1) := by decide +kernel
theorem d_jdk_53_method_1_6 : decode jdk_53_method_1_code 6 = .ok (.putfield 7, 3) := by decide +kernel
theorem d_jdk_53_method_1_9 : decode jdk_53_method_1_code 9 = .ok (.aload_n 0, 1) := by decide +kernel
theorem d_jdk_53_method_1_10 : decode jdk_53_method_1_code 10 = .ok (.iload_n 2, 1) := by decide +kernel
theorem d_jdk_53_method_1_11 : decode jdk_53_method_1_code 11 = .ok (.putfield 13, 3) := by decide +kernel
theorem d_jdk_53_method_1_14 : decode jdk_53_method_1_code 14 = .ok (.aload_n 0, 1) := by decide +kernel
theorem d_jdk_53_method_1_15 : decode jdk_53_method_1_code 15 = .ok (.iconst 0, 1) := by decide +kernel
theorem d_jdk_53_method_1_16 : decode jdk_53_method_1_code 16 = .ok (.putfield 17, 3) := by decide +kernel
theorem d_jdk_53_method_1_19 : decode jdk_53_method_1_code 19 = .ok (.aload_n 0, 1) := by decide +kernel
theorem d_jdk_53_method_1_20 : decode jdk_53_method_1_code 20 = .ok (.iconst 0, 1) := by decide +kernel
theorem d_jdk_53_method_1_21 : decode jdk_53_method_1_code 21 = .ok (.putfield 20, 3) := by decide +kernel
theorem d_jdk_53_method_1_24 : decode jdk_53_method_1_code 24 = .ok (.return_, 1) := by decide +kernel
theorem pn_7 : plainName "java/util/ImmutableCollections$ListItr" = true := by first | (simp [plainName, overriddenIn]; done) | decide +kernel
theorem ef_rm12 (m : MethodId) (x0 : Addr) (x1 : Addr) : entryFrame m #[(.ref x0), (.ref x1), (.int (0 : Int32))] 3 = mkF m 0 #[.val (.ref x0), .val (.ref x1), .val (.int (0 : Int32))] [] := by first | (simp [entryFrame, mkF, argsToLocals, Value.category]; done) | rfl
def Q12 (Z : State) (a1 : Addr) (ls : Addr) (h0 : Heap) (n0 : Nat) (v : Option Value) (h : Heap) (L : List Loc) : Prop := v = none ∧ Fr n0 L ∧ Keep h0 h [a1] ∧ Exa Z h a1 "java/util/ImmutableCollections$ListItr" ∧ Fld Z h a1 "java/util/ImmutableCollections$ListItr" "cursor" "I" (.int (0 : Int32)) ∧ Fld Z h a1 "java/util/ImmutableCollections$ListItr" "size" "I" (.int (0 : Int32))
set_option maxRecDepth 65536 in
set_option maxHeartbeats 40000000 in
theorem rm12 (l : Launch) (Z : State) (a0 : Array Value) (hw : ∀ d ∈ tables_1, d.before a0 Z = true) (ws : List Jvm.Cond) (a1 : Addr) (ls : Addr) (h0 : Heap) (n0 : Nat) (Z0 : n0 ≤ h0.size) (O0 : Old Z n0 h0) (E_a1 : Exa Z h0 a1 "java/util/ImmutableCollections$ListItr") (F_a1_list : Fld Z h0 a1 "java/util/ImmutableCollections$ListItr" "list" "Ljava/util/List;" .null) (F_a1_size : Fld Z h0 a1 "java/util/ImmutableCollections$ListItr" "size" "I" (.int (0 : Int32))) (F_a1_cursor : Fld Z h0 a1 "java/util/ImmutableCollections$ListItr" "cursor" "I" (.int (0 : Int32))) (F_a1_isListIterator : Fld Z h0 a1 "java/util/ImmutableCollections$ListItr" "isListIterator" "Z" (.int (0 : Int32))) (g_a1 : n0 ≤ a1) :
    MetFree l (⟨"java/util/ImmutableCollections$ListItr", "<init>", "(Ljava/util/List;I)V"⟩ : MethodName) (head1 (Jvm.Cond.code (⟨"java/util/ImmutableCollections$ListItr", "<init>", "(Ljava/util/List;I)V"⟩ : MethodName) jdk_53_method_1_code 3 none :: ws) ({ frames := 1, cells := 0, slots := 0, locals := 12 } : Room)) (fun a U => a = #[(.ref a1), (.ref ls), (.int (0 : Int32))] ∧ Z.Warmed39 U.vm ∧ U.heap = h0) (fun _ _ _ _ _ => True) (fun _ U o U' => ∃ v L, o = .returned v ∧ Q12 Z a1 ls h0 n0 v U'.heap L ∧ FrameEnd U o U' L ({ frames := 1, cells := 0, slots := 0, locals := 12 } : Room).cells ({ frames := 1, cells := 0, slots := 0, locals := 12 } : Room).slots) := by
  refine MetFree.of_bodySF (plainFor_of_name pn_7) hisR ?_
  intro p e s m args below meth c s₁ Bd hml0 hP hK
  obtain ⟨rfl, hZ, hh⟩ := hP
  have hx := Bd.exec
  have hby := Bd.bytes
  have hml : c.maxLocals = 3 := hml0
  have hown : s.vm.findClass "java/util/ImmutableCollections$ListItr" = some m.cls := findClass_of_methodNamed Bd.named
  have hnm := (name_of_methodNamed Bd.named Bd.method).1
  have X0 : Stand p l e ({ frames := 1, cells := 0, slots := 0, locals := 12 } : Room) s m #[(.ref a1), (.ref ls), (.int (0 : Int32))] below meth c s₁ [] 0 0 := Stand.of_body Bd
  have e0 : s₁.heap = h0 := by rw [← hh, Bd.state]; rfl
  have Nf0 := Fr.nil n0
  obtain ⟨Gl, hGl, kn0⟩ : ∃ Gl : State → Prop, (∀ t, Gl t → Steps p.tables e below (s₁.setTop (entryFrame m #[(.ref a1), (.ref ls), (.int (0 : Int32))] 3)) t) ∧ ∀ t, own_S p e below s₁ (mkF m 0 #[.val (.ref a1), .val (.ref ls), .val (.int (0 : Int32))] []) t → Gl t := ⟨fun t => Steps p.tables e below (s₁.setTop (entryFrame m #[(.ref a1), (.ref ls), (.int (0 : Int32))] 3)) t, fun _ k => k, fun t k => castTop (ef_rm12 m a1 ls) k⟩
  have kn1 : ∀ t, own_S p e below s₁ (mkF m 1 #[.val (.ref a1), .val (.ref ls), .val (.int (0 : Int32))] [(.ref a1)]) t → Gl t := fun t kt => kn0 t (by
    show own_S p e below s₁ (mkF m 0 #[.val (.ref a1), .val (.ref ls), .val (.int (0 : Int32))] []) _
    refine XS.aloadN X0.here hx rfl (hb hby d_jdk_53_method_1_0) rfl rfl ?_
    exact kt)
  obtain ⟨T2, X2, e2, st2⟩ := initO X0 hx hZ hown (hw _ (List.mem_of_getElem? (i := 80) rfl)) (hw _ (List.mem_of_getElem? (i := 16) rfl)) (hw _ (List.mem_of_getElem? (i := 17) rfl)) e0 (g := (mkF m 1 #[.val (.ref a1), .val (.ref ls), .val (.int (0 : Int32))] [(.ref a1)])) rfl (by rw [hml]; rfl) rfl (hb hby d_jdk_53_method_1_1) (by decide) (W := 0) (by show 2 * 0 + _ ≤ _; exact Nat.le_of_eq rfl) (by decide)
  have kn3 : ∀ t, own_S p e below T2 (mkF m 4 #[.val (.ref a1), .val (.ref ls), .val (.int (0 : Int32))] []) t → Gl t := fun t kt => kn1 t (st2 _ kt)
  have kn4 : ∀ t, own_S p e below T2 (mkF m 6 #[.val (.ref a1), .val (.ref ls), .val (.int (0 : Int32))] [(.ref ls), (.ref a1)]) t → Gl t := fun t kt => kn3 t (by
    show own_S p e below T2 (mkF m 4 #[.val (.ref a1), .val (.ref ls), .val (.int (0 : Int32))] []) _
    refine XS.aloadN X2.here hx rfl (hb hby d_jdk_53_method_1_4) rfl rfl ?_
    show own_S p e below T2 (mkF m 5 #[.val (.ref a1), .val (.ref ls), .val (.int (0 : Int32))] [(.ref a1)]) _
    refine XS.aloadN X2.here hx rfl (hb hby d_jdk_53_method_1_5) rfl rfl ?_
    exact kt)
  obtain ⟨T5, h5, X5, e5, W5, st5⟩ := putF X2 hx hZ hown (host := "") (Or.inl (hw _ (List.mem_of_getElem? (i := 81) rfl))) Via.refl e2 F_a1_list E_a1 (Or.inr ⟨(hw _ (List.mem_of_getElem? (i := 82) rfl)), rfl, hnm⟩) (hw _ (List.mem_of_getElem? (i := 65) rfl)) (ty := (.object "java/util/List")) (by decide) rfl rfl (g := (mkF m 6 #[.val (.ref a1), .val (.ref ls), .val (.int (0 : Int32))] [(.ref ls), (.ref a1)])) rfl rfl (hb hby d_jdk_53_method_1_6)
  have Z6 : n0 ≤ h5.size := Nat.le_trans Z0 (Keep.of_wr W5).1
  have Od7 : Old Z n0 h5 := O0.wr W5 g_a1
  have K8 : Keep h0 h5 [a1] := (Keep.refl h0 [a1]).wr W5 (Or.inl (List.mem_of_getElem? (i := 0) rfl))
  have Fw5 := F_a1_list.same W5
  have Nf9 := Fr.snoc X5 Nf0 g_a1
  have kn10 : ∀ t, own_S p e below T5 (mkF m 9 #[.val (.ref a1), .val (.ref ls), .val (.int (0 : Int32))] []) t → Gl t := fun t kt => kn4 t (st5 _ kt)
  have kn11 : ∀ t, own_S p e below T5 (mkF m 11 #[.val (.ref a1), .val (.ref ls), .val (.int (0 : Int32))] [(.int (0 : Int32)), (.ref a1)]) t → Gl t := fun t kt => kn10 t (by
    show own_S p e below T5 (mkF m 9 #[.val (.ref a1), .val (.ref ls), .val (.int (0 : Int32))] []) _
    refine XS.aloadN X5.here hx rfl (hb hby d_jdk_53_method_1_9) rfl rfl ?_
    show own_S p e below T5 (mkF m 10 #[.val (.ref a1), .val (.ref ls), .val (.int (0 : Int32))] [(.ref a1)]) _
    refine XS.iloadN X5.here hx rfl (hb hby d_jdk_53_method_1_10) rfl ?_
    exact kt)
  have f12 := (F_a1_size.other W5 (Or.inr (slot_ne (Or.inr (hw _ (List.mem_of_getElem? (i := 84) rfl))) (Or.inr (hw _ (List.mem_of_getElem? (i := 82) rfl))) (by decide) (t := .int) (t' := (.object "java/util/List")) (by decide) (by decide))))
  have f13 := (E_a1.wr W5)
  obtain ⟨T14, h14, X14, e14, W14, st14⟩ := putF X5 hx hZ hown (host := "") (Or.inl (hw _ (List.mem_of_getElem? (i := 83) rfl))) Via.refl e5 f12 f13 (Or.inr ⟨(hw _ (List.mem_of_getElem? (i := 84) rfl)), rfl, hnm⟩) (hw _ (List.mem_of_getElem? (i := 65) rfl)) (ty := .int) (by decide) rfl rfl (g := (mkF m 11 #[.val (.ref a1), .val (.ref ls), .val (.int (0 : Int32))] [(.int (0 : Int32)), (.ref a1)])) rfl rfl (hb hby d_jdk_53_method_1_11)
  have Z15 : n0 ≤ h14.size := Nat.le_trans Z6 (Keep.of_wr W14).1
  have Od16 : Old Z n0 h14 := Od7.wr W14 g_a1
  have K17 : Keep h0 h14 [a1] := K8.wr W14 (Or.inl (List.mem_of_getElem? (i := 0) rfl))
  have Fw14 := f12.same W14
  have Nf18 := Fr.snoc X14 Nf9 g_a1
  have kn19 : ∀ t, own_S p e below T14 (mkF m 14 #[.val (.ref a1), .val (.ref ls), .val (.int (0 : Int32))] []) t → Gl t := fun t kt => kn11 t (st14 _ kt)
  have kn20 : ∀ t, own_S p e below T14 (mkF m 16 #[.val (.ref a1), .val (.ref ls), .val (.int (0 : Int32))] [(.int (0 : Int32)), (.ref a1)]) t → Gl t := fun t kt => kn19 t (by
    show own_S p e below T14 (mkF m 14 #[.val (.ref a1), .val (.ref ls), .val (.int (0 : Int32))] []) _
    refine XS.aloadN X14.here hx rfl (hb hby d_jdk_53_method_1_14) rfl rfl ?_
    show own_S p e below T14 (mkF m 15 #[.val (.ref a1), .val (.ref ls), .val (.int (0 : Int32))] [(.ref a1)]) _
    refine XS.iconst X14.here hx rfl (hb hby d_jdk_53_method_1_15) ?_
    exact kt)
  have f21 := ((F_a1_cursor.other W5 (Or.inr (slot_ne (Or.inl (hw _ (List.mem_of_getElem? (i := 86) rfl))) (Or.inr (hw _ (List.mem_of_getElem? (i := 82) rfl))) (by decide) (t := .int) (t' := (.object "java/util/List")) (by decide) (by decide)))).other W14 (Or.inr (slot_ne (Or.inl (hw _ (List.mem_of_getElem? (i := 86) rfl))) (Or.inr (hw _ (List.mem_of_getElem? (i := 84) rfl))) (by decide) (t := .int) (t' := .int) (by decide) (by decide))))
  have f22 := (f13.wr W14)
  obtain ⟨T23, h23, X23, e23, W23, st23⟩ := putF X14 hx hZ hown (host := "") (Or.inl (hw _ (List.mem_of_getElem? (i := 85) rfl))) Via.refl e14 f21 f22 (Or.inl (hw _ (List.mem_of_getElem? (i := 86) rfl))) (hw _ (List.mem_of_getElem? (i := 65) rfl)) (ty := .int) (by decide) rfl rfl (g := (mkF m 16 #[.val (.ref a1), .val (.ref ls), .val (.int (0 : Int32))] [(.int (0 : Int32)), (.ref a1)])) rfl rfl (hb hby d_jdk_53_method_1_16)
  have Z24 : n0 ≤ h23.size := Nat.le_trans Z15 (Keep.of_wr W23).1
  have Od25 : Old Z n0 h23 := Od16.wr W23 g_a1
  have K26 : Keep h0 h23 [a1] := K17.wr W23 (Or.inl (List.mem_of_getElem? (i := 0) rfl))
  have Fw23 := f21.same W23
  have Nf27 := Fr.snoc X23 Nf18 g_a1
  have kn28 : ∀ t, own_S p e below T23 (mkF m 19 #[.val (.ref a1), .val (.ref ls), .val (.int (0 : Int32))] []) t → Gl t := fun t kt => kn20 t (st23 _ kt)
  have kn29 : ∀ t, own_S p e below T23 (mkF m 21 #[.val (.ref a1), .val (.ref ls), .val (.int (0 : Int32))] [(.int (0 : Int32)), (.ref a1)]) t → Gl t := fun t kt => kn28 t (by
    show own_S p e below T23 (mkF m 19 #[.val (.ref a1), .val (.ref ls), .val (.int (0 : Int32))] []) _
    refine XS.aloadN X23.here hx rfl (hb hby d_jdk_53_method_1_19) rfl rfl ?_
    show own_S p e below T23 (mkF m 20 #[.val (.ref a1), .val (.ref ls), .val (.int (0 : Int32))] [(.ref a1)]) _
    refine XS.iconst X23.here hx rfl (hb hby d_jdk_53_method_1_20) ?_
    exact kt)
  have f30 := (((F_a1_isListIterator.other W5 (Or.inr (slot_ne (Or.inr (hw _ (List.mem_of_getElem? (i := 88) rfl))) (Or.inr (hw _ (List.mem_of_getElem? (i := 82) rfl))) (by decide) (t := .boolean) (t' := (.object "java/util/List")) (by decide) (by decide)))).other W14 (Or.inr (slot_ne (Or.inr (hw _ (List.mem_of_getElem? (i := 88) rfl))) (Or.inr (hw _ (List.mem_of_getElem? (i := 84) rfl))) (by decide) (t := .boolean) (t' := .int) (by decide) (by decide)))).other W23 (Or.inr (slot_ne (Or.inr (hw _ (List.mem_of_getElem? (i := 88) rfl))) (Or.inl (hw _ (List.mem_of_getElem? (i := 86) rfl))) (by decide) (t := .boolean) (t' := .int) (by decide) (by decide))))
  have f31 := (f22.wr W23)
  obtain ⟨T32, h32, X32, e32, W32, st32⟩ := putFN X23 hx hZ hown (hw _ (List.mem_of_getElem? (i := 87) rfl)) Via.refl e23 f30 f31 (Or.inr ⟨(hw _ (List.mem_of_getElem? (i := 88) rfl)), rfl, hnm⟩) (hw _ (List.mem_of_getElem? (i := 65) rfl)) (ty := .boolean) (v' := (.int (0 : Int32))) (by decide) rfl (by decide) (g := (mkF m 21 #[.val (.ref a1), .val (.ref ls), .val (.int (0 : Int32))] [(.int (0 : Int32)), (.ref a1)])) rfl rfl (hb hby d_jdk_53_method_1_21)
  have Z33 : n0 ≤ h32.size := Nat.le_trans Z24 (Keep.of_wr W32).1
  have Od34 : Old Z n0 h32 := Od25.wr W32 g_a1
  have K35 : Keep h0 h32 [a1] := K26.wr W32 (Or.inl (List.mem_of_getElem? (i := 0) rfl))
  have Fw32 := f30.same W32
  have Nf36 := Fr.snoc X32 Nf27 g_a1
  have kn37 : ∀ t, own_S p e below T32 (mkF m 24 #[.val (.ref a1), .val (.ref ls), .val (.int (0 : Int32))] []) t → Gl t := fun t kt => kn29 t (st32 _ kt)
  obtain ⟨fs, hr, hrun, hended, hW, hsame⟩ := X32.leave (v := none) (fun _ => rfl)
  refine ⟨_, _, hGl _ (kn37 _ (X32.returnOut hx Bd.returns (hb hby d_jdk_53_method_1_24) hr)), hrun, hended, _, _, rfl, ?_, ⟨_, rfl⟩, hW, hsame.mono (by decide) (by decide)⟩
  show Q12 Z a1 ls h0 n0 _ T32.heap _
  rw [e32]
  have f38 := (f31.wr W32)
  have f39 := (Fw23.other W32 (Or.inr (slot_ne (Or.inl (hw _ (List.mem_of_getElem? (i := 86) rfl))) (Or.inr (hw _ (List.mem_of_getElem? (i := 88) rfl))) (by decide) (t := .int) (t' := .boolean) (by decide) (by decide))))
  have f40 := ((Fw14.other W23 (Or.inr (slot_ne (Or.inr (hw _ (List.mem_of_getElem? (i := 84) rfl))) (Or.inl (hw _ (List.mem_of_getElem? (i := 86) rfl))) (by decide) (t := .int) (t' := .int) (by decide) (by decide)))).other W32 (Or.inr (slot_ne (Or.inr (hw _ (List.mem_of_getElem? (i := 84) rfl))) (Or.inr (hw _ (List.mem_of_getElem? (i := 88) rfl))) (by decide) (t := .int) (t' := .boolean) (by decide) (by decide))))
  exact ⟨rfl, Nf36, K35, f38, f39, f40⟩

theorem d_jdk_45_method_3_0 : decode jdk_45_method_3_code 0 = .ok (.aload_n 0, 1) := by decide +kernel
theorem d_jdk_45_method_3_1 : decode jdk_45_method_3_code 1 = .ok (.getfield 7, 3) := by decide +kernel
theorem d_jdk_45_method_3_4 : decode jdk_45_method_3_code 4 = .ok (.arraylength, 1) := by decide +kernel
theorem d_jdk_45_method_3_5 : decode jdk_45_method_3_code 5 = .ok (.ireturn, 1) := by decide +kernel
theorem pn_8 : plainName "java/util/ImmutableCollections$ListN" = true := by first | (simp [plainName, overriddenIn]; done) | decide +kernel
theorem ef_rm11 (m : MethodId) (x0 : Addr) : entryFrame m #[(.ref x0)] 1 = mkF m 0 #[.val (.ref x0)] [] := by first | (simp [entryFrame, mkF, argsToLocals, Value.category]; done) | rfl
def Q11 (Z : State) (gL : Addr) (gE : Addr) (kE : ClassId) (h0 : Heap) (n0 : Nat) (v : Option Value) (h : Heap) (L : List Loc) : Prop := v = some (.int (0 : Int32)) ∧ Fr n0 L ∧ h = h0
set_option maxRecDepth 65536 in
set_option maxHeartbeats 40000000 in
theorem rm11 (l : Launch) (Z : State) (a0 : Array Value) (hw : ∀ d ∈ tables_1, d.before a0 Z = true) (ws : List Jvm.Cond) (gL : Addr) (gE : Addr) (kE : ClassId) (h0 : Heap) (n0 : Nat) (Z0 : n0 ≤ h0.size) (O0 : Old Z n0 h0) (E_L : Exa Z Z.heap gL "java/util/ImmutableCollections$ListN") (F_L : Fld Z Z.heap gL "java/util/ImmutableCollections$ListN" "elements" "[Ljava/lang/Object;" (.ref gE)) (A_E : Arv Z Z.heap gE kE (.object "java/lang/Object") (0 : Int32) [] .null) :
    MetFree l (⟨"java/util/ImmutableCollections$ListN", "size", "()I"⟩ : MethodName) (head1 (Jvm.Cond.code (⟨"java/util/ImmutableCollections$ListN", "size", "()I"⟩ : MethodName) jdk_45_method_3_code 1 (some .int) :: ws) ({ frames := 0, cells := 0, slots := 0, locals := 0 } : Room)) (fun a U => a = #[(.ref gL)] ∧ Z.Warmed39 U.vm ∧ U.heap = h0) (fun _ _ _ _ _ => True) (fun _ U o U' => ∃ v L, o = .returned v ∧ Q11 Z gL gE kE h0 n0 v U'.heap L ∧ FrameEnd U o U' L ({ frames := 0, cells := 0, slots := 0, locals := 0 } : Room).cells ({ frames := 0, cells := 0, slots := 0, locals := 0 } : Room).slots) := by
  refine MetFree.of_bodySF (plainFor_of_name pn_8) hisR ?_
  intro p e s m args below meth c s₁ Bd hml0 hP hK
  obtain ⟨rfl, hZ, hh⟩ := hP
  have hx := Bd.exec
  have hby := Bd.bytes
  have hml : c.maxLocals = 1 := hml0
  have hown : s.vm.findClass "java/util/ImmutableCollections$ListN" = some m.cls := findClass_of_methodNamed Bd.named
  have hnm := (name_of_methodNamed Bd.named Bd.method).1
  have X0 : Stand p l e ({ frames := 0, cells := 0, slots := 0, locals := 0 } : Room) s m #[(.ref gL)] below meth c s₁ [] 0 0 := Stand.of_body Bd
  have e0 : s₁.heap = h0 := by rw [← hh, Bd.state]; rfl
  have Nf0 := Fr.nil n0
  obtain ⟨Gl, hGl, kn0⟩ : ∃ Gl : State → Prop, (∀ t, Gl t → Steps p.tables e below (s₁.setTop (entryFrame m #[(.ref gL)] 1)) t) ∧ ∀ t, own_S p e below s₁ (mkF m 0 #[.val (.ref gL)] []) t → Gl t := ⟨fun t => Steps p.tables e below (s₁.setTop (entryFrame m #[(.ref gL)] 1)) t, fun _ k => k, fun t k => castTop (ef_rm11 m gL) k⟩
  have kn1 : ∀ t, own_S p e below s₁ (mkF m 1 #[.val (.ref gL)] [(.ref gL)]) t → Gl t := fun t kt => kn0 t (by
    show own_S p e below s₁ (mkF m 0 #[.val (.ref gL)] []) _
    refine XS.aloadN X0.here hx rfl (hb hby d_jdk_45_method_3_0) rfl rfl ?_
    exact kt)
  obtain ⟨T2, X2, e2, st2⟩ := getF X0 hx hZ hown (host := "") (Or.inl (hw _ (List.mem_of_getElem? (i := 74) rfl))) Via.refl e0 (F_L.ext O0.2) (g := (mkF m 1 #[.val (.ref gL)] [(.ref gL)])) rfl rfl (hb hby d_jdk_45_method_3_1)
  have kn3 : ∀ t, own_S p e below T2 (mkF m 4 #[.val (.ref gL)] [(.ref gE)]) t → Gl t := fun t kt => kn1 t (st2 _ kt)
  obtain ⟨cl4, Ar4, -, Sz4, Ng4, -, -⟩ := id (A_E.ext O0.2)
  have kn5 : ∀ t, own_S p e below T2 (mkF m 5 #[.val (.ref gL)] [(.int (0 : Int32))]) t → Gl t := fun t kt => kn3 t (by
    show own_S p e below T2 (mkF m 4 #[.val (.ref gL)] [(.ref gE)]) _
    refine X2.arraylength hx (by rw [e2]; exact Ar4.1) (State.isArrayOf_alike hZ.alike Ar4.2.1) (g := (mkF m 4 #[.val (.ref gL)] [(.ref gE)])) rfl rfl (hb hby d_jdk_45_method_3_4) _ ?_
    rw [len_of Sz4 Ng4]
    exact kt)
  obtain ⟨fs, hr, hrun, hended, hW, hsame⟩ := X2.leave (v := some (.int (0 : Int32))) (fun h => by rw [Bd.returns] at h; cases h)
  refine ⟨_, _, hGl _ (kn5 _ (retI X2 hx Bd.returns (hb hby d_jdk_45_method_3_5) hr)), hrun, hended, _, _, rfl, ?_, ⟨_, rfl⟩, hW, hsame.mono (by decide) (by decide)⟩
  show Q11 Z gL gE kE h0 n0 _ T2.heap _
  rw [e2]
  exact ⟨rfl, Nf0, rfl⟩

theorem d_jdk_46_method_10_0 : decode jdk_46_method_10_code 0 = .ok (.new 61, 3) := by decide +kernel
theorem d_jdk_46_method_10_3 : decode jdk_46_method_10_code 3 = .ok (.dup, 1) := by decide +kernel
theorem d_jdk_46_method_10_4 : decode jdk_46_method_10_code 4 = .ok (.aload_n 0, 1) := by decide +kernel
theorem d_jdk_46_method_10_5 : decode jdk_46_method_10_code 5 = .ok (.aload_n 0, 1) := by decide +kernel
theorem d_jdk_46_method_10_6 : decode jdk_46_method_10_code 6 = .ok (.invokevirtual 13, 3) := by decide +kernel
theorem d_jdk_46_method_10_9 : decode jdk_46_method_10_code 9 = .ok (.invokespecial 63, 3) := by decide +kernel
theorem d_jdk_46_method_10_12 : decode jdk_46_method_10_code 12 = .ok (.areturn, 1) := by decide +kernel
theorem pn_9 : plainName "java/util/ImmutableCollections$AbstractImmutableList" = true := by first | (simp [plainName, overriddenIn]; done) | decide +kernel
theorem pd_4 : parseMethodDescriptor "()I" = some ⟨[], some .int⟩ := by decide +kernel
theorem pd_5 : parseMethodDescriptor "(Ljava/util/List;I)V" = some ⟨[(.object "java/util/List"), .int], none⟩ := by decide +kernel
theorem ef_rm10 (m : MethodId) (x0 : Addr) : entryFrame m #[(.ref x0)] 1 = mkF m 0 #[.val (.ref x0)] [] := by first | (simp [entryFrame, mkF, argsToLocals, Value.category]; done) | rfl
def Q10 (Z : State) (gL : Addr) (gE : Addr) (kE : ClassId) (h0 : Heap) (n0 : Nat) (v : Option Value) (h : Heap) (L : List Loc) : Prop := ∃ b : Addr, v = some (.ref b) ∧ Fr n0 L ∧ n0 ≤ b ∧ h0.size ≤ b ∧ Keep h0 h [] ∧ Exa Z h b "java/util/ImmutableCollections$ListItr" ∧ Fld Z h b "java/util/ImmutableCollections$ListItr" "cursor" "I" (.int (0 : Int32)) ∧ Fld Z h b "java/util/ImmutableCollections$ListItr" "size" "I" (.int (0 : Int32))
set_option maxRecDepth 65536 in
set_option maxHeartbeats 40000000 in
theorem rm10 (l : Launch) (Z : State) (a0 : Array Value) (hw : ∀ d ∈ tables_1, d.before a0 Z = true) (ws : List Jvm.Cond) (gL : Addr) (gE : Addr) (kE : ClassId) (h0 : Heap) (n0 : Nat) (Z0 : n0 ≤ h0.size) (O0 : Old Z n0 h0) (E_L : Exa Z Z.heap gL "java/util/ImmutableCollections$ListN") (F_L : Fld Z Z.heap gL "java/util/ImmutableCollections$ListN" "elements" "[Ljava/lang/Object;" (.ref gE)) (A_E : Arv Z Z.heap gE kE (.object "java/lang/Object") (0 : Int32) [] .null) :
    MetFree l (⟨"java/util/ImmutableCollections$AbstractImmutableList", "iterator", "()Ljava/util/Iterator;"⟩ : MethodName) (head1 (Jvm.Cond.code (⟨"java/util/ImmutableCollections$AbstractImmutableList", "iterator", "()Ljava/util/Iterator;"⟩ : MethodName) jdk_46_method_10_code 1 (some (.object "java/util/Iterator")) :: ws) ({ frames := 2, cells := 1, slots := 4, locals := 27 } : Room)) (fun a U => a = #[(.ref gL)] ∧ Z.Warmed39 U.vm ∧ U.heap = h0) (fun _ _ _ _ _ => True) (fun _ U o U' => ∃ v L, o = .returned v ∧ Q10 Z gL gE kE h0 n0 v U'.heap L ∧ FrameEnd U o U' L ({ frames := 2, cells := 1, slots := 4, locals := 27 } : Room).cells ({ frames := 2, cells := 1, slots := 4, locals := 27 } : Room).slots) := by
  refine MetFree.of_bodySF (plainFor_of_name pn_9) hisR ?_
  intro p e s m args below meth c s₁ Bd hml0 hP hK
  obtain ⟨rfl, hZ, hh⟩ := hP
  have hx := Bd.exec
  have hby := Bd.bytes
  have hml : c.maxLocals = 1 := hml0
  have hown : s.vm.findClass "java/util/ImmutableCollections$AbstractImmutableList" = some m.cls := findClass_of_methodNamed Bd.named
  have hnm := (name_of_methodNamed Bd.named Bd.method).1
  have X0 : Stand p l e ({ frames := 2, cells := 1, slots := 4, locals := 27 } : Room) s m #[(.ref gL)] below meth c s₁ [] 0 0 := Stand.of_body Bd
  have e0 : s₁.heap = h0 := by rw [← hh, Bd.state]; rfl
  have Nf0 := Fr.nil n0
  obtain ⟨Gl, hGl, kn0⟩ : ∃ Gl : State → Prop, (∀ t, Gl t → Steps p.tables e below (s₁.setTop (entryFrame m #[(.ref gL)] 1)) t) ∧ ∀ t, own_S p e below s₁ (mkF m 0 #[.val (.ref gL)] []) t → Gl t := ⟨fun t => Steps p.tables e below (s₁.setTop (entryFrame m #[(.ref gL)] 1)) t, fun _ k => k, fun t k => castTop (ef_rm10 m gL) k⟩
  obtain ⟨T1, h1, X1, e1, E1, A1, D1, -, st1⟩ := newO X0 hx hZ hown (hw _ (List.mem_of_getElem? (i := 64) rfl)) (hw _ (List.mem_of_getElem? (i := 65) rfl)) (hw _ (List.mem_of_getElem? (i := 66) rfl)) e0 (g := (mkF m 0 #[.val (.ref gL)] [])) rfl (hb hby d_jdk_46_method_10_0) (by decide) (by decide)
  obtain ⟨b1, g1⟩ : ∃ z, z = h0.size := ⟨_, rfl⟩
  rw [← g1] at A1 D1 st1
  have sz_b1 : h0.size ≤ b1 := Nat.le_trans (Keep.refl h0 []).1 (Nat.le_of_eq g1.symm)
  have g_b1 : n0 ≤ b1 := Nat.le_trans Z0 (Nat.le_of_eq g1.symm)
  have Z2 : n0 ≤ h1.size := Nat.le_trans Z0 E1.1
  have Od3 : Old Z n0 h1 := O0.ext E1
  have K4 : Keep h0 h1 [] := (Keep.refl h0 []).ext E1
  have F1_82 : Fld Z h1 b1 "java/util/ImmutableCollections$ListItr" "list" "Ljava/util/List;" .null := D1 (Or.inr (hw _ (List.mem_of_getElem? (i := 82) rfl))) (ty := (.object "java/util/List")) (by decide)
  have F1_84 : Fld Z h1 b1 "java/util/ImmutableCollections$ListItr" "size" "I" (.int (0 : Int32)) := D1 (Or.inr (hw _ (List.mem_of_getElem? (i := 84) rfl))) (ty := .int) (by decide)
  have F1_86 : Fld Z h1 b1 "java/util/ImmutableCollections$ListItr" "cursor" "I" (.int (0 : Int32)) := D1 (Or.inl (hw _ (List.mem_of_getElem? (i := 86) rfl))) (ty := .int) (by decide)
  have F1_88 : Fld Z h1 b1 "java/util/ImmutableCollections$ListItr" "isListIterator" "Z" (.int (0 : Int32)) := D1 (Or.inr (hw _ (List.mem_of_getElem? (i := 88) rfl))) (ty := .boolean) (by decide)
  have kn5 : ∀ t, own_S p e below T1 (mkF m 3 #[.val (.ref gL)] [(.ref b1)]) t → Gl t := fun t kt => kn0 t (st1 _ kt)
  have kn6 : ∀ t, own_S p e below T1 (mkF m 6 #[.val (.ref gL)] [(.ref gL), (.ref gL), (.ref b1), (.ref b1)]) t → Gl t := fun t kt => kn5 t (by
    show own_S p e below T1 (mkF m 3 #[.val (.ref gL)] [(.ref b1)]) _
    refine XS.dup X1.here hx rfl (hb hby d_jdk_46_method_10_3) rfl rfl ?_
    show own_S p e below T1 (mkF m 4 #[.val (.ref gL)] [(.ref b1), (.ref b1)]) _
    refine XS.aloadN X1.here hx rfl (hb hby d_jdk_46_method_10_4) rfl rfl ?_
    show own_S p e below T1 (mkF m 5 #[.val (.ref gL)] [(.ref gL), (.ref b1), (.ref b1)]) _
    refine XS.aloadN X1.here hx rfl (hb hby d_jdk_46_method_10_5) rfl rfl ?_
    exact kt)
  obtain ⟨cq7, kq7, qa7, qb7, qc7⟩ := isOf hZ e1 (E_L.ext Od3.2)
  obtain ⟨_, _, ⟨T7, L7, cc7, ss7⟩, -, X7, ⟨Lc7, hQ7, l7, y7, z7⟩, st7⟩ := X1.virtualBackUp hx (owner := "java/util/AbstractCollection") (x := (⟨"java/util/ImmutableCollections$AbstractImmutableList", "size", "()I"⟩ : MethodName)) (y := (⟨"java/util/ImmutableCollections$ListN", "size", "()I"⟩ : MethodName)) hown (mvT hZ (hw _ (List.mem_of_getElem? (i := 67) rfl))) (mvT hZ (hw _ (List.mem_of_getElem? (i := 68) rfl))) (mvT hZ (hw _ (List.mem_of_getElem? (i := 69) rfl))) (by decide) (mvT hZ (hw _ (List.mem_of_getElem? (i := 70) rfl))) (mvT hZ (hw _ (List.mem_of_getElem? (i := 71) rfl))) (backOf (W := 3) (rm11 l Z a0 hw [] gL gE kE h1 n0 Z2 Od3 E_L F_L A_E) hZ (hw _ (List.mem_of_getElem? (i := 73) rfl)) (hw _ (List.mem_of_getElem? (i := 72) rfl)) (by decide) (by decide)) qa7 qc7 (g := (mkF m 6 #[.val (.ref gL)] [(.ref gL), (.ref gL), (.ref b1), (.ref b1)])) rfl (by rw [hml]; rfl) (Steps.refl _) (argsL := []) (rest := [(.ref gL), (.ref b1), (.ref b1)]) (lenOf pd_4 rfl) rfl (by show 2 * 0 + _ ≤ _; exact Nat.le_of_eq rfl) (hb hby d_jdk_46_method_10_6) (fun _ _ => ⟨rfl, e1, (by decide : 1 + 0 ≤ _), (by decide : 4 + 0 ≤ _)⟩)
  dsimp only [Pt.U, Pt.locs, Pt.cells, Pt.slots] at X7 l7 y7 z7 st7 hQ7
  subst l7 y7 z7
  have X7 : Stand p l e _ _ m _ below meth c T7 _ 1 4 := X7
  obtain ⟨rfl, Nq7, eq7⟩ := hQ7
  have Nf7 := Fr.app Nf0 Nq7
  have kn8 : ∀ t, own_S p e below T7 (mkF m 9 #[.val (.ref gL)] [(.int (0 : Int32)), (.ref gL), (.ref b1), (.ref b1)]) t → Gl t := fun t kt => kn6 t (st7.trans kt)
  obtain ⟨_, _, ⟨T9, L9, cc9, ss9⟩, -, X9, ⟨Lc9, hQ9, l9, y9, z9⟩, st9⟩ := X7.specialBack hx (y := (⟨"java/util/ImmutableCollections$ListItr", "<init>", "(Ljava/util/List;I)V"⟩ : MethodName)) rfl hown (mvT hZ (hw _ (List.mem_of_getElem? (i := 76) rfl))) (mvT hZ (hw _ (List.mem_of_getElem? (i := 77) rfl))) (mvT hZ (hw _ (List.mem_of_getElem? (i := 79) rfl))) (by decide) (backOf (W := 1) (rm12 l Z a0 hw [] b1 gL  h1 n0 Z2 Od3 A1 F1_82 F1_84 F1_86 F1_88 g_b1 ) hZ (hw _ (List.mem_of_getElem? (i := 79) rfl)) (hw _ (List.mem_of_getElem? (i := 66) rfl)) (by decide) (by decide)) (g := (mkF m 9 #[.val (.ref gL)] [(.int (0 : Int32)), (.ref gL), (.ref b1), (.ref b1)])) rfl (by rw [hml]; rfl) (Steps.refl _) (a := b1) (argsL := [(.ref gL), (.int (0 : Int32))]) (rest := [(.ref b1)]) (lenOf pd_5 rfl) rfl (by show 2 * 0 + _ ≤ _; exact Nat.le_of_eq rfl) (hb hby d_jdk_46_method_10_9) (fun _ _ => ⟨rfl, eq7, (by decide : 1 + 0 ≤ _), (by decide : 4 + 0 ≤ _)⟩)
  dsimp only [Pt.U, Pt.locs, Pt.cells, Pt.slots] at X9 l9 y9 z9 st9 hQ9
  subst l9 y9 z9
  have X9 : Stand p l e _ _ m _ below meth c T9 _ 1 4 := X9
  obtain ⟨rfl, Nq9, K9, Ex9_a, Fx9_a_0, Fx9_a_1⟩ := hQ9
  have Nf9 := Fr.app Nf7 Nq9
  have Z10 : n0 ≤ T9.heap.size := Nat.le_trans Z2 K9.1
  have Od11 : Old Z n0 T9.heap := Od3.keep K9 (allS g_b1 all0)
  have K12 : Keep h0 T9.heap [] := K4.trans K9 (allS (Or.inr sz_b1) all0)
  have kn13 : ∀ t, own_S p e below T9 (mkF m 12 #[.val (.ref gL)] [(.ref b1)]) t → Gl t := fun t kt => kn8 t (st9.trans kt)
  obtain ⟨fs, hr, hrun, hended, hW, hsame⟩ := X9.leave (v := some (.ref b1)) (fun h => by rw [Bd.returns] at h; cases h)
  refine ⟨_, _, hGl _ (kn13 _ (by
      show own_S p e below T9 (mkF m 12 #[.val (.ref gL)] [(.ref b1)]) _
      jvm_step X9.here [X9.here.top, hx, (hb hby d_jdk_46_method_10_12), X9.method', Bd.returns, Value.isRef, FieldType.isReference]
      first | (intro acts; rw [hr _ acts rfl rfl rfl]) | rw [hr _ _ rfl rfl rfl]
      exact Steps.refl _)), hrun, hended, _, _, rfl, ?_, ⟨_, rfl⟩, hW, hsame.mono (by decide) (by decide)⟩
  show Q10 Z gL gE kE h0 n0 _ T9.heap _
  exact ⟨b1, rfl, Nf9, g_b1, sz_b1, K12, Ex9_a, Fx9_a_0, Fx9_a_1⟩

theorem d_jdk_53_method_3_0 : decode jdk_53_method_3_code 0 = .ok (.aload_n 0, 1) := by decide +kernel
theorem d_jdk_53_method_3_1 : decode jdk_53_method_3_code 1 = .ok (.getfield 17, 3) := by decide +kernel
theorem d_jdk_53_method_3_4 : decode jdk_53_method_3_code 4 = .ok (.aload_n 0, 1) := by decide +kernel
theorem d_jdk_53_method_3_5 : decode jdk_53_method_3_code 5 = .ok (.getfield 13, 3) := by decide +kernel
theorem d_jdk_53_method_3_8 : decode jdk_53_method_3_code 8 = .ok (.if_icmp .eq 7, 3) := by decide +kernel
theorem d_jdk_53_method_3_15 : decode jdk_53_method_3_code 15 = .ok (.iconst 0, 1) := by decide +kernel
theorem d_jdk_53_method_3_16 : decode jdk_53_method_3_code 16 = .ok (.ireturn, 1) := by decide +kernel
theorem ef_rm18 (m : MethodId) (x0 : Addr) : entryFrame m #[(.ref x0)] 1 = mkF m 0 #[.val (.ref x0)] [] := by first | (simp [entryFrame, mkF, argsToLocals, Value.category]; done) | rfl
def Q18 (Z : State) (a1 : Addr) (h0 : Heap) (n0 : Nat) (v : Option Value) (h : Heap) (L : List Loc) : Prop := v = some (.int (0 : Int32)) ∧ Fr n0 L ∧ h = h0
set_option maxRecDepth 65536 in
set_option maxHeartbeats 40000000 in
theorem rm18 (l : Launch) (Z : State) (a0 : Array Value) (hw : ∀ d ∈ tables_1, d.before a0 Z = true) (ws : List Jvm.Cond) (a1 : Addr) (h0 : Heap) (n0 : Nat) (Z0 : n0 ≤ h0.size) (E_a1 : Exa Z h0 a1 "java/util/ImmutableCollections$ListItr") (F_a1_cursor : Fld Z h0 a1 "java/util/ImmutableCollections$ListItr" "cursor" "I" (.int (0 : Int32))) (F_a1_size : Fld Z h0 a1 "java/util/ImmutableCollections$ListItr" "size" "I" (.int (0 : Int32))) :
    MetFree l (⟨"java/util/ImmutableCollections$ListItr", "hasNext", "()Z"⟩ : MethodName) (head1 (Jvm.Cond.code (⟨"java/util/ImmutableCollections$ListItr", "hasNext", "()Z"⟩ : MethodName) jdk_53_method_3_code 1 (some .boolean) :: ws) ({ frames := 0, cells := 0, slots := 0, locals := 0 } : Room)) (fun a U => a = #[(.ref a1)] ∧ Z.Warmed39 U.vm ∧ U.heap = h0) (fun _ _ _ _ _ => True) (fun _ U o U' => ∃ v L, o = .returned v ∧ Q18 Z a1 h0 n0 v U'.heap L ∧ FrameEnd U o U' L ({ frames := 0, cells := 0, slots := 0, locals := 0 } : Room).cells ({ frames := 0, cells := 0, slots := 0, locals := 0 } : Room).slots) := by
  refine MetFree.of_bodySF (plainFor_of_name pn_7) hisR ?_
  intro p e s m args below meth c s₁ Bd hml0 hP hK
  obtain ⟨rfl, hZ, hh⟩ := hP
  have hx := Bd.exec
  have hby := Bd.bytes
  have hml : c.maxLocals = 1 := hml0
  have hown : s.vm.findClass "java/util/ImmutableCollections$ListItr" = some m.cls := findClass_of_methodNamed Bd.named
  have hnm := (name_of_methodNamed Bd.named Bd.method).1
  have X0 : Stand p l e ({ frames := 0, cells := 0, slots := 0, locals := 0 } : Room) s m #[(.ref a1)] below meth c s₁ [] 0 0 := Stand.of_body Bd
  have e0 : s₁.heap = h0 := by rw [← hh, Bd.state]; rfl
  have Nf0 := Fr.nil n0
  obtain ⟨Gl, hGl, kn0⟩ : ∃ Gl : State → Prop, (∀ t, Gl t → Steps p.tables e below (s₁.setTop (entryFrame m #[(.ref a1)] 1)) t) ∧ ∀ t, own_S p e below s₁ (mkF m 0 #[.val (.ref a1)] []) t → Gl t := ⟨fun t => Steps p.tables e below (s₁.setTop (entryFrame m #[(.ref a1)] 1)) t, fun _ k => k, fun t k => castTop (ef_rm18 m a1) k⟩
  have kn1 : ∀ t, own_S p e below s₁ (mkF m 1 #[.val (.ref a1)] [(.ref a1)]) t → Gl t := fun t kt => kn0 t (by
    show own_S p e below s₁ (mkF m 0 #[.val (.ref a1)] []) _
    refine XS.aloadN X0.here hx rfl (hb hby d_jdk_53_method_3_0) rfl rfl ?_
    exact kt)
  obtain ⟨T2, X2, e2, st2⟩ := getF X0 hx hZ hown (host := "") (Or.inl (hw _ (List.mem_of_getElem? (i := 85) rfl))) Via.refl e0 F_a1_cursor (g := (mkF m 1 #[.val (.ref a1)] [(.ref a1)])) rfl rfl (hb hby d_jdk_53_method_3_1)
  have kn3 : ∀ t, own_S p e below T2 (mkF m 4 #[.val (.ref a1)] [(.int (0 : Int32))]) t → Gl t := fun t kt => kn1 t (st2 _ kt)
  have kn4 : ∀ t, own_S p e below T2 (mkF m 5 #[.val (.ref a1)] [(.ref a1), (.int (0 : Int32))]) t → Gl t := fun t kt => kn3 t (by
    show own_S p e below T2 (mkF m 4 #[.val (.ref a1)] [(.int (0 : Int32))]) _
    refine XS.aloadN X2.here hx rfl (hb hby d_jdk_53_method_3_4) rfl rfl ?_
    exact kt)
  obtain ⟨T5, X5, e5, st5⟩ := getF X2 hx hZ hown (host := "") (Or.inl (hw _ (List.mem_of_getElem? (i := 83) rfl))) Via.refl e2 F_a1_size (g := (mkF m 5 #[.val (.ref a1)] [(.ref a1), (.int (0 : Int32))])) rfl rfl (hb hby d_jdk_53_method_3_5)
  have kn6 : ∀ t, own_S p e below T5 (mkF m 8 #[.val (.ref a1)] [(.int (0 : Int32)), (.int (0 : Int32))]) t → Gl t := fun t kt => kn4 t (st5 _ kt)
  have kn7 : ∀ t, own_S p e below T5 (mkF m 16 #[.val (.ref a1)] [(.int (0 : Int32))]) t → Gl t := fun t kt => kn6 t (by
    show own_S p e below T5 (mkF m 8 #[.val (.ref a1)] [(.int (0 : Int32)), (.int (0 : Int32))]) _
    refine XS.icmpYes X5.here hx rfl (pc0 := 8) (pc' := 15) rfl (hb hby d_jdk_53_method_3_8) rfl (teq (by decide : (0 : Int32) = (0 : Int32))).1 (by decide) (by decide) ?_
    show own_S p e below T5 (mkF m 15 #[.val (.ref a1)] []) _
    refine XS.iconst X5.here hx rfl (hb hby d_jdk_53_method_3_15) ?_
    exact kt)
  obtain ⟨fs, hr, hrun, hended, hW, hsame⟩ := X5.leave (v := some (.int (0 : Int32))) (fun h => by rw [Bd.returns] at h; cases h)
  refine ⟨_, _, hGl _ (kn7 _ (retN X5 hx (t := .boolean) Bd.returns (by simp) (hb hby d_jdk_53_method_3_16) hr)), hrun, hended, _, _, rfl, ?_, ⟨_, rfl⟩, hW, hsame.mono (by decide) (by decide)⟩
  show Q18 Z a1 h0 n0 _ T5.heap _
  rw [e5]
  exact ⟨rfl, Nf0, rfl⟩

theorem d_jdk_29_method_65_0 : decode jdk_29_method_65_code 0 = .ok (.iload_n 0, 1) := by decide +kernel
theorem d_jdk_29_method_65_1 : decode jdk_29_method_65_code 1 = .ok (.iload_n 1, 1) := by decide +kernel
theorem d_jdk_29_method_65_2 : decode jdk_29_method_65_code 2 = .ok (.if_icmp .lt 7, 3) := by decide +kernel
theorem d_jdk_29_method_65_5 : decode jdk_29_method_65_code 5 = .ok (.iload_n 0, 1) := by decide +kernel
theorem d_jdk_29_method_65_6 : decode jdk_29_method_65_code 6 = .ok (.goto 4, 3) := by decide +kernel
theorem d_jdk_29_method_65_10 : decode jdk_29_method_65_code 10 = .ok (.ireturn, 1) := by decide +kernel
theorem ef_rm17 (m : MethodId)  : entryFrame m #[(.int (10 : Int32)), (.int (1 : Int32))] 2 = mkF m 0 #[.val (.int (10 : Int32)), .val (.int (1 : Int32))] [] := by first | (simp [entryFrame, mkF, argsToLocals, Value.category]; done) | rfl
def Q17 (Z : State)  (h0 : Heap) (n0 : Nat) (v : Option Value) (h : Heap) (L : List Loc) : Prop := v = some (.int (10 : Int32)) ∧ Fr n0 L ∧ h = h0
set_option maxRecDepth 65536 in
set_option maxHeartbeats 40000000 in
theorem rm17 (l : Launch) (Z : State) (a0 : Array Value) (hw : ∀ d ∈ tables_1, d.before a0 Z = true) (ws : List Jvm.Cond)  (h0 : Heap) (n0 : Nat) (Z0 : n0 ≤ h0.size) :
    MetFree l (⟨"java/lang/Math", "max", "(II)I"⟩ : MethodName) (head1 (Jvm.Cond.code (⟨"java/lang/Math", "max", "(II)I"⟩ : MethodName) jdk_29_method_65_code 2 (some .int) :: ws) ({ frames := 0, cells := 0, slots := 0, locals := 0 } : Room)) (fun a U => a = #[(.int (10 : Int32)), (.int (1 : Int32))] ∧ Z.Warmed39 U.vm ∧ U.heap = h0) (fun _ _ _ _ _ => True) (fun _ U o U' => ∃ v L, o = .returned v ∧ Q17 Z  h0 n0 v U'.heap L ∧ FrameEnd U o U' L ({ frames := 0, cells := 0, slots := 0, locals := 0 } : Room).cells ({ frames := 0, cells := 0, slots := 0, locals := 0 } : Room).slots) := by
  refine MetFree.of_bodySF (Jvm.Free.JP.mathPlain rfl (by decide +kernel)) hisR ?_
  intro p e s m args below meth c s₁ Bd hml0 hP hK
  obtain ⟨rfl, hZ, hh⟩ := hP
  have hx := Bd.exec
  have hby := Bd.bytes
  have hml : c.maxLocals = 2 := hml0
  have hown : s.vm.findClass "java/lang/Math" = some m.cls := findClass_of_methodNamed Bd.named
  have hnm := (name_of_methodNamed Bd.named Bd.method).1
  have X0 : Stand p l e ({ frames := 0, cells := 0, slots := 0, locals := 0 } : Room) s m #[(.int (10 : Int32)), (.int (1 : Int32))] below meth c s₁ [] 0 0 := Stand.of_body Bd
  have e0 : s₁.heap = h0 := by rw [← hh, Bd.state]; rfl
  have Nf0 := Fr.nil n0
  obtain ⟨Gl, hGl, kn0⟩ : ∃ Gl : State → Prop, (∀ t, Gl t → Steps p.tables e below (s₁.setTop (entryFrame m #[(.int (10 : Int32)), (.int (1 : Int32))] 2)) t) ∧ ∀ t, own_S p e below s₁ (mkF m 0 #[.val (.int (10 : Int32)), .val (.int (1 : Int32))] []) t → Gl t := ⟨fun t => Steps p.tables e below (s₁.setTop (entryFrame m #[(.int (10 : Int32)), (.int (1 : Int32))] 2)) t, fun _ k => k, fun t k => castTop (ef_rm17 m ) k⟩
  have kn1 : ∀ t, own_S p e below s₁ (mkF m 10 #[.val (.int (10 : Int32)), .val (.int (1 : Int32))] [(.int (10 : Int32))]) t → Gl t := fun t kt => kn0 t (by
    show own_S p e below s₁ (mkF m 0 #[.val (.int (10 : Int32)), .val (.int (1 : Int32))] []) _
    refine XS.iloadN X0.here hx rfl (hb hby d_jdk_29_method_65_0) rfl ?_
    show own_S p e below s₁ (mkF m 1 #[.val (.int (10 : Int32)), .val (.int (1 : Int32))] [(.int (10 : Int32))]) _
    refine XS.iloadN X0.here hx rfl (hb hby d_jdk_29_method_65_1) rfl ?_
    show own_S p e below s₁ (mkF m 2 #[.val (.int (10 : Int32)), .val (.int (1 : Int32))] [(.int (1 : Int32)), (.int (10 : Int32))]) _
    refine XS.icmpNo X0.here hx rfl (hb hby d_jdk_29_method_65_2) rfl (flt (by decide : ¬ ((10 : Int32) < (1 : Int32)))).1 ?_
    show own_S p e below s₁ (mkF m 5 #[.val (.int (10 : Int32)), .val (.int (1 : Int32))] []) _
    refine XS.iloadN X0.here hx rfl (hb hby d_jdk_29_method_65_5) rfl ?_
    show own_S p e below s₁ (mkF m 6 #[.val (.int (10 : Int32)), .val (.int (1 : Int32))] [(.int (10 : Int32))]) _
    refine XS.goto X0.here hx rfl (pc0 := 6) (pc' := 10) rfl (hb hby d_jdk_29_method_65_6) (by decide) (by decide) ?_
    exact kt)
  obtain ⟨fs, hr, hrun, hended, hW, hsame⟩ := X0.leave (v := some (.int (10 : Int32))) (fun h => by rw [Bd.returns] at h; cases h)
  refine ⟨_, _, hGl _ (kn1 _ (retI X0 hx Bd.returns (hb hby d_jdk_29_method_65_10) hr)), hrun, hended, _, _, rfl, ?_, ⟨_, rfl⟩, hW, hsame.mono (by decide) (by decide)⟩
  show Q17 Z  h0 n0 _ s₁.heap _
  rw [e0]
  exact ⟨rfl, Nf0, rfl⟩

theorem d_jdk_38_method_6_0 : decode jdk_38_method_6_code 0 = .ok (.aload_n 0, 1) := by decide +kernel
theorem d_jdk_38_method_6_1 : decode jdk_38_method_6_code 1 = .ok (.getfield 9, 3) := by decide +kernel
theorem d_jdk_38_method_6_4 : decode jdk_38_method_6_code 4 = .ok (.arraylength, 1) := by decide +kernel
theorem d_jdk_38_method_6_5 : decode jdk_38_method_6_code 5 = .ok (.istore_n 2, 1) := by decide +kernel
theorem d_jdk_38_method_6_6 : decode jdk_38_method_6_code 6 = .ok (.iload_n 2, 1) := by decide +kernel
theorem d_jdk_38_method_6_7 : decode jdk_38_method_6_code 7 = .ok (.ifCond .gt 13, 3) := by decide +kernel
theorem d_jdk_38_method_6_10 : decode jdk_38_method_6_code 10 = .ok (.aload_n 0, 1) := by decide +kernel
theorem d_jdk_38_method_6_11 : decode jdk_38_method_6_code 11 = .ok (.getfield 9, 3) := by decide +kernel
theorem d_jdk_38_method_6_14 : decode jdk_38_method_6_code 14 = .ok (.getstatic 39, 3) := by decide +kernel
theorem d_jdk_38_method_6_17 : decode jdk_38_method_6_code 17 = .ok (.if_acmp .eq 28, 3) := by decide +kernel
theorem d_jdk_38_method_6_45 : decode jdk_38_method_6_code 45 = .ok (.aload_n 0, 1) := by decide +kernel
theorem d_jdk_38_method_6_46 : decode jdk_38_method_6_code 46 = .ok (.bipush 10, 2) := by decide +kernel
theorem d_jdk_38_method_6_48 : decode jdk_38_method_6_code 48 = .ok (.iload_n 1, 1) := by decide +kernel
theorem d_jdk_38_method_6_49 : decode jdk_38_method_6_code 49 = .ok (.invokestatic 79, 3) := by decide +kernel
theorem d_jdk_38_method_6_52 : decode jdk_38_method_6_code 52 = .ok (.anewarray 7, 3) := by decide +kernel
theorem d_jdk_38_method_6_55 : decode jdk_38_method_6_code 55 = .ok (.dup_x1, 1) := by decide +kernel
theorem d_jdk_38_method_6_56 : decode jdk_38_method_6_code 56 = .ok (.putfield 9, 3) := by decide +kernel
theorem d_jdk_38_method_6_59 : decode jdk_38_method_6_code 59 = .ok (.areturn, 1) := by decide +kernel
theorem pd_6 : parseMethodDescriptor "(II)I" = some ⟨[.int, .int], some .int⟩ := by decide +kernel
theorem ef_rm16 (m : MethodId) (x0 : Addr) : entryFrame m #[(.ref x0), (.int (1 : Int32))] 4 = mkF m 0 #[.val (.ref x0), .val (.int (1 : Int32)), .unset, .unset] [] := by first | (simp [entryFrame, mkF, argsToLocals, Value.category]; done) | rfl
def Q16 (Z : State) (a1 : Addr) (gD : Addr) (kD : ClassId) (h0 : Heap) (n0 : Nat) (v : Option Value) (h : Heap) (L : List Loc) : Prop := ∃ (b : Addr) (kk : ClassId), v = some (.ref b) ∧ Fr n0 L ∧ n0 ≤ b ∧ h0.size ≤ b ∧ Keep h0 h [a1] ∧ Arv Z h b kk (.object "java/lang/Object") (10 : Int32) [.null, .null, .null, .null, .null, .null, .null, .null, .null, .null] .null ∧ Ovr Z kk "java/lang/Object" ∧ Exa Z h a1 "java/util/ArrayList" ∧ Fld Z h a1 "java/util/AbstractList" "modCount" "I" (.int (1 : Int32)) ∧ Fld Z h a1 "java/util/ArrayList" "elementData" "[Ljava/lang/Object;" (.ref b) ∧ Fld Z h a1 "java/util/ArrayList" "size" "I" (.int (0 : Int32))
set_option maxRecDepth 65536 in
set_option maxHeartbeats 40000000 in
theorem rm16 (l : Launch) (Z : State) (a0 : Array Value) (hw : ∀ d ∈ tables_1, d.before a0 Z = true) (ws : List Jvm.Cond) (a1 : Addr) (gD : Addr) (kD : ClassId) (h0 : Heap) (n0 : Nat) (Z0 : n0 ≤ h0.size) (O0 : Old Z n0 h0) (E_a1 : Exa Z h0 a1 "java/util/ArrayList") (F_a1_modCount : Fld Z h0 a1 "java/util/AbstractList" "modCount" "I" (.int (1 : Int32))) (F_a1_elementData : Fld Z h0 a1 "java/util/ArrayList" "elementData" "[Ljava/lang/Object;" (.ref gD)) (F_a1_size : Fld Z h0 a1 "java/util/ArrayList" "size" "I" (.int (0 : Int32))) (g_a1 : n0 ≤ a1) (S_D : Sta Z Z.heap "java/util/ArrayList" "DEFAULTCAPACITY_EMPTY_ELEMENTDATA" "[Ljava/lang/Object;" (.ref gD)) (A_D : Arv Z Z.heap gD kD (.object "java/lang/Object") (0 : Int32) [] .null) :
    MetFree l (⟨"java/util/ArrayList", "grow", "(I)[Ljava/lang/Object;"⟩ : MethodName) (head1 (Jvm.Cond.code (⟨"java/util/ArrayList", "grow", "(I)[Ljava/lang/Object;"⟩ : MethodName) jdk_38_method_6_code 4 (some (.array (.object "java/lang/Object"))) :: ws) ({ frames := 1, cells := 1, slots := 10, locals := 14 } : Room)) (fun a U => a = #[(.ref a1), (.int (1 : Int32))] ∧ Z.Warmed39 U.vm ∧ U.heap = h0) (fun _ _ _ _ _ => True) (fun _ U o U' => ∃ v L, o = .returned v ∧ Q16 Z a1 gD kD h0 n0 v U'.heap L ∧ FrameEnd U o U' L ({ frames := 1, cells := 1, slots := 10, locals := 14 } : Room).cells ({ frames := 1, cells := 1, slots := 10, locals := 14 } : Room).slots) := by
  refine MetFree.of_bodySF (plainFor_of_name pn_4) hisR ?_
  intro p e s m args below meth c s₁ Bd hml0 hP hK
  obtain ⟨rfl, hZ, hh⟩ := hP
  have hx := Bd.exec
  have hby := Bd.bytes
  have hml : c.maxLocals = 4 := hml0
  have hown : s.vm.findClass "java/util/ArrayList" = some m.cls := findClass_of_methodNamed Bd.named
  have hnm := (name_of_methodNamed Bd.named Bd.method).1
  have X0 : Stand p l e ({ frames := 1, cells := 1, slots := 10, locals := 14 } : Room) s m #[(.ref a1), (.int (1 : Int32))] below meth c s₁ [] 0 0 := Stand.of_body Bd
  have e0 : s₁.heap = h0 := by rw [← hh, Bd.state]; rfl
  have Nf0 := Fr.nil n0
  obtain ⟨Gl, hGl, kn0⟩ : ∃ Gl : State → Prop, (∀ t, Gl t → Steps p.tables e below (s₁.setTop (entryFrame m #[(.ref a1), (.int (1 : Int32))] 4)) t) ∧ ∀ t, own_S p e below s₁ (mkF m 0 #[.val (.ref a1), .val (.int (1 : Int32)), .unset, .unset] []) t → Gl t := ⟨fun t => Steps p.tables e below (s₁.setTop (entryFrame m #[(.ref a1), (.int (1 : Int32))] 4)) t, fun _ k => k, fun t k => castTop (ef_rm16 m a1) k⟩
  have kn1 : ∀ t, own_S p e below s₁ (mkF m 1 #[.val (.ref a1), .val (.int (1 : Int32)), .unset, .unset] [(.ref a1)]) t → Gl t := fun t kt => kn0 t (by
    show own_S p e below s₁ (mkF m 0 #[.val (.ref a1), .val (.int (1 : Int32)), .unset, .unset] []) _
    refine XS.aloadN X0.here hx rfl (hb hby d_jdk_38_method_6_0) rfl rfl ?_
    exact kt)
  obtain ⟨T2, X2, e2, st2⟩ := getF X0 hx hZ hown (host := "") (Or.inl (hw _ (List.mem_of_getElem? (i := 49) rfl))) Via.refl e0 F_a1_elementData (g := (mkF m 1 #[.val (.ref a1), .val (.int (1 : Int32)), .unset, .unset] [(.ref a1)])) rfl rfl (hb hby d_jdk_38_method_6_1)
  have kn3 : ∀ t, own_S p e below T2 (mkF m 4 #[.val (.ref a1), .val (.int (1 : Int32)), .unset, .unset] [(.ref gD)]) t → Gl t := fun t kt => kn1 t (st2 _ kt)
  obtain ⟨cl4, Ar4, -, Sz4, Ng4, -, -⟩ := id (A_D.ext O0.2)
  have kn5 : ∀ t, own_S p e below T2 (mkF m 11 #[.val (.ref a1), .val (.int (1 : Int32)), .val (.int (0 : Int32)), .unset] [(.ref a1)]) t → Gl t := fun t kt => kn3 t (by
    show own_S p e below T2 (mkF m 4 #[.val (.ref a1), .val (.int (1 : Int32)), .unset, .unset] [(.ref gD)]) _
    refine X2.arraylength hx (by rw [e2]; exact Ar4.1) (State.isArrayOf_alike hZ.alike Ar4.2.1) (g := (mkF m 4 #[.val (.ref a1), .val (.int (1 : Int32)), .unset, .unset] [(.ref gD)])) rfl rfl (hb hby d_jdk_38_method_6_4) _ ?_
    rw [len_of Sz4 Ng4]
    show own_S p e below T2 (mkF m 5 #[.val (.ref a1), .val (.int (1 : Int32)), .unset, .unset] [(.int (0 : Int32))]) _
    refine XS.istoreN X2.here hx rfl (hb hby d_jdk_38_method_6_5) rfl (l' := #[.val (.ref a1), .val (.int (1 : Int32)), .val (.int (0 : Int32)), .unset]) rfl ?_
    show own_S p e below T2 (mkF m 6 #[.val (.ref a1), .val (.int (1 : Int32)), .val (.int (0 : Int32)), .unset] []) _
    refine XS.iloadN X2.here hx rfl (hb hby d_jdk_38_method_6_6) rfl ?_
    show own_S p e below T2 (mkF m 7 #[.val (.ref a1), .val (.int (1 : Int32)), .val (.int (0 : Int32)), .unset] [(.int (0 : Int32))]) _
    refine XS.ifNo X2.here hx rfl (hb hby d_jdk_38_method_6_7) rfl ((if0 _ _).trans (flt (by decide : ¬ ((0 : Int32) < (0 : Int32)))).2.2.1) ?_
    show own_S p e below T2 (mkF m 10 #[.val (.ref a1), .val (.int (1 : Int32)), .val (.int (0 : Int32)), .unset] []) _
    refine XS.aloadN X2.here hx rfl (hb hby d_jdk_38_method_6_10) rfl rfl ?_
    exact kt)
  obtain ⟨T6, X6, e6, st6⟩ := getF X2 hx hZ hown (host := "") (Or.inl (hw _ (List.mem_of_getElem? (i := 49) rfl))) Via.refl e2 F_a1_elementData (g := (mkF m 11 #[.val (.ref a1), .val (.int (1 : Int32)), .val (.int (0 : Int32)), .unset] [(.ref a1)])) rfl rfl (hb hby d_jdk_38_method_6_11)
  have kn7 : ∀ t, own_S p e below T6 (mkF m 14 #[.val (.ref a1), .val (.int (1 : Int32)), .val (.int (0 : Int32)), .unset] [(.ref gD)]) t → Gl t := fun t kt => kn5 t (st6 _ kt)
  obtain ⟨T8, X8, e8, st8⟩ := getS2 X6 hx hZ hown (host := "") (Or.inl (hw _ (List.mem_of_getElem? (i := 48) rfl))) Via.refl e6 (S_D.ext O0.2) (g := (mkF m 14 #[.val (.ref a1), .val (.int (1 : Int32)), .val (.int (0 : Int32)), .unset] [(.ref gD)])) rfl (hb hby d_jdk_38_method_6_14)
  have kn9 : ∀ t, own_S p e below T8 (mkF m 17 #[.val (.ref a1), .val (.int (1 : Int32)), .val (.int (0 : Int32)), .unset] [(.ref gD), (.ref gD)]) t → Gl t := fun t kt => kn7 t (st8 _ kt)
  have kn10 : ∀ t, own_S p e below T8 (mkF m 49 #[.val (.ref a1), .val (.int (1 : Int32)), .val (.int (0 : Int32)), .unset] [(.int (1 : Int32)), (.int (10 : Int32)), (.ref a1)]) t → Gl t := fun t kt => kn9 t (by
    show own_S p e below T8 (mkF m 17 #[.val (.ref a1), .val (.int (1 : Int32)), .val (.int (0 : Int32)), .unset] [(.ref gD), (.ref gD)]) _
    refine Jvm.RoadKit.acmp (g := (mkF m 17 #[.val (.ref a1), .val (.int (1 : Int32)), .val (.int (0 : Int32)), .unset] [(.ref gD), (.ref gD)])) X8 hx rfl rfl rfl (pc0 := 17) (pc' := 45) (same := true) rfl (hb hby d_jdk_38_method_6_17) rfl (decide_eq_true rfl) (by decide) (by decide) ?_
    show own_S p e below T8 (mkF m 45 #[.val (.ref a1), .val (.int (1 : Int32)), .val (.int (0 : Int32)), .unset] []) _
    refine XS.aloadN X8.here hx rfl (hb hby d_jdk_38_method_6_45) rfl rfl ?_
    show own_S p e below T8 (mkF m 46 #[.val (.ref a1), .val (.int (1 : Int32)), .val (.int (0 : Int32)), .unset] [(.ref a1)]) _
    refine XS.bipush X8.here hx rfl (hb hby d_jdk_38_method_6_46) ?_
    show own_S p e below T8 (mkF m 48 #[.val (.ref a1), .val (.int (1 : Int32)), .val (.int (0 : Int32)), .unset] [(.int (10 : Int32)), (.ref a1)]) _
    refine XS.iloadN X8.here hx rfl (hb hby d_jdk_38_method_6_48) rfl ?_
    exact kt)
  obtain ⟨_, _, ⟨T11, L11, cc11, ss11⟩, -, X11, ⟨Lc11, hQ11, l11, y11, z11⟩, st11⟩ := Jvm.LawKit.callS X8 hx (y := (⟨"java/lang/Math", "max", "(II)I"⟩ : MethodName)) hown (mvT hZ (hw _ (List.mem_of_getElem? (i := 121) rfl))) (mvT hZ (hw _ (List.mem_of_getElem? (i := 122) rfl))) (mvT hZ (hw _ (List.mem_of_getElem? (i := 123) rfl))) (mvT hZ (hw _ (List.mem_of_getElem? (i := 124) rfl))) (by decide) (backOf (W := 1) (rm17 l Z a0 hw []   h0 n0 Z0 ) hZ (hw _ (List.mem_of_getElem? (i := 124) rfl)) (hw _ (List.mem_of_getElem? (i := 123) rfl)) (by decide) (by decide)) (g := (mkF m 49 #[.val (.ref a1), .val (.int (1 : Int32)), .val (.int (0 : Int32)), .unset] [(.int (1 : Int32)), (.int (10 : Int32)), (.ref a1)])) rfl (by rw [hml]; rfl) (argsL := [(.int (10 : Int32)), (.int (1 : Int32))]) (rest := [(.ref a1)]) (lenOf pd_6 rfl) rfl (by show 2 * 0 + _ ≤ _; exact Nat.le_of_eq rfl) (hb hby d_jdk_38_method_6_49) (fun _ _ => ⟨rfl, e8, (by decide : 0 + 0 ≤ _), (by decide : 0 + 0 ≤ _)⟩)
  dsimp only [Pt.U, Pt.locs, Pt.cells, Pt.slots] at X11 l11 y11 z11 st11 hQ11
  subst l11 y11 z11
  have X11 : Stand p l e _ _ m _ below meth c T11 _ 0 0 := X11
  obtain ⟨rfl, Nq11, eq11⟩ := hQ11
  have Nf11 := Fr.app Nf0 Nq11
  have kn12 : ∀ t, own_S p e below T11 (mkF m 52 #[.val (.ref a1), .val (.int (1 : Int32)), .val (.int (0 : Int32)), .unset] [(.int (10 : Int32)), (.ref a1)]) t → Gl t := fun t kt => kn10 t (st11 _ kt)
  obtain ⟨T13, h13, kk13, X13, e13, E13, A13, O13, st13⟩ := newR X11 hx hZ hown (hw _ (List.mem_of_getElem? (i := 125) rfl)) (hw _ (List.mem_of_getElem? (i := 126) rfl)) eq11 (g := (mkF m 52 #[.val (.ref a1), .val (.int (1 : Int32)), .val (.int (0 : Int32)), .unset] [(.int (10 : Int32)), (.ref a1)])) rfl (hb hby d_jdk_38_method_6_52) rfl (by decide) (cap := 10) (by decide) (by decide) (by decide) (by decide)
  obtain ⟨b13, g13⟩ : ∃ z, z = h0.size := ⟨_, rfl⟩
  rw [← g13] at A13 st13
  have sz_b13 : h0.size ≤ b13 := Nat.le_trans (Keep.refl h0 [a1]).1 (Nat.le_of_eq g13.symm)
  have g_b13 : n0 ≤ b13 := Nat.le_trans Z0 (Nat.le_of_eq g13.symm)
  have ne_a1_b13 : a1 ≠ b13 := Nat.ne_of_lt (Nat.lt_of_lt_of_le E_a1.lt (Nat.le_of_eq g13.symm))
  have Z14 : n0 ≤ h13.size := Nat.le_trans Z0 E13.1
  have Od15 : Old Z n0 h13 := O0.ext E13
  have K16 : Keep h0 h13 [a1] := (Keep.refl h0 [a1]).ext E13
  have V13 : Arv Z h13 b13 kk13 (.object "java/lang/Object") (10 : Int32) [.null, .null, .null, .null, .null, .null, .null, .null, .null, .null] .null := (Arv.new A13 (by decide)).pad (pad_rep [] .null 10)
  have kn17 : ∀ t, own_S p e below T13 (mkF m 55 #[.val (.ref a1), .val (.int (1 : Int32)), .val (.int (0 : Int32)), .unset] [(.ref b13), (.ref a1)]) t → Gl t := fun t kt => kn12 t (st13 _ kt)
  have kn18 : ∀ t, own_S p e below T13 (mkF m 56 #[.val (.ref a1), .val (.int (1 : Int32)), .val (.int (0 : Int32)), .unset] [(.ref b13), (.ref a1), (.ref b13)]) t → Gl t := fun t kt => kn17 t (by
    show own_S p e below T13 (mkF m 55 #[.val (.ref a1), .val (.int (1 : Int32)), .val (.int (0 : Int32)), .unset] [(.ref b13), (.ref a1)]) _
    refine XS.dupX1 X13.here hx rfl (hb hby d_jdk_38_method_6_55) rfl rfl rfl ?_
    exact kt)
  have f19 := (F_a1_elementData.ext E13)
  have f20 := (E_a1.ext E13)
  obtain ⟨T21, h21, X21, e21, W21, st21⟩ := putF X13 hx hZ hown (host := "") (Or.inl (hw _ (List.mem_of_getElem? (i := 49) rfl))) Via.refl e13 f19 f20 (Or.inl (hw _ (List.mem_of_getElem? (i := 50) rfl))) (hw _ (List.mem_of_getElem? (i := 28) rfl)) (ty := (.array (.object "java/lang/Object"))) (by decide) rfl rfl (g := (mkF m 56 #[.val (.ref a1), .val (.int (1 : Int32)), .val (.int (0 : Int32)), .unset] [(.ref b13), (.ref a1), (.ref b13)])) rfl rfl (hb hby d_jdk_38_method_6_56)
  have Z22 : n0 ≤ h21.size := Nat.le_trans Z14 (Keep.of_wr W21).1
  have Od23 : Old Z n0 h21 := Od15.wr W21 g_a1
  have K24 : Keep h0 h21 [a1] := K16.wr W21 (Or.inl (List.mem_of_getElem? (i := 0) rfl))
  have Fw21 := f19.same W21
  have Nf25 := Fr.snoc X21 Nf11 g_a1
  have kn26 : ∀ t, own_S p e below T21 (mkF m 59 #[.val (.ref a1), .val (.int (1 : Int32)), .val (.int (0 : Int32)), .unset] [(.ref b13)]) t → Gl t := fun t kt => kn18 t (st21 _ kt)
  obtain ⟨fs, hr, hrun, hended, hW, hsame⟩ := X21.leave (v := some (.ref b13)) (fun h => by rw [Bd.returns] at h; cases h)
  refine ⟨_, _, hGl _ (kn26 _ (by
      show own_S p e below T21 (mkF m 59 #[.val (.ref a1), .val (.int (1 : Int32)), .val (.int (0 : Int32)), .unset] [(.ref b13)]) _
      jvm_step X21.here [X21.here.top, hx, (hb hby d_jdk_38_method_6_59), X21.method', Bd.returns, Value.isRef, FieldType.isReference]
      first | (intro acts; rw [hr _ acts rfl rfl rfl]) | rw [hr _ _ rfl rfl rfl]
      exact Steps.refl _)), hrun, hended, _, _, rfl, ?_, ⟨_, rfl⟩, hW, hsame.mono (by decide) (by decide)⟩
  show Q16 Z a1 gD kD h0 n0 _ T21.heap _
  rw [e21]
  have f27 := (V13.other W21 (Ne.symm ne_a1_b13))
  have f28 := (f20.wr W21)
  have f29 := ((F_a1_modCount.ext E13).other W21 (Or.inr (slot_ne (Or.inl (hw _ (List.mem_of_getElem? (i := 47) rfl))) (Or.inl (hw _ (List.mem_of_getElem? (i := 50) rfl))) (by decide) (t := .int) (t' := (.array (.object "java/lang/Object"))) (by decide) (by decide))))
  have f30 := ((F_a1_size.ext E13).other W21 (Or.inr (slot_ne (Or.inl (hw _ (List.mem_of_getElem? (i := 105) rfl))) (Or.inl (hw _ (List.mem_of_getElem? (i := 50) rfl))) (by decide) (t := .int) (t' := (.array (.object "java/lang/Object"))) (by decide) (by decide))))
  exact ⟨b13, _, rfl, Nf25, g_b13, sz_b13, K24, f27, O13, f28, f29, Fw21, f30⟩

theorem d_jdk_38_method_7_0 : decode jdk_38_method_7_code 0 = .ok (.aload_n 0, 1) := by decide +kernel
theorem d_jdk_38_method_7_1 : decode jdk_38_method_7_code 1 = .ok (.aload_n 0, 1) := by decide +kernel
theorem d_jdk_38_method_7_2 : decode jdk_38_method_7_code 2 = .ok (.getfield 48, 3) := by decide +kernel
theorem d_jdk_38_method_7_5 : decode jdk_38_method_7_code 5 = .ok (.iconst 1, 1) := by decide +kernel
theorem d_jdk_38_method_7_6 : decode jdk_38_method_7_code 6 = .ok (.iadd, 1) := by decide +kernel
theorem d_jdk_38_method_7_7 : decode jdk_38_method_7_code 7 = .ok (.invokevirtual 69, 3) := by decide +kernel
theorem d_jdk_38_method_7_10 : decode jdk_38_method_7_code 10 = .ok (.areturn, 1) := by decide +kernel
theorem pd_7 : parseMethodDescriptor "(I)[Ljava/lang/Object;" = some ⟨[.int], some (.array (.object "java/lang/Object"))⟩ := by decide +kernel
theorem ef_rm15 (m : MethodId) (x0 : Addr) : entryFrame m #[(.ref x0)] 1 = mkF m 0 #[.val (.ref x0)] [] := by first | (simp [entryFrame, mkF, argsToLocals, Value.category]; done) | rfl
def Q15 (Z : State) (a1 : Addr) (gD : Addr) (kD : ClassId) (h0 : Heap) (n0 : Nat) (v : Option Value) (h : Heap) (L : List Loc) : Prop := ∃ (b : Addr) (kk : ClassId), v = some (.ref b) ∧ Fr n0 L ∧ n0 ≤ b ∧ h0.size ≤ b ∧ Keep h0 h [a1] ∧ Arv Z h b kk (.object "java/lang/Object") (10 : Int32) [.null, .null, .null, .null, .null, .null, .null, .null, .null, .null] .null ∧ Ovr Z kk "java/lang/Object" ∧ Exa Z h a1 "java/util/ArrayList" ∧ Fld Z h a1 "java/util/AbstractList" "modCount" "I" (.int (1 : Int32)) ∧ Fld Z h a1 "java/util/ArrayList" "elementData" "[Ljava/lang/Object;" (.ref b) ∧ Fld Z h a1 "java/util/ArrayList" "size" "I" (.int (0 : Int32))
set_option maxRecDepth 65536 in
set_option maxHeartbeats 40000000 in
theorem rm15 (l : Launch) (Z : State) (a0 : Array Value) (hw : ∀ d ∈ tables_1, d.before a0 Z = true) (ws : List Jvm.Cond) (a1 : Addr) (gD : Addr) (kD : ClassId) (h0 : Heap) (n0 : Nat) (Z0 : n0 ≤ h0.size) (O0 : Old Z n0 h0) (E_a1 : Exa Z h0 a1 "java/util/ArrayList") (F_a1_modCount : Fld Z h0 a1 "java/util/AbstractList" "modCount" "I" (.int (1 : Int32))) (F_a1_elementData : Fld Z h0 a1 "java/util/ArrayList" "elementData" "[Ljava/lang/Object;" (.ref gD)) (F_a1_size : Fld Z h0 a1 "java/util/ArrayList" "size" "I" (.int (0 : Int32))) (g_a1 : n0 ≤ a1) (S_D : Sta Z Z.heap "java/util/ArrayList" "DEFAULTCAPACITY_EMPTY_ELEMENTDATA" "[Ljava/lang/Object;" (.ref gD)) (A_D : Arv Z Z.heap gD kD (.object "java/lang/Object") (0 : Int32) [] .null) :
    MetFree l (⟨"java/util/ArrayList", "grow", "()[Ljava/lang/Object;"⟩ : MethodName) (head1 (Jvm.Cond.code (⟨"java/util/ArrayList", "grow", "()[Ljava/lang/Object;"⟩ : MethodName) jdk_38_method_7_code 1 (some (.array (.object "java/lang/Object"))) :: ws) ({ frames := 2, cells := 1, slots := 10, locals := 29 } : Room)) (fun a U => a = #[(.ref a1)] ∧ Z.Warmed39 U.vm ∧ U.heap = h0) (fun _ _ _ _ _ => True) (fun _ U o U' => ∃ v L, o = .returned v ∧ Q15 Z a1 gD kD h0 n0 v U'.heap L ∧ FrameEnd U o U' L ({ frames := 2, cells := 1, slots := 10, locals := 29 } : Room).cells ({ frames := 2, cells := 1, slots := 10, locals := 29 } : Room).slots) := by
  refine MetFree.of_bodySF (plainFor_of_name pn_4) hisR ?_
  intro p e s m args below meth c s₁ Bd hml0 hP hK
  obtain ⟨rfl, hZ, hh⟩ := hP
  have hx := Bd.exec
  have hby := Bd.bytes
  have hml : c.maxLocals = 1 := hml0
  have hown : s.vm.findClass "java/util/ArrayList" = some m.cls := findClass_of_methodNamed Bd.named
  have hnm := (name_of_methodNamed Bd.named Bd.method).1
  have X0 : Stand p l e ({ frames := 2, cells := 1, slots := 10, locals := 29 } : Room) s m #[(.ref a1)] below meth c s₁ [] 0 0 := Stand.of_body Bd
  have e0 : s₁.heap = h0 := by rw [← hh, Bd.state]; rfl
  have Nf0 := Fr.nil n0
  obtain ⟨Gl, hGl, kn0⟩ : ∃ Gl : State → Prop, (∀ t, Gl t → Steps p.tables e below (s₁.setTop (entryFrame m #[(.ref a1)] 1)) t) ∧ ∀ t, own_S p e below s₁ (mkF m 0 #[.val (.ref a1)] []) t → Gl t := ⟨fun t => Steps p.tables e below (s₁.setTop (entryFrame m #[(.ref a1)] 1)) t, fun _ k => k, fun t k => castTop (ef_rm15 m a1) k⟩
  have kn1 : ∀ t, own_S p e below s₁ (mkF m 2 #[.val (.ref a1)] [(.ref a1), (.ref a1)]) t → Gl t := fun t kt => kn0 t (by
    show own_S p e below s₁ (mkF m 0 #[.val (.ref a1)] []) _
    refine XS.aloadN X0.here hx rfl (hb hby d_jdk_38_method_7_0) rfl rfl ?_
    show own_S p e below s₁ (mkF m 1 #[.val (.ref a1)] [(.ref a1)]) _
    refine XS.aloadN X0.here hx rfl (hb hby d_jdk_38_method_7_1) rfl rfl ?_
    exact kt)
  obtain ⟨T2, X2, e2, st2⟩ := getF X0 hx hZ hown (host := "") (Or.inl (hw _ (List.mem_of_getElem? (i := 104) rfl))) Via.refl e0 F_a1_size (g := (mkF m 2 #[.val (.ref a1)] [(.ref a1), (.ref a1)])) rfl rfl (hb hby d_jdk_38_method_7_2)
  have kn3 : ∀ t, own_S p e below T2 (mkF m 5 #[.val (.ref a1)] [(.int (0 : Int32)), (.ref a1)]) t → Gl t := fun t kt => kn1 t (st2 _ kt)
  have kn4 : ∀ t, own_S p e below T2 (mkF m 7 #[.val (.ref a1)] [(.int (1 : Int32)), (.ref a1)]) t → Gl t := fun t kt => kn3 t (by
    show own_S p e below T2 (mkF m 5 #[.val (.ref a1)] [(.int (0 : Int32)), (.ref a1)]) _
    refine XS.iconst X2.here hx rfl (hb hby d_jdk_38_method_7_5) ?_
    show own_S p e below T2 (mkF m 6 #[.val (.ref a1)] [(.int (1 : Int32)), (.int (0 : Int32)), (.ref a1)]) _
    refine XS.iadd X2.here hx rfl (hb hby d_jdk_38_method_7_6) rfl ?_
    rw [(by decide : ((0 : Int32) + (1 : Int32)) = (1 : Int32))]
    exact kt)
  obtain ⟨cq5, qa5, qb5⟩ := E_a1.cell
  obtain ⟨_, _, ⟨T5, L5, cc5, ss5⟩, -, X5, ⟨Lc5, hQ5, l5, y5, z5⟩, st5⟩ := X2.privateBack hx (y := (⟨"java/util/ArrayList", "grow", "(I)[Ljava/lang/Object;"⟩ : MethodName)) hown (mvT hZ (hw _ (List.mem_of_getElem? (i := 116) rfl))) (mvT hZ (hw _ (List.mem_of_getElem? (i := 117) rfl))) (mvT hZ (hw _ (List.mem_of_getElem? (i := 119) rfl))) (Cond.privateMethod_at (mvP hZ (hw _ (List.mem_of_getElem? (i := 118) rfl)) (args := #[]))) (mvT hZ (hw _ (List.mem_of_getElem? (i := 120) rfl))) (by decide) (backOf (W := 0) (rm16 l Z a0 hw [] a1 gD kD h0 n0 Z0 O0 E_a1 F_a1_modCount F_a1_elementData F_a1_size g_a1 S_D A_D) hZ (hw _ (List.mem_of_getElem? (i := 120) rfl)) (hw _ (List.mem_of_getElem? (i := 29) rfl)) (by decide) (by decide)) (g := (mkF m 7 #[.val (.ref a1)] [(.int (1 : Int32)), (.ref a1)])) rfl (by rw [hml]; rfl) (Steps.refl _) (a := a1) (by rw [e2]; exact qa5) qb5 (argsL := [(.int (1 : Int32))]) (rest := []) (lenOf pd_7 rfl) rfl (by show 2 * 0 + _ ≤ _; exact Nat.le_of_eq rfl) (hb hby d_jdk_38_method_7_7) (fun _ _ => ⟨rfl, e2, (by decide : 0 + 1 ≤ _), (by decide : 0 + 10 ≤ _)⟩)
  dsimp only [Pt.U, Pt.locs, Pt.cells, Pt.slots] at X5 l5 y5 z5 st5 hQ5
  subst l5 y5 z5
  have X5 : Stand p l e _ _ m _ below meth c T5 _ 1 10 := X5
  obtain ⟨b5, kk5, rfl, Nq5, g_b5, sb5, K5, V5, Ov5, Ex5_a, Fx5_a_0, Fx5_a_1, Fx5_a_2⟩ := hQ5
  have Nf5 := Fr.app Nf0 Nq5
  have ne_a1_b5 : a1 ≠ b5 := Nat.ne_of_lt (Nat.lt_of_lt_of_le E_a1.lt sb5)
  have sz_b5 : h0.size ≤ b5 := sb5
  have Z6 : n0 ≤ T5.heap.size := Nat.le_trans Z0 K5.1
  have Od7 : Old Z n0 T5.heap := O0.keep K5 (allS g_a1 all0)
  have K8 : Keep h0 T5.heap [a1] := (Keep.refl h0 [a1]).trans K5 (allS (Or.inl (List.mem_of_getElem? (i := 0) rfl)) all0)
  have kn9 : ∀ t, own_S p e below T5 (mkF m 10 #[.val (.ref a1)] [(.ref b5)]) t → Gl t := fun t kt => kn4 t (st5.trans kt)
  obtain ⟨fs, hr, hrun, hended, hW, hsame⟩ := X5.leave (v := some (.ref b5)) (fun h => by rw [Bd.returns] at h; cases h)
  refine ⟨_, _, hGl _ (kn9 _ (by
      show own_S p e below T5 (mkF m 10 #[.val (.ref a1)] [(.ref b5)]) _
      jvm_step X5.here [X5.here.top, hx, (hb hby d_jdk_38_method_7_10), X5.method', Bd.returns, Value.isRef, FieldType.isReference]
      first | (intro acts; rw [hr _ acts rfl rfl rfl]) | rw [hr _ _ rfl rfl rfl]
      exact Steps.refl _)), hrun, hended, _, _, rfl, ?_, ⟨_, rfl⟩, hW, hsame.mono (by decide) (by decide)⟩
  show Q15 Z a1 gD kD h0 n0 _ T5.heap _
  exact ⟨b5, _, rfl, Nf5, g_b5, sz_b5, K8, V5, Ov5, Ex5_a, Fx5_a_0, Fx5_a_1, Fx5_a_2⟩

theorem d_jdk_38_method_24_0 : decode jdk_38_method_24_code 0 = .ok (.iload_n 3, 1) := by decide +kernel
theorem d_jdk_38_method_24_1 : decode jdk_38_method_24_code 1 = .ok (.aload_n 2, 1) := by decide +kernel
theorem d_jdk_38_method_24_2 : decode jdk_38_method_24_code 2 = .ok (.arraylength, 1) := by decide +kernel
theorem d_jdk_38_method_24_3 : decode jdk_38_method_24_code 3 = .ok (.if_icmp .ne 8, 3) := by decide +kernel
theorem d_jdk_38_method_24_6 : decode jdk_38_method_24_code 6 = .ok (.aload_n 0, 1) := by decide +kernel
theorem d_jdk_38_method_24_7 : decode jdk_38_method_24_code 7 = .ok (.invokevirtual 129, 3) := by decide +kernel
theorem d_jdk_38_method_24_10 : decode jdk_38_method_24_code 10 = .ok (.astore_n 2, 1) := by decide +kernel
theorem d_jdk_38_method_24_11 : decode jdk_38_method_24_code 11 = .ok (.aload_n 2, 1) := by decide +kernel
theorem d_jdk_38_method_24_12 : decode jdk_38_method_24_code 12 = .ok (.iload_n 3, 1) := by decide +kernel
theorem d_jdk_38_method_24_13 : decode jdk_38_method_24_code 13 = .ok (.aload_n 1, 1) := by decide +kernel
theorem d_jdk_38_method_24_14 : decode jdk_38_method_24_code 14 = .ok (.aastore, 1) := by decide +kernel
theorem d_jdk_38_method_24_15 : decode jdk_38_method_24_code 15 = .ok (.aload_n 0, 1) := by decide +kernel
theorem d_jdk_38_method_24_16 : decode jdk_38_method_24_code 16 = .ok (.iload_n 3, 1) := by decide +kernel
theorem d_jdk_38_method_24_17 : decode jdk_38_method_24_code 17 = .ok (.iconst 1, 1) := by decide +kernel
theorem d_jdk_38_method_24_18 : decode jdk_38_method_24_code 18 = .ok (.iadd, 1) := by decide +kernel
theorem d_jdk_38_method_24_19 : decode jdk_38_method_24_code 19 = .ok (.putfield 48, 3) := by decide +kernel
theorem d_jdk_38_method_24_22 : decode jdk_38_method_24_code 22 = .ok (.return_, 1) := by decide +kernel
theorem pd_8 : parseMethodDescriptor "()[Ljava/lang/Object;" = some ⟨[], some (.array (.object "java/lang/Object"))⟩ := by decide +kernel
theorem ef_rm14 (m : MethodId) (x0 : Addr) (x1 : Addr) (x2 : Addr) : entryFrame m #[(.ref x0), (.ref x1), (.ref x2), (.int (0 : Int32))] 4 = mkF m 0 #[.val (.ref x0), .val (.ref x1), .val (.ref x2), .val (.int (0 : Int32))] [] := by first | (simp [entryFrame, mkF, argsToLocals, Value.category]; done) | rfl
def Q14 (Z : State) (a1 : Addr) (ea : Addr) (gD : Addr) (kD : ClassId) (h0 : Heap) (n0 : Nat) (v : Option Value) (h : Heap) (L : List Loc) : Prop := ∃ (b : Addr) (kk : ClassId), v = none ∧ Fr n0 L ∧ n0 ≤ b ∧ h0.size ≤ b ∧ Keep h0 h [a1] ∧ Arv Z h b kk (.object "java/lang/Object") (10 : Int32) [(.ref ea), .null, .null, .null, .null, .null, .null, .null, .null, .null] .null ∧ Ovr Z kk "java/lang/Object" ∧ Exa Z h a1 "java/util/ArrayList" ∧ Fld Z h a1 "java/util/AbstractList" "modCount" "I" (.int (1 : Int32)) ∧ Fld Z h a1 "java/util/ArrayList" "elementData" "[Ljava/lang/Object;" (.ref b) ∧ Fld Z h a1 "java/util/ArrayList" "size" "I" (.int (1 : Int32))
set_option maxRecDepth 65536 in
set_option maxHeartbeats 40000000 in
theorem rm14 (l : Launch) (Z : State) (a0 : Array Value) (hw : ∀ d ∈ tables_1, d.before a0 Z = true) (ws : List Jvm.Cond) (a1 : Addr) (ea : Addr) (gD : Addr) (kD : ClassId) (h0 : Heap) (n0 : Nat) (Z0 : n0 ≤ h0.size) (O0 : Old Z n0 h0) (E_a1 : Exa Z h0 a1 "java/util/ArrayList") (F_a1_modCount : Fld Z h0 a1 "java/util/AbstractList" "modCount" "I" (.int (1 : Int32))) (F_a1_elementData : Fld Z h0 a1 "java/util/ArrayList" "elementData" "[Ljava/lang/Object;" (.ref gD)) (F_a1_size : Fld Z h0 a1 "java/util/ArrayList" "size" "I" (.int (0 : Int32))) (g_a1 : n0 ≤ a1) (I_ea : Ins Z h0 ea "java/lang/Object" true) (nea : @Ne Nat ea a1) (lte : ea < h0.size) (S_D : Sta Z Z.heap "java/util/ArrayList" "DEFAULTCAPACITY_EMPTY_ELEMENTDATA" "[Ljava/lang/Object;" (.ref gD)) (A_D : Arv Z Z.heap gD kD (.object "java/lang/Object") (0 : Int32) [] .null) :
    MetFree l (⟨"java/util/ArrayList", "add", "(Ljava/lang/Object;[Ljava/lang/Object;I)V"⟩ : MethodName) (head1 (Jvm.Cond.code (⟨"java/util/ArrayList", "add", "(Ljava/lang/Object;[Ljava/lang/Object;I)V"⟩ : MethodName) jdk_38_method_24_code 4 none :: ws) ({ frames := 3, cells := 1, slots := 10, locals := 41 } : Room)) (fun a U => a = #[(.ref a1), (.ref ea), (.ref gD), (.int (0 : Int32))] ∧ Z.Warmed39 U.vm ∧ U.heap = h0) (fun _ _ _ _ _ => True) (fun _ U o U' => ∃ v L, o = .returned v ∧ Q14 Z a1 ea gD kD h0 n0 v U'.heap L ∧ FrameEnd U o U' L ({ frames := 3, cells := 1, slots := 10, locals := 41 } : Room).cells ({ frames := 3, cells := 1, slots := 10, locals := 41 } : Room).slots) := by
  refine MetFree.of_bodySF (plainFor_of_name pn_4) hisR ?_
  intro p e s m args below meth c s₁ Bd hml0 hP hK
  obtain ⟨rfl, hZ, hh⟩ := hP
  have hx := Bd.exec
  have hby := Bd.bytes
  have hml : c.maxLocals = 4 := hml0
  have hown : s.vm.findClass "java/util/ArrayList" = some m.cls := findClass_of_methodNamed Bd.named
  have hnm := (name_of_methodNamed Bd.named Bd.method).1
  have X0 : Stand p l e ({ frames := 3, cells := 1, slots := 10, locals := 41 } : Room) s m #[(.ref a1), (.ref ea), (.ref gD), (.int (0 : Int32))] below meth c s₁ [] 0 0 := Stand.of_body Bd
  have e0 : s₁.heap = h0 := by rw [← hh, Bd.state]; rfl
  have Nf0 := Fr.nil n0
  obtain ⟨Gl, hGl, kn0⟩ : ∃ Gl : State → Prop, (∀ t, Gl t → Steps p.tables e below (s₁.setTop (entryFrame m #[(.ref a1), (.ref ea), (.ref gD), (.int (0 : Int32))] 4)) t) ∧ ∀ t, own_S p e below s₁ (mkF m 0 #[.val (.ref a1), .val (.ref ea), .val (.ref gD), .val (.int (0 : Int32))] []) t → Gl t := ⟨fun t => Steps p.tables e below (s₁.setTop (entryFrame m #[(.ref a1), (.ref ea), (.ref gD), (.int (0 : Int32))] 4)) t, fun _ k => k, fun t k => castTop (ef_rm14 m a1 ea gD) k⟩
  have kn1 : ∀ t, own_S p e below s₁ (mkF m 2 #[.val (.ref a1), .val (.ref ea), .val (.ref gD), .val (.int (0 : Int32))] [(.ref gD), (.int (0 : Int32))]) t → Gl t := fun t kt => kn0 t (by
    show own_S p e below s₁ (mkF m 0 #[.val (.ref a1), .val (.ref ea), .val (.ref gD), .val (.int (0 : Int32))] []) _
    refine XS.iloadN X0.here hx rfl (hb hby d_jdk_38_method_24_0) rfl ?_
    show own_S p e below s₁ (mkF m 1 #[.val (.ref a1), .val (.ref ea), .val (.ref gD), .val (.int (0 : Int32))] [(.int (0 : Int32))]) _
    refine XS.aloadN X0.here hx rfl (hb hby d_jdk_38_method_24_1) rfl rfl ?_
    exact kt)
  obtain ⟨cl2, Ar2, -, Sz2, Ng2, -, -⟩ := id (A_D.ext O0.2)
  have kn3 : ∀ t, own_S p e below s₁ (mkF m 7 #[.val (.ref a1), .val (.ref ea), .val (.ref gD), .val (.int (0 : Int32))] [(.ref a1)]) t → Gl t := fun t kt => kn1 t (by
    show own_S p e below s₁ (mkF m 2 #[.val (.ref a1), .val (.ref ea), .val (.ref gD), .val (.int (0 : Int32))] [(.ref gD), (.int (0 : Int32))]) _
    refine X0.arraylength hx (by rw [e0]; exact Ar2.1) (State.isArrayOf_alike hZ.alike Ar2.2.1) (g := (mkF m 2 #[.val (.ref a1), .val (.ref ea), .val (.ref gD), .val (.int (0 : Int32))] [(.ref gD), (.int (0 : Int32))])) rfl rfl (hb hby d_jdk_38_method_24_2) _ ?_
    rw [len_of Sz2 Ng2]
    show own_S p e below s₁ (mkF m 3 #[.val (.ref a1), .val (.ref ea), .val (.ref gD), .val (.int (0 : Int32))] [(.int (0 : Int32)), (.int (0 : Int32))]) _
    refine XS.icmpNo X0.here hx rfl (hb hby d_jdk_38_method_24_3) rfl (teq (by decide : (0 : Int32) = (0 : Int32))).2 ?_
    show own_S p e below s₁ (mkF m 6 #[.val (.ref a1), .val (.ref ea), .val (.ref gD), .val (.int (0 : Int32))] []) _
    refine XS.aloadN X0.here hx rfl (hb hby d_jdk_38_method_24_6) rfl rfl ?_
    exact kt)
  obtain ⟨cq4, qa4, qb4⟩ := E_a1.cell
  obtain ⟨_, _, ⟨T4, L4, cc4, ss4⟩, -, X4, ⟨Lc4, hQ4, l4, y4, z4⟩, st4⟩ := X0.privateBack hx (y := (⟨"java/util/ArrayList", "grow", "()[Ljava/lang/Object;"⟩ : MethodName)) hown (mvT hZ (hw _ (List.mem_of_getElem? (i := 111) rfl))) (mvT hZ (hw _ (List.mem_of_getElem? (i := 112) rfl))) (mvT hZ (hw _ (List.mem_of_getElem? (i := 114) rfl))) (Cond.privateMethod_at (mvP hZ (hw _ (List.mem_of_getElem? (i := 113) rfl)) (args := #[]))) (mvT hZ (hw _ (List.mem_of_getElem? (i := 115) rfl))) (by decide) (backOf (W := 0) (rm15 l Z a0 hw [] a1 gD kD h0 n0 Z0 O0 E_a1 F_a1_modCount F_a1_elementData F_a1_size g_a1 S_D A_D) hZ (hw _ (List.mem_of_getElem? (i := 115) rfl)) (hw _ (List.mem_of_getElem? (i := 29) rfl)) (by decide) (by decide)) (g := (mkF m 7 #[.val (.ref a1), .val (.ref ea), .val (.ref gD), .val (.int (0 : Int32))] [(.ref a1)])) rfl (by rw [hml]; rfl) (Steps.refl _) (a := a1) (by rw [e0]; exact qa4) qb4 (argsL := []) (rest := []) (lenOf pd_8 rfl) rfl (by show 2 * 0 + _ ≤ _; exact Nat.le_of_eq rfl) (hb hby d_jdk_38_method_24_7) (fun _ _ => ⟨rfl, e0, (by decide : 0 + 1 ≤ _), (by decide : 0 + 10 ≤ _)⟩)
  dsimp only [Pt.U, Pt.locs, Pt.cells, Pt.slots] at X4 l4 y4 z4 st4 hQ4
  subst l4 y4 z4
  have X4 : Stand p l e _ _ m _ below meth c T4 _ 1 10 := X4
  obtain ⟨b4, kk4, rfl, Nq4, g_b4, sb4, K4, V4, Ov4, Ex4_a, Fx4_a_0, Fx4_a_1, Fx4_a_2⟩ := hQ4
  have Nf4 := Fr.app Nf0 Nq4
  have ne_ea_b4 : ea ≠ b4 := Nat.ne_of_lt (Nat.lt_of_lt_of_le lte sb4)
  have ne_a1_b4 : a1 ≠ b4 := Nat.ne_of_lt (Nat.lt_of_lt_of_le E_a1.lt sb4)
  have sz_b4 : h0.size ≤ b4 := sb4
  have Z5 : n0 ≤ T4.heap.size := Nat.le_trans Z0 K4.1
  have Od6 : Old Z n0 T4.heap := O0.keep K4 (allS g_a1 all0)
  have K7 : Keep h0 T4.heap [a1] := (Keep.refl h0 [a1]).trans K4 (allS (Or.inl (List.mem_of_getElem? (i := 0) rfl)) all0)
  have kn8 : ∀ t, own_S p e below T4 (mkF m 10 #[.val (.ref a1), .val (.ref ea), .val (.ref gD), .val (.int (0 : Int32))] [(.ref b4)]) t → Gl t := fun t kt => kn3 t (st4.trans kt)
  have kn9 : ∀ t, own_S p e below T4 (mkF m 14 #[.val (.ref a1), .val (.ref ea), .val (.ref b4), .val (.int (0 : Int32))] [(.ref ea), (.int (0 : Int32)), (.ref b4)]) t → Gl t := fun t kt => kn8 t (by
    show own_S p e below T4 (mkF m 10 #[.val (.ref a1), .val (.ref ea), .val (.ref gD), .val (.int (0 : Int32))] [(.ref b4)]) _
    refine XS.astoreN X4.here hx rfl (hb hby d_jdk_38_method_24_10) rfl rfl (l' := #[.val (.ref a1), .val (.ref ea), .val (.ref b4), .val (.int (0 : Int32))]) rfl ?_
    show own_S p e below T4 (mkF m 11 #[.val (.ref a1), .val (.ref ea), .val (.ref b4), .val (.int (0 : Int32))] []) _
    refine XS.aloadN X4.here hx rfl (hb hby d_jdk_38_method_24_11) rfl rfl ?_
    show own_S p e below T4 (mkF m 12 #[.val (.ref a1), .val (.ref ea), .val (.ref b4), .val (.int (0 : Int32))] [(.ref b4)]) _
    refine XS.iloadN X4.here hx rfl (hb hby d_jdk_38_method_24_12) rfl ?_
    show own_S p e below T4 (mkF m 13 #[.val (.ref a1), .val (.ref ea), .val (.ref b4), .val (.int (0 : Int32))] [(.int (0 : Int32)), (.ref b4)]) _
    refine XS.aloadN X4.here hx rfl (hb hby d_jdk_38_method_24_13) rfl rfl ?_
    exact kt)
  obtain ⟨cl10, Ar10, q10, Sz10, Ng10, Hs10, Gs10⟩ := id V4
  have hin10 : ¬ ((0 : Int32) < 0 ∨ cl10.slots.size ≤ ((0 : Int32)).toNatClampNeg) := inb_of Sz10 ⟨by decide, by decide⟩
  have f11 := (own_insK I_ea K4 (ninS nea nin0))
  obtain ⟨T10, h10, X10, e10, W10, st10⟩ := stR X4 hx hZ rfl Ar10 (j := (0 : Int32)) hin10 rfl (Sto.ofV Ar10 q10 Ov4 f11) (g := (mkF m 14 #[.val (.ref a1), .val (.ref ea), .val (.ref b4), .val (.int (0 : Int32))] [(.ref ea), (.int (0 : Int32)), (.ref b4)])) rfl rfl (hb hby d_jdk_38_method_24_14)
  have Z12 : n0 ≤ h10.size := Nat.le_trans Z5 (Keep.of_wr W10).1
  have Od13 : Old Z n0 h10 := Od6.wr W10 g_b4
  have K14 : Keep h0 h10 [a1] := K7.wr W10 (Or.inr sz_b4)
  have V10 : Arv Z h10 b4 kk4 (.object "java/lang/Object") (10 : Int32) [(.ref ea), .null, .null, .null, .null, .null, .null, .null, .null, .null] .null := Arv.set Ar10 q10 Sz10 Ng10 Hs10 Gs10 rfl W10 0 rfl (Nat.le_of_ble_eq_true rfl)
  have Nf15 := Fr.snoc X10 Nf4 g_b4
  have kn16 : ∀ t, own_S p e below T10 (mkF m 15 #[.val (.ref a1), .val (.ref ea), .val (.ref b4), .val (.int (0 : Int32))] []) t → Gl t := fun t kt => kn9 t (st10 _ kt)
  have kn17 : ∀ t, own_S p e below T10 (mkF m 19 #[.val (.ref a1), .val (.ref ea), .val (.ref b4), .val (.int (0 : Int32))] [(.int (1 : Int32)), (.ref a1)]) t → Gl t := fun t kt => kn16 t (by
    show own_S p e below T10 (mkF m 15 #[.val (.ref a1), .val (.ref ea), .val (.ref b4), .val (.int (0 : Int32))] []) _
    refine XS.aloadN X10.here hx rfl (hb hby d_jdk_38_method_24_15) rfl rfl ?_
    show own_S p e below T10 (mkF m 16 #[.val (.ref a1), .val (.ref ea), .val (.ref b4), .val (.int (0 : Int32))] [(.ref a1)]) _
    refine XS.iloadN X10.here hx rfl (hb hby d_jdk_38_method_24_16) rfl ?_
    show own_S p e below T10 (mkF m 17 #[.val (.ref a1), .val (.ref ea), .val (.ref b4), .val (.int (0 : Int32))] [(.int (0 : Int32)), (.ref a1)]) _
    refine XS.iconst X10.here hx rfl (hb hby d_jdk_38_method_24_17) ?_
    show own_S p e below T10 (mkF m 18 #[.val (.ref a1), .val (.ref ea), .val (.ref b4), .val (.int (0 : Int32))] [(.int (1 : Int32)), (.int (0 : Int32)), (.ref a1)]) _
    refine XS.iadd X10.here hx rfl (hb hby d_jdk_38_method_24_18) rfl ?_
    rw [(by decide : ((0 : Int32) + (1 : Int32)) = (1 : Int32))]
    exact kt)
  have f18 := (Fx4_a_2.other W10 (Or.inl ne_a1_b4))
  have f19 := (Ex4_a.wr W10)
  obtain ⟨T20, h20, X20, e20, W20, st20⟩ := putF X10 hx hZ hown (host := "") (Or.inl (hw _ (List.mem_of_getElem? (i := 104) rfl))) Via.refl e10 f18 f19 (Or.inl (hw _ (List.mem_of_getElem? (i := 105) rfl))) (hw _ (List.mem_of_getElem? (i := 28) rfl)) (ty := .int) (by decide) rfl rfl (g := (mkF m 19 #[.val (.ref a1), .val (.ref ea), .val (.ref b4), .val (.int (0 : Int32))] [(.int (1 : Int32)), (.ref a1)])) rfl rfl (hb hby d_jdk_38_method_24_19)
  have Z21 : n0 ≤ h20.size := Nat.le_trans Z12 (Keep.of_wr W20).1
  have Od22 : Old Z n0 h20 := Od13.wr W20 g_a1
  have K23 : Keep h0 h20 [a1] := K14.wr W20 (Or.inl (List.mem_of_getElem? (i := 0) rfl))
  have Fw20 := f18.same W20
  have Nf24 := Fr.snoc X20 Nf15 g_a1
  have kn25 : ∀ t, own_S p e below T20 (mkF m 22 #[.val (.ref a1), .val (.ref ea), .val (.ref b4), .val (.int (0 : Int32))] []) t → Gl t := fun t kt => kn17 t (st20 _ kt)
  obtain ⟨fs, hr, hrun, hended, hW, hsame⟩ := X20.leave (v := none) (fun _ => rfl)
  refine ⟨_, _, hGl _ (kn25 _ (X20.returnOut hx Bd.returns (hb hby d_jdk_38_method_24_22) hr)), hrun, hended, _, _, rfl, ?_, ⟨_, rfl⟩, hW, hsame.mono (by decide) (by decide)⟩
  show Q14 Z a1 ea gD kD h0 n0 _ T20.heap _
  rw [e20]
  have f26 := (V10.other W20 (Ne.symm ne_a1_b4))
  have f27 := (f19.wr W20)
  have f28 := ((Fx4_a_0.other W10 (Or.inl ne_a1_b4)).other W20 (Or.inr (slot_ne (Or.inl (hw _ (List.mem_of_getElem? (i := 47) rfl))) (Or.inl (hw _ (List.mem_of_getElem? (i := 105) rfl))) (by decide) (t := .int) (t' := .int) (by decide) (by decide))))
  have f29 := ((Fx4_a_1.other W10 (Or.inl ne_a1_b4)).other W20 (Or.inr (slot_ne (Or.inl (hw _ (List.mem_of_getElem? (i := 50) rfl))) (Or.inl (hw _ (List.mem_of_getElem? (i := 105) rfl))) (by decide) (t := (.array (.object "java/lang/Object"))) (t' := .int) (by decide) (by decide))))
  exact ⟨b4, _, rfl, Nf24, g_b4, sz_b4, K23, f26, Ov4, f27, f28, f29, Fw20⟩

theorem d_jdk_38_method_25_0 : decode jdk_38_method_25_code 0 = .ok (.aload_n 0, 1) := by decide +kernel
theorem d_jdk_38_method_25_1 : decode jdk_38_method_25_code 1 = .ok (.dup, 1) := by decide +kernel
theorem d_jdk_38_method_25_2 : decode jdk_38_method_25_code 2 = .ok (.getfield 63, 3) := by decide +kernel
theorem d_jdk_38_method_25_5 : decode jdk_38_method_25_code 5 = .ok (.iconst 1, 1) := by decide +kernel
theorem d_jdk_38_method_25_6 : decode jdk_38_method_25_code 6 = .ok (.iadd, 1) := by decide +kernel
theorem d_jdk_38_method_25_7 : decode jdk_38_method_25_code 7 = .ok (.putfield 63, 3) := by decide +kernel
theorem d_jdk_38_method_25_10 : decode jdk_38_method_25_code 10 = .ok (.aload_n 0, 1) := by decide +kernel
theorem d_jdk_38_method_25_11 : decode jdk_38_method_25_code 11 = .ok (.aload_n 1, 1) := by decide +kernel
theorem d_jdk_38_method_25_12 : decode jdk_38_method_25_code 12 = .ok (.aload_n 0, 1) := by decide +kernel
theorem d_jdk_38_method_25_13 : decode jdk_38_method_25_code 13 = .ok (.getfield 9, 3) := by decide +kernel
theorem d_jdk_38_method_25_16 : decode jdk_38_method_25_code 16 = .ok (.aload_n 0, 1) := by decide +kernel
theorem d_jdk_38_method_25_17 : decode jdk_38_method_25_code 17 = .ok (.getfield 48, 3) := by decide +kernel
theorem d_jdk_38_method_25_20 : decode jdk_38_method_25_code 20 = .ok (.invokevirtual 131, 3) := by decide +kernel
theorem d_jdk_38_method_25_23 : decode jdk_38_method_25_code 23 = .ok (.iconst 1, 1) := by decide +kernel
theorem d_jdk_38_method_25_24 : decode jdk_38_method_25_code 24 = .ok (.ireturn, 1) := by decide +kernel
theorem pd_9 : parseMethodDescriptor "(Ljava/lang/Object;[Ljava/lang/Object;I)V" = some ⟨[(.object "java/lang/Object"), (.array (.object "java/lang/Object")), .int], none⟩ := by decide +kernel
theorem ef_rm13 (m : MethodId) (x0 : Addr) (x1 : Addr) : entryFrame m #[(.ref x0), (.ref x1)] 2 = mkF m 0 #[.val (.ref x0), .val (.ref x1)] [] := by first | (simp [entryFrame, mkF, argsToLocals, Value.category]; done) | rfl
def Q13 (Z : State) (a1 : Addr) (ea : Addr) (gD : Addr) (kD : ClassId) (h0 : Heap) (n0 : Nat) (v : Option Value) (h : Heap) (L : List Loc) : Prop := ∃ (b : Addr) (kk : ClassId), v = some (.int (1 : Int32)) ∧ Fr n0 L ∧ n0 ≤ b ∧ h0.size ≤ b ∧ Keep h0 h [a1] ∧ Arv Z h b kk (.object "java/lang/Object") (10 : Int32) [(.ref ea), .null, .null, .null, .null, .null, .null, .null, .null, .null] .null ∧ Ovr Z kk "java/lang/Object" ∧ Exa Z h a1 "java/util/ArrayList" ∧ Fld Z h a1 "java/util/AbstractList" "modCount" "I" (.int (1 : Int32)) ∧ Fld Z h a1 "java/util/ArrayList" "elementData" "[Ljava/lang/Object;" (.ref b) ∧ Fld Z h a1 "java/util/ArrayList" "size" "I" (.int (1 : Int32))
set_option maxRecDepth 65536 in
set_option maxHeartbeats 40000000 in
theorem rm13 (l : Launch) (Z : State) (a0 : Array Value) (hw : ∀ d ∈ tables_1, d.before a0 Z = true) (ws : List Jvm.Cond) (a1 : Addr) (ea : Addr) (gD : Addr) (kD : ClassId) (h0 : Heap) (n0 : Nat) (Z0 : n0 ≤ h0.size) (O0 : Old Z n0 h0) (E_a1 : Exa Z h0 a1 "java/util/ArrayList") (F_a1_modCount : Fld Z h0 a1 "java/util/AbstractList" "modCount" "I" (.int (0 : Int32))) (F_a1_elementData : Fld Z h0 a1 "java/util/ArrayList" "elementData" "[Ljava/lang/Object;" (.ref gD)) (F_a1_size : Fld Z h0 a1 "java/util/ArrayList" "size" "I" (.int (0 : Int32))) (g_a1 : n0 ≤ a1) (I_ea : Ins Z h0 ea "java/lang/Object" true) (nea : @Ne Nat ea a1) (lte : ea < h0.size) (S_D : Sta Z Z.heap "java/util/ArrayList" "DEFAULTCAPACITY_EMPTY_ELEMENTDATA" "[Ljava/lang/Object;" (.ref gD)) (A_D : Arv Z Z.heap gD kD (.object "java/lang/Object") (0 : Int32) [] .null) :
    MetFree l (⟨"java/util/ArrayList", "add", "(Ljava/lang/Object;)Z"⟩ : MethodName) (head1 (Jvm.Cond.code (⟨"java/util/ArrayList", "add", "(Ljava/lang/Object;)Z"⟩ : MethodName) jdk_38_method_25_code 2 (some .boolean) :: ws) ({ frames := 4, cells := 1, slots := 10, locals := 56 } : Room)) (fun a U => a = #[(.ref a1), (.ref ea)] ∧ Z.Warmed39 U.vm ∧ U.heap = h0) (fun _ _ _ _ _ => True) (fun _ U o U' => ∃ v L, o = .returned v ∧ Q13 Z a1 ea gD kD h0 n0 v U'.heap L ∧ FrameEnd U o U' L ({ frames := 4, cells := 1, slots := 10, locals := 56 } : Room).cells ({ frames := 4, cells := 1, slots := 10, locals := 56 } : Room).slots) := by
  refine MetFree.of_bodySF (plainFor_of_name pn_4) hisR ?_
  intro p e s m args below meth c s₁ Bd hml0 hP hK
  obtain ⟨rfl, hZ, hh⟩ := hP
  have hx := Bd.exec
  have hby := Bd.bytes
  have hml : c.maxLocals = 2 := hml0
  have hown : s.vm.findClass "java/util/ArrayList" = some m.cls := findClass_of_methodNamed Bd.named
  have hnm := (name_of_methodNamed Bd.named Bd.method).1
  have X0 : Stand p l e ({ frames := 4, cells := 1, slots := 10, locals := 56 } : Room) s m #[(.ref a1), (.ref ea)] below meth c s₁ [] 0 0 := Stand.of_body Bd
  have e0 : s₁.heap = h0 := by rw [← hh, Bd.state]; rfl
  have Nf0 := Fr.nil n0
  obtain ⟨Gl, hGl, kn0⟩ : ∃ Gl : State → Prop, (∀ t, Gl t → Steps p.tables e below (s₁.setTop (entryFrame m #[(.ref a1), (.ref ea)] 2)) t) ∧ ∀ t, own_S p e below s₁ (mkF m 0 #[.val (.ref a1), .val (.ref ea)] []) t → Gl t := ⟨fun t => Steps p.tables e below (s₁.setTop (entryFrame m #[(.ref a1), (.ref ea)] 2)) t, fun _ k => k, fun t k => castTop (ef_rm13 m a1 ea) k⟩
  have kn1 : ∀ t, own_S p e below s₁ (mkF m 2 #[.val (.ref a1), .val (.ref ea)] [(.ref a1), (.ref a1)]) t → Gl t := fun t kt => kn0 t (by
    show own_S p e below s₁ (mkF m 0 #[.val (.ref a1), .val (.ref ea)] []) _
    refine XS.aloadN X0.here hx rfl (hb hby d_jdk_38_method_25_0) rfl rfl ?_
    show own_S p e below s₁ (mkF m 1 #[.val (.ref a1), .val (.ref ea)] [(.ref a1)]) _
    refine XS.dup X0.here hx rfl (hb hby d_jdk_38_method_25_1) rfl rfl ?_
    exact kt)
  obtain ⟨T2, X2, e2, st2⟩ := getF X0 hx hZ hown (host := "") (Or.inl (hw _ (List.mem_of_getElem? (i := 102) rfl))) (Via.of (hw _ (List.mem_of_getElem? (i := 103) rfl))) e0 F_a1_modCount (g := (mkF m 2 #[.val (.ref a1), .val (.ref ea)] [(.ref a1), (.ref a1)])) rfl rfl (hb hby d_jdk_38_method_25_2)
  have kn3 : ∀ t, own_S p e below T2 (mkF m 5 #[.val (.ref a1), .val (.ref ea)] [(.int (0 : Int32)), (.ref a1)]) t → Gl t := fun t kt => kn1 t (st2 _ kt)
  have kn4 : ∀ t, own_S p e below T2 (mkF m 7 #[.val (.ref a1), .val (.ref ea)] [(.int (1 : Int32)), (.ref a1)]) t → Gl t := fun t kt => kn3 t (by
    show own_S p e below T2 (mkF m 5 #[.val (.ref a1), .val (.ref ea)] [(.int (0 : Int32)), (.ref a1)]) _
    refine XS.iconst X2.here hx rfl (hb hby d_jdk_38_method_25_5) ?_
    show own_S p e below T2 (mkF m 6 #[.val (.ref a1), .val (.ref ea)] [(.int (1 : Int32)), (.int (0 : Int32)), (.ref a1)]) _
    refine XS.iadd X2.here hx rfl (hb hby d_jdk_38_method_25_6) rfl ?_
    rw [(by decide : ((0 : Int32) + (1 : Int32)) = (1 : Int32))]
    exact kt)
  obtain ⟨T5, h5, X5, e5, W5, st5⟩ := putF X2 hx hZ hown (host := "") (Or.inl (hw _ (List.mem_of_getElem? (i := 102) rfl))) (Via.of (hw _ (List.mem_of_getElem? (i := 103) rfl))) e2 F_a1_modCount E_a1 (Or.inl (hw _ (List.mem_of_getElem? (i := 47) rfl))) (hw _ (List.mem_of_getElem? (i := 28) rfl)) (ty := .int) (by decide) rfl rfl (g := (mkF m 7 #[.val (.ref a1), .val (.ref ea)] [(.int (1 : Int32)), (.ref a1)])) rfl rfl (hb hby d_jdk_38_method_25_7)
  have Z6 : n0 ≤ h5.size := Nat.le_trans Z0 (Keep.of_wr W5).1
  have Od7 : Old Z n0 h5 := O0.wr W5 g_a1
  have K8 : Keep h0 h5 [a1] := (Keep.refl h0 [a1]).wr W5 (Or.inl (List.mem_of_getElem? (i := 0) rfl))
  have Fw5 := F_a1_modCount.same W5
  have Nf9 := Fr.snoc X5 Nf0 g_a1
  have kn10 : ∀ t, own_S p e below T5 (mkF m 10 #[.val (.ref a1), .val (.ref ea)] []) t → Gl t := fun t kt => kn4 t (st5 _ kt)
  have kn11 : ∀ t, own_S p e below T5 (mkF m 13 #[.val (.ref a1), .val (.ref ea)] [(.ref a1), (.ref ea), (.ref a1)]) t → Gl t := fun t kt => kn10 t (by
    show own_S p e below T5 (mkF m 10 #[.val (.ref a1), .val (.ref ea)] []) _
    refine XS.aloadN X5.here hx rfl (hb hby d_jdk_38_method_25_10) rfl rfl ?_
    show own_S p e below T5 (mkF m 11 #[.val (.ref a1), .val (.ref ea)] [(.ref a1)]) _
    refine XS.aloadN X5.here hx rfl (hb hby d_jdk_38_method_25_11) rfl rfl ?_
    show own_S p e below T5 (mkF m 12 #[.val (.ref a1), .val (.ref ea)] [(.ref ea), (.ref a1)]) _
    refine XS.aloadN X5.here hx rfl (hb hby d_jdk_38_method_25_12) rfl rfl ?_
    exact kt)
  have f12 := (F_a1_elementData.other W5 (Or.inr (slot_ne (Or.inl (hw _ (List.mem_of_getElem? (i := 50) rfl))) (Or.inl (hw _ (List.mem_of_getElem? (i := 47) rfl))) (by decide) (t := (.array (.object "java/lang/Object"))) (t' := .int) (by decide) (by decide))))
  obtain ⟨T13, X13, e13, st13⟩ := getF X5 hx hZ hown (host := "") (Or.inl (hw _ (List.mem_of_getElem? (i := 49) rfl))) Via.refl e5 f12 (g := (mkF m 13 #[.val (.ref a1), .val (.ref ea)] [(.ref a1), (.ref ea), (.ref a1)])) rfl rfl (hb hby d_jdk_38_method_25_13)
  have kn14 : ∀ t, own_S p e below T13 (mkF m 16 #[.val (.ref a1), .val (.ref ea)] [(.ref gD), (.ref ea), (.ref a1)]) t → Gl t := fun t kt => kn11 t (st13 _ kt)
  have kn15 : ∀ t, own_S p e below T13 (mkF m 17 #[.val (.ref a1), .val (.ref ea)] [(.ref a1), (.ref gD), (.ref ea), (.ref a1)]) t → Gl t := fun t kt => kn14 t (by
    show own_S p e below T13 (mkF m 16 #[.val (.ref a1), .val (.ref ea)] [(.ref gD), (.ref ea), (.ref a1)]) _
    refine XS.aloadN X13.here hx rfl (hb hby d_jdk_38_method_25_16) rfl rfl ?_
    exact kt)
  have f16 := (F_a1_size.other W5 (Or.inr (slot_ne (Or.inl (hw _ (List.mem_of_getElem? (i := 105) rfl))) (Or.inl (hw _ (List.mem_of_getElem? (i := 47) rfl))) (by decide) (t := .int) (t' := .int) (by decide) (by decide))))
  obtain ⟨T17, X17, e17, st17⟩ := getF X13 hx hZ hown (host := "") (Or.inl (hw _ (List.mem_of_getElem? (i := 104) rfl))) Via.refl e13 f16 (g := (mkF m 17 #[.val (.ref a1), .val (.ref ea)] [(.ref a1), (.ref gD), (.ref ea), (.ref a1)])) rfl rfl (hb hby d_jdk_38_method_25_17)
  have kn18 : ∀ t, own_S p e below T17 (mkF m 20 #[.val (.ref a1), .val (.ref ea)] [(.int (0 : Int32)), (.ref gD), (.ref ea), (.ref a1)]) t → Gl t := fun t kt => kn15 t (st17 _ kt)
  have lt20 : ea < h5.size := Nat.lt_of_lt_of_le lte K8.1
  have f21 := (E_a1.wr W5)
  have f22 := (I_ea.wr W5)
  obtain ⟨cq19, qa19, qb19⟩ := f21.cell
  obtain ⟨_, _, ⟨T19, L19, cc19, ss19⟩, -, X19, ⟨Lc19, hQ19, l19, y19, z19⟩, st19⟩ := X17.privateBack hx (y := (⟨"java/util/ArrayList", "add", "(Ljava/lang/Object;[Ljava/lang/Object;I)V"⟩ : MethodName)) hown (mvT hZ (hw _ (List.mem_of_getElem? (i := 106) rfl))) (mvT hZ (hw _ (List.mem_of_getElem? (i := 107) rfl))) (mvT hZ (hw _ (List.mem_of_getElem? (i := 109) rfl))) (Cond.privateMethod_at (mvP hZ (hw _ (List.mem_of_getElem? (i := 108) rfl)) (args := #[]))) (mvT hZ (hw _ (List.mem_of_getElem? (i := 110) rfl))) (by decide) (backOf (W := 0) (rm14 l Z a0 hw [] a1 ea gD kD h5 n0 Z6 Od7 f21 Fw5 f12 f16 g_a1 f22 nea lt20 S_D A_D) hZ (hw _ (List.mem_of_getElem? (i := 110) rfl)) (hw _ (List.mem_of_getElem? (i := 29) rfl)) (by decide) (by decide)) (g := (mkF m 20 #[.val (.ref a1), .val (.ref ea)] [(.int (0 : Int32)), (.ref gD), (.ref ea), (.ref a1)])) rfl (by rw [hml]; rfl) (Steps.refl _) (a := a1) (by rw [e17]; exact qa19) qb19 (argsL := [(.ref ea), (.ref gD), (.int (0 : Int32))]) (rest := []) (lenOf pd_9 rfl) rfl (by show 2 * 0 + _ ≤ _; exact Nat.le_of_eq rfl) (hb hby d_jdk_38_method_25_20) (fun _ _ => ⟨rfl, e17, (by decide : 0 + 1 ≤ _), (by decide : 0 + 10 ≤ _)⟩)
  dsimp only [Pt.U, Pt.locs, Pt.cells, Pt.slots] at X19 l19 y19 z19 st19 hQ19
  subst l19 y19 z19
  have X19 : Stand p l e _ _ m _ below meth c T19 _ 1 10 := X19
  obtain ⟨b19, kk19, rfl, Nq19, g_b19, sb19, K19, V19, Ov19, Ex19_a, Fx19_a_0, Fx19_a_1, Fx19_a_2⟩ := hQ19
  have Nf19 := Fr.app Nf9 Nq19
  have ne_a1_b19 : a1 ≠ b19 := Nat.ne_of_lt (Nat.lt_of_lt_of_le f21.lt sb19)
  have sz_b19 : h0.size ≤ b19 := Nat.le_trans K8.1 sb19
  have Z23 : n0 ≤ T19.heap.size := Nat.le_trans Z6 K19.1
  have Od24 : Old Z n0 T19.heap := Od7.keep K19 (allS g_a1 all0)
  have K25 : Keep h0 T19.heap [a1] := K8.trans K19 (allS (Or.inl (List.mem_of_getElem? (i := 0) rfl)) all0)
  have kn26 : ∀ t, own_S p e below T19 (mkF m 23 #[.val (.ref a1), .val (.ref ea)] []) t → Gl t := fun t kt => kn18 t (st19.trans kt)
  have kn27 : ∀ t, own_S p e below T19 (mkF m 24 #[.val (.ref a1), .val (.ref ea)] [(.int (1 : Int32))]) t → Gl t := fun t kt => kn26 t (by
    show own_S p e below T19 (mkF m 23 #[.val (.ref a1), .val (.ref ea)] []) _
    refine XS.iconst X19.here hx rfl (hb hby d_jdk_38_method_25_23) ?_
    exact kt)
  obtain ⟨fs, hr, hrun, hended, hW, hsame⟩ := X19.leave (v := some (.int (1 : Int32))) (fun h => by rw [Bd.returns] at h; cases h)
  refine ⟨_, _, hGl _ (kn27 _ (retN X19 hx (t := .boolean) Bd.returns (by simp) (hb hby d_jdk_38_method_25_24) hr)), hrun, hended, _, _, rfl, ?_, ⟨_, rfl⟩, hW, hsame.mono (by decide) (by decide)⟩
  show Q13 Z a1 ea gD kD h0 n0 _ T19.heap _
  exact ⟨b19, _, rfl, Nf19, g_b19, sz_b19, K25, V19, Ov19, Ex19_a, Fx19_a_0, Fx19_a_1, Fx19_a_2⟩

theorem d_jdk_49_method_1_0 : decode jdk_49_method_1_code 0 = .ok (.aload_n 0, 1) := by decide +kernel
theorem d_jdk_49_method_1_1 : decode jdk_49_method_1_code 1 = .ok (.aload_n 1, 1) := by decide +kernel
theorem d_jdk_49_method_1_2 : decode jdk_49_method_1_code 2 = .ok (.putfield 1, 3) := by decide +kernel
theorem d_jdk_49_method_1_5 : decode jdk_49_method_1_code 5 = .ok (.aload_n 0, 1) := by decide +kernel
theorem d_jdk_49_method_1_6 : decode jdk_49_method_1_code 6 = .ok (.invokespecial 7, 3) := by decide +kernel
theorem d_jdk_49_method_1_9 : decode jdk_49_method_1_code 9 = .ok (.aload_n 0, 1) := by decide +kernel
theorem d_jdk_49_method_1_10 : decode jdk_49_method_1_code 10 = .ok (.iconst (-1), 1) := by decide +kernel
theorem d_jdk_49_method_1_11 : decode jdk_49_method_1_code 11 = .ok (.putfield 13, 3) := by decide +kernel
theorem d_jdk_49_method_1_14 : decode jdk_49_method_1_code 14 = .ok (.aload_n 0, 1) := by decide +kernel
theorem d_jdk_49_method_1_15 : decode jdk_49_method_1_code 15 = .ok (.aload_n 0, 1) := by decide +kernel
theorem d_jdk_49_method_1_16 : decode jdk_49_method_1_code 16 = .ok (.getfield 1, 3) := by decide +kernel
theorem d_jdk_49_method_1_19 : decode jdk_49_method_1_code 19 = .ok (.getfield 17, 3) := by decide +kernel
theorem d_jdk_49_method_1_22 : decode jdk_49_method_1_code 22 = .ok (.putfield 22, 3) := by decide +kernel
theorem d_jdk_49_method_1_25 : decode jdk_49_method_1_code 25 = .ok (.return_, 1) := by decide +kernel
theorem pn_10 : plainName "java/util/ArrayList$Itr" = true := by first | (simp [plainName, overriddenIn]; done) | decide +kernel
theorem ef_rm24 (m : MethodId) (x0 : Addr) (x1 : Addr) : entryFrame m #[(.ref x0), (.ref x1)] 2 = mkF m 0 #[.val (.ref x0), .val (.ref x1)] [] := by first | (simp [entryFrame, mkF, argsToLocals, Value.category]; done) | rfl
def Q24 (Z : State) (a1 : Addr) (ls : Addr) (h0 : Heap) (n0 : Nat) (v : Option Value) (h : Heap) (L : List Loc) : Prop := v = none ∧ Fr n0 L ∧ Keep h0 h [a1] ∧ Exa Z h a1 "java/util/ArrayList$Itr" ∧ Fld Z h a1 "java/util/ArrayList$Itr" "this$0" "Ljava/util/ArrayList;" (.ref ls) ∧ Fld Z h a1 "java/util/ArrayList$Itr" "lastRet" "I" (.int (-1 : Int32)) ∧ Fld Z h a1 "java/util/ArrayList$Itr" "expectedModCount" "I" (.int (1 : Int32)) ∧ Fld Z h a1 "java/util/ArrayList$Itr" "cursor" "I" (.int (0 : Int32))
set_option maxRecDepth 65536 in
set_option maxHeartbeats 40000000 in
theorem rm24 (l : Launch) (Z : State) (a0 : Array Value) (hw : ∀ d ∈ tables_1, d.before a0 Z = true) (ws : List Jvm.Cond) (a1 : Addr) (ls : Addr) (h0 : Heap) (n0 : Nat) (Z0 : n0 ≤ h0.size) (O0 : Old Z n0 h0) (E_a1 : Exa Z h0 a1 "java/util/ArrayList$Itr") (F_a1_this0 : Fld Z h0 a1 "java/util/ArrayList$Itr" "this$0" "Ljava/util/ArrayList;" .null) (F_a1_lastRet : Fld Z h0 a1 "java/util/ArrayList$Itr" "lastRet" "I" (.int (0 : Int32))) (F_a1_expectedModCount : Fld Z h0 a1 "java/util/ArrayList$Itr" "expectedModCount" "I" (.int (0 : Int32))) (F_a1_cursor : Fld Z h0 a1 "java/util/ArrayList$Itr" "cursor" "I" (.int (0 : Int32))) (g_a1 : n0 ≤ a1) (F_ls_modCount : Fld Z h0 ls "java/util/AbstractList" "modCount" "I" (.int (1 : Int32))) (nla : @Ne Nat ls a1) :
    MetFree l (⟨"java/util/ArrayList$Itr", "<init>", "(Ljava/util/ArrayList;)V"⟩ : MethodName) (head1 (Jvm.Cond.code (⟨"java/util/ArrayList$Itr", "<init>", "(Ljava/util/ArrayList;)V"⟩ : MethodName) jdk_49_method_1_code 2 none :: ws) ({ frames := 1, cells := 0, slots := 0, locals := 12 } : Room)) (fun a U => a = #[(.ref a1), (.ref ls)] ∧ Z.Warmed39 U.vm ∧ U.heap = h0) (fun _ _ _ _ _ => True) (fun _ U o U' => ∃ v L, o = .returned v ∧ Q24 Z a1 ls h0 n0 v U'.heap L ∧ FrameEnd U o U' L ({ frames := 1, cells := 0, slots := 0, locals := 12 } : Room).cells ({ frames := 1, cells := 0, slots := 0, locals := 12 } : Room).slots) := by
  refine MetFree.of_bodySF (plainFor_of_name pn_10) hisR ?_
  intro p e s m args below meth c s₁ Bd hml0 hP hK
  obtain ⟨rfl, hZ, hh⟩ := hP
  have hx := Bd.exec
  have hby := Bd.bytes
  have hml : c.maxLocals = 2 := hml0
  have hown : s.vm.findClass "java/util/ArrayList$Itr" = some m.cls := findClass_of_methodNamed Bd.named
  have hnm := (name_of_methodNamed Bd.named Bd.method).1
  have X0 : Stand p l e ({ frames := 1, cells := 0, slots := 0, locals := 12 } : Room) s m #[(.ref a1), (.ref ls)] below meth c s₁ [] 0 0 := Stand.of_body Bd
  have e0 : s₁.heap = h0 := by rw [← hh, Bd.state]; rfl
  have Nf0 := Fr.nil n0
  obtain ⟨Gl, hGl, kn0⟩ : ∃ Gl : State → Prop, (∀ t, Gl t → Steps p.tables e below (s₁.setTop (entryFrame m #[(.ref a1), (.ref ls)] 2)) t) ∧ ∀ t, own_S p e below s₁ (mkF m 0 #[.val (.ref a1), .val (.ref ls)] []) t → Gl t := ⟨fun t => Steps p.tables e below (s₁.setTop (entryFrame m #[(.ref a1), (.ref ls)] 2)) t, fun _ k => k, fun t k => castTop (ef_rm24 m a1 ls) k⟩
  have kn1 : ∀ t, own_S p e below s₁ (mkF m 2 #[.val (.ref a1), .val (.ref ls)] [(.ref ls), (.ref a1)]) t → Gl t := fun t kt => kn0 t (by
    show own_S p e below s₁ (mkF m 0 #[.val (.ref a1), .val (.ref ls)] []) _
    refine XS.aloadN X0.here hx rfl (hb hby d_jdk_49_method_1_0) rfl rfl ?_
    show own_S p e below s₁ (mkF m 1 #[.val (.ref a1), .val (.ref ls)] [(.ref a1)]) _
    refine XS.aloadN X0.here hx rfl (hb hby d_jdk_49_method_1_1) rfl rfl ?_
    exact kt)
  obtain ⟨T2, h2, X2, e2, W2, st2⟩ := putF X0 hx hZ hown (host := "") (Or.inl (hw _ (List.mem_of_getElem? (i := 176) rfl))) Via.refl e0 F_a1_this0 E_a1 (Or.inr ⟨(hw _ (List.mem_of_getElem? (i := 177) rfl)), rfl, hnm⟩) (hw _ (List.mem_of_getElem? (i := 170) rfl)) (ty := (.object "java/util/ArrayList")) (by decide) rfl rfl (g := (mkF m 2 #[.val (.ref a1), .val (.ref ls)] [(.ref ls), (.ref a1)])) rfl rfl (hb hby d_jdk_49_method_1_2)
  have Z3 : n0 ≤ h2.size := Nat.le_trans Z0 (Keep.of_wr W2).1
  have Od4 : Old Z n0 h2 := O0.wr W2 g_a1
  have K5 : Keep h0 h2 [a1] := (Keep.refl h0 [a1]).wr W2 (Or.inl (List.mem_of_getElem? (i := 0) rfl))
  have Fw2 := F_a1_this0.same W2
  have Nf6 := Fr.snoc X2 Nf0 g_a1
  have kn7 : ∀ t, own_S p e below T2 (mkF m 5 #[.val (.ref a1), .val (.ref ls)] []) t → Gl t := fun t kt => kn1 t (st2 _ kt)
  have kn8 : ∀ t, own_S p e below T2 (mkF m 6 #[.val (.ref a1), .val (.ref ls)] [(.ref a1)]) t → Gl t := fun t kt => kn7 t (by
    show own_S p e below T2 (mkF m 5 #[.val (.ref a1), .val (.ref ls)] []) _
    refine XS.aloadN X2.here hx rfl (hb hby d_jdk_49_method_1_5) rfl rfl ?_
    exact kt)
  obtain ⟨T9, X9, e9, st9⟩ := initO X2 hx hZ hown (hw _ (List.mem_of_getElem? (i := 178) rfl)) (hw _ (List.mem_of_getElem? (i := 16) rfl)) (hw _ (List.mem_of_getElem? (i := 17) rfl)) e2 (g := (mkF m 6 #[.val (.ref a1), .val (.ref ls)] [(.ref a1)])) rfl (by rw [hml]; rfl) rfl (hb hby d_jdk_49_method_1_6) (by decide) (W := 0) (by show 2 * 0 + _ ≤ _; exact Nat.le_of_eq rfl) (by decide)
  have kn10 : ∀ t, own_S p e below T9 (mkF m 9 #[.val (.ref a1), .val (.ref ls)] []) t → Gl t := fun t kt => kn8 t (st9 _ kt)
  have kn11 : ∀ t, own_S p e below T9 (mkF m 11 #[.val (.ref a1), .val (.ref ls)] [(.int (-1 : Int32)), (.ref a1)]) t → Gl t := fun t kt => kn10 t (by
    show own_S p e below T9 (mkF m 9 #[.val (.ref a1), .val (.ref ls)] []) _
    refine XS.aloadN X9.here hx rfl (hb hby d_jdk_49_method_1_9) rfl rfl ?_
    show own_S p e below T9 (mkF m 10 #[.val (.ref a1), .val (.ref ls)] [(.ref a1)]) _
    refine XS.iconst X9.here hx rfl (hb hby d_jdk_49_method_1_10) ?_
    exact kt)
  have f12 := (F_a1_lastRet.other W2 (Or.inr (slot_ne (Or.inl (hw _ (List.mem_of_getElem? (i := 180) rfl))) (Or.inr (hw _ (List.mem_of_getElem? (i := 177) rfl))) (by decide) (t := .int) (t' := (.object "java/util/ArrayList")) (by decide) (by decide))))
  have f13 := (E_a1.wr W2)
  obtain ⟨T14, h14, X14, e14, W14, st14⟩ := putF X9 hx hZ hown (host := "") (Or.inl (hw _ (List.mem_of_getElem? (i := 179) rfl))) Via.refl e9 f12 f13 (Or.inl (hw _ (List.mem_of_getElem? (i := 180) rfl))) (hw _ (List.mem_of_getElem? (i := 170) rfl)) (ty := .int) (by decide) rfl rfl (g := (mkF m 11 #[.val (.ref a1), .val (.ref ls)] [(.int (-1 : Int32)), (.ref a1)])) rfl rfl (hb hby d_jdk_49_method_1_11)
  have Z15 : n0 ≤ h14.size := Nat.le_trans Z3 (Keep.of_wr W14).1
  have Od16 : Old Z n0 h14 := Od4.wr W14 g_a1
  have K17 : Keep h0 h14 [a1] := K5.wr W14 (Or.inl (List.mem_of_getElem? (i := 0) rfl))
  have Fw14 := f12.same W14
  have Nf18 := Fr.snoc X14 Nf6 g_a1
  have kn19 : ∀ t, own_S p e below T14 (mkF m 14 #[.val (.ref a1), .val (.ref ls)] []) t → Gl t := fun t kt => kn11 t (st14 _ kt)
  have kn20 : ∀ t, own_S p e below T14 (mkF m 16 #[.val (.ref a1), .val (.ref ls)] [(.ref a1), (.ref a1)]) t → Gl t := fun t kt => kn19 t (by
    show own_S p e below T14 (mkF m 14 #[.val (.ref a1), .val (.ref ls)] []) _
    refine XS.aloadN X14.here hx rfl (hb hby d_jdk_49_method_1_14) rfl rfl ?_
    show own_S p e below T14 (mkF m 15 #[.val (.ref a1), .val (.ref ls)] [(.ref a1)]) _
    refine XS.aloadN X14.here hx rfl (hb hby d_jdk_49_method_1_15) rfl rfl ?_
    exact kt)
  have f21 := (Fw2.other W14 (Or.inr (slot_ne (Or.inr (hw _ (List.mem_of_getElem? (i := 177) rfl))) (Or.inl (hw _ (List.mem_of_getElem? (i := 180) rfl))) (by decide) (t := (.object "java/util/ArrayList")) (t' := .int) (by decide) (by decide))))
  obtain ⟨T22, X22, e22, st22⟩ := getF X14 hx hZ hown (host := "") (Or.inl (hw _ (List.mem_of_getElem? (i := 176) rfl))) Via.refl e14 f21 (g := (mkF m 16 #[.val (.ref a1), .val (.ref ls)] [(.ref a1), (.ref a1)])) rfl rfl (hb hby d_jdk_49_method_1_16)
  have kn23 : ∀ t, own_S p e below T22 (mkF m 19 #[.val (.ref a1), .val (.ref ls)] [(.ref ls), (.ref a1)]) t → Gl t := fun t kt => kn20 t (st22 _ kt)
  have f24 := ((F_ls_modCount.other W2 (Or.inl nla)).other W14 (Or.inl nla))
  obtain ⟨T25, X25, e25, st25⟩ := getF X22 hx hZ hown (host := "") (Or.inl (hw _ (List.mem_of_getElem? (i := 181) rfl))) (Via.of (hw _ (List.mem_of_getElem? (i := 103) rfl))) e22 f24 (g := (mkF m 19 #[.val (.ref a1), .val (.ref ls)] [(.ref ls), (.ref a1)])) rfl rfl (hb hby d_jdk_49_method_1_19)
  have kn26 : ∀ t, own_S p e below T25 (mkF m 22 #[.val (.ref a1), .val (.ref ls)] [(.int (1 : Int32)), (.ref a1)]) t → Gl t := fun t kt => kn23 t (st25 _ kt)
  have f27 := ((F_a1_expectedModCount.other W2 (Or.inr (slot_ne (Or.inl (hw _ (List.mem_of_getElem? (i := 183) rfl))) (Or.inr (hw _ (List.mem_of_getElem? (i := 177) rfl))) (by decide) (t := .int) (t' := (.object "java/util/ArrayList")) (by decide) (by decide)))).other W14 (Or.inr (slot_ne (Or.inl (hw _ (List.mem_of_getElem? (i := 183) rfl))) (Or.inl (hw _ (List.mem_of_getElem? (i := 180) rfl))) (by decide) (t := .int) (t' := .int) (by decide) (by decide))))
  have f28 := (f13.wr W14)
  obtain ⟨T29, h29, X29, e29, W29, st29⟩ := putF X25 hx hZ hown (host := "") (Or.inl (hw _ (List.mem_of_getElem? (i := 182) rfl))) Via.refl e25 f27 f28 (Or.inl (hw _ (List.mem_of_getElem? (i := 183) rfl))) (hw _ (List.mem_of_getElem? (i := 170) rfl)) (ty := .int) (by decide) rfl rfl (g := (mkF m 22 #[.val (.ref a1), .val (.ref ls)] [(.int (1 : Int32)), (.ref a1)])) rfl rfl (hb hby d_jdk_49_method_1_22)
  have Z30 : n0 ≤ h29.size := Nat.le_trans Z15 (Keep.of_wr W29).1
  have Od31 : Old Z n0 h29 := Od16.wr W29 g_a1
  have K32 : Keep h0 h29 [a1] := K17.wr W29 (Or.inl (List.mem_of_getElem? (i := 0) rfl))
  have Fw29 := f27.same W29
  have Nf33 := Fr.snoc X29 Nf18 g_a1
  have kn34 : ∀ t, own_S p e below T29 (mkF m 25 #[.val (.ref a1), .val (.ref ls)] []) t → Gl t := fun t kt => kn26 t (st29 _ kt)
  obtain ⟨fs, hr, hrun, hended, hW, hsame⟩ := X29.leave (v := none) (fun _ => rfl)
  refine ⟨_, _, hGl _ (kn34 _ (X29.returnOut hx Bd.returns (hb hby d_jdk_49_method_1_25) hr)), hrun, hended, _, _, rfl, ?_, ⟨_, rfl⟩, hW, hsame.mono (by decide) (by decide)⟩
  show Q24 Z a1 ls h0 n0 _ T29.heap _
  rw [e29]
  have f35 := (f28.wr W29)
  have f36 := (f21.other W29 (Or.inr (slot_ne (Or.inr (hw _ (List.mem_of_getElem? (i := 177) rfl))) (Or.inl (hw _ (List.mem_of_getElem? (i := 183) rfl))) (by decide) (t := (.object "java/util/ArrayList")) (t' := .int) (by decide) (by decide))))
  have f37 := (Fw14.other W29 (Or.inr (slot_ne (Or.inl (hw _ (List.mem_of_getElem? (i := 180) rfl))) (Or.inl (hw _ (List.mem_of_getElem? (i := 183) rfl))) (by decide) (t := .int) (t' := .int) (by decide) (by decide))))
  have f38 := (((F_a1_cursor.other W2 (Or.inr (slot_ne (Or.inl (hw _ (List.mem_of_getElem? (i := 191) rfl))) (Or.inr (hw _ (List.mem_of_getElem? (i := 177) rfl))) (by decide) (t := .int) (t' := (.object "java/util/ArrayList")) (by decide) (by decide)))).other W14 (Or.inr (slot_ne (Or.inl (hw _ (List.mem_of_getElem? (i := 191) rfl))) (Or.inl (hw _ (List.mem_of_getElem? (i := 180) rfl))) (by decide) (t := .int) (t' := .int) (by decide) (by decide)))).other W29 (Or.inr (slot_ne (Or.inl (hw _ (List.mem_of_getElem? (i := 191) rfl))) (Or.inl (hw _ (List.mem_of_getElem? (i := 183) rfl))) (by decide) (t := .int) (t' := .int) (by decide) (by decide))))
  exact ⟨rfl, Nf33, K32, f35, f36, f37, Fw29, f38⟩

theorem d_jdk_38_method_55_0 : decode jdk_38_method_55_code 0 = .ok (.new 267, 3) := by decide +kernel
theorem d_jdk_38_method_55_3 : decode jdk_38_method_55_code 3 = .ok (.dup, 1) := by decide +kernel
theorem d_jdk_38_method_55_4 : decode jdk_38_method_55_code 4 = .ok (.aload_n 0, 1) := by decide +kernel
theorem d_jdk_38_method_55_5 : decode jdk_38_method_55_code 5 = .ok (.invokespecial 269, 3) := by decide +kernel
theorem d_jdk_38_method_55_8 : decode jdk_38_method_55_code 8 = .ok (.areturn, 1) := by decide +kernel
theorem pd_10 : parseMethodDescriptor "(Ljava/util/ArrayList;)V" = some ⟨[(.object "java/util/ArrayList")], none⟩ := by decide +kernel
theorem ef_rm23 (m : MethodId) (x0 : Addr) : entryFrame m #[(.ref x0)] 1 = mkF m 0 #[.val (.ref x0)] [] := by first | (simp [entryFrame, mkF, argsToLocals, Value.category]; done) | rfl
def Q23 (Z : State) (ls : Addr) (h0 : Heap) (n0 : Nat) (v : Option Value) (h : Heap) (L : List Loc) : Prop := ∃ b : Addr, v = some (.ref b) ∧ Fr n0 L ∧ n0 ≤ b ∧ h0.size ≤ b ∧ Keep h0 h [] ∧ Exa Z h b "java/util/ArrayList$Itr" ∧ Fld Z h b "java/util/ArrayList$Itr" "this$0" "Ljava/util/ArrayList;" (.ref ls) ∧ Fld Z h b "java/util/ArrayList$Itr" "lastRet" "I" (.int (-1 : Int32)) ∧ Fld Z h b "java/util/ArrayList$Itr" "expectedModCount" "I" (.int (1 : Int32)) ∧ Fld Z h b "java/util/ArrayList$Itr" "cursor" "I" (.int (0 : Int32))
set_option maxRecDepth 65536 in
set_option maxHeartbeats 40000000 in
theorem rm23 (l : Launch) (Z : State) (a0 : Array Value) (hw : ∀ d ∈ tables_1, d.before a0 Z = true) (ws : List Jvm.Cond) (ls : Addr) (h0 : Heap) (n0 : Nat) (Z0 : n0 ≤ h0.size) (O0 : Old Z n0 h0) (F_ls_modCount : Fld Z h0 ls "java/util/AbstractList" "modCount" "I" (.int (1 : Int32))) :
    MetFree l (⟨"java/util/ArrayList", "iterator", "()Ljava/util/Iterator;"⟩ : MethodName) (head1 (Jvm.Cond.code (⟨"java/util/ArrayList", "iterator", "()Ljava/util/Iterator;"⟩ : MethodName) jdk_38_method_55_code 1 (some (.object "java/util/Iterator")) :: ws) ({ frames := 2, cells := 1, slots := 4, locals := 26 } : Room)) (fun a U => a = #[(.ref ls)] ∧ Z.Warmed39 U.vm ∧ U.heap = h0) (fun _ _ _ _ _ => True) (fun _ U o U' => ∃ v L, o = .returned v ∧ Q23 Z ls h0 n0 v U'.heap L ∧ FrameEnd U o U' L ({ frames := 2, cells := 1, slots := 4, locals := 26 } : Room).cells ({ frames := 2, cells := 1, slots := 4, locals := 26 } : Room).slots) := by
  refine MetFree.of_bodySF (plainFor_of_name pn_4) hisR ?_
  intro p e s m args below meth c s₁ Bd hml0 hP hK
  obtain ⟨rfl, hZ, hh⟩ := hP
  have hx := Bd.exec
  have hby := Bd.bytes
  have hml : c.maxLocals = 1 := hml0
  have hown : s.vm.findClass "java/util/ArrayList" = some m.cls := findClass_of_methodNamed Bd.named
  have hnm := (name_of_methodNamed Bd.named Bd.method).1
  have X0 : Stand p l e ({ frames := 2, cells := 1, slots := 4, locals := 26 } : Room) s m #[(.ref ls)] below meth c s₁ [] 0 0 := Stand.of_body Bd
  have e0 : s₁.heap = h0 := by rw [← hh, Bd.state]; rfl
  have Nf0 := Fr.nil n0
  obtain ⟨Gl, hGl, kn0⟩ : ∃ Gl : State → Prop, (∀ t, Gl t → Steps p.tables e below (s₁.setTop (entryFrame m #[(.ref ls)] 1)) t) ∧ ∀ t, own_S p e below s₁ (mkF m 0 #[.val (.ref ls)] []) t → Gl t := ⟨fun t => Steps p.tables e below (s₁.setTop (entryFrame m #[(.ref ls)] 1)) t, fun _ k => k, fun t k => castTop (ef_rm23 m ls) k⟩
  obtain ⟨T1, h1, X1, e1, E1, A1, D1, -, st1⟩ := newO X0 hx hZ hown (hw _ (List.mem_of_getElem? (i := 169) rfl)) (hw _ (List.mem_of_getElem? (i := 170) rfl)) (hw _ (List.mem_of_getElem? (i := 171) rfl)) e0 (g := (mkF m 0 #[.val (.ref ls)] [])) rfl (hb hby d_jdk_38_method_55_0) (by decide) (by decide)
  obtain ⟨b1, g1⟩ : ∃ z, z = h0.size := ⟨_, rfl⟩
  rw [← g1] at A1 D1 st1
  have sz_b1 : h0.size ≤ b1 := Nat.le_trans (Keep.refl h0 []).1 (Nat.le_of_eq g1.symm)
  have g_b1 : n0 ≤ b1 := Nat.le_trans Z0 (Nat.le_of_eq g1.symm)
  have ne_ls_b1 : ls ≠ b1 := Nat.ne_of_lt (Nat.lt_of_lt_of_le F_ls_modCount.lt (Nat.le_of_eq g1.symm))
  have Z2 : n0 ≤ h1.size := Nat.le_trans Z0 E1.1
  have Od3 : Old Z n0 h1 := O0.ext E1
  have K4 : Keep h0 h1 [] := (Keep.refl h0 []).ext E1
  have F1_177 : Fld Z h1 b1 "java/util/ArrayList$Itr" "this$0" "Ljava/util/ArrayList;" .null := D1 (Or.inr (hw _ (List.mem_of_getElem? (i := 177) rfl))) (ty := (.object "java/util/ArrayList")) (by decide)
  have F1_180 : Fld Z h1 b1 "java/util/ArrayList$Itr" "lastRet" "I" (.int (0 : Int32)) := D1 (Or.inl (hw _ (List.mem_of_getElem? (i := 180) rfl))) (ty := .int) (by decide)
  have F1_183 : Fld Z h1 b1 "java/util/ArrayList$Itr" "expectedModCount" "I" (.int (0 : Int32)) := D1 (Or.inl (hw _ (List.mem_of_getElem? (i := 183) rfl))) (ty := .int) (by decide)
  have F1_191 : Fld Z h1 b1 "java/util/ArrayList$Itr" "cursor" "I" (.int (0 : Int32)) := D1 (Or.inl (hw _ (List.mem_of_getElem? (i := 191) rfl))) (ty := .int) (by decide)
  have kn5 : ∀ t, own_S p e below T1 (mkF m 3 #[.val (.ref ls)] [(.ref b1)]) t → Gl t := fun t kt => kn0 t (st1 _ kt)
  have kn6 : ∀ t, own_S p e below T1 (mkF m 5 #[.val (.ref ls)] [(.ref ls), (.ref b1), (.ref b1)]) t → Gl t := fun t kt => kn5 t (by
    show own_S p e below T1 (mkF m 3 #[.val (.ref ls)] [(.ref b1)]) _
    refine XS.dup X1.here hx rfl (hb hby d_jdk_38_method_55_3) rfl rfl ?_
    show own_S p e below T1 (mkF m 4 #[.val (.ref ls)] [(.ref b1), (.ref b1)]) _
    refine XS.aloadN X1.here hx rfl (hb hby d_jdk_38_method_55_4) rfl rfl ?_
    exact kt)
  have f8 := (F_ls_modCount.ext E1)
  obtain ⟨_, _, ⟨T7, L7, cc7, ss7⟩, -, X7, ⟨Lc7, hQ7, l7, y7, z7⟩, st7⟩ := X1.specialBack hx (y := (⟨"java/util/ArrayList$Itr", "<init>", "(Ljava/util/ArrayList;)V"⟩ : MethodName)) rfl hown (mvT hZ (hw _ (List.mem_of_getElem? (i := 172) rfl))) (mvT hZ (hw _ (List.mem_of_getElem? (i := 173) rfl))) (mvT hZ (hw _ (List.mem_of_getElem? (i := 175) rfl))) (by decide) (backOf (W := 1) (rm24 l Z a0 hw [] b1 ls  h1 n0 Z2 Od3 A1 F1_177 F1_180 F1_183 F1_191 g_b1 f8 ne_ls_b1) hZ (hw _ (List.mem_of_getElem? (i := 175) rfl)) (hw _ (List.mem_of_getElem? (i := 171) rfl)) (by decide) (by decide)) (g := (mkF m 5 #[.val (.ref ls)] [(.ref ls), (.ref b1), (.ref b1)])) rfl (by rw [hml]; rfl) (Steps.refl _) (a := b1) (argsL := [(.ref ls)]) (rest := [(.ref b1)]) (lenOf pd_10 rfl) rfl (by show 2 * 0 + _ ≤ _; exact Nat.le_of_eq rfl) (hb hby d_jdk_38_method_55_5) (fun _ _ => ⟨rfl, e1, (by decide : 1 + 0 ≤ _), (by decide : 4 + 0 ≤ _)⟩)
  dsimp only [Pt.U, Pt.locs, Pt.cells, Pt.slots] at X7 l7 y7 z7 st7 hQ7
  subst l7 y7 z7
  have X7 : Stand p l e _ _ m _ below meth c T7 _ 1 4 := X7
  obtain ⟨rfl, Nq7, K7, Ex7_a, Fx7_a_0, Fx7_a_1, Fx7_a_2, Fx7_a_3⟩ := hQ7
  have Nf7 := Fr.app Nf0 Nq7
  have Z9 : n0 ≤ T7.heap.size := Nat.le_trans Z2 K7.1
  have Od10 : Old Z n0 T7.heap := Od3.keep K7 (allS g_b1 all0)
  have K11 : Keep h0 T7.heap [] := K4.trans K7 (allS (Or.inr sz_b1) all0)
  have kn12 : ∀ t, own_S p e below T7 (mkF m 8 #[.val (.ref ls)] [(.ref b1)]) t → Gl t := fun t kt => kn6 t (st7.trans kt)
  obtain ⟨fs, hr, hrun, hended, hW, hsame⟩ := X7.leave (v := some (.ref b1)) (fun h => by rw [Bd.returns] at h; cases h)
  refine ⟨_, _, hGl _ (kn12 _ (by
      show own_S p e below T7 (mkF m 8 #[.val (.ref ls)] [(.ref b1)]) _
      jvm_step X7.here [X7.here.top, hx, (hb hby d_jdk_38_method_55_8), X7.method', Bd.returns, Value.isRef, FieldType.isReference]
      first | (intro acts; rw [hr _ acts rfl rfl rfl]) | rw [hr _ _ rfl rfl rfl]
      exact Steps.refl _)), hrun, hended, _, _, rfl, ?_, ⟨_, rfl⟩, hW, hsame.mono (by decide) (by decide)⟩
  show Q23 Z ls h0 n0 _ T7.heap _
  exact ⟨b1, rfl, Nf7, g_b1, sz_b1, K11, Ex7_a, Fx7_a_0, Fx7_a_1, Fx7_a_2, Fx7_a_3⟩

theorem d_jdk_49_method_2_0 : decode jdk_49_method_2_code 0 = .ok (.aload_n 0, 1) := by decide +kernel
theorem d_jdk_49_method_2_1 : decode jdk_49_method_2_code 1 = .ok (.getfield 25, 3) := by decide +kernel
theorem d_jdk_49_method_2_4 : decode jdk_49_method_2_code 4 = .ok (.aload_n 0, 1) := by decide +kernel
theorem d_jdk_49_method_2_5 : decode jdk_49_method_2_code 5 = .ok (.getfield 1, 3) := by decide +kernel
theorem d_jdk_49_method_2_8 : decode jdk_49_method_2_code 8 = .ok (.getfield 28, 3) := by decide +kernel
theorem d_jdk_49_method_2_11 : decode jdk_49_method_2_code 11 = .ok (.if_icmp .eq 7, 3) := by decide +kernel
theorem d_jdk_49_method_2_14 : decode jdk_49_method_2_code 14 = .ok (.iconst 1, 1) := by decide +kernel
theorem d_jdk_49_method_2_15 : decode jdk_49_method_2_code 15 = .ok (.goto 4, 3) := by decide +kernel
theorem d_jdk_49_method_2_19 : decode jdk_49_method_2_code 19 = .ok (.ireturn, 1) := by decide +kernel
theorem ef_rm25_0 (m : MethodId) (x0 : Addr) : entryFrame m #[(.ref x0)] 1 = mkF m 0 #[.val (.ref x0)] [] := by first | (simp [entryFrame, mkF, argsToLocals, Value.category]; done) | rfl
def Q25_0 (Z : State) (a1 : Addr) (ls : Addr) (h0 : Heap) (n0 : Nat) (v : Option Value) (h : Heap) (L : List Loc) : Prop := v = some (.int (1 : Int32)) ∧ Fr n0 L ∧ h = h0
set_option maxRecDepth 65536 in
set_option maxHeartbeats 40000000 in
theorem rm25_0 (l : Launch) (Z : State) (a0 : Array Value) (hw : ∀ d ∈ tables_1, d.before a0 Z = true) (ws : List Jvm.Cond) (a1 : Addr) (ls : Addr) (h0 : Heap) (n0 : Nat) (Z0 : n0 ≤ h0.size) (E_a1 : Exa Z h0 a1 "java/util/ArrayList$Itr") (F_a1_this0 : Fld Z h0 a1 "java/util/ArrayList$Itr" "this$0" "Ljava/util/ArrayList;" (.ref ls)) (F_a1_cursor : Fld Z h0 a1 "java/util/ArrayList$Itr" "cursor" "I" (.int (0 : Int32))) (F_ls_size : Fld Z h0 ls "java/util/ArrayList" "size" "I" (.int (1 : Int32))) :
    MetFree l (⟨"java/util/ArrayList$Itr", "hasNext", "()Z"⟩ : MethodName) (head1 (Jvm.Cond.code (⟨"java/util/ArrayList$Itr", "hasNext", "()Z"⟩ : MethodName) jdk_49_method_2_code 1 (some .boolean) :: ws) ({ frames := 0, cells := 0, slots := 0, locals := 0 } : Room)) (fun a U => a = #[(.ref a1)] ∧ Z.Warmed39 U.vm ∧ U.heap = h0) (fun _ _ _ _ _ => True) (fun _ U o U' => ∃ v L, o = .returned v ∧ Q25_0 Z a1 ls h0 n0 v U'.heap L ∧ FrameEnd U o U' L ({ frames := 0, cells := 0, slots := 0, locals := 0 } : Room).cells ({ frames := 0, cells := 0, slots := 0, locals := 0 } : Room).slots) := by
  refine MetFree.of_bodySF (plainFor_of_name pn_10) hisR ?_
  intro p e s m args below meth c s₁ Bd hml0 hP hK
  obtain ⟨rfl, hZ, hh⟩ := hP
  have hx := Bd.exec
  have hby := Bd.bytes
  have hml : c.maxLocals = 1 := hml0
  have hown : s.vm.findClass "java/util/ArrayList$Itr" = some m.cls := findClass_of_methodNamed Bd.named
  have hnm := (name_of_methodNamed Bd.named Bd.method).1
  have X0 : Stand p l e ({ frames := 0, cells := 0, slots := 0, locals := 0 } : Room) s m #[(.ref a1)] below meth c s₁ [] 0 0 := Stand.of_body Bd
  have e0 : s₁.heap = h0 := by rw [← hh, Bd.state]; rfl
  have Nf0 := Fr.nil n0
  obtain ⟨Gl, hGl, kn0⟩ : ∃ Gl : State → Prop, (∀ t, Gl t → Steps p.tables e below (s₁.setTop (entryFrame m #[(.ref a1)] 1)) t) ∧ ∀ t, own_S p e below s₁ (mkF m 0 #[.val (.ref a1)] []) t → Gl t := ⟨fun t => Steps p.tables e below (s₁.setTop (entryFrame m #[(.ref a1)] 1)) t, fun _ k => k, fun t k => castTop (ef_rm25_0 m a1) k⟩
  have kn1 : ∀ t, own_S p e below s₁ (mkF m 1 #[.val (.ref a1)] [(.ref a1)]) t → Gl t := fun t kt => kn0 t (by
    show own_S p e below s₁ (mkF m 0 #[.val (.ref a1)] []) _
    refine XS.aloadN X0.here hx rfl (hb hby d_jdk_49_method_2_0) rfl rfl ?_
    exact kt)
  obtain ⟨T2, X2, e2, st2⟩ := getF X0 hx hZ hown (host := "") (Or.inl (hw _ (List.mem_of_getElem? (i := 190) rfl))) Via.refl e0 F_a1_cursor (g := (mkF m 1 #[.val (.ref a1)] [(.ref a1)])) rfl rfl (hb hby d_jdk_49_method_2_1)
  have kn3 : ∀ t, own_S p e below T2 (mkF m 4 #[.val (.ref a1)] [(.int (0 : Int32))]) t → Gl t := fun t kt => kn1 t (st2 _ kt)
  have kn4 : ∀ t, own_S p e below T2 (mkF m 5 #[.val (.ref a1)] [(.ref a1), (.int (0 : Int32))]) t → Gl t := fun t kt => kn3 t (by
    show own_S p e below T2 (mkF m 4 #[.val (.ref a1)] [(.int (0 : Int32))]) _
    refine XS.aloadN X2.here hx rfl (hb hby d_jdk_49_method_2_4) rfl rfl ?_
    exact kt)
  obtain ⟨T5, X5, e5, st5⟩ := getF X2 hx hZ hown (host := "") (Or.inl (hw _ (List.mem_of_getElem? (i := 176) rfl))) Via.refl e2 F_a1_this0 (g := (mkF m 5 #[.val (.ref a1)] [(.ref a1), (.int (0 : Int32))])) rfl rfl (hb hby d_jdk_49_method_2_5)
  have kn6 : ∀ t, own_S p e below T5 (mkF m 8 #[.val (.ref a1)] [(.ref ls), (.int (0 : Int32))]) t → Gl t := fun t kt => kn4 t (st5 _ kt)
  obtain ⟨T7, X7, e7, st7⟩ := getF X5 hx hZ hown (Or.inr (hw _ (List.mem_of_getElem? (i := 192) rfl))) Via.refl e5 F_ls_size (g := (mkF m 8 #[.val (.ref a1)] [(.ref ls), (.int (0 : Int32))])) rfl rfl (hb hby d_jdk_49_method_2_8)
  have kn8 : ∀ t, own_S p e below T7 (mkF m 11 #[.val (.ref a1)] [(.int (1 : Int32)), (.int (0 : Int32))]) t → Gl t := fun t kt => kn6 t (st7 _ kt)
  have kn9 : ∀ t, own_S p e below T7 (mkF m 19 #[.val (.ref a1)] [(.int (1 : Int32))]) t → Gl t := fun t kt => kn8 t (by
    show own_S p e below T7 (mkF m 11 #[.val (.ref a1)] [(.int (1 : Int32)), (.int (0 : Int32))]) _
    refine XS.icmpNo X7.here hx rfl (hb hby d_jdk_49_method_2_11) rfl (feq (by decide : ¬ ((0 : Int32) = (1 : Int32)))).1 ?_
    show own_S p e below T7 (mkF m 14 #[.val (.ref a1)] []) _
    refine XS.iconst X7.here hx rfl (hb hby d_jdk_49_method_2_14) ?_
    show own_S p e below T7 (mkF m 15 #[.val (.ref a1)] [(.int (1 : Int32))]) _
    refine XS.goto X7.here hx rfl (pc0 := 15) (pc' := 19) rfl (hb hby d_jdk_49_method_2_15) (by decide) (by decide) ?_
    exact kt)
  obtain ⟨fs, hr, hrun, hended, hW, hsame⟩ := X7.leave (v := some (.int (1 : Int32))) (fun h => by rw [Bd.returns] at h; cases h)
  refine ⟨_, _, hGl _ (kn9 _ (retN X7 hx (t := .boolean) Bd.returns (by simp) (hb hby d_jdk_49_method_2_19) hr)), hrun, hended, _, _, rfl, ?_, ⟨_, rfl⟩, hW, hsame.mono (by decide) (by decide)⟩
  show Q25_0 Z a1 ls h0 n0 _ T7.heap _
  rw [e7]
  exact ⟨rfl, Nf0, rfl⟩

theorem d_jdk_49_method_2_18 : decode jdk_49_method_2_code 18 = .ok (.iconst 0, 1) := by decide +kernel
theorem ef_rm25_1 (m : MethodId) (x0 : Addr) : entryFrame m #[(.ref x0)] 1 = mkF m 0 #[.val (.ref x0)] [] := by first | (simp [entryFrame, mkF, argsToLocals, Value.category]; done) | rfl
def Q25_1 (Z : State) (a1 : Addr) (ls : Addr) (h0 : Heap) (n0 : Nat) (v : Option Value) (h : Heap) (L : List Loc) : Prop := v = some (.int (0 : Int32)) ∧ Fr n0 L ∧ h = h0
set_option maxRecDepth 65536 in
set_option maxHeartbeats 40000000 in
theorem rm25_1 (l : Launch) (Z : State) (a0 : Array Value) (hw : ∀ d ∈ tables_1, d.before a0 Z = true) (ws : List Jvm.Cond) (a1 : Addr) (ls : Addr) (h0 : Heap) (n0 : Nat) (Z0 : n0 ≤ h0.size) (E_a1 : Exa Z h0 a1 "java/util/ArrayList$Itr") (F_a1_this0 : Fld Z h0 a1 "java/util/ArrayList$Itr" "this$0" "Ljava/util/ArrayList;" (.ref ls)) (F_a1_cursor : Fld Z h0 a1 "java/util/ArrayList$Itr" "cursor" "I" (.int (1 : Int32))) (F_ls_size : Fld Z h0 ls "java/util/ArrayList" "size" "I" (.int (1 : Int32))) :
    MetFree l (⟨"java/util/ArrayList$Itr", "hasNext", "()Z"⟩ : MethodName) (head1 (Jvm.Cond.code (⟨"java/util/ArrayList$Itr", "hasNext", "()Z"⟩ : MethodName) jdk_49_method_2_code 1 (some .boolean) :: ws) ({ frames := 0, cells := 0, slots := 0, locals := 0 } : Room)) (fun a U => a = #[(.ref a1)] ∧ Z.Warmed39 U.vm ∧ U.heap = h0) (fun _ _ _ _ _ => True) (fun _ U o U' => ∃ v L, o = .returned v ∧ Q25_1 Z a1 ls h0 n0 v U'.heap L ∧ FrameEnd U o U' L ({ frames := 0, cells := 0, slots := 0, locals := 0 } : Room).cells ({ frames := 0, cells := 0, slots := 0, locals := 0 } : Room).slots) := by
  refine MetFree.of_bodySF (plainFor_of_name pn_10) hisR ?_
  intro p e s m args below meth c s₁ Bd hml0 hP hK
  obtain ⟨rfl, hZ, hh⟩ := hP
  have hx := Bd.exec
  have hby := Bd.bytes
  have hml : c.maxLocals = 1 := hml0
  have hown : s.vm.findClass "java/util/ArrayList$Itr" = some m.cls := findClass_of_methodNamed Bd.named
  have hnm := (name_of_methodNamed Bd.named Bd.method).1
  have X0 : Stand p l e ({ frames := 0, cells := 0, slots := 0, locals := 0 } : Room) s m #[(.ref a1)] below meth c s₁ [] 0 0 := Stand.of_body Bd
  have e0 : s₁.heap = h0 := by rw [← hh, Bd.state]; rfl
  have Nf0 := Fr.nil n0
  obtain ⟨Gl, hGl, kn0⟩ : ∃ Gl : State → Prop, (∀ t, Gl t → Steps p.tables e below (s₁.setTop (entryFrame m #[(.ref a1)] 1)) t) ∧ ∀ t, own_S p e below s₁ (mkF m 0 #[.val (.ref a1)] []) t → Gl t := ⟨fun t => Steps p.tables e below (s₁.setTop (entryFrame m #[(.ref a1)] 1)) t, fun _ k => k, fun t k => castTop (ef_rm25_1 m a1) k⟩
  have kn1 : ∀ t, own_S p e below s₁ (mkF m 1 #[.val (.ref a1)] [(.ref a1)]) t → Gl t := fun t kt => kn0 t (by
    show own_S p e below s₁ (mkF m 0 #[.val (.ref a1)] []) _
    refine XS.aloadN X0.here hx rfl (hb hby d_jdk_49_method_2_0) rfl rfl ?_
    exact kt)
  obtain ⟨T2, X2, e2, st2⟩ := getF X0 hx hZ hown (host := "") (Or.inl (hw _ (List.mem_of_getElem? (i := 190) rfl))) Via.refl e0 F_a1_cursor (g := (mkF m 1 #[.val (.ref a1)] [(.ref a1)])) rfl rfl (hb hby d_jdk_49_method_2_1)
  have kn3 : ∀ t, own_S p e below T2 (mkF m 4 #[.val (.ref a1)] [(.int (1 : Int32))]) t → Gl t := fun t kt => kn1 t (st2 _ kt)
  have kn4 : ∀ t, own_S p e below T2 (mkF m 5 #[.val (.ref a1)] [(.ref a1), (.int (1 : Int32))]) t → Gl t := fun t kt => kn3 t (by
    show own_S p e below T2 (mkF m 4 #[.val (.ref a1)] [(.int (1 : Int32))]) _
    refine XS.aloadN X2.here hx rfl (hb hby d_jdk_49_method_2_4) rfl rfl ?_
    exact kt)
  obtain ⟨T5, X5, e5, st5⟩ := getF X2 hx hZ hown (host := "") (Or.inl (hw _ (List.mem_of_getElem? (i := 176) rfl))) Via.refl e2 F_a1_this0 (g := (mkF m 5 #[.val (.ref a1)] [(.ref a1), (.int (1 : Int32))])) rfl rfl (hb hby d_jdk_49_method_2_5)
  have kn6 : ∀ t, own_S p e below T5 (mkF m 8 #[.val (.ref a1)] [(.ref ls), (.int (1 : Int32))]) t → Gl t := fun t kt => kn4 t (st5 _ kt)
  obtain ⟨T7, X7, e7, st7⟩ := getF X5 hx hZ hown (Or.inr (hw _ (List.mem_of_getElem? (i := 192) rfl))) Via.refl e5 F_ls_size (g := (mkF m 8 #[.val (.ref a1)] [(.ref ls), (.int (1 : Int32))])) rfl rfl (hb hby d_jdk_49_method_2_8)
  have kn8 : ∀ t, own_S p e below T7 (mkF m 11 #[.val (.ref a1)] [(.int (1 : Int32)), (.int (1 : Int32))]) t → Gl t := fun t kt => kn6 t (st7 _ kt)
  have kn9 : ∀ t, own_S p e below T7 (mkF m 19 #[.val (.ref a1)] [(.int (0 : Int32))]) t → Gl t := fun t kt => kn8 t (by
    show own_S p e below T7 (mkF m 11 #[.val (.ref a1)] [(.int (1 : Int32)), (.int (1 : Int32))]) _
    refine XS.icmpYes X7.here hx rfl (pc0 := 11) (pc' := 18) rfl (hb hby d_jdk_49_method_2_11) rfl (teq (by decide : (1 : Int32) = (1 : Int32))).1 (by decide) (by decide) ?_
    show own_S p e below T7 (mkF m 18 #[.val (.ref a1)] []) _
    refine XS.iconst X7.here hx rfl (hb hby d_jdk_49_method_2_18) ?_
    exact kt)
  obtain ⟨fs, hr, hrun, hended, hW, hsame⟩ := X7.leave (v := some (.int (0 : Int32))) (fun h => by rw [Bd.returns] at h; cases h)
  refine ⟨_, _, hGl _ (kn9 _ (retN X7 hx (t := .boolean) Bd.returns (by simp) (hb hby d_jdk_49_method_2_19) hr)), hrun, hended, _, _, rfl, ?_, ⟨_, rfl⟩, hW, hsame.mono (by decide) (by decide)⟩
  show Q25_1 Z a1 ls h0 n0 _ T7.heap _
  rw [e7]
  exact ⟨rfl, Nf0, rfl⟩

theorem d_jdk_49_method_6_0 : decode jdk_49_method_6_code 0 = .ok (.aload_n 0, 1) := by decide +kernel
theorem d_jdk_49_method_6_1 : decode jdk_49_method_6_code 1 = .ok (.getfield 1, 3) := by decide +kernel
theorem d_jdk_49_method_6_4 : decode jdk_49_method_6_code 4 = .ok (.getfield 17, 3) := by decide +kernel
theorem d_jdk_49_method_6_7 : decode jdk_49_method_6_code 7 = .ok (.aload_n 0, 1) := by decide +kernel
theorem d_jdk_49_method_6_8 : decode jdk_49_method_6_code 8 = .ok (.getfield 22, 3) := by decide +kernel
theorem d_jdk_49_method_6_11 : decode jdk_49_method_6_code 11 = .ok (.if_icmp .eq 11, 3) := by decide +kernel
theorem d_jdk_49_method_6_22 : decode jdk_49_method_6_code 22 = .ok (.return_, 1) := by decide +kernel
theorem ef_rm27 (m : MethodId) (x0 : Addr) : entryFrame m #[(.ref x0)] 1 = mkF m 0 #[.val (.ref x0)] [] := by first | (simp [entryFrame, mkF, argsToLocals, Value.category]; done) | rfl
def Q27 (Z : State) (a1 : Addr) (ls : Addr) (h0 : Heap) (n0 : Nat) (v : Option Value) (h : Heap) (L : List Loc) : Prop := v = none ∧ Fr n0 L ∧ h = h0
set_option maxRecDepth 65536 in
set_option maxHeartbeats 40000000 in
theorem rm27 (l : Launch) (Z : State) (a0 : Array Value) (hw : ∀ d ∈ tables_1, d.before a0 Z = true) (ws : List Jvm.Cond) (a1 : Addr) (ls : Addr) (h0 : Heap) (n0 : Nat) (Z0 : n0 ≤ h0.size) (E_a1 : Exa Z h0 a1 "java/util/ArrayList$Itr") (F_a1_this0 : Fld Z h0 a1 "java/util/ArrayList$Itr" "this$0" "Ljava/util/ArrayList;" (.ref ls)) (F_a1_expectedModCount : Fld Z h0 a1 "java/util/ArrayList$Itr" "expectedModCount" "I" (.int (1 : Int32))) (F_ls_modCount : Fld Z h0 ls "java/util/AbstractList" "modCount" "I" (.int (1 : Int32))) :
    MetFree l (⟨"java/util/ArrayList$Itr", "checkForComodification", "()V"⟩ : MethodName) (head1 (Jvm.Cond.code (⟨"java/util/ArrayList$Itr", "checkForComodification", "()V"⟩ : MethodName) jdk_49_method_6_code 1 none :: ws) ({ frames := 0, cells := 0, slots := 0, locals := 0 } : Room)) (fun a U => a = #[(.ref a1)] ∧ Z.Warmed39 U.vm ∧ U.heap = h0) (fun _ _ _ _ _ => True) (fun _ U o U' => ∃ v L, o = .returned v ∧ Q27 Z a1 ls h0 n0 v U'.heap L ∧ FrameEnd U o U' L ({ frames := 0, cells := 0, slots := 0, locals := 0 } : Room).cells ({ frames := 0, cells := 0, slots := 0, locals := 0 } : Room).slots) := by
  refine MetFree.of_bodySF (plainFor_of_name pn_10) hisR ?_
  intro p e s m args below meth c s₁ Bd hml0 hP hK
  obtain ⟨rfl, hZ, hh⟩ := hP
  have hx := Bd.exec
  have hby := Bd.bytes
  have hml : c.maxLocals = 1 := hml0
  have hown : s.vm.findClass "java/util/ArrayList$Itr" = some m.cls := findClass_of_methodNamed Bd.named
  have hnm := (name_of_methodNamed Bd.named Bd.method).1
  have X0 : Stand p l e ({ frames := 0, cells := 0, slots := 0, locals := 0 } : Room) s m #[(.ref a1)] below meth c s₁ [] 0 0 := Stand.of_body Bd
  have e0 : s₁.heap = h0 := by rw [← hh, Bd.state]; rfl
  have Nf0 := Fr.nil n0
  obtain ⟨Gl, hGl, kn0⟩ : ∃ Gl : State → Prop, (∀ t, Gl t → Steps p.tables e below (s₁.setTop (entryFrame m #[(.ref a1)] 1)) t) ∧ ∀ t, own_S p e below s₁ (mkF m 0 #[.val (.ref a1)] []) t → Gl t := ⟨fun t => Steps p.tables e below (s₁.setTop (entryFrame m #[(.ref a1)] 1)) t, fun _ k => k, fun t k => castTop (ef_rm27 m a1) k⟩
  have kn1 : ∀ t, own_S p e below s₁ (mkF m 1 #[.val (.ref a1)] [(.ref a1)]) t → Gl t := fun t kt => kn0 t (by
    show own_S p e below s₁ (mkF m 0 #[.val (.ref a1)] []) _
    refine XS.aloadN X0.here hx rfl (hb hby d_jdk_49_method_6_0) rfl rfl ?_
    exact kt)
  obtain ⟨T2, X2, e2, st2⟩ := getF X0 hx hZ hown (host := "") (Or.inl (hw _ (List.mem_of_getElem? (i := 176) rfl))) Via.refl e0 F_a1_this0 (g := (mkF m 1 #[.val (.ref a1)] [(.ref a1)])) rfl rfl (hb hby d_jdk_49_method_6_1)
  have kn3 : ∀ t, own_S p e below T2 (mkF m 4 #[.val (.ref a1)] [(.ref ls)]) t → Gl t := fun t kt => kn1 t (st2 _ kt)
  obtain ⟨T4, X4, e4, st4⟩ := getF X2 hx hZ hown (host := "") (Or.inl (hw _ (List.mem_of_getElem? (i := 181) rfl))) (Via.of (hw _ (List.mem_of_getElem? (i := 103) rfl))) e2 F_ls_modCount (g := (mkF m 4 #[.val (.ref a1)] [(.ref ls)])) rfl rfl (hb hby d_jdk_49_method_6_4)
  have kn5 : ∀ t, own_S p e below T4 (mkF m 7 #[.val (.ref a1)] [(.int (1 : Int32))]) t → Gl t := fun t kt => kn3 t (st4 _ kt)
  have kn6 : ∀ t, own_S p e below T4 (mkF m 8 #[.val (.ref a1)] [(.ref a1), (.int (1 : Int32))]) t → Gl t := fun t kt => kn5 t (by
    show own_S p e below T4 (mkF m 7 #[.val (.ref a1)] [(.int (1 : Int32))]) _
    refine XS.aloadN X4.here hx rfl (hb hby d_jdk_49_method_6_7) rfl rfl ?_
    exact kt)
  obtain ⟨T7, X7, e7, st7⟩ := getF X4 hx hZ hown (host := "") (Or.inl (hw _ (List.mem_of_getElem? (i := 182) rfl))) Via.refl e4 F_a1_expectedModCount (g := (mkF m 8 #[.val (.ref a1)] [(.ref a1), (.int (1 : Int32))])) rfl rfl (hb hby d_jdk_49_method_6_8)
  have kn8 : ∀ t, own_S p e below T7 (mkF m 11 #[.val (.ref a1)] [(.int (1 : Int32)), (.int (1 : Int32))]) t → Gl t := fun t kt => kn6 t (st7 _ kt)
  have kn9 : ∀ t, own_S p e below T7 (mkF m 22 #[.val (.ref a1)] []) t → Gl t := fun t kt => kn8 t (by
    show own_S p e below T7 (mkF m 11 #[.val (.ref a1)] [(.int (1 : Int32)), (.int (1 : Int32))]) _
    refine XS.icmpYes X7.here hx rfl (pc0 := 11) (pc' := 22) rfl (hb hby d_jdk_49_method_6_11) rfl (teq (by decide : (1 : Int32) = (1 : Int32))).1 (by decide) (by decide) ?_
    exact kt)
  obtain ⟨fs, hr, hrun, hended, hW, hsame⟩ := X7.leave (v := none) (fun _ => rfl)
  refine ⟨_, _, hGl _ (kn9 _ (X7.returnOut hx Bd.returns (hb hby d_jdk_49_method_6_22) hr)), hrun, hended, _, _, rfl, ?_, ⟨_, rfl⟩, hW, hsame.mono (by decide) (by decide)⟩
  show Q27 Z a1 ls h0 n0 _ T7.heap _
  rw [e7]
  exact ⟨rfl, Nf0, rfl⟩

theorem d_jdk_49_method_3_0 : decode jdk_49_method_3_code 0 = .ok (.aload_n 0, 1) := by decide +kernel
theorem d_jdk_49_method_3_1 : decode jdk_49_method_3_code 1 = .ok (.invokevirtual 31, 3) := by decide +kernel
theorem d_jdk_49_method_3_4 : decode jdk_49_method_3_code 4 = .ok (.aload_n 0, 1) := by decide +kernel
theorem d_jdk_49_method_3_5 : decode jdk_49_method_3_code 5 = .ok (.getfield 25, 3) := by decide +kernel
theorem d_jdk_49_method_3_8 : decode jdk_49_method_3_code 8 = .ok (.istore_n 1, 1) := by decide +kernel
theorem d_jdk_49_method_3_9 : decode jdk_49_method_3_code 9 = .ok (.iload_n 1, 1) := by decide +kernel
theorem d_jdk_49_method_3_10 : decode jdk_49_method_3_code 10 = .ok (.aload_n 0, 1) := by decide +kernel
theorem d_jdk_49_method_3_11 : decode jdk_49_method_3_code 11 = .ok (.getfield 1, 3) := by decide +kernel
theorem d_jdk_49_method_3_14 : decode jdk_49_method_3_code 14 = .ok (.getfield 28, 3) := by decide +kernel
theorem d_jdk_49_method_3_17 : decode jdk_49_method_3_code 17 = .ok (.if_icmp .lt 11, 3) := by decide +kernel
theorem d_jdk_49_method_3_28 : decode jdk_49_method_3_code 28 = .ok (.aload_n 0, 1) := by decide +kernel
theorem d_jdk_49_method_3_29 : decode jdk_49_method_3_code 29 = .ok (.getfield 1, 3) := by decide +kernel
theorem d_jdk_49_method_3_32 : decode jdk_49_method_3_code 32 = .ok (.getfield 37, 3) := by decide +kernel
theorem d_jdk_49_method_3_35 : decode jdk_49_method_3_code 35 = .ok (.astore_n 2, 1) := by decide +kernel
theorem d_jdk_49_method_3_36 : decode jdk_49_method_3_code 36 = .ok (.iload_n 1, 1) := by decide +kernel
theorem d_jdk_49_method_3_37 : decode jdk_49_method_3_code 37 = .ok (.aload_n 2, 1) := by decide +kernel
theorem d_jdk_49_method_3_38 : decode jdk_49_method_3_code 38 = .ok (.arraylength, 1) := by decide +kernel
theorem d_jdk_49_method_3_39 : decode jdk_49_method_3_code 39 = .ok (.if_icmp .lt 11, 3) := by decide +kernel
theorem d_jdk_49_method_3_50 : decode jdk_49_method_3_code 50 = .ok (.aload_n 0, 1) := by decide +kernel
theorem d_jdk_49_method_3_51 : decode jdk_49_method_3_code 51 = .ok (.iload_n 1, 1) := by decide +kernel
theorem d_jdk_49_method_3_52 : decode jdk_49_method_3_code 52 = .ok (.iconst 1, 1) := by decide +kernel
theorem d_jdk_49_method_3_53 : decode jdk_49_method_3_code 53 = .ok (.iadd, 1) := by decide +kernel
theorem d_jdk_49_method_3_54 : decode jdk_49_method_3_code 54 = .ok (.putfield 25, 3) := by decide +kernel
theorem d_jdk_49_method_3_57 : decode jdk_49_method_3_code 57 = .ok (.aload_n 2, 1) := by decide +kernel
theorem d_jdk_49_method_3_58 : decode jdk_49_method_3_code 58 = .ok (.aload_n 0, 1) := by decide +kernel
theorem d_jdk_49_method_3_59 : decode jdk_49_method_3_code 59 = .ok (.iload_n 1, 1) := by decide +kernel
theorem d_jdk_49_method_3_60 : decode jdk_49_method_3_code 60 = .ok (.dup_x1, 1) := by decide +kernel
theorem d_jdk_49_method_3_61 : decode jdk_49_method_3_code 61 = .ok (.putfield 13, 3) := by decide +kernel
theorem d_jdk_49_method_3_64 : decode jdk_49_method_3_code 64 = .ok (.aaload, 1) := by decide +kernel
theorem d_jdk_49_method_3_65 : decode jdk_49_method_3_code 65 = .ok (.areturn, 1) := by decide +kernel
theorem ef_rm26 (m : MethodId) (x0 : Addr) : entryFrame m #[(.ref x0)] 3 = mkF m 0 #[.val (.ref x0), .unset, .unset] [] := by first | (simp [entryFrame, mkF, argsToLocals, Value.category]; done) | rfl
def Q26 (Z : State) (a1 : Addr) (ls : Addr) (bE : Addr) (kB : ClassId) (ea : Addr) (h0 : Heap) (n0 : Nat) (v : Option Value) (h : Heap) (L : List Loc) : Prop := v = some (.ref ea) ∧ Fr n0 L ∧ Keep h0 h [a1] ∧ Exa Z h a1 "java/util/ArrayList$Itr" ∧ Fld Z h a1 "java/util/ArrayList$Itr" "this$0" "Ljava/util/ArrayList;" (.ref ls) ∧ Fld Z h a1 "java/util/ArrayList$Itr" "lastRet" "I" (.int (0 : Int32)) ∧ Fld Z h a1 "java/util/ArrayList$Itr" "expectedModCount" "I" (.int (1 : Int32)) ∧ Fld Z h a1 "java/util/ArrayList$Itr" "cursor" "I" (.int (1 : Int32))
set_option maxRecDepth 65536 in
set_option maxHeartbeats 40000000 in
theorem rm26 (l : Launch) (Z : State) (a0 : Array Value) (hw : ∀ d ∈ tables_1, d.before a0 Z = true) (ws : List Jvm.Cond) (a1 : Addr) (ls : Addr) (bE : Addr) (kB : ClassId) (ea : Addr) (h0 : Heap) (n0 : Nat) (Z0 : n0 ≤ h0.size) (O0 : Old Z n0 h0) (E_a1 : Exa Z h0 a1 "java/util/ArrayList$Itr") (F_a1_this0 : Fld Z h0 a1 "java/util/ArrayList$Itr" "this$0" "Ljava/util/ArrayList;" (.ref ls)) (F_a1_lastRet : Fld Z h0 a1 "java/util/ArrayList$Itr" "lastRet" "I" (.int (-1 : Int32))) (F_a1_expectedModCount : Fld Z h0 a1 "java/util/ArrayList$Itr" "expectedModCount" "I" (.int (1 : Int32))) (F_a1_cursor : Fld Z h0 a1 "java/util/ArrayList$Itr" "cursor" "I" (.int (0 : Int32))) (g_a1 : n0 ≤ a1) (F_ls_modCount : Fld Z h0 ls "java/util/AbstractList" "modCount" "I" (.int (1 : Int32))) (F_ls_size : Fld Z h0 ls "java/util/ArrayList" "size" "I" (.int (1 : Int32))) (F_ls_elementData : Fld Z h0 ls "java/util/ArrayList" "elementData" "[Ljava/lang/Object;" (.ref bE)) (A_bE : Arv Z h0 bE kB (.object "java/lang/Object") (10 : Int32) [(.ref ea), .null, .null, .null, .null, .null, .null, .null, .null, .null] .null) (nla : @Ne Nat ls a1) (nba : @Ne Nat bE a1) :
    MetFree l (⟨"java/util/ArrayList$Itr", "next", "()Ljava/lang/Object;"⟩ : MethodName) (head1 (Jvm.Cond.code (⟨"java/util/ArrayList$Itr", "next", "()Ljava/lang/Object;"⟩ : MethodName) jdk_49_method_3_code 3 (some (.object "java/lang/Object")) :: ws) ({ frames := 1, cells := 0, slots := 0, locals := 12 } : Room)) (fun a U => a = #[(.ref a1)] ∧ Z.Warmed39 U.vm ∧ U.heap = h0) (fun _ _ _ _ _ => True) (fun _ U o U' => ∃ v L, o = .returned v ∧ Q26 Z a1 ls bE kB ea h0 n0 v U'.heap L ∧ FrameEnd U o U' L ({ frames := 1, cells := 0, slots := 0, locals := 12 } : Room).cells ({ frames := 1, cells := 0, slots := 0, locals := 12 } : Room).slots) := by
  refine MetFree.of_bodySF (plainFor_of_name pn_10) hisR ?_
  intro p e s m args below meth c s₁ Bd hml0 hP hK
  obtain ⟨rfl, hZ, hh⟩ := hP
  have hx := Bd.exec
  have hby := Bd.bytes
  have hml : c.maxLocals = 3 := hml0
  have hown : s.vm.findClass "java/util/ArrayList$Itr" = some m.cls := findClass_of_methodNamed Bd.named
  have hnm := (name_of_methodNamed Bd.named Bd.method).1
  have X0 : Stand p l e ({ frames := 1, cells := 0, slots := 0, locals := 12 } : Room) s m #[(.ref a1)] below meth c s₁ [] 0 0 := Stand.of_body Bd
  have e0 : s₁.heap = h0 := by rw [← hh, Bd.state]; rfl
  have Nf0 := Fr.nil n0
  obtain ⟨Gl, hGl, kn0⟩ : ∃ Gl : State → Prop, (∀ t, Gl t → Steps p.tables e below (s₁.setTop (entryFrame m #[(.ref a1)] 3)) t) ∧ ∀ t, own_S p e below s₁ (mkF m 0 #[.val (.ref a1), .unset, .unset] []) t → Gl t := ⟨fun t => Steps p.tables e below (s₁.setTop (entryFrame m #[(.ref a1)] 3)) t, fun _ k => k, fun t k => castTop (ef_rm26 m a1) k⟩
  have kn1 : ∀ t, own_S p e below s₁ (mkF m 1 #[.val (.ref a1), .unset, .unset] [(.ref a1)]) t → Gl t := fun t kt => kn0 t (by
    show own_S p e below s₁ (mkF m 0 #[.val (.ref a1), .unset, .unset] []) _
    refine XS.aloadN X0.here hx rfl (hb hby d_jdk_49_method_3_0) rfl rfl ?_
    exact kt)
  obtain ⟨cq2, kq2, qa2, qb2, qc2⟩ := isOf hZ e0 E_a1
  obtain ⟨_, _, ⟨T2, L2, cc2, ss2⟩, -, X2, ⟨Lc2, hQ2, l2, y2, z2⟩, st2⟩ := X0.virtualBack hx (y := (⟨"java/util/ArrayList$Itr", "checkForComodification", "()V"⟩ : MethodName)) (z := (⟨"java/util/ArrayList$Itr", "checkForComodification", "()V"⟩ : MethodName)) hown (mvT hZ (hw _ (List.mem_of_getElem? (i := 201) rfl))) (mvT hZ (hw _ (List.mem_of_getElem? (i := 202) rfl))) (notFace_of_selects (args := #[]) (mvT hZ (hw _ (List.mem_of_getElem? (i := 204) rfl)))) (mvT hZ (hw _ (List.mem_of_getElem? (i := 204) rfl))) (mvT hZ (hw _ (List.mem_of_getElem? (i := 203) rfl))) (by decide) (backOf (W := 0) (rm27 l Z a0 hw [] a1 ls h0 n0 Z0 E_a1 F_a1_this0 F_a1_expectedModCount F_ls_modCount) hZ (hw _ (List.mem_of_getElem? (i := 205) rfl)) (hw _ (List.mem_of_getElem? (i := 171) rfl)) (by decide) (by decide)) qa2 qc2 (g := (mkF m 1 #[.val (.ref a1), .unset, .unset] [(.ref a1)])) rfl (by rw [hml]; rfl) (Steps.refl _) (argsL := []) (rest := []) (lenOf pd_2 rfl) rfl (by show 2 * 0 + _ ≤ _; exact Nat.le_of_eq rfl) (hb hby d_jdk_49_method_3_1) (fun _ _ => ⟨rfl, e0, (by decide : 0 + 0 ≤ _), (by decide : 0 + 0 ≤ _)⟩)
  dsimp only [Pt.U, Pt.locs, Pt.cells, Pt.slots] at X2 l2 y2 z2 st2 hQ2
  subst l2 y2 z2
  have X2 : Stand p l e _ _ m _ below meth c T2 _ 0 0 := X2
  obtain ⟨rfl, Nq2, eq2⟩ := hQ2
  have Nf2 := Fr.app Nf0 Nq2
  have kn3 : ∀ t, own_S p e below T2 (mkF m 4 #[.val (.ref a1), .unset, .unset] []) t → Gl t := fun t kt => kn1 t (st2.trans kt)
  have kn4 : ∀ t, own_S p e below T2 (mkF m 5 #[.val (.ref a1), .unset, .unset] [(.ref a1)]) t → Gl t := fun t kt => kn3 t (by
    show own_S p e below T2 (mkF m 4 #[.val (.ref a1), .unset, .unset] []) _
    refine XS.aloadN X2.here hx rfl (hb hby d_jdk_49_method_3_4) rfl rfl ?_
    exact kt)
  obtain ⟨T5, X5, e5, st5⟩ := getF X2 hx hZ hown (host := "") (Or.inl (hw _ (List.mem_of_getElem? (i := 190) rfl))) Via.refl eq2 F_a1_cursor (g := (mkF m 5 #[.val (.ref a1), .unset, .unset] [(.ref a1)])) rfl rfl (hb hby d_jdk_49_method_3_5)
  have kn6 : ∀ t, own_S p e below T5 (mkF m 8 #[.val (.ref a1), .unset, .unset] [(.int (0 : Int32))]) t → Gl t := fun t kt => kn4 t (st5 _ kt)
  have kn7 : ∀ t, own_S p e below T5 (mkF m 11 #[.val (.ref a1), .val (.int (0 : Int32)), .unset] [(.ref a1), (.int (0 : Int32))]) t → Gl t := fun t kt => kn6 t (by
    show own_S p e below T5 (mkF m 8 #[.val (.ref a1), .unset, .unset] [(.int (0 : Int32))]) _
    refine XS.istoreN X5.here hx rfl (hb hby d_jdk_49_method_3_8) rfl (l' := #[.val (.ref a1), .val (.int (0 : Int32)), .unset]) rfl ?_
    show own_S p e below T5 (mkF m 9 #[.val (.ref a1), .val (.int (0 : Int32)), .unset] []) _
    refine XS.iloadN X5.here hx rfl (hb hby d_jdk_49_method_3_9) rfl ?_
    show own_S p e below T5 (mkF m 10 #[.val (.ref a1), .val (.int (0 : Int32)), .unset] [(.int (0 : Int32))]) _
    refine XS.aloadN X5.here hx rfl (hb hby d_jdk_49_method_3_10) rfl rfl ?_
    exact kt)
  obtain ⟨T8, X8, e8, st8⟩ := getF X5 hx hZ hown (host := "") (Or.inl (hw _ (List.mem_of_getElem? (i := 176) rfl))) Via.refl e5 F_a1_this0 (g := (mkF m 11 #[.val (.ref a1), .val (.int (0 : Int32)), .unset] [(.ref a1), (.int (0 : Int32))])) rfl rfl (hb hby d_jdk_49_method_3_11)
  have kn9 : ∀ t, own_S p e below T8 (mkF m 14 #[.val (.ref a1), .val (.int (0 : Int32)), .unset] [(.ref ls), (.int (0 : Int32))]) t → Gl t := fun t kt => kn7 t (st8 _ kt)
  obtain ⟨T10, X10, e10, st10⟩ := getF X8 hx hZ hown (Or.inr (hw _ (List.mem_of_getElem? (i := 192) rfl))) Via.refl e8 F_ls_size (g := (mkF m 14 #[.val (.ref a1), .val (.int (0 : Int32)), .unset] [(.ref ls), (.int (0 : Int32))])) rfl rfl (hb hby d_jdk_49_method_3_14)
  have kn11 : ∀ t, own_S p e below T10 (mkF m 17 #[.val (.ref a1), .val (.int (0 : Int32)), .unset] [(.int (1 : Int32)), (.int (0 : Int32))]) t → Gl t := fun t kt => kn9 t (st10 _ kt)
  have kn12 : ∀ t, own_S p e below T10 (mkF m 29 #[.val (.ref a1), .val (.int (0 : Int32)), .unset] [(.ref a1)]) t → Gl t := fun t kt => kn11 t (by
    show own_S p e below T10 (mkF m 17 #[.val (.ref a1), .val (.int (0 : Int32)), .unset] [(.int (1 : Int32)), (.int (0 : Int32))]) _
    refine XS.icmpYes X10.here hx rfl (pc0 := 17) (pc' := 28) rfl (hb hby d_jdk_49_method_3_17) rfl (tlt (by decide : (0 : Int32) < (1 : Int32))).1 (by decide) (by decide) ?_
    show own_S p e below T10 (mkF m 28 #[.val (.ref a1), .val (.int (0 : Int32)), .unset] []) _
    refine XS.aloadN X10.here hx rfl (hb hby d_jdk_49_method_3_28) rfl rfl ?_
    exact kt)
  obtain ⟨T13, X13, e13, st13⟩ := getF X10 hx hZ hown (host := "") (Or.inl (hw _ (List.mem_of_getElem? (i := 176) rfl))) Via.refl e10 F_a1_this0 (g := (mkF m 29 #[.val (.ref a1), .val (.int (0 : Int32)), .unset] [(.ref a1)])) rfl rfl (hb hby d_jdk_49_method_3_29)
  have kn14 : ∀ t, own_S p e below T13 (mkF m 32 #[.val (.ref a1), .val (.int (0 : Int32)), .unset] [(.ref ls)]) t → Gl t := fun t kt => kn12 t (st13 _ kt)
  obtain ⟨T15, X15, e15, st15⟩ := getF X13 hx hZ hown (host := "") (Or.inl (hw _ (List.mem_of_getElem? (i := 206) rfl))) Via.refl e13 F_ls_elementData (g := (mkF m 32 #[.val (.ref a1), .val (.int (0 : Int32)), .unset] [(.ref ls)])) rfl rfl (hb hby d_jdk_49_method_3_32)
  have kn16 : ∀ t, own_S p e below T15 (mkF m 35 #[.val (.ref a1), .val (.int (0 : Int32)), .unset] [(.ref bE)]) t → Gl t := fun t kt => kn14 t (st15 _ kt)
  have kn17 : ∀ t, own_S p e below T15 (mkF m 38 #[.val (.ref a1), .val (.int (0 : Int32)), .val (.ref bE)] [(.ref bE), (.int (0 : Int32))]) t → Gl t := fun t kt => kn16 t (by
    show own_S p e below T15 (mkF m 35 #[.val (.ref a1), .val (.int (0 : Int32)), .unset] [(.ref bE)]) _
    refine XS.astoreN X15.here hx rfl (hb hby d_jdk_49_method_3_35) rfl rfl (l' := #[.val (.ref a1), .val (.int (0 : Int32)), .val (.ref bE)]) rfl ?_
    show own_S p e below T15 (mkF m 36 #[.val (.ref a1), .val (.int (0 : Int32)), .val (.ref bE)] []) _
    refine XS.iloadN X15.here hx rfl (hb hby d_jdk_49_method_3_36) rfl ?_
    show own_S p e below T15 (mkF m 37 #[.val (.ref a1), .val (.int (0 : Int32)), .val (.ref bE)] [(.int (0 : Int32))]) _
    refine XS.aloadN X15.here hx rfl (hb hby d_jdk_49_method_3_37) rfl rfl ?_
    exact kt)
  obtain ⟨cl18, Ar18, -, Sz18, Ng18, -, -⟩ := id A_bE
  have kn19 : ∀ t, own_S p e below T15 (mkF m 54 #[.val (.ref a1), .val (.int (0 : Int32)), .val (.ref bE)] [(.int (1 : Int32)), (.ref a1)]) t → Gl t := fun t kt => kn17 t (by
    show own_S p e below T15 (mkF m 38 #[.val (.ref a1), .val (.int (0 : Int32)), .val (.ref bE)] [(.ref bE), (.int (0 : Int32))]) _
    refine X15.arraylength hx (by rw [e15]; exact Ar18.1) (State.isArrayOf_alike hZ.alike Ar18.2.1) (g := (mkF m 38 #[.val (.ref a1), .val (.int (0 : Int32)), .val (.ref bE)] [(.ref bE), (.int (0 : Int32))])) rfl rfl (hb hby d_jdk_49_method_3_38) _ ?_
    rw [len_of Sz18 Ng18]
    show own_S p e below T15 (mkF m 39 #[.val (.ref a1), .val (.int (0 : Int32)), .val (.ref bE)] [(.int (10 : Int32)), (.int (0 : Int32))]) _
    refine XS.icmpYes X15.here hx rfl (pc0 := 39) (pc' := 50) rfl (hb hby d_jdk_49_method_3_39) rfl (tlt (by decide : (0 : Int32) < (10 : Int32))).1 (by decide) (by decide) ?_
    show own_S p e below T15 (mkF m 50 #[.val (.ref a1), .val (.int (0 : Int32)), .val (.ref bE)] []) _
    refine XS.aloadN X15.here hx rfl (hb hby d_jdk_49_method_3_50) rfl rfl ?_
    show own_S p e below T15 (mkF m 51 #[.val (.ref a1), .val (.int (0 : Int32)), .val (.ref bE)] [(.ref a1)]) _
    refine XS.iloadN X15.here hx rfl (hb hby d_jdk_49_method_3_51) rfl ?_
    show own_S p e below T15 (mkF m 52 #[.val (.ref a1), .val (.int (0 : Int32)), .val (.ref bE)] [(.int (0 : Int32)), (.ref a1)]) _
    refine XS.iconst X15.here hx rfl (hb hby d_jdk_49_method_3_52) ?_
    show own_S p e below T15 (mkF m 53 #[.val (.ref a1), .val (.int (0 : Int32)), .val (.ref bE)] [(.int (1 : Int32)), (.int (0 : Int32)), (.ref a1)]) _
    refine XS.iadd X15.here hx rfl (hb hby d_jdk_49_method_3_53) rfl ?_
    rw [(by decide : ((0 : Int32) + (1 : Int32)) = (1 : Int32))]
    exact kt)
  obtain ⟨T20, h20, X20, e20, W20, st20⟩ := putF X15 hx hZ hown (host := "") (Or.inl (hw _ (List.mem_of_getElem? (i := 190) rfl))) Via.refl e15 F_a1_cursor E_a1 (Or.inl (hw _ (List.mem_of_getElem? (i := 191) rfl))) (hw _ (List.mem_of_getElem? (i := 170) rfl)) (ty := .int) (by decide) rfl rfl (g := (mkF m 54 #[.val (.ref a1), .val (.int (0 : Int32)), .val (.ref bE)] [(.int (1 : Int32)), (.ref a1)])) rfl rfl (hb hby d_jdk_49_method_3_54)
  have Z21 : n0 ≤ h20.size := Nat.le_trans Z0 (Keep.of_wr W20).1
  have Od22 : Old Z n0 h20 := O0.wr W20 g_a1
  have K23 : Keep h0 h20 [a1] := (Keep.refl h0 [a1]).wr W20 (Or.inl (List.mem_of_getElem? (i := 0) rfl))
  have Fw20 := F_a1_cursor.same W20
  have Nf24 := Fr.snoc X20 Nf2 g_a1
  have kn25 : ∀ t, own_S p e below T20 (mkF m 57 #[.val (.ref a1), .val (.int (0 : Int32)), .val (.ref bE)] []) t → Gl t := fun t kt => kn19 t (st20 _ kt)
  have kn26 : ∀ t, own_S p e below T20 (mkF m 61 #[.val (.ref a1), .val (.int (0 : Int32)), .val (.ref bE)] [(.int (0 : Int32)), (.ref a1), (.int (0 : Int32)), (.ref bE)]) t → Gl t := fun t kt => kn25 t (by
    show own_S p e below T20 (mkF m 57 #[.val (.ref a1), .val (.int (0 : Int32)), .val (.ref bE)] []) _
    refine XS.aloadN X20.here hx rfl (hb hby d_jdk_49_method_3_57) rfl rfl ?_
    show own_S p e below T20 (mkF m 58 #[.val (.ref a1), .val (.int (0 : Int32)), .val (.ref bE)] [(.ref bE)]) _
    refine XS.aloadN X20.here hx rfl (hb hby d_jdk_49_method_3_58) rfl rfl ?_
    show own_S p e below T20 (mkF m 59 #[.val (.ref a1), .val (.int (0 : Int32)), .val (.ref bE)] [(.ref a1), (.ref bE)]) _
    refine XS.iloadN X20.here hx rfl (hb hby d_jdk_49_method_3_59) rfl ?_
    show own_S p e below T20 (mkF m 60 #[.val (.ref a1), .val (.int (0 : Int32)), .val (.ref bE)] [(.int (0 : Int32)), (.ref a1), (.ref bE)]) _
    refine XS.dupX1 X20.here hx rfl (hb hby d_jdk_49_method_3_60) rfl rfl rfl ?_
    exact kt)
  have f27 := (F_a1_lastRet.other W20 (Or.inr (slot_ne (Or.inl (hw _ (List.mem_of_getElem? (i := 180) rfl))) (Or.inl (hw _ (List.mem_of_getElem? (i := 191) rfl))) (by decide) (t := .int) (t' := .int) (by decide) (by decide))))
  have f28 := (E_a1.wr W20)
  obtain ⟨T29, h29, X29, e29, W29, st29⟩ := putF X20 hx hZ hown (host := "") (Or.inl (hw _ (List.mem_of_getElem? (i := 179) rfl))) Via.refl e20 f27 f28 (Or.inl (hw _ (List.mem_of_getElem? (i := 180) rfl))) (hw _ (List.mem_of_getElem? (i := 170) rfl)) (ty := .int) (by decide) rfl rfl (g := (mkF m 61 #[.val (.ref a1), .val (.int (0 : Int32)), .val (.ref bE)] [(.int (0 : Int32)), (.ref a1), (.int (0 : Int32)), (.ref bE)])) rfl rfl (hb hby d_jdk_49_method_3_61)
  have Z30 : n0 ≤ h29.size := Nat.le_trans Z21 (Keep.of_wr W29).1
  have Od31 : Old Z n0 h29 := Od22.wr W29 g_a1
  have K32 : Keep h0 h29 [a1] := K23.wr W29 (Or.inl (List.mem_of_getElem? (i := 0) rfl))
  have Fw29 := f27.same W29
  have Nf33 := Fr.snoc X29 Nf24 g_a1
  have kn34 : ∀ t, own_S p e below T29 (mkF m 64 #[.val (.ref a1), .val (.int (0 : Int32)), .val (.ref bE)] [(.int (0 : Int32)), (.ref bE)]) t → Gl t := fun t kt => kn26 t (st29 _ kt)
  have f35 := ((A_bE.other W20 nba).other W29 nba)
  obtain ⟨cl36, Ar36, q36, Sz36, Ng36, Hs36, Gs36⟩ := id f35
  have hin36 : ¬ ((0 : Int32) < 0 ∨ cl36.slots.size ≤ ((0 : Int32)).toNatClampNeg) := inb_of Sz36 ⟨by decide, by decide⟩
  have hat36 : cl36.slots[((0 : Int32)).toNatClampNeg]? = some (.ref ea) := Hs36.at hin36 rfl
  have kn37 : ∀ t, own_S p e below T29 (mkF m 65 #[.val (.ref a1), .val (.int (0 : Int32)), .val (.ref bE)] [(.ref ea)]) t → Gl t := fun t kt => kn34 t (by
    show own_S p e below T29 (mkF m 64 #[.val (.ref a1), .val (.int (0 : Int32)), .val (.ref bE)] [(.int (0 : Int32)), (.ref bE)]) _
    refine X29.aaload hx (j := (0 : Int32)) (v := (.ref ea)) (by rw [e29]; exact Ar36.1) (State.isArrayOf_alike hZ.alike Ar36.2.1) rfl Ar36.2.2 hin36 hat36 (g := (mkF m 64 #[.val (.ref a1), .val (.int (0 : Int32)), .val (.ref bE)] [(.int (0 : Int32)), (.ref bE)])) rfl rfl (hb hby d_jdk_49_method_3_64) _ ?_
    exact kt)
  obtain ⟨fs, hr, hrun, hended, hW, hsame⟩ := X29.leave (v := some (.ref ea)) (fun h => by rw [Bd.returns] at h; cases h)
  refine ⟨_, _, hGl _ (kn37 _ (by
      show own_S p e below T29 (mkF m 65 #[.val (.ref a1), .val (.int (0 : Int32)), .val (.ref bE)] [(.ref ea)]) _
      jvm_step X29.here [X29.here.top, hx, (hb hby d_jdk_49_method_3_65), X29.method', Bd.returns, Value.isRef, FieldType.isReference]
      first | (intro acts; rw [hr _ acts rfl rfl rfl]) | rw [hr _ _ rfl rfl rfl]
      exact Steps.refl _)), hrun, hended, _, _, rfl, ?_, ⟨_, rfl⟩, hW, hsame.mono (by decide) (by decide)⟩
  show Q26 Z a1 ls bE kB ea h0 n0 _ T29.heap _
  rw [e29]
  have f38 := (f28.wr W29)
  have f39 := ((F_a1_this0.other W20 (Or.inr (slot_ne (Or.inr (hw _ (List.mem_of_getElem? (i := 177) rfl))) (Or.inl (hw _ (List.mem_of_getElem? (i := 191) rfl))) (by decide) (t := (.object "java/util/ArrayList")) (t' := .int) (by decide) (by decide)))).other W29 (Or.inr (slot_ne (Or.inr (hw _ (List.mem_of_getElem? (i := 177) rfl))) (Or.inl (hw _ (List.mem_of_getElem? (i := 180) rfl))) (by decide) (t := (.object "java/util/ArrayList")) (t' := .int) (by decide) (by decide))))
  have f40 := ((F_a1_expectedModCount.other W20 (Or.inr (slot_ne (Or.inl (hw _ (List.mem_of_getElem? (i := 183) rfl))) (Or.inl (hw _ (List.mem_of_getElem? (i := 191) rfl))) (by decide) (t := .int) (t' := .int) (by decide) (by decide)))).other W29 (Or.inr (slot_ne (Or.inl (hw _ (List.mem_of_getElem? (i := 183) rfl))) (Or.inl (hw _ (List.mem_of_getElem? (i := 180) rfl))) (by decide) (t := .int) (t' := .int) (by decide) (by decide))))
  have f41 := (Fw20.other W29 (Or.inr (slot_ne (Or.inl (hw _ (List.mem_of_getElem? (i := 191) rfl))) (Or.inl (hw _ (List.mem_of_getElem? (i := 180) rfl))) (by decide) (t := .int) (t' := .int) (by decide) (by decide))))
  exact ⟨rfl, Nf33, K32, f38, f39, Fw29, f40, f41⟩

theorem d_prog_43_method_20_0 : decode prog_43_method_20_code 0 = .ok (.aconst_null, 1) := by decide +kernel
theorem d_prog_43_method_20_1 : decode prog_43_method_20_code 1 = .ok (.astore_n 1, 1) := by decide +kernel
theorem d_prog_43_method_20_2 : decode prog_43_method_20_code 2 = .ok (.aload_n 0, 1) := by decide +kernel
theorem d_prog_43_method_20_3 : decode prog_43_method_20_code 3 = .ok (.invokeinterface 75 1, 5) := by decide +kernel
theorem d_prog_43_method_20_8 : decode prog_43_method_20_code 8 = .ok (.ifCond .eq 13, 3) := by decide +kernel
theorem d_prog_43_method_20_21 : decode prog_43_method_20_code 21 = .ok (.aload_n 1, 1) := by decide +kernel
theorem d_prog_43_method_20_22 : decode prog_43_method_20_code 22 = .ok (.areturn, 1) := by decide +kernel
theorem pd_11 : parseMethodDescriptor "()Z" = some ⟨[], some .boolean⟩ := by decide +kernel
theorem ef_rm28 (m : MethodId) (x0 : Addr) : entryFrame m #[(.ref x0)] 2 = mkF m 0 #[.val (.ref x0), .unset] [] := by first | (simp [entryFrame, mkF, argsToLocals, Value.category]; done) | rfl
def Q28 (Z : State) (ii : Addr) (h0 : Heap) (n0 : Nat) (v : Option Value) (h : Heap) (L : List Loc) : Prop := v = some .null ∧ Fr n0 L ∧ h = h0
set_option maxRecDepth 65536 in
set_option maxHeartbeats 40000000 in
theorem rm28 (l : Launch) (Z : State) (a0 : Array Value) (hw : ∀ d ∈ tables_1, d.before a0 Z = true) (ws : List Jvm.Cond) (ii : Addr) (h0 : Heap) (n0 : Nat) (Z0 : n0 ≤ h0.size) (E_ii : Exa Z h0 ii "java/util/ImmutableCollections$ListItr") (F_ii_cursor : Fld Z h0 ii "java/util/ImmutableCollections$ListItr" "cursor" "I" (.int (0 : Int32))) (F_ii_size : Fld Z h0 ii "java/util/ImmutableCollections$ListItr" "size" "I" (.int (0 : Int32))) :
    MetFree l (⟨"com/example/caddis/caddis/StatementSet", "lambda$cursorOf$3", "(Ljava/util/Iterator;)Ljava/lang/String;"⟩ : MethodName) (head1 (Jvm.Cond.code (⟨"com/example/caddis/caddis/StatementSet", "lambda$cursorOf$3", "(Ljava/util/Iterator;)Ljava/lang/String;"⟩ : MethodName) prog_43_method_20_code 2 (some (.object "java/lang/String")) :: ws) ({ frames := 1, cells := 0, slots := 0, locals := 12 } : Room)) (fun a U => a = #[(.ref ii)] ∧ Z.Warmed39 U.vm ∧ U.heap = h0) (fun _ _ _ _ _ => True) (fun _ U o U' => ∃ v L, o = .returned v ∧ Q28 Z ii h0 n0 v U'.heap L ∧ FrameEnd U o U' L ({ frames := 1, cells := 0, slots := 0, locals := 12 } : Room).cells ({ frames := 1, cells := 0, slots := 0, locals := 12 } : Room).slots) := by
  refine MetFree.of_bodySF (plainFor_of_name pn_1) hisR ?_
  intro p e s m args below meth c s₁ Bd hml0 hP hK
  obtain ⟨rfl, hZ, hh⟩ := hP
  have hx := Bd.exec
  have hby := Bd.bytes
  have hml : c.maxLocals = 2 := hml0
  have hown : s.vm.findClass "com/example/caddis/caddis/StatementSet" = some m.cls := findClass_of_methodNamed Bd.named
  have hnm := (name_of_methodNamed Bd.named Bd.method).1
  have X0 : Stand p l e ({ frames := 1, cells := 0, slots := 0, locals := 12 } : Room) s m #[(.ref ii)] below meth c s₁ [] 0 0 := Stand.of_body Bd
  have e0 : s₁.heap = h0 := by rw [← hh, Bd.state]; rfl
  have Nf0 := Fr.nil n0
  obtain ⟨Gl, hGl, kn0⟩ : ∃ Gl : State → Prop, (∀ t, Gl t → Steps p.tables e below (s₁.setTop (entryFrame m #[(.ref ii)] 2)) t) ∧ ∀ t, own_S p e below s₁ (mkF m 0 #[.val (.ref ii), .unset] []) t → Gl t := ⟨fun t => Steps p.tables e below (s₁.setTop (entryFrame m #[(.ref ii)] 2)) t, fun _ k => k, fun t k => castTop (ef_rm28 m ii) k⟩
  have kn1 : ∀ t, own_S p e below s₁ (mkF m 3 #[.val (.ref ii), .val .null] [(.ref ii)]) t → Gl t := fun t kt => kn0 t (by
    show own_S p e below s₁ (mkF m 0 #[.val (.ref ii), .unset] []) _
    refine XS.aconstNull X0.here hx rfl (hb hby d_prog_43_method_20_0) ?_
    show own_S p e below s₁ (mkF m 1 #[.val (.ref ii), .unset] [.null]) _
    refine XS.astoreN X0.here hx rfl (hb hby d_prog_43_method_20_1) rfl rfl (l' := #[.val (.ref ii), .val .null]) rfl ?_
    show own_S p e below s₁ (mkF m 2 #[.val (.ref ii), .val .null] []) _
    refine XS.aloadN X0.here hx rfl (hb hby d_prog_43_method_20_2) rfl rfl ?_
    exact kt)
  obtain ⟨cq2, kq2, qa2, qb2, qc2⟩ := isOf hZ e0 E_ii
  obtain ⟨_, _, ⟨T2, L2, cc2, ss2⟩, -, X2, ⟨Lc2, hQ2, l2, y2, z2⟩, st2⟩ := X0.interfaceBack hx (xi := (⟨"java/util/Iterator", "hasNext", "()Z"⟩ : MethodName)) (y := (⟨"java/util/ImmutableCollections$ListItr", "hasNext", "()Z"⟩ : MethodName)) hown (mvT hZ (hw _ (List.mem_of_getElem? (i := 127) rfl))) (mvT hZ (hw _ (List.mem_of_getElem? (i := 128) rfl))) (mvT hZ (hw _ (List.mem_of_getElem? (i := 129) rfl))) (mvT hZ (hw _ (List.mem_of_getElem? (i := 130) rfl))) (mvT hZ (hw _ (List.mem_of_getElem? (i := 131) rfl))) (mvT hZ (hw _ (List.mem_of_getElem? (i := 132) rfl))) (mvT hZ (hw _ (List.mem_of_getElem? (i := 133) rfl))) (mvT hZ (hw _ (List.mem_of_getElem? (i := 134) rfl))) (by decide) (backOf (W := 0) (rm18 l Z a0 hw [] ii  h0 n0 Z0 E_ii F_ii_cursor F_ii_size) hZ (hw _ (List.mem_of_getElem? (i := 135) rfl)) (hw _ (List.mem_of_getElem? (i := 66) rfl)) (by decide) (by decide)) qa2 qb2 qc2 (g := (mkF m 3 #[.val (.ref ii), .val .null] [(.ref ii)])) rfl (by rw [hml]; rfl) (Steps.refl _) (argsL := []) (rest := []) (lenOf pd_11 rfl) rfl (by show 2 * 0 + _ ≤ _; exact Nat.le_of_eq rfl) (hb hby d_prog_43_method_20_3) (fun _ _ => ⟨rfl, e0, (by decide : 0 + 0 ≤ _), (by decide : 0 + 0 ≤ _)⟩)
  dsimp only [Pt.U, Pt.locs, Pt.cells, Pt.slots] at X2 l2 y2 z2 st2 hQ2
  subst l2 y2 z2
  have X2 : Stand p l e _ _ m _ below meth c T2 _ 0 0 := X2
  obtain ⟨rfl, Nq2, eq2⟩ := hQ2
  have Nf2 := Fr.app Nf0 Nq2
  have kn3 : ∀ t, own_S p e below T2 (mkF m 8 #[.val (.ref ii), .val .null] [(.int (0 : Int32))]) t → Gl t := fun t kt => kn1 t (st2.trans kt)
  have kn4 : ∀ t, own_S p e below T2 (mkF m 22 #[.val (.ref ii), .val .null] [.null]) t → Gl t := fun t kt => kn3 t (by
    show own_S p e below T2 (mkF m 8 #[.val (.ref ii), .val .null] [(.int (0 : Int32))]) _
    refine XS.ifYes X2.here hx rfl (pc0 := 8) (pc' := 21) rfl (hb hby d_prog_43_method_20_8) rfl ((if0 _ _).trans (teq (by decide : (0 : Int32) = (0 : Int32))).1) (by decide) (by decide) ?_
    show own_S p e below T2 (mkF m 21 #[.val (.ref ii), .val .null] []) _
    refine XS.aloadN X2.here hx rfl (hb hby d_prog_43_method_20_21) rfl rfl ?_
    exact kt)
  obtain ⟨fs, hr, hrun, hended, hW, hsame⟩ := X2.leave (v := some .null) (fun h => by rw [Bd.returns] at h; cases h)
  refine ⟨_, _, hGl _ (kn4 _ (by
      show own_S p e below T2 (mkF m 22 #[.val (.ref ii), .val .null] [.null]) _
      jvm_step X2.here [X2.here.top, hx, (hb hby d_prog_43_method_20_22), X2.method', Bd.returns, Value.isRef, FieldType.isReference]
      first | (intro acts; rw [hr _ acts rfl rfl rfl]) | rw [hr _ _ rfl rfl rfl]
      exact Steps.refl _)), hrun, hended, _, _, rfl, ?_, ⟨_, rfl⟩, hW, hsame.mono (by decide) (by decide)⟩
  show Q28 Z ii h0 n0 _ T2.heap _
  rw [eq2]
  exact ⟨rfl, Nf2, rfl⟩

abbrev own_σ : Lambda.Shape := (Jvm.Lambda.Shape.mk "com/example/caddis/caddis/StatementSet$Cursor" "next" (Jvm.ClassFile.MethodDescriptor.mk ([] : List Jvm.ClassFile.FieldType) (Option.some (Jvm.ClassFile.FieldType.object "java/lang/String"))) ([(Jvm.ClassFile.FieldType.object "java/util/Iterator")] : List Jvm.ClassFile.FieldType) (6 : Nat) "com/example/caddis/caddis/StatementSet" "lambda$cursorOf$3" (Jvm.ClassFile.MethodDescriptor.mk ([(Jvm.ClassFile.FieldType.object "java/util/Iterator")] : List Jvm.ClassFile.FieldType) (Option.some (Jvm.ClassFile.FieldType.object "java/lang/String"))) false (Jvm.ClassFile.MethodDescriptor.mk ([] : List Jvm.ClassFile.FieldType) (Option.some (Jvm.ClassFile.FieldType.object "java/lang/String"))))
abbrev own_x : MethodName := (⟨"com/example/caddis/caddis/StatementSet", "cursorOf", "(Ljava/util/List;)Lcom/example/caddis/caddis/StatementSet$Cursor;"⟩ : MethodName)
def own_fcode : ByteArray := ⟨#[0x2a, 0xb4, 0x00, 0x0f, 0xb8, 0x00, 0x17, 0xb0]⟩
theorem own_fwd : fwdOK own_σ "com/example/caddis/caddis/StatementSet" own_fcode 1 (some (.object "java/lang/String")) 23 19 = true := by decide +kernel
theorem own_cap : capOK own_σ "com/example/caddis/caddis/StatementSet" 15 0 = true := by decide +kernel
theorem own_f0 : decode own_fcode 0 = .ok (.aload_n 0, 1) := by decide +kernel
theorem own_f1 : decode own_fcode 1 = .ok (.getfield 15, 3) := by decide +kernel
theorem own_f4 : decode own_fcode 4 = .ok (.invokestatic 23, 3) := by decide +kernel
theorem own_f7 : decode own_fcode 7 = .ok (.areturn, 1) := by decide +kernel
theorem own_callLam {p : Program} {l : Launch} {e : Env} {R : Room} {s : State} {m : MethodId} {args : Array Value} {below : List Frame} {meth : Method} {c : Code} {T : State} {locs : List Loc} {cells slots : Nat} {Z : State} {a0 : Array Value} {h : Heap} {cK : ClassId} {one : Option Addr} {b it : Addr} {n0 : Nat}
    (X : Stand p l e R s m args below meth c T locs cells slots) (hx : p.tables.exec = Jvm.exec) (hZ : Z.Warmed39 s.vm) (hWH : Z.WarmedH s.vm) (hw : ∀ d ∈ tables_1, d.before a0 Z = true) (hat : Z.lambdaAt? own_x 8 229 own_σ = some (cK, one)) (hown : s.vm.findClass "com/example/caddis/caddis/StatementSet" = some m.cls) (eT : T.heap = h) (L : Lam h b cK it) (Z0 : n0 ≤ h.size)
    (E_ii : Exa Z h it "java/util/ImmutableCollections$ListItr") (F_ii_cursor : Fld Z h it "java/util/ImmutableCollections$ListItr" "cursor" "I" (.int (0 : Int32))) (F_ii_size : Fld Z h it "java/util/ImmutableCollections$ListItr" "size" "I" (.int (0 : Int32)))
    {g : JFrame} (hg : g.method = m) (hsize : g.locals.size = c.maxLocals) {rest : List Value} (hstack : g.stack = .ref b :: rest) (hdg : decode c.code g.pc = .ok (.invokeinterface 133 1, 5))
    (hfr : 1 + 2 ≤ R.frames) (hlo : 2 * g.monitorRoom + (rest.map fun v => v.category).sum + (1 + 11) + ((2 + 11) + 12) ≤ R.locals) (hcells : cells + 0 ≤ R.cells) (hslots : slots + 0 ≤ R.slots) :
    ∃ (T' : State) (L' : List Loc), Stand p l e R s m args below meth c T' (locs ++ L') cells slots ∧ Fr n0 L' ∧ T'.heap = h ∧ ∀ target, Steps p.tables e below (T'.setTop { g with pc := g.pc + 5, stack := .null :: rest }) target → Steps p.tables e below (T.setTop g) target := by
  have hmd : Jvm.LamKit.Made s "com/example/caddis/caddis/StatementSet" own_σ cK := own_made hWH hat
  have hcw : (Jvm.Cond.code (⟨"com/example/caddis/caddis/StatementSet", "lambda$cursorOf$3", "(Ljava/util/Iterator;)Ljava/lang/String;"⟩ : MethodName) prog_43_method_20_code 2 (some (.object "java/lang/String"))).before a0 Z = true := (hw _ (List.mem_of_getElem? (i := 212) rfl))
  have hM : Met l (⟨"com/example/caddis/caddis/StatementSet", "lambda$cursorOf$3", "(Ljava/util/Iterator;)Ljava/lang/String;"⟩ : MethodName) [Jvm.Cond.code (⟨"com/example/caddis/caddis/StatementSet", "lambda$cursorOf$3", "(Ljava/util/Iterator;)Ljava/lang/String;"⟩ : MethodName) prog_43_method_20_code 2 (some (.object "java/lang/String"))] ({ frames := 1, cells := 0, slots := 0, locals := 12 } : Room) (fun a U => a = #[.ref it] ∧ Z.Warmed39 U.vm ∧ U.heap = h) (fun _ _ o U' => o = .returned (some .null) ∧ U'.heap = h) 0 0 (fun q => n0 ≤ q) := fun p e ha hc hk s m args below hf happ hP hK => by
    obtain ⟨n, o, qa, qc, q3, v, L1, rfl, ⟨rfl, hN, hh⟩, hE⟩ := rm28 l Z a0 hw [] it h n0 Z0 E_ii F_ii_cursor F_ii_size p e ha hc hk s m args below hf happ hP trivial
    exact ⟨n, _, qa, qc, q3, ⟨rfl, hh⟩, L1, hE, hN⟩
  obtain ⟨v, st, t, T', L', X', hL, ea, e3, hq, st9⟩ := callLamS X hx (own := "com/example/caddis/caddis/StatementSet") (host := "com/example/caddis/caddis/StatementSet") (index := 133) (count := 1) (xi := (⟨"com/example/caddis/caddis/StatementSet$Cursor", "next", "()Ljava/lang/String;"⟩ : MethodName)) (y := (⟨"com/example/caddis/caddis/StatementSet", "lambda$cursorOf$3", "(Ljava/util/Iterator;)Ljava/lang/String;"⟩ : MethodName)) (σ := own_σ) hM (fun _ _ _ _ hP => ⟨hP.1, hP.2.1, hP.2.2⟩) rfl rfl
    (fun w hw' a' U hU => by rw [List.mem_singleton.mp hw']; exact mvT (wtrans hZ hU) hcw) (List.mem_singleton.mpr rfl) hown (mvT hZ (hw _ (List.mem_of_getElem? (i := 208) rfl))) (mvT hZ (hw _ (List.mem_of_getElem? (i := 209) rfl))) (mvT hZ (hw _ (List.mem_of_getElem? (i := 210) rfl))) (mvT hZ hcw) (mvT hZ (hw _ (List.mem_of_getElem? (i := 211) rfl))) (mvT hZ (hw _ (List.mem_of_getElem? (i := 2) rfl))) (by decide +kernel) (by decide +kernel) (by decide) hmd ⟨_, by rw [eT]; exact L, rfl, rfl⟩ own_fwd own_f4 own_f7
    (g := g) hg hsize (argsL := []) (argsT := [.ref it]) (rest := rest) (L0 := #[.val (.ref b)])
    (fun sig h => by cases (by decide +kernel : parseMethodDescriptor "()Ljava/lang/String;" = some ⟨[], some (.object "java/lang/String")⟩).symm.trans h; rfl) (fun sig h => by cases (by decide +kernel : parseMethodDescriptor "(Ljava/util/Iterator;)Ljava/lang/String;" = some ⟨[.object "java/util/Iterator"], some (.object "java/lang/String")⟩).symm.trans h; rfl)
    hstack hdg (fun _ => rfl) rfl
    (fun U ck bl target hU hck hh hW k => XS.aloadN hU hx rfl (hb hck own_f0) rfl rfl (getCap (args := #[]) hx hU hW hmd own_cap (mvT hZ (hw _ (List.mem_of_getElem? (i := 92) rfl))) (by rw [hh, eT]; exact L) rfl (v := .ref it) rfl rfl rfl (hb hck own_f1) k))
    (fun st v t h => by obtain ⟨h1, -⟩ := h; cases h1; exact Or.inr (Or.inr (Or.inl ⟨_, .null, rfl, rfl, rfl, rfl, rfl⟩))) hfr hlo hcells hslots (fun U hU hh => ⟨rfl, wtrans hZ hU, by rw [hh, eT]⟩)
  obtain ⟨h1, h2⟩ := hq
  cases h1
  exact ⟨T', L', X', fun y hy => hL y hy, ea.trans h2, st9⟩

theorem d_prog_43_method_17_0 : decode prog_43_method_17_code 0 = .ok (.aload_n 0, 1) := by decide +kernel
theorem d_prog_43_method_17_1 : decode prog_43_method_17_code 1 = .ok (.invokeinterface 71 1, 5) := by decide +kernel
theorem d_prog_43_method_17_6 : decode prog_43_method_17_code 6 = .ok (.astore_n 1, 1) := by decide +kernel
theorem d_prog_43_method_17_7 : decode prog_43_method_17_code 7 = .ok (.aload_n 1, 1) := by decide +kernel
theorem d_prog_43_method_17_8 : decode prog_43_method_17_code 8 = .ok (.invokedynamic 229, 5) := by decide +kernel
theorem d_prog_43_method_17_13 : decode prog_43_method_17_code 13 = .ok (.areturn, 1) := by decide +kernel
theorem pd_12 : parseMethodDescriptor "()Ljava/util/Iterator;" = some ⟨[], some (.object "java/util/Iterator")⟩ := by decide +kernel
theorem ef_rm9 (m : MethodId) (x0 : Addr) : entryFrame m #[(.ref x0)] 2 = mkF m 0 #[.val (.ref x0), .unset] [] := by first | (simp [entryFrame, mkF, argsToLocals, Value.category]; done) | rfl
def Q9 (Z : State) (gL : Addr) (gE : Addr) (kE : ClassId) (cK : ClassId) (one : Option Addr) (h0 : Heap) (n0 : Nat) (v : Option Value) (h : Heap) (L : List Loc) : Prop := ∃ b it : Addr, v = some (.ref b) ∧ Fr n0 L ∧ n0 ≤ b ∧ h0.size ≤ b ∧ h0.size ≤ it ∧ Keep h0 h [] ∧ Lam h b cK it ∧ Exa Z h it "java/util/ImmutableCollections$ListItr" ∧ Fld Z h it "java/util/ImmutableCollections$ListItr" "cursor" "I" (.int (0 : Int32)) ∧ Fld Z h it "java/util/ImmutableCollections$ListItr" "size" "I" (.int (0 : Int32))
set_option maxRecDepth 65536 in
set_option maxHeartbeats 40000000 in
theorem rm9 (l : Launch) (Z : State) (a0 : Array Value) (hw : ∀ d ∈ tables_1, d.before a0 Z = true) (ws : List Jvm.Cond) (gL : Addr) (gE : Addr) (kE : ClassId) (cK : ClassId) (one : Option Addr) (h0 : Heap) (n0 : Nat) (Z0 : n0 ≤ h0.size) (O0 : Old Z n0 h0) (E_L : Exa Z Z.heap gL "java/util/ImmutableCollections$ListN") (F_L : Fld Z Z.heap gL "java/util/ImmutableCollections$ListN" "elements" "[Ljava/lang/Object;" (.ref gE)) (A_E : Arv Z Z.heap gE kE (.object "java/lang/Object") (0 : Int32) [] .null) (hat : Z.lambdaAt? own_x 8 229 own_σ = some (cK, one)) :
    MetFree l (⟨"com/example/caddis/caddis/StatementSet", "cursorOf", "(Ljava/util/List;)Lcom/example/caddis/caddis/StatementSet$Cursor;"⟩ : MethodName) (head1 (Jvm.Cond.code (⟨"com/example/caddis/caddis/StatementSet", "cursorOf", "(Ljava/util/List;)Lcom/example/caddis/caddis/StatementSet$Cursor;"⟩ : MethodName) prog_43_method_17_code 2 (some (.object "com/example/caddis/caddis/StatementSet$Cursor")) :: ws) ({ frames := 3, cells := 2, slots := 5, locals := 3073 } : Room)) (fun a U => a = #[(.ref gL)] ∧ Z.Warmed39 U.vm ∧ U.heap = h0 ∧ Z.WarmedH U.vm) (fun _ _ _ _ _ => True) (fun _ U o U' => ∃ v L, o = .returned v ∧ Q9 Z gL gE kE cK one h0 n0 v U'.heap L ∧ FrameEnd U o U' L ({ frames := 3, cells := 2, slots := 5, locals := 3073 } : Room).cells ({ frames := 3, cells := 2, slots := 5, locals := 3073 } : Room).slots) := by
  refine MetFree.of_bodySF (plainFor_of_name pn_1) hisR ?_
  intro p e s m args below meth c s₁ Bd hml0 hP hK
  obtain ⟨rfl, hZ, hh, hWH⟩ := hP
  have hx := Bd.exec
  have hby := Bd.bytes
  have hml : c.maxLocals = 2 := hml0
  have hown : s.vm.findClass "com/example/caddis/caddis/StatementSet" = some m.cls := findClass_of_methodNamed Bd.named
  have hnm := (name_of_methodNamed Bd.named Bd.method).1
  have X0 : Stand p l e ({ frames := 3, cells := 2, slots := 5, locals := 3073 } : Room) s m #[(.ref gL)] below meth c s₁ [] 0 0 := Stand.of_body Bd
  have e0 : s₁.heap = h0 := by rw [← hh, Bd.state]; rfl
  have Nf0 := Fr.nil n0
  obtain ⟨Gl, hGl, kn0⟩ : ∃ Gl : State → Prop, (∀ t, Gl t → Steps p.tables e below (s₁.setTop (entryFrame m #[(.ref gL)] 2)) t) ∧ ∀ t, own_S p e below s₁ (mkF m 0 #[.val (.ref gL), .unset] []) t → Gl t := ⟨fun t => Steps p.tables e below (s₁.setTop (entryFrame m #[(.ref gL)] 2)) t, fun _ k => k, fun t k => castTop (ef_rm9 m gL) k⟩
  have kn1 : ∀ t, own_S p e below s₁ (mkF m 1 #[.val (.ref gL), .unset] [(.ref gL)]) t → Gl t := fun t kt => kn0 t (by
    show own_S p e below s₁ (mkF m 0 #[.val (.ref gL), .unset] []) _
    refine XS.aloadN X0.here hx rfl (hb hby d_prog_43_method_17_0) rfl rfl ?_
    exact kt)
  obtain ⟨cq2, kq2, qa2, qb2, qc2⟩ := isOf hZ e0 (E_L.ext O0.2)
  obtain ⟨_, _, ⟨T2, L2, cc2, ss2⟩, -, X2, ⟨Lc2, hQ2, l2, y2, z2⟩, st2⟩ := X0.interfaceBack hx (xi := (⟨"java/util/List", "iterator", "()Ljava/util/Iterator;"⟩ : MethodName)) (y := (⟨"java/util/ImmutableCollections$AbstractImmutableList", "iterator", "()Ljava/util/Iterator;"⟩ : MethodName)) hown (mvT hZ (hw _ (List.mem_of_getElem? (i := 54) rfl))) (mvT hZ (hw _ (List.mem_of_getElem? (i := 55) rfl))) (mvT hZ (hw _ (List.mem_of_getElem? (i := 56) rfl))) (mvT hZ (hw _ (List.mem_of_getElem? (i := 57) rfl))) (mvT hZ (hw _ (List.mem_of_getElem? (i := 58) rfl))) (mvT hZ (hw _ (List.mem_of_getElem? (i := 59) rfl))) (mvT hZ (hw _ (List.mem_of_getElem? (i := 60) rfl))) (mvT hZ (hw _ (List.mem_of_getElem? (i := 61) rfl))) (by decide) (backOf (W := 0) (rm10 l Z a0 hw [] gL gE kE h0 n0 Z0 O0 E_L F_L A_E) hZ (hw _ (List.mem_of_getElem? (i := 63) rfl)) (hw _ (List.mem_of_getElem? (i := 62) rfl)) (by decide) (by decide)) qa2 qb2 qc2 (g := (mkF m 1 #[.val (.ref gL), .unset] [(.ref gL)])) rfl (by rw [hml]; rfl) (Steps.refl _) (argsL := []) (rest := []) (lenOf pd_12 rfl) rfl (by show 2 * 0 + _ ≤ _; exact Nat.le_of_eq rfl) (hb hby d_prog_43_method_17_1) (fun _ _ => ⟨rfl, e0, (by decide : 0 + 1 ≤ _), (by decide : 0 + 4 ≤ _)⟩)
  dsimp only [Pt.U, Pt.locs, Pt.cells, Pt.slots] at X2 l2 y2 z2 st2 hQ2
  subst l2 y2 z2
  have X2 : Stand p l e _ _ m _ below meth c T2 _ 1 4 := X2
  obtain ⟨b2, rfl, Nq2, g_b2, sb2, K2, Ex2_b2, Fx2_b2_0, Fx2_b2_1⟩ := hQ2
  have Nf2 := Fr.app Nf0 Nq2
  have sz_b2 : h0.size ≤ b2 := sb2
  have Z3 : n0 ≤ T2.heap.size := Nat.le_trans Z0 K2.1
  have Od4 : Old Z n0 T2.heap := O0.keep K2 all0
  have K5 : Keep h0 T2.heap [] := (Keep.refl h0 []).trans K2 (all0)
  have kn6 : ∀ t, own_S p e below T2 (mkF m 6 #[.val (.ref gL), .unset] [(.ref b2)]) t → Gl t := fun t kt => kn1 t (st2.trans kt)
  have kn7 : ∀ t, own_S p e below T2 (mkF m 8 #[.val (.ref gL), .val (.ref b2)] [(.ref b2)]) t → Gl t := fun t kt => kn6 t (by
    show own_S p e below T2 (mkF m 6 #[.val (.ref gL), .unset] [(.ref b2)]) _
    refine XS.astoreN X2.here hx rfl (hb hby d_prog_43_method_17_6) rfl rfl (l' := #[.val (.ref gL), .val (.ref b2)]) rfl ?_
    show own_S p e below T2 (mkF m 7 #[.val (.ref gL), .val (.ref b2)] []) _
    refine XS.aloadN X2.here hx rfl (hb hby d_prog_43_method_17_7) rfl rfl ?_
    exact kt)
  obtain ⟨T8, h8, X8, e8, E8, A8, st8⟩ := own_makes X2 hx hWH Bd.named hat (by decide) own_cap (hw _ (List.mem_of_getElem? (i := 92) rfl)) rfl (g := (mkF m 8 #[.val (.ref gL), .val (.ref b2)] [(.ref b2)])) rfl rfl (by rw [hml]; rfl) (hb hby d_prog_43_method_17_8) (it := b2) (rest := []) rfl rfl (fun t ht => by cases ht; exact ⟨rfl, rfl⟩) (by show 2 * 0 + 1 + 3072 ≤ _; decide) (by decide) (by decide)
  obtain ⟨b8, g8⟩ : ∃ z, z = T2.heap.size := ⟨_, rfl⟩
  rw [← g8] at A8 st8
  have sz_b8 : h0.size ≤ b8 := Nat.le_trans K5.1 (Nat.le_of_eq g8.symm)
  have g_b8 : n0 ≤ b8 := Nat.le_trans Z3 (Nat.le_of_eq g8.symm)
  have ne_b2_b8 : b2 ≠ b8 := Nat.ne_of_lt (Nat.lt_of_lt_of_le Ex2_b2.lt (Nat.le_of_eq g8.symm))
  have Z9 : n0 ≤ h8.size := Nat.le_trans Z3 E8.1
  have Od10 : Old Z n0 h8 := Od4.ext E8
  have K11 : Keep h0 h8 [] := K5.ext E8
  have kn12 : ∀ t, own_S p e below T8 (mkF m 13 #[.val (.ref gL), .val (.ref b2)] [(.ref b8)]) t → Gl t := fun t kt => kn7 t (st8 _ kt)
  obtain ⟨fs, hr, hrun, hended, hW, hsame⟩ := X8.leave (v := some (.ref b8)) (fun h => by rw [Bd.returns] at h; cases h)
  refine ⟨_, _, hGl _ (kn12 _ (by
      show own_S p e below T8 (mkF m 13 #[.val (.ref gL), .val (.ref b2)] [(.ref b8)]) _
      jvm_step X8.here [X8.here.top, hx, (hb hby d_prog_43_method_17_13), X8.method', Bd.returns, Value.isRef, FieldType.isReference]
      first | (intro acts; rw [hr _ acts rfl rfl rfl]) | rw [hr _ _ rfl rfl rfl]
      exact Steps.refl _)), hrun, hended, _, _, rfl, ?_, ⟨_, rfl⟩, hW, hsame.mono (by decide) (by decide)⟩
  show Q9 Z gL gE kE cK one h0 n0 _ T8.heap _
  rw [e8]
  have f13 := (Ex2_b2.ext E8)
  have f14 := (Fx2_b2_0.ext E8)
  have f15 := (Fx2_b2_1.ext E8)
  exact ⟨b8, b2, rfl, Nf2, g_b8, sz_b8, sz_b2, K11, A8, f13, f14, f15⟩

theorem d_prog_49_method_1_0 : decode prog_49_method_1_code 0 = .ok (.aload_n 0, 1) := by decide +kernel
theorem d_prog_49_method_1_1 : decode prog_49_method_1_code 1 = .ok (.invokespecial 1, 3) := by decide +kernel
theorem d_prog_49_method_1_4 : decode prog_49_method_1_code 4 = .ok (.aload_n 0, 1) := by decide +kernel
theorem d_prog_49_method_1_5 : decode prog_49_method_1_code 5 = .ok (.aload_n 1, 1) := by decide +kernel
theorem d_prog_49_method_1_6 : decode prog_49_method_1_code 6 = .ok (.putfield 7, 3) := by decide +kernel
theorem d_prog_49_method_1_9 : decode prog_49_method_1_code 9 = .ok (.return_, 1) := by decide +kernel
theorem pn_11 : plainName "com/example/caddis/caddis/StatementSet$Union" = true := by first | (simp [plainName, overriddenIn]; done) | decide +kernel
theorem ef_rm29 (m : MethodId) (x0 : Addr) (x1 : Addr) : entryFrame m #[(.ref x0), (.ref x1)] 2 = mkF m 0 #[.val (.ref x0), .val (.ref x1)] [] := by first | (simp [entryFrame, mkF, argsToLocals, Value.category]; done) | rfl
def Q29 (Z : State) (a1 : Addr) (qa : Addr) (h0 : Heap) (n0 : Nat) (v : Option Value) (h : Heap) (L : List Loc) : Prop := v = none ∧ Fr n0 L ∧ Keep h0 h [a1] ∧ Exa Z h a1 "com/example/caddis/caddis/StatementSet$Union" ∧ Fld Z h a1 "com/example/caddis/caddis/StatementSet$Union" "heads" "Ljava/util/PriorityQueue;" (.ref qa) ∧ Fld Z h a1 "com/example/caddis/caddis/StatementSet$Union" "last" "Ljava/lang/String;" .null
set_option maxRecDepth 65536 in
set_option maxHeartbeats 40000000 in
theorem rm29 (l : Launch) (Z : State) (a0 : Array Value) (hw : ∀ d ∈ tables_1, d.before a0 Z = true) (ws : List Jvm.Cond) (a1 : Addr) (qa : Addr) (h0 : Heap) (n0 : Nat) (Z0 : n0 ≤ h0.size) (O0 : Old Z n0 h0) (E_a1 : Exa Z h0 a1 "com/example/caddis/caddis/StatementSet$Union") (F_a1_heads : Fld Z h0 a1 "com/example/caddis/caddis/StatementSet$Union" "heads" "Ljava/util/PriorityQueue;" .null) (F_a1_last : Fld Z h0 a1 "com/example/caddis/caddis/StatementSet$Union" "last" "Ljava/lang/String;" .null) (g_a1 : n0 ≤ a1) :
    MetFree l (⟨"com/example/caddis/caddis/StatementSet$Union", "<init>", "(Ljava/util/PriorityQueue;)V"⟩ : MethodName) (head1 (Jvm.Cond.code (⟨"com/example/caddis/caddis/StatementSet$Union", "<init>", "(Ljava/util/PriorityQueue;)V"⟩ : MethodName) prog_49_method_1_code 2 none :: ws) ({ frames := 1, cells := 0, slots := 0, locals := 12 } : Room)) (fun a U => a = #[(.ref a1), (.ref qa)] ∧ Z.Warmed39 U.vm ∧ U.heap = h0) (fun _ _ _ _ _ => True) (fun _ U o U' => ∃ v L, o = .returned v ∧ Q29 Z a1 qa h0 n0 v U'.heap L ∧ FrameEnd U o U' L ({ frames := 1, cells := 0, slots := 0, locals := 12 } : Room).cells ({ frames := 1, cells := 0, slots := 0, locals := 12 } : Room).slots) := by
  refine MetFree.of_bodySF (plainFor_of_name pn_11) hisR ?_
  intro p e s m args below meth c s₁ Bd hml0 hP hK
  obtain ⟨rfl, hZ, hh⟩ := hP
  have hx := Bd.exec
  have hby := Bd.bytes
  have hml : c.maxLocals = 2 := hml0
  have hown : s.vm.findClass "com/example/caddis/caddis/StatementSet$Union" = some m.cls := findClass_of_methodNamed Bd.named
  have hnm := (name_of_methodNamed Bd.named Bd.method).1
  have X0 : Stand p l e ({ frames := 1, cells := 0, slots := 0, locals := 12 } : Room) s m #[(.ref a1), (.ref qa)] below meth c s₁ [] 0 0 := Stand.of_body Bd
  have e0 : s₁.heap = h0 := by rw [← hh, Bd.state]; rfl
  have Nf0 := Fr.nil n0
  obtain ⟨Gl, hGl, kn0⟩ : ∃ Gl : State → Prop, (∀ t, Gl t → Steps p.tables e below (s₁.setTop (entryFrame m #[(.ref a1), (.ref qa)] 2)) t) ∧ ∀ t, own_S p e below s₁ (mkF m 0 #[.val (.ref a1), .val (.ref qa)] []) t → Gl t := ⟨fun t => Steps p.tables e below (s₁.setTop (entryFrame m #[(.ref a1), (.ref qa)] 2)) t, fun _ k => k, fun t k => castTop (ef_rm29 m a1 qa) k⟩
  have kn1 : ∀ t, own_S p e below s₁ (mkF m 1 #[.val (.ref a1), .val (.ref qa)] [(.ref a1)]) t → Gl t := fun t kt => kn0 t (by
    show own_S p e below s₁ (mkF m 0 #[.val (.ref a1), .val (.ref qa)] []) _
    refine XS.aloadN X0.here hx rfl (hb hby d_prog_49_method_1_0) rfl rfl ?_
    exact kt)
  obtain ⟨T2, X2, e2, st2⟩ := initO X0 hx hZ hown (hw _ (List.mem_of_getElem? (i := 219) rfl)) (hw _ (List.mem_of_getElem? (i := 16) rfl)) (hw _ (List.mem_of_getElem? (i := 17) rfl)) e0 (g := (mkF m 1 #[.val (.ref a1), .val (.ref qa)] [(.ref a1)])) rfl (by rw [hml]; rfl) rfl (hb hby d_prog_49_method_1_1) (by decide) (W := 0) (by show 2 * 0 + _ ≤ _; exact Nat.le_of_eq rfl) (by decide)
  have kn3 : ∀ t, own_S p e below T2 (mkF m 4 #[.val (.ref a1), .val (.ref qa)] []) t → Gl t := fun t kt => kn1 t (st2 _ kt)
  have kn4 : ∀ t, own_S p e below T2 (mkF m 6 #[.val (.ref a1), .val (.ref qa)] [(.ref qa), (.ref a1)]) t → Gl t := fun t kt => kn3 t (by
    show own_S p e below T2 (mkF m 4 #[.val (.ref a1), .val (.ref qa)] []) _
    refine XS.aloadN X2.here hx rfl (hb hby d_prog_49_method_1_4) rfl rfl ?_
    show own_S p e below T2 (mkF m 5 #[.val (.ref a1), .val (.ref qa)] [(.ref a1)]) _
    refine XS.aloadN X2.here hx rfl (hb hby d_prog_49_method_1_5) rfl rfl ?_
    exact kt)
  obtain ⟨T5, h5, X5, e5, W5, st5⟩ := putF X2 hx hZ hown (host := "") (Or.inl (hw _ (List.mem_of_getElem? (i := 220) rfl))) Via.refl e2 F_a1_heads E_a1 (Or.inr ⟨(hw _ (List.mem_of_getElem? (i := 221) rfl)), rfl, hnm⟩) (hw _ (List.mem_of_getElem? (i := 214) rfl)) (ty := (.object "java/util/PriorityQueue")) (by decide) rfl rfl (g := (mkF m 6 #[.val (.ref a1), .val (.ref qa)] [(.ref qa), (.ref a1)])) rfl rfl (hb hby d_prog_49_method_1_6)
  have Z6 : n0 ≤ h5.size := Nat.le_trans Z0 (Keep.of_wr W5).1
  have Od7 : Old Z n0 h5 := O0.wr W5 g_a1
  have K8 : Keep h0 h5 [a1] := (Keep.refl h0 [a1]).wr W5 (Or.inl (List.mem_of_getElem? (i := 0) rfl))
  have Fw5 := F_a1_heads.same W5
  have Nf9 := Fr.snoc X5 Nf0 g_a1
  have kn10 : ∀ t, own_S p e below T5 (mkF m 9 #[.val (.ref a1), .val (.ref qa)] []) t → Gl t := fun t kt => kn4 t (st5 _ kt)
  obtain ⟨fs, hr, hrun, hended, hW, hsame⟩ := X5.leave (v := none) (fun _ => rfl)
  refine ⟨_, _, hGl _ (kn10 _ (X5.returnOut hx Bd.returns (hb hby d_prog_49_method_1_9) hr)), hrun, hended, _, _, rfl, ?_, ⟨_, rfl⟩, hW, hsame.mono (by decide) (by decide)⟩
  show Q29 Z a1 qa h0 n0 _ T5.heap _
  rw [e5]
  have f11 := (E_a1.wr W5)
  have f12 := (F_a1_last.other W5 (Or.inr (slot_ne (Or.inl (hw _ (List.mem_of_getElem? (i := 251) rfl))) (Or.inr (hw _ (List.mem_of_getElem? (i := 221) rfl))) (by decide) (t := (.object "java/lang/String")) (t' := (.object "java/util/PriorityQueue")) (by decide) (by decide))))
  exact ⟨rfl, Nf9, K8, f11, Fw5, f12⟩

def Q19 (Z : State) (ls : Addr) (bE : Addr) (kB : ClassId) (ea : Addr) (ii : Addr) (cK : ClassId) (one : Option Addr) (h0 : Heap) (n0 : Nat) (v : Option Value) (h : Heap) (L : List Loc) : Prop := ∃ b q : Addr, v = some (.ref b) ∧ Fr n0 L ∧ n0 ≤ b ∧ Keep h0 h [] ∧ Exa Z h b "com/example/caddis/caddis/StatementSet$Union" ∧ Fld Z h b "com/example/caddis/caddis/StatementSet$Union" "heads" "Ljava/util/PriorityQueue;" (.ref q) ∧ Fld Z h b "com/example/caddis/caddis/StatementSet$Union" "last" "Ljava/lang/String;" .null ∧ Exa Z h q "java/util/PriorityQueue" ∧ Fld Z h q "java/util/PriorityQueue" "size" "I" (.int (0 : Int32))
def Q19T (Z : State) (ls : Addr) (bE : Addr) (kB : ClassId) (ea : Addr) (ii : Addr) (cK : ClassId) (one : Option Addr) (hB : Heap) (h0 : Heap) (n0 : Nat) (v : Option Value) (h : Heap) (L : List Loc) : Prop := ∃ b q : Addr, v = some (.ref b) ∧ Fr n0 L ∧ n0 ≤ b ∧ Keep hB h [] ∧ Exa Z h b "com/example/caddis/caddis/StatementSet$Union" ∧ Fld Z h b "com/example/caddis/caddis/StatementSet$Union" "heads" "Ljava/util/PriorityQueue;" (.ref q) ∧ Fld Z h b "com/example/caddis/caddis/StatementSet$Union" "last" "Ljava/lang/String;" .null ∧ Exa Z h q "java/util/PriorityQueue" ∧ Fld Z h q "java/util/PriorityQueue" "size" "I" (.int (0 : Int32))
theorem d_prog_43_method_9_20 : decode prog_43_method_9_code 20 = .ok (.aload_n 2, 1) := by decide +kernel
theorem d_prog_43_method_9_21 : decode prog_43_method_9_code 21 = .ok (.invokeinterface 75 1, 5) := by decide +kernel
theorem d_prog_43_method_9_26 : decode prog_43_method_9_code 26 = .ok (.ifCond .eq 44, 3) := by decide +kernel
theorem d_prog_43_method_9_70 : decode prog_43_method_9_code 70 = .ok (.new 142, 3) := by decide +kernel
theorem d_prog_43_method_9_73 : decode prog_43_method_9_code 73 = .ok (.dup, 1) := by decide +kernel
theorem d_prog_43_method_9_74 : decode prog_43_method_9_code 74 = .ok (.aload_n 1, 1) := by decide +kernel
theorem d_prog_43_method_9_75 : decode prog_43_method_9_code 75 = .ok (.invokespecial 144, 3) := by decide +kernel
theorem d_prog_43_method_9_78 : decode prog_43_method_9_code 78 = .ok (.areturn, 1) := by decide +kernel
theorem pd_13 : parseMethodDescriptor "(Ljava/util/PriorityQueue;)V" = some ⟨[(.object "java/util/PriorityQueue")], none⟩ := by decide +kernel
set_option maxRecDepth 65536 in
set_option maxHeartbeats 40000000 in
theorem un2 {p : Program} {l : Launch} {e : Env} {s : State} {m : MethodId} {args : Array Value} {below : List Frame} {meth : Method} {c : Code} {T0 : State} {locs : List Loc} {Z : State} {a0 : Array Value} {h0 : Heap} {n0 : Nat} (ls : Addr) (bE : Addr) (kB : ClassId) (ea : Addr) (ii : Addr) (cK : ClassId) (one : Option Addr) (hB : Heap) (pq : Addr) (tr : Addr)
    (X0 : Stand p l e ({ frames := 8, cells := 4, slots := 21, locals := 3120 } : Room) s m args below meth c T0 locs 3 19) (hx : p.tables.exec = Jvm.exec) (hZ : Z.Warmed39 s.vm) (hw : ∀ d ∈ tables_1, d.before a0 Z = true) (hby : c.code = prog_43_method_9_code) (hml : c.maxLocals = 5) (hown : s.vm.findClass "com/example/caddis/caddis/StatementSet" = some m.cls) (hret : meth.sig.returnType = some (.object "com/example/caddis/caddis/StatementSet$Cursor")) (hlk : meth.locks = false) (e0 : T0.heap = h0) (Nf0 : Fr n0 locs) (Z0 : n0 ≤ h0.size) (O0 : Old Z n0 h0) (E_tr : Exa Z h0 tr "java/util/ArrayList$Itr") (F_tr_this0 : Fld Z h0 tr "java/util/ArrayList$Itr" "this$0" "Ljava/util/ArrayList;" (.ref ls)) (F_tr_cursor : Fld Z h0 tr "java/util/ArrayList$Itr" "cursor" "I" (.int (1 : Int32))) (F_ls_size : Fld Z h0 ls "java/util/ArrayList" "size" "I" (.int (1 : Int32))) (E_pq : Exa Z h0 pq "java/util/PriorityQueue") (F_pq_size : Fld Z h0 pq "java/util/PriorityQueue" "size" "I" (.int (0 : Int32))) (KB0 : Keep hB h0 []) :
    ∃ s₂ o, Steps p.tables e below (T0.setTop (mkF m 20 #[.val (.ref ls), .val (.ref pq), .val (.ref tr), .val (.ref ea), .val .null] [])) s₂ ∧ s₂.status = .running ∧ Ended s₂ below o ∧ ∃ v L, o = .returned v ∧ Q19T Z ls bE kB ea ii cK one hB h0 n0 v s₂.heap L ∧ FrameEnd s o s₂ L ({ frames := 8, cells := 4, slots := 21, locals := 3120 } : Room).cells ({ frames := 8, cells := 4, slots := 21, locals := 3120 } : Room).slots := by
  have kn0 : ∀ t, own_S p e below T0 (mkF m 20 #[.val (.ref ls), .val (.ref pq), .val (.ref tr), .val (.ref ea), .val .null] []) t → own_S p e below T0 (mkF m 20 #[.val (.ref ls), .val (.ref pq), .val (.ref tr), .val (.ref ea), .val .null] []) t := fun t k => k
  have kn1 : ∀ t, own_S p e below T0 (mkF m 21 #[.val (.ref ls), .val (.ref pq), .val (.ref tr), .val (.ref ea), .val .null] [(.ref tr)]) t → own_S p e below T0 (mkF m 20 #[.val (.ref ls), .val (.ref pq), .val (.ref tr), .val (.ref ea), .val .null] []) t := fun t kt => kn0 t (by
    show own_S p e below T0 (mkF m 20 #[.val (.ref ls), .val (.ref pq), .val (.ref tr), .val (.ref ea), .val .null] []) _
    refine XS.aloadN X0.here hx rfl (hb hby d_prog_43_method_9_20) rfl rfl ?_
    exact kt)
  obtain ⟨cq2, kq2, qa2, qb2, qc2⟩ := isOf hZ e0 E_tr
  obtain ⟨_, _, ⟨T2, L2, cc2, ss2⟩, -, X2, ⟨Lc2, hQ2, l2, y2, z2⟩, st2⟩ := X0.interfaceBack hx (xi := (⟨"java/util/Iterator", "hasNext", "()Z"⟩ : MethodName)) (y := (⟨"java/util/ArrayList$Itr", "hasNext", "()Z"⟩ : MethodName)) hown (mvT hZ (hw _ (List.mem_of_getElem? (i := 127) rfl))) (mvT hZ (hw _ (List.mem_of_getElem? (i := 128) rfl))) (mvT hZ (hw _ (List.mem_of_getElem? (i := 129) rfl))) (mvT hZ (hw _ (List.mem_of_getElem? (i := 184) rfl))) (mvT hZ (hw _ (List.mem_of_getElem? (i := 185) rfl))) (mvT hZ (hw _ (List.mem_of_getElem? (i := 186) rfl))) (mvT hZ (hw _ (List.mem_of_getElem? (i := 187) rfl))) (mvT hZ (hw _ (List.mem_of_getElem? (i := 188) rfl))) (by decide) (backOf (W := 0) (rm25_1 l Z a0 hw [] tr ls h0 n0 Z0 E_tr F_tr_this0 F_tr_cursor F_ls_size) hZ (hw _ (List.mem_of_getElem? (i := 189) rfl)) (hw _ (List.mem_of_getElem? (i := 171) rfl)) (by decide) (by decide)) qa2 qb2 qc2 (g := (mkF m 21 #[.val (.ref ls), .val (.ref pq), .val (.ref tr), .val (.ref ea), .val .null] [(.ref tr)])) rfl (by rw [hml]; rfl) (Steps.refl _) (argsL := []) (rest := []) (lenOf pd_11 rfl) rfl (by show 2 * 0 + _ ≤ _; exact Nat.le_of_eq rfl) (hb hby d_prog_43_method_9_21) (fun _ _ => ⟨rfl, e0, (by decide : 3 + 0 ≤ _), (by decide : 19 + 0 ≤ _)⟩)
  dsimp only [Pt.U, Pt.locs, Pt.cells, Pt.slots] at X2 l2 y2 z2 st2 hQ2
  subst l2 y2 z2
  have X2 : Stand p l e _ _ m _ below meth c T2 _ 3 19 := X2
  obtain ⟨rfl, Nq2, eq2⟩ := hQ2
  have Nf2 := Fr.app Nf0 Nq2
  have kn3 : ∀ t, own_S p e below T2 (mkF m 26 #[.val (.ref ls), .val (.ref pq), .val (.ref tr), .val (.ref ea), .val .null] [(.int (0 : Int32))]) t → own_S p e below T0 (mkF m 20 #[.val (.ref ls), .val (.ref pq), .val (.ref tr), .val (.ref ea), .val .null] []) t := fun t kt => kn1 t (st2.trans kt)
  have kn4 : ∀ t, own_S p e below T2 (mkF m 70 #[.val (.ref ls), .val (.ref pq), .val (.ref tr), .val (.ref ea), .val .null] []) t → own_S p e below T0 (mkF m 20 #[.val (.ref ls), .val (.ref pq), .val (.ref tr), .val (.ref ea), .val .null] []) t := fun t kt => kn3 t (by
    show own_S p e below T2 (mkF m 26 #[.val (.ref ls), .val (.ref pq), .val (.ref tr), .val (.ref ea), .val .null] [(.int (0 : Int32))]) _
    refine XS.ifYes X2.here hx rfl (pc0 := 26) (pc' := 70) rfl (hb hby d_prog_43_method_9_26) rfl ((if0 _ _).trans (teq (by decide : (0 : Int32) = (0 : Int32))).1) (by decide) (by decide) ?_
    exact kt)
  obtain ⟨T5, h5, X5, e5, E5, A5, D5, -, st5⟩ := newO X2 hx hZ hown (hw _ (List.mem_of_getElem? (i := 213) rfl)) (hw _ (List.mem_of_getElem? (i := 214) rfl)) (hw _ (List.mem_of_getElem? (i := 215) rfl)) eq2 (g := (mkF m 70 #[.val (.ref ls), .val (.ref pq), .val (.ref tr), .val (.ref ea), .val .null] [])) rfl (hb hby d_prog_43_method_9_70) (by decide) (by decide)
  obtain ⟨b5, g5⟩ : ∃ z, z = h0.size := ⟨_, rfl⟩
  rw [← g5] at A5 D5 st5
  have sz_b5 : hB.size ≤ b5 := Nat.le_trans KB0.1 (Nat.le_of_eq g5.symm)
  have g_b5 : n0 ≤ b5 := Nat.le_trans Z0 (Nat.le_of_eq g5.symm)
  have ne_tr_b5 : tr ≠ b5 := Nat.ne_of_lt (Nat.lt_of_lt_of_le E_tr.lt (Nat.le_of_eq g5.symm))
  have ne_ls_b5 : ls ≠ b5 := Nat.ne_of_lt (Nat.lt_of_lt_of_le F_ls_size.lt (Nat.le_of_eq g5.symm))
  have ne_pq_b5 : pq ≠ b5 := Nat.ne_of_lt (Nat.lt_of_lt_of_le E_pq.lt (Nat.le_of_eq g5.symm))
  have Z6 : n0 ≤ h5.size := Nat.le_trans Z0 E5.1
  have Od7 : Old Z n0 h5 := O0.ext E5
  have K8 : Keep hB h5 [] := KB0.ext E5
  have F5_221 : Fld Z h5 b5 "com/example/caddis/caddis/StatementSet$Union" "heads" "Ljava/util/PriorityQueue;" .null := D5 (Or.inr (hw _ (List.mem_of_getElem? (i := 221) rfl))) (ty := (.object "java/util/PriorityQueue")) (by decide)
  have F5_251 : Fld Z h5 b5 "com/example/caddis/caddis/StatementSet$Union" "last" "Ljava/lang/String;" .null := D5 (Or.inl (hw _ (List.mem_of_getElem? (i := 251) rfl))) (ty := (.object "java/lang/String")) (by decide)
  have kn9 : ∀ t, own_S p e below T5 (mkF m 73 #[.val (.ref ls), .val (.ref pq), .val (.ref tr), .val (.ref ea), .val .null] [(.ref b5)]) t → own_S p e below T0 (mkF m 20 #[.val (.ref ls), .val (.ref pq), .val (.ref tr), .val (.ref ea), .val .null] []) t := fun t kt => kn4 t (st5 _ kt)
  have kn10 : ∀ t, own_S p e below T5 (mkF m 75 #[.val (.ref ls), .val (.ref pq), .val (.ref tr), .val (.ref ea), .val .null] [(.ref pq), (.ref b5), (.ref b5)]) t → own_S p e below T0 (mkF m 20 #[.val (.ref ls), .val (.ref pq), .val (.ref tr), .val (.ref ea), .val .null] []) t := fun t kt => kn9 t (by
    show own_S p e below T5 (mkF m 73 #[.val (.ref ls), .val (.ref pq), .val (.ref tr), .val (.ref ea), .val .null] [(.ref b5)]) _
    refine XS.dup X5.here hx rfl (hb hby d_prog_43_method_9_73) rfl rfl ?_
    show own_S p e below T5 (mkF m 74 #[.val (.ref ls), .val (.ref pq), .val (.ref tr), .val (.ref ea), .val .null] [(.ref b5), (.ref b5)]) _
    refine XS.aloadN X5.here hx rfl (hb hby d_prog_43_method_9_74) rfl rfl ?_
    exact kt)
  obtain ⟨_, _, ⟨T11, L11, cc11, ss11⟩, -, X11, ⟨Lc11, hQ11, l11, y11, z11⟩, st11⟩ := own_specialRef X5 hx hZ (y := (⟨"com/example/caddis/caddis/StatementSet$Union", "<init>", "(Ljava/util/PriorityQueue;)V"⟩ : MethodName)) rfl hown (hw _ (List.mem_of_getElem? (i := 216) rfl)) (hw _ (List.mem_of_getElem? (i := 217) rfl)) (hw _ (List.mem_of_getElem? (i := 218) rfl)) (by decide) (backOf (W := 1) (rm29 l Z a0 hw [] b5 pq  h5 n0 Z6 Od7 A5 F5_221 F5_251 g_b5) hZ (hw _ (List.mem_of_getElem? (i := 218) rfl)) (hw _ (List.mem_of_getElem? (i := 215) rfl)) (by decide) (by decide)) (g := (mkF m 75 #[.val (.ref ls), .val (.ref pq), .val (.ref tr), .val (.ref ea), .val .null] [(.ref pq), (.ref b5), (.ref b5)])) rfl (by rw [hml]; rfl) (Steps.refl _) (a := b5) (argsL := [(.ref pq)]) (rest := [(.ref b5)]) (lenOf pd_13 rfl) rfl (by show 2 * 0 + _ ≤ _; exact Nat.le_of_eq rfl) (hb hby d_prog_43_method_9_75) (fun _ _ => ⟨rfl, e5, (by decide : 4 + 0 ≤ _), (by decide : 21 + 0 ≤ _)⟩)
  dsimp only [Pt.U, Pt.locs, Pt.cells, Pt.slots] at X11 l11 y11 z11 st11 hQ11
  subst l11 y11 z11
  have X11 : Stand p l e _ _ m _ below meth c T11 _ 4 21 := X11
  obtain ⟨rfl, Nq11, K11, Ex11_a, Fx11_a_0, Fx11_a_1⟩ := hQ11
  have Nf11 := Fr.app Nf2 Nq11
  have Z12 : n0 ≤ T11.heap.size := Nat.le_trans Z6 K11.1
  have Od13 : Old Z n0 T11.heap := Od7.keep K11 (allS g_b5 all0)
  have K14 : Keep hB T11.heap [] := K8.trans K11 (allS (Or.inr sz_b5) all0)
  have kn15 : ∀ t, own_S p e below T11 (mkF m 78 #[.val (.ref ls), .val (.ref pq), .val (.ref tr), .val (.ref ea), .val .null] [(.ref b5)]) t → own_S p e below T0 (mkF m 20 #[.val (.ref ls), .val (.ref pq), .val (.ref tr), .val (.ref ea), .val .null] []) t := fun t kt => kn10 t (st11.trans kt)
  obtain ⟨fs, hr, hrun, hended, hW, hsame⟩ := X11.leave (v := some (.ref b5)) (fun h => by rw [hret] at h; cases h)
  refine ⟨_, _, id (kn15 _ (by
      show own_S p e below T11 (mkF m 78 #[.val (.ref ls), .val (.ref pq), .val (.ref tr), .val (.ref ea), .val .null] [(.ref b5)]) _
      jvm_step X11.here [X11.here.top, hx, (hb hby d_prog_43_method_9_78), X11.method', hret, Value.isRef, FieldType.isReference]
      first | (intro acts; rw [hr _ acts rfl rfl rfl]) | rw [hr _ _ rfl rfl rfl]
      exact Steps.refl _)), hrun, hended, _, _, rfl, ?_, ⟨_, rfl⟩, hW, hsame.mono (by decide) (by decide)⟩
  show Q19T Z ls bE kB ea ii cK one hB h0 n0 _ T11.heap _
  have f16 := ((E_pq.ext E5).keep K11)
  have f17 := ((F_pq_size.ext E5).keep K11 (ninS ne_pq_b5 nin0))
  exact ⟨b5, pq, rfl, Nf11, g_b5, K14, Ex11_a, Fx11_a_0, Fx11_a_1, f16, f17⟩

theorem d_prog_43_method_9_0 : decode prog_43_method_9_code 0 = .ok (.new 122, 3) := by decide +kernel
theorem d_prog_43_method_9_3 : decode prog_43_method_9_code 3 = .ok (.dup, 1) := by decide +kernel
theorem d_prog_43_method_9_4 : decode prog_43_method_9_code 4 = .ok (.invokedynamic 124, 5) := by decide +kernel
theorem d_prog_43_method_9_9 : decode prog_43_method_9_code 9 = .ok (.invokespecial 128, 3) := by decide +kernel
theorem d_prog_43_method_9_12 : decode prog_43_method_9_code 12 = .ok (.astore_n 1, 1) := by decide +kernel
theorem d_prog_43_method_9_13 : decode prog_43_method_9_code 13 = .ok (.aload_n 0, 1) := by decide +kernel
theorem d_prog_43_method_9_14 : decode prog_43_method_9_code 14 = .ok (.invokeinterface 71 1, 5) := by decide +kernel
theorem d_prog_43_method_9_19 : decode prog_43_method_9_code 19 = .ok (.astore_n 2, 1) := by decide +kernel
theorem d_prog_43_method_9_29 : decode prog_43_method_9_code 29 = .ok (.aload_n 2, 1) := by decide +kernel
theorem d_prog_43_method_9_30 : decode prog_43_method_9_code 30 = .ok (.invokeinterface 81 1, 5) := by decide +kernel
theorem d_prog_43_method_9_35 : decode prog_43_method_9_code 35 = .ok (.checkcast 131, 3) := by decide +kernel
theorem d_prog_43_method_9_38 : decode prog_43_method_9_code 38 = .ok (.astore_n 3, 1) := by decide +kernel
theorem d_prog_43_method_9_39 : decode prog_43_method_9_code 39 = .ok (.aload_n 3, 1) := by decide +kernel
theorem d_prog_43_method_9_40 : decode prog_43_method_9_code 40 = .ok (.invokeinterface 133 1, 5) := by decide +kernel
theorem d_prog_43_method_9_45 : decode prog_43_method_9_code 45 = .ok (.astore 4, 2) := by decide +kernel
theorem d_prog_43_method_9_47 : decode prog_43_method_9_code 47 = .ok (.aload 4, 2) := by decide +kernel
theorem d_prog_43_method_9_49 : decode prog_43_method_9_code 49 = .ok (.ifnull 18, 3) := by decide +kernel
theorem d_prog_43_method_9_67 : decode prog_43_method_9_code 67 = .ok (.goto (-47), 3) := by decide +kernel
theorem pd_14 : parseMethodDescriptor "(Ljava/util/Comparator;)V" = some ⟨[(.object "java/util/Comparator")], none⟩ := by decide +kernel
theorem pd_15 : parseMethodDescriptor "()Ljava/lang/Object;" = some ⟨[], some (.object "java/lang/Object")⟩ := by decide +kernel
theorem ef_rm19 (m : MethodId) (x0 : Addr) : entryFrame m #[(.ref x0)] 5 = mkF m 0 #[.val (.ref x0), .unset, .unset, .unset, .unset] [] := by first | (simp [entryFrame, mkF, argsToLocals, Value.category]; done) | rfl
 
set_option maxRecDepth 65536 in
set_option maxHeartbeats 40000000 in
theorem rm19 (l : Launch) (Z : State) (a0 : Array Value) (hw : ∀ d ∈ tables_1, d.before a0 Z = true) (ws : List Jvm.Cond) (ls : Addr) (bE : Addr) (kB : ClassId) (ea : Addr) (ii : Addr) (cK : ClassId) (one : Option Addr) (h0 : Heap) (n0 : Nat) (Z0 : n0 ≤ h0.size) (O0 : Old Z n0 h0) (E_ls : Exa Z h0 ls "java/util/ArrayList") (F_ls_modCount : Fld Z h0 ls "java/util/AbstractList" "modCount" "I" (.int (1 : Int32))) (F_ls_elementData : Fld Z h0 ls "java/util/ArrayList" "elementData" "[Ljava/lang/Object;" (.ref bE)) (F_ls_size : Fld Z h0 ls "java/util/ArrayList" "size" "I" (.int (1 : Int32))) (A_bE : Arv Z h0 bE kB (.object "java/lang/Object") (10 : Int32) [(.ref ea), .null, .null, .null, .null, .null, .null, .null, .null, .null] .null) (L_ea : Lam h0 ea cK ii) (E_ii : Exa Z h0 ii "java/util/ImmutableCollections$ListItr") (F_ii_cursor : Fld Z h0 ii "java/util/ImmutableCollections$ListItr" "cursor" "I" (.int (0 : Int32))) (F_ii_size : Fld Z h0 ii "java/util/ImmutableCollections$ListItr" "size" "I" (.int (0 : Int32))) (hat : Z.lambdaAt? own_x 8 229 own_σ = some (cK, one)) :
    MetFree l (⟨"com/example/caddis/caddis/StatementSet", "union", "(Ljava/util/List;)Lcom/example/caddis/caddis/StatementSet$Cursor;"⟩ : MethodName) (head1 (Jvm.Cond.code (⟨"com/example/caddis/caddis/StatementSet", "union", "(Ljava/util/List;)Lcom/example/caddis/caddis/StatementSet$Cursor;"⟩ : MethodName) prog_43_method_9_code 5 (some (.object "com/example/caddis/caddis/StatementSet$Cursor")) :: ws) ({ frames := 8, cells := 4, slots := 21, locals := 3120 } : Room)) (fun a U => a = #[(.ref ls)] ∧ Z.Warmed39 U.vm ∧ U.heap = h0 ∧ Z.WarmedH U.vm) (fun _ _ _ _ _ => True) (fun _ U o U' => ∃ v L, o = .returned v ∧ Q19 Z ls bE kB ea ii cK one h0 n0 v U'.heap L ∧ FrameEnd U o U' L ({ frames := 8, cells := 4, slots := 21, locals := 3120 } : Room).cells ({ frames := 8, cells := 4, slots := 21, locals := 3120 } : Room).slots) := by
  refine MetFree.of_bodySF (plainFor_of_name pn_1) hisR ?_
  intro p e s m args below meth c s₁ Bd hml0 hP hK
  obtain ⟨rfl, hZ, hh, hWH⟩ := hP
  have hx := Bd.exec
  have hby := Bd.bytes
  have hml : c.maxLocals = 5 := hml0
  have hown : s.vm.findClass "com/example/caddis/caddis/StatementSet" = some m.cls := findClass_of_methodNamed Bd.named
  have hnm := (name_of_methodNamed Bd.named Bd.method).1
  have X0 : Stand p l e ({ frames := 8, cells := 4, slots := 21, locals := 3120 } : Room) s m #[(.ref ls)] below meth c s₁ [] 0 0 := Stand.of_body Bd
  have e0 : s₁.heap = h0 := by rw [← hh, Bd.state]; rfl
  have Nf0 := Fr.nil n0
  obtain ⟨Gl, hGl, kn0⟩ : ∃ Gl : State → Prop, (∀ t, Gl t → Steps p.tables e below (s₁.setTop (entryFrame m #[(.ref ls)] 5)) t) ∧ ∀ t, own_S p e below s₁ (mkF m 0 #[.val (.ref ls), .unset, .unset, .unset, .unset] []) t → Gl t := ⟨fun t => Steps p.tables e below (s₁.setTop (entryFrame m #[(.ref ls)] 5)) t, fun _ k => k, fun t k => castTop (ef_rm19 m ls) k⟩
  have I_ea : Ins Z h0 ea "com/example/caddis/caddis/StatementSet$Cursor" true := own_insC L_ea hat
  obtain ⟨T1, h1, X1, e1, E1, A1, D1, -, st1⟩ := newO X0 hx hZ hown (hw _ (List.mem_of_getElem? (i := 139) rfl)) (hw _ (List.mem_of_getElem? (i := 140) rfl)) (hw _ (List.mem_of_getElem? (i := 141) rfl)) e0 (g := (mkF m 0 #[.val (.ref ls), .unset, .unset, .unset, .unset] [])) rfl (hb hby d_prog_43_method_9_0) (by decide) (by decide)
  obtain ⟨b1, g1⟩ : ∃ z, z = h0.size := ⟨_, rfl⟩
  rw [← g1] at A1 D1 st1
  have sz_b1 : h0.size ≤ b1 := Nat.le_trans (Keep.refl h0 []).1 (Nat.le_of_eq g1.symm)
  have g_b1 : n0 ≤ b1 := Nat.le_trans Z0 (Nat.le_of_eq g1.symm)
  have ne_ls_b1 : ls ≠ b1 := Nat.ne_of_lt (Nat.lt_of_lt_of_le E_ls.lt (Nat.le_of_eq g1.symm))
  have ne_bE_b1 : bE ≠ b1 := Nat.ne_of_lt (Nat.lt_of_lt_of_le A_bE.lt (Nat.le_of_eq g1.symm))
  have ne_ea_b1 : ea ≠ b1 := Nat.ne_of_lt (Nat.lt_of_lt_of_le L_ea.lt (Nat.le_of_eq g1.symm))
  have ne_ii_b1 : ii ≠ b1 := Nat.ne_of_lt (Nat.lt_of_lt_of_le E_ii.lt (Nat.le_of_eq g1.symm))
  have Z2 : n0 ≤ h1.size := Nat.le_trans Z0 E1.1
  have Od3 : Old Z n0 h1 := O0.ext E1
  have K4 : Keep h0 h1 [] := (Keep.refl h0 []).ext E1
  have F1_161 : Fld Z h1 b1 "java/util/PriorityQueue" "queue" "[Ljava/lang/Object;" .null := D1 (Or.inl (hw _ (List.mem_of_getElem? (i := 161) rfl))) (ty := (.array (.object "java/lang/Object"))) (by decide)
  have F1_163 : Fld Z h1 b1 "java/util/PriorityQueue" "comparator" "Ljava/util/Comparator;" .null := D1 (Or.inr (hw _ (List.mem_of_getElem? (i := 163) rfl))) (ty := (.object "java/util/Comparator")) (by decide)
  have F1_240 : Fld Z h1 b1 "java/util/PriorityQueue" "size" "I" (.int (0 : Int32)) := D1 (Or.inl (hw _ (List.mem_of_getElem? (i := 240) rfl))) (ty := .int) (by decide)
  have kn5 : ∀ t, own_S p e below T1 (mkF m 3 #[.val (.ref ls), .unset, .unset, .unset, .unset] [(.ref b1)]) t → Gl t := fun t kt => kn0 t (st1 _ kt)
  have kn6 : ∀ t, own_S p e below T1 (mkF m 4 #[.val (.ref ls), .unset, .unset, .unset, .unset] [(.ref b1), (.ref b1)]) t → Gl t := fun t kt => kn5 t (by
    show own_S p e below T1 (mkF m 3 #[.val (.ref ls), .unset, .unset, .unset, .unset] [(.ref b1)]) _
    refine XS.dup X1.here hx rfl (hb hby d_prog_43_method_9_3) rfl rfl ?_
    exact kt)
  obtain ⟨q7, st7⟩ := own_const X1 hx hWH Bd.named (hw _ (List.mem_of_getElem? (i := 142) rfl)) rfl (g := (mkF m 4 #[.val (.ref ls), .unset, .unset, .unset, .unset] [(.ref b1), (.ref b1)])) rfl rfl (by rw [hml]; rfl) (hb hby d_prog_43_method_9_4) (by show 2 * 0 + 2 + 3072 ≤ _; decide)
  have kn8 : ∀ t, own_S p e below T1 (mkF m 9 #[.val (.ref ls), .unset, .unset, .unset, .unset] [(.ref q7), (.ref b1), (.ref b1)]) t → Gl t := fun t kt => kn6 t (st7 _ kt)
  obtain ⟨_, _, ⟨T9, L9, cc9, ss9⟩, -, X9, ⟨Lc9, hQ9, l9, y9, z9⟩, st9⟩ := X1.specialBack hx (y := (⟨"java/util/PriorityQueue", "<init>", "(Ljava/util/Comparator;)V"⟩ : MethodName)) rfl hown (mvT hZ (hw _ (List.mem_of_getElem? (i := 144) rfl))) (mvT hZ (hw _ (List.mem_of_getElem? (i := 145) rfl))) (mvT hZ (hw _ (List.mem_of_getElem? (i := 146) rfl))) (by decide) (backOf (W := 1) (rm20 l Z a0 hw [] b1 q7  h1 n0 Z2 Od3 A1 F1_161 F1_163 F1_240 g_b1 ) hZ (hw _ (List.mem_of_getElem? (i := 146) rfl)) (hw _ (List.mem_of_getElem? (i := 141) rfl)) (by decide) (by decide)) (g := (mkF m 9 #[.val (.ref ls), .unset, .unset, .unset, .unset] [(.ref q7), (.ref b1), (.ref b1)])) rfl (by rw [hml]; rfl) (Steps.refl _) (a := b1) (argsL := [(.ref q7)]) (rest := [(.ref b1)]) (lenOf pd_14 rfl) rfl (by show 2 * 0 + _ ≤ _; exact Nat.le_of_eq rfl) (hb hby d_prog_43_method_9_9) (fun _ _ => ⟨rfl, e1, (by decide : 1 + 1 ≤ _), (by decide : 4 + 11 ≤ _)⟩)
  dsimp only [Pt.U, Pt.locs, Pt.cells, Pt.slots] at X9 l9 y9 z9 st9 hQ9
  subst l9 y9 z9
  have X9 : Stand p l e _ _ m _ below meth c T9 _ 2 15 := X9
  obtain ⟨rfl, Nq9, K9, Ex9_a, Fx9_a_0⟩ := hQ9
  have Nf9 := Fr.app Nf0 Nq9
  have Z10 : n0 ≤ T9.heap.size := Nat.le_trans Z2 K9.1
  have Od11 : Old Z n0 T9.heap := Od3.keep K9 (allS g_b1 all0)
  have K12 : Keep h0 T9.heap [] := K4.trans K9 (allS (Or.inr sz_b1) all0)
  have kn13 : ∀ t, own_S p e below T9 (mkF m 12 #[.val (.ref ls), .unset, .unset, .unset, .unset] [(.ref b1)]) t → Gl t := fun t kt => kn8 t (st9.trans kt)
  have kn14 : ∀ t, own_S p e below T9 (mkF m 14 #[.val (.ref ls), .val (.ref b1), .unset, .unset, .unset] [(.ref ls)]) t → Gl t := fun t kt => kn13 t (by
    show own_S p e below T9 (mkF m 12 #[.val (.ref ls), .unset, .unset, .unset, .unset] [(.ref b1)]) _
    refine XS.astoreN X9.here hx rfl (hb hby d_prog_43_method_9_12) rfl rfl (l' := #[.val (.ref ls), .val (.ref b1), .unset, .unset, .unset]) rfl ?_
    show own_S p e below T9 (mkF m 13 #[.val (.ref ls), .val (.ref b1), .unset, .unset, .unset] []) _
    refine XS.aloadN X9.here hx rfl (hb hby d_prog_43_method_9_13) rfl rfl ?_
    exact kt)
  have f16 := ((F_ls_modCount.ext E1).keep K9 (ninS ne_ls_b1 nin0))
  have f17 := ((E_ls.ext E1).keep K9)
  obtain ⟨cq15, kq15, qa15, qb15, qc15⟩ := isOf hZ rfl f17
  obtain ⟨_, _, ⟨T15, L15, cc15, ss15⟩, -, X15, ⟨Lc15, hQ15, l15, y15, z15⟩, st15⟩ := X9.interfaceBack hx (xi := (⟨"java/util/List", "iterator", "()Ljava/util/Iterator;"⟩ : MethodName)) (y := (⟨"java/util/ArrayList", "iterator", "()Ljava/util/Iterator;"⟩ : MethodName)) hown (mvT hZ (hw _ (List.mem_of_getElem? (i := 54) rfl))) (mvT hZ (hw _ (List.mem_of_getElem? (i := 55) rfl))) (mvT hZ (hw _ (List.mem_of_getElem? (i := 56) rfl))) (mvT hZ (hw _ (List.mem_of_getElem? (i := 164) rfl))) (mvT hZ (hw _ (List.mem_of_getElem? (i := 165) rfl))) (mvT hZ (hw _ (List.mem_of_getElem? (i := 166) rfl))) (mvT hZ (hw _ (List.mem_of_getElem? (i := 167) rfl))) (mvT hZ (hw _ (List.mem_of_getElem? (i := 100) rfl))) (by decide) (backOf (W := 0) (rm23 l Z a0 hw [] ls  T9.heap n0 Z10 Od11 f16) hZ (hw _ (List.mem_of_getElem? (i := 168) rfl)) (hw _ (List.mem_of_getElem? (i := 29) rfl)) (by decide) (by decide)) qa15 qb15 qc15 (g := (mkF m 14 #[.val (.ref ls), .val (.ref b1), .unset, .unset, .unset] [(.ref ls)])) rfl (by rw [hml]; rfl) (Steps.refl _) (argsL := []) (rest := []) (lenOf pd_12 rfl) rfl (by show 2 * 0 + _ ≤ _; exact Nat.le_of_eq rfl) (hb hby d_prog_43_method_9_14) (fun _ _ => ⟨rfl, rfl, (by decide : 2 + 1 ≤ _), (by decide : 15 + 4 ≤ _)⟩)
  dsimp only [Pt.U, Pt.locs, Pt.cells, Pt.slots] at X15 l15 y15 z15 st15 hQ15
  subst l15 y15 z15
  have X15 : Stand p l e _ _ m _ below meth c T15 _ 3 19 := X15
  obtain ⟨b15, rfl, Nq15, g_b15, sb15, K15, Ex15_b15, Fx15_b15_0, Fx15_b15_1, Fx15_b15_2, Fx15_b15_3⟩ := hQ15
  have Nf15 := Fr.app Nf9 Nq15
  have ne_ls_b15 : ls ≠ b15 := Nat.ne_of_lt (Nat.lt_of_lt_of_le f17.lt sb15)
  have f18 := ((A_bE.ext E1).keep K9 (ninS ne_bE_b1 nin0))
  have ne_bE_b15 : bE ≠ b15 := Nat.ne_of_lt (Nat.lt_of_lt_of_le f18.lt sb15)
  have f19 := ((L_ea.ext E1).keep K9 (ninS ne_ea_b1 nin0))
  have ne_ea_b15 : ea ≠ b15 := Nat.ne_of_lt (Nat.lt_of_lt_of_le f19.lt sb15)
  have f20 := ((E_ii.ext E1).keep K9)
  have ne_ii_b15 : ii ≠ b15 := Nat.ne_of_lt (Nat.lt_of_lt_of_le f20.lt sb15)
  have ne_b1_b15 : b1 ≠ b15 := Nat.ne_of_lt (Nat.lt_of_lt_of_le Ex9_a.lt sb15)
  have sz_b15 : h0.size ≤ b15 := Nat.le_trans K12.1 sb15
  have Z21 : n0 ≤ T15.heap.size := Nat.le_trans Z10 K15.1
  have Od22 : Old Z n0 T15.heap := Od11.keep K15 all0
  have K23 : Keep h0 T15.heap [] := K12.trans K15 (all0)
  have kn24 : ∀ t, own_S p e below T15 (mkF m 19 #[.val (.ref ls), .val (.ref b1), .unset, .unset, .unset] [(.ref b15)]) t → Gl t := fun t kt => kn14 t (st15.trans kt)
  have kn25 : ∀ t, own_S p e below T15 (mkF m 21 #[.val (.ref ls), .val (.ref b1), .val (.ref b15), .unset, .unset] [(.ref b15)]) t → Gl t := fun t kt => kn24 t (by
    show own_S p e below T15 (mkF m 19 #[.val (.ref ls), .val (.ref b1), .unset, .unset, .unset] [(.ref b15)]) _
    refine XS.astoreN X15.here hx rfl (hb hby d_prog_43_method_9_19) rfl rfl (l' := #[.val (.ref ls), .val (.ref b1), .val (.ref b15), .unset, .unset]) rfl ?_
    show own_S p e below T15 (mkF m 20 #[.val (.ref ls), .val (.ref b1), .val (.ref b15), .unset, .unset] []) _
    refine XS.aloadN X15.here hx rfl (hb hby d_prog_43_method_9_20) rfl rfl ?_
    exact kt)
  have f27 := (((F_ls_size.ext E1).keep K9 (ninS ne_ls_b1 nin0)).keep K15 nin0)
  obtain ⟨cq26, kq26, qa26, qb26, qc26⟩ := isOf hZ rfl Ex15_b15
  obtain ⟨_, _, ⟨T26, L26, cc26, ss26⟩, -, X26, ⟨Lc26, hQ26, l26, y26, z26⟩, st26⟩ := X15.interfaceBack hx (xi := (⟨"java/util/Iterator", "hasNext", "()Z"⟩ : MethodName)) (y := (⟨"java/util/ArrayList$Itr", "hasNext", "()Z"⟩ : MethodName)) hown (mvT hZ (hw _ (List.mem_of_getElem? (i := 127) rfl))) (mvT hZ (hw _ (List.mem_of_getElem? (i := 128) rfl))) (mvT hZ (hw _ (List.mem_of_getElem? (i := 129) rfl))) (mvT hZ (hw _ (List.mem_of_getElem? (i := 184) rfl))) (mvT hZ (hw _ (List.mem_of_getElem? (i := 185) rfl))) (mvT hZ (hw _ (List.mem_of_getElem? (i := 186) rfl))) (mvT hZ (hw _ (List.mem_of_getElem? (i := 187) rfl))) (mvT hZ (hw _ (List.mem_of_getElem? (i := 188) rfl))) (by decide) (backOf (W := 0) (rm25_0 l Z a0 hw [] b15 ls T15.heap n0 Z21 Ex15_b15 Fx15_b15_0 Fx15_b15_3 f27) hZ (hw _ (List.mem_of_getElem? (i := 189) rfl)) (hw _ (List.mem_of_getElem? (i := 171) rfl)) (by decide) (by decide)) qa26 qb26 qc26 (g := (mkF m 21 #[.val (.ref ls), .val (.ref b1), .val (.ref b15), .unset, .unset] [(.ref b15)])) rfl (by rw [hml]; rfl) (Steps.refl _) (argsL := []) (rest := []) (lenOf pd_11 rfl) rfl (by show 2 * 0 + _ ≤ _; exact Nat.le_of_eq rfl) (hb hby d_prog_43_method_9_21) (fun _ _ => ⟨rfl, rfl, (by decide : 3 + 0 ≤ _), (by decide : 19 + 0 ≤ _)⟩)
  dsimp only [Pt.U, Pt.locs, Pt.cells, Pt.slots] at X26 l26 y26 z26 st26 hQ26
  subst l26 y26 z26
  have X26 : Stand p l e _ _ m _ below meth c T26 _ 3 19 := X26
  obtain ⟨rfl, Nq26, eq26⟩ := hQ26
  have Nf26 := Fr.app Nf15 Nq26
  have kn28 : ∀ t, own_S p e below T26 (mkF m 26 #[.val (.ref ls), .val (.ref b1), .val (.ref b15), .unset, .unset] [(.int (1 : Int32))]) t → Gl t := fun t kt => kn25 t (st26.trans kt)
  have kn29 : ∀ t, own_S p e below T26 (mkF m 30 #[.val (.ref ls), .val (.ref b1), .val (.ref b15), .unset, .unset] [(.ref b15)]) t → Gl t := fun t kt => kn28 t (by
    show own_S p e below T26 (mkF m 26 #[.val (.ref ls), .val (.ref b1), .val (.ref b15), .unset, .unset] [(.int (1 : Int32))]) _
    refine XS.ifNo X26.here hx rfl (hb hby d_prog_43_method_9_26) rfl ((if0 _ _).trans (feq (by decide : ¬ ((1 : Int32) = (0 : Int32)))).1) ?_
    show own_S p e below T26 (mkF m 29 #[.val (.ref ls), .val (.ref b1), .val (.ref b15), .unset, .unset] []) _
    refine XS.aloadN X26.here hx rfl (hb hby d_prog_43_method_9_29) rfl rfl ?_
    exact kt)
  have f31 := (f16.keep K15 nin0)
  have f32 := (((F_ls_elementData.ext E1).keep K9 (ninS ne_ls_b1 nin0)).keep K15 nin0)
  have f33 := (f18.keep K15 nin0)
  obtain ⟨cq30, kq30, qa30, qb30, qc30⟩ := isOf hZ eq26 Ex15_b15
  obtain ⟨_, _, ⟨T30, L30, cc30, ss30⟩, -, X30, ⟨Lc30, hQ30, l30, y30, z30⟩, st30⟩ := X26.interfaceBack hx (xi := (⟨"java/util/Iterator", "next", "()Ljava/lang/Object;"⟩ : MethodName)) (y := (⟨"java/util/ArrayList$Itr", "next", "()Ljava/lang/Object;"⟩ : MethodName)) hown (mvT hZ (hw _ (List.mem_of_getElem? (i := 193) rfl))) (mvT hZ (hw _ (List.mem_of_getElem? (i := 194) rfl))) (mvT hZ (hw _ (List.mem_of_getElem? (i := 195) rfl))) (mvT hZ (hw _ (List.mem_of_getElem? (i := 196) rfl))) (mvT hZ (hw _ (List.mem_of_getElem? (i := 197) rfl))) (mvT hZ (hw _ (List.mem_of_getElem? (i := 198) rfl))) (mvT hZ (hw _ (List.mem_of_getElem? (i := 199) rfl))) (mvT hZ (hw _ (List.mem_of_getElem? (i := 188) rfl))) (by decide) (backOf (W := 0) (rm26 l Z a0 hw [] b15 ls bE kB ea T15.heap n0 Z21 Od22 Ex15_b15 Fx15_b15_0 Fx15_b15_1 Fx15_b15_2 Fx15_b15_3 g_b15 f31 f27 f32 f33 ne_ls_b15 ne_bE_b15) hZ (hw _ (List.mem_of_getElem? (i := 200) rfl)) (hw _ (List.mem_of_getElem? (i := 171) rfl)) (by decide) (by decide)) qa30 qb30 qc30 (g := (mkF m 30 #[.val (.ref ls), .val (.ref b1), .val (.ref b15), .unset, .unset] [(.ref b15)])) rfl (by rw [hml]; rfl) (Steps.refl _) (argsL := []) (rest := []) (lenOf pd_15 rfl) rfl (by show 2 * 0 + _ ≤ _; exact Nat.le_of_eq rfl) (hb hby d_prog_43_method_9_30) (fun _ _ => ⟨rfl, eq26, (by decide : 3 + 0 ≤ _), (by decide : 19 + 0 ≤ _)⟩)
  dsimp only [Pt.U, Pt.locs, Pt.cells, Pt.slots] at X30 l30 y30 z30 st30 hQ30
  subst l30 y30 z30
  have X30 : Stand p l e _ _ m _ below meth c T30 _ 3 19 := X30
  obtain ⟨rfl, Nq30, K30, Ex30_a, Fx30_a_0, Fx30_a_1, Fx30_a_2, Fx30_a_3⟩ := hQ30
  have Nf30 := Fr.app Nf26 Nq30
  have Z34 : n0 ≤ T30.heap.size := Nat.le_trans Z21 K30.1
  have Od35 : Old Z n0 T30.heap := Od22.keep K30 (allS g_b15 all0)
  have K36 : Keep h0 T30.heap [] := K23.trans K30 (allS (Or.inr sz_b15) all0)
  have kn37 : ∀ t, own_S p e below T30 (mkF m 35 #[.val (.ref ls), .val (.ref b1), .val (.ref b15), .unset, .unset] [(.ref ea)]) t → Gl t := fun t kt => kn29 t (st30.trans kt)
  have f39 := (own_insK (own_insK (own_insK (I_ea.ext E1) K9 (ninS ne_ea_b1 nin0)) K15 nin0) K30 (ninS ne_ea_b15 nin0))
  obtain ⟨T38, X38, e38, st38⟩ := castY X30 hx hZ hown (hw _ (List.mem_of_getElem? (i := 207) rfl)) rfl f39 (g := (mkF m 35 #[.val (.ref ls), .val (.ref b1), .val (.ref b15), .unset, .unset] [(.ref ea)])) rfl rfl (hb hby d_prog_43_method_9_35)
  have kn40 : ∀ t, own_S p e below T38 (mkF m 38 #[.val (.ref ls), .val (.ref b1), .val (.ref b15), .unset, .unset] [(.ref ea)]) t → Gl t := fun t kt => kn37 t (st38 _ kt)
  have kn41 : ∀ t, own_S p e below T38 (mkF m 40 #[.val (.ref ls), .val (.ref b1), .val (.ref b15), .val (.ref ea), .unset] [(.ref ea)]) t → Gl t := fun t kt => kn40 t (by
    show own_S p e below T38 (mkF m 38 #[.val (.ref ls), .val (.ref b1), .val (.ref b15), .unset, .unset] [(.ref ea)]) _
    refine XS.astoreN X38.here hx rfl (hb hby d_prog_43_method_9_38) rfl rfl (l' := #[.val (.ref ls), .val (.ref b1), .val (.ref b15), .val (.ref ea), .unset]) rfl ?_
    show own_S p e below T38 (mkF m 39 #[.val (.ref ls), .val (.ref b1), .val (.ref b15), .val (.ref ea), .unset] []) _
    refine XS.aloadN X38.here hx rfl (hb hby d_prog_43_method_9_39) rfl rfl ?_
    exact kt)
  have f43 := ((f19.keep K15 nin0).keep K30 (ninS ne_ea_b15 nin0))
  have f44 := ((f20.keep K15).keep K30)
  have f45 := ((((F_ii_cursor.ext E1).keep K9 (ninS ne_ii_b1 nin0)).keep K15 nin0).keep K30 (ninS ne_ii_b15 nin0))
  have f46 := ((((F_ii_size.ext E1).keep K9 (ninS ne_ii_b1 nin0)).keep K15 nin0).keep K30 (ninS ne_ii_b15 nin0))
  obtain ⟨T42, L42, X42, Nq42, e42, st42⟩ := own_callLam X38 hx hZ hWH hw hat hown e38 f43 Z34 f44 f45 f46 (g := (mkF m 40 #[.val (.ref ls), .val (.ref b1), .val (.ref b15), .val (.ref ea), .unset] [(.ref ea)])) rfl (by rw [hml]; rfl) (rest := []) rfl (hb hby d_prog_43_method_9_40) (by decide) (by show 2 * 0 + 0 + _ + _ ≤ _; decide) (by decide) (by decide)
  have Nf42 := Fr.app Nf30 Nq42
  have kn47 : ∀ t, own_S p e below T42 (mkF m 45 #[.val (.ref ls), .val (.ref b1), .val (.ref b15), .val (.ref ea), .unset] [.null]) t → Gl t := fun t kt => kn41 t (st42 _ kt)
  have kn48 : ∀ t, own_S p e below T42 (mkF m 20 #[.val (.ref ls), .val (.ref b1), .val (.ref b15), .val (.ref ea), .val .null] []) t → Gl t := fun t kt => kn47 t (by
    show own_S p e below T42 (mkF m 45 #[.val (.ref ls), .val (.ref b1), .val (.ref b15), .val (.ref ea), .unset] [.null]) _
    refine XS.astore X42.here hx rfl (hb hby d_prog_43_method_9_45) rfl rfl (l' := #[.val (.ref ls), .val (.ref b1), .val (.ref b15), .val (.ref ea), .val .null]) rfl ?_
    show own_S p e below T42 (mkF m 47 #[.val (.ref ls), .val (.ref b1), .val (.ref b15), .val (.ref ea), .val .null] []) _
    refine XS.aload X42.here hx rfl (hb hby d_prog_43_method_9_47) rfl rfl ?_
    show own_S p e below T42 (mkF m 49 #[.val (.ref ls), .val (.ref b1), .val (.ref b15), .val (.ref ea), .val .null] [.null]) _
    refine XS.ifnullYes X42.here hx rfl (pc0 := 49) (pc' := 67) rfl (hb hby d_prog_43_method_9_49) rfl (by decide) (by decide) ?_
    show own_S p e below T42 (mkF m 67 #[.val (.ref ls), .val (.ref b1), .val (.ref b15), .val (.ref ea), .val .null] []) _
    refine XS.goto X42.here hx rfl (pc0 := 67) (pc' := 20) rfl (hb hby d_prog_43_method_9_67) (by decide) (by decide) ?_
    exact kt)
  have f49 := (f27.keep K30 (ninS ne_ls_b15 nin0))
  have f50 := ((Ex9_a.keep K15).keep K30)
  have f51 := ((Fx9_a_0.keep K15 nin0).keep K30 (ninS ne_b1_b15 nin0))
  obtain ⟨s2, o2, t1, t2, t3, t4⟩ := un2 (n0 := n0) ls bE kB ea ii cK one h0 b1 b15 (X42.mono (by decide) (by decide)) hx hZ hw hby hml hown Bd.returns (BodyLoose.notSynchronized Bd) e42 Nf42 Z34 Od35 Ex30_a Fx30_a_0 Fx30_a_3 f49 f50 f51 K36
  exact ⟨s2, o2, hGl _ (kn48 _ t1), t2, t3, t4⟩

theorem d_prog_43_method_5_0 : decode prog_43_method_5_code 0 = .ok (.new 60, 3) := by decide +kernel
theorem d_prog_43_method_5_3 : decode prog_43_method_5_code 3 = .ok (.dup, 1) := by decide +kernel
theorem d_prog_43_method_5_4 : decode prog_43_method_5_code 4 = .ok (.invokespecial 62, 3) := by decide +kernel
theorem d_prog_43_method_5_7 : decode prog_43_method_5_code 7 = .ok (.astore_n 1, 1) := by decide +kernel
theorem d_prog_43_method_5_8 : decode prog_43_method_5_code 8 = .ok (.aload_n 1, 1) := by decide +kernel
theorem d_prog_43_method_5_9 : decode prog_43_method_5_code 9 = .ok (.aload_n 0, 1) := by decide +kernel
theorem d_prog_43_method_5_10 : decode prog_43_method_5_code 10 = .ok (.getfield 7, 3) := by decide +kernel
theorem d_prog_43_method_5_13 : decode prog_43_method_5_code 13 = .ok (.invokestatic 63, 3) := by decide +kernel
theorem d_prog_43_method_5_16 : decode prog_43_method_5_code 16 = .ok (.invokeinterface 67 2, 5) := by decide +kernel
theorem d_prog_43_method_5_21 : decode prog_43_method_5_code 21 = .ok (.pop, 1) := by decide +kernel
theorem d_prog_43_method_5_22 : decode prog_43_method_5_code 22 = .ok (.aload_n 0, 1) := by decide +kernel
theorem d_prog_43_method_5_23 : decode prog_43_method_5_code 23 = .ok (.getfield 13, 3) := by decide +kernel
theorem d_prog_43_method_5_26 : decode prog_43_method_5_code 26 = .ok (.invokeinterface 71 1, 5) := by decide +kernel
theorem d_prog_43_method_5_31 : decode prog_43_method_5_code 31 = .ok (.astore_n 2, 1) := by decide +kernel
theorem d_prog_43_method_5_32 : decode prog_43_method_5_code 32 = .ok (.aload_n 2, 1) := by decide +kernel
theorem d_prog_43_method_5_33 : decode prog_43_method_5_code 33 = .ok (.invokeinterface 75 1, 5) := by decide +kernel
theorem d_prog_43_method_5_38 : decode prog_43_method_5_code 38 = .ok (.ifCond .eq 27, 3) := by decide +kernel
theorem d_prog_43_method_5_65 : decode prog_43_method_5_code 65 = .ok (.aload_n 1, 1) := by decide +kernel
theorem d_prog_43_method_5_66 : decode prog_43_method_5_code 66 = .ok (.invokestatic 91, 3) := by decide +kernel
theorem d_prog_43_method_5_69 : decode prog_43_method_5_code 69 = .ok (.areturn, 1) := by decide +kernel
theorem pd_16 : parseMethodDescriptor "(Ljava/util/List;)Lcom/example/caddis/caddis/StatementSet$Cursor;" = some ⟨[(.object "java/util/List")], some (.object "com/example/caddis/caddis/StatementSet$Cursor")⟩ := by decide +kernel
theorem pd_17 : parseMethodDescriptor "(Ljava/lang/Object;)Z" = some ⟨[(.object "java/lang/Object")], some .boolean⟩ := by decide +kernel
theorem ef_rm5 (m : MethodId) (x0 : Addr) : entryFrame m #[(.ref x0)] 4 = mkF m 0 #[.val (.ref x0), .unset, .unset, .unset] [] := by first | (simp [entryFrame, mkF, argsToLocals, Value.category]; done) | rfl
def Q5 (Z : State) (a1 : Addr) (gL : Addr) (gE : Addr) (kE : ClassId) (gD : Addr) (kD : ClassId) (cK : ClassId) (one : Option Addr) (h0 : Heap) (n0 : Nat) (v : Option Value) (h : Heap) (L : List Loc) : Prop := ∃ b q : Addr, v = some (.ref b) ∧ Fr n0 L ∧ n0 ≤ b ∧ Keep h0 h [] ∧ Exa Z h b "com/example/caddis/caddis/StatementSet$Union" ∧ Fld Z h b "com/example/caddis/caddis/StatementSet$Union" "heads" "Ljava/util/PriorityQueue;" (.ref q) ∧ Fld Z h b "com/example/caddis/caddis/StatementSet$Union" "last" "Ljava/lang/String;" .null ∧ Exa Z h q "java/util/PriorityQueue" ∧ Fld Z h q "java/util/PriorityQueue" "size" "I" (.int (0 : Int32))
set_option maxRecDepth 65536 in
set_option maxHeartbeats 40000000 in
theorem rm5 (l : Launch) (Z : State) (a0 : Array Value) (hw : ∀ d ∈ tables_1, d.before a0 Z = true) (ws : List Jvm.Cond) (a1 : Addr) (gL : Addr) (gE : Addr) (kE : ClassId) (gD : Addr) (kD : ClassId) (cK : ClassId) (one : Option Addr) (h0 : Heap) (n0 : Nat) (Z0 : n0 ≤ h0.size) (O0 : Old Z n0 h0) (E_a1 : Exa Z h0 a1 "com/example/caddis/caddis/StatementSet") (F_a1_inMemory : Fld Z h0 a1 "com/example/caddis/caddis/StatementSet" "inMemory" "Ljava/util/List;" (.ref gL)) (F_a1_runs : Fld Z h0 a1 "com/example/caddis/caddis/StatementSet" "runs" "Ljava/util/List;" (.ref gL)) (E_L : Exa Z Z.heap gL "java/util/ImmutableCollections$ListN") (F_L : Fld Z Z.heap gL "java/util/ImmutableCollections$ListN" "elements" "[Ljava/lang/Object;" (.ref gE)) (A_E : Arv Z Z.heap gE kE (.object "java/lang/Object") (0 : Int32) [] .null) (S_D : Sta Z Z.heap "java/util/ArrayList" "DEFAULTCAPACITY_EMPTY_ELEMENTDATA" "[Ljava/lang/Object;" (.ref gD)) (A_D : Arv Z Z.heap gD kD (.object "java/lang/Object") (0 : Int32) [] .null) (hat : Z.lambdaAt? own_x 8 229 own_σ = some (cK, one)) :
    MetFree l (⟨"com/example/caddis/caddis/StatementSet", "cursor", "()Lcom/example/caddis/caddis/StatementSet$Cursor;"⟩ : MethodName) (head1 (Jvm.Cond.code (⟨"com/example/caddis/caddis/StatementSet", "cursor", "()Lcom/example/caddis/caddis/StatementSet$Cursor;"⟩ : MethodName) prog_43_method_5_code 4 (some (.object "com/example/caddis/caddis/StatementSet$Cursor")) :: ws) ({ frames := 9, cells := 9, slots := 43, locals := 3136 } : Room)) (fun a U => a = #[(.ref a1)] ∧ Z.Warmed39 U.vm ∧ U.heap = h0 ∧ Z.WarmedH U.vm) (fun _ _ _ _ _ => True) (fun _ U o U' => ∃ v L, o = .returned v ∧ Q5 Z a1 gL gE kE gD kD cK one h0 n0 v U'.heap L ∧ FrameEnd U o U' L ({ frames := 9, cells := 9, slots := 43, locals := 3136 } : Room).cells ({ frames := 9, cells := 9, slots := 43, locals := 3136 } : Room).slots) := by
  refine MetFree.of_bodySF (plainFor_of_name pn_1) hisR ?_
  intro p e s m args below meth c s₁ Bd hml0 hP hK
  obtain ⟨rfl, hZ, hh, hWH⟩ := hP
  have hx := Bd.exec
  have hby := Bd.bytes
  have hml : c.maxLocals = 4 := hml0
  have hown : s.vm.findClass "com/example/caddis/caddis/StatementSet" = some m.cls := findClass_of_methodNamed Bd.named
  have hnm := (name_of_methodNamed Bd.named Bd.method).1
  have X0 : Stand p l e ({ frames := 9, cells := 9, slots := 43, locals := 3136 } : Room) s m #[(.ref a1)] below meth c s₁ [] 0 0 := Stand.of_body Bd
  have e0 : s₁.heap = h0 := by rw [← hh, Bd.state]; rfl
  have Nf0 := Fr.nil n0
  obtain ⟨Gl, hGl, kn0⟩ : ∃ Gl : State → Prop, (∀ t, Gl t → Steps p.tables e below (s₁.setTop (entryFrame m #[(.ref a1)] 4)) t) ∧ ∀ t, own_S p e below s₁ (mkF m 0 #[.val (.ref a1), .unset, .unset, .unset] []) t → Gl t := ⟨fun t => Steps p.tables e below (s₁.setTop (entryFrame m #[(.ref a1)] 4)) t, fun _ k => k, fun t k => castTop (ef_rm5 m a1) k⟩
  obtain ⟨T1, h1, X1, e1, E1, A1, D1, -, st1⟩ := newO X0 hx hZ hown (hw _ (List.mem_of_getElem? (i := 27) rfl)) (hw _ (List.mem_of_getElem? (i := 28) rfl)) (hw _ (List.mem_of_getElem? (i := 29) rfl)) e0 (g := (mkF m 0 #[.val (.ref a1), .unset, .unset, .unset] [])) rfl (hb hby d_prog_43_method_5_0) (by decide) (by decide)
  obtain ⟨b1, g1⟩ : ∃ z, z = h0.size := ⟨_, rfl⟩
  rw [← g1] at A1 D1 st1
  have sz_b1 : h0.size ≤ b1 := Nat.le_trans (Keep.refl h0 []).1 (Nat.le_of_eq g1.symm)
  have g_b1 : n0 ≤ b1 := Nat.le_trans Z0 (Nat.le_of_eq g1.symm)
  have ne_a1_b1 : a1 ≠ b1 := Nat.ne_of_lt (Nat.lt_of_lt_of_le E_a1.lt (Nat.le_of_eq g1.symm))
  have Z2 : n0 ≤ h1.size := Nat.le_trans Z0 E1.1
  have Od3 : Old Z n0 h1 := O0.ext E1
  have K4 : Keep h0 h1 [] := (Keep.refl h0 []).ext E1
  have F1_47 : Fld Z h1 b1 "java/util/AbstractList" "modCount" "I" (.int (0 : Int32)) := D1 (Or.inl (hw _ (List.mem_of_getElem? (i := 47) rfl))) (ty := .int) (by decide)
  have F1_50 : Fld Z h1 b1 "java/util/ArrayList" "elementData" "[Ljava/lang/Object;" .null := D1 (Or.inl (hw _ (List.mem_of_getElem? (i := 50) rfl))) (ty := (.array (.object "java/lang/Object"))) (by decide)
  have F1_105 : Fld Z h1 b1 "java/util/ArrayList" "size" "I" (.int (0 : Int32)) := D1 (Or.inl (hw _ (List.mem_of_getElem? (i := 105) rfl))) (ty := .int) (by decide)
  have kn5 : ∀ t, own_S p e below T1 (mkF m 3 #[.val (.ref a1), .unset, .unset, .unset] [(.ref b1)]) t → Gl t := fun t kt => kn0 t (st1 _ kt)
  have kn6 : ∀ t, own_S p e below T1 (mkF m 4 #[.val (.ref a1), .unset, .unset, .unset] [(.ref b1), (.ref b1)]) t → Gl t := fun t kt => kn5 t (by
    show own_S p e below T1 (mkF m 3 #[.val (.ref a1), .unset, .unset, .unset] [(.ref b1)]) _
    refine XS.dup X1.here hx rfl (hb hby d_prog_43_method_5_3) rfl rfl ?_
    exact kt)
  obtain ⟨_, _, ⟨T7, L7, cc7, ss7⟩, -, X7, ⟨Lc7, hQ7, l7, y7, z7⟩, st7⟩ := X1.specialBack hx (y := (⟨"java/util/ArrayList", "<init>", "()V"⟩ : MethodName)) rfl hown (mvT hZ (hw _ (List.mem_of_getElem? (i := 30) rfl))) (mvT hZ (hw _ (List.mem_of_getElem? (i := 31) rfl))) (mvT hZ (hw _ (List.mem_of_getElem? (i := 32) rfl))) (by decide) (backOf (W := 1) (rm6 l Z a0 hw [] b1 gD kD h1 n0 Z2 Od3 A1 F1_47 F1_50 F1_105 g_b1 S_D A_D) hZ (hw _ (List.mem_of_getElem? (i := 32) rfl)) (hw _ (List.mem_of_getElem? (i := 29) rfl)) (by decide) (by decide)) (g := (mkF m 4 #[.val (.ref a1), .unset, .unset, .unset] [(.ref b1), (.ref b1)])) rfl (by rw [hml]; rfl) (Steps.refl _) (a := b1) (argsL := []) (rest := [(.ref b1)]) (lenOf pd_2 rfl) rfl (by show 2 * 0 + _ ≤ _; exact Nat.le_of_eq rfl) (hb hby d_prog_43_method_5_4) (fun _ _ => ⟨rfl, e1, (by decide : 1 + 0 ≤ _), (by decide : 3 + 0 ≤ _)⟩)
  dsimp only [Pt.U, Pt.locs, Pt.cells, Pt.slots] at X7 l7 y7 z7 st7 hQ7
  subst l7 y7 z7
  have X7 : Stand p l e _ _ m _ below meth c T7 _ 1 3 := X7
  obtain ⟨rfl, Nq7, K7, Ex7_a, Fx7_a_0, Fx7_a_1, Fx7_a_2⟩ := hQ7
  have Nf7 := Fr.app Nf0 Nq7
  have Z8 : n0 ≤ T7.heap.size := Nat.le_trans Z2 K7.1
  have Od9 : Old Z n0 T7.heap := Od3.keep K7 (allS g_b1 all0)
  have K10 : Keep h0 T7.heap [] := K4.trans K7 (allS (Or.inr sz_b1) all0)
  have kn11 : ∀ t, own_S p e below T7 (mkF m 7 #[.val (.ref a1), .unset, .unset, .unset] [(.ref b1)]) t → Gl t := fun t kt => kn6 t (st7.trans kt)
  have kn12 : ∀ t, own_S p e below T7 (mkF m 10 #[.val (.ref a1), .val (.ref b1), .unset, .unset] [(.ref a1), (.ref b1)]) t → Gl t := fun t kt => kn11 t (by
    show own_S p e below T7 (mkF m 7 #[.val (.ref a1), .unset, .unset, .unset] [(.ref b1)]) _
    refine XS.astoreN X7.here hx rfl (hb hby d_prog_43_method_5_7) rfl rfl (l' := #[.val (.ref a1), .val (.ref b1), .unset, .unset]) rfl ?_
    show own_S p e below T7 (mkF m 8 #[.val (.ref a1), .val (.ref b1), .unset, .unset] []) _
    refine XS.aloadN X7.here hx rfl (hb hby d_prog_43_method_5_8) rfl rfl ?_
    show own_S p e below T7 (mkF m 9 #[.val (.ref a1), .val (.ref b1), .unset, .unset] [(.ref b1)]) _
    refine XS.aloadN X7.here hx rfl (hb hby d_prog_43_method_5_9) rfl rfl ?_
    exact kt)
  have f13 := ((F_a1_inMemory.ext E1).keep K7 (ninS ne_a1_b1 nin0))
  obtain ⟨T14, X14, e14, st14⟩ := getF X7 hx hZ hown (host := "") (Or.inl (hw _ (List.mem_of_getElem? (i := 18) rfl))) Via.refl rfl f13 (g := (mkF m 10 #[.val (.ref a1), .val (.ref b1), .unset, .unset] [(.ref a1), (.ref b1)])) rfl rfl (hb hby d_prog_43_method_5_10)
  have kn15 : ∀ t, own_S p e below T14 (mkF m 13 #[.val (.ref a1), .val (.ref b1), .unset, .unset] [(.ref gL), (.ref b1)]) t → Gl t := fun t kt => kn12 t (st14 _ kt)
  obtain ⟨_, _, ⟨T16, L16, cc16, ss16⟩, -, X16, ⟨Lc16, hQ16, l16, y16, z16⟩, st16⟩ := Jvm.LawKit.callS X14 hx (y := (⟨"com/example/caddis/caddis/StatementSet", "cursorOf", "(Ljava/util/List;)Lcom/example/caddis/caddis/StatementSet$Cursor;"⟩ : MethodName)) hown (mvT hZ (hw _ (List.mem_of_getElem? (i := 51) rfl))) (mvT hZ (hw _ (List.mem_of_getElem? (i := 52) rfl))) (mvT hZ (hw _ (List.mem_of_getElem? (i := 2) rfl))) (mvT hZ (hw _ (List.mem_of_getElem? (i := 53) rfl))) (by decide) (own_backW (W := 1) (rm9 l Z a0 hw [] gL gE kE cK one T7.heap n0 Z8 Od9 E_L F_L A_E hat) hZ hWH (hw _ (List.mem_of_getElem? (i := 53) rfl)) (hw _ (List.mem_of_getElem? (i := 2) rfl)) (by decide) (by decide)) (g := (mkF m 13 #[.val (.ref a1), .val (.ref b1), .unset, .unset] [(.ref gL), (.ref b1)])) rfl (by rw [hml]; rfl) (argsL := [(.ref gL)]) (rest := [(.ref b1)]) (lenOf pd_16 rfl) rfl (by show 2 * 0 + _ ≤ _; exact Nat.le_of_eq rfl) (hb hby d_prog_43_method_5_13) (fun _ _ => ⟨rfl, e14, (by decide : 1 + 2 ≤ _), (by decide : 3 + 5 ≤ _)⟩)
  dsimp only [Pt.U, Pt.locs, Pt.cells, Pt.slots] at X16 l16 y16 z16 st16 hQ16
  subst l16 y16 z16
  have X16 : Stand p l e _ _ m _ below meth c T16 _ 3 8 := X16
  obtain ⟨b16, it16, rfl, Nq16, g_b16, sb16, si16, K16, Lm16, Ex16_it, Fx16_it_0, Fx16_it_1⟩ := hQ16
  have Nf16 := Fr.app Nf7 Nq16
  have f17 := ((E_a1.ext E1).keep K7)
  have ne_a1_b16 : a1 ≠ b16 := Nat.ne_of_lt (Nat.lt_of_lt_of_le f17.lt sb16)
  have ne_b1_b16 : b1 ≠ b16 := Nat.ne_of_lt (Nat.lt_of_lt_of_le Ex7_a.lt sb16)
  have sz_b16 : h0.size ≤ b16 := Nat.le_trans K10.1 sb16
  have ne_a1_it16 : a1 ≠ it16 := Nat.ne_of_lt (Nat.lt_of_lt_of_le f17.lt si16)
  have ne_b1_it16 : b1 ≠ it16 := Nat.ne_of_lt (Nat.lt_of_lt_of_le Ex7_a.lt si16)
  have sz_it16 : h0.size ≤ it16 := Nat.le_trans K10.1 si16
  have Z18 : n0 ≤ T16.heap.size := Nat.le_trans Z8 K16.1
  have Od19 : Old Z n0 T16.heap := Od9.keep K16 all0
  have K20 : Keep h0 T16.heap [] := K10.trans K16 (all0)
  have Io16 : Ins Z T16.heap b16 "java/lang/Object" true := own_insO Lm16 hat (hw _ (List.mem_of_getElem? (i := 92) rfl))
  have kn21 : ∀ t, own_S p e below T16 (mkF m 16 #[.val (.ref a1), .val (.ref b1), .unset, .unset] [(.ref b16), (.ref b1)]) t → Gl t := fun t kt => kn15 t (st16 _ kt)
  have f23 := (Ex7_a.keep K16)
  have f24 := (Fx7_a_0.keep K16 nin0)
  have f25 := (Fx7_a_1.keep K16 nin0)
  have f26 := (Fx7_a_2.keep K16 nin0)
  obtain ⟨cq22, kq22, qa22, qb22, qc22⟩ := isOf hZ rfl f23
  obtain ⟨_, _, ⟨T22, L22, cc22, ss22⟩, -, X22, ⟨Lc22, hQ22, l22, y22, z22⟩, st22⟩ := X16.interfaceBack hx (xi := (⟨"java/util/List", "add", "(Ljava/lang/Object;)Z"⟩ : MethodName)) (y := (⟨"java/util/ArrayList", "add", "(Ljava/lang/Object;)Z"⟩ : MethodName)) hown (mvT hZ (hw _ (List.mem_of_getElem? (i := 93) rfl))) (mvT hZ (hw _ (List.mem_of_getElem? (i := 94) rfl))) (mvT hZ (hw _ (List.mem_of_getElem? (i := 95) rfl))) (mvT hZ (hw _ (List.mem_of_getElem? (i := 96) rfl))) (mvT hZ (hw _ (List.mem_of_getElem? (i := 97) rfl))) (mvT hZ (hw _ (List.mem_of_getElem? (i := 98) rfl))) (mvT hZ (hw _ (List.mem_of_getElem? (i := 99) rfl))) (mvT hZ (hw _ (List.mem_of_getElem? (i := 100) rfl))) (by decide) (backOf (W := 0) (rm13 l Z a0 hw [] b1 b16 gD kD T16.heap n0 Z18 Od19 f23 f24 f25 f26 g_b1 Io16 (Ne.symm ne_b1_b16) Lm16.lt S_D A_D) hZ (hw _ (List.mem_of_getElem? (i := 101) rfl)) (hw _ (List.mem_of_getElem? (i := 29) rfl)) (by decide) (by decide)) qa22 qb22 qc22 (g := (mkF m 16 #[.val (.ref a1), .val (.ref b1), .unset, .unset] [(.ref b16), (.ref b1)])) rfl (by rw [hml]; rfl) (Steps.refl _) (argsL := [(.ref b16)]) (rest := []) (lenOf pd_17 rfl) rfl (by show 2 * 0 + _ ≤ _; exact Nat.le_of_eq rfl) (hb hby d_prog_43_method_5_16) (fun _ _ => ⟨rfl, rfl, (by decide : 3 + 1 ≤ _), (by decide : 8 + 10 ≤ _)⟩)
  dsimp only [Pt.U, Pt.locs, Pt.cells, Pt.slots] at X22 l22 y22 z22 st22 hQ22
  subst l22 y22 z22
  have X22 : Stand p l e _ _ m _ below meth c T22 _ 4 18 := X22
  obtain ⟨b22, kk22, rfl, Nq22, g_b22, sb22, K22, V22, Ov22, Ex22_a, Fx22_a_0, Fx22_a_1, Fx22_a_2⟩ := hQ22
  have Nf22 := Fr.app Nf16 Nq22
  have f27 := (f17.keep K16)
  have ne_a1_b22 : a1 ≠ b22 := Nat.ne_of_lt (Nat.lt_of_lt_of_le f27.lt sb22)
  have ne_b1_b22 : b1 ≠ b22 := Nat.ne_of_lt (Nat.lt_of_lt_of_le f23.lt sb22)
  have ne_b16_b22 : b16 ≠ b22 := Nat.ne_of_lt (Nat.lt_of_lt_of_le Lm16.lt sb22)
  have ne_it16_b22 : it16 ≠ b22 := Nat.ne_of_lt (Nat.lt_of_lt_of_le Ex16_it.lt sb22)
  have sz_b22 : h0.size ≤ b22 := Nat.le_trans K20.1 sb22
  have Z28 : n0 ≤ T22.heap.size := Nat.le_trans Z18 K22.1
  have Od29 : Old Z n0 T22.heap := Od19.keep K22 (allS g_b1 all0)
  have K30 : Keep h0 T22.heap [] := K20.trans K22 (allS (Or.inr sz_b1) all0)
  have kn31 : ∀ t, own_S p e below T22 (mkF m 21 #[.val (.ref a1), .val (.ref b1), .unset, .unset] [(.int (1 : Int32))]) t → Gl t := fun t kt => kn21 t (st22.trans kt)
  have kn32 : ∀ t, own_S p e below T22 (mkF m 23 #[.val (.ref a1), .val (.ref b1), .unset, .unset] [(.ref a1)]) t → Gl t := fun t kt => kn31 t (by
    show own_S p e below T22 (mkF m 21 #[.val (.ref a1), .val (.ref b1), .unset, .unset] [(.int (1 : Int32))]) _
    refine XS.pop X22.here hx rfl (hb hby d_prog_43_method_5_21) rfl rfl ?_
    show own_S p e below T22 (mkF m 22 #[.val (.ref a1), .val (.ref b1), .unset, .unset] []) _
    refine XS.aloadN X22.here hx rfl (hb hby d_prog_43_method_5_22) rfl rfl ?_
    exact kt)
  have f33 := ((((F_a1_runs.ext E1).keep K7 (ninS ne_a1_b1 nin0)).keep K16 nin0).keep K22 (ninS ne_a1_b1 nin0))
  obtain ⟨T34, X34, e34, st34⟩ := getF X22 hx hZ hown (host := "") (Or.inl (hw _ (List.mem_of_getElem? (i := 20) rfl))) Via.refl rfl f33 (g := (mkF m 23 #[.val (.ref a1), .val (.ref b1), .unset, .unset] [(.ref a1)])) rfl rfl (hb hby d_prog_43_method_5_23)
  have kn35 : ∀ t, own_S p e below T34 (mkF m 26 #[.val (.ref a1), .val (.ref b1), .unset, .unset] [(.ref gL)]) t → Gl t := fun t kt => kn32 t (st34 _ kt)
  obtain ⟨cq36, kq36, qa36, qb36, qc36⟩ := isOf hZ e34 (E_L.ext Od29.2)
  obtain ⟨_, _, ⟨T36, L36, cc36, ss36⟩, -, X36, ⟨Lc36, hQ36, l36, y36, z36⟩, st36⟩ := X34.interfaceBack hx (xi := (⟨"java/util/List", "iterator", "()Ljava/util/Iterator;"⟩ : MethodName)) (y := (⟨"java/util/ImmutableCollections$AbstractImmutableList", "iterator", "()Ljava/util/Iterator;"⟩ : MethodName)) hown (mvT hZ (hw _ (List.mem_of_getElem? (i := 54) rfl))) (mvT hZ (hw _ (List.mem_of_getElem? (i := 55) rfl))) (mvT hZ (hw _ (List.mem_of_getElem? (i := 56) rfl))) (mvT hZ (hw _ (List.mem_of_getElem? (i := 57) rfl))) (mvT hZ (hw _ (List.mem_of_getElem? (i := 58) rfl))) (mvT hZ (hw _ (List.mem_of_getElem? (i := 59) rfl))) (mvT hZ (hw _ (List.mem_of_getElem? (i := 60) rfl))) (mvT hZ (hw _ (List.mem_of_getElem? (i := 61) rfl))) (by decide) (backOf (W := 0) (rm10 l Z a0 hw [] gL gE kE T22.heap n0 Z28 Od29 E_L F_L A_E) hZ (hw _ (List.mem_of_getElem? (i := 63) rfl)) (hw _ (List.mem_of_getElem? (i := 62) rfl)) (by decide) (by decide)) qa36 qb36 qc36 (g := (mkF m 26 #[.val (.ref a1), .val (.ref b1), .unset, .unset] [(.ref gL)])) rfl (by rw [hml]; rfl) (Steps.refl _) (argsL := []) (rest := []) (lenOf pd_12 rfl) rfl (by show 2 * 0 + _ ≤ _; exact Nat.le_of_eq rfl) (hb hby d_prog_43_method_5_26) (fun _ _ => ⟨rfl, e34, (by decide : 4 + 1 ≤ _), (by decide : 18 + 4 ≤ _)⟩)
  dsimp only [Pt.U, Pt.locs, Pt.cells, Pt.slots] at X36 l36 y36 z36 st36 hQ36
  subst l36 y36 z36
  have X36 : Stand p l e _ _ m _ below meth c T36 _ 5 22 := X36
  obtain ⟨b36, rfl, Nq36, g_b36, sb36, K36, Ex36_b36, Fx36_b36_0, Fx36_b36_1⟩ := hQ36
  have Nf36 := Fr.app Nf22 Nq36
  have f37 := (f27.keep K22)
  have ne_a1_b36 : a1 ≠ b36 := Nat.ne_of_lt (Nat.lt_of_lt_of_le f37.lt sb36)
  have ne_b1_b36 : b1 ≠ b36 := Nat.ne_of_lt (Nat.lt_of_lt_of_le Ex22_a.lt sb36)
  have f38 := (Lm16.keep K22 (ninS (Ne.symm ne_b1_b16) nin0))
  have ne_b16_b36 : b16 ≠ b36 := Nat.ne_of_lt (Nat.lt_of_lt_of_le f38.lt sb36)
  have f39 := (Ex16_it.keep K22)
  have ne_it16_b36 : it16 ≠ b36 := Nat.ne_of_lt (Nat.lt_of_lt_of_le f39.lt sb36)
  have ne_b22_b36 : b22 ≠ b36 := Nat.ne_of_lt (Nat.lt_of_lt_of_le V22.lt sb36)
  have sz_b36 : h0.size ≤ b36 := Nat.le_trans K30.1 sb36
  have Z40 : n0 ≤ T36.heap.size := Nat.le_trans Z28 K36.1
  have Od41 : Old Z n0 T36.heap := Od29.keep K36 all0
  have K42 : Keep h0 T36.heap [] := K30.trans K36 (all0)
  have kn43 : ∀ t, own_S p e below T36 (mkF m 31 #[.val (.ref a1), .val (.ref b1), .unset, .unset] [(.ref b36)]) t → Gl t := fun t kt => kn35 t (st36.trans kt)
  have kn44 : ∀ t, own_S p e below T36 (mkF m 33 #[.val (.ref a1), .val (.ref b1), .val (.ref b36), .unset] [(.ref b36)]) t → Gl t := fun t kt => kn43 t (by
    show own_S p e below T36 (mkF m 31 #[.val (.ref a1), .val (.ref b1), .unset, .unset] [(.ref b36)]) _
    refine XS.astoreN X36.here hx rfl (hb hby d_prog_43_method_5_31) rfl rfl (l' := #[.val (.ref a1), .val (.ref b1), .val (.ref b36), .unset]) rfl ?_
    show own_S p e below T36 (mkF m 32 #[.val (.ref a1), .val (.ref b1), .val (.ref b36), .unset] []) _
    refine XS.aloadN X36.here hx rfl (hb hby d_prog_43_method_5_32) rfl rfl ?_
    exact kt)
  obtain ⟨cq45, kq45, qa45, qb45, qc45⟩ := isOf hZ rfl Ex36_b36
  obtain ⟨_, _, ⟨T45, L45, cc45, ss45⟩, -, X45, ⟨Lc45, hQ45, l45, y45, z45⟩, st45⟩ := X36.interfaceBack hx (xi := (⟨"java/util/Iterator", "hasNext", "()Z"⟩ : MethodName)) (y := (⟨"java/util/ImmutableCollections$ListItr", "hasNext", "()Z"⟩ : MethodName)) hown (mvT hZ (hw _ (List.mem_of_getElem? (i := 127) rfl))) (mvT hZ (hw _ (List.mem_of_getElem? (i := 128) rfl))) (mvT hZ (hw _ (List.mem_of_getElem? (i := 129) rfl))) (mvT hZ (hw _ (List.mem_of_getElem? (i := 130) rfl))) (mvT hZ (hw _ (List.mem_of_getElem? (i := 131) rfl))) (mvT hZ (hw _ (List.mem_of_getElem? (i := 132) rfl))) (mvT hZ (hw _ (List.mem_of_getElem? (i := 133) rfl))) (mvT hZ (hw _ (List.mem_of_getElem? (i := 134) rfl))) (by decide) (backOf (W := 0) (rm18 l Z a0 hw [] b36  T36.heap n0 Z40 Ex36_b36 Fx36_b36_0 Fx36_b36_1) hZ (hw _ (List.mem_of_getElem? (i := 135) rfl)) (hw _ (List.mem_of_getElem? (i := 66) rfl)) (by decide) (by decide)) qa45 qb45 qc45 (g := (mkF m 33 #[.val (.ref a1), .val (.ref b1), .val (.ref b36), .unset] [(.ref b36)])) rfl (by rw [hml]; rfl) (Steps.refl _) (argsL := []) (rest := []) (lenOf pd_11 rfl) rfl (by show 2 * 0 + _ ≤ _; exact Nat.le_of_eq rfl) (hb hby d_prog_43_method_5_33) (fun _ _ => ⟨rfl, rfl, (by decide : 5 + 0 ≤ _), (by decide : 22 + 0 ≤ _)⟩)
  dsimp only [Pt.U, Pt.locs, Pt.cells, Pt.slots] at X45 l45 y45 z45 st45 hQ45
  subst l45 y45 z45
  have X45 : Stand p l e _ _ m _ below meth c T45 _ 5 22 := X45
  obtain ⟨rfl, Nq45, eq45⟩ := hQ45
  have Nf45 := Fr.app Nf36 Nq45
  have kn46 : ∀ t, own_S p e below T45 (mkF m 38 #[.val (.ref a1), .val (.ref b1), .val (.ref b36), .unset] [(.int (0 : Int32))]) t → Gl t := fun t kt => kn44 t (st45.trans kt)
  have kn47 : ∀ t, own_S p e below T45 (mkF m 66 #[.val (.ref a1), .val (.ref b1), .val (.ref b36), .unset] [(.ref b1)]) t → Gl t := fun t kt => kn46 t (by
    show own_S p e below T45 (mkF m 38 #[.val (.ref a1), .val (.ref b1), .val (.ref b36), .unset] [(.int (0 : Int32))]) _
    refine XS.ifYes X45.here hx rfl (pc0 := 38) (pc' := 65) rfl (hb hby d_prog_43_method_5_38) rfl ((if0 _ _).trans (teq (by decide : (0 : Int32) = (0 : Int32))).1) (by decide) (by decide) ?_
    show own_S p e below T45 (mkF m 65 #[.val (.ref a1), .val (.ref b1), .val (.ref b36), .unset] []) _
    refine XS.aloadN X45.here hx rfl (hb hby d_prog_43_method_5_65) rfl rfl ?_
    exact kt)
  have f49 := (Ex22_a.keep K36)
  have f50 := (Fx22_a_0.keep K36 nin0)
  have f51 := (Fx22_a_1.keep K36 nin0)
  have f52 := (Fx22_a_2.keep K36 nin0)
  have f53 := (V22.keep K36 nin0)
  have f54 := (f38.keep K36 nin0)
  have f55 := (f39.keep K36)
  have f56 := ((Fx16_it_0.keep K22 (ninS (Ne.symm ne_b1_it16) nin0)).keep K36 nin0)
  have f57 := ((Fx16_it_1.keep K22 (ninS (Ne.symm ne_b1_it16) nin0)).keep K36 nin0)
  obtain ⟨_, _, ⟨T48, L48, cc48, ss48⟩, -, X48, ⟨Lc48, hQ48, l48, y48, z48⟩, st48⟩ := Jvm.LawKit.callS X45 hx (y := (⟨"com/example/caddis/caddis/StatementSet", "union", "(Ljava/util/List;)Lcom/example/caddis/caddis/StatementSet$Cursor;"⟩ : MethodName)) hown (mvT hZ (hw _ (List.mem_of_getElem? (i := 136) rfl))) (mvT hZ (hw _ (List.mem_of_getElem? (i := 137) rfl))) (mvT hZ (hw _ (List.mem_of_getElem? (i := 2) rfl))) (mvT hZ (hw _ (List.mem_of_getElem? (i := 138) rfl))) (by decide) (own_backW (W := 0) (rm19 l Z a0 hw [] b1 b22 kk22 b16 it16 cK one T36.heap n0 Z40 Od41 f49 f50 f51 f52 f53 f54 f55 f56 f57 hat) hZ hWH (hw _ (List.mem_of_getElem? (i := 138) rfl)) (hw _ (List.mem_of_getElem? (i := 2) rfl)) (by decide) (by decide)) (g := (mkF m 66 #[.val (.ref a1), .val (.ref b1), .val (.ref b36), .unset] [(.ref b1)])) rfl (by rw [hml]; rfl) (argsL := [(.ref b1)]) (rest := []) (lenOf pd_16 rfl) rfl (by show 2 * 0 + _ ≤ _; exact Nat.le_of_eq rfl) (hb hby d_prog_43_method_5_66) (fun _ _ => ⟨rfl, eq45, (by decide : 5 + 4 ≤ _), (by decide : 22 + 21 ≤ _)⟩)
  dsimp only [Pt.U, Pt.locs, Pt.cells, Pt.slots] at X48 l48 y48 z48 st48 hQ48
  subst l48 y48 z48
  have X48 : Stand p l e _ _ m _ below meth c T48 _ 9 43 := X48
  obtain ⟨b48, q48, rfl, Nq48, g_b48, K48, Ex48_b, Fx48_b_0, Fx48_b_1, Ex48_q, Fx48_q_0⟩ := hQ48
  have Nf48 := Fr.app Nf45 Nq48
  have Z58 : n0 ≤ T48.heap.size := Nat.le_trans Z40 K48.1
  have Od59 : Old Z n0 T48.heap := Od41.keep K48 all0
  have K60 : Keep h0 T48.heap [] := K42.trans K48 (all0)
  have kn61 : ∀ t, own_S p e below T48 (mkF m 69 #[.val (.ref a1), .val (.ref b1), .val (.ref b36), .unset] [(.ref b48)]) t → Gl t := fun t kt => kn47 t (st48 _ kt)
  obtain ⟨fs, hr, hrun, hended, hW, hsame⟩ := X48.leave (v := some (.ref b48)) (fun h => by rw [Bd.returns] at h; cases h)
  refine ⟨_, _, hGl _ (kn61 _ (by
      show own_S p e below T48 (mkF m 69 #[.val (.ref a1), .val (.ref b1), .val (.ref b36), .unset] [(.ref b48)]) _
      jvm_step X48.here [X48.here.top, hx, (hb hby d_prog_43_method_5_69), X48.method', Bd.returns, Value.isRef, FieldType.isReference]
      first | (intro acts; rw [hr _ acts rfl rfl rfl]) | rw [hr _ _ rfl rfl rfl]
      exact Steps.refl _)), hrun, hended, _, _, rfl, ?_, ⟨_, rfl⟩, hW, hsame.mono (by decide) (by decide)⟩
  show Q5 Z a1 gL gE kE gD kD cK one h0 n0 _ T48.heap _
  exact ⟨b48, q48, rfl, Nf48, g_b48, K60, Ex48_b, Fx48_b_0, Fx48_b_1, Ex48_q, Fx48_q_0⟩

theorem d_jdk_2655_method_23_0 : decode jdk_2655_method_23_code 0 = .ok (.aload_n 0, 1) := by decide +kernel
theorem d_jdk_2655_method_23_1 : decode jdk_2655_method_23_code 1 = .ok (.getfield 58, 3) := by decide +kernel
theorem d_jdk_2655_method_23_4 : decode jdk_2655_method_23_code 4 = .ok (.ireturn, 1) := by decide +kernel
theorem ef_rm32 (m : MethodId) (x0 : Addr) : entryFrame m #[(.ref x0)] 1 = mkF m 0 #[.val (.ref x0)] [] := by first | (simp [entryFrame, mkF, argsToLocals, Value.category]; done) | rfl
def Q32 (Z : State) (a1 : Addr) (h0 : Heap) (n0 : Nat) (v : Option Value) (h : Heap) (L : List Loc) : Prop := v = some (.int (0 : Int32)) ∧ Fr n0 L ∧ h = h0
set_option maxRecDepth 65536 in
set_option maxHeartbeats 40000000 in
theorem rm32 (l : Launch) (Z : State) (a0 : Array Value) (hw : ∀ d ∈ tables_1, d.before a0 Z = true) (ws : List Jvm.Cond) (a1 : Addr) (h0 : Heap) (n0 : Nat) (Z0 : n0 ≤ h0.size) (E_a1 : Exa Z h0 a1 "java/util/PriorityQueue") (F_a1_size : Fld Z h0 a1 "java/util/PriorityQueue" "size" "I" (.int (0 : Int32))) :
    MetFree l (⟨"java/util/PriorityQueue", "size", "()I"⟩ : MethodName) (head1 (Jvm.Cond.code (⟨"java/util/PriorityQueue", "size", "()I"⟩ : MethodName) jdk_2655_method_23_code 1 (some .int) :: ws) ({ frames := 0, cells := 0, slots := 0, locals := 0 } : Room)) (fun a U => a = #[(.ref a1)] ∧ Z.Warmed39 U.vm ∧ U.heap = h0) (fun _ _ _ _ _ => True) (fun _ U o U' => ∃ v L, o = .returned v ∧ Q32 Z a1 h0 n0 v U'.heap L ∧ FrameEnd U o U' L ({ frames := 0, cells := 0, slots := 0, locals := 0 } : Room).cells ({ frames := 0, cells := 0, slots := 0, locals := 0 } : Room).slots) := by
  refine MetFree.of_bodySF (plainFor_of_name pn_6) hisR ?_
  intro p e s m args below meth c s₁ Bd hml0 hP hK
  obtain ⟨rfl, hZ, hh⟩ := hP
  have hx := Bd.exec
  have hby := Bd.bytes
  have hml : c.maxLocals = 1 := hml0
  have hown : s.vm.findClass "java/util/PriorityQueue" = some m.cls := findClass_of_methodNamed Bd.named
  have hnm := (name_of_methodNamed Bd.named Bd.method).1
  have X0 : Stand p l e ({ frames := 0, cells := 0, slots := 0, locals := 0 } : Room) s m #[(.ref a1)] below meth c s₁ [] 0 0 := Stand.of_body Bd
  have e0 : s₁.heap = h0 := by rw [← hh, Bd.state]; rfl
  have Nf0 := Fr.nil n0
  obtain ⟨Gl, hGl, kn0⟩ : ∃ Gl : State → Prop, (∀ t, Gl t → Steps p.tables e below (s₁.setTop (entryFrame m #[(.ref a1)] 1)) t) ∧ ∀ t, own_S p e below s₁ (mkF m 0 #[.val (.ref a1)] []) t → Gl t := ⟨fun t => Steps p.tables e below (s₁.setTop (entryFrame m #[(.ref a1)] 1)) t, fun _ k => k, fun t k => castTop (ef_rm32 m a1) k⟩
  have kn1 : ∀ t, own_S p e below s₁ (mkF m 1 #[.val (.ref a1)] [(.ref a1)]) t → Gl t := fun t kt => kn0 t (by
    show own_S p e below s₁ (mkF m 0 #[.val (.ref a1)] []) _
    refine XS.aloadN X0.here hx rfl (hb hby d_jdk_2655_method_23_0) rfl rfl ?_
    exact kt)
  obtain ⟨T2, X2, e2, st2⟩ := getF X0 hx hZ hown (host := "") (Or.inl (hw _ (List.mem_of_getElem? (i := 239) rfl))) Via.refl e0 F_a1_size (g := (mkF m 1 #[.val (.ref a1)] [(.ref a1)])) rfl rfl (hb hby d_jdk_2655_method_23_1)
  have kn3 : ∀ t, own_S p e below T2 (mkF m 4 #[.val (.ref a1)] [(.int (0 : Int32))]) t → Gl t := fun t kt => kn1 t (st2 _ kt)
  obtain ⟨fs, hr, hrun, hended, hW, hsame⟩ := X2.leave (v := some (.int (0 : Int32))) (fun h => by rw [Bd.returns] at h; cases h)
  refine ⟨_, _, hGl _ (kn3 _ (retI X2 hx Bd.returns (hb hby d_jdk_2655_method_23_4) hr)), hrun, hended, _, _, rfl, ?_, ⟨_, rfl⟩, hW, hsame.mono (by decide) (by decide)⟩
  show Q32 Z a1 h0 n0 _ T2.heap _
  rw [e2]
  exact ⟨rfl, Nf0, rfl⟩

theorem d_jdk_22_method_4_0 : decode jdk_22_method_4_code 0 = .ok (.aload_n 0, 1) := by decide +kernel
theorem d_jdk_22_method_4_1 : decode jdk_22_method_4_code 1 = .ok (.invokevirtual 7, 3) := by decide +kernel
theorem d_jdk_22_method_4_4 : decode jdk_22_method_4_code 4 = .ok (.ifCond .ne 7, 3) := by decide +kernel
theorem d_jdk_22_method_4_7 : decode jdk_22_method_4_code 7 = .ok (.iconst 1, 1) := by decide +kernel
theorem d_jdk_22_method_4_8 : decode jdk_22_method_4_code 8 = .ok (.goto 4, 3) := by decide +kernel
theorem d_jdk_22_method_4_12 : decode jdk_22_method_4_code 12 = .ok (.ireturn, 1) := by decide +kernel
theorem ef_rm31 (m : MethodId) (x0 : Addr) : entryFrame m #[(.ref x0)] 1 = mkF m 0 #[.val (.ref x0)] [] := by first | (simp [entryFrame, mkF, argsToLocals, Value.category]; done) | rfl
def Q31 (Z : State) (a1 : Addr) (h0 : Heap) (n0 : Nat) (v : Option Value) (h : Heap) (L : List Loc) : Prop := v = some (.int (1 : Int32)) ∧ Fr n0 L ∧ h = h0
set_option maxRecDepth 65536 in
set_option maxHeartbeats 40000000 in
theorem rm31 (l : Launch) (Z : State) (a0 : Array Value) (hw : ∀ d ∈ tables_1, d.before a0 Z = true) (ws : List Jvm.Cond) (a1 : Addr) (h0 : Heap) (n0 : Nat) (Z0 : n0 ≤ h0.size) (E_a1 : Exa Z h0 a1 "java/util/PriorityQueue") (F_a1_size : Fld Z h0 a1 "java/util/PriorityQueue" "size" "I" (.int (0 : Int32))) :
    MetFree l (⟨"java/util/AbstractCollection", "isEmpty", "()Z"⟩ : MethodName) (head1 (Jvm.Cond.code (⟨"java/util/AbstractCollection", "isEmpty", "()Z"⟩ : MethodName) jdk_22_method_4_code 1 (some .boolean) :: ws) ({ frames := 1, cells := 0, slots := 0, locals := 12 } : Room)) (fun a U => a = #[(.ref a1)] ∧ Z.Warmed39 U.vm ∧ U.heap = h0) (fun _ _ _ _ _ => True) (fun _ U o U' => ∃ v L, o = .returned v ∧ Q31 Z a1 h0 n0 v U'.heap L ∧ FrameEnd U o U' L ({ frames := 1, cells := 0, slots := 0, locals := 12 } : Room).cells ({ frames := 1, cells := 0, slots := 0, locals := 12 } : Room).slots) := by
  refine MetFree.of_bodySF (plainFor_of_name pn_2) hisR ?_
  intro p e s m args below meth c s₁ Bd hml0 hP hK
  obtain ⟨rfl, hZ, hh⟩ := hP
  have hx := Bd.exec
  have hby := Bd.bytes
  have hml : c.maxLocals = 1 := hml0
  have hown : s.vm.findClass "java/util/AbstractCollection" = some m.cls := findClass_of_methodNamed Bd.named
  have hnm := (name_of_methodNamed Bd.named Bd.method).1
  have X0 : Stand p l e ({ frames := 1, cells := 0, slots := 0, locals := 12 } : Room) s m #[(.ref a1)] below meth c s₁ [] 0 0 := Stand.of_body Bd
  have e0 : s₁.heap = h0 := by rw [← hh, Bd.state]; rfl
  have Nf0 := Fr.nil n0
  obtain ⟨Gl, hGl, kn0⟩ : ∃ Gl : State → Prop, (∀ t, Gl t → Steps p.tables e below (s₁.setTop (entryFrame m #[(.ref a1)] 1)) t) ∧ ∀ t, own_S p e below s₁ (mkF m 0 #[.val (.ref a1)] []) t → Gl t := ⟨fun t => Steps p.tables e below (s₁.setTop (entryFrame m #[(.ref a1)] 1)) t, fun _ k => k, fun t k => castTop (ef_rm31 m a1) k⟩
  have kn1 : ∀ t, own_S p e below s₁ (mkF m 1 #[.val (.ref a1)] [(.ref a1)]) t → Gl t := fun t kt => kn0 t (by
    show own_S p e below s₁ (mkF m 0 #[.val (.ref a1)] []) _
    refine XS.aloadN X0.here hx rfl (hb hby d_jdk_22_method_4_0) rfl rfl ?_
    exact kt)
  obtain ⟨cq2, kq2, qa2, qb2, qc2⟩ := isOf hZ e0 E_a1
  obtain ⟨_, _, ⟨T2, L2, cc2, ss2⟩, -, X2, ⟨Lc2, hQ2, l2, y2, z2⟩, st2⟩ := X0.virtualBack hx (y := (⟨"java/util/AbstractCollection", "size", "()I"⟩ : MethodName)) (z := (⟨"java/util/PriorityQueue", "size", "()I"⟩ : MethodName)) hown (mvT hZ (hw _ (List.mem_of_getElem? (i := 235) rfl))) (mvT hZ (hw _ (List.mem_of_getElem? (i := 69) rfl))) (own_nf (args := #[]) (mvT hZ (hw _ (List.mem_of_getElem? (i := 233) rfl))) rfl) (mvT hZ (hw _ (List.mem_of_getElem? (i := 236) rfl))) (mvT hZ (hw _ (List.mem_of_getElem? (i := 237) rfl))) (by decide) (backOf (W := 0) (rm32 l Z a0 hw [] a1  h0 n0 Z0 E_a1 F_a1_size) hZ (hw _ (List.mem_of_getElem? (i := 238) rfl)) (hw _ (List.mem_of_getElem? (i := 141) rfl)) (by decide) (by decide)) qa2 qc2 (g := (mkF m 1 #[.val (.ref a1)] [(.ref a1)])) rfl (by rw [hml]; rfl) (Steps.refl _) (argsL := []) (rest := []) (lenOf pd_4 rfl) rfl (by show 2 * 0 + _ ≤ _; exact Nat.le_of_eq rfl) (hb hby d_jdk_22_method_4_1) (fun _ _ => ⟨rfl, e0, (by decide : 0 + 0 ≤ _), (by decide : 0 + 0 ≤ _)⟩)
  dsimp only [Pt.U, Pt.locs, Pt.cells, Pt.slots] at X2 l2 y2 z2 st2 hQ2
  subst l2 y2 z2
  have X2 : Stand p l e _ _ m _ below meth c T2 _ 0 0 := X2
  obtain ⟨rfl, Nq2, eq2⟩ := hQ2
  have Nf2 := Fr.app Nf0 Nq2
  have kn3 : ∀ t, own_S p e below T2 (mkF m 4 #[.val (.ref a1)] [(.int (0 : Int32))]) t → Gl t := fun t kt => kn1 t (st2.trans kt)
  have kn4 : ∀ t, own_S p e below T2 (mkF m 12 #[.val (.ref a1)] [(.int (1 : Int32))]) t → Gl t := fun t kt => kn3 t (by
    show own_S p e below T2 (mkF m 4 #[.val (.ref a1)] [(.int (0 : Int32))]) _
    refine XS.ifNo X2.here hx rfl (hb hby d_jdk_22_method_4_4) rfl ((if0 _ _).trans (teq (by decide : (0 : Int32) = (0 : Int32))).2) ?_
    show own_S p e below T2 (mkF m 7 #[.val (.ref a1)] []) _
    refine XS.iconst X2.here hx rfl (hb hby d_jdk_22_method_4_7) ?_
    show own_S p e below T2 (mkF m 8 #[.val (.ref a1)] [(.int (1 : Int32))]) _
    refine XS.goto X2.here hx rfl (pc0 := 8) (pc' := 12) rfl (hb hby d_jdk_22_method_4_8) (by decide) (by decide) ?_
    exact kt)
  obtain ⟨fs, hr, hrun, hended, hW, hsame⟩ := X2.leave (v := some (.int (1 : Int32))) (fun h => by rw [Bd.returns] at h; cases h)
  refine ⟨_, _, hGl _ (kn4 _ (retN X2 hx (t := .boolean) Bd.returns (by simp) (hb hby d_jdk_22_method_4_12) hr)), hrun, hended, _, _, rfl, ?_, ⟨_, rfl⟩, hW, hsame.mono (by decide) (by decide)⟩
  show Q31 Z a1 h0 n0 _ T2.heap _
  rw [eq2]
  exact ⟨rfl, Nf2, rfl⟩

theorem d_prog_49_method_2_0 : decode prog_49_method_2_code 0 = .ok (.aconst_null, 1) := by decide +kernel
theorem d_prog_49_method_2_1 : decode prog_49_method_2_code 1 = .ok (.astore_n 1, 1) := by decide +kernel
theorem d_prog_49_method_2_2 : decode prog_49_method_2_code 2 = .ok (.aload_n 1, 1) := by decide +kernel
theorem d_prog_49_method_2_3 : decode prog_49_method_2_code 3 = .ok (.ifnonnull 80, 3) := by decide +kernel
theorem d_prog_49_method_2_6 : decode prog_49_method_2_code 6 = .ok (.aload_n 0, 1) := by decide +kernel
theorem d_prog_49_method_2_7 : decode prog_49_method_2_code 7 = .ok (.getfield 7, 3) := by decide +kernel
theorem d_prog_49_method_2_10 : decode prog_49_method_2_code 10 = .ok (.invokevirtual 13, 3) := by decide +kernel
theorem d_prog_49_method_2_13 : decode prog_49_method_2_code 13 = .ok (.ifCond .ne 70, 3) := by decide +kernel
theorem d_prog_49_method_2_83 : decode prog_49_method_2_code 83 = .ok (.aload_n 1, 1) := by decide +kernel
theorem d_prog_49_method_2_84 : decode prog_49_method_2_code 84 = .ok (.ifnull 8, 3) := by decide +kernel
theorem d_prog_49_method_2_92 : decode prog_49_method_2_code 92 = .ok (.aload_n 1, 1) := by decide +kernel
theorem d_prog_49_method_2_93 : decode prog_49_method_2_code 93 = .ok (.areturn, 1) := by decide +kernel
theorem ef_rm30 (m : MethodId) (x0 : Addr) : entryFrame m #[(.ref x0)] 4 = mkF m 0 #[.val (.ref x0), .unset, .unset, .unset] [] := by first | (simp [entryFrame, mkF, argsToLocals, Value.category]; done) | rfl
def Q30 (Z : State) (a1 : Addr) (qa : Addr) (h0 : Heap) (n0 : Nat) (v : Option Value) (h : Heap) (L : List Loc) : Prop := v = some .null ∧ Fr n0 L ∧ h = h0
set_option maxRecDepth 65536 in
set_option maxHeartbeats 40000000 in
theorem rm30 (l : Launch) (Z : State) (a0 : Array Value) (hw : ∀ d ∈ tables_1, d.before a0 Z = true) (ws : List Jvm.Cond) (a1 : Addr) (qa : Addr) (h0 : Heap) (n0 : Nat) (Z0 : n0 ≤ h0.size) (E_a1 : Exa Z h0 a1 "com/example/caddis/caddis/StatementSet$Union") (F_a1_heads : Fld Z h0 a1 "com/example/caddis/caddis/StatementSet$Union" "heads" "Ljava/util/PriorityQueue;" (.ref qa)) (F_a1_last : Fld Z h0 a1 "com/example/caddis/caddis/StatementSet$Union" "last" "Ljava/lang/String;" .null) (E_qa : Exa Z h0 qa "java/util/PriorityQueue") (F_qa_size : Fld Z h0 qa "java/util/PriorityQueue" "size" "I" (.int (0 : Int32))) :
    MetFree l (⟨"com/example/caddis/caddis/StatementSet$Union", "next", "()Ljava/lang/String;"⟩ : MethodName) (head1 (Jvm.Cond.code (⟨"com/example/caddis/caddis/StatementSet$Union", "next", "()Ljava/lang/String;"⟩ : MethodName) prog_49_method_2_code 4 (some (.object "java/lang/String")) :: ws) ({ frames := 2, cells := 0, slots := 0, locals := 24 } : Room)) (fun a U => a = #[(.ref a1)] ∧ Z.Warmed39 U.vm ∧ U.heap = h0) (fun _ _ _ _ _ => True) (fun _ U o U' => ∃ v L, o = .returned v ∧ Q30 Z a1 qa h0 n0 v U'.heap L ∧ FrameEnd U o U' L ({ frames := 2, cells := 0, slots := 0, locals := 24 } : Room).cells ({ frames := 2, cells := 0, slots := 0, locals := 24 } : Room).slots) := by
  refine MetFree.of_bodySF (plainFor_of_name pn_11) hisR ?_
  intro p e s m args below meth c s₁ Bd hml0 hP hK
  obtain ⟨rfl, hZ, hh⟩ := hP
  have hx := Bd.exec
  have hby := Bd.bytes
  have hml : c.maxLocals = 4 := hml0
  have hown : s.vm.findClass "com/example/caddis/caddis/StatementSet$Union" = some m.cls := findClass_of_methodNamed Bd.named
  have hnm := (name_of_methodNamed Bd.named Bd.method).1
  have X0 : Stand p l e ({ frames := 2, cells := 0, slots := 0, locals := 24 } : Room) s m #[(.ref a1)] below meth c s₁ [] 0 0 := Stand.of_body Bd
  have e0 : s₁.heap = h0 := by rw [← hh, Bd.state]; rfl
  have Nf0 := Fr.nil n0
  obtain ⟨Gl, hGl, kn0⟩ : ∃ Gl : State → Prop, (∀ t, Gl t → Steps p.tables e below (s₁.setTop (entryFrame m #[(.ref a1)] 4)) t) ∧ ∀ t, own_S p e below s₁ (mkF m 0 #[.val (.ref a1), .unset, .unset, .unset] []) t → Gl t := ⟨fun t => Steps p.tables e below (s₁.setTop (entryFrame m #[(.ref a1)] 4)) t, fun _ k => k, fun t k => castTop (ef_rm30 m a1) k⟩
  have kn1 : ∀ t, own_S p e below s₁ (mkF m 7 #[.val (.ref a1), .val .null, .unset, .unset] [(.ref a1)]) t → Gl t := fun t kt => kn0 t (by
    show own_S p e below s₁ (mkF m 0 #[.val (.ref a1), .unset, .unset, .unset] []) _
    refine XS.aconstNull X0.here hx rfl (hb hby d_prog_49_method_2_0) ?_
    show own_S p e below s₁ (mkF m 1 #[.val (.ref a1), .unset, .unset, .unset] [.null]) _
    refine XS.astoreN X0.here hx rfl (hb hby d_prog_49_method_2_1) rfl rfl (l' := #[.val (.ref a1), .val .null, .unset, .unset]) rfl ?_
    show own_S p e below s₁ (mkF m 2 #[.val (.ref a1), .val .null, .unset, .unset] []) _
    refine XS.aloadN X0.here hx rfl (hb hby d_prog_49_method_2_2) rfl rfl ?_
    show own_S p e below s₁ (mkF m 3 #[.val (.ref a1), .val .null, .unset, .unset] [.null]) _
    refine XS.ifnonnullNo X0.here hx rfl (hb hby d_prog_49_method_2_3) rfl ?_
    show own_S p e below s₁ (mkF m 6 #[.val (.ref a1), .val .null, .unset, .unset] []) _
    refine XS.aloadN X0.here hx rfl (hb hby d_prog_49_method_2_6) rfl rfl ?_
    exact kt)
  obtain ⟨T2, X2, e2, st2⟩ := getF X0 hx hZ hown (host := "") (Or.inl (hw _ (List.mem_of_getElem? (i := 220) rfl))) Via.refl e0 F_a1_heads (g := (mkF m 7 #[.val (.ref a1), .val .null, .unset, .unset] [(.ref a1)])) rfl rfl (hb hby d_prog_49_method_2_7)
  have kn3 : ∀ t, own_S p e below T2 (mkF m 10 #[.val (.ref a1), .val .null, .unset, .unset] [(.ref qa)]) t → Gl t := fun t kt => kn1 t (st2 _ kt)
  obtain ⟨cq4, kq4, qa4, qb4, qc4⟩ := isOf hZ e2 E_qa
  obtain ⟨_, _, ⟨T4, L4, cc4, ss4⟩, -, X4, ⟨Lc4, hQ4, l4, y4, z4⟩, st4⟩ := X2.virtualBackUp hx (owner := "java/util/AbstractCollection") (x := (⟨"java/util/PriorityQueue", "isEmpty", "()Z"⟩ : MethodName)) (y := (⟨"java/util/AbstractCollection", "isEmpty", "()Z"⟩ : MethodName)) hown (mvT hZ (hw _ (List.mem_of_getElem? (i := 229) rfl))) (mvT hZ (hw _ (List.mem_of_getElem? (i := 230) rfl))) (mvT hZ (hw _ (List.mem_of_getElem? (i := 231) rfl))) (by decide) (mvT hZ (hw _ (List.mem_of_getElem? (i := 233) rfl))) (mvT hZ (hw _ (List.mem_of_getElem? (i := 232) rfl))) (backOf (W := 0) (rm31 l Z a0 hw [] qa  h0 n0 Z0 E_qa F_qa_size) hZ (hw _ (List.mem_of_getElem? (i := 234) rfl)) (hw _ (List.mem_of_getElem? (i := 43) rfl)) (by decide) (by decide)) qa4 qc4 (g := (mkF m 10 #[.val (.ref a1), .val .null, .unset, .unset] [(.ref qa)])) rfl (by rw [hml]; rfl) (Steps.refl _) (argsL := []) (rest := []) (lenOf pd_11 rfl) rfl (by show 2 * 0 + _ ≤ _; exact Nat.le_of_eq rfl) (hb hby d_prog_49_method_2_10) (fun _ _ => ⟨rfl, e2, (by decide : 0 + 0 ≤ _), (by decide : 0 + 0 ≤ _)⟩)
  dsimp only [Pt.U, Pt.locs, Pt.cells, Pt.slots] at X4 l4 y4 z4 st4 hQ4
  subst l4 y4 z4
  have X4 : Stand p l e _ _ m _ below meth c T4 _ 0 0 := X4
  obtain ⟨rfl, Nq4, eq4⟩ := hQ4
  have Nf4 := Fr.app Nf0 Nq4
  have kn5 : ∀ t, own_S p e below T4 (mkF m 13 #[.val (.ref a1), .val .null, .unset, .unset] [(.int (1 : Int32))]) t → Gl t := fun t kt => kn3 t (st4.trans kt)
  have kn6 : ∀ t, own_S p e below T4 (mkF m 93 #[.val (.ref a1), .val .null, .unset, .unset] [.null]) t → Gl t := fun t kt => kn5 t (by
    show own_S p e below T4 (mkF m 13 #[.val (.ref a1), .val .null, .unset, .unset] [(.int (1 : Int32))]) _
    refine XS.ifYes X4.here hx rfl (pc0 := 13) (pc' := 83) rfl (hb hby d_prog_49_method_2_13) rfl ((if0 _ _).trans (feq (by decide : ¬ ((1 : Int32) = (0 : Int32)))).2) (by decide) (by decide) ?_
    show own_S p e below T4 (mkF m 83 #[.val (.ref a1), .val .null, .unset, .unset] []) _
    refine XS.aloadN X4.here hx rfl (hb hby d_prog_49_method_2_83) rfl rfl ?_
    show own_S p e below T4 (mkF m 84 #[.val (.ref a1), .val .null, .unset, .unset] [.null]) _
    refine XS.ifnullYes X4.here hx rfl (pc0 := 84) (pc' := 92) rfl (hb hby d_prog_49_method_2_84) rfl (by decide) (by decide) ?_
    show own_S p e below T4 (mkF m 92 #[.val (.ref a1), .val .null, .unset, .unset] []) _
    refine XS.aloadN X4.here hx rfl (hb hby d_prog_49_method_2_92) rfl rfl ?_
    exact kt)
  obtain ⟨fs, hr, hrun, hended, hW, hsame⟩ := X4.leave (v := some .null) (fun h => by rw [Bd.returns] at h; cases h)
  refine ⟨_, _, hGl _ (kn6 _ (by
      show own_S p e below T4 (mkF m 93 #[.val (.ref a1), .val .null, .unset, .unset] [.null]) _
      jvm_step X4.here [X4.here.top, hx, (hb hby d_prog_49_method_2_93), X4.method', Bd.returns, Value.isRef, FieldType.isReference]
      first | (intro acts; rw [hr _ acts rfl rfl rfl]) | rw [hr _ _ rfl rfl rfl]
      exact Steps.refl _)), hrun, hended, _, _, rfl, ?_, ⟨_, rfl⟩, hW, hsame.mono (by decide) (by decide)⟩
  show Q30 Z a1 qa h0 n0 _ T4.heap _
  rw [eq4]
  exact ⟨rfl, Nf4, rfl⟩

theorem d_prog_43_method_19_0 : decode prog_43_method_19_code 0 = .ok (.aconst_null, 1) := by decide +kernel
theorem d_prog_43_method_19_1 : decode prog_43_method_19_code 1 = .ok (.astore_n 1, 1) := by decide +kernel
theorem d_prog_43_method_19_2 : decode prog_43_method_19_code 2 = .ok (.aload_n 0, 1) := by decide +kernel
theorem d_prog_43_method_19_3 : decode prog_43_method_19_code 3 = .ok (.invokeinterface 71 1, 5) := by decide +kernel
theorem d_prog_43_method_19_8 : decode prog_43_method_19_code 8 = .ok (.astore_n 2, 1) := by decide +kernel
theorem d_prog_43_method_19_9 : decode prog_43_method_19_code 9 = .ok (.aload_n 2, 1) := by decide +kernel
theorem d_prog_43_method_19_10 : decode prog_43_method_19_code 10 = .ok (.invokeinterface 75 1, 5) := by decide +kernel
theorem d_prog_43_method_19_15 : decode prog_43_method_19_code 15 = .ok (.ifCond .eq 34, 3) := by decide +kernel
theorem d_prog_43_method_19_49 : decode prog_43_method_19_code 49 = .ok (.aload_n 1, 1) := by decide +kernel
theorem d_prog_43_method_19_50 : decode prog_43_method_19_code 50 = .ok (.ifnull 5, 3) := by decide +kernel
theorem d_prog_43_method_19_55 : decode prog_43_method_19_code 55 = .ok (.return_, 1) := by decide +kernel
theorem ef_rm34 (m : MethodId) (x0 : Addr) : entryFrame m #[(.ref x0)] 5 = mkF m 0 #[.val (.ref x0), .unset, .unset, .unset, .unset] [] := by first | (simp [entryFrame, mkF, argsToLocals, Value.category]; done) | rfl
def Q34 (Z : State) (gL : Addr) (gE : Addr) (kE : ClassId) (h0 : Heap) (n0 : Nat) (v : Option Value) (h : Heap) (L : List Loc) : Prop := v = none ∧ Fr n0 L ∧ Keep h0 h []
set_option maxRecDepth 65536 in
set_option maxHeartbeats 40000000 in
theorem rm34 (l : Launch) (Z : State) (a0 : Array Value) (hw : ∀ d ∈ tables_1, d.before a0 Z = true) (ws : List Jvm.Cond) (gL : Addr) (gE : Addr) (kE : ClassId) (h0 : Heap) (n0 : Nat) (Z0 : n0 ≤ h0.size) (O0 : Old Z n0 h0) (E_L : Exa Z Z.heap gL "java/util/ImmutableCollections$ListN") (F_L : Fld Z Z.heap gL "java/util/ImmutableCollections$ListN" "elements" "[Ljava/lang/Object;" (.ref gE)) (A_E : Arv Z Z.heap gE kE (.object "java/lang/Object") (0 : Int32) [] .null) :
    MetFree l (⟨"com/example/caddis/caddis/StatementSet", "closeAll", "(Ljava/util/List;)V"⟩ : MethodName) (head1 (Jvm.Cond.codeWith (⟨"com/example/caddis/caddis/StatementSet", "closeAll", "(Ljava/util/List;)V"⟩ : MethodName) prog_43_method_19_code 5 none [((28 : Nat), (34 : Nat), (37 : Nat), (224 : Nat))] :: ws) ({ frames := 3, cells := 1, slots := 4, locals := 39 } : Room)) (fun a U => a = #[(.ref gL)] ∧ Z.Warmed39 U.vm ∧ U.heap = h0) (fun _ _ _ _ _ => True) (fun _ U o U' => ∃ v L, o = .returned v ∧ Q34 Z gL gE kE h0 n0 v U'.heap L ∧ FrameEnd U o U' L ({ frames := 3, cells := 1, slots := 4, locals := 39 } : Room).cells ({ frames := 3, cells := 1, slots := 4, locals := 39 } : Room).slots) := by
  refine MetFree.of_bodySF (plainFor_of_name pn_1) hisWith ?_
  intro p e s m args below meth c s₁ Bd hml0 hP hK
  obtain ⟨rfl, hZ, hh⟩ := hP
  have hx := Bd.exec
  have hby := Bd.bytes
  have hml : c.maxLocals = 5 := hml0
  have hown : s.vm.findClass "com/example/caddis/caddis/StatementSet" = some m.cls := findClass_of_methodNamed Bd.named
  have hnm := (name_of_methodNamed Bd.named Bd.method).1
  have X0 : Stand p l e ({ frames := 3, cells := 1, slots := 4, locals := 39 } : Room) s m #[(.ref gL)] below meth c s₁ [] 0 0 := Stand.of_body Bd
  have e0 : s₁.heap = h0 := by rw [← hh, Bd.state]; rfl
  have Nf0 := Fr.nil n0
  obtain ⟨Gl, hGl, kn0⟩ : ∃ Gl : State → Prop, (∀ t, Gl t → Steps p.tables e below (s₁.setTop (entryFrame m #[(.ref gL)] 5)) t) ∧ ∀ t, own_S p e below s₁ (mkF m 0 #[.val (.ref gL), .unset, .unset, .unset, .unset] []) t → Gl t := ⟨fun t => Steps p.tables e below (s₁.setTop (entryFrame m #[(.ref gL)] 5)) t, fun _ k => k, fun t k => castTop (ef_rm34 m gL) k⟩
  have kn1 : ∀ t, own_S p e below s₁ (mkF m 3 #[.val (.ref gL), .val .null, .unset, .unset, .unset] [(.ref gL)]) t → Gl t := fun t kt => kn0 t (by
    show own_S p e below s₁ (mkF m 0 #[.val (.ref gL), .unset, .unset, .unset, .unset] []) _
    refine XS.aconstNull X0.here hx rfl (hb hby d_prog_43_method_19_0) ?_
    show own_S p e below s₁ (mkF m 1 #[.val (.ref gL), .unset, .unset, .unset, .unset] [.null]) _
    refine XS.astoreN X0.here hx rfl (hb hby d_prog_43_method_19_1) rfl rfl (l' := #[.val (.ref gL), .val .null, .unset, .unset, .unset]) rfl ?_
    show own_S p e below s₁ (mkF m 2 #[.val (.ref gL), .val .null, .unset, .unset, .unset] []) _
    refine XS.aloadN X0.here hx rfl (hb hby d_prog_43_method_19_2) rfl rfl ?_
    exact kt)
  obtain ⟨cq2, kq2, qa2, qb2, qc2⟩ := isOf hZ e0 (E_L.ext O0.2)
  obtain ⟨_, _, ⟨T2, L2, cc2, ss2⟩, -, X2, ⟨Lc2, hQ2, l2, y2, z2⟩, st2⟩ := X0.interfaceBack hx (xi := (⟨"java/util/List", "iterator", "()Ljava/util/Iterator;"⟩ : MethodName)) (y := (⟨"java/util/ImmutableCollections$AbstractImmutableList", "iterator", "()Ljava/util/Iterator;"⟩ : MethodName)) hown (mvT hZ (hw _ (List.mem_of_getElem? (i := 54) rfl))) (mvT hZ (hw _ (List.mem_of_getElem? (i := 55) rfl))) (mvT hZ (hw _ (List.mem_of_getElem? (i := 56) rfl))) (mvT hZ (hw _ (List.mem_of_getElem? (i := 57) rfl))) (mvT hZ (hw _ (List.mem_of_getElem? (i := 58) rfl))) (mvT hZ (hw _ (List.mem_of_getElem? (i := 59) rfl))) (mvT hZ (hw _ (List.mem_of_getElem? (i := 60) rfl))) (mvT hZ (hw _ (List.mem_of_getElem? (i := 61) rfl))) (by decide) (backOf (W := 0) (rm10 l Z a0 hw [] gL gE kE h0 n0 Z0 O0 E_L F_L A_E) hZ (hw _ (List.mem_of_getElem? (i := 63) rfl)) (hw _ (List.mem_of_getElem? (i := 62) rfl)) (by decide) (by decide)) qa2 qb2 qc2 (g := (mkF m 3 #[.val (.ref gL), .val .null, .unset, .unset, .unset] [(.ref gL)])) rfl (by rw [hml]; rfl) (Steps.refl _) (argsL := []) (rest := []) (lenOf pd_12 rfl) rfl (by show 2 * 0 + _ ≤ _; exact Nat.le_of_eq rfl) (hb hby d_prog_43_method_19_3) (fun _ _ => ⟨rfl, e0, (by decide : 0 + 1 ≤ _), (by decide : 0 + 4 ≤ _)⟩)
  dsimp only [Pt.U, Pt.locs, Pt.cells, Pt.slots] at X2 l2 y2 z2 st2 hQ2
  subst l2 y2 z2
  have X2 : Stand p l e _ _ m _ below meth c T2 _ 1 4 := X2
  obtain ⟨b2, rfl, Nq2, g_b2, sb2, K2, Ex2_b2, Fx2_b2_0, Fx2_b2_1⟩ := hQ2
  have Nf2 := Fr.app Nf0 Nq2
  have sz_b2 : h0.size ≤ b2 := sb2
  have Z3 : n0 ≤ T2.heap.size := Nat.le_trans Z0 K2.1
  have Od4 : Old Z n0 T2.heap := O0.keep K2 all0
  have K5 : Keep h0 T2.heap [] := (Keep.refl h0 []).trans K2 (all0)
  have kn6 : ∀ t, own_S p e below T2 (mkF m 8 #[.val (.ref gL), .val .null, .unset, .unset, .unset] [(.ref b2)]) t → Gl t := fun t kt => kn1 t (st2.trans kt)
  have kn7 : ∀ t, own_S p e below T2 (mkF m 10 #[.val (.ref gL), .val .null, .val (.ref b2), .unset, .unset] [(.ref b2)]) t → Gl t := fun t kt => kn6 t (by
    show own_S p e below T2 (mkF m 8 #[.val (.ref gL), .val .null, .unset, .unset, .unset] [(.ref b2)]) _
    refine XS.astoreN X2.here hx rfl (hb hby d_prog_43_method_19_8) rfl rfl (l' := #[.val (.ref gL), .val .null, .val (.ref b2), .unset, .unset]) rfl ?_
    show own_S p e below T2 (mkF m 9 #[.val (.ref gL), .val .null, .val (.ref b2), .unset, .unset] []) _
    refine XS.aloadN X2.here hx rfl (hb hby d_prog_43_method_19_9) rfl rfl ?_
    exact kt)
  obtain ⟨cq8, kq8, qa8, qb8, qc8⟩ := isOf hZ rfl Ex2_b2
  obtain ⟨_, _, ⟨T8, L8, cc8, ss8⟩, -, X8, ⟨Lc8, hQ8, l8, y8, z8⟩, st8⟩ := X2.interfaceBack hx (xi := (⟨"java/util/Iterator", "hasNext", "()Z"⟩ : MethodName)) (y := (⟨"java/util/ImmutableCollections$ListItr", "hasNext", "()Z"⟩ : MethodName)) hown (mvT hZ (hw _ (List.mem_of_getElem? (i := 127) rfl))) (mvT hZ (hw _ (List.mem_of_getElem? (i := 128) rfl))) (mvT hZ (hw _ (List.mem_of_getElem? (i := 129) rfl))) (mvT hZ (hw _ (List.mem_of_getElem? (i := 130) rfl))) (mvT hZ (hw _ (List.mem_of_getElem? (i := 131) rfl))) (mvT hZ (hw _ (List.mem_of_getElem? (i := 132) rfl))) (mvT hZ (hw _ (List.mem_of_getElem? (i := 133) rfl))) (mvT hZ (hw _ (List.mem_of_getElem? (i := 134) rfl))) (by decide) (backOf (W := 0) (rm18 l Z a0 hw [] b2  T2.heap n0 Z3 Ex2_b2 Fx2_b2_0 Fx2_b2_1) hZ (hw _ (List.mem_of_getElem? (i := 135) rfl)) (hw _ (List.mem_of_getElem? (i := 66) rfl)) (by decide) (by decide)) qa8 qb8 qc8 (g := (mkF m 10 #[.val (.ref gL), .val .null, .val (.ref b2), .unset, .unset] [(.ref b2)])) rfl (by rw [hml]; rfl) (Steps.refl _) (argsL := []) (rest := []) (lenOf pd_11 rfl) rfl (by show 2 * 0 + _ ≤ _; exact Nat.le_of_eq rfl) (hb hby d_prog_43_method_19_10) (fun _ _ => ⟨rfl, rfl, (by decide : 1 + 0 ≤ _), (by decide : 4 + 0 ≤ _)⟩)
  dsimp only [Pt.U, Pt.locs, Pt.cells, Pt.slots] at X8 l8 y8 z8 st8 hQ8
  subst l8 y8 z8
  have X8 : Stand p l e _ _ m _ below meth c T8 _ 1 4 := X8
  obtain ⟨rfl, Nq8, eq8⟩ := hQ8
  have Nf8 := Fr.app Nf2 Nq8
  have kn9 : ∀ t, own_S p e below T8 (mkF m 15 #[.val (.ref gL), .val .null, .val (.ref b2), .unset, .unset] [(.int (0 : Int32))]) t → Gl t := fun t kt => kn7 t (st8.trans kt)
  have kn10 : ∀ t, own_S p e below T8 (mkF m 55 #[.val (.ref gL), .val .null, .val (.ref b2), .unset, .unset] []) t → Gl t := fun t kt => kn9 t (by
    show own_S p e below T8 (mkF m 15 #[.val (.ref gL), .val .null, .val (.ref b2), .unset, .unset] [(.int (0 : Int32))]) _
    refine XS.ifYes X8.here hx rfl (pc0 := 15) (pc' := 49) rfl (hb hby d_prog_43_method_19_15) rfl ((if0 _ _).trans (teq (by decide : (0 : Int32) = (0 : Int32))).1) (by decide) (by decide) ?_
    show own_S p e below T8 (mkF m 49 #[.val (.ref gL), .val .null, .val (.ref b2), .unset, .unset] []) _
    refine XS.aloadN X8.here hx rfl (hb hby d_prog_43_method_19_49) rfl rfl ?_
    show own_S p e below T8 (mkF m 50 #[.val (.ref gL), .val .null, .val (.ref b2), .unset, .unset] [.null]) _
    refine XS.ifnullYes X8.here hx rfl (pc0 := 50) (pc' := 55) rfl (hb hby d_prog_43_method_19_50) rfl (by decide) (by decide) ?_
    exact kt)
  obtain ⟨fs, hr, hrun, hended, hW, hsame⟩ := X8.leave (v := none) (fun _ => rfl)
  refine ⟨_, _, hGl _ (kn10 _ (X8.returnOut hx Bd.returns (hb hby d_prog_43_method_19_55) hr)), hrun, hended, _, _, rfl, ?_, ⟨_, rfl⟩, hW, hsame.mono (by decide) (by decide)⟩
  show Q34 Z gL gE kE h0 n0 _ T8.heap _
  rw [eq8]
  exact ⟨rfl, Nf8, K5⟩

theorem d_prog_43_method_6_0 : decode prog_43_method_6_code 0 = .ok (.aload_n 0, 1) := by decide +kernel
theorem d_prog_43_method_6_1 : decode prog_43_method_6_code 1 = .ok (.getfield 13, 3) := by decide +kernel
theorem d_prog_43_method_6_4 : decode prog_43_method_6_code 4 = .ok (.invokestatic 94, 3) := by decide +kernel
theorem d_prog_43_method_6_7 : decode prog_43_method_6_code 7 = .ok (.return_, 1) := by decide +kernel
theorem pd_18 : parseMethodDescriptor "(Ljava/util/List;)V" = some ⟨[(.object "java/util/List")], none⟩ := by decide +kernel
theorem ef_rm33 (m : MethodId) (x0 : Addr) : entryFrame m #[(.ref x0)] 1 = mkF m 0 #[.val (.ref x0)] [] := by first | (simp [entryFrame, mkF, argsToLocals, Value.category]; done) | rfl
def Q33 (Z : State) (a1 : Addr) (gL : Addr) (gE : Addr) (kE : ClassId) (h0 : Heap) (n0 : Nat) (v : Option Value) (h : Heap) (L : List Loc) : Prop := v = none ∧ Fr n0 L ∧ Keep h0 h []
set_option maxRecDepth 65536 in
set_option maxHeartbeats 40000000 in
theorem rm33 (l : Launch) (Z : State) (a0 : Array Value) (hw : ∀ d ∈ tables_1, d.before a0 Z = true) (ws : List Jvm.Cond) (a1 : Addr) (gL : Addr) (gE : Addr) (kE : ClassId) (h0 : Heap) (n0 : Nat) (Z0 : n0 ≤ h0.size) (O0 : Old Z n0 h0) (E_a1 : Exa Z h0 a1 "com/example/caddis/caddis/StatementSet") (F_a1_inMemory : Fld Z h0 a1 "com/example/caddis/caddis/StatementSet" "inMemory" "Ljava/util/List;" (.ref gL)) (F_a1_runs : Fld Z h0 a1 "com/example/caddis/caddis/StatementSet" "runs" "Ljava/util/List;" (.ref gL)) (E_L : Exa Z Z.heap gL "java/util/ImmutableCollections$ListN") (F_L : Fld Z Z.heap gL "java/util/ImmutableCollections$ListN" "elements" "[Ljava/lang/Object;" (.ref gE)) (A_E : Arv Z Z.heap gE kE (.object "java/lang/Object") (0 : Int32) [] .null) :
    MetFree l (⟨"com/example/caddis/caddis/StatementSet", "close", "()V"⟩ : MethodName) (head1 (Jvm.Cond.code (⟨"com/example/caddis/caddis/StatementSet", "close", "()V"⟩ : MethodName) prog_43_method_6_code 1 none :: ws) ({ frames := 4, cells := 1, slots := 4, locals := 55 } : Room)) (fun a U => a = #[(.ref a1)] ∧ Z.Warmed39 U.vm ∧ U.heap = h0) (fun _ _ _ _ _ => True) (fun _ U o U' => ∃ v L, o = .returned v ∧ Q33 Z a1 gL gE kE h0 n0 v U'.heap L ∧ FrameEnd U o U' L ({ frames := 4, cells := 1, slots := 4, locals := 55 } : Room).cells ({ frames := 4, cells := 1, slots := 4, locals := 55 } : Room).slots) := by
  refine MetFree.of_bodySF (plainFor_of_name pn_1) hisR ?_
  intro p e s m args below meth c s₁ Bd hml0 hP hK
  obtain ⟨rfl, hZ, hh⟩ := hP
  have hx := Bd.exec
  have hby := Bd.bytes
  have hml : c.maxLocals = 1 := hml0
  have hown : s.vm.findClass "com/example/caddis/caddis/StatementSet" = some m.cls := findClass_of_methodNamed Bd.named
  have hnm := (name_of_methodNamed Bd.named Bd.method).1
  have X0 : Stand p l e ({ frames := 4, cells := 1, slots := 4, locals := 55 } : Room) s m #[(.ref a1)] below meth c s₁ [] 0 0 := Stand.of_body Bd
  have e0 : s₁.heap = h0 := by rw [← hh, Bd.state]; rfl
  have Nf0 := Fr.nil n0
  obtain ⟨Gl, hGl, kn0⟩ : ∃ Gl : State → Prop, (∀ t, Gl t → Steps p.tables e below (s₁.setTop (entryFrame m #[(.ref a1)] 1)) t) ∧ ∀ t, own_S p e below s₁ (mkF m 0 #[.val (.ref a1)] []) t → Gl t := ⟨fun t => Steps p.tables e below (s₁.setTop (entryFrame m #[(.ref a1)] 1)) t, fun _ k => k, fun t k => castTop (ef_rm33 m a1) k⟩
  have kn1 : ∀ t, own_S p e below s₁ (mkF m 1 #[.val (.ref a1)] [(.ref a1)]) t → Gl t := fun t kt => kn0 t (by
    show own_S p e below s₁ (mkF m 0 #[.val (.ref a1)] []) _
    refine XS.aloadN X0.here hx rfl (hb hby d_prog_43_method_6_0) rfl rfl ?_
    exact kt)
  obtain ⟨T2, X2, e2, st2⟩ := getF X0 hx hZ hown (host := "") (Or.inl (hw _ (List.mem_of_getElem? (i := 20) rfl))) Via.refl e0 F_a1_runs (g := (mkF m 1 #[.val (.ref a1)] [(.ref a1)])) rfl rfl (hb hby d_prog_43_method_6_1)
  have kn3 : ∀ t, own_S p e below T2 (mkF m 4 #[.val (.ref a1)] [(.ref gL)]) t → Gl t := fun t kt => kn1 t (st2 _ kt)
  obtain ⟨_, _, ⟨T4, L4, cc4, ss4⟩, -, X4, ⟨Lc4, hQ4, l4, y4, z4⟩, st4⟩ := callSH X2 hx (y := (⟨"com/example/caddis/caddis/StatementSet", "closeAll", "(Ljava/util/List;)V"⟩ : MethodName)) hown (mvT hZ (hw _ (List.mem_of_getElem? (i := 246) rfl))) (mvT hZ (hw _ (List.mem_of_getElem? (i := 247) rfl))) (mvT hZ (hw _ (List.mem_of_getElem? (i := 2) rfl))) (mvT hZ (hw _ (List.mem_of_getElem? (i := 248) rfl))) (by decide) (backOfWith (W := 0) (rm34 l Z a0 hw [] gL gE kE h0 n0 Z0 O0 E_L F_L A_E) hZ (hw _ (List.mem_of_getElem? (i := 248) rfl)) (hw _ (List.mem_of_getElem? (i := 2) rfl)) (by decide) (by decide)) (g := (mkF m 4 #[.val (.ref a1)] [(.ref gL)])) rfl (by rw [hml]; rfl) (argsL := [(.ref gL)]) (rest := []) (lenOf pd_18 rfl) rfl (by show 2 * 0 + _ ≤ _; exact Nat.le_of_eq rfl) (hb hby d_prog_43_method_6_4) (fun _ _ => ⟨rfl, e2, (by decide : 0 + 1 ≤ _), (by decide : 0 + 4 ≤ _)⟩)
  dsimp only [Pt.U, Pt.locs, Pt.cells, Pt.slots] at X4 l4 y4 z4 st4 hQ4
  subst l4 y4 z4
  have X4 : Stand p l e _ _ m _ below meth c T4 _ 1 4 := X4
  obtain ⟨rfl, Nq4, K4⟩ := hQ4
  have Nf4 := Fr.app Nf0 Nq4
  have Z5 : n0 ≤ T4.heap.size := Nat.le_trans Z0 K4.1
  have Od6 : Old Z n0 T4.heap := O0.keep K4 all0
  have K7 : Keep h0 T4.heap [] := (Keep.refl h0 []).trans K4 (all0)
  have kn8 : ∀ t, own_S p e below T4 (mkF m 7 #[.val (.ref a1)] []) t → Gl t := fun t kt => kn3 t (st4 _ kt)
  obtain ⟨fs, hr, hrun, hended, hW, hsame⟩ := X4.leave (v := none) (fun _ => rfl)
  refine ⟨_, _, hGl _ (kn8 _ (X4.returnOut hx Bd.returns (hb hby d_prog_43_method_6_7) hr)), hrun, hended, _, _, rfl, ?_, ⟨_, rfl⟩, hW, hsame.mono (by decide) (by decide)⟩
  show Q33 Z a1 gL gE kE h0 n0 _ T4.heap _
  exact ⟨rfl, Nf4, K7⟩

def Q0 (Z : State) (p1 : Int32) (gL : Addr) (gE : Addr) (kE : ClassId) (gD : Addr) (kD : ClassId) (h0 : Heap) (n0 : Nat) (v : Option Value) (h : Heap) (L : List Loc) : Prop := v = some (.int (1 : Int32)) ∧ Fr n0 L
theorem pd_19 : parseMethodDescriptor "()Lcom/example/caddis/caddis/StatementSet$Cursor;" = some ⟨[], some (.object "com/example/caddis/caddis/StatementSet$Cursor")⟩ := by decide +kernel
theorem pd_20 : parseMethodDescriptor "()Ljava/lang/String;" = some ⟨[], some (.object "java/lang/String")⟩ := by decide +kernel
set_option maxRecDepth 65536 in
set_option maxHeartbeats 40000000 in
theorem tl4 {p : Program} {l : Launch} {e : Env} {s : State} {m : MethodId} {args : Array Value} {below : List Frame} {meth : Method} {c : Code} {T0 : State} {locs : List Loc} {Z : State} {a0 : Array Value} {h0 : Heap} {n0 : Nat} (p1 : Int32) (gL : Addr) (gE : Addr) (kE : ClassId) (gD : Addr) (kD : ClassId) (cK : ClassId) (one : Option Addr) (ex : Int32) (st : Addr) (c1 : Addr) (qa : Addr)
    (X0 : Stand p l e room_1 s m args below meth c T0 locs 10 45) (hx : p.tables.exec = Jvm.exec) (hZ : Z.Warmed39 s.vm) (hw : ∀ d ∈ tables_1, d.before a0 Z = true) (hby : c.code = code) (hml : c.maxLocals = 6) (hown : s.vm.findClass "com/example/caddis/caddis/StatementSetEmptyPinLaw" = some m.cls) (hret : meth.sig.returnType = some .boolean) (hlk : meth.locks = false) (e0 : T0.heap = h0) (Nf0 : Fr n0 locs) (Z0 : n0 ≤ h0.size) (hWH : Z.WarmedH s.vm) (hat : Z.lambdaAt? own_x 8 229 own_σ = some (cK, one)) (O0 : Old Z n0 h0) (S_L : Sta Z Z.heap "java/util/ImmutableCollections" "EMPTY_LIST" "Ljava/util/ImmutableCollections$ListN;" (.ref gL)) (E_L : Exa Z Z.heap gL "java/util/ImmutableCollections$ListN") (F_L : Fld Z Z.heap gL "java/util/ImmutableCollections$ListN" "elements" "[Ljava/lang/Object;" (.ref gE)) (A_E : Arv Z Z.heap gE kE (.object "java/lang/Object") (0 : Int32) [] .null) (S_D : Sta Z Z.heap "java/util/ArrayList" "DEFAULTCAPACITY_EMPTY_ELEMENTDATA" "[Ljava/lang/Object;" (.ref gD)) (A_D : Arv Z Z.heap gD kD (.object "java/lang/Object") (0 : Int32) [] .null) (E_st : Exa Z h0 st "com/example/caddis/caddis/StatementSet") (F_st_inMemory : Fld Z h0 st "com/example/caddis/caddis/StatementSet" "inMemory" "Ljava/util/List;" (.ref gL)) (F_st_runs : Fld Z h0 st "com/example/caddis/caddis/StatementSet" "runs" "Ljava/util/List;" (.ref gL)) (E_c1 : Exa Z h0 c1 "com/example/caddis/caddis/StatementSet$Union") (F_c1_heads : Fld Z h0 c1 "com/example/caddis/caddis/StatementSet$Union" "heads" "Ljava/util/PriorityQueue;" (.ref qa)) (F_c1_last : Fld Z h0 c1 "com/example/caddis/caddis/StatementSet$Union" "last" "Ljava/lang/String;" .null) (E_qa : Exa Z h0 qa "java/util/PriorityQueue") (F_qa_size : Fld Z h0 qa "java/util/PriorityQueue" "size" "I" (.int (0 : Int32))) :
    ∃ s₂ o, Steps p.tables e below (T0.setTop (mkF m 107 #[.val (.int p1), .val (.int ex), .val (.ref st), .val (.ref c1), .val (.int (1 : Int32)), .unset] [])) s₂ ∧ s₂.status = .running ∧ Ended s₂ below o ∧ ∃ v L, o = .returned v ∧ Q0 Z p1 gL gE kE gD kD h0 n0 v s₂.heap L ∧ ReturnedEndW s o s₂ L 48 256 := by
  have kn0 : ∀ t, own_S p e below T0 (mkF m 107 #[.val (.int p1), .val (.int ex), .val (.ref st), .val (.ref c1), .val (.int (1 : Int32)), .unset] []) t → own_S p e below T0 (mkF m 107 #[.val (.int p1), .val (.int ex), .val (.ref st), .val (.ref c1), .val (.int (1 : Int32)), .unset] []) t := fun t k => k
  have kn1 : ∀ t, own_S p e below T0 (mkF m 108 #[.val (.int p1), .val (.int ex), .val (.ref st), .val (.ref c1), .val (.int (1 : Int32)), .unset] [(.ref st)]) t → own_S p e below T0 (mkF m 107 #[.val (.int p1), .val (.int ex), .val (.ref st), .val (.ref c1), .val (.int (1 : Int32)), .unset] []) t := fun t kt => kn0 t (by
    show own_S p e below T0 (mkF m 107 #[.val (.int p1), .val (.int ex), .val (.ref st), .val (.ref c1), .val (.int (1 : Int32)), .unset] []) _
    refine XS.aloadN X0.here hx rfl (hb hby at_107) rfl rfl ?_
    exact kt)
  obtain ⟨cq2, kq2, qa2, qb2, qc2⟩ := isOf hZ e0 E_st
  obtain ⟨_, _, ⟨T2, L2, cc2, ss2⟩, -, X2, ⟨Lc2, hQ2, l2, y2, z2⟩, st2⟩ := X0.virtualBack hx (y := (⟨"com/example/caddis/caddis/StatementSet", "cursor", "()Lcom/example/caddis/caddis/StatementSet$Cursor;"⟩ : MethodName)) (z := (⟨"com/example/caddis/caddis/StatementSet", "cursor", "()Lcom/example/caddis/caddis/StatementSet$Cursor;"⟩ : MethodName)) hown (mvT hZ (hw _ (List.mem_of_getElem? (i := 22) rfl))) (mvT hZ (hw _ (List.mem_of_getElem? (i := 23) rfl))) (notFace_of_selects (args := #[]) (mvT hZ (hw _ (List.mem_of_getElem? (i := 25) rfl)))) (mvT hZ (hw _ (List.mem_of_getElem? (i := 25) rfl))) (mvT hZ (hw _ (List.mem_of_getElem? (i := 24) rfl))) (by decide) (own_backW (W := 0) (rm5 l Z a0 hw [] st gL gE kE gD kD cK one h0 n0 Z0 O0 E_st F_st_inMemory F_st_runs E_L F_L A_E S_D A_D hat) hZ hWH (hw _ (List.mem_of_getElem? (i := 26) rfl)) (hw _ (List.mem_of_getElem? (i := 2) rfl)) (by decide) (by decide)) qa2 qc2 (g := (mkF m 108 #[.val (.int p1), .val (.int ex), .val (.ref st), .val (.ref c1), .val (.int (1 : Int32)), .unset] [(.ref st)])) rfl (by rw [hml]; rfl) (Steps.refl _) (argsL := []) (rest := []) (lenOf pd_19 rfl) rfl (by show 2 * 0 + _ ≤ _; exact Nat.le_of_eq rfl) (hb hby at_108) (fun _ _ => ⟨rfl, e0, (by decide : 10 + 9 ≤ _), (by decide : 45 + 43 ≤ _)⟩)
  dsimp only [Pt.U, Pt.locs, Pt.cells, Pt.slots] at X2 l2 y2 z2 st2 hQ2
  subst l2 y2 z2
  have X2 : Stand p l e _ _ m _ below meth c T2 _ 19 88 := X2
  obtain ⟨b2, q2, rfl, Nq2, g_b2, K2, Ex2_b, Fx2_b_0, Fx2_b_1, Ex2_q, Fx2_q_0⟩ := hQ2
  have Nf2 := Fr.app Nf0 Nq2
  have Z3 : n0 ≤ T2.heap.size := Nat.le_trans Z0 K2.1
  have Od4 : Old Z n0 T2.heap := O0.keep K2 all0
  have kn5 : ∀ t, own_S p e below T2 (mkF m 111 #[.val (.int p1), .val (.int ex), .val (.ref st), .val (.ref c1), .val (.int (1 : Int32)), .unset] [(.ref b2)]) t → own_S p e below T0 (mkF m 107 #[.val (.int p1), .val (.int ex), .val (.ref st), .val (.ref c1), .val (.int (1 : Int32)), .unset] []) t := fun t kt => kn1 t (st2.trans kt)
  have kn6 : ∀ t, own_S p e below T2 (mkF m 120 #[.val (.int p1), .val (.int ex), .val (.ref st), .val (.ref c1), .val (.int (1 : Int32)), .val (.ref b2)] [(.ref b2)]) t → own_S p e below T0 (mkF m 107 #[.val (.int p1), .val (.int ex), .val (.ref st), .val (.ref c1), .val (.int (1 : Int32)), .unset] []) t := fun t kt => kn5 t (by
    show own_S p e below T2 (mkF m 111 #[.val (.int p1), .val (.int ex), .val (.ref st), .val (.ref c1), .val (.int (1 : Int32)), .unset] [(.ref b2)]) _
    refine XS.astore X2.here hx rfl (hb hby at_111) rfl rfl (l' := #[.val (.int p1), .val (.int ex), .val (.ref st), .val (.ref c1), .val (.int (1 : Int32)), .val (.ref b2)]) rfl ?_
    show own_S p e below T2 (mkF m 113 #[.val (.int p1), .val (.int ex), .val (.ref st), .val (.ref c1), .val (.int (1 : Int32)), .val (.ref b2)] []) _
    refine XS.iload X2.here hx rfl (hb hby at_113) rfl ?_
    show own_S p e below T2 (mkF m 115 #[.val (.int p1), .val (.int ex), .val (.ref st), .val (.ref c1), .val (.int (1 : Int32)), .val (.ref b2)] [(.int (1 : Int32))]) _
    refine XS.ifNo X2.here hx rfl (hb hby at_115) rfl ((if0 _ _).trans (feq (by decide : ¬ ((1 : Int32) = (0 : Int32)))).1) ?_
    show own_S p e below T2 (mkF m 118 #[.val (.int p1), .val (.int ex), .val (.ref st), .val (.ref c1), .val (.int (1 : Int32)), .val (.ref b2)] []) _
    refine XS.aload X2.here hx rfl (hb hby at_118) rfl rfl ?_
    exact kt)
  obtain ⟨cq7, kq7, qa7, qb7, qc7⟩ := isOf hZ rfl Ex2_b
  obtain ⟨_, _, ⟨T7, L7, cc7, ss7⟩, -, X7, ⟨Lc7, hQ7, l7, y7, z7⟩, st7⟩ := X2.interfaceBack hx (xi := (⟨"com/example/caddis/caddis/StatementSet$Cursor", "next", "()Ljava/lang/String;"⟩ : MethodName)) (y := (⟨"com/example/caddis/caddis/StatementSet$Union", "next", "()Ljava/lang/String;"⟩ : MethodName)) hown (mvT hZ (hw _ (List.mem_of_getElem? (i := 222) rfl))) (mvT hZ (hw _ (List.mem_of_getElem? (i := 209) rfl))) (mvT hZ (hw _ (List.mem_of_getElem? (i := 210) rfl))) (mvT hZ (hw _ (List.mem_of_getElem? (i := 223) rfl))) (mvT hZ (hw _ (List.mem_of_getElem? (i := 224) rfl))) (mvT hZ (hw _ (List.mem_of_getElem? (i := 225) rfl))) (mvT hZ (hw _ (List.mem_of_getElem? (i := 226) rfl))) (mvT hZ (hw _ (List.mem_of_getElem? (i := 227) rfl))) (by decide) (backOf (W := 0) (rm30 l Z a0 hw [] b2 q2 T2.heap n0 Z3 Ex2_b Fx2_b_0 Fx2_b_1 Ex2_q Fx2_q_0) hZ (hw _ (List.mem_of_getElem? (i := 228) rfl)) (hw _ (List.mem_of_getElem? (i := 215) rfl)) (by decide) (by decide)) qa7 qb7 qc7 (g := (mkF m 120 #[.val (.int p1), .val (.int ex), .val (.ref st), .val (.ref c1), .val (.int (1 : Int32)), .val (.ref b2)] [(.ref b2)])) rfl (by rw [hml]; rfl) (Steps.refl _) (argsL := []) (rest := []) (lenOf pd_20 rfl) rfl (by show 2 * 0 + _ ≤ _; exact Nat.le_of_eq rfl) (hb hby at_120) (fun _ _ => ⟨rfl, rfl, (by decide : 19 + 0 ≤ _), (by decide : 88 + 0 ≤ _)⟩)
  dsimp only [Pt.U, Pt.locs, Pt.cells, Pt.slots] at X7 l7 y7 z7 st7 hQ7
  subst l7 y7 z7
  have X7 : Stand p l e _ _ m _ below meth c T7 _ 19 88 := X7
  obtain ⟨rfl, Nq7, eq7⟩ := hQ7
  have Nf7 := Fr.app Nf2 Nq7
  have kn8 : ∀ t, own_S p e below T7 (mkF m 125 #[.val (.int p1), .val (.int ex), .val (.ref st), .val (.ref c1), .val (.int (1 : Int32)), .val (.ref b2)] [.null]) t → own_S p e below T0 (mkF m 107 #[.val (.int p1), .val (.int ex), .val (.ref st), .val (.ref c1), .val (.int (1 : Int32)), .unset] []) t := fun t kt => kn6 t (st7.trans kt)
  have kn9 : ∀ t, own_S p e below T7 (mkF m 136 #[.val (.int p1), .val (.int ex), .val (.ref st), .val (.ref c1), .val (.int (1 : Int32)), .val (.ref b2)] [(.ref st)]) t → own_S p e below T0 (mkF m 107 #[.val (.int p1), .val (.int ex), .val (.ref st), .val (.ref c1), .val (.int (1 : Int32)), .unset] []) t := fun t kt => kn8 t (by
    show own_S p e below T7 (mkF m 125 #[.val (.int p1), .val (.int ex), .val (.ref st), .val (.ref c1), .val (.int (1 : Int32)), .val (.ref b2)] [.null]) _
    refine XS.ifnonnullNo X7.here hx rfl (hb hby at_125) rfl ?_
    show own_S p e below T7 (mkF m 128 #[.val (.int p1), .val (.int ex), .val (.ref st), .val (.ref c1), .val (.int (1 : Int32)), .val (.ref b2)] []) _
    refine XS.iconst X7.here hx rfl (hb hby at_128) ?_
    show own_S p e below T7 (mkF m 129 #[.val (.int p1), .val (.int ex), .val (.ref st), .val (.ref c1), .val (.int (1 : Int32)), .val (.ref b2)] [(.int (1 : Int32))]) _
    refine XS.goto X7.here hx rfl (pc0 := 129) (pc' := 133) rfl (hb hby at_129) (by decide) (by decide) ?_
    show own_S p e below T7 (mkF m 133 #[.val (.int p1), .val (.int ex), .val (.ref st), .val (.ref c1), .val (.int (1 : Int32)), .val (.ref b2)] [(.int (1 : Int32))]) _
    refine XS.istore X7.here hx rfl (hb hby at_133) rfl (l' := #[.val (.int p1), .val (.int ex), .val (.ref st), .val (.ref c1), .val (.int (1 : Int32)), .val (.ref b2)]) rfl ?_
    show own_S p e below T7 (mkF m 135 #[.val (.int p1), .val (.int ex), .val (.ref st), .val (.ref c1), .val (.int (1 : Int32)), .val (.ref b2)] []) _
    refine XS.aloadN X7.here hx rfl (hb hby at_135) rfl rfl ?_
    exact kt)
  have f11 := (E_st.keep K2)
  have f12 := (F_st_inMemory.keep K2 nin0)
  have f13 := (F_st_runs.keep K2 nin0)
  obtain ⟨cq10, kq10, qa10, qb10, qc10⟩ := isOf hZ eq7 f11
  obtain ⟨_, _, ⟨T10, L10, cc10, ss10⟩, -, X10, ⟨Lc10, hQ10, l10, y10, z10⟩, st10⟩ := X7.virtualBack hx (y := (⟨"com/example/caddis/caddis/StatementSet", "close", "()V"⟩ : MethodName)) (z := (⟨"com/example/caddis/caddis/StatementSet", "close", "()V"⟩ : MethodName)) hown (mvT hZ (hw _ (List.mem_of_getElem? (i := 241) rfl))) (mvT hZ (hw _ (List.mem_of_getElem? (i := 242) rfl))) (notFace_of_selects (args := #[]) (mvT hZ (hw _ (List.mem_of_getElem? (i := 244) rfl)))) (mvT hZ (hw _ (List.mem_of_getElem? (i := 244) rfl))) (mvT hZ (hw _ (List.mem_of_getElem? (i := 243) rfl))) (by decide) (backOf (W := 0) (rm33 l Z a0 hw [] st gL gE kE T2.heap n0 Z3 Od4 f11 f12 f13 E_L F_L A_E) hZ (hw _ (List.mem_of_getElem? (i := 245) rfl)) (hw _ (List.mem_of_getElem? (i := 2) rfl)) (by decide) (by decide)) qa10 qc10 (g := (mkF m 136 #[.val (.int p1), .val (.int ex), .val (.ref st), .val (.ref c1), .val (.int (1 : Int32)), .val (.ref b2)] [(.ref st)])) rfl (by rw [hml]; rfl) (Steps.refl _) (argsL := []) (rest := []) (lenOf pd_2 rfl) rfl (by show 2 * 0 + _ ≤ _; exact Nat.le_of_eq rfl) (hb hby at_136) (fun _ _ => ⟨rfl, eq7, (by decide : 19 + 1 ≤ _), (by decide : 88 + 4 ≤ _)⟩)
  dsimp only [Pt.U, Pt.locs, Pt.cells, Pt.slots] at X10 l10 y10 z10 st10 hQ10
  subst l10 y10 z10
  have X10 : Stand p l e _ _ m _ below meth c T10 _ 20 92 := X10
  obtain ⟨rfl, Nq10, K10⟩ := hQ10
  have Nf10 := Fr.app Nf7 Nq10
  have Z14 : n0 ≤ T10.heap.size := Nat.le_trans Z3 K10.1
  have Od15 : Old Z n0 T10.heap := Od4.keep K10 all0
  have kn16 : ∀ t, own_S p e below T10 (mkF m 139 #[.val (.int p1), .val (.int ex), .val (.ref st), .val (.ref c1), .val (.int (1 : Int32)), .val (.ref b2)] []) t → own_S p e below T0 (mkF m 107 #[.val (.int p1), .val (.int ex), .val (.ref st), .val (.ref c1), .val (.int (1 : Int32)), .unset] []) t := fun t kt => kn9 t (st10.trans kt)
  have kn17 : ∀ t, own_S p e below T10 (mkF m 141 #[.val (.int p1), .val (.int ex), .val (.ref st), .val (.ref c1), .val (.int (1 : Int32)), .val (.ref b2)] [(.int (1 : Int32))]) t → own_S p e below T0 (mkF m 107 #[.val (.int p1), .val (.int ex), .val (.ref st), .val (.ref c1), .val (.int (1 : Int32)), .unset] []) t := fun t kt => kn16 t (by
    show own_S p e below T10 (mkF m 139 #[.val (.int p1), .val (.int ex), .val (.ref st), .val (.ref c1), .val (.int (1 : Int32)), .val (.ref b2)] []) _
    refine XS.iload X10.here hx rfl (hb hby at_139) rfl ?_
    exact kt)
  obtain ⟨fs, hr, hrun, hended, hW, hsame⟩ := X10.leave (v := some (.int (1 : Int32))) (fun h => by rw [hret] at h; cases h)
  refine ⟨_, _, id (kn17 _ (retN X10 hx (t := .boolean) hret (by simp) (hb hby at_141) hr)), hrun, hended, _, _, rfl, ?_, ReturnedEndW.of_narrow ⟨_, rfl⟩ hW (hsame.mono (by decide) (by decide))⟩
  show Q0 Z p1 gL gE kE gD kD h0 n0 _ T10.heap _
  exact ⟨rfl, Nf10⟩

set_option maxRecDepth 65536 in
set_option maxHeartbeats 40000000 in
theorem tl3 {p : Program} {l : Launch} {e : Env} {s : State} {m : MethodId} {args : Array Value} {below : List Frame} {meth : Method} {c : Code} {T0 : State} {locs : List Loc} {Z : State} {a0 : Array Value} {h0 : Heap} {n0 : Nat} (p1 : Int32) (gL : Addr) (gE : Addr) (kE : ClassId) (gD : Addr) (kD : ClassId) (cK : ClassId) (one : Option Addr) (ex : Int32) (st : Addr) (c1 : Addr) (qa : Addr)
    (X0 : Stand p l e room_1 s m args below meth c T0 locs 10 45) (hx : p.tables.exec = Jvm.exec) (hZ : Z.Warmed39 s.vm) (hw : ∀ d ∈ tables_1, d.before a0 Z = true) (hby : c.code = code) (hml : c.maxLocals = 6) (hown : s.vm.findClass "com/example/caddis/caddis/StatementSetEmptyPinLaw" = some m.cls) (hret : meth.sig.returnType = some .boolean) (hlk : meth.locks = false) (e0 : T0.heap = h0) (Nf0 : Fr n0 locs) (Z0 : n0 ≤ h0.size) (hWH : Z.WarmedH s.vm) (hat : Z.lambdaAt? own_x 8 229 own_σ = some (cK, one)) (O0 : Old Z n0 h0) (S_L : Sta Z Z.heap "java/util/ImmutableCollections" "EMPTY_LIST" "Ljava/util/ImmutableCollections$ListN;" (.ref gL)) (E_L : Exa Z Z.heap gL "java/util/ImmutableCollections$ListN") (F_L : Fld Z Z.heap gL "java/util/ImmutableCollections$ListN" "elements" "[Ljava/lang/Object;" (.ref gE)) (A_E : Arv Z Z.heap gE kE (.object "java/lang/Object") (0 : Int32) [] .null) (S_D : Sta Z Z.heap "java/util/ArrayList" "DEFAULTCAPACITY_EMPTY_ELEMENTDATA" "[Ljava/lang/Object;" (.ref gD)) (A_D : Arv Z Z.heap gD kD (.object "java/lang/Object") (0 : Int32) [] .null) (E_st : Exa Z h0 st "com/example/caddis/caddis/StatementSet") (F_st_inMemory : Fld Z h0 st "com/example/caddis/caddis/StatementSet" "inMemory" "Ljava/util/List;" (.ref gL)) (F_st_runs : Fld Z h0 st "com/example/caddis/caddis/StatementSet" "runs" "Ljava/util/List;" (.ref gL)) (E_c1 : Exa Z h0 c1 "com/example/caddis/caddis/StatementSet$Union") (F_c1_heads : Fld Z h0 c1 "com/example/caddis/caddis/StatementSet$Union" "heads" "Ljava/util/PriorityQueue;" (.ref qa)) (F_c1_last : Fld Z h0 c1 "com/example/caddis/caddis/StatementSet$Union" "last" "Ljava/lang/String;" .null) (E_qa : Exa Z h0 qa "java/util/PriorityQueue") (F_qa_size : Fld Z h0 qa "java/util/PriorityQueue" "size" "I" (.int (0 : Int32))) :
    ∃ s₂ o, Steps p.tables e below (T0.setTop (mkF m 81 #[.val (.int p1), .val (.int ex), .val (.ref st), .val (.ref c1), .val (.int (1 : Int32)), .unset] [])) s₂ ∧ s₂.status = .running ∧ Ended s₂ below o ∧ ∃ v L, o = .returned v ∧ Q0 Z p1 gL gE kE gD kD h0 n0 v s₂.heap L ∧ ReturnedEndW s o s₂ L 48 256 := by
  have kn0 : ∀ t, own_S p e below T0 (mkF m 81 #[.val (.int p1), .val (.int ex), .val (.ref st), .val (.ref c1), .val (.int (1 : Int32)), .unset] []) t → own_S p e below T0 (mkF m 81 #[.val (.int p1), .val (.int ex), .val (.ref st), .val (.ref c1), .val (.int (1 : Int32)), .unset] []) t := fun t k => k
  have kn1 : ∀ t, own_S p e below T0 (mkF m 83 #[.val (.int p1), .val (.int ex), .val (.ref st), .val (.ref c1), .val (.int (1 : Int32)), .unset] [(.int (3 : Int32)), (.int ex)]) t → own_S p e below T0 (mkF m 81 #[.val (.int p1), .val (.int ex), .val (.ref st), .val (.ref c1), .val (.int (1 : Int32)), .unset] []) t := fun t kt => kn0 t (by
    show own_S p e below T0 (mkF m 81 #[.val (.int p1), .val (.int ex), .val (.ref st), .val (.ref c1), .val (.int (1 : Int32)), .unset] []) _
    refine XS.iloadN X0.here hx rfl (hb hby at_81) rfl ?_
    show own_S p e below T0 (mkF m 82 #[.val (.int p1), .val (.int ex), .val (.ref st), .val (.ref c1), .val (.int (1 : Int32)), .unset] [(.int ex)]) _
    refine XS.iconst X0.here hx rfl (hb hby at_82) ?_
    exact kt)
  by_cases hc83 : ex < (3 : Int32)
  · have kn2 : ∀ t, own_S p e below T0 (mkF m 107 #[.val (.int p1), .val (.int ex), .val (.ref st), .val (.ref c1), .val (.int (1 : Int32)), .unset] []) t → own_S p e below T0 (mkF m 81 #[.val (.int p1), .val (.int ex), .val (.ref st), .val (.ref c1), .val (.int (1 : Int32)), .unset] []) t := fun t kt => kn1 t (by
      show own_S p e below T0 (mkF m 83 #[.val (.int p1), .val (.int ex), .val (.ref st), .val (.ref c1), .val (.int (1 : Int32)), .unset] [(.int (3 : Int32)), (.int ex)]) _
      refine XS.icmpYes X0.here hx rfl (pc0 := 83) (pc' := 107) rfl (hb hby at_83) rfl (tlt hc83).1 (by decide) (by decide) ?_
      exact kt)
    obtain ⟨s2, o2, t1, t2, t3, t4⟩ := tl4 (n0 := n0) p1 gL gE kE gD kD cK one ex st c1 qa X0 hx hZ hw hby hml hown hret hlk e0 Nf0 Z0 hWH hat O0 S_L E_L F_L A_E S_D A_D E_st F_st_inMemory F_st_runs E_c1 F_c1_heads F_c1_last E_qa F_qa_size
    exact ⟨s2, o2, id (kn2 _ (t1)), t2, t3, t4⟩
  · have kn3 : ∀ t, own_S p e below T0 (mkF m 92 #[.val (.int p1), .val (.int ex), .val (.ref st), .val (.ref c1), .val (.int (1 : Int32)), .unset] [(.ref c1)]) t → own_S p e below T0 (mkF m 81 #[.val (.int p1), .val (.int ex), .val (.ref st), .val (.ref c1), .val (.int (1 : Int32)), .unset] []) t := fun t kt => kn1 t (by
      show own_S p e below T0 (mkF m 83 #[.val (.int p1), .val (.int ex), .val (.ref st), .val (.ref c1), .val (.int (1 : Int32)), .unset] [(.int (3 : Int32)), (.int ex)]) _
      refine XS.icmpNo X0.here hx rfl (hb hby at_83) rfl (flt hc83).1 ?_
      show own_S p e below T0 (mkF m 86 #[.val (.int p1), .val (.int ex), .val (.ref st), .val (.ref c1), .val (.int (1 : Int32)), .unset] []) _
      refine XS.iload X0.here hx rfl (hb hby at_86) rfl ?_
      show own_S p e below T0 (mkF m 88 #[.val (.int p1), .val (.int ex), .val (.ref st), .val (.ref c1), .val (.int (1 : Int32)), .unset] [(.int (1 : Int32))]) _
      refine XS.ifNo X0.here hx rfl (hb hby at_88) rfl ((if0 _ _).trans (feq (by decide : ¬ ((1 : Int32) = (0 : Int32)))).1) ?_
      show own_S p e below T0 (mkF m 91 #[.val (.int p1), .val (.int ex), .val (.ref st), .val (.ref c1), .val (.int (1 : Int32)), .unset] []) _
      refine XS.aloadN X0.here hx rfl (hb hby at_91) rfl rfl ?_
      exact kt)
    obtain ⟨cq4, kq4, qa4, qb4, qc4⟩ := isOf hZ e0 E_c1
    obtain ⟨_, _, ⟨T4, L4, cc4, ss4⟩, -, X4, ⟨Lc4, hQ4, l4, y4, z4⟩, st4⟩ := X0.interfaceBack hx (xi := (⟨"com/example/caddis/caddis/StatementSet$Cursor", "next", "()Ljava/lang/String;"⟩ : MethodName)) (y := (⟨"com/example/caddis/caddis/StatementSet$Union", "next", "()Ljava/lang/String;"⟩ : MethodName)) hown (mvT hZ (hw _ (List.mem_of_getElem? (i := 222) rfl))) (mvT hZ (hw _ (List.mem_of_getElem? (i := 209) rfl))) (mvT hZ (hw _ (List.mem_of_getElem? (i := 210) rfl))) (mvT hZ (hw _ (List.mem_of_getElem? (i := 223) rfl))) (mvT hZ (hw _ (List.mem_of_getElem? (i := 224) rfl))) (mvT hZ (hw _ (List.mem_of_getElem? (i := 225) rfl))) (mvT hZ (hw _ (List.mem_of_getElem? (i := 226) rfl))) (mvT hZ (hw _ (List.mem_of_getElem? (i := 227) rfl))) (by decide) (backOf (W := 0) (rm30 l Z a0 hw [] c1 qa h0 n0 Z0 E_c1 F_c1_heads F_c1_last E_qa F_qa_size) hZ (hw _ (List.mem_of_getElem? (i := 228) rfl)) (hw _ (List.mem_of_getElem? (i := 215) rfl)) (by decide) (by decide)) qa4 qb4 qc4 (g := (mkF m 92 #[.val (.int p1), .val (.int ex), .val (.ref st), .val (.ref c1), .val (.int (1 : Int32)), .unset] [(.ref c1)])) rfl (by rw [hml]; rfl) (Steps.refl _) (argsL := []) (rest := []) (lenOf pd_20 rfl) rfl (by show 2 * 0 + _ ≤ _; exact Nat.le_of_eq rfl) (hb hby at_92) (fun _ _ => ⟨rfl, e0, (by decide : 10 + 0 ≤ _), (by decide : 45 + 0 ≤ _)⟩)
    dsimp only [Pt.U, Pt.locs, Pt.cells, Pt.slots] at X4 l4 y4 z4 st4 hQ4
    subst l4 y4 z4
    have X4 : Stand p l e _ _ m _ below meth c T4 _ 10 45 := X4
    obtain ⟨rfl, Nq4, eq4⟩ := hQ4
    have Nf4 := Fr.app Nf0 Nq4
    have kn5 : ∀ t, own_S p e below T4 (mkF m 97 #[.val (.int p1), .val (.int ex), .val (.ref st), .val (.ref c1), .val (.int (1 : Int32)), .unset] [.null]) t → own_S p e below T0 (mkF m 81 #[.val (.int p1), .val (.int ex), .val (.ref st), .val (.ref c1), .val (.int (1 : Int32)), .unset] []) t := fun t kt => kn3 t (st4.trans kt)
    have kn6 : ∀ t, own_S p e below T4 (mkF m 107 #[.val (.int p1), .val (.int ex), .val (.ref st), .val (.ref c1), .val (.int (1 : Int32)), .unset] []) t → own_S p e below T0 (mkF m 81 #[.val (.int p1), .val (.int ex), .val (.ref st), .val (.ref c1), .val (.int (1 : Int32)), .unset] []) t := fun t kt => kn5 t (by
      show own_S p e below T4 (mkF m 97 #[.val (.int p1), .val (.int ex), .val (.ref st), .val (.ref c1), .val (.int (1 : Int32)), .unset] [.null]) _
      refine XS.ifnonnullNo X4.here hx rfl (hb hby at_97) rfl ?_
      show own_S p e below T4 (mkF m 100 #[.val (.int p1), .val (.int ex), .val (.ref st), .val (.ref c1), .val (.int (1 : Int32)), .unset] []) _
      refine XS.iconst X4.here hx rfl (hb hby at_100) ?_
      show own_S p e below T4 (mkF m 101 #[.val (.int p1), .val (.int ex), .val (.ref st), .val (.ref c1), .val (.int (1 : Int32)), .unset] [(.int (1 : Int32))]) _
      refine XS.goto X4.here hx rfl (pc0 := 101) (pc' := 105) rfl (hb hby at_101) (by decide) (by decide) ?_
      show own_S p e below T4 (mkF m 105 #[.val (.int p1), .val (.int ex), .val (.ref st), .val (.ref c1), .val (.int (1 : Int32)), .unset] [(.int (1 : Int32))]) _
      refine XS.istore X4.here hx rfl (hb hby at_105) rfl (l' := #[.val (.int p1), .val (.int ex), .val (.ref st), .val (.ref c1), .val (.int (1 : Int32)), .unset]) rfl ?_
      exact kt)
    obtain ⟨s2, o2, t1, t2, t3, t4⟩ := tl4 (n0 := n0) p1 gL gE kE gD kD cK one ex st c1 qa X4 hx hZ hw hby hml hown hret hlk eq4 Nf4 Z0 hWH hat O0 S_L E_L F_L A_E S_D A_D E_st F_st_inMemory F_st_runs E_c1 F_c1_heads F_c1_last E_qa F_qa_size
    exact ⟨s2, o2, id (kn6 _ (t1)), t2, t3, t4⟩

set_option maxRecDepth 65536 in
set_option maxHeartbeats 40000000 in
theorem tl2 {p : Program} {l : Launch} {e : Env} {s : State} {m : MethodId} {args : Array Value} {below : List Frame} {meth : Method} {c : Code} {T0 : State} {locs : List Loc} {Z : State} {a0 : Array Value} {h0 : Heap} {n0 : Nat} (p1 : Int32) (gL : Addr) (gE : Addr) (kE : ClassId) (gD : Addr) (kD : ClassId) (cK : ClassId) (one : Option Addr) (ex : Int32) (st : Addr) (c1 : Addr) (qa : Addr)
    (X0 : Stand p l e room_1 s m args below meth c T0 locs 10 45) (hx : p.tables.exec = Jvm.exec) (hZ : Z.Warmed39 s.vm) (hw : ∀ d ∈ tables_1, d.before a0 Z = true) (hby : c.code = code) (hml : c.maxLocals = 6) (hown : s.vm.findClass "com/example/caddis/caddis/StatementSetEmptyPinLaw" = some m.cls) (hret : meth.sig.returnType = some .boolean) (hlk : meth.locks = false) (e0 : T0.heap = h0) (Nf0 : Fr n0 locs) (Z0 : n0 ≤ h0.size) (hWH : Z.WarmedH s.vm) (hat : Z.lambdaAt? own_x 8 229 own_σ = some (cK, one)) (O0 : Old Z n0 h0) (S_L : Sta Z Z.heap "java/util/ImmutableCollections" "EMPTY_LIST" "Ljava/util/ImmutableCollections$ListN;" (.ref gL)) (E_L : Exa Z Z.heap gL "java/util/ImmutableCollections$ListN") (F_L : Fld Z Z.heap gL "java/util/ImmutableCollections$ListN" "elements" "[Ljava/lang/Object;" (.ref gE)) (A_E : Arv Z Z.heap gE kE (.object "java/lang/Object") (0 : Int32) [] .null) (S_D : Sta Z Z.heap "java/util/ArrayList" "DEFAULTCAPACITY_EMPTY_ELEMENTDATA" "[Ljava/lang/Object;" (.ref gD)) (A_D : Arv Z Z.heap gD kD (.object "java/lang/Object") (0 : Int32) [] .null) (E_st : Exa Z h0 st "com/example/caddis/caddis/StatementSet") (F_st_inMemory : Fld Z h0 st "com/example/caddis/caddis/StatementSet" "inMemory" "Ljava/util/List;" (.ref gL)) (F_st_runs : Fld Z h0 st "com/example/caddis/caddis/StatementSet" "runs" "Ljava/util/List;" (.ref gL)) (E_c1 : Exa Z h0 c1 "com/example/caddis/caddis/StatementSet$Union") (F_c1_heads : Fld Z h0 c1 "com/example/caddis/caddis/StatementSet$Union" "heads" "Ljava/util/PriorityQueue;" (.ref qa)) (F_c1_last : Fld Z h0 c1 "com/example/caddis/caddis/StatementSet$Union" "last" "Ljava/lang/String;" .null) (E_qa : Exa Z h0 qa "java/util/PriorityQueue") (F_qa_size : Fld Z h0 qa "java/util/PriorityQueue" "size" "I" (.int (0 : Int32))) :
    ∃ s₂ o, Steps p.tables e below (T0.setTop (mkF m 55 #[.val (.int p1), .val (.int ex), .val (.ref st), .val (.ref c1), .val (.int (1 : Int32)), .unset] [])) s₂ ∧ s₂.status = .running ∧ Ended s₂ below o ∧ ∃ v L, o = .returned v ∧ Q0 Z p1 gL gE kE gD kD h0 n0 v s₂.heap L ∧ ReturnedEndW s o s₂ L 48 256 := by
  have kn0 : ∀ t, own_S p e below T0 (mkF m 55 #[.val (.int p1), .val (.int ex), .val (.ref st), .val (.ref c1), .val (.int (1 : Int32)), .unset] []) t → own_S p e below T0 (mkF m 55 #[.val (.int p1), .val (.int ex), .val (.ref st), .val (.ref c1), .val (.int (1 : Int32)), .unset] []) t := fun t k => k
  have kn1 : ∀ t, own_S p e below T0 (mkF m 57 #[.val (.int p1), .val (.int ex), .val (.ref st), .val (.ref c1), .val (.int (1 : Int32)), .unset] [(.int (2 : Int32)), (.int ex)]) t → own_S p e below T0 (mkF m 55 #[.val (.int p1), .val (.int ex), .val (.ref st), .val (.ref c1), .val (.int (1 : Int32)), .unset] []) t := fun t kt => kn0 t (by
    show own_S p e below T0 (mkF m 55 #[.val (.int p1), .val (.int ex), .val (.ref st), .val (.ref c1), .val (.int (1 : Int32)), .unset] []) _
    refine XS.iloadN X0.here hx rfl (hb hby at_55) rfl ?_
    show own_S p e below T0 (mkF m 56 #[.val (.int p1), .val (.int ex), .val (.ref st), .val (.ref c1), .val (.int (1 : Int32)), .unset] [(.int ex)]) _
    refine XS.iconst X0.here hx rfl (hb hby at_56) ?_
    exact kt)
  by_cases hc57 : ex < (2 : Int32)
  · have kn2 : ∀ t, own_S p e below T0 (mkF m 81 #[.val (.int p1), .val (.int ex), .val (.ref st), .val (.ref c1), .val (.int (1 : Int32)), .unset] []) t → own_S p e below T0 (mkF m 55 #[.val (.int p1), .val (.int ex), .val (.ref st), .val (.ref c1), .val (.int (1 : Int32)), .unset] []) t := fun t kt => kn1 t (by
      show own_S p e below T0 (mkF m 57 #[.val (.int p1), .val (.int ex), .val (.ref st), .val (.ref c1), .val (.int (1 : Int32)), .unset] [(.int (2 : Int32)), (.int ex)]) _
      refine XS.icmpYes X0.here hx rfl (pc0 := 57) (pc' := 81) rfl (hb hby at_57) rfl (tlt hc57).1 (by decide) (by decide) ?_
      exact kt)
    obtain ⟨s2, o2, t1, t2, t3, t4⟩ := tl3 (n0 := n0) p1 gL gE kE gD kD cK one ex st c1 qa X0 hx hZ hw hby hml hown hret hlk e0 Nf0 Z0 hWH hat O0 S_L E_L F_L A_E S_D A_D E_st F_st_inMemory F_st_runs E_c1 F_c1_heads F_c1_last E_qa F_qa_size
    exact ⟨s2, o2, id (kn2 _ (t1)), t2, t3, t4⟩
  · have kn3 : ∀ t, own_S p e below T0 (mkF m 66 #[.val (.int p1), .val (.int ex), .val (.ref st), .val (.ref c1), .val (.int (1 : Int32)), .unset] [(.ref c1)]) t → own_S p e below T0 (mkF m 55 #[.val (.int p1), .val (.int ex), .val (.ref st), .val (.ref c1), .val (.int (1 : Int32)), .unset] []) t := fun t kt => kn1 t (by
      show own_S p e below T0 (mkF m 57 #[.val (.int p1), .val (.int ex), .val (.ref st), .val (.ref c1), .val (.int (1 : Int32)), .unset] [(.int (2 : Int32)), (.int ex)]) _
      refine XS.icmpNo X0.here hx rfl (hb hby at_57) rfl (flt hc57).1 ?_
      show own_S p e below T0 (mkF m 60 #[.val (.int p1), .val (.int ex), .val (.ref st), .val (.ref c1), .val (.int (1 : Int32)), .unset] []) _
      refine XS.iload X0.here hx rfl (hb hby at_60) rfl ?_
      show own_S p e below T0 (mkF m 62 #[.val (.int p1), .val (.int ex), .val (.ref st), .val (.ref c1), .val (.int (1 : Int32)), .unset] [(.int (1 : Int32))]) _
      refine XS.ifNo X0.here hx rfl (hb hby at_62) rfl ((if0 _ _).trans (feq (by decide : ¬ ((1 : Int32) = (0 : Int32)))).1) ?_
      show own_S p e below T0 (mkF m 65 #[.val (.int p1), .val (.int ex), .val (.ref st), .val (.ref c1), .val (.int (1 : Int32)), .unset] []) _
      refine XS.aloadN X0.here hx rfl (hb hby at_65) rfl rfl ?_
      exact kt)
    obtain ⟨cq4, kq4, qa4, qb4, qc4⟩ := isOf hZ e0 E_c1
    obtain ⟨_, _, ⟨T4, L4, cc4, ss4⟩, -, X4, ⟨Lc4, hQ4, l4, y4, z4⟩, st4⟩ := X0.interfaceBack hx (xi := (⟨"com/example/caddis/caddis/StatementSet$Cursor", "next", "()Ljava/lang/String;"⟩ : MethodName)) (y := (⟨"com/example/caddis/caddis/StatementSet$Union", "next", "()Ljava/lang/String;"⟩ : MethodName)) hown (mvT hZ (hw _ (List.mem_of_getElem? (i := 222) rfl))) (mvT hZ (hw _ (List.mem_of_getElem? (i := 209) rfl))) (mvT hZ (hw _ (List.mem_of_getElem? (i := 210) rfl))) (mvT hZ (hw _ (List.mem_of_getElem? (i := 223) rfl))) (mvT hZ (hw _ (List.mem_of_getElem? (i := 224) rfl))) (mvT hZ (hw _ (List.mem_of_getElem? (i := 225) rfl))) (mvT hZ (hw _ (List.mem_of_getElem? (i := 226) rfl))) (mvT hZ (hw _ (List.mem_of_getElem? (i := 227) rfl))) (by decide) (backOf (W := 0) (rm30 l Z a0 hw [] c1 qa h0 n0 Z0 E_c1 F_c1_heads F_c1_last E_qa F_qa_size) hZ (hw _ (List.mem_of_getElem? (i := 228) rfl)) (hw _ (List.mem_of_getElem? (i := 215) rfl)) (by decide) (by decide)) qa4 qb4 qc4 (g := (mkF m 66 #[.val (.int p1), .val (.int ex), .val (.ref st), .val (.ref c1), .val (.int (1 : Int32)), .unset] [(.ref c1)])) rfl (by rw [hml]; rfl) (Steps.refl _) (argsL := []) (rest := []) (lenOf pd_20 rfl) rfl (by show 2 * 0 + _ ≤ _; exact Nat.le_of_eq rfl) (hb hby at_66) (fun _ _ => ⟨rfl, e0, (by decide : 10 + 0 ≤ _), (by decide : 45 + 0 ≤ _)⟩)
    dsimp only [Pt.U, Pt.locs, Pt.cells, Pt.slots] at X4 l4 y4 z4 st4 hQ4
    subst l4 y4 z4
    have X4 : Stand p l e _ _ m _ below meth c T4 _ 10 45 := X4
    obtain ⟨rfl, Nq4, eq4⟩ := hQ4
    have Nf4 := Fr.app Nf0 Nq4
    have kn5 : ∀ t, own_S p e below T4 (mkF m 71 #[.val (.int p1), .val (.int ex), .val (.ref st), .val (.ref c1), .val (.int (1 : Int32)), .unset] [.null]) t → own_S p e below T0 (mkF m 55 #[.val (.int p1), .val (.int ex), .val (.ref st), .val (.ref c1), .val (.int (1 : Int32)), .unset] []) t := fun t kt => kn3 t (st4.trans kt)
    have kn6 : ∀ t, own_S p e below T4 (mkF m 81 #[.val (.int p1), .val (.int ex), .val (.ref st), .val (.ref c1), .val (.int (1 : Int32)), .unset] []) t → own_S p e below T0 (mkF m 55 #[.val (.int p1), .val (.int ex), .val (.ref st), .val (.ref c1), .val (.int (1 : Int32)), .unset] []) t := fun t kt => kn5 t (by
      show own_S p e below T4 (mkF m 71 #[.val (.int p1), .val (.int ex), .val (.ref st), .val (.ref c1), .val (.int (1 : Int32)), .unset] [.null]) _
      refine XS.ifnonnullNo X4.here hx rfl (hb hby at_71) rfl ?_
      show own_S p e below T4 (mkF m 74 #[.val (.int p1), .val (.int ex), .val (.ref st), .val (.ref c1), .val (.int (1 : Int32)), .unset] []) _
      refine XS.iconst X4.here hx rfl (hb hby at_74) ?_
      show own_S p e below T4 (mkF m 75 #[.val (.int p1), .val (.int ex), .val (.ref st), .val (.ref c1), .val (.int (1 : Int32)), .unset] [(.int (1 : Int32))]) _
      refine XS.goto X4.here hx rfl (pc0 := 75) (pc' := 79) rfl (hb hby at_75) (by decide) (by decide) ?_
      show own_S p e below T4 (mkF m 79 #[.val (.int p1), .val (.int ex), .val (.ref st), .val (.ref c1), .val (.int (1 : Int32)), .unset] [(.int (1 : Int32))]) _
      refine XS.istore X4.here hx rfl (hb hby at_79) rfl (l' := #[.val (.int p1), .val (.int ex), .val (.ref st), .val (.ref c1), .val (.int (1 : Int32)), .unset]) rfl ?_
      exact kt)
    obtain ⟨s2, o2, t1, t2, t3, t4⟩ := tl3 (n0 := n0) p1 gL gE kE gD kD cK one ex st c1 qa X4 hx hZ hw hby hml hown hret hlk eq4 Nf4 Z0 hWH hat O0 S_L E_L F_L A_E S_D A_D E_st F_st_inMemory F_st_runs E_c1 F_c1_heads F_c1_last E_qa F_qa_size
    exact ⟨s2, o2, id (kn6 _ (t1)), t2, t3, t4⟩

set_option maxRecDepth 65536 in
set_option maxHeartbeats 40000000 in
theorem tl1 {p : Program} {l : Launch} {e : Env} {s : State} {m : MethodId} {args : Array Value} {below : List Frame} {meth : Method} {c : Code} {T0 : State} {locs : List Loc} {Z : State} {a0 : Array Value} {h0 : Heap} {n0 : Nat} (p1 : Int32) (gL : Addr) (gE : Addr) (kE : ClassId) (gD : Addr) (kD : ClassId) (cK : ClassId) (one : Option Addr) (ex : Int32) (st : Addr) (c1 : Addr) (qa : Addr)
    (X0 : Stand p l e room_1 s m args below meth c T0 locs 10 45) (hx : p.tables.exec = Jvm.exec) (hZ : Z.Warmed39 s.vm) (hw : ∀ d ∈ tables_1, d.before a0 Z = true) (hby : c.code = code) (hml : c.maxLocals = 6) (hown : s.vm.findClass "com/example/caddis/caddis/StatementSetEmptyPinLaw" = some m.cls) (hret : meth.sig.returnType = some .boolean) (hlk : meth.locks = false) (e0 : T0.heap = h0) (Nf0 : Fr n0 locs) (Z0 : n0 ≤ h0.size) (hWH : Z.WarmedH s.vm) (hat : Z.lambdaAt? own_x 8 229 own_σ = some (cK, one)) (O0 : Old Z n0 h0) (S_L : Sta Z Z.heap "java/util/ImmutableCollections" "EMPTY_LIST" "Ljava/util/ImmutableCollections$ListN;" (.ref gL)) (E_L : Exa Z Z.heap gL "java/util/ImmutableCollections$ListN") (F_L : Fld Z Z.heap gL "java/util/ImmutableCollections$ListN" "elements" "[Ljava/lang/Object;" (.ref gE)) (A_E : Arv Z Z.heap gE kE (.object "java/lang/Object") (0 : Int32) [] .null) (S_D : Sta Z Z.heap "java/util/ArrayList" "DEFAULTCAPACITY_EMPTY_ELEMENTDATA" "[Ljava/lang/Object;" (.ref gD)) (A_D : Arv Z Z.heap gD kD (.object "java/lang/Object") (0 : Int32) [] .null) (E_st : Exa Z h0 st "com/example/caddis/caddis/StatementSet") (F_st_inMemory : Fld Z h0 st "com/example/caddis/caddis/StatementSet" "inMemory" "Ljava/util/List;" (.ref gL)) (F_st_runs : Fld Z h0 st "com/example/caddis/caddis/StatementSet" "runs" "Ljava/util/List;" (.ref gL)) (E_c1 : Exa Z h0 c1 "com/example/caddis/caddis/StatementSet$Union") (F_c1_heads : Fld Z h0 c1 "com/example/caddis/caddis/StatementSet$Union" "heads" "Ljava/util/PriorityQueue;" (.ref qa)) (F_c1_last : Fld Z h0 c1 "com/example/caddis/caddis/StatementSet$Union" "last" "Ljava/lang/String;" .null) (E_qa : Exa Z h0 qa "java/util/PriorityQueue") (F_qa_size : Fld Z h0 qa "java/util/PriorityQueue" "size" "I" (.int (0 : Int32))) :
    ∃ s₂ o, Steps p.tables e below (T0.setTop (mkF m 29 #[.val (.int p1), .val (.int ex), .val (.ref st), .val (.ref c1), .val (.int (1 : Int32)), .unset] [])) s₂ ∧ s₂.status = .running ∧ Ended s₂ below o ∧ ∃ v L, o = .returned v ∧ Q0 Z p1 gL gE kE gD kD h0 n0 v s₂.heap L ∧ ReturnedEndW s o s₂ L 48 256 := by
  have kn0 : ∀ t, own_S p e below T0 (mkF m 29 #[.val (.int p1), .val (.int ex), .val (.ref st), .val (.ref c1), .val (.int (1 : Int32)), .unset] []) t → own_S p e below T0 (mkF m 29 #[.val (.int p1), .val (.int ex), .val (.ref st), .val (.ref c1), .val (.int (1 : Int32)), .unset] []) t := fun t k => k
  have kn1 : ∀ t, own_S p e below T0 (mkF m 31 #[.val (.int p1), .val (.int ex), .val (.ref st), .val (.ref c1), .val (.int (1 : Int32)), .unset] [(.int (1 : Int32)), (.int ex)]) t → own_S p e below T0 (mkF m 29 #[.val (.int p1), .val (.int ex), .val (.ref st), .val (.ref c1), .val (.int (1 : Int32)), .unset] []) t := fun t kt => kn0 t (by
    show own_S p e below T0 (mkF m 29 #[.val (.int p1), .val (.int ex), .val (.ref st), .val (.ref c1), .val (.int (1 : Int32)), .unset] []) _
    refine XS.iloadN X0.here hx rfl (hb hby at_29) rfl ?_
    show own_S p e below T0 (mkF m 30 #[.val (.int p1), .val (.int ex), .val (.ref st), .val (.ref c1), .val (.int (1 : Int32)), .unset] [(.int ex)]) _
    refine XS.iconst X0.here hx rfl (hb hby at_30) ?_
    exact kt)
  by_cases hc31 : ex < (1 : Int32)
  · have kn2 : ∀ t, own_S p e below T0 (mkF m 55 #[.val (.int p1), .val (.int ex), .val (.ref st), .val (.ref c1), .val (.int (1 : Int32)), .unset] []) t → own_S p e below T0 (mkF m 29 #[.val (.int p1), .val (.int ex), .val (.ref st), .val (.ref c1), .val (.int (1 : Int32)), .unset] []) t := fun t kt => kn1 t (by
      show own_S p e below T0 (mkF m 31 #[.val (.int p1), .val (.int ex), .val (.ref st), .val (.ref c1), .val (.int (1 : Int32)), .unset] [(.int (1 : Int32)), (.int ex)]) _
      refine XS.icmpYes X0.here hx rfl (pc0 := 31) (pc' := 55) rfl (hb hby at_31) rfl (tlt hc31).1 (by decide) (by decide) ?_
      exact kt)
    obtain ⟨s2, o2, t1, t2, t3, t4⟩ := tl2 (n0 := n0) p1 gL gE kE gD kD cK one ex st c1 qa X0 hx hZ hw hby hml hown hret hlk e0 Nf0 Z0 hWH hat O0 S_L E_L F_L A_E S_D A_D E_st F_st_inMemory F_st_runs E_c1 F_c1_heads F_c1_last E_qa F_qa_size
    exact ⟨s2, o2, id (kn2 _ (t1)), t2, t3, t4⟩
  · have kn3 : ∀ t, own_S p e below T0 (mkF m 40 #[.val (.int p1), .val (.int ex), .val (.ref st), .val (.ref c1), .val (.int (1 : Int32)), .unset] [(.ref c1)]) t → own_S p e below T0 (mkF m 29 #[.val (.int p1), .val (.int ex), .val (.ref st), .val (.ref c1), .val (.int (1 : Int32)), .unset] []) t := fun t kt => kn1 t (by
      show own_S p e below T0 (mkF m 31 #[.val (.int p1), .val (.int ex), .val (.ref st), .val (.ref c1), .val (.int (1 : Int32)), .unset] [(.int (1 : Int32)), (.int ex)]) _
      refine XS.icmpNo X0.here hx rfl (hb hby at_31) rfl (flt hc31).1 ?_
      show own_S p e below T0 (mkF m 34 #[.val (.int p1), .val (.int ex), .val (.ref st), .val (.ref c1), .val (.int (1 : Int32)), .unset] []) _
      refine XS.iload X0.here hx rfl (hb hby at_34) rfl ?_
      show own_S p e below T0 (mkF m 36 #[.val (.int p1), .val (.int ex), .val (.ref st), .val (.ref c1), .val (.int (1 : Int32)), .unset] [(.int (1 : Int32))]) _
      refine XS.ifNo X0.here hx rfl (hb hby at_36) rfl ((if0 _ _).trans (feq (by decide : ¬ ((1 : Int32) = (0 : Int32)))).1) ?_
      show own_S p e below T0 (mkF m 39 #[.val (.int p1), .val (.int ex), .val (.ref st), .val (.ref c1), .val (.int (1 : Int32)), .unset] []) _
      refine XS.aloadN X0.here hx rfl (hb hby at_39) rfl rfl ?_
      exact kt)
    obtain ⟨cq4, kq4, qa4, qb4, qc4⟩ := isOf hZ e0 E_c1
    obtain ⟨_, _, ⟨T4, L4, cc4, ss4⟩, -, X4, ⟨Lc4, hQ4, l4, y4, z4⟩, st4⟩ := X0.interfaceBack hx (xi := (⟨"com/example/caddis/caddis/StatementSet$Cursor", "next", "()Ljava/lang/String;"⟩ : MethodName)) (y := (⟨"com/example/caddis/caddis/StatementSet$Union", "next", "()Ljava/lang/String;"⟩ : MethodName)) hown (mvT hZ (hw _ (List.mem_of_getElem? (i := 222) rfl))) (mvT hZ (hw _ (List.mem_of_getElem? (i := 209) rfl))) (mvT hZ (hw _ (List.mem_of_getElem? (i := 210) rfl))) (mvT hZ (hw _ (List.mem_of_getElem? (i := 223) rfl))) (mvT hZ (hw _ (List.mem_of_getElem? (i := 224) rfl))) (mvT hZ (hw _ (List.mem_of_getElem? (i := 225) rfl))) (mvT hZ (hw _ (List.mem_of_getElem? (i := 226) rfl))) (mvT hZ (hw _ (List.mem_of_getElem? (i := 227) rfl))) (by decide) (backOf (W := 0) (rm30 l Z a0 hw [] c1 qa h0 n0 Z0 E_c1 F_c1_heads F_c1_last E_qa F_qa_size) hZ (hw _ (List.mem_of_getElem? (i := 228) rfl)) (hw _ (List.mem_of_getElem? (i := 215) rfl)) (by decide) (by decide)) qa4 qb4 qc4 (g := (mkF m 40 #[.val (.int p1), .val (.int ex), .val (.ref st), .val (.ref c1), .val (.int (1 : Int32)), .unset] [(.ref c1)])) rfl (by rw [hml]; rfl) (Steps.refl _) (argsL := []) (rest := []) (lenOf pd_20 rfl) rfl (by show 2 * 0 + _ ≤ _; exact Nat.le_of_eq rfl) (hb hby at_40) (fun _ _ => ⟨rfl, e0, (by decide : 10 + 0 ≤ _), (by decide : 45 + 0 ≤ _)⟩)
    dsimp only [Pt.U, Pt.locs, Pt.cells, Pt.slots] at X4 l4 y4 z4 st4 hQ4
    subst l4 y4 z4
    have X4 : Stand p l e _ _ m _ below meth c T4 _ 10 45 := X4
    obtain ⟨rfl, Nq4, eq4⟩ := hQ4
    have Nf4 := Fr.app Nf0 Nq4
    have kn5 : ∀ t, own_S p e below T4 (mkF m 45 #[.val (.int p1), .val (.int ex), .val (.ref st), .val (.ref c1), .val (.int (1 : Int32)), .unset] [.null]) t → own_S p e below T0 (mkF m 29 #[.val (.int p1), .val (.int ex), .val (.ref st), .val (.ref c1), .val (.int (1 : Int32)), .unset] []) t := fun t kt => kn3 t (st4.trans kt)
    have kn6 : ∀ t, own_S p e below T4 (mkF m 55 #[.val (.int p1), .val (.int ex), .val (.ref st), .val (.ref c1), .val (.int (1 : Int32)), .unset] []) t → own_S p e below T0 (mkF m 29 #[.val (.int p1), .val (.int ex), .val (.ref st), .val (.ref c1), .val (.int (1 : Int32)), .unset] []) t := fun t kt => kn5 t (by
      show own_S p e below T4 (mkF m 45 #[.val (.int p1), .val (.int ex), .val (.ref st), .val (.ref c1), .val (.int (1 : Int32)), .unset] [.null]) _
      refine XS.ifnonnullNo X4.here hx rfl (hb hby at_45) rfl ?_
      show own_S p e below T4 (mkF m 48 #[.val (.int p1), .val (.int ex), .val (.ref st), .val (.ref c1), .val (.int (1 : Int32)), .unset] []) _
      refine XS.iconst X4.here hx rfl (hb hby at_48) ?_
      show own_S p e below T4 (mkF m 49 #[.val (.int p1), .val (.int ex), .val (.ref st), .val (.ref c1), .val (.int (1 : Int32)), .unset] [(.int (1 : Int32))]) _
      refine XS.goto X4.here hx rfl (pc0 := 49) (pc' := 53) rfl (hb hby at_49) (by decide) (by decide) ?_
      show own_S p e below T4 (mkF m 53 #[.val (.int p1), .val (.int ex), .val (.ref st), .val (.ref c1), .val (.int (1 : Int32)), .unset] [(.int (1 : Int32))]) _
      refine XS.istore X4.here hx rfl (hb hby at_53) rfl (l' := #[.val (.int p1), .val (.int ex), .val (.ref st), .val (.ref c1), .val (.int (1 : Int32)), .unset]) rfl ?_
      exact kt)
    obtain ⟨s2, o2, t1, t2, t3, t4⟩ := tl2 (n0 := n0) p1 gL gE kE gD kD cK one ex st c1 qa X4 hx hZ hw hby hml hown hret hlk eq4 Nf4 Z0 hWH hat O0 S_L E_L F_L A_E S_D A_D E_st F_st_inMemory F_st_runs E_c1 F_c1_heads F_c1_last E_qa F_qa_size
    exact ⟨s2, o2, id (kn6 _ (t1)), t2, t3, t4⟩

theorem pn_12 : plainName "com/example/caddis/caddis/StatementSetEmptyPinLaw" = true := by first | (simp [plainName, overriddenIn]; done) | decide +kernel
theorem pd_21 : parseMethodDescriptor "()Lcom/example/caddis/caddis/StatementSet;" = some ⟨[], some (.object "com/example/caddis/caddis/StatementSet")⟩ := by decide +kernel
theorem ef_rm0 (m : MethodId) (x0 : Int32) : entryFrame m #[(.int x0)] maxLocals = mkF m 0 #[.val (.int x0), .unset, .unset, .unset, .unset, .unset] [] := by first | (simp [entryFrame, mkF, argsToLocals, Value.category, maxLocals]; done) | rfl
 
set_option maxRecDepth 65536 in
set_option maxHeartbeats 40000000 in
theorem rm0 (l : Launch) (Z : State) (a0 : Array Value) (hw : ∀ d ∈ tables_1, d.before a0 Z = true) (ws : List Jvm.Cond) (p1 : Int32) (gL : Addr) (gE : Addr) (kE : ClassId) (gD : Addr) (kD : ClassId) (h0 : Heap) (n0 : Nat) (Z0 : n0 ≤ h0.size) (O0 : Old Z n0 h0) (S_L : Sta Z Z.heap "java/util/ImmutableCollections" "EMPTY_LIST" "Ljava/util/ImmutableCollections$ListN;" (.ref gL)) (E_L : Exa Z Z.heap gL "java/util/ImmutableCollections$ListN") (F_L : Fld Z Z.heap gL "java/util/ImmutableCollections$ListN" "elements" "[Ljava/lang/Object;" (.ref gE)) (A_E : Arv Z Z.heap gE kE (.object "java/lang/Object") (0 : Int32) [] .null) (S_D : Sta Z Z.heap "java/util/ArrayList" "DEFAULTCAPACITY_EMPTY_ELEMENTDATA" "[Ljava/lang/Object;" (.ref gD)) (A_D : Arv Z Z.heap gD kD (.object "java/lang/Object") (0 : Int32) [] .null) :
    MetFree l x (head1 (Jvm.Cond.code x code maxLocals ret :: ws) room_1) (fun a U => a = #[(.int p1)] ∧ Z.Warmed39 U.vm ∧ U.heap = h0 ∧ Z.WarmedH U.vm) (fun _ _ _ _ _ => True) (fun _ U o U' => ∃ v L, o = .returned v ∧ Q0 Z p1 gL gE kE gD kD h0 n0 v U'.heap L ∧ ReturnedEndW U o U' L 48 256) := by
  refine MetFree.of_bodySF (plainFor_of_name pn_12) hisR ?_
  intro p e s m args below meth c s₁ Bd hml0 hP hK
  obtain ⟨rfl, hZ, hh, hWH⟩ := hP
  have hx := Bd.exec
  have hby := Bd.bytes
  have hml : c.maxLocals = 6 := hml0
  have hown : s.vm.findClass "com/example/caddis/caddis/StatementSetEmptyPinLaw" = some m.cls := findClass_of_methodNamed Bd.named
  have hnm := (name_of_methodNamed Bd.named Bd.method).1
  have X0 : Stand p l e room_1 s m #[(.int p1)] below meth c s₁ [] 0 0 := Stand.of_body Bd
  have e0 : s₁.heap = h0 := by rw [← hh, Bd.state]; rfl
  have Nf0 := Fr.nil n0
  obtain ⟨Gl, hGl, kn0⟩ : ∃ Gl : State → Prop, (∀ t, Gl t → Steps p.tables e below (s₁.setTop (entryFrame m #[(.int p1)] maxLocals)) t) ∧ ∀ t, own_S p e below s₁ (mkF m 0 #[.val (.int p1), .unset, .unset, .unset, .unset, .unset] []) t → Gl t := ⟨fun t => Steps p.tables e below (s₁.setTop (entryFrame m #[(.int p1)] maxLocals)) t, fun _ k => k, fun t k => castTop (ef_rm0 m p1) k⟩
  obtain ⟨cK, one, hat⟩ := Cond.lambdaSite_spec (hw _ (List.mem_of_getElem? (i := 89) rfl))
  have kn1 : ∀ t, own_S p e below s₁ (mkF m 4 #[.val (.int p1), .val (.int (p1 &&& (3 : Int32))), .unset, .unset, .unset, .unset] []) t → Gl t := fun t kt => kn0 t (by
    show own_S p e below s₁ (mkF m 0 #[.val (.int p1), .unset, .unset, .unset, .unset, .unset] []) _
    refine XS.iloadN X0.here hx rfl (hb hby at_0) rfl ?_
    show own_S p e below s₁ (mkF m 1 #[.val (.int p1), .unset, .unset, .unset, .unset, .unset] [(.int p1)]) _
    refine XS.iconst X0.here hx rfl (hb hby at_1) ?_
    show own_S p e below s₁ (mkF m 2 #[.val (.int p1), .unset, .unset, .unset, .unset, .unset] [(.int (3 : Int32)), (.int p1)]) _
    refine XS.iand X0.here hx rfl (hb hby at_2) rfl ?_
    show own_S p e below s₁ (mkF m 3 #[.val (.int p1), .unset, .unset, .unset, .unset, .unset] [(.int (p1 &&& (3 : Int32)))]) _
    refine XS.istoreN X0.here hx rfl (hb hby at_3) rfl (l' := #[.val (.int p1), .val (.int (p1 &&& (3 : Int32))), .unset, .unset, .unset, .unset]) rfl ?_
    exact kt)
  obtain ⟨_, _, ⟨T2, L2, cc2, ss2⟩, -, X2, ⟨Lc2, hQ2, l2, y2, z2⟩, st2⟩ := Jvm.LawKit.callS X0 hx (y := (⟨"com/example/caddis/caddis/StatementSet", "empty", "()Lcom/example/caddis/caddis/StatementSet;"⟩ : MethodName)) hown (mvT hZ (hw _ (List.mem_of_getElem? (i := 0) rfl))) (mvT hZ (hw _ (List.mem_of_getElem? (i := 1) rfl))) (mvT hZ (hw _ (List.mem_of_getElem? (i := 2) rfl))) (mvT hZ (hw _ (List.mem_of_getElem? (i := 3) rfl))) (by decide) (backOf (W := 0) (rm1 l Z a0 hw []  gL h0 n0 Z0 O0 S_L) hZ (hw _ (List.mem_of_getElem? (i := 3) rfl)) (hw _ (List.mem_of_getElem? (i := 2) rfl)) (by decide) (by decide)) (g := (mkF m 4 #[.val (.int p1), .val (.int (p1 &&& (3 : Int32))), .unset, .unset, .unset, .unset] [])) rfl (by rw [hml]; rfl) (argsL := []) (rest := []) (lenOf pd_21 rfl) rfl (by show 2 * 0 + _ ≤ _; exact Nat.le_of_eq rfl) (hb hby at_4) (fun _ _ => ⟨rfl, e0, (by decide : 0 + 1 ≤ _), (by decide : 0 + 2 ≤ _)⟩)
  dsimp only [Pt.U, Pt.locs, Pt.cells, Pt.slots] at X2 l2 y2 z2 st2 hQ2
  subst l2 y2 z2
  have X2 : Stand p l e _ _ m _ below meth c T2 _ 1 2 := X2
  obtain ⟨b2, rfl, Nq2, g_b2, sb2, K2, Ex2_b2, Fx2_b2_0, Fx2_b2_1⟩ := hQ2
  have Nf2 := Fr.app Nf0 Nq2
  have Z3 : n0 ≤ T2.heap.size := Nat.le_trans Z0 K2.1
  have Od4 : Old Z n0 T2.heap := O0.keep K2 all0
  have kn5 : ∀ t, own_S p e below T2 (mkF m 7 #[.val (.int p1), .val (.int (p1 &&& (3 : Int32))), .unset, .unset, .unset, .unset] [(.ref b2)]) t → Gl t := fun t kt => kn1 t (st2 _ kt)
  have kn6 : ∀ t, own_S p e below T2 (mkF m 9 #[.val (.int p1), .val (.int (p1 &&& (3 : Int32))), .val (.ref b2), .unset, .unset, .unset] [(.ref b2)]) t → Gl t := fun t kt => kn5 t (by
    show own_S p e below T2 (mkF m 7 #[.val (.int p1), .val (.int (p1 &&& (3 : Int32))), .unset, .unset, .unset, .unset] [(.ref b2)]) _
    refine XS.astoreN X2.here hx rfl (hb hby at_7) rfl rfl (l' := #[.val (.int p1), .val (.int (p1 &&& (3 : Int32))), .val (.ref b2), .unset, .unset, .unset]) rfl ?_
    show own_S p e below T2 (mkF m 8 #[.val (.int p1), .val (.int (p1 &&& (3 : Int32))), .val (.ref b2), .unset, .unset, .unset] []) _
    refine XS.aloadN X2.here hx rfl (hb hby at_8) rfl rfl ?_
    exact kt)
  obtain ⟨cq7, kq7, qa7, qb7, qc7⟩ := isOf hZ rfl Ex2_b2
  obtain ⟨_, _, ⟨T7, L7, cc7, ss7⟩, -, X7, ⟨Lc7, hQ7, l7, y7, z7⟩, st7⟩ := X2.virtualBack hx (y := (⟨"com/example/caddis/caddis/StatementSet", "cursor", "()Lcom/example/caddis/caddis/StatementSet$Cursor;"⟩ : MethodName)) (z := (⟨"com/example/caddis/caddis/StatementSet", "cursor", "()Lcom/example/caddis/caddis/StatementSet$Cursor;"⟩ : MethodName)) hown (mvT hZ (hw _ (List.mem_of_getElem? (i := 22) rfl))) (mvT hZ (hw _ (List.mem_of_getElem? (i := 23) rfl))) (notFace_of_selects (args := #[]) (mvT hZ (hw _ (List.mem_of_getElem? (i := 25) rfl)))) (mvT hZ (hw _ (List.mem_of_getElem? (i := 25) rfl))) (mvT hZ (hw _ (List.mem_of_getElem? (i := 24) rfl))) (by decide) (own_backW (W := 0) (rm5 l Z a0 hw [] b2 gL gE kE gD kD cK one T2.heap n0 Z3 Od4 Ex2_b2 Fx2_b2_0 Fx2_b2_1 E_L F_L A_E S_D A_D hat) hZ hWH (hw _ (List.mem_of_getElem? (i := 26) rfl)) (hw _ (List.mem_of_getElem? (i := 2) rfl)) (by decide) (by decide)) qa7 qc7 (g := (mkF m 9 #[.val (.int p1), .val (.int (p1 &&& (3 : Int32))), .val (.ref b2), .unset, .unset, .unset] [(.ref b2)])) rfl (by rw [hml]; rfl) (Steps.refl _) (argsL := []) (rest := []) (lenOf pd_19 rfl) rfl (by show 2 * 0 + _ ≤ _; exact Nat.le_of_eq rfl) (hb hby at_9) (fun _ _ => ⟨rfl, rfl, (by decide : 1 + 9 ≤ _), (by decide : 2 + 43 ≤ _)⟩)
  dsimp only [Pt.U, Pt.locs, Pt.cells, Pt.slots] at X7 l7 y7 z7 st7 hQ7
  subst l7 y7 z7
  have X7 : Stand p l e _ _ m _ below meth c T7 _ 10 45 := X7
  obtain ⟨b7, q7, rfl, Nq7, g_b7, K7, Ex7_b, Fx7_b_0, Fx7_b_1, Ex7_q, Fx7_q_0⟩ := hQ7
  have Nf7 := Fr.app Nf2 Nq7
  have Z8 : n0 ≤ T7.heap.size := Nat.le_trans Z3 K7.1
  have Od9 : Old Z n0 T7.heap := Od4.keep K7 all0
  have kn10 : ∀ t, own_S p e below T7 (mkF m 12 #[.val (.int p1), .val (.int (p1 &&& (3 : Int32))), .val (.ref b2), .unset, .unset, .unset] [(.ref b7)]) t → Gl t := fun t kt => kn6 t (st7.trans kt)
  have kn11 : ∀ t, own_S p e below T7 (mkF m 14 #[.val (.int p1), .val (.int (p1 &&& (3 : Int32))), .val (.ref b2), .val (.ref b7), .unset, .unset] [(.ref b7)]) t → Gl t := fun t kt => kn10 t (by
    show own_S p e below T7 (mkF m 12 #[.val (.int p1), .val (.int (p1 &&& (3 : Int32))), .val (.ref b2), .unset, .unset, .unset] [(.ref b7)]) _
    refine XS.astoreN X7.here hx rfl (hb hby at_12) rfl rfl (l' := #[.val (.int p1), .val (.int (p1 &&& (3 : Int32))), .val (.ref b2), .val (.ref b7), .unset, .unset]) rfl ?_
    show own_S p e below T7 (mkF m 13 #[.val (.int p1), .val (.int (p1 &&& (3 : Int32))), .val (.ref b2), .val (.ref b7), .unset, .unset] []) _
    refine XS.aloadN X7.here hx rfl (hb hby at_13) rfl rfl ?_
    exact kt)
  obtain ⟨cq12, kq12, qa12, qb12, qc12⟩ := isOf hZ rfl Ex7_b
  obtain ⟨_, _, ⟨T12, L12, cc12, ss12⟩, -, X12, ⟨Lc12, hQ12, l12, y12, z12⟩, st12⟩ := X7.interfaceBack hx (xi := (⟨"com/example/caddis/caddis/StatementSet$Cursor", "next", "()Ljava/lang/String;"⟩ : MethodName)) (y := (⟨"com/example/caddis/caddis/StatementSet$Union", "next", "()Ljava/lang/String;"⟩ : MethodName)) hown (mvT hZ (hw _ (List.mem_of_getElem? (i := 222) rfl))) (mvT hZ (hw _ (List.mem_of_getElem? (i := 209) rfl))) (mvT hZ (hw _ (List.mem_of_getElem? (i := 210) rfl))) (mvT hZ (hw _ (List.mem_of_getElem? (i := 223) rfl))) (mvT hZ (hw _ (List.mem_of_getElem? (i := 224) rfl))) (mvT hZ (hw _ (List.mem_of_getElem? (i := 225) rfl))) (mvT hZ (hw _ (List.mem_of_getElem? (i := 226) rfl))) (mvT hZ (hw _ (List.mem_of_getElem? (i := 227) rfl))) (by decide) (backOf (W := 0) (rm30 l Z a0 hw [] b7 q7 T7.heap n0 Z8 Ex7_b Fx7_b_0 Fx7_b_1 Ex7_q Fx7_q_0) hZ (hw _ (List.mem_of_getElem? (i := 228) rfl)) (hw _ (List.mem_of_getElem? (i := 215) rfl)) (by decide) (by decide)) qa12 qb12 qc12 (g := (mkF m 14 #[.val (.int p1), .val (.int (p1 &&& (3 : Int32))), .val (.ref b2), .val (.ref b7), .unset, .unset] [(.ref b7)])) rfl (by rw [hml]; rfl) (Steps.refl _) (argsL := []) (rest := []) (lenOf pd_20 rfl) rfl (by show 2 * 0 + _ ≤ _; exact Nat.le_of_eq rfl) (hb hby at_14) (fun _ _ => ⟨rfl, rfl, (by decide : 10 + 0 ≤ _), (by decide : 45 + 0 ≤ _)⟩)
  dsimp only [Pt.U, Pt.locs, Pt.cells, Pt.slots] at X12 l12 y12 z12 st12 hQ12
  subst l12 y12 z12
  have X12 : Stand p l e _ _ m _ below meth c T12 _ 10 45 := X12
  obtain ⟨rfl, Nq12, eq12⟩ := hQ12
  have Nf12 := Fr.app Nf7 Nq12
  have kn13 : ∀ t, own_S p e below T12 (mkF m 19 #[.val (.int p1), .val (.int (p1 &&& (3 : Int32))), .val (.ref b2), .val (.ref b7), .unset, .unset] [.null]) t → Gl t := fun t kt => kn11 t (st12.trans kt)
  have f14 := (Ex2_b2.keep K7)
  have f15 := (Fx2_b2_0.keep K7 nin0)
  have f16 := (Fx2_b2_1.keep K7 nin0)
  have kn17 : ∀ t, own_S p e below T12 (mkF m 29 #[.val (.int p1), .val (.int (p1 &&& (3 : Int32))), .val (.ref b2), .val (.ref b7), .val (.int (1 : Int32)), .unset] []) t → Gl t := fun t kt => kn13 t (by
    show own_S p e below T12 (mkF m 19 #[.val (.int p1), .val (.int (p1 &&& (3 : Int32))), .val (.ref b2), .val (.ref b7), .unset, .unset] [.null]) _
    refine XS.ifnonnullNo X12.here hx rfl (hb hby at_19) rfl ?_
    show own_S p e below T12 (mkF m 22 #[.val (.int p1), .val (.int (p1 &&& (3 : Int32))), .val (.ref b2), .val (.ref b7), .unset, .unset] []) _
    refine XS.iconst X12.here hx rfl (hb hby at_22) ?_
    show own_S p e below T12 (mkF m 23 #[.val (.int p1), .val (.int (p1 &&& (3 : Int32))), .val (.ref b2), .val (.ref b7), .unset, .unset] [(.int (1 : Int32))]) _
    refine XS.goto X12.here hx rfl (pc0 := 23) (pc' := 27) rfl (hb hby at_23) (by decide) (by decide) ?_
    show own_S p e below T12 (mkF m 27 #[.val (.int p1), .val (.int (p1 &&& (3 : Int32))), .val (.ref b2), .val (.ref b7), .unset, .unset] [(.int (1 : Int32))]) _
    refine XS.istore X12.here hx rfl (hb hby at_27) rfl (l' := #[.val (.int p1), .val (.int (p1 &&& (3 : Int32))), .val (.ref b2), .val (.ref b7), .val (.int (1 : Int32)), .unset]) rfl ?_
    exact kt)
  obtain ⟨s2, o2, t1, t2, t3, t4⟩ := tl1 (n0 := n0) p1 gL gE kE gD kD cK one (p1 &&& (3 : Int32)) b2 b7 q7 X12 hx hZ hw hby hml hown Bd.returns (BodyLoose.notSynchronized Bd) eq12 Nf12 Z8 hWH hat Od9 S_L E_L F_L A_E S_D A_D f14 f15 f16 Ex7_b Fx7_b_0 Fx7_b_1 Ex7_q Fx7_q_0
  exact ⟨s2, o2, hGl _ (kn17 _ (t1)), t2, t3, t4⟩

set_option maxRecDepth 65536 in
set_option maxHeartbeats 40000000 in
theorem comes_1 {Post : Tables → Env → Array Value → State → Outcome → State → Prop} (hpost : ∀ tb e args s v u, (limb_1_1.after args s (.returned v) u = true ∧ limb_1_2.after args s (.returned v) u = true ∧ True) → ReturnedEndW s (.returned v) u (Jvm.fieldLocs frame_1_writes args s ++ Jvm.arrayLocs frame_1_arrays args s ++ Jvm.staticLocs frame_1_statics s) 48 256 → Post tb e args s (.returned v) u) :
    ArmFor flags0 classFile x code maxLocals ret World_1 tables_1 room_1 Calls_1 rest_1 Pre_1 Post := by
  intro l hfl _ _ p e ha hc hk s m args below hf hA hF happ hP
  obtain ⟨hcalls, hrest, hpre⟩ := hP
  obtain ⟨-, -, -, hnamed, -, -, -, hat⟩ := (Spec.applies_iff hf).mp happ
  obtain ⟨hg, hn⟩ := and_e (Cond.before_iff.mp (show (Jvm.Cond.and given_1 narrow_1).before args s = true from hpre))
  obtain ⟨gc, gr0⟩ := and_e hg
  obtain ⟨w0, rfl⟩ : ∃ w0 : Value, args = #[w0] := by
    have hs : args.size = 1 := by simpa [Cond.value, given_1] using gc
    obtain ⟨L⟩ := args
    match L, hs with
    | [w0], _ => exact ⟨w0, rfl⟩
  have hw := fun d (hd : d ∈ tables_1) => atoms_spec (ws := Jvm.Cond.code x code maxLocals ret :: tables_1) hat d (List.mem_cons_of_mem _ hd)
  have hfit : Fit s := fun {y c} hc i hi => by
    obtain ⟨ha, rfl⟩ := Array.getElem?_eq_some_iff.mp hc
    have q := List.all_eq_true.mp ((Array.all_eq_true_iff_forall_mem.mp hF) _ (Array.getElem_mem ha)) i (List.mem_range.mpr hi)
    simpa [Array.getElem?_eq_getElem hi] using q
  obtain ⟨hsets, hown0⟩ := atoms_of _ (rest_1_c_eq ▸ (show rest_1_c.before _ s = true from hrest))
  have hr0 := Cond.before_iff.mp hown0
  obtain ⟨i0, ei0⟩ := is_v gr0
  obtain rfl : w0 = (.int i0) := Option.some.inj ei0
  obtain ⟨gL, vL⟩ := exa_v (Cond.before_iff.mp (hsets _ (List.mem_of_getElem? (i := 2) rfl)))
  obtain ⟨gE, vE⟩ := arr_v (Cond.before_iff.mp (hsets _ (List.mem_of_getElem? (i := 3) rfl)))
  obtain ⟨cE, AE⟩ := Arr.start vE (Cond.before_iff.mp (hsets _ (List.mem_of_getElem? (i := 3) rfl)))
  obtain ⟨lE1, lE2⟩ := own_len AE vE (own_eqi (Cond.before_iff.mp (hsets _ (List.mem_of_getElem? (i := 5) rfl))))
  obtain ⟨gD, vD⟩ := arr_v (Cond.before_iff.mp (hsets _ (List.mem_of_getElem? (i := 13) rfl)))
  obtain ⟨cD, AD⟩ := Arr.start vD (Cond.before_iff.mp (hsets _ (List.mem_of_getElem? (i := 13) rfl)))
  obtain ⟨lD1, lD2⟩ := own_len AD vD (own_eqi (Cond.before_iff.mp (hsets _ (List.mem_of_getElem? (i := 15) rfl))))
  obtain ⟨n, o, h1, h2, h3, _, L, rfl, ⟨rfl, N⟩, hq⟩ := rm0 l s _ hw tables_1 i0 gL gE cE.cls gD cD.cls s.heap s.heap.size (Nat.le_refl _) (Old.start s) (Sta.start vL (Or.inl (hsets _ (List.mem_of_getElem? (i := 1) rfl)))) (Exa.start vL (Cond.before_iff.mp (hsets _ (List.mem_of_getElem? (i := 2) rfl)))) (Fld.start ((fld_at vL).symm.trans vE)) (Arv.start hfit AE lE1 lE2 (by decide) rfl trivial) (Sta.start vD (Or.inr ⟨(hw _ (List.mem_of_getElem? (i := 29) rfl)), (hsets _ (List.mem_of_getElem? (i := 9) rfl))⟩)) (Arv.start hfit AD lD1 lD2 (by decide) rfl trivial) p e ha hc hk s m _ below hf ((Spec.applies_iff_loose hf).mp happ).1 ⟨rfl, State.Warmed39.refl s, rfl, State.WarmedH.refl s⟩ trivial
  refine ⟨n, _, h1, h2, h3, hpost _ _ _ _ _ _ ⟨Cond.after_iff.mpr rfl, Cond.after_iff.mpr (eq_i res_at (Term.int_eval (1)) rfl), trivial⟩ ⟨hq.1, hq.2.1, hq.2.2.1, (hq.2.2.2.sift fun y hy => Or.inr (N y hy)).mono (by decide) (by decide)⟩⟩
theorem main_1_1 : Claimed_1_1 := comes_1 fun _ _ _ _ _ _ h hF => ⟨h.1, hF⟩
theorem main_1_2 : Claimed_1_2 := comes_1 fun _ _ _ _ _ _ h hF => ⟨h.2.1, hF⟩

end Jvm.Pilot.@@N@@
namespace Jvm.Pilot.@@N@@
open Jvm Jvm.ClassFile Sem Op Lib Jvm.Free Jvm.Stand Jvm.Pilot.@@N@@.Jvm.D
/-! MADE BY PROGRAM (witnessworld.py) out of the Statement's table words and the real class files: 37 classes; the members and pool entries that the words name. The judged class is class 1, her method 1. -/
namespace start1
open Jvm.ClassFile
def u (s : String) : CpInfo := .utf8 (stringToUtf16 s)
/-- a pool by its gaps: so many unusable entries, then the entry; so many at the end -/
def gap : Nat → List CpInfo → List CpInfo
  | 0, r => r
  | n + 1, r => .unusable :: gap n r
def poolList (es : List (Nat × CpInfo)) (last : Nat) : List CpInfo := es.foldr (fun e r => gap e.1 (e.2 :: r)) (gap last [])
def pool (es : List (Nat × CpInfo)) (last : Nat) : Array CpInfo := ⟨poolList es last⟩
def fileOf (pool : Array CpInfo) (this : Nat) (attrs : Array Attribute := #[]) (ms : Array MethodInfo := #[]) (fl : Nat := 33) (sup : Nat := 0) (ifs : Array Nat := #[]) (fds : Array FieldInfo := #[]) : ClassFile where
  minorVersion := 0
  majorVersion := 65
  constantPool := pool
  accessFlags := fl
  thisClass := this
  superClass := sup
  interfaces := ifs
  fields := fds
  methods := ms
  attributes := attrs
def plain (name : String) (sup : Option ClassId) : Class where
  name := name
  kind := .ordinary
  loader := none
  accessFlags := 33
  super := sup
  interfaces := #[]
  cf := none
  fields := #[]
  methods := #[]
  instanceTypes := #[]
  staticTypes := #[]
  resolved := #[]
  callSites := []
  init := .initialized
  statics := none
  mirror := none

def pool0 : Array CpInfo := pool [(5, u "<init>"), (0, u "()V"), (1, .class_ 10), (1, u "java/lang/Object")] 113

def k0c0 : Code := { maxStack := 0, maxLocals := 1, code := object_method_1_code, exceptionTable := #[], attributes := #[] }
def k0m0 : Method := { name := "<init>", desc := "()V", sig := { parameters := [], returnType := none }, accessFlags := 1, code := some k0c0 }
/-- java/lang/Object -/
def k0 : Class := { plain "java/lang/Object" none with
  accessFlags := 33
  interfaces := #[]
  cf := some (fileOf pool0 8 #[] #[{ accessFlags := 1, nameIndex := 5, descriptorIndex := 6, attributes := #[] }] 33 0 #[] #[])
  fields := #[]
  methods := #[k0m0]
  instanceTypes := #[]
  staticTypes := #[]
  resolved := Array.replicate 124 none
  statics := none }

def pool1 : Array CpInfo := pool [(2, .class_ 4), (1, u "java/lang/Object"), (0, u "<init>"), (0, u "()V"), (0, .methodref 8 9), (0, .class_ 10), (0, .nameAndType 11 12), (0, u "com/example/caddis/caddis/StatementSet"), (0, u "empty"), (0, u "()Lcom/example/caddis/caddis/StatementSet;"), (0, .methodref 8 14), (0, .nameAndType 15 16), (0, u "cursor"), (0, u "()Lcom/example/caddis/caddis/StatementSet$Cursor;"), (0, .interfaceMethodref 18 19), (0, .class_ 20), (0, .nameAndType 21 22), (0, u "com/example/caddis/caddis/StatementSet$Cursor"), (0, u "next"), (0, u "()Ljava/lang/String;"), (0, .methodref 8 24), (0, .nameAndType 25 6), (0, u "close"), (0, .class_ 27), (0, u "com/example/caddis/caddis/StatementSetEmptyPinLaw"), (2, u "law"), (0, u "(I)Z")] 8

def k1m0 : Method := { name := "<init>", desc := "()V", sig := { parameters := [], returnType := none }, accessFlags := 2, code := none }
def k1c1 : Code := { maxStack := 2, maxLocals := 6, code := code, exceptionTable := #[], attributes := #[] }
def k1m1 : Method := { name := "law", desc := "(I)Z", sig := { parameters := [.int], returnType := some .boolean }, accessFlags := 9, code := some k1c1 }
/-- com/example/caddis/caddis/StatementSetEmptyPinLaw -/
def k1 : Class := { plain "com/example/caddis/caddis/StatementSetEmptyPinLaw" (some 0) with
  accessFlags := 49
  interfaces := #[]
  cf := some (fileOf pool1 26 #[] #[{ accessFlags := 2, nameIndex := 5, descriptorIndex := 6, attributes := #[] }, { accessFlags := 9, nameIndex := 30, descriptorIndex := 31, attributes := #[] }] 49 2 #[] #[])
  fields := #[]
  methods := #[k1m0, k1m1]
  instanceTypes := #[]
  staticTypes := #[]
  resolved := Array.replicate 40 none
  statics := none }

def pool2 : Array CpInfo := pool [(1, .class_ 2), (0, u "java/lang/AutoCloseable"), (0, .class_ 4), (0, u "java/lang/Object")] 7

/-- java/lang/AutoCloseable -/
def k2 : Class := { plain "java/lang/AutoCloseable" (some 0) with
  accessFlags := 1537
  interfaces := #[]
  cf := some (fileOf pool2 1 #[] #[] 1537 3 #[] #[])
  fields := #[]
  methods := #[]
  instanceTypes := #[]
  staticTypes := #[]
  resolved := Array.replicate 12 none
  statics := none }

def pool3 : Array CpInfo := pool [(1, .class_ 2), (0, u "java/io/Closeable"), (0, .class_ 4), (0, u "java/lang/Object"), (0, .class_ 6), (0, u "java/lang/AutoCloseable"), (0, u "close"), (0, u "()V")] 5

def k3m0 : Method := { name := "close", desc := "()V", sig := { parameters := [], returnType := none }, accessFlags := 1025, code := none }
/-- java/io/Closeable -/
def k3 : Class := { plain "java/io/Closeable" (some 0) with
  accessFlags := 1537
  interfaces := #[2]
  cf := some (fileOf pool3 1 #[] #[{ accessFlags := 1025, nameIndex := 7, descriptorIndex := 8, attributes := #[] }] 1537 3 #[5] #[])
  fields := #[]
  methods := #[k3m0]
  instanceTypes := #[]
  staticTypes := #[]
  resolved := Array.replicate 14 none
  statics := none }

def pool4 : Array CpInfo := pool [(1, .methodref 2 3), (0, .class_ 4), (0, .nameAndType 5 6), (0, u "java/lang/Object"), (0, u "<init>"), (0, u "()V"), (0, .fieldref 8 9), (0, .class_ 10), (0, .nameAndType 11 12), (0, u "com/example/caddis/caddis/StatementSet"), (0, u "inMemory"), (0, u "Ljava/util/List;"), (0, .fieldref 8 14), (0, .nameAndType 15 12), (0, u "runs"), (0, .class_ 17), (0, u "com/example/caddis/caddis/StatementSet$Builder"), (16, u "()Lcom/example/caddis/caddis/StatementSet;"), (1, .nameAndType 37 6), (0, u "close"), (6, .interfaceMethodref 45 46), (0, .class_ 47), (0, .nameAndType 48 49), (0, u "java/util/List"), (0, u "of"), (0, u "()Ljava/util/List;"), (0, .methodref 8 51), (0, .nameAndType 5 52), (0, u "(Ljava/util/List;Ljava/util/List;)V"), (7, .class_ 61), (0, u "java/util/ArrayList"), (0, .methodref 60 3), (0, .methodref 8 64), (0, .nameAndType 65 66), (0, u "cursorOf"), (0, u "(Ljava/util/List;)Lcom/example/caddis/caddis/StatementSet$Cursor;"), (0, .interfaceMethodref 45 68), (0, .nameAndType 69 70), (0, u "add"), (0, u "(Ljava/lang/Object;)Z"), (0, .interfaceMethodref 45 72), (0, .nameAndType 73 74), (0, u "iterator"), (0, u "()Ljava/util/Iterator;"), (0, .interfaceMethodref 76 77), (0, .class_ 78), (0, .nameAndType 79 80), (0, u "java/util/Iterator"), (0, u "hasNext"), (0, u "()Z"), (0, .interfaceMethodref 76 82), (0, .nameAndType 83 84), (0, u "next"), (0, u "()Ljava/lang/Object;"), (6, .methodref 8 92), (0, .nameAndType 93 66), (0, u "union"), (0, .methodref 8 95), (0, .nameAndType 96 97), (0, u "closeAll"), (0, u "(Ljava/util/List;)V"), (24, .class_ 123), (0, u "java/util/PriorityQueue"), (0, .invokeDynamic 1 125), (0, .nameAndType 126 127), (0, u "compare"), (0, u "()Ljava/util/Comparator;"), (0, .methodref 122 129), (0, .nameAndType 5 130), (0, u "(Ljava/util/Comparator;)V"), (0, .class_ 132), (0, u "com/example/caddis/caddis/StatementSet$Cursor"), (0, .interfaceMethodref 131 134), (0, .nameAndType 83 135), (0, u "()Ljava/lang/String;"), (0, .class_ 137), (0, u "com/example/caddis/caddis/StatementSet$Head"), (4, .class_ 143), (0, u "com/example/caddis/caddis/StatementSet$Union"), (0, .methodref 142 145), (0, .nameAndType 5 146), (0, u "(Ljava/util/PriorityQueue;)V"), (0, .class_ 148), (0, u "com/example/caddis/caddis/StatementSet$Difference"), (80, .invokeDynamic 5 230), (0, .nameAndType 83 231), (0, u "(Ljava/util/Iterator;)Lcom/example/caddis/caddis/StatementSet$Cursor;"), (4, .class_ 237), (0, u "com/example/caddis/caddis/StatementSet$RunStream"), (18, .class_ 257), (0, u "java/io/Closeable"), (0, .interfaceMethodref 256 36), (16, u "CHARS_IN_MEMORY"), (0, u "J"), (1, u "RUNS_PER_MERGE"), (0, u "I"), (1, u "BUFFER_SIZE"), (14, u "empty"), (1, u "cursor"), (0, u "()Lcom/example/caddis/caddis/StatementSet$Cursor;"), (11, u "lambda$cursorOf$3"), (0, u "(Ljava/util/Iterator;)Ljava/lang/String;"), (2, u "lambda$union$1"), (0, u "(Lcom/example/caddis/caddis/StatementSet$Head;Lcom/example/caddis/caddis/StatementSet$Head;)I"), (11, .methodType 329), (0, u "(Ljava/lang/Object;Ljava/lang/Object;)I"), (0, .methodHandle 6 331), (0, .methodref 8 332), (0, .nameAndType 315 316), (0, .methodType 316), (6, .methodType 135), (3, .methodHandle 6 345), (0, .methodref 8 346), (0, .nameAndType 311 312), (4, .methodHandle 6 352), (0, .methodref 353 354), (0, .class_ 355), (0, .nameAndType 356 357), (0, u "java/lang/invoke/LambdaMetafactory"), (0, u "metafactory"), (0, u "(Ljava/lang/invoke/MethodHandles$Lookup;Ljava/lang/String;Ljava/lang/invoke/MethodType;Ljava/lang/invoke/MethodType;Ljava/lang/invoke/MethodHandle;Ljava/lang/invoke/MethodType;)Ljava/lang/invoke/CallSite;")] 18

def k4c0 : Code := { maxStack := 2, maxLocals := 3, code := prog_43_method_1_code, exceptionTable := #[], attributes := #[] }
def k4m0 : Method := { name := "<init>", desc := "(Ljava/util/List;Ljava/util/List;)V", sig := { parameters := [(.object "java/util/List"), (.object "java/util/List")], returnType := none }, accessFlags := 2, code := some k4c0 }
def k4c1 : Code := { maxStack := 4, maxLocals := 0, code := prog_43_method_3_code, exceptionTable := #[], attributes := #[] }
def k4m1 : Method := { name := "empty", desc := "()Lcom/example/caddis/caddis/StatementSet;", sig := { parameters := [], returnType := some (.object "com/example/caddis/caddis/StatementSet") }, accessFlags := 8, code := some k4c1 }
def k4c2 : Code := { maxStack := 2, maxLocals := 4, code := prog_43_method_5_code, exceptionTable := #[], attributes := #[] }
def k4m2 : Method := { name := "cursor", desc := "()Lcom/example/caddis/caddis/StatementSet$Cursor;", sig := { parameters := [], returnType := some (.object "com/example/caddis/caddis/StatementSet$Cursor") }, accessFlags := 0, code := some k4c2 }
def k4c3 : Code := { maxStack := 1, maxLocals := 1, code := prog_43_method_6_code, exceptionTable := #[], attributes := #[] }
def k4m3 : Method := { name := "close", desc := "()V", sig := { parameters := [], returnType := none }, accessFlags := 1, code := some k4c3 }
def k4c4 : Code := { maxStack := 5, maxLocals := 5, code := prog_43_method_9_code, exceptionTable := #[], attributes := #[] }
def k4m4 : Method := { name := "union", desc := "(Ljava/util/List;)Lcom/example/caddis/caddis/StatementSet$Cursor;", sig := { parameters := [(.object "java/util/List")], returnType := some (.object "com/example/caddis/caddis/StatementSet$Cursor") }, accessFlags := 8, code := some k4c4 }
def k4c5 : Code := { maxStack := 1, maxLocals := 2, code := prog_43_method_17_code, exceptionTable := #[], attributes := #[] }
def k4m5 : Method := { name := "cursorOf", desc := "(Ljava/util/List;)Lcom/example/caddis/caddis/StatementSet$Cursor;", sig := { parameters := [(.object "java/util/List")], returnType := some (.object "com/example/caddis/caddis/StatementSet$Cursor") }, accessFlags := 10, code := some k4c5 }
def k4c6 : Code := { maxStack := 1, maxLocals := 5, code := prog_43_method_19_code, exceptionTable := #[{ startPc := 28, endPc := 34, handlerPc := 37, catchType := 224 }], attributes := #[] }
def k4m6 : Method := { name := "closeAll", desc := "(Ljava/util/List;)V", sig := { parameters := [(.object "java/util/List")], returnType := none }, accessFlags := 8, code := some k4c6 }
def k4c7 : Code := { maxStack := 1, maxLocals := 2, code := prog_43_method_20_code, exceptionTable := #[], attributes := #[] }
def k4m7 : Method := { name := "lambda$cursorOf$3", desc := "(Ljava/util/Iterator;)Ljava/lang/String;", sig := { parameters := [(.object "java/util/Iterator")], returnType := some (.object "java/lang/String") }, accessFlags := 4106, code := some k4c7 }
def k4c8 : Code := { maxStack := 2, maxLocals := 2, code := ⟨#[0x2a, 0xb4, 0x01, 0x0a, 0x2b, 0xb4, 0x01, 0x0a, 0xb8, 0x01, 0x07, 0xac]⟩, exceptionTable := #[], attributes := #[] }
def k4m8 : Method := { name := "lambda$union$1", desc := "(Lcom/example/caddis/caddis/StatementSet$Head;Lcom/example/caddis/caddis/StatementSet$Head;)I", sig := { parameters := [(.object "com/example/caddis/caddis/StatementSet$Head"), (.object "com/example/caddis/caddis/StatementSet$Head")], returnType := some .int }, accessFlags := 4106, code := some k4c8 }
/-- com/example/caddis/caddis/StatementSet -/
def k4 : Class := { plain "com/example/caddis/caddis/StatementSet" (some 0) with
  accessFlags := 48
  interfaces := #[3]
  cf := some (fileOf pool4 8 #[.nestMembers #[236, 147, 142, 136, 16, 131], .bootstrapMethods #[⟨0, #[]⟩, ⟨351, #[328, 330, 333]⟩, ⟨0, #[]⟩, ⟨0, #[]⟩, ⟨0, #[]⟩, ⟨351, #[340, 344, 340]⟩, ⟨0, #[]⟩]] #[{ accessFlags := 2, nameIndex := 5, descriptorIndex := 52, attributes := #[] }, { accessFlags := 8, nameIndex := 296, descriptorIndex := 34, attributes := #[] }, { accessFlags := 0, nameIndex := 298, descriptorIndex := 299, attributes := #[] }, { accessFlags := 1, nameIndex := 37, descriptorIndex := 6, attributes := #[] }, { accessFlags := 8, nameIndex := 93, descriptorIndex := 66, attributes := #[] }, { accessFlags := 10, nameIndex := 65, descriptorIndex := 66, attributes := #[] }, { accessFlags := 8, nameIndex := 96, descriptorIndex := 97, attributes := #[] }, { accessFlags := 4106, nameIndex := 311, descriptorIndex := 312, attributes := #[] }, { accessFlags := 4106, nameIndex := 315, descriptorIndex := 316, attributes := #[] }] 48 2 #[256] #[{ accessFlags := 24, nameIndex := 275, descriptorIndex := 276, attributes := #[] }, { accessFlags := 26, nameIndex := 278, descriptorIndex := 279, attributes := #[] }, { accessFlags := 26, nameIndex := 281, descriptorIndex := 279, attributes := #[] }, { accessFlags := 18, nameIndex := 11, descriptorIndex := 12, attributes := #[] }, { accessFlags := 18, nameIndex := 15, descriptorIndex := 12, attributes := #[] }])
  fields := #[{ name := "CHARS_IN_MEMORY", type := .long, accessFlags := 24, slot := 0, constantValue := 0 }, { name := "RUNS_PER_MERGE", type := .int, accessFlags := 26, slot := 1, constantValue := 0 }, { name := "BUFFER_SIZE", type := .int, accessFlags := 26, slot := 2, constantValue := 0 }, { name := "inMemory", type := (.object "java/util/List"), accessFlags := 18, slot := 0, constantValue := 0 }, { name := "runs", type := (.object "java/util/List"), accessFlags := 18, slot := 1, constantValue := 0 }]
  methods := #[k4m0, k4m1, k4m2, k4m3, k4m4, k4m5, k4m6, k4m7, k4m8]
  instanceTypes := #[(.object "java/util/List"), (.object "java/util/List")]
  staticTypes := #[.long, .int, .int]
  resolved := ((Array.replicate 376 none).set! 142 (some (.cls 29))).set! 144 (some (.method ⟨29, 0⟩))
  callSites := [(5, 8, .makes 35), (4, 4, .constant 2)]
  statics := none }

def pool5 : Array CpInfo := pool [(8, .class_ 10), (1, u "java/lang/Iterable"), (24, .class_ 36), (0, u "java/lang/Object")] 25

/-- java/lang/Iterable -/
def k5 : Class := { plain "java/lang/Iterable" (some 0) with
  accessFlags := 1537
  interfaces := #[]
  cf := some (fileOf pool5 8 #[] #[] 1537 35 #[] #[])
  fields := #[]
  methods := #[]
  instanceTypes := #[]
  staticTypes := #[]
  resolved := Array.replicate 62 none
  statics := none }

def pool6 : Array CpInfo := pool [(10, .class_ 12), (1, u "java/util/Collection"), (47, .class_ 61), (0, u "java/lang/Object"), (0, .class_ 63), (0, u "java/lang/Iterable")] 51

/-- java/util/Collection -/
def k6 : Class := { plain "java/util/Collection" (some 0) with
  accessFlags := 1537
  interfaces := #[5]
  cf := some (fileOf pool6 10 #[] #[] 1537 60 #[62] #[])
  fields := #[]
  methods := #[]
  instanceTypes := #[]
  staticTypes := #[]
  resolved := Array.replicate 115 none
  statics := none }

def pool7 : Array CpInfo := pool [(8, .class_ 10), (1, u "java/util/SequencedCollection"), (15, .class_ 27), (0, u "java/lang/Object"), (0, .class_ 29), (0, u "java/util/Collection")] 27

/-- java/util/SequencedCollection -/
def k7 : Class := { plain "java/util/SequencedCollection" (some 0) with
  accessFlags := 1537
  interfaces := #[6]
  cf := some (fileOf pool7 8 #[] #[] 1537 26 #[28] #[])
  fields := #[]
  methods := #[]
  instanceTypes := #[]
  staticTypes := #[]
  resolved := Array.replicate 57 none
  statics := none }

def pool8 : Array CpInfo := pool [(8, .class_ 10), (1, u "java/util/List"), (49, u "add"), (3, u "(Ljava/lang/Object;)Z"), (23, u "of"), (1, .fieldref 91 92), (0, .class_ 93), (0, .nameAndType 94 95), (0, u "java/util/ImmutableCollections"), (0, u "EMPTY_LIST"), (0, u "Ljava/util/ImmutableCollections$ListN;"), (7, .class_ 104), (0, u "java/lang/Object"), (14, u "()Ljava/util/List;"), (0, .class_ 121), (0, u "java/util/SequencedCollection"), (1, u "iterator"), (0, u "()Ljava/util/Iterator;")] 126

def k8m0 : Method := { name := "iterator", desc := "()Ljava/util/Iterator;", sig := { parameters := [], returnType := some (.object "java/util/Iterator") }, accessFlags := 1025, code := none }
def k8m1 : Method := { name := "add", desc := "(Ljava/lang/Object;)Z", sig := { parameters := [(.object "java/lang/Object")], returnType := some .boolean }, accessFlags := 1025, code := none }
def k8c2 : Code := { maxStack := 1, maxLocals := 0, code := jdk_40_method_36_code, exceptionTable := #[], attributes := #[] }
def k8m2 : Method := { name := "of", desc := "()Ljava/util/List;", sig := { parameters := [], returnType := some (.object "java/util/List") }, accessFlags := 9, code := some k8c2 }
/-- java/util/List -/
def k8 : Class := { plain "java/util/List" (some 0) with
  accessFlags := 1537
  interfaces := #[7]
  cf := some (fileOf pool8 8 #[] #[{ accessFlags := 1025, nameIndex := 123, descriptorIndex := 124, attributes := #[] }, { accessFlags := 1025, nameIndex := 60, descriptorIndex := 64, attributes := #[] }, { accessFlags := 9, nameIndex := 88, descriptorIndex := 119, attributes := #[] }] 1537 103 #[120] #[])
  fields := #[]
  methods := #[k8m0, k8m1, k8m2]
  instanceTypes := #[]
  staticTypes := #[]
  resolved := Array.replicate 251 none
  statics := none }

def pool9 : Array CpInfo := pool [(2, .class_ 4), (1, u "java/lang/Object"), (0, u "<init>"), (0, u "()V"), (3, .class_ 11), (0, u "java/util/ImmutableCollections$List12"), (0, .class_ 13), (0, u "java/util/ImmutableCollections$ListN"), (3, u "Z"), (29, .class_ 49), (1, u "java/util/ImmutableCollections"), (0, u "$assertionsDisabled"), (5, u "[Ljava/lang/Object;"), (5, u "EMPTY_LIST"), (0, u "Ljava/util/ImmutableCollections$ListN;"), (8, u "EMPTY_LIST_NULLS"), (22, u "SALT32L"), (0, u "J"), (2, u "REVERSE"), (6, u "archivedObjects"), (2, u "EMPTY"), (0, u "Ljava/lang/Object;"), (0, .class_ 112), (0, u "java/util/ImmutableCollections$SetN"), (5, u "EMPTY_SET"), (0, u "Ljava/util/ImmutableCollections$SetN;"), (0, .class_ 121), (0, u "java/util/ImmutableCollections$MapN"), (3, u "EMPTY_MAP"), (0, u "Ljava/util/ImmutableCollections$MapN;"), (4, u "EXPAND_FACTOR"), (0, u "I"), (36, .class_ 170), (0, u "java/util/ImmutableCollections$MapN$MapNIterator"), (0, .class_ 172), (0, u "java/util/ImmutableCollections$MapN$1"), (0, .class_ 174), (0, u "java/util/ImmutableCollections$Map1"), (0, .class_ 176), (0, u "java/util/ImmutableCollections$AbstractImmutableMap"), (0, .class_ 178), (0, u "java/util/ImmutableCollections$SetN$SetNIterator"), (0, .class_ 180), (0, u "java/util/ImmutableCollections$Set12"), (0, .class_ 182), (0, u "java/util/ImmutableCollections$Set12$1"), (0, .class_ 184), (0, u "java/util/ImmutableCollections$AbstractImmutableSet"), (0, .class_ 186), (0, u "java/util/ImmutableCollections$SubList"), (0, .class_ 188), (0, u "java/util/ImmutableCollections$ListItr"), (0, .class_ 190), (0, u "java/util/ImmutableCollections$AbstractImmutableList"), (0, .class_ 192), (0, u "java/util/ImmutableCollections$AbstractImmutableCollection"), (0, .class_ 194), (0, u "java/util/ImmutableCollections$Access"), (0, .class_ 196), (0, u "java/util/ImmutableCollections$Access$1")] 16

def k9m0 : Method := { name := "<init>", desc := "()V", sig := { parameters := [], returnType := none }, accessFlags := 2, code := none }
/-- java/util/ImmutableCollections -/
def k9 : Class := { plain "java/util/ImmutableCollections" (some 0) with
  accessFlags := 32
  interfaces := #[]
  cf := some (fileOf pool9 47 #[.nestMembers #[120, 169, 171, 173, 175, 111, 177, 179, 181, 183, 12, 10, 185, 187, 189, 191, 193, 195]] #[{ accessFlags := 2, nameIndex := 5, descriptorIndex := 6, attributes := #[] }] 32 2 #[] #[{ accessFlags := 26, nameIndex := 95, descriptorIndex := 96, attributes := #[] }, { accessFlags := 26, nameIndex := 99, descriptorIndex := 17, attributes := #[] }, { accessFlags := 10, nameIndex := 106, descriptorIndex := 56, attributes := #[] }, { accessFlags := 26, nameIndex := 109, descriptorIndex := 110, attributes := #[] }, { accessFlags := 24, nameIndex := 62, descriptorIndex := 63, attributes := #[] }, { accessFlags := 24, nameIndex := 72, descriptorIndex := 63, attributes := #[] }, { accessFlags := 24, nameIndex := 118, descriptorIndex := 119, attributes := #[] }, { accessFlags := 24, nameIndex := 125, descriptorIndex := 126, attributes := #[] }, { accessFlags := 24, nameIndex := 131, descriptorIndex := 132, attributes := #[] }, { accessFlags := 4120, nameIndex := 50, descriptorIndex := 17, attributes := #[] }])
  fields := #[{ name := "SALT32L", type := .long, accessFlags := 26, slot := 0, constantValue := 0 }, { name := "REVERSE", type := .boolean, accessFlags := 26, slot := 1, constantValue := 0 }, { name := "archivedObjects", type := (.array (.object "java/lang/Object")), accessFlags := 10, slot := 2, constantValue := 0 }, { name := "EMPTY", type := (.object "java/lang/Object"), accessFlags := 26, slot := 3, constantValue := 0 }, { name := "EMPTY_LIST", type := (.object "java/util/ImmutableCollections$ListN"), accessFlags := 24, slot := 4, constantValue := 0 }, { name := "EMPTY_LIST_NULLS", type := (.object "java/util/ImmutableCollections$ListN"), accessFlags := 24, slot := 5, constantValue := 0 }, { name := "EMPTY_SET", type := (.object "java/util/ImmutableCollections$SetN"), accessFlags := 24, slot := 6, constantValue := 0 }, { name := "EMPTY_MAP", type := (.object "java/util/ImmutableCollections$MapN"), accessFlags := 24, slot := 7, constantValue := 0 }, { name := "EXPAND_FACTOR", type := .int, accessFlags := 24, slot := 8, constantValue := 0 }, { name := "$assertionsDisabled", type := .boolean, accessFlags := 4120, slot := 9, constantValue := 0 }]
  methods := #[k9m0]
  instanceTypes := #[]
  staticTypes := #[.long, .boolean, (.array (.object "java/lang/Object")), (.object "java/lang/Object"), (.object "java/util/ImmutableCollections$ListN"), (.object "java/util/ImmutableCollections$ListN"), (.object "java/util/ImmutableCollections$SetN"), (.object "java/util/ImmutableCollections$MapN"), .int, .boolean]
  resolved := Array.replicate 213 none
  statics := some 0 }

def pool10 : Array CpInfo := pool [(1, .methodref 2 3), (0, .class_ 4), (0, .nameAndType 5 6), (0, u "java/lang/Object"), (0, u "<init>"), (0, u "()V"), (0, .methodref 8 9), (0, .class_ 10), (0, .nameAndType 11 12), (0, u "java/util/AbstractCollection"), (0, u "size"), (0, u "()I"), (9, u "()Z"), (54, .class_ 78), (0, u "java/util/Collection"), (40, u "isEmpty")] 40

def k10c0 : Code := { maxStack := 1, maxLocals := 1, code := jdk_22_method_1_code, exceptionTable := #[], attributes := #[] }
def k10m0 : Method := { name := "<init>", desc := "()V", sig := { parameters := [], returnType := none }, accessFlags := 4, code := some k10c0 }
def k10m1 : Method := { name := "size", desc := "()I", sig := { parameters := [], returnType := some .int }, accessFlags := 1025, code := none }
def k10c2 : Code := { maxStack := 1, maxLocals := 1, code := jdk_22_method_4_code, exceptionTable := #[], attributes := #[] }
def k10m2 : Method := { name := "isEmpty", desc := "()Z", sig := { parameters := [], returnType := some .boolean }, accessFlags := 1, code := some k10c2 }
/-- java/util/AbstractCollection -/
def k10 : Class := { plain "java/util/AbstractCollection" (some 0) with
  accessFlags := 1057
  interfaces := #[6]
  cf := some (fileOf pool10 8 #[] #[{ accessFlags := 4, nameIndex := 5, descriptorIndex := 6, attributes := #[] }, { accessFlags := 1025, nameIndex := 11, descriptorIndex := 12, attributes := #[] }, { accessFlags := 1, nameIndex := 119, descriptorIndex := 22, attributes := #[] }] 1057 2 #[77] #[])
  fields := #[]
  methods := #[k10m0, k10m1, k10m2]
  instanceTypes := #[]
  staticTypes := #[]
  resolved := Array.replicate 160 none
  statics := none }

def pool11 : Array CpInfo := pool [(1, .methodref 2 3), (0, .class_ 4), (0, .nameAndType 5 6), (0, u "java/util/AbstractCollection"), (0, u "<init>"), (0, u "()V"), (0, .fieldref 8 9), (0, .class_ 10), (0, .nameAndType 11 12), (0, u "java/util/AbstractList"), (0, u "modCount"), (0, u "I"), (64, .class_ 78), (0, u "java/util/AbstractList$Itr"), (3, .class_ 83), (0, u "java/util/AbstractList$ListItr"), (9, .class_ 94), (0, u "java/util/AbstractList$RandomAccessSubList"), (3, .class_ 99), (0, u "java/util/AbstractList$SubList"), (33, .class_ 134), (0, u "java/util/List"), (73, .class_ 209), (0, u "java/util/AbstractList$SubList$1"), (0, .class_ 211), (0, u "java/util/AbstractList$RandomAccessSpliterator")] 6

def k11c0 : Code := { maxStack := 2, maxLocals := 1, code := jdk_39_method_1_code, exceptionTable := #[], attributes := #[] }
def k11m0 : Method := { name := "<init>", desc := "()V", sig := { parameters := [], returnType := none }, accessFlags := 4, code := some k11c0 }
/-- java/util/AbstractList -/
def k11 : Class := { plain "java/util/AbstractList" (some 10) with
  accessFlags := 1057
  interfaces := #[8]
  cf := some (fileOf pool11 8 #[.nestMembers #[93, 98, 208, 210, 82, 77]] #[{ accessFlags := 4, nameIndex := 5, descriptorIndex := 6, attributes := #[] }] 1057 2 #[133] #[{ accessFlags := 132, nameIndex := 11, descriptorIndex := 12, attributes := #[] }])
  fields := #[{ name := "modCount", type := .int, accessFlags := 132, slot := 0, constantValue := 0 }]
  methods := #[k11m0]
  instanceTypes := #[.int]
  staticTypes := #[]
  resolved := Array.replicate 218 none
  statics := none }

def pool12 : Array CpInfo := pool [(1, .class_ 2), (0, u "java/util/RandomAccess"), (0, .class_ 4), (0, u "java/lang/Object")] 2

/-- java/util/RandomAccess -/
def k12 : Class := { plain "java/util/RandomAccess" (some 0) with
  accessFlags := 1537
  interfaces := #[]
  cf := some (fileOf pool12 1 #[] #[] 1537 3 #[] #[])
  fields := #[]
  methods := #[]
  instanceTypes := #[]
  staticTypes := #[]
  resolved := Array.replicate 7 none
  statics := none }

def pool13 : Array CpInfo := pool [(1, .class_ 2), (0, u "java/lang/Cloneable"), (0, .class_ 4), (0, u "java/lang/Object")] 2

/-- java/lang/Cloneable -/
def k13 : Class := { plain "java/lang/Cloneable" (some 0) with
  accessFlags := 1537
  interfaces := #[]
  cf := some (fileOf pool13 1 #[] #[] 1537 3 #[] #[])
  fields := #[]
  methods := #[]
  instanceTypes := #[]
  staticTypes := #[]
  resolved := Array.replicate 7 none
  statics := none }

def pool14 : Array CpInfo := pool [(1, .class_ 2), (0, u "java/io/Serializable"), (0, .class_ 4), (0, u "java/lang/Object")] 2

/-- java/io/Serializable -/
def k14 : Class := { plain "java/io/Serializable" (some 0) with
  accessFlags := 1537
  interfaces := #[]
  cf := some (fileOf pool14 1 #[] #[] 1537 3 #[] #[])
  fields := #[]
  methods := #[]
  instanceTypes := #[]
  staticTypes := #[]
  resolved := Array.replicate 7 none
  statics := none }

def pool15 : Array CpInfo := pool [(1, .methodref 2 3), (0, .class_ 4), (0, .nameAndType 5 6), (0, u "java/util/AbstractList"), (0, u "<init>"), (0, u "()V"), (0, .class_ 8), (0, u "java/lang/Object"), (0, .fieldref 10 11), (0, .class_ 12), (0, .nameAndType 13 14), (0, u "java/util/ArrayList"), (0, u "elementData"), (0, u "[Ljava/lang/Object;"), (2, u "EMPTY_ELEMENTDATA"), (21, .fieldref 10 40), (0, .nameAndType 41 14), (0, u "DEFAULTCAPACITY_EMPTY_ELEMENTDATA"), (5, u "()[Ljava/lang/Object;"), (0, .fieldref 10 49), (0, .nameAndType 50 51), (0, u "size"), (0, u "I"), (11, .fieldref 10 64), (0, .nameAndType 65 51), (0, u "modCount"), (3, .methodref 10 70), (0, .nameAndType 71 72), (0, u "grow"), (0, u "(I)[Ljava/lang/Object;"), (6, .methodref 80 81), (0, .class_ 82), (0, .nameAndType 83 84), (0, u "java/lang/Math"), (0, u "max"), (0, u "(II)I"), (11, u "(Ljava/lang/Object;)Z"), (32, .methodref 10 130), (0, .nameAndType 71 47), (0, .methodref 10 132), (0, .nameAndType 133 134), (0, u "add"), (0, u "(Ljava/lang/Object;[Ljava/lang/Object;I)V"), (13, .class_ 149), (0, u "java/util/List"), (16, u "iterator"), (0, u "()Ljava/util/Iterator;"), (94, .class_ 263), (0, u "java/util/ArrayList$ListItr"), (3, .class_ 268), (0, u "java/util/ArrayList$Itr"), (0, .methodref 267 270), (0, .nameAndType 5 271), (0, u "(Ljava/util/ArrayList;)V"), (4, .class_ 277), (0, u "java/util/ArrayList$SubList"), (12, .class_ 291), (0, u "java/util/ArrayList$ArrayListSpliterator"), (37, .class_ 330), (0, u "java/util/RandomAccess"), (0, .class_ 332), (0, u "java/lang/Cloneable"), (0, .class_ 334), (0, u "java/io/Serializable"), (0, u "serialVersionUID"), (0, u "J"), (3, u "DEFAULT_CAPACITY"), (159, .class_ 501), (0, u "java/util/ArrayList$SubList$2"), (0, .class_ 503), (0, u "java/util/ArrayList$SubList$1")] 5

def k15c0 : Code := { maxStack := 2, maxLocals := 1, code := jdk_38_method_2_code, exceptionTable := #[], attributes := #[] }
def k15m0 : Method := { name := "<init>", desc := "()V", sig := { parameters := [], returnType := none }, accessFlags := 1, code := some k15c0 }
def k15c1 : Code := { maxStack := 4, maxLocals := 4, code := jdk_38_method_6_code, exceptionTable := #[], attributes := #[] }
def k15m1 : Method := { name := "grow", desc := "(I)[Ljava/lang/Object;", sig := { parameters := [.int], returnType := some (.array (.object "java/lang/Object")) }, accessFlags := 2, code := some k15c1 }
def k15c2 : Code := { maxStack := 3, maxLocals := 1, code := jdk_38_method_7_code, exceptionTable := #[], attributes := #[] }
def k15m2 : Method := { name := "grow", desc := "()[Ljava/lang/Object;", sig := { parameters := [], returnType := some (.array (.object "java/lang/Object")) }, accessFlags := 2, code := some k15c2 }
def k15c3 : Code := { maxStack := 3, maxLocals := 4, code := jdk_38_method_24_code, exceptionTable := #[], attributes := #[] }
def k15m3 : Method := { name := "add", desc := "(Ljava/lang/Object;[Ljava/lang/Object;I)V", sig := { parameters := [(.object "java/lang/Object"), (.array (.object "java/lang/Object")), .int], returnType := none }, accessFlags := 2, code := some k15c3 }
def k15c4 : Code := { maxStack := 4, maxLocals := 2, code := jdk_38_method_25_code, exceptionTable := #[], attributes := #[] }
def k15m4 : Method := { name := "add", desc := "(Ljava/lang/Object;)Z", sig := { parameters := [(.object "java/lang/Object")], returnType := some .boolean }, accessFlags := 1, code := some k15c4 }
def k15c5 : Code := { maxStack := 3, maxLocals := 1, code := jdk_38_method_55_code, exceptionTable := #[], attributes := #[] }
def k15m5 : Method := { name := "iterator", desc := "()Ljava/util/Iterator;", sig := { parameters := [], returnType := some (.object "java/util/Iterator") }, accessFlags := 1, code := some k15c5 }
/-- java/util/ArrayList -/
def k15 : Class := { plain "java/util/ArrayList" (some 11) with
  accessFlags := 33
  interfaces := #[8, 12, 13, 14]
  cf := some (fileOf pool15 10 #[.nestMembers #[290, 276, 500, 502, 262, 267]] #[{ accessFlags := 1, nameIndex := 5, descriptorIndex := 6, attributes := #[] }, { accessFlags := 2, nameIndex := 71, descriptorIndex := 72, attributes := #[] }, { accessFlags := 2, nameIndex := 71, descriptorIndex := 47, attributes := #[] }, { accessFlags := 2, nameIndex := 133, descriptorIndex := 134, attributes := #[] }, { accessFlags := 1, nameIndex := 133, descriptorIndex := 96, attributes := #[] }, { accessFlags := 1, nameIndex := 166, descriptorIndex := 167, attributes := #[] }] 33 2 #[148, 329, 331, 333] #[{ accessFlags := 26, nameIndex := 335, descriptorIndex := 336, attributes := #[] }, { accessFlags := 26, nameIndex := 340, descriptorIndex := 51, attributes := #[] }, { accessFlags := 26, nameIndex := 17, descriptorIndex := 14, attributes := #[] }, { accessFlags := 26, nameIndex := 41, descriptorIndex := 14, attributes := #[] }, { accessFlags := 128, nameIndex := 13, descriptorIndex := 14, attributes := #[] }, { accessFlags := 2, nameIndex := 50, descriptorIndex := 51, attributes := #[] }])
  fields := #[{ name := "serialVersionUID", type := .long, accessFlags := 26, slot := 0, constantValue := 0 }, { name := "DEFAULT_CAPACITY", type := .int, accessFlags := 26, slot := 1, constantValue := 0 }, { name := "EMPTY_ELEMENTDATA", type := (.array (.object "java/lang/Object")), accessFlags := 26, slot := 2, constantValue := 0 }, { name := "DEFAULTCAPACITY_EMPTY_ELEMENTDATA", type := (.array (.object "java/lang/Object")), accessFlags := 26, slot := 3, constantValue := 0 }, { name := "elementData", type := (.array (.object "java/lang/Object")), accessFlags := 128, slot := 1, constantValue := 0 }, { name := "size", type := .int, accessFlags := 2, slot := 2, constantValue := 0 }]
  methods := #[k15m0, k15m1, k15m2, k15m3, k15m4, k15m5]
  instanceTypes := #[.int, (.array (.object "java/lang/Object")), .int]
  staticTypes := #[.long, .int, (.array (.object "java/lang/Object")), (.array (.object "java/lang/Object"))]
  resolved := Array.replicate 509 none
  statics := some 1 }

def pool16 : Array CpInfo := pool [(2, .class_ 4), (1, u "java/util/AbstractCollection"), (0, u "<init>"), (0, u "()V"), (1, .class_ 10), (1, u "java/util/ImmutableCollections"), (2, .class_ 14), (0, u "java/util/ImmutableCollections$AbstractImmutableCollection")] 41

def k16m0 : Method := { name := "<init>", desc := "()V", sig := { parameters := [], returnType := none }, accessFlags := 0, code := none }
/-- java/util/ImmutableCollections$AbstractImmutableCollection -/
def k16 : Class := { plain "java/util/ImmutableCollections$AbstractImmutableCollection" (some 10) with
  accessFlags := 1056
  interfaces := #[]
  cf := some (fileOf pool16 13 #[.nestHost 8] #[{ accessFlags := 0, nameIndex := 5, descriptorIndex := 6, attributes := #[] }] 1056 2 #[] #[])
  fields := #[]
  methods := #[k16m0]
  instanceTypes := #[]
  staticTypes := #[]
  resolved := Array.replicate 56 none
  statics := none }

def pool17 : Array CpInfo := pool [(2, .class_ 4), (1, u "java/util/ImmutableCollections$AbstractImmutableCollection"), (0, u "<init>"), (0, u "()V"), (1, .class_ 10), (1, u "java/util/ImmutableCollections"), (2, .methodref 14 15), (0, .class_ 16), (0, .nameAndType 17 18), (0, u "java/util/ImmutableCollections$AbstractImmutableList"), (0, u "size"), (0, u "()I"), (42, .class_ 62), (0, u "java/util/ImmutableCollections$ListItr"), (0, .methodref 61 64), (0, .nameAndType 5 65), (0, u "(Ljava/util/List;I)V"), (11, .class_ 78), (0, u "java/util/List"), (2, u "iterator"), (0, u "()Ljava/util/Iterator;"), (41, .class_ 125), (0, u "java/util/RandomAccess")] 70

def k17m0 : Method := { name := "<init>", desc := "()V", sig := { parameters := [], returnType := none }, accessFlags := 0, code := none }
def k17c1 : Code := { maxStack := 4, maxLocals := 1, code := jdk_46_method_10_code, exceptionTable := #[], attributes := #[] }
def k17m1 : Method := { name := "iterator", desc := "()Ljava/util/Iterator;", sig := { parameters := [], returnType := some (.object "java/util/Iterator") }, accessFlags := 1, code := some k17c1 }
/-- java/util/ImmutableCollections$AbstractImmutableList -/
def k17 : Class := { plain "java/util/ImmutableCollections$AbstractImmutableList" (some 16) with
  accessFlags := 1056
  interfaces := #[8, 12]
  cf := some (fileOf pool17 14 #[.nestHost 8] #[{ accessFlags := 0, nameIndex := 5, descriptorIndex := 6, attributes := #[] }, { accessFlags := 1, nameIndex := 81, descriptorIndex := 82, attributes := #[] }] 1056 2 #[77, 124] #[])
  fields := #[]
  methods := #[k17m0, k17m1]
  instanceTypes := #[]
  staticTypes := #[]
  resolved := Array.replicate 196 none
  statics := none }

def pool18 : Array CpInfo := pool [(2, .class_ 4), (1, u "java/util/ImmutableCollections$AbstractImmutableList"), (2, .fieldref 8 9), (0, .class_ 10), (0, .nameAndType 11 12), (0, u "java/util/ImmutableCollections$ListN"), (0, u "elements"), (0, u "[Ljava/lang/Object;"), (2, u "allowNulls"), (0, u "Z"), (42, .class_ 60), (0, u "java/io/Serializable"), (16, u "size"), (0, u "()I"), (35, .class_ 115), (0, u "java/util/ImmutableCollections")] 3

def k18c0 : Code := { maxStack := 1, maxLocals := 1, code := jdk_45_method_3_code, exceptionTable := #[], attributes := #[] }
def k18m0 : Method := { name := "size", desc := "()I", sig := { parameters := [], returnType := some .int }, accessFlags := 1, code := some k18c0 }
/-- java/util/ImmutableCollections$ListN -/
def k18 : Class := { plain "java/util/ImmutableCollections$ListN" (some 17) with
  accessFlags := 48
  interfaces := #[14]
  cf := some (fileOf pool18 8 #[.nestHost 114] #[{ accessFlags := 1, nameIndex := 77, descriptorIndex := 78, attributes := #[] }] 48 2 #[59] #[{ accessFlags := 18, nameIndex := 11, descriptorIndex := 12, attributes := #[] }, { accessFlags := 18, nameIndex := 15, descriptorIndex := 16, attributes := #[] }])
  fields := #[{ name := "elements", type := (.array (.object "java/lang/Object")), accessFlags := 18, slot := 0, constantValue := 0 }, { name := "allowNulls", type := .boolean, accessFlags := 18, slot := 1, constantValue := 0 }]
  methods := #[k18m0]
  instanceTypes := #[(.array (.object "java/lang/Object")), .boolean]
  staticTypes := #[]
  resolved := Array.replicate 119 none
  statics := none }

def pool19 : Array CpInfo := pool [(16, .class_ 18), (1, u "java/util/Iterator"), (0, u "hasNext"), (0, u "()Z"), (2, u "next"), (0, u "()Ljava/lang/Object;"), (6, .class_ 32), (0, u "java/lang/Object")] 20

def k19m0 : Method := { name := "hasNext", desc := "()Z", sig := { parameters := [], returnType := some .boolean }, accessFlags := 1025, code := none }
def k19m1 : Method := { name := "next", desc := "()Ljava/lang/Object;", sig := { parameters := [], returnType := some (.object "java/lang/Object") }, accessFlags := 1025, code := none }
/-- java/util/Iterator -/
def k19 : Class := { plain "java/util/Iterator" (some 0) with
  accessFlags := 1537
  interfaces := #[]
  cf := some (fileOf pool19 16 #[] #[{ accessFlags := 1025, nameIndex := 19, descriptorIndex := 20, attributes := #[] }, { accessFlags := 1025, nameIndex := 23, descriptorIndex := 24, attributes := #[] }] 1537 31 #[] #[])
  fields := #[]
  methods := #[k19m0, k19m1]
  instanceTypes := #[]
  staticTypes := #[]
  resolved := Array.replicate 53 none
  statics := none }

def pool20 : Array CpInfo := pool [(1, .class_ 2), (0, u "java/util/ListIterator"), (0, .class_ 4), (0, u "java/lang/Object"), (0, .class_ 6), (0, u "java/util/Iterator")] 20

/-- java/util/ListIterator -/
def k20 : Class := { plain "java/util/ListIterator" (some 0) with
  accessFlags := 1537
  interfaces := #[19]
  cf := some (fileOf pool20 1 #[] #[] 1537 3 #[5] #[])
  fields := #[]
  methods := #[]
  instanceTypes := #[]
  staticTypes := #[]
  resolved := Array.replicate 27 none
  statics := none }

def pool21 : Array CpInfo := pool [(1, .methodref 2 3), (0, .class_ 4), (0, .nameAndType 5 6), (0, u "java/lang/Object"), (0, u "<init>"), (0, u "()V"), (0, .fieldref 8 9), (0, .class_ 10), (0, .nameAndType 11 12), (0, u "java/util/ImmutableCollections$ListItr"), (0, u "list"), (0, u "Ljava/util/List;"), (0, .fieldref 8 14), (0, .nameAndType 15 16), (0, u "size"), (0, u "I"), (0, .fieldref 8 18), (0, .nameAndType 19 16), (0, u "cursor"), (0, .fieldref 8 21), (0, .nameAndType 22 23), (0, u "isListIterator"), (0, u "Z"), (12, .class_ 38), (1, u "java/util/ImmutableCollections"), (2, .class_ 42), (0, u "java/util/ListIterator"), (4, u "(Ljava/util/List;I)V"), (11, u "hasNext"), (0, u "()Z")] 25

def k21c0 : Code := { maxStack := 2, maxLocals := 3, code := jdk_53_method_1_code, exceptionTable := #[], attributes := #[] }
def k21m0 : Method := { name := "<init>", desc := "(Ljava/util/List;I)V", sig := { parameters := [(.object "java/util/List"), .int], returnType := none }, accessFlags := 0, code := some k21c0 }
def k21c1 : Code := { maxStack := 2, maxLocals := 1, code := jdk_53_method_3_code, exceptionTable := #[], attributes := #[] }
def k21m1 : Method := { name := "hasNext", desc := "()Z", sig := { parameters := [], returnType := some .boolean }, accessFlags := 1, code := some k21c1 }
/-- java/util/ImmutableCollections$ListItr -/
def k21 : Class := { plain "java/util/ImmutableCollections$ListItr" (some 0) with
  accessFlags := 48
  interfaces := #[20]
  cf := some (fileOf pool21 8 #[.nestHost 36] #[{ accessFlags := 0, nameIndex := 5, descriptorIndex := 47, attributes := #[] }, { accessFlags := 1, nameIndex := 59, descriptorIndex := 60, attributes := #[] }] 48 2 #[41] #[{ accessFlags := 18, nameIndex := 11, descriptorIndex := 12, attributes := #[] }, { accessFlags := 18, nameIndex := 15, descriptorIndex := 16, attributes := #[] }, { accessFlags := 18, nameIndex := 22, descriptorIndex := 23, attributes := #[] }, { accessFlags := 2, nameIndex := 19, descriptorIndex := 16, attributes := #[] }])
  fields := #[{ name := "list", type := (.object "java/util/List"), accessFlags := 18, slot := 0, constantValue := 0 }, { name := "size", type := .int, accessFlags := 18, slot := 1, constantValue := 0 }, { name := "isListIterator", type := .boolean, accessFlags := 18, slot := 2, constantValue := 0 }, { name := "cursor", type := .int, accessFlags := 2, slot := 3, constantValue := 0 }]
  methods := #[k21m0, k21m1]
  instanceTypes := #[(.object "java/util/List"), .int, .boolean, .int]
  staticTypes := #[]
  resolved := Array.replicate 86 none
  statics := none }

def pool22 : Array CpInfo := pool [(1, .class_ 2), (0, u "com/example/caddis/caddis/StatementSet$Cursor"), (0, .class_ 4), (0, u "java/lang/Object"), (0, u "next"), (0, u "()Ljava/lang/String;"), (6, .class_ 14), (0, u "com/example/caddis/caddis/StatementSet")] 2

def k22m0 : Method := { name := "next", desc := "()Ljava/lang/String;", sig := { parameters := [], returnType := some (.object "java/lang/String") }, accessFlags := 1025, code := none }
/-- com/example/caddis/caddis/StatementSet$Cursor -/
def k22 : Class := { plain "com/example/caddis/caddis/StatementSet$Cursor" (some 0) with
  accessFlags := 1536
  interfaces := #[]
  cf := some (fileOf pool22 1 #[.nestHost 13] #[{ accessFlags := 1025, nameIndex := 5, descriptorIndex := 6, attributes := #[] }] 1536 3 #[] #[])
  fields := #[]
  methods := #[k22m0]
  instanceTypes := #[]
  staticTypes := #[]
  resolved := Array.replicate 17 none
  statics := none }

def pool23 : Array CpInfo := pool [(1, .class_ 2), (0, u "java/lang/Math"), (1, .class_ 6), (1, u "java/lang/Object"), (0, u "<init>"), (0, u "()V"), (89, .class_ 100), (1, u "java/lang/Math$RandomNumberGeneratorHolder"), (71, u "negativeZeroFloatBits"), (0, u "J"), (2, u "negativeZeroDoubleBits"), (21, u "max"), (46, u "$assertionsDisabled"), (0, u "Z"), (88, u "(II)I"), (2, u "twoToTheDoubleScaleDown"), (0, u "D"), (4, u "twoToTheDoubleScaleUp"), (9, u "E"), (3, u "PI"), (2, u "TAU"), (2, u "DEGREES_TO_RADIANS"), (0, u "RADIANS_TO_DEGREES")] 94

def k23m0 : Method := { name := "<init>", desc := "()V", sig := { parameters := [], returnType := none }, accessFlags := 2, code := none }
def k23c1 : Code := { maxStack := 2, maxLocals := 2, code := jdk_29_method_65_code, exceptionTable := #[], attributes := #[] }
def k23m1 : Method := { name := "max", desc := "(II)I", sig := { parameters := [.int, .int], returnType := some .int }, accessFlags := 9, code := some k23c1 }
/-- java/lang/Math -/
def k23 : Class := { plain "java/lang/Math" (some 0) with
  accessFlags := 49
  interfaces := #[]
  cf := some (fileOf pool23 1 #[.nestMembers #[98]] #[{ accessFlags := 2, nameIndex := 7, descriptorIndex := 8, attributes := #[] }, { accessFlags := 9, nameIndex := 198, descriptorIndex := 335, attributes := #[] }] 49 4 #[] #[{ accessFlags := 25, nameIndex := 354, descriptorIndex := 339, attributes := #[] }, { accessFlags := 25, nameIndex := 358, descriptorIndex := 339, attributes := #[] }, { accessFlags := 25, nameIndex := 361, descriptorIndex := 339, attributes := #[] }, { accessFlags := 26, nameIndex := 364, descriptorIndex := 339, attributes := #[] }, { accessFlags := 26, nameIndex := 365, descriptorIndex := 339, attributes := #[] }, { accessFlags := 26, nameIndex := 172, descriptorIndex := 173, attributes := #[] }, { accessFlags := 26, nameIndex := 176, descriptorIndex := 173, attributes := #[] }, { accessFlags := 8, nameIndex := 344, descriptorIndex := 339, attributes := #[] }, { accessFlags := 8, nameIndex := 338, descriptorIndex := 339, attributes := #[] }, { accessFlags := 4120, nameIndex := 245, descriptorIndex := 246, attributes := #[] }])
  fields := #[{ name := "E", type := .double, accessFlags := 25, slot := 0, constantValue := 0 }, { name := "PI", type := .double, accessFlags := 25, slot := 1, constantValue := 0 }, { name := "TAU", type := .double, accessFlags := 25, slot := 2, constantValue := 0 }, { name := "DEGREES_TO_RADIANS", type := .double, accessFlags := 26, slot := 3, constantValue := 0 }, { name := "RADIANS_TO_DEGREES", type := .double, accessFlags := 26, slot := 4, constantValue := 0 }, { name := "negativeZeroFloatBits", type := .long, accessFlags := 26, slot := 5, constantValue := 0 }, { name := "negativeZeroDoubleBits", type := .long, accessFlags := 26, slot := 6, constantValue := 0 }, { name := "twoToTheDoubleScaleUp", type := .double, accessFlags := 8, slot := 7, constantValue := 0 }, { name := "twoToTheDoubleScaleDown", type := .double, accessFlags := 8, slot := 8, constantValue := 0 }, { name := "$assertionsDisabled", type := .boolean, accessFlags := 4120, slot := 9, constantValue := 0 }]
  methods := #[k23m0, k23m1]
  instanceTypes := #[]
  staticTypes := #[.double, .double, .double, .double, .double, .long, .long, .double, .double, .boolean]
  resolved := Array.replicate 460 none
  statics := none }

def pool24 : Array CpInfo := pool [(1, .class_ 2), (0, u "java/util/Queue"), (0, .class_ 4), (0, u "java/lang/Object"), (0, .class_ 6), (0, u "java/util/Collection")] 14

/-- java/util/Queue -/
def k24 : Class := { plain "java/util/Queue" (some 0) with
  accessFlags := 1537
  interfaces := #[6]
  cf := some (fileOf pool24 1 #[] #[] 1537 3 #[5] #[])
  fields := #[]
  methods := #[]
  instanceTypes := #[]
  staticTypes := #[]
  resolved := Array.replicate 21 none
  statics := none }

def pool25 : Array CpInfo := pool [(1, .methodref 2 3), (0, .class_ 4), (0, .nameAndType 5 6), (0, u "java/util/AbstractCollection"), (0, u "<init>"), (0, u "()V"), (1, .class_ 10), (1, u "java/util/AbstractQueue"), (43, .class_ 55), (0, u "java/util/Queue")] 31

def k25c0 : Code := { maxStack := 1, maxLocals := 1, code := jdk_2435_method_1_code, exceptionTable := #[], attributes := #[] }
def k25m0 : Method := { name := "<init>", desc := "()V", sig := { parameters := [], returnType := none }, accessFlags := 4, code := some k25c0 }
/-- java/util/AbstractQueue -/
def k25 : Class := { plain "java/util/AbstractQueue" (some 10) with
  accessFlags := 1057
  interfaces := #[24]
  cf := some (fileOf pool25 8 #[] #[{ accessFlags := 4, nameIndex := 5, descriptorIndex := 6, attributes := #[] }] 1057 2 #[54] #[])
  fields := #[]
  methods := #[k25m0]
  instanceTypes := #[]
  staticTypes := #[]
  resolved := Array.replicate 87 none
  statics := none }

def pool26 : Array CpInfo := pool [(1, .class_ 2), (0, u "java/util/PriorityQueue"), (0, .methodref 1 4), (0, .nameAndType 5 6), (0, u "<init>"), (0, u "(ILjava/util/Comparator;)V"), (0, .methodref 8 9), (0, .class_ 10), (0, .nameAndType 5 11), (0, u "java/util/AbstractQueue"), (0, u "()V"), (3, .class_ 16), (0, u "java/lang/Object"), (0, .fieldref 1 18), (0, .nameAndType 19 20), (0, u "queue"), (0, u "[Ljava/lang/Object;"), (0, .fieldref 1 22), (0, .nameAndType 23 24), (0, u "comparator"), (0, u "Ljava/util/Comparator;"), (31, u "size"), (0, u "()I"), (0, .fieldref 1 59), (0, .nameAndType 56 60), (0, u "I"), (34, u "modCount"), (25, .class_ 122), (0, u "java/util/PriorityQueue$Itr"), (74, .class_ 198), (0, u "java/util/PriorityQueue$PriorityQueueSpliterator"), (45, .class_ 245), (0, u "java/io/Serializable"), (0, u "serialVersionUID"), (0, u "J"), (3, u "DEFAULT_INITIAL_CAPACITY"), (11, u "(Ljava/util/Comparator;)V")] 128

def k26m0 : Method := { name := "<init>", desc := "()V", sig := { parameters := [], returnType := none }, accessFlags := 1, code := none }
def k26c1 : Code := { maxStack := 3, maxLocals := 2, code := jdk_2655_method_3_code, exceptionTable := #[], attributes := #[] }
def k26m1 : Method := { name := "<init>", desc := "(Ljava/util/Comparator;)V", sig := { parameters := [(.object "java/util/Comparator")], returnType := none }, accessFlags := 1, code := some k26c1 }
def k26c2 : Code := { maxStack := 2, maxLocals := 3, code := jdk_2655_method_4_code, exceptionTable := #[], attributes := #[] }
def k26m2 : Method := { name := "<init>", desc := "(ILjava/util/Comparator;)V", sig := { parameters := [.int, (.object "java/util/Comparator")], returnType := none }, accessFlags := 1, code := some k26c2 }
def k26c3 : Code := { maxStack := 1, maxLocals := 1, code := jdk_2655_method_23_code, exceptionTable := #[], attributes := #[] }
def k26m3 : Method := { name := "size", desc := "()I", sig := { parameters := [], returnType := some .int }, accessFlags := 1, code := some k26c3 }
/-- java/util/PriorityQueue -/
def k26 : Class := { plain "java/util/PriorityQueue" (some 25) with
  accessFlags := 33
  interfaces := #[14]
  cf := some (fileOf pool26 1 #[.nestMembers #[197, 121]] #[{ accessFlags := 1, nameIndex := 5, descriptorIndex := 11, attributes := #[] }, { accessFlags := 1, nameIndex := 5, descriptorIndex := 263, attributes := #[] }, { accessFlags := 1, nameIndex := 5, descriptorIndex := 6, attributes := #[] }, { accessFlags := 1, nameIndex := 56, descriptorIndex := 57, attributes := #[] }] 33 8 #[244] #[{ accessFlags := 26, nameIndex := 246, descriptorIndex := 247, attributes := #[] }, { accessFlags := 26, nameIndex := 251, descriptorIndex := 60, attributes := #[] }, { accessFlags := 128, nameIndex := 19, descriptorIndex := 20, attributes := #[] }, { accessFlags := 0, nameIndex := 56, descriptorIndex := 60, attributes := #[] }, { accessFlags := 18, nameIndex := 23, descriptorIndex := 24, attributes := #[] }, { accessFlags := 128, nameIndex := 95, descriptorIndex := 60, attributes := #[] }])
  fields := #[{ name := "serialVersionUID", type := .long, accessFlags := 26, slot := 0, constantValue := 0 }, { name := "DEFAULT_INITIAL_CAPACITY", type := .int, accessFlags := 26, slot := 1, constantValue := 0 }, { name := "queue", type := (.array (.object "java/lang/Object")), accessFlags := 128, slot := 0, constantValue := 0 }, { name := "size", type := .int, accessFlags := 0, slot := 1, constantValue := 0 }, { name := "comparator", type := (.object "java/util/Comparator"), accessFlags := 18, slot := 2, constantValue := 0 }, { name := "modCount", type := .int, accessFlags := 128, slot := 3, constantValue := 0 }]
  methods := #[k26m0, k26m1, k26m2, k26m3]
  instanceTypes := #[(.array (.object "java/lang/Object")), .int, (.object "java/util/Comparator"), .int]
  staticTypes := #[.long, .int]
  resolved := Array.replicate 392 none
  statics := none }

def pool27 : Array CpInfo := pool [(15, u "compare"), (3, .class_ 20), (0, u "java/util/Comparator"), (84, .class_ 106), (0, u "java/lang/Object"), (8, u "(Ljava/lang/Object;Ljava/lang/Object;)I")] 172

def k27m0 : Method := { name := "compare", desc := "(Ljava/lang/Object;Ljava/lang/Object;)I", sig := { parameters := [(.object "java/lang/Object"), (.object "java/lang/Object")], returnType := some .int }, accessFlags := 1025, code := none }
/-- java/util/Comparator -/
def k27 : Class := { plain "java/util/Comparator" (some 0) with
  accessFlags := 1537
  interfaces := #[]
  cf := some (fileOf pool27 19 #[] #[{ accessFlags := 1025, nameIndex := 15, descriptorIndex := 115, attributes := #[] }] 1537 105 #[] #[])
  fields := #[]
  methods := #[k27m0]
  instanceTypes := #[]
  staticTypes := #[]
  resolved := Array.replicate 288 none
  statics := none }

def pool28 : Array CpInfo := pool [(1, .fieldref 2 3), (0, .class_ 4), (0, .nameAndType 5 6), (0, u "java/util/ArrayList$Itr"), (0, u "this$0"), (0, u "Ljava/util/ArrayList;"), (0, .methodref 8 9), (0, .class_ 10), (0, .nameAndType 11 12), (0, u "java/lang/Object"), (0, u "<init>"), (0, u "()V"), (0, .fieldref 2 14), (0, .nameAndType 15 16), (0, u "lastRet"), (0, u "I"), (0, .fieldref 18 19), (0, .class_ 20), (0, .nameAndType 21 16), (0, u "java/util/ArrayList"), (0, u "modCount"), (0, .fieldref 2 23), (0, .nameAndType 24 16), (0, u "expectedModCount"), (0, .fieldref 2 26), (0, .nameAndType 27 16), (0, u "cursor"), (0, .fieldref 18 29), (0, .nameAndType 30 16), (0, u "size"), (0, .methodref 2 32), (0, .nameAndType 33 12), (0, u "checkForComodification"), (3, .fieldref 18 38), (0, .nameAndType 39 40), (0, u "elementData"), (0, u "[Ljava/lang/Object;"), (28, .class_ 70), (0, u "java/util/Iterator"), (0, u "(Ljava/util/ArrayList;)V"), (8, u "hasNext"), (0, u "()Z"), (1, u "next"), (0, u "()Ljava/lang/Object;")] 19

def k28c0 : Code := { maxStack := 2, maxLocals := 2, code := jdk_49_method_1_code, exceptionTable := #[], attributes := #[] }
def k28m0 : Method := { name := "<init>", desc := "(Ljava/util/ArrayList;)V", sig := { parameters := [(.object "java/util/ArrayList")], returnType := none }, accessFlags := 0, code := some k28c0 }
def k28c1 : Code := { maxStack := 2, maxLocals := 1, code := jdk_49_method_2_code, exceptionTable := #[], attributes := #[] }
def k28m1 : Method := { name := "hasNext", desc := "()Z", sig := { parameters := [], returnType := some .boolean }, accessFlags := 1, code := some k28c1 }
def k28c2 : Code := { maxStack := 4, maxLocals := 3, code := jdk_49_method_3_code, exceptionTable := #[], attributes := #[] }
def k28m2 : Method := { name := "next", desc := "()Ljava/lang/Object;", sig := { parameters := [], returnType := some (.object "java/lang/Object") }, accessFlags := 1, code := some k28c2 }
def k28c3 : Code := { maxStack := 2, maxLocals := 1, code := jdk_49_method_6_code, exceptionTable := #[], attributes := #[] }
def k28m3 : Method := { name := "checkForComodification", desc := "()V", sig := { parameters := [], returnType := none }, accessFlags := 16, code := some k28c3 }
/-- java/util/ArrayList$Itr -/
def k28 : Class := { plain "java/util/ArrayList$Itr" (some 0) with
  accessFlags := 32
  interfaces := #[19]
  cf := some (fileOf pool28 2 #[.nestHost 18] #[{ accessFlags := 0, nameIndex := 11, descriptorIndex := 71, attributes := #[] }, { accessFlags := 1, nameIndex := 80, descriptorIndex := 81, attributes := #[] }, { accessFlags := 1, nameIndex := 83, descriptorIndex := 84, attributes := #[] }, { accessFlags := 16, nameIndex := 33, descriptorIndex := 12, attributes := #[] }] 32 8 #[69] #[{ accessFlags := 0, nameIndex := 27, descriptorIndex := 16, attributes := #[] }, { accessFlags := 0, nameIndex := 15, descriptorIndex := 16, attributes := #[] }, { accessFlags := 0, nameIndex := 24, descriptorIndex := 16, attributes := #[] }, { accessFlags := 4112, nameIndex := 5, descriptorIndex := 6, attributes := #[] }])
  fields := #[{ name := "cursor", type := .int, accessFlags := 0, slot := 0, constantValue := 0 }, { name := "lastRet", type := .int, accessFlags := 0, slot := 1, constantValue := 0 }, { name := "expectedModCount", type := .int, accessFlags := 0, slot := 2, constantValue := 0 }, { name := "this$0", type := (.object "java/util/ArrayList"), accessFlags := 4112, slot := 3, constantValue := 0 }]
  methods := #[k28m0, k28m1, k28m2, k28m3]
  instanceTypes := #[.int, .int, .int, (.object "java/util/ArrayList")]
  staticTypes := #[]
  resolved := Array.replicate 104 none
  statics := none }

def pool29 : Array CpInfo := pool [(1, .methodref 2 3), (0, .class_ 4), (0, .nameAndType 5 6), (0, u "java/lang/Object"), (0, u "<init>"), (0, u "()V"), (0, .fieldref 8 9), (0, .class_ 10), (0, .nameAndType 11 12), (0, u "com/example/caddis/caddis/StatementSet$Union"), (0, u "heads"), (0, u "Ljava/util/PriorityQueue;"), (0, .methodref 14 15), (0, .class_ 16), (0, .nameAndType 17 18), (0, u "java/util/PriorityQueue"), (0, u "isEmpty"), (0, u "()Z"), (10, .interfaceMethodref 30 31), (0, .class_ 32), (0, .nameAndType 33 34), (0, u "com/example/caddis/caddis/StatementSet$Cursor"), (0, u "next"), (0, u "()Ljava/lang/String;"), (10, u "Ljava/lang/String;"), (0, .fieldref 8 47), (0, .nameAndType 48 45), (0, u "last"), (7, u "(Ljava/util/PriorityQueue;)V"), (10, .class_ 68), (0, u "com/example/caddis/caddis/StatementSet")] 4

def k29c0 : Code := { maxStack := 2, maxLocals := 2, code := prog_49_method_1_code, exceptionTable := #[], attributes := #[] }
def k29m0 : Method := { name := "<init>", desc := "(Ljava/util/PriorityQueue;)V", sig := { parameters := [(.object "java/util/PriorityQueue")], returnType := none }, accessFlags := 2, code := some k29c0 }
def k29c1 : Code := { maxStack := 5, maxLocals := 4, code := prog_49_method_2_code, exceptionTable := #[], attributes := #[] }
def k29m1 : Method := { name := "next", desc := "()Ljava/lang/String;", sig := { parameters := [], returnType := some (.object "java/lang/String") }, accessFlags := 1, code := some k29c1 }
/-- com/example/caddis/caddis/StatementSet$Union -/
def k29 : Class := { plain "com/example/caddis/caddis/StatementSet$Union" (some 0) with
  accessFlags := 48
  interfaces := #[22]
  cf := some (fileOf pool29 8 #[.nestHost 67] #[{ accessFlags := 2, nameIndex := 5, descriptorIndex := 56, attributes := #[] }, { accessFlags := 1, nameIndex := 33, descriptorIndex := 34, attributes := #[] }] 48 2 #[30] #[{ accessFlags := 18, nameIndex := 11, descriptorIndex := 12, attributes := #[] }, { accessFlags := 2, nameIndex := 48, descriptorIndex := 45, attributes := #[] }])
  fields := #[{ name := "heads", type := (.object "java/util/PriorityQueue"), accessFlags := 18, slot := 0, constantValue := 0 }, { name := "last", type := (.object "java/lang/String"), accessFlags := 2, slot := 1, constantValue := 0 }]
  methods := #[k29m0, k29m1]
  instanceTypes := #[(.object "java/util/PriorityQueue"), (.object "java/lang/String")]
  staticTypes := #[]
  resolved := Array.replicate 73 none
  statics := none }

/-- the primitive byte -/
def k30 : Class := { plain "byte" none with kind := .primitive 'B', accessFlags := 0x411 }
/-- [B -/
def k31 : Class := { plain "[B" (some 0) with kind := .array 30 .byte, interfaces := #[13, 14], accessFlags := 1041 }

/-- the primitive int -/
def k32 : Class := { plain "int" none with kind := .primitive 'I', accessFlags := 0x411 }
/-- [I -/
def k33 : Class := { plain "[I" (some 0) with kind := .array 32 .int, interfaces := #[13, 14], accessFlags := 1041 }

/-- [Ljava/lang/Object; -/
def k34 : Class := { plain "[Ljava/lang/Object;" (some 0) with kind := .array 0 (.object "java/lang/Object"), interfaces := #[13, 14], accessFlags := 1041 }

def classes0 : Array Class := #[k0, k1, k2, k3, k4, k5, k6, k7, k8, k9, k10, k11, k12, k13, k14, k15, k16, k17, k18, k19, k20, k21, k22, k23, k24, k25, k26, k27, k28, k29, k30, k31, k32, k33, k34]
/-- the class that the rule has made for the site at 8 of com/example/caddis/caddis/StatementSet.cursorOf -/
def k35 : Class := Jvm.LamKit.madeRec { classes := classes0 } "com/example/caddis/caddis/StatementSet" (Jvm.Lambda.Shape.mk "com/example/caddis/caddis/StatementSet$Cursor" "next" (Jvm.ClassFile.MethodDescriptor.mk ([] : List Jvm.ClassFile.FieldType) (Option.some (Jvm.ClassFile.FieldType.object "java/lang/String"))) ([(Jvm.ClassFile.FieldType.object "java/util/Iterator")] : List Jvm.ClassFile.FieldType) (6 : Nat) "com/example/caddis/caddis/StatementSet" "lambda$cursorOf$3" (Jvm.ClassFile.MethodDescriptor.mk ([(Jvm.ClassFile.FieldType.object "java/util/Iterator")] : List Jvm.ClassFile.FieldType) (Option.some (Jvm.ClassFile.FieldType.object "java/lang/String"))) false (Jvm.ClassFile.MethodDescriptor.mk ([] : List Jvm.ClassFile.FieldType) (Option.some (Jvm.ClassFile.FieldType.object "java/lang/String")))) 35

/-- the class that the rule has made for the site at 4 of com/example/caddis/caddis/StatementSet.union -/
def k36 : Class := Jvm.LamKit.madeRec { classes := classes0 } "com/example/caddis/caddis/StatementSet" (Jvm.Lambda.Shape.mk "java/util/Comparator" "compare" (Jvm.ClassFile.MethodDescriptor.mk ([(Jvm.ClassFile.FieldType.object "java/lang/Object"), (Jvm.ClassFile.FieldType.object "java/lang/Object")] : List Jvm.ClassFile.FieldType) (Option.some Jvm.ClassFile.FieldType.int)) ([] : List Jvm.ClassFile.FieldType) (6 : Nat) "com/example/caddis/caddis/StatementSet" "lambda$union$1" (Jvm.ClassFile.MethodDescriptor.mk ([(Jvm.ClassFile.FieldType.object "com/example/caddis/caddis/StatementSet$Head"), (Jvm.ClassFile.FieldType.object "com/example/caddis/caddis/StatementSet$Head")] : List Jvm.ClassFile.FieldType) (Option.some Jvm.ClassFile.FieldType.int)) false (Jvm.ClassFile.MethodDescriptor.mk ([(Jvm.ClassFile.FieldType.object "com/example/caddis/caddis/StatementSet$Head"), (Jvm.ClassFile.FieldType.object "com/example/caddis/caddis/StatementSet$Head")] : List Jvm.ClassFile.FieldType) (Option.some Jvm.ClassFile.FieldType.int))) 36

def heap : Heap := #[{ cls := 9, slots := #[.long 0, .int 0, .null, .null, .ref 4, .null, .null, .null, .int 0, .int 0], vm := .statics 9 },
  { cls := 15, slots := #[.long 0, .int 0, .ref 5, .ref 6], vm := .statics 15 },
  { cls := 36, slots := #[], vm := .none },
  { cls := 34, slots := #[], vm := .none },
  { cls := 18, slots := #[.ref 3, .int 0], vm := .none },
  { cls := 34, slots := #[], vm := .none },
  { cls := 34, slots := #[], vm := .none }]
def classes : Array Class := #[k0, k1, k2, k3, k4, k5, k6, k7, k8, k9, k10, k11, k12, k13, k14, k15, k16, k17, k18, k19, k20, k21, k22, k23, k24, k25, k26, k27, k28, k29, k30, k31, k32, k33, k34, k35, k36]
def interned : List (Array UInt16 × Addr) := []
def slotsUsed : Nat := 16
def theMethod : MethodId := ⟨1, 1⟩
def args0 : Array Value := #[.int 5]
def aboutOver (below : List Frame) : State where
  vm := { classes := classes, interned := interned.toArray }
  heap := heap
  slotsUsed := slotsUsed
  threads := #[{ frames := .invoking theMethod args0 :: below }]
def below0 : List Frame := [.native { method := ⟨0, 0⟩, args := #[] }]
def about1 : State := aboutOver below0
def p0 : Program := .bare "" "" ""
def e0 : Env := launch0.env 0 0 0
theorem w_frames : about1.frames = Frame.invoking theMethod args0 :: below0 := rfl
set_option maxRecDepth 65536 in
theorem w_args : argsFit about1.vm theMethod args0 = true := by decide +kernel
set_option maxRecDepth 65536 in
theorem w_heap : heapFits about1 = true := by decide +kernel
set_option maxRecDepth 65536 in
theorem w_runnable : about1.curStatus? = some .runnable := by decide +kernel
set_option maxRecDepth 65536 in
theorem w_alone : about1.alone = true := by decide +kernel
set_option maxRecDepth 65536 in
theorem w_named : about1.methodNamed? x = some theMethod := by decide +kernel
set_option maxRecDepth 65536 in
theorem w_hears : about1.hears theMethod below0 = true := by decide +kernel
set_option maxRecDepth 65536 in
theorem w_ripe : about1.ripe theMethod args0 below0 = true := by decide +kernel
theorem w_running : about1.status = .running := rfl
set_option maxRecDepth 65536 in
theorem w_room : about1.hasRoom e0.platform room_1 = true :=
  launch0.hasRoom_least _ room_1 (by decide +kernel) (by decide +kernel) (by decide +kernel) (by decide +kernel) (by decide +kernel) (by decide +kernel)
theorem allAtoms_all (ts : List Jvm.Cond) (a : Array Jvm.Value) (st : Jvm.State) : (allAtoms ts).before a st = ts.all (fun c => c.before a st) := by
  induction ts with
  | nil => rfl
  | cons c t ih =>
    show (Jvm.Cond.and c (allAtoms t)).before a st = _
    rw [Jvm.Cond.before_and, ih, List.all_cons]
def words1 : List Jvm.Cond := Jvm.Cond.code x code maxLocals ret :: tables_1
/-- a 'code' word, met by the world's own term for the bytes: nothing is compared byte by byte -/
theorem code_word {y : MethodName} {bytes : ByteArray} {mx : Nat} {rt : Option FieldType} {a : Array Value} {s : State} {m : MethodId} {meth : Method} {c : Code} (h1 : s.methodNamed? y = some m) (h2 : s.vm.method? m = some meth) (h3 : meth.code = some c) (h4 : c.code = bytes)
    (h5 : (c.maxLocals == mx && c.exceptionTable.isEmpty && decide (c.maxStack ≤ mostOperands) && decide (meth.sig.returnType = rt) && !meth.locks && decide (parseMethodDescriptor y.desc = some meth.sig)) = true) : (Jvm.Cond.code y bytes mx rt).before a s = true := by
  simp only [Bool.and_eq_true, beq_iff_eq, Bool.not_eq_true', decide_eq_true_eq] at h5
  obtain ⟨⟨⟨⟨⟨g1, g2⟩, g3⟩, g4⟩, g5⟩, g6⟩ := h5
  simp [Cond.before, Cond.holds, Cond.value, h1, h2, h3, h4, g1, g2, g3, g4, g5, g6]
def isCode : Jvm.Cond → Bool
  | .code _ _ _ _ => true
  | _ => false
theorem all_split {L : List Jvm.Cond} {P : Jvm.Cond → Bool} (h1 : L.all (fun c => isCode c || P c) = true) (h2 : ∀ c ∈ L.filter isCode, P c = true) : L.all P = true := by
  refine List.all_eq_true.mpr fun c hc => ?_
  have h := List.all_eq_true.mp h1 c hc
  rcases Bool.eq_false_or_eq_true (isCode c) with hi | hi
  · exact h2 c (List.mem_filter.mpr ⟨hc, hi⟩)
  · simpa [hi] using h
set_option maxRecDepth 65536 in
theorem w_c0 : (Jvm.Cond.code x code maxLocals ret).before args0 about1 = true := code_word (m := ⟨1, 1⟩) (meth := k1m1) (c := k1c1) (by decide +kernel) rfl rfl rfl (by decide +kernel)
set_option maxRecDepth 65536 in
theorem w_c1 : (Jvm.Cond.code ({ cls := "com/example/caddis/caddis/StatementSet", name := "empty", desc := "()Lcom/example/caddis/caddis/StatementSet;" } : Jvm.MethodName) prog_43_method_3_code (0 : Nat) (Option.some (Jvm.ClassFile.FieldType.object "com/example/caddis/caddis/StatementSet"))).before args0 about1 = true := code_word (m := ⟨4, 1⟩) (meth := k4m1) (c := k4c1) (by decide +kernel) rfl rfl rfl (by decide +kernel)
set_option maxRecDepth 65536 in
theorem w_c2 : (Jvm.Cond.code ({ cls := "java/util/List", name := "of", desc := "()Ljava/util/List;" } : Jvm.MethodName) jdk_40_method_36_code (0 : Nat) (Option.some (Jvm.ClassFile.FieldType.object "java/util/List"))).before args0 about1 = true := code_word (m := ⟨8, 2⟩) (meth := k8m2) (c := k8c2) (by decide +kernel) rfl rfl rfl (by decide +kernel)
set_option maxRecDepth 65536 in
theorem w_c3 : (Jvm.Cond.code ({ cls := "com/example/caddis/caddis/StatementSet", name := "<init>", desc := "(Ljava/util/List;Ljava/util/List;)V" } : Jvm.MethodName) prog_43_method_1_code (3 : Nat) (Option.none : Option Jvm.ClassFile.FieldType)).before args0 about1 = true := code_word (m := ⟨4, 0⟩) (meth := k4m0) (c := k4c0) (by decide +kernel) rfl rfl rfl (by decide +kernel)
set_option maxRecDepth 65536 in
theorem w_c4 : (Jvm.Cond.code ({ cls := "java/lang/Object", name := "<init>", desc := "()V" } : Jvm.MethodName) object_method_1_code (1 : Nat) (Option.none : Option Jvm.ClassFile.FieldType)).before args0 about1 = true := code_word (m := ⟨0, 0⟩) (meth := k0m0) (c := k0c0) (by decide +kernel) rfl rfl rfl (by decide +kernel)
set_option maxRecDepth 65536 in
theorem w_c5 : (Jvm.Cond.code ({ cls := "com/example/caddis/caddis/StatementSet", name := "cursor", desc := "()Lcom/example/caddis/caddis/StatementSet$Cursor;" } : Jvm.MethodName) prog_43_method_5_code (4 : Nat) (Option.some (Jvm.ClassFile.FieldType.object "com/example/caddis/caddis/StatementSet$Cursor"))).before args0 about1 = true := code_word (m := ⟨4, 2⟩) (meth := k4m2) (c := k4c2) (by decide +kernel) rfl rfl rfl (by decide +kernel)
set_option maxRecDepth 65536 in
theorem w_c6 : (Jvm.Cond.code ({ cls := "java/util/ArrayList", name := "<init>", desc := "()V" } : Jvm.MethodName) jdk_38_method_2_code (1 : Nat) (Option.none : Option Jvm.ClassFile.FieldType)).before args0 about1 = true := code_word (m := ⟨15, 0⟩) (meth := k15m0) (c := k15c0) (by decide +kernel) rfl rfl rfl (by decide +kernel)
set_option maxRecDepth 65536 in
theorem w_c7 : (Jvm.Cond.code ({ cls := "java/util/AbstractList", name := "<init>", desc := "()V" } : Jvm.MethodName) jdk_39_method_1_code (1 : Nat) (Option.none : Option Jvm.ClassFile.FieldType)).before args0 about1 = true := code_word (m := ⟨11, 0⟩) (meth := k11m0) (c := k11c0) (by decide +kernel) rfl rfl rfl (by decide +kernel)
set_option maxRecDepth 65536 in
theorem w_c8 : (Jvm.Cond.code ({ cls := "java/util/AbstractCollection", name := "<init>", desc := "()V" } : Jvm.MethodName) jdk_22_method_1_code (1 : Nat) (Option.none : Option Jvm.ClassFile.FieldType)).before args0 about1 = true := code_word (m := ⟨10, 0⟩) (meth := k10m0) (c := k10c0) (by decide +kernel) rfl rfl rfl (by decide +kernel)
set_option maxRecDepth 65536 in
theorem w_c9 : (Jvm.Cond.code ({ cls := "com/example/caddis/caddis/StatementSet", name := "cursorOf", desc := "(Ljava/util/List;)Lcom/example/caddis/caddis/StatementSet$Cursor;" } : Jvm.MethodName) prog_43_method_17_code (2 : Nat) (Option.some (Jvm.ClassFile.FieldType.object "com/example/caddis/caddis/StatementSet$Cursor"))).before args0 about1 = true := code_word (m := ⟨4, 5⟩) (meth := k4m5) (c := k4c5) (by decide +kernel) rfl rfl rfl (by decide +kernel)
set_option maxRecDepth 65536 in
theorem w_c10 : (Jvm.Cond.code ({ cls := "java/util/ImmutableCollections$AbstractImmutableList", name := "iterator", desc := "()Ljava/util/Iterator;" } : Jvm.MethodName) jdk_46_method_10_code (1 : Nat) (Option.some (Jvm.ClassFile.FieldType.object "java/util/Iterator"))).before args0 about1 = true := code_word (m := ⟨17, 1⟩) (meth := k17m1) (c := k17c1) (by decide +kernel) rfl rfl rfl (by decide +kernel)
set_option maxRecDepth 65536 in
theorem w_c11 : (Jvm.Cond.code ({ cls := "java/util/ImmutableCollections$ListN", name := "size", desc := "()I" } : Jvm.MethodName) jdk_45_method_3_code (1 : Nat) (Option.some Jvm.ClassFile.FieldType.int)).before args0 about1 = true := code_word (m := ⟨18, 0⟩) (meth := k18m0) (c := k18c0) (by decide +kernel) rfl rfl rfl (by decide +kernel)
set_option maxRecDepth 65536 in
theorem w_c12 : (Jvm.Cond.code ({ cls := "java/util/ImmutableCollections$ListItr", name := "<init>", desc := "(Ljava/util/List;I)V" } : Jvm.MethodName) jdk_53_method_1_code (3 : Nat) (Option.none : Option Jvm.ClassFile.FieldType)).before args0 about1 = true := code_word (m := ⟨21, 0⟩) (meth := k21m0) (c := k21c0) (by decide +kernel) rfl rfl rfl (by decide +kernel)
set_option maxRecDepth 65536 in
theorem w_c13 : (Jvm.Cond.code ({ cls := "java/util/ArrayList", name := "add", desc := "(Ljava/lang/Object;)Z" } : Jvm.MethodName) jdk_38_method_25_code (2 : Nat) (Option.some Jvm.ClassFile.FieldType.boolean)).before args0 about1 = true := code_word (m := ⟨15, 4⟩) (meth := k15m4) (c := k15c4) (by decide +kernel) rfl rfl rfl (by decide +kernel)
set_option maxRecDepth 65536 in
theorem w_c14 : (Jvm.Cond.code ({ cls := "java/util/ArrayList", name := "add", desc := "(Ljava/lang/Object;[Ljava/lang/Object;I)V" } : Jvm.MethodName) jdk_38_method_24_code (4 : Nat) (Option.none : Option Jvm.ClassFile.FieldType)).before args0 about1 = true := code_word (m := ⟨15, 3⟩) (meth := k15m3) (c := k15c3) (by decide +kernel) rfl rfl rfl (by decide +kernel)
set_option maxRecDepth 65536 in
theorem w_c15 : (Jvm.Cond.code ({ cls := "java/util/ArrayList", name := "grow", desc := "()[Ljava/lang/Object;" } : Jvm.MethodName) jdk_38_method_7_code (1 : Nat) (Option.some (Jvm.ClassFile.FieldType.array (Jvm.ClassFile.FieldType.object "java/lang/Object")))).before args0 about1 = true := code_word (m := ⟨15, 2⟩) (meth := k15m2) (c := k15c2) (by decide +kernel) rfl rfl rfl (by decide +kernel)
set_option maxRecDepth 65536 in
theorem w_c16 : (Jvm.Cond.code ({ cls := "java/util/ArrayList", name := "grow", desc := "(I)[Ljava/lang/Object;" } : Jvm.MethodName) jdk_38_method_6_code (4 : Nat) (Option.some (Jvm.ClassFile.FieldType.array (Jvm.ClassFile.FieldType.object "java/lang/Object")))).before args0 about1 = true := code_word (m := ⟨15, 1⟩) (meth := k15m1) (c := k15c1) (by decide +kernel) rfl rfl rfl (by decide +kernel)
set_option maxRecDepth 65536 in
theorem w_c17 : (Jvm.Cond.code ({ cls := "java/lang/Math", name := "max", desc := "(II)I" } : Jvm.MethodName) jdk_29_method_65_code (2 : Nat) (Option.some Jvm.ClassFile.FieldType.int)).before args0 about1 = true := code_word (m := ⟨23, 1⟩) (meth := k23m1) (c := k23c1) (by decide +kernel) rfl rfl rfl (by decide +kernel)
set_option maxRecDepth 65536 in
theorem w_c18 : (Jvm.Cond.code ({ cls := "java/util/ImmutableCollections$ListItr", name := "hasNext", desc := "()Z" } : Jvm.MethodName) jdk_53_method_3_code (1 : Nat) (Option.some Jvm.ClassFile.FieldType.boolean)).before args0 about1 = true := code_word (m := ⟨21, 1⟩) (meth := k21m1) (c := k21c1) (by decide +kernel) rfl rfl rfl (by decide +kernel)
set_option maxRecDepth 65536 in
theorem w_c19 : (Jvm.Cond.code ({ cls := "com/example/caddis/caddis/StatementSet", name := "union", desc := "(Ljava/util/List;)Lcom/example/caddis/caddis/StatementSet$Cursor;" } : Jvm.MethodName) prog_43_method_9_code (5 : Nat) (Option.some (Jvm.ClassFile.FieldType.object "com/example/caddis/caddis/StatementSet$Cursor"))).before args0 about1 = true := code_word (m := ⟨4, 4⟩) (meth := k4m4) (c := k4c4) (by decide +kernel) rfl rfl rfl (by decide +kernel)
set_option maxRecDepth 65536 in
theorem w_c20 : (Jvm.Cond.code ({ cls := "java/util/PriorityQueue", name := "<init>", desc := "(Ljava/util/Comparator;)V" } : Jvm.MethodName) jdk_2655_method_3_code (2 : Nat) (Option.none : Option Jvm.ClassFile.FieldType)).before args0 about1 = true := code_word (m := ⟨26, 1⟩) (meth := k26m1) (c := k26c1) (by decide +kernel) rfl rfl rfl (by decide +kernel)
set_option maxRecDepth 65536 in
theorem w_c21 : (Jvm.Cond.code ({ cls := "java/util/PriorityQueue", name := "<init>", desc := "(ILjava/util/Comparator;)V" } : Jvm.MethodName) jdk_2655_method_4_code (3 : Nat) (Option.none : Option Jvm.ClassFile.FieldType)).before args0 about1 = true := code_word (m := ⟨26, 2⟩) (meth := k26m2) (c := k26c2) (by decide +kernel) rfl rfl rfl (by decide +kernel)
set_option maxRecDepth 65536 in
theorem w_c22 : (Jvm.Cond.code ({ cls := "java/util/AbstractQueue", name := "<init>", desc := "()V" } : Jvm.MethodName) jdk_2435_method_1_code (1 : Nat) (Option.none : Option Jvm.ClassFile.FieldType)).before args0 about1 = true := code_word (m := ⟨25, 0⟩) (meth := k25m0) (c := k25c0) (by decide +kernel) rfl rfl rfl (by decide +kernel)
set_option maxRecDepth 65536 in
theorem w_c23 : (Jvm.Cond.code ({ cls := "java/util/ArrayList", name := "iterator", desc := "()Ljava/util/Iterator;" } : Jvm.MethodName) jdk_38_method_55_code (1 : Nat) (Option.some (Jvm.ClassFile.FieldType.object "java/util/Iterator"))).before args0 about1 = true := code_word (m := ⟨15, 5⟩) (meth := k15m5) (c := k15c5) (by decide +kernel) rfl rfl rfl (by decide +kernel)
set_option maxRecDepth 65536 in
theorem w_c24 : (Jvm.Cond.code ({ cls := "java/util/ArrayList$Itr", name := "<init>", desc := "(Ljava/util/ArrayList;)V" } : Jvm.MethodName) jdk_49_method_1_code (2 : Nat) (Option.none : Option Jvm.ClassFile.FieldType)).before args0 about1 = true := code_word (m := ⟨28, 0⟩) (meth := k28m0) (c := k28c0) (by decide +kernel) rfl rfl rfl (by decide +kernel)
set_option maxRecDepth 65536 in
theorem w_c25 : (Jvm.Cond.code ({ cls := "java/util/ArrayList$Itr", name := "hasNext", desc := "()Z" } : Jvm.MethodName) jdk_49_method_2_code (1 : Nat) (Option.some Jvm.ClassFile.FieldType.boolean)).before args0 about1 = true := code_word (m := ⟨28, 1⟩) (meth := k28m1) (c := k28c1) (by decide +kernel) rfl rfl rfl (by decide +kernel)
set_option maxRecDepth 65536 in
theorem w_c26 : (Jvm.Cond.code ({ cls := "java/util/ArrayList$Itr", name := "next", desc := "()Ljava/lang/Object;" } : Jvm.MethodName) jdk_49_method_3_code (3 : Nat) (Option.some (Jvm.ClassFile.FieldType.object "java/lang/Object"))).before args0 about1 = true := code_word (m := ⟨28, 2⟩) (meth := k28m2) (c := k28c2) (by decide +kernel) rfl rfl rfl (by decide +kernel)
set_option maxRecDepth 65536 in
theorem w_c27 : (Jvm.Cond.code ({ cls := "java/util/ArrayList$Itr", name := "checkForComodification", desc := "()V" } : Jvm.MethodName) jdk_49_method_6_code (1 : Nat) (Option.none : Option Jvm.ClassFile.FieldType)).before args0 about1 = true := code_word (m := ⟨28, 3⟩) (meth := k28m3) (c := k28c3) (by decide +kernel) rfl rfl rfl (by decide +kernel)
set_option maxRecDepth 65536 in
theorem w_c28 : (Jvm.Cond.code ({ cls := "com/example/caddis/caddis/StatementSet", name := "lambda$cursorOf$3", desc := "(Ljava/util/Iterator;)Ljava/lang/String;" } : Jvm.MethodName) prog_43_method_20_code (2 : Nat) (Option.some (Jvm.ClassFile.FieldType.object "java/lang/String"))).before args0 about1 = true := code_word (m := ⟨4, 7⟩) (meth := k4m7) (c := k4c7) (by decide +kernel) rfl rfl rfl (by decide +kernel)
set_option maxRecDepth 65536 in
theorem w_c29 : (Jvm.Cond.code ({ cls := "com/example/caddis/caddis/StatementSet$Union", name := "<init>", desc := "(Ljava/util/PriorityQueue;)V" } : Jvm.MethodName) prog_49_method_1_code (2 : Nat) (Option.none : Option Jvm.ClassFile.FieldType)).before args0 about1 = true := code_word (m := ⟨29, 0⟩) (meth := k29m0) (c := k29c0) (by decide +kernel) rfl rfl rfl (by decide +kernel)
set_option maxRecDepth 65536 in
theorem w_c30 : (Jvm.Cond.code ({ cls := "com/example/caddis/caddis/StatementSet$Union", name := "next", desc := "()Ljava/lang/String;" } : Jvm.MethodName) prog_49_method_2_code (4 : Nat) (Option.some (Jvm.ClassFile.FieldType.object "java/lang/String"))).before args0 about1 = true := code_word (m := ⟨29, 1⟩) (meth := k29m1) (c := k29c1) (by decide +kernel) rfl rfl rfl (by decide +kernel)
set_option maxRecDepth 65536 in
theorem w_c31 : (Jvm.Cond.code ({ cls := "java/util/AbstractCollection", name := "isEmpty", desc := "()Z" } : Jvm.MethodName) jdk_22_method_4_code (1 : Nat) (Option.some Jvm.ClassFile.FieldType.boolean)).before args0 about1 = true := code_word (m := ⟨10, 2⟩) (meth := k10m2) (c := k10c2) (by decide +kernel) rfl rfl rfl (by decide +kernel)
set_option maxRecDepth 65536 in
theorem w_c32 : (Jvm.Cond.code ({ cls := "java/util/PriorityQueue", name := "size", desc := "()I" } : Jvm.MethodName) jdk_2655_method_23_code (1 : Nat) (Option.some Jvm.ClassFile.FieldType.int)).before args0 about1 = true := code_word (m := ⟨26, 3⟩) (meth := k26m3) (c := k26c3) (by decide +kernel) rfl rfl rfl (by decide +kernel)
set_option maxRecDepth 65536 in
theorem w_c33 : (Jvm.Cond.code ({ cls := "com/example/caddis/caddis/StatementSet", name := "close", desc := "()V" } : Jvm.MethodName) prog_43_method_6_code (1 : Nat) (Option.none : Option Jvm.ClassFile.FieldType)).before args0 about1 = true := code_word (m := ⟨4, 3⟩) (meth := k4m3) (c := k4c3) (by decide +kernel) rfl rfl rfl (by decide +kernel)
def codes1 : List Jvm.Cond := [Jvm.Cond.code x code maxLocals ret, Jvm.Cond.code ({ cls := "com/example/caddis/caddis/StatementSet", name := "empty", desc := "()Lcom/example/caddis/caddis/StatementSet;" } : Jvm.MethodName) prog_43_method_3_code (0 : Nat) (Option.some (Jvm.ClassFile.FieldType.object "com/example/caddis/caddis/StatementSet")), Jvm.Cond.code ({ cls := "java/util/List", name := "of", desc := "()Ljava/util/List;" } : Jvm.MethodName) jdk_40_method_36_code (0 : Nat) (Option.some (Jvm.ClassFile.FieldType.object "java/util/List")), Jvm.Cond.code ({ cls := "com/example/caddis/caddis/StatementSet", name := "<init>", desc := "(Ljava/util/List;Ljava/util/List;)V" } : Jvm.MethodName) prog_43_method_1_code (3 : Nat) (Option.none : Option Jvm.ClassFile.FieldType), Jvm.Cond.code ({ cls := "java/lang/Object", name := "<init>", desc := "()V" } : Jvm.MethodName) object_method_1_code (1 : Nat) (Option.none : Option Jvm.ClassFile.FieldType), Jvm.Cond.code ({ cls := "com/example/caddis/caddis/StatementSet", name := "cursor", desc := "()Lcom/example/caddis/caddis/StatementSet$Cursor;" } : Jvm.MethodName) prog_43_method_5_code (4 : Nat) (Option.some (Jvm.ClassFile.FieldType.object "com/example/caddis/caddis/StatementSet$Cursor")), Jvm.Cond.code ({ cls := "java/util/ArrayList", name := "<init>", desc := "()V" } : Jvm.MethodName) jdk_38_method_2_code (1 : Nat) (Option.none : Option Jvm.ClassFile.FieldType), Jvm.Cond.code ({ cls := "java/util/AbstractList", name := "<init>", desc := "()V" } : Jvm.MethodName) jdk_39_method_1_code (1 : Nat) (Option.none : Option Jvm.ClassFile.FieldType), Jvm.Cond.code ({ cls := "java/util/AbstractCollection", name := "<init>", desc := "()V" } : Jvm.MethodName) jdk_22_method_1_code (1 : Nat) (Option.none : Option Jvm.ClassFile.FieldType), Jvm.Cond.code ({ cls := "com/example/caddis/caddis/StatementSet", name := "cursorOf", desc := "(Ljava/util/List;)Lcom/example/caddis/caddis/StatementSet$Cursor;" } : Jvm.MethodName) prog_43_method_17_code (2 : Nat) (Option.some (Jvm.ClassFile.FieldType.object "com/example/caddis/caddis/StatementSet$Cursor")), Jvm.Cond.code ({ cls := "java/util/ImmutableCollections$AbstractImmutableList", name := "iterator", desc := "()Ljava/util/Iterator;" } : Jvm.MethodName) jdk_46_method_10_code (1 : Nat) (Option.some (Jvm.ClassFile.FieldType.object "java/util/Iterator")), Jvm.Cond.code ({ cls := "java/util/ImmutableCollections$ListN", name := "size", desc := "()I" } : Jvm.MethodName) jdk_45_method_3_code (1 : Nat) (Option.some Jvm.ClassFile.FieldType.int), Jvm.Cond.code ({ cls := "java/util/ImmutableCollections$ListItr", name := "<init>", desc := "(Ljava/util/List;I)V" } : Jvm.MethodName) jdk_53_method_1_code (3 : Nat) (Option.none : Option Jvm.ClassFile.FieldType), Jvm.Cond.code ({ cls := "java/util/ArrayList", name := "add", desc := "(Ljava/lang/Object;)Z" } : Jvm.MethodName) jdk_38_method_25_code (2 : Nat) (Option.some Jvm.ClassFile.FieldType.boolean), Jvm.Cond.code ({ cls := "java/util/ArrayList", name := "add", desc := "(Ljava/lang/Object;[Ljava/lang/Object;I)V" } : Jvm.MethodName) jdk_38_method_24_code (4 : Nat) (Option.none : Option Jvm.ClassFile.FieldType), Jvm.Cond.code ({ cls := "java/util/ArrayList", name := "grow", desc := "()[Ljava/lang/Object;" } : Jvm.MethodName) jdk_38_method_7_code (1 : Nat) (Option.some (Jvm.ClassFile.FieldType.array (Jvm.ClassFile.FieldType.object "java/lang/Object"))), Jvm.Cond.code ({ cls := "java/util/ArrayList", name := "grow", desc := "(I)[Ljava/lang/Object;" } : Jvm.MethodName) jdk_38_method_6_code (4 : Nat) (Option.some (Jvm.ClassFile.FieldType.array (Jvm.ClassFile.FieldType.object "java/lang/Object"))), Jvm.Cond.code ({ cls := "java/lang/Math", name := "max", desc := "(II)I" } : Jvm.MethodName) jdk_29_method_65_code (2 : Nat) (Option.some Jvm.ClassFile.FieldType.int), Jvm.Cond.code ({ cls := "java/util/ImmutableCollections$ListItr", name := "hasNext", desc := "()Z" } : Jvm.MethodName) jdk_53_method_3_code (1 : Nat) (Option.some Jvm.ClassFile.FieldType.boolean), Jvm.Cond.code ({ cls := "com/example/caddis/caddis/StatementSet", name := "union", desc := "(Ljava/util/List;)Lcom/example/caddis/caddis/StatementSet$Cursor;" } : Jvm.MethodName) prog_43_method_9_code (5 : Nat) (Option.some (Jvm.ClassFile.FieldType.object "com/example/caddis/caddis/StatementSet$Cursor")), Jvm.Cond.code ({ cls := "java/util/PriorityQueue", name := "<init>", desc := "(Ljava/util/Comparator;)V" } : Jvm.MethodName) jdk_2655_method_3_code (2 : Nat) (Option.none : Option Jvm.ClassFile.FieldType), Jvm.Cond.code ({ cls := "java/util/PriorityQueue", name := "<init>", desc := "(ILjava/util/Comparator;)V" } : Jvm.MethodName) jdk_2655_method_4_code (3 : Nat) (Option.none : Option Jvm.ClassFile.FieldType), Jvm.Cond.code ({ cls := "java/util/AbstractQueue", name := "<init>", desc := "()V" } : Jvm.MethodName) jdk_2435_method_1_code (1 : Nat) (Option.none : Option Jvm.ClassFile.FieldType), Jvm.Cond.code ({ cls := "java/util/ArrayList", name := "iterator", desc := "()Ljava/util/Iterator;" } : Jvm.MethodName) jdk_38_method_55_code (1 : Nat) (Option.some (Jvm.ClassFile.FieldType.object "java/util/Iterator")), Jvm.Cond.code ({ cls := "java/util/ArrayList$Itr", name := "<init>", desc := "(Ljava/util/ArrayList;)V" } : Jvm.MethodName) jdk_49_method_1_code (2 : Nat) (Option.none : Option Jvm.ClassFile.FieldType), Jvm.Cond.code ({ cls := "java/util/ArrayList$Itr", name := "hasNext", desc := "()Z" } : Jvm.MethodName) jdk_49_method_2_code (1 : Nat) (Option.some Jvm.ClassFile.FieldType.boolean), Jvm.Cond.code ({ cls := "java/util/ArrayList$Itr", name := "next", desc := "()Ljava/lang/Object;" } : Jvm.MethodName) jdk_49_method_3_code (3 : Nat) (Option.some (Jvm.ClassFile.FieldType.object "java/lang/Object")), Jvm.Cond.code ({ cls := "java/util/ArrayList$Itr", name := "checkForComodification", desc := "()V" } : Jvm.MethodName) jdk_49_method_6_code (1 : Nat) (Option.none : Option Jvm.ClassFile.FieldType), Jvm.Cond.code ({ cls := "com/example/caddis/caddis/StatementSet", name := "lambda$cursorOf$3", desc := "(Ljava/util/Iterator;)Ljava/lang/String;" } : Jvm.MethodName) prog_43_method_20_code (2 : Nat) (Option.some (Jvm.ClassFile.FieldType.object "java/lang/String")), Jvm.Cond.code ({ cls := "com/example/caddis/caddis/StatementSet$Union", name := "<init>", desc := "(Ljava/util/PriorityQueue;)V" } : Jvm.MethodName) prog_49_method_1_code (2 : Nat) (Option.none : Option Jvm.ClassFile.FieldType), Jvm.Cond.code ({ cls := "com/example/caddis/caddis/StatementSet$Union", name := "next", desc := "()Ljava/lang/String;" } : Jvm.MethodName) prog_49_method_2_code (4 : Nat) (Option.some (Jvm.ClassFile.FieldType.object "java/lang/String")), Jvm.Cond.code ({ cls := "java/util/AbstractCollection", name := "isEmpty", desc := "()Z" } : Jvm.MethodName) jdk_22_method_4_code (1 : Nat) (Option.some Jvm.ClassFile.FieldType.boolean), Jvm.Cond.code ({ cls := "java/util/PriorityQueue", name := "size", desc := "()I" } : Jvm.MethodName) jdk_2655_method_23_code (1 : Nat) (Option.some Jvm.ClassFile.FieldType.int), Jvm.Cond.code ({ cls := "com/example/caddis/caddis/StatementSet", name := "close", desc := "()V" } : Jvm.MethodName) prog_43_method_6_code (1 : Nat) (Option.none : Option Jvm.ClassFile.FieldType)]
set_option maxRecDepth 65536 in
theorem codes_eq : words1.filter isCode = codes1 := rfl
theorem w_codes : ∀ c ∈ words1.filter isCode, c.before args0 about1 = true := by
  rw [codes_eq]
  intro c hc
  simp only [codes1, List.mem_cons, List.not_mem_nil, or_false] at hc
  rcases hc with rfl | rfl | rfl | rfl | rfl | rfl | rfl | rfl | rfl | rfl | rfl | rfl | rfl | rfl | rfl | rfl | rfl | rfl | rfl | rfl | rfl | rfl | rfl | rfl | rfl | rfl | rfl | rfl | rfl | rfl | rfl | rfl | rfl | rfl
  · exact w_c0
  · exact w_c1
  · exact w_c2
  · exact w_c3
  · exact w_c4
  · exact w_c5
  · exact w_c6
  · exact w_c7
  · exact w_c8
  · exact w_c9
  · exact w_c10
  · exact w_c11
  · exact w_c12
  · exact w_c13
  · exact w_c14
  · exact w_c15
  · exact w_c16
  · exact w_c17
  · exact w_c18
  · exact w_c19
  · exact w_c20
  · exact w_c21
  · exact w_c22
  · exact w_c23
  · exact w_c24
  · exact w_c25
  · exact w_c26
  · exact w_c27
  · exact w_c28
  · exact w_c29
  · exact w_c30
  · exact w_c31
  · exact w_c32
  · exact w_c33
set_option maxRecDepth 65536 in
theorem w_t1 : (words1.take 24).all (fun c => isCode c || c.before args0 about1) = true := by decide +kernel
set_option maxRecDepth 65536 in
theorem w_t2 : ((words1.drop 24).take 24).all (fun c => isCode c || c.before args0 about1) = true := by decide +kernel
set_option maxRecDepth 65536 in
theorem w_t3 : (((words1.drop 24).drop 24).take 24).all (fun c => isCode c || c.before args0 about1) = true := by decide +kernel
set_option maxRecDepth 65536 in
theorem w_t4 : ((((words1.drop 24).drop 24).drop 24).take 24).all (fun c => isCode c || c.before args0 about1) = true := by decide +kernel
set_option maxRecDepth 65536 in
theorem w_t5 : (((((words1.drop 24).drop 24).drop 24).drop 24).take 24).all (fun c => isCode c || c.before args0 about1) = true := by decide +kernel
set_option maxRecDepth 65536 in
theorem w_t6 : ((((((words1.drop 24).drop 24).drop 24).drop 24).drop 24).take 24).all (fun c => isCode c || c.before args0 about1) = true := by decide +kernel
set_option maxRecDepth 65536 in
theorem w_t7 : (((((((words1.drop 24).drop 24).drop 24).drop 24).drop 24).drop 24).take 24).all (fun c => isCode c || c.before args0 about1) = true := by decide +kernel
set_option maxRecDepth 65536 in
theorem w_t8 : ((((((((words1.drop 24).drop 24).drop 24).drop 24).drop 24).drop 24).drop 24).take 24).all (fun c => isCode c || c.before args0 about1) = true := by decide +kernel
set_option maxRecDepth 65536 in
theorem w_t9 : (((((((((words1.drop 24).drop 24).drop 24).drop 24).drop 24).drop 24).drop 24).drop 24).take 24).all (fun c => isCode c || c.before args0 about1) = true := by decide +kernel
set_option maxRecDepth 65536 in
theorem w_t10 : ((((((((((words1.drop 24).drop 24).drop 24).drop 24).drop 24).drop 24).drop 24).drop 24).drop 24).take 24).all (fun c => isCode c || c.before args0 about1) = true := by decide +kernel
set_option maxRecDepth 65536 in
theorem w_t11 : ((((((((((words1.drop 24).drop 24).drop 24).drop 24).drop 24).drop 24).drop 24).drop 24).drop 24).drop 24).all (fun c => isCode c || c.before args0 about1) = true := by decide +kernel
theorem w_tables : (allAtoms (Jvm.Cond.code x code maxLocals ret :: tables_1)).before args0 about1 = true := by
  rw [allAtoms_all]
  show words1.all (fun c => c.before args0 about1) = true
  refine all_split ?_ w_codes
  rw [← List.take_append_drop 24 words1, List.all_append, w_t1, ← List.take_append_drop 24 (words1.drop 24), List.all_append, w_t2, ← List.take_append_drop 24 ((words1.drop 24).drop 24), List.all_append, w_t3, ← List.take_append_drop 24 (((words1.drop 24).drop 24).drop 24), List.all_append, w_t4, ← List.take_append_drop 24 ((((words1.drop 24).drop 24).drop 24).drop 24), List.all_append, w_t5, ← List.take_append_drop 24 (((((words1.drop 24).drop 24).drop 24).drop 24).drop 24), List.all_append, w_t6, ← List.take_append_drop 24 ((((((words1.drop 24).drop 24).drop 24).drop 24).drop 24).drop 24), List.all_append, w_t7, ← List.take_append_drop 24 (((((((words1.drop 24).drop 24).drop 24).drop 24).drop 24).drop 24).drop 24), List.all_append, w_t8, ← List.take_append_drop 24 ((((((((words1.drop 24).drop 24).drop 24).drop 24).drop 24).drop 24).drop 24).drop 24), List.all_append, w_t9, ← List.take_append_drop 24 (((((((((words1.drop 24).drop 24).drop 24).drop 24).drop 24).drop 24).drop 24).drop 24).drop 24), List.all_append, w_t10, w_t11]
  rfl
set_option maxRecDepth 65536 in
theorem w_rest : rest_1_c.before args0 about1 = true := by decide +kernel
set_option maxRecDepth 65536 in
theorem w_case : (Jvm.Cond.and given_1 narrow_1).before args0 about1 = true := by decide +kernel
theorem w_applies : (headSpec (Jvm.Cond.code x code maxLocals ret :: tables_1) room_1).applies x e0.platform about1 = true :=
  (Spec.applies_iff w_frames).mpr ⟨w_running, w_runnable, w_alone, w_named, w_hears, w_ripe, w_room, w_tables⟩
theorem atStart : AtStart classFile x code maxLocals ret World_1 tables_1 room_1 Calls_1 rest_1 Pre_1 launch0 p0 e0 about1 theMethod args0 below0 :=
  ⟨lists_1, trivial, launch0.admits_env _ _ _, launch0.least_env, fairChoices_fair.cas, fairChoices_fair.clock, w_frames, w_args, w_heap, w_applies, trivial, w_rest, w_case⟩
end start1
theorem witness_1 : WitnessClaimed_1 := ⟨start1.p0, start1.e0, start1.about1, start1.theMethod, start1.args0, start1.below0, start1.atStart⟩
end Jvm.Pilot.@@N@@
