import JvmDerived
import JvmDerived.Pilot.@@N@@Statement
import JvmDerived.Pilot.@@N@@Code
set_option linter.unusedVariables false
set_option linter.unusedSimpArgs false
namespace Jvm.RoadKit
open Sem ClassFile Op Lib Jvm.Stand Jvm.Free Jvm.LawKit
section New
variable {p : Program} {l : Launch} {e : Env} {R : Room} {s : State} {m : MethodId} {args : Array Value} {below : List Frame} {meth : Method} {c : Code} {T : State} {locs : List Loc} {cells slots : Nat}
theorem retI (X : Stand p l e R s m args below meth c T locs cells slots) (hx : p.tables.exec = Jvm.exec) {pc : Nat} {Ls : Array Slot} {z : Int32} {rest : List Value} (hret : meth.sig.returnType = some .int) (hd : decode c.code pc = .ok (.ireturn, 1)) {fs : List Frame}
    (hl : ∀ (f : JFrame) (acts : List Action), f.method = m → f.locked = none → f.entered = [] → (doReturn e (T.setTop f) acts (some (.int z))).1 = T.setFrames fs) : Steps p.tables e below (T.setTop (mkF m pc Ls (.int z :: rest))) (T.setFrames fs) := by
  have hm' : T.vm.method? m = some meth := X.method'
  have hn : narrow .int (.int z) = .int z := rfl
  show Steps p.tables e below (T.setTop { method := m, pc := pc, locals := Ls, stack := _ :: rest, locked := none }) _
  jvm_step X.here [X.here.top, hx, hd, hm', hret, hn]
  first | (intro acts; rw [hl _ acts rfl rfl rfl]) | rw [hl _ _ rfl rfl rfl]
  exact Steps.refl _
end New
end Jvm.RoadKit
@@BLOCK:TracedD.lean.txt@@
namespace Jvm.Pilot.@@N@@
open Jvm Jvm.ClassFile Sem Op Lib Jvm.Free Jvm.Stand Jvm.LawKit Jvm.RoadKit Bundle Jvm.Pilot.@@N@@.Jvm.D
/-- from the state A the run comes to the frame f over T -/
abbrev Go (tb : Tables) (e : Env) (below : List Frame) (A T : State) (f : JFrame) : Prop := ∀ t, Steps tb e below (T.setTop f) t → Steps tb e below A t

section OwnExc
variable {p : Program} {l : Launch} {e : Env} {R : Room} {s : State} {m : MethodId} {args : Array Value} {below : List Frame} {meth : Method} {c : Code} {T : State} {locs : List Loc} {cells slots : Nat} {Z : State} {av0 : Array Value} {h : Heap}
/-- the end of a body that may have interned, whatever its outcome -/
def own_EndW (U U' : State) (L : List Loc) (k n : Nat) : Prop := U.Warmed39 U'.vm ∧ U.Booked U'.vm U'.heap.size ∧ U.sameButNew ({ U' with vm := U.vm } : State) L k n
/-- what the trace of an exception asks of a start -/
def own_K (_ : Program) (_ : Env) (bl : List Frame) (st : State) (_ : Array Value) : Prop := st.vm.MethodsKnown ∧ st.vm.FramesKnown bl
theorem own_known (X : Stand p l e R s m args below meth c T locs cells slots) (hTK : s.vm.MethodsKnown) (hBelow : s.vm.FramesKnown below) {g : JFrame} (hg : g.method = m) (mk : MethodId) (a' : Array Value) : own_K p e (T.setTop g).frames (T.calling g mk a') a' := by
  have hal : s.vm.Alike T.vm := X.warmed.alike
  obtain ⟨g₀, hfr⟩ := X.frames_eq
  have hvm : (T.calling g mk a').vm = T.vm := by rw [State.calling_eq X.here.top]; rfl
  refine ⟨by rw [hvm]; exact hTK.alikeC hal, ?_⟩
  rw [hvm, State.frames_setTop _ hfr]
  intro y hy m' hm'
  rcases List.mem_cons.mp hy with rfl | hy
  · obtain rfl : m' = m := by cases hm'; exact hg
    exact knowsMethod_alike hal (hTK _ meth X.method)
  · exact knowsMethod_alike hal (hBelow y hy m' hm')
/-- 'invokestatic' of a callee that may intern, and that returns or throws -/
theorem own_call (X : Stand p l e R s m args below meth c T locs cells slots) (hx : p.tables.exec = Jvm.exec) {own : String} {index : Nat} {y : MethodName} (hown : s.vm.findClass own = some m.cls) (hlink : (Cond.methodLink own index y).before args s = true) (hstat : (Cond.static y).before args s = true) (hinit : (Cond.initialized y.cls).before args s = true)
    {mk : MethodId} {methM : Method} {cM : Code} {maxL : Nat} (hnamed : s.methodNamed? y = some mk) (hmethM : s.vm.method? mk = some methM) (hcM : methM.code = some cM) (hlM : cM.maxLocals = maxL) (hsig : parseMethodDescriptor y.desc = some methM.sig)
    (hy : y.cls ≠ "java/lang/invoke/MethodHandle" ∧ y.cls ≠ "java/lang/invoke/VarHandle")
    {S : Spec} {P : Array Value → State → Prop} {G : Outcome → Heap → List Loc → Prop}
    (hM : MetFree l y S P own_K (fun _ U o U' => ∃ L, G o U'.heap L ∧ own_EndW U U' L S.room.cells S.room.slots))
    (hTK : s.vm.MethodsKnown) (hBelow : s.vm.FramesKnown below)
    {g : JFrame} (hg : g.method = m) (hsize : g.locals.size = c.maxLocals) {argsL rest : List Value} (hlen : ∀ sig, parseMethodDescriptor y.desc = some sig → argsL.length = sig.parameters.length) (hstack : g.stack = argsL.reverse ++ rest)
    (hdg : decode c.code g.pc = .ok (.invokestatic index, 3))
    (hframes : S.room.frames + 1 ≤ R.frames) (hlocals : 2 * g.monitorRoom + (rest.map fun v => v.category).sum + (maxL + 11) + S.room.locals ≤ R.locals) (hcells : cells + S.room.cells ≤ R.cells) (hslots : slots + S.room.slots ≤ R.slots)
    (hS : ∀ U : State, s.WarmedH U.vm → S.pre.before argsL.toArray U = true) (hP : ∀ U : State, s.WarmedH U.vm → U.heap = T.heap → P argsL.toArray U) :
    ∃ (o : Outcome) (U : State) (L : List Loc), G o U.heap L ∧ Stand p l e R (s.setVm U.vm) m args below meth c U (locs ++ L) (cells + S.room.cells) (slots + S.room.slots) ∧ s.Since U.vm U.heap.size ∧
      (∀ v, o = .returned v → Steps p.tables e below (T.setTop g) (U.setTop { g with pc := g.pc + 3, stack := v.toList ++ rest })) ∧
      (∀ x, o = .threw x → Steps p.tables e below (T.setTop g) ((U.setTop { g with stack := rest }).pushFrame (.throwing x))) := by
  obtain ⟨kP, hkP, -⟩ := className_of_methodNamed hnamed
  have hinitP : kP.init = .initialized := Cond.initialized_spec (findClass_of_methodNamed hnamed) hkP hinit
  obtain ⟨vm₁, X₁, hstep₁⟩ := X.invokestatic hx hown hlink hnamed hmethM (Cond.static_spec hnamed hmethM hstat) hkP hinitP hy (g := g) hg (argsL := argsL) (rest := rest) (hlen _ hsig) hstack hdg
  have hW : s.WarmedH (T.setVm vm₁).vm := X₁.warmed
  obtain ⟨kP₁, hkP₁, heP₁⟩ := hW.alike.2.2 _ _ hkP
  have hTh : (T.setVm vm₁).heap = T.heap := rfl
  generalize hU : T.setVm vm₁ = U at X₁ hW hkP₁ hstep₁ hTh
  generalize hf : ({ g with stack := rest } : JFrame) = f at hstep₁
  have hfg : f.method = m := by rw [← hf]; exact hg
  have hfpc : f.pc = g.pc := by rw [← hf]
  have hAt : At U f.method c below := by rw [hfg]; exact X₁.here
  have hdf : decode c.code f.pc = .ok (.invokestatic index, 3) := by rw [hfpc]; exact hdg
  have happ : S.appliesLoose y e.platform (U.calling f mk argsL.toArray) = true :=
    Spec.appliesLoose_calling (g := f) hAt hdf (X₁.named hnamed) hkP₁ (by rw [heP₁]; exact hinitP)
      (X₁.room_calling (g := f) (R' := S.room) (by rw [← hf]; exact hsize) (by rw [hW.alike.method?]; exact hmethM) hcM hframes (by rw [hlM, ← hf]; exact hlocals) hcells hslots) (hS _ hW)
  obtain ⟨mid, hmid⟩ := hAt.above
  have hfr : (U.setTop f).frames = (.java f :: mid) ++ below := by rw [State.frames_setTop' f hAt.top, hmid]; rfl
  have hcv : (U.calling f mk argsL.toArray).vm = U.vm := by rw [State.calling_eq hAt.top]; rfl
  have hch : (U.calling f mk argsL.toArray).heap = U.heap := by rw [State.calling_eq hAt.top]; rfl
  have hP1 : P argsL.toArray (U.calling f mk argsL.toArray) := hP _ (by rw [hcv]; exact hW) (by rw [hch]; exact hTh)
  obtain ⟨o, s₂, hsteps, -, hend, hq⟩ := Steps.callFree hM p X₁.admits X₁.cas X₁.clock (acts := []) hfr happ hP1 (own_known X₁ hTK hBelow hfg mk _)
  have hq' : ∃ L, G o s₂.heap L ∧ own_EndW (U.calling f mk argsL.toArray) s₂ L S.room.cells S.room.slots := hq
  obtain ⟨L, hG, hW₂, hB₂, hsame⟩ := hq'
  rw [State.frames_setTop' f hAt.top, X₁.tail] at hend
  have hW' : U.Warmed39 s₂.vm := hW₂
  have hWs : s.Warmed39 s₂.vm := State.Warmed39.trans hW.wide hW'
  have hS' : s.Since s₂.vm s₂.heap.size := ⟨hWs, fun j q hj hq => by
    obtain ⟨x, y⟩ := hB₂ j q (by rw [hcv, hW.interned_eq]; exact hj) hq
    exact ⟨Nat.le_trans X₁.same.2.1 (show U.heap.size ≤ q.2 by rw [← hch]; exact x), y⟩⟩
  have hw0 : (U.calling f mk argsL.toArray).WarmedH (s₂.setVm U.vm).vm := by rw [show (s₂.setVm U.vm).vm = (U.calling f mk argsL.toArray).vm from hcv.symm]; exact State.WarmedH.refl _
  cases o with
  | returned v =>
    obtain ⟨c₂, i₂, len₂, hc₂, hd₂, hf₂⟩ := hend
    have hc₃ : (s₂.setVm U.vm).code? f.method = some c₂ := by
      rw [State.code?_eq] at hc₂ ⊢
      rw [show (s₂.setVm U.vm).vm = U.vm from rfl, ← hW'.alike.method?]; exact hc₂
    obtain ⟨T', XT, -, -, htT⟩ := X₁.outOf hfg hdf (mk := mk) (a := argsL.toArray) (t := s₂.setVm U.vm) (v := v) (L := L) (k := S.room.cells) (n := S.room.slots) ⟨c₂, i₂, len₂, hc₃, hd₂, hf₂⟩ hw0 hsame
    have hh : s₂.heap = T'.heap := by have q : (s₂.setVm U.vm).heap = _ := congrArg State.heap htT; exact q
    have h2 : s₂ = (T'.setVm s₂.vm).setTop { f with pc := f.pc + 3, stack := v.toList ++ f.stack } := by
      have := congrArg (fun z : State => z.setVm s₂.vm) htT
      exact this
    refine ⟨.returned v, T'.setVm s₂.vm, L, by show G _ T'.heap L; rw [← hh]; exact hG, XT.retabled hWs, by show s.Since s₂.vm T'.heap.size; rw [← hh]; exact hS', fun v' hv => ?_, (fun x hv => nomatch hv)⟩
    cases hv
    have hfin : ({ g with pc := g.pc + 3, stack := v.toList ++ rest } : JFrame) = { f with pc := f.pc + 3, stack := v.toList ++ f.stack } := by rw [← hf]
    rw [hfin, ← h2]
    exact hstep₁ _ fun acts => by rw [doInvoke_state]; exact hsteps
  | threw x =>
    have hf₂ : (s₂.setVm U.vm).frames = .throwing x :: .java f :: below := hend
    obtain ⟨T', XT, -, -, htT⟩ := X₁.outOfThrown hfg (mk := mk) (a := argsL.toArray) (t := s₂.setVm U.vm) (x := x) (L := L) (k := S.room.cells) (n := S.room.slots) hf₂ hw0 hsame
    have hh : s₂.heap = T'.heap := by have q : (s₂.setVm U.vm).heap = _ := congrArg State.heap htT; exact q
    have h2 : s₂ = ((T'.setVm s₂.vm).setTop f).pushFrame (.throwing x) := by
      have := congrArg (fun z : State => z.setVm s₂.vm) htT
      exact this
    refine ⟨.threw x, T'.setVm s₂.vm, L, by show G _ T'.heap L; rw [← hh]; exact hG, XT.retabled hWs, by show s.Since s₂.vm T'.heap.size; rw [← hh]; exact hS', (fun v hv => nomatch hv), fun x' hv => ?_⟩
    cases hv
    rw [← h2]
    exact hstep₁ _ fun acts => by rw [doInvoke_state]; exact hsteps
end OwnExc

open LibCode.Throwable in
/-- what the sheet says of Throwable, with the field suppressedExceptions by the subclass X alone -/
def own_thA (X : String) : List Cond := [
  .initialized tN, .superclass tN "java/lang/Object",
  .instanceMethod tFill, .codeSync tFill Fill.code 1 (some (.object tN)), .instanceMethod tFill0, .native tFill0,
  .instanceMethod tInit0, .code tInit0 Init0.code 1 none, .instanceMethod oInit, .code oInit ⟨#[0xb1]⟩ 1 none,
  .methodLink tN 1 oInit, .methodLink tN 27 tFill, .methodLink tN 202 tFill0,
  .fieldLink tN 7 tN "cause" "Ljava/lang/Throwable;", .lays X tN "cause" "Ljava/lang/Throwable;",
  .fieldLink tN 17 tN "stackTrace" steD, .lays X tN "stackTrace" steD,
  .fieldLink tN 24 tN "suppressedExceptions" listD, .lays X tN "suppressedExceptions" listD,
  .fieldLink tN 13 tN "UNASSIGNED_STACK" steD, .laysStatic tN "UNASSIGNED_STACK" steD,
  .fieldLink tN 20 tN "SUPPRESSED_SENTINEL" listD, .laysStatic tN "SUPPRESSED_SENTINEL" listD,
  .lays tN tN "detailMessage" "Ljava/lang/String;"]
theorem own_pars {x : MethodName} {sig : MethodDescriptor} {ps : List FieldType} (hs : parseMethodDescriptor x.desc = some sig) (hp : (parseMethodDescriptor x.desc).map (·.parameters) = some ps) : sig.parameters = ps := by
  rw [hs] at hp; exact Option.some.inj hp
theorem own_thr {args : Array Value} {s : State} {pl : Platform} {X : String} {cX : ClassId} {kX : Class} (hX : s.vm.findClass X = some cX) (hkX : s.vm.classes[cX]? = some kX) (p1 : pl.frameOwnsMonitors = true) (p2 : pl.finalization = false) (p3 : pl.magicAccessors = ({} : Platform).magicAccessors)
    (h : ∀ c ∈ own_thA X, c.before args s = true) : ∃ (T : ThrowableC) (Z : Init0T), T.Links pl s ∧ Z.Laid T.toThrowableT ∧ Ties T Z s := by
  have w : ∀ (c : Cond) (i : Nat), (own_thA X)[i]? = some c → c.holds args s none s [] = true := fun c i q => h c (List.mem_of_getElem? q)
  -- the class
  obtain ⟨⟨t, j0⟩, mN, qN, vN, aN, bN, lN, gN⟩ := Cond.native_spec (w _ 5 rfl)
  have ht : s.vm.findClass tN = some t := findClass_of_methodNamed qN
  obtain ⟨kt, hkt, hnm⟩ := Vm.findClass_spec ht
  obtain ⟨-, kt', -, -, hkt', -, -, hord, -, hface⟩ := Cond.superclass_spec ht (w _ 1 rfl)
  obtain rfl : kt = kt' := Option.some.inj (hkt.symm.trans hkt')
  -- its methods
  obtain ⟨jF, mF, qF, vF, iF, sF, bF, -, -⟩ := Cond.ownMethod (x := tFill) ht hkt (w _ 2 rfl)
  obtain ⟨mF', cF, vF', eF, yF, xF, rF, lF, -, gF⟩ := Cond.codeSync_spec qF (w _ 3 rfl)
  obtain rfl : mF = mF' := Option.some.inj (vF.symm.trans vF')
  obtain ⟨jN, mN', qN', vN', iN, sN, abN, nN, dN⟩ := Cond.ownMethod (x := tFill0) ht hkt (w _ 4 rfl)
  obtain rfl : j0 = jN := by have := Option.some.inj (qN.symm.trans qN'); simpa using this
  obtain rfl : mN = mN' := Option.some.inj (vN.symm.trans vN')
  obtain ⟨jI, mI, qI, vI, iI, -, -, -, -⟩ := Cond.ownMethod (x := tInit0) ht hkt (w _ 6 rfl)
  obtain ⟨mI', cI, vI', eI, yI, xI, -, lI, -, -⟩ := Cond.code_spec qI (w _ 7 rfl)
  obtain rfl : mI = mI' := Option.some.inj (vI.symm.trans vI')
  -- Object's constructor
  obtain ⟨oM, mO, qO, vO, sO, abO⟩ := Cond.instanceMethod_spec (w _ 8 rfl)
  obtain ⟨mO', cO, vO', eO, yO, xO, -, lO, -, gO⟩ := Cond.code_spec qO (w _ 9 rfl)
  obtain rfl : mO = mO' := Option.some.inj (vO.symm.trans vO')
  obtain ⟨kO, hkO, nkO⟩ := Vm.findClass_spec (findClass_of_methodNamed qO)
  obtain ⟨nO, dO⟩ := name_of_methodNamed qO vO
  -- the links of methods
  obtain ⟨c1, n1, cf, l1, r1, f1, u1⟩ := Cond.linkedMethod ht hkt qO (w _ 10 rfl) pl p3
  obtain ⟨c27, n27, cf2, l27, r27, f27, u27⟩ := Cond.linkedMethod ht hkt qF (w _ 11 rfl) pl p3
  obtain ⟨c202, n202, cf3, l202, r202, f202, u202⟩ := Cond.linkedMethod ht hkt qN (w _ 12 rfl) pl p3
  obtain rfl : cf = cf2 := Option.some.inj (f1.symm.trans f27)
  obtain rfl : cf = cf3 := Option.some.inj (f1.symm.trans f202)
  -- the fields
  obtain ⟨c7, i7, g7, l7, r7, a7, s7, t7, n7, y7, q7⟩ := Cond.ownField (t := .object tN) ht hkt (by decide +kernel) (w _ 13 rfl) (w _ 14 rfl) pl p3
  obtain ⟨c17, i17, g17, l17, r17, a17, s17, t17, n17, y17, q17⟩ := Cond.ownField (t := .array (.object "java/lang/StackTraceElement")) ht hkt (by decide +kernel) (w _ 15 rfl) (w _ 16 rfl) pl p3
  obtain ⟨c24, i24, g24, l24, r24, a24, s24, t24, n24, y24, q24⟩ := Cond.ownField (t := .object "java/util/List") ht hkt (by decide +kernel) (w _ 17 rfl) (w _ 18 rfl) pl p3
  obtain ⟨c13, i13, g13, aS, zS, l13, r13, a13, s13, -, -, eS, hzS, isS, -, -, q13⟩ := Cond.ownStatic (t := .array (.object "java/lang/StackTraceElement")) ht hkt (by decide +kernel) (w _ 19 rfl) (w _ 20 rfl) pl p3
  obtain ⟨c20, i20, g20, -, -, l20, r20, a20, s20, -, -, -, -, -, -, -, q20⟩ := Cond.ownStatic (t := .object "java/util/List") ht hkt (by decide +kernel) (w _ 21 rfl) (w _ 22 rfl) pl p3
  obtain ⟨-, -, cM, kM, iM, gM, -, -, qM, sM, fM, -⟩ := Cond.lays_spec (w _ 23 rfl)
  obtain rfl : t = cM := Option.some.inj (ht.symm.trans (Cond.lays_declared (w _ 23 rfl) qM))
  obtain rfl : kt = kM := Option.some.inj (hkt.symm.trans (State.fieldFound?_spec qM).1)
  -- two slots apart, as the subclass lays them
  obtain ⟨-, d17, b17, m17⟩ := Cond.laysAt hX hkX q17 (w _ 16 rfl)
  obtain ⟨-, d24, b24, m24⟩ := Cond.laysAt hX hkX q24 (w _ 18 rfl)
  have far : g17.slot ≠ g24.slot := Cond.laysApart b17 b24 m17 m24 (by rw [n17, n24]; decide)
  have z1 : mF.sig.parameters = [] := own_pars gF (by decide +kernel)
  have z2 : mN.sig.parameters = [.int] := own_pars gN (by decide +kernel)
  have z3 : mO.sig.parameters = [] := own_pars gO (by decide +kernel)
  exact ⟨⟨⟨t, kt, t, aS, jF, j0, jI, oM, kO, mF, mN, mI, mO, cF, cI, cO, g7, g7, g17, g7, g24, gM, g13, g20⟩, cf, c1, n1, c27, n27, c202, n202, c7, i7, c13, i13, c17, i17, c20, i20, c24, i24⟩, ⟨jI, mI, cI⟩, by
    constructor <;> first | assumption | exact Vm.findClass_boot ht hkt | exact Cond.initialized_spec ht hkt (w _ 0 rfl) | (rw [dO]; exact lookupSpecial_of_named qO vO sO) | (rw [z3]; rfl), ⟨iI, eI, yI, xI, lI⟩,
    ⟨ht, qF, qN, qI, xO, hord, q7, q17, q24, q13, q20, ⟨iM, qM⟩, (State.fieldFound?_type qM (t := .object "java/lang/String") (by decide +kernel)).2, n7, n17, n24, y7, y17, y24, zS, hzS, isS⟩⟩

open LibCode.Throwable
abbrev own_AE : String := "java/lang/ArithmeticException"
abbrev own_up : List String := ["java/lang/RuntimeException", "java/lang/Exception"]
/-- the sheet's words on the exception's constructor, called from the class own by its entry ic -/
def own_exA (own : String) (ic : Nat) : List Cond := own_thA own_AE ++ throwableSAtoms ++ chainSAtoms own_AE own_up ++ [
  .methodLink own ic (initS own_AE), .instantiable own_AE 6, .selects own_AE tFill0 tFill0, .selects own_AE tFill tFill,
  .lays own_AE tN "detailMessage" "Ljava/lang/String;", .lays own_AE tN "backtrace" "Ljava/lang/Object;", .lays own_AE tN "depth" "I",
  .lays tN tN "backtrace" "Ljava/lang/Object;", .fieldLink tN 198 tN "backtrace" "Ljava/lang/Object;",
  .arrayOver (.object "java/lang/Object"), .soleField tN "backtrace", .soleField tN "depth"]
set_option maxRecDepth 65536 in
theorem own_ar1 {a n r : Nat} (h : a + (n + 2762) ≤ r) : a + 6 + (n + 4) + 2752 ≤ r := by omega
set_option maxRecDepth 65536 in
theorem own_ar2 (a n : Nat) : a + 6 + (n + 4) + 2752 ≤ a + (n + 2762) := by omega
theorem own_ar3 {a r : Nat} (h : a + 4 ≤ r) : a + 1 + 2 + 1 ≤ r := h
section OwnThrow
variable {p : Program} {l : Launch} {e : Env} {R : Room} {s : State} {m : MethodId} {args : Array Value} {below : List Frame} {meth : Method} {c : Code} {T : State} {locs : List Loc} {cells slots : Nat} {Z : State} {av0 : Array Value} {h : Heap}
/-- a static of Throwable in a heap that keeps the statics' cell -/
theorem own_stat (hZ : Z.Warmed39 s.vm) (hT : ThS Z h) {F D : String} (w : (Cond.laysStatic tN F D).before av0 Z = true) (r : (Cond.isRef (.static tN F D)).before av0 Z = true)
    {cl i st : Nat} {k : Class} {f : Field} (hf : s.fieldFound? tN F D = some (cl, k, i, f)) (hst : k.statics = some st) :
    ∃ (cell : Cell) (u : RefV), h[st]? = some cell ∧ cell.vm.isStatics = true ∧ cell.slots[f.slot]? = some u.v ∧ (Term.static tN F D).eval av0 Z none [] Z = some u.v := by
  obtain ⟨c1, k1, i1, f1, a1, cell, q1, q2, q3, q4, q5, q6, -⟩ := Cond.laysStatic_spec w
  obtain ⟨k2, q7, q8⟩ := State.fieldFound?_setVm hZ.alike q2
  cases hf.symm.trans q7
  have q9 : k.statics = some a1 := by rw [q8]; exact q4
  obtain rfl : a1 = st := Option.some.inj (q9.symm.trans hst)
  obtain ⟨u, hu⟩ := Cond.staticRefV q2 q3 q4 q5 q6 r
  exact ⟨cell, u, hT _ _ _ _ q1 (State.fieldFound?_class q2) q4 q5 q6, q6, hu, by simp [Term.eval, State.fieldNamed?, q2, q3, q4, q5, q6, hu]⟩
theorem own_nonnull {t : Term} {ty : FieldType} {v : Value} (w : (Cond.arrayOf t ty).before av0 Z = true) (q : t.eval av0 Z none [] Z = some v) : v ≠ .null := by
  rintro rfl
  simp only [Cond.before, Cond.holds, Cond.value, q] at w
  split at w <;> simp at w
theorem own_sel (X : Stand p l e R s m args below meth c T locs cells slots) {C : String} {x : MethodName} {cX : ClassId} {M : MethodId} (w : (Cond.selects C x x).before args s = true) (hX : s.vm.findClass C = some cX) (hM : s.methodNamed? x = some M) (hx : x.cls ≠ "java/lang/Object" ∨ True) (hf : s.methodFound? x.cls x.name x.desc = some M) :
    selectMethod e.platform s.vm cX M = .method M := by
  obtain ⟨c2, r2, m2, q1, q2, q3, q4, -⟩ := Cond.selects_spec w
  cases q1.symm.trans hX
  cases q2.symm.trans hf
  cases q3.symm.trans hM
  rw [Launch.admits_selectMethod X.admits]; exact q4
set_option maxHeartbeats 1000000 in
/-- the exception's constructor on an object just made, and 'athrow' behind it, in a body without handlers there -/
theorem own_ctorThrow (X : Stand p l e R s m args below meth c T locs cells slots) (hx : p.tables.exec = Jvm.exec) (htr : e.platform.stackTraces = true) (hZ : Z.Warmed39 s.vm) {own : String} {ic : Nat} (hown : s.vm.findClass own = some m.cls)
    (hA : ∀ d ∈ own_exA own ic, d.before av0 Z = true)
    (r1 : (Cond.isRef (.static tN "UNASSIGNED_STACK" steD)).before av0 Z = true) (r2 : (Cond.isRef (.static tN "SUPPRESSED_SENTINEL" listD)).before av0 Z = true) (r3 : (Cond.arrayOf (.static tN "UNASSIGNED_STACK" steD) (.object "java/lang/StackTraceElement")).before av0 Z = true)
    (hT0 : ThS Z s.heap) (hT : ThS Z T.heap) (hTK : s.vm.MethodsKnown) (hBelow : s.vm.FramesKnown below)
    {a : Addr} {cX : ClassId} {kX : Class} (hX : s.vm.findClass own_AE = some cX) (hkX : s.vm.classes[cX]? = some kX) (hcell : T.heap[a]? = some (Jvm.freshCell cX kX)) {msg : Value} (hmsg : msg.isRef = true)
    {g : JFrame} (hg : g.method = m) (hsize : g.locals.size = c.maxLocals) (hlocked : g.locked = none) (hentered : g.entered = []) (hstack : g.stack = [msg, .ref a, .ref a])
    (hd : decode c.code g.pc = .ok (.invokespecial ic, 3)) (hd3 : decode c.code (g.pc + 3) = .ok (.athrow, 1)) (hout : ∀ x ∈ c.exceptionTable.toList, covers x (g.pc + 3) = false) (hlocks : meth.locks = false)
    (hRf : 6 ≤ R.frames) (hRl : 2 * g.monitorRoom + 82 ≤ R.locals) (hRc : cells + 1 ≤ R.cells) (hRs : slots + 2752 ≤ R.slots) :
    ∃ (U : State) (L : List Loc), Steps p.tables e below (T.setTop g) U ∧ U.status = .running ∧ Ended U below (.threw a) ∧ s.WarmedH U.vm ∧ s.sameButNew ({ U with vm := s.vm } : State) (locs ++ L) (cells + 1) (slots + 2752) ∧
      (∀ y ∈ L, y.base = a) ∧ T.heap.size ≤ U.heap.size ∧ Exa Z U.heap a own_AE ∧ ∀ x, x ≠ a → x < T.heap.size → U.heap[x]? = T.heap[x]? := by
  have hS : ∀ d ∈ own_exA own ic, d.before args s = true := fun d hd => mvX hT0 hZ (List.all_eq_true.mp (show (own_exA own ic).all xOk = true from rfl) d hd) (hA d hd)
  have w : ∀ (d : Cond) (i : Nat), (own_exA own ic)[i]? = some d → d.before args s = true := fun d i q => hS d (List.mem_of_getElem? q)
  have pf : e.platform.frameOwnsMonitors = true ∧ e.platform.finalization = false ∧ e.platform.magicAccessors = ({} : Platform).magicAccessors := by rw [X.admits.platform]; exact ⟨rfl, rfl, rfl⟩
  obtain ⟨Th, Z0, L, -, Y⟩ := own_thr (args := args) hX hkX pf.1 pf.2.1 pf.2.2 (fun d hd => hS d (by simp only [own_exA, List.mem_append]; exact Or.inl (Or.inl (Or.inl hd))))
  obtain ⟨Zi, M, LZ, LM, nZ⟩ := Init0T.ofS_atoms (args := args) pf.2.2 L Y (fun d hd => hS d (by simp only [own_exA, List.mem_append]; exact Or.inl (Or.inl (Or.inr hd))))
  obtain ⟨P1, Ps, hlen, L1, hL, nP, sup1, pass⟩ := chainS (args := args) pf.2.2 nZ own_up own_AE (by decide +kernel) (by decide +kernel) (fun d hd => hS d (by simp only [own_exA, List.mem_append]; exact Or.inl (Or.inr hd)))
  obtain rfl : cX = P1.m.cls := Option.some.inj (hX.symm.trans (findClass_of_methodNamed nP))
  obtain ⟨c1, k1, qc, qk, hord, -⟩ := Cond.instantiable_spec (w (.instantiable own_AE 6) 44 rfl)
  cases hX.symm.trans qc
  cases hkX.symm.trans qk
  -- the two natives' choice, the two statics
  have sel0 := own_sel X (w _ 45 rfl) hX Y.fill0 (Or.inr trivial) (State.methodFound?_of_named Y.fill0 (by decide))
  have selF := own_sel X (w _ 46 rfl) hX Y.fill (Or.inr trivial) (State.methodFound?_of_named Y.fill (by decide))
  have a0w : ∀ (d : Cond) (i : Nat), (own_exA own ic)[i]? = some d → d.before av0 Z = true := fun d i q => hA d (List.mem_of_getElem? q)
  obtain ⟨cS, u0, hcS, hiS, hu0, ev0⟩ := own_stat hZ hT (a0w _ 20 rfl) r1 Y.unassigned L.statics
  obtain ⟨cS', sen, hcS', -, hsen, -⟩ := own_stat hZ hT (a0w _ 22 rfl) r2 Y.sentinel L.statics
  cases hcS.symm.trans hcS'
  have hun : u0.v ≠ .null := own_nonnull r3 ev0
  have hneS : Th.aS ≠ a := fun q => by rw [q] at hcS; cases hcS.symm.trans hcell; exact absurd (show false = true from hiS) (by decide)
  have hknS : cS.vm ≠ .unknown := fun q => by rw [q] at hiS; exact absurd (show false = true from hiS) (by decide)
  -- the fields, as the exception's class lays them
  obtain ⟨b1, b2, fB, b3, b4, b5, b6, -, b8, b9, b10⟩ := Cond.ownField (t := .object "java/lang/Object") Y.found L.cls (by decide +kernel) (w _ 51 rfl) (w _ 50 rfl) e.platform pf.2.2
  obtain ⟨iM, fM⟩ := Y.msg
  obtain ⟨tC, xC, eC, mC⟩ := Cond.laysAt hX hkX Y.cause (w _ 14 rfl)
  obtain ⟨tS, xS, eS, mS⟩ := Cond.laysAt hX hkX Y.stack (w _ 16 rfl)
  obtain ⟨tP, xP, eP, mP⟩ := Cond.laysAt hX hkX Y.supp (w _ 18 rfl)
  obtain ⟨tM, -⟩ := Cond.laysAt hX hkX fM (w _ 47 rfl)
  obtain ⟨tB, xB, eB, mB⟩ := Cond.laysAt hX hkX b10 (w _ 48 rfl)
  have nC := Cond.laysApart eB eC mB mC (by rw [b8, Y.causeName]; decide)
  have nS := Cond.laysApart eB eS mB mS (by rw [b8, Y.stackName]; decide)
  have nP' := Cond.laysApart eB eP mB mP (by rw [b8, Y.suppName]; decide)
  have hback : ∃ B : BackC, B.Links Th e.platform s ∧ ((preparedCellV Th.toThrowableT (Jvm.freshCell P1.m.cls kX) a u0 sen).withEntry T.cur).slots[B.fBack.slot]? = some .null := by
    refine ⟨⟨b1, b2, fB⟩, ⟨b3, b4, b5, b6⟩, ?_⟩
    have z := fresh_default (c := P1.m.cls) tB
    rw [b9] at z
    simpa [preparedCellV, Cell.setSlot, Cell.withEntry, Array.getElem?_setIfInBounds, nC, nS, nP', nC.symm, nS.symm, nP'.symm, defaultValue] using z
  obtain ⟨cO, kO, comp, fb, fd, hO, hkO, hkindO, hfb, hfd, tb, td⟩ := traceWords hX hkX hord Y.found L.cls (w _ 52 rfl) (w _ 53 rfl) (w _ 54 rfl) (w _ 48 rfl) (w _ 49 rfl)
  -- the call
  obtain ⟨tm, methC, cdC, kC, vm1, nC1, -, -, -, -, -, -, -, hW1, st1⟩ := Steps.initColdS (tb := p.tables) (e := e) (below := below) (s := s) (U := T) X.here hx X.warmed pf.2.2 hown (t := initS own_AE) rfl rfl (by decide)
    (w _ 43 rfl) (w (.instanceMethod (initS own_AE)) 28 rfl) (bytes := six) (maxL := 2) (w _ 29 rfl) (f := g) hg (a := a) (msg := msg) (rest := [.ref a]) hstack hd
  cases nC1.symm.trans nP
  obtain ⟨vm2, lines, hlines, X2, st2⟩ := (X.noted hW1).ctorMessageOn hx (g := { g with stack := [.ref a] }) hg hsize Th L Zi LZ M LM (P1 :: Ps)
    (fun P hP => (List.mem_cons.mp hP).elim (fun q => q ▸ L1) (hL P)) ⟨sup1, pass⟩ (u0 := u0) (sen := sen) (self := a) hmsg (cell := Jvm.freshCell P1.m.cls kX) (cellS := cS)
    hcell (fun _ => by simp) (by simp) rfl rfl sel0 selF hcS hneS hknS hu0 hsen
    (Takes.of_laid hkX hord tC (by rw [Y.causeType]; rfl)) (Takes.of_laid hkX hord tS (by rw [Y.stackType]; exact fits_refV_array _ u0)) (Takes.of_laid hkX hord tP (by rw [Y.suppType]; exact fits_refV_object _ sen))
    (Takes.of_laid hkX hord tM (by rw [Y.msgType]; exact fits_refV_object _ ⟨msg, hmsg⟩)) Y.objLocals htr hun hback hTK hBelow Y.found hO hkO hkindO hfb hfd tb td [] hd
    (by simp only [List.length_cons, hlen]; exact hRf) (by simp only [List.length_cons, hlen]; exact hRl) hRc hRs
  obtain ⟨walk, hrun, hend, hWU, hsame⟩ := X2.athrowLeaves hx (g := { g with stack := [.ref a], pc := g.pc + 3 }) hg hlocked hentered hout (a := a) (rest := []) rfl hd3 hlocks
  have lt0 : a < T.heap.size := (Array.getElem?_eq_some_iff.mp hcell).1
  refine ⟨_, _, st1 _ (fun acts => ?_), hrun, hend, hWU, hsame.mono (Nat.le_refl _) (Nat.add_le_add_left (traceHolder_size_le cO hlines) _), ?_, ?_, ?_, ?_⟩
  · rw [doInvoke_state]; exact st2 _ walk
  · intro y hy
    simp only [List.mem_cons, List.not_mem_nil, or_false] at hy
    rcases hy with rfl | rfl | rfl | rfl | rfl | rfl | rfl <;> rfl
  · show T.heap.size ≤ ((T.heap.push _).setIfInBounds a _).size
    simp
  · rw [hZ.alike.findClass] at hX
    obtain ⟨kZ, z1, -⟩ := Vm.findClass_spec hX
    obtain ⟨k', z2, z3⟩ := hZ.alike.2.2 _ _ z1
    cases hkX.symm.trans z2
    have ei : kX.instanceTypes = kZ.instanceTypes := by rw [z3]
    exact ⟨_, kZ, heapAt_setCell_self (s := ((T.setVm vm1).setVm vm2).pushCell (traceHolder cO lines)) _ (by show a < (T.heap.push _).size; rw [Array.size_push]; exact Nat.lt_succ_of_lt lt0), hX, z1, rfl, fun _ => by simp [plainOn, preparedCellV, Cell.setSlot, ei]⟩
  · intro x hxa hlt
    refine (heapAt_setCell_ne (s := ((T.setVm vm1).setVm vm2).pushCell (traceHolder cO lines)) _ (Ne.symm hxa)).trans ?_
    show (T.heap.push _)[x]? = _
    rw [Array.getElem?_push_lt hlt]
    exact (Array.getElem?_eq_getElem _).symm
/-- new, dup, ldc, invokespecial, athrow -/
theorem own_throw (X : Stand p l e R s m args below meth c T locs cells slots) (hx : p.tables.exec = Jvm.exec) (htr : e.platform.stackTraces = true) (hZ : Z.Warmed39 s.vm) {own text : String} {ic ci si : Nat} (hown : s.vm.findClass own = some m.cls)
    (hA : ∀ d ∈ own_exA own ic, d.before av0 Z = true) (wN : (Cond.classLink own ci own_AE).before av0 Z = true) (wz : (Cond.initialized own_AE).before av0 Z = true) (wS : (Cond.stringLink own si text).before av0 Z = true) (hStr : ∀ d ∈ stringAtoms, d.before av0 Z = true)
    (r1 : (Cond.isRef (.static tN "UNASSIGNED_STACK" steD)).before av0 Z = true) (r2 : (Cond.isRef (.static tN "SUPPRESSED_SENTINEL" listD)).before av0 Z = true) (r3 : (Cond.arrayOf (.static tN "UNASSIGNED_STACK" steD) (.object "java/lang/StackTraceElement")).before av0 Z = true)
    (hT0 : ThS Z s.heap) (hT : ThS Z T.heap) (hTK : s.vm.MethodsKnown) (hBelow : s.vm.FramesKnown below)
    {g : JFrame} (hg : g.method = m) (hsize : g.locals.size = c.maxLocals) (hlocked : g.locked = none) (hentered : g.entered = []) (hstack : g.stack = [])
    (d0 : decode c.code g.pc = .ok (.new ci, 3)) (d1 : decode c.code (g.pc + 3) = .ok (.dup, 1)) (d2 : decode c.code (g.pc + 3 + 1) = .ok (.ldc si, 2)) (d3 : decode c.code (g.pc + 3 + 1 + 2) = .ok (.invokespecial ic, 3)) (d4 : decode c.code (g.pc + 3 + 1 + 2 + 3) = .ok (.athrow, 1))
    (hout : ∀ x ∈ c.exceptionTable.toList, covers x (g.pc + 3 + 1 + 2 + 3) = false) (hlocks : meth.locks = false) {n : Nat} (hn : 4 * text.toList.length ≤ n) (hbig : n ≤ 536870912)
    (hRf : 6 ≤ R.frames) (hRl : 2 * g.monitorRoom + 82 ≤ R.locals) (hRc : cells + 4 ≤ R.cells) (hRs : slots + (n + 2762) ≤ R.slots) :
    ∃ (x : Addr) (U : State) (L : List Loc), Steps p.tables e below (T.setTop g) U ∧ U.status = .running ∧ Ended U below (.threw x) ∧ own_EndW s U (locs ++ L) (cells + 4) (slots + (n + 2762)) ∧
      Fr T.heap.size L ∧ Exa Z U.heap x own_AE ∧ Keep T.heap U.heap [] := by
  obtain ⟨vm', cC, kC, h1, h2, -, -, X1, st1⟩ := X.newCold hx hown (mv hZ wN) (mv hZ (hA (.instantiable own_AE 6) (List.mem_of_getElem? (i := 44) rfl))) (mv hZ wz) hg d0 (by omega) (by omega)
  rw [hstack] at st1
  generalize e1 : (T.setVm vm').pushCell _ = T1 at X1 st1
  have hh : T1.heap = T.heap.push (Jvm.freshCell cC kC) := by rw [← e1]; rfl
  have E1 : Ext T.heap T1.heap := ext_of fun x q => by
    rw [hh, Array.getElem?_push_lt q]; exact (Array.getElem?_eq_getElem _).symm
  obtain ⟨am, T2, X2, hS2, -, hb, -, -, st2⟩ := X1.ldcColdN hx (own := own) hown (index := si) (text := text) (mvS (s := s) (vm0 := s.vm) hZ wS) (fun d hd => by
    have q := hStr d hd
    by_cases z : d = .arrayClass .byte
    · subst z; exact mvA hZ q
    · exact mv hZ q (by
        simp only [Bundle.stringAtoms, List.mem_cons, List.not_mem_nil, or_false] at hd
        rcases hd with rfl | rfl | rfl | rfl | rfl | rfl | rfl <;> first | rfl | exact absurd rfl z)) (g := { g with pc := g.pc + 3 + 1, stack := [.ref T.heap.size, .ref T.heap.size] }) hg d2 hn hbig (by omega) (by omega)
  have al := hS2.1.alike
  have E2 : Ext T1.heap T2.heap := ext_of hb
  obtain ⟨k', q1, q2⟩ := al.2.2 _ _ h2
  have hcell : T2.heap[T.heap.size]? = some (Jvm.freshCell cC k') := E2.2 _ _ (by rw [hh, q2]; simp)
  obtain ⟨U, L, st3, hrun, hend, hW, hsame, hL, hsz, hE, hkeep⟩ := own_ctorThrow X2 hx htr (Z := Z) (State.Warmed39.trans (t := s) hZ hS2.1) (own := own) (by show T2.vm.findClass own = _; rw [al.findClass]; exact hown) hA r1 r2 r3 hT0 ((hT.ext E1).ext E2)
    (hTK.alikeC al) (fun y hy m' hm' => knowsMethod_alike al (hBelow y hy m' hm')) (a := T.heap.size) (cX := cC) (kX := k') (by show T2.vm.findClass _ = _; rw [al.findClass]; exact h1) q1 hcell (msg := .ref am) rfl
    (g := { g with pc := g.pc + 3 + 1 + 2, stack := [.ref am, .ref T.heap.size, .ref T.heap.size] }) hg hsize hlocked hentered rfl d3 d4 hout hlocks hRf hRl (own_ar3 hRc) (own_ar1 hRs)
  obtain ⟨e2, e3, e4⟩ := hS2.ended hW hsz hsame
  refine ⟨T.heap.size, U, L, st1 _ (XS.dup X1.here hx hg d1 rfl rfl (st2 _ st3)), hrun, hend, ⟨e2, e3, e4.mono (Nat.le_refl _) (own_ar2 _ _)⟩, fun y hy => Nat.le_of_eq (hL y hy).symm, hE, ?_⟩
  have q : ∀ (x : Addr) (c : Cell), T.heap[x]? = some c → U.heap[x]? = some c := fun x c0 hc => by
    have lt : x < T.heap.size := (Array.getElem?_eq_some_iff.mp hc).1
    rw [hkeep x (Nat.ne_of_lt lt) (Nat.lt_of_lt_of_le lt (Nat.le_trans E1.1 E2.1))]
    exact E2.2 _ _ (E1.2 _ _ hc)
  exact ⟨Nat.le_trans E1.1 (Nat.le_trans E2.1 hsz), fun x c0 hc _ => q x c0 hc, fun x c0 hc => ⟨c0, q x c0 hc, rfl, rfl, rfl⟩⟩
end OwnThrow

def own_pick (q0 : Int64) (p1 : Int32) : Int64 := if p1 = 0 then q0 else if p1 = 1 then -9223372036854775808 else if p1 = 2 then 9223372036854775807 - (q0 &&& 255) else -9223372036854775808 + (q0 &&& 255)
def own_ov (a b : Int64) : Prop := ((a ^^^ (a + b)) &&& (b ^^^ (a + b))) < (0 : Int64)
instance (a b : Int64) : Decidable (own_ov a b) := by unfold own_ov; infer_instance
def own_sum (a b : Int64) : Int64 := if a = -9223372036854775808 then -9223372036854775808 else if b = -9223372036854775808 then -9223372036854775808 else if own_ov a b then -9223372036854775808 else a + b
theorem own_neg (x : Int64) : x < 0 ↔ x.toBitVec.msb = true := by
  rw [Int64.lt_iff_toInt_lt, BitVec.msb_eq_toInt]
  show x.toInt < (0 : Int64).toInt ↔ decide (x.toInt < 0) = true
  rw [show (0 : Int64).toInt = 0 from rfl, decide_eq_true_iff]
theorem own_negi (x : Int64) : x.toBitVec.msb = decide (x.toInt < 0) := BitVec.msb_eq_toInt
theorem own_addi (a b : Int64) : (a + b).toInt = (a.toInt + b.toInt).bmod (2 ^ 64) := Int64.toInt_add a b
theorem own_rng (a : Int64) : -9223372036854775808 ≤ a.toInt ∧ a.toInt < 9223372036854775808 := ⟨by have := a.le_toInt; simpa using this, by have := a.toInt_lt; simpa using this⟩
theorem own_ov_int (a b : Int64) : own_ov a b ↔ ¬ (-9223372036854775808 ≤ a.toInt + b.toInt ∧ a.toInt + b.toInt < 9223372036854775808) := by
  unfold own_ov
  rw [own_neg, Int64.toBitVec_and, BitVec.msb_and, Int64.toBitVec_xor, Int64.toBitVec_xor, BitVec.msb_xor, BitVec.msb_xor, own_negi, own_negi, own_negi, own_addi]
  have ha := own_rng a
  have hb := own_rng b
  generalize a.toInt = x at *
  generalize b.toInt = y at *
  have h : (x + y).bmod (2 ^ 64) = if x + y < -9223372036854775808 then x + y + 18446744073709551616 else if x + y < 9223372036854775808 then x + y else x + y - 18446744073709551616 := by
    rw [Int.bmod_def]
    split <;> split <;> (try split) <;> omega
  rw [h]
  by_cases h1 : x < 0 <;> by_cases h2 : y < 0 <;> by_cases h3 : x + y < -9223372036854775808 <;> by_cases h4 : x + y < 9223372036854775808 <;> simp [h1, h2, h3, h4] <;> omega
theorem own_lti (a b : Int64) : a < b ↔ a.toInt < b.toInt := Int64.lt_iff_toInt_lt
theorem own_maxs (a : Int64) (h : 0 ≤ a.toInt) : ((9223372036854775807 : Int64) - a).toInt = 9223372036854775807 - a.toInt := by
  rw [Int64.toInt_sub, show (9223372036854775807 : Int64).toInt = 9223372036854775807 from rfl, Int.bmod_def]
  have ha := own_rng a
  split <;> omega
theorem own_mins (a : Int64) (h : a.toInt < 0) : ((-9223372036854775808 : Int64) - a).toInt = -9223372036854775808 - a.toInt := by
  rw [Int64.toInt_sub, show (-9223372036854775808 : Int64).toInt = -9223372036854775808 from rfl, Int.bmod_def]
  have ha := own_rng a
  split <;> omega
theorem own_zi : (0 : Int64).toInt = 0 := rfl
theorem own_ov_up {a b : Int64} (h : 0 < a) (k : (9223372036854775807 : Int64) - a < b) : own_ov a b := by
  rw [own_lti, own_zi] at h
  rw [own_lti, own_maxs a (by omega)] at k
  rw [own_ov_int]; omega
theorem own_ov_dn {a b : Int64} (h : a < 0) (k : b < (-9223372036854775808 : Int64) - a) : own_ov a b := by
  rw [own_lti, own_zi] at h
  rw [own_lti, own_mins a (by omega)] at k
  rw [own_ov_int]; omega
theorem own_ov_no {a b : Int64} (h : 0 < a → ¬ (9223372036854775807 : Int64) - a < b) (k : a < 0 → ¬ b < (-9223372036854775808 : Int64) - a) : ¬ own_ov a b := by
  rw [own_lti, own_zi] at h k
  rw [own_ov_int, Decidable.not_not]
  have ha := own_rng a
  have hb := own_rng b
  by_cases h1 : 0 < a.toInt
  · have q := h h1
    rw [own_lti, own_maxs a (by omega)] at q
    omega
  · by_cases h2 : a.toInt < 0
    · have q := k h2
      rw [own_lti, own_mins a h2] at q
      omega
    · omega
theorem own_sum_a {a b : Int64} (h : a = -9223372036854775808) : own_sum a b = -9223372036854775808 := by simp [own_sum, h]
theorem own_sum_b {a b : Int64} (h : b = -9223372036854775808) : own_sum a b = -9223372036854775808 := by simp [own_sum, h]
theorem own_sum_o {a b : Int64} (h : own_ov a b) : own_sum a b = -9223372036854775808 := by simp [own_sum, h]
theorem own_sum_n {a b : Int64} (h1 : ¬ a = -9223372036854775808) (h2 : ¬ b = -9223372036854775808) (h : ¬ own_ov a b) : own_sum a b = a + b := by simp [own_sum, h, h1, h2]

theorem own_tab1 {L : List ExceptionTableEntry} {rows : List (Nat × Nat × Nat × Nat)} (h : L.map (fun h => (h.startPc, h.endPc, h.handlerPc, h.catchType)) = rows) : L = rows.map (fun r => (⟨r.1, r.2.1, r.2.2.1, r.2.2.2⟩ : ExceptionTableEntry)) := by
  subst h
  rw [List.map_map]
  exact (List.map_id'' (fun _ => rfl) L).symm
theorem own_tab {p : Program} {l : Launch} {x : MethodName} {S : Spec} {code : ByteArray} {maxL : Nat} {ret : Option FieldType} {e : Env} {s : State} {m : MethodId} {args a1 : Array Value} {below : List Frame} {meth : Method} {c : Code} {s₁ : State} {rows : List (Nat × Nat × Nat × Nat)}
    (B : BodyLoose p l x S code maxL ret e s m args below meth c s₁) (h : (Jvm.Cond.codeWith x code maxL ret rows).before a1 s = true) : c.exceptionTable.toList = rows.map (fun r => (⟨r.1, r.2.1, r.2.2.1, r.2.2.2⟩ : ExceptionTableEntry)) := by
  obtain ⟨m', meth', c', q1, q2, q3, -, -, q4, -⟩ := Cond.codeWith_spec h
  cases B.named.symm.trans q1
  cases B.method.symm.trans q2
  cases (Stand.of_body B).code.symm.trans q3
  exact own_tab1 q4
theorem own_none {α : Type} {t : Array α} {P : α → Prop} (h : t.isEmpty = true) : ∀ x ∈ t.toList, P x := by
  have q : t = #[] := by simpa using h
  subst q; intro x hx; simp at hx

theorem pd_0 : parseMethodDescriptor "(JJ)J" = some ⟨[.long, .long], some .long⟩ := by decide +kernel
theorem pd_1 : parseMethodDescriptor "(JI)J" = some ⟨[.long, .int], some .long⟩ := by decide +kernel
theorem own_exAll : own_exA "java/lang/Math" 113 = ([47, 67, 62, 68, 69, 70, 71, 72, 50, 51, 49, 60, 73, 52, 53, 55, 56, 58, 59, 54, 80, 57, 81, 76, 44, 48, 86, 76, 28, 30, 31, 32, 33, 32, 36, 37, 38, 39, 38, 42, 43, 44, 45, 27, 17, 82, 63, 83, 84, 85, 79, 78, 64, 65, 66] : List Nat).filterMap (fun i => tables_1[i]?) := by rfl
theorem own_exStr : Bundle.stringAtoms = ([20, 21, 22, 23, 24, 25, 26] : List Nat).filterMap (fun i => tables_1[i]?) := by rfl
theorem own_of {Z : State} {av0 : Array Value} (hw : ∀ d ∈ tables_1, d.before av0 Z = true) {L : List Jvm.Cond} {is : List Nat} (h : L = is.filterMap (fun i => tables_1[i]?)) : ∀ d ∈ L, d.before av0 Z = true := by
  intro d hd
  rw [h] at hd
  obtain ⟨i, -, q⟩ := List.mem_filterMap.mp hd
  exact hw d (List.mem_of_getElem? q)
theorem d1_0 : decode method_2_code 0 = .ok (.iload_n 2, 1) := by decide +kernel
theorem d1_1 : decode method_2_code 1 = .ok (.ifCond .ne 8, 3) := by decide +kernel
theorem d1_4 : decode method_2_code 4 = .ok (.lload_n 0, 1) := by decide +kernel
theorem d1_5 : decode method_2_code 5 = .ok (.lstore_n 3, 1) := by decide +kernel
theorem d1_6 : decode method_2_code 6 = .ok (.goto 43, 3) := by decide +kernel
theorem d1_9 : decode method_2_code 9 = .ok (.iload_n 2, 1) := by decide +kernel
theorem d1_10 : decode method_2_code 10 = .ok (.iconst 1, 1) := by decide +kernel
theorem d1_11 : decode method_2_code 11 = .ok (.if_icmp .ne 10, 3) := by decide +kernel
theorem d1_14 : decode method_2_code 14 = .ok (.ldc2_w 9, 3) := by decide +kernel
theorem d1_17 : decode method_2_code 17 = .ok (.lstore_n 3, 1) := by decide +kernel
theorem d1_18 : decode method_2_code 18 = .ok (.goto 31, 3) := by decide +kernel
theorem d1_21 : decode method_2_code 21 = .ok (.iload_n 2, 1) := by decide +kernel
theorem d1_22 : decode method_2_code 22 = .ok (.iconst 2, 1) := by decide +kernel
theorem d1_23 : decode method_2_code 23 = .ok (.if_icmp .ne 16, 3) := by decide +kernel
theorem d1_26 : decode method_2_code 26 = .ok (.ldc2_w 11, 3) := by decide +kernel
theorem d1_29 : decode method_2_code 29 = .ok (.lload_n 0, 1) := by decide +kernel
theorem d1_30 : decode method_2_code 30 = .ok (.ldc2_w 13, 3) := by decide +kernel
theorem d1_33 : decode method_2_code 33 = .ok (.land, 1) := by decide +kernel
theorem d1_34 : decode method_2_code 34 = .ok (.lsub, 1) := by decide +kernel
theorem d1_35 : decode method_2_code 35 = .ok (.lstore_n 3, 1) := by decide +kernel
theorem d1_36 : decode method_2_code 36 = .ok (.goto 13, 3) := by decide +kernel
theorem d1_39 : decode method_2_code 39 = .ok (.ldc2_w 9, 3) := by decide +kernel
theorem d1_42 : decode method_2_code 42 = .ok (.lload_n 0, 1) := by decide +kernel
theorem d1_43 : decode method_2_code 43 = .ok (.ldc2_w 13, 3) := by decide +kernel
theorem d1_46 : decode method_2_code 46 = .ok (.land, 1) := by decide +kernel
theorem d1_47 : decode method_2_code 47 = .ok (.ladd, 1) := by decide +kernel
theorem d1_48 : decode method_2_code 48 = .ok (.lstore_n 3, 1) := by decide +kernel
theorem d1_49 : decode method_2_code 49 = .ok (.lload_n 3, 1) := by decide +kernel
theorem d1_50 : decode method_2_code 50 = .ok (.lreturn, 1) := by decide +kernel
theorem pn_pick : plainName "com/example/zhangtiao/zhangtiao/input/ExactSumSumPinLaw" = true := by first | (simp [plainName, overriddenIn]; done) | decide +kernel
theorem ef_pick (m : MethodId) (q0 : Int64) (p1 : Int32) : entryFrame m #[(.long q0), (.int p1)] 5 = mkF m 0 #[.val (.long q0), .second, .val (.int p1), .unset, .unset] [] := by first | (simp [entryFrame, mkF, argsToLocals, Value.category]; done) | rfl
def Q_pick (Z : State) (q0 : Int64) (p1 : Int32) (h0 : Heap) (n0 : Nat) (v : Option Value) (h : Heap) (L : List Loc) : Prop := v = some (.long (own_pick q0 p1)) ∧ Fr n0 L ∧ h = h0
set_option maxRecDepth 65536 in
set_option maxHeartbeats 40000000 in
theorem rm_pick (l : Launch) (Z : State) (av0 : Array Value) (hw : ∀ d ∈ tables_1, d.before av0 Z = true) (ws : List Jvm.Cond) (q0 : Int64) (p1 : Int32) (h0 : Heap) (n0 : Nat) :
    MetFree l (⟨"com/example/zhangtiao/zhangtiao/input/ExactSumSumPinLaw", "pick", "(JI)J"⟩ : MethodName) (head1 (Jvm.Cond.code (⟨"com/example/zhangtiao/zhangtiao/input/ExactSumSumPinLaw", "pick", "(JI)J"⟩ : MethodName) method_2_code 5 (some .long) :: ws) ({ frames := 0, cells := 0, slots := 0, locals := 0 } : Room)) (fun a U => a = #[(.long q0), (.int p1)] ∧ Z.Warmed39 U.vm ∧ U.heap = h0) (fun _ _ _ _ _ => True) (fun _ U o U' => ∃ v L, o = .returned v ∧ Q_pick Z q0 p1 h0 n0 v U'.heap L ∧ FrameEnd U o U' L ({ frames := 0, cells := 0, slots := 0, locals := 0 } : Room).cells ({ frames := 0, cells := 0, slots := 0, locals := 0 } : Room).slots) := by
  refine MetFree.of_bodySF (plainFor_of_name pn_pick) hisR ?_
  intro p e s m args below meth c s₁ Bd hml0 hP hK
  obtain ⟨rfl, hZ, hh⟩ := hP
  have hx := Bd.exec
  have hby := Bd.bytes
  have hml : c.maxLocals = 5 := hml0
  have hown : s.vm.findClass "com/example/zhangtiao/zhangtiao/input/ExactSumSumPinLaw" = some m.cls := findClass_of_methodNamed Bd.named
  have hnm := (name_of_methodNamed Bd.named Bd.method).1
  have X0 : Stand p l e ({ frames := 0, cells := 0, slots := 0, locals := 0 } : Room) s m #[(.long q0), (.int p1)] below meth c s₁ [] 0 0 := Stand.of_body Bd
  have e0 : s₁.heap = h0 := by rw [← hh, Bd.state]; rfl
  have N0 := Fr.nil n0
  have pre0 : Go p.tables e below (s₁.setTop (entryFrame m #[(.long q0), (.int p1)] 5)) s₁ (mkF m 0 #[.val (.long q0), .second, .val (.int p1), .unset, .unset] []) := fun t k => castTop (ef_pick m q0 p1) k
  have pre1 : Go p.tables e below (s₁.setTop (entryFrame m #[(.long q0), (.int p1)] 5)) s₁ (mkF m 1 #[.val (.long q0), .second, .val (.int p1), .unset, .unset] [(.int p1)]) := fun t k => pre0 t (by
      refine XS.iloadN X0.here hx rfl (hb hby d1_0) rfl ?_
      exact k)
  by_cases hc2 : p1 = (0 : Int32)
  · -- hc2: True
    have pre3 : Go p.tables e below (s₁.setTop (entryFrame m #[(.long q0), (.int p1)] 5)) s₁ (mkF m 50 #[.val (.long q0), .second, .val (.int p1), .val (.long q0), .second] [(.long q0)]) := fun t k => pre1 t (by
        refine XS.ifNo X0.here hx rfl (hb hby d1_1) rfl ((if0 _ _).trans (teq hc2).2) ?_
        show Steps p.tables e below (s₁.setTop (mkF m 4 #[.val (.long q0), .second, .val (.int p1), .unset, .unset] [])) _
        refine XS.lloadN X0.here hx rfl (hb hby d1_4) rfl ?_
        show Steps p.tables e below (s₁.setTop (mkF m 5 #[.val (.long q0), .second, .val (.int p1), .unset, .unset] [(.long q0)])) _
        refine XS.lstoreN X0.here hx rfl (hb hby d1_5) rfl (l' := #[.val (.long q0), .second, .val (.int p1), .val (.long q0), .second]) rfl ?_
        show Steps p.tables e below (s₁.setTop (mkF m 6 #[.val (.long q0), .second, .val (.int p1), .val (.long q0), .second] [])) _
        refine XS.goto X0.here hx rfl (pc0 := 6) (pc' := 49) rfl (hb hby d1_6) (by decide) (by decide) ?_
        show Steps p.tables e below (s₁.setTop (mkF m 49 #[.val (.long q0), .second, .val (.int p1), .val (.long q0), .second] [])) _
        refine XS.lloadN X0.here hx rfl (hb hby d1_49) rfl ?_
        exact k)
    obtain ⟨fs, hr, hrun, hended, hW, hsame⟩ := X0.leave (v := some (.long q0)) (fun h => by rw [Bd.returns] at h; cases h) (BodyLoose.notSynchronized Bd)
    refine ⟨_, _, pre3 _ ?_, hrun, hended, _, _, rfl, ?_, ⟨_, rfl⟩, hW, hsame.mono (Nat.le_of_ble_eq_true rfl) (Nat.le_of_ble_eq_true rfl)⟩
    · exact retOut X0 hx Bd.returns rfl (Or.inr (Or.inl ⟨rfl, rfl, _, rfl⟩)) (hb hby d1_50) hr
    · show Q_pick Z q0 p1 h0 n0 _ s₁.heap _
      rw [e0]
      exact ⟨by simp [own_pick, hc2], N0, rfl⟩
  · -- hc2: False
    have pre4 : Go p.tables e below (s₁.setTop (entryFrame m #[(.long q0), (.int p1)] 5)) s₁ (mkF m 11 #[.val (.long q0), .second, .val (.int p1), .unset, .unset] [(.int (1 : Int32)), (.int p1)]) := fun t k => pre1 t (by
        refine XS.ifYes X0.here hx rfl (pc0 := 1) (pc' := 9) rfl (hb hby d1_1) rfl ((if0 _ _).trans (feq hc2).2) (by decide) (by decide) ?_
        show Steps p.tables e below (s₁.setTop (mkF m 9 #[.val (.long q0), .second, .val (.int p1), .unset, .unset] [])) _
        refine XS.iloadN X0.here hx rfl (hb hby d1_9) rfl ?_
        show Steps p.tables e below (s₁.setTop (mkF m 10 #[.val (.long q0), .second, .val (.int p1), .unset, .unset] [(.int p1)])) _
        refine XS.iconst X0.here hx rfl (hb hby d1_10) ?_
        exact k)
    by_cases hc5 : p1 = (1 : Int32)
    · -- hc5: True
      have pre6 : Go p.tables e below (s₁.setTop (entryFrame m #[(.long q0), (.int p1)] 5)) s₁ (mkF m 50 #[.val (.long q0), .second, .val (.int p1), .val (.long (-9223372036854775808 : Int64)), .second] [(.long (-9223372036854775808 : Int64))]) := fun t k => pre4 t (by
          refine XS.icmpNo X0.here hx rfl (hb hby d1_11) rfl (teq hc5).2 ?_
          show Steps p.tables e below (s₁.setTop (mkF m 14 #[.val (.long q0), .second, .val (.int p1), .unset, .unset] [])) _
          refine X0.ldc2Long hx hown (mvT hZ (hw _ (List.mem_of_getElem? (i := 4) rfl))) (g := (mkF m 14 #[.val (.long q0), .second, .val (.int p1), .unset, .unset] [])) rfl (hb hby d1_14) _ ?_
          show Steps p.tables e below (s₁.setTop (mkF m 17 #[.val (.long q0), .second, .val (.int p1), .unset, .unset] [(.long (-9223372036854775808 : Int64))])) _
          refine XS.lstoreN X0.here hx rfl (hb hby d1_17) rfl (l' := #[.val (.long q0), .second, .val (.int p1), .val (.long (-9223372036854775808 : Int64)), .second]) rfl ?_
          show Steps p.tables e below (s₁.setTop (mkF m 18 #[.val (.long q0), .second, .val (.int p1), .val (.long (-9223372036854775808 : Int64)), .second] [])) _
          refine XS.goto X0.here hx rfl (pc0 := 18) (pc' := 49) rfl (hb hby d1_18) (by decide) (by decide) ?_
          show Steps p.tables e below (s₁.setTop (mkF m 49 #[.val (.long q0), .second, .val (.int p1), .val (.long (-9223372036854775808 : Int64)), .second] [])) _
          refine XS.lloadN X0.here hx rfl (hb hby d1_49) rfl ?_
          exact k)
      obtain ⟨fs, hr, hrun, hended, hW, hsame⟩ := X0.leave (v := some (.long (-9223372036854775808 : Int64))) (fun h => by rw [Bd.returns] at h; cases h) (BodyLoose.notSynchronized Bd)
      refine ⟨_, _, pre6 _ ?_, hrun, hended, _, _, rfl, ?_, ⟨_, rfl⟩, hW, hsame.mono (Nat.le_of_ble_eq_true rfl) (Nat.le_of_ble_eq_true rfl)⟩
      · exact retOut X0 hx Bd.returns rfl (Or.inr (Or.inl ⟨rfl, rfl, _, rfl⟩)) (hb hby d1_50) hr
      · show Q_pick Z q0 p1 h0 n0 _ s₁.heap _
        rw [e0]
        exact ⟨by simp [own_pick, hc2, hc5], N0, rfl⟩
    · -- hc5: False
      have pre7 : Go p.tables e below (s₁.setTop (entryFrame m #[(.long q0), (.int p1)] 5)) s₁ (mkF m 23 #[.val (.long q0), .second, .val (.int p1), .unset, .unset] [(.int (2 : Int32)), (.int p1)]) := fun t k => pre4 t (by
          refine XS.icmpYes X0.here hx rfl (pc0 := 11) (pc' := 21) rfl (hb hby d1_11) rfl (feq hc5).2 (by decide) (by decide) ?_
          show Steps p.tables e below (s₁.setTop (mkF m 21 #[.val (.long q0), .second, .val (.int p1), .unset, .unset] [])) _
          refine XS.iloadN X0.here hx rfl (hb hby d1_21) rfl ?_
          show Steps p.tables e below (s₁.setTop (mkF m 22 #[.val (.long q0), .second, .val (.int p1), .unset, .unset] [(.int p1)])) _
          refine XS.iconst X0.here hx rfl (hb hby d1_22) ?_
          exact k)
      by_cases hc8 : p1 = (2 : Int32)
      · -- hc8: True
        obtain ⟨w9, hw9⟩ : ∃ z : Int64, z = ((9223372036854775807 : Int64) - (q0 &&& (255 : Int64))) := ⟨_, rfl⟩
        have pre10 : Go p.tables e below (s₁.setTop (entryFrame m #[(.long q0), (.int p1)] 5)) s₁ (mkF m 50 #[.val (.long q0), .second, .val (.int p1), .val (.long w9), .second] [(.long w9)]) := fun t k => pre7 t (by
            refine XS.icmpNo X0.here hx rfl (hb hby d1_23) rfl (teq hc8).2 ?_
            show Steps p.tables e below (s₁.setTop (mkF m 26 #[.val (.long q0), .second, .val (.int p1), .unset, .unset] [])) _
            refine X0.ldc2Long hx hown (mvT hZ (hw _ (List.mem_of_getElem? (i := 5) rfl))) (g := (mkF m 26 #[.val (.long q0), .second, .val (.int p1), .unset, .unset] [])) rfl (hb hby d1_26) _ ?_
            show Steps p.tables e below (s₁.setTop (mkF m 29 #[.val (.long q0), .second, .val (.int p1), .unset, .unset] [(.long (9223372036854775807 : Int64))])) _
            refine XS.lloadN X0.here hx rfl (hb hby d1_29) rfl ?_
            show Steps p.tables e below (s₁.setTop (mkF m 30 #[.val (.long q0), .second, .val (.int p1), .unset, .unset] [(.long q0), (.long (9223372036854775807 : Int64))])) _
            refine X0.ldc2Long hx hown (mvT hZ (hw _ (List.mem_of_getElem? (i := 15) rfl))) (g := (mkF m 30 #[.val (.long q0), .second, .val (.int p1), .unset, .unset] [(.long q0), (.long (9223372036854775807 : Int64))])) rfl (hb hby d1_30) _ ?_
            show Steps p.tables e below (s₁.setTop (mkF m 33 #[.val (.long q0), .second, .val (.int p1), .unset, .unset] [(.long (255 : Int64)), (.long q0), (.long (9223372036854775807 : Int64))])) _
            refine XS.land X0.here hx rfl (hb hby d1_33) rfl ?_
            show Steps p.tables e below (s₁.setTop (mkF m 34 #[.val (.long q0), .second, .val (.int p1), .unset, .unset] [(.long (q0 &&& (255 : Int64))), (.long (9223372036854775807 : Int64))])) _
            refine XS.lsub X0.here hx rfl (hb hby d1_34) rfl ?_
            show Steps p.tables e below (s₁.setTop (mkF m 35 #[.val (.long q0), .second, .val (.int p1), .unset, .unset] [(.long ((9223372036854775807 : Int64) - (q0 &&& (255 : Int64))))])) _
            refine XS.lstoreN X0.here hx rfl (x := w9) (rest := []) (hb hby d1_35) (by subst hw9; rfl) (l' := #[.val (.long q0), .second, .val (.int p1), .val (.long w9), .second]) rfl ?_
            show Steps p.tables e below (s₁.setTop (mkF m 36 #[.val (.long q0), .second, .val (.int p1), .val (.long w9), .second] [])) _
            refine XS.goto X0.here hx rfl (pc0 := 36) (pc' := 49) rfl (hb hby d1_36) (by decide) (by decide) ?_
            show Steps p.tables e below (s₁.setTop (mkF m 49 #[.val (.long q0), .second, .val (.int p1), .val (.long w9), .second] [])) _
            refine XS.lloadN X0.here hx rfl (hb hby d1_49) rfl ?_
            exact k)
        obtain ⟨fs, hr, hrun, hended, hW, hsame⟩ := X0.leave (v := some (.long w9)) (fun h => by rw [Bd.returns] at h; cases h) (BodyLoose.notSynchronized Bd)
        refine ⟨_, _, pre10 _ ?_, hrun, hended, _, _, rfl, ?_, ⟨_, rfl⟩, hW, hsame.mono (Nat.le_of_ble_eq_true rfl) (Nat.le_of_ble_eq_true rfl)⟩
        · exact retOut X0 hx Bd.returns rfl (Or.inr (Or.inl ⟨rfl, rfl, _, rfl⟩)) (hb hby d1_50) hr
        · show Q_pick Z q0 p1 h0 n0 _ s₁.heap _
          rw [e0]
          subst hw9
          exact ⟨by simp [own_pick, hc2, hc5, hc8], N0, rfl⟩
      · -- hc8: False
        obtain ⟨w11, hw11⟩ : ∃ z : Int64, z = ((-9223372036854775808 : Int64) + (q0 &&& (255 : Int64))) := ⟨_, rfl⟩
        have pre12 : Go p.tables e below (s₁.setTop (entryFrame m #[(.long q0), (.int p1)] 5)) s₁ (mkF m 50 #[.val (.long q0), .second, .val (.int p1), .val (.long w11), .second] [(.long w11)]) := fun t k => pre7 t (by
            refine XS.icmpYes X0.here hx rfl (pc0 := 23) (pc' := 39) rfl (hb hby d1_23) rfl (feq hc8).2 (by decide) (by decide) ?_
            show Steps p.tables e below (s₁.setTop (mkF m 39 #[.val (.long q0), .second, .val (.int p1), .unset, .unset] [])) _
            refine X0.ldc2Long hx hown (mvT hZ (hw _ (List.mem_of_getElem? (i := 4) rfl))) (g := (mkF m 39 #[.val (.long q0), .second, .val (.int p1), .unset, .unset] [])) rfl (hb hby d1_39) _ ?_
            show Steps p.tables e below (s₁.setTop (mkF m 42 #[.val (.long q0), .second, .val (.int p1), .unset, .unset] [(.long (-9223372036854775808 : Int64))])) _
            refine XS.lloadN X0.here hx rfl (hb hby d1_42) rfl ?_
            show Steps p.tables e below (s₁.setTop (mkF m 43 #[.val (.long q0), .second, .val (.int p1), .unset, .unset] [(.long q0), (.long (-9223372036854775808 : Int64))])) _
            refine X0.ldc2Long hx hown (mvT hZ (hw _ (List.mem_of_getElem? (i := 15) rfl))) (g := (mkF m 43 #[.val (.long q0), .second, .val (.int p1), .unset, .unset] [(.long q0), (.long (-9223372036854775808 : Int64))])) rfl (hb hby d1_43) _ ?_
            show Steps p.tables e below (s₁.setTop (mkF m 46 #[.val (.long q0), .second, .val (.int p1), .unset, .unset] [(.long (255 : Int64)), (.long q0), (.long (-9223372036854775808 : Int64))])) _
            refine XS.land X0.here hx rfl (hb hby d1_46) rfl ?_
            show Steps p.tables e below (s₁.setTop (mkF m 47 #[.val (.long q0), .second, .val (.int p1), .unset, .unset] [(.long (q0 &&& (255 : Int64))), (.long (-9223372036854775808 : Int64))])) _
            refine XS.ladd X0.here hx rfl (hb hby d1_47) rfl ?_
            show Steps p.tables e below (s₁.setTop (mkF m 48 #[.val (.long q0), .second, .val (.int p1), .unset, .unset] [(.long ((-9223372036854775808 : Int64) + (q0 &&& (255 : Int64))))])) _
            refine XS.lstoreN X0.here hx rfl (x := w11) (rest := []) (hb hby d1_48) (by subst hw11; rfl) (l' := #[.val (.long q0), .second, .val (.int p1), .val (.long w11), .second]) rfl ?_
            show Steps p.tables e below (s₁.setTop (mkF m 49 #[.val (.long q0), .second, .val (.int p1), .val (.long w11), .second] [])) _
            refine XS.lloadN X0.here hx rfl (hb hby d1_49) rfl ?_
            exact k)
        obtain ⟨fs, hr, hrun, hended, hW, hsame⟩ := X0.leave (v := some (.long w11)) (fun h => by rw [Bd.returns] at h; cases h) (BodyLoose.notSynchronized Bd)
        refine ⟨_, _, pre12 _ ?_, hrun, hended, _, _, rfl, ?_, ⟨_, rfl⟩, hW, hsame.mono (Nat.le_of_ble_eq_true rfl) (Nat.le_of_ble_eq_true rfl)⟩
        · exact retOut X0 hx Bd.returns rfl (Or.inr (Or.inl ⟨rfl, rfl, _, rfl⟩)) (hb hby d1_50) hr
        · show Q_pick Z q0 p1 h0 n0 _ s₁.heap _
          rw [e0]
          subst hw11
          exact ⟨by simp [own_pick, hc2, hc5, hc8], N0, rfl⟩
theorem d2_0 : decode jdk_29_method_25_code 0 = .ok (.lload_n 0, 1) := by decide +kernel
theorem d2_1 : decode jdk_29_method_25_code 1 = .ok (.lload_n 2, 1) := by decide +kernel
theorem d2_2 : decode jdk_29_method_25_code 2 = .ok (.ladd, 1) := by decide +kernel
theorem d2_3 : decode jdk_29_method_25_code 3 = .ok (.lstore 4, 2) := by decide +kernel
theorem d2_5 : decode jdk_29_method_25_code 5 = .ok (.lload_n 0, 1) := by decide +kernel
theorem d2_6 : decode jdk_29_method_25_code 6 = .ok (.lload 4, 2) := by decide +kernel
theorem d2_8 : decode jdk_29_method_25_code 8 = .ok (.lxor, 1) := by decide +kernel
theorem d2_9 : decode jdk_29_method_25_code 9 = .ok (.lload_n 2, 1) := by decide +kernel
theorem d2_10 : decode jdk_29_method_25_code 10 = .ok (.lload 4, 2) := by decide +kernel
theorem d2_12 : decode jdk_29_method_25_code 12 = .ok (.lxor, 1) := by decide +kernel
theorem d2_13 : decode jdk_29_method_25_code 13 = .ok (.land, 1) := by decide +kernel
theorem d2_14 : decode jdk_29_method_25_code 14 = .ok (.lconst 0, 1) := by decide +kernel
theorem d2_15 : decode jdk_29_method_25_code 15 = .ok (.lcmp, 1) := by decide +kernel
theorem d2_16 : decode jdk_29_method_25_code 16 = .ok (.ifCond .ge 13, 3) := by decide +kernel
theorem d2_19 : decode jdk_29_method_25_code 19 = .ok (.new 109, 3) := by decide +kernel
theorem d2_22 : decode jdk_29_method_25_code 22 = .ok (.dup, 1) := by decide +kernel
theorem d2_23 : decode jdk_29_method_25_code 23 = .ok (.ldc 116, 2) := by decide +kernel
theorem d2_25 : decode jdk_29_method_25_code 25 = .ok (.invokespecial 113, 3) := by decide +kernel
theorem d2_28 : decode jdk_29_method_25_code 28 = .ok (.athrow, 1) := by decide +kernel
theorem d2_29 : decode jdk_29_method_25_code 29 = .ok (.lload 4, 2) := by decide +kernel
theorem d2_31 : decode jdk_29_method_25_code 31 = .ok (.lreturn, 1) := by decide +kernel
theorem ef_add (m : MethodId) (q0 : Int64) (q1 : Int64) : entryFrame m #[(.long q0), (.long q1)] 6 = mkF m 0 #[.val (.long q0), .second, .val (.long q1), .second, .unset, .unset] [] := by first | (simp [entryFrame, mkF, argsToLocals, Value.category]; done) | rfl
def Q_add (Z : State) (q0 : Int64) (q1 : Int64) (h0 : Heap) (n0 : Nat) (o : Outcome) (h : Heap) (L : List Loc) : Prop := Fr n0 L ∧ Keep h0 h [] ∧ ((¬ own_ov q0 q1 ∧ o = .returned (some (.long (q0 + q1)))) ∨ (own_ov q0 q1 ∧ ∃ x, o = .threw x ∧ Exa Z h x own_AE))
set_option maxRecDepth 65536 in
set_option maxHeartbeats 40000000 in
theorem rm_add (l : Launch) (Z : State) (av0 : Array Value) (hw : ∀ d ∈ tables_1, d.before av0 Z = true) (ws : List Jvm.Cond) (q0 : Int64) (q1 : Int64) (h0 : Heap) (n0 : Nat) (Z0 : n0 ≤ h0.size) (hfl : l.flags = pinnedFlags) (hj : ∀ d ∈ jdkStatics_1, d.before av0 Z = true) (hT0 : ThS Z h0) :
    MetFree l (⟨"java/lang/Math", "addExact", "(JJ)J"⟩ : MethodName) (head1 (Jvm.Cond.code (⟨"java/lang/Math", "addExact", "(JJ)J"⟩ : MethodName) jdk_29_method_25_code 6 (some .long) :: ws) ({ frames := 6, cells := 4, slots := 2814, locals := 82 } : Room)) (fun a U => a = #[(.long q0), (.long q1)] ∧ Z.Warmed39 U.vm ∧ U.heap = h0) own_K (fun _ U o U' => ∃ L, Q_add Z q0 q1 h0 n0 o U'.heap L ∧ own_EndW U U' L ({ frames := 6, cells := 4, slots := 2814, locals := 82 } : Room).cells ({ frames := 6, cells := 4, slots := 2814, locals := 82 } : Room).slots) := by
  refine MetFree.of_bodySF (Jvm.Free.JP.mathPlain rfl (by decide +kernel)) hisR ?_
  intro p e s m args below meth c s₁ Bd hml0 hP hK
  obtain ⟨rfl, hZ, hh⟩ := hP
  have hx := Bd.exec
  have hby := Bd.bytes
  have hml : c.maxLocals = 6 := hml0
  have hown : s.vm.findClass "java/lang/Math" = some m.cls := findClass_of_methodNamed Bd.named
  have hnm := (name_of_methodNamed Bd.named Bd.method).1
  have hTK := hK.1
  have hBelow := hK.2
  have hT0s : ThS Z s.heap := by rw [hh]; exact hT0
  have htr := Launch.traces_on hfl Bd.admits
  have hZ0 := hZ
  have hown0 := hown
  have hTK0 := hTK
  have hBelow0 := hBelow
  have X0 : Stand p l e ({ frames := 6, cells := 4, slots := 2814, locals := 82 } : Room) s m #[(.long q0), (.long q1)] below meth c s₁ [] 0 0 := Stand.of_body Bd
  have e0 : s₁.heap = h0 := by rw [← hh, Bd.state]; rfl
  have N0 := Fr.nil n0
  have pre0 : Go p.tables e below (s₁.setTop (entryFrame m #[(.long q0), (.long q1)] 6)) s₁ (mkF m 0 #[.val (.long q0), .second, .val (.long q1), .second, .unset, .unset] []) := fun t k => castTop (ef_add m q0 q1) k
  obtain ⟨w1, hw1⟩ : ∃ z : Int64, z = (q0 + q1) := ⟨_, rfl⟩
  have pre2 : Go p.tables e below (s₁.setTop (entryFrame m #[(.long q0), (.long q1)] 6)) s₁ (mkF m 16 #[.val (.long q0), .second, .val (.long q1), .second, .val (.long w1), .second] [(.int (lcmpW ((q0 ^^^ w1) &&& (q1 ^^^ w1)) (0 : Int64)))]) := fun t k => pre0 t (by
      refine XS.lloadN X0.here hx rfl (hb hby d2_0) rfl ?_
      show Steps p.tables e below (s₁.setTop (mkF m 1 #[.val (.long q0), .second, .val (.long q1), .second, .unset, .unset] [(.long q0)])) _
      refine XS.lloadN X0.here hx rfl (hb hby d2_1) rfl ?_
      show Steps p.tables e below (s₁.setTop (mkF m 2 #[.val (.long q0), .second, .val (.long q1), .second, .unset, .unset] [(.long q1), (.long q0)])) _
      refine XS.ladd X0.here hx rfl (hb hby d2_2) rfl ?_
      show Steps p.tables e below (s₁.setTop (mkF m 3 #[.val (.long q0), .second, .val (.long q1), .second, .unset, .unset] [(.long (q0 + q1))])) _
      refine XS.lstore X0.here hx rfl (x := w1) (rest := []) (hb hby d2_3) (by subst hw1; rfl) (l' := #[.val (.long q0), .second, .val (.long q1), .second, .val (.long w1), .second]) rfl ?_
      show Steps p.tables e below (s₁.setTop (mkF m 5 #[.val (.long q0), .second, .val (.long q1), .second, .val (.long w1), .second] [])) _
      refine XS.lloadN X0.here hx rfl (hb hby d2_5) rfl ?_
      show Steps p.tables e below (s₁.setTop (mkF m 6 #[.val (.long q0), .second, .val (.long q1), .second, .val (.long w1), .second] [(.long q0)])) _
      refine XS.lload X0.here hx rfl (hb hby d2_6) rfl ?_
      show Steps p.tables e below (s₁.setTop (mkF m 8 #[.val (.long q0), .second, .val (.long q1), .second, .val (.long w1), .second] [(.long w1), (.long q0)])) _
      refine XS.lxor X0.here hx rfl (hb hby d2_8) rfl ?_
      show Steps p.tables e below (s₁.setTop (mkF m 9 #[.val (.long q0), .second, .val (.long q1), .second, .val (.long w1), .second] [(.long (q0 ^^^ w1))])) _
      refine XS.lloadN X0.here hx rfl (hb hby d2_9) rfl ?_
      show Steps p.tables e below (s₁.setTop (mkF m 10 #[.val (.long q0), .second, .val (.long q1), .second, .val (.long w1), .second] [(.long q1), (.long (q0 ^^^ w1))])) _
      refine XS.lload X0.here hx rfl (hb hby d2_10) rfl ?_
      show Steps p.tables e below (s₁.setTop (mkF m 12 #[.val (.long q0), .second, .val (.long q1), .second, .val (.long w1), .second] [(.long w1), (.long q1), (.long (q0 ^^^ w1))])) _
      refine XS.lxor X0.here hx rfl (hb hby d2_12) rfl ?_
      show Steps p.tables e below (s₁.setTop (mkF m 13 #[.val (.long q0), .second, .val (.long q1), .second, .val (.long w1), .second] [(.long (q1 ^^^ w1)), (.long (q0 ^^^ w1))])) _
      refine XS.land X0.here hx rfl (hb hby d2_13) rfl ?_
      show Steps p.tables e below (s₁.setTop (mkF m 14 #[.val (.long q0), .second, .val (.long q1), .second, .val (.long w1), .second] [(.long ((q0 ^^^ w1) &&& (q1 ^^^ w1)))])) _
      refine XS.lconst X0.here hx rfl (hb hby d2_14) ?_
      show Steps p.tables e below (s₁.setTop (mkF m 15 #[.val (.long q0), .second, .val (.long q1), .second, .val (.long w1), .second] [(.long (0 : Int64)), (.long ((q0 ^^^ w1) &&& (q1 ^^^ w1)))])) _
      refine XS.lcmp X0.here hx rfl (hb hby d2_15) rfl ?_
      exact k)
  by_cases hc3 : ((q0 ^^^ w1) &&& (q1 ^^^ w1)) < (0 : Int64)
  · -- hc3: True
    have pre4 : Go p.tables e below (s₁.setTop (entryFrame m #[(.long q0), (.long q1)] 6)) s₁ (mkF m 19 #[.val (.long q0), .second, .val (.long q1), .second, .val (.long w1), .second] []) := fun t k => pre2 t (by
        refine XS.ifNo X0.here hx rfl (hb hby d2_16) rfl ((if0 _ _).trans (tlt ((lw_lt _ _).mpr hc3)).2.1) ?_
        exact k)
    obtain ⟨x, U, L, st, hrun, hend, hW, hF, hE, hKp⟩ := own_throw X0 hx htr hZ (own := "java/lang/Math") (text := "long overflow") (ic := 113) (ci := 109) (si := 116) hown (own_of hw own_exAll) (hw _ (List.mem_of_getElem? (i := 16) rfl)) (hw _ (List.mem_of_getElem? (i := 18) rfl)) (hw _ (List.mem_of_getElem? (i := 19) rfl)) (own_of hw own_exStr) (hj _ (List.mem_of_getElem? (i := 7) rfl)) (hj _ (List.mem_of_getElem? (i := 12) rfl)) (hj _ (List.mem_of_getElem? (i := 8) rfl)) hT0s (by rw [e0]; exact hT0) hTK hBelow (g := (mkF m 19 #[.val (.long q0), .second, .val (.long q1), .second, .val (.long w1), .second] [])) rfl (by rw [hml]; rfl) rfl rfl rfl (hb hby d2_19) (hb hby d2_22) (hb hby d2_23) (hb hby d2_25) (hb hby d2_28) (own_none (BodyLoose.noHandlers Bd (mv hZ (hw _ (List.mem_of_getElem? (i := 14) rfl))))) (BodyLoose.notSynchronized Bd) (n := 52) (by decide) (by decide) (by decide) (by show 2 * 0 + 82 ≤ _; decide) (by decide) (by decide)
    refine ⟨_, _, pre4 _ st, hrun, hend, _, ?_, hW⟩
    rw [e0] at hF hKp
    subst hw1
    exact ⟨N0.app (fun y hy => Nat.le_trans Z0 (hF y hy)), hKp, Or.inr ⟨hc3, x, rfl, hE⟩⟩
  · -- hc3: False
    have pre5 : Go p.tables e below (s₁.setTop (entryFrame m #[(.long q0), (.long q1)] 6)) s₁ (mkF m 31 #[.val (.long q0), .second, .val (.long q1), .second, .val (.long w1), .second] [(.long w1)]) := fun t k => pre2 t (by
        refine XS.ifYes X0.here hx rfl (pc0 := 16) (pc' := 29) rfl (hb hby d2_16) rfl ((if0 _ _).trans (flt (mt (lw_lt _ _).mp hc3)).2.1) (by decide) (by decide) ?_
        show Steps p.tables e below (s₁.setTop (mkF m 29 #[.val (.long q0), .second, .val (.long q1), .second, .val (.long w1), .second] [])) _
        refine XS.lload X0.here hx rfl (hb hby d2_29) rfl ?_
        exact k)
    obtain ⟨fs, hr, hrun, hended, hW, hsame⟩ := X0.leave (v := some (.long w1)) (fun h => by rw [Bd.returns] at h; cases h) (BodyLoose.notSynchronized Bd)
    refine ⟨_, _, pre5 _ ?_, hrun, hended, _, ?_, hW.wide, hW.no_new_pair _, hsame.mono (Nat.le_of_ble_eq_true rfl) (Nat.le_of_ble_eq_true rfl)⟩
    · exact retOut X0 hx Bd.returns rfl (Or.inr (Or.inl ⟨rfl, rfl, _, rfl⟩)) (hb hby d2_31) hr
    · show Q_add Z q0 q1 h0 n0 _ s₁.heap _
      rw [e0]
      subst hw1
      exact ⟨N0, Keep.refl _ _, Or.inl ⟨hc3, rfl⟩⟩
theorem d90_0 : decode prog_25_method_15_code 0 = .ok (.lload_n 0, 1) := by decide +kernel
theorem d90_1 : decode prog_25_method_15_code 1 = .ok (.ldc2_w 25, 3) := by decide +kernel
theorem d90_4 : decode prog_25_method_15_code 4 = .ok (.lcmp, 1) := by decide +kernel
theorem d90_5 : decode prog_25_method_15_code 5 = .ok (.ifCond .eq 11, 3) := by decide +kernel
theorem d90_8 : decode prog_25_method_15_code 8 = .ok (.lload_n 2, 1) := by decide +kernel
theorem d90_9 : decode prog_25_method_15_code 9 = .ok (.ldc2_w 25, 3) := by decide +kernel
theorem d90_12 : decode prog_25_method_15_code 12 = .ok (.lcmp, 1) := by decide +kernel
theorem d90_13 : decode prog_25_method_15_code 13 = .ok (.ifCond .ne 7, 3) := by decide +kernel
theorem d90_16 : decode prog_25_method_15_code 16 = .ok (.ldc2_w 25, 3) := by decide +kernel
theorem d90_19 : decode prog_25_method_15_code 19 = .ok (.lreturn, 1) := by decide +kernel
theorem d90_20 : decode prog_25_method_15_code 20 = .ok (.lload_n 0, 1) := by decide +kernel
theorem d90_21 : decode prog_25_method_15_code 21 = .ok (.lload_n 2, 1) := by decide +kernel
theorem d90_22 : decode prog_25_method_15_code 22 = .ok (.invokestatic 107, 3) := by decide +kernel
theorem d90_25 : decode prog_25_method_15_code 25 = .ok (.lreturn, 1) := by decide +kernel
theorem d90_26 : decode prog_25_method_15_code 26 = .ok (.astore 4, 2) := by decide +kernel
theorem d90_28 : decode prog_25_method_15_code 28 = .ok (.ldc2_w 25, 3) := by decide +kernel
theorem d90_31 : decode prog_25_method_15_code 31 = .ok (.lreturn, 1) := by decide +kernel
theorem pn_sum : plainName "com/example/zhangtiao/zhangtiao/input/ExactSum" = true := by first | (simp [plainName, overriddenIn]; done) | decide +kernel
theorem ef_sum (m : MethodId) (q0 : Int64) (q1 : Int64) : entryFrame m #[(.long q0), (.long q1)] 5 = mkF m 0 #[.val (.long q0), .second, .val (.long q1), .second, .unset] [] := by first | (simp [entryFrame, mkF, argsToLocals, Value.category]; done) | rfl
def Q_sum (Z : State) (q0 : Int64) (q1 : Int64) (h0 : Heap) (n0 : Nat) (o : Outcome) (h : Heap) (L : List Loc) : Prop := Fr n0 L ∧ o = .returned (some (.long (own_sum q0 q1)))
set_option maxRecDepth 65536 in
set_option maxHeartbeats 40000000 in
theorem rm_sum (l : Launch) (Z : State) (av0 : Array Value) (hw : ∀ d ∈ tables_1, d.before av0 Z = true) (ws : List Jvm.Cond) (q0 : Int64) (q1 : Int64) (h0 : Heap) (n0 : Nat) (Z0 : n0 ≤ h0.size) (hfl : l.flags = pinnedFlags) (hj : ∀ d ∈ jdkStatics_1, d.before av0 Z = true) (hT0 : ThS Z h0) :
    MetFree l (⟨"com/example/zhangtiao/zhangtiao/input/ExactSum", "sum", "(JJ)J"⟩ : MethodName) (head1 (Jvm.Cond.codeWith (⟨"com/example/zhangtiao/zhangtiao/input/ExactSum", "sum", "(JJ)J"⟩ : MethodName) prog_25_method_15_code 5 (some .long) [(20, 25, 26, 87)] :: ws) ({ frames := 7, cells := 4, slots := 2814, locals := 99 } : Room)) (fun a U => a = #[(.long q0), (.long q1)] ∧ Z.Warmed39 U.vm ∧ U.heap = h0) own_K (fun _ U o U' => ∃ L, Q_sum Z q0 q1 h0 n0 o U'.heap L ∧ own_EndW U U' L ({ frames := 7, cells := 4, slots := 2814, locals := 99 } : Room).cells ({ frames := 7, cells := 4, slots := 2814, locals := 99 } : Room).slots) := by
  refine MetFree.of_bodySF (plainFor_of_name pn_sum) hisWith ?_
  intro p e s m args below meth c s₁ Bd hml0 hP hK
  obtain ⟨rfl, hZ, hh⟩ := hP
  have hx := Bd.exec
  have hby := Bd.bytes
  have hml : c.maxLocals = 5 := hml0
  have hown : s.vm.findClass "com/example/zhangtiao/zhangtiao/input/ExactSum" = some m.cls := findClass_of_methodNamed Bd.named
  have hnm := (name_of_methodNamed Bd.named Bd.method).1
  have hTK := hK.1
  have hBelow := hK.2
  have hT0s : ThS Z s.heap := by rw [hh]; exact hT0
  have htr := Launch.traces_on hfl Bd.admits
  have hZ0 := hZ
  have hown0 := hown
  have hTK0 := hTK
  have hBelow0 := hBelow
  have htab : c.exceptionTable.toList = [⟨20, 25, 26, 87⟩] := own_tab Bd (mv (args := #[]) hZ (hw _ (List.mem_of_getElem? (i := 9) rfl)))
  have X0 : Stand p l e ({ frames := 7, cells := 4, slots := 2814, locals := 99 } : Room) s m #[(.long q0), (.long q1)] below meth c s₁ [] 0 0 := Stand.of_body Bd
  have e0 : s₁.heap = h0 := by rw [← hh, Bd.state]; rfl
  have N0 := Fr.nil n0
  have pre0 : Go p.tables e below (s₁.setTop (entryFrame m #[(.long q0), (.long q1)] 5)) s₁ (mkF m 0 #[.val (.long q0), .second, .val (.long q1), .second, .unset] []) := fun t k => castTop (ef_sum m q0 q1) k
  have pre1 : Go p.tables e below (s₁.setTop (entryFrame m #[(.long q0), (.long q1)] 5)) s₁ (mkF m 5 #[.val (.long q0), .second, .val (.long q1), .second, .unset] [(.int (lcmpW q0 (-9223372036854775808 : Int64)))]) := fun t k => pre0 t (by
      refine XS.lloadN X0.here hx rfl (hb hby d90_0) rfl ?_
      show Steps p.tables e below (s₁.setTop (mkF m 1 #[.val (.long q0), .second, .val (.long q1), .second, .unset] [(.long q0)])) _
      refine X0.ldc2Long hx hown (mvT hZ (hw _ (List.mem_of_getElem? (i := 10) rfl))) (g := (mkF m 1 #[.val (.long q0), .second, .val (.long q1), .second, .unset] [(.long q0)])) rfl (hb hby d90_1) _ ?_
      show Steps p.tables e below (s₁.setTop (mkF m 4 #[.val (.long q0), .second, .val (.long q1), .second, .unset] [(.long (-9223372036854775808 : Int64)), (.long q0)])) _
      refine XS.lcmp X0.here hx rfl (hb hby d90_4) rfl ?_
      exact k)
  by_cases hc2 : q0 = (-9223372036854775808 : Int64)
  · -- hc2: True
    have pre3 : Go p.tables e below (s₁.setTop (entryFrame m #[(.long q0), (.long q1)] 5)) s₁ (mkF m 19 #[.val (.long q0), .second, .val (.long q1), .second, .unset] [(.long (-9223372036854775808 : Int64))]) := fun t k => pre1 t (by
        refine XS.ifYes X0.here hx rfl (pc0 := 5) (pc' := 16) rfl (hb hby d90_5) rfl ((if0 _ _).trans (teq ((lw_eq _ _).mpr hc2)).1) (by decide) (by decide) ?_
        show Steps p.tables e below (s₁.setTop (mkF m 16 #[.val (.long q0), .second, .val (.long q1), .second, .unset] [])) _
        refine X0.ldc2Long hx hown (mvT hZ (hw _ (List.mem_of_getElem? (i := 10) rfl))) (g := (mkF m 16 #[.val (.long q0), .second, .val (.long q1), .second, .unset] [])) rfl (hb hby d90_16) _ ?_
        exact k)
    obtain ⟨fs, hr, hrun, hended, hW, hsame⟩ := X0.leave (v := some (.long (-9223372036854775808 : Int64))) (fun h => by rw [Bd.returns] at h; cases h) (BodyLoose.notSynchronized Bd)
    refine ⟨_, _, pre3 _ ?_, hrun, hended, _, ?_, hW.wide, hW.no_new_pair _, hsame.mono (Nat.le_of_ble_eq_true rfl) (Nat.le_of_ble_eq_true rfl)⟩
    · exact retOut X0 hx Bd.returns rfl (Or.inr (Or.inl ⟨rfl, rfl, _, rfl⟩)) (hb hby d90_19) hr
    · show Q_sum Z q0 q1 h0 n0 _ s₁.heap _
      rw [e0]
      exact ⟨N0, by rw [own_sum_a hc2]⟩
  · -- hc2: False
    have pre4 : Go p.tables e below (s₁.setTop (entryFrame m #[(.long q0), (.long q1)] 5)) s₁ (mkF m 13 #[.val (.long q0), .second, .val (.long q1), .second, .unset] [(.int (lcmpW q1 (-9223372036854775808 : Int64)))]) := fun t k => pre1 t (by
        refine XS.ifNo X0.here hx rfl (hb hby d90_5) rfl ((if0 _ _).trans (feq (mt (lw_eq _ _).mp hc2)).1) ?_
        show Steps p.tables e below (s₁.setTop (mkF m 8 #[.val (.long q0), .second, .val (.long q1), .second, .unset] [])) _
        refine XS.lloadN X0.here hx rfl (hb hby d90_8) rfl ?_
        show Steps p.tables e below (s₁.setTop (mkF m 9 #[.val (.long q0), .second, .val (.long q1), .second, .unset] [(.long q1)])) _
        refine X0.ldc2Long hx hown (mvT hZ (hw _ (List.mem_of_getElem? (i := 10) rfl))) (g := (mkF m 9 #[.val (.long q0), .second, .val (.long q1), .second, .unset] [(.long q1)])) rfl (hb hby d90_9) _ ?_
        show Steps p.tables e below (s₁.setTop (mkF m 12 #[.val (.long q0), .second, .val (.long q1), .second, .unset] [(.long (-9223372036854775808 : Int64)), (.long q1)])) _
        refine XS.lcmp X0.here hx rfl (hb hby d90_12) rfl ?_
        exact k)
    by_cases hc5 : q1 = (-9223372036854775808 : Int64)
    · -- hc5: True
      have pre6 : Go p.tables e below (s₁.setTop (entryFrame m #[(.long q0), (.long q1)] 5)) s₁ (mkF m 19 #[.val (.long q0), .second, .val (.long q1), .second, .unset] [(.long (-9223372036854775808 : Int64))]) := fun t k => pre4 t (by
          refine XS.ifNo X0.here hx rfl (hb hby d90_13) rfl ((if0 _ _).trans (teq ((lw_eq _ _).mpr hc5)).2) ?_
          show Steps p.tables e below (s₁.setTop (mkF m 16 #[.val (.long q0), .second, .val (.long q1), .second, .unset] [])) _
          refine X0.ldc2Long hx hown (mvT hZ (hw _ (List.mem_of_getElem? (i := 10) rfl))) (g := (mkF m 16 #[.val (.long q0), .second, .val (.long q1), .second, .unset] [])) rfl (hb hby d90_16) _ ?_
          exact k)
      obtain ⟨fs, hr, hrun, hended, hW, hsame⟩ := X0.leave (v := some (.long (-9223372036854775808 : Int64))) (fun h => by rw [Bd.returns] at h; cases h) (BodyLoose.notSynchronized Bd)
      refine ⟨_, _, pre6 _ ?_, hrun, hended, _, ?_, hW.wide, hW.no_new_pair _, hsame.mono (Nat.le_of_ble_eq_true rfl) (Nat.le_of_ble_eq_true rfl)⟩
      · exact retOut X0 hx Bd.returns rfl (Or.inr (Or.inl ⟨rfl, rfl, _, rfl⟩)) (hb hby d90_19) hr
      · show Q_sum Z q0 q1 h0 n0 _ s₁.heap _
        rw [e0]
        exact ⟨N0, by rw [own_sum_b hc5]⟩
    · -- hc5: False
      have pre7 : Go p.tables e below (s₁.setTop (entryFrame m #[(.long q0), (.long q1)] 5)) s₁ (mkF m 22 #[.val (.long q0), .second, .val (.long q1), .second, .unset] [(.long q1), (.long q0)]) := fun t k => pre4 t (by
          refine XS.ifYes X0.here hx rfl (pc0 := 13) (pc' := 20) rfl (hb hby d90_13) rfl ((if0 _ _).trans (feq (mt (lw_eq _ _).mp hc5)).2) (by decide) (by decide) ?_
          show Steps p.tables e below (s₁.setTop (mkF m 20 #[.val (.long q0), .second, .val (.long q1), .second, .unset] [])) _
          refine XS.lloadN X0.here hx rfl (hb hby d90_20) rfl ?_
          show Steps p.tables e below (s₁.setTop (mkF m 21 #[.val (.long q0), .second, .val (.long q1), .second, .unset] [(.long q0)])) _
          refine XS.lloadN X0.here hx rfl (hb hby d90_21) rfl ?_
          exact k)
      obtain ⟨mk8, hn8⟩ := Cond.code_named (mv (args := #[]) hZ (hw _ (List.mem_of_getElem? (i := 14) rfl)))
      obtain ⟨mt8, cd8, hm8, hc8_, -, hl8, -, -, -, hs8⟩ := Cond.code_spec hn8 (mv (args := #[]) hZ (hw _ (List.mem_of_getElem? (i := 14) rfl)))
      obtain ⟨o8, T8, L8, hQ8, X8, hS8, stR8, stT8⟩ := own_call X0 hx (own := "com/example/zhangtiao/zhangtiao/input/ExactSum") (y := (⟨"java/lang/Math", "addExact", "(JJ)J"⟩ : MethodName)) hown (mv hZ (hw _ (List.mem_of_getElem? (i := 11) rfl))) (mv hZ (hw _ (List.mem_of_getElem? (i := 12) rfl))) (mv hZ (hw _ (List.mem_of_getElem? (i := 13) rfl))) hn8 hm8 hc8_ hl8 hs8 (by decide) (rm_add l Z av0 hw [] q0 q1 h0 n0 Z0 hfl hj hT0) hTK hBelow (g := (mkF m 22 #[.val (.long q0), .second, .val (.long q1), .second, .unset] [(.long q1), (.long q0)])) rfl (by rw [hml]; rfl) (argsL := [(.long q0), (.long q1)]) (rest := []) (lenOf pd_0 rfl) rfl (hb hby d90_22) (by decide) (by show 2 * 0 + _ + _ + _ ≤ _; decide) (by decide) (by decide) (fun U hU => by show (Jvm.Cond.and _ .tt).before _ U = true; rw [Cond.before_and, mv (wtrans hZ hU) (hw _ (List.mem_of_getElem? (i := 14) rfl))]; rfl) (fun U hU hh => ⟨rfl, wtrans hZ hU, hh.trans e0⟩)
      have al8 := hS8.1.alike
      have hZ : Z.Warmed39 (s.setVm T8.vm).vm := State.Warmed39.trans (t := s) hZ0 hS8.1
      have hown : (s.setVm T8.vm).vm.findClass "com/example/zhangtiao/zhangtiao/input/ExactSum" = some m.cls := by show T8.vm.findClass _ = _; rw [al8.findClass]; exact hown0
      have hTK : (s.setVm T8.vm).vm.MethodsKnown := hTK0.alikeC al8
      have hBelow : (s.setVm T8.vm).vm.FramesKnown below := fun y hy m' hm' => knowsMethod_alike al8 (hBelow0 y hy m' hm')
      obtain ⟨N8q, K8, hQ8⟩ := hQ8
      have N8 := Fr.app N0 N8q
      rcases hQ8 with ⟨ho8, rfl⟩ | ⟨ho8, x8, rfl, E8⟩
      · -- it returned
        have pre8 : Go p.tables e below (s₁.setTop (entryFrame m #[(.long q0), (.long q1)] 5)) T8 (mkF m 25 #[.val (.long q0), .second, .val (.long q1), .second, .unset] [(.long (q0 + q1))]) := fun t k => pre7 t ((stR8 _ rfl).trans k)
        obtain ⟨fs, hr, hrun, hended, -, hW1, hW2, hW3⟩ := X8.leaveW hS8 (Nat.le_refl _) (v := some (.long (q0 + q1))) (fun h => by rw [Bd.returns] at h; cases h) (BodyLoose.notSynchronized Bd)
        refine ⟨_, _, pre8 _ ?_, hrun, hended, _, ?_, hW1, hW2, State.sameButNew.mono hW3 (Nat.le_of_ble_eq_true rfl) (Nat.le_of_ble_eq_true rfl)⟩
        · exact retOut X8 hx Bd.returns rfl (Or.inr (Or.inl ⟨rfl, rfl, _, rfl⟩)) (hb hby d90_25) hr
        · show Q_sum Z q0 q1 h0 n0 _ T8.heap _
          exact ⟨N8, by rw [own_sum_n hc2 hc5 ho8]⟩
      · -- it threw
        obtain ⟨ce8, kx8, q8a, q8b, -, q8c, -⟩ := E8
        obtain ⟨vm8, Xc8, stc8⟩ := X8.thenCaughtLink x8 (g := (mkF m 22 #[.val (.long q0), .second, .val (.long q1), .second, .unset] [])) rfl (stT8 _ rfl) (own := "com/example/zhangtiao/zhangtiao/input/ExactSum") (name := own_AE) hown [] ⟨20, 25, 26, 87⟩ [] htab (fun _ q => nomatch q) (by show covers _ 22 = true; decide) (by decide) (mv hZ (hw _ (List.mem_of_getElem? (i := 87) rfl))) (cT := ce8.cls) (cell := ce8) (by rw [hZ.alike.findClass]; exact q8b) q8a q8c (Vm.assignable_self _ _)
        have pre8c : Go p.tables e below (s₁.setTop (entryFrame m #[(.long q0), (.long q1)] 5)) (T8.setVm vm8) (mkF m 26 #[.val (.long q0), .second, .val (.long q1), .second, .unset] [(.ref x8)]) := fun t k => pre7 t (stc8.trans k)
        have pre9 : Go p.tables e below (s₁.setTop (entryFrame m #[(.long q0), (.long q1)] 5)) (T8.setVm vm8) (mkF m 31 #[.val (.long q0), .second, .val (.long q1), .second, .val (.ref x8)] [(.long (-9223372036854775808 : Int64))]) := fun t k => pre8c t (by
            refine XS.astore Xc8.here hx rfl (hb hby d90_26) rfl rfl (l' := #[.val (.long q0), .second, .val (.long q1), .second, .val (.ref x8)]) rfl ?_
            show Steps p.tables e below ((T8.setVm vm8).setTop (mkF m 28 #[.val (.long q0), .second, .val (.long q1), .second, .val (.ref x8)] [])) _
            refine Xc8.ldc2Long hx hown (mvT hZ (hw _ (List.mem_of_getElem? (i := 10) rfl))) (g := (mkF m 28 #[.val (.long q0), .second, .val (.long q1), .second, .val (.ref x8)] [])) rfl (hb hby d90_28) _ ?_
            exact k)
        obtain ⟨fs, hr, hrun, hended, -, hW1, hW2, hW3⟩ := Xc8.leaveW hS8 (Nat.le_refl _) (v := some (.long (-9223372036854775808 : Int64))) (fun h => by rw [Bd.returns] at h; cases h) (BodyLoose.notSynchronized Bd)
        refine ⟨_, _, pre9 _ ?_, hrun, hended, _, ?_, hW1, hW2, State.sameButNew.mono hW3 (Nat.le_of_ble_eq_true rfl) (Nat.le_of_ble_eq_true rfl)⟩
        · exact retOut Xc8 hx Bd.returns rfl (Or.inr (Or.inl ⟨rfl, rfl, _, rfl⟩)) (hb hby d90_31) hr
        · show Q_sum Z q0 q1 h0 n0 _ (T8.setVm vm8).heap _
          exact ⟨N8, by rw [own_sum_o ho8]⟩
theorem pn_law : plainName "com/example/zhangtiao/zhangtiao/input/ExactSumSumPinLaw" = true := by first | (simp [plainName, overriddenIn]; done) | decide +kernel
theorem ef_law (m : MethodId) (y0 : Int64) (y1 : Int64) (y2 : Int32) : entryFrame m #[(.long y0), (.long y1), (.int y2)] maxLocals = mkF m 0 #[.val (.long y0), .second, .val (.long y1), .second, .val (.int y2), .unset, .unset, .unset, .unset, .unset, .unset] [] := by first | (simp [entryFrame, mkF, argsToLocals, Value.category, maxLocals]; done) | rfl
def Q_law (Z : State) (y0 : Int64) (y1 : Int64) (y2 : Int32) (h0 : Heap) (n0 : Nat) (o : Outcome) (h : Heap) (L : List Loc) : Prop := o = .returned (some (.int 1)) ∧ Fr n0 L
set_option maxRecDepth 65536 in
set_option maxHeartbeats 40000000 in
theorem rm_law (l : Launch) (Z : State) (av0 : Array Value) (hw : ∀ d ∈ tables_1, d.before av0 Z = true) (ws : List Jvm.Cond) (y0 : Int64) (y1 : Int64) (y2 : Int32) (h0 : Heap) (n0 : Nat) (Z0 : n0 ≤ h0.size) (hfl : l.flags = pinnedFlags) (hj : ∀ d ∈ jdkStatics_1, d.before av0 Z = true) (hT0 : ThS Z h0) :
    MetFree l x (head1 (Jvm.Cond.code x code maxLocals ret :: ws) room_1) (fun a U => a = #[(.long y0), (.long y1), (.int y2)] ∧ Z.Warmed39 U.vm ∧ U.heap = h0) own_K (fun _ U o U' => ∃ L, Q_law Z y0 y1 y2 h0 n0 o U'.heap L ∧ own_EndW U U' L room_1.cells room_1.slots) := by
  refine MetFree.of_bodySF (plainFor_of_name pn_law) hisR ?_
  intro p e s m args below meth c s₁ Bd hml0 hP hK
  obtain ⟨rfl, hZ, hh⟩ := hP
  have hx := Bd.exec
  have hby := Bd.bytes
  have hml : c.maxLocals = 11 := hml0
  have hown : s.vm.findClass "com/example/zhangtiao/zhangtiao/input/ExactSumSumPinLaw" = some m.cls := findClass_of_methodNamed Bd.named
  have hnm := (name_of_methodNamed Bd.named Bd.method).1
  have hTK := hK.1
  have hBelow := hK.2
  have hT0s : ThS Z s.heap := by rw [hh]; exact hT0
  have htr := Launch.traces_on hfl Bd.admits
  have hZ0 := hZ
  have hown0 := hown
  have hTK0 := hTK
  have hBelow0 := hBelow
  have X0 : Stand p l e room_1 s m #[(.long y0), (.long y1), (.int y2)] below meth c s₁ [] 0 0 := Stand.of_body Bd
  have e0 : s₁.heap = h0 := by rw [← hh, Bd.state]; rfl
  have N0 := Fr.nil n0
  have pre0 : Go p.tables e below (s₁.setTop (entryFrame m #[(.long y0), (.long y1), (.int y2)] maxLocals)) s₁ (mkF m 0 #[.val (.long y0), .second, .val (.long y1), .second, .val (.int y2), .unset, .unset, .unset, .unset, .unset, .unset] []) := fun t k => castTop (ef_law m y0 y1 y2) k
  have pre1 : Go p.tables e below (s₁.setTop (entryFrame m #[(.long y0), (.long y1), (.int y2)] maxLocals)) s₁ (mkF m 5 #[.val (.long y0), .second, .val (.long y1), .second, .val (.int y2), .unset, .unset, .unset, .unset, .unset, .unset] [(.int (y2 &&& (3 : Int32))), (.long y0)]) := fun t k => pre0 t (by
      refine XS.lloadN X0.here hx rfl (hb hby at_0) rfl ?_
      show Steps p.tables e below (s₁.setTop (mkF m 1 #[.val (.long y0), .second, .val (.long y1), .second, .val (.int y2), .unset, .unset, .unset, .unset, .unset, .unset] [(.long y0)])) _
      refine XS.iload X0.here hx rfl (hb hby at_1) rfl ?_
      show Steps p.tables e below (s₁.setTop (mkF m 3 #[.val (.long y0), .second, .val (.long y1), .second, .val (.int y2), .unset, .unset, .unset, .unset, .unset, .unset] [(.int y2), (.long y0)])) _
      refine XS.iconst X0.here hx rfl (hb hby at_3) ?_
      show Steps p.tables e below (s₁.setTop (mkF m 4 #[.val (.long y0), .second, .val (.long y1), .second, .val (.int y2), .unset, .unset, .unset, .unset, .unset, .unset] [(.int (3 : Int32)), (.int y2), (.long y0)])) _
      refine XS.iand X0.here hx rfl (hb hby at_4) rfl ?_
      exact k)
  obtain ⟨_, _, ⟨T2, L2, k2, n2⟩, -, X2, ⟨Lc2, hQ2, l2, y2, z2⟩, st2⟩ := Jvm.LawKit.callS X0 hx (y := (⟨"com/example/zhangtiao/zhangtiao/input/ExactSumSumPinLaw", "pick", "(JI)J"⟩ : MethodName)) hown (mvT hZ (hw _ (List.mem_of_getElem? (i := 0) rfl))) (mvT hZ (hw _ (List.mem_of_getElem? (i := 1) rfl))) (mvT hZ (hw _ (List.mem_of_getElem? (i := 2) rfl))) (mvT hZ (hw _ (List.mem_of_getElem? (i := 3) rfl))) (by decide) (backOf (W := 0) (rm_pick l Z av0 hw [] y0 (y2 &&& (3 : Int32)) h0 n0) hZ (hw _ (List.mem_of_getElem? (i := 3) rfl)) (hw _ (List.mem_of_getElem? (i := 2) rfl)) (by decide) (by decide)) (g := (mkF m 5 #[.val (.long y0), .second, .val (.long y1), .second, .val (.int y2), .unset, .unset, .unset, .unset, .unset, .unset] [(.int (y2 &&& (3 : Int32))), (.long y0)])) rfl (by rw [hml]; rfl) (argsL := [(.long y0), (.int (y2 &&& (3 : Int32)))]) (rest := []) (lenOf pd_1 rfl) rfl (by show 2 * 0 + _ ≤ _; exact Nat.le_of_eq rfl) (hb hby at_5) (fun _ _ => ⟨rfl, e0, (by decide : 0 + 0 ≤ _), (by decide : 0 + 0 ≤ _)⟩)
  dsimp only [Pt.U, Pt.locs, Pt.cells, Pt.slots] at X2 l2 y2 z2 st2 hQ2
  subst l2 y2 z2
  obtain ⟨rfl, N2q, e2⟩ := hQ2
  have N2 := Fr.app N0 N2q
  have pre2 : Go p.tables e below (s₁.setTop (entryFrame m #[(.long y0), (.long y1), (.int y2)] maxLocals)) T2 (mkF m 8 #[.val (.long y0), .second, .val (.long y1), .second, .val (.int y2), .unset, .unset, .unset, .unset, .unset, .unset] [(.long (own_pick y0 (y2 &&& (3 : Int32))))]) := fun t k => pre1 t (st2 _ k)
  obtain ⟨w3, hw3⟩ : ∃ z : Int64, z = (own_pick y0 (y2 &&& (3 : Int32))) := ⟨_, rfl⟩
  have pre4 : Go p.tables e below (s₁.setTop (entryFrame m #[(.long y0), (.long y1), (.int y2)] maxLocals)) T2 (mkF m 17 #[.val (.long y0), .second, .val (.long y1), .second, .val (.int y2), .val (.long w3), .second, .unset, .unset, .unset, .unset] [(.int (((y2.toUInt32 >>> ((2 : Int32) &&& 31).toUInt32).toInt32) &&& (3 : Int32))), (.long y1)]) := fun t k => pre2 t (by
      refine XS.lstore X2.here hx rfl (x := w3) (rest := []) (hb hby at_8) (by subst hw3; rfl) (l' := #[.val (.long y0), .second, .val (.long y1), .second, .val (.int y2), .val (.long w3), .second, .unset, .unset, .unset, .unset]) rfl ?_
      show Steps p.tables e below (T2.setTop (mkF m 10 #[.val (.long y0), .second, .val (.long y1), .second, .val (.int y2), .val (.long w3), .second, .unset, .unset, .unset, .unset] [])) _
      refine XS.lloadN X2.here hx rfl (hb hby at_10) rfl ?_
      show Steps p.tables e below (T2.setTop (mkF m 11 #[.val (.long y0), .second, .val (.long y1), .second, .val (.int y2), .val (.long w3), .second, .unset, .unset, .unset, .unset] [(.long y1)])) _
      refine XS.iload X2.here hx rfl (hb hby at_11) rfl ?_
      show Steps p.tables e below (T2.setTop (mkF m 13 #[.val (.long y0), .second, .val (.long y1), .second, .val (.int y2), .val (.long w3), .second, .unset, .unset, .unset, .unset] [(.int y2), (.long y1)])) _
      refine XS.iconst X2.here hx rfl (hb hby at_13) ?_
      show Steps p.tables e below (T2.setTop (mkF m 14 #[.val (.long y0), .second, .val (.long y1), .second, .val (.int y2), .val (.long w3), .second, .unset, .unset, .unset, .unset] [(.int (2 : Int32)), (.int y2), (.long y1)])) _
      refine XS.iushr X2.here hx rfl (hb hby at_14) rfl ?_
      show Steps p.tables e below (T2.setTop (mkF m 15 #[.val (.long y0), .second, .val (.long y1), .second, .val (.int y2), .val (.long w3), .second, .unset, .unset, .unset, .unset] [(.int ((y2.toUInt32 >>> ((2 : Int32) &&& 31).toUInt32).toInt32)), (.long y1)])) _
      refine XS.iconst X2.here hx rfl (hb hby at_15) ?_
      show Steps p.tables e below (T2.setTop (mkF m 16 #[.val (.long y0), .second, .val (.long y1), .second, .val (.int y2), .val (.long w3), .second, .unset, .unset, .unset, .unset] [(.int (3 : Int32)), (.int ((y2.toUInt32 >>> ((2 : Int32) &&& 31).toUInt32).toInt32)), (.long y1)])) _
      refine XS.iand X2.here hx rfl (hb hby at_16) rfl ?_
      exact k)
  obtain ⟨_, _, ⟨T5, L5, k5, n5⟩, -, X5, ⟨Lc5, hQ5, l5, y5, z5⟩, st5⟩ := Jvm.LawKit.callS X2 hx (y := (⟨"com/example/zhangtiao/zhangtiao/input/ExactSumSumPinLaw", "pick", "(JI)J"⟩ : MethodName)) hown (mvT hZ (hw _ (List.mem_of_getElem? (i := 0) rfl))) (mvT hZ (hw _ (List.mem_of_getElem? (i := 1) rfl))) (mvT hZ (hw _ (List.mem_of_getElem? (i := 2) rfl))) (mvT hZ (hw _ (List.mem_of_getElem? (i := 3) rfl))) (by decide) (backOf (W := 0) (rm_pick l Z av0 hw [] y1 (((y2.toUInt32 >>> ((2 : Int32) &&& 31).toUInt32).toInt32) &&& (3 : Int32)) h0 n0) hZ (hw _ (List.mem_of_getElem? (i := 3) rfl)) (hw _ (List.mem_of_getElem? (i := 2) rfl)) (by decide) (by decide)) (g := (mkF m 17 #[.val (.long y0), .second, .val (.long y1), .second, .val (.int y2), .val (.long w3), .second, .unset, .unset, .unset, .unset] [(.int (((y2.toUInt32 >>> ((2 : Int32) &&& 31).toUInt32).toInt32) &&& (3 : Int32))), (.long y1)])) rfl (by rw [hml]; rfl) (argsL := [(.long y1), (.int (((y2.toUInt32 >>> ((2 : Int32) &&& 31).toUInt32).toInt32) &&& (3 : Int32)))]) (rest := []) (lenOf pd_1 rfl) rfl (by show 2 * 0 + _ ≤ _; exact Nat.le_of_eq rfl) (hb hby at_17) (fun _ _ => ⟨rfl, e2, (by decide : 0 + 0 ≤ _), (by decide : 0 + 0 ≤ _)⟩)
  dsimp only [Pt.U, Pt.locs, Pt.cells, Pt.slots] at X5 l5 y5 z5 st5 hQ5
  subst l5 y5 z5
  obtain ⟨rfl, N5q, e5⟩ := hQ5
  have N5 := Fr.app N2 N5q
  have pre5 : Go p.tables e below (s₁.setTop (entryFrame m #[(.long y0), (.long y1), (.int y2)] maxLocals)) T5 (mkF m 20 #[.val (.long y0), .second, .val (.long y1), .second, .val (.int y2), .val (.long w3), .second, .unset, .unset, .unset, .unset] [(.long (own_pick y1 (((y2.toUInt32 >>> ((2 : Int32) &&& 31).toUInt32).toInt32) &&& (3 : Int32))))]) := fun t k => pre4 t (st5 _ k)
  obtain ⟨w6, hw6⟩ : ∃ z : Int64, z = (own_pick y1 (((y2.toUInt32 >>> ((2 : Int32) &&& 31).toUInt32).toInt32) &&& (3 : Int32))) := ⟨_, rfl⟩
  have pre7 : Go p.tables e below (s₁.setTop (entryFrame m #[(.long y0), (.long y1), (.int y2)] maxLocals)) T5 (mkF m 28 #[.val (.long y0), .second, .val (.long y1), .second, .val (.int y2), .val (.long w3), .second, .val (.long w6), .second, .unset, .unset] [(.int (lcmpW w3 (-9223372036854775808 : Int64)))]) := fun t k => pre5 t (by
      refine XS.lstore X5.here hx rfl (x := w6) (rest := []) (hb hby at_20) (by subst hw6; rfl) (l' := #[.val (.long y0), .second, .val (.long y1), .second, .val (.int y2), .val (.long w3), .second, .val (.long w6), .second, .unset, .unset]) rfl ?_
      show Steps p.tables e below (T5.setTop (mkF m 22 #[.val (.long y0), .second, .val (.long y1), .second, .val (.int y2), .val (.long w3), .second, .val (.long w6), .second, .unset, .unset] [])) _
      refine XS.lload X5.here hx rfl (hb hby at_22) rfl ?_
      show Steps p.tables e below (T5.setTop (mkF m 24 #[.val (.long y0), .second, .val (.long y1), .second, .val (.int y2), .val (.long w3), .second, .val (.long w6), .second, .unset, .unset] [(.long w3)])) _
      refine X5.ldc2Long hx hown (mvT hZ (hw _ (List.mem_of_getElem? (i := 4) rfl))) (g := (mkF m 24 #[.val (.long y0), .second, .val (.long y1), .second, .val (.int y2), .val (.long w3), .second, .val (.long w6), .second, .unset, .unset] [(.long w3)])) rfl (hb hby at_24) _ ?_
      show Steps p.tables e below (T5.setTop (mkF m 27 #[.val (.long y0), .second, .val (.long y1), .second, .val (.int y2), .val (.long w3), .second, .val (.long w6), .second, .unset, .unset] [(.long (-9223372036854775808 : Int64)), (.long w3)])) _
      refine XS.lcmp X5.here hx rfl (hb hby at_27) rfl ?_
      exact k)
  by_cases hc8 : w3 = (-9223372036854775808 : Int64)
  · -- hc8: True
    have pre9 : Go p.tables e below (s₁.setTop (entryFrame m #[(.long y0), (.long y1), (.int y2)] maxLocals)) T5 (mkF m 113 #[.val (.long y0), .second, .val (.long y1), .second, .val (.int y2), .val (.long w3), .second, .val (.long w6), .second, .val (.long (-9223372036854775808 : Int64)), .second] [(.long w6), (.long w3)]) := fun t k => pre7 t (by
        refine XS.ifYes X5.here hx rfl (pc0 := 28) (pc' := 40) rfl (hb hby at_28) rfl ((if0 _ _).trans (teq ((lw_eq _ _).mpr hc8)).1) (by decide) (by decide) ?_
        show Steps p.tables e below (T5.setTop (mkF m 40 #[.val (.long y0), .second, .val (.long y1), .second, .val (.int y2), .val (.long w3), .second, .val (.long w6), .second, .unset, .unset] [])) _
        refine X5.ldc2Long hx hown (mvT hZ (hw _ (List.mem_of_getElem? (i := 4) rfl))) (g := (mkF m 40 #[.val (.long y0), .second, .val (.long y1), .second, .val (.int y2), .val (.long w3), .second, .val (.long w6), .second, .unset, .unset] [])) rfl (hb hby at_40) _ ?_
        show Steps p.tables e below (T5.setTop (mkF m 43 #[.val (.long y0), .second, .val (.long y1), .second, .val (.int y2), .val (.long w3), .second, .val (.long w6), .second, .unset, .unset] [(.long (-9223372036854775808 : Int64))])) _
        refine XS.lstore X5.here hx rfl (hb hby at_43) rfl (l' := #[.val (.long y0), .second, .val (.long y1), .second, .val (.int y2), .val (.long w3), .second, .val (.long w6), .second, .val (.long (-9223372036854775808 : Int64)), .second]) rfl ?_
        show Steps p.tables e below (T5.setTop (mkF m 45 #[.val (.long y0), .second, .val (.long y1), .second, .val (.int y2), .val (.long w3), .second, .val (.long w6), .second, .val (.long (-9223372036854775808 : Int64)), .second] [])) _
        refine XS.goto X5.here hx rfl (pc0 := 45) (pc' := 109) rfl (hb hby at_45) (by decide) (by decide) ?_
        show Steps p.tables e below (T5.setTop (mkF m 109 #[.val (.long y0), .second, .val (.long y1), .second, .val (.int y2), .val (.long w3), .second, .val (.long w6), .second, .val (.long (-9223372036854775808 : Int64)), .second] [])) _
        refine XS.lload X5.here hx rfl (hb hby at_109) rfl ?_
        show Steps p.tables e below (T5.setTop (mkF m 111 #[.val (.long y0), .second, .val (.long y1), .second, .val (.int y2), .val (.long w3), .second, .val (.long w6), .second, .val (.long (-9223372036854775808 : Int64)), .second] [(.long w3)])) _
        refine XS.lload X5.here hx rfl (hb hby at_111) rfl ?_
        exact k)
    obtain ⟨mk10, mt10, cd10, hn10, hm10, hc10_, -, hl10, -, -, -, hs10⟩ := Cond.codeWith_spec (mv (args := #[]) hZ (hw _ (List.mem_of_getElem? (i := 9) rfl)))
    obtain ⟨o10, T10, L10, hQ10, X10, hS10, stR10, stT10⟩ := own_call X5 hx (own := "com/example/zhangtiao/zhangtiao/input/ExactSumSumPinLaw") (y := (⟨"com/example/zhangtiao/zhangtiao/input/ExactSum", "sum", "(JJ)J"⟩ : MethodName)) hown (mv hZ (hw _ (List.mem_of_getElem? (i := 6) rfl))) (mv hZ (hw _ (List.mem_of_getElem? (i := 7) rfl))) (mv hZ (hw _ (List.mem_of_getElem? (i := 8) rfl))) hn10 hm10 hc10_ hl10 hs10 (by decide) (rm_sum l Z av0 hw [] w3 w6 h0 n0 Z0 hfl hj hT0) hTK hBelow (g := (mkF m 113 #[.val (.long y0), .second, .val (.long y1), .second, .val (.int y2), .val (.long w3), .second, .val (.long w6), .second, .val (.long (-9223372036854775808 : Int64)), .second] [(.long w6), (.long w3)])) rfl (by rw [hml]; rfl) (argsL := [(.long w3), (.long w6)]) (rest := []) (lenOf pd_0 rfl) rfl (hb hby at_113) (by decide) (by show 2 * 0 + _ + _ + _ ≤ _; decide) (by decide) (by decide) (fun U hU => by show (Jvm.Cond.and _ .tt).before _ U = true; rw [Cond.before_and, mv (wtrans hZ hU) (hw _ (List.mem_of_getElem? (i := 9) rfl))]; rfl) (fun U hU hh => ⟨rfl, wtrans hZ hU, hh.trans e5⟩)
    have al10 := hS10.1.alike
    have hZ : Z.Warmed39 (s.setVm T10.vm).vm := State.Warmed39.trans (t := s) hZ0 hS10.1
    have hown : (s.setVm T10.vm).vm.findClass "com/example/zhangtiao/zhangtiao/input/ExactSumSumPinLaw" = some m.cls := by show T10.vm.findClass _ = _; rw [al10.findClass]; exact hown0
    have hTK : (s.setVm T10.vm).vm.MethodsKnown := hTK0.alikeC al10
    have hBelow : (s.setVm T10.vm).vm.FramesKnown below := fun y hy m' hm' => knowsMethod_alike al10 (hBelow0 y hy m' hm')
    obtain ⟨N10q, rfl⟩ := hQ10
    have N10 := Fr.app N5 N10q
    have pre10 : Go p.tables e below (s₁.setTop (entryFrame m #[(.long y0), (.long y1), (.int y2)] maxLocals)) T10 (mkF m 116 #[.val (.long y0), .second, .val (.long y1), .second, .val (.int y2), .val (.long w3), .second, .val (.long w6), .second, .val (.long (-9223372036854775808 : Int64)), .second] [(.long (own_sum w3 w6))]) := fun t k => pre9 t ((stR10 _ rfl).trans k)
    have hq10 : own_sum w3 w6 = (-9223372036854775808 : Int64) := own_sum_a hc8
    have pre11 : Go p.tables e below (s₁.setTop (entryFrame m #[(.long y0), (.long y1), (.int y2)] maxLocals)) T10 (mkF m 127 #[.val (.long y0), .second, .val (.long y1), .second, .val (.int y2), .val (.long w3), .second, .val (.long w6), .second, .val (.long (-9223372036854775808 : Int64)), .second] [(.int (1 : Int32))]) := fun t k => pre10 t (by
        refine XS.lload X10.here hx rfl (hb hby at_116) rfl ?_
        show Steps p.tables e below (T10.setTop (mkF m 118 #[.val (.long y0), .second, .val (.long y1), .second, .val (.int y2), .val (.long w3), .second, .val (.long w6), .second, .val (.long (-9223372036854775808 : Int64)), .second] [(.long (-9223372036854775808 : Int64)), (.long (own_sum w3 w6))])) _
        refine XS.lcmp X10.here hx rfl (hb hby at_118) rfl ?_
        show Steps p.tables e below (T10.setTop (mkF m 119 #[.val (.long y0), .second, .val (.long y1), .second, .val (.int y2), .val (.long w3), .second, .val (.long w6), .second, .val (.long (-9223372036854775808 : Int64)), .second] [(.int (lcmpW (own_sum w3 w6) (-9223372036854775808 : Int64)))])) _
        refine XS.ifNo X10.here hx rfl (hb hby at_119) rfl ((if0 _ _).trans (teq ((lw_eq _ _).mpr hq10)).2) ?_
        show Steps p.tables e below (T10.setTop (mkF m 122 #[.val (.long y0), .second, .val (.long y1), .second, .val (.int y2), .val (.long w3), .second, .val (.long w6), .second, .val (.long (-9223372036854775808 : Int64)), .second] [])) _
        refine XS.iconst X10.here hx rfl (hb hby at_122) ?_
        show Steps p.tables e below (T10.setTop (mkF m 123 #[.val (.long y0), .second, .val (.long y1), .second, .val (.int y2), .val (.long w3), .second, .val (.long w6), .second, .val (.long (-9223372036854775808 : Int64)), .second] [(.int (1 : Int32))])) _
        refine XS.goto X10.here hx rfl (pc0 := 123) (pc' := 127) rfl (hb hby at_123) (by decide) (by decide) ?_
        exact k)
    obtain ⟨fs, hr, hrun, hended, -, hW1, hW2, hW3⟩ := X10.leaveW hS10 (Nat.le_refl _) (v := some (.int (1 : Int32))) (fun h => by rw [Bd.returns] at h; cases h) (BodyLoose.notSynchronized Bd)
    refine ⟨_, _, pre11 _ ?_, hrun, hended, _, ?_, hW1, hW2, State.sameButNew.mono hW3 (Nat.le_of_ble_eq_true rfl) (Nat.le_of_ble_eq_true rfl)⟩
    · exact retN X10 hx (t := .boolean) Bd.returns (by simp) (hb hby at_127) hr
    · show Q_law Z y0 y1 y2 h0 n0 _ T10.heap _
      exact ⟨rfl, N10⟩
  · -- hc8: False
    have pre12 : Go p.tables e below (s₁.setTop (entryFrame m #[(.long y0), (.long y1), (.int y2)] maxLocals)) T5 (mkF m 37 #[.val (.long y0), .second, .val (.long y1), .second, .val (.int y2), .val (.long w3), .second, .val (.long w6), .second, .unset, .unset] [(.int (lcmpW w6 (-9223372036854775808 : Int64)))]) := fun t k => pre7 t (by
        refine XS.ifNo X5.here hx rfl (hb hby at_28) rfl ((if0 _ _).trans (feq (mt (lw_eq _ _).mp hc8)).1) ?_
        show Steps p.tables e below (T5.setTop (mkF m 31 #[.val (.long y0), .second, .val (.long y1), .second, .val (.int y2), .val (.long w3), .second, .val (.long w6), .second, .unset, .unset] [])) _
        refine XS.lload X5.here hx rfl (hb hby at_31) rfl ?_
        show Steps p.tables e below (T5.setTop (mkF m 33 #[.val (.long y0), .second, .val (.long y1), .second, .val (.int y2), .val (.long w3), .second, .val (.long w6), .second, .unset, .unset] [(.long w6)])) _
        refine X5.ldc2Long hx hown (mvT hZ (hw _ (List.mem_of_getElem? (i := 4) rfl))) (g := (mkF m 33 #[.val (.long y0), .second, .val (.long y1), .second, .val (.int y2), .val (.long w3), .second, .val (.long w6), .second, .unset, .unset] [(.long w6)])) rfl (hb hby at_33) _ ?_
        show Steps p.tables e below (T5.setTop (mkF m 36 #[.val (.long y0), .second, .val (.long y1), .second, .val (.int y2), .val (.long w3), .second, .val (.long w6), .second, .unset, .unset] [(.long (-9223372036854775808 : Int64)), (.long w6)])) _
        refine XS.lcmp X5.here hx rfl (hb hby at_36) rfl ?_
        exact k)
    by_cases hc13 : w6 = (-9223372036854775808 : Int64)
    · -- hc13: True
      have pre14 : Go p.tables e below (s₁.setTop (entryFrame m #[(.long y0), (.long y1), (.int y2)] maxLocals)) T5 (mkF m 113 #[.val (.long y0), .second, .val (.long y1), .second, .val (.int y2), .val (.long w3), .second, .val (.long w6), .second, .val (.long (-9223372036854775808 : Int64)), .second] [(.long w6), (.long w3)]) := fun t k => pre12 t (by
          refine XS.ifNo X5.here hx rfl (hb hby at_37) rfl ((if0 _ _).trans (teq ((lw_eq _ _).mpr hc13)).2) ?_
          show Steps p.tables e below (T5.setTop (mkF m 40 #[.val (.long y0), .second, .val (.long y1), .second, .val (.int y2), .val (.long w3), .second, .val (.long w6), .second, .unset, .unset] [])) _
          refine X5.ldc2Long hx hown (mvT hZ (hw _ (List.mem_of_getElem? (i := 4) rfl))) (g := (mkF m 40 #[.val (.long y0), .second, .val (.long y1), .second, .val (.int y2), .val (.long w3), .second, .val (.long w6), .second, .unset, .unset] [])) rfl (hb hby at_40) _ ?_
          show Steps p.tables e below (T5.setTop (mkF m 43 #[.val (.long y0), .second, .val (.long y1), .second, .val (.int y2), .val (.long w3), .second, .val (.long w6), .second, .unset, .unset] [(.long (-9223372036854775808 : Int64))])) _
          refine XS.lstore X5.here hx rfl (hb hby at_43) rfl (l' := #[.val (.long y0), .second, .val (.long y1), .second, .val (.int y2), .val (.long w3), .second, .val (.long w6), .second, .val (.long (-9223372036854775808 : Int64)), .second]) rfl ?_
          show Steps p.tables e below (T5.setTop (mkF m 45 #[.val (.long y0), .second, .val (.long y1), .second, .val (.int y2), .val (.long w3), .second, .val (.long w6), .second, .val (.long (-9223372036854775808 : Int64)), .second] [])) _
          refine XS.goto X5.here hx rfl (pc0 := 45) (pc' := 109) rfl (hb hby at_45) (by decide) (by decide) ?_
          show Steps p.tables e below (T5.setTop (mkF m 109 #[.val (.long y0), .second, .val (.long y1), .second, .val (.int y2), .val (.long w3), .second, .val (.long w6), .second, .val (.long (-9223372036854775808 : Int64)), .second] [])) _
          refine XS.lload X5.here hx rfl (hb hby at_109) rfl ?_
          show Steps p.tables e below (T5.setTop (mkF m 111 #[.val (.long y0), .second, .val (.long y1), .second, .val (.int y2), .val (.long w3), .second, .val (.long w6), .second, .val (.long (-9223372036854775808 : Int64)), .second] [(.long w3)])) _
          refine XS.lload X5.here hx rfl (hb hby at_111) rfl ?_
          exact k)
      obtain ⟨mk15, mt15, cd15, hn15, hm15, hc15_, -, hl15, -, -, -, hs15⟩ := Cond.codeWith_spec (mv (args := #[]) hZ (hw _ (List.mem_of_getElem? (i := 9) rfl)))
      obtain ⟨o15, T15, L15, hQ15, X15, hS15, stR15, stT15⟩ := own_call X5 hx (own := "com/example/zhangtiao/zhangtiao/input/ExactSumSumPinLaw") (y := (⟨"com/example/zhangtiao/zhangtiao/input/ExactSum", "sum", "(JJ)J"⟩ : MethodName)) hown (mv hZ (hw _ (List.mem_of_getElem? (i := 6) rfl))) (mv hZ (hw _ (List.mem_of_getElem? (i := 7) rfl))) (mv hZ (hw _ (List.mem_of_getElem? (i := 8) rfl))) hn15 hm15 hc15_ hl15 hs15 (by decide) (rm_sum l Z av0 hw [] w3 w6 h0 n0 Z0 hfl hj hT0) hTK hBelow (g := (mkF m 113 #[.val (.long y0), .second, .val (.long y1), .second, .val (.int y2), .val (.long w3), .second, .val (.long w6), .second, .val (.long (-9223372036854775808 : Int64)), .second] [(.long w6), (.long w3)])) rfl (by rw [hml]; rfl) (argsL := [(.long w3), (.long w6)]) (rest := []) (lenOf pd_0 rfl) rfl (hb hby at_113) (by decide) (by show 2 * 0 + _ + _ + _ ≤ _; decide) (by decide) (by decide) (fun U hU => by show (Jvm.Cond.and _ .tt).before _ U = true; rw [Cond.before_and, mv (wtrans hZ hU) (hw _ (List.mem_of_getElem? (i := 9) rfl))]; rfl) (fun U hU hh => ⟨rfl, wtrans hZ hU, hh.trans e5⟩)
      have al15 := hS15.1.alike
      have hZ : Z.Warmed39 (s.setVm T15.vm).vm := State.Warmed39.trans (t := s) hZ0 hS15.1
      have hown : (s.setVm T15.vm).vm.findClass "com/example/zhangtiao/zhangtiao/input/ExactSumSumPinLaw" = some m.cls := by show T15.vm.findClass _ = _; rw [al15.findClass]; exact hown0
      have hTK : (s.setVm T15.vm).vm.MethodsKnown := hTK0.alikeC al15
      have hBelow : (s.setVm T15.vm).vm.FramesKnown below := fun y hy m' hm' => knowsMethod_alike al15 (hBelow0 y hy m' hm')
      obtain ⟨N15q, rfl⟩ := hQ15
      have N15 := Fr.app N5 N15q
      have pre15 : Go p.tables e below (s₁.setTop (entryFrame m #[(.long y0), (.long y1), (.int y2)] maxLocals)) T15 (mkF m 116 #[.val (.long y0), .second, .val (.long y1), .second, .val (.int y2), .val (.long w3), .second, .val (.long w6), .second, .val (.long (-9223372036854775808 : Int64)), .second] [(.long (own_sum w3 w6))]) := fun t k => pre14 t ((stR15 _ rfl).trans k)
      have hq15 : own_sum w3 w6 = (-9223372036854775808 : Int64) := own_sum_b hc13
      have pre16 : Go p.tables e below (s₁.setTop (entryFrame m #[(.long y0), (.long y1), (.int y2)] maxLocals)) T15 (mkF m 127 #[.val (.long y0), .second, .val (.long y1), .second, .val (.int y2), .val (.long w3), .second, .val (.long w6), .second, .val (.long (-9223372036854775808 : Int64)), .second] [(.int (1 : Int32))]) := fun t k => pre15 t (by
          refine XS.lload X15.here hx rfl (hb hby at_116) rfl ?_
          show Steps p.tables e below (T15.setTop (mkF m 118 #[.val (.long y0), .second, .val (.long y1), .second, .val (.int y2), .val (.long w3), .second, .val (.long w6), .second, .val (.long (-9223372036854775808 : Int64)), .second] [(.long (-9223372036854775808 : Int64)), (.long (own_sum w3 w6))])) _
          refine XS.lcmp X15.here hx rfl (hb hby at_118) rfl ?_
          show Steps p.tables e below (T15.setTop (mkF m 119 #[.val (.long y0), .second, .val (.long y1), .second, .val (.int y2), .val (.long w3), .second, .val (.long w6), .second, .val (.long (-9223372036854775808 : Int64)), .second] [(.int (lcmpW (own_sum w3 w6) (-9223372036854775808 : Int64)))])) _
          refine XS.ifNo X15.here hx rfl (hb hby at_119) rfl ((if0 _ _).trans (teq ((lw_eq _ _).mpr hq15)).2) ?_
          show Steps p.tables e below (T15.setTop (mkF m 122 #[.val (.long y0), .second, .val (.long y1), .second, .val (.int y2), .val (.long w3), .second, .val (.long w6), .second, .val (.long (-9223372036854775808 : Int64)), .second] [])) _
          refine XS.iconst X15.here hx rfl (hb hby at_122) ?_
          show Steps p.tables e below (T15.setTop (mkF m 123 #[.val (.long y0), .second, .val (.long y1), .second, .val (.int y2), .val (.long w3), .second, .val (.long w6), .second, .val (.long (-9223372036854775808 : Int64)), .second] [(.int (1 : Int32))])) _
          refine XS.goto X15.here hx rfl (pc0 := 123) (pc' := 127) rfl (hb hby at_123) (by decide) (by decide) ?_
          exact k)
      obtain ⟨fs, hr, hrun, hended, -, hW1, hW2, hW3⟩ := X15.leaveW hS15 (Nat.le_refl _) (v := some (.int (1 : Int32))) (fun h => by rw [Bd.returns] at h; cases h) (BodyLoose.notSynchronized Bd)
      refine ⟨_, _, pre16 _ ?_, hrun, hended, _, ?_, hW1, hW2, State.sameButNew.mono hW3 (Nat.le_of_ble_eq_true rfl) (Nat.le_of_ble_eq_true rfl)⟩
      · exact retN X15 hx (t := .boolean) Bd.returns (by simp) (hb hby at_127) hr
      · show Q_law Z y0 y1 y2 h0 n0 _ T15.heap _
        exact ⟨rfl, N15⟩
    · -- hc13: False
      have pre17 : Go p.tables e below (s₁.setTop (entryFrame m #[(.long y0), (.long y1), (.int y2)] maxLocals)) T5 (mkF m 52 #[.val (.long y0), .second, .val (.long y1), .second, .val (.int y2), .val (.long w3), .second, .val (.long w6), .second, .unset, .unset] [(.int (lcmpW w3 (0 : Int64)))]) := fun t k => pre12 t (by
          refine XS.ifYes X5.here hx rfl (pc0 := 37) (pc' := 48) rfl (hb hby at_37) rfl ((if0 _ _).trans (feq (mt (lw_eq _ _).mp hc13)).2) (by decide) (by decide) ?_
          show Steps p.tables e below (T5.setTop (mkF m 48 #[.val (.long y0), .second, .val (.long y1), .second, .val (.int y2), .val (.long w3), .second, .val (.long w6), .second, .unset, .unset] [])) _
          refine XS.lload X5.here hx rfl (hb hby at_48) rfl ?_
          show Steps p.tables e below (T5.setTop (mkF m 50 #[.val (.long y0), .second, .val (.long y1), .second, .val (.int y2), .val (.long w3), .second, .val (.long w6), .second, .unset, .unset] [(.long w3)])) _
          refine XS.lconst X5.here hx rfl (hb hby at_50) ?_
          show Steps p.tables e below (T5.setTop (mkF m 51 #[.val (.long y0), .second, .val (.long y1), .second, .val (.int y2), .val (.long w3), .second, .val (.long w6), .second, .unset, .unset] [(.long (0 : Int64)), (.long w3)])) _
          refine XS.lcmp X5.here hx rfl (hb hby at_51) rfl ?_
          exact k)
      by_cases hc18 : (0 : Int64) < w3
      · -- hc18: True
        have pre19 : Go p.tables e below (s₁.setTop (entryFrame m #[(.long y0), (.long y1), (.int y2)] maxLocals)) T5 (mkF m 64 #[.val (.long y0), .second, .val (.long y1), .second, .val (.int y2), .val (.long w3), .second, .val (.long w6), .second, .unset, .unset] [(.int (lcmpW w6 ((9223372036854775807 : Int64) - w3)))]) := fun t k => pre17 t (by
            refine XS.ifNo X5.here hx rfl (hb hby at_52) rfl ((if0 _ _).trans (tlt ((lw_gt _ _).mpr hc18)).2.2.2) ?_
            show Steps p.tables e below (T5.setTop (mkF m 55 #[.val (.long y0), .second, .val (.long y1), .second, .val (.int y2), .val (.long w3), .second, .val (.long w6), .second, .unset, .unset] [])) _
            refine XS.lload X5.here hx rfl (hb hby at_55) rfl ?_
            show Steps p.tables e below (T5.setTop (mkF m 57 #[.val (.long y0), .second, .val (.long y1), .second, .val (.int y2), .val (.long w3), .second, .val (.long w6), .second, .unset, .unset] [(.long w6)])) _
            refine X5.ldc2Long hx hown (mvT hZ (hw _ (List.mem_of_getElem? (i := 5) rfl))) (g := (mkF m 57 #[.val (.long y0), .second, .val (.long y1), .second, .val (.int y2), .val (.long w3), .second, .val (.long w6), .second, .unset, .unset] [(.long w6)])) rfl (hb hby at_57) _ ?_
            show Steps p.tables e below (T5.setTop (mkF m 60 #[.val (.long y0), .second, .val (.long y1), .second, .val (.int y2), .val (.long w3), .second, .val (.long w6), .second, .unset, .unset] [(.long (9223372036854775807 : Int64)), (.long w6)])) _
            refine XS.lload X5.here hx rfl (hb hby at_60) rfl ?_
            show Steps p.tables e below (T5.setTop (mkF m 62 #[.val (.long y0), .second, .val (.long y1), .second, .val (.int y2), .val (.long w3), .second, .val (.long w6), .second, .unset, .unset] [(.long w3), (.long (9223372036854775807 : Int64)), (.long w6)])) _
            refine XS.lsub X5.here hx rfl (hb hby at_62) rfl ?_
            show Steps p.tables e below (T5.setTop (mkF m 63 #[.val (.long y0), .second, .val (.long y1), .second, .val (.int y2), .val (.long w3), .second, .val (.long w6), .second, .unset, .unset] [(.long ((9223372036854775807 : Int64) - w3)), (.long w6)])) _
            refine XS.lcmp X5.here hx rfl (hb hby at_63) rfl ?_
            exact k)
        by_cases hc20 : ((9223372036854775807 : Int64) - w3) < w6
        · -- hc20: True
          have pre21 : Go p.tables e below (s₁.setTop (entryFrame m #[(.long y0), (.long y1), (.int y2)] maxLocals)) T5 (mkF m 113 #[.val (.long y0), .second, .val (.long y1), .second, .val (.int y2), .val (.long w3), .second, .val (.long w6), .second, .val (.long (-9223372036854775808 : Int64)), .second] [(.long w6), (.long w3)]) := fun t k => pre19 t (by
              refine XS.ifNo X5.here hx rfl (hb hby at_64) rfl ((if0 _ _).trans (tlt ((lw_gt _ _).mpr hc20)).2.2.2) ?_
              show Steps p.tables e below (T5.setTop (mkF m 67 #[.val (.long y0), .second, .val (.long y1), .second, .val (.int y2), .val (.long w3), .second, .val (.long w6), .second, .unset, .unset] [])) _
              refine X5.ldc2Long hx hown (mvT hZ (hw _ (List.mem_of_getElem? (i := 4) rfl))) (g := (mkF m 67 #[.val (.long y0), .second, .val (.long y1), .second, .val (.int y2), .val (.long w3), .second, .val (.long w6), .second, .unset, .unset] [])) rfl (hb hby at_67) _ ?_
              show Steps p.tables e below (T5.setTop (mkF m 70 #[.val (.long y0), .second, .val (.long y1), .second, .val (.int y2), .val (.long w3), .second, .val (.long w6), .second, .unset, .unset] [(.long (-9223372036854775808 : Int64))])) _
              refine XS.lstore X5.here hx rfl (hb hby at_70) rfl (l' := #[.val (.long y0), .second, .val (.long y1), .second, .val (.int y2), .val (.long w3), .second, .val (.long w6), .second, .val (.long (-9223372036854775808 : Int64)), .second]) rfl ?_
              show Steps p.tables e below (T5.setTop (mkF m 72 #[.val (.long y0), .second, .val (.long y1), .second, .val (.int y2), .val (.long w3), .second, .val (.long w6), .second, .val (.long (-9223372036854775808 : Int64)), .second] [])) _
              refine XS.goto X5.here hx rfl (pc0 := 72) (pc' := 109) rfl (hb hby at_72) (by decide) (by decide) ?_
              show Steps p.tables e below (T5.setTop (mkF m 109 #[.val (.long y0), .second, .val (.long y1), .second, .val (.int y2), .val (.long w3), .second, .val (.long w6), .second, .val (.long (-9223372036854775808 : Int64)), .second] [])) _
              refine XS.lload X5.here hx rfl (hb hby at_109) rfl ?_
              show Steps p.tables e below (T5.setTop (mkF m 111 #[.val (.long y0), .second, .val (.long y1), .second, .val (.int y2), .val (.long w3), .second, .val (.long w6), .second, .val (.long (-9223372036854775808 : Int64)), .second] [(.long w3)])) _
              refine XS.lload X5.here hx rfl (hb hby at_111) rfl ?_
              exact k)
          obtain ⟨mk22, mt22, cd22, hn22, hm22, hc22_, -, hl22, -, -, -, hs22⟩ := Cond.codeWith_spec (mv (args := #[]) hZ (hw _ (List.mem_of_getElem? (i := 9) rfl)))
          obtain ⟨o22, T22, L22, hQ22, X22, hS22, stR22, stT22⟩ := own_call X5 hx (own := "com/example/zhangtiao/zhangtiao/input/ExactSumSumPinLaw") (y := (⟨"com/example/zhangtiao/zhangtiao/input/ExactSum", "sum", "(JJ)J"⟩ : MethodName)) hown (mv hZ (hw _ (List.mem_of_getElem? (i := 6) rfl))) (mv hZ (hw _ (List.mem_of_getElem? (i := 7) rfl))) (mv hZ (hw _ (List.mem_of_getElem? (i := 8) rfl))) hn22 hm22 hc22_ hl22 hs22 (by decide) (rm_sum l Z av0 hw [] w3 w6 h0 n0 Z0 hfl hj hT0) hTK hBelow (g := (mkF m 113 #[.val (.long y0), .second, .val (.long y1), .second, .val (.int y2), .val (.long w3), .second, .val (.long w6), .second, .val (.long (-9223372036854775808 : Int64)), .second] [(.long w6), (.long w3)])) rfl (by rw [hml]; rfl) (argsL := [(.long w3), (.long w6)]) (rest := []) (lenOf pd_0 rfl) rfl (hb hby at_113) (by decide) (by show 2 * 0 + _ + _ + _ ≤ _; decide) (by decide) (by decide) (fun U hU => by show (Jvm.Cond.and _ .tt).before _ U = true; rw [Cond.before_and, mv (wtrans hZ hU) (hw _ (List.mem_of_getElem? (i := 9) rfl))]; rfl) (fun U hU hh => ⟨rfl, wtrans hZ hU, hh.trans e5⟩)
          have al22 := hS22.1.alike
          have hZ : Z.Warmed39 (s.setVm T22.vm).vm := State.Warmed39.trans (t := s) hZ0 hS22.1
          have hown : (s.setVm T22.vm).vm.findClass "com/example/zhangtiao/zhangtiao/input/ExactSumSumPinLaw" = some m.cls := by show T22.vm.findClass _ = _; rw [al22.findClass]; exact hown0
          have hTK : (s.setVm T22.vm).vm.MethodsKnown := hTK0.alikeC al22
          have hBelow : (s.setVm T22.vm).vm.FramesKnown below := fun y hy m' hm' => knowsMethod_alike al22 (hBelow0 y hy m' hm')
          obtain ⟨N22q, rfl⟩ := hQ22
          have N22 := Fr.app N5 N22q
          have pre22 : Go p.tables e below (s₁.setTop (entryFrame m #[(.long y0), (.long y1), (.int y2)] maxLocals)) T22 (mkF m 116 #[.val (.long y0), .second, .val (.long y1), .second, .val (.int y2), .val (.long w3), .second, .val (.long w6), .second, .val (.long (-9223372036854775808 : Int64)), .second] [(.long (own_sum w3 w6))]) := fun t k => pre21 t ((stR22 _ rfl).trans k)
          have hq22 : own_sum w3 w6 = (-9223372036854775808 : Int64) := own_sum_o (own_ov_up hc18 hc20)
          have pre23 : Go p.tables e below (s₁.setTop (entryFrame m #[(.long y0), (.long y1), (.int y2)] maxLocals)) T22 (mkF m 127 #[.val (.long y0), .second, .val (.long y1), .second, .val (.int y2), .val (.long w3), .second, .val (.long w6), .second, .val (.long (-9223372036854775808 : Int64)), .second] [(.int (1 : Int32))]) := fun t k => pre22 t (by
              refine XS.lload X22.here hx rfl (hb hby at_116) rfl ?_
              show Steps p.tables e below (T22.setTop (mkF m 118 #[.val (.long y0), .second, .val (.long y1), .second, .val (.int y2), .val (.long w3), .second, .val (.long w6), .second, .val (.long (-9223372036854775808 : Int64)), .second] [(.long (-9223372036854775808 : Int64)), (.long (own_sum w3 w6))])) _
              refine XS.lcmp X22.here hx rfl (hb hby at_118) rfl ?_
              show Steps p.tables e below (T22.setTop (mkF m 119 #[.val (.long y0), .second, .val (.long y1), .second, .val (.int y2), .val (.long w3), .second, .val (.long w6), .second, .val (.long (-9223372036854775808 : Int64)), .second] [(.int (lcmpW (own_sum w3 w6) (-9223372036854775808 : Int64)))])) _
              refine XS.ifNo X22.here hx rfl (hb hby at_119) rfl ((if0 _ _).trans (teq ((lw_eq _ _).mpr hq22)).2) ?_
              show Steps p.tables e below (T22.setTop (mkF m 122 #[.val (.long y0), .second, .val (.long y1), .second, .val (.int y2), .val (.long w3), .second, .val (.long w6), .second, .val (.long (-9223372036854775808 : Int64)), .second] [])) _
              refine XS.iconst X22.here hx rfl (hb hby at_122) ?_
              show Steps p.tables e below (T22.setTop (mkF m 123 #[.val (.long y0), .second, .val (.long y1), .second, .val (.int y2), .val (.long w3), .second, .val (.long w6), .second, .val (.long (-9223372036854775808 : Int64)), .second] [(.int (1 : Int32))])) _
              refine XS.goto X22.here hx rfl (pc0 := 123) (pc' := 127) rfl (hb hby at_123) (by decide) (by decide) ?_
              exact k)
          obtain ⟨fs, hr, hrun, hended, -, hW1, hW2, hW3⟩ := X22.leaveW hS22 (Nat.le_refl _) (v := some (.int (1 : Int32))) (fun h => by rw [Bd.returns] at h; cases h) (BodyLoose.notSynchronized Bd)
          refine ⟨_, _, pre23 _ ?_, hrun, hended, _, ?_, hW1, hW2, State.sameButNew.mono hW3 (Nat.le_of_ble_eq_true rfl) (Nat.le_of_ble_eq_true rfl)⟩
          · exact retN X22 hx (t := .boolean) Bd.returns (by simp) (hb hby at_127) hr
          · show Q_law Z y0 y1 y2 h0 n0 _ T22.heap _
            exact ⟨rfl, N22⟩
        · -- hc20: False
          have pre24 : Go p.tables e below (s₁.setTop (entryFrame m #[(.long y0), (.long y1), (.int y2)] maxLocals)) T5 (mkF m 79 #[.val (.long y0), .second, .val (.long y1), .second, .val (.int y2), .val (.long w3), .second, .val (.long w6), .second, .unset, .unset] [(.int (lcmpW w3 (0 : Int64)))]) := fun t k => pre19 t (by
              refine XS.ifYes X5.here hx rfl (pc0 := 64) (pc' := 75) rfl (hb hby at_64) rfl ((if0 _ _).trans (flt (mt (lw_gt _ _).mp hc20)).2.2.2) (by decide) (by decide) ?_
              show Steps p.tables e below (T5.setTop (mkF m 75 #[.val (.long y0), .second, .val (.long y1), .second, .val (.int y2), .val (.long w3), .second, .val (.long w6), .second, .unset, .unset] [])) _
              refine XS.lload X5.here hx rfl (hb hby at_75) rfl ?_
              show Steps p.tables e below (T5.setTop (mkF m 77 #[.val (.long y0), .second, .val (.long y1), .second, .val (.int y2), .val (.long w3), .second, .val (.long w6), .second, .unset, .unset] [(.long w3)])) _
              refine XS.lconst X5.here hx rfl (hb hby at_77) ?_
              show Steps p.tables e below (T5.setTop (mkF m 78 #[.val (.long y0), .second, .val (.long y1), .second, .val (.int y2), .val (.long w3), .second, .val (.long w6), .second, .unset, .unset] [(.long (0 : Int64)), (.long w3)])) _
              refine XS.lcmp X5.here hx rfl (hb hby at_78) rfl ?_
              exact k)
          by_cases hc25 : w3 < (0 : Int64)
          · -- hc25: True
            have pre26 : Go p.tables e below (s₁.setTop (entryFrame m #[(.long y0), (.long y1), (.int y2)] maxLocals)) T5 (mkF m 91 #[.val (.long y0), .second, .val (.long y1), .second, .val (.int y2), .val (.long w3), .second, .val (.long w6), .second, .unset, .unset] [(.int (lcmpW w6 ((-9223372036854775808 : Int64) - w3)))]) := fun t k => pre24 t (by
                refine XS.ifNo X5.here hx rfl (hb hby at_79) rfl ((if0 _ _).trans (tlt ((lw_lt _ _).mpr hc25)).2.1) ?_
                show Steps p.tables e below (T5.setTop (mkF m 82 #[.val (.long y0), .second, .val (.long y1), .second, .val (.int y2), .val (.long w3), .second, .val (.long w6), .second, .unset, .unset] [])) _
                refine XS.lload X5.here hx rfl (hb hby at_82) rfl ?_
                show Steps p.tables e below (T5.setTop (mkF m 84 #[.val (.long y0), .second, .val (.long y1), .second, .val (.int y2), .val (.long w3), .second, .val (.long w6), .second, .unset, .unset] [(.long w6)])) _
                refine X5.ldc2Long hx hown (mvT hZ (hw _ (List.mem_of_getElem? (i := 4) rfl))) (g := (mkF m 84 #[.val (.long y0), .second, .val (.long y1), .second, .val (.int y2), .val (.long w3), .second, .val (.long w6), .second, .unset, .unset] [(.long w6)])) rfl (hb hby at_84) _ ?_
                show Steps p.tables e below (T5.setTop (mkF m 87 #[.val (.long y0), .second, .val (.long y1), .second, .val (.int y2), .val (.long w3), .second, .val (.long w6), .second, .unset, .unset] [(.long (-9223372036854775808 : Int64)), (.long w6)])) _
                refine XS.lload X5.here hx rfl (hb hby at_87) rfl ?_
                show Steps p.tables e below (T5.setTop (mkF m 89 #[.val (.long y0), .second, .val (.long y1), .second, .val (.int y2), .val (.long w3), .second, .val (.long w6), .second, .unset, .unset] [(.long w3), (.long (-9223372036854775808 : Int64)), (.long w6)])) _
                refine XS.lsub X5.here hx rfl (hb hby at_89) rfl ?_
                show Steps p.tables e below (T5.setTop (mkF m 90 #[.val (.long y0), .second, .val (.long y1), .second, .val (.int y2), .val (.long w3), .second, .val (.long w6), .second, .unset, .unset] [(.long ((-9223372036854775808 : Int64) - w3)), (.long w6)])) _
                refine XS.lcmp X5.here hx rfl (hb hby at_90) rfl ?_
                exact k)
            by_cases hc27 : w6 < ((-9223372036854775808 : Int64) - w3)
            · -- hc27: True
              have pre28 : Go p.tables e below (s₁.setTop (entryFrame m #[(.long y0), (.long y1), (.int y2)] maxLocals)) T5 (mkF m 113 #[.val (.long y0), .second, .val (.long y1), .second, .val (.int y2), .val (.long w3), .second, .val (.long w6), .second, .val (.long (-9223372036854775808 : Int64)), .second] [(.long w6), (.long w3)]) := fun t k => pre26 t (by
                  refine XS.ifNo X5.here hx rfl (hb hby at_91) rfl ((if0 _ _).trans (tlt ((lw_lt _ _).mpr hc27)).2.1) ?_
                  show Steps p.tables e below (T5.setTop (mkF m 94 #[.val (.long y0), .second, .val (.long y1), .second, .val (.int y2), .val (.long w3), .second, .val (.long w6), .second, .unset, .unset] [])) _
                  refine X5.ldc2Long hx hown (mvT hZ (hw _ (List.mem_of_getElem? (i := 4) rfl))) (g := (mkF m 94 #[.val (.long y0), .second, .val (.long y1), .second, .val (.int y2), .val (.long w3), .second, .val (.long w6), .second, .unset, .unset] [])) rfl (hb hby at_94) _ ?_
                  show Steps p.tables e below (T5.setTop (mkF m 97 #[.val (.long y0), .second, .val (.long y1), .second, .val (.int y2), .val (.long w3), .second, .val (.long w6), .second, .unset, .unset] [(.long (-9223372036854775808 : Int64))])) _
                  refine XS.lstore X5.here hx rfl (hb hby at_97) rfl (l' := #[.val (.long y0), .second, .val (.long y1), .second, .val (.int y2), .val (.long w3), .second, .val (.long w6), .second, .val (.long (-9223372036854775808 : Int64)), .second]) rfl ?_
                  show Steps p.tables e below (T5.setTop (mkF m 99 #[.val (.long y0), .second, .val (.long y1), .second, .val (.int y2), .val (.long w3), .second, .val (.long w6), .second, .val (.long (-9223372036854775808 : Int64)), .second] [])) _
                  refine XS.goto X5.here hx rfl (pc0 := 99) (pc' := 109) rfl (hb hby at_99) (by decide) (by decide) ?_
                  show Steps p.tables e below (T5.setTop (mkF m 109 #[.val (.long y0), .second, .val (.long y1), .second, .val (.int y2), .val (.long w3), .second, .val (.long w6), .second, .val (.long (-9223372036854775808 : Int64)), .second] [])) _
                  refine XS.lload X5.here hx rfl (hb hby at_109) rfl ?_
                  show Steps p.tables e below (T5.setTop (mkF m 111 #[.val (.long y0), .second, .val (.long y1), .second, .val (.int y2), .val (.long w3), .second, .val (.long w6), .second, .val (.long (-9223372036854775808 : Int64)), .second] [(.long w3)])) _
                  refine XS.lload X5.here hx rfl (hb hby at_111) rfl ?_
                  exact k)
              obtain ⟨mk29, mt29, cd29, hn29, hm29, hc29_, -, hl29, -, -, -, hs29⟩ := Cond.codeWith_spec (mv (args := #[]) hZ (hw _ (List.mem_of_getElem? (i := 9) rfl)))
              obtain ⟨o29, T29, L29, hQ29, X29, hS29, stR29, stT29⟩ := own_call X5 hx (own := "com/example/zhangtiao/zhangtiao/input/ExactSumSumPinLaw") (y := (⟨"com/example/zhangtiao/zhangtiao/input/ExactSum", "sum", "(JJ)J"⟩ : MethodName)) hown (mv hZ (hw _ (List.mem_of_getElem? (i := 6) rfl))) (mv hZ (hw _ (List.mem_of_getElem? (i := 7) rfl))) (mv hZ (hw _ (List.mem_of_getElem? (i := 8) rfl))) hn29 hm29 hc29_ hl29 hs29 (by decide) (rm_sum l Z av0 hw [] w3 w6 h0 n0 Z0 hfl hj hT0) hTK hBelow (g := (mkF m 113 #[.val (.long y0), .second, .val (.long y1), .second, .val (.int y2), .val (.long w3), .second, .val (.long w6), .second, .val (.long (-9223372036854775808 : Int64)), .second] [(.long w6), (.long w3)])) rfl (by rw [hml]; rfl) (argsL := [(.long w3), (.long w6)]) (rest := []) (lenOf pd_0 rfl) rfl (hb hby at_113) (by decide) (by show 2 * 0 + _ + _ + _ ≤ _; decide) (by decide) (by decide) (fun U hU => by show (Jvm.Cond.and _ .tt).before _ U = true; rw [Cond.before_and, mv (wtrans hZ hU) (hw _ (List.mem_of_getElem? (i := 9) rfl))]; rfl) (fun U hU hh => ⟨rfl, wtrans hZ hU, hh.trans e5⟩)
              have al29 := hS29.1.alike
              have hZ : Z.Warmed39 (s.setVm T29.vm).vm := State.Warmed39.trans (t := s) hZ0 hS29.1
              have hown : (s.setVm T29.vm).vm.findClass "com/example/zhangtiao/zhangtiao/input/ExactSumSumPinLaw" = some m.cls := by show T29.vm.findClass _ = _; rw [al29.findClass]; exact hown0
              have hTK : (s.setVm T29.vm).vm.MethodsKnown := hTK0.alikeC al29
              have hBelow : (s.setVm T29.vm).vm.FramesKnown below := fun y hy m' hm' => knowsMethod_alike al29 (hBelow0 y hy m' hm')
              obtain ⟨N29q, rfl⟩ := hQ29
              have N29 := Fr.app N5 N29q
              have pre29 : Go p.tables e below (s₁.setTop (entryFrame m #[(.long y0), (.long y1), (.int y2)] maxLocals)) T29 (mkF m 116 #[.val (.long y0), .second, .val (.long y1), .second, .val (.int y2), .val (.long w3), .second, .val (.long w6), .second, .val (.long (-9223372036854775808 : Int64)), .second] [(.long (own_sum w3 w6))]) := fun t k => pre28 t ((stR29 _ rfl).trans k)
              have hq29 : own_sum w3 w6 = (-9223372036854775808 : Int64) := own_sum_o (own_ov_dn hc25 hc27)
              have pre30 : Go p.tables e below (s₁.setTop (entryFrame m #[(.long y0), (.long y1), (.int y2)] maxLocals)) T29 (mkF m 127 #[.val (.long y0), .second, .val (.long y1), .second, .val (.int y2), .val (.long w3), .second, .val (.long w6), .second, .val (.long (-9223372036854775808 : Int64)), .second] [(.int (1 : Int32))]) := fun t k => pre29 t (by
                  refine XS.lload X29.here hx rfl (hb hby at_116) rfl ?_
                  show Steps p.tables e below (T29.setTop (mkF m 118 #[.val (.long y0), .second, .val (.long y1), .second, .val (.int y2), .val (.long w3), .second, .val (.long w6), .second, .val (.long (-9223372036854775808 : Int64)), .second] [(.long (-9223372036854775808 : Int64)), (.long (own_sum w3 w6))])) _
                  refine XS.lcmp X29.here hx rfl (hb hby at_118) rfl ?_
                  show Steps p.tables e below (T29.setTop (mkF m 119 #[.val (.long y0), .second, .val (.long y1), .second, .val (.int y2), .val (.long w3), .second, .val (.long w6), .second, .val (.long (-9223372036854775808 : Int64)), .second] [(.int (lcmpW (own_sum w3 w6) (-9223372036854775808 : Int64)))])) _
                  refine XS.ifNo X29.here hx rfl (hb hby at_119) rfl ((if0 _ _).trans (teq ((lw_eq _ _).mpr hq29)).2) ?_
                  show Steps p.tables e below (T29.setTop (mkF m 122 #[.val (.long y0), .second, .val (.long y1), .second, .val (.int y2), .val (.long w3), .second, .val (.long w6), .second, .val (.long (-9223372036854775808 : Int64)), .second] [])) _
                  refine XS.iconst X29.here hx rfl (hb hby at_122) ?_
                  show Steps p.tables e below (T29.setTop (mkF m 123 #[.val (.long y0), .second, .val (.long y1), .second, .val (.int y2), .val (.long w3), .second, .val (.long w6), .second, .val (.long (-9223372036854775808 : Int64)), .second] [(.int (1 : Int32))])) _
                  refine XS.goto X29.here hx rfl (pc0 := 123) (pc' := 127) rfl (hb hby at_123) (by decide) (by decide) ?_
                  exact k)
              obtain ⟨fs, hr, hrun, hended, -, hW1, hW2, hW3⟩ := X29.leaveW hS29 (Nat.le_refl _) (v := some (.int (1 : Int32))) (fun h => by rw [Bd.returns] at h; cases h) (BodyLoose.notSynchronized Bd)
              refine ⟨_, _, pre30 _ ?_, hrun, hended, _, ?_, hW1, hW2, State.sameButNew.mono hW3 (Nat.le_of_ble_eq_true rfl) (Nat.le_of_ble_eq_true rfl)⟩
              · exact retN X29 hx (t := .boolean) Bd.returns (by simp) (hb hby at_127) hr
              · show Q_law Z y0 y1 y2 h0 n0 _ T29.heap _
                exact ⟨rfl, N29⟩
            · -- hc27: False
              obtain ⟨w31, hw31⟩ : ∃ z : Int64, z = (w3 + w6) := ⟨_, rfl⟩
              have pre32 : Go p.tables e below (s₁.setTop (entryFrame m #[(.long y0), (.long y1), (.int y2)] maxLocals)) T5 (mkF m 113 #[.val (.long y0), .second, .val (.long y1), .second, .val (.int y2), .val (.long w3), .second, .val (.long w6), .second, .val (.long w31), .second] [(.long w6), (.long w3)]) := fun t k => pre26 t (by
                  refine XS.ifYes X5.here hx rfl (pc0 := 91) (pc' := 102) rfl (hb hby at_91) rfl ((if0 _ _).trans (flt (mt (lw_lt _ _).mp hc27)).2.1) (by decide) (by decide) ?_
                  show Steps p.tables e below (T5.setTop (mkF m 102 #[.val (.long y0), .second, .val (.long y1), .second, .val (.int y2), .val (.long w3), .second, .val (.long w6), .second, .unset, .unset] [])) _
                  refine XS.lload X5.here hx rfl (hb hby at_102) rfl ?_
                  show Steps p.tables e below (T5.setTop (mkF m 104 #[.val (.long y0), .second, .val (.long y1), .second, .val (.int y2), .val (.long w3), .second, .val (.long w6), .second, .unset, .unset] [(.long w3)])) _
                  refine XS.lload X5.here hx rfl (hb hby at_104) rfl ?_
                  show Steps p.tables e below (T5.setTop (mkF m 106 #[.val (.long y0), .second, .val (.long y1), .second, .val (.int y2), .val (.long w3), .second, .val (.long w6), .second, .unset, .unset] [(.long w6), (.long w3)])) _
                  refine XS.ladd X5.here hx rfl (hb hby at_106) rfl ?_
                  show Steps p.tables e below (T5.setTop (mkF m 107 #[.val (.long y0), .second, .val (.long y1), .second, .val (.int y2), .val (.long w3), .second, .val (.long w6), .second, .unset, .unset] [(.long (w3 + w6))])) _
                  refine XS.lstore X5.here hx rfl (x := w31) (rest := []) (hb hby at_107) (by subst hw31; rfl) (l' := #[.val (.long y0), .second, .val (.long y1), .second, .val (.int y2), .val (.long w3), .second, .val (.long w6), .second, .val (.long w31), .second]) rfl ?_
                  show Steps p.tables e below (T5.setTop (mkF m 109 #[.val (.long y0), .second, .val (.long y1), .second, .val (.int y2), .val (.long w3), .second, .val (.long w6), .second, .val (.long w31), .second] [])) _
                  refine XS.lload X5.here hx rfl (hb hby at_109) rfl ?_
                  show Steps p.tables e below (T5.setTop (mkF m 111 #[.val (.long y0), .second, .val (.long y1), .second, .val (.int y2), .val (.long w3), .second, .val (.long w6), .second, .val (.long w31), .second] [(.long w3)])) _
                  refine XS.lload X5.here hx rfl (hb hby at_111) rfl ?_
                  exact k)
              obtain ⟨mk33, mt33, cd33, hn33, hm33, hc33_, -, hl33, -, -, -, hs33⟩ := Cond.codeWith_spec (mv (args := #[]) hZ (hw _ (List.mem_of_getElem? (i := 9) rfl)))
              obtain ⟨o33, T33, L33, hQ33, X33, hS33, stR33, stT33⟩ := own_call X5 hx (own := "com/example/zhangtiao/zhangtiao/input/ExactSumSumPinLaw") (y := (⟨"com/example/zhangtiao/zhangtiao/input/ExactSum", "sum", "(JJ)J"⟩ : MethodName)) hown (mv hZ (hw _ (List.mem_of_getElem? (i := 6) rfl))) (mv hZ (hw _ (List.mem_of_getElem? (i := 7) rfl))) (mv hZ (hw _ (List.mem_of_getElem? (i := 8) rfl))) hn33 hm33 hc33_ hl33 hs33 (by decide) (rm_sum l Z av0 hw [] w3 w6 h0 n0 Z0 hfl hj hT0) hTK hBelow (g := (mkF m 113 #[.val (.long y0), .second, .val (.long y1), .second, .val (.int y2), .val (.long w3), .second, .val (.long w6), .second, .val (.long w31), .second] [(.long w6), (.long w3)])) rfl (by rw [hml]; rfl) (argsL := [(.long w3), (.long w6)]) (rest := []) (lenOf pd_0 rfl) rfl (hb hby at_113) (by decide) (by show 2 * 0 + _ + _ + _ ≤ _; decide) (by decide) (by decide) (fun U hU => by show (Jvm.Cond.and _ .tt).before _ U = true; rw [Cond.before_and, mv (wtrans hZ hU) (hw _ (List.mem_of_getElem? (i := 9) rfl))]; rfl) (fun U hU hh => ⟨rfl, wtrans hZ hU, hh.trans e5⟩)
              have al33 := hS33.1.alike
              have hZ : Z.Warmed39 (s.setVm T33.vm).vm := State.Warmed39.trans (t := s) hZ0 hS33.1
              have hown : (s.setVm T33.vm).vm.findClass "com/example/zhangtiao/zhangtiao/input/ExactSumSumPinLaw" = some m.cls := by show T33.vm.findClass _ = _; rw [al33.findClass]; exact hown0
              have hTK : (s.setVm T33.vm).vm.MethodsKnown := hTK0.alikeC al33
              have hBelow : (s.setVm T33.vm).vm.FramesKnown below := fun y hy m' hm' => knowsMethod_alike al33 (hBelow0 y hy m' hm')
              obtain ⟨N33q, rfl⟩ := hQ33
              have N33 := Fr.app N5 N33q
              have pre33 : Go p.tables e below (s₁.setTop (entryFrame m #[(.long y0), (.long y1), (.int y2)] maxLocals)) T33 (mkF m 116 #[.val (.long y0), .second, .val (.long y1), .second, .val (.int y2), .val (.long w3), .second, .val (.long w6), .second, .val (.long w31), .second] [(.long (own_sum w3 w6))]) := fun t k => pre32 t ((stR33 _ rfl).trans k)
              have hq33 : own_sum w3 w6 = w31 := (own_sum_n hc8 hc13 (own_ov_no (fun _ => hc20) (fun _ => hc27))).trans hw31.symm
              have pre34 : Go p.tables e below (s₁.setTop (entryFrame m #[(.long y0), (.long y1), (.int y2)] maxLocals)) T33 (mkF m 127 #[.val (.long y0), .second, .val (.long y1), .second, .val (.int y2), .val (.long w3), .second, .val (.long w6), .second, .val (.long w31), .second] [(.int (1 : Int32))]) := fun t k => pre33 t (by
                  refine XS.lload X33.here hx rfl (hb hby at_116) rfl ?_
                  show Steps p.tables e below (T33.setTop (mkF m 118 #[.val (.long y0), .second, .val (.long y1), .second, .val (.int y2), .val (.long w3), .second, .val (.long w6), .second, .val (.long w31), .second] [(.long w31), (.long (own_sum w3 w6))])) _
                  refine XS.lcmp X33.here hx rfl (hb hby at_118) rfl ?_
                  show Steps p.tables e below (T33.setTop (mkF m 119 #[.val (.long y0), .second, .val (.long y1), .second, .val (.int y2), .val (.long w3), .second, .val (.long w6), .second, .val (.long w31), .second] [(.int (lcmpW (own_sum w3 w6) w31))])) _
                  refine XS.ifNo X33.here hx rfl (hb hby at_119) rfl ((if0 _ _).trans (teq ((lw_eq _ _).mpr hq33)).2) ?_
                  show Steps p.tables e below (T33.setTop (mkF m 122 #[.val (.long y0), .second, .val (.long y1), .second, .val (.int y2), .val (.long w3), .second, .val (.long w6), .second, .val (.long w31), .second] [])) _
                  refine XS.iconst X33.here hx rfl (hb hby at_122) ?_
                  show Steps p.tables e below (T33.setTop (mkF m 123 #[.val (.long y0), .second, .val (.long y1), .second, .val (.int y2), .val (.long w3), .second, .val (.long w6), .second, .val (.long w31), .second] [(.int (1 : Int32))])) _
                  refine XS.goto X33.here hx rfl (pc0 := 123) (pc' := 127) rfl (hb hby at_123) (by decide) (by decide) ?_
                  exact k)
              obtain ⟨fs, hr, hrun, hended, -, hW1, hW2, hW3⟩ := X33.leaveW hS33 (Nat.le_refl _) (v := some (.int (1 : Int32))) (fun h => by rw [Bd.returns] at h; cases h) (BodyLoose.notSynchronized Bd)
              refine ⟨_, _, pre34 _ ?_, hrun, hended, _, ?_, hW1, hW2, State.sameButNew.mono hW3 (Nat.le_of_ble_eq_true rfl) (Nat.le_of_ble_eq_true rfl)⟩
              · exact retN X33 hx (t := .boolean) Bd.returns (by simp) (hb hby at_127) hr
              · show Q_law Z y0 y1 y2 h0 n0 _ T33.heap _
                exact ⟨rfl, N33⟩
          · -- hc25: False
            obtain ⟨w35, hw35⟩ : ∃ z : Int64, z = (w3 + w6) := ⟨_, rfl⟩
            have pre36 : Go p.tables e below (s₁.setTop (entryFrame m #[(.long y0), (.long y1), (.int y2)] maxLocals)) T5 (mkF m 113 #[.val (.long y0), .second, .val (.long y1), .second, .val (.int y2), .val (.long w3), .second, .val (.long w6), .second, .val (.long w35), .second] [(.long w6), (.long w3)]) := fun t k => pre24 t (by
                refine XS.ifYes X5.here hx rfl (pc0 := 79) (pc' := 102) rfl (hb hby at_79) rfl ((if0 _ _).trans (flt (mt (lw_lt _ _).mp hc25)).2.1) (by decide) (by decide) ?_
                show Steps p.tables e below (T5.setTop (mkF m 102 #[.val (.long y0), .second, .val (.long y1), .second, .val (.int y2), .val (.long w3), .second, .val (.long w6), .second, .unset, .unset] [])) _
                refine XS.lload X5.here hx rfl (hb hby at_102) rfl ?_
                show Steps p.tables e below (T5.setTop (mkF m 104 #[.val (.long y0), .second, .val (.long y1), .second, .val (.int y2), .val (.long w3), .second, .val (.long w6), .second, .unset, .unset] [(.long w3)])) _
                refine XS.lload X5.here hx rfl (hb hby at_104) rfl ?_
                show Steps p.tables e below (T5.setTop (mkF m 106 #[.val (.long y0), .second, .val (.long y1), .second, .val (.int y2), .val (.long w3), .second, .val (.long w6), .second, .unset, .unset] [(.long w6), (.long w3)])) _
                refine XS.ladd X5.here hx rfl (hb hby at_106) rfl ?_
                show Steps p.tables e below (T5.setTop (mkF m 107 #[.val (.long y0), .second, .val (.long y1), .second, .val (.int y2), .val (.long w3), .second, .val (.long w6), .second, .unset, .unset] [(.long (w3 + w6))])) _
                refine XS.lstore X5.here hx rfl (x := w35) (rest := []) (hb hby at_107) (by subst hw35; rfl) (l' := #[.val (.long y0), .second, .val (.long y1), .second, .val (.int y2), .val (.long w3), .second, .val (.long w6), .second, .val (.long w35), .second]) rfl ?_
                show Steps p.tables e below (T5.setTop (mkF m 109 #[.val (.long y0), .second, .val (.long y1), .second, .val (.int y2), .val (.long w3), .second, .val (.long w6), .second, .val (.long w35), .second] [])) _
                refine XS.lload X5.here hx rfl (hb hby at_109) rfl ?_
                show Steps p.tables e below (T5.setTop (mkF m 111 #[.val (.long y0), .second, .val (.long y1), .second, .val (.int y2), .val (.long w3), .second, .val (.long w6), .second, .val (.long w35), .second] [(.long w3)])) _
                refine XS.lload X5.here hx rfl (hb hby at_111) rfl ?_
                exact k)
            obtain ⟨mk37, mt37, cd37, hn37, hm37, hc37_, -, hl37, -, -, -, hs37⟩ := Cond.codeWith_spec (mv (args := #[]) hZ (hw _ (List.mem_of_getElem? (i := 9) rfl)))
            obtain ⟨o37, T37, L37, hQ37, X37, hS37, stR37, stT37⟩ := own_call X5 hx (own := "com/example/zhangtiao/zhangtiao/input/ExactSumSumPinLaw") (y := (⟨"com/example/zhangtiao/zhangtiao/input/ExactSum", "sum", "(JJ)J"⟩ : MethodName)) hown (mv hZ (hw _ (List.mem_of_getElem? (i := 6) rfl))) (mv hZ (hw _ (List.mem_of_getElem? (i := 7) rfl))) (mv hZ (hw _ (List.mem_of_getElem? (i := 8) rfl))) hn37 hm37 hc37_ hl37 hs37 (by decide) (rm_sum l Z av0 hw [] w3 w6 h0 n0 Z0 hfl hj hT0) hTK hBelow (g := (mkF m 113 #[.val (.long y0), .second, .val (.long y1), .second, .val (.int y2), .val (.long w3), .second, .val (.long w6), .second, .val (.long w35), .second] [(.long w6), (.long w3)])) rfl (by rw [hml]; rfl) (argsL := [(.long w3), (.long w6)]) (rest := []) (lenOf pd_0 rfl) rfl (hb hby at_113) (by decide) (by show 2 * 0 + _ + _ + _ ≤ _; decide) (by decide) (by decide) (fun U hU => by show (Jvm.Cond.and _ .tt).before _ U = true; rw [Cond.before_and, mv (wtrans hZ hU) (hw _ (List.mem_of_getElem? (i := 9) rfl))]; rfl) (fun U hU hh => ⟨rfl, wtrans hZ hU, hh.trans e5⟩)
            have al37 := hS37.1.alike
            have hZ : Z.Warmed39 (s.setVm T37.vm).vm := State.Warmed39.trans (t := s) hZ0 hS37.1
            have hown : (s.setVm T37.vm).vm.findClass "com/example/zhangtiao/zhangtiao/input/ExactSumSumPinLaw" = some m.cls := by show T37.vm.findClass _ = _; rw [al37.findClass]; exact hown0
            have hTK : (s.setVm T37.vm).vm.MethodsKnown := hTK0.alikeC al37
            have hBelow : (s.setVm T37.vm).vm.FramesKnown below := fun y hy m' hm' => knowsMethod_alike al37 (hBelow0 y hy m' hm')
            obtain ⟨N37q, rfl⟩ := hQ37
            have N37 := Fr.app N5 N37q
            have pre37 : Go p.tables e below (s₁.setTop (entryFrame m #[(.long y0), (.long y1), (.int y2)] maxLocals)) T37 (mkF m 116 #[.val (.long y0), .second, .val (.long y1), .second, .val (.int y2), .val (.long w3), .second, .val (.long w6), .second, .val (.long w35), .second] [(.long (own_sum w3 w6))]) := fun t k => pre36 t ((stR37 _ rfl).trans k)
            have hq37 : own_sum w3 w6 = w35 := (own_sum_n hc8 hc13 (own_ov_no (fun _ => hc20) (fun q => absurd q hc25))).trans hw35.symm
            have pre38 : Go p.tables e below (s₁.setTop (entryFrame m #[(.long y0), (.long y1), (.int y2)] maxLocals)) T37 (mkF m 127 #[.val (.long y0), .second, .val (.long y1), .second, .val (.int y2), .val (.long w3), .second, .val (.long w6), .second, .val (.long w35), .second] [(.int (1 : Int32))]) := fun t k => pre37 t (by
                refine XS.lload X37.here hx rfl (hb hby at_116) rfl ?_
                show Steps p.tables e below (T37.setTop (mkF m 118 #[.val (.long y0), .second, .val (.long y1), .second, .val (.int y2), .val (.long w3), .second, .val (.long w6), .second, .val (.long w35), .second] [(.long w35), (.long (own_sum w3 w6))])) _
                refine XS.lcmp X37.here hx rfl (hb hby at_118) rfl ?_
                show Steps p.tables e below (T37.setTop (mkF m 119 #[.val (.long y0), .second, .val (.long y1), .second, .val (.int y2), .val (.long w3), .second, .val (.long w6), .second, .val (.long w35), .second] [(.int (lcmpW (own_sum w3 w6) w35))])) _
                refine XS.ifNo X37.here hx rfl (hb hby at_119) rfl ((if0 _ _).trans (teq ((lw_eq _ _).mpr hq37)).2) ?_
                show Steps p.tables e below (T37.setTop (mkF m 122 #[.val (.long y0), .second, .val (.long y1), .second, .val (.int y2), .val (.long w3), .second, .val (.long w6), .second, .val (.long w35), .second] [])) _
                refine XS.iconst X37.here hx rfl (hb hby at_122) ?_
                show Steps p.tables e below (T37.setTop (mkF m 123 #[.val (.long y0), .second, .val (.long y1), .second, .val (.int y2), .val (.long w3), .second, .val (.long w6), .second, .val (.long w35), .second] [(.int (1 : Int32))])) _
                refine XS.goto X37.here hx rfl (pc0 := 123) (pc' := 127) rfl (hb hby at_123) (by decide) (by decide) ?_
                exact k)
            obtain ⟨fs, hr, hrun, hended, -, hW1, hW2, hW3⟩ := X37.leaveW hS37 (Nat.le_refl _) (v := some (.int (1 : Int32))) (fun h => by rw [Bd.returns] at h; cases h) (BodyLoose.notSynchronized Bd)
            refine ⟨_, _, pre38 _ ?_, hrun, hended, _, ?_, hW1, hW2, State.sameButNew.mono hW3 (Nat.le_of_ble_eq_true rfl) (Nat.le_of_ble_eq_true rfl)⟩
            · exact retN X37 hx (t := .boolean) Bd.returns (by simp) (hb hby at_127) hr
            · show Q_law Z y0 y1 y2 h0 n0 _ T37.heap _
              exact ⟨rfl, N37⟩
      · -- hc18: False
        have pre39 : Go p.tables e below (s₁.setTop (entryFrame m #[(.long y0), (.long y1), (.int y2)] maxLocals)) T5 (mkF m 79 #[.val (.long y0), .second, .val (.long y1), .second, .val (.int y2), .val (.long w3), .second, .val (.long w6), .second, .unset, .unset] [(.int (lcmpW w3 (0 : Int64)))]) := fun t k => pre17 t (by
            refine XS.ifYes X5.here hx rfl (pc0 := 52) (pc' := 75) rfl (hb hby at_52) rfl ((if0 _ _).trans (flt (mt (lw_gt _ _).mp hc18)).2.2.2) (by decide) (by decide) ?_
            show Steps p.tables e below (T5.setTop (mkF m 75 #[.val (.long y0), .second, .val (.long y1), .second, .val (.int y2), .val (.long w3), .second, .val (.long w6), .second, .unset, .unset] [])) _
            refine XS.lload X5.here hx rfl (hb hby at_75) rfl ?_
            show Steps p.tables e below (T5.setTop (mkF m 77 #[.val (.long y0), .second, .val (.long y1), .second, .val (.int y2), .val (.long w3), .second, .val (.long w6), .second, .unset, .unset] [(.long w3)])) _
            refine XS.lconst X5.here hx rfl (hb hby at_77) ?_
            show Steps p.tables e below (T5.setTop (mkF m 78 #[.val (.long y0), .second, .val (.long y1), .second, .val (.int y2), .val (.long w3), .second, .val (.long w6), .second, .unset, .unset] [(.long (0 : Int64)), (.long w3)])) _
            refine XS.lcmp X5.here hx rfl (hb hby at_78) rfl ?_
            exact k)
        by_cases hc40 : w3 < (0 : Int64)
        · -- hc40: True
          have pre41 : Go p.tables e below (s₁.setTop (entryFrame m #[(.long y0), (.long y1), (.int y2)] maxLocals)) T5 (mkF m 91 #[.val (.long y0), .second, .val (.long y1), .second, .val (.int y2), .val (.long w3), .second, .val (.long w6), .second, .unset, .unset] [(.int (lcmpW w6 ((-9223372036854775808 : Int64) - w3)))]) := fun t k => pre39 t (by
              refine XS.ifNo X5.here hx rfl (hb hby at_79) rfl ((if0 _ _).trans (tlt ((lw_lt _ _).mpr hc40)).2.1) ?_
              show Steps p.tables e below (T5.setTop (mkF m 82 #[.val (.long y0), .second, .val (.long y1), .second, .val (.int y2), .val (.long w3), .second, .val (.long w6), .second, .unset, .unset] [])) _
              refine XS.lload X5.here hx rfl (hb hby at_82) rfl ?_
              show Steps p.tables e below (T5.setTop (mkF m 84 #[.val (.long y0), .second, .val (.long y1), .second, .val (.int y2), .val (.long w3), .second, .val (.long w6), .second, .unset, .unset] [(.long w6)])) _
              refine X5.ldc2Long hx hown (mvT hZ (hw _ (List.mem_of_getElem? (i := 4) rfl))) (g := (mkF m 84 #[.val (.long y0), .second, .val (.long y1), .second, .val (.int y2), .val (.long w3), .second, .val (.long w6), .second, .unset, .unset] [(.long w6)])) rfl (hb hby at_84) _ ?_
              show Steps p.tables e below (T5.setTop (mkF m 87 #[.val (.long y0), .second, .val (.long y1), .second, .val (.int y2), .val (.long w3), .second, .val (.long w6), .second, .unset, .unset] [(.long (-9223372036854775808 : Int64)), (.long w6)])) _
              refine XS.lload X5.here hx rfl (hb hby at_87) rfl ?_
              show Steps p.tables e below (T5.setTop (mkF m 89 #[.val (.long y0), .second, .val (.long y1), .second, .val (.int y2), .val (.long w3), .second, .val (.long w6), .second, .unset, .unset] [(.long w3), (.long (-9223372036854775808 : Int64)), (.long w6)])) _
              refine XS.lsub X5.here hx rfl (hb hby at_89) rfl ?_
              show Steps p.tables e below (T5.setTop (mkF m 90 #[.val (.long y0), .second, .val (.long y1), .second, .val (.int y2), .val (.long w3), .second, .val (.long w6), .second, .unset, .unset] [(.long ((-9223372036854775808 : Int64) - w3)), (.long w6)])) _
              refine XS.lcmp X5.here hx rfl (hb hby at_90) rfl ?_
              exact k)
          by_cases hc42 : w6 < ((-9223372036854775808 : Int64) - w3)
          · -- hc42: True
            have pre43 : Go p.tables e below (s₁.setTop (entryFrame m #[(.long y0), (.long y1), (.int y2)] maxLocals)) T5 (mkF m 113 #[.val (.long y0), .second, .val (.long y1), .second, .val (.int y2), .val (.long w3), .second, .val (.long w6), .second, .val (.long (-9223372036854775808 : Int64)), .second] [(.long w6), (.long w3)]) := fun t k => pre41 t (by
                refine XS.ifNo X5.here hx rfl (hb hby at_91) rfl ((if0 _ _).trans (tlt ((lw_lt _ _).mpr hc42)).2.1) ?_
                show Steps p.tables e below (T5.setTop (mkF m 94 #[.val (.long y0), .second, .val (.long y1), .second, .val (.int y2), .val (.long w3), .second, .val (.long w6), .second, .unset, .unset] [])) _
                refine X5.ldc2Long hx hown (mvT hZ (hw _ (List.mem_of_getElem? (i := 4) rfl))) (g := (mkF m 94 #[.val (.long y0), .second, .val (.long y1), .second, .val (.int y2), .val (.long w3), .second, .val (.long w6), .second, .unset, .unset] [])) rfl (hb hby at_94) _ ?_
                show Steps p.tables e below (T5.setTop (mkF m 97 #[.val (.long y0), .second, .val (.long y1), .second, .val (.int y2), .val (.long w3), .second, .val (.long w6), .second, .unset, .unset] [(.long (-9223372036854775808 : Int64))])) _
                refine XS.lstore X5.here hx rfl (hb hby at_97) rfl (l' := #[.val (.long y0), .second, .val (.long y1), .second, .val (.int y2), .val (.long w3), .second, .val (.long w6), .second, .val (.long (-9223372036854775808 : Int64)), .second]) rfl ?_
                show Steps p.tables e below (T5.setTop (mkF m 99 #[.val (.long y0), .second, .val (.long y1), .second, .val (.int y2), .val (.long w3), .second, .val (.long w6), .second, .val (.long (-9223372036854775808 : Int64)), .second] [])) _
                refine XS.goto X5.here hx rfl (pc0 := 99) (pc' := 109) rfl (hb hby at_99) (by decide) (by decide) ?_
                show Steps p.tables e below (T5.setTop (mkF m 109 #[.val (.long y0), .second, .val (.long y1), .second, .val (.int y2), .val (.long w3), .second, .val (.long w6), .second, .val (.long (-9223372036854775808 : Int64)), .second] [])) _
                refine XS.lload X5.here hx rfl (hb hby at_109) rfl ?_
                show Steps p.tables e below (T5.setTop (mkF m 111 #[.val (.long y0), .second, .val (.long y1), .second, .val (.int y2), .val (.long w3), .second, .val (.long w6), .second, .val (.long (-9223372036854775808 : Int64)), .second] [(.long w3)])) _
                refine XS.lload X5.here hx rfl (hb hby at_111) rfl ?_
                exact k)
            obtain ⟨mk44, mt44, cd44, hn44, hm44, hc44_, -, hl44, -, -, -, hs44⟩ := Cond.codeWith_spec (mv (args := #[]) hZ (hw _ (List.mem_of_getElem? (i := 9) rfl)))
            obtain ⟨o44, T44, L44, hQ44, X44, hS44, stR44, stT44⟩ := own_call X5 hx (own := "com/example/zhangtiao/zhangtiao/input/ExactSumSumPinLaw") (y := (⟨"com/example/zhangtiao/zhangtiao/input/ExactSum", "sum", "(JJ)J"⟩ : MethodName)) hown (mv hZ (hw _ (List.mem_of_getElem? (i := 6) rfl))) (mv hZ (hw _ (List.mem_of_getElem? (i := 7) rfl))) (mv hZ (hw _ (List.mem_of_getElem? (i := 8) rfl))) hn44 hm44 hc44_ hl44 hs44 (by decide) (rm_sum l Z av0 hw [] w3 w6 h0 n0 Z0 hfl hj hT0) hTK hBelow (g := (mkF m 113 #[.val (.long y0), .second, .val (.long y1), .second, .val (.int y2), .val (.long w3), .second, .val (.long w6), .second, .val (.long (-9223372036854775808 : Int64)), .second] [(.long w6), (.long w3)])) rfl (by rw [hml]; rfl) (argsL := [(.long w3), (.long w6)]) (rest := []) (lenOf pd_0 rfl) rfl (hb hby at_113) (by decide) (by show 2 * 0 + _ + _ + _ ≤ _; decide) (by decide) (by decide) (fun U hU => by show (Jvm.Cond.and _ .tt).before _ U = true; rw [Cond.before_and, mv (wtrans hZ hU) (hw _ (List.mem_of_getElem? (i := 9) rfl))]; rfl) (fun U hU hh => ⟨rfl, wtrans hZ hU, hh.trans e5⟩)
            have al44 := hS44.1.alike
            have hZ : Z.Warmed39 (s.setVm T44.vm).vm := State.Warmed39.trans (t := s) hZ0 hS44.1
            have hown : (s.setVm T44.vm).vm.findClass "com/example/zhangtiao/zhangtiao/input/ExactSumSumPinLaw" = some m.cls := by show T44.vm.findClass _ = _; rw [al44.findClass]; exact hown0
            have hTK : (s.setVm T44.vm).vm.MethodsKnown := hTK0.alikeC al44
            have hBelow : (s.setVm T44.vm).vm.FramesKnown below := fun y hy m' hm' => knowsMethod_alike al44 (hBelow0 y hy m' hm')
            obtain ⟨N44q, rfl⟩ := hQ44
            have N44 := Fr.app N5 N44q
            have pre44 : Go p.tables e below (s₁.setTop (entryFrame m #[(.long y0), (.long y1), (.int y2)] maxLocals)) T44 (mkF m 116 #[.val (.long y0), .second, .val (.long y1), .second, .val (.int y2), .val (.long w3), .second, .val (.long w6), .second, .val (.long (-9223372036854775808 : Int64)), .second] [(.long (own_sum w3 w6))]) := fun t k => pre43 t ((stR44 _ rfl).trans k)
            have hq44 : own_sum w3 w6 = (-9223372036854775808 : Int64) := own_sum_o (own_ov_dn hc40 hc42)
            have pre45 : Go p.tables e below (s₁.setTop (entryFrame m #[(.long y0), (.long y1), (.int y2)] maxLocals)) T44 (mkF m 127 #[.val (.long y0), .second, .val (.long y1), .second, .val (.int y2), .val (.long w3), .second, .val (.long w6), .second, .val (.long (-9223372036854775808 : Int64)), .second] [(.int (1 : Int32))]) := fun t k => pre44 t (by
                refine XS.lload X44.here hx rfl (hb hby at_116) rfl ?_
                show Steps p.tables e below (T44.setTop (mkF m 118 #[.val (.long y0), .second, .val (.long y1), .second, .val (.int y2), .val (.long w3), .second, .val (.long w6), .second, .val (.long (-9223372036854775808 : Int64)), .second] [(.long (-9223372036854775808 : Int64)), (.long (own_sum w3 w6))])) _
                refine XS.lcmp X44.here hx rfl (hb hby at_118) rfl ?_
                show Steps p.tables e below (T44.setTop (mkF m 119 #[.val (.long y0), .second, .val (.long y1), .second, .val (.int y2), .val (.long w3), .second, .val (.long w6), .second, .val (.long (-9223372036854775808 : Int64)), .second] [(.int (lcmpW (own_sum w3 w6) (-9223372036854775808 : Int64)))])) _
                refine XS.ifNo X44.here hx rfl (hb hby at_119) rfl ((if0 _ _).trans (teq ((lw_eq _ _).mpr hq44)).2) ?_
                show Steps p.tables e below (T44.setTop (mkF m 122 #[.val (.long y0), .second, .val (.long y1), .second, .val (.int y2), .val (.long w3), .second, .val (.long w6), .second, .val (.long (-9223372036854775808 : Int64)), .second] [])) _
                refine XS.iconst X44.here hx rfl (hb hby at_122) ?_
                show Steps p.tables e below (T44.setTop (mkF m 123 #[.val (.long y0), .second, .val (.long y1), .second, .val (.int y2), .val (.long w3), .second, .val (.long w6), .second, .val (.long (-9223372036854775808 : Int64)), .second] [(.int (1 : Int32))])) _
                refine XS.goto X44.here hx rfl (pc0 := 123) (pc' := 127) rfl (hb hby at_123) (by decide) (by decide) ?_
                exact k)
            obtain ⟨fs, hr, hrun, hended, -, hW1, hW2, hW3⟩ := X44.leaveW hS44 (Nat.le_refl _) (v := some (.int (1 : Int32))) (fun h => by rw [Bd.returns] at h; cases h) (BodyLoose.notSynchronized Bd)
            refine ⟨_, _, pre45 _ ?_, hrun, hended, _, ?_, hW1, hW2, State.sameButNew.mono hW3 (Nat.le_of_ble_eq_true rfl) (Nat.le_of_ble_eq_true rfl)⟩
            · exact retN X44 hx (t := .boolean) Bd.returns (by simp) (hb hby at_127) hr
            · show Q_law Z y0 y1 y2 h0 n0 _ T44.heap _
              exact ⟨rfl, N44⟩
          · -- hc42: False
            obtain ⟨w46, hw46⟩ : ∃ z : Int64, z = (w3 + w6) := ⟨_, rfl⟩
            have pre47 : Go p.tables e below (s₁.setTop (entryFrame m #[(.long y0), (.long y1), (.int y2)] maxLocals)) T5 (mkF m 113 #[.val (.long y0), .second, .val (.long y1), .second, .val (.int y2), .val (.long w3), .second, .val (.long w6), .second, .val (.long w46), .second] [(.long w6), (.long w3)]) := fun t k => pre41 t (by
                refine XS.ifYes X5.here hx rfl (pc0 := 91) (pc' := 102) rfl (hb hby at_91) rfl ((if0 _ _).trans (flt (mt (lw_lt _ _).mp hc42)).2.1) (by decide) (by decide) ?_
                show Steps p.tables e below (T5.setTop (mkF m 102 #[.val (.long y0), .second, .val (.long y1), .second, .val (.int y2), .val (.long w3), .second, .val (.long w6), .second, .unset, .unset] [])) _
                refine XS.lload X5.here hx rfl (hb hby at_102) rfl ?_
                show Steps p.tables e below (T5.setTop (mkF m 104 #[.val (.long y0), .second, .val (.long y1), .second, .val (.int y2), .val (.long w3), .second, .val (.long w6), .second, .unset, .unset] [(.long w3)])) _
                refine XS.lload X5.here hx rfl (hb hby at_104) rfl ?_
                show Steps p.tables e below (T5.setTop (mkF m 106 #[.val (.long y0), .second, .val (.long y1), .second, .val (.int y2), .val (.long w3), .second, .val (.long w6), .second, .unset, .unset] [(.long w6), (.long w3)])) _
                refine XS.ladd X5.here hx rfl (hb hby at_106) rfl ?_
                show Steps p.tables e below (T5.setTop (mkF m 107 #[.val (.long y0), .second, .val (.long y1), .second, .val (.int y2), .val (.long w3), .second, .val (.long w6), .second, .unset, .unset] [(.long (w3 + w6))])) _
                refine XS.lstore X5.here hx rfl (x := w46) (rest := []) (hb hby at_107) (by subst hw46; rfl) (l' := #[.val (.long y0), .second, .val (.long y1), .second, .val (.int y2), .val (.long w3), .second, .val (.long w6), .second, .val (.long w46), .second]) rfl ?_
                show Steps p.tables e below (T5.setTop (mkF m 109 #[.val (.long y0), .second, .val (.long y1), .second, .val (.int y2), .val (.long w3), .second, .val (.long w6), .second, .val (.long w46), .second] [])) _
                refine XS.lload X5.here hx rfl (hb hby at_109) rfl ?_
                show Steps p.tables e below (T5.setTop (mkF m 111 #[.val (.long y0), .second, .val (.long y1), .second, .val (.int y2), .val (.long w3), .second, .val (.long w6), .second, .val (.long w46), .second] [(.long w3)])) _
                refine XS.lload X5.here hx rfl (hb hby at_111) rfl ?_
                exact k)
            obtain ⟨mk48, mt48, cd48, hn48, hm48, hc48_, -, hl48, -, -, -, hs48⟩ := Cond.codeWith_spec (mv (args := #[]) hZ (hw _ (List.mem_of_getElem? (i := 9) rfl)))
            obtain ⟨o48, T48, L48, hQ48, X48, hS48, stR48, stT48⟩ := own_call X5 hx (own := "com/example/zhangtiao/zhangtiao/input/ExactSumSumPinLaw") (y := (⟨"com/example/zhangtiao/zhangtiao/input/ExactSum", "sum", "(JJ)J"⟩ : MethodName)) hown (mv hZ (hw _ (List.mem_of_getElem? (i := 6) rfl))) (mv hZ (hw _ (List.mem_of_getElem? (i := 7) rfl))) (mv hZ (hw _ (List.mem_of_getElem? (i := 8) rfl))) hn48 hm48 hc48_ hl48 hs48 (by decide) (rm_sum l Z av0 hw [] w3 w6 h0 n0 Z0 hfl hj hT0) hTK hBelow (g := (mkF m 113 #[.val (.long y0), .second, .val (.long y1), .second, .val (.int y2), .val (.long w3), .second, .val (.long w6), .second, .val (.long w46), .second] [(.long w6), (.long w3)])) rfl (by rw [hml]; rfl) (argsL := [(.long w3), (.long w6)]) (rest := []) (lenOf pd_0 rfl) rfl (hb hby at_113) (by decide) (by show 2 * 0 + _ + _ + _ ≤ _; decide) (by decide) (by decide) (fun U hU => by show (Jvm.Cond.and _ .tt).before _ U = true; rw [Cond.before_and, mv (wtrans hZ hU) (hw _ (List.mem_of_getElem? (i := 9) rfl))]; rfl) (fun U hU hh => ⟨rfl, wtrans hZ hU, hh.trans e5⟩)
            have al48 := hS48.1.alike
            have hZ : Z.Warmed39 (s.setVm T48.vm).vm := State.Warmed39.trans (t := s) hZ0 hS48.1
            have hown : (s.setVm T48.vm).vm.findClass "com/example/zhangtiao/zhangtiao/input/ExactSumSumPinLaw" = some m.cls := by show T48.vm.findClass _ = _; rw [al48.findClass]; exact hown0
            have hTK : (s.setVm T48.vm).vm.MethodsKnown := hTK0.alikeC al48
            have hBelow : (s.setVm T48.vm).vm.FramesKnown below := fun y hy m' hm' => knowsMethod_alike al48 (hBelow0 y hy m' hm')
            obtain ⟨N48q, rfl⟩ := hQ48
            have N48 := Fr.app N5 N48q
            have pre48 : Go p.tables e below (s₁.setTop (entryFrame m #[(.long y0), (.long y1), (.int y2)] maxLocals)) T48 (mkF m 116 #[.val (.long y0), .second, .val (.long y1), .second, .val (.int y2), .val (.long w3), .second, .val (.long w6), .second, .val (.long w46), .second] [(.long (own_sum w3 w6))]) := fun t k => pre47 t ((stR48 _ rfl).trans k)
            have hq48 : own_sum w3 w6 = w46 := (own_sum_n hc8 hc13 (own_ov_no (fun q => absurd q hc18) (fun _ => hc42))).trans hw46.symm
            have pre49 : Go p.tables e below (s₁.setTop (entryFrame m #[(.long y0), (.long y1), (.int y2)] maxLocals)) T48 (mkF m 127 #[.val (.long y0), .second, .val (.long y1), .second, .val (.int y2), .val (.long w3), .second, .val (.long w6), .second, .val (.long w46), .second] [(.int (1 : Int32))]) := fun t k => pre48 t (by
                refine XS.lload X48.here hx rfl (hb hby at_116) rfl ?_
                show Steps p.tables e below (T48.setTop (mkF m 118 #[.val (.long y0), .second, .val (.long y1), .second, .val (.int y2), .val (.long w3), .second, .val (.long w6), .second, .val (.long w46), .second] [(.long w46), (.long (own_sum w3 w6))])) _
                refine XS.lcmp X48.here hx rfl (hb hby at_118) rfl ?_
                show Steps p.tables e below (T48.setTop (mkF m 119 #[.val (.long y0), .second, .val (.long y1), .second, .val (.int y2), .val (.long w3), .second, .val (.long w6), .second, .val (.long w46), .second] [(.int (lcmpW (own_sum w3 w6) w46))])) _
                refine XS.ifNo X48.here hx rfl (hb hby at_119) rfl ((if0 _ _).trans (teq ((lw_eq _ _).mpr hq48)).2) ?_
                show Steps p.tables e below (T48.setTop (mkF m 122 #[.val (.long y0), .second, .val (.long y1), .second, .val (.int y2), .val (.long w3), .second, .val (.long w6), .second, .val (.long w46), .second] [])) _
                refine XS.iconst X48.here hx rfl (hb hby at_122) ?_
                show Steps p.tables e below (T48.setTop (mkF m 123 #[.val (.long y0), .second, .val (.long y1), .second, .val (.int y2), .val (.long w3), .second, .val (.long w6), .second, .val (.long w46), .second] [(.int (1 : Int32))])) _
                refine XS.goto X48.here hx rfl (pc0 := 123) (pc' := 127) rfl (hb hby at_123) (by decide) (by decide) ?_
                exact k)
            obtain ⟨fs, hr, hrun, hended, -, hW1, hW2, hW3⟩ := X48.leaveW hS48 (Nat.le_refl _) (v := some (.int (1 : Int32))) (fun h => by rw [Bd.returns] at h; cases h) (BodyLoose.notSynchronized Bd)
            refine ⟨_, _, pre49 _ ?_, hrun, hended, _, ?_, hW1, hW2, State.sameButNew.mono hW3 (Nat.le_of_ble_eq_true rfl) (Nat.le_of_ble_eq_true rfl)⟩
            · exact retN X48 hx (t := .boolean) Bd.returns (by simp) (hb hby at_127) hr
            · show Q_law Z y0 y1 y2 h0 n0 _ T48.heap _
              exact ⟨rfl, N48⟩
        · -- hc40: False
          obtain ⟨w50, hw50⟩ : ∃ z : Int64, z = (w3 + w6) := ⟨_, rfl⟩
          have pre51 : Go p.tables e below (s₁.setTop (entryFrame m #[(.long y0), (.long y1), (.int y2)] maxLocals)) T5 (mkF m 113 #[.val (.long y0), .second, .val (.long y1), .second, .val (.int y2), .val (.long w3), .second, .val (.long w6), .second, .val (.long w50), .second] [(.long w6), (.long w3)]) := fun t k => pre39 t (by
              refine XS.ifYes X5.here hx rfl (pc0 := 79) (pc' := 102) rfl (hb hby at_79) rfl ((if0 _ _).trans (flt (mt (lw_lt _ _).mp hc40)).2.1) (by decide) (by decide) ?_
              show Steps p.tables e below (T5.setTop (mkF m 102 #[.val (.long y0), .second, .val (.long y1), .second, .val (.int y2), .val (.long w3), .second, .val (.long w6), .second, .unset, .unset] [])) _
              refine XS.lload X5.here hx rfl (hb hby at_102) rfl ?_
              show Steps p.tables e below (T5.setTop (mkF m 104 #[.val (.long y0), .second, .val (.long y1), .second, .val (.int y2), .val (.long w3), .second, .val (.long w6), .second, .unset, .unset] [(.long w3)])) _
              refine XS.lload X5.here hx rfl (hb hby at_104) rfl ?_
              show Steps p.tables e below (T5.setTop (mkF m 106 #[.val (.long y0), .second, .val (.long y1), .second, .val (.int y2), .val (.long w3), .second, .val (.long w6), .second, .unset, .unset] [(.long w6), (.long w3)])) _
              refine XS.ladd X5.here hx rfl (hb hby at_106) rfl ?_
              show Steps p.tables e below (T5.setTop (mkF m 107 #[.val (.long y0), .second, .val (.long y1), .second, .val (.int y2), .val (.long w3), .second, .val (.long w6), .second, .unset, .unset] [(.long (w3 + w6))])) _
              refine XS.lstore X5.here hx rfl (x := w50) (rest := []) (hb hby at_107) (by subst hw50; rfl) (l' := #[.val (.long y0), .second, .val (.long y1), .second, .val (.int y2), .val (.long w3), .second, .val (.long w6), .second, .val (.long w50), .second]) rfl ?_
              show Steps p.tables e below (T5.setTop (mkF m 109 #[.val (.long y0), .second, .val (.long y1), .second, .val (.int y2), .val (.long w3), .second, .val (.long w6), .second, .val (.long w50), .second] [])) _
              refine XS.lload X5.here hx rfl (hb hby at_109) rfl ?_
              show Steps p.tables e below (T5.setTop (mkF m 111 #[.val (.long y0), .second, .val (.long y1), .second, .val (.int y2), .val (.long w3), .second, .val (.long w6), .second, .val (.long w50), .second] [(.long w3)])) _
              refine XS.lload X5.here hx rfl (hb hby at_111) rfl ?_
              exact k)
          obtain ⟨mk52, mt52, cd52, hn52, hm52, hc52_, -, hl52, -, -, -, hs52⟩ := Cond.codeWith_spec (mv (args := #[]) hZ (hw _ (List.mem_of_getElem? (i := 9) rfl)))
          obtain ⟨o52, T52, L52, hQ52, X52, hS52, stR52, stT52⟩ := own_call X5 hx (own := "com/example/zhangtiao/zhangtiao/input/ExactSumSumPinLaw") (y := (⟨"com/example/zhangtiao/zhangtiao/input/ExactSum", "sum", "(JJ)J"⟩ : MethodName)) hown (mv hZ (hw _ (List.mem_of_getElem? (i := 6) rfl))) (mv hZ (hw _ (List.mem_of_getElem? (i := 7) rfl))) (mv hZ (hw _ (List.mem_of_getElem? (i := 8) rfl))) hn52 hm52 hc52_ hl52 hs52 (by decide) (rm_sum l Z av0 hw [] w3 w6 h0 n0 Z0 hfl hj hT0) hTK hBelow (g := (mkF m 113 #[.val (.long y0), .second, .val (.long y1), .second, .val (.int y2), .val (.long w3), .second, .val (.long w6), .second, .val (.long w50), .second] [(.long w6), (.long w3)])) rfl (by rw [hml]; rfl) (argsL := [(.long w3), (.long w6)]) (rest := []) (lenOf pd_0 rfl) rfl (hb hby at_113) (by decide) (by show 2 * 0 + _ + _ + _ ≤ _; decide) (by decide) (by decide) (fun U hU => by show (Jvm.Cond.and _ .tt).before _ U = true; rw [Cond.before_and, mv (wtrans hZ hU) (hw _ (List.mem_of_getElem? (i := 9) rfl))]; rfl) (fun U hU hh => ⟨rfl, wtrans hZ hU, hh.trans e5⟩)
          have al52 := hS52.1.alike
          have hZ : Z.Warmed39 (s.setVm T52.vm).vm := State.Warmed39.trans (t := s) hZ0 hS52.1
          have hown : (s.setVm T52.vm).vm.findClass "com/example/zhangtiao/zhangtiao/input/ExactSumSumPinLaw" = some m.cls := by show T52.vm.findClass _ = _; rw [al52.findClass]; exact hown0
          have hTK : (s.setVm T52.vm).vm.MethodsKnown := hTK0.alikeC al52
          have hBelow : (s.setVm T52.vm).vm.FramesKnown below := fun y hy m' hm' => knowsMethod_alike al52 (hBelow0 y hy m' hm')
          obtain ⟨N52q, rfl⟩ := hQ52
          have N52 := Fr.app N5 N52q
          have pre52 : Go p.tables e below (s₁.setTop (entryFrame m #[(.long y0), (.long y1), (.int y2)] maxLocals)) T52 (mkF m 116 #[.val (.long y0), .second, .val (.long y1), .second, .val (.int y2), .val (.long w3), .second, .val (.long w6), .second, .val (.long w50), .second] [(.long (own_sum w3 w6))]) := fun t k => pre51 t ((stR52 _ rfl).trans k)
          have hq52 : own_sum w3 w6 = w50 := (own_sum_n hc8 hc13 (own_ov_no (fun q => absurd q hc18) (fun q => absurd q hc40))).trans hw50.symm
          have pre53 : Go p.tables e below (s₁.setTop (entryFrame m #[(.long y0), (.long y1), (.int y2)] maxLocals)) T52 (mkF m 127 #[.val (.long y0), .second, .val (.long y1), .second, .val (.int y2), .val (.long w3), .second, .val (.long w6), .second, .val (.long w50), .second] [(.int (1 : Int32))]) := fun t k => pre52 t (by
              refine XS.lload X52.here hx rfl (hb hby at_116) rfl ?_
              show Steps p.tables e below (T52.setTop (mkF m 118 #[.val (.long y0), .second, .val (.long y1), .second, .val (.int y2), .val (.long w3), .second, .val (.long w6), .second, .val (.long w50), .second] [(.long w50), (.long (own_sum w3 w6))])) _
              refine XS.lcmp X52.here hx rfl (hb hby at_118) rfl ?_
              show Steps p.tables e below (T52.setTop (mkF m 119 #[.val (.long y0), .second, .val (.long y1), .second, .val (.int y2), .val (.long w3), .second, .val (.long w6), .second, .val (.long w50), .second] [(.int (lcmpW (own_sum w3 w6) w50))])) _
              refine XS.ifNo X52.here hx rfl (hb hby at_119) rfl ((if0 _ _).trans (teq ((lw_eq _ _).mpr hq52)).2) ?_
              show Steps p.tables e below (T52.setTop (mkF m 122 #[.val (.long y0), .second, .val (.long y1), .second, .val (.int y2), .val (.long w3), .second, .val (.long w6), .second, .val (.long w50), .second] [])) _
              refine XS.iconst X52.here hx rfl (hb hby at_122) ?_
              show Steps p.tables e below (T52.setTop (mkF m 123 #[.val (.long y0), .second, .val (.long y1), .second, .val (.int y2), .val (.long w3), .second, .val (.long w6), .second, .val (.long w50), .second] [(.int (1 : Int32))])) _
              refine XS.goto X52.here hx rfl (pc0 := 123) (pc' := 127) rfl (hb hby at_123) (by decide) (by decide) ?_
              exact k)
          obtain ⟨fs, hr, hrun, hended, -, hW1, hW2, hW3⟩ := X52.leaveW hS52 (Nat.le_refl _) (v := some (.int (1 : Int32))) (fun h => by rw [Bd.returns] at h; cases h) (BodyLoose.notSynchronized Bd)
          refine ⟨_, _, pre53 _ ?_, hrun, hended, _, ?_, hW1, hW2, State.sameButNew.mono hW3 (Nat.le_of_ble_eq_true rfl) (Nat.le_of_ble_eq_true rfl)⟩
          · exact retN X52 hx (t := .boolean) Bd.returns (by simp) (hb hby at_127) hr
          · show Q_law Z y0 y1 y2 h0 n0 _ T52.heap _
            exact ⟨rfl, N52⟩
set_option maxRecDepth 65536 in
set_option maxHeartbeats 40000000 in
theorem comes_1 {Post : Tables → Env → Array Value → State → Outcome → State → Prop} (hpost : ∀ tb e args s v u, (limb_1_1.after args s (.returned v) u = true ∧ limb_1_2.after args s (.returned v) u = true ∧ True) → Jvm.D.FramedW s (.returned v) u (Jvm.fieldLocs frame_1_writes args s ++ Jvm.arrayLocs frame_1_arrays args s ++ Jvm.staticLocs frame_1_statics s) 16 6656 → Post tb e args s (.returned v) u) :
    ArmFor flags0 classFile x code maxLocals ret World_1 tables_1 room_1 Calls_1 rest_1 Pre_1 Post := by
  intro l hfl _ _ p e ha hc hk s m args below hf hA hF happ hP
  obtain ⟨hcalls, hrest, hpre⟩ := hP
  obtain ⟨-, -, -, hnamed, -, -, -, hat⟩ := (Spec.applies_iff hf).mp happ
  obtain ⟨hg, hn⟩ := and_e (Cond.before_iff.mp (show (Jvm.Cond.and given_1 narrow_1).before args s = true from hpre))
  obtain ⟨gc, gt0⟩ := and_e hg
  obtain ⟨ga0, gt1⟩ := and_e gt0
  obtain ⟨ga1, gt2⟩ := and_e gt1
  obtain ⟨w0, w1, w2, rfl⟩ : ∃ w0 w1 w2 : Value, args = #[w0, w1, w2] := by
    have hs : args.size = 3 := by simpa [Cond.value, given_1] using gc
    obtain ⟨L⟩ := args
    match L, hs with
    | [w0, w1, w2], _ => exact ⟨w0, w1, w2, rfl⟩
  have hw := fun d (hd : d ∈ tables_1) => atoms_spec (ws := Jvm.Cond.code x code maxLocals ret :: tables_1) hat d (List.mem_cons_of_mem _ hd)
  have hfit : Fit s := fun {y c} hc i hi => by
    obtain ⟨ha, rfl⟩ := Array.getElem?_eq_some_iff.mp hc
    have q := List.all_eq_true.mp ((Array.all_eq_true_iff_forall_mem.mp hF) _ (Array.getElem_mem ha)) i (List.mem_range.mpr hi)
    simpa [Array.getElem?_eq_getElem hi] using q
  obtain ⟨i0, ei0⟩ := isL_v ga0
  obtain rfl : w0 = (.long i0) := Option.some.inj ei0
  obtain ⟨i1, ei1⟩ := isL_v ga1
  obtain rfl : w1 = (.long i1) := Option.some.inj ei1
  obtain ⟨i2, ei2⟩ := is_v gt2
  obtain rfl : w2 = (.int i2) := Option.some.inj ei2
  obtain ⟨hsets, hown0⟩ := atoms_of _ (rest_1_c_eq ▸ (show rest_1_c.before _ s = true from hrest))
  obtain ⟨n, o, h1, h2, h3, L, ⟨rfl, N⟩, hq⟩ := rm_law l s _ hw tables_1 i0 i1 i2  s.heap s.heap.size (Nat.le_refl _) hfl hsets ThS.start  p e ha hc hk s m _ below hf ((Spec.applies_iff_loose hf).mp happ).1 ⟨rfl, State.Warmed39.refl s, rfl⟩ ⟨MethodsKnown_of_tablesKnown hcalls.2.1, FramesKnown_of_framesKnown hcalls.1 hf⟩
  refine ⟨n, _, h1, h2, h3, hpost _ _ _ _ _ _ ⟨Cond.after_iff.mpr rfl, Cond.after_iff.mpr (eq_i res_at (Term.int_eval (1)) rfl), trivial⟩ ⟨⟨_, rfl⟩, hq.1, hq.2.1, (hq.2.2.sift fun y hy => Or.inr (N y hy)).mono (by decide) (by decide)⟩⟩
theorem main_1_1 : Claimed_1_1 := comes_1 fun _ _ _ _ _ _ h hF => ⟨h.1, hF⟩
theorem main_1_2 : Claimed_1_2 := comes_1 fun _ _ _ _ _ _ h hF => ⟨h.2.1, hF⟩
end Jvm.Pilot.@@N@@
namespace Jvm.Pilot.@@N@@
open Jvm Jvm.ClassFile Sem Op Lib Jvm.Free Jvm.Stand Jvm.Pilot.@@N@@.Jvm.D
/-! MADE BY PROGRAM (witnessworld.py) out of the Statement's table words and the real class files: 32 classes; the members and pool entries that the words name. The judged class is class 1, her method 2. -/
namespace start1
open Jvm.ClassFile
def u (s : String) : CpInfo := .utf8 (stringToUtf16 s)
/-- a pool by its gaps: so many unusable entries, then the entry; so many at the end -/
def gap : Nat → List CpInfo → List CpInfo
  | 0, r => r
  | n + 1, r => .unusable :: gap n r
def poolList (es : List (Nat × CpInfo)) (last : Nat) : List CpInfo := es.foldr (fun e r => gap e.1 (e.2 :: r)) (gap last [])
def pool (es : List (Nat × CpInfo)) (last : Nat) : Array CpInfo := ⟨poolList es last⟩
def fileOf (pool : Array CpInfo) (this : Nat) (attrs : Array Attribute := #[]) (ms : Array MethodInfo := #[]) (fl : Nat := 33) (sup : Nat := 0) (ifs : Array Nat := #[]) (fds : Array FieldInfo := #[]) : ClassFile where
  minorVersion := 0
  majorVersion := 65
  constantPool := pool
  accessFlags := fl
  thisClass := this
  superClass := sup
  interfaces := ifs
  fields := fds
  methods := ms
  attributes := attrs
def plain (name : String) (sup : Option ClassId) : Class where
  name := name
  kind := .ordinary
  loader := none
  accessFlags := 33
  super := sup
  interfaces := #[]
  cf := none
  fields := #[]
  methods := #[]
  instanceTypes := #[]
  staticTypes := #[]
  resolved := #[]
  callSites := []
  init := .initialized
  statics := none
  mirror := none

def pool0 : Array CpInfo := pool [(5, u "<init>"), (0, u "()V"), (1, .class_ 10), (1, u "java/lang/Object")] 113

def k0c0 : Code := { maxStack := 0, maxLocals := 1, code := object_method_1_code, exceptionTable := #[], attributes := #[] }
def k0m0 : Method := { name := "<init>", desc := "()V", sig := { parameters := [], returnType := none }, accessFlags := 1, code := some k0c0 }
/-- java/lang/Object -/
def k0 : Class := { plain "java/lang/Object" none with
  accessFlags := 33
  interfaces := #[]
  cf := some (fileOf pool0 8 #[] #[{ accessFlags := 1, nameIndex := 5, descriptorIndex := 6, attributes := #[] }] 33 0 #[] #[])
  fields := #[]
  methods := #[k0m0]
  instanceTypes := #[]
  staticTypes := #[]
  resolved := Array.replicate 124 none
  statics := none }

def pool1 : Array CpInfo := pool [(2, .class_ 4), (1, u "java/lang/Object"), (0, u "<init>"), (0, u "()V"), (2, .long 9223372036854775808), (1, .long 9223372036854775807), (1, .long 255), (1, .methodref 16 17), (0, .class_ 18), (0, .nameAndType 19 20), (0, u "com/example/zhangtiao/zhangtiao/input/ExactSumSumPinLaw"), (0, u "pick"), (0, u "(JI)J"), (0, .methodref 22 23), (0, .class_ 24), (0, .nameAndType 25 26), (0, u "com/example/zhangtiao/zhangtiao/input/ExactSum"), (0, u "sum"), (0, u "(JJ)J"), (3, u "law"), (0, u "(JJI)Z")] 2

def k1m0 : Method := { name := "<init>", desc := "()V", sig := { parameters := [], returnType := none }, accessFlags := 1, code := none }
def k1c1 : Code := { maxStack := 6, maxLocals := 5, code := method_2_code, exceptionTable := #[], attributes := #[] }
def k1m1 : Method := { name := "pick", desc := "(JI)J", sig := { parameters := [.long, .int], returnType := some .long }, accessFlags := 10, code := some k1c1 }
def k1c2 : Code := { maxStack := 6, maxLocals := 11, code := code, exceptionTable := #[], attributes := #[] }
def k1m2 : Method := { name := "law", desc := "(JJI)Z", sig := { parameters := [.long, .long, .int], returnType := some .boolean }, accessFlags := 9, code := some k1c2 }
/-- com/example/zhangtiao/zhangtiao/input/ExactSumSumPinLaw -/
def k1 : Class := { plain "com/example/zhangtiao/zhangtiao/input/ExactSumSumPinLaw" (some 0) with
  accessFlags := 49
  interfaces := #[]
  cf := some (fileOf pool1 16 #[] #[{ accessFlags := 1, nameIndex := 5, descriptorIndex := 6, attributes := #[] }, { accessFlags := 10, nameIndex := 19, descriptorIndex := 20, attributes := #[] }, { accessFlags := 9, nameIndex := 30, descriptorIndex := 31, attributes := #[] }] 49 2 #[] #[])
  fields := #[]
  methods := #[k1m0, k1m1, k1m2]
  instanceTypes := #[]
  staticTypes := #[]
  resolved := Array.replicate 34 none
  statics := none }

def pool2 : Array CpInfo := pool [(4, .class_ 6), (1, u "java/lang/Object"), (0, u "<init>"), (0, u "()V"), (1, .class_ 12), (1, u "com/example/zhangtiao/zhangtiao/input/ExactSum"), (0, u "units"), (0, u "J"), (2, u "rest"), (0, u "Ljava/math/BigDecimal;"), (5, u "(JJ)J"), (0, .long 9223372036854775808), (61, .class_ 88), (0, u "java/lang/ArithmeticException"), (18, .methodref 108 109), (0, .class_ 110), (0, .nameAndType 111 24), (0, u "java/lang/Math"), (0, u "addExact"), (2, u "sum"), (3, u "SCALE"), (0, u "I"), (2, u "NOT_UNITS"), (0, u "UNITS_PER_FEN")] 12

def k2m0 : Method := { name := "<init>", desc := "()V", sig := { parameters := [], returnType := none }, accessFlags := 1, code := none }
def k2c1 : Code := { maxStack := 4, maxLocals := 5, code := prog_25_method_15_code, exceptionTable := #[{ startPc := 20, endPc := 25, handlerPc := 26, catchType := 87 }], attributes := #[] }
def k2m1 : Method := { name := "sum", desc := "(JJ)J", sig := { parameters := [.long, .long], returnType := some .long }, accessFlags := 8, code := some k2c1 }
/-- com/example/zhangtiao/zhangtiao/input/ExactSum -/
def k2 : Class := { plain "com/example/zhangtiao/zhangtiao/input/ExactSum" (some 0) with
  accessFlags := 49
  interfaces := #[]
  cf := some (fileOf pool2 10 #[] #[{ accessFlags := 1, nameIndex := 7, descriptorIndex := 8, attributes := #[] }, { accessFlags := 8, nameIndex := 114, descriptorIndex := 24, attributes := #[] }] 49 4 #[] #[{ accessFlags := 24, nameIndex := 118, descriptorIndex := 119, attributes := #[] }, { accessFlags := 25, nameIndex := 122, descriptorIndex := 14, attributes := #[] }, { accessFlags := 26, nameIndex := 123, descriptorIndex := 14, attributes := #[] }, { accessFlags := 2, nameIndex := 13, descriptorIndex := 14, attributes := #[] }, { accessFlags := 2, nameIndex := 17, descriptorIndex := 18, attributes := #[] }])
  fields := #[{ name := "SCALE", type := .int, accessFlags := 24, slot := 0, constantValue := 0 }, { name := "NOT_UNITS", type := .long, accessFlags := 25, slot := 1, constantValue := 0 }, { name := "UNITS_PER_FEN", type := .long, accessFlags := 26, slot := 2, constantValue := 0 }, { name := "units", type := .long, accessFlags := 2, slot := 0, constantValue := 0 }, { name := "rest", type := (.object "java/math/BigDecimal"), accessFlags := 2, slot := 1, constantValue := 0 }]
  methods := #[k2m0, k2m1]
  instanceTypes := #[.long, (.object "java/math/BigDecimal")]
  staticTypes := #[.int, .long, .long]
  resolved := Array.replicate 136 none
  statics := none }

def pool3 : Array CpInfo := pool [(1, .class_ 2), (0, u "java/lang/Math"), (1, .class_ 6), (1, u "java/lang/Object"), (0, u "<init>"), (0, u "()V"), (89, .class_ 100), (1, u "java/lang/Math$RandomNumberGeneratorHolder"), (8, .class_ 110), (0, u "java/lang/ArithmeticException"), (2, .methodref 109 114), (0, .nameAndType 7 115), (0, u "(Ljava/lang/String;)V"), (0, .string 117), (0, u "long overflow"), (3, u "(JJ)J"), (50, u "negativeZeroFloatBits"), (0, u "J"), (2, u "negativeZeroDoubleBits"), (68, u "$assertionsDisabled"), (0, u "Z"), (91, u "twoToTheDoubleScaleDown"), (0, u "D"), (4, u "twoToTheDoubleScaleUp"), (9, u "E"), (3, u "PI"), (2, u "TAU"), (2, u "DEGREES_TO_RADIANS"), (0, u "RADIANS_TO_DEGREES"), (27, u "addExact")] 66

def k3m0 : Method := { name := "<init>", desc := "()V", sig := { parameters := [], returnType := none }, accessFlags := 2, code := none }
def k3c1 : Code := { maxStack := 6, maxLocals := 6, code := jdk_29_method_25_code, exceptionTable := #[], attributes := #[] }
def k3m1 : Method := { name := "addExact", desc := "(JJ)J", sig := { parameters := [.long, .long], returnType := some .long }, accessFlags := 9, code := some k3c1 }
/-- java/lang/Math -/
def k3 : Class := { plain "java/lang/Math" (some 0) with
  accessFlags := 49
  interfaces := #[]
  cf := some (fileOf pool3 1 #[.nestMembers #[98]] #[{ accessFlags := 2, nameIndex := 7, descriptorIndex := 8, attributes := #[] }, { accessFlags := 9, nameIndex := 393, descriptorIndex := 121, attributes := #[] }] 49 4 #[] #[{ accessFlags := 25, nameIndex := 354, descriptorIndex := 339, attributes := #[] }, { accessFlags := 25, nameIndex := 358, descriptorIndex := 339, attributes := #[] }, { accessFlags := 25, nameIndex := 361, descriptorIndex := 339, attributes := #[] }, { accessFlags := 26, nameIndex := 364, descriptorIndex := 339, attributes := #[] }, { accessFlags := 26, nameIndex := 365, descriptorIndex := 339, attributes := #[] }, { accessFlags := 26, nameIndex := 172, descriptorIndex := 173, attributes := #[] }, { accessFlags := 26, nameIndex := 176, descriptorIndex := 173, attributes := #[] }, { accessFlags := 8, nameIndex := 344, descriptorIndex := 339, attributes := #[] }, { accessFlags := 8, nameIndex := 338, descriptorIndex := 339, attributes := #[] }, { accessFlags := 4120, nameIndex := 245, descriptorIndex := 246, attributes := #[] }])
  fields := #[{ name := "E", type := .double, accessFlags := 25, slot := 0, constantValue := 0 }, { name := "PI", type := .double, accessFlags := 25, slot := 1, constantValue := 0 }, { name := "TAU", type := .double, accessFlags := 25, slot := 2, constantValue := 0 }, { name := "DEGREES_TO_RADIANS", type := .double, accessFlags := 26, slot := 3, constantValue := 0 }, { name := "RADIANS_TO_DEGREES", type := .double, accessFlags := 26, slot := 4, constantValue := 0 }, { name := "negativeZeroFloatBits", type := .long, accessFlags := 26, slot := 5, constantValue := 0 }, { name := "negativeZeroDoubleBits", type := .long, accessFlags := 26, slot := 6, constantValue := 0 }, { name := "twoToTheDoubleScaleUp", type := .double, accessFlags := 8, slot := 7, constantValue := 0 }, { name := "twoToTheDoubleScaleDown", type := .double, accessFlags := 8, slot := 8, constantValue := 0 }, { name := "$assertionsDisabled", type := .boolean, accessFlags := 4120, slot := 9, constantValue := 0 }]
  methods := #[k3m0, k3m1]
  instanceTypes := #[]
  staticTypes := #[.double, .double, .double, .double, .double, .long, .long, .double, .double, .boolean]
  resolved := Array.replicate 460 none
  statics := none }

def pool4 : Array CpInfo := pool [(1, .class_ 2), (0, u "java/io/Serializable"), (0, .class_ 4), (0, u "java/lang/Object")] 2

/-- java/io/Serializable -/
def k4 : Class := { plain "java/io/Serializable" (some 0) with
  accessFlags := 1537
  interfaces := #[]
  cf := some (fileOf pool4 1 #[] #[] 1537 3 #[] #[])
  fields := #[]
  methods := #[]
  instanceTypes := #[]
  staticTypes := #[]
  resolved := Array.replicate 7 none
  statics := none }

def pool5 : Array CpInfo := pool [(1, .methodref 2 3), (0, .class_ 4), (0, .nameAndType 5 6), (0, u "java/lang/Object"), (0, u "<init>"), (0, u "()V"), (0, .fieldref 8 9), (0, .class_ 10), (0, .nameAndType 11 12), (0, u "java/lang/Throwable"), (0, u "cause"), (0, u "Ljava/lang/Throwable;"), (0, .fieldref 8 14), (0, .nameAndType 15 16), (0, u "UNASSIGNED_STACK"), (0, u "[Ljava/lang/StackTraceElement;"), (0, .fieldref 8 18), (0, .nameAndType 19 16), (0, u "stackTrace"), (0, .fieldref 8 21), (0, .nameAndType 22 23), (0, u "SUPPRESSED_SENTINEL"), (0, u "Ljava/util/List;"), (0, .fieldref 8 25), (0, .nameAndType 26 23), (0, u "suppressedExceptions"), (0, .methodref 8 28), (0, .nameAndType 29 30), (0, u "fillInStackTrace"), (0, u "()Ljava/lang/Throwable;"), (0, .fieldref 8 32), (0, .nameAndType 33 34), (0, u "detailMessage"), (0, u "Ljava/lang/String;"), (58, .class_ 94), (0, u "java/lang/Throwable$WrappedPrintStream"), (6, .class_ 103), (1, u "java/lang/Throwable$PrintStreamOrWriter"), (61, u "$assertionsDisabled"), (0, u "Z"), (26, .class_ 194), (0, u "java/lang/Throwable$WrappedPrintWriter"), (3, .fieldref 8 199), (0, .nameAndType 200 201), (0, u "backtrace"), (0, u "Ljava/lang/Object;"), (0, .methodref 8 203), (0, .nameAndType 29 204), (0, u "(I)Ljava/lang/Throwable;"), (6, u "depth"), (0, u "I"), (10, u "(Ljava/lang/String;)V"), (45, .class_ 271), (1, u "java/lang/Throwable$SentinelHolder"), (32, u "EMPTY_THROWABLE_ARRAY"), (0, u "[Ljava/lang/Throwable;"), (12, .class_ 319), (0, u "java/io/Serializable"), (0, u "serialVersionUID"), (0, u "J"), (5, u "NULL_CAUSE_MESSAGE"), (0, u "SELF_SUPPRESSION_MESSAGE"), (0, u "CAUSE_CAPTION"), (0, u "SUPPRESSED_CAPTION")] 73

def k5c0 : Code := { maxStack := 2, maxLocals := 1, code := jdk_78_method_1_code, exceptionTable := #[], attributes := #[] }
def k5m0 : Method := { name := "<init>", desc := "()V", sig := { parameters := [], returnType := none }, accessFlags := 1, code := some k5c0 }
def k5c1 : Code := { maxStack := 2, maxLocals := 2, code := jdk_78_method_2_code, exceptionTable := #[], attributes := #[] }
def k5m1 : Method := { name := "<init>", desc := "(Ljava/lang/String;)V", sig := { parameters := [(.object "java/lang/String")], returnType := none }, accessFlags := 1, code := some k5c1 }
def k5c2 : Code := { maxStack := 2, maxLocals := 1, code := ⟨#[0x2a, 0xb4, 0x00, 0x11, 0xc7, 0x00, 0x0a, 0x2a, 0xb4, 0x00, 0xc6, 0xc6, 0x00, 0x10, 0x2a, 0x03, 0xb6, 0x00, 0xca, 0x57, 0x2a, 0xb2, 0x00, 0x0d, 0xb5, 0x00, 0x11, 0x2a, 0xb0]⟩, exceptionTable := #[], attributes := #[] }
def k5m2 : Method := { name := "fillInStackTrace", desc := "()Ljava/lang/Throwable;", sig := { parameters := [], returnType := some (.object "java/lang/Throwable") }, accessFlags := 33, code := some k5c2 }
def k5m3 : Method := { name := "fillInStackTrace", desc := "(I)Ljava/lang/Throwable;", sig := { parameters := [.int], returnType := some (.object "java/lang/Throwable") }, accessFlags := 258, code := none }
/-- java/lang/Throwable -/
def k5 : Class := { plain "java/lang/Throwable" (some 0) with
  accessFlags := 33
  interfaces := #[4]
  cf := some (fileOf pool5 8 #[.nestMembers #[193, 93, 101, 269]] #[{ accessFlags := 1, nameIndex := 5, descriptorIndex := 6, attributes := #[] }, { accessFlags := 1, nameIndex := 5, descriptorIndex := 223, attributes := #[] }, { accessFlags := 33, nameIndex := 29, descriptorIndex := 30, attributes := #[] }, { accessFlags := 258, nameIndex := 29, descriptorIndex := 204, attributes := #[] }] 33 2 #[318] #[{ accessFlags := 26, nameIndex := 320, descriptorIndex := 321, attributes := #[] }, { accessFlags := 130, nameIndex := 200, descriptorIndex := 201, attributes := #[] }, { accessFlags := 2, nameIndex := 33, descriptorIndex := 34, attributes := #[] }, { accessFlags := 26, nameIndex := 15, descriptorIndex := 16, attributes := #[] }, { accessFlags := 2, nameIndex := 11, descriptorIndex := 12, attributes := #[] }, { accessFlags := 2, nameIndex := 19, descriptorIndex := 16, attributes := #[] }, { accessFlags := 130, nameIndex := 211, descriptorIndex := 212, attributes := #[] }, { accessFlags := 26, nameIndex := 22, descriptorIndex := 23, attributes := #[] }, { accessFlags := 2, nameIndex := 26, descriptorIndex := 23, attributes := #[] }, { accessFlags := 26, nameIndex := 327, descriptorIndex := 34, attributes := #[] }, { accessFlags := 26, nameIndex := 328, descriptorIndex := 34, attributes := #[] }, { accessFlags := 26, nameIndex := 329, descriptorIndex := 34, attributes := #[] }, { accessFlags := 26, nameIndex := 330, descriptorIndex := 34, attributes := #[] }, { accessFlags := 26, nameIndex := 304, descriptorIndex := 305, attributes := #[] }, { accessFlags := 4120, nameIndex := 165, descriptorIndex := 166, attributes := #[] }])
  fields := #[{ name := "serialVersionUID", type := .long, accessFlags := 26, slot := 0, constantValue := 0 }, { name := "backtrace", type := (.object "java/lang/Object"), accessFlags := 130, slot := 0, constantValue := 0 }, { name := "detailMessage", type := (.object "java/lang/String"), accessFlags := 2, slot := 1, constantValue := 0 }, { name := "UNASSIGNED_STACK", type := (.array (.object "java/lang/StackTraceElement")), accessFlags := 26, slot := 1, constantValue := 0 }, { name := "cause", type := (.object "java/lang/Throwable"), accessFlags := 2, slot := 2, constantValue := 0 }, { name := "stackTrace", type := (.array (.object "java/lang/StackTraceElement")), accessFlags := 2, slot := 3, constantValue := 0 }, { name := "depth", type := .int, accessFlags := 130, slot := 4, constantValue := 0 }, { name := "SUPPRESSED_SENTINEL", type := (.object "java/util/List"), accessFlags := 26, slot := 2, constantValue := 0 }, { name := "suppressedExceptions", type := (.object "java/util/List"), accessFlags := 2, slot := 5, constantValue := 0 }, { name := "NULL_CAUSE_MESSAGE", type := (.object "java/lang/String"), accessFlags := 26, slot := 3, constantValue := 0 }, { name := "SELF_SUPPRESSION_MESSAGE", type := (.object "java/lang/String"), accessFlags := 26, slot := 4, constantValue := 0 }, { name := "CAUSE_CAPTION", type := (.object "java/lang/String"), accessFlags := 26, slot := 5, constantValue := 0 }, { name := "SUPPRESSED_CAPTION", type := (.object "java/lang/String"), accessFlags := 26, slot := 6, constantValue := 0 }, { name := "EMPTY_THROWABLE_ARRAY", type := (.array (.object "java/lang/Throwable")), accessFlags := 26, slot := 7, constantValue := 0 }, { name := "$assertionsDisabled", type := .boolean, accessFlags := 4120, slot := 8, constantValue := 0 }]
  methods := #[k5m0, k5m1, k5m2, k5m3]
  instanceTypes := #[(.object "java/lang/Object"), (.object "java/lang/String"), (.object "java/lang/Throwable"), (.array (.object "java/lang/StackTraceElement")), .int, (.object "java/util/List")]
  staticTypes := #[.long, (.array (.object "java/lang/StackTraceElement")), (.object "java/util/List"), (.object "java/lang/String"), (.object "java/lang/String"), (.object "java/lang/String"), (.object "java/lang/String"), (.array (.object "java/lang/Throwable")), .boolean]
  resolved := Array.replicate 404 none
  statics := some 0 }

def pool6 : Array CpInfo := pool [(2, .class_ 4), (1, u "java/lang/Throwable"), (0, u "<init>"), (0, u "()V"), (0, .methodref 2 8), (0, .nameAndType 5 9), (0, u "(Ljava/lang/String;)V"), (9, .class_ 20), (0, u "java/lang/Exception"), (0, u "serialVersionUID"), (0, u "J")] 17

def k6m0 : Method := { name := "<init>", desc := "()V", sig := { parameters := [], returnType := none }, accessFlags := 1, code := none }
def k6c1 : Code := { maxStack := 2, maxLocals := 2, code := jdk_59_method_2_code, exceptionTable := #[], attributes := #[] }
def k6m1 : Method := { name := "<init>", desc := "(Ljava/lang/String;)V", sig := { parameters := [(.object "java/lang/String")], returnType := none }, accessFlags := 1, code := some k6c1 }
/-- java/lang/Exception -/
def k6 : Class := { plain "java/lang/Exception" (some 5) with
  accessFlags := 33
  interfaces := #[]
  cf := some (fileOf pool6 19 #[] #[{ accessFlags := 1, nameIndex := 5, descriptorIndex := 6, attributes := #[] }, { accessFlags := 1, nameIndex := 5, descriptorIndex := 9, attributes := #[] }] 33 2 #[] #[{ accessFlags := 24, nameIndex := 21, descriptorIndex := 22, attributes := #[] }])
  fields := #[{ name := "serialVersionUID", type := .long, accessFlags := 24, slot := 0, constantValue := 0 }]
  methods := #[k6m0, k6m1]
  instanceTypes := #[(.object "java/lang/Object"), (.object "java/lang/String"), (.object "java/lang/Throwable"), (.array (.object "java/lang/StackTraceElement")), .int, (.object "java/util/List")]
  staticTypes := #[.long]
  resolved := Array.replicate 40 none
  statics := none }

def pool7 : Array CpInfo := pool [(2, .class_ 4), (1, u "java/lang/Exception"), (0, u "<init>"), (0, u "()V"), (0, .methodref 2 8), (0, .nameAndType 5 9), (0, u "(Ljava/lang/String;)V"), (9, .class_ 20), (0, u "java/lang/RuntimeException"), (0, u "serialVersionUID"), (0, u "J")] 17

def k7m0 : Method := { name := "<init>", desc := "()V", sig := { parameters := [], returnType := none }, accessFlags := 1, code := none }
def k7c1 : Code := { maxStack := 2, maxLocals := 2, code := jdk_58_method_2_code, exceptionTable := #[], attributes := #[] }
def k7m1 : Method := { name := "<init>", desc := "(Ljava/lang/String;)V", sig := { parameters := [(.object "java/lang/String")], returnType := none }, accessFlags := 1, code := some k7c1 }
/-- java/lang/RuntimeException -/
def k7 : Class := { plain "java/lang/RuntimeException" (some 6) with
  accessFlags := 33
  interfaces := #[]
  cf := some (fileOf pool7 19 #[] #[{ accessFlags := 1, nameIndex := 5, descriptorIndex := 6, attributes := #[] }, { accessFlags := 1, nameIndex := 5, descriptorIndex := 9, attributes := #[] }] 33 2 #[] #[{ accessFlags := 24, nameIndex := 21, descriptorIndex := 22, attributes := #[] }])
  fields := #[{ name := "serialVersionUID", type := .long, accessFlags := 24, slot := 0, constantValue := 0 }]
  methods := #[k7m0, k7m1]
  instanceTypes := #[(.object "java/lang/Object"), (.object "java/lang/String"), (.object "java/lang/Throwable"), (.array (.object "java/lang/StackTraceElement")), .int, (.object "java/util/List")]
  staticTypes := #[.long]
  resolved := Array.replicate 40 none
  statics := none }

def pool8 : Array CpInfo := pool [(2, .class_ 4), (1, u "java/lang/RuntimeException"), (0, u "<init>"), (0, u "()V"), (0, .methodref 2 8), (0, .nameAndType 5 9), (0, u "(Ljava/lang/String;)V"), (0, .class_ 11), (0, u "java/lang/ArithmeticException"), (0, u "serialVersionUID"), (0, u "J")] 12

def k8m0 : Method := { name := "<init>", desc := "()V", sig := { parameters := [], returnType := none }, accessFlags := 1, code := none }
def k8c1 : Code := { maxStack := 2, maxLocals := 2, code := jdk_84_method_2_code, exceptionTable := #[], attributes := #[] }
def k8m1 : Method := { name := "<init>", desc := "(Ljava/lang/String;)V", sig := { parameters := [(.object "java/lang/String")], returnType := none }, accessFlags := 1, code := some k8c1 }
/-- java/lang/ArithmeticException -/
def k8 : Class := { plain "java/lang/ArithmeticException" (some 7) with
  accessFlags := 33
  interfaces := #[]
  cf := some (fileOf pool8 10 #[] #[{ accessFlags := 1, nameIndex := 5, descriptorIndex := 6, attributes := #[] }, { accessFlags := 1, nameIndex := 5, descriptorIndex := 9, attributes := #[] }] 33 2 #[] #[{ accessFlags := 26, nameIndex := 12, descriptorIndex := 13, attributes := #[] }])
  fields := #[{ name := "serialVersionUID", type := .long, accessFlags := 26, slot := 0, constantValue := 0 }]
  methods := #[k8m0, k8m1]
  instanceTypes := #[(.object "java/lang/Object"), (.object "java/lang/String"), (.object "java/lang/Throwable"), (.array (.object "java/lang/StackTraceElement")), .int, (.object "java/util/List")]
  staticTypes := #[.long]
  resolved := Array.replicate 26 none
  statics := none }

def pool9 : Array CpInfo := pool [(1, .class_ 2), (0, u "java/lang/Comparable"), (0, .class_ 4), (0, u "java/lang/Object")] 7

/-- java/lang/Comparable -/
def k9 : Class := { plain "java/lang/Comparable" (some 0) with
  accessFlags := 1537
  interfaces := #[]
  cf := some (fileOf pool9 1 #[] #[] 1537 3 #[] #[])
  fields := #[]
  methods := #[]
  instanceTypes := #[]
  staticTypes := #[]
  resolved := Array.replicate 12 none
  statics := none }

def pool10 : Array CpInfo := pool [(2, .class_ 4), (1, u "java/lang/CharSequence"), (42, .class_ 48), (0, u "java/lang/CharSequence$1CodePointIterator"), (10, .class_ 60), (0, u "java/lang/CharSequence$1CharIterator"), (5, .class_ 67), (0, u "java/lang/Object")] 63

/-- java/lang/CharSequence -/
def k10 : Class := { plain "java/lang/CharSequence" (some 0) with
  accessFlags := 1537
  interfaces := #[]
  cf := some (fileOf pool10 2 #[.nestMembers #[47, 59]] #[] 1537 66 #[] #[])
  fields := #[]
  methods := #[]
  instanceTypes := #[]
  staticTypes := #[]
  resolved := Array.replicate 131 none
  statics := none }

def pool11 : Array CpInfo := pool [(1, .class_ 2), (0, u "java/lang/constant/Constable"), (0, .class_ 4), (0, u "java/lang/Object")] 6

/-- java/lang/constant/Constable -/
def k11 : Class := { plain "java/lang/constant/Constable" (some 0) with
  accessFlags := 1537
  interfaces := #[]
  cf := some (fileOf pool11 1 #[] #[] 1537 3 #[] #[])
  fields := #[]
  methods := #[]
  instanceTypes := #[]
  staticTypes := #[]
  resolved := Array.replicate 11 none
  statics := none }

def pool12 : Array CpInfo := pool [(1, .class_ 2), (0, u "java/lang/constant/ConstantDesc"), (0, .class_ 4), (0, u "java/lang/Object")] 32

/-- java/lang/constant/ConstantDesc -/
def k12 : Class := { plain "java/lang/constant/ConstantDesc" (some 0) with
  accessFlags := 1537
  interfaces := #[]
  cf := some (fileOf pool12 1 #[] #[] 1537 3 #[] #[])
  fields := #[]
  methods := #[]
  instanceTypes := #[]
  staticTypes := #[]
  resolved := Array.replicate 37 none
  statics := none }

def pool13 : Array CpInfo := pool [(2, .class_ 4), (1, u "java/lang/Object"), (0, u "<init>"), (0, u "()V"), (3, .class_ 12), (1, u "java/lang/String"), (0, u "value"), (0, u "[B"), (2, u "coder"), (0, u "B"), (2, u "hash"), (0, u "I"), (2, u "hashIsZero"), (0, u "Z"), (13, u "COMPACT_STRINGS"), (534, .class_ 576), (0, u "java/lang/CharSequence"), (22, u "CASE_INSENSITIVE_ORDER"), (0, u "Ljava/util/Comparator;"), (500, u "serialPersistentFields"), (0, u "[Ljava/io/ObjectStreamField;"), (0, .class_ 1104), (0, u "java/lang/String$CaseInsensitiveComparator"), (1, .class_ 1107), (0, u "java/io/Serializable"), (0, .class_ 1109), (0, u "java/lang/Comparable"), (0, .class_ 1111), (0, u "java/lang/constant/Constable"), (0, .class_ 1113), (0, u "java/lang/constant/ConstantDesc"), (2, u "serialVersionUID"), (0, u "J"), (3, u "REPL"), (0, u "C"), (2, u "LATIN1"), (1, u "UTF16")] 323

def k13m0 : Method := { name := "<init>", desc := "()V", sig := { parameters := [], returnType := none }, accessFlags := 1, code := none }
/-- java/lang/String -/
def k13 : Class := { plain "java/lang/String" (some 0) with
  accessFlags := 49
  interfaces := #[4, 9, 10, 11, 12]
  cf := some (fileOf pool13 10 #[.nestMembers #[1103]] #[{ accessFlags := 1, nameIndex := 5, descriptorIndex := 6, attributes := #[] }] 49 2 #[1106, 1108, 575, 1110, 1112] #[{ accessFlags := 18, nameIndex := 13, descriptorIndex := 14, attributes := #[] }, { accessFlags := 18, nameIndex := 17, descriptorIndex := 18, attributes := #[] }, { accessFlags := 2, nameIndex := 21, descriptorIndex := 22, attributes := #[] }, { accessFlags := 2, nameIndex := 25, descriptorIndex := 26, attributes := #[] }, { accessFlags := 26, nameIndex := 1116, descriptorIndex := 1117, attributes := #[] }, { accessFlags := 24, nameIndex := 40, descriptorIndex := 26, attributes := #[] }, { accessFlags := 26, nameIndex := 1101, descriptorIndex := 1102, attributes := #[] }, { accessFlags := 26, nameIndex := 1121, descriptorIndex := 1122, attributes := #[] }, { accessFlags := 25, nameIndex := 599, descriptorIndex := 600, attributes := #[] }, { accessFlags := 24, nameIndex := 1125, descriptorIndex := 18, attributes := #[] }, { accessFlags := 24, nameIndex := 1127, descriptorIndex := 18, attributes := #[] }])
  fields := #[{ name := "value", type := (.array .byte), accessFlags := 18, slot := 0, constantValue := 0 }, { name := "coder", type := .byte, accessFlags := 18, slot := 1, constantValue := 0 }, { name := "hash", type := .int, accessFlags := 2, slot := 2, constantValue := 0 }, { name := "hashIsZero", type := .boolean, accessFlags := 2, slot := 3, constantValue := 0 }, { name := "serialVersionUID", type := .long, accessFlags := 26, slot := 0, constantValue := 0 }, { name := "COMPACT_STRINGS", type := .boolean, accessFlags := 24, slot := 1, constantValue := 0 }, { name := "serialPersistentFields", type := (.array (.object "java/io/ObjectStreamField")), accessFlags := 26, slot := 2, constantValue := 0 }, { name := "REPL", type := .char, accessFlags := 26, slot := 3, constantValue := 0 }, { name := "CASE_INSENSITIVE_ORDER", type := (.object "java/util/Comparator"), accessFlags := 25, slot := 4, constantValue := 0 }, { name := "LATIN1", type := .byte, accessFlags := 24, slot := 5, constantValue := 0 }, { name := "UTF16", type := .byte, accessFlags := 24, slot := 6, constantValue := 0 }]
  methods := #[k13m0]
  instanceTypes := #[(.array .byte), .byte, .int, .boolean]
  staticTypes := #[.long, .boolean, (.array (.object "java/io/ObjectStreamField")), .char, (.object "java/util/Comparator"), .byte, .byte]
  resolved := Array.replicate 1451 none
  statics := none }

def pool14 : Array CpInfo := pool [(2, .class_ 4), (1, u "java/lang/Object"), (0, u "<init>"), (0, u "()V"), (12, .class_ 20), (0, u "java/util/Collections"), (63, u "r"), (0, u "Ljava/util/Random;"), (80, .class_ 167), (0, u "java/util/Collections$UnmodifiableCollection"), (6, .class_ 175), (0, u "java/util/Collections$UnmodifiableSequencedCollection"), (6, .class_ 183), (0, u "java/util/Collections$UnmodifiableSet"), (6, .class_ 191), (0, u "java/util/Collections$UnmodifiableSequencedSet"), (6, .class_ 199), (0, u "java/util/Collections$UnmodifiableSortedSet"), (6, .class_ 207), (0, u "java/util/Collections$UnmodifiableNavigableSet"), (4, .class_ 213), (0, u "java/util/Collections$UnmodifiableList"), (1, .class_ 216), (0, u "java/util/Collections$UnmodifiableRandomAccessList"), (6, .class_ 224), (0, u "java/util/Collections$UnmodifiableMap"), (6, .class_ 232), (0, u "java/util/Collections$UnmodifiableSequencedMap"), (4, .class_ 238), (0, u "java/util/Collections$UnmodifiableSortedMap"), (6, .class_ 246), (0, u "java/util/Collections$UnmodifiableNavigableMap"), (3, .class_ 251), (0, u "java/util/Collections$SynchronizedCollection"), (4, .class_ 257), (0, u "java/util/Collections$SynchronizedSet"), (4, .class_ 263), (0, u "java/util/Collections$SynchronizedSortedSet"), (1, .class_ 266), (0, u "java/util/Collections$SynchronizedNavigableSet"), (1, .class_ 269), (0, u "java/util/Collections$SynchronizedRandomAccessList"), (1, .class_ 272), (0, u "java/util/Collections$SynchronizedList"), (5, .class_ 279), (0, u "java/util/Collections$SynchronizedMap"), (1, .class_ 282), (0, u "java/util/Collections$SynchronizedSortedMap"), (1, .class_ 285), (0, u "java/util/Collections$SynchronizedNavigableMap"), (1, .class_ 288), (0, u "java/util/Collections$CheckedCollection"), (11, .class_ 301), (0, u "java/util/Collections$CheckedQueue"), (3, .class_ 306), (0, u "java/util/Collections$CheckedSet"), (3, .class_ 311), (0, u "java/util/Collections$CheckedSortedSet"), (3, .class_ 316), (0, u "java/util/Collections$CheckedNavigableSet"), (3, .class_ 321), (0, u "java/util/Collections$CheckedRandomAccessList"), (3, .class_ 326), (0, u "java/util/Collections$CheckedList"), (1, .class_ 329), (0, u "java/util/Collections$CheckedMap"), (3, .class_ 334), (0, u "java/util/Collections$CheckedSortedMap"), (3, .class_ 339), (0, u "java/util/Collections$CheckedNavigableMap"), (4, .class_ 346), (1, u "java/util/Collections$EmptyIterator"), (3, .class_ 352), (1, u "java/util/Collections$EmptyListIterator"), (2, .class_ 357), (1, u "java/util/Collections$EmptyEnumeration"), (4, u "EMPTY_SET"), (0, u "Ljava/util/Set;"), (6, u "EMPTY_LIST"), (0, u "Ljava/util/List;"), (2, u "EMPTY_MAP"), (0, u "Ljava/util/Map;"), (4, .class_ 381), (0, u "java/util/Collections$SingletonSet"), (2, .class_ 385), (0, u "java/util/Collections$1"), (1, .class_ 388), (0, u "java/util/Collections$2"), (1, .class_ 391), (0, u "java/util/Collections$SingletonList"), (1, .class_ 394), (0, u "java/util/Collections$SingletonMap"), (22, .class_ 418), (0, u "java/util/Collections$CopiesList"), (4, .class_ 425), (1, u "java/util/Collections$ReverseComparator"), (8, .class_ 435), (0, u "java/util/Collections$ReverseComparator2"), (6, .class_ 443), (0, u "java/util/Collections$3"), (25, .class_ 470), (0, u "java/util/Collections$SetFromMap"), (2, .class_ 474), (0, u "java/util/Collections$SequencedSetFromMap"), (3, .class_ 479), (0, u "java/util/Collections$AsLIFOQueue"), (11, .class_ 492), (0, u "java/util/Collections$EmptySet"), (1, .class_ 495), (0, u "java/util/Collections$EmptyList"), (1, .class_ 498), (0, u "java/util/Collections$EmptyMap"), (1, u "BINARYSEARCH_THRESHOLD"), (0, u "I"), (2, u "REVERSE_THRESHOLD"), (1, u "SHUFFLE_THRESHOLD"), (1, u "FILL_THRESHOLD"), (1, u "ROTATE_THRESHOLD"), (1, u "COPY_THRESHOLD"), (1, u "REPLACEALL_THRESHOLD"), (1, u "INDEXOFSUBLIST_THRESHOLD"), (333, .class_ 851), (0, u "java/util/Collections$CheckedMap$CheckedEntrySet"), (0, .class_ 853), (0, u "java/util/Collections$CheckedMap$CheckedEntrySet$CheckedEntry"), (0, .class_ 855), (0, u "java/util/Collections$CheckedMap$CheckedEntrySet$1"), (0, .class_ 857), (0, u "java/util/Collections$CheckedList$1"), (0, .class_ 859), (0, u "java/util/Collections$CheckedCollection$1"), (0, .class_ 861), (0, u "java/util/Collections$UnmodifiableNavigableMap$EmptyNavigableMap"), (0, .class_ 863), (0, u "java/util/Collections$UnmodifiableMap$UnmodifiableEntrySet"), (0, .class_ 865), (0, u "java/util/Collections$UnmodifiableMap$UnmodifiableEntrySet$UnmodifiableEntry"), (0, .class_ 867), (0, u "java/util/Collections$UnmodifiableMap$UnmodifiableEntrySet$UnmodifiableEntrySetSpliterator"), (0, .class_ 869), (0, u "java/util/Collections$UnmodifiableMap$UnmodifiableEntrySet$1"), (0, .class_ 871), (0, u "java/util/Collections$UnmodifiableList$1"), (0, .class_ 873), (0, u "java/util/Collections$UnmodifiableNavigableSet$EmptyNavigableSet"), (0, .class_ 875), (0, u "java/util/Collections$UnmodifiableCollection$1")] 57

def k14m0 : Method := { name := "<init>", desc := "()V", sig := { parameters := [], returnType := none }, accessFlags := 2, code := none }
/-- java/util/Collections -/
def k14 : Class := { plain "java/util/Collections" (some 0) with
  accessFlags := 33
  interfaces := #[]
  cf := some (fileOf pool14 19 #[.nestMembers #[478, 473, 469, 434, 423, 417, 393, 390, 380, 497, 494, 491, 355, 350, 344, 338, 333, 328, 850, 852, 854, 320, 325, 856, 315, 310, 305, 300, 287, 858, 284, 281, 278, 268, 271, 265, 262, 256, 250, 245, 860, 237, 231, 223, 862, 864, 866, 868, 215, 212, 870, 206, 872, 198, 190, 182, 174, 166, 874, 442, 387, 384]] #[{ accessFlags := 2, nameIndex := 5, descriptorIndex := 6, attributes := #[] }] 33 2 #[] #[{ accessFlags := 26, nameIndex := 500, descriptorIndex := 501, attributes := #[] }, { accessFlags := 26, nameIndex := 504, descriptorIndex := 501, attributes := #[] }, { accessFlags := 26, nameIndex := 506, descriptorIndex := 501, attributes := #[] }, { accessFlags := 26, nameIndex := 508, descriptorIndex := 501, attributes := #[] }, { accessFlags := 26, nameIndex := 510, descriptorIndex := 501, attributes := #[] }, { accessFlags := 26, nameIndex := 512, descriptorIndex := 501, attributes := #[] }, { accessFlags := 26, nameIndex := 514, descriptorIndex := 501, attributes := #[] }, { accessFlags := 26, nameIndex := 516, descriptorIndex := 501, attributes := #[] }, { accessFlags := 10, nameIndex := 84, descriptorIndex := 85, attributes := #[] }, { accessFlags := 25, nameIndex := 362, descriptorIndex := 363, attributes := #[] }, { accessFlags := 25, nameIndex := 370, descriptorIndex := 371, attributes := #[] }, { accessFlags := 25, nameIndex := 374, descriptorIndex := 375, attributes := #[] }])
  fields := #[{ name := "BINARYSEARCH_THRESHOLD", type := .int, accessFlags := 26, slot := 0, constantValue := 0 }, { name := "REVERSE_THRESHOLD", type := .int, accessFlags := 26, slot := 1, constantValue := 0 }, { name := "SHUFFLE_THRESHOLD", type := .int, accessFlags := 26, slot := 2, constantValue := 0 }, { name := "FILL_THRESHOLD", type := .int, accessFlags := 26, slot := 3, constantValue := 0 }, { name := "ROTATE_THRESHOLD", type := .int, accessFlags := 26, slot := 4, constantValue := 0 }, { name := "COPY_THRESHOLD", type := .int, accessFlags := 26, slot := 5, constantValue := 0 }, { name := "REPLACEALL_THRESHOLD", type := .int, accessFlags := 26, slot := 6, constantValue := 0 }, { name := "INDEXOFSUBLIST_THRESHOLD", type := .int, accessFlags := 26, slot := 7, constantValue := 0 }, { name := "r", type := (.object "java/util/Random"), accessFlags := 10, slot := 8, constantValue := 0 }, { name := "EMPTY_SET", type := (.object "java/util/Set"), accessFlags := 25, slot := 9, constantValue := 0 }, { name := "EMPTY_LIST", type := (.object "java/util/List"), accessFlags := 25, slot := 10, constantValue := 0 }, { name := "EMPTY_MAP", type := (.object "java/util/Map"), accessFlags := 25, slot := 11, constantValue := 0 }]
  methods := #[k14m0]
  instanceTypes := #[]
  staticTypes := #[.int, .int, .int, .int, .int, .int, .int, .int, (.object "java/util/Random"), (.object "java/util/Set"), (.object "java/util/List"), (.object "java/util/Map")]
  resolved := Array.replicate 933 none
  statics := some 1 }

def pool15 : Array CpInfo := pool [(8, .class_ 10), (1, u "java/lang/Iterable"), (24, .class_ 36), (0, u "java/lang/Object")] 25

/-- java/lang/Iterable -/
def k15 : Class := { plain "java/lang/Iterable" (some 0) with
  accessFlags := 1537
  interfaces := #[]
  cf := some (fileOf pool15 8 #[] #[] 1537 35 #[] #[])
  fields := #[]
  methods := #[]
  instanceTypes := #[]
  staticTypes := #[]
  resolved := Array.replicate 62 none
  statics := none }

def pool16 : Array CpInfo := pool [(10, .class_ 12), (1, u "java/util/Collection"), (47, .class_ 61), (0, u "java/lang/Object"), (0, .class_ 63), (0, u "java/lang/Iterable")] 51

/-- java/util/Collection -/
def k16 : Class := { plain "java/util/Collection" (some 0) with
  accessFlags := 1537
  interfaces := #[15]
  cf := some (fileOf pool16 10 #[] #[] 1537 60 #[62] #[])
  fields := #[]
  methods := #[]
  instanceTypes := #[]
  staticTypes := #[]
  resolved := Array.replicate 115 none
  statics := none }

def pool17 : Array CpInfo := pool [(2, .class_ 4), (1, u "java/lang/Object"), (0, u "<init>"), (0, u "()V"), (1, .class_ 10), (1, u "java/util/AbstractCollection"), (66, .class_ 78), (0, u "java/util/Collection")] 81

def k17m0 : Method := { name := "<init>", desc := "()V", sig := { parameters := [], returnType := none }, accessFlags := 4, code := none }
/-- java/util/AbstractCollection -/
def k17 : Class := { plain "java/util/AbstractCollection" (some 0) with
  accessFlags := 1057
  interfaces := #[16]
  cf := some (fileOf pool17 8 #[] #[{ accessFlags := 4, nameIndex := 5, descriptorIndex := 6, attributes := #[] }] 1057 2 #[77] #[])
  fields := #[]
  methods := #[k17m0]
  instanceTypes := #[]
  staticTypes := #[]
  resolved := Array.replicate 160 none
  statics := none }

def pool18 : Array CpInfo := pool [(8, .class_ 10), (1, u "java/util/SequencedCollection"), (15, .class_ 27), (0, u "java/lang/Object"), (0, .class_ 29), (0, u "java/util/Collection")] 27

/-- java/util/SequencedCollection -/
def k18 : Class := { plain "java/util/SequencedCollection" (some 0) with
  accessFlags := 1537
  interfaces := #[16]
  cf := some (fileOf pool18 8 #[] #[] 1537 26 #[28] #[])
  fields := #[]
  methods := #[]
  instanceTypes := #[]
  staticTypes := #[]
  resolved := Array.replicate 57 none
  statics := none }

def pool19 : Array CpInfo := pool [(8, .class_ 10), (1, u "java/util/List"), (92, .class_ 104), (0, u "java/lang/Object"), (15, .class_ 121), (0, u "java/util/SequencedCollection")] 129

/-- java/util/List -/
def k19 : Class := { plain "java/util/List" (some 0) with
  accessFlags := 1537
  interfaces := #[18]
  cf := some (fileOf pool19 8 #[] #[] 1537 103 #[120] #[])
  fields := #[]
  methods := #[]
  instanceTypes := #[]
  staticTypes := #[]
  resolved := Array.replicate 251 none
  statics := none }

def pool20 : Array CpInfo := pool [(2, .class_ 4), (1, u "java/util/AbstractCollection"), (0, u "<init>"), (0, u "()V"), (1, .class_ 10), (1, u "java/util/AbstractList"), (0, u "modCount"), (0, u "I"), (64, .class_ 78), (0, u "java/util/AbstractList$Itr"), (3, .class_ 83), (0, u "java/util/AbstractList$ListItr"), (9, .class_ 94), (0, u "java/util/AbstractList$RandomAccessSubList"), (3, .class_ 99), (0, u "java/util/AbstractList$SubList"), (33, .class_ 134), (0, u "java/util/List"), (73, .class_ 209), (0, u "java/util/AbstractList$SubList$1"), (0, .class_ 211), (0, u "java/util/AbstractList$RandomAccessSpliterator")] 6

def k20m0 : Method := { name := "<init>", desc := "()V", sig := { parameters := [], returnType := none }, accessFlags := 4, code := none }
/-- java/util/AbstractList -/
def k20 : Class := { plain "java/util/AbstractList" (some 17) with
  accessFlags := 1057
  interfaces := #[19]
  cf := some (fileOf pool20 8 #[.nestMembers #[93, 98, 208, 210, 82, 77]] #[{ accessFlags := 4, nameIndex := 5, descriptorIndex := 6, attributes := #[] }] 1057 2 #[133] #[{ accessFlags := 132, nameIndex := 11, descriptorIndex := 12, attributes := #[] }])
  fields := #[{ name := "modCount", type := .int, accessFlags := 132, slot := 0, constantValue := 0 }]
  methods := #[k20m0]
  instanceTypes := #[.int]
  staticTypes := #[]
  resolved := Array.replicate 218 none
  statics := none }

def pool21 : Array CpInfo := pool [(1, .class_ 2), (0, u "java/util/RandomAccess"), (0, .class_ 4), (0, u "java/lang/Object")] 2

/-- java/util/RandomAccess -/
def k21 : Class := { plain "java/util/RandomAccess" (some 0) with
  accessFlags := 1537
  interfaces := #[]
  cf := some (fileOf pool21 1 #[] #[] 1537 3 #[] #[])
  fields := #[]
  methods := #[]
  instanceTypes := #[]
  staticTypes := #[]
  resolved := Array.replicate 7 none
  statics := none }

def pool22 : Array CpInfo := pool [(2, .class_ 4), (1, u "java/util/AbstractList"), (0, u "<init>"), (0, u "()V"), (1, .class_ 10), (1, u "java/util/Collections"), (54, .class_ 66), (0, u "java/util/Collections$EmptyList"), (0, .class_ 68), (0, u "java/util/RandomAccess"), (0, .class_ 70), (0, u "java/io/Serializable"), (0, u "serialVersionUID"), (0, u "J")] 77

def k22m0 : Method := { name := "<init>", desc := "()V", sig := { parameters := [], returnType := none }, accessFlags := 2, code := none }
/-- java/util/Collections$EmptyList -/
def k22 : Class := { plain "java/util/Collections$EmptyList" (some 20) with
  accessFlags := 32
  interfaces := #[21, 4]
  cf := some (fileOf pool22 65 #[.nestHost 8] #[{ accessFlags := 2, nameIndex := 5, descriptorIndex := 6, attributes := #[] }] 32 2 #[67, 69] #[{ accessFlags := 26, nameIndex := 71, descriptorIndex := 72, attributes := #[] }])
  fields := #[{ name := "serialVersionUID", type := .long, accessFlags := 26, slot := 0, constantValue := 0 }]
  methods := #[k22m0]
  instanceTypes := #[.int]
  staticTypes := #[.long]
  resolved := Array.replicate 150 none
  statics := none }

def pool23 : Array CpInfo := pool [(2, .class_ 4), (1, u "java/lang/StackTraceElement"), (0, u "<init>"), (2, .class_ 10), (1, u "java/lang/Object"), (0, u "()V"), (2, u "format"), (0, u "B"), (2, u "classLoaderName"), (0, u "Ljava/lang/String;"), (2, u "moduleName"), (2, u "moduleVersion"), (12, u "declaringClass"), (4, u "methodName"), (2, u "fileName"), (2, u "lineNumber"), (0, u "I"), (65, u "declaringClassObject"), (0, u "Ljava/lang/Class;"), (33, .class_ 153), (1, u "java/lang/StackTraceElement$HashedModules"), (17, .class_ 172), (0, u "java/io/Serializable"), (0, u "NATIVE_METHOD"), (1, u "UNKNOWN_SOURCE"), (2, u "BUILTIN_CLASS_LOADER"), (1, u "JDK_NON_UPGRADEABLE_MODULE"), (1, u "serialVersionUID"), (0, u "J")] 51

def k23m0 : Method := { name := "<init>", desc := "()V", sig := { parameters := [], returnType := none }, accessFlags := 2, code := none }
/-- java/lang/StackTraceElement -/
def k23 : Class := { plain "java/lang/StackTraceElement" (some 0) with
  accessFlags := 49
  interfaces := #[4]
  cf := some (fileOf pool23 2 #[.nestMembers #[151]] #[{ accessFlags := 2, nameIndex := 5, descriptorIndex := 11, attributes := #[] }] 49 8 #[171] #[{ accessFlags := 26, nameIndex := 173, descriptorIndex := 19, attributes := #[] }, { accessFlags := 26, nameIndex := 175, descriptorIndex := 19, attributes := #[] }, { accessFlags := 130, nameIndex := 116, descriptorIndex := 117, attributes := #[] }, { accessFlags := 2, nameIndex := 18, descriptorIndex := 19, attributes := #[] }, { accessFlags := 2, nameIndex := 22, descriptorIndex := 19, attributes := #[] }, { accessFlags := 2, nameIndex := 25, descriptorIndex := 19, attributes := #[] }, { accessFlags := 2, nameIndex := 38, descriptorIndex := 19, attributes := #[] }, { accessFlags := 2, nameIndex := 43, descriptorIndex := 19, attributes := #[] }, { accessFlags := 2, nameIndex := 46, descriptorIndex := 19, attributes := #[] }, { accessFlags := 2, nameIndex := 49, descriptorIndex := 50, attributes := #[] }, { accessFlags := 2, nameIndex := 14, descriptorIndex := 15, attributes := #[] }, { accessFlags := 26, nameIndex := 178, descriptorIndex := 15, attributes := #[] }, { accessFlags := 26, nameIndex := 180, descriptorIndex := 15, attributes := #[] }, { accessFlags := 26, nameIndex := 182, descriptorIndex := 183, attributes := #[] }])
  fields := #[{ name := "NATIVE_METHOD", type := (.object "java/lang/String"), accessFlags := 26, slot := 0, constantValue := 0 }, { name := "UNKNOWN_SOURCE", type := (.object "java/lang/String"), accessFlags := 26, slot := 1, constantValue := 0 }, { name := "declaringClassObject", type := (.object "java/lang/Class"), accessFlags := 130, slot := 0, constantValue := 0 }, { name := "classLoaderName", type := (.object "java/lang/String"), accessFlags := 2, slot := 1, constantValue := 0 }, { name := "moduleName", type := (.object "java/lang/String"), accessFlags := 2, slot := 2, constantValue := 0 }, { name := "moduleVersion", type := (.object "java/lang/String"), accessFlags := 2, slot := 3, constantValue := 0 }, { name := "declaringClass", type := (.object "java/lang/String"), accessFlags := 2, slot := 4, constantValue := 0 }, { name := "methodName", type := (.object "java/lang/String"), accessFlags := 2, slot := 5, constantValue := 0 }, { name := "fileName", type := (.object "java/lang/String"), accessFlags := 2, slot := 6, constantValue := 0 }, { name := "lineNumber", type := .int, accessFlags := 2, slot := 7, constantValue := 0 }, { name := "format", type := .byte, accessFlags := 2, slot := 8, constantValue := 0 }, { name := "BUILTIN_CLASS_LOADER", type := .byte, accessFlags := 26, slot := 2, constantValue := 0 }, { name := "JDK_NON_UPGRADEABLE_MODULE", type := .byte, accessFlags := 26, slot := 3, constantValue := 0 }, { name := "serialVersionUID", type := .long, accessFlags := 26, slot := 4, constantValue := 0 }]
  methods := #[k23m0]
  instanceTypes := #[(.object "java/lang/Class"), (.object "java/lang/String"), (.object "java/lang/String"), (.object "java/lang/String"), (.object "java/lang/String"), (.object "java/lang/String"), (.object "java/lang/String"), .int, .byte]
  staticTypes := #[(.object "java/lang/String"), (.object "java/lang/String"), .byte, .byte, .long]
  resolved := Array.replicate 235 none
  statics := none }

def pool24 : Array CpInfo := pool [(1, u "java/lang/Cloneable"), (0, .class_ 1), (0, u "java/lang/Object"), (0, .class_ 3)] 3

/-- java/lang/Cloneable -/
def k24 : Class := { plain "java/lang/Cloneable" (some 0) with
  accessFlags := 1537
  interfaces := #[]
  cf := some (fileOf pool24 2 #[] #[] 1537 4 #[] #[])
  fields := #[]
  methods := #[]
  instanceTypes := #[]
  staticTypes := #[]
  resolved := Array.replicate 8 none
  statics := none }

/-- the primitive byte -/
def k25 : Class := { plain "byte" none with kind := .primitive 'B', accessFlags := 0x411 }
/-- [B -/
def k26 : Class := { plain "[B" (some 0) with kind := .array 25 .byte, interfaces := #[24, 4], accessFlags := 1041 }

/-- the primitive int -/
def k27 : Class := { plain "int" none with kind := .primitive 'I', accessFlags := 0x411 }
/-- [I -/
def k28 : Class := { plain "[I" (some 0) with kind := .array 27 .int, interfaces := #[24, 4], accessFlags := 1041 }

/-- [Ljava/lang/Object; -/
def k29 : Class := { plain "[Ljava/lang/Object;" (some 0) with kind := .array 0 (.object "java/lang/Object"), interfaces := #[24, 4], accessFlags := 1041 }

/-- [Ljava/lang/StackTraceElement; -/
def k30 : Class := { plain "[Ljava/lang/StackTraceElement;" (some 0) with kind := .array 23 (.object "java/lang/StackTraceElement"), interfaces := #[24, 4], accessFlags := 1041 }

/-- [Ljava/lang/Throwable; -/
def k31 : Class := { plain "[Ljava/lang/Throwable;" (some 0) with kind := .array 5 (.object "java/lang/Throwable"), interfaces := #[24, 4], accessFlags := 1041 }

def heap : Heap := #[{ cls := 5, slots := #[.long 0, .ref 2, .ref 3, .null, .null, .null, .null, .ref 4, .int 1], vm := .statics 5 },
  { cls := 14, slots := #[.int 0, .int 0, .int 0, .int 0, .int 0, .int 0, .int 0, .int 0, .null, .null, .ref 3, .null], vm := .statics 14 },
  { cls := 30, slots := #[], vm := .none },
  { cls := 22, slots := #[.int 0], vm := .none },
  { cls := 31, slots := #[], vm := .none }]
def classes : Array Class := #[k0, k1, k2, k3, k4, k5, k6, k7, k8, k9, k10, k11, k12, k13, k14, k15, k16, k17, k18, k19, k20, k21, k22, k23, k24, k25, k26, k27, k28, k29, k30, k31]
def interned : List (Array UInt16 × Addr) := []
def slotsUsed : Nat := 22
def theMethod : MethodId := ⟨1, 2⟩
def args0 : Array Value := #[.long 5, .long 6, .int 0]
def aboutOver (below : List Frame) : State where
  vm := { classes := classes, interned := interned.toArray }
  heap := heap
  slotsUsed := slotsUsed
  threads := #[{ frames := .invoking theMethod args0 :: below }]
def below0 : List Frame := [.native { method := ⟨0, 0⟩, args := #[] }]
def about1 : State := aboutOver below0
def p0 : Program := .bare "" "" ""
def e0 : Env := launch0.env 0 0 0
theorem w_frames : about1.frames = Frame.invoking theMethod args0 :: below0 := rfl
set_option maxRecDepth 65536 in
theorem w_args : argsFit about1.vm theMethod args0 = true := by decide +kernel
set_option maxRecDepth 65536 in
theorem w_heap : heapFits about1 = true := by decide +kernel
set_option maxRecDepth 65536 in
theorem w_runnable : about1.curStatus? = some .runnable := by decide +kernel
set_option maxRecDepth 65536 in
theorem w_alone : about1.alone = true := by decide +kernel
set_option maxRecDepth 65536 in
theorem w_named : about1.methodNamed? x = some theMethod := by decide +kernel
set_option maxRecDepth 65536 in
theorem w_hears : about1.hears theMethod below0 = true := by decide +kernel
set_option maxRecDepth 65536 in
theorem w_ripe : about1.ripe theMethod args0 below0 = true := by decide +kernel
theorem w_running : about1.status = .running := rfl
set_option maxRecDepth 65536 in
theorem w_room : about1.hasRoom e0.platform room_1 = true :=
  launch0.hasRoom_least _ room_1 (by decide +kernel) (by decide +kernel) (by decide +kernel) (by decide +kernel) (by decide +kernel) (by decide +kernel)
theorem allAtoms_all (ts : List Jvm.Cond) (a : Array Jvm.Value) (st : Jvm.State) : (allAtoms ts).before a st = ts.all (fun c => c.before a st) := by
  induction ts with
  | nil => rfl
  | cons c t ih =>
    show (Jvm.Cond.and c (allAtoms t)).before a st = _
    rw [Jvm.Cond.before_and, ih, List.all_cons]
def words1 : List Jvm.Cond := Jvm.Cond.code x code maxLocals ret :: tables_1
/-- a 'code' word, met by the world's own term for the bytes: nothing is compared byte by byte -/
theorem code_word {y : MethodName} {bytes : ByteArray} {mx : Nat} {rt : Option FieldType} {a : Array Value} {s : State} {m : MethodId} {meth : Method} {c : Code} (h1 : s.methodNamed? y = some m) (h2 : s.vm.method? m = some meth) (h3 : meth.code = some c) (h4 : c.code = bytes)
    (h5 : (c.maxLocals == mx && c.exceptionTable.isEmpty && decide (c.maxStack ≤ mostOperands) && decide (meth.sig.returnType = rt) && !meth.locks && decide (parseMethodDescriptor y.desc = some meth.sig)) = true) : (Jvm.Cond.code y bytes mx rt).before a s = true := by
  simp only [Bool.and_eq_true, beq_iff_eq, Bool.not_eq_true', decide_eq_true_eq] at h5
  obtain ⟨⟨⟨⟨⟨g1, g2⟩, g3⟩, g4⟩, g5⟩, g6⟩ := h5
  simp [Cond.before, Cond.holds, Cond.value, h1, h2, h3, h4, g1, g2, g3, g4, g5, g6]
def isCode : Jvm.Cond → Bool
  | .code _ _ _ _ => true
  | _ => false
theorem all_split {L : List Jvm.Cond} {P : Jvm.Cond → Bool} (h1 : L.all (fun c => isCode c || P c) = true) (h2 : ∀ c ∈ L.filter isCode, P c = true) : L.all P = true := by
  refine List.all_eq_true.mpr fun c hc => ?_
  have h := List.all_eq_true.mp h1 c hc
  rcases Bool.eq_false_or_eq_true (isCode c) with hi | hi
  · exact h2 c (List.mem_filter.mpr ⟨hc, hi⟩)
  · simpa [hi] using h
set_option maxRecDepth 65536 in
theorem w_c0 : (Jvm.Cond.code x code maxLocals ret).before args0 about1 = true := code_word (m := ⟨1, 2⟩) (meth := k1m2) (c := k1c2) (by decide +kernel) rfl rfl rfl (by decide +kernel)
set_option maxRecDepth 65536 in
theorem w_c1 : (Jvm.Cond.code ({ cls := "com/example/zhangtiao/zhangtiao/input/ExactSumSumPinLaw", name := "pick", desc := "(JI)J" } : Jvm.MethodName) method_2_code (5 : Nat) (Option.some Jvm.ClassFile.FieldType.long)).before args0 about1 = true := code_word (m := ⟨1, 1⟩) (meth := k1m1) (c := k1c1) (by decide +kernel) rfl rfl rfl (by decide +kernel)
set_option maxRecDepth 65536 in
theorem w_c2 : (Jvm.Cond.code ({ cls := "java/lang/Math", name := "addExact", desc := "(JJ)J" } : Jvm.MethodName) jdk_29_method_25_code (6 : Nat) (Option.some Jvm.ClassFile.FieldType.long)).before args0 about1 = true := code_word (m := ⟨3, 1⟩) (meth := k3m1) (c := k3c1) (by decide +kernel) rfl rfl rfl (by decide +kernel)
set_option maxRecDepth 65536 in
theorem w_c3 : (Jvm.Cond.code ({ cls := "java/lang/ArithmeticException", name := "<init>", desc := "(Ljava/lang/String;)V" } : Jvm.MethodName) jdk_84_method_2_code (2 : Nat) (Option.none : Option Jvm.ClassFile.FieldType)).before args0 about1 = true := code_word (m := ⟨8, 1⟩) (meth := k8m1) (c := k8c1) (by decide +kernel) rfl rfl rfl (by decide +kernel)
set_option maxRecDepth 65536 in
theorem w_c4 : (Jvm.Cond.code ({ cls := "java/lang/RuntimeException", name := "<init>", desc := "(Ljava/lang/String;)V" } : Jvm.MethodName) jdk_58_method_2_code (2 : Nat) (Option.none : Option Jvm.ClassFile.FieldType)).before args0 about1 = true := code_word (m := ⟨7, 1⟩) (meth := k7m1) (c := k7c1) (by decide +kernel) rfl rfl rfl (by decide +kernel)
set_option maxRecDepth 65536 in
theorem w_c5 : (Jvm.Cond.code ({ cls := "java/lang/Exception", name := "<init>", desc := "(Ljava/lang/String;)V" } : Jvm.MethodName) jdk_59_method_2_code (2 : Nat) (Option.none : Option Jvm.ClassFile.FieldType)).before args0 about1 = true := code_word (m := ⟨6, 1⟩) (meth := k6m1) (c := k6c1) (by decide +kernel) rfl rfl rfl (by decide +kernel)
set_option maxRecDepth 65536 in
theorem w_c6 : (Jvm.Cond.code ({ cls := "java/lang/Throwable", name := "<init>", desc := "(Ljava/lang/String;)V" } : Jvm.MethodName) jdk_78_method_2_code (2 : Nat) (Option.none : Option Jvm.ClassFile.FieldType)).before args0 about1 = true := code_word (m := ⟨5, 1⟩) (meth := k5m1) (c := k5c1) (by decide +kernel) rfl rfl rfl (by decide +kernel)
set_option maxRecDepth 65536 in
theorem w_c7 : (Jvm.Cond.code ({ cls := "java/lang/Object", name := "<init>", desc := "()V" } : Jvm.MethodName) object_method_1_code (1 : Nat) (Option.none : Option Jvm.ClassFile.FieldType)).before args0 about1 = true := code_word (m := ⟨0, 0⟩) (meth := k0m0) (c := k0c0) (by decide +kernel) rfl rfl rfl (by decide +kernel)
set_option maxRecDepth 65536 in
theorem w_c8 : (Jvm.Cond.code ({ cls := "java/lang/Throwable", name := "<init>", desc := "()V" } : Jvm.MethodName) jdk_78_method_1_code (1 : Nat) (Option.none : Option Jvm.ClassFile.FieldType)).before args0 about1 = true := code_word (m := ⟨5, 0⟩) (meth := k5m0) (c := k5c0) (by decide +kernel) rfl rfl rfl (by decide +kernel)
def codes1 : List Jvm.Cond := [Jvm.Cond.code x code maxLocals ret, Jvm.Cond.code ({ cls := "com/example/zhangtiao/zhangtiao/input/ExactSumSumPinLaw", name := "pick", desc := "(JI)J" } : Jvm.MethodName) method_2_code (5 : Nat) (Option.some Jvm.ClassFile.FieldType.long), Jvm.Cond.code ({ cls := "java/lang/Math", name := "addExact", desc := "(JJ)J" } : Jvm.MethodName) jdk_29_method_25_code (6 : Nat) (Option.some Jvm.ClassFile.FieldType.long), Jvm.Cond.code ({ cls := "java/lang/ArithmeticException", name := "<init>", desc := "(Ljava/lang/String;)V" } : Jvm.MethodName) jdk_84_method_2_code (2 : Nat) (Option.none : Option Jvm.ClassFile.FieldType), Jvm.Cond.code ({ cls := "java/lang/RuntimeException", name := "<init>", desc := "(Ljava/lang/String;)V" } : Jvm.MethodName) jdk_58_method_2_code (2 : Nat) (Option.none : Option Jvm.ClassFile.FieldType), Jvm.Cond.code ({ cls := "java/lang/Exception", name := "<init>", desc := "(Ljava/lang/String;)V" } : Jvm.MethodName) jdk_59_method_2_code (2 : Nat) (Option.none : Option Jvm.ClassFile.FieldType), Jvm.Cond.code ({ cls := "java/lang/Throwable", name := "<init>", desc := "(Ljava/lang/String;)V" } : Jvm.MethodName) jdk_78_method_2_code (2 : Nat) (Option.none : Option Jvm.ClassFile.FieldType), Jvm.Cond.code ({ cls := "java/lang/Object", name := "<init>", desc := "()V" } : Jvm.MethodName) object_method_1_code (1 : Nat) (Option.none : Option Jvm.ClassFile.FieldType), Jvm.Cond.code ({ cls := "java/lang/Throwable", name := "<init>", desc := "()V" } : Jvm.MethodName) jdk_78_method_1_code (1 : Nat) (Option.none : Option Jvm.ClassFile.FieldType)]
set_option maxRecDepth 65536 in
theorem codes_eq : words1.filter isCode = codes1 := rfl
theorem w_codes : ∀ c ∈ words1.filter isCode, c.before args0 about1 = true := by
  rw [codes_eq]
  intro c hc
  simp only [codes1, List.mem_cons, List.not_mem_nil, or_false] at hc
  rcases hc with rfl | rfl | rfl | rfl | rfl | rfl | rfl | rfl | rfl
  · exact w_c0
  · exact w_c1
  · exact w_c2
  · exact w_c3
  · exact w_c4
  · exact w_c5
  · exact w_c6
  · exact w_c7
  · exact w_c8
set_option maxRecDepth 65536 in
theorem w_t1 : (words1.take 24).all (fun c => isCode c || c.before args0 about1) = true := by decide +kernel
set_option maxRecDepth 65536 in
theorem w_t2 : ((words1.drop 24).take 24).all (fun c => isCode c || c.before args0 about1) = true := by decide +kernel
set_option maxRecDepth 65536 in
theorem w_t3 : (((words1.drop 24).drop 24).take 24).all (fun c => isCode c || c.before args0 about1) = true := by decide +kernel
set_option maxRecDepth 65536 in
theorem w_t4 : (((words1.drop 24).drop 24).drop 24).all (fun c => isCode c || c.before args0 about1) = true := by decide +kernel
theorem w_tables : (allAtoms (Jvm.Cond.code x code maxLocals ret :: tables_1)).before args0 about1 = true := by
  rw [allAtoms_all]
  show words1.all (fun c => c.before args0 about1) = true
  refine all_split ?_ w_codes
  rw [← List.take_append_drop 24 words1, List.all_append, w_t1, ← List.take_append_drop 24 (words1.drop 24), List.all_append, w_t2, ← List.take_append_drop 24 ((words1.drop 24).drop 24), List.all_append, w_t3, w_t4]
  rfl
set_option maxRecDepth 65536 in
theorem w_rest : rest_1_c.before args0 about1 = true := by decide +kernel
set_option maxRecDepth 65536 in
theorem w_case : (Jvm.Cond.and given_1 narrow_1).before args0 about1 = true := by decide +kernel
theorem w_applies : (headSpec (Jvm.Cond.code x code maxLocals ret :: tables_1) room_1).applies x e0.platform about1 = true :=
  (Spec.applies_iff w_frames).mpr ⟨w_running, w_runnable, w_alone, w_named, w_hears, w_ripe, w_room, w_tables⟩
theorem atStart : AtStart classFile x code maxLocals ret World_1 tables_1 room_1 Calls_1 rest_1 Pre_1 launch0 p0 e0 about1 theMethod args0 below0 :=
  ⟨lists_1, trivial, launch0.admits_env _ _ _, launch0.least_env, fairChoices_fair.cas, fairChoices_fair.clock, w_frames, w_args, w_heap, w_applies, ⟨(by decide +kernel : framesKnown about1 = true), ⟨(by decide +kernel : tablesKnown about1 = true), trivial⟩⟩, w_rest, w_case⟩
end start1
theorem witness_1 : WitnessClaimed_1 := ⟨start1.p0, start1.e0, start1.about1, start1.theMethod, start1.args0, start1.below0, start1.atStart⟩
end Jvm.Pilot.@@N@@
