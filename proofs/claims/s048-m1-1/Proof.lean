import JvmDerived
import JvmDerived.Pilot.@@N@@Statement
import JvmDerived.Pilot.@@N@@Code
set_option linter.unusedVariables false
set_option linter.unusedSimpArgs false
namespace Jvm.RoadKit
open Sem ClassFile Op Lib Jvm.Stand Jvm.Free Jvm.LawKit
section New
variable {p : Program} {l : Launch} {e : Env} {R : Room} {s : State} {m : MethodId} {args : Array Value} {below : List Frame} {meth : Method} {c : Code} {T : State} {locs : List Loc} {cells slots : Nat}
theorem retI (X : Stand p l e R s m args below meth c T locs cells slots) (hx : p.tables.exec = Jvm.exec) {pc : Nat} {Ls : Array Slot} {z : Int32} {rest : List Value} (hret : meth.sig.returnType = some .int) (hd : decode c.code pc = .ok (.ireturn, 1)) {fs : List Frame}
    (hl : ∀ (f : JFrame) (acts : List Action), f.method = m → f.locked = none → f.entered = [] → (doReturn e (T.setTop f) acts (some (.int z))).1 = T.setFrames fs) : Steps p.tables e below (T.setTop (mkF m pc Ls (.int z :: rest))) (T.setFrames fs) := by
  have hm' : T.vm.method? m = some meth := X.method'
  have hn : narrow .int (.int z) = .int z := rfl
  show Steps p.tables e below (T.setTop { method := m, pc := pc, locals := Ls, stack := _ :: rest, locked := none }) _
  jvm_step X.here [X.here.top, hx, hd, hm', hret, hn]
  first | (intro acts; rw [hl _ acts rfl rfl rfl]) | rw [hl _ _ rfl rfl rfl]
  exact Steps.refl _
end New
end Jvm.RoadKit
namespace Jvm.Pilot.@@N@@
open Jvm Jvm.ClassFile Sem Op Lib Jvm.Free Jvm.Stand Jvm.LawKit Jvm.RoadKit Bundle Jvm.Pilot.@@N@@.Jvm.D
/-- from the state A the run comes to the frame f over T -/
abbrev Go (tb : Tables) (e : Env) (below : List Frame) (A T : State) (f : JFrame) : Prop := ∀ t, Steps tb e below (T.setTop f) t → Steps tb e below A t

def own_ends (c a x : Int32) : Int32 := if c = 10 then (if a = 0 then 1 else 0) else if x = 0 then (if c = 13 then 1 else 0) else if c = 133 then (if a = 0 then 1 else 0) else if c = 13 then 1 else if c = 8232 then 1 else 0
def own_le (c x : Int32) : Int32 := if x = 0 then (if c = 13 then 1 else if c = 10 then 1 else 0) else if c = 133 then 1 else if c = 8232 then 1 else (if c = 13 then 1 else if c = 10 then 1 else 0)
def own_jr (c x : Int32) : Int32 := if c = 10 then 1 else if x = 0 then 0 else if c = 133 then 1 else 0
def own_exp (c a x : Int32) : Int32 := if own_le c x = 0 then 0 else if a = 0 then 1 else if own_jr c x = 0 then 1 else 0
theorem own_law (c a x : Int32) : own_ends c a x = own_exp c a x := by
  unfold own_ends own_exp own_le own_jr
  by_cases h1 : c = 10
  · subst h1; by_cases h2 : a = 0 <;> by_cases h3 : x = 0 <;> simp [h2, h3]
  · by_cases h4 : c = 13
    · subst h4; by_cases h2 : a = 0 <;> by_cases h3 : x = 0 <;> simp [h2, h3]
    · by_cases h5 : c = 133
      · subst h5; by_cases h2 : a = 0 <;> by_cases h3 : x = 0 <;> simp [h2, h3]
      · by_cases h6 : c = 8232
        · subst h6; by_cases h2 : a = 0 <;> by_cases h3 : x = 0 <;> simp [h2, h3]
        · by_cases h2 : a = 0 <;> by_cases h3 : x = 0 <;> simp [h1, h2, h3, h4, h5, h6]
theorem own_idx (x : Int32) : ¬ ((x &&& (2147483647 : Int32)) % (11 : Int32)) < 0 ∧ ((x &&& (2147483647 : Int32)) % (11 : Int32)) < 11 := by
  have h := (c_and x 2147483647 (by decide)).1
  have e := (c_irem (x &&& (2147483647 : Int32)) 11 11 rfl).1 h
  rw [Int32.lt_iff_toInt_lt, Int32.lt_iff_toInt_lt, e, show (0 : Int32).toInt = 0 from rfl, show (11 : Int32).toInt = 11 from rfl]
  omega
theorem own_ints (j : Nat) (vs : List Value) (h : ∀ v ∈ vs, ∃ x : Int32, v = .int x) : ∃ x : Int32, vs.getD j (.int (0 : Int32)) = .int x := by
  rw [List.getD_eq_getElem?_getD]
  by_cases q : j < vs.length
  · rw [List.getElem?_eq_getElem q]; exact h _ (List.getElem_mem q)
  · rw [List.getElem?_eq_none (Nat.le_of_not_lt q)]; exact ⟨0, rfl⟩
theorem pd_0 : parseMethodDescriptor "(CZZ)Z" = some ⟨[.char, .boolean, .boolean], some .boolean⟩ := by decide +kernel
theorem d1_0 : decode prog_126_method_14_code 0 = .ok (.iload_n 0, 1) := by decide +kernel
theorem d1_1 : decode prog_126_method_14_code 1 = .ok (.bipush 10, 2) := by decide +kernel
theorem d1_3 : decode prog_126_method_14_code 3 = .ok (.if_icmp .eq 14, 3) := by decide +kernel
theorem d1_6 : decode prog_126_method_14_code 6 = .ok (.iload_n 2, 1) := by decide +kernel
theorem d1_7 : decode prog_126_method_14_code 7 = .ok (.ifCond .eq 23, 3) := by decide +kernel
theorem d1_10 : decode prog_126_method_14_code 10 = .ok (.iload_n 0, 1) := by decide +kernel
theorem d1_11 : decode prog_126_method_14_code 11 = .ok (.sipush 133, 3) := by decide +kernel
theorem d1_14 : decode prog_126_method_14_code 14 = .ok (.if_icmp .ne 16, 3) := by decide +kernel
theorem d1_17 : decode prog_126_method_14_code 17 = .ok (.iload_n 1, 1) := by decide +kernel
theorem d1_18 : decode prog_126_method_14_code 18 = .ok (.ifCond .ne 7, 3) := by decide +kernel
theorem d1_21 : decode prog_126_method_14_code 21 = .ok (.iconst 1, 1) := by decide +kernel
theorem d1_22 : decode prog_126_method_14_code 22 = .ok (.goto 4, 3) := by decide +kernel
theorem d1_25 : decode prog_126_method_14_code 25 = .ok (.iconst 0, 1) := by decide +kernel
theorem d1_26 : decode prog_126_method_14_code 26 = .ok (.istore_n 3, 1) := by decide +kernel
theorem d1_27 : decode prog_126_method_14_code 27 = .ok (.goto 26, 3) := by decide +kernel
theorem d1_30 : decode prog_126_method_14_code 30 = .ok (.iload_n 0, 1) := by decide +kernel
theorem d1_31 : decode prog_126_method_14_code 31 = .ok (.bipush 13, 2) := by decide +kernel
theorem d1_33 : decode prog_126_method_14_code 33 = .ok (.if_icmp .eq 14, 3) := by decide +kernel
theorem d1_36 : decode prog_126_method_14_code 36 = .ok (.iload_n 2, 1) := by decide +kernel
theorem d1_37 : decode prog_126_method_14_code 37 = .ok (.ifCond .eq 14, 3) := by decide +kernel
theorem d1_40 : decode prog_126_method_14_code 40 = .ok (.iload_n 0, 1) := by decide +kernel
theorem d1_41 : decode prog_126_method_14_code 41 = .ok (.sipush 8232, 3) := by decide +kernel
theorem d1_44 : decode prog_126_method_14_code 44 = .ok (.if_icmp .ne 7, 3) := by decide +kernel
theorem d1_47 : decode prog_126_method_14_code 47 = .ok (.iconst 1, 1) := by decide +kernel
theorem d1_48 : decode prog_126_method_14_code 48 = .ok (.goto 4, 3) := by decide +kernel
theorem d1_51 : decode prog_126_method_14_code 51 = .ok (.iconst 0, 1) := by decide +kernel
theorem d1_52 : decode prog_126_method_14_code 52 = .ok (.istore_n 3, 1) := by decide +kernel
theorem d1_53 : decode prog_126_method_14_code 53 = .ok (.iload_n 3, 1) := by decide +kernel
theorem d1_54 : decode prog_126_method_14_code 54 = .ok (.ireturn, 1) := by decide +kernel
theorem pn_ends : plainName "com/example/bracketeer/bracketeer/xml/MarkupScan" = true := by first | (simp [plainName, overriddenIn]; done) | decide +kernel
theorem ef_ends (m : MethodId) (p0 : Int32) (p1 : Int32) (p2 : Int32) : entryFrame m #[(.int p0), (.int p1), (.int p2)] 4 = mkF m 0 #[.val (.int p0), .val (.int p1), .val (.int p2), .unset] [] := by first | (simp [entryFrame, mkF, argsToLocals, Value.category]; done) | rfl
def Q_ends (Z : State) (p0 : Int32) (p1 : Int32) (p2 : Int32) (h0 : Heap) (n0 : Nat) (v : Option Value) (h : Heap) (L : List Loc) : Prop := v = some (.int (own_ends p0 p1 p2)) ∧ Fr n0 L ∧ h = h0
set_option maxRecDepth 65536 in
set_option maxHeartbeats 40000000 in
theorem rm_ends (l : Launch) (Z : State) (a0 : Array Value) (hw : ∀ d ∈ tables_1, d.before a0 Z = true) (ws : List Jvm.Cond) (p0 : Int32) (p1 : Int32) (p2 : Int32) (h0 : Heap) (n0 : Nat) :
    MetFree l (⟨"com/example/bracketeer/bracketeer/xml/MarkupScan", "endsLine", "(CZZ)Z"⟩ : MethodName) (head1 (Jvm.Cond.code (⟨"com/example/bracketeer/bracketeer/xml/MarkupScan", "endsLine", "(CZZ)Z"⟩ : MethodName) prog_126_method_14_code 4 (some .boolean) :: ws) ({ frames := 0, cells := 0, slots := 0, locals := 0 } : Room)) (fun a U => a = #[(.int p0), (.int p1), (.int p2)] ∧ Z.Warmed39 U.vm ∧ U.heap = h0) (fun _ _ _ _ _ => True) (fun _ U o U' => ∃ v L, o = .returned v ∧ Q_ends Z p0 p1 p2 h0 n0 v U'.heap L ∧ FrameEnd U o U' L ({ frames := 0, cells := 0, slots := 0, locals := 0 } : Room).cells ({ frames := 0, cells := 0, slots := 0, locals := 0 } : Room).slots) := by
  refine MetFree.of_bodySF (plainFor_of_name pn_ends) hisR ?_
  intro p e s m args below meth c s₁ Bd hml0 hP hK
  obtain ⟨rfl, hZ, hh⟩ := hP
  have hx := Bd.exec
  have hby := Bd.bytes
  have hml : c.maxLocals = 4 := hml0
  have hown : s.vm.findClass "com/example/bracketeer/bracketeer/xml/MarkupScan" = some m.cls := findClass_of_methodNamed Bd.named
  have hnm := (name_of_methodNamed Bd.named Bd.method).1
  have X0 : Stand p l e ({ frames := 0, cells := 0, slots := 0, locals := 0 } : Room) s m #[(.int p0), (.int p1), (.int p2)] below meth c s₁ [] 0 0 := Stand.of_body Bd
  have e0 : s₁.heap = h0 := by rw [← hh, Bd.state]; rfl
  have N0 := Fr.nil n0
  have pre0 : Go p.tables e below (s₁.setTop (entryFrame m #[(.int p0), (.int p1), (.int p2)] 4)) s₁ (mkF m 0 #[.val (.int p0), .val (.int p1), .val (.int p2), .unset] []) := fun t k => castTop (ef_ends m p0 p1 p2) k
  have pre1 : Go p.tables e below (s₁.setTop (entryFrame m #[(.int p0), (.int p1), (.int p2)] 4)) s₁ (mkF m 3 #[.val (.int p0), .val (.int p1), .val (.int p2), .unset] [(.int (10 : Int32)), (.int p0)]) := fun t k => pre0 t (by
      refine XS.iloadN X0.here hx rfl (hb hby d1_0) rfl ?_
      show Steps p.tables e below (s₁.setTop (mkF m 1 #[.val (.int p0), .val (.int p1), .val (.int p2), .unset] [(.int p0)])) _
      refine XS.bipush X0.here hx rfl (hb hby d1_1) ?_
      exact k)
  by_cases hc2 : p0 = (10 : Int32)
  · -- hc2: True
    have pre3 : Go p.tables e below (s₁.setTop (entryFrame m #[(.int p0), (.int p1), (.int p2)] 4)) s₁ (mkF m 18 #[.val (.int p0), .val (.int p1), .val (.int p2), .unset] [(.int p1)]) := fun t k => pre1 t (by
        refine XS.icmpYes X0.here hx rfl (pc0 := 3) (pc' := 17) rfl (hb hby d1_3) rfl (teq hc2).1 (by decide) (by decide) ?_
        show Steps p.tables e below (s₁.setTop (mkF m 17 #[.val (.int p0), .val (.int p1), .val (.int p2), .unset] [])) _
        refine XS.iloadN X0.here hx rfl (hb hby d1_17) rfl ?_
        exact k)
    by_cases hc4 : p1 = (0 : Int32)
    · -- hc4: True
      have pre5 : Go p.tables e below (s₁.setTop (entryFrame m #[(.int p0), (.int p1), (.int p2)] 4)) s₁ (mkF m 54 #[.val (.int p0), .val (.int p1), .val (.int p2), .val (.int (1 : Int32))] [(.int (1 : Int32))]) := fun t k => pre3 t (by
          refine XS.ifNo X0.here hx rfl (hb hby d1_18) rfl ((if0 _ _).trans (teq hc4).2) ?_
          show Steps p.tables e below (s₁.setTop (mkF m 21 #[.val (.int p0), .val (.int p1), .val (.int p2), .unset] [])) _
          refine XS.iconst X0.here hx rfl (hb hby d1_21) ?_
          show Steps p.tables e below (s₁.setTop (mkF m 22 #[.val (.int p0), .val (.int p1), .val (.int p2), .unset] [(.int (1 : Int32))])) _
          refine XS.goto X0.here hx rfl (pc0 := 22) (pc' := 26) rfl (hb hby d1_22) (by decide) (by decide) ?_
          show Steps p.tables e below (s₁.setTop (mkF m 26 #[.val (.int p0), .val (.int p1), .val (.int p2), .unset] [(.int (1 : Int32))])) _
          refine XS.istoreN X0.here hx rfl (hb hby d1_26) rfl (l' := #[.val (.int p0), .val (.int p1), .val (.int p2), .val (.int (1 : Int32))]) rfl ?_
          show Steps p.tables e below (s₁.setTop (mkF m 27 #[.val (.int p0), .val (.int p1), .val (.int p2), .val (.int (1 : Int32))] [])) _
          refine XS.goto X0.here hx rfl (pc0 := 27) (pc' := 53) rfl (hb hby d1_27) (by decide) (by decide) ?_
          show Steps p.tables e below (s₁.setTop (mkF m 53 #[.val (.int p0), .val (.int p1), .val (.int p2), .val (.int (1 : Int32))] [])) _
          refine XS.iloadN X0.here hx rfl (hb hby d1_53) rfl ?_
          exact k)
      obtain ⟨fs, hr, hrun, hended, hW, hsame⟩ := X0.leave (v := some (.int (1 : Int32))) (fun h => by rw [Bd.returns] at h; cases h) (BodyLoose.notSynchronized Bd)
      refine ⟨_, _, pre5 _ ?_, hrun, hended, _, _, rfl, ?_, ⟨_, rfl⟩, hW, hsame.mono (Nat.le_of_ble_eq_true rfl) (Nat.le_of_ble_eq_true rfl)⟩
      · exact retN X0 hx (t := .boolean) Bd.returns (by simp) (hb hby d1_54) hr
      · show Q_ends Z p0 p1 p2 h0 n0 _ s₁.heap _
        rw [e0]
        exact ⟨by simp [own_ends, hc2, hc4], N0, rfl⟩
    · -- hc4: False
      have pre6 : Go p.tables e below (s₁.setTop (entryFrame m #[(.int p0), (.int p1), (.int p2)] 4)) s₁ (mkF m 54 #[.val (.int p0), .val (.int p1), .val (.int p2), .val (.int (0 : Int32))] [(.int (0 : Int32))]) := fun t k => pre3 t (by
          refine XS.ifYes X0.here hx rfl (pc0 := 18) (pc' := 25) rfl (hb hby d1_18) rfl ((if0 _ _).trans (feq hc4).2) (by decide) (by decide) ?_
          show Steps p.tables e below (s₁.setTop (mkF m 25 #[.val (.int p0), .val (.int p1), .val (.int p2), .unset] [])) _
          refine XS.iconst X0.here hx rfl (hb hby d1_25) ?_
          show Steps p.tables e below (s₁.setTop (mkF m 26 #[.val (.int p0), .val (.int p1), .val (.int p2), .unset] [(.int (0 : Int32))])) _
          refine XS.istoreN X0.here hx rfl (hb hby d1_26) rfl (l' := #[.val (.int p0), .val (.int p1), .val (.int p2), .val (.int (0 : Int32))]) rfl ?_
          show Steps p.tables e below (s₁.setTop (mkF m 27 #[.val (.int p0), .val (.int p1), .val (.int p2), .val (.int (0 : Int32))] [])) _
          refine XS.goto X0.here hx rfl (pc0 := 27) (pc' := 53) rfl (hb hby d1_27) (by decide) (by decide) ?_
          show Steps p.tables e below (s₁.setTop (mkF m 53 #[.val (.int p0), .val (.int p1), .val (.int p2), .val (.int (0 : Int32))] [])) _
          refine XS.iloadN X0.here hx rfl (hb hby d1_53) rfl ?_
          exact k)
      obtain ⟨fs, hr, hrun, hended, hW, hsame⟩ := X0.leave (v := some (.int (0 : Int32))) (fun h => by rw [Bd.returns] at h; cases h) (BodyLoose.notSynchronized Bd)
      refine ⟨_, _, pre6 _ ?_, hrun, hended, _, _, rfl, ?_, ⟨_, rfl⟩, hW, hsame.mono (Nat.le_of_ble_eq_true rfl) (Nat.le_of_ble_eq_true rfl)⟩
      · exact retN X0 hx (t := .boolean) Bd.returns (by simp) (hb hby d1_54) hr
      · show Q_ends Z p0 p1 p2 h0 n0 _ s₁.heap _
        rw [e0]
        exact ⟨by simp [own_ends, hc2, hc4], N0, rfl⟩
  · -- hc2: False
    have pre7 : Go p.tables e below (s₁.setTop (entryFrame m #[(.int p0), (.int p1), (.int p2)] 4)) s₁ (mkF m 7 #[.val (.int p0), .val (.int p1), .val (.int p2), .unset] [(.int p2)]) := fun t k => pre1 t (by
        refine XS.icmpNo X0.here hx rfl (hb hby d1_3) rfl (feq hc2).1 ?_
        show Steps p.tables e below (s₁.setTop (mkF m 6 #[.val (.int p0), .val (.int p1), .val (.int p2), .unset] [])) _
        refine XS.iloadN X0.here hx rfl (hb hby d1_6) rfl ?_
        exact k)
    by_cases hc8 : p2 = (0 : Int32)
    · -- hc8: True
      have pre9 : Go p.tables e below (s₁.setTop (entryFrame m #[(.int p0), (.int p1), (.int p2)] 4)) s₁ (mkF m 33 #[.val (.int p0), .val (.int p1), .val (.int p2), .unset] [(.int (13 : Int32)), (.int p0)]) := fun t k => pre7 t (by
          refine XS.ifYes X0.here hx rfl (pc0 := 7) (pc' := 30) rfl (hb hby d1_7) rfl ((if0 _ _).trans (teq hc8).1) (by decide) (by decide) ?_
          show Steps p.tables e below (s₁.setTop (mkF m 30 #[.val (.int p0), .val (.int p1), .val (.int p2), .unset] [])) _
          refine XS.iloadN X0.here hx rfl (hb hby d1_30) rfl ?_
          show Steps p.tables e below (s₁.setTop (mkF m 31 #[.val (.int p0), .val (.int p1), .val (.int p2), .unset] [(.int p0)])) _
          refine XS.bipush X0.here hx rfl (hb hby d1_31) ?_
          exact k)
      by_cases hc10 : p0 = (13 : Int32)
      · -- hc10: True
        have pre11 : Go p.tables e below (s₁.setTop (entryFrame m #[(.int p0), (.int p1), (.int p2)] 4)) s₁ (mkF m 54 #[.val (.int p0), .val (.int p1), .val (.int p2), .val (.int (1 : Int32))] [(.int (1 : Int32))]) := fun t k => pre9 t (by
            refine XS.icmpYes X0.here hx rfl (pc0 := 33) (pc' := 47) rfl (hb hby d1_33) rfl (teq hc10).1 (by decide) (by decide) ?_
            show Steps p.tables e below (s₁.setTop (mkF m 47 #[.val (.int p0), .val (.int p1), .val (.int p2), .unset] [])) _
            refine XS.iconst X0.here hx rfl (hb hby d1_47) ?_
            show Steps p.tables e below (s₁.setTop (mkF m 48 #[.val (.int p0), .val (.int p1), .val (.int p2), .unset] [(.int (1 : Int32))])) _
            refine XS.goto X0.here hx rfl (pc0 := 48) (pc' := 52) rfl (hb hby d1_48) (by decide) (by decide) ?_
            show Steps p.tables e below (s₁.setTop (mkF m 52 #[.val (.int p0), .val (.int p1), .val (.int p2), .unset] [(.int (1 : Int32))])) _
            refine XS.istoreN X0.here hx rfl (hb hby d1_52) rfl (l' := #[.val (.int p0), .val (.int p1), .val (.int p2), .val (.int (1 : Int32))]) rfl ?_
            show Steps p.tables e below (s₁.setTop (mkF m 53 #[.val (.int p0), .val (.int p1), .val (.int p2), .val (.int (1 : Int32))] [])) _
            refine XS.iloadN X0.here hx rfl (hb hby d1_53) rfl ?_
            exact k)
        obtain ⟨fs, hr, hrun, hended, hW, hsame⟩ := X0.leave (v := some (.int (1 : Int32))) (fun h => by rw [Bd.returns] at h; cases h) (BodyLoose.notSynchronized Bd)
        refine ⟨_, _, pre11 _ ?_, hrun, hended, _, _, rfl, ?_, ⟨_, rfl⟩, hW, hsame.mono (Nat.le_of_ble_eq_true rfl) (Nat.le_of_ble_eq_true rfl)⟩
        · exact retN X0 hx (t := .boolean) Bd.returns (by simp) (hb hby d1_54) hr
        · show Q_ends Z p0 p1 p2 h0 n0 _ s₁.heap _
          rw [e0]
          exact ⟨by simp [own_ends, hc2, hc8, hc10], N0, rfl⟩
      · -- hc10: False
        have pre12 : Go p.tables e below (s₁.setTop (entryFrame m #[(.int p0), (.int p1), (.int p2)] 4)) s₁ (mkF m 54 #[.val (.int p0), .val (.int p1), .val (.int p2), .val (.int (0 : Int32))] [(.int (0 : Int32))]) := fun t k => pre9 t (by
            refine XS.icmpNo X0.here hx rfl (hb hby d1_33) rfl (feq hc10).1 ?_
            show Steps p.tables e below (s₁.setTop (mkF m 36 #[.val (.int p0), .val (.int p1), .val (.int p2), .unset] [])) _
            refine XS.iloadN X0.here hx rfl (hb hby d1_36) rfl ?_
            show Steps p.tables e below (s₁.setTop (mkF m 37 #[.val (.int p0), .val (.int p1), .val (.int p2), .unset] [(.int p2)])) _
            refine XS.ifYes X0.here hx rfl (pc0 := 37) (pc' := 51) rfl (hb hby d1_37) rfl ((if0 _ _).trans (teq hc8).1) (by decide) (by decide) ?_
            show Steps p.tables e below (s₁.setTop (mkF m 51 #[.val (.int p0), .val (.int p1), .val (.int p2), .unset] [])) _
            refine XS.iconst X0.here hx rfl (hb hby d1_51) ?_
            show Steps p.tables e below (s₁.setTop (mkF m 52 #[.val (.int p0), .val (.int p1), .val (.int p2), .unset] [(.int (0 : Int32))])) _
            refine XS.istoreN X0.here hx rfl (hb hby d1_52) rfl (l' := #[.val (.int p0), .val (.int p1), .val (.int p2), .val (.int (0 : Int32))]) rfl ?_
            show Steps p.tables e below (s₁.setTop (mkF m 53 #[.val (.int p0), .val (.int p1), .val (.int p2), .val (.int (0 : Int32))] [])) _
            refine XS.iloadN X0.here hx rfl (hb hby d1_53) rfl ?_
            exact k)
        obtain ⟨fs, hr, hrun, hended, hW, hsame⟩ := X0.leave (v := some (.int (0 : Int32))) (fun h => by rw [Bd.returns] at h; cases h) (BodyLoose.notSynchronized Bd)
        refine ⟨_, _, pre12 _ ?_, hrun, hended, _, _, rfl, ?_, ⟨_, rfl⟩, hW, hsame.mono (Nat.le_of_ble_eq_true rfl) (Nat.le_of_ble_eq_true rfl)⟩
        · exact retN X0 hx (t := .boolean) Bd.returns (by simp) (hb hby d1_54) hr
        · show Q_ends Z p0 p1 p2 h0 n0 _ s₁.heap _
          rw [e0]
          exact ⟨by simp [own_ends, hc2, hc8, hc10], N0, rfl⟩
    · -- hc8: False
      have pre13 : Go p.tables e below (s₁.setTop (entryFrame m #[(.int p0), (.int p1), (.int p2)] 4)) s₁ (mkF m 14 #[.val (.int p0), .val (.int p1), .val (.int p2), .unset] [(.int (133 : Int32)), (.int p0)]) := fun t k => pre7 t (by
          refine XS.ifNo X0.here hx rfl (hb hby d1_7) rfl ((if0 _ _).trans (feq hc8).1) ?_
          show Steps p.tables e below (s₁.setTop (mkF m 10 #[.val (.int p0), .val (.int p1), .val (.int p2), .unset] [])) _
          refine XS.iloadN X0.here hx rfl (hb hby d1_10) rfl ?_
          show Steps p.tables e below (s₁.setTop (mkF m 11 #[.val (.int p0), .val (.int p1), .val (.int p2), .unset] [(.int p0)])) _
          refine XS.sipush X0.here hx rfl (hb hby d1_11) ?_
          exact k)
      by_cases hc14 : p0 = (133 : Int32)
      · -- hc14: True
        have pre15 : Go p.tables e below (s₁.setTop (entryFrame m #[(.int p0), (.int p1), (.int p2)] 4)) s₁ (mkF m 18 #[.val (.int p0), .val (.int p1), .val (.int p2), .unset] [(.int p1)]) := fun t k => pre13 t (by
            refine XS.icmpNo X0.here hx rfl (hb hby d1_14) rfl (teq hc14).2 ?_
            show Steps p.tables e below (s₁.setTop (mkF m 17 #[.val (.int p0), .val (.int p1), .val (.int p2), .unset] [])) _
            refine XS.iloadN X0.here hx rfl (hb hby d1_17) rfl ?_
            exact k)
        by_cases hc16 : p1 = (0 : Int32)
        · -- hc16: True
          have pre17 : Go p.tables e below (s₁.setTop (entryFrame m #[(.int p0), (.int p1), (.int p2)] 4)) s₁ (mkF m 54 #[.val (.int p0), .val (.int p1), .val (.int p2), .val (.int (1 : Int32))] [(.int (1 : Int32))]) := fun t k => pre15 t (by
              refine XS.ifNo X0.here hx rfl (hb hby d1_18) rfl ((if0 _ _).trans (teq hc16).2) ?_
              show Steps p.tables e below (s₁.setTop (mkF m 21 #[.val (.int p0), .val (.int p1), .val (.int p2), .unset] [])) _
              refine XS.iconst X0.here hx rfl (hb hby d1_21) ?_
              show Steps p.tables e below (s₁.setTop (mkF m 22 #[.val (.int p0), .val (.int p1), .val (.int p2), .unset] [(.int (1 : Int32))])) _
              refine XS.goto X0.here hx rfl (pc0 := 22) (pc' := 26) rfl (hb hby d1_22) (by decide) (by decide) ?_
              show Steps p.tables e below (s₁.setTop (mkF m 26 #[.val (.int p0), .val (.int p1), .val (.int p2), .unset] [(.int (1 : Int32))])) _
              refine XS.istoreN X0.here hx rfl (hb hby d1_26) rfl (l' := #[.val (.int p0), .val (.int p1), .val (.int p2), .val (.int (1 : Int32))]) rfl ?_
              show Steps p.tables e below (s₁.setTop (mkF m 27 #[.val (.int p0), .val (.int p1), .val (.int p2), .val (.int (1 : Int32))] [])) _
              refine XS.goto X0.here hx rfl (pc0 := 27) (pc' := 53) rfl (hb hby d1_27) (by decide) (by decide) ?_
              show Steps p.tables e below (s₁.setTop (mkF m 53 #[.val (.int p0), .val (.int p1), .val (.int p2), .val (.int (1 : Int32))] [])) _
              refine XS.iloadN X0.here hx rfl (hb hby d1_53) rfl ?_
              exact k)
          obtain ⟨fs, hr, hrun, hended, hW, hsame⟩ := X0.leave (v := some (.int (1 : Int32))) (fun h => by rw [Bd.returns] at h; cases h) (BodyLoose.notSynchronized Bd)
          refine ⟨_, _, pre17 _ ?_, hrun, hended, _, _, rfl, ?_, ⟨_, rfl⟩, hW, hsame.mono (Nat.le_of_ble_eq_true rfl) (Nat.le_of_ble_eq_true rfl)⟩
          · exact retN X0 hx (t := .boolean) Bd.returns (by simp) (hb hby d1_54) hr
          · show Q_ends Z p0 p1 p2 h0 n0 _ s₁.heap _
            rw [e0]
            exact ⟨by simp [own_ends, hc2, hc8, hc14, hc16], N0, rfl⟩
        · -- hc16: False
          have pre18 : Go p.tables e below (s₁.setTop (entryFrame m #[(.int p0), (.int p1), (.int p2)] 4)) s₁ (mkF m 54 #[.val (.int p0), .val (.int p1), .val (.int p2), .val (.int (0 : Int32))] [(.int (0 : Int32))]) := fun t k => pre15 t (by
              refine XS.ifYes X0.here hx rfl (pc0 := 18) (pc' := 25) rfl (hb hby d1_18) rfl ((if0 _ _).trans (feq hc16).2) (by decide) (by decide) ?_
              show Steps p.tables e below (s₁.setTop (mkF m 25 #[.val (.int p0), .val (.int p1), .val (.int p2), .unset] [])) _
              refine XS.iconst X0.here hx rfl (hb hby d1_25) ?_
              show Steps p.tables e below (s₁.setTop (mkF m 26 #[.val (.int p0), .val (.int p1), .val (.int p2), .unset] [(.int (0 : Int32))])) _
              refine XS.istoreN X0.here hx rfl (hb hby d1_26) rfl (l' := #[.val (.int p0), .val (.int p1), .val (.int p2), .val (.int (0 : Int32))]) rfl ?_
              show Steps p.tables e below (s₁.setTop (mkF m 27 #[.val (.int p0), .val (.int p1), .val (.int p2), .val (.int (0 : Int32))] [])) _
              refine XS.goto X0.here hx rfl (pc0 := 27) (pc' := 53) rfl (hb hby d1_27) (by decide) (by decide) ?_
              show Steps p.tables e below (s₁.setTop (mkF m 53 #[.val (.int p0), .val (.int p1), .val (.int p2), .val (.int (0 : Int32))] [])) _
              refine XS.iloadN X0.here hx rfl (hb hby d1_53) rfl ?_
              exact k)
          obtain ⟨fs, hr, hrun, hended, hW, hsame⟩ := X0.leave (v := some (.int (0 : Int32))) (fun h => by rw [Bd.returns] at h; cases h) (BodyLoose.notSynchronized Bd)
          refine ⟨_, _, pre18 _ ?_, hrun, hended, _, _, rfl, ?_, ⟨_, rfl⟩, hW, hsame.mono (Nat.le_of_ble_eq_true rfl) (Nat.le_of_ble_eq_true rfl)⟩
          · exact retN X0 hx (t := .boolean) Bd.returns (by simp) (hb hby d1_54) hr
          · show Q_ends Z p0 p1 p2 h0 n0 _ s₁.heap _
            rw [e0]
            exact ⟨by simp [own_ends, hc2, hc8, hc14, hc16], N0, rfl⟩
      · -- hc14: False
        have pre19 : Go p.tables e below (s₁.setTop (entryFrame m #[(.int p0), (.int p1), (.int p2)] 4)) s₁ (mkF m 33 #[.val (.int p0), .val (.int p1), .val (.int p2), .unset] [(.int (13 : Int32)), (.int p0)]) := fun t k => pre13 t (by
            refine XS.icmpYes X0.here hx rfl (pc0 := 14) (pc' := 30) rfl (hb hby d1_14) rfl (feq hc14).2 (by decide) (by decide) ?_
            show Steps p.tables e below (s₁.setTop (mkF m 30 #[.val (.int p0), .val (.int p1), .val (.int p2), .unset] [])) _
            refine XS.iloadN X0.here hx rfl (hb hby d1_30) rfl ?_
            show Steps p.tables e below (s₁.setTop (mkF m 31 #[.val (.int p0), .val (.int p1), .val (.int p2), .unset] [(.int p0)])) _
            refine XS.bipush X0.here hx rfl (hb hby d1_31) ?_
            exact k)
        by_cases hc20 : p0 = (13 : Int32)
        · -- hc20: True
          have pre21 : Go p.tables e below (s₁.setTop (entryFrame m #[(.int p0), (.int p1), (.int p2)] 4)) s₁ (mkF m 54 #[.val (.int p0), .val (.int p1), .val (.int p2), .val (.int (1 : Int32))] [(.int (1 : Int32))]) := fun t k => pre19 t (by
              refine XS.icmpYes X0.here hx rfl (pc0 := 33) (pc' := 47) rfl (hb hby d1_33) rfl (teq hc20).1 (by decide) (by decide) ?_
              show Steps p.tables e below (s₁.setTop (mkF m 47 #[.val (.int p0), .val (.int p1), .val (.int p2), .unset] [])) _
              refine XS.iconst X0.here hx rfl (hb hby d1_47) ?_
              show Steps p.tables e below (s₁.setTop (mkF m 48 #[.val (.int p0), .val (.int p1), .val (.int p2), .unset] [(.int (1 : Int32))])) _
              refine XS.goto X0.here hx rfl (pc0 := 48) (pc' := 52) rfl (hb hby d1_48) (by decide) (by decide) ?_
              show Steps p.tables e below (s₁.setTop (mkF m 52 #[.val (.int p0), .val (.int p1), .val (.int p2), .unset] [(.int (1 : Int32))])) _
              refine XS.istoreN X0.here hx rfl (hb hby d1_52) rfl (l' := #[.val (.int p0), .val (.int p1), .val (.int p2), .val (.int (1 : Int32))]) rfl ?_
              show Steps p.tables e below (s₁.setTop (mkF m 53 #[.val (.int p0), .val (.int p1), .val (.int p2), .val (.int (1 : Int32))] [])) _
              refine XS.iloadN X0.here hx rfl (hb hby d1_53) rfl ?_
              exact k)
          obtain ⟨fs, hr, hrun, hended, hW, hsame⟩ := X0.leave (v := some (.int (1 : Int32))) (fun h => by rw [Bd.returns] at h; cases h) (BodyLoose.notSynchronized Bd)
          refine ⟨_, _, pre21 _ ?_, hrun, hended, _, _, rfl, ?_, ⟨_, rfl⟩, hW, hsame.mono (Nat.le_of_ble_eq_true rfl) (Nat.le_of_ble_eq_true rfl)⟩
          · exact retN X0 hx (t := .boolean) Bd.returns (by simp) (hb hby d1_54) hr
          · show Q_ends Z p0 p1 p2 h0 n0 _ s₁.heap _
            rw [e0]
            exact ⟨by simp [own_ends, hc2, hc8, hc14, hc20], N0, rfl⟩
        · -- hc20: False
          have pre22 : Go p.tables e below (s₁.setTop (entryFrame m #[(.int p0), (.int p1), (.int p2)] 4)) s₁ (mkF m 44 #[.val (.int p0), .val (.int p1), .val (.int p2), .unset] [(.int (8232 : Int32)), (.int p0)]) := fun t k => pre19 t (by
              refine XS.icmpNo X0.here hx rfl (hb hby d1_33) rfl (feq hc20).1 ?_
              show Steps p.tables e below (s₁.setTop (mkF m 36 #[.val (.int p0), .val (.int p1), .val (.int p2), .unset] [])) _
              refine XS.iloadN X0.here hx rfl (hb hby d1_36) rfl ?_
              show Steps p.tables e below (s₁.setTop (mkF m 37 #[.val (.int p0), .val (.int p1), .val (.int p2), .unset] [(.int p2)])) _
              refine XS.ifNo X0.here hx rfl (hb hby d1_37) rfl ((if0 _ _).trans (feq hc8).1) ?_
              show Steps p.tables e below (s₁.setTop (mkF m 40 #[.val (.int p0), .val (.int p1), .val (.int p2), .unset] [])) _
              refine XS.iloadN X0.here hx rfl (hb hby d1_40) rfl ?_
              show Steps p.tables e below (s₁.setTop (mkF m 41 #[.val (.int p0), .val (.int p1), .val (.int p2), .unset] [(.int p0)])) _
              refine XS.sipush X0.here hx rfl (hb hby d1_41) ?_
              exact k)
          by_cases hc23 : p0 = (8232 : Int32)
          · -- hc23: True
            have pre24 : Go p.tables e below (s₁.setTop (entryFrame m #[(.int p0), (.int p1), (.int p2)] 4)) s₁ (mkF m 54 #[.val (.int p0), .val (.int p1), .val (.int p2), .val (.int (1 : Int32))] [(.int (1 : Int32))]) := fun t k => pre22 t (by
                refine XS.icmpNo X0.here hx rfl (hb hby d1_44) rfl (teq hc23).2 ?_
                show Steps p.tables e below (s₁.setTop (mkF m 47 #[.val (.int p0), .val (.int p1), .val (.int p2), .unset] [])) _
                refine XS.iconst X0.here hx rfl (hb hby d1_47) ?_
                show Steps p.tables e below (s₁.setTop (mkF m 48 #[.val (.int p0), .val (.int p1), .val (.int p2), .unset] [(.int (1 : Int32))])) _
                refine XS.goto X0.here hx rfl (pc0 := 48) (pc' := 52) rfl (hb hby d1_48) (by decide) (by decide) ?_
                show Steps p.tables e below (s₁.setTop (mkF m 52 #[.val (.int p0), .val (.int p1), .val (.int p2), .unset] [(.int (1 : Int32))])) _
                refine XS.istoreN X0.here hx rfl (hb hby d1_52) rfl (l' := #[.val (.int p0), .val (.int p1), .val (.int p2), .val (.int (1 : Int32))]) rfl ?_
                show Steps p.tables e below (s₁.setTop (mkF m 53 #[.val (.int p0), .val (.int p1), .val (.int p2), .val (.int (1 : Int32))] [])) _
                refine XS.iloadN X0.here hx rfl (hb hby d1_53) rfl ?_
                exact k)
            obtain ⟨fs, hr, hrun, hended, hW, hsame⟩ := X0.leave (v := some (.int (1 : Int32))) (fun h => by rw [Bd.returns] at h; cases h) (BodyLoose.notSynchronized Bd)
            refine ⟨_, _, pre24 _ ?_, hrun, hended, _, _, rfl, ?_, ⟨_, rfl⟩, hW, hsame.mono (Nat.le_of_ble_eq_true rfl) (Nat.le_of_ble_eq_true rfl)⟩
            · exact retN X0 hx (t := .boolean) Bd.returns (by simp) (hb hby d1_54) hr
            · show Q_ends Z p0 p1 p2 h0 n0 _ s₁.heap _
              rw [e0]
              exact ⟨by simp [own_ends, hc2, hc8, hc14, hc20, hc23], N0, rfl⟩
          · -- hc23: False
            have pre25 : Go p.tables e below (s₁.setTop (entryFrame m #[(.int p0), (.int p1), (.int p2)] 4)) s₁ (mkF m 54 #[.val (.int p0), .val (.int p1), .val (.int p2), .val (.int (0 : Int32))] [(.int (0 : Int32))]) := fun t k => pre22 t (by
                refine XS.icmpYes X0.here hx rfl (pc0 := 44) (pc' := 51) rfl (hb hby d1_44) rfl (feq hc23).2 (by decide) (by decide) ?_
                show Steps p.tables e below (s₁.setTop (mkF m 51 #[.val (.int p0), .val (.int p1), .val (.int p2), .unset] [])) _
                refine XS.iconst X0.here hx rfl (hb hby d1_51) ?_
                show Steps p.tables e below (s₁.setTop (mkF m 52 #[.val (.int p0), .val (.int p1), .val (.int p2), .unset] [(.int (0 : Int32))])) _
                refine XS.istoreN X0.here hx rfl (hb hby d1_52) rfl (l' := #[.val (.int p0), .val (.int p1), .val (.int p2), .val (.int (0 : Int32))]) rfl ?_
                show Steps p.tables e below (s₁.setTop (mkF m 53 #[.val (.int p0), .val (.int p1), .val (.int p2), .val (.int (0 : Int32))] [])) _
                refine XS.iloadN X0.here hx rfl (hb hby d1_53) rfl ?_
                exact k)
            obtain ⟨fs, hr, hrun, hended, hW, hsame⟩ := X0.leave (v := some (.int (0 : Int32))) (fun h => by rw [Bd.returns] at h; cases h) (BodyLoose.notSynchronized Bd)
            refine ⟨_, _, pre25 _ ?_, hrun, hended, _, _, rfl, ?_, ⟨_, rfl⟩, hW, hsame.mono (Nat.le_of_ble_eq_true rfl) (Nat.le_of_ble_eq_true rfl)⟩
            · exact retN X0 hx (t := .boolean) Bd.returns (by simp) (hb hby d1_54) hr
            · show Q_ends Z p0 p1 p2 h0 n0 _ s₁.heap _
              rw [e0]
              exact ⟨by simp [own_ends, hc2, hc8, hc14, hc20, hc23], N0, rfl⟩
theorem d2_0 : decode method_3_code 0 = .ok (.iload_n 0, 1) := by decide +kernel
theorem d2_1 : decode method_3_code 1 = .ok (.bipush 13, 2) := by decide +kernel
theorem d2_3 : decode method_3_code 3 = .ok (.if_icmp .eq 9, 3) := by decide +kernel
theorem d2_6 : decode method_3_code 6 = .ok (.iload_n 0, 1) := by decide +kernel
theorem d2_7 : decode method_3_code 7 = .ok (.bipush 10, 2) := by decide +kernel
theorem d2_9 : decode method_3_code 9 = .ok (.if_icmp .ne 7, 3) := by decide +kernel
theorem d2_12 : decode method_3_code 12 = .ok (.iconst 1, 1) := by decide +kernel
theorem d2_13 : decode method_3_code 13 = .ok (.goto 4, 3) := by decide +kernel
theorem d2_16 : decode method_3_code 16 = .ok (.iconst 0, 1) := by decide +kernel
theorem d2_17 : decode method_3_code 17 = .ok (.istore_n 3, 1) := by decide +kernel
theorem d2_18 : decode method_3_code 18 = .ok (.iload_n 2, 1) := by decide +kernel
theorem d2_19 : decode method_3_code 19 = .ok (.ifCond .eq 19, 3) := by decide +kernel
theorem d2_22 : decode method_3_code 22 = .ok (.iload_n 0, 1) := by decide +kernel
theorem d2_23 : decode method_3_code 23 = .ok (.sipush 133, 3) := by decide +kernel
theorem d2_26 : decode method_3_code 26 = .ok (.if_icmp .eq 10, 3) := by decide +kernel
theorem d2_29 : decode method_3_code 29 = .ok (.iload_n 0, 1) := by decide +kernel
theorem d2_30 : decode method_3_code 30 = .ok (.sipush 8232, 3) := by decide +kernel
theorem d2_33 : decode method_3_code 33 = .ok (.if_icmp .ne 5, 3) := by decide +kernel
theorem d2_36 : decode method_3_code 36 = .ok (.iconst 1, 1) := by decide +kernel
theorem d2_37 : decode method_3_code 37 = .ok (.istore_n 3, 1) := by decide +kernel
theorem d2_38 : decode method_3_code 38 = .ok (.iload_n 0, 1) := by decide +kernel
theorem d2_39 : decode method_3_code 39 = .ok (.bipush 10, 2) := by decide +kernel
theorem d2_41 : decode method_3_code 41 = .ok (.if_icmp .ne 7, 3) := by decide +kernel
theorem d2_44 : decode method_3_code 44 = .ok (.iconst 1, 1) := by decide +kernel
theorem d2_45 : decode method_3_code 45 = .ok (.goto 4, 3) := by decide +kernel
theorem d2_48 : decode method_3_code 48 = .ok (.iconst 0, 1) := by decide +kernel
theorem d2_49 : decode method_3_code 49 = .ok (.istore 4, 2) := by decide +kernel
theorem d2_51 : decode method_3_code 51 = .ok (.iload_n 2, 1) := by decide +kernel
theorem d2_52 : decode method_3_code 52 = .ok (.ifCond .eq 13, 3) := by decide +kernel
theorem d2_55 : decode method_3_code 55 = .ok (.iload_n 0, 1) := by decide +kernel
theorem d2_56 : decode method_3_code 56 = .ok (.sipush 133, 3) := by decide +kernel
theorem d2_59 : decode method_3_code 59 = .ok (.if_icmp .ne 6, 3) := by decide +kernel
theorem d2_62 : decode method_3_code 62 = .ok (.iconst 1, 1) := by decide +kernel
theorem d2_63 : decode method_3_code 63 = .ok (.istore 4, 2) := by decide +kernel
theorem d2_65 : decode method_3_code 65 = .ok (.iload_n 3, 1) := by decide +kernel
theorem d2_66 : decode method_3_code 66 = .ok (.ifCond .ne 5, 3) := by decide +kernel
theorem d2_69 : decode method_3_code 69 = .ok (.iconst 0, 1) := by decide +kernel
theorem d2_70 : decode method_3_code 70 = .ok (.ireturn, 1) := by decide +kernel
theorem d2_71 : decode method_3_code 71 = .ok (.iload_n 1, 1) := by decide +kernel
theorem d2_72 : decode method_3_code 72 = .ok (.ifCond .eq 10, 3) := by decide +kernel
theorem d2_75 : decode method_3_code 75 = .ok (.iload 4, 2) := by decide +kernel
theorem d2_77 : decode method_3_code 77 = .ok (.ifCond .eq 5, 3) := by decide +kernel
theorem d2_80 : decode method_3_code 80 = .ok (.iconst 0, 1) := by decide +kernel
theorem d2_81 : decode method_3_code 81 = .ok (.ireturn, 1) := by decide +kernel
theorem d2_82 : decode method_3_code 82 = .ok (.iconst 1, 1) := by decide +kernel
theorem d2_83 : decode method_3_code 83 = .ok (.ireturn, 1) := by decide +kernel
theorem pn_exp : plainName "com/example/bracketeer/bracketeer/xml/MarkupScanEndsLinePinLaw" = true := by first | (simp [plainName, overriddenIn]; done) | decide +kernel
theorem ef_exp (m : MethodId) (p0 : Int32) (p1 : Int32) (p2 : Int32) : entryFrame m #[(.int p0), (.int p1), (.int p2)] 5 = mkF m 0 #[.val (.int p0), .val (.int p1), .val (.int p2), .unset, .unset] [] := by first | (simp [entryFrame, mkF, argsToLocals, Value.category]; done) | rfl
def Q_exp (Z : State) (p0 : Int32) (p1 : Int32) (p2 : Int32) (h0 : Heap) (n0 : Nat) (v : Option Value) (h : Heap) (L : List Loc) : Prop := v = some (.int (own_exp p0 p1 p2)) ∧ Fr n0 L ∧ h = h0
set_option maxRecDepth 65536 in
set_option maxHeartbeats 40000000 in
theorem rm_exp (l : Launch) (Z : State) (a0 : Array Value) (hw : ∀ d ∈ tables_1, d.before a0 Z = true) (ws : List Jvm.Cond) (p0 : Int32) (p1 : Int32) (p2 : Int32) (h0 : Heap) (n0 : Nat) :
    MetFree l (⟨"com/example/bracketeer/bracketeer/xml/MarkupScanEndsLinePinLaw", "expected", "(CZZ)Z"⟩ : MethodName) (head1 (Jvm.Cond.code (⟨"com/example/bracketeer/bracketeer/xml/MarkupScanEndsLinePinLaw", "expected", "(CZZ)Z"⟩ : MethodName) method_3_code 5 (some .boolean) :: ws) ({ frames := 0, cells := 0, slots := 0, locals := 0 } : Room)) (fun a U => a = #[(.int p0), (.int p1), (.int p2)] ∧ Z.Warmed39 U.vm ∧ U.heap = h0) (fun _ _ _ _ _ => True) (fun _ U o U' => ∃ v L, o = .returned v ∧ Q_exp Z p0 p1 p2 h0 n0 v U'.heap L ∧ FrameEnd U o U' L ({ frames := 0, cells := 0, slots := 0, locals := 0 } : Room).cells ({ frames := 0, cells := 0, slots := 0, locals := 0 } : Room).slots) := by
  refine MetFree.of_bodySF (plainFor_of_name pn_exp) hisR ?_
  intro p e s m args below meth c s₁ Bd hml0 hP hK
  obtain ⟨rfl, hZ, hh⟩ := hP
  have hx := Bd.exec
  have hby := Bd.bytes
  have hml : c.maxLocals = 5 := hml0
  have hown : s.vm.findClass "com/example/bracketeer/bracketeer/xml/MarkupScanEndsLinePinLaw" = some m.cls := findClass_of_methodNamed Bd.named
  have hnm := (name_of_methodNamed Bd.named Bd.method).1
  have X0 : Stand p l e ({ frames := 0, cells := 0, slots := 0, locals := 0 } : Room) s m #[(.int p0), (.int p1), (.int p2)] below meth c s₁ [] 0 0 := Stand.of_body Bd
  have e0 : s₁.heap = h0 := by rw [← hh, Bd.state]; rfl
  have N0 := Fr.nil n0
  have pre0 : Go p.tables e below (s₁.setTop (entryFrame m #[(.int p0), (.int p1), (.int p2)] 5)) s₁ (mkF m 0 #[.val (.int p0), .val (.int p1), .val (.int p2), .unset, .unset] []) := fun t k => castTop (ef_exp m p0 p1 p2) k
  have pre1 : Go p.tables e below (s₁.setTop (entryFrame m #[(.int p0), (.int p1), (.int p2)] 5)) s₁ (mkF m 3 #[.val (.int p0), .val (.int p1), .val (.int p2), .unset, .unset] [(.int (13 : Int32)), (.int p0)]) := fun t k => pre0 t (by
      refine XS.iloadN X0.here hx rfl (hb hby d2_0) rfl ?_
      show Steps p.tables e below (s₁.setTop (mkF m 1 #[.val (.int p0), .val (.int p1), .val (.int p2), .unset, .unset] [(.int p0)])) _
      refine XS.bipush X0.here hx rfl (hb hby d2_1) ?_
      exact k)
  by_cases hc2 : p0 = (13 : Int32)
  · -- hc2: True
    have pre3 : Go p.tables e below (s₁.setTop (entryFrame m #[(.int p0), (.int p1), (.int p2)] 5)) s₁ (mkF m 19 #[.val (.int p0), .val (.int p1), .val (.int p2), .val (.int (1 : Int32)), .unset] [(.int p2)]) := fun t k => pre1 t (by
        refine XS.icmpYes X0.here hx rfl (pc0 := 3) (pc' := 12) rfl (hb hby d2_3) rfl (teq hc2).1 (by decide) (by decide) ?_
        show Steps p.tables e below (s₁.setTop (mkF m 12 #[.val (.int p0), .val (.int p1), .val (.int p2), .unset, .unset] [])) _
        refine XS.iconst X0.here hx rfl (hb hby d2_12) ?_
        show Steps p.tables e below (s₁.setTop (mkF m 13 #[.val (.int p0), .val (.int p1), .val (.int p2), .unset, .unset] [(.int (1 : Int32))])) _
        refine XS.goto X0.here hx rfl (pc0 := 13) (pc' := 17) rfl (hb hby d2_13) (by decide) (by decide) ?_
        show Steps p.tables e below (s₁.setTop (mkF m 17 #[.val (.int p0), .val (.int p1), .val (.int p2), .unset, .unset] [(.int (1 : Int32))])) _
        refine XS.istoreN X0.here hx rfl (hb hby d2_17) rfl (l' := #[.val (.int p0), .val (.int p1), .val (.int p2), .val (.int (1 : Int32)), .unset]) rfl ?_
        show Steps p.tables e below (s₁.setTop (mkF m 18 #[.val (.int p0), .val (.int p1), .val (.int p2), .val (.int (1 : Int32)), .unset] [])) _
        refine XS.iloadN X0.here hx rfl (hb hby d2_18) rfl ?_
        exact k)
    by_cases hc4 : p2 = (0 : Int32)
    · -- hc4: True
      have pre5 : Go p.tables e below (s₁.setTop (entryFrame m #[(.int p0), (.int p1), (.int p2)] 5)) s₁ (mkF m 72 #[.val (.int p0), .val (.int p1), .val (.int p2), .val (.int (1 : Int32)), .val (.int (0 : Int32))] [(.int p1)]) := fun t k => pre3 t (by
          refine XS.ifYes X0.here hx rfl (pc0 := 19) (pc' := 38) rfl (hb hby d2_19) rfl ((if0 _ _).trans (teq hc4).1) (by decide) (by decide) ?_
          show Steps p.tables e below (s₁.setTop (mkF m 38 #[.val (.int p0), .val (.int p1), .val (.int p2), .val (.int (1 : Int32)), .unset] [])) _
          refine XS.iloadN X0.here hx rfl (hb hby d2_38) rfl ?_
          show Steps p.tables e below (s₁.setTop (mkF m 39 #[.val (.int p0), .val (.int p1), .val (.int p2), .val (.int (1 : Int32)), .unset] [(.int p0)])) _
          refine XS.bipush X0.here hx rfl (hb hby d2_39) ?_
          show Steps p.tables e below (s₁.setTop (mkF m 41 #[.val (.int p0), .val (.int p1), .val (.int p2), .val (.int (1 : Int32)), .unset] [(.int (10 : Int32)), (.int p0)])) _
          refine XS.icmpYes X0.here hx rfl (pc0 := 41) (pc' := 48) rfl (hb hby d2_41) rfl (feq (fun q => absurd (hc2.symm.trans q) (by decide))).2 (by decide) (by decide) ?_
          show Steps p.tables e below (s₁.setTop (mkF m 48 #[.val (.int p0), .val (.int p1), .val (.int p2), .val (.int (1 : Int32)), .unset] [])) _
          refine XS.iconst X0.here hx rfl (hb hby d2_48) ?_
          show Steps p.tables e below (s₁.setTop (mkF m 49 #[.val (.int p0), .val (.int p1), .val (.int p2), .val (.int (1 : Int32)), .unset] [(.int (0 : Int32))])) _
          refine XS.istore X0.here hx rfl (hb hby d2_49) rfl (l' := #[.val (.int p0), .val (.int p1), .val (.int p2), .val (.int (1 : Int32)), .val (.int (0 : Int32))]) rfl ?_
          show Steps p.tables e below (s₁.setTop (mkF m 51 #[.val (.int p0), .val (.int p1), .val (.int p2), .val (.int (1 : Int32)), .val (.int (0 : Int32))] [])) _
          refine XS.iloadN X0.here hx rfl (hb hby d2_51) rfl ?_
          show Steps p.tables e below (s₁.setTop (mkF m 52 #[.val (.int p0), .val (.int p1), .val (.int p2), .val (.int (1 : Int32)), .val (.int (0 : Int32))] [(.int p2)])) _
          refine XS.ifYes X0.here hx rfl (pc0 := 52) (pc' := 65) rfl (hb hby d2_52) rfl ((if0 _ _).trans (teq hc4).1) (by decide) (by decide) ?_
          show Steps p.tables e below (s₁.setTop (mkF m 65 #[.val (.int p0), .val (.int p1), .val (.int p2), .val (.int (1 : Int32)), .val (.int (0 : Int32))] [])) _
          refine XS.iloadN X0.here hx rfl (hb hby d2_65) rfl ?_
          show Steps p.tables e below (s₁.setTop (mkF m 66 #[.val (.int p0), .val (.int p1), .val (.int p2), .val (.int (1 : Int32)), .val (.int (0 : Int32))] [(.int (1 : Int32))])) _
          refine XS.ifYes X0.here hx rfl (pc0 := 66) (pc' := 71) rfl (hb hby d2_66) rfl ((if0 _ _).trans (feq (by decide)).2) (by decide) (by decide) ?_
          show Steps p.tables e below (s₁.setTop (mkF m 71 #[.val (.int p0), .val (.int p1), .val (.int p2), .val (.int (1 : Int32)), .val (.int (0 : Int32))] [])) _
          refine XS.iloadN X0.here hx rfl (hb hby d2_71) rfl ?_
          exact k)
      by_cases hc6 : p1 = (0 : Int32)
      · -- hc6: True
        have pre7 : Go p.tables e below (s₁.setTop (entryFrame m #[(.int p0), (.int p1), (.int p2)] 5)) s₁ (mkF m 83 #[.val (.int p0), .val (.int p1), .val (.int p2), .val (.int (1 : Int32)), .val (.int (0 : Int32))] [(.int (1 : Int32))]) := fun t k => pre5 t (by
            refine XS.ifYes X0.here hx rfl (pc0 := 72) (pc' := 82) rfl (hb hby d2_72) rfl ((if0 _ _).trans (teq hc6).1) (by decide) (by decide) ?_
            show Steps p.tables e below (s₁.setTop (mkF m 82 #[.val (.int p0), .val (.int p1), .val (.int p2), .val (.int (1 : Int32)), .val (.int (0 : Int32))] [])) _
            refine XS.iconst X0.here hx rfl (hb hby d2_82) ?_
            exact k)
        obtain ⟨fs, hr, hrun, hended, hW, hsame⟩ := X0.leave (v := some (.int (1 : Int32))) (fun h => by rw [Bd.returns] at h; cases h) (BodyLoose.notSynchronized Bd)
        refine ⟨_, _, pre7 _ ?_, hrun, hended, _, _, rfl, ?_, ⟨_, rfl⟩, hW, hsame.mono (Nat.le_of_ble_eq_true rfl) (Nat.le_of_ble_eq_true rfl)⟩
        · exact retN X0 hx (t := .boolean) Bd.returns (by simp) (hb hby d2_83) hr
        · show Q_exp Z p0 p1 p2 h0 n0 _ s₁.heap _
          rw [e0]
          exact ⟨by simp [own_exp, own_le, own_jr, hc2, hc4, hc6], N0, rfl⟩
      · -- hc6: False
        have pre8 : Go p.tables e below (s₁.setTop (entryFrame m #[(.int p0), (.int p1), (.int p2)] 5)) s₁ (mkF m 83 #[.val (.int p0), .val (.int p1), .val (.int p2), .val (.int (1 : Int32)), .val (.int (0 : Int32))] [(.int (1 : Int32))]) := fun t k => pre5 t (by
            refine XS.ifNo X0.here hx rfl (hb hby d2_72) rfl ((if0 _ _).trans (feq hc6).1) ?_
            show Steps p.tables e below (s₁.setTop (mkF m 75 #[.val (.int p0), .val (.int p1), .val (.int p2), .val (.int (1 : Int32)), .val (.int (0 : Int32))] [])) _
            refine XS.iload X0.here hx rfl (hb hby d2_75) rfl ?_
            show Steps p.tables e below (s₁.setTop (mkF m 77 #[.val (.int p0), .val (.int p1), .val (.int p2), .val (.int (1 : Int32)), .val (.int (0 : Int32))] [(.int (0 : Int32))])) _
            refine XS.ifYes X0.here hx rfl (pc0 := 77) (pc' := 82) rfl (hb hby d2_77) rfl ((if0 _ _).trans (teq (by decide)).1) (by decide) (by decide) ?_
            show Steps p.tables e below (s₁.setTop (mkF m 82 #[.val (.int p0), .val (.int p1), .val (.int p2), .val (.int (1 : Int32)), .val (.int (0 : Int32))] [])) _
            refine XS.iconst X0.here hx rfl (hb hby d2_82) ?_
            exact k)
        obtain ⟨fs, hr, hrun, hended, hW, hsame⟩ := X0.leave (v := some (.int (1 : Int32))) (fun h => by rw [Bd.returns] at h; cases h) (BodyLoose.notSynchronized Bd)
        refine ⟨_, _, pre8 _ ?_, hrun, hended, _, _, rfl, ?_, ⟨_, rfl⟩, hW, hsame.mono (Nat.le_of_ble_eq_true rfl) (Nat.le_of_ble_eq_true rfl)⟩
        · exact retN X0 hx (t := .boolean) Bd.returns (by simp) (hb hby d2_83) hr
        · show Q_exp Z p0 p1 p2 h0 n0 _ s₁.heap _
          rw [e0]
          exact ⟨by simp [own_exp, own_le, own_jr, hc2, hc4, hc6], N0, rfl⟩
    · -- hc4: False
      have pre9 : Go p.tables e below (s₁.setTop (entryFrame m #[(.int p0), (.int p1), (.int p2)] 5)) s₁ (mkF m 72 #[.val (.int p0), .val (.int p1), .val (.int p2), .val (.int (1 : Int32)), .val (.int (0 : Int32))] [(.int p1)]) := fun t k => pre3 t (by
          refine XS.ifNo X0.here hx rfl (hb hby d2_19) rfl ((if0 _ _).trans (feq hc4).1) ?_
          show Steps p.tables e below (s₁.setTop (mkF m 22 #[.val (.int p0), .val (.int p1), .val (.int p2), .val (.int (1 : Int32)), .unset] [])) _
          refine XS.iloadN X0.here hx rfl (hb hby d2_22) rfl ?_
          show Steps p.tables e below (s₁.setTop (mkF m 23 #[.val (.int p0), .val (.int p1), .val (.int p2), .val (.int (1 : Int32)), .unset] [(.int p0)])) _
          refine XS.sipush X0.here hx rfl (hb hby d2_23) ?_
          show Steps p.tables e below (s₁.setTop (mkF m 26 #[.val (.int p0), .val (.int p1), .val (.int p2), .val (.int (1 : Int32)), .unset] [(.int (133 : Int32)), (.int p0)])) _
          refine XS.icmpNo X0.here hx rfl (hb hby d2_26) rfl (feq (fun q => absurd (hc2.symm.trans q) (by decide))).1 ?_
          show Steps p.tables e below (s₁.setTop (mkF m 29 #[.val (.int p0), .val (.int p1), .val (.int p2), .val (.int (1 : Int32)), .unset] [])) _
          refine XS.iloadN X0.here hx rfl (hb hby d2_29) rfl ?_
          show Steps p.tables e below (s₁.setTop (mkF m 30 #[.val (.int p0), .val (.int p1), .val (.int p2), .val (.int (1 : Int32)), .unset] [(.int p0)])) _
          refine XS.sipush X0.here hx rfl (hb hby d2_30) ?_
          show Steps p.tables e below (s₁.setTop (mkF m 33 #[.val (.int p0), .val (.int p1), .val (.int p2), .val (.int (1 : Int32)), .unset] [(.int (8232 : Int32)), (.int p0)])) _
          refine XS.icmpYes X0.here hx rfl (pc0 := 33) (pc' := 38) rfl (hb hby d2_33) rfl (feq (fun q => absurd (hc2.symm.trans q) (by decide))).2 (by decide) (by decide) ?_
          show Steps p.tables e below (s₁.setTop (mkF m 38 #[.val (.int p0), .val (.int p1), .val (.int p2), .val (.int (1 : Int32)), .unset] [])) _
          refine XS.iloadN X0.here hx rfl (hb hby d2_38) rfl ?_
          show Steps p.tables e below (s₁.setTop (mkF m 39 #[.val (.int p0), .val (.int p1), .val (.int p2), .val (.int (1 : Int32)), .unset] [(.int p0)])) _
          refine XS.bipush X0.here hx rfl (hb hby d2_39) ?_
          show Steps p.tables e below (s₁.setTop (mkF m 41 #[.val (.int p0), .val (.int p1), .val (.int p2), .val (.int (1 : Int32)), .unset] [(.int (10 : Int32)), (.int p0)])) _
          refine XS.icmpYes X0.here hx rfl (pc0 := 41) (pc' := 48) rfl (hb hby d2_41) rfl (feq (fun q => absurd (hc2.symm.trans q) (by decide))).2 (by decide) (by decide) ?_
          show Steps p.tables e below (s₁.setTop (mkF m 48 #[.val (.int p0), .val (.int p1), .val (.int p2), .val (.int (1 : Int32)), .unset] [])) _
          refine XS.iconst X0.here hx rfl (hb hby d2_48) ?_
          show Steps p.tables e below (s₁.setTop (mkF m 49 #[.val (.int p0), .val (.int p1), .val (.int p2), .val (.int (1 : Int32)), .unset] [(.int (0 : Int32))])) _
          refine XS.istore X0.here hx rfl (hb hby d2_49) rfl (l' := #[.val (.int p0), .val (.int p1), .val (.int p2), .val (.int (1 : Int32)), .val (.int (0 : Int32))]) rfl ?_
          show Steps p.tables e below (s₁.setTop (mkF m 51 #[.val (.int p0), .val (.int p1), .val (.int p2), .val (.int (1 : Int32)), .val (.int (0 : Int32))] [])) _
          refine XS.iloadN X0.here hx rfl (hb hby d2_51) rfl ?_
          show Steps p.tables e below (s₁.setTop (mkF m 52 #[.val (.int p0), .val (.int p1), .val (.int p2), .val (.int (1 : Int32)), .val (.int (0 : Int32))] [(.int p2)])) _
          refine XS.ifNo X0.here hx rfl (hb hby d2_52) rfl ((if0 _ _).trans (feq hc4).1) ?_
          show Steps p.tables e below (s₁.setTop (mkF m 55 #[.val (.int p0), .val (.int p1), .val (.int p2), .val (.int (1 : Int32)), .val (.int (0 : Int32))] [])) _
          refine XS.iloadN X0.here hx rfl (hb hby d2_55) rfl ?_
          show Steps p.tables e below (s₁.setTop (mkF m 56 #[.val (.int p0), .val (.int p1), .val (.int p2), .val (.int (1 : Int32)), .val (.int (0 : Int32))] [(.int p0)])) _
          refine XS.sipush X0.here hx rfl (hb hby d2_56) ?_
          show Steps p.tables e below (s₁.setTop (mkF m 59 #[.val (.int p0), .val (.int p1), .val (.int p2), .val (.int (1 : Int32)), .val (.int (0 : Int32))] [(.int (133 : Int32)), (.int p0)])) _
          refine XS.icmpYes X0.here hx rfl (pc0 := 59) (pc' := 65) rfl (hb hby d2_59) rfl (feq (fun q => absurd (hc2.symm.trans q) (by decide))).2 (by decide) (by decide) ?_
          show Steps p.tables e below (s₁.setTop (mkF m 65 #[.val (.int p0), .val (.int p1), .val (.int p2), .val (.int (1 : Int32)), .val (.int (0 : Int32))] [])) _
          refine XS.iloadN X0.here hx rfl (hb hby d2_65) rfl ?_
          show Steps p.tables e below (s₁.setTop (mkF m 66 #[.val (.int p0), .val (.int p1), .val (.int p2), .val (.int (1 : Int32)), .val (.int (0 : Int32))] [(.int (1 : Int32))])) _
          refine XS.ifYes X0.here hx rfl (pc0 := 66) (pc' := 71) rfl (hb hby d2_66) rfl ((if0 _ _).trans (feq (by decide)).2) (by decide) (by decide) ?_
          show Steps p.tables e below (s₁.setTop (mkF m 71 #[.val (.int p0), .val (.int p1), .val (.int p2), .val (.int (1 : Int32)), .val (.int (0 : Int32))] [])) _
          refine XS.iloadN X0.here hx rfl (hb hby d2_71) rfl ?_
          exact k)
      by_cases hc10 : p1 = (0 : Int32)
      · -- hc10: True
        have pre11 : Go p.tables e below (s₁.setTop (entryFrame m #[(.int p0), (.int p1), (.int p2)] 5)) s₁ (mkF m 83 #[.val (.int p0), .val (.int p1), .val (.int p2), .val (.int (1 : Int32)), .val (.int (0 : Int32))] [(.int (1 : Int32))]) := fun t k => pre9 t (by
            refine XS.ifYes X0.here hx rfl (pc0 := 72) (pc' := 82) rfl (hb hby d2_72) rfl ((if0 _ _).trans (teq hc10).1) (by decide) (by decide) ?_
            show Steps p.tables e below (s₁.setTop (mkF m 82 #[.val (.int p0), .val (.int p1), .val (.int p2), .val (.int (1 : Int32)), .val (.int (0 : Int32))] [])) _
            refine XS.iconst X0.here hx rfl (hb hby d2_82) ?_
            exact k)
        obtain ⟨fs, hr, hrun, hended, hW, hsame⟩ := X0.leave (v := some (.int (1 : Int32))) (fun h => by rw [Bd.returns] at h; cases h) (BodyLoose.notSynchronized Bd)
        refine ⟨_, _, pre11 _ ?_, hrun, hended, _, _, rfl, ?_, ⟨_, rfl⟩, hW, hsame.mono (Nat.le_of_ble_eq_true rfl) (Nat.le_of_ble_eq_true rfl)⟩
        · exact retN X0 hx (t := .boolean) Bd.returns (by simp) (hb hby d2_83) hr
        · show Q_exp Z p0 p1 p2 h0 n0 _ s₁.heap _
          rw [e0]
          exact ⟨by simp [own_exp, own_le, own_jr, hc2, hc4, hc10], N0, rfl⟩
      · -- hc10: False
        have pre12 : Go p.tables e below (s₁.setTop (entryFrame m #[(.int p0), (.int p1), (.int p2)] 5)) s₁ (mkF m 83 #[.val (.int p0), .val (.int p1), .val (.int p2), .val (.int (1 : Int32)), .val (.int (0 : Int32))] [(.int (1 : Int32))]) := fun t k => pre9 t (by
            refine XS.ifNo X0.here hx rfl (hb hby d2_72) rfl ((if0 _ _).trans (feq hc10).1) ?_
            show Steps p.tables e below (s₁.setTop (mkF m 75 #[.val (.int p0), .val (.int p1), .val (.int p2), .val (.int (1 : Int32)), .val (.int (0 : Int32))] [])) _
            refine XS.iload X0.here hx rfl (hb hby d2_75) rfl ?_
            show Steps p.tables e below (s₁.setTop (mkF m 77 #[.val (.int p0), .val (.int p1), .val (.int p2), .val (.int (1 : Int32)), .val (.int (0 : Int32))] [(.int (0 : Int32))])) _
            refine XS.ifYes X0.here hx rfl (pc0 := 77) (pc' := 82) rfl (hb hby d2_77) rfl ((if0 _ _).trans (teq (by decide)).1) (by decide) (by decide) ?_
            show Steps p.tables e below (s₁.setTop (mkF m 82 #[.val (.int p0), .val (.int p1), .val (.int p2), .val (.int (1 : Int32)), .val (.int (0 : Int32))] [])) _
            refine XS.iconst X0.here hx rfl (hb hby d2_82) ?_
            exact k)
        obtain ⟨fs, hr, hrun, hended, hW, hsame⟩ := X0.leave (v := some (.int (1 : Int32))) (fun h => by rw [Bd.returns] at h; cases h) (BodyLoose.notSynchronized Bd)
        refine ⟨_, _, pre12 _ ?_, hrun, hended, _, _, rfl, ?_, ⟨_, rfl⟩, hW, hsame.mono (Nat.le_of_ble_eq_true rfl) (Nat.le_of_ble_eq_true rfl)⟩
        · exact retN X0 hx (t := .boolean) Bd.returns (by simp) (hb hby d2_83) hr
        · show Q_exp Z p0 p1 p2 h0 n0 _ s₁.heap _
          rw [e0]
          exact ⟨by simp [own_exp, own_le, own_jr, hc2, hc4, hc10], N0, rfl⟩
  · -- hc2: False
    have pre13 : Go p.tables e below (s₁.setTop (entryFrame m #[(.int p0), (.int p1), (.int p2)] 5)) s₁ (mkF m 9 #[.val (.int p0), .val (.int p1), .val (.int p2), .unset, .unset] [(.int (10 : Int32)), (.int p0)]) := fun t k => pre1 t (by
        refine XS.icmpNo X0.here hx rfl (hb hby d2_3) rfl (feq hc2).1 ?_
        show Steps p.tables e below (s₁.setTop (mkF m 6 #[.val (.int p0), .val (.int p1), .val (.int p2), .unset, .unset] [])) _
        refine XS.iloadN X0.here hx rfl (hb hby d2_6) rfl ?_
        show Steps p.tables e below (s₁.setTop (mkF m 7 #[.val (.int p0), .val (.int p1), .val (.int p2), .unset, .unset] [(.int p0)])) _
        refine XS.bipush X0.here hx rfl (hb hby d2_7) ?_
        exact k)
    by_cases hc14 : p0 = (10 : Int32)
    · -- hc14: True
      have pre15 : Go p.tables e below (s₁.setTop (entryFrame m #[(.int p0), (.int p1), (.int p2)] 5)) s₁ (mkF m 19 #[.val (.int p0), .val (.int p1), .val (.int p2), .val (.int (1 : Int32)), .unset] [(.int p2)]) := fun t k => pre13 t (by
          refine XS.icmpNo X0.here hx rfl (hb hby d2_9) rfl (teq hc14).2 ?_
          show Steps p.tables e below (s₁.setTop (mkF m 12 #[.val (.int p0), .val (.int p1), .val (.int p2), .unset, .unset] [])) _
          refine XS.iconst X0.here hx rfl (hb hby d2_12) ?_
          show Steps p.tables e below (s₁.setTop (mkF m 13 #[.val (.int p0), .val (.int p1), .val (.int p2), .unset, .unset] [(.int (1 : Int32))])) _
          refine XS.goto X0.here hx rfl (pc0 := 13) (pc' := 17) rfl (hb hby d2_13) (by decide) (by decide) ?_
          show Steps p.tables e below (s₁.setTop (mkF m 17 #[.val (.int p0), .val (.int p1), .val (.int p2), .unset, .unset] [(.int (1 : Int32))])) _
          refine XS.istoreN X0.here hx rfl (hb hby d2_17) rfl (l' := #[.val (.int p0), .val (.int p1), .val (.int p2), .val (.int (1 : Int32)), .unset]) rfl ?_
          show Steps p.tables e below (s₁.setTop (mkF m 18 #[.val (.int p0), .val (.int p1), .val (.int p2), .val (.int (1 : Int32)), .unset] [])) _
          refine XS.iloadN X0.here hx rfl (hb hby d2_18) rfl ?_
          exact k)
      by_cases hc16 : p2 = (0 : Int32)
      · -- hc16: True
        have pre17 : Go p.tables e below (s₁.setTop (entryFrame m #[(.int p0), (.int p1), (.int p2)] 5)) s₁ (mkF m 72 #[.val (.int p0), .val (.int p1), .val (.int p2), .val (.int (1 : Int32)), .val (.int (1 : Int32))] [(.int p1)]) := fun t k => pre15 t (by
            refine XS.ifYes X0.here hx rfl (pc0 := 19) (pc' := 38) rfl (hb hby d2_19) rfl ((if0 _ _).trans (teq hc16).1) (by decide) (by decide) ?_
            show Steps p.tables e below (s₁.setTop (mkF m 38 #[.val (.int p0), .val (.int p1), .val (.int p2), .val (.int (1 : Int32)), .unset] [])) _
            refine XS.iloadN X0.here hx rfl (hb hby d2_38) rfl ?_
            show Steps p.tables e below (s₁.setTop (mkF m 39 #[.val (.int p0), .val (.int p1), .val (.int p2), .val (.int (1 : Int32)), .unset] [(.int p0)])) _
            refine XS.bipush X0.here hx rfl (hb hby d2_39) ?_
            show Steps p.tables e below (s₁.setTop (mkF m 41 #[.val (.int p0), .val (.int p1), .val (.int p2), .val (.int (1 : Int32)), .unset] [(.int (10 : Int32)), (.int p0)])) _
            refine XS.icmpNo X0.here hx rfl (hb hby d2_41) rfl (teq hc14).2 ?_
            show Steps p.tables e below (s₁.setTop (mkF m 44 #[.val (.int p0), .val (.int p1), .val (.int p2), .val (.int (1 : Int32)), .unset] [])) _
            refine XS.iconst X0.here hx rfl (hb hby d2_44) ?_
            show Steps p.tables e below (s₁.setTop (mkF m 45 #[.val (.int p0), .val (.int p1), .val (.int p2), .val (.int (1 : Int32)), .unset] [(.int (1 : Int32))])) _
            refine XS.goto X0.here hx rfl (pc0 := 45) (pc' := 49) rfl (hb hby d2_45) (by decide) (by decide) ?_
            show Steps p.tables e below (s₁.setTop (mkF m 49 #[.val (.int p0), .val (.int p1), .val (.int p2), .val (.int (1 : Int32)), .unset] [(.int (1 : Int32))])) _
            refine XS.istore X0.here hx rfl (hb hby d2_49) rfl (l' := #[.val (.int p0), .val (.int p1), .val (.int p2), .val (.int (1 : Int32)), .val (.int (1 : Int32))]) rfl ?_
            show Steps p.tables e below (s₁.setTop (mkF m 51 #[.val (.int p0), .val (.int p1), .val (.int p2), .val (.int (1 : Int32)), .val (.int (1 : Int32))] [])) _
            refine XS.iloadN X0.here hx rfl (hb hby d2_51) rfl ?_
            show Steps p.tables e below (s₁.setTop (mkF m 52 #[.val (.int p0), .val (.int p1), .val (.int p2), .val (.int (1 : Int32)), .val (.int (1 : Int32))] [(.int p2)])) _
            refine XS.ifYes X0.here hx rfl (pc0 := 52) (pc' := 65) rfl (hb hby d2_52) rfl ((if0 _ _).trans (teq hc16).1) (by decide) (by decide) ?_
            show Steps p.tables e below (s₁.setTop (mkF m 65 #[.val (.int p0), .val (.int p1), .val (.int p2), .val (.int (1 : Int32)), .val (.int (1 : Int32))] [])) _
            refine XS.iloadN X0.here hx rfl (hb hby d2_65) rfl ?_
            show Steps p.tables e below (s₁.setTop (mkF m 66 #[.val (.int p0), .val (.int p1), .val (.int p2), .val (.int (1 : Int32)), .val (.int (1 : Int32))] [(.int (1 : Int32))])) _
            refine XS.ifYes X0.here hx rfl (pc0 := 66) (pc' := 71) rfl (hb hby d2_66) rfl ((if0 _ _).trans (feq (by decide)).2) (by decide) (by decide) ?_
            show Steps p.tables e below (s₁.setTop (mkF m 71 #[.val (.int p0), .val (.int p1), .val (.int p2), .val (.int (1 : Int32)), .val (.int (1 : Int32))] [])) _
            refine XS.iloadN X0.here hx rfl (hb hby d2_71) rfl ?_
            exact k)
        by_cases hc18 : p1 = (0 : Int32)
        · -- hc18: True
          have pre19 : Go p.tables e below (s₁.setTop (entryFrame m #[(.int p0), (.int p1), (.int p2)] 5)) s₁ (mkF m 83 #[.val (.int p0), .val (.int p1), .val (.int p2), .val (.int (1 : Int32)), .val (.int (1 : Int32))] [(.int (1 : Int32))]) := fun t k => pre17 t (by
              refine XS.ifYes X0.here hx rfl (pc0 := 72) (pc' := 82) rfl (hb hby d2_72) rfl ((if0 _ _).trans (teq hc18).1) (by decide) (by decide) ?_
              show Steps p.tables e below (s₁.setTop (mkF m 82 #[.val (.int p0), .val (.int p1), .val (.int p2), .val (.int (1 : Int32)), .val (.int (1 : Int32))] [])) _
              refine XS.iconst X0.here hx rfl (hb hby d2_82) ?_
              exact k)
          obtain ⟨fs, hr, hrun, hended, hW, hsame⟩ := X0.leave (v := some (.int (1 : Int32))) (fun h => by rw [Bd.returns] at h; cases h) (BodyLoose.notSynchronized Bd)
          refine ⟨_, _, pre19 _ ?_, hrun, hended, _, _, rfl, ?_, ⟨_, rfl⟩, hW, hsame.mono (Nat.le_of_ble_eq_true rfl) (Nat.le_of_ble_eq_true rfl)⟩
          · exact retN X0 hx (t := .boolean) Bd.returns (by simp) (hb hby d2_83) hr
          · show Q_exp Z p0 p1 p2 h0 n0 _ s₁.heap _
            rw [e0]
            exact ⟨by simp [own_exp, own_le, own_jr, hc2, hc14, hc16, hc18], N0, rfl⟩
        · -- hc18: False
          have pre20 : Go p.tables e below (s₁.setTop (entryFrame m #[(.int p0), (.int p1), (.int p2)] 5)) s₁ (mkF m 81 #[.val (.int p0), .val (.int p1), .val (.int p2), .val (.int (1 : Int32)), .val (.int (1 : Int32))] [(.int (0 : Int32))]) := fun t k => pre17 t (by
              refine XS.ifNo X0.here hx rfl (hb hby d2_72) rfl ((if0 _ _).trans (feq hc18).1) ?_
              show Steps p.tables e below (s₁.setTop (mkF m 75 #[.val (.int p0), .val (.int p1), .val (.int p2), .val (.int (1 : Int32)), .val (.int (1 : Int32))] [])) _
              refine XS.iload X0.here hx rfl (hb hby d2_75) rfl ?_
              show Steps p.tables e below (s₁.setTop (mkF m 77 #[.val (.int p0), .val (.int p1), .val (.int p2), .val (.int (1 : Int32)), .val (.int (1 : Int32))] [(.int (1 : Int32))])) _
              refine XS.ifNo X0.here hx rfl (hb hby d2_77) rfl ((if0 _ _).trans (feq (by decide)).1) ?_
              show Steps p.tables e below (s₁.setTop (mkF m 80 #[.val (.int p0), .val (.int p1), .val (.int p2), .val (.int (1 : Int32)), .val (.int (1 : Int32))] [])) _
              refine XS.iconst X0.here hx rfl (hb hby d2_80) ?_
              exact k)
          obtain ⟨fs, hr, hrun, hended, hW, hsame⟩ := X0.leave (v := some (.int (0 : Int32))) (fun h => by rw [Bd.returns] at h; cases h) (BodyLoose.notSynchronized Bd)
          refine ⟨_, _, pre20 _ ?_, hrun, hended, _, _, rfl, ?_, ⟨_, rfl⟩, hW, hsame.mono (Nat.le_of_ble_eq_true rfl) (Nat.le_of_ble_eq_true rfl)⟩
          · exact retN X0 hx (t := .boolean) Bd.returns (by simp) (hb hby d2_81) hr
          · show Q_exp Z p0 p1 p2 h0 n0 _ s₁.heap _
            rw [e0]
            exact ⟨by simp [own_exp, own_le, own_jr, hc2, hc14, hc16, hc18], N0, rfl⟩
      · -- hc16: False
        have pre21 : Go p.tables e below (s₁.setTop (entryFrame m #[(.int p0), (.int p1), (.int p2)] 5)) s₁ (mkF m 72 #[.val (.int p0), .val (.int p1), .val (.int p2), .val (.int (1 : Int32)), .val (.int (1 : Int32))] [(.int p1)]) := fun t k => pre15 t (by
            refine XS.ifNo X0.here hx rfl (hb hby d2_19) rfl ((if0 _ _).trans (feq hc16).1) ?_
            show Steps p.tables e below (s₁.setTop (mkF m 22 #[.val (.int p0), .val (.int p1), .val (.int p2), .val (.int (1 : Int32)), .unset] [])) _
            refine XS.iloadN X0.here hx rfl (hb hby d2_22) rfl ?_
            show Steps p.tables e below (s₁.setTop (mkF m 23 #[.val (.int p0), .val (.int p1), .val (.int p2), .val (.int (1 : Int32)), .unset] [(.int p0)])) _
            refine XS.sipush X0.here hx rfl (hb hby d2_23) ?_
            show Steps p.tables e below (s₁.setTop (mkF m 26 #[.val (.int p0), .val (.int p1), .val (.int p2), .val (.int (1 : Int32)), .unset] [(.int (133 : Int32)), (.int p0)])) _
            refine XS.icmpNo X0.here hx rfl (hb hby d2_26) rfl (feq (fun q => absurd (hc14.symm.trans q) (by decide))).1 ?_
            show Steps p.tables e below (s₁.setTop (mkF m 29 #[.val (.int p0), .val (.int p1), .val (.int p2), .val (.int (1 : Int32)), .unset] [])) _
            refine XS.iloadN X0.here hx rfl (hb hby d2_29) rfl ?_
            show Steps p.tables e below (s₁.setTop (mkF m 30 #[.val (.int p0), .val (.int p1), .val (.int p2), .val (.int (1 : Int32)), .unset] [(.int p0)])) _
            refine XS.sipush X0.here hx rfl (hb hby d2_30) ?_
            show Steps p.tables e below (s₁.setTop (mkF m 33 #[.val (.int p0), .val (.int p1), .val (.int p2), .val (.int (1 : Int32)), .unset] [(.int (8232 : Int32)), (.int p0)])) _
            refine XS.icmpYes X0.here hx rfl (pc0 := 33) (pc' := 38) rfl (hb hby d2_33) rfl (feq (fun q => absurd (hc14.symm.trans q) (by decide))).2 (by decide) (by decide) ?_
            show Steps p.tables e below (s₁.setTop (mkF m 38 #[.val (.int p0), .val (.int p1), .val (.int p2), .val (.int (1 : Int32)), .unset] [])) _
            refine XS.iloadN X0.here hx rfl (hb hby d2_38) rfl ?_
            show Steps p.tables e below (s₁.setTop (mkF m 39 #[.val (.int p0), .val (.int p1), .val (.int p2), .val (.int (1 : Int32)), .unset] [(.int p0)])) _
            refine XS.bipush X0.here hx rfl (hb hby d2_39) ?_
            show Steps p.tables e below (s₁.setTop (mkF m 41 #[.val (.int p0), .val (.int p1), .val (.int p2), .val (.int (1 : Int32)), .unset] [(.int (10 : Int32)), (.int p0)])) _
            refine XS.icmpNo X0.here hx rfl (hb hby d2_41) rfl (teq hc14).2 ?_
            show Steps p.tables e below (s₁.setTop (mkF m 44 #[.val (.int p0), .val (.int p1), .val (.int p2), .val (.int (1 : Int32)), .unset] [])) _
            refine XS.iconst X0.here hx rfl (hb hby d2_44) ?_
            show Steps p.tables e below (s₁.setTop (mkF m 45 #[.val (.int p0), .val (.int p1), .val (.int p2), .val (.int (1 : Int32)), .unset] [(.int (1 : Int32))])) _
            refine XS.goto X0.here hx rfl (pc0 := 45) (pc' := 49) rfl (hb hby d2_45) (by decide) (by decide) ?_
            show Steps p.tables e below (s₁.setTop (mkF m 49 #[.val (.int p0), .val (.int p1), .val (.int p2), .val (.int (1 : Int32)), .unset] [(.int (1 : Int32))])) _
            refine XS.istore X0.here hx rfl (hb hby d2_49) rfl (l' := #[.val (.int p0), .val (.int p1), .val (.int p2), .val (.int (1 : Int32)), .val (.int (1 : Int32))]) rfl ?_
            show Steps p.tables e below (s₁.setTop (mkF m 51 #[.val (.int p0), .val (.int p1), .val (.int p2), .val (.int (1 : Int32)), .val (.int (1 : Int32))] [])) _
            refine XS.iloadN X0.here hx rfl (hb hby d2_51) rfl ?_
            show Steps p.tables e below (s₁.setTop (mkF m 52 #[.val (.int p0), .val (.int p1), .val (.int p2), .val (.int (1 : Int32)), .val (.int (1 : Int32))] [(.int p2)])) _
            refine XS.ifNo X0.here hx rfl (hb hby d2_52) rfl ((if0 _ _).trans (feq hc16).1) ?_
            show Steps p.tables e below (s₁.setTop (mkF m 55 #[.val (.int p0), .val (.int p1), .val (.int p2), .val (.int (1 : Int32)), .val (.int (1 : Int32))] [])) _
            refine XS.iloadN X0.here hx rfl (hb hby d2_55) rfl ?_
            show Steps p.tables e below (s₁.setTop (mkF m 56 #[.val (.int p0), .val (.int p1), .val (.int p2), .val (.int (1 : Int32)), .val (.int (1 : Int32))] [(.int p0)])) _
            refine XS.sipush X0.here hx rfl (hb hby d2_56) ?_
            show Steps p.tables e below (s₁.setTop (mkF m 59 #[.val (.int p0), .val (.int p1), .val (.int p2), .val (.int (1 : Int32)), .val (.int (1 : Int32))] [(.int (133 : Int32)), (.int p0)])) _
            refine XS.icmpYes X0.here hx rfl (pc0 := 59) (pc' := 65) rfl (hb hby d2_59) rfl (feq (fun q => absurd (hc14.symm.trans q) (by decide))).2 (by decide) (by decide) ?_
            show Steps p.tables e below (s₁.setTop (mkF m 65 #[.val (.int p0), .val (.int p1), .val (.int p2), .val (.int (1 : Int32)), .val (.int (1 : Int32))] [])) _
            refine XS.iloadN X0.here hx rfl (hb hby d2_65) rfl ?_
            show Steps p.tables e below (s₁.setTop (mkF m 66 #[.val (.int p0), .val (.int p1), .val (.int p2), .val (.int (1 : Int32)), .val (.int (1 : Int32))] [(.int (1 : Int32))])) _
            refine XS.ifYes X0.here hx rfl (pc0 := 66) (pc' := 71) rfl (hb hby d2_66) rfl ((if0 _ _).trans (feq (by decide)).2) (by decide) (by decide) ?_
            show Steps p.tables e below (s₁.setTop (mkF m 71 #[.val (.int p0), .val (.int p1), .val (.int p2), .val (.int (1 : Int32)), .val (.int (1 : Int32))] [])) _
            refine XS.iloadN X0.here hx rfl (hb hby d2_71) rfl ?_
            exact k)
        by_cases hc22 : p1 = (0 : Int32)
        · -- hc22: True
          have pre23 : Go p.tables e below (s₁.setTop (entryFrame m #[(.int p0), (.int p1), (.int p2)] 5)) s₁ (mkF m 83 #[.val (.int p0), .val (.int p1), .val (.int p2), .val (.int (1 : Int32)), .val (.int (1 : Int32))] [(.int (1 : Int32))]) := fun t k => pre21 t (by
              refine XS.ifYes X0.here hx rfl (pc0 := 72) (pc' := 82) rfl (hb hby d2_72) rfl ((if0 _ _).trans (teq hc22).1) (by decide) (by decide) ?_
              show Steps p.tables e below (s₁.setTop (mkF m 82 #[.val (.int p0), .val (.int p1), .val (.int p2), .val (.int (1 : Int32)), .val (.int (1 : Int32))] [])) _
              refine XS.iconst X0.here hx rfl (hb hby d2_82) ?_
              exact k)
          obtain ⟨fs, hr, hrun, hended, hW, hsame⟩ := X0.leave (v := some (.int (1 : Int32))) (fun h => by rw [Bd.returns] at h; cases h) (BodyLoose.notSynchronized Bd)
          refine ⟨_, _, pre23 _ ?_, hrun, hended, _, _, rfl, ?_, ⟨_, rfl⟩, hW, hsame.mono (Nat.le_of_ble_eq_true rfl) (Nat.le_of_ble_eq_true rfl)⟩
          · exact retN X0 hx (t := .boolean) Bd.returns (by simp) (hb hby d2_83) hr
          · show Q_exp Z p0 p1 p2 h0 n0 _ s₁.heap _
            rw [e0]
            exact ⟨by simp [own_exp, own_le, own_jr, hc2, hc14, hc16, hc22], N0, rfl⟩
        · -- hc22: False
          have pre24 : Go p.tables e below (s₁.setTop (entryFrame m #[(.int p0), (.int p1), (.int p2)] 5)) s₁ (mkF m 81 #[.val (.int p0), .val (.int p1), .val (.int p2), .val (.int (1 : Int32)), .val (.int (1 : Int32))] [(.int (0 : Int32))]) := fun t k => pre21 t (by
              refine XS.ifNo X0.here hx rfl (hb hby d2_72) rfl ((if0 _ _).trans (feq hc22).1) ?_
              show Steps p.tables e below (s₁.setTop (mkF m 75 #[.val (.int p0), .val (.int p1), .val (.int p2), .val (.int (1 : Int32)), .val (.int (1 : Int32))] [])) _
              refine XS.iload X0.here hx rfl (hb hby d2_75) rfl ?_
              show Steps p.tables e below (s₁.setTop (mkF m 77 #[.val (.int p0), .val (.int p1), .val (.int p2), .val (.int (1 : Int32)), .val (.int (1 : Int32))] [(.int (1 : Int32))])) _
              refine XS.ifNo X0.here hx rfl (hb hby d2_77) rfl ((if0 _ _).trans (feq (by decide)).1) ?_
              show Steps p.tables e below (s₁.setTop (mkF m 80 #[.val (.int p0), .val (.int p1), .val (.int p2), .val (.int (1 : Int32)), .val (.int (1 : Int32))] [])) _
              refine XS.iconst X0.here hx rfl (hb hby d2_80) ?_
              exact k)
          obtain ⟨fs, hr, hrun, hended, hW, hsame⟩ := X0.leave (v := some (.int (0 : Int32))) (fun h => by rw [Bd.returns] at h; cases h) (BodyLoose.notSynchronized Bd)
          refine ⟨_, _, pre24 _ ?_, hrun, hended, _, _, rfl, ?_, ⟨_, rfl⟩, hW, hsame.mono (Nat.le_of_ble_eq_true rfl) (Nat.le_of_ble_eq_true rfl)⟩
          · exact retN X0 hx (t := .boolean) Bd.returns (by simp) (hb hby d2_81) hr
          · show Q_exp Z p0 p1 p2 h0 n0 _ s₁.heap _
            rw [e0]
            exact ⟨by simp [own_exp, own_le, own_jr, hc2, hc14, hc16, hc22], N0, rfl⟩
    · -- hc14: False
      have pre25 : Go p.tables e below (s₁.setTop (entryFrame m #[(.int p0), (.int p1), (.int p2)] 5)) s₁ (mkF m 19 #[.val (.int p0), .val (.int p1), .val (.int p2), .val (.int (0 : Int32)), .unset] [(.int p2)]) := fun t k => pre13 t (by
          refine XS.icmpYes X0.here hx rfl (pc0 := 9) (pc' := 16) rfl (hb hby d2_9) rfl (feq hc14).2 (by decide) (by decide) ?_
          show Steps p.tables e below (s₁.setTop (mkF m 16 #[.val (.int p0), .val (.int p1), .val (.int p2), .unset, .unset] [])) _
          refine XS.iconst X0.here hx rfl (hb hby d2_16) ?_
          show Steps p.tables e below (s₁.setTop (mkF m 17 #[.val (.int p0), .val (.int p1), .val (.int p2), .unset, .unset] [(.int (0 : Int32))])) _
          refine XS.istoreN X0.here hx rfl (hb hby d2_17) rfl (l' := #[.val (.int p0), .val (.int p1), .val (.int p2), .val (.int (0 : Int32)), .unset]) rfl ?_
          show Steps p.tables e below (s₁.setTop (mkF m 18 #[.val (.int p0), .val (.int p1), .val (.int p2), .val (.int (0 : Int32)), .unset] [])) _
          refine XS.iloadN X0.here hx rfl (hb hby d2_18) rfl ?_
          exact k)
      by_cases hc26 : p2 = (0 : Int32)
      · -- hc26: True
        have pre27 : Go p.tables e below (s₁.setTop (entryFrame m #[(.int p0), (.int p1), (.int p2)] 5)) s₁ (mkF m 70 #[.val (.int p0), .val (.int p1), .val (.int p2), .val (.int (0 : Int32)), .val (.int (0 : Int32))] [(.int (0 : Int32))]) := fun t k => pre25 t (by
            refine XS.ifYes X0.here hx rfl (pc0 := 19) (pc' := 38) rfl (hb hby d2_19) rfl ((if0 _ _).trans (teq hc26).1) (by decide) (by decide) ?_
            show Steps p.tables e below (s₁.setTop (mkF m 38 #[.val (.int p0), .val (.int p1), .val (.int p2), .val (.int (0 : Int32)), .unset] [])) _
            refine XS.iloadN X0.here hx rfl (hb hby d2_38) rfl ?_
            show Steps p.tables e below (s₁.setTop (mkF m 39 #[.val (.int p0), .val (.int p1), .val (.int p2), .val (.int (0 : Int32)), .unset] [(.int p0)])) _
            refine XS.bipush X0.here hx rfl (hb hby d2_39) ?_
            show Steps p.tables e below (s₁.setTop (mkF m 41 #[.val (.int p0), .val (.int p1), .val (.int p2), .val (.int (0 : Int32)), .unset] [(.int (10 : Int32)), (.int p0)])) _
            refine XS.icmpYes X0.here hx rfl (pc0 := 41) (pc' := 48) rfl (hb hby d2_41) rfl (feq hc14).2 (by decide) (by decide) ?_
            show Steps p.tables e below (s₁.setTop (mkF m 48 #[.val (.int p0), .val (.int p1), .val (.int p2), .val (.int (0 : Int32)), .unset] [])) _
            refine XS.iconst X0.here hx rfl (hb hby d2_48) ?_
            show Steps p.tables e below (s₁.setTop (mkF m 49 #[.val (.int p0), .val (.int p1), .val (.int p2), .val (.int (0 : Int32)), .unset] [(.int (0 : Int32))])) _
            refine XS.istore X0.here hx rfl (hb hby d2_49) rfl (l' := #[.val (.int p0), .val (.int p1), .val (.int p2), .val (.int (0 : Int32)), .val (.int (0 : Int32))]) rfl ?_
            show Steps p.tables e below (s₁.setTop (mkF m 51 #[.val (.int p0), .val (.int p1), .val (.int p2), .val (.int (0 : Int32)), .val (.int (0 : Int32))] [])) _
            refine XS.iloadN X0.here hx rfl (hb hby d2_51) rfl ?_
            show Steps p.tables e below (s₁.setTop (mkF m 52 #[.val (.int p0), .val (.int p1), .val (.int p2), .val (.int (0 : Int32)), .val (.int (0 : Int32))] [(.int p2)])) _
            refine XS.ifYes X0.here hx rfl (pc0 := 52) (pc' := 65) rfl (hb hby d2_52) rfl ((if0 _ _).trans (teq hc26).1) (by decide) (by decide) ?_
            show Steps p.tables e below (s₁.setTop (mkF m 65 #[.val (.int p0), .val (.int p1), .val (.int p2), .val (.int (0 : Int32)), .val (.int (0 : Int32))] [])) _
            refine XS.iloadN X0.here hx rfl (hb hby d2_65) rfl ?_
            show Steps p.tables e below (s₁.setTop (mkF m 66 #[.val (.int p0), .val (.int p1), .val (.int p2), .val (.int (0 : Int32)), .val (.int (0 : Int32))] [(.int (0 : Int32))])) _
            refine XS.ifNo X0.here hx rfl (hb hby d2_66) rfl ((if0 _ _).trans (teq (by decide)).2) ?_
            show Steps p.tables e below (s₁.setTop (mkF m 69 #[.val (.int p0), .val (.int p1), .val (.int p2), .val (.int (0 : Int32)), .val (.int (0 : Int32))] [])) _
            refine XS.iconst X0.here hx rfl (hb hby d2_69) ?_
            exact k)
        obtain ⟨fs, hr, hrun, hended, hW, hsame⟩ := X0.leave (v := some (.int (0 : Int32))) (fun h => by rw [Bd.returns] at h; cases h) (BodyLoose.notSynchronized Bd)
        refine ⟨_, _, pre27 _ ?_, hrun, hended, _, _, rfl, ?_, ⟨_, rfl⟩, hW, hsame.mono (Nat.le_of_ble_eq_true rfl) (Nat.le_of_ble_eq_true rfl)⟩
        · exact retN X0 hx (t := .boolean) Bd.returns (by simp) (hb hby d2_70) hr
        · show Q_exp Z p0 p1 p2 h0 n0 _ s₁.heap _
          rw [e0]
          exact ⟨by simp [own_exp, own_le, own_jr, hc2, hc14, hc26], N0, rfl⟩
      · -- hc26: False
        have pre28 : Go p.tables e below (s₁.setTop (entryFrame m #[(.int p0), (.int p1), (.int p2)] 5)) s₁ (mkF m 26 #[.val (.int p0), .val (.int p1), .val (.int p2), .val (.int (0 : Int32)), .unset] [(.int (133 : Int32)), (.int p0)]) := fun t k => pre25 t (by
            refine XS.ifNo X0.here hx rfl (hb hby d2_19) rfl ((if0 _ _).trans (feq hc26).1) ?_
            show Steps p.tables e below (s₁.setTop (mkF m 22 #[.val (.int p0), .val (.int p1), .val (.int p2), .val (.int (0 : Int32)), .unset] [])) _
            refine XS.iloadN X0.here hx rfl (hb hby d2_22) rfl ?_
            show Steps p.tables e below (s₁.setTop (mkF m 23 #[.val (.int p0), .val (.int p1), .val (.int p2), .val (.int (0 : Int32)), .unset] [(.int p0)])) _
            refine XS.sipush X0.here hx rfl (hb hby d2_23) ?_
            exact k)
        by_cases hc29 : p0 = (133 : Int32)
        · -- hc29: True
          have pre30 : Go p.tables e below (s₁.setTop (entryFrame m #[(.int p0), (.int p1), (.int p2)] 5)) s₁ (mkF m 72 #[.val (.int p0), .val (.int p1), .val (.int p2), .val (.int (1 : Int32)), .val (.int (1 : Int32))] [(.int p1)]) := fun t k => pre28 t (by
              refine XS.icmpYes X0.here hx rfl (pc0 := 26) (pc' := 36) rfl (hb hby d2_26) rfl (teq hc29).1 (by decide) (by decide) ?_
              show Steps p.tables e below (s₁.setTop (mkF m 36 #[.val (.int p0), .val (.int p1), .val (.int p2), .val (.int (0 : Int32)), .unset] [])) _
              refine XS.iconst X0.here hx rfl (hb hby d2_36) ?_
              show Steps p.tables e below (s₁.setTop (mkF m 37 #[.val (.int p0), .val (.int p1), .val (.int p2), .val (.int (0 : Int32)), .unset] [(.int (1 : Int32))])) _
              refine XS.istoreN X0.here hx rfl (hb hby d2_37) rfl (l' := #[.val (.int p0), .val (.int p1), .val (.int p2), .val (.int (1 : Int32)), .unset]) rfl ?_
              show Steps p.tables e below (s₁.setTop (mkF m 38 #[.val (.int p0), .val (.int p1), .val (.int p2), .val (.int (1 : Int32)), .unset] [])) _
              refine XS.iloadN X0.here hx rfl (hb hby d2_38) rfl ?_
              show Steps p.tables e below (s₁.setTop (mkF m 39 #[.val (.int p0), .val (.int p1), .val (.int p2), .val (.int (1 : Int32)), .unset] [(.int p0)])) _
              refine XS.bipush X0.here hx rfl (hb hby d2_39) ?_
              show Steps p.tables e below (s₁.setTop (mkF m 41 #[.val (.int p0), .val (.int p1), .val (.int p2), .val (.int (1 : Int32)), .unset] [(.int (10 : Int32)), (.int p0)])) _
              refine XS.icmpYes X0.here hx rfl (pc0 := 41) (pc' := 48) rfl (hb hby d2_41) rfl (feq hc14).2 (by decide) (by decide) ?_
              show Steps p.tables e below (s₁.setTop (mkF m 48 #[.val (.int p0), .val (.int p1), .val (.int p2), .val (.int (1 : Int32)), .unset] [])) _
              refine XS.iconst X0.here hx rfl (hb hby d2_48) ?_
              show Steps p.tables e below (s₁.setTop (mkF m 49 #[.val (.int p0), .val (.int p1), .val (.int p2), .val (.int (1 : Int32)), .unset] [(.int (0 : Int32))])) _
              refine XS.istore X0.here hx rfl (hb hby d2_49) rfl (l' := #[.val (.int p0), .val (.int p1), .val (.int p2), .val (.int (1 : Int32)), .val (.int (0 : Int32))]) rfl ?_
              show Steps p.tables e below (s₁.setTop (mkF m 51 #[.val (.int p0), .val (.int p1), .val (.int p2), .val (.int (1 : Int32)), .val (.int (0 : Int32))] [])) _
              refine XS.iloadN X0.here hx rfl (hb hby d2_51) rfl ?_
              show Steps p.tables e below (s₁.setTop (mkF m 52 #[.val (.int p0), .val (.int p1), .val (.int p2), .val (.int (1 : Int32)), .val (.int (0 : Int32))] [(.int p2)])) _
              refine XS.ifNo X0.here hx rfl (hb hby d2_52) rfl ((if0 _ _).trans (feq hc26).1) ?_
              show Steps p.tables e below (s₁.setTop (mkF m 55 #[.val (.int p0), .val (.int p1), .val (.int p2), .val (.int (1 : Int32)), .val (.int (0 : Int32))] [])) _
              refine XS.iloadN X0.here hx rfl (hb hby d2_55) rfl ?_
              show Steps p.tables e below (s₁.setTop (mkF m 56 #[.val (.int p0), .val (.int p1), .val (.int p2), .val (.int (1 : Int32)), .val (.int (0 : Int32))] [(.int p0)])) _
              refine XS.sipush X0.here hx rfl (hb hby d2_56) ?_
              show Steps p.tables e below (s₁.setTop (mkF m 59 #[.val (.int p0), .val (.int p1), .val (.int p2), .val (.int (1 : Int32)), .val (.int (0 : Int32))] [(.int (133 : Int32)), (.int p0)])) _
              refine XS.icmpNo X0.here hx rfl (hb hby d2_59) rfl (teq hc29).2 ?_
              show Steps p.tables e below (s₁.setTop (mkF m 62 #[.val (.int p0), .val (.int p1), .val (.int p2), .val (.int (1 : Int32)), .val (.int (0 : Int32))] [])) _
              refine XS.iconst X0.here hx rfl (hb hby d2_62) ?_
              show Steps p.tables e below (s₁.setTop (mkF m 63 #[.val (.int p0), .val (.int p1), .val (.int p2), .val (.int (1 : Int32)), .val (.int (0 : Int32))] [(.int (1 : Int32))])) _
              refine XS.istore X0.here hx rfl (hb hby d2_63) rfl (l' := #[.val (.int p0), .val (.int p1), .val (.int p2), .val (.int (1 : Int32)), .val (.int (1 : Int32))]) rfl ?_
              show Steps p.tables e below (s₁.setTop (mkF m 65 #[.val (.int p0), .val (.int p1), .val (.int p2), .val (.int (1 : Int32)), .val (.int (1 : Int32))] [])) _
              refine XS.iloadN X0.here hx rfl (hb hby d2_65) rfl ?_
              show Steps p.tables e below (s₁.setTop (mkF m 66 #[.val (.int p0), .val (.int p1), .val (.int p2), .val (.int (1 : Int32)), .val (.int (1 : Int32))] [(.int (1 : Int32))])) _
              refine XS.ifYes X0.here hx rfl (pc0 := 66) (pc' := 71) rfl (hb hby d2_66) rfl ((if0 _ _).trans (feq (by decide)).2) (by decide) (by decide) ?_
              show Steps p.tables e below (s₁.setTop (mkF m 71 #[.val (.int p0), .val (.int p1), .val (.int p2), .val (.int (1 : Int32)), .val (.int (1 : Int32))] [])) _
              refine XS.iloadN X0.here hx rfl (hb hby d2_71) rfl ?_
              exact k)
          by_cases hc31 : p1 = (0 : Int32)
          · -- hc31: True
            have pre32 : Go p.tables e below (s₁.setTop (entryFrame m #[(.int p0), (.int p1), (.int p2)] 5)) s₁ (mkF m 83 #[.val (.int p0), .val (.int p1), .val (.int p2), .val (.int (1 : Int32)), .val (.int (1 : Int32))] [(.int (1 : Int32))]) := fun t k => pre30 t (by
                refine XS.ifYes X0.here hx rfl (pc0 := 72) (pc' := 82) rfl (hb hby d2_72) rfl ((if0 _ _).trans (teq hc31).1) (by decide) (by decide) ?_
                show Steps p.tables e below (s₁.setTop (mkF m 82 #[.val (.int p0), .val (.int p1), .val (.int p2), .val (.int (1 : Int32)), .val (.int (1 : Int32))] [])) _
                refine XS.iconst X0.here hx rfl (hb hby d2_82) ?_
                exact k)
            obtain ⟨fs, hr, hrun, hended, hW, hsame⟩ := X0.leave (v := some (.int (1 : Int32))) (fun h => by rw [Bd.returns] at h; cases h) (BodyLoose.notSynchronized Bd)
            refine ⟨_, _, pre32 _ ?_, hrun, hended, _, _, rfl, ?_, ⟨_, rfl⟩, hW, hsame.mono (Nat.le_of_ble_eq_true rfl) (Nat.le_of_ble_eq_true rfl)⟩
            · exact retN X0 hx (t := .boolean) Bd.returns (by simp) (hb hby d2_83) hr
            · show Q_exp Z p0 p1 p2 h0 n0 _ s₁.heap _
              rw [e0]
              exact ⟨by simp [own_exp, own_le, own_jr, hc2, hc14, hc26, hc29, hc31], N0, rfl⟩
          · -- hc31: False
            have pre33 : Go p.tables e below (s₁.setTop (entryFrame m #[(.int p0), (.int p1), (.int p2)] 5)) s₁ (mkF m 81 #[.val (.int p0), .val (.int p1), .val (.int p2), .val (.int (1 : Int32)), .val (.int (1 : Int32))] [(.int (0 : Int32))]) := fun t k => pre30 t (by
                refine XS.ifNo X0.here hx rfl (hb hby d2_72) rfl ((if0 _ _).trans (feq hc31).1) ?_
                show Steps p.tables e below (s₁.setTop (mkF m 75 #[.val (.int p0), .val (.int p1), .val (.int p2), .val (.int (1 : Int32)), .val (.int (1 : Int32))] [])) _
                refine XS.iload X0.here hx rfl (hb hby d2_75) rfl ?_
                show Steps p.tables e below (s₁.setTop (mkF m 77 #[.val (.int p0), .val (.int p1), .val (.int p2), .val (.int (1 : Int32)), .val (.int (1 : Int32))] [(.int (1 : Int32))])) _
                refine XS.ifNo X0.here hx rfl (hb hby d2_77) rfl ((if0 _ _).trans (feq (by decide)).1) ?_
                show Steps p.tables e below (s₁.setTop (mkF m 80 #[.val (.int p0), .val (.int p1), .val (.int p2), .val (.int (1 : Int32)), .val (.int (1 : Int32))] [])) _
                refine XS.iconst X0.here hx rfl (hb hby d2_80) ?_
                exact k)
            obtain ⟨fs, hr, hrun, hended, hW, hsame⟩ := X0.leave (v := some (.int (0 : Int32))) (fun h => by rw [Bd.returns] at h; cases h) (BodyLoose.notSynchronized Bd)
            refine ⟨_, _, pre33 _ ?_, hrun, hended, _, _, rfl, ?_, ⟨_, rfl⟩, hW, hsame.mono (Nat.le_of_ble_eq_true rfl) (Nat.le_of_ble_eq_true rfl)⟩
            · exact retN X0 hx (t := .boolean) Bd.returns (by simp) (hb hby d2_81) hr
            · show Q_exp Z p0 p1 p2 h0 n0 _ s₁.heap _
              rw [e0]
              exact ⟨by simp [own_exp, own_le, own_jr, hc2, hc14, hc26, hc29, hc31], N0, rfl⟩
        · -- hc29: False
          have pre34 : Go p.tables e below (s₁.setTop (entryFrame m #[(.int p0), (.int p1), (.int p2)] 5)) s₁ (mkF m 33 #[.val (.int p0), .val (.int p1), .val (.int p2), .val (.int (0 : Int32)), .unset] [(.int (8232 : Int32)), (.int p0)]) := fun t k => pre28 t (by
              refine XS.icmpNo X0.here hx rfl (hb hby d2_26) rfl (feq hc29).1 ?_
              show Steps p.tables e below (s₁.setTop (mkF m 29 #[.val (.int p0), .val (.int p1), .val (.int p2), .val (.int (0 : Int32)), .unset] [])) _
              refine XS.iloadN X0.here hx rfl (hb hby d2_29) rfl ?_
              show Steps p.tables e below (s₁.setTop (mkF m 30 #[.val (.int p0), .val (.int p1), .val (.int p2), .val (.int (0 : Int32)), .unset] [(.int p0)])) _
              refine XS.sipush X0.here hx rfl (hb hby d2_30) ?_
              exact k)
          by_cases hc35 : p0 = (8232 : Int32)
          · -- hc35: True
            have pre36 : Go p.tables e below (s₁.setTop (entryFrame m #[(.int p0), (.int p1), (.int p2)] 5)) s₁ (mkF m 72 #[.val (.int p0), .val (.int p1), .val (.int p2), .val (.int (1 : Int32)), .val (.int (0 : Int32))] [(.int p1)]) := fun t k => pre34 t (by
                refine XS.icmpNo X0.here hx rfl (hb hby d2_33) rfl (teq hc35).2 ?_
                show Steps p.tables e below (s₁.setTop (mkF m 36 #[.val (.int p0), .val (.int p1), .val (.int p2), .val (.int (0 : Int32)), .unset] [])) _
                refine XS.iconst X0.here hx rfl (hb hby d2_36) ?_
                show Steps p.tables e below (s₁.setTop (mkF m 37 #[.val (.int p0), .val (.int p1), .val (.int p2), .val (.int (0 : Int32)), .unset] [(.int (1 : Int32))])) _
                refine XS.istoreN X0.here hx rfl (hb hby d2_37) rfl (l' := #[.val (.int p0), .val (.int p1), .val (.int p2), .val (.int (1 : Int32)), .unset]) rfl ?_
                show Steps p.tables e below (s₁.setTop (mkF m 38 #[.val (.int p0), .val (.int p1), .val (.int p2), .val (.int (1 : Int32)), .unset] [])) _
                refine XS.iloadN X0.here hx rfl (hb hby d2_38) rfl ?_
                show Steps p.tables e below (s₁.setTop (mkF m 39 #[.val (.int p0), .val (.int p1), .val (.int p2), .val (.int (1 : Int32)), .unset] [(.int p0)])) _
                refine XS.bipush X0.here hx rfl (hb hby d2_39) ?_
                show Steps p.tables e below (s₁.setTop (mkF m 41 #[.val (.int p0), .val (.int p1), .val (.int p2), .val (.int (1 : Int32)), .unset] [(.int (10 : Int32)), (.int p0)])) _
                refine XS.icmpYes X0.here hx rfl (pc0 := 41) (pc' := 48) rfl (hb hby d2_41) rfl (feq hc14).2 (by decide) (by decide) ?_
                show Steps p.tables e below (s₁.setTop (mkF m 48 #[.val (.int p0), .val (.int p1), .val (.int p2), .val (.int (1 : Int32)), .unset] [])) _
                refine XS.iconst X0.here hx rfl (hb hby d2_48) ?_
                show Steps p.tables e below (s₁.setTop (mkF m 49 #[.val (.int p0), .val (.int p1), .val (.int p2), .val (.int (1 : Int32)), .unset] [(.int (0 : Int32))])) _
                refine XS.istore X0.here hx rfl (hb hby d2_49) rfl (l' := #[.val (.int p0), .val (.int p1), .val (.int p2), .val (.int (1 : Int32)), .val (.int (0 : Int32))]) rfl ?_
                show Steps p.tables e below (s₁.setTop (mkF m 51 #[.val (.int p0), .val (.int p1), .val (.int p2), .val (.int (1 : Int32)), .val (.int (0 : Int32))] [])) _
                refine XS.iloadN X0.here hx rfl (hb hby d2_51) rfl ?_
                show Steps p.tables e below (s₁.setTop (mkF m 52 #[.val (.int p0), .val (.int p1), .val (.int p2), .val (.int (1 : Int32)), .val (.int (0 : Int32))] [(.int p2)])) _
                refine XS.ifNo X0.here hx rfl (hb hby d2_52) rfl ((if0 _ _).trans (feq hc26).1) ?_
                show Steps p.tables e below (s₁.setTop (mkF m 55 #[.val (.int p0), .val (.int p1), .val (.int p2), .val (.int (1 : Int32)), .val (.int (0 : Int32))] [])) _
                refine XS.iloadN X0.here hx rfl (hb hby d2_55) rfl ?_
                show Steps p.tables e below (s₁.setTop (mkF m 56 #[.val (.int p0), .val (.int p1), .val (.int p2), .val (.int (1 : Int32)), .val (.int (0 : Int32))] [(.int p0)])) _
                refine XS.sipush X0.here hx rfl (hb hby d2_56) ?_
                show Steps p.tables e below (s₁.setTop (mkF m 59 #[.val (.int p0), .val (.int p1), .val (.int p2), .val (.int (1 : Int32)), .val (.int (0 : Int32))] [(.int (133 : Int32)), (.int p0)])) _
                refine XS.icmpYes X0.here hx rfl (pc0 := 59) (pc' := 65) rfl (hb hby d2_59) rfl (feq hc29).2 (by decide) (by decide) ?_
                show Steps p.tables e below (s₁.setTop (mkF m 65 #[.val (.int p0), .val (.int p1), .val (.int p2), .val (.int (1 : Int32)), .val (.int (0 : Int32))] [])) _
                refine XS.iloadN X0.here hx rfl (hb hby d2_65) rfl ?_
                show Steps p.tables e below (s₁.setTop (mkF m 66 #[.val (.int p0), .val (.int p1), .val (.int p2), .val (.int (1 : Int32)), .val (.int (0 : Int32))] [(.int (1 : Int32))])) _
                refine XS.ifYes X0.here hx rfl (pc0 := 66) (pc' := 71) rfl (hb hby d2_66) rfl ((if0 _ _).trans (feq (by decide)).2) (by decide) (by decide) ?_
                show Steps p.tables e below (s₁.setTop (mkF m 71 #[.val (.int p0), .val (.int p1), .val (.int p2), .val (.int (1 : Int32)), .val (.int (0 : Int32))] [])) _
                refine XS.iloadN X0.here hx rfl (hb hby d2_71) rfl ?_
                exact k)
            by_cases hc37 : p1 = (0 : Int32)
            · -- hc37: True
              have pre38 : Go p.tables e below (s₁.setTop (entryFrame m #[(.int p0), (.int p1), (.int p2)] 5)) s₁ (mkF m 83 #[.val (.int p0), .val (.int p1), .val (.int p2), .val (.int (1 : Int32)), .val (.int (0 : Int32))] [(.int (1 : Int32))]) := fun t k => pre36 t (by
                  refine XS.ifYes X0.here hx rfl (pc0 := 72) (pc' := 82) rfl (hb hby d2_72) rfl ((if0 _ _).trans (teq hc37).1) (by decide) (by decide) ?_
                  show Steps p.tables e below (s₁.setTop (mkF m 82 #[.val (.int p0), .val (.int p1), .val (.int p2), .val (.int (1 : Int32)), .val (.int (0 : Int32))] [])) _
                  refine XS.iconst X0.here hx rfl (hb hby d2_82) ?_
                  exact k)
              obtain ⟨fs, hr, hrun, hended, hW, hsame⟩ := X0.leave (v := some (.int (1 : Int32))) (fun h => by rw [Bd.returns] at h; cases h) (BodyLoose.notSynchronized Bd)
              refine ⟨_, _, pre38 _ ?_, hrun, hended, _, _, rfl, ?_, ⟨_, rfl⟩, hW, hsame.mono (Nat.le_of_ble_eq_true rfl) (Nat.le_of_ble_eq_true rfl)⟩
              · exact retN X0 hx (t := .boolean) Bd.returns (by simp) (hb hby d2_83) hr
              · show Q_exp Z p0 p1 p2 h0 n0 _ s₁.heap _
                rw [e0]
                exact ⟨by simp [own_exp, own_le, own_jr, hc2, hc14, hc26, hc29, hc35, hc37], N0, rfl⟩
            · -- hc37: False
              have pre39 : Go p.tables e below (s₁.setTop (entryFrame m #[(.int p0), (.int p1), (.int p2)] 5)) s₁ (mkF m 83 #[.val (.int p0), .val (.int p1), .val (.int p2), .val (.int (1 : Int32)), .val (.int (0 : Int32))] [(.int (1 : Int32))]) := fun t k => pre36 t (by
                  refine XS.ifNo X0.here hx rfl (hb hby d2_72) rfl ((if0 _ _).trans (feq hc37).1) ?_
                  show Steps p.tables e below (s₁.setTop (mkF m 75 #[.val (.int p0), .val (.int p1), .val (.int p2), .val (.int (1 : Int32)), .val (.int (0 : Int32))] [])) _
                  refine XS.iload X0.here hx rfl (hb hby d2_75) rfl ?_
                  show Steps p.tables e below (s₁.setTop (mkF m 77 #[.val (.int p0), .val (.int p1), .val (.int p2), .val (.int (1 : Int32)), .val (.int (0 : Int32))] [(.int (0 : Int32))])) _
                  refine XS.ifYes X0.here hx rfl (pc0 := 77) (pc' := 82) rfl (hb hby d2_77) rfl ((if0 _ _).trans (teq (by decide)).1) (by decide) (by decide) ?_
                  show Steps p.tables e below (s₁.setTop (mkF m 82 #[.val (.int p0), .val (.int p1), .val (.int p2), .val (.int (1 : Int32)), .val (.int (0 : Int32))] [])) _
                  refine XS.iconst X0.here hx rfl (hb hby d2_82) ?_
                  exact k)
              obtain ⟨fs, hr, hrun, hended, hW, hsame⟩ := X0.leave (v := some (.int (1 : Int32))) (fun h => by rw [Bd.returns] at h; cases h) (BodyLoose.notSynchronized Bd)
              refine ⟨_, _, pre39 _ ?_, hrun, hended, _, _, rfl, ?_, ⟨_, rfl⟩, hW, hsame.mono (Nat.le_of_ble_eq_true rfl) (Nat.le_of_ble_eq_true rfl)⟩
              · exact retN X0 hx (t := .boolean) Bd.returns (by simp) (hb hby d2_83) hr
              · show Q_exp Z p0 p1 p2 h0 n0 _ s₁.heap _
                rw [e0]
                exact ⟨by simp [own_exp, own_le, own_jr, hc2, hc14, hc26, hc29, hc35, hc37], N0, rfl⟩
          · -- hc35: False
            have pre40 : Go p.tables e below (s₁.setTop (entryFrame m #[(.int p0), (.int p1), (.int p2)] 5)) s₁ (mkF m 70 #[.val (.int p0), .val (.int p1), .val (.int p2), .val (.int (0 : Int32)), .val (.int (0 : Int32))] [(.int (0 : Int32))]) := fun t k => pre34 t (by
                refine XS.icmpYes X0.here hx rfl (pc0 := 33) (pc' := 38) rfl (hb hby d2_33) rfl (feq hc35).2 (by decide) (by decide) ?_
                show Steps p.tables e below (s₁.setTop (mkF m 38 #[.val (.int p0), .val (.int p1), .val (.int p2), .val (.int (0 : Int32)), .unset] [])) _
                refine XS.iloadN X0.here hx rfl (hb hby d2_38) rfl ?_
                show Steps p.tables e below (s₁.setTop (mkF m 39 #[.val (.int p0), .val (.int p1), .val (.int p2), .val (.int (0 : Int32)), .unset] [(.int p0)])) _
                refine XS.bipush X0.here hx rfl (hb hby d2_39) ?_
                show Steps p.tables e below (s₁.setTop (mkF m 41 #[.val (.int p0), .val (.int p1), .val (.int p2), .val (.int (0 : Int32)), .unset] [(.int (10 : Int32)), (.int p0)])) _
                refine XS.icmpYes X0.here hx rfl (pc0 := 41) (pc' := 48) rfl (hb hby d2_41) rfl (feq hc14).2 (by decide) (by decide) ?_
                show Steps p.tables e below (s₁.setTop (mkF m 48 #[.val (.int p0), .val (.int p1), .val (.int p2), .val (.int (0 : Int32)), .unset] [])) _
                refine XS.iconst X0.here hx rfl (hb hby d2_48) ?_
                show Steps p.tables e below (s₁.setTop (mkF m 49 #[.val (.int p0), .val (.int p1), .val (.int p2), .val (.int (0 : Int32)), .unset] [(.int (0 : Int32))])) _
                refine XS.istore X0.here hx rfl (hb hby d2_49) rfl (l' := #[.val (.int p0), .val (.int p1), .val (.int p2), .val (.int (0 : Int32)), .val (.int (0 : Int32))]) rfl ?_
                show Steps p.tables e below (s₁.setTop (mkF m 51 #[.val (.int p0), .val (.int p1), .val (.int p2), .val (.int (0 : Int32)), .val (.int (0 : Int32))] [])) _
                refine XS.iloadN X0.here hx rfl (hb hby d2_51) rfl ?_
                show Steps p.tables e below (s₁.setTop (mkF m 52 #[.val (.int p0), .val (.int p1), .val (.int p2), .val (.int (0 : Int32)), .val (.int (0 : Int32))] [(.int p2)])) _
                refine XS.ifNo X0.here hx rfl (hb hby d2_52) rfl ((if0 _ _).trans (feq hc26).1) ?_
                show Steps p.tables e below (s₁.setTop (mkF m 55 #[.val (.int p0), .val (.int p1), .val (.int p2), .val (.int (0 : Int32)), .val (.int (0 : Int32))] [])) _
                refine XS.iloadN X0.here hx rfl (hb hby d2_55) rfl ?_
                show Steps p.tables e below (s₁.setTop (mkF m 56 #[.val (.int p0), .val (.int p1), .val (.int p2), .val (.int (0 : Int32)), .val (.int (0 : Int32))] [(.int p0)])) _
                refine XS.sipush X0.here hx rfl (hb hby d2_56) ?_
                show Steps p.tables e below (s₁.setTop (mkF m 59 #[.val (.int p0), .val (.int p1), .val (.int p2), .val (.int (0 : Int32)), .val (.int (0 : Int32))] [(.int (133 : Int32)), (.int p0)])) _
                refine XS.icmpYes X0.here hx rfl (pc0 := 59) (pc' := 65) rfl (hb hby d2_59) rfl (feq hc29).2 (by decide) (by decide) ?_
                show Steps p.tables e below (s₁.setTop (mkF m 65 #[.val (.int p0), .val (.int p1), .val (.int p2), .val (.int (0 : Int32)), .val (.int (0 : Int32))] [])) _
                refine XS.iloadN X0.here hx rfl (hb hby d2_65) rfl ?_
                show Steps p.tables e below (s₁.setTop (mkF m 66 #[.val (.int p0), .val (.int p1), .val (.int p2), .val (.int (0 : Int32)), .val (.int (0 : Int32))] [(.int (0 : Int32))])) _
                refine XS.ifNo X0.here hx rfl (hb hby d2_66) rfl ((if0 _ _).trans (teq (by decide)).2) ?_
                show Steps p.tables e below (s₁.setTop (mkF m 69 #[.val (.int p0), .val (.int p1), .val (.int p2), .val (.int (0 : Int32)), .val (.int (0 : Int32))] [])) _
                refine XS.iconst X0.here hx rfl (hb hby d2_69) ?_
                exact k)
            obtain ⟨fs, hr, hrun, hended, hW, hsame⟩ := X0.leave (v := some (.int (0 : Int32))) (fun h => by rw [Bd.returns] at h; cases h) (BodyLoose.notSynchronized Bd)
            refine ⟨_, _, pre40 _ ?_, hrun, hended, _, _, rfl, ?_, ⟨_, rfl⟩, hW, hsame.mono (Nat.le_of_ble_eq_true rfl) (Nat.le_of_ble_eq_true rfl)⟩
            · exact retN X0 hx (t := .boolean) Bd.returns (by simp) (hb hby d2_70) hr
            · show Q_exp Z p0 p1 p2 h0 n0 _ s₁.heap _
              rw [e0]
              exact ⟨by simp [own_exp, own_le, own_jr, hc2, hc14, hc26, hc29, hc35], N0, rfl⟩
theorem pn_law : plainName "com/example/bracketeer/bracketeer/xml/MarkupScanEndsLinePinLaw" = true := by first | (simp [plainName, overriddenIn]; done) | decide +kernel
theorem ef_law (m : MethodId) (x0 : Int32) (x1 : Int32) (x2 : Int32) : entryFrame m #[(.int x0), (.int x1), (.int x2)] maxLocals = mkF m 0 #[.val (.int x0), .val (.int x1), .val (.int x2), .unset, .unset, .unset, .unset, .unset, .unset, .unset] [] := by first | (simp [entryFrame, mkF, argsToLocals, Value.category, maxLocals]; done) | rfl
def Q_law (Z : State) (x0 : Int32) (x1 : Int32) (x2 : Int32) (h0 : Heap) (n0 : Nat) (v : Option Value) (h : Heap) (L : List Loc) : Prop := v = some (.int 1) ∧ Fr n0 L
set_option maxRecDepth 65536 in
set_option maxHeartbeats 40000000 in
theorem rm_law (l : Launch) (Z : State) (a0 : Array Value) (hw : ∀ d ∈ tables_1, d.before a0 Z = true) (ws : List Jvm.Cond) (x0 : Int32) (x1 : Int32) (x2 : Int32) (h0 : Heap) (n0 : Nat) (Z0 : n0 ≤ h0.size) :
    MetFree l x (head1 (Jvm.Cond.code x code maxLocals ret :: ws) room_1) (fun a U => a = #[(.int x0), (.int x1), (.int x2)] ∧ Z.Warmed39 U.vm ∧ U.heap = h0) (fun _ _ _ _ _ => True) (fun _ U o U' => ∃ v L, o = .returned v ∧ Q_law Z x0 x1 x2 h0 n0 v U'.heap L ∧ FrameEnd U o U' L room_1.cells room_1.slots) := by
  refine MetFree.of_bodySF (plainFor_of_name pn_law) hisR ?_
  intro p e s m args below meth c s₁ Bd hml0 hP hK
  obtain ⟨rfl, hZ, hh⟩ := hP
  have hx := Bd.exec
  have hby := Bd.bytes
  have hml : c.maxLocals = 10 := hml0
  have hown : s.vm.findClass "com/example/bracketeer/bracketeer/xml/MarkupScanEndsLinePinLaw" = some m.cls := findClass_of_methodNamed Bd.named
  have hnm := (name_of_methodNamed Bd.named Bd.method).1
  have X0 : Stand p l e room_1 s m #[(.int x0), (.int x1), (.int x2)] below meth c s₁ [] 0 0 := Stand.of_body Bd
  have e0 : s₁.heap = h0 := by rw [← hh, Bd.state]; rfl
  have N0 := Fr.nil n0
  have pre0 : Go p.tables e below (s₁.setTop (entryFrame m #[(.int x0), (.int x1), (.int x2)] maxLocals)) s₁ (mkF m 0 #[.val (.int x0), .val (.int x1), .val (.int x2), .unset, .unset, .unset, .unset, .unset, .unset, .unset] []) := fun t k => castTop (ef_law m x0 x1 x2) k
  have pre1 : Go p.tables e below (s₁.setTop (entryFrame m #[(.int x0), (.int x1), (.int x2)] maxLocals)) s₁ (mkF m 3 #[.val (.int x0), .val (.int x1), .val (.int x2), .unset, .unset, .unset, .unset, .unset, .unset, .unset] [(.int (x2 &&& (1 : Int32)))]) := fun t k => pre0 t (by
      refine XS.iloadN X0.here hx rfl (hb hby at_0) rfl ?_
      show Steps p.tables e below (s₁.setTop (mkF m 1 #[.val (.int x0), .val (.int x1), .val (.int x2), .unset, .unset, .unset, .unset, .unset, .unset, .unset] [(.int x2)])) _
      refine XS.iconst X0.here hx rfl (hb hby at_1) ?_
      show Steps p.tables e below (s₁.setTop (mkF m 2 #[.val (.int x0), .val (.int x1), .val (.int x2), .unset, .unset, .unset, .unset, .unset, .unset, .unset] [(.int (1 : Int32)), (.int x2)])) _
      refine XS.iand X0.here hx rfl (hb hby at_2) rfl ?_
      exact k)
  obtain ⟨T2, L2, w3, X2, e2, N2, hw3, pre2⟩ : ∃ (T2 : State) (L2 : List Loc) (w3 : Int32), Stand p l e room_1 s m #[(.int x0), (.int x1), (.int x2)] below meth c T2 L2 0 0 ∧ T2.heap = h0 ∧ Fr n0 L2 ∧ w3 = (if (x2 &&& (1 : Int32)) = (0 : Int32) then (0 : Int32) else (1 : Int32)) ∧ Go p.tables e below (s₁.setTop (entryFrame m #[(.int x0), (.int x1), (.int x2)] maxLocals)) T2 (mkF m 11 #[.val (.int x0), .val (.int x1), .val (.int x2), .unset, .unset, .unset, .unset, .unset, .unset, .unset] [(.int w3)]) := by
    by_cases hc4 : (x2 &&& (1 : Int32)) = (0 : Int32)
    · -- hc4: True
      have pre5 : Go p.tables e below (s₁.setTop (entryFrame m #[(.int x0), (.int x1), (.int x2)] maxLocals)) s₁ (mkF m 11 #[.val (.int x0), .val (.int x1), .val (.int x2), .unset, .unset, .unset, .unset, .unset, .unset, .unset] [(.int (0 : Int32))]) := fun t k => pre1 t (by
          refine XS.ifYes X0.here hx rfl (pc0 := 3) (pc' := 10) rfl (hb hby at_3) rfl ((if0 _ _).trans (teq hc4).1) (by decide) (by decide) ?_
          show Steps p.tables e below (s₁.setTop (mkF m 10 #[.val (.int x0), .val (.int x1), .val (.int x2), .unset, .unset, .unset, .unset, .unset, .unset, .unset] [])) _
          refine XS.iconst X0.here hx rfl (hb hby at_10) ?_
          exact k)
      refine ⟨_, _, _, X0, e0, N0, ?_, pre5⟩
      · exact (if_pos hc4).symm
    · -- hc4: False
      have pre6 : Go p.tables e below (s₁.setTop (entryFrame m #[(.int x0), (.int x1), (.int x2)] maxLocals)) s₁ (mkF m 11 #[.val (.int x0), .val (.int x1), .val (.int x2), .unset, .unset, .unset, .unset, .unset, .unset, .unset] [(.int (1 : Int32))]) := fun t k => pre1 t (by
          refine XS.ifNo X0.here hx rfl (hb hby at_3) rfl ((if0 _ _).trans (feq hc4).1) ?_
          show Steps p.tables e below (s₁.setTop (mkF m 6 #[.val (.int x0), .val (.int x1), .val (.int x2), .unset, .unset, .unset, .unset, .unset, .unset, .unset] [])) _
          refine XS.iconst X0.here hx rfl (hb hby at_6) ?_
          show Steps p.tables e below (s₁.setTop (mkF m 7 #[.val (.int x0), .val (.int x1), .val (.int x2), .unset, .unset, .unset, .unset, .unset, .unset, .unset] [(.int (1 : Int32))])) _
          refine XS.goto X0.here hx rfl (pc0 := 7) (pc' := 11) rfl (hb hby at_7) (by decide) (by decide) ?_
          exact k)
      refine ⟨_, _, _, X0, e0, N0, ?_, pre6⟩
      · exact (if_neg hc4).symm
  have pre7 : Go p.tables e below (s₁.setTop (entryFrame m #[(.int x0), (.int x1), (.int x2)] maxLocals)) T2 (mkF m 15 #[.val (.int x0), .val (.int x1), .val (.int x2), .val (.int w3), .unset, .unset, .unset, .unset, .unset, .unset] [(.int (x2 &&& (2 : Int32)))]) := fun t k => pre2 t (by
      refine XS.istoreN X2.here hx rfl (hb hby at_11) rfl (l' := #[.val (.int x0), .val (.int x1), .val (.int x2), .val (.int w3), .unset, .unset, .unset, .unset, .unset, .unset]) rfl ?_
      show Steps p.tables e below (T2.setTop (mkF m 12 #[.val (.int x0), .val (.int x1), .val (.int x2), .val (.int w3), .unset, .unset, .unset, .unset, .unset, .unset] [])) _
      refine XS.iloadN X2.here hx rfl (hb hby at_12) rfl ?_
      show Steps p.tables e below (T2.setTop (mkF m 13 #[.val (.int x0), .val (.int x1), .val (.int x2), .val (.int w3), .unset, .unset, .unset, .unset, .unset, .unset] [(.int x2)])) _
      refine XS.iconst X2.here hx rfl (hb hby at_13) ?_
      show Steps p.tables e below (T2.setTop (mkF m 14 #[.val (.int x0), .val (.int x1), .val (.int x2), .val (.int w3), .unset, .unset, .unset, .unset, .unset, .unset] [(.int (2 : Int32)), (.int x2)])) _
      refine XS.iand X2.here hx rfl (hb hby at_14) rfl ?_
      exact k)
  obtain ⟨T8, L8, w9, X8, e8, N8, hw9, pre8⟩ : ∃ (T8 : State) (L8 : List Loc) (w9 : Int32), Stand p l e room_1 s m #[(.int x0), (.int x1), (.int x2)] below meth c T8 L8 0 0 ∧ T8.heap = h0 ∧ Fr n0 L8 ∧ w9 = (if (x2 &&& (2 : Int32)) = (0 : Int32) then (0 : Int32) else (1 : Int32)) ∧ Go p.tables e below (s₁.setTop (entryFrame m #[(.int x0), (.int x1), (.int x2)] maxLocals)) T8 (mkF m 23 #[.val (.int x0), .val (.int x1), .val (.int x2), .val (.int w3), .unset, .unset, .unset, .unset, .unset, .unset] [(.int w9)]) := by
    by_cases hc10 : (x2 &&& (2 : Int32)) = (0 : Int32)
    · -- hc10: True
      have pre11 : Go p.tables e below (s₁.setTop (entryFrame m #[(.int x0), (.int x1), (.int x2)] maxLocals)) T2 (mkF m 23 #[.val (.int x0), .val (.int x1), .val (.int x2), .val (.int w3), .unset, .unset, .unset, .unset, .unset, .unset] [(.int (0 : Int32))]) := fun t k => pre7 t (by
          refine XS.ifYes X2.here hx rfl (pc0 := 15) (pc' := 22) rfl (hb hby at_15) rfl ((if0 _ _).trans (teq hc10).1) (by decide) (by decide) ?_
          show Steps p.tables e below (T2.setTop (mkF m 22 #[.val (.int x0), .val (.int x1), .val (.int x2), .val (.int w3), .unset, .unset, .unset, .unset, .unset, .unset] [])) _
          refine XS.iconst X2.here hx rfl (hb hby at_22) ?_
          exact k)
      refine ⟨_, _, _, X2, e2, N2, ?_, pre11⟩
      · exact (if_pos hc10).symm
    · -- hc10: False
      have pre12 : Go p.tables e below (s₁.setTop (entryFrame m #[(.int x0), (.int x1), (.int x2)] maxLocals)) T2 (mkF m 23 #[.val (.int x0), .val (.int x1), .val (.int x2), .val (.int w3), .unset, .unset, .unset, .unset, .unset, .unset] [(.int (1 : Int32))]) := fun t k => pre7 t (by
          refine XS.ifNo X2.here hx rfl (hb hby at_15) rfl ((if0 _ _).trans (feq hc10).1) ?_
          show Steps p.tables e below (T2.setTop (mkF m 18 #[.val (.int x0), .val (.int x1), .val (.int x2), .val (.int w3), .unset, .unset, .unset, .unset, .unset, .unset] [])) _
          refine XS.iconst X2.here hx rfl (hb hby at_18) ?_
          show Steps p.tables e below (T2.setTop (mkF m 19 #[.val (.int x0), .val (.int x1), .val (.int x2), .val (.int w3), .unset, .unset, .unset, .unset, .unset, .unset] [(.int (1 : Int32))])) _
          refine XS.goto X2.here hx rfl (pc0 := 19) (pc' := 23) rfl (hb hby at_19) (by decide) (by decide) ?_
          exact k)
      refine ⟨_, _, _, X2, e2, N2, ?_, pre12⟩
      · exact (if_neg hc10).symm
  have pre13 : Go p.tables e below (s₁.setTop (entryFrame m #[(.int x0), (.int x1), (.int x2)] maxLocals)) T8 (mkF m 28 #[.val (.int x0), .val (.int x1), .val (.int x2), .val (.int w3), .val (.int w9), .unset, .unset, .unset, .unset, .unset] [(.int (x2 &&& (4 : Int32)))]) := fun t k => pre8 t (by
      refine XS.istore X8.here hx rfl (hb hby at_23) rfl (l' := #[.val (.int x0), .val (.int x1), .val (.int x2), .val (.int w3), .val (.int w9), .unset, .unset, .unset, .unset, .unset]) rfl ?_
      show Steps p.tables e below (T8.setTop (mkF m 25 #[.val (.int x0), .val (.int x1), .val (.int x2), .val (.int w3), .val (.int w9), .unset, .unset, .unset, .unset, .unset] [])) _
      refine XS.iloadN X8.here hx rfl (hb hby at_25) rfl ?_
      show Steps p.tables e below (T8.setTop (mkF m 26 #[.val (.int x0), .val (.int x1), .val (.int x2), .val (.int w3), .val (.int w9), .unset, .unset, .unset, .unset, .unset] [(.int x2)])) _
      refine XS.iconst X8.here hx rfl (hb hby at_26) ?_
      show Steps p.tables e below (T8.setTop (mkF m 27 #[.val (.int x0), .val (.int x1), .val (.int x2), .val (.int w3), .val (.int w9), .unset, .unset, .unset, .unset, .unset] [(.int (4 : Int32)), (.int x2)])) _
      refine XS.iand X8.here hx rfl (hb hby at_27) rfl ?_
      exact k)
  obtain ⟨T14, L14, w15, X14, e14, N14, hw15, pre14⟩ : ∃ (T14 : State) (L14 : List Loc) (w15 : Int32), Stand p l e room_1 s m #[(.int x0), (.int x1), (.int x2)] below meth c T14 L14 0 0 ∧ T14.heap = h0 ∧ Fr n0 L14 ∧ w15 = (if (x2 &&& (4 : Int32)) = (0 : Int32) then (0 : Int32) else (1 : Int32)) ∧ Go p.tables e below (s₁.setTop (entryFrame m #[(.int x0), (.int x1), (.int x2)] maxLocals)) T14 (mkF m 36 #[.val (.int x0), .val (.int x1), .val (.int x2), .val (.int w3), .val (.int w9), .unset, .unset, .unset, .unset, .unset] [(.int w15)]) := by
    by_cases hc16 : (x2 &&& (4 : Int32)) = (0 : Int32)
    · -- hc16: True
      have pre17 : Go p.tables e below (s₁.setTop (entryFrame m #[(.int x0), (.int x1), (.int x2)] maxLocals)) T8 (mkF m 36 #[.val (.int x0), .val (.int x1), .val (.int x2), .val (.int w3), .val (.int w9), .unset, .unset, .unset, .unset, .unset] [(.int (0 : Int32))]) := fun t k => pre13 t (by
          refine XS.ifYes X8.here hx rfl (pc0 := 28) (pc' := 35) rfl (hb hby at_28) rfl ((if0 _ _).trans (teq hc16).1) (by decide) (by decide) ?_
          show Steps p.tables e below (T8.setTop (mkF m 35 #[.val (.int x0), .val (.int x1), .val (.int x2), .val (.int w3), .val (.int w9), .unset, .unset, .unset, .unset, .unset] [])) _
          refine XS.iconst X8.here hx rfl (hb hby at_35) ?_
          exact k)
      refine ⟨_, _, _, X8, e8, N8, ?_, pre17⟩
      · exact (if_pos hc16).symm
    · -- hc16: False
      have pre18 : Go p.tables e below (s₁.setTop (entryFrame m #[(.int x0), (.int x1), (.int x2)] maxLocals)) T8 (mkF m 36 #[.val (.int x0), .val (.int x1), .val (.int x2), .val (.int w3), .val (.int w9), .unset, .unset, .unset, .unset, .unset] [(.int (1 : Int32))]) := fun t k => pre13 t (by
          refine XS.ifNo X8.here hx rfl (hb hby at_28) rfl ((if0 _ _).trans (feq hc16).1) ?_
          show Steps p.tables e below (T8.setTop (mkF m 31 #[.val (.int x0), .val (.int x1), .val (.int x2), .val (.int w3), .val (.int w9), .unset, .unset, .unset, .unset, .unset] [])) _
          refine XS.iconst X8.here hx rfl (hb hby at_31) ?_
          show Steps p.tables e below (T8.setTop (mkF m 32 #[.val (.int x0), .val (.int x1), .val (.int x2), .val (.int w3), .val (.int w9), .unset, .unset, .unset, .unset, .unset] [(.int (1 : Int32))])) _
          refine XS.goto X8.here hx rfl (pc0 := 32) (pc' := 36) rfl (hb hby at_32) (by decide) (by decide) ?_
          exact k)
      refine ⟨_, _, _, X8, e8, N8, ?_, pre18⟩
      · exact (if_neg hc16).symm
  have pre19 : Go p.tables e below (s₁.setTop (entryFrame m #[(.int x0), (.int x1), (.int x2)] maxLocals)) T14 (mkF m 40 #[.val (.int x0), .val (.int x1), .val (.int x2), .val (.int w3), .val (.int w9), .val (.int w15), .unset, .unset, .unset, .unset] [(.int (11 : Int32))]) := fun t k => pre14 t (by
      refine XS.istore X14.here hx rfl (hb hby at_36) rfl (l' := #[.val (.int x0), .val (.int x1), .val (.int x2), .val (.int w3), .val (.int w9), .val (.int w15), .unset, .unset, .unset, .unset]) rfl ?_
      show Steps p.tables e below (T14.setTop (mkF m 38 #[.val (.int x0), .val (.int x1), .val (.int x2), .val (.int w3), .val (.int w9), .val (.int w15), .unset, .unset, .unset, .unset] [])) _
      refine XS.bipush X14.here hx rfl (hb hby at_38) ?_
      exact k)
  obtain ⟨T20, h20, k20, X20, e20, E20, A20, st20⟩ := newP X14 hx hZ (hw _ (List.mem_of_getElem? (i := 0) rfl)) e14 (g := (mkF m 40 #[.val (.int x0), .val (.int x1), .val (.int x2), .val (.int w3), .val (.int w9), .val (.int w15), .unset, .unset, .unset, .unset] [(.int (11 : Int32))])) rfl (hb hby at_40) rfl (by decide) (cap := 11) (by decide) (by decide) (by decide) (by decide)
  obtain ⟨b20, ga20⟩ : ∃ z, z = h0.size := ⟨_, rfl⟩
  rw [← ga20] at A20 st20
  have g21 : n0 ≤ b20 := Nat.le_trans Z0 (Nat.le_of_eq ga20.symm)
  have f22 : n0 ≤ h20.size := Nat.le_trans Z0 E20.1
  have f23 : Arv Z h20 b20 k20 .char (11 : Int32) [(.int (0 : Int32)), (.int (0 : Int32)), (.int (0 : Int32)), (.int (0 : Int32)), (.int (0 : Int32)), (.int (0 : Int32)), (.int (0 : Int32)), (.int (0 : Int32)), (.int (0 : Int32)), (.int (0 : Int32)), (.int (0 : Int32))] (.int (0 : Int32)) := (Arv.new A20 (by decide)).pad (pad_rep [] (.int (0 : Int32)) 11)
  have pre20 : Go p.tables e below (s₁.setTop (entryFrame m #[(.int x0), (.int x1), (.int x2)] maxLocals)) T20 (mkF m 42 #[.val (.int x0), .val (.int x1), .val (.int x2), .val (.int w3), .val (.int w9), .val (.int w15), .unset, .unset, .unset, .unset] [(.ref b20)]) := fun t k => pre19 t (st20 _ k)
  have pre24 : Go p.tables e below (s₁.setTop (entryFrame m #[(.int x0), (.int x1), (.int x2)] maxLocals)) T20 (mkF m 46 #[.val (.int x0), .val (.int x1), .val (.int x2), .val (.int w3), .val (.int w9), .val (.int w15), .unset, .unset, .unset, .unset] [(.int (10 : Int32)), (.int (0 : Int32)), (.ref b20), (.ref b20)]) := fun t k => pre20 t (by
      refine XS.dup X20.here hx rfl (hb hby at_42) rfl rfl ?_
      show Steps p.tables e below (T20.setTop (mkF m 43 #[.val (.int x0), .val (.int x1), .val (.int x2), .val (.int w3), .val (.int w9), .val (.int w15), .unset, .unset, .unset, .unset] [(.ref b20), (.ref b20)])) _
      refine XS.iconst X20.here hx rfl (hb hby at_43) ?_
      show Steps p.tables e below (T20.setTop (mkF m 44 #[.val (.int x0), .val (.int x1), .val (.int x2), .val (.int w3), .val (.int w9), .val (.int w15), .unset, .unset, .unset, .unset] [(.int (0 : Int32)), (.ref b20), (.ref b20)])) _
      refine XS.bipush X20.here hx rfl (hb hby at_44) ?_
      exact k)
  obtain ⟨c25, Ar25, q25, S25, M25, H25, G25⟩ := f23
  have hin25 : ¬ ((0 : Int32) < 0 ∨ c25.slots.size ≤ ((0 : Int32)).toNatClampNeg) := inb_of S25 ⟨by decide, by decide⟩
  obtain ⟨T25, h25, X25, e25, W25, st25⟩ := stC X20 hx hZ e20 Ar25 (j := (0 : Int32)) hin25 (g := (mkF m 46 #[.val (.int x0), .val (.int x1), .val (.int x2), .val (.int w3), .val (.int w9), .val (.int w15), .unset, .unset, .unset, .unset] [(.int (10 : Int32)), (.int (0 : Int32)), (.ref b20), (.ref b20)])) rfl rfl (hb hby at_46)
  have fa25 : Arv Z h25 b20 k20 .char (11 : Int32) [(.int (nar .char (10 : Int32))), (.int (0 : Int32)), (.int (0 : Int32)), (.int (0 : Int32)), (.int (0 : Int32)), (.int (0 : Int32)), (.int (0 : Int32)), (.int (0 : Int32)), (.int (0 : Int32)), (.int (0 : Int32)), (.int (0 : Int32))] (.int (0 : Int32)) := Arv.set Ar25 q25 S25 M25 H25 G25 (fits_nar_char _) W25 0 rfl (Nat.le_of_ble_eq_true rfl)
  have N25 := Fr.snoc X25 N14 g21
  have f26 : n0 ≤ h25.size := Nat.le_trans f22 (Keep.of_wr W25).1
  have pre25 : Go p.tables e below (s₁.setTop (entryFrame m #[(.int x0), (.int x1), (.int x2)] maxLocals)) T25 (mkF m 47 #[.val (.int x0), .val (.int x1), .val (.int x2), .val (.int w3), .val (.int w9), .val (.int w15), .unset, .unset, .unset, .unset] [(.ref b20)]) := fun t k => pre24 t (st25 _ k)
  have pre27 : Go p.tables e below (s₁.setTop (entryFrame m #[(.int x0), (.int x1), (.int x2)] maxLocals)) T25 (mkF m 51 #[.val (.int x0), .val (.int x1), .val (.int x2), .val (.int w3), .val (.int w9), .val (.int w15), .unset, .unset, .unset, .unset] [(.int (13 : Int32)), (.int (1 : Int32)), (.ref b20), (.ref b20)]) := fun t k => pre25 t (by
      refine XS.dup X25.here hx rfl (hb hby at_47) rfl rfl ?_
      show Steps p.tables e below (T25.setTop (mkF m 48 #[.val (.int x0), .val (.int x1), .val (.int x2), .val (.int w3), .val (.int w9), .val (.int w15), .unset, .unset, .unset, .unset] [(.ref b20), (.ref b20)])) _
      refine XS.iconst X25.here hx rfl (hb hby at_48) ?_
      show Steps p.tables e below (T25.setTop (mkF m 49 #[.val (.int x0), .val (.int x1), .val (.int x2), .val (.int w3), .val (.int w9), .val (.int w15), .unset, .unset, .unset, .unset] [(.int (1 : Int32)), (.ref b20), (.ref b20)])) _
      refine XS.bipush X25.here hx rfl (hb hby at_49) ?_
      exact k)
  obtain ⟨c28, Ar28, q28, S28, M28, H28, G28⟩ := fa25
  have hin28 : ¬ ((1 : Int32) < 0 ∨ c28.slots.size ≤ ((1 : Int32)).toNatClampNeg) := inb_of S28 ⟨by decide, by decide⟩
  obtain ⟨T28, h28, X28, e28, W28, st28⟩ := stC X25 hx hZ e25 Ar28 (j := (1 : Int32)) hin28 (g := (mkF m 51 #[.val (.int x0), .val (.int x1), .val (.int x2), .val (.int w3), .val (.int w9), .val (.int w15), .unset, .unset, .unset, .unset] [(.int (13 : Int32)), (.int (1 : Int32)), (.ref b20), (.ref b20)])) rfl rfl (hb hby at_51)
  have fa28 : Arv Z h28 b20 k20 .char (11 : Int32) [(.int (nar .char (10 : Int32))), (.int (nar .char (13 : Int32))), (.int (0 : Int32)), (.int (0 : Int32)), (.int (0 : Int32)), (.int (0 : Int32)), (.int (0 : Int32)), (.int (0 : Int32)), (.int (0 : Int32)), (.int (0 : Int32)), (.int (0 : Int32))] (.int (0 : Int32)) := Arv.set Ar28 q28 S28 M28 H28 G28 (fits_nar_char _) W28 1 rfl (Nat.le_of_ble_eq_true rfl)
  have N28 := Fr.snoc X28 N25 g21
  have f29 : n0 ≤ h28.size := Nat.le_trans f26 (Keep.of_wr W28).1
  have pre28 : Go p.tables e below (s₁.setTop (entryFrame m #[(.int x0), (.int x1), (.int x2)] maxLocals)) T28 (mkF m 52 #[.val (.int x0), .val (.int x1), .val (.int x2), .val (.int w3), .val (.int w9), .val (.int w15), .unset, .unset, .unset, .unset] [(.ref b20)]) := fun t k => pre27 t (st28 _ k)
  have pre30 : Go p.tables e below (s₁.setTop (entryFrame m #[(.int x0), (.int x1), (.int x2)] maxLocals)) T28 (mkF m 57 #[.val (.int x0), .val (.int x1), .val (.int x2), .val (.int w3), .val (.int w9), .val (.int w15), .unset, .unset, .unset, .unset] [(.int (133 : Int32)), (.int (2 : Int32)), (.ref b20), (.ref b20)]) := fun t k => pre28 t (by
      refine XS.dup X28.here hx rfl (hb hby at_52) rfl rfl ?_
      show Steps p.tables e below (T28.setTop (mkF m 53 #[.val (.int x0), .val (.int x1), .val (.int x2), .val (.int w3), .val (.int w9), .val (.int w15), .unset, .unset, .unset, .unset] [(.ref b20), (.ref b20)])) _
      refine XS.iconst X28.here hx rfl (hb hby at_53) ?_
      show Steps p.tables e below (T28.setTop (mkF m 54 #[.val (.int x0), .val (.int x1), .val (.int x2), .val (.int w3), .val (.int w9), .val (.int w15), .unset, .unset, .unset, .unset] [(.int (2 : Int32)), (.ref b20), (.ref b20)])) _
      refine XS.sipush X28.here hx rfl (hb hby at_54) ?_
      exact k)
  obtain ⟨c31, Ar31, q31, S31, M31, H31, G31⟩ := fa28
  have hin31 : ¬ ((2 : Int32) < 0 ∨ c31.slots.size ≤ ((2 : Int32)).toNatClampNeg) := inb_of S31 ⟨by decide, by decide⟩
  obtain ⟨T31, h31, X31, e31, W31, st31⟩ := stC X28 hx hZ e28 Ar31 (j := (2 : Int32)) hin31 (g := (mkF m 57 #[.val (.int x0), .val (.int x1), .val (.int x2), .val (.int w3), .val (.int w9), .val (.int w15), .unset, .unset, .unset, .unset] [(.int (133 : Int32)), (.int (2 : Int32)), (.ref b20), (.ref b20)])) rfl rfl (hb hby at_57)
  have fa31 : Arv Z h31 b20 k20 .char (11 : Int32) [(.int (nar .char (10 : Int32))), (.int (nar .char (13 : Int32))), (.int (nar .char (133 : Int32))), (.int (0 : Int32)), (.int (0 : Int32)), (.int (0 : Int32)), (.int (0 : Int32)), (.int (0 : Int32)), (.int (0 : Int32)), (.int (0 : Int32)), (.int (0 : Int32))] (.int (0 : Int32)) := Arv.set Ar31 q31 S31 M31 H31 G31 (fits_nar_char _) W31 2 rfl (Nat.le_of_ble_eq_true rfl)
  have N31 := Fr.snoc X31 N28 g21
  have f32 : n0 ≤ h31.size := Nat.le_trans f29 (Keep.of_wr W31).1
  have pre31 : Go p.tables e below (s₁.setTop (entryFrame m #[(.int x0), (.int x1), (.int x2)] maxLocals)) T31 (mkF m 58 #[.val (.int x0), .val (.int x1), .val (.int x2), .val (.int w3), .val (.int w9), .val (.int w15), .unset, .unset, .unset, .unset] [(.ref b20)]) := fun t k => pre30 t (st31 _ k)
  have pre33 : Go p.tables e below (s₁.setTop (entryFrame m #[(.int x0), (.int x1), (.int x2)] maxLocals)) T31 (mkF m 63 #[.val (.int x0), .val (.int x1), .val (.int x2), .val (.int w3), .val (.int w9), .val (.int w15), .unset, .unset, .unset, .unset] [(.int (8232 : Int32)), (.int (3 : Int32)), (.ref b20), (.ref b20)]) := fun t k => pre31 t (by
      refine XS.dup X31.here hx rfl (hb hby at_58) rfl rfl ?_
      show Steps p.tables e below (T31.setTop (mkF m 59 #[.val (.int x0), .val (.int x1), .val (.int x2), .val (.int w3), .val (.int w9), .val (.int w15), .unset, .unset, .unset, .unset] [(.ref b20), (.ref b20)])) _
      refine XS.iconst X31.here hx rfl (hb hby at_59) ?_
      show Steps p.tables e below (T31.setTop (mkF m 60 #[.val (.int x0), .val (.int x1), .val (.int x2), .val (.int w3), .val (.int w9), .val (.int w15), .unset, .unset, .unset, .unset] [(.int (3 : Int32)), (.ref b20), (.ref b20)])) _
      refine XS.sipush X31.here hx rfl (hb hby at_60) ?_
      exact k)
  obtain ⟨c34, Ar34, q34, S34, M34, H34, G34⟩ := fa31
  have hin34 : ¬ ((3 : Int32) < 0 ∨ c34.slots.size ≤ ((3 : Int32)).toNatClampNeg) := inb_of S34 ⟨by decide, by decide⟩
  obtain ⟨T34, h34, X34, e34, W34, st34⟩ := stC X31 hx hZ e31 Ar34 (j := (3 : Int32)) hin34 (g := (mkF m 63 #[.val (.int x0), .val (.int x1), .val (.int x2), .val (.int w3), .val (.int w9), .val (.int w15), .unset, .unset, .unset, .unset] [(.int (8232 : Int32)), (.int (3 : Int32)), (.ref b20), (.ref b20)])) rfl rfl (hb hby at_63)
  have fa34 : Arv Z h34 b20 k20 .char (11 : Int32) [(.int (nar .char (10 : Int32))), (.int (nar .char (13 : Int32))), (.int (nar .char (133 : Int32))), (.int (nar .char (8232 : Int32))), (.int (0 : Int32)), (.int (0 : Int32)), (.int (0 : Int32)), (.int (0 : Int32)), (.int (0 : Int32)), (.int (0 : Int32)), (.int (0 : Int32))] (.int (0 : Int32)) := Arv.set Ar34 q34 S34 M34 H34 G34 (fits_nar_char _) W34 3 rfl (Nat.le_of_ble_eq_true rfl)
  have N34 := Fr.snoc X34 N31 g21
  have f35 : n0 ≤ h34.size := Nat.le_trans f32 (Keep.of_wr W34).1
  have pre34 : Go p.tables e below (s₁.setTop (entryFrame m #[(.int x0), (.int x1), (.int x2)] maxLocals)) T34 (mkF m 64 #[.val (.int x0), .val (.int x1), .val (.int x2), .val (.int w3), .val (.int w9), .val (.int w15), .unset, .unset, .unset, .unset] [(.ref b20)]) := fun t k => pre33 t (st34 _ k)
  have pre36 : Go p.tables e below (s₁.setTop (entryFrame m #[(.int x0), (.int x1), (.int x2)] maxLocals)) T34 (mkF m 68 #[.val (.int x0), .val (.int x1), .val (.int x2), .val (.int w3), .val (.int w9), .val (.int w15), .unset, .unset, .unset, .unset] [(.int (11 : Int32)), (.int (4 : Int32)), (.ref b20), (.ref b20)]) := fun t k => pre34 t (by
      refine XS.dup X34.here hx rfl (hb hby at_64) rfl rfl ?_
      show Steps p.tables e below (T34.setTop (mkF m 65 #[.val (.int x0), .val (.int x1), .val (.int x2), .val (.int w3), .val (.int w9), .val (.int w15), .unset, .unset, .unset, .unset] [(.ref b20), (.ref b20)])) _
      refine XS.iconst X34.here hx rfl (hb hby at_65) ?_
      show Steps p.tables e below (T34.setTop (mkF m 66 #[.val (.int x0), .val (.int x1), .val (.int x2), .val (.int w3), .val (.int w9), .val (.int w15), .unset, .unset, .unset, .unset] [(.int (4 : Int32)), (.ref b20), (.ref b20)])) _
      refine XS.bipush X34.here hx rfl (hb hby at_66) ?_
      exact k)
  obtain ⟨c37, Ar37, q37, S37, M37, H37, G37⟩ := fa34
  have hin37 : ¬ ((4 : Int32) < 0 ∨ c37.slots.size ≤ ((4 : Int32)).toNatClampNeg) := inb_of S37 ⟨by decide, by decide⟩
  obtain ⟨T37, h37, X37, e37, W37, st37⟩ := stC X34 hx hZ e34 Ar37 (j := (4 : Int32)) hin37 (g := (mkF m 68 #[.val (.int x0), .val (.int x1), .val (.int x2), .val (.int w3), .val (.int w9), .val (.int w15), .unset, .unset, .unset, .unset] [(.int (11 : Int32)), (.int (4 : Int32)), (.ref b20), (.ref b20)])) rfl rfl (hb hby at_68)
  have fa37 : Arv Z h37 b20 k20 .char (11 : Int32) [(.int (nar .char (10 : Int32))), (.int (nar .char (13 : Int32))), (.int (nar .char (133 : Int32))), (.int (nar .char (8232 : Int32))), (.int (nar .char (11 : Int32))), (.int (0 : Int32)), (.int (0 : Int32)), (.int (0 : Int32)), (.int (0 : Int32)), (.int (0 : Int32)), (.int (0 : Int32))] (.int (0 : Int32)) := Arv.set Ar37 q37 S37 M37 H37 G37 (fits_nar_char _) W37 4 rfl (Nat.le_of_ble_eq_true rfl)
  have N37 := Fr.snoc X37 N34 g21
  have f38 : n0 ≤ h37.size := Nat.le_trans f35 (Keep.of_wr W37).1
  have pre37 : Go p.tables e below (s₁.setTop (entryFrame m #[(.int x0), (.int x1), (.int x2)] maxLocals)) T37 (mkF m 69 #[.val (.int x0), .val (.int x1), .val (.int x2), .val (.int w3), .val (.int w9), .val (.int w15), .unset, .unset, .unset, .unset] [(.ref b20)]) := fun t k => pre36 t (st37 _ k)
  have pre39 : Go p.tables e below (s₁.setTop (entryFrame m #[(.int x0), (.int x1), (.int x2)] maxLocals)) T37 (mkF m 73 #[.val (.int x0), .val (.int x1), .val (.int x2), .val (.int w3), .val (.int w9), .val (.int w15), .unset, .unset, .unset, .unset] [(.int (12 : Int32)), (.int (5 : Int32)), (.ref b20), (.ref b20)]) := fun t k => pre37 t (by
      refine XS.dup X37.here hx rfl (hb hby at_69) rfl rfl ?_
      show Steps p.tables e below (T37.setTop (mkF m 70 #[.val (.int x0), .val (.int x1), .val (.int x2), .val (.int w3), .val (.int w9), .val (.int w15), .unset, .unset, .unset, .unset] [(.ref b20), (.ref b20)])) _
      refine XS.iconst X37.here hx rfl (hb hby at_70) ?_
      show Steps p.tables e below (T37.setTop (mkF m 71 #[.val (.int x0), .val (.int x1), .val (.int x2), .val (.int w3), .val (.int w9), .val (.int w15), .unset, .unset, .unset, .unset] [(.int (5 : Int32)), (.ref b20), (.ref b20)])) _
      refine XS.bipush X37.here hx rfl (hb hby at_71) ?_
      exact k)
  obtain ⟨c40, Ar40, q40, S40, M40, H40, G40⟩ := fa37
  have hin40 : ¬ ((5 : Int32) < 0 ∨ c40.slots.size ≤ ((5 : Int32)).toNatClampNeg) := inb_of S40 ⟨by decide, by decide⟩
  obtain ⟨T40, h40, X40, e40, W40, st40⟩ := stC X37 hx hZ e37 Ar40 (j := (5 : Int32)) hin40 (g := (mkF m 73 #[.val (.int x0), .val (.int x1), .val (.int x2), .val (.int w3), .val (.int w9), .val (.int w15), .unset, .unset, .unset, .unset] [(.int (12 : Int32)), (.int (5 : Int32)), (.ref b20), (.ref b20)])) rfl rfl (hb hby at_73)
  have fa40 : Arv Z h40 b20 k20 .char (11 : Int32) [(.int (nar .char (10 : Int32))), (.int (nar .char (13 : Int32))), (.int (nar .char (133 : Int32))), (.int (nar .char (8232 : Int32))), (.int (nar .char (11 : Int32))), (.int (nar .char (12 : Int32))), (.int (0 : Int32)), (.int (0 : Int32)), (.int (0 : Int32)), (.int (0 : Int32)), (.int (0 : Int32))] (.int (0 : Int32)) := Arv.set Ar40 q40 S40 M40 H40 G40 (fits_nar_char _) W40 5 rfl (Nat.le_of_ble_eq_true rfl)
  have N40 := Fr.snoc X40 N37 g21
  have f41 : n0 ≤ h40.size := Nat.le_trans f38 (Keep.of_wr W40).1
  have pre40 : Go p.tables e below (s₁.setTop (entryFrame m #[(.int x0), (.int x1), (.int x2)] maxLocals)) T40 (mkF m 74 #[.val (.int x0), .val (.int x1), .val (.int x2), .val (.int w3), .val (.int w9), .val (.int w15), .unset, .unset, .unset, .unset] [(.ref b20)]) := fun t k => pre39 t (st40 _ k)
  have pre42 : Go p.tables e below (s₁.setTop (entryFrame m #[(.int x0), (.int x1), (.int x2)] maxLocals)) T40 (mkF m 80 #[.val (.int x0), .val (.int x1), .val (.int x2), .val (.int w3), .val (.int w9), .val (.int w15), .unset, .unset, .unset, .unset] [(.int (132 : Int32)), (.int (6 : Int32)), (.ref b20), (.ref b20)]) := fun t k => pre40 t (by
      refine XS.dup X40.here hx rfl (hb hby at_74) rfl rfl ?_
      show Steps p.tables e below (T40.setTop (mkF m 75 #[.val (.int x0), .val (.int x1), .val (.int x2), .val (.int w3), .val (.int w9), .val (.int w15), .unset, .unset, .unset, .unset] [(.ref b20), (.ref b20)])) _
      refine XS.bipush X40.here hx rfl (hb hby at_75) ?_
      show Steps p.tables e below (T40.setTop (mkF m 77 #[.val (.int x0), .val (.int x1), .val (.int x2), .val (.int w3), .val (.int w9), .val (.int w15), .unset, .unset, .unset, .unset] [(.int (6 : Int32)), (.ref b20), (.ref b20)])) _
      refine XS.sipush X40.here hx rfl (hb hby at_77) ?_
      exact k)
  obtain ⟨c43, Ar43, q43, S43, M43, H43, G43⟩ := fa40
  have hin43 : ¬ ((6 : Int32) < 0 ∨ c43.slots.size ≤ ((6 : Int32)).toNatClampNeg) := inb_of S43 ⟨by decide, by decide⟩
  obtain ⟨T43, h43, X43, e43, W43, st43⟩ := stC X40 hx hZ e40 Ar43 (j := (6 : Int32)) hin43 (g := (mkF m 80 #[.val (.int x0), .val (.int x1), .val (.int x2), .val (.int w3), .val (.int w9), .val (.int w15), .unset, .unset, .unset, .unset] [(.int (132 : Int32)), (.int (6 : Int32)), (.ref b20), (.ref b20)])) rfl rfl (hb hby at_80)
  have fa43 : Arv Z h43 b20 k20 .char (11 : Int32) [(.int (nar .char (10 : Int32))), (.int (nar .char (13 : Int32))), (.int (nar .char (133 : Int32))), (.int (nar .char (8232 : Int32))), (.int (nar .char (11 : Int32))), (.int (nar .char (12 : Int32))), (.int (nar .char (132 : Int32))), (.int (0 : Int32)), (.int (0 : Int32)), (.int (0 : Int32)), (.int (0 : Int32))] (.int (0 : Int32)) := Arv.set Ar43 q43 S43 M43 H43 G43 (fits_nar_char _) W43 6 rfl (Nat.le_of_ble_eq_true rfl)
  have N43 := Fr.snoc X43 N40 g21
  have f44 : n0 ≤ h43.size := Nat.le_trans f41 (Keep.of_wr W43).1
  have pre43 : Go p.tables e below (s₁.setTop (entryFrame m #[(.int x0), (.int x1), (.int x2)] maxLocals)) T43 (mkF m 81 #[.val (.int x0), .val (.int x1), .val (.int x2), .val (.int w3), .val (.int w9), .val (.int w15), .unset, .unset, .unset, .unset] [(.ref b20)]) := fun t k => pre42 t (st43 _ k)
  have pre45 : Go p.tables e below (s₁.setTop (entryFrame m #[(.int x0), (.int x1), (.int x2)] maxLocals)) T43 (mkF m 87 #[.val (.int x0), .val (.int x1), .val (.int x2), .val (.int w3), .val (.int w9), .val (.int w15), .unset, .unset, .unset, .unset] [(.int (134 : Int32)), (.int (7 : Int32)), (.ref b20), (.ref b20)]) := fun t k => pre43 t (by
      refine XS.dup X43.here hx rfl (hb hby at_81) rfl rfl ?_
      show Steps p.tables e below (T43.setTop (mkF m 82 #[.val (.int x0), .val (.int x1), .val (.int x2), .val (.int w3), .val (.int w9), .val (.int w15), .unset, .unset, .unset, .unset] [(.ref b20), (.ref b20)])) _
      refine XS.bipush X43.here hx rfl (hb hby at_82) ?_
      show Steps p.tables e below (T43.setTop (mkF m 84 #[.val (.int x0), .val (.int x1), .val (.int x2), .val (.int w3), .val (.int w9), .val (.int w15), .unset, .unset, .unset, .unset] [(.int (7 : Int32)), (.ref b20), (.ref b20)])) _
      refine XS.sipush X43.here hx rfl (hb hby at_84) ?_
      exact k)
  obtain ⟨c46, Ar46, q46, S46, M46, H46, G46⟩ := fa43
  have hin46 : ¬ ((7 : Int32) < 0 ∨ c46.slots.size ≤ ((7 : Int32)).toNatClampNeg) := inb_of S46 ⟨by decide, by decide⟩
  obtain ⟨T46, h46, X46, e46, W46, st46⟩ := stC X43 hx hZ e43 Ar46 (j := (7 : Int32)) hin46 (g := (mkF m 87 #[.val (.int x0), .val (.int x1), .val (.int x2), .val (.int w3), .val (.int w9), .val (.int w15), .unset, .unset, .unset, .unset] [(.int (134 : Int32)), (.int (7 : Int32)), (.ref b20), (.ref b20)])) rfl rfl (hb hby at_87)
  have fa46 : Arv Z h46 b20 k20 .char (11 : Int32) [(.int (nar .char (10 : Int32))), (.int (nar .char (13 : Int32))), (.int (nar .char (133 : Int32))), (.int (nar .char (8232 : Int32))), (.int (nar .char (11 : Int32))), (.int (nar .char (12 : Int32))), (.int (nar .char (132 : Int32))), (.int (nar .char (134 : Int32))), (.int (0 : Int32)), (.int (0 : Int32)), (.int (0 : Int32))] (.int (0 : Int32)) := Arv.set Ar46 q46 S46 M46 H46 G46 (fits_nar_char _) W46 7 rfl (Nat.le_of_ble_eq_true rfl)
  have N46 := Fr.snoc X46 N43 g21
  have f47 : n0 ≤ h46.size := Nat.le_trans f44 (Keep.of_wr W46).1
  have pre46 : Go p.tables e below (s₁.setTop (entryFrame m #[(.int x0), (.int x1), (.int x2)] maxLocals)) T46 (mkF m 88 #[.val (.int x0), .val (.int x1), .val (.int x2), .val (.int w3), .val (.int w9), .val (.int w15), .unset, .unset, .unset, .unset] [(.ref b20)]) := fun t k => pre45 t (st46 _ k)
  have pre48 : Go p.tables e below (s₁.setTop (entryFrame m #[(.int x0), (.int x1), (.int x2)] maxLocals)) T46 (mkF m 94 #[.val (.int x0), .val (.int x1), .val (.int x2), .val (.int w3), .val (.int w9), .val (.int w15), .unset, .unset, .unset, .unset] [(.int (8233 : Int32)), (.int (8 : Int32)), (.ref b20), (.ref b20)]) := fun t k => pre46 t (by
      refine XS.dup X46.here hx rfl (hb hby at_88) rfl rfl ?_
      show Steps p.tables e below (T46.setTop (mkF m 89 #[.val (.int x0), .val (.int x1), .val (.int x2), .val (.int w3), .val (.int w9), .val (.int w15), .unset, .unset, .unset, .unset] [(.ref b20), (.ref b20)])) _
      refine XS.bipush X46.here hx rfl (hb hby at_89) ?_
      show Steps p.tables e below (T46.setTop (mkF m 91 #[.val (.int x0), .val (.int x1), .val (.int x2), .val (.int w3), .val (.int w9), .val (.int w15), .unset, .unset, .unset, .unset] [(.int (8 : Int32)), (.ref b20), (.ref b20)])) _
      refine XS.sipush X46.here hx rfl (hb hby at_91) ?_
      exact k)
  obtain ⟨c49, Ar49, q49, S49, M49, H49, G49⟩ := fa46
  have hin49 : ¬ ((8 : Int32) < 0 ∨ c49.slots.size ≤ ((8 : Int32)).toNatClampNeg) := inb_of S49 ⟨by decide, by decide⟩
  obtain ⟨T49, h49, X49, e49, W49, st49⟩ := stC X46 hx hZ e46 Ar49 (j := (8 : Int32)) hin49 (g := (mkF m 94 #[.val (.int x0), .val (.int x1), .val (.int x2), .val (.int w3), .val (.int w9), .val (.int w15), .unset, .unset, .unset, .unset] [(.int (8233 : Int32)), (.int (8 : Int32)), (.ref b20), (.ref b20)])) rfl rfl (hb hby at_94)
  have fa49 : Arv Z h49 b20 k20 .char (11 : Int32) [(.int (nar .char (10 : Int32))), (.int (nar .char (13 : Int32))), (.int (nar .char (133 : Int32))), (.int (nar .char (8232 : Int32))), (.int (nar .char (11 : Int32))), (.int (nar .char (12 : Int32))), (.int (nar .char (132 : Int32))), (.int (nar .char (134 : Int32))), (.int (nar .char (8233 : Int32))), (.int (0 : Int32)), (.int (0 : Int32))] (.int (0 : Int32)) := Arv.set Ar49 q49 S49 M49 H49 G49 (fits_nar_char _) W49 8 rfl (Nat.le_of_ble_eq_true rfl)
  have N49 := Fr.snoc X49 N46 g21
  have f50 : n0 ≤ h49.size := Nat.le_trans f47 (Keep.of_wr W49).1
  have pre49 : Go p.tables e below (s₁.setTop (entryFrame m #[(.int x0), (.int x1), (.int x2)] maxLocals)) T49 (mkF m 95 #[.val (.int x0), .val (.int x1), .val (.int x2), .val (.int w3), .val (.int w9), .val (.int w15), .unset, .unset, .unset, .unset] [(.ref b20)]) := fun t k => pre48 t (st49 _ k)
  have pre51 : Go p.tables e below (s₁.setTop (entryFrame m #[(.int x0), (.int x1), (.int x2)] maxLocals)) T49 (mkF m 100 #[.val (.int x0), .val (.int x1), .val (.int x2), .val (.int w3), .val (.int w9), .val (.int w15), .unset, .unset, .unset, .unset] [(.int (9 : Int32)), (.int (9 : Int32)), (.ref b20), (.ref b20)]) := fun t k => pre49 t (by
      refine XS.dup X49.here hx rfl (hb hby at_95) rfl rfl ?_
      show Steps p.tables e below (T49.setTop (mkF m 96 #[.val (.int x0), .val (.int x1), .val (.int x2), .val (.int w3), .val (.int w9), .val (.int w15), .unset, .unset, .unset, .unset] [(.ref b20), (.ref b20)])) _
      refine XS.bipush X49.here hx rfl (hb hby at_96) ?_
      show Steps p.tables e below (T49.setTop (mkF m 98 #[.val (.int x0), .val (.int x1), .val (.int x2), .val (.int w3), .val (.int w9), .val (.int w15), .unset, .unset, .unset, .unset] [(.int (9 : Int32)), (.ref b20), (.ref b20)])) _
      refine XS.bipush X49.here hx rfl (hb hby at_98) ?_
      exact k)
  obtain ⟨c52, Ar52, q52, S52, M52, H52, G52⟩ := fa49
  have hin52 : ¬ ((9 : Int32) < 0 ∨ c52.slots.size ≤ ((9 : Int32)).toNatClampNeg) := inb_of S52 ⟨by decide, by decide⟩
  obtain ⟨T52, h52, X52, e52, W52, st52⟩ := stC X49 hx hZ e49 Ar52 (j := (9 : Int32)) hin52 (g := (mkF m 100 #[.val (.int x0), .val (.int x1), .val (.int x2), .val (.int w3), .val (.int w9), .val (.int w15), .unset, .unset, .unset, .unset] [(.int (9 : Int32)), (.int (9 : Int32)), (.ref b20), (.ref b20)])) rfl rfl (hb hby at_100)
  have fa52 : Arv Z h52 b20 k20 .char (11 : Int32) [(.int (nar .char (10 : Int32))), (.int (nar .char (13 : Int32))), (.int (nar .char (133 : Int32))), (.int (nar .char (8232 : Int32))), (.int (nar .char (11 : Int32))), (.int (nar .char (12 : Int32))), (.int (nar .char (132 : Int32))), (.int (nar .char (134 : Int32))), (.int (nar .char (8233 : Int32))), (.int (nar .char (9 : Int32))), (.int (0 : Int32))] (.int (0 : Int32)) := Arv.set Ar52 q52 S52 M52 H52 G52 (fits_nar_char _) W52 9 rfl (Nat.le_of_ble_eq_true rfl)
  have N52 := Fr.snoc X52 N49 g21
  have f53 : n0 ≤ h52.size := Nat.le_trans f50 (Keep.of_wr W52).1
  have pre52 : Go p.tables e below (s₁.setTop (entryFrame m #[(.int x0), (.int x1), (.int x2)] maxLocals)) T52 (mkF m 101 #[.val (.int x0), .val (.int x1), .val (.int x2), .val (.int w3), .val (.int w9), .val (.int w15), .unset, .unset, .unset, .unset] [(.ref b20)]) := fun t k => pre51 t (st52 _ k)
  have pre54 : Go p.tables e below (s₁.setTop (entryFrame m #[(.int x0), (.int x1), (.int x2)] maxLocals)) T52 (mkF m 106 #[.val (.int x0), .val (.int x1), .val (.int x2), .val (.int w3), .val (.int w9), .val (.int w15), .unset, .unset, .unset, .unset] [(.int (32 : Int32)), (.int (10 : Int32)), (.ref b20), (.ref b20)]) := fun t k => pre52 t (by
      refine XS.dup X52.here hx rfl (hb hby at_101) rfl rfl ?_
      show Steps p.tables e below (T52.setTop (mkF m 102 #[.val (.int x0), .val (.int x1), .val (.int x2), .val (.int w3), .val (.int w9), .val (.int w15), .unset, .unset, .unset, .unset] [(.ref b20), (.ref b20)])) _
      refine XS.bipush X52.here hx rfl (hb hby at_102) ?_
      show Steps p.tables e below (T52.setTop (mkF m 104 #[.val (.int x0), .val (.int x1), .val (.int x2), .val (.int w3), .val (.int w9), .val (.int w15), .unset, .unset, .unset, .unset] [(.int (10 : Int32)), (.ref b20), (.ref b20)])) _
      refine XS.bipush X52.here hx rfl (hb hby at_104) ?_
      exact k)
  obtain ⟨c55, Ar55, q55, S55, M55, H55, G55⟩ := fa52
  have hin55 : ¬ ((10 : Int32) < 0 ∨ c55.slots.size ≤ ((10 : Int32)).toNatClampNeg) := inb_of S55 ⟨by decide, by decide⟩
  obtain ⟨T55, h55, X55, e55, W55, st55⟩ := stC X52 hx hZ e52 Ar55 (j := (10 : Int32)) hin55 (g := (mkF m 106 #[.val (.int x0), .val (.int x1), .val (.int x2), .val (.int w3), .val (.int w9), .val (.int w15), .unset, .unset, .unset, .unset] [(.int (32 : Int32)), (.int (10 : Int32)), (.ref b20), (.ref b20)])) rfl rfl (hb hby at_106)
  have fa55 : Arv Z h55 b20 k20 .char (11 : Int32) [(.int (nar .char (10 : Int32))), (.int (nar .char (13 : Int32))), (.int (nar .char (133 : Int32))), (.int (nar .char (8232 : Int32))), (.int (nar .char (11 : Int32))), (.int (nar .char (12 : Int32))), (.int (nar .char (132 : Int32))), (.int (nar .char (134 : Int32))), (.int (nar .char (8233 : Int32))), (.int (nar .char (9 : Int32))), (.int (nar .char (32 : Int32)))] (.int (0 : Int32)) := Arv.set Ar55 q55 S55 M55 H55 G55 (fits_nar_char _) W55 10 rfl (Nat.le_of_ble_eq_true rfl)
  have N55 := Fr.snoc X55 N52 g21
  have f56 : n0 ≤ h55.size := Nat.le_trans f53 (Keep.of_wr W55).1
  have pre55 : Go p.tables e below (s₁.setTop (entryFrame m #[(.int x0), (.int x1), (.int x2)] maxLocals)) T55 (mkF m 107 #[.val (.int x0), .val (.int x1), .val (.int x2), .val (.int w3), .val (.int w9), .val (.int w15), .unset, .unset, .unset, .unset] [(.ref b20)]) := fun t k => pre54 t (st55 _ k)
  obtain ⟨w57, hw57⟩ : ∃ z : Int32, z = ((x1 &&& (2147483647 : Int32)) % (11 : Int32)) := ⟨_, rfl⟩
  have pre58 : Go p.tables e below (s₁.setTop (entryFrame m #[(.int x0), (.int x1), (.int x2)] maxLocals)) T55 (mkF m 118 #[.val (.int x0), .val (.int x1), .val (.int x2), .val (.int w3), .val (.int w9), .val (.int w15), .val (.ref b20), .val (.int w57), .unset, .unset] []) := fun t k => pre55 t (by
      refine XS.astore X55.here hx rfl (hb hby at_107) rfl rfl (l' := #[.val (.int x0), .val (.int x1), .val (.int x2), .val (.int w3), .val (.int w9), .val (.int w15), .val (.ref b20), .unset, .unset, .unset]) rfl ?_
      show Steps p.tables e below (T55.setTop (mkF m 109 #[.val (.int x0), .val (.int x1), .val (.int x2), .val (.int w3), .val (.int w9), .val (.int w15), .val (.ref b20), .unset, .unset, .unset] [])) _
      refine XS.iloadN X55.here hx rfl (hb hby at_109) rfl ?_
      show Steps p.tables e below (T55.setTop (mkF m 110 #[.val (.int x0), .val (.int x1), .val (.int x2), .val (.int w3), .val (.int w9), .val (.int w15), .val (.ref b20), .unset, .unset, .unset] [(.int x1)])) _
      refine X55.ldcInt hx hown (mvT hZ (hw _ (List.mem_of_getElem? (i := 1) rfl))) (g := (mkF m 110 #[.val (.int x0), .val (.int x1), .val (.int x2), .val (.int w3), .val (.int w9), .val (.int w15), .val (.ref b20), .unset, .unset, .unset] [(.int x1)])) rfl (hb hby at_110) _ ?_
      show Steps p.tables e below (T55.setTop (mkF m 112 #[.val (.int x0), .val (.int x1), .val (.int x2), .val (.int w3), .val (.int w9), .val (.int w15), .val (.ref b20), .unset, .unset, .unset] [(.int (2147483647 : Int32)), (.int x1)])) _
      refine XS.iand X55.here hx rfl (hb hby at_112) rfl ?_
      show Steps p.tables e below (T55.setTop (mkF m 113 #[.val (.int x0), .val (.int x1), .val (.int x2), .val (.int w3), .val (.int w9), .val (.int w15), .val (.ref b20), .unset, .unset, .unset] [(.int (x1 &&& (2147483647 : Int32)))])) _
      refine XS.bipush X55.here hx rfl (hb hby at_113) ?_
      show Steps p.tables e below (T55.setTop (mkF m 115 #[.val (.int x0), .val (.int x1), .val (.int x2), .val (.int w3), .val (.int w9), .val (.int w15), .val (.ref b20), .unset, .unset, .unset] [(.int (11 : Int32)), (.int (x1 &&& (2147483647 : Int32)))])) _
      refine iremM X55 hx (g := (mkF m 115 #[.val (.int x0), .val (.int x1), .val (.int x2), .val (.int w3), .val (.int w9), .val (.int w15), .val (.ref b20), .unset, .unset, .unset] [(.int (11 : Int32)), (.int (x1 &&& (2147483647 : Int32)))])) rfl (hb hby at_115) rfl (by decide) ?_
      show Steps p.tables e below (T55.setTop (mkF m 116 #[.val (.int x0), .val (.int x1), .val (.int x2), .val (.int w3), .val (.int w9), .val (.int w15), .val (.ref b20), .unset, .unset, .unset] [(.int ((x1 &&& (2147483647 : Int32)) % (11 : Int32)))])) _
      refine XS.istore X55.here hx rfl (x := w57) (rest := []) (hb hby at_116) (by subst hw57; rfl) (l' := #[.val (.int x0), .val (.int x1), .val (.int x2), .val (.int w3), .val (.int w9), .val (.int w15), .val (.ref b20), .val (.int w57), .unset, .unset]) rfl ?_
      exact k)
  obtain ⟨u0, hu0⟩ := own_ints (w57).toNatClampNeg [(.int (nar .char (10 : Int32))), (.int (nar .char (13 : Int32))), (.int (nar .char (133 : Int32))), (.int (nar .char (8232 : Int32))), (.int (nar .char (11 : Int32))), (.int (nar .char (12 : Int32))), (.int (nar .char (132 : Int32))), (.int (nar .char (134 : Int32))), (.int (nar .char (8233 : Int32))), (.int (nar .char (9 : Int32))), (.int (nar .char (32 : Int32)))] (by simp)
  obtain ⟨cA, ArA, qA, SA, MA, HA, GA⟩ := fa55
  have hinA : ¬ (w57 < 0 ∨ cA.slots.size ≤ (w57).toNatClampNeg) := inb_of SA (by subst hw57; exact own_idx _)
  have pre59 : Go p.tables e below (s₁.setTop (entryFrame m #[(.int x0), (.int x1), (.int x2)] maxLocals)) T55 (mkF m 120 #[.val (.int x0), .val (.int x1), .val (.int x2), .val (.int w3), .val (.int w9), .val (.int w15), .val (.ref b20), .val (.int w57), .unset, .unset] [(.int w15)]) := fun t k => pre58 t (by
      refine XS.iload X55.here hx rfl (hb hby at_118) rfl ?_
      exact k)
  obtain ⟨T60, L60, w61, X60, e60, N60, hw61, pre60⟩ : ∃ (T60 : State) (L60 : List Loc) (w61 : Int32), Stand p l e room_1 s m #[(.int x0), (.int x1), (.int x2)] below meth c T60 L60 1 11 ∧ T60.heap = h55 ∧ Fr n0 L60 ∧ w61 = (if w15 = (0 : Int32) then (x0.toUInt32.toUInt16.toUInt32.toInt32) else u0) ∧ Go p.tables e below (s₁.setTop (entryFrame m #[(.int x0), (.int x1), (.int x2)] maxLocals)) T60 (mkF m 133 #[.val (.int x0), .val (.int x1), .val (.int x2), .val (.int w3), .val (.int w9), .val (.int w15), .val (.ref b20), .val (.int w57), .unset, .unset] [(.int w61)]) := by
    by_cases hc62 : w15 = (0 : Int32)
    · -- hc62: True
      have pre63 : Go p.tables e below (s₁.setTop (entryFrame m #[(.int x0), (.int x1), (.int x2)] maxLocals)) T55 (mkF m 133 #[.val (.int x0), .val (.int x1), .val (.int x2), .val (.int w3), .val (.int w9), .val (.int w15), .val (.ref b20), .val (.int w57), .unset, .unset] [(.int (x0.toUInt32.toUInt16.toUInt32.toInt32))]) := fun t k => pre59 t (by
          refine XS.ifYes X55.here hx rfl (pc0 := 120) (pc' := 131) rfl (hb hby at_120) rfl ((if0 _ _).trans (teq hc62).1) (by decide) (by decide) ?_
          show Steps p.tables e below (T55.setTop (mkF m 131 #[.val (.int x0), .val (.int x1), .val (.int x2), .val (.int w3), .val (.int w9), .val (.int w15), .val (.ref b20), .val (.int w57), .unset, .unset] [])) _
          refine XS.iloadN X55.here hx rfl (hb hby at_131) rfl ?_
          show Steps p.tables e below (T55.setTop (mkF m 132 #[.val (.int x0), .val (.int x1), .val (.int x2), .val (.int w3), .val (.int w9), .val (.int w15), .val (.ref b20), .val (.int w57), .unset, .unset] [(.int x0)])) _
          refine XS.i2c X55.here hx rfl (hb hby at_132) rfl ?_
          exact k)
      refine ⟨_, _, _, X55, e55, N55, ?_, pre63⟩
      · exact (if_pos hc62).symm
    · -- hc62: False
      have pre64 : Go p.tables e below (s₁.setTop (entryFrame m #[(.int x0), (.int x1), (.int x2)] maxLocals)) T55 (mkF m 127 #[.val (.int x0), .val (.int x1), .val (.int x2), .val (.int w3), .val (.int w9), .val (.int w15), .val (.ref b20), .val (.int w57), .unset, .unset] [(.int w57), (.ref b20)]) := fun t k => pre59 t (by
          refine XS.ifNo X55.here hx rfl (hb hby at_120) rfl ((if0 _ _).trans (feq hc62).1) ?_
          show Steps p.tables e below (T55.setTop (mkF m 123 #[.val (.int x0), .val (.int x1), .val (.int x2), .val (.int w3), .val (.int w9), .val (.int w15), .val (.ref b20), .val (.int w57), .unset, .unset] [])) _
          refine XS.aload X55.here hx rfl (hb hby at_123) rfl rfl ?_
          show Steps p.tables e below (T55.setTop (mkF m 125 #[.val (.int x0), .val (.int x1), .val (.int x2), .val (.int w3), .val (.int w9), .val (.int w15), .val (.ref b20), .val (.int w57), .unset, .unset] [(.ref b20)])) _
          refine XS.iload X55.here hx rfl (hb hby at_125) rfl ?_
          exact k)
      have pre65 : Go p.tables e below (s₁.setTop (entryFrame m #[(.int x0), (.int x1), (.int x2)] maxLocals)) T55 (mkF m 128 #[.val (.int x0), .val (.int x1), .val (.int x2), .val (.int w3), .val (.int w9), .val (.int w15), .val (.ref b20), .val (.int w57), .unset, .unset] [(.int u0)]) := fun t k => pre64 t (X55.caload hx (j := w57) (v := (.int u0)) (by rw [e55]; exact ArA.1) (State.isArrayOf_alike hZ.alike ArA.2.1) ArA.2.2 hinA (HA.at hinA hu0) (g := (mkF m 127 #[.val (.int x0), .val (.int x1), .val (.int x2), .val (.int w3), .val (.int w9), .val (.int w15), .val (.ref b20), .val (.int w57), .unset, .unset] [(.int w57), (.ref b20)])) rfl rfl (hb hby at_127) _ k)
      have pre66 : Go p.tables e below (s₁.setTop (entryFrame m #[(.int x0), (.int x1), (.int x2)] maxLocals)) T55 (mkF m 133 #[.val (.int x0), .val (.int x1), .val (.int x2), .val (.int w3), .val (.int w9), .val (.int w15), .val (.ref b20), .val (.int w57), .unset, .unset] [(.int u0)]) := fun t k => pre65 t (by
          refine XS.goto X55.here hx rfl (pc0 := 128) (pc' := 133) rfl (hb hby at_128) (by decide) (by decide) ?_
          exact k)
      refine ⟨_, _, _, X55, e55, N55, ?_, pre66⟩
      · exact (if_neg hc62).symm
  have pre67 : Go p.tables e below (s₁.setTop (entryFrame m #[(.int x0), (.int x1), (.int x2)] maxLocals)) T60 (mkF m 140 #[.val (.int x0), .val (.int x1), .val (.int x2), .val (.int w3), .val (.int w9), .val (.int w15), .val (.ref b20), .val (.int w57), .val (.int w61), .unset] [(.int w9), (.int w3), (.int w61)]) := fun t k => pre60 t (by
      refine XS.istore X60.here hx rfl (hb hby at_133) rfl (l' := #[.val (.int x0), .val (.int x1), .val (.int x2), .val (.int w3), .val (.int w9), .val (.int w15), .val (.ref b20), .val (.int w57), .val (.int w61), .unset]) rfl ?_
      show Steps p.tables e below (T60.setTop (mkF m 135 #[.val (.int x0), .val (.int x1), .val (.int x2), .val (.int w3), .val (.int w9), .val (.int w15), .val (.ref b20), .val (.int w57), .val (.int w61), .unset] [])) _
      refine XS.iload X60.here hx rfl (hb hby at_135) rfl ?_
      show Steps p.tables e below (T60.setTop (mkF m 137 #[.val (.int x0), .val (.int x1), .val (.int x2), .val (.int w3), .val (.int w9), .val (.int w15), .val (.ref b20), .val (.int w57), .val (.int w61), .unset] [(.int w61)])) _
      refine XS.iloadN X60.here hx rfl (hb hby at_137) rfl ?_
      show Steps p.tables e below (T60.setTop (mkF m 138 #[.val (.int x0), .val (.int x1), .val (.int x2), .val (.int w3), .val (.int w9), .val (.int w15), .val (.ref b20), .val (.int w57), .val (.int w61), .unset] [(.int w3), (.int w61)])) _
      refine XS.iload X60.here hx rfl (hb hby at_138) rfl ?_
      exact k)
  obtain ⟨_, _, ⟨T68, L68, k68, n68⟩, -, X68, ⟨Lc68, hQ68, l68, y68, z68⟩, st68⟩ := Jvm.LawKit.callS X60 hx (y := (⟨"com/example/bracketeer/bracketeer/xml/MarkupScan", "endsLine", "(CZZ)Z"⟩ : MethodName)) hown (mvT hZ (hw _ (List.mem_of_getElem? (i := 2) rfl))) (mvT hZ (hw _ (List.mem_of_getElem? (i := 3) rfl))) (mvT hZ (hw _ (List.mem_of_getElem? (i := 4) rfl))) (mvT hZ (hw _ (List.mem_of_getElem? (i := 5) rfl))) (by decide) (backOf (W := 0) (rm_ends l Z a0 hw [] w61 w3 w9 h55 n0) hZ (hw _ (List.mem_of_getElem? (i := 5) rfl)) (hw _ (List.mem_of_getElem? (i := 4) rfl)) (by decide) (by decide)) (g := (mkF m 140 #[.val (.int x0), .val (.int x1), .val (.int x2), .val (.int w3), .val (.int w9), .val (.int w15), .val (.ref b20), .val (.int w57), .val (.int w61), .unset] [(.int w9), (.int w3), (.int w61)])) rfl (by rw [hml]; rfl) (argsL := [(.int w61), (.int w3), (.int w9)]) (rest := []) (lenOf pd_0 rfl) rfl (by show 2 * 0 + _ ≤ _; exact Nat.le_of_eq rfl) (hb hby at_140) (fun _ _ => ⟨rfl, e60, (by decide : 1 + 0 ≤ _), (by decide : 11 + 0 ≤ _)⟩)
  dsimp only [Pt.U, Pt.locs, Pt.cells, Pt.slots] at X68 l68 y68 z68 st68 hQ68
  subst l68 y68 z68
  obtain ⟨rfl, N68q, e68⟩ := hQ68
  have N68 := Fr.app N60 N68q
  have pre68 : Go p.tables e below (s₁.setTop (entryFrame m #[(.int x0), (.int x1), (.int x2)] maxLocals)) T68 (mkF m 143 #[.val (.int x0), .val (.int x1), .val (.int x2), .val (.int w3), .val (.int w9), .val (.int w15), .val (.ref b20), .val (.int w57), .val (.int w61), .unset] [(.int (own_ends w61 w3 w9))]) := fun t k => pre67 t (st68 _ k)
  obtain ⟨w69, hw69⟩ : ∃ z : Int32, z = (own_ends w61 w3 w9) := ⟨_, rfl⟩
  have pre70 : Go p.tables e below (s₁.setTop (entryFrame m #[(.int x0), (.int x1), (.int x2)] maxLocals)) T68 (mkF m 152 #[.val (.int x0), .val (.int x1), .val (.int x2), .val (.int w3), .val (.int w9), .val (.int w15), .val (.ref b20), .val (.int w57), .val (.int w61), .val (.int w69)] [(.int w9), (.int w3), (.int w61), (.int w69)]) := fun t k => pre68 t (by
      refine XS.istore X68.here hx rfl (x := w69) (rest := []) (hb hby at_143) (by subst hw69; rfl) (l' := #[.val (.int x0), .val (.int x1), .val (.int x2), .val (.int w3), .val (.int w9), .val (.int w15), .val (.ref b20), .val (.int w57), .val (.int w61), .val (.int w69)]) rfl ?_
      show Steps p.tables e below (T68.setTop (mkF m 145 #[.val (.int x0), .val (.int x1), .val (.int x2), .val (.int w3), .val (.int w9), .val (.int w15), .val (.ref b20), .val (.int w57), .val (.int w61), .val (.int w69)] [])) _
      refine XS.iload X68.here hx rfl (hb hby at_145) rfl ?_
      show Steps p.tables e below (T68.setTop (mkF m 147 #[.val (.int x0), .val (.int x1), .val (.int x2), .val (.int w3), .val (.int w9), .val (.int w15), .val (.ref b20), .val (.int w57), .val (.int w61), .val (.int w69)] [(.int w69)])) _
      refine XS.iload X68.here hx rfl (hb hby at_147) rfl ?_
      show Steps p.tables e below (T68.setTop (mkF m 149 #[.val (.int x0), .val (.int x1), .val (.int x2), .val (.int w3), .val (.int w9), .val (.int w15), .val (.ref b20), .val (.int w57), .val (.int w61), .val (.int w69)] [(.int w61), (.int w69)])) _
      refine XS.iloadN X68.here hx rfl (hb hby at_149) rfl ?_
      show Steps p.tables e below (T68.setTop (mkF m 150 #[.val (.int x0), .val (.int x1), .val (.int x2), .val (.int w3), .val (.int w9), .val (.int w15), .val (.ref b20), .val (.int w57), .val (.int w61), .val (.int w69)] [(.int w3), (.int w61), (.int w69)])) _
      refine XS.iload X68.here hx rfl (hb hby at_150) rfl ?_
      exact k)
  obtain ⟨_, _, ⟨T71, L71, k71, n71⟩, -, X71, ⟨Lc71, hQ71, l71, y71, z71⟩, st71⟩ := Jvm.LawKit.callS X68 hx (y := (⟨"com/example/bracketeer/bracketeer/xml/MarkupScanEndsLinePinLaw", "expected", "(CZZ)Z"⟩ : MethodName)) hown (mvT hZ (hw _ (List.mem_of_getElem? (i := 6) rfl))) (mvT hZ (hw _ (List.mem_of_getElem? (i := 7) rfl))) (mvT hZ (hw _ (List.mem_of_getElem? (i := 8) rfl))) (mvT hZ (hw _ (List.mem_of_getElem? (i := 9) rfl))) (by decide) (backOf (W := 1) (rm_exp l Z a0 hw [] w61 w3 w9 h55 n0) hZ (hw _ (List.mem_of_getElem? (i := 9) rfl)) (hw _ (List.mem_of_getElem? (i := 8) rfl)) (by decide) (by decide)) (g := (mkF m 152 #[.val (.int x0), .val (.int x1), .val (.int x2), .val (.int w3), .val (.int w9), .val (.int w15), .val (.ref b20), .val (.int w57), .val (.int w61), .val (.int w69)] [(.int w9), (.int w3), (.int w61), (.int w69)])) rfl (by rw [hml]; rfl) (argsL := [(.int w61), (.int w3), (.int w9)]) (rest := [(.int w69)]) (lenOf pd_0 rfl) rfl (by show 2 * 0 + _ ≤ _; exact Nat.le_of_eq rfl) (hb hby at_152) (fun _ _ => ⟨rfl, e68, (by decide : 1 + 0 ≤ _), (by decide : 11 + 0 ≤ _)⟩)
  dsimp only [Pt.U, Pt.locs, Pt.cells, Pt.slots] at X71 l71 y71 z71 st71 hQ71
  subst l71 y71 z71
  obtain ⟨rfl, N71q, e71⟩ := hQ71
  have N71 := Fr.app N68 N71q
  have pre71 : Go p.tables e below (s₁.setTop (entryFrame m #[(.int x0), (.int x1), (.int x2)] maxLocals)) T71 (mkF m 155 #[.val (.int x0), .val (.int x1), .val (.int x2), .val (.int w3), .val (.int w9), .val (.int w15), .val (.ref b20), .val (.int w57), .val (.int w61), .val (.int w69)] [(.int (own_exp w61 w3 w9)), (.int w69)]) := fun t k => pre70 t (st71 _ k)
  by_cases hc72 : w69 = (own_exp w61 w3 w9)
  · -- hc72: True
    have pre73 : Go p.tables e below (s₁.setTop (entryFrame m #[(.int x0), (.int x1), (.int x2)] maxLocals)) T71 (mkF m 163 #[.val (.int x0), .val (.int x1), .val (.int x2), .val (.int w3), .val (.int w9), .val (.int w15), .val (.ref b20), .val (.int w57), .val (.int w61), .val (.int w69)] [(.int (1 : Int32))]) := fun t k => pre71 t (by
        refine XS.icmpNo X71.here hx rfl (hb hby at_155) rfl (teq hc72).2 ?_
        show Steps p.tables e below (T71.setTop (mkF m 158 #[.val (.int x0), .val (.int x1), .val (.int x2), .val (.int w3), .val (.int w9), .val (.int w15), .val (.ref b20), .val (.int w57), .val (.int w61), .val (.int w69)] [])) _
        refine XS.iconst X71.here hx rfl (hb hby at_158) ?_
        show Steps p.tables e below (T71.setTop (mkF m 159 #[.val (.int x0), .val (.int x1), .val (.int x2), .val (.int w3), .val (.int w9), .val (.int w15), .val (.ref b20), .val (.int w57), .val (.int w61), .val (.int w69)] [(.int (1 : Int32))])) _
        refine XS.goto X71.here hx rfl (pc0 := 159) (pc' := 163) rfl (hb hby at_159) (by decide) (by decide) ?_
        exact k)
    obtain ⟨fs, hr, hrun, hended, hW, hsame⟩ := X71.leave (v := some (.int (1 : Int32))) (fun h => by rw [Bd.returns] at h; cases h) (BodyLoose.notSynchronized Bd)
    refine ⟨_, _, pre73 _ ?_, hrun, hended, _, _, rfl, ?_, ⟨_, rfl⟩, hW, hsame.mono (Nat.le_of_ble_eq_true rfl) (Nat.le_of_ble_eq_true rfl)⟩
    · exact retN X71 hx (t := .boolean) Bd.returns (by simp) (hb hby at_163) hr
    · show Q_law Z x0 x1 x2 h0 n0 _ T71.heap _
      rw [e71]
      exact ⟨rfl, N71⟩
  · -- hc72: False
    have pre74 : Go p.tables e below (s₁.setTop (entryFrame m #[(.int x0), (.int x1), (.int x2)] maxLocals)) T71 (mkF m 163 #[.val (.int x0), .val (.int x1), .val (.int x2), .val (.int w3), .val (.int w9), .val (.int w15), .val (.ref b20), .val (.int w57), .val (.int w61), .val (.int w69)] [(.int (0 : Int32))]) := fun t k => pre71 t (by
        refine XS.icmpYes X71.here hx rfl (pc0 := 155) (pc' := 162) rfl (hb hby at_155) rfl (feq hc72).2 (by decide) (by decide) ?_
        show Steps p.tables e below (T71.setTop (mkF m 162 #[.val (.int x0), .val (.int x1), .val (.int x2), .val (.int w3), .val (.int w9), .val (.int w15), .val (.ref b20), .val (.int w57), .val (.int w61), .val (.int w69)] [])) _
        refine XS.iconst X71.here hx rfl (hb hby at_162) ?_
        exact k)
    obtain ⟨fs, hr, hrun, hended, hW, hsame⟩ := X71.leave (v := some (.int (0 : Int32))) (fun h => by rw [Bd.returns] at h; cases h) (BodyLoose.notSynchronized Bd)
    refine ⟨_, _, pre74 _ ?_, hrun, hended, _, _, rfl, ?_, ⟨_, rfl⟩, hW, hsame.mono (Nat.le_of_ble_eq_true rfl) (Nat.le_of_ble_eq_true rfl)⟩
    · exact retN X71 hx (t := .boolean) Bd.returns (by simp) (hb hby at_163) hr
    · show Q_law Z x0 x1 x2 h0 n0 _ T71.heap _
      rw [e71]
      subst hw69 hw61 hw57 hw15 hw9 hw3
      exact absurd (own_law _ _ _) hc72
set_option maxRecDepth 65536 in
set_option maxHeartbeats 40000000 in
theorem comes_1 {Post : Tables → Env → Array Value → State → Outcome → State → Prop} (hpost : ∀ tb e args s v u, (limb_1_1.after args s (.returned v) u = true ∧ limb_1_2.after args s (.returned v) u = true ∧ True) → FrameEnd s (.returned v) u (Jvm.fieldLocs frame_1_writes args s ++ Jvm.arrayLocs frame_1_arrays args s ++ Jvm.staticLocs frame_1_statics s) 16 128 → Post tb e args s (.returned v) u) :
    ArmFor flags0 classFile x code maxLocals ret World_1 tables_1 room_1 Calls_1 rest_1 Pre_1 Post := by
  intro l hfl _ _ p e ha hc hk s m args below hf hA hF happ hP
  obtain ⟨hcalls, hrest, hpre⟩ := hP
  obtain ⟨-, -, -, hnamed, -, -, -, hat⟩ := (Spec.applies_iff hf).mp happ
  obtain ⟨hg, hn⟩ := and_e (Cond.before_iff.mp (show (Jvm.Cond.and given_1 narrow_1).before args s = true from hpre))
  obtain ⟨gc, gt0⟩ := and_e hg
  obtain ⟨ga0, gt1⟩ := and_e gt0
  obtain ⟨ga1, gt2⟩ := and_e gt1
  obtain ⟨w0, w1, w2, rfl⟩ : ∃ w0 w1 w2 : Value, args = #[w0, w1, w2] := by
    have hs : args.size = 3 := by simpa [Cond.value, given_1] using gc
    obtain ⟨L⟩ := args
    match L, hs with
    | [w0, w1, w2], _ => exact ⟨w0, w1, w2, rfl⟩
  have hw := fun d (hd : d ∈ tables_1) => atoms_spec (ws := Jvm.Cond.code x code maxLocals ret :: tables_1) hat d (List.mem_cons_of_mem _ hd)
  have hfit : Fit s := fun {y c} hc i hi => by
    obtain ⟨ha, rfl⟩ := Array.getElem?_eq_some_iff.mp hc
    have q := List.all_eq_true.mp ((Array.all_eq_true_iff_forall_mem.mp hF) _ (Array.getElem_mem ha)) i (List.mem_range.mpr hi)
    simpa [Array.getElem?_eq_getElem hi] using q
  obtain ⟨i0, ei0⟩ := is_v ga0
  obtain rfl : w0 = (.int i0) := Option.some.inj ei0
  obtain ⟨i1, ei1⟩ := is_v ga1
  obtain rfl : w1 = (.int i1) := Option.some.inj ei1
  obtain ⟨i2, ei2⟩ := is_v gt2
  obtain rfl : w2 = (.int i2) := Option.some.inj ei2
  obtain ⟨n, o, h1, h2, h3, _, L, rfl, ⟨rfl, N⟩, hq⟩ := rm_law l s _ hw tables_1 i0 i1 i2  s.heap s.heap.size (Nat.le_refl _)  p e ha hc hk s m _ below hf ((Spec.applies_iff_loose hf).mp happ).1 ⟨rfl, State.Warmed39.refl s, rfl⟩ trivial
  refine ⟨n, _, h1, h2, h3, hpost _ _ _ _ _ _ ⟨Cond.after_iff.mpr rfl, Cond.after_iff.mpr (eq_i res_at (Term.int_eval (1)) rfl), trivial⟩ ⟨hq.1, hq.2.1, (hq.2.2.sift fun y hy => Or.inr (N y hy)).mono (by decide) (by decide)⟩⟩
theorem main_1_1 : Claimed_1_1 := comes_1 fun _ _ _ _ _ _ h hF => ⟨h.1, hF⟩
theorem main_1_2 : Claimed_1_2 := comes_1 fun _ _ _ _ _ _ h hF => ⟨h.2.1, hF⟩
end Jvm.Pilot.@@N@@
namespace Jvm.Pilot.@@N@@
open Jvm Jvm.ClassFile Sem Op Lib Jvm.Free Jvm.Stand Jvm.Pilot.@@N@@.Jvm.D
/-! MADE BY PROGRAM (witnessworld.py) out of the Statement's table words and the real class files: 11 classes; the members and pool entries that the words name. The judged class is class 1, her method 1. -/
namespace start1
open Jvm.ClassFile
def u (s : String) : CpInfo := .utf8 (stringToUtf16 s)
/-- a pool by its gaps: so many unusable entries, then the entry; so many at the end -/
def gap : Nat → List CpInfo → List CpInfo
  | 0, r => r
  | n + 1, r => .unusable :: gap n r
def poolList (es : List (Nat × CpInfo)) (last : Nat) : List CpInfo := es.foldr (fun e r => gap e.1 (e.2 :: r)) (gap last [])
def pool (es : List (Nat × CpInfo)) (last : Nat) : Array CpInfo := ⟨poolList es last⟩
def fileOf (pool : Array CpInfo) (this : Nat) (attrs : Array Attribute := #[]) (ms : Array MethodInfo := #[]) (fl : Nat := 33) (sup : Nat := 0) (ifs : Array Nat := #[]) (fds : Array FieldInfo := #[]) : ClassFile where
  minorVersion := 0
  majorVersion := 65
  constantPool := pool
  accessFlags := fl
  thisClass := this
  superClass := sup
  interfaces := ifs
  fields := fds
  methods := ms
  attributes := attrs
def plain (name : String) (sup : Option ClassId) : Class where
  name := name
  kind := .ordinary
  loader := none
  accessFlags := 33
  super := sup
  interfaces := #[]
  cf := none
  fields := #[]
  methods := #[]
  instanceTypes := #[]
  staticTypes := #[]
  resolved := #[]
  callSites := []
  init := .initialized
  statics := none
  mirror := none

def pool0 : Array CpInfo := pool [(5, u "<init>"), (0, u "()V"), (1, .class_ 10), (1, u "java/lang/Object")] 113

def k0m0 : Method := { name := "<init>", desc := "()V", sig := { parameters := [], returnType := none }, accessFlags := 1, code := none }
/-- java/lang/Object -/
def k0 : Class := { plain "java/lang/Object" none with
  accessFlags := 33
  interfaces := #[]
  cf := some (fileOf pool0 8 #[] #[{ accessFlags := 1, nameIndex := 5, descriptorIndex := 6, attributes := #[] }] 33 0 #[] #[])
  fields := #[]
  methods := #[k0m0]
  instanceTypes := #[]
  staticTypes := #[]
  resolved := Array.replicate 124 none
  statics := none }

def pool1 : Array CpInfo := pool [(2, .class_ 4), (1, u "java/lang/Object"), (0, u "<init>"), (0, u "()V"), (0, .integer 2147483647), (0, .methodref 9 10), (0, .class_ 11), (0, .nameAndType 12 13), (0, u "com/example/bracketeer/bracketeer/xml/MarkupScan"), (0, u "endsLine"), (0, u "(CZZ)Z"), (0, .methodref 15 16), (0, .class_ 17), (0, .nameAndType 18 13), (0, u "com/example/bracketeer/bracketeer/xml/MarkupScanEndsLinePinLaw"), (0, u "expected"), (2, u "law"), (0, u "(III)Z")] 5

def k1m0 : Method := { name := "<init>", desc := "()V", sig := { parameters := [], returnType := none }, accessFlags := 2, code := none }
def k1c1 : Code := { maxStack := 4, maxLocals := 10, code := code, exceptionTable := #[], attributes := #[] }
def k1m1 : Method := { name := "law", desc := "(III)Z", sig := { parameters := [.int, .int, .int], returnType := some .boolean }, accessFlags := 9, code := some k1c1 }
def k1c2 : Code := { maxStack := 2, maxLocals := 5, code := method_3_code, exceptionTable := #[], attributes := #[] }
def k1m2 : Method := { name := "expected", desc := "(CZZ)Z", sig := { parameters := [.char, .boolean, .boolean], returnType := some .boolean }, accessFlags := 10, code := some k1c2 }
/-- com/example/bracketeer/bracketeer/xml/MarkupScanEndsLinePinLaw -/
def k1 : Class := { plain "com/example/bracketeer/bracketeer/xml/MarkupScanEndsLinePinLaw" (some 0) with
  accessFlags := 49
  interfaces := #[]
  cf := some (fileOf pool1 15 #[] #[{ accessFlags := 2, nameIndex := 5, descriptorIndex := 6, attributes := #[] }, { accessFlags := 9, nameIndex := 21, descriptorIndex := 22, attributes := #[] }, { accessFlags := 10, nameIndex := 18, descriptorIndex := 13, attributes := #[] }] 49 2 #[] #[])
  fields := #[]
  methods := #[k1m0, k1m1, k1m2]
  instanceTypes := #[]
  staticTypes := #[]
  resolved := Array.replicate 28 none
  statics := none }

def pool2 : Array CpInfo := pool [(2, .class_ 4), (1, u "java/lang/Object"), (3, .class_ 10), (1, u "com/example/bracketeer/bracketeer/xml/MarkupScan$Part"), (1, u "Lcom/example/bracketeer/bracketeer/xml/MarkupScan$Part;"), (1, .class_ 16), (1, u "com/example/bracketeer/bracketeer/xml/MarkupScan"), (0, u "part"), (2, u "outer"), (1, .class_ 24), (1, u "com/example/bracketeer/bracketeer/xml/MarkupScan$TagPlace"), (1, u "Lcom/example/bracketeer/bracketeer/xml/MarkupScan$TagPlace;"), (2, u "place"), (5, u "tagNames"), (0, u "Lcom/example/bracketeer/bracketeer/xml/TagNames;"), (4, u "doctypeStart"), (0, u "J"), (2, u "subsetStart"), (2, u "subsetEnd"), (2, u "doctypeEnd"), (2, u "xml11"), (0, u "Z"), (2, u "valuesRead"), (7, u "readerNames"), (0, u "Lcom/example/bracketeer/bracketeer/xml/ReaderNames;"), (8, u "input"), (0, u "[C"), (2, u "position"), (3, u "start"), (0, u "I"), (2, u "kept"), (4, u "limit"), (2, u "given"), (2, u "ended"), (2, u "needed"), (2, u "output"), (2, u "offset"), (2, u "room"), (2, u "written"), (2, u "full"), (15, u "previous"), (0, u "C"), (5, u "writtenBefore"), (2, u "lineEnds"), (2, u "refusal"), (0, u "Lcom/example/bracketeer/bracketeer/xml/DocumentException;"), (2, u "prologRead"), (2, u "subsetHasEntities"), (2, u "subsetHasAttributeLists"), (2, u "externalId"), (41, u "IN_CONTENT"), (0, u "Ljava/util/List;"), (5, .class_ 210), (1, u "com/example/bracketeer/bracketeer/xml/MarkupScan$Predefined"), (24, u "IN_DOCTYPE"), (8, u "inInternalSubset"), (44, u "spaced"), (46, u "lineEndsToWrite"), (14, u "repeated"), (0, u "Ljava/lang/String;"), (33, u "inReference"), (16, u "inTarget"), (2, u "pieceLength"), (49, u "PREDEFINED"), (21, u "endsLine"), (0, u "(CZZ)Z"), (39, u "LOOKAHEAD"), (2, u "PIECE_LENGTH"), (1, u "PIECE_TARGET"), (2, u "ATTRIBUTE_LOOKAHEAD")] 33

def k2c0 : Code := { maxStack := 2, maxLocals := 4, code := prog_126_method_14_code, exceptionTable := #[], attributes := #[] }
def k2m0 : Method := { name := "endsLine", desc := "(CZZ)Z", sig := { parameters := [.char, .boolean, .boolean], returnType := some .boolean }, accessFlags := 8, code := some k2c0 }
/-- com/example/bracketeer/bracketeer/xml/MarkupScan -/
def k2 : Class := { plain "com/example/bracketeer/bracketeer/xml/MarkupScan" (some 0) with
  accessFlags := 48
  interfaces := #[]
  cf := some (fileOf pool2 14 #[.nestMembers #[8, 22, 208]] #[{ accessFlags := 8, nameIndex := 478, descriptorIndex := 479, attributes := #[] }] 48 2 #[] #[{ accessFlags := 24, nameIndex := 519, descriptorIndex := 85, attributes := #[] }, { accessFlags := 24, nameIndex := 522, descriptorIndex := 85, attributes := #[] }, { accessFlags := 24, nameIndex := 524, descriptorIndex := 352, attributes := #[] }, { accessFlags := 24, nameIndex := 527, descriptorIndex := 85, attributes := #[] }, { accessFlags := 26, nameIndex := 456, descriptorIndex := 202, attributes := #[] }, { accessFlags := 26, nameIndex := 201, descriptorIndex := 202, attributes := #[] }, { accessFlags := 26, nameIndex := 235, descriptorIndex := 202, attributes := #[] }, { accessFlags := 18, nameIndex := 54, descriptorIndex := 55, attributes := #[] }, { accessFlags := 18, nameIndex := 58, descriptorIndex := 55, attributes := #[] }, { accessFlags := 2, nameIndex := 143, descriptorIndex := 42, attributes := #[] }, { accessFlags := 2, nameIndex := 133, descriptorIndex := 134, attributes := #[] }, { accessFlags := 2, nameIndex := 17, descriptorIndex := 12, attributes := #[] }, { accessFlags := 2, nameIndex := 20, descriptorIndex := 12, attributes := #[] }, { accessFlags := 2, nameIndex := 244, descriptorIndex := 55, attributes := #[] }, { accessFlags := 2, nameIndex := 406, descriptorIndex := 85, attributes := #[] }, { accessFlags := 2, nameIndex := 403, descriptorIndex := 55, attributes := #[] }, { accessFlags := 2, nameIndex := 386, descriptorIndex := 55, attributes := #[] }, { accessFlags := 2, nameIndex := 29, descriptorIndex := 26, attributes := #[] }, { accessFlags := 2, nameIndex := 289, descriptorIndex := 55, attributes := #[] }, { accessFlags := 18, nameIndex := 35, descriptorIndex := 36, attributes := #[] }, { accessFlags := 18, nameIndex := 66, descriptorIndex := 67, attributes := #[] }, { accessFlags := 2, nameIndex := 351, descriptorIndex := 352, attributes := #[] }, { accessFlags := 2, nameIndex := 336, descriptorIndex := 85, attributes := #[] }, { accessFlags := 2, nameIndex := 146, descriptorIndex := 147, attributes := #[] }, { accessFlags := 2, nameIndex := 150, descriptorIndex := 55, attributes := #[] }, { accessFlags := 2, nameIndex := 41, descriptorIndex := 42, attributes := #[] }, { accessFlags := 2, nameIndex := 45, descriptorIndex := 42, attributes := #[] }, { accessFlags := 2, nameIndex := 48, descriptorIndex := 42, attributes := #[] }, { accessFlags := 2, nameIndex := 51, descriptorIndex := 42, attributes := #[] }, { accessFlags := 2, nameIndex := 153, descriptorIndex := 55, attributes := #[] }, { accessFlags := 2, nameIndex := 156, descriptorIndex := 55, attributes := #[] }, { accessFlags := 2, nameIndex := 159, descriptorIndex := 55, attributes := #[] }, { accessFlags := 2, nameIndex := 140, descriptorIndex := 42, attributes := #[] }, { accessFlags := 2, nameIndex := 76, descriptorIndex := 77, attributes := #[] }, { accessFlags := 2, nameIndex := 84, descriptorIndex := 85, attributes := #[] }, { accessFlags := 2, nameIndex := 88, descriptorIndex := 85, attributes := #[] }, { accessFlags := 2, nameIndex := 80, descriptorIndex := 85, attributes := #[] }, { accessFlags := 2, nameIndex := 93, descriptorIndex := 85, attributes := #[] }, { accessFlags := 2, nameIndex := 96, descriptorIndex := 85, attributes := #[] }, { accessFlags := 2, nameIndex := 99, descriptorIndex := 55, attributes := #[] }, { accessFlags := 2, nameIndex := 102, descriptorIndex := 85, attributes := #[] }, { accessFlags := 2, nameIndex := 105, descriptorIndex := 77, attributes := #[] }, { accessFlags := 2, nameIndex := 108, descriptorIndex := 85, attributes := #[] }, { accessFlags := 2, nameIndex := 111, descriptorIndex := 85, attributes := #[] }, { accessFlags := 2, nameIndex := 114, descriptorIndex := 85, attributes := #[] }, { accessFlags := 2, nameIndex := 117, descriptorIndex := 55, attributes := #[] }])
  fields := #[{ name := "LOOKAHEAD", type := .int, accessFlags := 24, slot := 0, constantValue := 0 }, { name := "PIECE_LENGTH", type := .int, accessFlags := 24, slot := 1, constantValue := 0 }, { name := "PIECE_TARGET", type := (.object "java/lang/String"), accessFlags := 24, slot := 2, constantValue := 0 }, { name := "ATTRIBUTE_LOOKAHEAD", type := .int, accessFlags := 24, slot := 3, constantValue := 0 }, { name := "PREDEFINED", type := (.object "java/util/List"), accessFlags := 26, slot := 4, constantValue := 0 }, { name := "IN_CONTENT", type := (.object "java/util/List"), accessFlags := 26, slot := 5, constantValue := 0 }, { name := "IN_DOCTYPE", type := (.object "java/util/List"), accessFlags := 26, slot := 6, constantValue := 0 }, { name := "xml11", type := .boolean, accessFlags := 18, slot := 0, constantValue := 0 }, { name := "valuesRead", type := .boolean, accessFlags := 18, slot := 1, constantValue := 0 }, { name := "lineEnds", type := .long, accessFlags := 2, slot := 2, constantValue := 0 }, { name := "previous", type := .char, accessFlags := 2, slot := 3, constantValue := 0 }, { name := "part", type := (.object "com/example/bracketeer/bracketeer/xml/MarkupScan$Part"), accessFlags := 2, slot := 4, constantValue := 0 }, { name := "outer", type := (.object "com/example/bracketeer/bracketeer/xml/MarkupScan$Part"), accessFlags := 2, slot := 5, constantValue := 0 }, { name := "inInternalSubset", type := .boolean, accessFlags := 2, slot := 6, constantValue := 0 }, { name := "pieceLength", type := .int, accessFlags := 2, slot := 7, constantValue := 0 }, { name := "inTarget", type := .boolean, accessFlags := 2, slot := 8, constantValue := 0 }, { name := "inReference", type := .boolean, accessFlags := 2, slot := 9, constantValue := 0 }, { name := "place", type := (.object "com/example/bracketeer/bracketeer/xml/MarkupScan$TagPlace"), accessFlags := 2, slot := 10, constantValue := 0 }, { name := "spaced", type := .boolean, accessFlags := 2, slot := 11, constantValue := 0 }, { name := "tagNames", type := (.object "com/example/bracketeer/bracketeer/xml/TagNames"), accessFlags := 18, slot := 12, constantValue := 0 }, { name := "readerNames", type := (.object "com/example/bracketeer/bracketeer/xml/ReaderNames"), accessFlags := 18, slot := 13, constantValue := 0 }, { name := "repeated", type := (.object "java/lang/String"), accessFlags := 2, slot := 14, constantValue := 0 }, { name := "lineEndsToWrite", type := .int, accessFlags := 2, slot := 15, constantValue := 0 }, { name := "refusal", type := (.object "com/example/bracketeer/bracketeer/xml/DocumentException"), accessFlags := 2, slot := 16, constantValue := 0 }, { name := "prologRead", type := .boolean, accessFlags := 2, slot := 17, constantValue := 0 }, { name := "doctypeStart", type := .long, accessFlags := 2, slot := 18, constantValue := 0 }, { name := "subsetStart", type := .long, accessFlags := 2, slot := 19, constantValue := 0 }, { name := "subsetEnd", type := .long, accessFlags := 2, slot := 20, constantValue := 0 }, { name := "doctypeEnd", type := .long, accessFlags := 2, slot := 21, constantValue := 0 }, { name := "subsetHasEntities", type := .boolean, accessFlags := 2, slot := 22, constantValue := 0 }, { name := "subsetHasAttributeLists", type := .boolean, accessFlags := 2, slot := 23, constantValue := 0 }, { name := "externalId", type := .boolean, accessFlags := 2, slot := 24, constantValue := 0 }, { name := "writtenBefore", type := .long, accessFlags := 2, slot := 25, constantValue := 0 }, { name := "input", type := (.array .char), accessFlags := 2, slot := 26, constantValue := 0 }, { name := "start", type := .int, accessFlags := 2, slot := 27, constantValue := 0 }, { name := "kept", type := .int, accessFlags := 2, slot := 28, constantValue := 0 }, { name := "position", type := .int, accessFlags := 2, slot := 29, constantValue := 0 }, { name := "limit", type := .int, accessFlags := 2, slot := 30, constantValue := 0 }, { name := "given", type := .int, accessFlags := 2, slot := 31, constantValue := 0 }, { name := "ended", type := .boolean, accessFlags := 2, slot := 32, constantValue := 0 }, { name := "needed", type := .int, accessFlags := 2, slot := 33, constantValue := 0 }, { name := "output", type := (.array .char), accessFlags := 2, slot := 34, constantValue := 0 }, { name := "offset", type := .int, accessFlags := 2, slot := 35, constantValue := 0 }, { name := "room", type := .int, accessFlags := 2, slot := 36, constantValue := 0 }, { name := "written", type := .int, accessFlags := 2, slot := 37, constantValue := 0 }, { name := "full", type := .boolean, accessFlags := 2, slot := 38, constantValue := 0 }]
  methods := #[k2m0]
  instanceTypes := #[.boolean, .boolean, .long, .char, (.object "com/example/bracketeer/bracketeer/xml/MarkupScan$Part"), (.object "com/example/bracketeer/bracketeer/xml/MarkupScan$Part"), .boolean, .int, .boolean, .boolean, (.object "com/example/bracketeer/bracketeer/xml/MarkupScan$TagPlace"), .boolean, (.object "com/example/bracketeer/bracketeer/xml/TagNames"), (.object "com/example/bracketeer/bracketeer/xml/ReaderNames"), (.object "java/lang/String"), .int, (.object "com/example/bracketeer/bracketeer/xml/DocumentException"), .boolean, .long, .long, .long, .long, .boolean, .boolean, .boolean, .long, (.array .char), .int, .int, .int, .int, .int, .boolean, .int, (.array .char), .int, .int, .int, .boolean]
  staticTypes := #[.int, .int, (.object "java/lang/String"), .int, (.object "java/util/List"), (.object "java/util/List"), (.object "java/util/List")]
  resolved := Array.replicate 561 none
  statics := none }

def pool3 : Array CpInfo := pool [(1, u "java/lang/Cloneable"), (0, .class_ 1), (0, u "java/lang/Object"), (0, .class_ 3)] 3

/-- java/lang/Cloneable -/
def k3 : Class := { plain "java/lang/Cloneable" (some 0) with
  accessFlags := 1537
  interfaces := #[]
  cf := some (fileOf pool3 2 #[] #[] 1537 4 #[] #[])
  fields := #[]
  methods := #[]
  instanceTypes := #[]
  staticTypes := #[]
  resolved := Array.replicate 8 none
  statics := none }

def pool4 : Array CpInfo := pool [(1, u "java/io/Serializable"), (0, .class_ 1), (0, u "java/lang/Object"), (0, .class_ 3)] 3

/-- java/io/Serializable -/
def k4 : Class := { plain "java/io/Serializable" (some 0) with
  accessFlags := 1537
  interfaces := #[]
  cf := some (fileOf pool4 2 #[] #[] 1537 4 #[] #[])
  fields := #[]
  methods := #[]
  instanceTypes := #[]
  staticTypes := #[]
  resolved := Array.replicate 8 none
  statics := none }

/-- the primitive byte -/
def k5 : Class := { plain "byte" none with kind := .primitive 'B', accessFlags := 0x411 }
/-- [B -/
def k6 : Class := { plain "[B" (some 0) with kind := .array 5 .byte, interfaces := #[3, 4], accessFlags := 1041 }

/-- the primitive char -/
def k7 : Class := { plain "char" none with kind := .primitive 'C', accessFlags := 0x411 }
/-- [C -/
def k8 : Class := { plain "[C" (some 0) with kind := .array 7 .char, interfaces := #[3, 4], accessFlags := 1041 }

/-- the primitive int -/
def k9 : Class := { plain "int" none with kind := .primitive 'I', accessFlags := 0x411 }
/-- [I -/
def k10 : Class := { plain "[I" (some 0) with kind := .array 9 .int, interfaces := #[3, 4], accessFlags := 1041 }

def heap : Heap := #[]
def classes : Array Class := #[k0, k1, k2, k3, k4, k5, k6, k7, k8, k9, k10]
def interned : List (Array UInt16 × Addr) := []
def slotsUsed : Nat := 0
def theMethod : MethodId := ⟨1, 1⟩
def args0 : Array Value := #[.int 5, .int 6, .int 7]
def aboutOver (below : List Frame) : State where
  vm := { classes := classes, interned := interned.toArray }
  heap := heap
  slotsUsed := slotsUsed
  threads := #[{ frames := .invoking theMethod args0 :: below }]
def below0 : List Frame := [.native { method := ⟨0, 0⟩, args := #[] }]
def about1 : State := aboutOver below0
def p0 : Program := .bare "" "" ""
def e0 : Env := launch0.env 0 0 0
theorem w_frames : about1.frames = Frame.invoking theMethod args0 :: below0 := rfl
set_option maxRecDepth 65536 in
theorem w_args : argsFit about1.vm theMethod args0 = true := by decide +kernel
set_option maxRecDepth 65536 in
theorem w_heap : heapFits about1 = true := by decide +kernel
set_option maxRecDepth 65536 in
theorem w_runnable : about1.curStatus? = some .runnable := by decide +kernel
set_option maxRecDepth 65536 in
theorem w_alone : about1.alone = true := by decide +kernel
set_option maxRecDepth 65536 in
theorem w_named : about1.methodNamed? x = some theMethod := by decide +kernel
set_option maxRecDepth 65536 in
theorem w_hears : about1.hears theMethod below0 = true := by decide +kernel
set_option maxRecDepth 65536 in
theorem w_ripe : about1.ripe theMethod args0 below0 = true := by decide +kernel
theorem w_running : about1.status = .running := rfl
set_option maxRecDepth 65536 in
theorem w_room : about1.hasRoom e0.platform room_1 = true :=
  launch0.hasRoom_least _ room_1 (by decide +kernel) (by decide +kernel) (by decide +kernel) (by decide +kernel) (by decide +kernel) (by decide +kernel)
theorem allAtoms_all (ts : List Jvm.Cond) (a : Array Jvm.Value) (st : Jvm.State) : (allAtoms ts).before a st = ts.all (fun c => c.before a st) := by
  induction ts with
  | nil => rfl
  | cons c t ih =>
    show (Jvm.Cond.and c (allAtoms t)).before a st = _
    rw [Jvm.Cond.before_and, ih, List.all_cons]
def words1 : List Jvm.Cond := Jvm.Cond.code x code maxLocals ret :: tables_1
/-- a 'code' word, met by the world's own term for the bytes: nothing is compared byte by byte -/
theorem code_word {y : MethodName} {bytes : ByteArray} {mx : Nat} {rt : Option FieldType} {a : Array Value} {s : State} {m : MethodId} {meth : Method} {c : Code} (h1 : s.methodNamed? y = some m) (h2 : s.vm.method? m = some meth) (h3 : meth.code = some c) (h4 : c.code = bytes)
    (h5 : (c.maxLocals == mx && c.exceptionTable.isEmpty && decide (c.maxStack ≤ mostOperands) && decide (meth.sig.returnType = rt) && !meth.locks && decide (parseMethodDescriptor y.desc = some meth.sig)) = true) : (Jvm.Cond.code y bytes mx rt).before a s = true := by
  simp only [Bool.and_eq_true, beq_iff_eq, Bool.not_eq_true', decide_eq_true_eq] at h5
  obtain ⟨⟨⟨⟨⟨g1, g2⟩, g3⟩, g4⟩, g5⟩, g6⟩ := h5
  simp [Cond.before, Cond.holds, Cond.value, h1, h2, h3, h4, g1, g2, g3, g4, g5, g6]
def isCode : Jvm.Cond → Bool
  | .code _ _ _ _ => true
  | _ => false
theorem all_split {L : List Jvm.Cond} {P : Jvm.Cond → Bool} (h1 : L.all (fun c => isCode c || P c) = true) (h2 : ∀ c ∈ L.filter isCode, P c = true) : L.all P = true := by
  refine List.all_eq_true.mpr fun c hc => ?_
  have h := List.all_eq_true.mp h1 c hc
  rcases Bool.eq_false_or_eq_true (isCode c) with hi | hi
  · exact h2 c (List.mem_filter.mpr ⟨hc, hi⟩)
  · simpa [hi] using h
set_option maxRecDepth 65536 in
theorem w_c0 : (Jvm.Cond.code x code maxLocals ret).before args0 about1 = true := code_word (m := ⟨1, 1⟩) (meth := k1m1) (c := k1c1) (by decide +kernel) rfl rfl rfl (by decide +kernel)
set_option maxRecDepth 65536 in
theorem w_c1 : (Jvm.Cond.code ({ cls := "com/example/bracketeer/bracketeer/xml/MarkupScan", name := "endsLine", desc := "(CZZ)Z" } : Jvm.MethodName) prog_126_method_14_code (4 : Nat) (Option.some Jvm.ClassFile.FieldType.boolean)).before args0 about1 = true := code_word (m := ⟨2, 0⟩) (meth := k2m0) (c := k2c0) (by decide +kernel) rfl rfl rfl (by decide +kernel)
set_option maxRecDepth 65536 in
theorem w_c2 : (Jvm.Cond.code ({ cls := "com/example/bracketeer/bracketeer/xml/MarkupScanEndsLinePinLaw", name := "expected", desc := "(CZZ)Z" } : Jvm.MethodName) method_3_code (5 : Nat) (Option.some Jvm.ClassFile.FieldType.boolean)).before args0 about1 = true := code_word (m := ⟨1, 2⟩) (meth := k1m2) (c := k1c2) (by decide +kernel) rfl rfl rfl (by decide +kernel)
def codes1 : List Jvm.Cond := [Jvm.Cond.code x code maxLocals ret, Jvm.Cond.code ({ cls := "com/example/bracketeer/bracketeer/xml/MarkupScan", name := "endsLine", desc := "(CZZ)Z" } : Jvm.MethodName) prog_126_method_14_code (4 : Nat) (Option.some Jvm.ClassFile.FieldType.boolean), Jvm.Cond.code ({ cls := "com/example/bracketeer/bracketeer/xml/MarkupScanEndsLinePinLaw", name := "expected", desc := "(CZZ)Z" } : Jvm.MethodName) method_3_code (5 : Nat) (Option.some Jvm.ClassFile.FieldType.boolean)]
set_option maxRecDepth 65536 in
theorem codes_eq : words1.filter isCode = codes1 := rfl
theorem w_codes : ∀ c ∈ words1.filter isCode, c.before args0 about1 = true := by
  rw [codes_eq]
  intro c hc
  simp only [codes1, List.mem_cons, List.not_mem_nil, or_false] at hc
  rcases hc with rfl | rfl | rfl
  · exact w_c0
  · exact w_c1
  · exact w_c2
set_option maxRecDepth 65536 in
theorem w_t1 : words1.all (fun c => isCode c || c.before args0 about1) = true := by decide +kernel
theorem w_tables : (allAtoms (Jvm.Cond.code x code maxLocals ret :: tables_1)).before args0 about1 = true := by
  rw [allAtoms_all]
  show words1.all (fun c => c.before args0 about1) = true
  refine all_split ?_ w_codes
  rw [w_t1]
set_option maxRecDepth 65536 in
theorem w_case : (Jvm.Cond.and given_1 narrow_1).before args0 about1 = true := by decide +kernel
theorem w_applies : (headSpec (Jvm.Cond.code x code maxLocals ret :: tables_1) room_1).applies x e0.platform about1 = true :=
  (Spec.applies_iff w_frames).mpr ⟨w_running, w_runnable, w_alone, w_named, w_hears, w_ripe, w_room, w_tables⟩
theorem atStart : AtStart classFile x code maxLocals ret World_1 tables_1 room_1 Calls_1 rest_1 Pre_1 launch0 p0 e0 about1 theMethod args0 below0 :=
  ⟨lists_1, trivial, launch0.admits_env _ _ _, launch0.least_env, fairChoices_fair.cas, fairChoices_fair.clock, w_frames, w_args, w_heap, w_applies, trivial, trivial, w_case⟩
end start1
theorem witness_1 : WitnessClaimed_1 := ⟨start1.p0, start1.e0, start1.about1, start1.theMethod, start1.args0, start1.below0, start1.atStart⟩
end Jvm.Pilot.@@N@@
